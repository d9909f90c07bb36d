import PyProof.Rows.All
import Wide.All
import OpenK.AllK
import Wide.FinOn
import KE.KNest
import KE.KLam
import KE.KStateDown
import KE.KRevIter
import PyProof.WalksEnum
import PyProof.ZipIter
import PyProof.Rows.TupAssign
import PyProof.Rows.PlainNoArg
import PyProof.ListNew
import PyProof.JoinWalk
import KE.KTypeName
import PyProof.Rows.SetFrom
import PyProof.IsiH_set
import PyProof.Rows.SeqIn
import PyProof.P3In
import PyProof.EqAt
import PyProof.MeetsStr2
import KE.KRevSl
import PyProof.SliceMore
import PyProof.StrBlockI
import PyProof.StrLawsIn
import PyProof.StrLawsFirst
import KE.KWords
import OpenK.KCls
import PySem.Challenge.RW_wy0041_01
set_option Elab.async false
set_option tactic.hygienic false
set_option compiler.extract_closed false
set_option genInjectivity false
set_option genSizeOf false
set_option genSizeOfSpec false
set_option maxRecDepth 100000
set_option linter.unusedVariables false
set_option maxHeartbeats 8000000
open PySem PySem.W PyProof.Rows PySem.Spec PySem.Calls
namespace Mine
abbrev tkN (k : Lean.SyntaxNodeKind) (xs : List Lean.Syntax) : Lean.Syntax := .node .none k xs.toArray
abbrev tkL (s : String) : Lean.Syntax := .atom .none s
abbrev tkI (n : Lean.Name) : Lean.Syntax := .ident .none "x".toRawSubstring n []
def tkS (xs : List Lean.Syntax) : Lean.Syntax := tkN `Lean.Parser.Tactic.tacticSeq [tkN `Lean.Parser.Tactic.tacticSeq1Indented [tkN `null xs]]
def tkR : Lean.Syntax := tkN `Lean.Parser.Tactic.tacticRfl [tkL "rfl"]
def tkM (ns : List Lean.Name) : Lean.Syntax := tkN `Lean.Parser.Tactic.intro [tkL "intro", tkN `null (ns.map tkI)]
def tkE (x : Lean.Syntax) : Lean.Syntax := tkN `Lean.Parser.Tactic.exact [tkL "exact", x]
def tkP (f x : Lean.Syntax) : Lean.Syntax := tkN `Lean.Parser.Term.app [f, tkN `null [x]]
def tkC (xs : List Lean.Syntax) : Lean.Syntax := tkN `Lean.Parser.Term.anonymousCtor [tkL "⟨", tkN `null (xs.intersperse (tkL ",")), tkL "⟩"]
def tkK (n : Lean.Name) : Lean.Syntax := tkN `Lean.Parser.Tactic.cases [tkL "cases", tkN `null [tkN `Lean.Parser.Tactic.elimTarget [tkN `null [], tkI n]], tkN `null [], tkN `null []]
def tacR : Lean.Syntax := tkS [tkR]
def tacD : Lean.Syntax := tkS [tkN `Lean.Parser.Tactic.decide [tkL "decide", tkN `Lean.Parser.Tactic.optConfig [tkN `null []]]]
def tacI1 : Lean.Syntax := tkS [tkM [`a], tkL ";", tkR]
def tacI2 : Lean.Syntax := tkS [tkM [`a, `b], tkL ";", tkR]
def tacI3 : Lean.Syntax := tkS [tkM [`a, `b, `c], tkL ";", tkR]
def tacU : Lean.Syntax := tkS [tkM [`a], tkL ";", tkN `Lean.Parser.Tactic.withUnfoldingAll [tkL "with_unfolding_all", tacR]]
def tacS : Lean.Syntax := tkS [tkN `Lean.Parser.Tactic.first [tkL "first", tkN `null [tkN `group [tkL "|", tkS [tkE (tkP (tkI `Or.inl) (tkI `rfl))]], tkN `group [tkL "|", tkS [tkE (tkP (tkI `Or.inr) (tkC [tkI `rfl, tkI `rfl]))]]]]]
def tacB : Lean.Syntax := tkS [tkE (tkP (tkI `Nat.le_of_ble_eq_true) (tkI `rfl))]
def tacE : Lean.Syntax := tkS [tkE (tkC [tkN `Lean.Parser.Term.hole [tkL "_"], tkN `Lean.Parser.Term.hole [tkL "_"], tkI `rfl, tkI `rfl])]
def tacT : Lean.Syntax := tkS [tkE (tkC [tkI `rfl, tkI `rfl, tkI `rfl])]
def tacC : Lean.Syntax := tkS [tkM [`env, `e], tkL ";", tkK `env, tkL ";", tkK `e, tkL ";", tkR]
def tkW (x : Lean.Syntax) : Lean.Syntax := tkS [x, tkL ";", tkN `Lean.Parser.Tactic.rwSeq [tkL "rw", tkN `Lean.Parser.Tactic.optConfig [tkN `null []], tkN `Lean.Parser.Tactic.rwRuleSeq [tkL "[", tkN `null [tkN `Lean.Parser.Tactic.rwRule [tkN `null [], tkI `typeLookup_type], tkL ",", tkN `Lean.Parser.Tactic.rwRule [tkN `null [], tkI `builtinLookup_eq_fast]], tkL "]"], tkN `null []], tkL ";", tkN `tacticKernel_rfl [tkL "kernel_rfl"]]
def tkU (n : Lean.Name) : Lean.Syntax := tkN `Lean.Parser.Tactic.unfold [tkL "unfold", tkN `null [tkI n], tkN `null []]
def tacN : Lean.Syntax := tkW (tkU `lB)
def tacF : Lean.Syntax := tkW (tkU `NoFn)
def tacM : Lean.Syntax := tkW (tkN `Lean.Parser.Tactic.refine [tkL "refine", tkC [tkI `Option.none, tkN `Lean.Parser.Term.syntheticHole [tkL "?", tkL "_"]]])
def tacC3 : Lean.Syntax := tkS [tkM [`env, `line, `e], tkL ";", tkK `env, tkL ";", tkK `e, tkL ";", tkR]
inductive D where
 | none
 | bool (b : Bool)
 | int (i : Int)
 | str (s : Str)
 | list (ds : List D)
 | tup (ds : List D)
 | dict (kvs : List (Str × D))
 | obj (C : Addr) (fs : List (Str × D))
 | rule (tag : Nat) (frees : List (Str × D)) (verdict : D)
 | own (a : Addr)
 | objO (C dA : Addr)
 | ns (fs : List (Str × D))
 | clo (tag : Nat) (cs : List (Str × Addr))
 deriving Inhabited
theorem D.str.inj {a b : Str} (h : D.str a = .str b) : a = b := by cases h; rfl
theorem D.list.inj {a b : List D} (h : D.list a = .list b) : a = b := by cases h; rfl
theorem D.tup.inj {a b : List D} (h : D.tup a = .tup b) : a = b := by cases h; rfl
theorem D.obj.inj {C C' : Addr} {a b : List (Str × D)} (h : D.obj C a = .obj C' b) : C = C' /\ a = b := by cases h; exact ⟨rfl, rfl⟩
theorem D.rule.inj {t t' : Nat} {a b : List (Str × D)} {v w : D} (h : D.rule t a v = .rule t' b w) : t = t' /\ a = b /\ v = w := by cases h; exact ⟨rfl, rfl, rfl⟩
noncomputable abbrev aM (vs : List Value) (n : Nat) : Obj := { cls := .type "list", data := .seq vs.toArray n }
noncomputable abbrev tupObj (vs : List Value) (n : Nat) : Obj := { cls := .type "tuple", data := .seq vs.toArray n }
noncomputable def bM (o : Obj) : Prop := ∀ vs, o.data = .fields vs -> ∀ q t, vs[1]? ≠ some (.str q t)
structure Cfg where
 prog : Program
 w : World
 σ : Shared
 hB : Heap
 tabs : List (Addr × Addr)
 qn : Addr -> Nat -> Nat -> Str
 tabCode : ∀ q ∈ tabs, CodeHd hB q.1 q.2
 tabHid : ∀ q ∈ tabs, hB.get? q.2 = none
 mg : Str -> Option Value
 mb : Str -> Option Value
 bmain : ∀ q ∈ tabs, hB.BuiltinsAt mg q.2
 g : hB.Ns mainGlobals mg
 b : hB.Ns builtinsNs mb
 nolimit : hB.NoLimit
 builtins : ∀ x : Str, x ≠ "__name__" -> mb x = bootBuiltins x
 lam : Nat -> Arguments × Expr × Scope
 clo : Nat -> Arguments × List Stmt × Scope
 noGlob : ∀ x ∈ ([("range" : Str), "len", "list", "filter", "set", "map", "str", "max", "reversed", "divmod", "enumerate", "zip", "sum", "abs", "repr", "sorted", "tuple"] : List Str), mg x = none
noncomputable def Cfg.Tb (C : Cfg) (a : Addr) : Prop := ∃ q ∈ C.tabs, q.2 = a
noncomputable def TabIs (C : Cfg) (h : Heap) (P : Addr) : Prop := ∃ ps, h.get? P = some (tabObj ps) /\ TriplesOk ps.toList /\ ∀ pos cv, codeAmong pos ps.toList = some cv -> ∃ c', cv = .ref c' /\ ¬ C.Tb c' /\ h.CodeRec (.ref c') (C.qn P pos.line pos.col)
noncomputable def Cfg.TabOk (C : Cfg) (h : Heap) : Prop := ∀ q ∈ C.tabs, TabIs C h q.2
theorem Cfg.tabHas (C : Cfg) (h : Heap) (x : C.TabOk h) (b : Addr) (t : C.Tb b) : ∃ vs, h.get? b = some { cls := .none, data := .fields vs } := by
 obtain ⟨q, hq, rfl⟩ := t
 obtain ⟨ps, e, _⟩ := x q hq
 exact ⟨ps, e⟩
theorem TabIs.keeps {C : Cfg} {h h' : Heap} {P : Addr} (x : TabIs C h P) (k : ∀ b o, h.get? b = some o -> h'.get? b = some o) : TabIs C h' P := by
 obtain ⟨ps, e, t, f⟩ := x
 refine ⟨ps, k _ _ e, t, fun pos cv q => ?_⟩
 obtain ⟨c', a, b, r⟩ := f pos cv q
 exact ⟨c', a, b, r.keeps k⟩
theorem Cfg.tabMono (C : Cfg) (h h' : Heap) (x : C.TabOk h) (k : ∀ b o, h.get? b = some o -> h'.get? b = some o) : C.TabOk h' := fun q hq => (x q hq).keeps k
theorem Cfg.tabBut (C : Cfg) (S : Addr -> Prop) (h h' : Heap) (x : C.TabOk h) (n : ∀ a, S a -> ¬ C.Tb a /\ ∀ o, h.get? a = some o -> bM o) (k : ∀ b o, h.get? b = some o -> ¬ S b -> h'.get? b = some o) : C.TabOk h' := fun q hq => by
 obtain ⟨ps, e, t, f⟩ := x q hq
 refine ⟨ps, k _ _ e fun s => (n _ s).1 ⟨q, hq, rfl⟩, t, fun pos cv w => ?_⟩
 obtain ⟨c', a, b, c, oc, vs, u, e1, e2, e3, e4⟩ := f pos cv w
 refine ⟨c', a, b, c, oc, vs, u, e1, k _ _ e2 fun s => ?_, e3, e4⟩
 exact (n _ s).2 _ e2 vs e3 _ _ e4
structure LamFd (C : Cfg) (tag : Nat) (cs : List (Str × Addr)) (c : Addr) (fd : FuncData) : Prop where
 l1 : fd.params = (C.lam tag).1
 l2 : fd.body = .expr (C.lam tag).2.1
 l3 : fd.scope = (C.lam tag).2.2
 l4 : fd.globals = mainGlobals
 l5 : fd.builtins = builtinsNs
 l6 : fd.closure = cs
 l7 : fd.defaults = .none
 l8 : fd.kwdefaults = .none
 l9 : fd.code = .ref c
structure CloFd (C : Cfg) (tag : Nat) (cs : List (Str × Addr)) (c : Addr) (fd : FuncData) : Prop where
 l1 : fd.params = (C.clo tag).1
 l2 : fd.body = .stmts (C.clo tag).2.1
 l3 : fd.scope = (C.clo tag).2.2
 l4 : fd.globals = mainGlobals
 l5 : fd.builtins = builtinsNs
 l6 : fd.closure = cs
 l7 : fd.defaults = .none
 l8 : fd.kwdefaults = .none
 l9 : fd.code = .ref c
variable (C : Cfg)
noncomputable abbrev sh (h : Heap) (tk : Tok) : Shared := { C.σ with heap := h, toks := tk }
noncomputable abbrev md : Model := model C.prog C.w
inductive f9 (W : Addr -> Prop) (h : Heap) (a dA Cl : Addr) : Prop
 | mk {o : Obj} (e : h.get? a = some o) (c1 : o.cls = .ref Cl) (c2 : ∀ c, o.data ≠ .cls c) (c3 : o.dict = some dA) (c4 : dA ≠ a) (n : ¬ W a) : f9 W h a dA Cl
inductive jR (W : Addr -> Prop) (h : Heap) (a : Addr) (tag : Nat) (vv : Value) (cs : List (Str × Addr)) : Prop
 | mk {dA f c : Addr} {o fo co : Obj} {fd ffd : FuncData} {m : Str -> Option Value} {cvs : Array Value} {t : Tok} (e1 : h.get? a = some o) (c1 : o.cls = .type "function") (c2 : o.data = .func fd) (c3 : o.dict = some dA) (e2 : h.Ns1 dA m)
   (m1 : m "applies_to" = some (.ref f)) (m2 : m "allowance" = some vv) (e3 : h.get? f = some fo) (c4 : fo.cls = .type "function") (c5 : fo.data = .func ffd) (c6 : LamFd C tag cs c ffd) (e4 : h.get? c = some co) (c7 : co.data = .fields cvs)
   (c8 : cvs[1]? = some (.str ffd.qualname t)) (n1 : ¬ W a) (n2 : ¬ W dA) (n3 : ¬ W f) (n4 : ¬ W c) : jR W h a tag vv cs
inductive m6 (W : Addr -> Prop) (h : Heap) (a : Addr) (tag : Nat) (cs : List (Str × Addr)) : Prop
 | mk {c : Addr} {o co : Obj} {fd : FuncData} {cvs : Array Value} {t : Tok} (e1 : h.get? a = some o) (c1 : o.cls = .type "function") (c2 : o.data = .func fd) (c3 : CloFd C tag cs c fd) (e2 : h.get? c = some co) (c4 : co.data = .fields cvs)
   (c5 : cvs[1]? = some (.str fd.qualname t)) (n1 : ¬ W a) (n2 : ¬ W c) : m6 W h a tag cs
mutual
inductive Val (W : Addr -> Prop) (h : Heap) : Value -> D -> Prop
 | none : Val W h .none .none
 | bool (b : Bool) : Val W h (.bool b) (.bool b)
 | int (i : Int) (t : Tok) : Val W h (.int i t) (.int i)
 | str (s : Str) (t : Tok) : Val W h (.str s t) (.str s)
 | list {a : Addr} {vs : List Value} {n : Nat} {ds : List D} : h.get? a = some (aM vs n) -> ¬ W a -> ds.length <= 1048576 -> ao W h vs ds -> Val W h (.ref a) (.list ds)
 | tup {a : Addr} {vs : List Value} {ds : List D} : h.IsTuple a vs.toArray -> ¬ W a -> ds.length <= 1048576 -> ao W h vs ds -> Val W h (.ref a) (.tup ds)
 | dict {a : Addr} {kvs : List (Str × Value)} {ds : List (Str × D)} : h.DictOf (strKind C.prog C.w) a kvs -> a ≠ sysModules -> ¬ W a -> ds.length <= 1048576 -> aV W h kvs ds -> Val W h (.ref a) (.dict ds)
 | obj {a dA Cl : Addr} {m : Str -> Option Value} {fs : List (Str × D)} : f9 W h a dA Cl -> h.Ns1 dA m -> ¬ W dA -> dD W h m fs -> (∀ x, fs.lookup x = Option.none -> m x = Option.none) -> Val W h (.ref a) (.obj Cl fs)
 | rule {a : Addr} {tag : Nat} {frees : List (Str × D)} {vd : D} {vv : Value} {cs : List (Str × Addr)} : jR C W h a tag vv cs -> Val W h vv vd -> cu W h cs frees -> cs.map (·.1) = frees.map (·.1) -> (cs.map (·.2)).Nodup -> Val W h (.ref a) (.rule tag frees vd)
 | clo {a : Addr} {tag : Nat} {cs : List (Str × Addr)} : m6 C W h a tag cs -> Val W h (.ref a) (.clo tag cs)
 | objO {a dA Cl : Addr} : f9 W h a dA Cl -> Val W h (.ref a) (.objO Cl dA)
inductive ao (W : Addr -> Prop) (h : Heap) : List Value -> List D -> Prop
 | nil : ao W h [] []
 | cons {v : Value} {vs : List Value} {d : D} {ds : List D} : Val W h v d -> ao W h vs ds -> ao W h (v :: vs) (d :: ds)
inductive aV (W : Addr -> Prop) (h : Heap) : List (Str × Value) -> List (Str × D) -> Prop
 | nil : aV W h [] []
 | cons {k : Str} {v : Value} {vs : List (Str × Value)} {d : D} {ds : List (Str × D)} : Val W h v d -> aV W h vs ds -> aV W h ((k, v) :: vs) ((k, d) :: ds)
inductive dD (W : Addr -> Prop) (h : Heap) : (Str -> Option Value) -> List (Str × D) -> Prop
 | nil {m : Str -> Option Value} : dD W h m []
 | cons {m : Str -> Option Value} {x : Str} {v : Value} {d : D} {ds : List (Str × D)} : m x = some v -> Val W h v d -> dD W h m ds -> dD W h m ((x, d) :: ds)
inductive cu (W : Addr -> Prop) (h : Heap) : List (Str × Addr) -> List (Str × D) -> Prop
 | nil {cs : List (Str × Addr)} : cu W h cs []
 | cons {cs : List (Str × Addr)} {x : Str} {c : Addr} {v : Value} {d : D} {ds : List (Str × D)} : cs.lookup x = some c -> h.IsCell c (some v) -> ¬ W c -> Val W h v d -> cu W h cs ds -> cu W h cs ((x, d) :: ds)
end
noncomputable def Kp (S : Addr -> Prop) (h h' : Heap) : Prop := ∀ b o, h.get? b = some o -> ¬ S b -> h'.get? b = some o
variable {C}
theorem jT {S : Addr -> Prop} {h h' : Heap} {a : Addr} {m : Str -> Option Value} (k : Kp S h h') (ha : ¬ S a) (x : h.Ns1 a m) : h'.Ns1 a m := x.at fun o e => k a o e ha
theorem jA {S : Addr -> Prop} {h h' : Heap} {a : Addr} {m : Str -> Option Value} (k : Kp S h h') (ha : ¬ S a) (x : h.Ns a m) : h'.Ns a m := x.at' fun o e => k a o e ha
theorem bZ {S : Addr -> Prop} {h h' : Heap} {a : Addr} {v : Option Value} (k : Kp S h h') (ha : ¬ S a) (x : h.IsCell a v) : h'.IsCell a v := by obtain ⟨o, e, d⟩ := x; exact ⟨o, k a o e ha, d⟩
theorem fC {S : Addr -> Prop} {h h' : Heap} {a : Addr} {vs : Array Value} (k : Kp S h h') (ha : ¬ S a) (x : h.IsTuple a vs) : h'.IsTuple a vs := by obtain ⟨o, e, r⟩ := x; exact ⟨o, k a o e ha, r⟩
theorem dq {S : Addr -> Prop} {h h' : Heap} {a : Addr} {kvs : List (Str × Value)} (k : Kp S h h') (ha : ¬ S a) (x : h.DictOf (strKind C.prog C.w) a kvs) : h'.DictOf (strKind C.prog C.w) a kvs :=
 by obtain ⟨o, es, ep, e, r⟩ := x; exact ⟨o, es, ep, k a o e ha, r⟩
section
variable {S W W' : Addr -> Prop} {h h' : Heap} (k : Kp S h h') (hs : ∀ a, S a -> W a) (hw : ∀ a o, h.get? a = some o -> W' a -> W a)
include k hs hw
theorem f9.kp {a dA Cl : Addr} : f9 W h a dA Cl -> f9 W' h' a dA Cl
 | .mk e c1 c2 c3 c4 n => .mk (k _ _ e fun q => n (hs _ q)) c1 c2 c3 c4 fun q => n (hw _ _ e q)
theorem jR.kp {a : Addr} {tag : Nat} {vv : Value} {cs : List (Str × Addr)} : jR C W h a tag vv cs -> jR C W' h' a tag vv cs
 | .mk e1 c1 c2 c3 e2 m1 m2 e3 c4 c5 c6 e4 c7 c8 n1 n2 n3 n4 =>
  .mk (k _ _ e1 fun q => n1 (hs _ q)) c1 c2 c3 (jT k (fun q => n2 (hs _ q)) e2) m1 m2 (k _ _ e3 fun q => n3 (hs _ q)) c4 c5 c6 (k _ _ e4 fun q => n4 (hs _ q)) c7 c8
   (fun q => n1 (hw _ _ e1 q)) (fun q => n2 (by obtain ⟨_, _, _, e', _⟩ := e2; exact hw _ _ e' q)) (fun q => n3 (hw _ _ e3 q)) (fun q => n4 (hw _ _ e4 q))
theorem m6.kp {a : Addr} {tag : Nat} {cs : List (Str × Addr)} : m6 C W h a tag cs -> m6 C W' h' a tag cs
 | .mk e1 c1 c2 c3 e2 c4 c5 n1 n2 => .mk (k _ _ e1 fun q => n1 (hs _ q)) c1 c2 c3 (k _ _ e2 fun q => n2 (hs _ q)) c4 c5 (fun q => n1 (hw _ _ e1 q)) fun q => n2 (hw _ _ e2 q)
end
theorem Val.kp {S W W' : Addr -> Prop} {h h' : Heap} (k : Kp S h h') (hs : ∀ a, S a -> W a) (hw : ∀ a o, h.get? a = some o -> W' a -> W a) {v : Value} {d : D} (x : Val C W h v d) : Val C W' h' v d :=
 Val.rec (motive_1 := fun v d _ => Val C W' h' v d) (motive_2 := fun vs ds _ => ao C W' h' vs ds) (motive_3 := fun vs ds _ => aV C W' h' vs ds) (motive_4 := fun m ds _ => dD C W' h' m ds) (motive_5 := fun cs ds _ => cu C W' h' cs ds)
  .none .bool .int .str (fun e n z _ r => .list (k _ _ e fun q => n (hs _ q)) (fun q => n (hw _ _ e q)) z r) (fun e n z _ r => .tup (fC k (fun q => n (hs _ q)) e) (fun q => e.elim fun _ e' => n (hw _ _ e'.1 q)) z r)
  (fun e m n z _ r => .dict (dq k (fun q => n (hs _ q)) e) m (fun q => e.elim fun _ e => e.elim fun _ e => e.elim fun _ e' => n (hw _ _ e'.1 q)) z r) (fun e c5 n2 _ ex r => .obj (e.kp k hs hw) (jT k (fun q => n2 (hs _ q)) c5) (fun q => c5.elim fun _ e => e.elim fun _ e => e.elim fun _ e' => n2 (hw _ _ e'.1 q)) r ex)
  (fun e _ _ y1 y2 v r => .rule (e.kp k hs hw) v r y1 y2) (fun e => .clo (e.kp k hs hw)) (fun e => .objO (e.kp k hs hw)) .nil (fun _ _ v r => .cons v r) .nil (fun _ _ v r => .cons v r) .nil (fun e _ _ v r => .cons e v r) .nil
  (fun e c n _ _ v r => .cons e (bZ k (fun q => n (hs _ q)) c) (fun q => c.elim fun _ e' => n (hw _ _ e'.1 q)) v r) x
theorem ao.kp {S W W' : Addr -> Prop} {h h' : Heap} (k : Kp S h h') (hs : ∀ a, S a -> W a) (hw : ∀ a o, h.get? a = some o -> W' a -> W a) {vs : List Value} {ds : List D} (x : ao C W h vs ds) : ao C W' h' vs ds :=
 ao.rec (motive_1 := fun v d _ => Val C W' h' v d) (motive_2 := fun vs ds _ => ao C W' h' vs ds) (motive_3 := fun vs ds _ => aV C W' h' vs ds) (motive_4 := fun m ds _ => dD C W' h' m ds) (motive_5 := fun cs ds _ => cu C W' h' cs ds)
  .none .bool .int .str (fun e n z _ r => .list (k _ _ e fun q => n (hs _ q)) (fun q => n (hw _ _ e q)) z r) (fun e n z _ r => .tup (fC k (fun q => n (hs _ q)) e) (fun q => e.elim fun _ e' => n (hw _ _ e'.1 q)) z r)
  (fun e m n z _ r => .dict (dq k (fun q => n (hs _ q)) e) m (fun q => e.elim fun _ e => e.elim fun _ e => e.elim fun _ e' => n (hw _ _ e'.1 q)) z r) (fun e c5 n2 _ ex r => .obj (e.kp k hs hw) (jT k (fun q => n2 (hs _ q)) c5) (fun q => c5.elim fun _ e => e.elim fun _ e => e.elim fun _ e' => n2 (hw _ _ e'.1 q)) r ex)
  (fun e _ _ y1 y2 v r => .rule (e.kp k hs hw) v r y1 y2) (fun e => .clo (e.kp k hs hw)) (fun e => .objO (e.kp k hs hw)) .nil (fun _ _ v r => .cons v r) .nil (fun _ _ v r => .cons v r) .nil (fun e _ _ v r => .cons e v r) .nil
  (fun e c n _ _ v r => .cons e (bZ k (fun q => n (hs _ q)) c) (fun q => c.elim fun _ e' => n (hw _ _ e'.1 q)) v r) x
theorem aV.kp {S W W' : Addr -> Prop} {h h' : Heap} (k : Kp S h h') (hs : ∀ a, S a -> W a) (hw : ∀ a o, h.get? a = some o -> W' a -> W a) {vs : List (Str × Value)} {ds : List (Str × D)} (x : aV C W h vs ds) : aV C W' h' vs ds :=
 aV.rec (motive_1 := fun v d _ => Val C W' h' v d) (motive_2 := fun vs ds _ => ao C W' h' vs ds) (motive_3 := fun vs ds _ => aV C W' h' vs ds) (motive_4 := fun m ds _ => dD C W' h' m ds) (motive_5 := fun cs ds _ => cu C W' h' cs ds)
  .none .bool .int .str (fun e n z _ r => .list (k _ _ e fun q => n (hs _ q)) (fun q => n (hw _ _ e q)) z r) (fun e n z _ r => .tup (fC k (fun q => n (hs _ q)) e) (fun q => e.elim fun _ e' => n (hw _ _ e'.1 q)) z r)
  (fun e m n z _ r => .dict (dq k (fun q => n (hs _ q)) e) m (fun q => e.elim fun _ e => e.elim fun _ e => e.elim fun _ e' => n (hw _ _ e'.1 q)) z r) (fun e c5 n2 _ ex r => .obj (e.kp k hs hw) (jT k (fun q => n2 (hs _ q)) c5) (fun q => c5.elim fun _ e => e.elim fun _ e => e.elim fun _ e' => n2 (hw _ _ e'.1 q)) r ex)
  (fun e _ _ y1 y2 v r => .rule (e.kp k hs hw) v r y1 y2) (fun e => .clo (e.kp k hs hw)) (fun e => .objO (e.kp k hs hw)) .nil (fun _ _ v r => .cons v r) .nil (fun _ _ v r => .cons v r) .nil (fun e _ _ v r => .cons e v r) .nil
  (fun e c n _ _ v r => .cons e (bZ k (fun q => n (hs _ q)) c) (fun q => c.elim fun _ e' => n (hw _ _ e'.1 q)) v r) x
theorem cu.kp {S W W' : Addr -> Prop} {h h' : Heap} (k : Kp S h h') (hs : ∀ a, S a -> W a) (hw : ∀ a o, h.get? a = some o -> W' a -> W a) {cs : List (Str × Addr)} {ds : List (Str × D)} (x : cu C W h cs ds) : cu C W' h' cs ds :=
 cu.rec (motive_1 := fun v d _ => Val C W' h' v d) (motive_2 := fun vs ds _ => ao C W' h' vs ds) (motive_3 := fun vs ds _ => aV C W' h' vs ds) (motive_4 := fun m ds _ => dD C W' h' m ds) (motive_5 := fun cs ds _ => cu C W' h' cs ds)
  .none .bool .int .str (fun e n z _ r => .list (k _ _ e fun q => n (hs _ q)) (fun q => n (hw _ _ e q)) z r) (fun e n z _ r => .tup (fC k (fun q => n (hs _ q)) e) (fun q => e.elim fun _ e' => n (hw _ _ e'.1 q)) z r)
  (fun e m n z _ r => .dict (dq k (fun q => n (hs _ q)) e) m (fun q => e.elim fun _ e => e.elim fun _ e => e.elim fun _ e' => n (hw _ _ e'.1 q)) z r) (fun e c5 n2 _ ex r => .obj (e.kp k hs hw) (jT k (fun q => n2 (hs _ q)) c5) (fun q => c5.elim fun _ e => e.elim fun _ e => e.elim fun _ e' => n2 (hw _ _ e'.1 q)) r ex)
  (fun e _ _ y1 y2 v r => .rule (e.kp k hs hw) v r y1 y2) (fun e => .clo (e.kp k hs hw)) (fun e => .objO (e.kp k hs hw)) .nil (fun _ _ v r => .cons v r) .nil (fun _ _ v r => .cons v r) .nil (fun e _ _ v r => .cons e v r) .nil
  (fun e c n _ _ v r => .cons e (bZ k (fun q => n (hs _ q)) c) (fun q => c.elim fun _ e' => n (hw _ _ e'.1 q)) v r) x
theorem aV.ind {W : Addr -> Prop} {h : Heap} {P : List (Str × Value) -> List (Str × D) -> Prop} (n : P [] []) (c : ∀ {k : Str} {v : Value} {vs : List (Str × Value)} {d : D} {ds : List (Str × D)}, Val C W h v d -> aV C W h vs ds -> P vs ds -> P ((k, v) :: vs) ((k, d) :: ds))
  {vs : List (Str × Value)} {ds : List (Str × D)} (z : aV C W h vs ds) : P vs ds := aV.rec (motive_1 := fun _ _ _ => True) (motive_2 := fun _ _ _ => True) (motive_3 := fun a b _ => P a b) (motive_4 := fun _ _ _ => True) (motive_5 := fun _ _ _ => True) trivial (fun _ => trivial) (fun _ _ => trivial) (fun _ _ => trivial) (fun _ _ _ _ _ => trivial) (fun _ _ _ _ _ => trivial) (fun _ _ _ _ _ _ => trivial) (fun _ _ _ _ _ _ => trivial) (fun _ _ _ _ _ _ _ => trivial) (fun _ => trivial) (fun _ => trivial) trivial (fun _ _ _ _ => trivial) n (fun a b _ r => c a b r) trivial (fun _ _ _ _ _ => trivial) trivial (fun _ _ _ _ _ _ _ => trivial) z
theorem dD.ind {W : Addr -> Prop} {h : Heap} {P : (Str -> Option Value) -> List (Str × D) -> Prop} (n : ∀ {m : Str -> Option Value}, P m []) (c : ∀ {m : Str -> Option Value} {x : Str} {v : Value} {d : D} {ds : List (Str × D)}, m x = some v -> Val C W h v d -> dD C W h m ds -> P m ds -> P m ((x, d) :: ds))
  {m : Str -> Option Value} {ds : List (Str × D)} (z : dD C W h m ds) : P m ds := dD.rec (motive_1 := fun _ _ _ => True) (motive_2 := fun _ _ _ => True) (motive_3 := fun _ _ _ => True) (motive_4 := fun a b _ => P a b) (motive_5 := fun _ _ _ => True) trivial (fun _ => trivial) (fun _ _ => trivial) (fun _ _ => trivial) (fun _ _ _ _ _ => trivial) (fun _ _ _ _ _ => trivial) (fun _ _ _ _ _ _ => trivial) (fun _ _ _ _ _ _ => trivial) (fun _ _ _ _ _ _ _ => trivial) (fun _ => trivial) (fun _ => trivial) trivial (fun _ _ _ _ => trivial) trivial (fun _ _ _ _ => trivial) n (fun e a b _ r => c e a b r) trivial (fun _ _ _ _ _ _ _ => trivial) z
theorem cu.ind {W : Addr -> Prop} {h : Heap} {P : List (Str × Addr) -> List (Str × D) -> Prop} (n : ∀ {cs : List (Str × Addr)}, P cs []) (c : ∀ {cs : List (Str × Addr)} {x : Str} {c : Addr} {v : Value} {d : D} {ds : List (Str × D)}, cs.lookup x = some c -> h.IsCell c (some v) -> ¬ W c -> Val C W h v d -> cu C W h cs ds -> P cs ds -> P cs ((x, d) :: ds))
  {cs : List (Str × Addr)} {ds : List (Str × D)} (z : cu C W h cs ds) : P cs ds := cu.rec (motive_1 := fun _ _ _ => True) (motive_2 := fun _ _ _ => True) (motive_3 := fun _ _ _ => True) (motive_4 := fun _ _ _ => True) (motive_5 := fun a b _ => P a b) trivial (fun _ => trivial) (fun _ _ => trivial) (fun _ _ => trivial) (fun _ _ _ _ _ => trivial) (fun _ _ _ _ _ => trivial) (fun _ _ _ _ _ _ => trivial) (fun _ _ _ _ _ _ => trivial) (fun _ _ _ _ _ _ _ => trivial) (fun _ => trivial) (fun _ => trivial) trivial (fun _ _ _ _ => trivial) trivial (fun _ _ _ _ => trivial) trivial (fun _ _ _ _ _ => trivial) n (fun e i w a b _ r => c e i w a b r) z
theorem bw {α : Type} {x : Option α} {y : α} (e : x = some y) : x ≠ Option.none := by rw [e]; intro h; cases h
theorem eG {α : Type} {x : α} {G : Prop} (e : Option.none = some x) : G := by cases e
theorem cR {α : Type} {a : α} {G : Prop} (h : a ∈ ([] : List α)) : G := (List.not_mem_nil h).elim
theorem nc_func {o : Obj} {f : FuncData} (h : o.data = .func f) : bM o := fun vs e => by rw [h] at e; cases e
theorem Kp.refl {S : Addr -> Prop} (h : Heap) : Kp S h h := fun _ _ e _ => e
theorem Kp.trans {S : Addr -> Prop} {h h' h'' : Heap} (x : Kp S h h') (y : Kp S h' h'') : Kp S h h'' := fun b o e n => y b o (x b o e n) n
theorem Kp.of_all {S : Addr -> Prop} {h h' : Heap} (x : ∀ b o, h.get? b = some o -> h'.get? b = some o) : Kp S h h' := fun b o e _ => x b o e
theorem Kp.mono {S S' : Addr -> Prop} {h h' : Heap} (x : Kp S h h') (hs : ∀ a, S a -> S' a) : Kp S' h h' := fun b o e n => x b o e fun q => n (hs b q)
theorem Val.keep {S W : Addr -> Prop} {h h' : Heap} {v : Value} {d : D} (x : Val C W h v d) (k : Kp S h h') (hs : ∀ a, S a -> W a) : Val C W h' v d := x.kp k hs fun _ _ _ q => q
theorem ao.keep {S W : Addr -> Prop} {h h' : Heap} {v : List Value} {d : List D} (x : ao C W h v d) (k : Kp S h h') (hs : ∀ a, S a -> W a) : ao C W h' v d := x.kp k hs fun _ _ _ q => q
theorem ao.nil_inv {W : Addr -> Prop} {h : Heap} {vs : List Value} (z : ao C W h vs []) : vs = [] := by cases z; rfl
theorem ao.cons_inv {W : Addr -> Prop} {h : Heap} {vs : List Value} {d : D} {ds : List D} (z : ao C W h vs (d :: ds)) : ∃ v us, vs = v :: us /\ Val C W h v d /\ ao C W h us ds := by cases z with | cons a b => exact ⟨_, _, rfl, a, b⟩
theorem ao.length {W : Addr -> Prop} {h : Heap} {vs : List Value} {ds : List D} (z : ao C W h vs ds) : vs.length = ds.length := by
 induction ds generalizing vs with
 | nil => rw [z.nil_inv]; rfl
 | cons d ds ih => obtain ⟨v, us, rfl, a, b⟩ := z.cons_inv; exact congrArg (· + 1) (ih b)
theorem ao.append {W : Addr -> Prop} {h : Heap} {vs us : List Value} {ds es : List D} (z : ao C W h vs ds) (k : ao C W h us es) : ao C W h (vs ++ us) (ds ++ es) := by
 induction ds generalizing vs with
 | nil => rw [z.nil_inv]; exact k
 | cons d ds ih => obtain ⟨v, us, rfl, a, b⟩ := z.cons_inv; exact .cons a (ih b)
theorem ao.get {W : Addr -> Prop} {h : Heap} {vs : List Value} {ds : List D} (z : ao C W h vs ds) {k : Nat} {d : D} (e : ds[k]? = some d) : ∃ v, vs[k]? = some v /\ Val C W h v d := by
 induction ds generalizing vs k with
 | nil => cases e
 | cons d' ds ih =>
  obtain ⟨v, us, rfl, a, b⟩ := z.cons_inv
  cases k with
  | zero => cases e; exact ⟨v, rfl, a⟩
  | succ k => exact ih b e
theorem ao.reverse {W : Addr -> Prop} {h : Heap} {vs : List Value} {ds : List D} (z : ao C W h vs ds) : ao C W h vs.reverse ds.reverse := by
 induction ds generalizing vs with
 | nil => rw [z.nil_inv]; exact .nil
 | cons d ds ih =>
  obtain ⟨v, us, rfl, a, b⟩ := z.cons_inv
  rw [List.reverse_cons, List.reverse_cons]
  exact (ih b).append (.cons a .nil)
noncomputable def Inv (C : Cfg) (h : Heap) : Prop := (∀ b o, C.hB.get? b = some o -> h.get? b = some o) /\ C.TabOk h
noncomputable def cz (C : Cfg) (a : Addr) : Prop := C.hB.get? a = none /\ ¬ C.Tb a
theorem Inv.fresh_of_none {h : Heap} {a : Addr} (I : Inv C h) (e : h.get? a = none) : cz C a := by
 refine ⟨?_, fun q => ?_⟩
 ·cases q : C.hB.get? a with
  | none => rfl
  | some o => rw [I.1 a o q] at e; cases e
 ·obtain ⟨o, ho⟩ := C.tabHas h I.2 a q
  rw [ho] at e; cases e
theorem Inv.extBut {h h' : Heap} {a : Addr} (I : Inv C h) (f : cz C a) (n : ∀ o, h.get? a = some o -> bM o) (x : Heap.ExtBut a h h') : Inv C h' :=
 ⟨fun b o e => x b o (fun q => by rw [q, f.1] at e; cases e) (I.1 b o e), C.tabBut (fun b => b = a) h h' I.2 (fun b q => ⟨q ▸ f.2, fun o e => n o (q ▸ e)⟩) fun b o e n => x b o n e⟩
theorem Inv.kp {S : Addr -> Prop} {h h' : Heap} (I : Inv C h) (f : ∀ a, S a -> cz C a) (n : ∀ a, S a -> ∀ o, h.get? a = some o -> bM o) (x : Kp S h h') : Inv C h' :=
 ⟨fun b o e => x b o (I.1 b o e) (fun q => by rw [(f b q).1] at e; cases e), C.tabBut S h h' I.2 (fun b q => ⟨(f b q).2, n b q⟩) x⟩
theorem Inv.keeps {h h' : Heap} (I : Inv C h) (x : ∀ b o, h.get? b = some o -> h'.get? b = some o) : Inv C h' :=
 ⟨fun b o e => x b o (I.1 b o e), C.tabMono h h' I.2 x⟩
theorem Inv.push {h : Heap} (I : Inv C h) (o : Obj) : Inv C (h.push o) := I.keeps fun _ _ e => Heap.get?_push_of_some o e
theorem Inv.notTb {h : Heap} {a : Addr} {o : Obj} (I : Inv C h) (e : h.get? a = some o) (n : ∀ vs, o.data ≠ .fields vs) : ¬ C.Tb a := fun q => by
 obtain ⟨vs, ho⟩ := C.tabHas h I.2 a q
 rw [ho] at e; cases e; exact n vs rfl
theorem Inv.ns_notTb {h : Heap} {a : Addr} {m : Str -> Option Value} (I : Inv C h) (x : h.Ns a m) : ¬ C.Tb a := by
 obtain ⟨o, es, ep, e, d, _⟩ := x
 exact I.notTb e fun vs q => by rw [d] at q; cases q
theorem Inv.cell_notTb {h : Heap} {a : Addr} {v : Option Value} (I : Inv C h) (x : h.IsCell a v) : ¬ C.Tb a := by
 obtain ⟨o, e, d⟩ := x
 exact I.notTb e fun vs q => by rw [d] at q; cases q
theorem nc_of {o : Obj} (n : ∀ vs, o.data ≠ .fields vs) : bM o := fun vs e => absurd e (n vs)
theorem mJ {h : Heap} {a : Addr} {m : Str -> Option Value} (x : h.Ns a m) : ∀ o, h.get? a = some o -> bM o := fun o e => by
 obtain ⟨o', _, _, e', d, _⟩ := x
 rw [e] at e'; cases e'
 exact nc_of fun vs q => by rw [d] at q; cases q
theorem nc_cell {h : Heap} {a : Addr} {v : Option Value} (x : h.IsCell a v) : ∀ o, h.get? a = some o -> bM o := fun o e => by
 obtain ⟨o', e', d⟩ := x
 rw [e] at e'; cases e'
 exact nc_of fun vs q => by rw [d] at q; cases q
theorem dW {h : Heap} {a : Addr} {vs : List Value} {n : Nat} (x : h.get? a = some (aM vs n)) : ∀ o, h.get? a = some o -> bM o := fun o e => by
 rw [e] at x; cases x
 exact nc_of nofun
theorem nc_dict {h : Heap} {a : Addr} {es : List (Str × Value)} (x : h.DictOf (strKind C.prog C.w) a es) : ∀ o, h.get? a = some o -> bM o := fun o e => by
 obtain ⟨o', _, _, e', _, d, _⟩ := x
 rw [e] at e'; cases e'
 exact nc_of fun vs q => by rw [d] at q; cases q
theorem iK {h : Heap} {a l : Addr} {i : Nat} (x : h.IsListIter a l i) : ∀ o, h.get? a = some o -> bM o := fun o e => by
 obtain ⟨o', e', _, d⟩ := x
 rw [e] at e'; cases e'
 intro vs q qq t w
 rw [d] at q; cases q
 simp at w
theorem aj (h : Heap) : h.get? h.objs.size = none := Heap.get?_none_of_le (Nat.le_refl _)
noncomputable def bz (h : Heap) (a : Addr) : Prop := ∃ o, h.get? a = some o /\ bM o
theorem bz.ne {h : Heap} {a : Addr} (x : bz h a) : h.get? a ≠ none := by obtain ⟨o, e, _⟩ := x; exact bw (e)
theorem bz.keep {h h' : Heap} {a : Addr} (x : bz h a) (k : ∀ o, h.get? a = some o -> h'.get? a = some o) : bz h' a := by obtain ⟨o, e, n⟩ := x; exact ⟨o, k o e, n⟩
theorem bz.ns {h : Heap} {a : Addr} {m : Str -> Option Value} (x : h.Ns a m) : bz h a := by obtain ⟨o, _, _, e, _⟩ := id x; exact ⟨o, e, mJ x o e⟩
theorem bz.cell {h : Heap} {a : Addr} {v : Option Value} (x : h.IsCell a v) : bz h a := by obtain ⟨o, e, _⟩ := id x; exact ⟨o, e, nc_cell x o e⟩
noncomputable def WOk (C : Cfg) (h : Heap) (W : Addr -> Prop) : Prop := ∀ a, W a -> h.get? a ≠ none /\ (C.Tb a ∨ bz h a)
theorem WOk.old {h : Heap} {W : Addr -> Prop} (x : WOk C h W) : ∀ a, W a -> h.get? a ≠ none := fun a q => (x a q).1
theorem WOk.of {h : Heap} {W : Addr -> Prop} (I : Inv C h) (x : ∀ a, W a -> C.Tb a ∨ bz h a) : WOk C h W := fun a q => ⟨by
 rcases x a q with t | p
 ·obtain ⟨vs, e⟩ := C.tabHas h I.2 a t; exact bw (e)
 ·exact p.ne, x a q⟩
theorem WOk.kp {S : Addr -> Prop} {h h' : Heap} {W : Addr -> Prop} (x : WOk C h W) (I : Inv C h') (k : Kp S h h') (s : ∀ a, S a -> C.Tb a ∨ bz h' a) : WOk C h' W := .of I fun a q => by
 rcases (x a q).2 with t | p
 ·exact .inl t
 ·by_cases z : S a
  ·exact s a z
  ·exact .inr (p.keep fun o e => k a o e z)
theorem WOk.keeps {h h' : Heap} {W : Addr -> Prop} (x : WOk C h W) (k : ∀ b o, h.get? b = some o -> h'.get? b = some o) : WOk C h' W := fun a q => by
 obtain ⟨n, p⟩ := x a q
 cases e : h.get? a with
 | none => exact absurd e n
 | some o => exact ⟨bw (k a o e), p.imp id fun p => p.keep (k a)⟩
theorem WOk.or {h : Heap} {W N : Addr -> Prop} (x : WOk C h W) (n : ∀ a, N a -> bz h a) : WOk C h fun a => W a ∨ N a := fun a q => q.elim (x a) fun q => ⟨(n a q).ne, .inr (n a q)⟩
theorem WOk.noCode {h : Heap} {W : Addr -> Prop} {c : Addr} {q : Str} (x : WOk C h W) (r : h.CodeRec (.ref c) q) (n : ¬ C.Tb c) : ¬ W c := fun w => by
 obtain ⟨c', oc, vs, u, e1, e2, e3, e4⟩ := r
 cases e1
 rcases (x c w).2 with t | ⟨o, e, nc⟩
 ·exact n t
 ·rw [e2] at e; cases e
  exact nc vs e3 _ _ e4
section
variable {W : Addr -> Prop} {h : Heap} {v : Value}
variable {G : Value -> Prop}
noncomputable def ValK (C : Cfg) (W : Addr -> Prop) (h : Heap) (G : Value -> Prop) (d : D) : Prop :=
 D.casesOn d (G .none) (fun b => G (.bool b)) (fun i => ∀ t, G (.int i t)) (fun s => ∀ t, G (.str s t))
  (fun ds => ∀ a vs n, h.get? a = some (aM vs n) -> ¬ W a -> ds.length <= 1048576 -> ao C W h vs ds -> G (.ref a))
  (fun ds => ∀ a vs, h.IsTuple a vs.toArray -> ¬ W a -> ds.length <= 1048576 -> ao C W h vs ds -> G (.ref a))
  (fun ds => ∀ a kvs, h.DictOf (strKind C.prog C.w) a kvs -> a ≠ sysModules -> ¬ W a -> ds.length <= 1048576 -> aV C W h kvs ds -> G (.ref a))
  (fun Cl fs => ∀ a dA m, f9 W h a dA Cl -> h.Ns1 dA m -> ¬ W dA -> dD C W h m fs -> (∀ x, fs.lookup x = Option.none -> m x = Option.none) -> G (.ref a))
  (fun tag frees vd => ∀ a vv cs, jR C W h a tag vv cs -> Val C W h vv vd -> cu C W h cs frees -> cs.map (·.1) = frees.map (·.1) -> (cs.map (·.2)).Nodup -> G (.ref a))
  (fun _ => True) (fun Cl dA => ∀ a, f9 W h a dA Cl -> G (.ref a)) (fun _ => True) (fun tag cs => ∀ a, m6 C W h a tag cs -> G (.ref a))
theorem Val.elim {d : D} (z : Val C W h v d) : ValK C W h G d -> G v := by
 cases z with
 | none => exact id
 | bool b => exact id
 | int i t => exact fun k => k t
 | str i t => exact fun k => k t
 | list a b c d => exact fun k => k _ _ _ a b c d
 | tup a b c d => exact fun k => k _ _ a b c d
 | dict a m b c d => exact fun k => k _ _ a m b c d
 | obj a1 a2 a3 a4 a5 => exact fun k => k _ _ _ a1 a2 a3 a4 a5
 | rule a1 a2 a3 a4 a5 => exact fun k => k _ _ _ a1 a2 a3 a4 a5
 | clo a1 => exact fun k => k _ a1
 | objO a1 => exact fun k => k _ a1
@[elab_as_elim] theorem Val.intE {i : Int} (z : Val C W h v (.int i)) (k : ∀ t, G (.int i t)) : G v := z.elim k
@[elab_as_elim] theorem Val.strE {i : Str} (z : Val C W h v (.str i)) (k : ∀ t, G (.str i t)) : G v := z.elim k
@[elab_as_elim] theorem Val.boolE {b : Bool} (z : Val C W h v (.bool b)) (k : G (.bool b)) : G v := z.elim k
@[elab_as_elim] theorem Val.noneE (z : Val C W h v .none) (k : G .none) : G v := z.elim k
@[elab_as_elim] theorem Val.listE {ds : List D} (z : Val C W h v (.list ds)) (k : ∀ a vs n, h.get? a = some (aM vs n) -> ¬ W a -> ds.length <= 1048576 -> ao C W h vs ds -> G (.ref a)) : G v := z.elim k
@[elab_as_elim] theorem Val.tupE {ds : List D} (z : Val C W h v (.tup ds)) (k : ∀ a vs, h.IsTuple a vs.toArray -> ¬ W a -> ds.length <= 1048576 -> ao C W h vs ds -> G (.ref a)) : G v := z.elim k
@[elab_as_elim] theorem Val.dictE {ds : List (Str × D)} (z : Val C W h v (.dict ds)) (k : ∀ a kvs, h.DictOf (strKind C.prog C.w) a kvs -> a ≠ sysModules -> ¬ W a -> ds.length <= 1048576 -> aV C W h kvs ds -> G (.ref a)) : G v := z.elim k
@[elab_as_elim] theorem Val.objE {Cl : Addr} {fs : List (Str × D)} (z : Val C W h v (.obj Cl fs)) (k : ∀ a dA m, f9 W h a dA Cl -> h.Ns1 dA m -> ¬ W dA -> dD C W h m fs -> (∀ x, fs.lookup x = Option.none -> m x = Option.none) -> G (.ref a)) : G v := z.elim k
@[elab_as_elim] theorem Val.ruleE {tag : Nat} {frees : List (Str × D)} {vd : D} (z : Val C W h v (.rule tag frees vd)) (k : ∀ a vv cs, jR C W h a tag vv cs -> Val C W h vv vd -> cu C W h cs frees -> cs.map (·.1) = frees.map (·.1) -> (cs.map (·.2)).Nodup -> G (.ref a)) : G v := z.elim k
@[elab_as_elim] theorem Val.cloE {tag : Nat} {cs : List (Str × Addr)} (z : Val C W h v (.clo tag cs)) (k : ∀ a, m6 C W h a tag cs -> G (.ref a)) : G v := z.elim k
@[elab_as_elim] theorem Val.objOE {Cl dA : Addr} (z : Val C W h v (.objO Cl dA)) (k : ∀ a, f9 W h a dA Cl -> G (.ref a)) : G v := z.elim k
theorem Val.int_inv {i : Int} (z : Val C W h v (.int i)) : ∃ t, v = .int i t := z.intE fun t => ⟨t, rfl⟩
theorem Val.str_inv {i : Str} (z : Val C W h v (.str i)) : ∃ t, v = .str i t := z.strE fun t => ⟨t, rfl⟩
theorem Val.list_inv {ds : List D} (z : Val C W h v (.list ds)) : ∃ a vs n, v = .ref a /\ h.get? a = some (aM vs n) /\ ¬ W a /\ ds.length <= 1048576 /\ ao C W h vs ds :=
 z.listE fun a vs n x y w q => ⟨a, vs, n, rfl, x, y, w, q⟩
theorem Val.dict_inv {ds : List (Str × D)} (z : Val C W h v (.dict ds)) : ∃ a kvs, v = .ref a /\ h.DictOf (strKind C.prog C.w) a kvs /\ a ≠ sysModules /\ ¬ W a /\ ds.length <= 1048576 /\ aV C W h kvs ds :=
 z.dictE fun a kvs x m y w q => ⟨a, kvs, rfl, x, m, y, w, q⟩
theorem Val.clo_inv {tag : Nat} {cs : List (Str × Addr)} (z : Val C W h v (.clo tag cs)) : ∃ a, v = .ref a /\ m6 C W h a tag cs := z.cloE fun a x => ⟨a, rfl, x⟩
end
theorem clsE {h : Heap} {Cl N : Addr} {mN : Str -> Option Value} {G : Prop} (X : ClsAt h Cl N mN)
  (k : ∀ nm q bs sn sub col dd k0 k1 k2 k3 k5, h.get? Cl = some (excClassObj nm q Cl N bs [.type "object"] true sn sub false col dd k0 k1 k2 k3 k5 "object.__new__") -> G) : G := by
 obtain ⟨nm, q, bs, sn, sub, col, dd, k0, k1, k2, k3, k5, hC⟩ := X.obj
 exact k nm q bs sn sub col dd k0 k1 k2 k3 k5 hC
variable {C : Cfg}
noncomputable abbrev Rho := List (Str × D)
noncomputable abbrev Own := List (Addr × D)
noncomputable def Bound (env : Env) (h : Heap) (x : Str) (v : Value) : Prop :=
 (env.kindOf x = some .local /\ ∃ m, h.Ns env.locals m /\ m x = some v) ∨
 ((env.kindOf x = some .cell ∨ (env.kindOf x = some .free /\ (x == ("__classdict__" : Str)) = false)) /\ ∃ c, env.cells.lookup x = some c /\ h.IsCell c (some v))
noncomputable def Wof (W : Addr -> Prop) (own : Own) (a : Addr) : Prop := W a ∨ a ∈ own.map (·.1)
noncomputable def VT (C : Cfg) (W : Addr -> Prop) (own : Own) (h : Heap) (v : Value) : D -> Prop
 | .own a => v = .ref a
 | d => Val C W h v d
noncomputable def eO (C : Cfg) (W : Addr -> Prop) (h : Heap) (m : Str -> Option Value) : List (Str × D) -> Prop
 | [] => True
 | (x, d) :: r => (∃ v, m x = some v /\ VT C W [] h v d) /\ eO C W h m r
noncomputable def bc (C : Cfg) (W : Addr -> Prop) (h : Heap) (a : Addr) : D -> Prop
 | .list ds => ∃ vs n, h.get? a = some (aM vs n) /\ ds.length <= 1048576 /\ ao C W h vs ds
 | .dict kvs => ∃ es, h.DictOf (strKind C.prog C.w) a es /\ a ≠ sysModules /\ kvs.length <= 1048576 /\ aV C W h es kvs
 | .ns fs => ∃ m, h.Ns1 a m /\ eO C W h m fs /\ ∀ x, fs.lookup x = Option.none -> m x = Option.none
 | _ => False
noncomputable def notOwn : D -> Bool
 | .own _ => false
 | _ => true
noncomputable abbrev bU (d : D) : Prop := notOwn d = true
theorem VT.val {W : Addr -> Prop} {own : Own} {h : Heap} {v : Value} {d : D} (n : bU d) (x : VT C W own h v d) : Val C W h v d := by
 cases d with
 | own a => cases n
 | _ => exact x
theorem VT.of {W : Addr -> Prop} {own : Own} {h : Heap} {v : Value} {d : D} (x : Val C W h v d) : VT C W own h v d := by
 cases d with
 | own a => cases x
 | _ => exact x
theorem VT.kp {S W W' : Addr -> Prop} {own own' : Own} {h h' : Heap} {v : Value} {d : D} (k : Kp S h h') (hs : ∀ a, S a -> W a) (hw : ∀ a o, h.get? a = some o -> W' a -> W a) (ho : ∀ a, a ∈ own.map (·.1) -> a ∈ own'.map (·.1)) (x : VT C W own h v d) : VT C W' own' h' v d := by
 cases d with
 | own a => exact x
 | _ => exact Val.kp k hs hw x
theorem eO.kp {S W W' : Addr -> Prop} {h h' : Heap} {m : Str -> Option Value} (k : Kp S h h') (hs : ∀ a, S a -> W a) (hw : ∀ a o, h.get? a = some o -> W' a -> W a) : ∀ {fs : List (Str × D)}, eO C W h m fs -> eO C W' h' m fs
 | [], _ => trivial
 | (x, d) :: r, ⟨⟨v, e, z⟩, y⟩ => ⟨⟨v, e, z.kp k hs hw fun _ q => q⟩, eO.kp k hs hw y⟩
structure St (C : Cfg) (W : Addr -> Prop) (h₀ : Heap) (env : Env) (O : Str -> Prop) (ρ : Rho) (own : Own) (h : Heap) : Prop where
 inv : Inv C h
 keep : ∀ b o, h₀.get? b = some o -> ¬ C.Tb b -> h.get? b = some o
 kind : env.scope.kind = .function
 glob : env.globals = mainGlobals
 blt : env.builtins = builtinsNs
 ns : ∃ m, h.Ns env.locals m
 nsW : W env.locals
 nsF : cz C env.locals /\ h₀.get? env.locals = Option.none
 cells : ∀ x, O x -> ∃ c v₀, env.cells.lookup x = some c /\ h.IsCell c v₀ /\ W c /\ cz C c /\ h₀.get? c = Option.none
 seen : ∀ x c, env.cells.lookup x = some c -> h.get? c ≠ Option.none /\ ¬ C.Tb c
 apart : ∀ x y c, env.cells.lookup x = some c -> env.cells.lookup y = some c -> x = y
 tbW : ∀ a, C.Tb a -> W a
 wok : WOk C h W
 bound : ∀ x d, ρ.lookup x = some d -> ∃ v, Bound env h x v /\ VT C (Wof W own) own h v d
 owns : ∀ p ∈ own, bc C (Wof W own) h p.1 p.2 /\ ¬ W p.1 /\ cz C p.1 /\ h₀.get? p.1 = Option.none
 nodup : (own.map (·.1)).Nodup
theorem St.wOld {C : Cfg} {W : Addr -> Prop} {h₀ : Heap} {env : Env} {O : Str -> Prop} {ρ : Rho} {own : Own} {h : Heap} (S : St C W h₀ env O ρ own h) : ∀ a, W a -> h.get? a ≠ none := S.wok.old
noncomputable def Ext (C : Cfg) (h h' : Heap) : Prop := Kp C.Tb h h' /\ Inv C h'
theorem Ext.refl {h : Heap} (I : Inv C h) : Ext C h h := ⟨.refl h, I⟩
theorem Ext.trans {h h' h'' : Heap} (x : Ext C h h') (y : Ext C h' h'') : Ext C h h'' := ⟨x.1.trans y.1, y.2⟩
theorem Ext.all {h h' : Heap} (I : Inv C h) (x : ∀ b o, h.get? b = some o -> h'.get? b = some o) : Ext C h h' := ⟨.of_all x, I.keeps x⟩
theorem Ext.push {h : Heap} (I : Inv C h) (o : Obj) : Ext C h (h.push o) := .all I fun _ _ e => Heap.get?_push_of_some _ e
noncomputable def bL (r : Nat) (A : Around) : Prop := A.handled = none /\ A.depth + 5 * r <= 800 /\ A.units + 40 * r <= 9000 /\ A.guards = some []
theorem bL.mono {r r' : Nat} {A : Around} (x : bL r A) (h : r' <= r) : bL r' A := ⟨x.1, by have := x.2.1; lia, by have := x.2.2.1; lia, x.2.2.2⟩
theorem bL.deeper {r : Nat} {A : Around} {env : Env} (x : bL (r + 1) A) : bL r (A.deeper env) := ⟨x.1, by have := x.2.1; show A.depth + 1 + _ <= _; lia, by have := x.2.2.1; show A.units + 3 + _ <= _; lia, x.2.2.2⟩
theorem bL.lim {r : Nat} {A : Around} (x : bL r A) : A.depth < recursionLimit := by have := x.2.1; show A.depth < 1000; lia
noncomputable def Tri (C : Cfg) {α : Type} (A : Around) (t : Sem α) (h : Heap) (P : α -> Heap -> Prop) : Prop :=
 ∀ tk (Q : α -> Shared -> Prop) (E : Value -> Shared -> Prop), (∀ a h' tk', P a h' -> Q a (sh C h' tk')) -> wpAny (md C) A t Q E (sh C h tk)
theorem Tri.use {α : Type} {A : Around} {t : Sem α} {h : Heap} {P : α -> Heap -> Prop} (x : Tri C A t h P) {Q : α -> Shared -> Prop} {E : Value -> Shared -> Prop} {tk : Tok}
  (k : ∀ a h' tk', P a h' -> Q a (sh C h' tk')) : wpAny (md C) A t Q E (sh C h tk) := x tk Q E k
theorem Tri.use2 {α : Type} {A : Around} {t : Sem α} {h : Heap} {P1 P2 : α -> Heap -> Prop} (x : Tri C A t h fun a h' => P1 a h' /\ P2 a h') {Q : α -> Shared -> Prop} {E : Value -> Shared -> Prop} {tk : Tok}
  (k : ∀ a h' tk', P1 a h' -> P2 a h' -> Q a (sh C h' tk')) : wpAny (md C) A t Q E (sh C h tk) := x.use fun a h' tk' p => k a h' tk' p.1 p.2
theorem Tri.use3 {α : Type} {A : Around} {t : Sem α} {h : Heap} {P1 P2 P3 : α -> Heap -> Prop} (x : Tri C A t h fun a h' => P1 a h' /\ P2 a h' /\ P3 a h') {Q : α -> Shared -> Prop} {E : Value -> Shared -> Prop} {tk : Tok}
  (k : ∀ a h' tk', P1 a h' -> P2 a h' -> P3 a h' -> Q a (sh C h' tk')) : wpAny (md C) A t Q E (sh C h tk) := x.use fun a h' tk' p => k a h' tk' p.1 p.2.1 p.2.2
theorem Tri.useE {α β : Type} {A : Around} {t : Sem α} {h : Heap} {P1 P2 : α -> Heap -> β -> Prop} (x : Tri C A t h fun a h' => ∃ v, P1 a h' v /\ P2 a h' v) {Q : α -> Shared -> Prop} {E : Value -> Shared -> Prop} {tk : Tok}
  (k : ∀ a h' tk' v, P1 a h' v -> P2 a h' v -> Q a (sh C h' tk')) : wpAny (md C) A t Q E (sh C h tk) := x.use (by rintro a h' tk' ⟨v, p1, p2⟩; exact k a h' tk' v p1 p2)
theorem Tri.mono {α : Type} {A : Around} {t : Sem α} {h : Heap} {P P' : α -> Heap -> Prop} (x : Tri C A t h P) (k : ∀ a h', P a h' -> P' a h') : Tri C A t h P' :=
 fun tk Q E q => x tk Q E fun a h' tk' p => q a h' tk' (k a h' p)
theorem Tri.pure {α : Type} {A : Around} {a : α} {h : Heap} {P : α -> Heap -> Prop} (p : P a h) : Tri C A (Pure.pure a) h P := fun tk Q E q => wpAny_pure (q a h tk p)
theorem Bound.kp {S : Addr -> Prop} {h h' : Heap} {env : Env} {x : Str} {v : Value} (k : Kp S h h') (hn : ∀ m, h.Ns env.locals m -> ¬ S env.locals) (hc : ∀ c v, h.IsCell c v -> ¬ S c) (b : Bound env h x v) : Bound env h' x v := by
 rcases b with ⟨a, m, n, e⟩ | ⟨a, c, n, e⟩
 ·exact .inl ⟨a, m, jA k (hn m n) n, e⟩
 ·exact .inr ⟨a, c, n, bZ k (hc c _ e) e⟩
theorem bc.kp2 {S W W' : Addr -> Prop} {h h' : Heap} {a : Addr} {d : D} (k : Kp S h h') (hs : ∀ a, S a -> W a) (hw : ∀ a o, h.get? a = some o -> W' a -> W a)
  (ha : ¬ S a) (x : bc C W h a d) : bc C W' h' a d := by
 cases d with
 | list ds => obtain ⟨vs, n, e, z, r⟩ := x; exact ⟨vs, n, k _ _ e ha, z, r.kp k hs hw⟩
 | dict kvs => obtain ⟨es, e, m, z, r⟩ := x; exact ⟨es, dq k ha e, m, z, r.kp k hs hw⟩
 | ns fs => obtain ⟨m, n1, r, ex⟩ := x; exact ⟨m, jT k ha n1, r.kp k hs hw, ex⟩
 | _ => exact x.elim
theorem bc.kp {S W W' : Addr -> Prop} {h h' : Heap} {a : Addr} {d : D} (k : Kp S h h') (hs : ∀ a, S a -> W a) (hw : ∀ a o, h.get? a = some o -> W' a -> W a) (_hw' : ∀ a, W a -> W' a)
  (ha : ¬ S a) (x : bc C W h a d) : bc C W' h' a d := x.kp2 k hs hw ha
theorem Wof.old {W : Addr -> Prop} {own : Own} {h : Heap} (w : ∀ a, W a -> h.get? a ≠ none) (o : ∀ p ∈ own, bc C (Wof W own) h p.1 p.2) : ∀ a, Wof W own a -> h.get? a ≠ none := by
 rintro a (q | q)
 ·exact w a q
 ·obtain ⟨p, hp, rfl⟩ := List.mem_map.mp q
  have z := o p hp
  cases hd : p.2 with
  | list ds => rw [hd] at z; obtain ⟨vs, n, e, _⟩ := z; exact bw (e)
  | dict ds => rw [hd] at z; obtain ⟨es, ⟨o, _, _, e, _⟩, _⟩ := z; exact bw (e)
  | ns fs => rw [hd] at z; obtain ⟨m, ⟨o, _, _, e, _⟩, _⟩ := z; exact bw (e)
  | _ => rw [hd] at z; exact z.elim
theorem bc.plainly {W : Addr -> Prop} {h : Heap} {a : Addr} {d : D} (z : bc C W h a d) : bz h a := by
 cases d with
 | list ds => obtain ⟨vs, n, e, _⟩ := z; exact ⟨_, e, dW e _ e⟩
 | dict ds => obtain ⟨es, e, _⟩ := z; exact ⟨_, e.choose_spec.choose_spec.choose_spec.1, nc_dict e _ e.choose_spec.choose_spec.choose_spec.1⟩
 | ns fs => obtain ⟨m, e, _⟩ := z; exact .ns (Heap.Ns1.ns e)
 | _ => exact z.elim
theorem Wof.ok {W : Addr -> Prop} {own : Own} {h : Heap} (w : WOk C h W) (o : ∀ p ∈ own, bc C (Wof W own) h p.1 p.2) : WOk C h (Wof W own) := fun a q => by
 rcases q with q | q
 ·exact w a q
 ·obtain ⟨p, hp, rfl⟩ := List.mem_map.mp q
  have z := (o p hp).plainly
  exact ⟨z.ne, .inr z⟩
theorem St.ext {W : Addr -> Prop} {h₀ h h' : Heap} {env : Env} {O : Str -> Prop} {ρ : Rho} {own : Own} (S : St C W h₀ env O ρ own h) (x : Ext C h h') : St C W h₀ env O ρ own h' := by
 have tw : ∀ a, C.Tb a -> Wof W own a := fun a q => .inl (S.tbW a q)
 have hn : ∀ m, h.Ns env.locals m -> ¬ C.Tb env.locals := fun m n => S.inv.ns_notTb n
 have hc : ∀ c v, h.IsCell c v -> ¬ C.Tb c := fun c v e => S.inv.cell_notTb e
 refine ⟨x.2, fun b o e n => x.1 b o (S.keep b o e n) n, S.kind, S.glob, S.blt, ?_, S.nsW, S.nsF, ?_, ?_, S.apart, S.tbW, ?_, ?_, ?_, S.nodup⟩
 ·obtain ⟨m, n⟩ := S.ns; exact ⟨m, jA x.1 (hn m n) n⟩
 ·intro y hy; obtain ⟨c, v, l, i, w⟩ := S.cells y hy; exact ⟨c, v, l, bZ x.1 (hc c v i) i, w⟩
 ·intro y c l
  obtain ⟨a, b⟩ := S.seen y c l
  cases e : h.get? c with
  | none => exact absurd e a
  | some o => exact ⟨bw (x.1 _ _ e b), b⟩
 ·exact S.wok.kp x.2 x.1 fun a q => .inl q
 ·intro y d e
  obtain ⟨v, b, z⟩ := S.bound y d e
  exact ⟨v, b.kp x.1 hn hc, z.kp x.1 tw (fun _ _ _ q => q) fun _ q => q⟩
 ·intro p hp
  obtain ⟨o, w, f⟩ := S.owns p hp
  exact ⟨o.kp x.1 tw (fun _ _ _ q => q) (fun _ q => q) (fun q => w (S.tbW _ q)), w, f⟩
theorem St.weaken {W : Addr -> Prop} {h₀ h : Heap} {env : Env} {O : Str -> Prop} {ρ ρ' : Rho} {own : Own} (S : St C W h₀ env O ρ own h) (k : ∀ x d, ρ'.lookup x = some d -> ρ.lookup x = some d) : St C W h₀ env O ρ' own h :=
 { S with bound := fun x d e => S.bound x d (k x d e) }
noncomputable def GlobOf (env : Env) (sc : Scope) : Prop := ∀ x, (sc.names.lookup x = some .globalImplicit -> env.kindOf x = some .globalImplicit) /\
 (sc.names.lookup x = some .cell ∨ sc.names.lookup x = some .free -> env.kindOf x = some .cell ∨ env.kindOf x = some .free)
structure Ev (C : Cfg) (r : Nat) (sc : Scope) (ρ : Rho) (own : Own) (e : Expr) (d : D) : Prop where
 go : ∀ A env W h₀ O h, bL r A -> GlobOf env sc -> St C W h₀ env O ρ own h -> Tri C A (eval e env) h fun v h' => Ext C h h' /\ Val C (Wof W own) h' v d
theorem Val.ext {W : Addr -> Prop} {h h' : Heap} {v : Value} {d : D} (x : Val C W h v d) (k : Ext C h h') (hs : ∀ a, C.Tb a -> W a) : Val C W h' v d := x.keep k.1 hs
theorem ao.ext {W : Addr -> Prop} {h h' : Heap} {v : List Value} {d : List D} (x : ao C W h v d) (k : Ext C h h') (hs : ∀ a, C.Tb a -> W a) : ao C W h' v d := x.keep k.1 hs
theorem St.tw {W : Addr -> Prop} {h₀ h : Heap} {env : Env} {O : Str -> Prop} {ρ : Rho} {own : Own} (S : St C W h₀ env O ρ own h) : ∀ a, C.Tb a -> Wof W own a := fun a q => .inl (S.tbW a q)
theorem Ev.name {r : Nat} {sc : Scope} {ρ : Rho} {own : Own} {x : Str} {pos : Pos} {d : D} (e : autoParam (ρ.lookup x = some d) tacR) (no : autoParam (bU d) tacR) (hd : autoParam ((x == ("__debug__" : Str)) = false) tacD) : Ev C r sc ρ own (.Name x pos) d := by
 constructor; intro A env W h₀ O h R G S tk qQ qE qK
 obtain ⟨v, b, z⟩ := S.bound x d e
 have z := z.val no
 refine wpAny_Name ?_ hd
 rcases b with ⟨a, m, n, e⟩ | ⟨a | ⟨a, a'⟩, c, n, e⟩
 ·exact wpAny_loadName_local S.kind a n e (qK _ h tk ⟨.refl S.inv, z⟩)
 ·exact wpAny_loadName_cell S.kind a n e (qK _ h tk ⟨.refl S.inv, z⟩)
 ·exact wpAny_loadName_free S.kind a n e (qK _ h tk ⟨.refl S.inv, z⟩) a'
theorem Ev.int {r : Nat} {sc : Scope} {ρ : Rho} {own : Own} {i : Int} {k : Nat} {pos : Pos} : Ev C r sc ρ own (.Constant (.int i) k pos) (.int i) :=
 ⟨fun _ _ _ _ _ h _ _ S tk qQ qE qK => wpAny_Constant_int (qK _ h _ ⟨.refl S.inv, .int _ _⟩)⟩
theorem Ev.str {r : Nat} {sc : Scope} {ρ : Rho} {own : Own} {i : Str} {k : Nat} {pos : Pos} : Ev C r sc ρ own (.Constant (.str i) k pos) (.str i) :=
 ⟨fun _ _ _ _ _ h _ _ S tk qQ qE qK => wpAny_Constant_str (qK _ h _ ⟨.refl S.inv, .str _ _⟩)⟩
theorem Ev.none {r : Nat} {sc : Scope} {ρ : Rho} {own : Own} {k : Nat} {pos : Pos} : Ev C r sc ρ own (.Constant .none k pos) .none :=
 ⟨fun _ _ _ _ _ h _ _ S tk qQ qE qK => wpAny_Constant_none (qK _ h _ ⟨.refl S.inv, .none⟩)⟩
theorem Ev.bool {r : Nat} {sc : Scope} {ρ : Rho} {own : Own} {b : Bool} {k : Nat} {pos : Pos} : Ev C r sc ρ own (.Constant (.bool b) k pos) (.bool b) :=
 ⟨fun _ _ _ _ _ h _ _ S tk qQ qE qK => wpAny_Constant_bool (qK _ h _ ⟨.refl S.inv, .bool _⟩)⟩
section
variable {r : Nat} {sc : Scope} {ρ : Rho} {own : Own}
noncomputable def bh (C : Cfg) (op : Operator) (d1 d2 d : D) : Prop :=
 ∀ A W h v1 v2, A.handled = none -> Inv C h -> (∀ a, C.Tb a -> W a) -> (∀ a, W a -> h.get? a ≠ none) -> Val C W h v1 d1 -> Val C W h v2 d2 -> Tri C A (binaryOp op v1 v2) h fun v h' => Ext C h h' /\ Val C W h' v d
theorem St.wok' {W : Addr -> Prop} {h₀ h : Heap} {env : Env} {O : Str -> Prop} (S : St C W h₀ env O ρ own h) : WOk C h (Wof W own) := Wof.ok S.wok fun p hp => (S.owns p hp).1
theorem St.wOld' {W : Addr -> Prop} {h₀ h : Heap} {env : Env} {O : Str -> Prop} (S : St C W h₀ env O ρ own h) : ∀ a, Wof W own a -> h.get? a ≠ none := Wof.old S.wOld fun p hp => (S.owns p hp).1
theorem Ev.bin {a b : Expr} {op : Operator} {pos : Pos} {d1 d2 d : D} (x : Ev C r sc ρ own a d1) (y : Ev C r sc ρ own b d2) (k : bh C op d1 d2 d) : Ev C r sc ρ own (.BinOp a op b pos) d := by
 constructor; intro A env W h₀ O h R G S tk qQ qE qK
 refine wpAny_BinOp ((x.go A env W h₀ O h R G S).use2 fun v1 h1 tk1 e1 z1 => ?_)
 have S1 := S.ext e1
 refine (y.go A env W h₀ O h1 R G S1).use2 fun v2 h2 tk2 e2 z2 => ?_
 have S2 := S1.ext e2
 refine (k A (Wof W own) h2 v1 v2 R.1 S2.inv S2.tw S2.wOld' (z1.ext e2 S.tw) z2).use2 fun v h3 tk3 e3 z3 => ?_
 exact (qK _ h3 tk3 ⟨(e1.trans e2).trans e3, z3⟩)
theorem bh.add {x y : Int} : bh C .Add (.int x) (.int y) (.int (x + y)) := by
 intro A W h v1 v2 R I tw wo z1 z2 tk qQ qE qK; refine z1.intE fun _ => ?_; refine z2.intE fun _ => ?_
 exact add_int (qK _ h _ ⟨.refl I, .int _ _⟩)
theorem bh.sub {x y : Int} : bh C .Sub (.int x) (.int y) (.int (x - y)) := by
 intro A W h v1 v2 R I tw wo z1 z2 tk qQ qE qK; refine z1.intE fun _ => ?_; refine z2.intE fun _ => ?_
 exact sub_int (qK _ h _ ⟨.refl I, .int _ _⟩)
theorem bh.mul {x y : Int} (k : IntMulOk x y) : bh C .Mult (.int x) (.int y) (.int (x * y)) := by
 intro A W h v1 v2 R I tw wo z1 z2 tk qQ qE qK; refine z1.intE fun _ => ?_; refine z2.intE fun _ => ?_
 exact mul_int (qK _ h _ ⟨.refl I, .int _ _⟩) k
theorem bh.mod {x y : Int} (k : y ≠ 0) : bh C .Mod (.int x) (.int y) (.int (x.fmod y)) := by
 intro A W h v1 v2 R I tw wo z1 z2 tk qQ qE qK; refine z1.intE fun _ => ?_; refine z2.intE fun _ => ?_
 exact mod_int' k (qK _ h _ ⟨.refl I, .int _ _⟩)
theorem bh.fdiv {x y : Int} (k : y ≠ 0) (k2 : Builtin.divisionGoesByPylong x y = false) : bh C .FloorDiv (.int x) (.int y) (.int (x.fdiv y)) := by
 intro A W h v1 v2 R I tw wo z1 z2 tk qQ qE qK; refine z1.intE fun _ => ?_; refine z2.intE fun _ => ?_
 exact floordiv_int k (qK _ h _ ⟨.refl I, .int _ _⟩) (.inl k2)
theorem bh.pow {x y : Int} (k : 0 <= y) (k2 : ↑(Builtin.Int.intBits x) * y <= 2 ^ 27) : bh C .Pow (.int x) (.int y) (.int (x ^ y.toNat)) := by
 intro A W h v1 v2 R I tw wo z1 z2 tk qQ qE qK; refine z1.intE fun _ => ?_; refine z2.intE fun _ => ?_
 exact pow_int k k2 (qK _ h _ ⟨.refl I, .int _ _⟩)
theorem bh.rsh {x y : Int} (k : 0 <= y) : bh C .RShift (.int x) (.int y) (.int (x.fdiv (2 ^ y.toNat))) := by
 intro A W h v1 v2 R I tw wo z1 z2 tk qQ qE qK; refine z1.intE fun _ => ?_; refine z2.intE fun _ => ?_
 exact rshift_int k (qK _ h _ ⟨.refl I, .int _ _⟩)
theorem bh.lsh {x y : Int} (k : 0 <= y) (k1 : y <= 1000000) (k2 : x.natAbs < 2 ^ 64) : bh C .LShift (.int x) (.int y) (.int (x * 2 ^ y.toNat)) := by
 intro A W h v1 v2 R I tw wo z1 z2 tk qQ qE qK; refine z1.intE fun _ => ?_; refine z2.intE fun _ => ?_
 exact lshift_int_small k k1 k2 (qK _ h _ ⟨.refl I, .int _ _⟩)
theorem bh.and {x y : Int} : bh C .BitAnd (.int x) (.int y) (.int (Builtin.bitAnd x y)) := by
 intro A W h v1 v2 R I tw wo z1 z2 tk qQ qE qK; refine z1.intE fun _ => ?_; refine z2.intE fun _ => ?_
 exact and_int (qK _ h _ ⟨.refl I, .int _ _⟩)
theorem bh.xor {x y : Int} : bh C .BitXor (.int x) (.int y) (.int (Builtin.bitXor x y)) := by
 intro A W h v1 v2 R I tw wo z1 z2 tk qQ qE qK; refine z1.intE fun _ => ?_; refine z2.intE fun _ => ?_
 exact xor_int (qK _ h _ ⟨.refl I, .int _ _⟩)
theorem bh.cat {x y : Str} (k : x.length + y.length <= sizeLine) : bh C .Add (.str x) (.str y) (.str (x ++ y)) := by
 intro A W h v1 v2 R I tw wo z1 z2 tk qQ qE qK; refine z1.strE fun _ => ?_; refine z2.strE fun _ => ?_
 exact add_str (fun _ _ => (qK _ h _ ⟨.refl I, .str _ _⟩)) k
theorem aO {h : Heap} {a : Addr} {vs : List Value} {n : Nat} (e : h.get? a = some (aM vs n)) : h.IsList a vs.toArray := ⟨_, e, rfl, n, rfl⟩
theorem eH {h : Heap} {W : Addr -> Prop} (wo : ∀ a, W a -> h.get? a ≠ none) : ¬ W h.objs.size := fun q => wo _ q (aj h)
set_option tactic.hygienic true in
theorem bh.app {x y : List D} (k : x.length + y.length <= 1048576) : bh C .Add (.list x) (.list y) (.list (x ++ y)) := by
 intro A W h v1 v2 R I tw wo z1 z2 tk qQ qE qK
 refine z1.listE fun _ _ _ e1 n1 s1 r1 => ?_
 refine z2.listE fun _ _ _ e2 n2 s2 r2 => ?_
 rename_i a vs n b ws n'
 refine concat_meets ⟨_, e1, rfl⟩ ⟨_, e2, rfl⟩ noFill_list_add seq_list_add PySem.F.slot_list_add PySem.F.entry_list_add (PySem.F.args_list_add_2 _ _)
  (list_addW a b vs.toArray ws.toArray _ _ none none #[] #[] (by have := r1.length; have := r2.length; simp [sizeLine]; lia)) ⟨e1, e2, ?_⟩
 have q : vs.toArray ++ ws.toArray = (vs ++ ws).toArray := by simp
 rw [q]
 refine (qK _ _ _ ⟨.push I _, .list (Heap.get?_push_size _ rfl) (eH wo) (by simpa using k) ?_⟩)
 have k1 : Kp C.Tb h (h.push (aM (vs ++ ws) 0)) := .of_all fun _ _ e => Heap.get?_push_of_some _ e
 exact (r1.keep k1 tw).append (r2.keep k1 tw)
set_option tactic.hygienic true in
theorem bh.rep {x : D} {n : Int} (k0 : 0 <= n) (k : n <= 1048576) : bh C .Mult (.list [x]) (.int n) (.list (List.replicate n.toNat x)) := by
 intro A W h v1 v2 R I tw wo z1 z2 tk qQ qE qK
 refine z1.listE fun _ _ _ e1 n1 s1 r1 => ?_
 cases z2
 rename_i a vs n' u
 cases r1 with | cons r1 r2 =>
 cases r2
 rename_i v
 refine wpAny_binaryOp_repeat_ref (T := "list") (U := "int") (by decide) ⟨_, e1, rfl⟩ (fun s' => typeIs_int s' n u) noFill_list_mul F.fills_int_mul F.slot_int_rmul repeat_list F.slot_int_index.lookup
   (call_meets F.slot_int_rmul (typeIs_int _ n u) F.entry_int_rmul (F.args_int_rmul_2 _ _) (int___rmul___int_list n u a _ n')
    ⟨e1, rfl, ⟨_, e1, rfl⟩, call_meets F.slot_list_mul ⟨_, e1, rfl⟩ F.entry_list_mul (F.args_list_mul_2 _ _)
    (AutoListH.list___mul___list_int_3 a _ n' n u (by simp [Builtin.List.listFitsIndex]; lia) (by have q : #[v].size = 1 := rfl; rw [q]; lia) (by simp [Builtin.List.listTooLong, sizeLine]; lia))
    ⟨e1, ?_⟩⟩)
 have q : List.foldl (fun x1 x2 => x1 ++ x2) #[] (List.replicate (if ([v].toArray).isEmpty = true then 0 else n.toNat) [v].toArray) = (List.replicate n.toNat v).toArray := by
  rw [if_neg (show ¬ ([v].toArray).isEmpty = true from Bool.false_ne_true)]
  generalize n.toNat = j
  suffices H : ∀ (acc : List Value), List.foldl (fun x1 x2 => x1 ++ x2) acc.toArray (List.replicate j [v].toArray) = (acc ++ List.replicate j v).toArray by simpa using H []
  induction j with
  | zero => intro acc; simp
  | succ j ih => intro acc; rw [List.replicate_succ, List.foldl_cons, List.append_toArray, ih]; simp [List.replicate_succ]
 rw [q]
 refine (qK _ _ _ ⟨.push I _, .list (vs := List.replicate n.toNat v) (n := 0) (Heap.get?_push_size _ rfl) (eH wo) (by simp; lia) ?_⟩)
 have k1 : Kp C.Tb h (h.push (aM (List.replicate n.toNat v) 0)) := .of_all fun _ _ e => Heap.get?_push_of_some _ e
 have r3 := r1.keep k1 tw
 generalize n.toNat = j at r3 ⊢
 have : ∀ i, ao C W (h.push (aM (List.replicate j v) 0)) (List.replicate i v) (List.replicate i x) := by
  intro i
  induction i with
  | zero => exact .nil
  | succ i ih => exact .cons r3 ih
 exact this j
noncomputable def UnOk (C : Cfg) (op : UnaryOp) (d1 d : D) : Prop :=
 ∀ A W h v1, A.handled = none -> Inv C h -> Val C W h v1 d1 -> Tri C A (unaryOp op v1) h fun v h' => Ext C h h' /\ Val C W h' v d
theorem Ev.un {a : Expr} {op : UnaryOp} {pos : Pos} {d1 d : D} (x : Ev C r sc ρ own a d1) (k : UnOk C op d1 d) : Ev C r sc ρ own (.UnaryOp op a pos) d := by
 constructor; intro A env W h₀ O h R G S tk qQ qE qK
 refine wpAny_UnaryOp ((x.go A env W h₀ O h R G S).use2 fun v1 h1 tk1 e1 z1 => ?_)
 have S1 := S.ext e1
 refine (k A (Wof W own) h1 v1 R.1 S1.inv z1).use2 fun v h3 tk3 e3 z3 => ?_
 exact (qK _ h3 tk3 ⟨e1.trans e3, z3⟩)
theorem UnOk.neg {x : Int} : UnOk C .USub (.int x) (.int (-x)) := by
 intro A W h v1 R I z1 tk qQ qE qK; refine z1.intE fun _ => ?_
 exact neg_int (qK _ h _ ⟨.refl I, .int _ _⟩)
theorem UnOk.inv {x : Int} : UnOk C .Invert (.int x) (.int (Builtin.bitNot x)) := by
 intro A W h v1 R I z1 tk qQ qE qK; refine z1.intE fun _ => ?_
 exact invert_int (qK _ h _ ⟨.refl I, .int _ _⟩)
noncomputable def D.truth : D -> Option Bool
 | .none => some false
 | .bool b => some b
 | .int i => some (i != 0)
 | .str s => if s.length <= 1048576 then some ((s.length : Int) != 0) else Option.none
 | .list ds => some (!ds.isEmpty)
 | _ => Option.none
theorem truth_ok {A : Around} {W : Addr -> Prop} {h : Heap} {v : Value} {d : D} {b : Bool} (z : Val C W h v d) (e : d.truth = some b) : Tri C A (truthy v) h fun b' h' => h' = h /\ b' = b := by
 intro tk qQ qE qK
 cases d with
 | none => cases e; exact z.noneE (G := fun v => wpAny (md C) A (truthy v) qQ qE (sh C h tk)) (fun _ _ _ => (qK _ h _ ⟨rfl, rfl⟩))
 | bool b => cases e; exact z.boolE (G := fun v => wpAny (md C) A (truthy v) qQ qE (sh C h tk)) (wpAny_truthy_bool (qK _ h _ ⟨rfl, rfl⟩))
 | int i => cases e; exact z.intE fun t => truthy_int (qK _ h _ ⟨rfl, rfl⟩)
 | str s =>
  refine z.strE fun t => ?_
  have e' : (if s.length <= 1048576 then some ((s.length : Int) != 0) else Option.none) = some b := e
  by_cases q : s.length <= 1048576
  ·rw [if_pos q] at e'; cases e'; exact P.truthy_str (by lia) (qK _ h _ ⟨rfl, rfl⟩)
  ·rw [if_neg q] at e'; cases e'
 | list ds =>
  cases e
  refine z.listE fun a vs n e1 _ s r => ?_
  refine wpAny_truthy_list (aO e1) (by have := r.length; simp; lia) (qK _ h _ ⟨rfl, ?_⟩)
  cases r <;> rfl
 | _ => cases e
structure Tst (C : Cfg) (r : Nat) (sc : Scope) (ρ : Rho) (own : Own) (e : Expr) (b : Bool) : Prop where
 go : ∀ A env W h₀ O h, bL r A -> GlobOf env sc -> St C W h₀ env O ρ own h -> Tri C A (isTrue e env (eval e env)) h fun b' h' => Ext C h h' /\ b' = b
theorem Tst.of {e : Expr} {d : D} {b : Bool} (x : Ev C r sc ρ own e d) (k : d.truth = some b)
  (p : autoParam (∀ env whole, PySem.isTrue e env whole = (do let v <- whole; standAt e.pos; holding [v] (truthy v))) tacI2) : Tst C r sc ρ own e b := by
 constructor; intro A env W h₀ O h R G S tk qQ qE qK
 refine isTrue_plain ((x.go A env W h₀ O h R G S).use2 fun v h1 tk1 e1 z => ?_) (p _ _)
 exact (truth_ok z k).use2 fun b' h2 tk2 e2 e3 => (qK _ h2 tk2 ⟨e2 ▸ e1, e3⟩)
theorem Tst.not {e : Expr} {pos : Pos} {b : Bool} (x : Tst C r sc ρ own e b) : Tst C r sc ρ own (.UnaryOp .Not e pos) (!b) := by
 constructor; intro A env W h₀ O h R G S tk qQ qE qK
 exact isTrue_not ((x.go A env W h₀ O h R G S).use2 fun v h1 tk1 e1 z => (qK _ h1 tk1 ⟨e1, by rw [z]⟩))
structure d8 (C : Cfg) (r : Nat) (sc : Scope) (ρ : Rho) (own : Own) (op : BoolOp) (es : List Expr) (b : Bool) : Prop where
 go : ∀ A env W h₀ O h, bL r A -> GlobOf env sc -> St C W h₀ env O ρ own h -> Tri C A (allTrue op es env) h fun b' h' => Ext C h h' /\ b' = b
theorem Tst.boolop {op : BoolOp} {es : List Expr} {pos : Pos} {b : Bool} (x : d8 C r sc ρ own op es b) : Tst C r sc ρ own (.BoolOp op es pos) b := by
 constructor; intro A env W h₀ O h R G S tk qQ qE qK
 exact wpAny_isTrue_BoolOp (x.go A env W h₀ O h R G S tk qQ qE qK)
theorem d8.and_nil : d8 C r sc ρ own .And [] true := ⟨fun A env W h₀ O h R G S tk qQ qE qK => wpAny_allTrue_And_nil (qK _ h _ ⟨.refl S.inv, rfl⟩)⟩
theorem d8.or_nil : d8 C r sc ρ own .Or [] false := ⟨fun A env W h₀ O h R G S tk qQ qE qK => wpAny_allTrue_Or_nil (qK _ h _ ⟨.refl S.inv, rfl⟩)⟩
theorem d8.and_cons {e : Expr} {es : List Expr} {b c : Bool} (x : Tst C r sc ρ own e b) (y : b = true -> d8 C r sc ρ own .And es c) : d8 C r sc ρ own .And (e :: es) (b && c) := by
 constructor; intro A env W h₀ O h R G S tk qQ qE qK
 refine wpAny_allTrue_And_cons ((x.go A env W h₀ O h R G S).use2 fun v h1 tk1 e1 z => ?_)
 subst z
 cases v with
 | false => exact (qK _ h1 tk1 ⟨e1, rfl⟩)
 | true => exact ((y rfl).go A env W h₀ O h1 R G (S.ext e1)).use2 fun v2 h2 tk2 e2 z2 => (qK _ h2 tk2 ⟨e1.trans e2, by rw [z2]; rfl⟩)
theorem d8.or_cons {e : Expr} {es : List Expr} {b c : Bool} (x : Tst C r sc ρ own e b) (y : b = false -> d8 C r sc ρ own .Or es c) : d8 C r sc ρ own .Or (e :: es) (b || c) := by
 constructor; intro A env W h₀ O h R G S tk qQ qE qK
 refine wpAny_allTrue_Or_cons ((x.go A env W h₀ O h R G S).use2 fun v h1 tk1 e1 z => ?_)
 subst z
 cases v with
 | true => exact (qK _ h1 tk1 ⟨e1, rfl⟩)
 | false => exact ((y rfl).go A env W h₀ O h1 R G (S.ext e1)).use2 fun v2 h2 tk2 e2 z2 => (qK _ h2 tk2 ⟨e1.trans e2, by rw [z2]; rfl⟩)
noncomputable def aB (C : Cfg) (op : CmpOp) (d1 d2 : D) (b : Bool) : Prop :=
 ∀ A W h v1 v2, A.handled = none -> A.units <= 9000 -> Inv C h -> Val C W h v1 d1 -> Val C W h v2 d2 -> Tri C A (compareOp op v1 v2) h fun v h' => h' = h /\ v = .bool b
theorem bL.units {r : Nat} {A : Around} (x : bL r A) : A.units <= 9000 := by have := x.2.2.1; lia
theorem Ev.cmp {a b : Expr} {op : CmpOp} {pos : Pos} {d1 d2 : D} {c : Bool} (x : Ev C r sc ρ own a d1) (y : Ev C r sc ρ own b d2) (k : aB C op d1 d2 c) (hm : autoParam (behindInMarks op b = false) tacR) :
  Ev C r sc ρ own (.Compare a [op] [b] pos) (.bool c) := by
 constructor; intro A env W h₀ O h R G S tk qQ qE qK
 refine wpAny_Compare1 ((x.go A env W h₀ O h R G S).use2 fun v1 h1 tk1 e1 z1 => ?_) hm
 have S1 := S.ext e1
 refine (y.go A env W h₀ O h1 R G S1).use2 fun v2 h2 tk2 e2 z2 => ?_
 refine (k A (Wof W own) h2 v1 v2 R.1 R.units (S1.ext e2).inv (z1.ext e2 S.tw) z2).use2 fun v h3 tk3 e3 z3 => ?_
 subst e3 z3
 exact (qK _ _ tk3 ⟨e1.trans e2, .bool _⟩)
theorem Tst.cmp {a b : Expr} {op : CmpOp} {pos : Pos} {d1 d2 : D} {c : Bool} (x : Ev C r sc ρ own a d1) (y : Ev C r sc ρ own b d2) (k : aB C op d1 d2 c) (hm : autoParam (behindInMarks op b = false) tacR) :
  Tst C r sc ρ own (.Compare a [op] [b] pos) c := by
 constructor; intro A env W h₀ O h R G S tk qQ qE qK
 refine wpAny_isTrue_Compare1 ((x.go A env W h₀ O h R G S).use2 fun v1 h1 tk1 e1 z1 => ?_) hm
 have S1 := S.ext e1
 refine (y.go A env W h₀ O h1 R G S1).use2 fun v2 h2 tk2 e2 z2 => ?_
 refine (k A (Wof W own) h2 v1 v2 R.1 R.units (S1.ext e2).inv (z1.ext e2 S.tw) z2).use2 fun v h3 tk3 e3 z3 => ?_
 subst e3 z3
 exact wpAny_truthy_bool (qK _ _ tk3 ⟨e1.trans e2, rfl⟩)
theorem aB.eqI {x y : Int} : aB C .Eq (.int x) (.int y) (x == y) := by
 intro A W h v1 v2 R U I z1 z2 tk qQ qE qK; refine z1.intE fun _ => ?_; refine z2.intE fun _ => ?_
 exact eq_int (qK _ h _ ⟨rfl, rfl⟩)
theorem aB.neI {x y : Int} : aB C .NotEq (.int x) (.int y) (x != y) := by
 intro A W h v1 v2 R U I z1 z2 tk qQ qE qK; refine z1.intE fun _ => ?_; refine z2.intE fun _ => ?_
 exact PyProof.Rows.ne_int (qK _ h _ ⟨rfl, rfl⟩)
theorem aB.ltI {x y : Int} : aB C .Lt (.int x) (.int y) (decide (x < y)) := by
 intro A W h v1 v2 R U I z1 z2 tk qQ qE qK; refine z1.intE fun _ => ?_; refine z2.intE fun _ => ?_
 exact lt_int (qK _ h _ ⟨rfl, rfl⟩)
theorem aB.leI {x y : Int} : aB C .LtE (.int x) (.int y) (decide (x <= y)) := by
 intro A W h v1 v2 R U I z1 z2 tk qQ qE qK; refine z1.intE fun _ => ?_; refine z2.intE fun _ => ?_
 exact PyProof.Rows.le_int (qK _ h _ ⟨rfl, rfl⟩)
theorem aB.gtI {x y : Int} : aB C .Gt (.int x) (.int y) (decide (y < x)) := by
 intro A W h v1 v2 R U I z1 z2 tk qQ qE qK; refine z1.intE fun _ => ?_; refine z2.intE fun _ => ?_
 exact PyProof.Rows.gt_int (qK _ h _ ⟨rfl, rfl⟩)
theorem aB.geI {x y : Int} : aB C .GtE (.int x) (.int y) (decide (y <= x)) := by
 intro A W h v1 v2 R U I z1 z2 tk qQ qE qK; refine z1.intE fun _ => ?_; refine z2.intE fun _ => ?_
 exact PyProof.Rows.ge_int (qK _ h _ ⟨rfl, rfl⟩)
theorem aB.eqS {x y : Str} : aB C .Eq (.str x) (.str y) (x == y) := by
 intro A W h v1 v2 R U I z1 z2 tk qQ qE qK; refine z1.strE fun _ => ?_; refine z2.strE fun _ => ?_
 exact eq_str (qK _ h _ ⟨rfl, rfl⟩)
theorem aB.inS {x y : Str} : aB C .In (.str y) (.str x) (!(Builtin.Str.occurrences x y 0 x.length 1).isEmpty) := by
 intro A W h v1 v2 R U I z1 z2 tk qQ qE qK; refine z1.strE fun _ => ?_; refine z2.strE fun _ => ?_
 exact P.in_str (qK _ h _ ⟨rfl, rfl⟩)
theorem aB.isN {d : D} (n : bU d) : aB C .Is d .none (match d with | .none => true | _ => false) := by
 intro A W h v1 v2 R U I z1 z2 tk qQ qE qK; cases z2
 cases z1 with
 | none => exact wpAny_is_self rfl (qK _ h _ ⟨rfl, rfl⟩)
 | _ => exact wpAny_is_other rfl nofun (qK _ h _ ⟨rfl, rfl⟩)
theorem Ev.ifexp {t a b : Expr} {pos : Pos} {c : Bool} {d : D} (x : Tst C r sc ρ own t c) (y : c = true -> Ev C r sc ρ own a d) (z : c = false -> Ev C r sc ρ own b d) : Ev C r sc ρ own (.IfExp t a b pos) d := by
 constructor; intro A env W h₀ O h R G S tk qQ qE qK
 refine wpAny_IfExp ((x.go A env W h₀ O h R G S).use2 fun v h1 tk1 e1 q => ?_)
 subst q
 cases v with
 | true => exact ((y rfl).go A env W h₀ O h1 R G (S.ext e1)).use2 fun v2 h2 tk2 e2 z2 => (qK _ h2 tk2 ⟨e1.trans e2, z2⟩)
 | false => exact ((z rfl).go A env W h₀ O h1 R G (S.ext e1)).use2 fun v2 h2 tk2 e2 z2 => (qK _ h2 tk2 ⟨e1.trans e2, z2⟩)
structure EvL (C : Cfg) (r : Nat) (sc : Scope) (ρ : Rho) (own : Own) (es : List Expr) (ds : List D) : Prop where
 go : ∀ A env W h₀ O h pos, bL r A -> GlobOf env sc -> St C W h₀ env O ρ own h -> Tri C A (spliced (backTo pos (starEach es env))) h fun vs h' => Ext C h h' /\ ao C (Wof W own) h' vs ds
theorem EvL.nil : EvL C r sc ρ own [] [] := ⟨fun A env W h₀ O h pos R G S tk qQ qE qK => spliced_nil (qK _ h _ ⟨.refl S.inv, .nil⟩)⟩
noncomputable def sv (s : Stmt) : Arguments × List Stmt × List Stmt × Scope × Expr :=
 Stmt.casesOn s (fun a b c d e f g h i j => (b, c, [], g, default)) (fun a b c d e f g h i j => default) (fun a b c d e f g h i j k => (default, d, [], default, default)) (fun a b => default) (fun a b => default) (fun a b c => (default, [], [], default, b)) (fun a b c d e f g => default) (fun a b c d => default) (fun a b c d e => default) (fun a b c d e => (default, c, d, default, default)) (fun a b c d e => default) (fun a b c d => default) (fun a b c d => (default, b, c, default, default)) (fun a b c => default) (fun a b c => default) (fun a b c => default) (fun a b c => default) (fun a b c d e => default) (fun a b c d e => default) (fun a b c => default) (fun a b => default) (fun a b c d => default) (fun a b => default) (fun a b => default) (fun a b => default) (fun a => default) (fun a => default) (fun a => default)
noncomputable def ev (e : Expr) : Str × Arguments × Expr × Scope :=
 Expr.casesOn e (fun a b c => default) (fun a b c => default) (fun a b c d => default) (fun a b c => default) (fun a b c d => ("", a, b, c)) (fun a b c d => default) (fun a b c => default) (fun a b c => default) (fun a b c d => default) (fun a b c d => default) (fun a b c d e => default) (fun a b c d => default) (fun a b => default) (fun a b => default) (fun a b => default) (fun a b c d => default) (fun a b c d => default) (fun a b c d => default) (fun a b => default) (fun a b c => default) (fun a b c => default) (fun a b c => default) (fun a b => default) (fun a b => (a, default)) (fun a b => default) (fun a b c => default) (fun a b c d => default)
noncomputable def notStar (e : Expr) : Bool := !(Nat.beq e.ctorIdx 22)
theorem aJ (e : Expr) (es : List Expr) (env : Env) (n : notStar e = true) : starEach (e :: es) env = (false, eval e env) :: starEach es env := by
 cases e <;> first | rfl | exact (Bool.false_ne_true n).elim
theorem EvL.cons {e : Expr} {es : List Expr} {d : D} {ds : List D} (x : Ev C r sc ρ own e d) (y : EvL C r sc ρ own es ds) (n : autoParam (notStar e = true) tacR) : EvL C r sc ρ own (e :: es) (d :: ds) := by
 constructor; intro A env W h₀ O h pos R G S tk qQ qE qK
 rw [aJ e es env n]
 show wpAny _ A (spliced ((false, eval e env) :: backTo pos (starEach es env))) _ _ _
 refine spliced_cons ((x.go A env W h₀ O h R G S).use2 fun v h1 tk1 e1 z => ?_)
 have S1 := S.ext e1
 exact (y.go A env W h₀ O h1 pos R G S1).use2 fun vs h2 tk2 e2 z2 => (qK _ h2 tk2 ⟨e1.trans e2, .cons (z.ext e2 S.tw) z2⟩)
inductive NewIs (C : Cfg) (W : Addr -> Prop) (own : Own) (h : Heap) (d : D) (v : Value) (h' : Heap) : Prop
 | mk (a : Addr) (e : v = .ref a) (f : h.get? a = Option.none) (m : a ≠ sysModules) (x : Ext C h h') (z : bc C (fun b => Wof W own b ∨ b = a) h' a d) : NewIs C W own h d v h'
structure EvF (C : Cfg) (r : Nat) (sc : Scope) (ρ : Rho) (own : Own) (e : Expr) (d : D) : Prop where
 go : ∀ A env W h₀ O h, bL r A -> GlobOf env sc -> St C W h₀ env O ρ own h -> Tri C A (eval e env) h (NewIs C W own h d)
theorem EvF.ev {e : Expr} {d : D} (x : EvF C r sc ρ own e d) (k1 : ∀ fs, d ≠ .ns fs := by nofun) : Ev C r sc ρ own e d := by
 constructor; intro A env W h₀ O h R G S
 refine (x.go A env W h₀ O h R G S).mono ?_
 rintro v h' ⟨a, e, f, m, e1, z⟩
 refine ⟨e1, ?_⟩
 subst e
 have nw : ¬ Wof W own a := fun q => S.wOld' a q f
 cases d with
 | list ds => obtain ⟨vs, n, g, l, q⟩ := z; exact .list g nw l (q.kp (.refl _) (S := fun _ => False) (fun _ f => f.elim) fun _ _ _ w => .inl w)
 | dict ds => obtain ⟨vs, g, _, l, q⟩ := z; exact .dict g m nw l (q.kp (.refl _) (S := fun _ => False) (fun _ f => f.elim) fun _ _ _ w => .inl w)
 | ns fs => exact absurd rfl (k1 fs)
 | _ => exact z.elim
theorem Ext.none_back {h h' : Heap} {a : Addr} (x : Ext C h h') (e : h'.get? a = Option.none) : h.get? a = Option.none := by
 cases q : h.get? a with
 | none => rfl
 | some o =>
  by_cases t : C.Tb a
  ·obtain ⟨vs, z⟩ := C.tabHas h' x.2.2 a t
   rw [e] at z; cases z
  ·rw [x.1 _ _ q t] at e; cases e
theorem Inv.size_mods {h : Heap} (I : Inv C h) : h.objs.size ≠ sysModules := fun q => by
 obtain ⟨mc, ⟨o, es, ep, e, _⟩, _⟩ := C.nolimit
 have z := Heap.lt_size (I.1 _ _ e)
 rw [q] at z
 exact absurd z (by decide)
theorem EvF.list {es : List Expr} {pos : Pos} {ds : List D} (x : EvL C r sc ρ own es ds) (l : ds.length <= 1048576) : EvF C r sc ρ own (.List es pos) (.list ds) := by
 constructor; intro A env W h₀ O h R G S tk qQ qE qK
 refine wpAny_List_spliced ((x.go A env W h₀ O h pos R G S).use2 fun vs h1 tk1 e1 z => ⟨by have := z.length; simp [sizeLine]; lia, ?_⟩)
 have S1 := S.ext e1
 have e2 : Ext C h1 (h1.push (aM vs 0)) := .push S1.inv _
 exact (qK _ _ tk1 ⟨_, rfl, e1.none_back (aj h1), S1.inv.size_mods, e1.trans e2, vs, 0, Heap.get?_push_size _ rfl, l, z.kp e2.1 S.tw fun b o e q => q.elim id fun q => by rw [q, aj] at e; cases e⟩)
theorem Ev.tup {es : List Expr} {k : Nat} {pos : Pos} {ds : List D} (x : EvL C r sc ρ own es ds) (l : ds.length <= 1048576) : Ev C r sc ρ own (.Tuple es k pos) (.tup ds) := by
 constructor; intro A env W h₀ O h R G S tk qQ qE qK
 refine wpAny_Tuple_spliced ((x.go A env W h₀ O h pos R G S).use2 fun vs h1 tk1 e1 z => ⟨by have := z.length; simp [sizeLine]; lia, ?_⟩)
 have S1 := S.ext e1
 have e2 : Ext C h1 (h1.push (tupObj vs 0)) := .push S1.inv _
 exact (qK _ _ tk1 ⟨e1.trans e2, .tup ⟨_, Heap.get?_push_size _ rfl, rfl, 0, rfl⟩ (eH S1.wOld') l (z.ext e2 S.tw)⟩)
end
inductive cX where
 | next | brk | cont
 | ret (d : D)
noncomputable def FlowIs (C : Cfg) (W : Addr -> Prop) (h : Heap) : Flow -> cX -> Prop
 | .next, .next => True
 | .brk, .brk => True
 | .cont, .cont => True
 | .ret v, .ret d => Val C W h v d
 | _, _ => False
noncomputable def Mut (C : Cfg) (env : Env) (O : Str -> Prop) (own : Own) (a : Addr) : Prop := C.Tb a ∨ a = env.locals ∨ (∃ x, O x /\ env.cells.lookup x = some a) ∨ a ∈ own.map (·.1)
noncomputable abbrev aZ := cX -> Rho -> Own -> Prop
noncomputable def d7 (own own' : Own) (h : Heap) : Prop := ∀ a ∈ own'.map (·.1), a ∈ own.map (·.1) ∨ h.get? a = Option.none
inductive iw (C : Cfg) (W : Addr -> Prop) (h₀ : Heap) (env : Env) (O : Str -> Prop) (own : Own) (h : Heap) (P : aZ) (f : Flow) (h' : Heap) : Prop
 | mk (fd : cX) (ρ' : Rho) (own' : Own) (p : P fd ρ' own') (S : St C W h₀ env O ρ' own' h') (fi : FlowIs C (Wof W own') h' f fd) (k : Kp (Mut C env O own) h h') (g : d7 own own' h) : iw C W h₀ env O own h P f h'
theorem iw.mono {W : Addr -> Prop} {h₀ h : Heap} {env : Env} {O : Str -> Prop} {own : Own} {P P' : aZ} {f : Flow} {h' : Heap} (k : ∀ fd ρ' own', P fd ρ' own' -> P' fd ρ' own') : iw C W h₀ env O own h P f h' -> iw C W h₀ env O own h P' f h'
 | ⟨fd, ρ', own', p, S, fi, k2, g⟩ => ⟨fd, ρ', own', k _ _ _ p, S, fi, k2, g⟩
theorem Tri.useX {A : Around} {t : Sem Flow} {W : Addr -> Prop} {h₀ h : Heap} {env : Env} {O : Str -> Prop} {own : Own} {P : aZ} (x : Tri C A t h (iw C W h₀ env O own h P)) {Q : Flow -> Shared -> Prop} {E : Value -> Shared -> Prop} {tk : Tok}
  (k : ∀ f h' tk' fd ρ' own', P fd ρ' own' -> St C W h₀ env O ρ' own' h' -> FlowIs C (Wof W own') h' f fd -> Kp (Mut C env O own) h h' -> d7 own own' h -> Q f (sh C h' tk')) : wpAny (md C) A t Q E (sh C h tk) := x.use (by rintro f h' tk' ⟨fd, ρ', own', p, S, fi, k2, g⟩; exact k f h' tk' fd ρ' own' p S fi k2 g)
structure X (C : Cfg) (r : Nat) (sc : Scope) (O : Str -> Prop) (ρ : Rho) (own : Own) (ss : List Stmt) (P : aZ) : Prop where
 go : ∀ A env W h₀ h, bL r A -> env.scope = sc -> St C W h₀ env O ρ own h ->
  Tri C A (execs ss env) h (iw C W h₀ env O own h P)
noncomputable def CodeIs (C : Cfg) (env : Env) (cd : Value) : Prop := env.code = cd /\ ∃ q, C.hB.CodeRec cd q /\ env.qual = q ++ (".<locals>." : Str)
structure Xc (C : Cfg) (r : Nat) (sc : Scope) (cd : Value) (O : Str -> Prop) (ρ : Rho) (own : Own) (ss : List Stmt) (P : aZ) : Prop where
 go : ∀ A env W h₀ h, bL r A -> env.scope = sc -> CodeIs C env cd -> St C W h₀ env O ρ own h ->
  Tri C A (execs ss env) h (iw C W h₀ env O own h P)
structure X1 (C : Cfg) (r : Nat) (sc : Scope) (O : Str -> Prop) (ρ : Rho) (own : Own) (s : Stmt) (P : aZ) : Prop where
 go : ∀ A env W h₀ h, bL r A -> env.scope = sc -> St C W h₀ env O ρ own h ->
  Tri C A (exec s env) h (iw C W h₀ env O own h P)
theorem Kp.seq {env : Env} {O : Str -> Prop} {own own' : Own} {h h' h'' : Heap} (k : Kp (Mut C env O own) h h') (g : d7 own own' h) (k' : Kp (Mut C env O own') h' h'') : Kp (Mut C env O own) h h'' := by
 intro b o e n
 refine k' b o (k b o e n) fun q => ?_
 rcases q with q | q | q | q
 ·exact n (.inl q)
 ·exact n (.inr (.inl q))
 ·exact n (.inr (.inr (.inl q)))
 ·rcases g b q with q | q
  ·exact n (.inr (.inr (.inr q)))
  ·rw [q] at e; cases e
theorem d7.trans {env : Env} {O : Str -> Prop} {own own' own'' : Own} {h h' : Heap} (k : Kp (Mut C env O own) h h') (g : d7 own own' h) (g' : d7 own' own'' h') (tb : C.TabOk h') (cl : ∀ x, O x -> ∃ c v₀, env.cells.lookup x = some c /\ h'.IsCell c v₀)
  (nl : h'.get? env.locals ≠ Option.none) : d7 own own'' h := by
 intro a ha
 rcases g' a ha with q | q
 ·exact g a q
 ·cases e : h.get? a with
  | none => exact .inr rfl
  | some o =>
   left
   by_cases m : Mut C env O own a
   ·rcases m with m | m | m | m
    ·obtain ⟨vs, z⟩ := C.tabHas h' tb a m; rw [q] at z; cases z
    ·rw [m] at q; exact absurd q nl
    ·obtain ⟨x, hx, hl⟩ := m
     obtain ⟨c, v, l, ⟨o', i, _⟩⟩ := cl x hx
     rw [hl] at l; cases l
     rw [q] at i; cases i
    ·exact m
   ·rw [k a o e m] at q; cases q
theorem St.cells' {W : Addr -> Prop} {h₀ h : Heap} {env : Env} {O : Str -> Prop} {ρ : Rho} {own : Own} (S : St C W h₀ env O ρ own h) : ∀ x, O x -> ∃ c v₀, env.cells.lookup x = some c /\ h.IsCell c v₀ := fun x hx => by obtain ⟨c, v, a, b, _⟩ := S.cells x hx; exact ⟨c, v, a, b⟩
section
variable {r : Nat} {sc : Scope} {O : Str -> Prop} {ρ : Rho} {own : Own} {P : aZ}
theorem X.nil (p : P .next ρ own) : X C r sc O ρ own [] P := by
 constructor; intro A env W h₀ h R G S
 exact Tri.pure ⟨.next, ρ, own, p, S, trivial, .refl _, fun a q => .inl q⟩
noncomputable def Then (C : Cfg) (r : Nat) (sc : Scope) (O : Str -> Prop) (ss : List Stmt) (P : aZ) (f : cX) (ρ : Rho) (own : Own) : Prop := cX.casesOn f (X C r sc O ρ own ss P) (P .brk ρ own) (P .cont ρ own) fun d => P (.ret d) ρ own
theorem X.cons {s : Stmt} {ss : List Stmt} (x : X1 C r sc O ρ own s (Then C r sc O ss P)) : X C r sc O ρ own (s :: ss) P := by
 constructor; intro A env W h₀ h R G S tk qQ qE qK
 refine wpAny_execs_cons ((x.go A env W h₀ h R G S).useX fun f h1 tk1 fd ρ1 own1 p S1 fi k1 g1 => ?_)
 cases f <;> cases fd <;> first | exact fi.elim | skip
 ·refine (p.go A env W h₀ h1 R G S1).useX fun f h2 tk2 fd ρ2 own2 p2 S2 fi2 k2 g2 => ?_
  obtain ⟨m, n⟩ := S1.ns
  exact (qK _ h2 tk2 ⟨fd, ρ2, own2, p2, S2, fi2, k1.seq g1 k2, g1.trans k1 g2 S1.inv.2 S1.cells' (by obtain ⟨o, _, _, e, _⟩ := n; exact bw (e))⟩)
 ·exact (qK _ h1 tk1 ⟨.brk, ρ1, own1, p, S1, trivial, k1, g1⟩)
 ·exact (qK _ h1 tk1 ⟨.cont, ρ1, own1, p, S1, trivial, k1, g1⟩)
 ·exact (qK _ h1 tk1 ⟨.ret _, ρ1, own1, p, S1, fi, k1, g1⟩)
end
theorem extBut_kp {a : Addr} {h h' : Heap} (x : Heap.ExtBut a h h') : Kp (fun b => b = a) h h' := fun b o e n => x b o n e
noncomputable def lC (env : Env) (O : Str -> Prop) (a : Addr) : Prop := a = env.locals ∨ ∃ x, O x /\ env.cells.lookup x = some a
noncomputable def aN (C : Cfg) (env : Env) (O : Str -> Prop) (a : Addr) : Prop := C.Tb a ∨ lC env O a
theorem lC.mut {env : Env} {O : Str -> Prop} {own : Own} {a : Addr} (x : lC env O a) : Mut C env O own a := by
 rcases x with x | x
 ·exact .inr (.inl x)
 ·exact .inr (.inr (.inl x))
noncomputable def Sto (sc : Scope) (O : Str -> Prop) (x : Str) : Prop := sc.names.lookup x = some .local ∨ (sc.names.lookup x = some .cell /\ O x)
theorem ak {x y : Str} {d : D} {ρ : Rho} : List.lookup y ((x, d) :: ρ) = if y = x then some d else ρ.lookup y := by
 rw [List.lookup_cons]
 by_cases h : y = x
 ·subst h; simp
 ·rw [if_neg h, beq_eq_false_iff_ne.mpr h]
theorem St.touch {W : Addr -> Prop} {h₀ h h' : Heap} {env : Env} {O : Str -> Prop} {ρ ρ' : Rho} {own own' : Own} {a : Addr} (S : St C W h₀ env O ρ own h) (x : Kp (fun b => C.Tb b ∨ b = a) h h') (I' : Inv C h')
  (fa : cz C a) (f0 : h₀.get? a = Option.none) (wa : Wof W own a) (ex : bz h' a) (ow1 : own'.map (·.1) = own.map (·.1))
  (hns : ∃ m, h'.Ns env.locals m) (bd : ∀ y d, ρ'.lookup y = some d -> ∃ v, Bound env h' y v /\ VT C (Wof W own') own' h' v d)
  (cl : ∀ x, O x -> ∃ c v₀, env.cells.lookup x = some c /\ h'.IsCell c v₀) (ow : ∀ p ∈ own', bc C (Wof W own') h' p.1 p.2) : St C W h₀ env O ρ' own' h' := by
 refine ⟨I', fun b o e n => x b o (S.keep b o e n) (fun q => q.elim n fun q => by rw [q, f0] at e; cases e), S.kind, S.glob, S.blt, hns, S.nsW, S.nsF, fun y hy => ?_, fun y c l => ⟨?_, (S.seen y c l).2⟩, S.apart, S.tbW, S.wok.kp I' x fun b q => q.imp id (fun (q : b = a) => q ▸ ex), bd, fun p hp => ⟨ow p hp, ?_⟩, by rw [ow1]; exact S.nodup⟩
 ·obtain ⟨c, v, l, i⟩ := cl y hy
  obtain ⟨c', v', l', i', r⟩ := S.cells y hy
  rw [l] at l'; cases l'
  exact ⟨c, v, l, i, r⟩
 ·by_cases q : c = a
  ·rw [q]; exact ex.ne
  ·cases e : h.get? c with
   | none => exact absurd e (S.seen y c l).1
   | some o => exact bw (x c o e fun z => z.elim (S.seen y c l).2 q)
 ·have : p.1 ∈ own.map (·.1) := ow1 ▸ List.mem_map.mpr ⟨p, hp, rfl⟩
  obtain ⟨p', hp', e⟩ := List.mem_map.mp this
  have z := (S.owns p' hp').2
  rw [e] at z
  exact z
set_option tactic.hygienic true in
theorem Wof.congr {W : Addr -> Prop} {own own' : Own} (e : own'.map (·.1) = own.map (·.1)) : Wof W own' = Wof W own := by
 funext a; unfold Wof; rw [e]
theorem St.own_ne {W : Addr -> Prop} {h₀ h : Heap} {env : Env} {O : Str -> Prop} {ρ : Rho} {own : Own} (S : St C W h₀ env O ρ own h) {a : Addr} (ha : W a) : a ∉ own.map (·.1) := fun q => by
 obtain ⟨p, hp, rfl⟩ := List.mem_map.mp q
 exact (S.owns p hp).2.1 ha
theorem bc.but {W : Addr -> Prop} {own : Own} {h h' : Heap} {a b : Addr} {d : D} (k : Kp (fun b => C.Tb b ∨ b = a) h h') (wa : Wof W own a) (tw : ∀ a, C.Tb a -> Wof W own a) (ne : ¬ (C.Tb b ∨ b = a)) (x : bc C (Wof W own) h b d) : bc C (Wof W own) h' b d := by
 have hs : ∀ c, (C.Tb c ∨ c = a) -> Wof W own c := fun c q => q.elim (tw c) fun q => q ▸ wa
 exact x.kp k hs (fun _ _ _ q => q) (fun _ q => q) ne
section
variable {r : Nat} {sc : Scope} {O : Str -> Prop} {ρ : Rho} {own : Own} {P : aZ}
inductive StoreIs (C : Cfg) (W : Addr -> Prop) (h₀ : Heap) (env : Env) (O : Str -> Prop) (h : Heap) (x : Str) (v : Value) (h' : Heap) : Prop
 | mk (a : Addr) (hs : Heap.SameBut a h h') (nc : ∀ o, h.get? a = some o -> bM o) (ma : lC env O a) (wa : W a) (fa : cz C a) (f0 : h₀.get? a = Option.none) (ex : bz h' a) (hns : ∃ m, h'.Ns env.locals m)
   (bx : Bound env h' x v) (by' : ∀ y u, y ≠ x -> Bound env h y u -> Bound env h' y u) (cl : ∀ x, O x -> ∃ c v₀, env.cells.lookup x = some c /\ h'.IsCell c v₀) : StoreIs C W h₀ env O h x v h'
theorem St.storeRaw {W : Addr -> Prop} {h₀ h : Heap} {env : Env} {A : Around} {x : Str} {v : Value} (S : St C W h₀ env O ρ own h) (hst : Sto env.scope O x) :
  Tri C A (storeName env x v) h fun _ => StoreIs C W h₀ env O h x v := by
 intro tk qQ qE qK
 obtain ⟨m, n⟩ := S.ns
 rcases hst with hl | ⟨hl, hO⟩
 ·refine wpAny_storeName_local hl n (fun h' n' hs' => (qK _ h' _ ⟨env.locals, hs', mJ n, .inl rfl, S.nsW, S.nsF.1, S.nsF.2, .ns n', ⟨_, n'⟩, .inl ⟨hl, _, n', by simp⟩, fun y u hy b => ?_, fun y hy => ?_⟩)) (by rw [S.kind]; rfl)
  ·rcases b with ⟨a, m2, n2, e⟩ | ⟨a, c, l, ci⟩
   ·refine .inl ⟨a, _, n', ?_⟩
    rw [if_neg hy]
    obtain ⟨o, es, ep, e1, e2, _, e4⟩ := n
    obtain ⟨o', es', ep', e1', e2', _, e4'⟩ := n2
    rw [e1] at e1'; cases e1'; rw [e2] at e2'; cases e2'
    rw [<- e4 y, e4' y]; exact e
   ·exact .inr ⟨a, c, l, ci.sameBut hs' (by rintro rfl; obtain ⟨o, _, _, e, d1, _⟩ := n; obtain ⟨o', e', d'⟩ := ci; rw [e] at e'; cases e'; rw [d1] at d'; cases d')⟩
  ·obtain ⟨c, v₀, l, ci⟩ := S.cells' y hy
   exact ⟨c, v₀, l, ci.sameBut hs' (by rintro rfl; obtain ⟨o, _, _, e, d1, _⟩ := n; obtain ⟨o', e', d'⟩ := ci; rw [e] at e'; cases e'; rw [d1] at d'; cases d')⟩
 ·obtain ⟨c, v₀, l, ci, wc, fc, f0⟩ := S.cells x hO
  have hcL : env.locals ≠ c := by rintro rfl; obtain ⟨o, _, _, e, d1, _⟩ := n; obtain ⟨o', e', d'⟩ := ci; rw [e] at e'; cases e'; rw [d1] at d'; cases d'
  refine wpAny_storeName_cell S.kind hl l ci fun h' ci' hs' => (qK _ h' _ ⟨c, hs', nc_cell ci, .inr ⟨x, hO, l⟩, wc, fc, f0, .cell ci', ⟨m, n.sameBut hs' hcL⟩, .inr ⟨.inl hl, c, l, ci'⟩, fun y u hy b => ?_, fun y hy => ?_⟩)
  ·rcases b with ⟨a, m2, n2, e⟩ | ⟨a, c2, l2, ci2⟩
   ·exact .inl ⟨a, m2, n2.sameBut hs' hcL, e⟩
   ·exact .inr ⟨a, c2, l2, ci2.sameBut hs' (by rintro rfl; exact hy (S.apart _ _ _ l2 l))⟩
  ·obtain ⟨c2, v2, l2, ci2⟩ := S.cells' y hy
   by_cases q : c2 = c
   ·subst q; exact ⟨c2, _, l2, ci'⟩
   ·exact ⟨c2, v2, l2, ci2.sameBut hs' q⟩
theorem St.store {W : Addr -> Prop} {h₀ h : Heap} {env : Env} {A : Around} {x : Str} {v : Value} {d : D} (S : St C W h₀ env O ρ own h) (hst : Sto env.scope O x) (z : VT C (Wof W own) own h v d) :
  Tri C A (storeName env x v) h fun _ h' => St C W h₀ env O ((x, d) :: ρ) own h' /\ Kp (lC env O) h h' := by
 refine (S.storeRaw (A := A) hst).mono ?_
 rintro _ h' ⟨a, hs, nc, ma, wa, fa, f0, ex, hns, bx, by', cl⟩
 have wa' : Wof W own a := .inl wa
 have kk : Kp (fun b => C.Tb b ∨ b = a) h h' := fun b o e n => hs.extBut b o (fun q => n (.inr q)) e
 have hsS : ∀ c, (C.Tb c ∨ c = a) -> Wof W own c := fun c q => q.elim (S.tw c) fun q => q ▸ wa'
 refine ⟨S.touch kk (S.inv.extBut fa nc hs.extBut) fa f0 wa' ex rfl hns (fun y e hy => ?_) cl (fun p hp => ?_), fun b o e n => hs.extBut b o (fun q => n (q ▸ ma)) e⟩
 ·rw [ak] at hy
  by_cases q : y = x
  ·rw [if_pos q] at hy; cases hy; subst q
   exact ⟨v, bx, z.kp kk hsS (fun _ _ _ q => q) fun _ q => q⟩
  ·rw [if_neg q] at hy
   obtain ⟨u, b, zz⟩ := S.bound y e hy
   exact ⟨u, by' y u q b, zz.kp kk hsS (fun _ _ _ q => q) fun _ q => q⟩
 ·obtain ⟨o1, nw, _⟩ := S.owns p hp
  exact o1.but kk wa' S.tw fun q => q.elim (fun q => nw (S.tbW _ q)) fun q => nw (q ▸ wa)
structure Asg (C : Cfg) (r : Nat) (sc : Scope) (O : Str -> Prop) (t : Expr) (d : D) (upd : Rho -> Rho) : Prop where
 go : ∀ A env W h₀ ρ own h v, bL r A -> (∀ x, Sto sc O x -> Sto env.scope O x) -> St C W h₀ env O ρ own h -> VT C (Wof W own) own h v d ->
  Tri C A (assign t env v) h fun _ h' => St C W h₀ env O (upd ρ) own h' /\ Kp (aN C env O) h h'
theorem aN.mut {env : Env} {O : Str -> Prop} {own : Own} {a : Addr} (x : aN C env O a) : Mut C env O own a := x.elim .inl lC.mut
theorem Asg.name {x : Str} {pos : Pos} {d : D} (k : Sto sc O x) : Asg C r sc O (.Name x pos) d fun ρ => (x, d) :: ρ := by
 constructor; intro A env W h₀ ρ own h v R sto S z tk qQ qE qK
 refine wpAny_assign_Name ((S.store (A := A) (sto x k) z).use2 fun _ h' tk' a b => (qK _ h' tk' ⟨a, b.mono fun _ q => .inr q⟩))
structure jW (C : Cfg) (r : Nat) (sc : Scope) (O : Str -> Prop) (ts : List Expr) (ds : List D) (upd : Rho -> Rho) : Prop where
 go : ∀ A env W h₀ ρ own h vs, bL r A -> (∀ x, Sto sc O x -> Sto env.scope O x) -> St C W h₀ env O ρ own h -> ao C (Wof W own) h vs ds ->
  Tri C A (assignInOrder ((assignEach ts env).map (·.2)) vs) h fun _ h' => St C W h₀ env O (upd ρ) own h' /\ Kp (aN C env O) h h'
theorem jW.nil : jW C r sc O [] [] id := by
 constructor; intro A env W h₀ ρ own h vs R sto S z tk qQ qE qK
 cases z
 exact wpAny_assignInOrder_none (qK _ h tk ⟨S, .refl _⟩)
theorem bJ (t : Expr) (ts : List Expr) (env : Env) (n : notStar t = true) : assignEach (t :: ts) env = (false, assign t env) :: assignEach ts env := by
 cases t <;> first | rfl | cases n
theorem aN.sub {W : Addr -> Prop} {h₀ h : Heap} {env : Env} {ρ : Rho} {own : Own} (S : St C W h₀ env O ρ own h) {a : Addr} (x : aN C env O a) : Wof W own a := by
 rcases x with x | x | ⟨y, hy, hl⟩
 ·exact S.tw a x
 ·exact .inl (x ▸ S.nsW)
 ·obtain ⟨c, v, l, _, w, _⟩ := S.cells y hy
  rw [hl] at l; cases l
  exact .inl w
theorem jW.cons {t : Expr} {ts : List Expr} {d : D} {ds : List D} {u1 u2 : Rho -> Rho} (x : Asg C r sc O t d u1) (y : jW C r sc O ts ds u2) (n : autoParam (notStar t = true) tacR) : jW C r sc O (t :: ts) (d :: ds) (u2 ∘ u1) := by
 constructor; intro A env W h₀ ρ own h vs R sto S z tk qQ qE qK
 cases z with | cons z1 z2 =>
 rw [bJ t ts env n]
 refine wpAny_assignInOrder_more ((x.go A env W h₀ ρ own h _ R sto S (.of z1)).use2 fun _ h1 tk1 S1 k1 => ?_)
 exact (y.go A env W h₀ _ own h1 _ R sto S1 (z2.keep k1 fun a q => aN.sub S q)).use2 fun _ h2 tk2 S2 k2 => (qK _ h2 tk2 ⟨S2, k1.trans k2⟩)
theorem fV (ts : List Expr) (env : Env) : (assignEach ts env).length = ts.length := by
 induction ts with
 | nil => rfl
 | cons t ts ih => cases t <;> (show (_ :: assignEach ts env).length = _; rw [List.length_cons, List.length_cons, ih])
theorem fU {ts : List Expr} (env : Env) (n : ts.all notStar = true) : (assignEach ts env).findIdx? (·.1) = Option.none := by
 rw [List.findIdx?_eq_none_iff]
 induction ts with
 | nil => intro x hx; cases hx
 | cons t ts ih =>
  simp only [List.all_cons, Bool.and_eq_true] at n
  intro x hx
  rw [bJ t ts env n.1] at hx
  rcases List.mem_cons.mp hx with rfl | hx
  ·rfl
  ·exact ih n.2 x hx
theorem Asg.tup {ts : List Expr} {ds : List D} {k : Nat} {pos : Pos} {u : Rho -> Rho} (x : jW C r sc O ts ds u) (hl : autoParam (ts.length = ds.length) tacR) (n : autoParam (ts.all notStar = true) tacR) : Asg C r sc O (.Tuple ts k pos) (.tup ds) u := by
 constructor; intro A env W h₀ ρ own h v R sto S z tk qQ qE qK
 have z : Val C (Wof W own) h v (.tup ds) := z
 refine z.tupE fun _ _ e nw l r => ?_
 refine wpAny_assign_Tuple R.1 e (by rw [fV, hl]; have := r.length; simp [this]) (fU env n) fun h1 hx => ?_
 have e1 : Ext C h h1 := .all S.inv fun b o q => hx b o (Nat.ne_of_lt (Heap.lt_size q)) q
 exact (x.go A env W h₀ ρ own h1 _ R sto (S.ext e1) (r.ext e1 S.tw)).use2 fun _ h2 tk2 S2 k2 => (qK _ h2 tk2 ⟨S2, (e1.1.mono fun _ q => .inl q).trans k2⟩)
theorem X1.ret {e : Expr} {pos : Pos} {d : D} (x : Ev C r sc ρ own e d) (p : P (.ret d) ρ own) : X1 C r sc O ρ own (.Return (some e) pos) P := by
 constructor; intro A env W h₀ h R G S tk qQ qE qK
 refine wpAny_Return_some ((x.go A env W h₀ O h R (fun y => by rw [<- G]; exact ⟨id, id⟩) S).use2 fun v h1 tk1 e1 z => (qK _ h1 tk1 ⟨.ret d, ρ, own, p, S.ext e1, z, e1.1.mono fun _ q => .inl q, fun a q => .inl q⟩))
theorem az {env : Env} (G : env.scope = sc) : GlobOf env sc := fun y => by rw [<- G]; exact ⟨id, id⟩
theorem X1.iff {t : Expr} {b : Bool} {ss es : List Stmt} {pos : Pos} (x : Tst C r sc ρ own t b) (y : b = true -> X C r sc O ρ own ss P) (z : b = false -> X C r sc O ρ own es P) : X1 C r sc O ρ own (.If t ss es pos) P := by
 constructor; intro A env W h₀ h R G S tk qQ qE qK
 refine wpAny_If ((x.go A env W h₀ O h R (az G) S).use2 fun v h1 tk1 e1 q => ?_)
 subst q
 have k1 : Kp (Mut C env O own) h h1 := e1.1.mono fun _ q => .inl q
 have gn : ∀ {own' : Own}, d7 own own' h1 -> d7 own own' h := fun g a ha => (g a ha).imp id fun q => e1.none_back q
 cases v with
 | true => exact ((y rfl).go A env W h₀ h1 R G (S.ext e1)).useX fun f h2 tk2 fd ρ2 own2 p2 S2 f2 k2 g2 => (qK _ h2 tk2 ⟨fd, ρ2, own2, p2, S2, f2, k1.trans k2, gn g2⟩)
 | false => exact ((z rfl).go A env W h₀ h1 R G (S.ext e1)).useX fun f h2 tk2 fd ρ2 own2 p2 S2 f2 k2 g2 => (qK _ h2 tk2 ⟨fd, ρ2, own2, p2, S2, f2, k1.trans k2, gn g2⟩)
theorem X1.brk {pos : Pos} (p : P .brk ρ own) : X1 C r sc O ρ own (.Break pos) P := by
 constructor; intro A env W h₀ h R G S tk qQ qE qK
 exact wpAny_Break (qK _ h tk ⟨.brk, ρ, own, p, S, trivial, .refl _, fun a q => .inl q⟩)
end
theorem bQ {sc : Scope} {O : Str -> Prop} {env : Env} (G : env.scope = sc) : ∀ x, Sto sc O x -> Sto env.scope O x := fun x q => by rw [G]; exact q
section
variable {r : Nat} {sc : Scope} {O : Str -> Prop} {ρ : Rho} {own : Own} {P : aZ}
structure AsgA (C : Cfg) (r : Nat) (sc : Scope) (O : Str -> Prop) (ts : List Expr) (d : D) (upd : Rho -> Rho) : Prop where
 go : ∀ A env W h₀ ρ own h v, bL r A -> (∀ x, Sto sc O x -> Sto env.scope O x) -> St C W h₀ env O ρ own h -> VT C (Wof W own) own h v d ->
  Tri C A (assignAll v ((assignEach ts env).map (·.2))) h fun _ h' => St C W h₀ env O (upd ρ) own h' /\ Kp (aN C env O) h h'
theorem AsgA.one {t : Expr} {d : D} {u : Rho -> Rho} (x : Asg C r sc O t d u) (n : autoParam (notStar t = true) tacR) : AsgA C r sc O [t] d u := by
 constructor; intro A env W h₀ ρ own h v R sto S z
 rw [bJ t [] env n]
 exact x.go A env W h₀ ρ own h v R sto S z
theorem AsgA.cons {t t' : Expr} {ts : List Expr} {d : D} {u1 u2 : Rho -> Rho} (x : Asg C r sc O t d u1) (y : AsgA C r sc O (t' :: ts) d u2) (n : autoParam (notStar t = true) tacR) (n' : autoParam (notStar t' = true) tacR) : AsgA C r sc O (t :: t' :: ts) d (u2 ∘ u1) := by
 constructor; intro A env W h₀ ρ own h v R sto S z tk qQ qE qK
 rw [bJ t _ env n, bJ t' _ env n']
 show wpAny _ A (do holding [v] (assign t env v); assignAll v (assign t' env :: ((assignEach ts env).map (·.2)))) _ _ _
 refine wpAny_bind (wpAny_holding ((x.go A env W h₀ ρ own h v R sto S z).use2 fun _ h1 tk1 S1 k1 => ?_))
 have y' := y.go A env W h₀ _ own h1 v R sto S1 (z.kp k1 (fun a q => aN.sub S q) (fun _ _ _ q => q) fun _ q => q)
 rw [bJ t' _ env n'] at y'
 exact y'.use2 fun _ h2 tk2 S2 k2 => (qK _ h2 tk2 ⟨S2, k1.trans k2⟩)
theorem X1.assignA {ts : List Expr} {e : Expr} {pos : Pos} {d : D} {u : Rho -> Rho} (x : Ev C r sc ρ own e d) (y : AsgA C r sc O ts d u) (p : P .next (u ρ) own)
  (h1 : ∀ env line, env.scope = sc -> swapsWithSole ts e line env = pure false) (h2 : ∀ env, env.scope = sc -> swappedStores ts e env = pure Option.none) : X1 C r sc O ρ own (.Assign ts e pos) P := by
 constructor; intro A env W h₀ h R G S tk qQ qE qK
 refine wpAny_Assign_stores ((x.go A env W h₀ O h R (az G) S).use2 fun v h1 tk1 e1 z => ?_) (h1 env _ G) (h2 env G)
 exact (y.go A env W h₀ ρ own h1 v R (bQ G) (S.ext e1) (.of z)).use2 fun _ h2 tk2 S2 k2 => (qK _ h2 tk2 ⟨.next, u ρ, own, p, S2, trivial, (e1.1.mono fun _ q => .inl q).trans (k2.mono fun _ q => aN.mut q), fun a q => .inl q⟩)
theorem X1.assign {t : Expr} {e : Expr} {pos : Pos} {d : D} {u : Rho -> Rho} (x : Ev C r sc ρ own e d) (y : Asg C r sc O t d u) (p : P .next (u ρ) own) (n : autoParam (notStar t = true) tacR)
  (h1 : autoParam (∀ env line, env.scope = sc -> swapsWithSole [t] e line env = pure false) tacI3) (h2 : autoParam (∀ env, env.scope = sc -> swappedStores [t] e env = pure Option.none) tacI2) : X1 C r sc O ρ own (.Assign [t] e pos) P :=
 X1.assignA x (.one y n) p h1 h2
theorem St.adopt {W : Addr -> Prop} {h₀ h h' : Heap} {env : Env} {a : Addr} {d : D} (S : St C W h₀ env O ρ own h) (x : Ext C h h') (f : h.get? a = Option.none) (o : bc C (fun b => Wof W own b ∨ b = a) h' a d) :
  St C W h₀ env O ρ ((a, d) :: own) h' := by
 have S' := S.ext x
 have hw : ∀ b, Wof W ((a, d) :: own) b -> Wof W own b ∨ b = a := by
  rintro b (q | q)
  ·exact .inl (.inl q)
  ·rcases List.mem_cons.mp q with q | q
   ·exact .inr q
   ·exact .inl (.inr q)
 have hw2 : ∀ b, Wof W own b ∨ b = a -> Wof W ((a, d) :: own) b := by
  rintro b ((q | q) | q)
  ·exact .inl q
  ·exact .inr (List.mem_cons_of_mem _ q)
  ·exact .inr (q ▸ List.mem_cons_self)
 have hk : ∀ b o, h.get? b = some o -> Wof W ((a, d) :: own) b -> Wof W own b := fun b o e q => (hw b q).elim id fun q => by rw [q, f] at e; cases e
 refine { S' with bound := fun y e hy => ?_, owns := fun p hp => ?_, nodup := ?_ }
 ·obtain ⟨v, b, z⟩ := S.bound y e hy
  refine ⟨v, b.kp x.1 (fun m n => S.inv.ns_notTb n) (fun c v e => S.inv.cell_notTb e), z.kp x.1 S.tw hk fun b q => List.mem_cons_of_mem _ q⟩
 ·rcases List.mem_cons.mp hp with rfl | hp
  ·refine ⟨o.kp (.refl _) (S := fun _ => False) (fun _ f => f.elim) (fun b _ _ q => hw b q) (fun b q => hw2 b q) id, fun q => S.wOld a q f, S.inv.fresh_of_none f, ?_⟩
   cases e : h₀.get? a with
   | none => rfl
   | some o' =>
    by_cases t : C.Tb a
    ·obtain ⟨vs, e'⟩ := C.tabHas h S.inv.2 a t; rw [f] at e'; cases e'
    ·rw [S.keep a o' e t] at f; cases f
  ·obtain ⟨o1, w1, r1⟩ := S.owns p hp
   exact ⟨o1.kp x.1 S.tw hk (fun b q => hw2 b (.inl q)) (fun q => w1 (S.tbW _ q)), w1, r1⟩
 ·refine List.nodup_cons.mpr ⟨fun q => ?_, S.nodup⟩
  exact S.wOld' a (.inr q) f
theorem X1.assignOwn {x : Str} {px pos : Pos} {e : Expr} {d : D} (y : EvF C r sc ρ own e d) (k : Sto sc O x) (p : ∀ a, P .next ((x, .own a) :: ρ) ((a, d) :: own))
  (h1 : autoParam (∀ env line, env.scope = sc -> swapsWithSole [.Name x px] e line env = pure false) tacI3) : X1 C r sc O ρ own (.Assign [.Name x px] e pos) P := by
 constructor; intro A env W h₀ h R G S tk qQ qE qK
 refine wpAny_Assign_stores ((y.go A env W h₀ O h R (az G) S).use ?_) (h1 env _ G) rfl
 rintro v h1 tk1 ⟨a, ev, f, m, e1, z⟩
 subst ev
 have S1 := S.adopt e1 f z
 refine ((Asg.name (r := r) k).go A env W h₀ ρ _ h1 (.ref a) R (bQ G) S1 (show VT C _ _ _ _ (.own a) from rfl)).use2 fun _ h2 tk2 S2 k2 =>
  (qK _ h2 tk2 ⟨.next, _, _, p a, S2, trivial, (e1.1.mono fun _ q => .inl q).trans (k2.mono fun _ q => aN.mut q), fun b q => ?_⟩)
 rcases List.mem_cons.mp q with q | q
 ·exact .inr (q ▸ f)
 ·exact .inl q
set_option tactic.hygienic true in
theorem X1.aug {x : Str} {px pos : Pos} {op : Operator} {e : Expr} {d1 d2 d : D} (l : ρ.lookup x = some d1) (no : bU d1) (y : Ev C r sc ρ own e d2)
  (b : ∀ A W h v1 v2, A.handled = Option.none -> Inv C h -> (∀ a, C.Tb a -> W a) -> (∀ a, W a -> h.get? a ≠ Option.none) -> Val C W h v1 d1 -> Val C W h v2 d2 -> Tri C A (inplaceOp op v1 v2) h fun v h' => Ext C h h' /\ Val C W h' v d)
  (k : Sto sc O x) (p : P .next ((x, d) :: ρ) own) : X1 C r sc O ρ own (.AugAssign (.Name x px) op e pos) P := by
 constructor; intro A env W h₀ h R G S tk qQ qE qK
 refine wpAny_AugAssign_Name ?_
 obtain ⟨v, bd, z⟩ := S.bound x d1 l
 have z := z.val no
 have fin : wpAny (md C) A (eval e env) (fun u s₁ => wpAny (md C) A (inplaceOp op v u) (fun nv s₂ => wpAny (md C) A (storeName env x nv) (fun _ => qQ .next) qE s₂) qE s₁) qE (sh C h tk) := by
  refine (y.go A env W h₀ O h R (az G) S).use2 fun u h1 tk1 e1 z1 => ?_
  have S1 := S.ext e1
  refine (b A (Wof W own) h1 v u R.1 S1.inv S1.tw S1.wOld' (z.ext e1 S.tw) z1).use2 fun nv h2 tk2 e2 z2 => ?_
  have S2 := S1.ext e2
  exact (S2.store (A := A) (d := d) (bQ G x k) (.of z2)).use2 fun _ h3 tk3 S3 k3 =>
   (qK .next h3 tk3 ⟨.next, _, own, p, S3, trivial, ((e1.trans e2).1.mono fun _ q => .inl q).trans (k3.mono fun _ q => lC.mut q), fun a q => .inl q⟩)
 rcases bd with ⟨a, m, n, e⟩ | ⟨a | ⟨a, a'⟩, c, n, e⟩
 ·exact wpAny_loadName_local S.kind a n e fin
 ·exact wpAny_loadName_cell S.kind a n e fin
 ·exact wpAny_loadName_free S.kind a n e fin a'
end
noncomputable def Fn (C : Cfg) (r : Nat) (f : Value) (ds : List D) (d : D) : Prop :=
 ∀ A W h vs, bL r A -> Inv C h -> (∀ a, C.Tb a -> W a) -> WOk C h W -> ao C W h vs ds -> Tri C A (call f vs) h fun v h' => Ext C h h' /\ Val C W h' v d
theorem Fn.mono {r r' : Nat} {f : Value} {ds : List D} {d : D} (x : Fn C r f ds d) (h : r <= r') : Fn C r' f ds d := fun A W hp vs R => x A W hp vs (R.mono h)
theorem bindL_skip {k : Str -> Option NameKind} {x : Str} : ∀ {binds : List (Str × Value)} {m : Str -> Option Value}, x ∉ binds.map (·.1) -> bindL k binds m x = m x
 | [], _, _ => rfl
 | (n, v) :: r, m, h => by
  simp only [List.map_cons, List.mem_cons, not_or] at h
  unfold bindL
  rw [bindL_skip h.2]
  split
  ·exact if_neg h.1
  ·rfl
theorem bindC_skip {k : Str -> Option NameKind} {x : Str} : ∀ {binds : List (Str × Value)} {m : Str -> Option Value}, x ∉ binds.map (·.1) -> bindC k binds m x = m x
 | [], _, _ => rfl
 | (n, v) :: r, m, h => by
  simp only [List.map_cons, List.mem_cons, not_or] at h
  unfold bindC
  rw [bindC_skip h.2]
  split
  ·rfl
  ·exact if_neg h.1
theorem bindL_get {k : Str -> Option NameKind} {x : Str} {v : Value} (hk : k x = some .local) : ∀ {binds : List (Str × Value)} {m : Str -> Option Value}, (binds.map (·.1)).Nodup -> (x, v) ∈ binds -> bindL k binds m x = some v := by
 intro rv
 induction rv with
 | nil =>
  intro _ _ h
  exact cR h
 | cons hd r ih =>
  obtain ⟨n, u⟩ := hd
  intro m hn h
  simp only [List.map_cons, List.nodup_cons] at hn
  unfold bindL
  rcases List.mem_cons.mp h with e | h
  ·cases e
   rw [bindL_skip hn.1, if_pos hk]; exact if_pos rfl
  ·exact ih hn.2 h
theorem bindC_get {k : Str -> Option NameKind} {x : Str} {v : Value} (hk : k x = some .cell) : ∀ {binds : List (Str × Value)} {m : Str -> Option Value}, (binds.map (·.1)).Nodup -> (x, v) ∈ binds -> bindC k binds m x = some v
 | [], _, _, h => nomatch h
 | (n, u) :: r, m, hn, h => by
  simp only [List.map_cons, List.nodup_cons] at hn
  unfold bindC
  rcases List.mem_cons.mp h with e | h
  ·cases e
   rw [bindC_skip hn.1, if_neg (by rw [hk]; nofun)]; exact if_pos rfl
  ·exact bindC_get hk hn.2 h
theorem dN {α : Type} {x : Str} : ∀ {l : List (Str × α)} {c : α}, (x, c) ∈ l -> ∃ c', l.lookup x = some c' := by
 intro rv
 induction rv with
 | nil =>
  intro _ h
  exact cR h
 | cons hd r ih =>
  obtain ⟨y, b⟩ := hd
  intro c h
  rw [List.lookup_cons]
  cases e : x == y with
  | true => exact ⟨b, rfl⟩
  | false =>
   rcases List.mem_cons.mp h with q | q
   ·cases q; simp at e
   ·exact ih q
theorem fY : ∀ (names : List (Str × NameKind)) (n : Nat) (acc : List (Str × Addr)) (p : Str × Addr), p ∈ acc -> p ∈ cellsFrom n names acc
 | [], _, _, _, h => h
 | (y, k) :: r, n, acc, p, h => by
  unfold cellsFrom
  split
  ·exact fY r _ _ p (List.mem_cons_of_mem _ h)
  ·exact fY r _ _ p h
theorem cellsFrom_mem : ∀ (names : List (Str × NameKind)) (n : Nat) (acc : List (Str × Addr)) (x : Str), (x, NameKind.cell) ∈ names -> ∃ c, (x, c) ∈ cellsFrom n names acc := by
 intro rv
 induction rv with
 | nil =>
  intro _ _ _ h
  exact cR h
 | cons hd r ih =>
  obtain ⟨y, k⟩ := hd
  intro n acc x h
  unfold cellsFrom
  rcases List.mem_cons.mp h with q | q
  ·cases q
   exact ⟨n, fY r _ _ _ List.mem_cons_self⟩
  ·split
   ·exact ih _ _ x q
   ·exact ih _ _ x q
theorem gU {names : List (Str × NameKind)} {n : Nat} {x : Str} (h : names.lookup x = some .cell) : ∃ c, (cellsFrom n names []).lookup x = some c :=
 let ⟨_, hc⟩ := cellsFrom_mem names n [] x (mem_of_lookup h)
 dN hc
theorem iy {α β : Type} : ∀ (l : List α) (r : List β), l.length = r.length -> (l.zip r).map (·.1) = l
 | [], [], _ => rfl
 | a :: l, b :: r, h => by simp only [List.zip_cons_cons, List.map_cons]; rw [iy l r (by simpa using h)]
noncomputable def aa (sc : Scope) (x : Str) : Prop := sc.names.lookup x = some .cell
theorem zip_val {W : Addr -> Prop} {h : Heap} : ∀ {ns : List Str} {vs : List Value} {ds : List D}, ao C W h vs ds -> ns.length = ds.length -> ∀ {x : Str} {d : D}, (ns.zip ds).lookup x = some d -> ∃ v, (x, v) ∈ ns.zip vs /\ Val C W h v d
 | [], _, _, z, l, x, d, e => by simp at e
 | n :: ns, _, _, .nil, l, x, d, e => by simp at l
 | n :: ns, _, _, .cons (v := v) (vs := vs) z r, l, x, d, e => by
  simp only [List.zip_cons_cons] at e ⊢
  rw [List.lookup_cons] at e
  cases q : x == n with
  | true => rw [q] at e; cases e; rw [eq_of_beq q]; exact ⟨v, List.mem_cons_self, z⟩
  | false =>
   rw [q] at e
   obtain ⟨u, hu, zu⟩ := zip_val r (by simpa using l) e
   exact ⟨u, List.mem_cons_of_mem _ hu, zu⟩
section
variable {r : Nat} {sc : Scope} {ρ : Rho} {own : Own}
theorem Ev.global {x : Str} {p : Pos} {A : Around} {env : Env} {W : Addr -> Prop} {h₀ h : Heap} {O : Str -> Prop} {v : Value} (G : GlobOf env sc) (S : St C W h₀ env O ρ own h) (hx : sc.names.lookup x = some .globalImplicit) (hv : C.mg x = some v)
  (hd : (x == ("__debug__" : Str)) = false) : Tri C A (eval (.Name x p) env) h fun u h' => u = v /\ h' = h := fun tk qQ qE qK =>
 Name_function_global S.kind ((G x).1 hx) (loadGlobal_global (mg := C.mg) (by rw [S.glob]; exact C.g.keeps S.inv.1) hv (qK _ h tk ⟨rfl, rfl⟩)) hd
theorem Ev.builtin {x : Str} {p : Pos} {A : Around} {env : Env} {W : Addr -> Prop} {h₀ h : Heap} {O : Str -> Prop} {v : Value} (G : GlobOf env sc) (S : St C W h₀ env O ρ own h) (hx : sc.names.lookup x = some .globalImplicit) (hv : C.mg x = Option.none)
  (hb : bootBuiltins x = some v) (hn : x ≠ "__name__") (hd : (x == ("__debug__" : Str)) = false) : Tri C A (eval (.Name x p) env) h fun u h' => u = v /\ h' = h := fun tk qQ qE qK =>
 Name_function_global S.kind ((G x).1 hx) (loadGlobal_builtin (mg := C.mg) (mb := C.mb) (by rw [S.glob]; exact C.g.keeps S.inv.1) hv (by rw [S.blt]; exact C.b.keeps S.inv.1) ((C.builtins x hn).trans hb) (qK _ h tk ⟨rfl, rfl⟩)) hd
noncomputable def GFn (C : Cfg) (x : Str) (a : Addr) : Prop := C.mg x = some (.ref a) /\ ∃ o fd, C.hB.get? a = some o /\ o.data = .func fd
theorem Ev.call {x : Str} {a : Addr} {p pos : Pos} {e : Expr} {es : List Expr} {ds : List D} {d : D} (g : GFn C x a) (y : EvL C r sc ρ own (e :: es) ds) (f : Fn C r (.ref a) ds d) (hx : autoParam (sc.names.lookup x = some .globalImplicit) tacR)
  (n : autoParam (notStar e = true) tacR) (hd : autoParam ((x == ("__debug__" : Str)) = false) tacD) : Ev C r sc ρ own (.Call (.Name x p) (e :: es) [] pos) d := by
 constructor; intro A env W h₀ O h R G S tk qQ qE qK
 refine wpAny_Call_NameR ((Ev.global G S hx g.1 hd).use2 fun v h1 tk1 e1 e2 => ?_)
 subst e1 e2
 obtain ⟨_, o, fd, ho, hdat⟩ := g
 refine callWith_def hdat ((y.go A env W h₀ O h1 pos R G S).use2 fun vs h2 tk2 x2 z2 => ?_) (aJ e es env n)
 have S2 := S.ext x2
 refine ⟨S2.inv.1 _ _ ho, (f A (Wof W own) h2 vs R S2.inv S2.tw S2.wok' z2).use2 fun u h3 tk3 x3 z3 => (qK _ h3 tk3 ⟨x2.trans x3, z3⟩)⟩
end
theorem jw {h : Heap} {I l : Addr} {i : Nat} (x : h.IsListIter I l i) : bz h I := ⟨_, x.choose_spec.1, iK x _ x.choose_spec.1⟩
inductive ItemIs (C : Cfg) (wr : Addr -> Prop) (St : (Addr -> Prop) -> Nat -> Heap -> Prop) (Wa : Addr -> Prop) (i : Nat) (h : Heap) (v : Value) (d : D) (h' : Heap) : Prop
 | mk (I : Inv C h') (k : Kp wr h h') (p : ∀ a, wr a -> bz h' a) (s : St Wa (i + 1) h') (z : Val C Wa h' v d) : ItemIs C wr St Wa i h v d h'
structure Itr (C : Cfg) (A : Around) (tg : Expr) (it : Value) (ds : List D) (wr : Addr -> Prop) (St : (Addr -> Prop) -> Nat -> Heap -> Prop) : Prop where
 frame : ∀ S Wa Wb i h h', St Wa i h -> Kp S h h' -> (∀ a, S a -> Wa a) -> (∀ a, S a -> ¬ wr a) -> (∀ a o, h.get? a = some o -> Wb a -> Wa a) -> St Wb i h'
 item : ∀ Wa i h d, St Wa i h -> (∀ a, wr a -> Wa a) -> (∀ a, C.Tb a -> Wa a) -> (∀ a, Wa a -> h.get? a ≠ Option.none) -> Inv C h -> ds[i]? = some d ->
  Tri C A (pyNext it) h fun r h' => ∃ v, r = some v /\ Tri C A (letOwnedTupleGo tg it v) h' fun _ => ItemIs C wr St Wa i h v d
 done : ∀ Wa h, St Wa ds.length h -> (∀ a, wr a -> Wa a) -> Inv C h -> Tri C A (pyNext it) h fun r h' => r = Option.none /\ Inv C h' /\ Kp wr h h'
 self : ∀ Wa i h, St Wa i h -> Tri C A (pyIter it) h fun v h' => v = it /\ h' = h
inductive ItrIs (C : Cfg) (A : Around) (tg : Expr) (ds : List D) (W : Addr -> Prop) (h : Heap) (it : Value) (h2 : Heap) : Prop
 | mk (e : Ext C h h2) (wr : Addr -> Prop) (St' : (Addr -> Prop) -> Nat -> Heap -> Prop) (I : Itr C A tg it ds wr St') (f : ∀ a, wr a -> h.get? a = Option.none /\ bz h2 a) (s : St' (fun b => W b ∨ wr b) 0 h2) (l : ds.length <= 1048576) : ItrIs C A tg ds W h it h2
structure EvI (C : Cfg) (r : Nat) (sc : Scope) (ρ : Rho) (own : Own) (tg e : Expr) (ds : List D) : Prop where
 go : ∀ A env W h₀ O h, bL r A -> GlobOf env sc -> St C W h₀ env O ρ own h ->
  Tri C A (eval e env) h fun x h1 => Tri C A (pyIter x) h1 (ItrIs C A tg ds (Wof W own) h)
noncomputable def iM (e : Expr) : Bool := Nat.beq e.ctorIdx 23 || Nat.beq e.ctorIdx 25
theorem go_listiter {A : Around} {tg : Expr} {I l : Addr} {i : Nat} {v : Value} {h : Heap} (n : iM tg = true) (x : h.IsListIter I l i) : Tri C A (letOwnedTupleGo tg (.ref I) v) h fun _ h' => h' = h := by
 intro tk qQ qE qK
 cases tg <;> first | cases n | skip
 ·exact wpAny_pure (qK _ h tk rfl)
 ·cases v <;> first | exact wpAny_pure (qK _ h tk rfl) | skip
  exact wpAny_letOwnedTupleGo_listiter x (qK _ h tk rfl)
theorem listIter_kp {S : Addr -> Prop} {h h' : Heap} {I l : Addr} {i : Nat} (k : Kp S h h') (n : ¬ S I) (x : h.IsListIter I l i) : h'.IsListIter I l i := x.at fun o e => k I o e n
theorem Itr.list {A : Around} {tg : Expr} {I : Addr} {ds : List D} (hh : A.handled = Option.none) (n : iM tg = true) (fI : cz C I) :
  Itr C A tg (.ref I) ds (fun a => a = I) (fun Wa i h => ∃ l vs k, h.IsListIter I l i /\ h.get? l = some (aM vs k) /\ l ≠ I /\ ¬ Wa l /\ ao C Wa h vs ds) where
 frame := by rintro S Wa Wb i h h' ⟨l, vs, k, e1, e2, e3, e4, e5⟩ kp hs hn hw; exact ⟨l, vs, k, listIter_kp kp (fun q => hn I q rfl) e1, kp _ _ e2 fun q => e4 (hs _ q), e3, fun q => e4 (hw _ _ e2 q), e5.kp kp hs hw⟩
 item := by
  rintro Wa i h d ⟨l, vs, k, e1, e2, e3, e4, e5⟩ hwr tw wo I' hd tk qQ qE qK
  obtain ⟨v, hv, z⟩ := e5.get hd
  refine wpAny_pyNext_list_item e1 (aO e2) (x := v) (by simpa using hv) fun h' hit' hs' => (qK _ h' _ ⟨v, rfl, ?_⟩)
  have kp : Kp (fun a => a = I) h h' := fun b o e q => hs'.extBut b o q e
  have hsub : ∀ a, a = I -> Wa a := fun a q => hwr a q
  exact (go_listiter n hit').mono fun _ h'' e => e ▸ ⟨I'.extBut fI (iK e1) hs'.extBut, kp, fun a q => by rw [q]; exact jw hit', ⟨l, vs, k, hit', kp _ _ e2 e3, e3, e4, e5.keep kp hsub⟩, z.keep kp hsub⟩
 done := by
  rintro Wa h ⟨l, vs, k, e1, e2, e3, e4, e5⟩ hwr I' tk qQ qE qK
  exact wpAny_pyNext_list_end hh e1 (aO e2) (by have := e5.length; simp [this]) fun h' he' => (qK _ h' _ ⟨rfl, I'.extBut fI (iK e1) he', fun b o e q => he' b o q e⟩)
 self := by rintro Wa i h ⟨l, vs, k, e1, _⟩ tk qQ qE qK; exact wpAny_pyIter_listiter e1 (qK _ h tk ⟨rfl, rfl⟩)
section
variable {r : Nat} {sc : Scope} {ρ : Rho} {own : Own}
theorem EvI.list {tg e : Expr} {ds : List D} (x : Ev C r sc ρ own e (.list ds)) (n : autoParam (iM tg = true) tacR) : EvI C r sc ρ own tg e ds := by
 constructor; intro A env W h₀ O h R G S
 refine (x.go A env W h₀ O h R G S).mono ?_
 rintro v h1 ⟨e1, z⟩
 refine z.listE fun l vs k g nw sz rr => ?_
 intro tk qQ qE qK
 have S1 := S.ext e1
 have gl := g
 refine wpAny_pyIter_list (aO g) (qK _ _ tk ⟨e1.trans (.push S1.inv _), _, _, Itr.list R.1 n (S1.inv.fresh_of_none (aj h1)), fun a q => ⟨?_, ?_⟩, ⟨l, vs, k, ⟨_, Heap.get?_push_size _ rfl, rfl, rfl⟩, Heap.get?_push_of_some _ g, Nat.ne_of_lt (Heap.lt_size g), ?_, ?_⟩, sz⟩)
 ·rw [q]; exact e1.none_back (aj h1)
 ·rw [q]; exact jw ⟨_, Heap.get?_push_size _ rfl, rfl, rfl⟩
 ·rintro (q | q)
  ·exact nw q
  ·exact Nat.ne_of_lt (Heap.lt_size g) q
 ·exact rr.kp (S := fun _ => False) (.of_all fun _ _ e => Heap.get?_push_of_some _ e) (fun _ f => f.elim) fun b o e q => q.elim id fun q => by rw [q, aj] at e; cases e
end
theorem nc_riter {h : Heap} {I : Addr} {a n c : Int} (x : IsRangeIter h I a n c) : ∀ o, h.get? I = some o -> bM o := fun o e => by
 rw [show h.get? I = _ from x] at e; cases e
 intro vs q qq t w
 cases q
 simp [rawInt] at w
theorem Itr.range {A : Around} {tg : Expr} {I : Addr} {a c : Int} {n : Nat} (hh : A.handled = Option.none) (nt : ∀ v, letOwnedTupleGo tg (.ref I) v = pure ()) (fI : cz C I) :
  Itr C A tg (.ref I) ((List.range n).map fun k => D.int (a + (k : Nat) * c)) (fun b => b = I) (fun _ i h => IsRangeIter h I (a + (i : Nat) * c) ((n : Int) - (i : Nat)) c) where
 frame := fun S Wa Wb i h h' e1 kp hs hn hw => kp _ _ e1 fun q => hn I q rfl
 item := fun Wa i h d e1 hwr tw wo I' hd tk qQ qE qK => by
  have hi : i < n := by
   have := (List.getElem?_eq_some_iff.mp hd).1
   simpa using this
  have hd' : d = .int (a + (i : Nat) * c) := by
   rw [List.getElem?_map, List.getElem?_range hi] at hd
   simpa using hd.symm
  subst hd'
  refine wpAny_pyNext_range_item e1 (by lia) fun h' hit' hs' => (qK _ h' _ ⟨_, rfl, ?_⟩)
  rw [nt]
  refine Tri.pure ⟨I'.extBut fI (nc_riter e1) hs'.extBut, fun b o e q => hs'.extBut b o q e, fun a q => by rw [q]; exact ⟨_, hit', nc_riter hit' _ hit'⟩, ?_, .int _ _⟩
  have e1 : a + ((i + 1 : Nat) : Int) * c = a + (i : Int) * c + c := by push_cast; rw [Int.add_mul, Int.one_mul, Int.add_assoc]
  have e2 : (n : Int) - ((i + 1 : Nat) : Int) = (n : Int) - (i : Int) - 1 := by push_cast; lia
  show IsRangeIter h' I (a + ((i + 1 : Nat) : Int) * c) ((n : Int) - ((i + 1 : Nat) : Int)) c
  rw [e1, e2]; exact hit'
 done := fun Wa h e1 hwr I' tk qQ qE qK => by
  simp only [List.length_map, List.length_range] at e1
  exact wpAny_pyNext_range_end hh e1 (by lia) fun h' he' => (qK _ h' _ ⟨rfl, I'.extBut fI (nc_riter e1) he', fun b o e q => he' b o q e⟩)
 self := fun Wa i h e1 tk qQ qE qK => wpAny_pyIter_rangeiter e1 (qK _ h tk ⟨rfl, rfl⟩)
noncomputable def more (W N : Addr -> Prop) (a : Addr) : Prop := W a ∨ N a
theorem St.exists_own {W : Addr -> Prop} {h₀ h : Heap} {env : Env} {O : Str -> Prop} {ρ : Rho} {own : Own} (S : St C W h₀ env O ρ own h) {a : Addr} (q : a ∈ own.map (·.1)) : h.get? a ≠ Option.none := S.wOld' a (.inr q)
theorem St.exists_loc {W : Addr -> Prop} {h₀ h : Heap} {env : Env} {O : Str -> Prop} {ρ : Rho} {own : Own} (S : St C W h₀ env O ρ own h) : h.get? env.locals ≠ Option.none := S.wOld _ S.nsW
theorem St.exists_mutF {W : Addr -> Prop} {h₀ h : Heap} {env : Env} {O : Str -> Prop} {ρ : Rho} {own : Own} (S : St C W h₀ env O ρ own h) {a : Addr} (q : aN C env O a) : h.get? a ≠ Option.none := S.wOld' a (aN.sub S q)
theorem St.more {W N : Addr -> Prop} {h₀ h h' : Heap} {env : Env} {O : Str -> Prop} {ρ : Rho} {own : Own} (S : St C W h₀ env O ρ own h) (x : Ext C h h') (n : ∀ a, N a -> h.get? a = Option.none /\ bz h' a) : St C (Mine.more W N) h₀ env O ρ own h' := by
 have S' := S.ext x
 have hw : ∀ a o, h.get? a = some o -> Wof (Mine.more W N) own a -> Wof W own a := fun a o e q => by
  rcases q with (q | q) | q
  ·exact .inl q
  ·rw [(n a q).1] at e; cases e
  ·exact .inr q
 have hw' : ∀ a, Wof W own a -> Wof (Mine.more W N) own a := fun a q => q.imp .inl id
 refine ⟨S'.inv, S'.keep, S'.kind, S'.glob, S'.blt, S'.ns, .inl S'.nsW, S'.nsF, fun y hy => ?_, S'.seen, S'.apart, fun a q => .inl (S'.tbW a q), S'.wok.or fun a q => (n a q).2, fun y d e => ?_, fun p hp => ?_, S'.nodup⟩
 ·obtain ⟨c, v, l, i, w, f⟩ := S'.cells y hy; exact ⟨c, v, l, i, .inl w, f⟩
 ·obtain ⟨v, b, z⟩ := S.bound y d e
  exact ⟨v, b.kp x.1 (fun m n => S.inv.ns_notTb n) (fun c v e => S.inv.cell_notTb e), z.kp x.1 S.tw hw fun _ q => q⟩
 ·obtain ⟨o, w, f⟩ := S.owns p hp
  refine ⟨o.kp x.1 S.tw hw hw' (fun q => w (S.tbW _ q)), fun q => q.elim w fun q => S.exists_own (List.mem_map.mpr ⟨p, hp, rfl⟩) (n _ q).1, f⟩
noncomputable def Seen (env : Env) (a : Addr) : Prop := a = env.locals ∨ ∃ x, env.cells.lookup x = some a
theorem Bound.kp' {S : Addr -> Prop} {h h' : Heap} {env : Env} {x : Str} {v : Value} (k : Kp S h h') (n : ∀ a, Seen env a -> ¬ S a) (b : Bound env h x v) : Bound env h' x v := by
 rcases b with ⟨a, m, q, e⟩ | ⟨a, c, l, e⟩
 ·exact .inl ⟨a, m, jA k (n _ (.inl rfl)) q, e⟩
 ·exact .inr ⟨a, c, l, bZ k (n _ (.inr ⟨x, l⟩)) e⟩
theorem St.less {W N S : Addr -> Prop} {h₀ h h' h1 : Heap} {env : Env} {O : Str -> Prop} {ρ ρ1 : Rho} {own own1 : Own} (X : St C (Mine.more W N) h₀ env O ρ own h) (S1 : St C W h₀ env O ρ1 own1 h1) (k : Kp S h h') (I : Inv C h') (hs : ∀ a, S a -> N a) (hN : ∀ a, N a -> ¬ W a)
  (h0 : ∀ a, N a -> h₀.get? a = Option.none) (ns : ∀ a, Seen env a -> ¬ N a) : St C W h₀ env O ρ own h' := by
 have hw : ∀ a o, h.get? a = some o -> Wof W own a -> Wof (Mine.more W N) own a := fun a o e q => q.imp .inl id
 have hsW : ∀ a, S a -> Wof (Mine.more W N) own a := fun a q => .inl (.inr (hs a q))
 have nS : ∀ a, Seen env a -> ¬ S a := fun a q s => ns a q (hs a s)
 refine ⟨I, fun b o e n => k b o (X.keep b o e n) (fun q => by rw [h0 b (hs b q)] at e; cases e), X.kind, X.glob, X.blt, ?_, S1.nsW, X.nsF, fun y hy => ?_, fun y c l => ⟨?_, (X.seen y c l).2⟩, X.apart, S1.tbW, .of I fun a q => ?_, fun y d e => ?_, fun p hp => ?_, X.nodup⟩
 ·obtain ⟨m, n⟩ := X.ns; exact ⟨m, jA k (nS _ (.inl rfl)) n⟩
 ·obtain ⟨c, v, l, i, w, f⟩ := X.cells y hy
  obtain ⟨c', v', l', i', w', f'⟩ := S1.cells y hy
  rw [l] at l'; cases l'
  exact ⟨c, v, l, bZ k (nS _ (.inr ⟨y, l⟩)) i, w', f⟩
 ·cases e : h.get? c with
  | none => exact absurd e (X.seen y c l).1
  | some o => exact bw (k c o e (nS _ (.inr ⟨y, l⟩)))
 ·exact (X.wok a (.inl q)).2.imp id fun p => p.keep fun o e => k a o e fun s => hN a (hs a s) q
 ·obtain ⟨v, b, z⟩ := X.bound y d e
  refine ⟨v, b.kp' k nS, ?_⟩
  cases d with
  | own a => exact z
  | _ => exact Val.kp k hsW hw z
 ·obtain ⟨o, w, f⟩ := X.owns p hp
  have nsp : ¬ S p.1 := fun q => w (.inr (hs _ q))
  refine ⟨?_, fun q => w (.inl q), f⟩
  cases hd : p.2 with
  | list ds => rw [hd] at o; obtain ⟨vs, n, e, z, r⟩ := o; exact ⟨vs, n, k _ _ e nsp, z, r.kp k hsW hw⟩
  | dict kvs => rw [hd] at o; obtain ⟨es, e, m, z, r⟩ := o; exact ⟨es, dq k nsp e, m, z, r.kp k hsW hw⟩
  | ns fs => rw [hd] at o; obtain ⟨m, n1, r, ex⟩ := o; exact ⟨m, jT k nsp n1, r.kp k hsW hw, ex⟩
  | _ => rw [hd] at o; exact o.elim
theorem St.frame {S : Addr -> Prop} {W : Addr -> Prop} {h₀ h h' : Heap} {env : Env} {O : Str -> Prop} {ρ : Rho} {own : Own} (X : St C W h₀ env O ρ own h) (k : Kp S h h') (I : Inv C h') (hs : ∀ a, S a -> W a) (h0 : ∀ a, S a -> C.Tb a ∨ h₀.get? a = Option.none)
  (ns : ∀ a, Seen env a -> ¬ S a) (ex : ∀ a, S a -> C.Tb a ∨ bz h' a) : St C W h₀ env O ρ own h' := by
 have hsW : ∀ a, S a -> Wof W own a := fun a q => .inl (hs a q)
 refine ⟨I, fun b o e n => k b o (X.keep b o e n) (fun q => (h0 b q).elim n fun q => by rw [q] at e; cases e), X.kind, X.glob, X.blt, ?_, X.nsW, X.nsF, fun y hy => ?_, fun y c l => ⟨?_, (X.seen y c l).2⟩, X.apart, X.tbW, X.wok.kp I k ex, fun y d e => ?_, fun p hp => ?_, X.nodup⟩
 ·obtain ⟨m, n⟩ := X.ns; exact ⟨m, jA k (ns _ (.inl rfl)) n⟩
 ·obtain ⟨c, v, l, i, w⟩ := X.cells y hy; exact ⟨c, v, l, bZ k (ns _ (.inr ⟨y, l⟩)) i, w⟩
 ·cases e : h.get? c with
  | none => exact absurd e (X.seen y c l).1
  | some o => exact bw (k c o e (ns _ (.inr ⟨y, l⟩)))
 ·obtain ⟨v, b, z⟩ := X.bound y d e
  exact ⟨v, b.kp' k ns, z.kp k hsW (fun _ _ _ q => q) fun _ q => q⟩
 ·obtain ⟨o, w, f⟩ := X.owns p hp
  exact ⟨o.kp k hsW (fun _ _ _ q => q) (fun _ q => q) (fun q => w (hs _ q)), w, f⟩
theorem St.fresh0 {W : Addr -> Prop} {h₀ h : Heap} {env : Env} {O : Str -> Prop} {ρ : Rho} {own : Own} (S : St C W h₀ env O ρ own h) {a : Addr} (f : h.get? a = Option.none) : h₀.get? a = Option.none := by
 cases z : h₀.get? a with
 | none => rfl
 | some o =>
  by_cases t : C.Tb a
  ·obtain ⟨vs, y⟩ := C.tabHas h S.inv.2 a t; rw [f] at y; cases y
  ·have := S.keep a o z t; rw [f] at this; cases this
theorem St.seen_ne {W N : Addr -> Prop} {h₀ h : Heap} {env : Env} {O : Str -> Prop} {ρ : Rho} {own : Own} (S : St C W h₀ env O ρ own h) (n : ∀ a, N a -> h.get? a = Option.none) : ∀ a, Seen env a -> ¬ N a := by
 rintro a (q | ⟨x, q⟩) m
 ·exact S.exists_loc (q ▸ n a m)
 ·exact (S.seen x a q).1 (n a m)
inductive ForI (C : Cfg) (W wr : Addr -> Prop) (h₀ : Heap) (env : Env) (O : Str -> Prop) (own : Own) (J : Nat -> Rho -> Own -> Prop) (St' : (Addr -> Prop) -> Nat -> Heap -> Prop) (len : Nat) (h2 : Heap) (n : Nat) (s : Shared) : Prop
 | mk (i : Nat) (hh : Heap) (tk' : Tok) (ρ' : Rho) (own' : Own) (e : s = sh C hh tk') (en : n = len + 1 - i) (hi : i <= len) (j : J i ρ' own') (S : St C (more W wr) h₀ env O ρ' own' hh) (st : St' (Wof (more W wr) own') i hh)
   (k : Kp (fun a => Mut C env O own a ∨ wr a) h2 hh) (g : d7 own own' h2) : ForI C W wr h₀ env O own J St' len h2 n s
theorem mut_W {W : Addr -> Prop} {h₀ h : Heap} {env : Env} {O : Str -> Prop} {ρ : Rho} {own : Own} (S : St C W h₀ env O ρ own h) : ∀ a, Mut C env O own a -> Wof W own a := by
 rintro a (q | q | q | q)
 ·exact S.tw a q
 ·exact aN.sub S (.inr (.inl q))
 ·exact aN.sub S (.inr (.inr q))
 ·exact .inr q
theorem grow_W {W : Addr -> Prop} {own own7 : Own} {h : Heap} (g : d7 own own7 h) : ∀ a o, h.get? a = some o -> Wof W own7 a -> Wof W own a := fun a o e q => q.elim .inl fun q => (g a q).elim .inr fun q => by rw [q] at e; cases e
theorem turn_kp {wr : Addr -> Prop} {env : Env} {O : Str -> Prop} {own own' : Own} {h2 hh h5 h6 h7 : Heap} (k3 : Kp (fun a => Mut C env O own a ∨ wr a) h2 hh) (g3 : d7 own own' h2) (k5 : Kp wr hh h5) (k6 : Kp (aN C env O) h5 h6) (k7 : Kp (Mut C env O own') h6 h7) :
  Kp (fun a => Mut C env O own a ∨ wr a) h2 h7 := fun b o e nn => by
 have nm : ¬ Mut C env O own b := fun q => nn (.inl q)
 refine k7 b o (k6 b o (k5 b o (k3 b o e nn) fun q => nn (.inr q)) fun q => nm (q.elim .inl fun q => lC.mut q)) fun q => ?_
 rcases q with q | q | q | q
 ·exact nm (.inl q)
 ·exact nm (.inr (.inl q))
 ·exact nm (.inr (.inr (.inl q)))
 ·rcases g3 b q with q | q
  ·exact nm (.inr (.inr (.inr q)))
  ·rw [q] at e; cases e
theorem turn_gr {W : Addr -> Prop} {h₀ : Heap} {ρ : Rho} {wr : Addr -> Prop} {env : Env} {O : Str -> Prop} {own own' own7 : Own} {h2 hh h5 h6 : Heap} (S6 : St C (more W wr) h₀ env O ρ own' h6) (k3 : Kp (fun a => Mut C env O own a ∨ wr a) h2 hh) (g3 : d7 own own' h2) (k5 : Kp wr hh h5) (k6 : Kp (aN C env O) h5 h6) (g7 : d7 own' own7 h6) :
  d7 own own7 h2 := fun a ha => by
 rcases g7 a ha with q | q
 ·exact g3 a q
 ·cases e : h2.get? a with
  | none => exact .inr rfl
  | some o =>
   by_cases m : Mut C env O own a ∨ wr a
   ·rcases m with (m | m | m | m) | m
    ·obtain ⟨vs, y⟩ := C.tabHas h6 S6.inv.2 a m; rw [q] at y; cases y
    ·exact absurd q (S6.exists_mutF (.inr (.inl m)))
    ·exact absurd q (S6.exists_mutF (.inr (.inr m)))
    ·exact .inl m
    ·have := S6.wOld a (.inr m); exact absurd q this
   ·have e6 := k6 a o (k5 a o (k3 a o e m) fun q => m (.inr q)) fun q => m (.inl (q.elim .inl fun q => lC.mut q))
    rw [q] at e6; cases e6
section
variable {r : Nat} {sc : Scope} {O : Str -> Prop} {ρ : Rho} {own : Own} {P : aZ}
noncomputable def LoopP (J : Rho -> Own -> Prop) (P : aZ) (f : cX) (ρ : Rho) (own : Own) : Prop := cX.casesOn f (J ρ own) (P .next ρ own) (J ρ own) fun d => P (.ret d) ρ own
theorem X1.for {tg e : Expr} {body : List Stmt} {pos : Pos} {ds : List D} {upd : D -> Rho -> Rho} (J : Nat -> Rho -> Own -> Prop) (src : EvI C r sc ρ own tg e ds) (asg : ∀ d ∈ ds, Asg C r sc O tg d (upd d)) (j0 : J 0 ρ own)
  (turn : ∀ i d ρ' own', ds[i]? = some d -> J i ρ' own' -> X C r sc O (upd d ρ') own' body (LoopP (J (i + 1)) P))
  (fin : ∀ ρ' own', J ds.length ρ' own' -> P .next ρ' own') (hs : autoParam (∀ env x, foldedSetIterable e env x = pure x) tacI2) : X1 C r sc O ρ own (.For tg e body [] pos) P := by
 constructor; intro A env W h₀ h R G S tk qQ qE qK
 refine wpAny_For ((src.go A env W h₀ O h R (az G) S).use fun x h1 tk1 tri => tri.use ?_) (hs env)
 rintro it h2 tk2 ⟨e2, wr, St', I, fr, st0, hl⟩
 have S2 : St C (more W wr) h₀ env O ρ own h2 := S.more e2 fr
 have wr0 : ∀ a, wr a -> h₀.get? a = Option.none := fun a q => S.fresh0 (fr a q).1
 have wrS : ∀ a, Seen env a -> ¬ wr a := S.seen_ne fun a q => (fr a q).1
 have wrW : ∀ a, wr a -> ¬ W a := fun a q w => S.wOld a w (fr a q).1
 have wrM : ∀ {a}, aN C env O a -> ¬ wr a := fun m q => S.exists_mutF m (fr _ q).1
 have fin' : ∀ {h5 h6 : Heap} {ρ5 : Rho} {own5 : Own}, St C (more W wr) h₀ env O ρ5 own5 h5 -> Kp wr h5 h6 -> Inv C h6 -> Kp (fun a => Mut C env O own a ∨ wr a) h2 h5 -> d7 own own5 h2 -> St C W h₀ env O ρ5 own5 h6 /\ Kp (Mut C env O own) h h6 /\ d7 own own5 h := fun S5 k6 I6 k5 g5 =>
  ⟨S5.less S k6 I6 (fun _ q => q) wrW wr0 wrS, fun b o e n => by
   have nw : ¬ wr b := fun q => by rw [(fr b q).1] at e; cases e
   exact k6 b o (k5 b o (e2.1 b o e fun t => n (.inl t)) fun q => q.elim n nw) nw, fun a ha => (g5 a ha).imp id fun q => e2.none_back q⟩
 refine codeAny_forLoop_any (ForI C W wr h₀ env O own J St' ds.length h2) ?_ (ds.length + 1)
  ⟨0, h2, tk2, ρ, own, rfl, rfl, Nat.zero_le _, j0, S2, I.frame (fun _ => False) _ (Wof (more W wr) own) 0 h2 h2 st0 (.refl _) (fun _ f => f.elim) (fun _ f => f.elim) (fun a o e q => by
   rcases q with (q | q) | q
   ·exact .inl (.inl q)
   ·exact .inr q
   ·exact .inl (.inr q)), .refl _, fun a q => .inl q⟩
 rintro n s ⟨i, hh, tk', ρ', own', rfl, rfl, hi, hJ, S3, st, k3, g3⟩
 have tw : ∀ a, C.Tb a -> Wof (more W wr) own' a := S3.tw
 have hwr : ∀ a, wr a -> Wof (more W wr) own' a := fun a q => .inl (.inr q)
 by_cases hlt : i < ds.length
 ·have hd : ds[i]? = some ds[i] := List.getElem?_eq_getElem hlt
  refine (I.item _ i hh ds[i] st hwr tw S3.wOld' S3.inv hd).useE fun rr h4 tk4 v er go => ?_
  subst er
  refine go.use ?_
  rintro _ h5 tk5 ⟨I5, k5, x5, st5, z5⟩
  have S5 : St C (more W wr) h₀ env O ρ' own' h5 := S3.frame k5 I5 (fun a q => .inr q) (fun a q => .inr (wr0 a q)) wrS fun a q => .inr (x5 a q)
  refine ((asg ds[i] (List.getElem_mem hlt)).go A env _ h₀ ρ' own' h5 v R (bQ G) S5 (.of z5)).use2 fun _ h6 tk6 S6 k6 => ?_
  have st6 := I.frame (aN C env O) _ (Wof (more W wr) own') (i + 1) h5 h6 st5 k6 (fun a q => aN.sub S5 q) (fun a q => wrM q) (fun _ _ _ q => q)
  refine ((turn i ds[i] ρ' own' hd hJ).go A env _ h₀ h6 R G S6).useX fun f h7 tk7 fd ρ7 own7 p7 S7 fi k7 g7 => ?_
  have mutN : ∀ a, Mut C env O own' a -> ¬ wr a := by
   rintro a (q | q | q | q) w
   ·exact wrM (.inl q) w
   ·exact wrM (.inr (.inl q)) w
   ·exact wrM (.inr (.inr q)) w
   ·exact S6.own_ne (.inr w) q
  have st7 := I.frame (Mut C env O own') _ (Wof (more W wr) own7) (i + 1) h6 h7 st6 k7 (mut_W S6) mutN (grow_W g7)
  have k3' := turn_kp k3 g3 k5 k6 k7
  have g3' := turn_gr S6 k3 g3 k5 k6 g7
  cases f <;> cases fd <;> first | exact fi.elim | skip
  ·exact ⟨ds.length + 1 - (i + 1), by lia, i + 1, h7, tk7, ρ7, own7, rfl, rfl, hlt, p7, S7, st7, k3', g3'⟩
  ·obtain ⟨q1, q2, q3⟩ := fin' S7 (.refl _) S7.inv k3' g3'
   exact (qK _ h7 tk7 ⟨.next, ρ7, own7, p7, q1, trivial, q2, q3⟩)
  ·exact ⟨ds.length + 1 - (i + 1), by lia, i + 1, h7, tk7, ρ7, own7, rfl, rfl, hlt, p7, S7, st7, k3', g3'⟩
  ·obtain ⟨q1, q2, q3⟩ := fin' S7 (.refl _) S7.inv k3' g3'
   exact (qK _ h7 tk7 ⟨.ret _, ρ7, own7, p7, q1, Val.kp (S := fun _ => False) (.refl _) (fun _ f => f.elim) (fun b o _ q => q.imp .inl id) fi, q2, q3⟩)
 ·have : i = ds.length := by lia
  subst this
  refine (I.done _ hh st hwr S3.inv).use3 fun rr h4 tk4 er I4 k4 => ?_
  subst er
  refine wpAny_execs_nil ?_
  obtain ⟨q1, q2, q3⟩ := fin' S3 k4 I4 k3 g3
  exact (qK _ h4 tk4 ⟨.next, ρ', own', fin ρ' own' hJ, q1, trivial, q2, q3⟩)
end
noncomputable def dR (cells : List (Str × Addr)) : List (Str × NameKind) -> List (Str × Addr) -> List (Str × Addr)
 | [], acc => acc
 | (n, k) :: r, acc => if k == .free then dR cells r ((n, (cells.lookup n).getD 0) :: acc) else dR cells r acc
theorem jj {cells : List (Str × Addr)} {n : Str} {k : NameKind} {r : List (Str × NameKind)} {acc : List (Str × Addr)} : dR cells ((n, k) :: r) acc = if k == .free then dR cells r ((n, (cells.lookup n).getD 0) :: acc) else dR cells r acc := rfl
theorem gC (cells : List (Str × Addr)) : ∀ (names : List (Str × NameKind)) (acc : List (Str × Addr)), dR cells names acc = dR cells names [] ++ acc
 | [], _ => rfl
 | (n, k) :: r, acc => by
  rw [jj, jj]
  split
  ·rw [gC cells r (_ :: acc), gC cells r [_], List.append_assoc]; rfl
  ·exact gC cells r acc
set_option tactic.hygienic true in
theorem iW (cells : List (Str × Addr)) : ∀ (names : List (Str × NameKind)) (x : Str) (c : Addr), (x, c) ∈ dR cells names [] -> (x, NameKind.free) ∈ names /\ c = (cells.lookup x).getD 0
 | [], _, _, h => nomatch h
 | (n, k) :: r, x, c, h => by
  rw [jj] at h
  split at h
  ·rename_i hk
   rw [gC] at h
   rcases List.mem_append.mp h with h | h
   ·have := iW cells r x c h; exact ⟨List.mem_cons_of_mem _ this.1, this.2⟩
   ·simp only [List.mem_singleton, Prod.mk.injEq] at h
    obtain ⟨rfl, rfl⟩ := h
    rw [eq_of_beq hk]; exact ⟨List.mem_cons_self, rfl⟩
  ·have := iW cells r x c h; exact ⟨List.mem_cons_of_mem _ this.1, this.2⟩
theorem capt_has (cells : List (Str × Addr)) : ∀ (names : List (Str × NameKind)) (x : Str), (x, NameKind.free) ∈ names -> ∃ c, (x, c) ∈ dR cells names [] := by
 intro rv
 induction rv with
 | nil =>
  intro _ h
  exact cR h
 | cons hd r ih =>
  obtain ⟨n, k⟩ := hd
  intro x h
  rw [jj]
  rcases List.mem_cons.mp h with q | q
  ·cases q
   rw [if_pos (by rfl), gC]
   exact ⟨_, List.mem_append_right _ List.mem_cons_self⟩
  ·obtain ⟨c, hc⟩ := ih x q
   split
   ·rw [gC]; exact ⟨c, List.mem_append_left _ hc⟩
   ·exact ⟨c, hc⟩
theorem iY {cells : List (Str × Addr)} {names : List (Str × NameKind)} {x : Str} {c : Addr} (h : (dR cells names []).lookup x = some c) : (x, NameKind.free) ∈ names /\ c = (cells.lookup x).getD 0 := iW _ _ _ _ (mem_of_lookup h)
theorem capt_some {cells : List (Str × Addr)} {names : List (Str × NameKind)} {x : Str} {c : Addr} (h : (x, NameKind.free) ∈ names) (hc : cells.lookup x = some c) : (dR cells names []).lookup x = some c := by
 obtain ⟨c', hc'⟩ := capt_has cells names x h
 obtain ⟨c2, h2⟩ := dN hc'
 rw [h2, (iY h2).2, hc]; rfl
theorem dg {scope : Scope} {env : Env} (h : ∀ x, (x, NameKind.free) ∈ scope.names -> ∃ c, env.cells.lookup x = some c) : closureFor scope env = pure (dR env.cells scope.names []) := by
 unfold closureFor
 have key : ∀ (names : List (Str × NameKind)) (acc : List (Str × Addr)), (∀ x, (x, NameKind.free) ∈ names -> ∃ c, env.cells.lookup x = some c) ->
   (forIn names acc fun (x : Str × NameKind) cs => match x with | (name, kind) => if (kind == .free) = true then do let c <- cellOf env name; pure (ForInStep.yield ((name, c) :: cs)) else pure (ForInStep.yield cs)) = (pure (dR env.cells names acc) : Sem _) := by
  intro names
  induction names with
  | nil => intro acc _; rfl
  | cons p r ih =>
   obtain ⟨n, k⟩ := p
   intro acc hh
   rw [List.forIn_cons]
   unfold dR
   by_cases q : (k == .free) = true
   ·have hk : k = .free := eq_of_beq q
    subst hk
    obtain ⟨c, hc⟩ := hh n List.mem_cons_self
    have : cellOf env n = pure c := by unfold cellOf; rw [hc]
    simp only [q, if_true, this, hc, pure_bind, Option.getD_some]
    exact ih _ fun x hx => hh x (List.mem_cons_of_mem _ hx)
   ·simp only [q, if_false, pure_bind]
    exact ih _ fun x hx => hh x (List.mem_cons_of_mem _ hx)
 have := key scope.names [] h
 exact (congrArg (fun t => t >>= fun r => pure r) this).trans (pure_bind _ _)
theorem lookup_relabel {env : Env} : ∀ (names : List (Str × NameKind)) (x : Str),
  (names.map fun (n, k) => if (k == NameKind.free && env.scope.kind == .function && env.kindOf n == some .cell) then (n, NameKind.cell) else (n, k)).lookup x =
   (names.lookup x).map fun k => if (k == NameKind.free && env.scope.kind == .function && env.kindOf x == some .cell) then NameKind.cell else k := by
 intro rv
 induction rv with
 | nil =>
  intro _
  exact rfl
 | cons hd r ih =>
  obtain ⟨n, k⟩ := hd
  intro x
  have ih := ih x
  show List.lookup x ((if (k == NameKind.free && env.scope.kind == .function && env.kindOf n == some .cell) = true then (n, NameKind.cell) else (n, k)) :: _) = _
  cases hx : x == n with
  | true =>
   have hxn : x = n := eq_of_beq hx
   subst hxn
   by_cases hc : (k == NameKind.free && env.scope.kind == .function && env.kindOf x == some .cell) = true
   ·rw [if_pos hc, List.lookup_cons, beq_self_eq_true, List.lookup_cons, beq_self_eq_true]
    show some NameKind.cell = some (if _ then _ else _)
    rw [if_pos hc]
   ·rw [if_neg hc, List.lookup_cons, beq_self_eq_true, List.lookup_cons, beq_self_eq_true]
    show some k = some (if _ then _ else _)
    rw [if_neg hc]
  | false =>
   by_cases hc : (k == NameKind.free && env.scope.kind == .function && env.kindOf n == some .cell) = true
   ·rw [if_pos hc]; simp only [List.lookup_cons, hx]; exact ih
   ·rw [if_neg hc]; simp only [List.lookup_cons, hx]; exact ih
theorem cW : ∀ (names : List (Str × NameKind)) (n : Nat) (acc : List (Str × Addr)), cellsFrom n names acc = cellsFrom n names [] ++ acc
 | [], _, _ => rfl
 | (y, k) :: r, n, acc => by
  unfold cellsFrom
  split
  ·rw [cW r (n + 1) ((y, n) :: acc), cW r (n + 1) [(y, n)], List.append_assoc]; rfl
  ·exact cW r n acc
set_option tactic.hygienic true in
theorem fG : ∀ (names : List (Str × NameKind)) (n : Nat) (x : Str) (c : Addr), (x, c) ∈ cellsFrom n names [] -> (x, NameKind.cell) ∈ names
 | [], _, _, _, h => nomatch h
 | (y, k) :: r, n, x, c, h => by
  unfold cellsFrom at h
  split at h
  ·rename_i hk
   rw [cW] at h
   rcases List.mem_append.mp h with h | h
   ·exact List.mem_cons_of_mem _ (fG r _ x c h)
   ·simp only [List.mem_singleton, Prod.mk.injEq] at h
    obtain ⟨rfl, _⟩ := h
    rw [eq_of_beq hk]; exact List.mem_cons_self
  ·exact List.mem_cons_of_mem _ (fG r _ x c h)
theorem newEnv_comp {scope : Scope} {globals : Addr} {cl : List (Str × Addr)} {qual : Str} {outer : Env} {A : Around} {h : Heap} :
  Tri C A (newFunctionEnv scope globals cl [] qual Option.none .none (some outer)) h fun env h' =>
   env = newEnv scope h.objs.size globals (cellsFrom (h.objs.size + 1) scope.names [] ++ cl) qual Option.none .none (some outer) outer.builtins /\ h'.Ns h.objs.size (fun _ => Option.none) /\
   (∀ b o, h.get? b = some o -> h'.get? b = some o) /\ CellsOk h' (h.objs.size + 1) (cellsFrom (h.objs.size + 1) scope.names []) := by
 intro tk qQ qE qK
 simp only [newFunctionEnv, Option.isSome_some, if_true]
 refine wpAny_bind (wpAny_alloc ?_)
 refine wpAny_bind (wpAny_layCells _ (fun name kind cells => by cases hkc : kind == NameKind.cell <;> simp [hkc]) _ _ _ _ ?_)
 have ok := cellsFrom_ok scope.names (h.push { cls := .type "dict", data := .dict #[] }) (h.objs.size + 1) [] ⟨fun _ _ hm => cR hm, List.Pairwise.nil⟩ (by rw [Heap.size_push]; exact Nat.le_refl _)
 rw [Heap.size_push] at ok
 rw [List.forIn_nil]
 refine wpAny_bind (wpAny_pure (wpAny_pure (qK _ (pushCells (h.push { cls := .type "dict", data := .dict #[] }) scope.names) tk ⟨?_, (Heap.Ns.new h (.type "dict")).keeps (pushCells_keeps _ _), fun b o e => pushCells_keeps _ _ b o (Heap.get?_push_of_some _ e), ok⟩)))
 show ({ scope := scope, locals := h.objs.size, globals := globals, cells := cellsFrom (h.push { cls := .type "dict", data := .dict #[] }).objs.size scope.names cl, qual := qual, code := outer.code, frame := outer.frame, builtins := outer.builtins } : Env) = _
 rw [Heap.size_push, cW]; rfl
structure di (C : Cfg) (r : Nat) (sc : Scope) (ρ : Rho) (own : Own) (ifs : List Expr) (b : Bool) : Prop where
 go : ∀ A env W h₀ O h, bL r A -> GlobOf env sc -> St C W h₀ env O ρ own h ->
  Tri C A (forIn ifs true fun c q => if q = true then do let ok <- isTrue c env (eval c env); pure (ForInStep.yield ok) else pure (ForInStep.yield q)) h fun b' h' => Ext C h h' /\ b' = b
theorem di.nil {r : Nat} {sc : Scope} {ρ : Rho} {own : Own} : di C r sc ρ own [] true := ⟨fun A env W h₀ O h R G S tk qQ qE qK => wpAny_tests_nil (qK _ h tk ⟨.refl S.inv, rfl⟩)⟩
theorem di.one {r : Nat} {sc : Scope} {ρ : Rho} {own : Own} {e : Expr} {b : Bool} (x : Tst C r sc ρ own e b) : di C r sc ρ own [e] b :=
 ⟨fun A env W h₀ O h R G S tk qQ qE qK => wpAny_tests_one (x.go A env W h₀ O h R G S tk qQ qE qK)⟩
noncomputable def jY (dp : Nat) (e iter tg : Expr) (ifs : List Expr) (emit : Env -> Sem PySem.Fin -> Sem PySem.Fin) (it acc : Value) (env : Env) : Sem PySem.Fin := do
 standAt iter.pos
 match <- pyNext it with
 | none => pure (.done .next)
 | some v =>
  letOwnedTupleGo tg it v
  assign tg env v
  let mut ok := true
  for c in ifs do
   if ok then ok <- isTrue c env (eval c env)
  if ok then emit env (again (.compLoop e dp it acc env)) else again (.compLoop e dp it acc env)
theorem mR {A : Around} {R : Result -> Shared -> Prop} {s : Shared} {dp : Nat} {e iter tg : Expr} {ifs : List Expr} {emit : Env -> Sem PySem.Fin -> Sem PySem.Fin} {it acc : Value} {env : Env} (ht : (md C).den (.compLoop e dp it acc env) = (jY dp e iter tg ifs emit it acc env).onRaise (fun x => do noteFrame x env; theTreesLotGoes x))
  (hU : A.under (.compLoop e dp it acc env) = A) (I : Nat -> Shared -> Prop)
  (turn : ∀ n s, I n s -> ∀ E, wpAny (md C) A (pyNext it) (fun r s₁ => match r with
   | none => R (.ok .next) s₁
   | some v => wpAny (md C) A (letOwnedTupleGo tg it v) (fun _ s₁' => wpAny (md C) A (assign tg env v) (fun _ s₂ =>
     wpAny (md C) A (forIn ifs true fun c r => if r = true then do let ok <- isTrue c env (eval c env); pure (ForInStep.yield ok) else pure (ForInStep.yield r)) (fun ok s₃ =>
      if ok = true then ∀ k Qf, (∀ s₅, (∃ m, m < n /\ I m s₅) -> wpAny (md C) A k Qf E s₅) -> wpAny (md C) A (emit env k) Qf E s₃
      else ∃ m, m < n /\ I m s₃) E s₂) E s₁') E s₁) E s)
  (n : Nat) (h : I n s) : codeAny (md C) A (.compLoop e dp it acc env) R s := by
 refine codeAny_loop rfl I (fun n s hI => ?_) n h
 rw [hU, ht]
 refine wpAny_noted ?_
 unfold jY
 refine wpAny_bind (wpAny_standAt (wpAny_bind (wpAny_mono (turn n s hI _) (fun r s₁ h₁ => ?_) fun _ _ h' => h')))
 cases r with
 | none => exact wpAny_pure h₁
 | some v =>
  refine wpAny_bind (wpAny_mono h₁ (fun _ s₁' h₁' => ?_) fun _ _ h' => h')
  refine wpAny_bind (wpAny_mono h₁' (fun _ s₂ h₂ => wpAny_bind (wpAny_mono h₂ (fun ok s₃ h₃ => ?_) fun _ _ h' => h')) fun _ _ h' => h')
  cases ok with
  | false => exact wpAny_pure ⟨rfl, h₃⟩
  | true => exact h₃ _ _ fun s₅ h₅ => wpAny_pure ⟨rfl, h₅⟩
structure AccOk (C : Cfg) (Acc : (Addr -> Prop) -> Nat -> Addr -> Heap -> Prop) : Prop where
 frame : ∀ S Wa Wb i D h h', Acc Wa i D h -> Kp S h h' -> (∀ a, S a -> Wa a) -> ¬ S D -> (∀ a o, h.get? a = some o -> Wb a -> Wa a) -> Acc Wb i D h'
 plain : ∀ W i D h, Acc W i D h -> bz h D
theorem fj {names : List (Str × NameKind)} (hn : (names.map (·.1)).Nodup) {x : Str} {k : NameKind} (h : (x, k) ∈ names) : names.lookup x = some k := by
 induction names with
 | nil => cases h
 | cons p r ih =>
  obtain ⟨y, j⟩ := p
  simp only [List.map_cons, List.nodup_cons] at hn
  rw [List.lookup_cons]
  rcases List.mem_cons.mp h with q | q
  ·cases q; rw [beq_self_eq_true]
  ·have : x ≠ y := fun e => hn.1 (e ▸ List.mem_map.mpr ⟨_, q, rfl⟩)
   rw [beq_eq_false_iff_ne.mpr this]
   exact ih hn.2 q
noncomputable def EmitTo (C : Cfg) (A : Around) (t : Sem PySem.Fin -> Sem PySem.Fin) (h : Heap) (P : Heap -> Prop) : Prop :=
 ∀ tk k Q E, (∀ h' tk', P h' -> wpAny (md C) A k Q E (sh C h' tk')) -> wpAny (md C) A (t k) Q E (sh C h tk)
structure jU (C : Cfg) (h₀ : Heap) (scope : Scope) (cenv : Env) (W' : Addr -> Prop) (D : Addr) : Prop where
 fr : cz C D
 f0 : h₀.get? D = Option.none
 gl : GlobOf cenv scope
 sto : ∀ x, Sto scope (aa scope) x -> Sto cenv.scope (aa scope) x
 wD : W' D
 nS : ¬ Seen cenv D
theorem jU.st {h₀ hh h9 : Heap} {scope : Scope} {cenv : Env} {W' : Addr -> Prop} {D : Addr} {ρ1 ρc : Rho} {own : Own} (X : jU C h₀ scope cenv W' D) (S8 : St C W' h₀ cenv (aa scope) ρ1 own hh) (s : ∀ x d, ρc.lookup x = some d -> ρ1.lookup x = some d)
  (k9 : Kp (fun a => C.Tb a ∨ a = D) hh h9) (I9 : Inv C h9) (pl : bz h9 D) : Kp (fun a => aN C cenv (aa scope) a ∨ a = D) hh h9 /\ St C W' h₀ cenv (aa scope) ρc own h9 := by
 refine ⟨k9.mono fun a q => q.imp .inl id, (S8.frame k9 I9 (fun a (q : C.Tb a ∨ a = D) => q.elim (S8.tbW a) fun (q : a = D) => q ▸ X.wD) (fun a (q : C.Tb a ∨ a = D) => q.imp id fun (q : a = D) => q ▸ X.f0) (fun a q w => ?_) fun a (q : C.Tb a ∨ a = D) => q.imp id fun (q : a = D) => q ▸ pl).weaken s⟩
 rcases w with w | w
 ·rcases q with q | ⟨x, q⟩
  ·exact S8.nsF.1.2 (q ▸ w)
  ·exact (S8.seen x a q).2 w
 ·exact X.nS (w ▸ q)
theorem comp_run {A : Around} {env : Env} {W : Addr -> Prop} {h₀ h : Heap} {O : Str -> Prop} {r : Nat} {sc scope : Scope} {ρ ρc : Rho} {own : Own} {e tg iter : Expr} {ifs : List Expr} {ds : List D} {upd : D -> Rho -> Rho} {p : D -> Bool}
  {emit : Value -> Env -> Sem PySem.Fin -> Sem PySem.Fin} {newAcc : Sem Value} {cpos : Pos} {Acc : (Addr -> Prop) -> Nat -> Addr -> Heap -> Prop} {use : Option (Value -> Sem Unit)}
  (R : bL r A) (G : GlobOf env sc) (S : St C W h₀ env O ρ own h) (src : EvI C r sc ρ own tg iter ds)
  {gs : List Comprehension} (hcls : clausesOf e = ⟨tg, iter, ifs, 0⟩ :: gs) (hturn : ∀ it acc env, (md C).den (.compLoop e 0 it acc env) = (jY 0 e iter tg ifs (emit acc) it acc env).onRaise (fun x => do noteFrame x env; theTreesLotGoes x)) (hU : ∀ it acc env, A.under (.compLoop e 0 it acc env) = A)
  (hstart : ∀ {A : Around} {R : Result -> Shared -> Prop} {s : Shared} {it acc : Value} {env : Env}, codeAny (md C) A (.compLoop e 0 it acc env) R s -> (∀ E, wpAny (md C) A (pyIter it) (fun it' s' => codeAny (md C) A (.compLoop e 0 it' acc env) R s') E s) -> codeAny (md C) A (.compStart e 0 it acc env) R s)
  (hkind : scope.kind = .function) (hnd : (scope.names.map (·.1)).Nodup)
  (hcap : ∀ x, (x, NameKind.free) ∈ scope.names -> (∃ d, ρ.lookup x = some d) /\ (sc.names.lookup x = some .cell ∨ sc.names.lookup x = some .free))
  (hρ : ∀ x d, ρc.lookup x = some d -> (x, NameKind.free) ∈ scope.names /\ ρ.lookup x = some d)
  (hu : ∀ d ∈ ds, ∀ x e, ρc.lookup x = some e -> (upd d ρc).lookup x = some e)
  (asg : ∀ d ∈ ds, Asg C r scope (aa scope) tg d (upd d)) (tst : ∀ d ∈ ds, di C r scope (upd d ρc) own ifs (p d))
  (hAcc : AccOk C Acc)
  (hnew : ∀ h1, Inv C h1 -> ∀ E Q tk1, (∀ D h2 tk2, h1.get? D = Option.none -> D ≠ sysModules -> ¬ C.Tb D -> (∀ b o, h1.get? b = some o -> h2.get? b = some o) -> (∀ W, Acc W 0 D h2) -> Q (.ref D) (sh C h2 tk2)) -> wpAny (md C) A newAcc Q E (sh C h1 tk1))
  (hemit : ∀ i d, ds[i]? = some d -> p d = true -> ∀ cenv W' hh D, jU C h₀ scope cenv W' D -> St C W' h₀ cenv (aa scope) (upd d ρc) own hh -> Acc (Wof W' own) i D hh ->
   EmitTo C A (emit (.ref D) cenv) hh fun h' => Acc (Wof W' own) (i + 1) D h' /\ Kp (fun a => aN C cenv (aa scope) a ∨ a = D) hh h' /\ St C W' h₀ cenv (aa scope) ρc own h')
  (hskip : ∀ i d, ds[i]? = some d -> p d = false -> ∀ W D hh, Acc W i D hh -> Acc W (i + 1) D hh)
  (hs : ∀ env x, foldedSetIterable iter env x = pure x)
  {Q : Value -> Shared -> Prop} {E : Value -> Shared -> Prop} {tk : Tok}
  (cont : ∀ D Lc H tkH m, h.get? D = Option.none -> h.get? Lc = Option.none -> D ≠ Lc -> D ≠ sysModules -> Ext C h H -> H.Ns Lc m -> Acc (fun b => Wof W own b ∨ b = D ∨ b = Lc) ds.length D H -> compPost (md C) A E use Q (.ref D) Lc (.ok .next) (sh C H tkH)) :
  wpAny (md C) A (comprehension e scope env cpos newAcc false (eval iter env) use) Q E (sh C h tk) := by
 have hcells : ∀ x, (x, NameKind.free) ∈ scope.names -> ∃ c, env.cells.lookup x = some c := fun x hx => by
  obtain ⟨⟨d, hd⟩, hk⟩ := hcap x hx
  obtain ⟨v, b, _⟩ := S.bound x d hd
  rcases b with ⟨q, _⟩ | ⟨_, c, l, _⟩
  ·rcases (G x).2 hk with q2 | q2 <;> rw [q] at q2 <;> cases q2
  ·exact ⟨c, l⟩
 refine wpAny_comprehension_free hcls (hs env) (dg hcells) hkind (fun x hx hl => by obtain ⟨x, k⟩ := x; cases hl; exact fj hnd hx) ?_
 refine (src.go A env W h₀ O h R G S).use fun x h1 tk1 tri => tri.use ?_
 rintro it h2 tk2 ⟨e2, wr, St', I, fr, st0, hl⟩
 refine hnew h2 e2.2 _ _ _ fun D h3 tk3 fD hmod tbD k3 acc0 => ?_
 refine (newEnv_comp (C := C) (A := A) (h := h3)).use ?_
 rintro cenv0 h4 tk4 ⟨ec, n4, k4, ck⟩
 subst ec
 let cells' := cellsFrom (h3.objs.size + 1) scope.names [] ++ dR env.cells scope.names []
 let cenv : Env := compEnvC scope cells' h3.objs.size env
 show codeAny (md C) A (.compStart e 0 it (.ref D) cenv) (compPost (md C) A E use Q (.ref D) h3.objs.size) (sh C h4 tk4)
 generalize hL : h3.objs.size = Lc at n4 ck
 have k34 : ∀ b o, h2.get? b = some o -> h4.get? b = some o := fun b o q => k4 b o (k3 b o q)
 have x4 : Ext C h h4 := e2.trans (.all e2.2 k34)
 have D3 : h3.get? D ≠ Option.none := (hAcc.plain _ _ _ _ (acc0 fun _ => False)).ne
 have D4 : h4.get? D ≠ Option.none := by
  cases q : h3.get? D with
  | none => exact absurd q D3
  | some o => exact bw (k4 _ _ q)
 have fL : h3.get? Lc = Option.none := by rw [<- hL]; exact aj h3
 have back : ∀ a, h3.get? a = Option.none -> h.get? a = Option.none := fun a q => (e2.trans (.all e2.2 k3)).none_back q
 have cnew : ∀ x c, (x, c) ∈ cellsFrom (Lc + 1) scope.names [] -> h3.get? c = Option.none /\ h4.IsCell c Option.none /\ Lc < c := fun x c q => by
  have := ck.empty x c q
  have hlt : Lc < c := by have := this.2; omega
  exact ⟨Heap.get?_none_of_le (by omega), this.1, hlt⟩
 let N : Addr -> Prop := fun a => wr a ∨ a = D ∨ a = Lc ∨ ∃ x, (x, a) ∈ cellsFrom (Lc + 1) scope.names []
 have N0 : ∀ a, N a -> h.get? a = Option.none /\ bz h4 a := by
  rintro a (q | q | q | ⟨x, q⟩)
  ·exact ⟨(fr a q).1, (fr a q).2.keep (k34 a)⟩
  ·exact ⟨q ▸ e2.none_back fD, q ▸ (hAcc.plain _ _ _ _ (acc0 fun _ => False)).keep (k4 D)⟩
  ·exact ⟨q ▸ back _ fL, q ▸ .ns n4⟩
  ·obtain ⟨c1, c2, c3⟩ := cnew x a q
   exact ⟨back _ c1, .cell c2⟩
 have wrD : ¬ wr D := fun q => (fr D q).2.ne fD
 have wrL : ¬ wr Lc := fun q => by
  cases z : h2.get? Lc with
  | none => exact (fr Lc q).2.ne z
  | some o => rw [k3 _ _ z] at fL; cases fL
 have wrc : ∀ x c, (x, c) ∈ cellsFrom (Lc + 1) scope.names [] -> ¬ wr c := fun x c hc q => by
  cases z : h2.get? c with
  | none => exact (fr c q).2.ne z
  | some o => have := k3 _ _ z; rw [(cnew x c hc).1] at this; cases this
 have DL : D ≠ Lc := fun q => D3 (q ▸ fL)
 have Dc : ∀ x c, (x, c) ∈ cellsFrom (Lc + 1) scope.names [] -> D ≠ c := fun x c hc q => D3 (q ▸ (cnew x c hc).1)
 have cellN : ∀ x, (x, NameKind.free) ∈ scope.names -> (cellsFrom (Lc + 1) scope.names []).lookup x = Option.none := fun x hx => by
  cases z : (cellsFrom (Lc + 1) scope.names []).lookup x with
  | none => rfl
  | some c =>
   have h1 := fj hnd hx
   have h2 := fj hnd (fG _ _ _ _ (mem_of_lookup z))
   rw [h1] at h2; cases h2
 have lk : ∀ x c, cenv.cells.lookup x = some c -> (x, c) ∈ cellsFrom (Lc + 1) scope.names [] ∨ ((x, NameKind.free) ∈ scope.names /\ env.cells.lookup x = some c) := fun x c q => by
  have q : (cellsFrom (h3.objs.size + 1) scope.names [] ++ dR env.cells scope.names []).lookup x = some c := q
  rw [hL, List.lookup_append] at q
  cases z : (cellsFrom (Lc + 1) scope.names []).lookup x with
  | some c' => rw [z] at q; cases q; exact .inl (mem_of_lookup z)
  | none =>
   rw [z] at q
   have q : (dR env.cells scope.names []).lookup x = some c := q
   obtain ⟨a, b⟩ := iY q
   obtain ⟨c2, h2⟩ := hcells x a
   rw [h2] at b
   exact .inr ⟨a, by rw [h2, b]; rfl⟩
 have lkc : ∀ x c, (x, NameKind.free) ∈ scope.names -> env.cells.lookup x = some c -> cenv.cells.lookup x = some c := fun x c hx hc => by
  show (cellsFrom (h3.objs.size + 1) scope.names [] ++ dR env.cells scope.names []).lookup x = some c
  rw [hL, List.lookup_append, cellN x hx]
  exact capt_some hx hc
 have kindc : ∀ x, cenv.kindOf x = (scope.names.lookup x).map fun k => if (k == NameKind.free && env.scope.kind == .function && env.kindOf x == some .cell) then NameKind.cell else k := fun x => lookup_relabel scope.names x
 have Gc : GlobOf cenv scope := fun x => ⟨fun q => by rw [kindc, q]; rfl, fun q => by
  rw [kindc]
  rcases q with q | q <;> rw [q]
  ·exact .inl rfl
  ·show some (if _ then _ else _) = _ ∨ some (if _ then _ else _) = _
   split
   ·exact .inl rfl
   ·exact .inr rfl⟩
 have locE : cenv.locals = Lc := hL
 have hwN : ∀ a o, h.get? a = some o -> Wof (more W N) own a -> Wof W own a := fun a o z q => by
  rcases q with (q | q) | q
  ·exact .inl q
  ·rw [(N0 a q).1] at z; cases z
  ·exact .inr q
 have S4 : St C (more W N) h₀ cenv (aa scope) ρc own h4 := by
  refine ⟨x4.2, fun b o q n => x4.1 b o (S.keep b o q n) n, hkind, S.glob, S.blt, ⟨_, locE ▸ n4⟩, .inr (.inr (.inr (.inl locE))), ?_, fun y hy => ?_, fun y c l => ?_, fun y y' c l l' => ?_, fun a q => .inl (S.tbW a q), fun a q => ?_, fun y d q => ?_, fun p hp => ?_, S.nodup⟩
  ·rw [locE]; exact ⟨S.inv.fresh_of_none (back _ fL), S.fresh0 (back _ fL)⟩
  ·obtain ⟨c, hc⟩ := gU (n := Lc + 1) hy
   have hm := mem_of_lookup hc
   obtain ⟨c1, c2, c3⟩ := cnew y c hm
   refine ⟨c, _, ?_, c2, .inr (.inr (.inr (.inr ⟨y, hm⟩))), S.inv.fresh_of_none (back _ c1), S.fresh0 (back _ c1)⟩
   show (cellsFrom (h3.objs.size + 1) scope.names [] ++ dR env.cells scope.names []).lookup y = some c
   rw [hL, List.lookup_append, hc]; rfl
  ·rcases lk y c l with q | ⟨q, q2⟩
   ·obtain ⟨c1, c2, c3⟩ := cnew y c q
    exact ⟨by obtain ⟨o, z, _⟩ := c2; exact bw (z), x4.2.cell_notTb c2⟩
   ·obtain ⟨a, b⟩ := S.seen y c q2
    refine ⟨?_, b⟩
    cases z : h.get? c with
    | none => exact absurd z a
    | some o => exact bw (x4.1 _ _ z b)
  ·rcases lk y c l with q | ⟨q, q2⟩ <;> rcases lk y' c l' with z | ⟨z, z2⟩
   ·exact name_of_addr ck.apart q z
   ·exact absurd (back _ (cnew y c q).1) (S.seen y' c z2).1
   ·exact absurd (back _ (cnew y' c z).1) (S.seen y c q2).1
   ·exact S.apart _ _ _ q2 z2
  ·exact ((S.ext x4).wok.or fun a q => (N0 a q).2) a q
  ·obtain ⟨hy, hd⟩ := hρ y d q
   obtain ⟨v, b, z⟩ := S.bound y d hd
   refine ⟨v, ?_, z.kp x4.1 S.tw hwN fun _ q => q⟩
   have hl := fj hnd hy
   rcases b with ⟨k, _⟩ | ⟨k, c, l, ci⟩
   ·rcases (G y).2 (hcap y hy).2 with q2 | q2 <;> rw [k] at q2 <;> cases q2
   ·refine .inr ⟨?_, c, lkc y c hy l, bZ x4.1 (S.seen y c l).2 ci⟩
    rw [kindc, hl]
    rcases k with k | ⟨k, k2⟩
    ·left
     show some (if (_ && env.scope.kind == .function && _) = true then _ else _) = _
     rw [S.kind, k]; rfl
    ·right
     refine ⟨?_, k2⟩
     show some (if (_ && env.scope.kind == .function && _) = true then _ else _) = _
     rw [S.kind, k]; rfl
  ·obtain ⟨o, w, f⟩ := S.owns p hp
   exact ⟨o.kp x4.1 S.tw hwN (fun a q => q.imp .inl id) (fun q => w (S.tbW _ q)), fun q => q.elim w fun q => S.exists_own (List.mem_map.mpr ⟨p, hp, rfl⟩) (N0 _ q).1, f⟩
 let Wa : Addr -> Prop := Wof (more W N) own
 have hwr : ∀ a, wr a -> Wa a := fun a q => .inl (.inr (.inl q))
 have WaD : Wa D := .inl (.inr (.inr (.inl rfl)))
 have tbwr : ∀ a, C.Tb a -> ¬ wr a := fun a t q => by
  obtain ⟨vs, z⟩ := C.tabHas h S.inv.2 a t
  rw [(fr a q).1] at z; cases z
 have seenwr : ∀ a, Seen cenv a -> ¬ wr a := by
  rintro a (q | ⟨x, q⟩) w
  ·exact wrL (locE ▸ q ▸ w)
  ·rcases lk x a q with q | ⟨_, q⟩
   ·exact wrc x a q w
   ·exact (S.seen x a q).1 (fr a w).1
 have mutN : ∀ a, aN C cenv (aa scope) a -> C.Tb a ∨ a = Lc ∨ ∃ x, (x, a) ∈ cellsFrom (Lc + 1) scope.names [] := by
  rintro a (q | q | ⟨x, hx, q⟩)
  ·exact .inl q
  ·exact .inr (.inl (q.trans locE))
  ·rcases lk x a q with q | ⟨q, _⟩
   ·exact .inr (.inr ⟨x, q⟩)
   ·have h1 := fj hnd q
    rw [show scope.names.lookup x = some .cell from hx] at h1; cases h1
 have mutwr : ∀ a, aN C cenv (aa scope) a -> ¬ wr a := fun a q w => by
  rcases mutN a q with q | q | ⟨x, q⟩
  ·exact tbwr a q w
  ·exact wrL (q ▸ w)
  ·exact wrc x a q w
 have mutD : ¬ aN C cenv (aa scope) D := fun q => by
  rcases mutN D q with q | q | ⟨x, q⟩
  ·exact tbD q
  ·exact DL q
  ·exact Dc x D q rfl
 have muth : ∀ a o, h.get? a = some o -> ¬ C.Tb a -> ¬ aN C cenv (aa scope) a := fun a o z n q => by
  rcases mutN a q with q | q | ⟨x, q⟩
  ·exact n q
  ·rw [q, back _ fL] at z; cases z
  ·rw [back _ (cnew x a q).1] at z; cases z
 have st4 : St' Wa 0 h4 := I.frame (fun _ => False) _ Wa 0 h2 h4 st0 (.of_all k34) (fun _ f => f.elim) (fun _ f => f.elim) fun a o z q => by
  rcases q with (q | q | q | q | ⟨x, q⟩) | q
  ·exact .inl (.inl q)
  ·exact .inr q
  ·rw [q, fD] at z; cases z
  ·have := k3 a o z; rw [q, fL] at this; cases this
  ·have := k3 a o z; rw [(cnew x a q).1] at this; cases this
  ·exact .inl (.inr q)
 have acc4 : Acc Wa 0 D h4 := hAcc.frame (fun _ => False) Wa Wa 0 D h3 h4 (acc0 Wa) (.of_all k4) (fun _ f => f.elim) id fun _ _ _ q => q
 have nD : h.get? D = Option.none := e2.none_back fD
 have EI : jU C h₀ scope cenv (more W N) D := ⟨S.inv.fresh_of_none nD, S.fresh0 nD, Gc, fun x q => by
  have := kindc x
  rcases q with q | ⟨q, q2⟩ <;> rw [q] at this
  ·exact .inl this
  ·exact .inr ⟨this, q2⟩, .inr (.inr (.inl rfl)), by
  rintro (q | ⟨x, q⟩)
  ·exact DL (q.trans locE)
  ·rcases lk x D q with q | ⟨_, q⟩
   ·exact Dc x D q rfl
   ·exact (S.seen x D q).1 nD⟩
 have loop : ∀ tk', codeAny (md C) A (.compLoop e 0 it (.ref D) cenv) (compPost (md C) A E use Q (.ref D) Lc) (sh C h4 tk') := by
  intro tk'
  refine mR (hturn it (.ref D) cenv) (hU _ _ _) (fun n s => ∃ i hh tk', s = sh C hh tk' /\ n = ds.length + 1 - i /\ i <= ds.length /\ St C (more W N) h₀ cenv (aa scope) ρc own hh /\ St' Wa i hh /\ Ext C h hh /\ Acc Wa i D hh) ?_ (ds.length + 1)
   ⟨0, h4, tk', rfl, rfl, Nat.zero_le _, S4, st4, x4, acc4⟩
  rintro n s ⟨i, hh, tk5, rfl, rfl, hi, S5, st5, x5, acc5⟩ E'
  by_cases hlt : i < ds.length
  ·have hd : ds[i]? = some ds[i] := List.getElem?_eq_getElem hlt
   have hmem : ds[i] ∈ ds := List.getElem_mem hlt
   refine (I.item Wa i hh ds[i] st5 hwr S5.tw S5.wOld' S5.inv hd).useE fun rr h5 tk5 v er go => ?_
   subst er
   refine go.use ?_
   rintro _ h6 tk6 ⟨I6, k6, y6, st6, z6⟩
   have S6 := S5.frame k6 I6 (fun a q => .inr (.inl q)) (fun a q => .inr (S.fresh0 (fr a q).1)) seenwr fun a q => .inr (y6 a q)
   have x6 : Ext C h h6 := ⟨fun b o z n => k6 b o (x5.1 b o z n) (fun q => by rw [(fr b q).1] at z; cases z), I6⟩
   have acc6 := hAcc.frame wr Wa Wa i D hh h6 acc5 k6 hwr wrD fun _ _ _ q => q
   refine ((asg ds[i] hmem).go A cenv (more W N) h₀ ρc own h6 v R EI.sto S6 (.of z6)).use2 fun _ h7 tk7 S7 k7 => ?_
   have x7 : Ext C h h7 := ⟨fun b o z n => k7 b o (x6.1 b o z n) (muth b o z n), S7.inv⟩
   have st7 := I.frame _ Wa Wa (i + 1) h6 h7 st6 k7 (fun a q => aN.sub S6 q) mutwr fun _ _ _ q => q
   have acc7 := hAcc.frame _ Wa Wa i D h6 h7 acc6 k7 (fun a q => aN.sub S6 q) mutD fun _ _ _ q => q
   refine ((tst ds[i] hmem).go A cenv (more W N) h₀ (aa scope) h7 R Gc S7).use2 fun ok h8 tk8 e8 ok8 => ?_
   have S8 := S7.ext e8
   have x8 := x7.trans e8
   have st8 := I.frame _ Wa Wa (i + 1) h7 h8 st7 e8.1 S7.tw tbwr fun _ _ _ q => q
   have acc8 := hAcc.frame _ Wa Wa i D h7 h8 acc7 e8.1 S7.tw tbD fun _ _ _ q => q
   subst ok8
   cases hp : p ds[i] with
   | true =>
    simp only [if_true]
    refine fun k Qf hk => hemit i ds[i] hd hp cenv (more W N) h8 D EI S8 acc8 _ k Qf _ ?_
    rintro h9 tk9 ⟨acc9, k9, S9⟩
    refine hk _ ?_
    have x9 : Ext C h h9 := ⟨fun b o z n => k9 b o (x8.1 b o z n) (fun q => q.elim (muth b o z n) fun q => by rw [q, nD] at z; cases z), S9.inv⟩
    have st9 := I.frame _ Wa Wa (i + 1) h8 h9 st8 k9 (fun a (q : aN C cenv (aa scope) a ∨ a = D) => q.elim (aN.sub S8) (fun (q : a = D) => q ▸ WaD)) (fun a (q : aN C cenv (aa scope) a ∨ a = D) => q.elim (mutwr a) (fun (q : a = D) => q ▸ wrD)) fun _ _ _ q => q
    exact ⟨ds.length + 1 - (i + 1), by omega, i + 1, h9, tk9, rfl, rfl, hlt, S9, st9, x9, acc9⟩
   | false =>
    simp only [Bool.false_eq_true, if_false]
    exact ⟨ds.length + 1 - (i + 1), by omega, i + 1, h8, tk8, rfl, rfl, hlt, S8.weaken (fun x q z => hu _ hmem x q z), st8, x8, hskip i ds[i] hd hp _ _ _ acc8⟩
  ·have : i = ds.length := by omega
   subst this
   refine (I.done Wa hh st5 hwr S5.inv).use3 fun rr h6 tk6 er I6 k6 => ?_
   subst er
   have x6 : Ext C h h6 := ⟨fun b o z n => k6 b o (x5.1 b o z n) (fun q => by rw [(fr b q).1] at z; cases z), I6⟩
   obtain ⟨m, n⟩ := S5.ns
   rw [locE] at n
   refine cont D Lc h6 tk6 m (e2.none_back fD) (back _ fL) DL hmod x6 (jA k6 wrL n) (hAcc.frame wr Wa _ _ D hh h6 acc5 k6 hwr wrD fun a o z q => ?_)
   rcases q with q | q | q
   ·exact q.imp .inl id
   ·exact q ▸ WaD
   ·exact .inl (.inr (.inr (.inr (.inl q))))
 refine hstart (loop tk4) fun E' => (I.self Wa 0 h4 st4).use2 fun v hv tkv ev eh => ?_
 subst ev eh
 exact loop tkv
section
variable {r : Nat} {sc : Scope} {O : Str -> Prop} {ρ : Rho} {own : Own} {P : aZ}
noncomputable def accL (C : Cfg) (ds : List D) (p : D -> Bool) (f : D -> D) (W : Addr -> Prop) (i : Nat) (a : Addr) (h : Heap) : Prop :=
 ∃ vs k, h.get? a = some (aM vs k) /\ ao C W h vs (((ds.take i).filter p).map f)
theorem accL_ok {ds : List D} {p : D -> Bool} {f : D -> D} : AccOk C (accL C ds p f) where
 frame := by rintro S Wa Wb i D h h' ⟨vs, k, e, z⟩ kp hs nD hw; exact ⟨vs, k, kp _ _ e nD, z.kp kp hs hw⟩
 plain := by rintro W i D h ⟨vs, k, e, z⟩; exact ⟨_, e, dW e _ e⟩
theorem dj {α : Type} {p : α -> Bool} {l : List α} {i : Nat} {v : α} (h : l[i]? = some v) : (l.take (i + 1)).filter p = (l.take i).filter p ++ (if p v then [v] else []) := take_succ_filter p l i v h
structure jc (C : Cfg) (r : Nat) (sc scope : Scope) (ρ ρc : Rho) (own : Own) (tg iter : Expr) (ifs : List Expr) (ds : List D) (upd : D -> Rho -> Rho) (p : D -> Bool) : Prop where
 src : EvI C r sc ρ own tg iter ds
 hkind : scope.kind = .function
 hnd : (scope.names.map (·.1)).Nodup
 hcap : ∀ x, (x, NameKind.free) ∈ scope.names -> (∃ d, ρ.lookup x = some d) /\ (sc.names.lookup x = some .cell ∨ sc.names.lookup x = some .free)
 hρ : ∀ x d, ρc.lookup x = some d -> (x, NameKind.free) ∈ scope.names /\ ρ.lookup x = some d
 hu : ∀ d ∈ ds, ∀ x e, ρc.lookup x = some e -> (upd d ρc).lookup x = some e
 asg : ∀ d ∈ ds, Asg C r scope (aa scope) tg d (upd d)
 tst : ∀ d ∈ ds, di C r scope (upd d ρc) own ifs (p d)
 hs : ∀ env x, foldedSetIterable iter env x = pure x
 len : ds.length <= 1048576
theorem mq {A : Around} {env : Env} {W : Addr -> Prop} {h₀ h : Heap} {scope : Scope} {ρc : Rho} {tg iter elt : Expr} {ifs : List Expr} {ds : List D} {upd : D -> Rho -> Rho} {p : D -> Bool} {f : D -> D} {pos cpos : Pos} {use : Option (Value -> Sem Unit)}
  (X : jc C r sc scope ρ ρc own tg iter ifs ds upd p) (el : ∀ d ∈ ds, p d = true -> Ev C r scope (upd d ρc) own elt (f d)) (R : bL r A) (G : GlobOf env sc) (S : St C W h₀ env O ρ own h)
  {Q : Value -> Shared -> Prop} {E : Value -> Shared -> Prop} {tk : Tok}
  (cont : ∀ D Lc H tkH m, h.get? D = Option.none -> h.get? Lc = Option.none -> D ≠ Lc -> D ≠ sysModules -> Ext C h H -> H.Ns Lc m -> bc C (fun b => Wof W own b ∨ b = D ∨ b = Lc) H D (.list ((ds.filter p).map f)) -> compPost (md C) A E use Q (.ref D) Lc (.ok .next) (sh C H tkH)) :
  wpAny (md C) A (comprehension (.ListComp elt [⟨tg, iter, ifs, 0⟩] scope pos) scope env cpos (newList []) false (eval iter env) use) Q E (sh C h tk) := by
 refine comp_run (emit := fun acc env k => ((do let _ <- call (.builtin "list.append") [acc, <- eval elt env] : Sem Unit) >>= fun _ => k)) (Acc := accL C ds p f) R G S X.src rfl (fun _ _ _ => rfl) (fun _ _ _ => rfl) (fun h0 h1 => codeAny_compStart_list h0 (h1 _)) X.hkind X.hnd X.hcap X.hρ X.hu X.asg X.tst accL_ok ?_ ?_ ?_ X.hs ?_
 ·intro h1 I E Q tk1 k
  have e : (h1.push (aM [] 0)).get? h1.objs.size = some (aM [] 0) := Heap.get?_push_size _ rfl
  exact wpAny_newObj_type (k h1.objs.size (h1.push (aM [] 0)) tk1 (aj h1) I.size_mods ((I.push _).notTb e (by intro vs q; cases q)) (fun _ _ e => Heap.get?_push_of_some _ e) fun W => ⟨[], 0, e, .nil⟩)
 ·rintro i d hd hp cenv W' hh D EI S' ⟨vs, k, e, z⟩ tk' kk qQ qE qK
  have hmem : d ∈ ds := List.mem_of_getElem? hd
  refine wpAny_bind (wpAny_bind (((el d hmem hp).go A cenv W' h₀ _ hh R EI.gl S').use2 fun v h1 tk1 x1 z1 => ?_))
  have nT : ¬ C.Tb D := S'.inv.notTb e (by intro vs q; cases q)
  have e1 := x1.1 _ _ e nT
  refine wpAny_bind (wpAny_list_append_plain ⟨k, e1⟩ (fun h2 ⟨k2, e2⟩ hs => wpAny_pure (qK h2 _ ⟨⟨vs ++ [v], k2, by simpa using e2, ?_⟩, EI.st S' (X.hu d hmem) ?_ ?_ ⟨_, e2, dW e2 _ e2⟩⟩)) ?_)
  ·have kk : Kp (fun a => a = D) h1 h2 := fun b o q n => hs.extBut b o n q
   have sub : ∀ a, a = D -> Wof W' own a := fun a q => .inl (q ▸ EI.wD)
   rw [dj hd, hp, if_pos rfl, List.map_append]
   exact ((z.ext x1 S'.tw).keep kk sub).append (.cons (z1.keep kk sub) .nil)
  ·exact fun b o q n => hs.extBut b o (fun w => n (.inr w)) (x1.1 b o q fun w => n (.inl w))
  ·exact x1.2.extBut EI.fr (dW e1) hs.extBut
  ·have h1 := z.length
   have h2 : ((ds.take i).filter p).length <= ds.length := Nat.le_trans (List.length_filter_le _ _) (by rw [List.length_take]; lia)
   have := X.len
   rw [List.length_map] at h1
   simp [sizeLine]; lia
 ·intro i d hd hp W D hh ⟨vs, k, e, z⟩
  refine ⟨vs, k, e, ?_⟩
  rw [dj hd, hp, if_neg (by nofun), List.append_nil]; exact z
 ·intro D Lc H tkH m a1 a2 a3 a4 a5 a6 ⟨vs, k, e, z⟩
  rw [List.take_length] at z
  exact cont D Lc H tkH m a1 a2 a3 a4 a5 a6 ⟨vs, k, e, by have := X.len; have := List.length_filter_le p ds; rw [List.length_map]; lia, z⟩
theorem EvF.listcomp {scope : Scope} {ρc : Rho} {tg iter elt : Expr} {ifs : List Expr} {ds : List D} {upd : D -> Rho -> Rho} {p : D -> Bool} {f : D -> D} {pos : Pos}
  (X : jc C r sc scope ρ ρc own tg iter ifs ds upd p) (el : ∀ d ∈ ds, p d = true -> Ev C r scope (upd d ρc) own elt (f d)) : EvF C r sc ρ own (.ListComp elt [⟨tg, iter, ifs, 0⟩] scope pos) (.list ((ds.filter p).map f)) := by
 constructor; intro A env W h₀ O h R G S tk qQ qE qK
 refine mq (use := Option.none) X el R G S fun D Lc H tkH m a1 a2 a3 a4 a5 a6 z => ⟨m, a6, fun h' hs' => (qK _ h' tkH ⟨D, rfl, a1, a4, ⟨fun b o e n => hs'.extBut b o (fun q => by rw [q, a2] at e; cases e) (a5.1 b o e n), a5.2.extBut (S.inv.fresh_of_none a2) (mJ a6) hs'.extBut⟩, ?_⟩)⟩
 have kk : Kp (fun a => a = Lc) H h' := fun b o q n => hs'.extBut b o n q
 exact z.kp2 kk (fun a q => .inr (.inr q)) (fun a _ _ q => q.imp id .inl) a3
noncomputable def dput (kvs : List (Str × D)) (k : Str) (d : D) : List (Str × D) := if kvs.any (fun kv => kv.1 = k) then kvs.map (fun kv => if kv.1 = k then (kv.1, d) else kv) else kvs ++ [(k, d)]
theorem aV.any {W : Addr -> Prop} {h : Heap} {k : Str} {vs : List (Str × Value)} {ds : List (Str × D)} (z : aV C W h vs ds) : vs.any (fun kv => kv.1 = k) = ds.any (fun kv => kv.1 = k) :=
 aV.ind (P := fun vs ds => vs.any (fun kv => kv.1 = k) = ds.any (fun kv => kv.1 = k)) rfl (fun {j _ _ _ _} _ _ r => congrArg (fun b => decide (j = k) || b) r) z
theorem aV.append {W : Addr -> Prop} {h : Heap} {vs us : List (Str × Value)} {ds es : List (Str × D)} (z : aV C W h vs ds) (k : aV C W h us es) : aV C W h (vs ++ us) (ds ++ es) :=
 aV.ind (P := fun vs ds => aV C W h (vs ++ us) (ds ++ es)) k (fun v _ r => .cons v r) z
theorem aV.map {W : Addr -> Prop} {h : Heap} {k : Str} {v : Value} {d : D} (z : Val C W h v d) {vs : List (Str × Value)} {ds : List (Str × D)} (y : aV C W h vs ds) : aV C W h (vs.map fun kv => if kv.1 = k then (kv.1, v) else kv) (ds.map fun kv => if kv.1 = k then (kv.1, d) else kv) := by
 refine aV.ind (P := fun vs ds => aV C W h (vs.map fun kv => if kv.1 = k then (kv.1, v) else kv) (ds.map fun kv => if kv.1 = k then (kv.1, d) else kv)) .nil (fun {j v' vs d' ds} u _ r => ?_) y
 show aV C W h ((if j = k then (j, v) else (j, v')) :: _) ((if j = k then (j, d) else (j, d')) :: _)
 by_cases q : j = k
 ·rw [if_pos q, if_pos q]; exact .cons z r
 ·rw [if_neg q, if_neg q]; exact .cons u r
theorem aV.stored {W : Addr -> Prop} {h : Heap} {k : Str} {v : Value} {d : D} (z : Val C W h v d) {vs : List (Str × Value)} {ds : List (Str × D)} (x : aV C W h vs ds) : aV C W h (PySem.stored vs k v) (dput ds k d) := by
 unfold PySem.stored dput
 rw [x.any]
 split
 ·exact x.map z
 ·exact x.append (.cons z .nil)
theorem aV.length {W : Addr -> Prop} {h : Heap} {vs : List (Str × Value)} {ds : List (Str × D)} (z : aV C W h vs ds) : vs.length = ds.length := aV.ind (P := fun vs ds => vs.length = ds.length) rfl (fun _ _ r => congrArg (· + 1) r) z
theorem mO (kvs : List (Str × D)) (k : Str) (d : D) : (dput kvs k d).length <= kvs.length + 1 := by
 unfold dput
 split
 ·rw [List.length_map]; lia
 ·rw [List.length_append, List.length_singleton]; lia
noncomputable def jz (l : List (Str × D)) : List (Str × D) := l.foldl (fun acc kv => dput acc kv.1 kv.2) []
theorem dputs_snoc (l : List (Str × D)) (kv : Str × D) : jz (l ++ [kv]) = dput (jz l) kv.1 kv.2 := by unfold jz; rw [List.foldl_append]; rfl
theorem dputs_length (l : List (Str × D)) : (jz l).length <= l.length := by
 have key : ∀ (l acc : List (Str × D)), (l.foldl (fun acc kv => dput acc kv.1 kv.2) acc).length <= acc.length + l.length := by
  intro l
  induction l with
  | nil => intro acc; simp
  | cons kv l ih =>
   intro acc
   rw [List.foldl_cons, List.length_cons]
   have := ih (dput acc kv.1 kv.2)
   have := mO acc kv.1 kv.2
   lia
 simpa [jz] using key l []
noncomputable def accD (C : Cfg) (ds : List D) (p : D -> Bool) (f : D -> Str × D) (W : Addr -> Prop) (i : Nat) (a : Addr) (h : Heap) : Prop :=
 ∃ es, h.DictOf (strKind C.prog C.w) a es /\ aV C W h es (jz (((ds.take i).filter p).map f))
theorem fQ {h : Heap} {a : Addr} {es : List (Str × Value)} (x : h.DictOf (strKind C.prog C.w) a es) : ∃ o, h.get? a = some o /\ ∀ vs, o.data ≠ .fields vs := by
 obtain ⟨o, _, _, e, _, d, _⟩ := x
 exact ⟨o, e, fun vs q => by rw [d] at q; cases q⟩
theorem accD_ok {ds : List D} {p : D -> Bool} {f : D -> Str × D} : AccOk C (accD C ds p f) where
 frame := by rintro S Wa Wb i D h h' ⟨vs, e, z⟩ kp hs nD hw; exact ⟨vs, dq kp nD e, z.kp kp hs hw⟩
 plain := by rintro W i D h ⟨vs, e, z⟩; obtain ⟨o, q, n⟩ := fQ e; exact ⟨o, q, nc_of n⟩
theorem comp_dict {A : Around} {env : Env} {W : Addr -> Prop} {h₀ h : Heap} {scope : Scope} {ρc : Rho} {tg iter kx vx : Expr} {ifs : List Expr} {ds : List D} {upd : D -> Rho -> Rho} {p : D -> Bool} {f : D -> Str × D} {pos cpos : Pos} {use : Option (Value -> Sem Unit)}
  (X : jc C r sc scope ρ ρc own tg iter ifs ds upd p) (ek : ∀ d ∈ ds, p d = true -> Ev C r scope (upd d ρc) own kx (.str (f d).1)) (el : ∀ d ∈ ds, p d = true -> Ev C r scope (upd d ρc) own vx (f d).2) (R : bL r A) (G : GlobOf env sc) (S : St C W h₀ env O ρ own h)
  {Q : Value -> Shared -> Prop} {E : Value -> Shared -> Prop} {tk : Tok}
  (cont : ∀ D Lc H tkH m, h.get? D = Option.none -> h.get? Lc = Option.none -> D ≠ Lc -> D ≠ sysModules -> Ext C h H -> H.Ns Lc m -> bc C (fun b => Wof W own b ∨ b = D ∨ b = Lc) H D (.dict (jz ((ds.filter p).map f))) -> compPost (md C) A E use Q (.ref D) Lc (.ok .next) (sh C H tkH)) :
  wpAny (md C) A (comprehension (.DictComp kx vx [⟨tg, iter, ifs, 0⟩] scope pos) scope env cpos newDict false (eval iter env) use) Q E (sh C h tk) := by
 have len : ∀ i, (jz (((ds.take i).filter p).map f)).length <= 1048576 := fun i => by
  have h1 := dputs_length (((ds.take i).filter p).map f)
  have h2 : ((ds.take i).filter p).length <= ds.length := Nat.le_trans (List.length_filter_le _ _) (by rw [List.length_take]; lia)
  have := X.len
  rw [List.length_map] at h1; lia
 refine comp_run (emit := fun acc env k => ((do
    let kv <- eval kx env
    let vv <- holding [kv] (eval vx env)
    match acc with
    | .ref d => do
     standAt { kx.pos with endLine := vx.pos.endLine, endCol := vx.pos.endCol }
     holding [kv, vv] (dictSet d kv vv)
    | _ => unsupported "internal:dictcomp" : Sem Unit) >>= fun _ => k)) (Acc := accD C ds p f) R G S X.src rfl (fun _ _ _ => rfl) (fun _ _ _ => rfl) (fun h0 h1 => codeAny_compStart_dict h0 (h1 _)) X.hkind X.hnd X.hcap X.hρ X.hu X.asg X.tst accD_ok ?_ ?_ ?_ X.hs ?_
 ·intro h1 I E Q tk1 k
  have e : (h1.push { cls := .type "dict", data := .dict #[] }).DictOf (strKind C.prog C.w) h1.objs.size [] := Heap.DictOf.new h1
  exact wpAny_newObj_type (k h1.objs.size (h1.push { cls := .type "dict", data := .dict #[] }) tk1 (aj h1) I.size_mods (by obtain ⟨o, q, n⟩ := fQ e; exact (I.push _).notTb q n) (fun _ _ e => Heap.get?_push_of_some _ e) fun W => ⟨[], e, .nil⟩)
 ·rintro i d hd hp cenv W' hh D EI S' ⟨es, e, z⟩ tk' kk qQ qE qK
  have hmem : d ∈ ds := List.mem_of_getElem? hd
  refine wpAny_bind (wpAny_bind (((ek d hmem hp).go A cenv W' h₀ _ hh R EI.gl S').use2 fun kv h1 tk1 x1 z1 => ?_))
  have S1 := S'.ext x1
  refine wpAny_bind (wpAny_holding (((el d hmem hp).go A cenv W' h₀ _ h1 R EI.gl S1).use2 fun vv h2 tk2 x2 z2 => ?_))
  have nT : ¬ C.Tb D := by obtain ⟨o, q, n⟩ := fQ e; exact S'.inv.notTb q n
  have x12 := x1.trans x2
  have e2 := dq x12.1 nT e
  obtain ⟨t, rfl⟩ := z1.str_inv
  refine wpAny_bind (wpAny_standAt (wpAny_holding (wpAny_dictSet_pairs (strKind_is _ _ _ _) e2 (fun h3 e3 hs => (qK h3 _ ⟨⟨_, e3, ?_⟩, EI.st S' (X.hu d hmem) ?_ ?_ (by obtain ⟨o, q, n⟩ := fQ e3; exact ⟨o, q, nc_of n⟩)⟩)) ?_)))
  ·have kk : Kp (fun a => a = D) h2 h3 := fun b o q n => hs.extBut b o n q
   have sub : ∀ a, a = D -> Wof W' own a := fun a q => .inl (q ▸ EI.wD)
   rw [dj hd, hp, if_pos rfl, List.map_append, List.map_cons, List.map_nil, dputs_snoc]
   exact aV.stored (z2.keep kk sub) ((z.kp x12.1 S'.tw fun _ _ _ q => q).kp kk sub fun _ _ _ q => q)
  ·exact fun b o q n => hs.extBut b o (fun w => n (.inr w)) (x12.1 b o q fun w => n (.inl w))
  ·exact x12.2.extBut EI.fr (nc_dict e2) hs.extBut
  ·have h1 := z.length
   have := len i
   simp [sizeLine]; lia
 ·intro i d hd hp W D hh ⟨es, e, z⟩
  refine ⟨es, e, ?_⟩
  rw [dj hd, hp, if_neg (by nofun), List.append_nil]; exact z
 ·intro D Lc H tkH m a1 a2 a3 a4 a5 a6 ⟨es, e, z⟩
  have l := len ds.length
  rw [List.take_length] at z l
  exact cont D Lc H tkH m a1 a2 a3 a4 a5 a6 ⟨es, e, a4, l, z⟩
theorem X1.assignComp {y : Str} {py pos : Pos} {e : Expr} {d : D}
  (run : ∀ {A env W h₀ h tk} {Q : Value -> Shared -> Prop} {E : Value -> Shared -> Prop} {use : Option (Value -> Sem Unit)}, bL r A -> GlobOf env sc -> St C W h₀ env O ρ own h ->
   (∀ D Lc H tkH m, h.get? D = Option.none -> h.get? Lc = Option.none -> D ≠ Lc -> D ≠ sysModules -> Ext C h H -> H.Ns Lc m -> bc C (fun b => Wof W own b ∨ b = D ∨ b = Lc) H D d -> compPost (md C) A E use Q (.ref D) Lc (.ok .next) (sh C H tkH)) ->
   ∀ u, use = some u -> wpAny (md C) A (evalThenUse e env u) (fun _ s' => Q .none s') E (sh C h tk))
  (k : Sto sc O y) (hd : (∃ ds, d = .list ds) ∨ ∃ ds, d = .dict ds) (hsw : ∀ env line, env.scope = sc -> swapsWithSole [.Name y py] e line env = pure true) (p : P .next ((y, d) :: ρ) own) :
  X1 C r sc O ρ own (.Assign [.Name y py] e pos) P := by
 constructor; intro A env W h₀ h R G S tk qQ qE qK
 rw [arm_exec_Assign]
 refine wpAny_bind (wpAny_standAt (wpAny_bind ?_))
 rw [hsw env _ G]
 refine wpAny_pure ?_
 rw [if_pos rfl]
 refine wpAny_bind ?_
 refine run (use := some _) (Q := fun _ s' => wpAny (md C) A (pure Flow.next : Sem Flow) _ _ s') R (az G) S (fun D Lc H tkH m a1 a2 a3 a4 a5 a6 z => ?_) _ rfl
 show wpAny (md C) A (PySem.assign (.Name y py) env (.ref D)) _ _ _
 have S1 := S.ext a5
 refine wpAny_assign_Name ((S1.storeRaw (A := A) (v := .ref D) (bQ G y k)).use ?_)
 rintro _ h2 tk2 ⟨a, hs, nc, ma, wa, fa, f0, ex, hns, bx, by', cl⟩
 have aL : Lc ≠ a := fun q => by
  have := S.wOld a wa
  rw [<- q, a2] at this; exact this rfl
 refine ⟨m, a6.sameBut hs aL, fun h3 hs3 => wpAny_pure (qK _ h3 _ ⟨.next, (y, d) :: ρ, own, p, ?_, trivial, ?_, fun a q => .inl q⟩)⟩
 ·have kk : Kp (fun b => C.Tb b ∨ b = a) h h3 := fun b o q n => hs3.extBut b o (fun w => by rw [w, a2] at q; cases q) (hs.extBut b o (fun w => n (.inr w)) (a5.1 b o q fun w => n (.inl w)))
  have k23 : ∀ b o, b ≠ Lc -> h2.get? b = some o -> h3.get? b = some o := fun b o n q => hs3.extBut b o n q
  have I3 : Inv C h3 := (a5.2.extBut fa nc hs.extBut).extBut (S.inv.fresh_of_none a2) (mJ (a6.sameBut hs aL)) hs3.extBut
  have wa' : Wof W own a := .inl wa
  have hsS : ∀ c, (C.Tb c ∨ c = a) -> Wof W own c := fun c q => q.elim (S.tw c) fun q => q ▸ wa'
  have nsL : ∀ b, Seen env b -> b ≠ Lc := by
   rintro b (q | ⟨x, q⟩) w
   ·exact S.exists_loc (by rw [<- q, w]; exact a2)
   ·exact (S.seen x b q).1 (by rw [w]; exact a2)
  have kL : Kp (fun b => b = Lc) h2 h3 := fun b o q n => k23 b o n q
  refine S.touch kk I3 fa f0 wa' ?_ rfl ?_ (fun x e hx => ?_) (fun x hx => ?_) (fun q hq => ?_)
  ·exact ex.keep fun o q => k23 a o (Ne.symm aL) q
  ·obtain ⟨m, n⟩ := hns
   exact ⟨m, jA kL (nsL _ (.inl rfl)) n⟩
  ·rw [ak] at hx
   by_cases q : x = y
   ·rw [if_pos q] at hx; cases hx; subst q
    refine ⟨.ref D, bx.kp' kL nsL, .of ?_⟩
    have nw : ¬ Wof W own D := fun q => S.wOld' D q a1
    have DnA : ¬ (D = a ∨ D = Lc) := fun q => q.elim (fun q => nw (q ▸ wa')) a3
    have kS : Kp (fun b => b = a ∨ b = Lc) H h3 := fun b o q n => k23 b o (fun w => n (.inr w)) (hs.extBut b o (fun w => n (.inl w)) q)
    have z3 := z.kp2 (W' := Wof W own) kS (fun b q => q.elim (fun q => .inl (q ▸ wa')) fun q => .inr (.inr q)) (fun b _ _ q => .inl q) DnA
    rcases hd with ⟨ds, rfl⟩ | ⟨ds, rfl⟩
    ·obtain ⟨vs, n, g, l, r⟩ := z3; exact .list g nw l r
    ·obtain ⟨vs, g, m, l, r⟩ := z3; exact .dict g m nw l r
   ·rw [if_neg q] at hx
    obtain ⟨u, b, zz⟩ := S.bound x e hx
    have b1 : Bound env H x u := b.kp a5.1 (fun m n => S.inv.ns_notTb n) (fun c v e => S.inv.cell_notTb e)
    exact ⟨u, (by' x u q b1).kp' kL nsL, zz.kp kk hsS (fun _ _ _ q => q) fun _ q => q⟩
  ·obtain ⟨c, v, l, ci⟩ := cl x hx
   exact ⟨c, v, l, bZ kL (nsL _ (.inr ⟨x, l⟩)) ci⟩
  ·obtain ⟨o1, nw, _⟩ := S.owns q hq
   exact o1.but kk wa' S.tw fun z => z.elim (fun z => nw (S.tbW _ z)) fun z => nw (z ▸ wa)
 ·exact fun b o q n => hs3.extBut b o (fun w => by rw [w, a2] at q; cases q) (hs.extBut b o (fun w => n (by rw [w]; exact lC.mut ma)) (a5.1 b o q fun w => n (.inl w)))
end
theorem bI (pos : Pos) (env : Env) : ∀ (es : List Expr), es.all notStar = true -> (backTo pos (starEach es env)).any (·.1) = false
 | [], _ => rfl
 | e :: es, h => by
  simp only [List.all_cons, Bool.and_eq_true] at h
  rw [aJ e es env h.1]
  show (false || (backTo pos (starEach es env)).any (·.1)) = false
  rw [bI pos env es h.2]; rfl
theorem aU {M : Model} {A : Around} {E : Value -> Shared -> Prop} {s : Shared} {f : Value} {pos : Pos} {env : Env} {es : List Expr} {Q : Args -> Shared -> Prop} (n : es.all notStar = true)
  (h : wpAny M A (spliced (backTo pos (starEach es env))) (fun vs s' => Q { pos := vs } s') E s) : wpAny M A (evalArgs f true (backTo pos (starEach es env)) []) Q E s := by
 cases es with
 | nil =>
  unfold evalArgs
  show wpAny M A (spliced (backTo pos (starEach [] env)) >>= _) Q E s
  refine wpAny_bind (wpAny_mono h (fun vs s₁ h₁ => ?_) fun _ _ e => e)
  refine wpAny_bind (wpAny_pure ?_)
  refine wpAny_holding ?_
  exact wpAny_bind (wpAny_pure (wpAny_bind (wpAny_pure (wpAny_pure h₁))))
 | cons e es =>
  simp only [List.all_cons, Bool.and_eq_true] at n
  rw [aJ e es env n.1] at h ⊢
  exact evalArgs_plain h
section
variable {r : Nat} {sc : Scope} {ρ : Rho} {own : Own}
noncomputable def iu (C : Cfg) (sc : Scope) (x : Str) (v : Value) : Prop :=
 sc.names.lookup x = some .globalImplicit /\ bootBuiltins x = some v /\ C.mg x = Option.none /\ x ≠ "__name__" /\ (x == ("__debug__" : Str)) = false
theorem iu.of {x : Str} {v : Value} (hb : bootBuiltins x = some v := by decide +kernel) (hx : autoParam (sc.names.lookup x = some .globalImplicit) tacR)
  (m : autoParam (x ∈ ([("range" : Str), "len", "list", "filter", "set", "map", "str", "max", "reversed", "divmod", "enumerate", "zip", "sum", "abs", "repr", "sorted", "tuple"] : List Str)) tacD)
  (hn : autoParam (x ≠ "__name__") tacD) (hd : autoParam ((x == ("__debug__" : Str)) = false) tacD) : iu C sc x v := ⟨hx, hb, C.noGlob x m, hn, hd⟩
theorem Ev.callB {x : Str} {id : String} {p pos : Pos} {e : Expr} {es : List Expr} {ds : List D} {d : D} (b : iu C sc x (.builtin id)) (y : EvL C r sc ρ own (e :: es) ds) (f : Fn C r (.builtin id) ds d) (n : autoParam ((e :: es).all notStar = true) tacR) :
  Ev C r sc ρ own (.Call (.Name x p) (e :: es) [] pos) d := by
 constructor; intro A env W h₀ O h R G S tk qQ qE qK
 obtain ⟨hx, hb, hg, hn, hd⟩ := b
 refine wpAny_Call_NameR ((Ev.builtin G S hx hg hb hn hd).use2 fun v h1 tk1 e1 e2 => ?_)
 subst e1 e2
 refine Calls.callWith_builtin (bI pos env _ n) (aU n ((y.go A env W h₀ O h1 pos R G S).use2 fun vs h2 tk2 x2 z2 => ?_))
 have S2 := S.ext x2
 exact (f A (Wof W own) h2 vs R S2.inv S2.tw S2.wok' z2).use2 fun u h3 tk3 x3 z3 => (qK _ h3 tk3 ⟨x2.trans x3, z3⟩)
theorem Ev.callT {x : Str} {T : String} {p pos : Pos} {e : Expr} {es : List Expr} {ds : List D} {d : D} (b : iu C sc x (.type T)) (y : EvL C r sc ρ own (e :: es) ds) (f : Fn C r (.type T) ds d) (n : autoParam ((e :: es).all notStar = true) tacR) :
  Ev C r sc ρ own (.Call (.Name x p) (e :: es) [] pos) d := by
 constructor; intro A env W h₀ O h R G S tk qQ qE qK
 obtain ⟨hx, hb, hg, hn, hd⟩ := b
 refine wpAny_Call_NameR ((Ev.builtin G S hx hg hb hn hd).use2 fun v h1 tk1 e1 e2 => ?_)
 subst e1 e2
 refine PySem.callWith_type (bI pos env _ n) (aU n ((y.go A env W h₀ O h1 pos R G S).use2 fun vs h2 tk2 x2 z2 => ?_))
 have S2 := S.ext x2
 exact (f A (Wof W own) h2 vs R S2.inv S2.tw S2.wok' z2).use2 fun u h3 tk3 x3 z3 => (qK _ h3 tk3 ⟨x2.trans x3, z3⟩)
theorem Ev.gint {x : Str} {pos : Pos} {i : Int} {t : Tok} (hx : autoParam (sc.names.lookup x = some .globalImplicit) tacR) (hv : C.mg x = some (.int i t)) (hd : autoParam ((x == ("__debug__" : Str)) = false) tacD) : Ev C r sc ρ own (.Name x pos) (.int i) := by
 constructor; intro A env W h₀ O h R G S
 exact (Ev.global G S hx hv hd).mono (by rintro v h' ⟨e1, e2⟩; subst e1 e2; exact ⟨.refl S.inv, .int _ _⟩)
noncomputable def D.ty : D -> Option String
 | .int _ => some "int"
 | .str _ => some "str"
 | .list _ => some "list"
 | .tup _ => some "tuple"
 | .dict _ => some "dict"
 | .bool _ => some "bool"
 | _ => Option.none
theorem Val.typeIs {W : Addr -> Prop} {h : Heap} {v : Value} {d : D} {T : String} {tk : Tok} (z : Val C W h v d) (e : d.ty = some T) : (sh C h tk).TypeIs v T := by
 cases z with
 | bool b => cases e; rfl
 | int i t => cases e; exact typeIs_int _ _ _
 | str i t => cases e; exact typeIs_str _ _ _
 | list g nw l r => cases e; exact ⟨_, g, rfl⟩
 | tup g nw l r => cases e; exact ⟨_, g.choose_spec.1, g.choose_spec.2.1⟩
 | dict g m nw l r => cases e; exact Heap.DictOf.typeIs (s := sh C h tk) g
 | _ => cases e
theorem Val.noDict {W : Addr -> Prop} {h : Heap} {v : Value} {d : D} {T : String} (z : Val C W h v d) (e : d.ty = some T) (nt : T ≠ "tuple") : ∀ a, v = .ref a -> ∃ ob, h.get? a = some ob /\ ob.dict = Option.none := by
 intro a ea
 subst ea
 cases z with
 | list g nw l r => cases e; exact ⟨_, g, rfl⟩
 | tup g nw l r => cases e; exact absurd rfl nt
 | dict g m nw l r =>
  obtain ⟨o, _, _, q, ex, _⟩ := g
  exact ⟨o, q, ex.2.1⟩
 | _ => cases e
theorem ao.one {W : Addr -> Prop} {h : Heap} {vs : List Value} {d : D} (z : ao C W h vs [d]) : ∃ v, vs = [v] /\ Val C W h v d := by
 cases z with
 | cons z r => cases r; exact ⟨_, rfl, z⟩
theorem ao.two {W : Addr -> Prop} {h : Heap} {vs : List Value} {d e : D} (z : ao C W h vs [d, e]) : ∃ v u, vs = [v, u] /\ Val C W h v d /\ Val C W h u e := by
 cases z with
 | cons z r => obtain ⟨u, rfl, y⟩ := r.one; exact ⟨_, _, rfl, z, y⟩
theorem Ev.meth {o : Expr} {name : Str} {apos pos : Pos} {es : List Expr} {T id : String} {d0 : D} {ds : List D} {d : D} (x : Ev C r sc ρ own o d0) (y : EvL C r sc ρ own es ds)
  (ty : d0.ty = some T) (pa : PlainAttrs T) (sl : Slot T name id) (md' : typeOf (.builtin id) = pure (.type "method_descriptor")) (f : Fn C r (.builtin id) (d0 :: ds) d) (n : autoParam (es.all notStar = true) tacR)
  (hb : autoParam (∀ env, attributeBase o name env (eval o env) = eval o env) tacI1) (hl : autoParam (decide (es.length + 0 + 0 < 30) = true) tacR) (hp : autoParam ((apos.endLine == pos.line) = true) tacR) (nt : autoParam (T ≠ "tuple") tacD) :
  Ev C r sc ρ own (.Call (.Attribute o name apos) es [] pos) d := by
 constructor; intro A env W h₀ O h R G S tk qQ qE qK
 refine wpAny_Call_method (hb env) ?_ hp pa sl md' ((x.go A env W h₀ O h R G S).use2 fun v h1 tk1 x1 z1 => ⟨z1.typeIs ty, z1.noDict ty nt, ?_⟩)
 ·have h1 : ((backTo pos (starEach es env)).all fun x => !x.fst) = true := by
   have := bI pos env es n
   rw [List.any_eq_false] at this
   rw [List.all_eq_true]
   intro q hq
   have := this q hq
   simpa using this
  rw [h1]
  show (true && true && decide (es.length + 0 + 0 < 30)) = true
  rw [hl]; rfl
 ·have S1 := S.ext x1
  refine Calls.callWith_builtin (bI pos env _ n) (aU n ((y.go A env W h₀ O h1 pos R G S1).use2 fun vs h2 tk2 x2 z2 => ?_))
  have S2 := S1.ext x2
  exact (f A (Wof W own) h2 (v :: vs) R S2.inv S2.tw S2.wok' (.cons (z1.ext x2 S.tw) z2)).use2 fun u h3 tk3 x3 z3 => (qK _ h3 tk3 ⟨(x1.trans x2).trans x3, z3⟩)
theorem Fn.bitLength {i : Int} : Fn C r (.builtin "int.bit_length") [.int i] (.int (Builtin.Int.intBits i)) := by
 intro A W h vs R I tw wok z tk qQ qE qK; have wo := wok.old
 obtain ⟨v, rfl, q⟩ := z.one
 cases q
 exact call_int_bit_length (qK _ h _ ⟨.refl I, .int _ _⟩)
theorem Fn.divmod {a b : Int} (hb : b ≠ 0) (hp : Builtin.divisionGoesByPylong a b = false) : Fn C r (.builtin "divmod") [.int a, .int b] (.tup [.int (a.fdiv b), .int (a.fmod b)]) := by
 intro A W h vs R I tw wok z tk qQ qE qK; have wo := wok.old
 obtain ⟨v, u, rfl, q, y⟩ := z.two
 cases q; cases y
 exact divmod_int hb (qK _ _ _ ⟨.push I _, .tup (vs := [_, _]) ⟨_, Heap.get?_push_size _ rfl, rfl, 0, rfl⟩ (eH wo) (by show 2 <= 1048576; decide) (.cons (.int _ _) (.cons (.int _ _) .nil))⟩) (.inl hp)
theorem Fn.len {ds : List D} : Fn C r (.builtin "len") [.list ds] (.int ds.length) := by
 intro A W h vs R I tw wok z tk qQ qE qK; have wo := wok.old
 obtain ⟨v, rfl, q⟩ := z.one
 refine q.listE fun a vs n g nw l rr => ?_
 have e := rr.length
 have h1 : (vs.toArray.size : Int) = (ds.length : Int) := by simp [e]
 refine len_list (aO g) (by simp [e]; lia) (qK _ h _ ⟨.refl I, ?_⟩)
 rw [h1]; exact .int _ _
theorem Fn.lenS {s : Str} (l : s.length <= 1048576) : Fn C r (.builtin "len") [.str s] (.int s.length) := by
 intro A W h vs R I tw wok z tk qQ qE qK; have wo := wok.old
 obtain ⟨v, rfl, q⟩ := z.one
 cases q
 exact P.len_str (by lia) (qK _ h _ ⟨.refl I, .int _ _⟩)
end
set_option tactic.hygienic true in
theorem j4 (slice : Expr) (o i : Value) : subscripted slice false o i = operate [o, i] (getItem o i) ∨ subscripted slice false o i = operate [i, o] (getItem o i) := by
 cases slice <;> first | exact .inl rfl | skip
 rename_i l u st p
 cases st
 ·exact .inr rfl
 ·exact .inl rfl
theorem nA {A : Around} {E : Value -> Shared -> Prop} {s : Shared} {value slice : Expr} {o i : Value} {T id : String} {Q : Value -> Shared -> Prop} (hT : s.TypeIs o T)
  (hl : typeLookup (.type T) "__getitem__" = pure (some (.builtin id))) (h : wpAny (md C) A (getItem o i) Q E s) : wpAny (md C) A (subscriptTail value slice o i) Q E s := by
 unfold subscriptTail
 refine wpAny_bind ?_
 rw [getitemInPython_of_ne hT.not_modules]
 refine wpAny_bind (wpAny_specialOf hT hl ?_)
 have fin : wpAny (md C) A (subscripted slice false o i) (fun r s₃ => wpAny (md C) A (letTemporaryGo value o r >>= fun _ => pure r) Q E s₃) E s := by
  have k : ∀ vs, wpAny (md C) A (operate vs (getItem o i)) (fun r s₃ => wpAny (md C) A (letTemporaryGo value o r >>= fun _ => pure r) Q E s₃) E s := fun vs =>
   wpAny_operating (wpAny_mono h (fun r s₃ h₃ => wpAny_bind (wpAny_letTemporaryGo (wpAny_pure h₃))) fun _ _ x => x)
  rcases j4 slice o i with e | e <;> rw [e] <;> exact k _
 first
  | exact wpAny_pure (wpAny_bind fin)
  | exact wpAny_bind (wpAny_pure (wpAny_bind fin))
  | exact wpAny_bind fin
noncomputable def lA (C : Cfg) (d1 d2 d : D) : Prop :=
 ∀ A W h v1 v2, A.handled = Option.none -> Inv C h -> (∀ a, C.Tb a -> W a) -> (∀ a, W a -> h.get? a ≠ Option.none) -> Val C W h v1 d1 -> Val C W h v2 d2 -> Tri C A (getItem v1 v2) h fun v h' => Ext C h h' /\ Val C W h' v d
noncomputable def hasItems (T : String) : Prop := ∃ id, typeLookup (.type T) "__getitem__" = pure (some (.builtin id))
section
variable {r : Nat} {sc : Scope} {ρ : Rho} {own : Own}
theorem Ev.sub {o i : Expr} {pos : Pos} {d1 d2 d : D} {T : String} (x : Ev C r sc ρ own o d1) (y : Ev C r sc ρ own i d2) (k : lA C d1 d2 d) (ty : d1.ty = some T) (hi : hasItems T) : Ev C r sc ρ own (.Subscript o i pos) d := by
 constructor; intro A env W h₀ O h R G S tk qQ qE qK
 obtain ⟨id, hl⟩ := hi
 refine Subscript_ ((x.go A env W h₀ O h R G S).use2 fun v1 h1 tk1 e1 z1 => ?_)
 have S1 := S.ext e1
 refine (y.go A env W h₀ O h1 R G S1).use2 fun v2 h2 tk2 e2 z2 => ?_
 have S2 := S1.ext e2
 have z1' := z1.ext e2 S.tw
 refine nA (z1'.typeIs ty) hl ((k A (Wof W own) h2 v1 v2 R.1 S2.inv S2.tw S2.wOld' z1' z2).use2 fun v h3 tk3 e3 z3 => ?_)
 exact (qK _ h3 tk3 ⟨(e1.trans e2).trans e3, z3⟩)
theorem cO : hasItems "list" := ⟨_, F.slot_list_getitem.lookup⟩
theorem mK : hasItems "tuple" := ⟨_, F.slot_tuple_getitem.lookup⟩
theorem items_str : hasItems "str" := ⟨_, F.slot_str_getitem.lookup⟩
theorem fB : hasItems "dict" := ⟨_, F.slot_dict_getitem.lookup⟩
noncomputable def place (n : Nat) (k : Int) : Nat := if k < 0 then (k + n).toNat else k.toNat
theorem lA.list {ds : List D} {k : Int} {d : D} (e : ds[place ds.length k]? = some d) (hk : -(ds.length : Int) <= k) (hl : k < 2 ^ 63) : lA C (.list ds) (.int k) d := by
 intro A W h v1 v2 R I tw wo z1 z2 tk qQ qE qK
 refine z1.listE fun a vs n g nw l rr => ?_
 cases z2
 obtain ⟨v, hv, zv⟩ := rr.get e
 have len := rr.length
 unfold place at hv
 by_cases neg : k < 0
 ·rw [if_pos neg] at hv
  exact wpAny_getItem_list_neg (aO g) neg (by simp [len]; lia) (by lia) (by simpa [len] using hv) (qK _ h tk ⟨.refl I, zv⟩)
 ·rw [if_neg neg] at hv
  exact wpAny_getItem_list (aO g) (by lia) hl (by simpa using hv) (qK _ h tk ⟨.refl I, zv⟩)
theorem lA.tup {ds : List D} {k : Nat} {d : D} (e : ds[k]? = some d) : lA C (.tup ds) (.int k) d := by
 intro A W h v1 v2 R I tw wo z1 z2 tk qQ qE qK
 refine z1.tupE fun a vs g nw l rr => ?_
 cases z2
 obtain ⟨v, hv, zv⟩ := rr.get e
 have len := rr.length
 have hk : k < ds.length := (List.getElem?_eq_some_iff.mp e).1
 refine PyProof.Rows.getItem_tuple (j := k) (x := v) (items := vs.toArray) g (by lia) (by lia) ?_ (by simpa using hv) (qK _ h tk ⟨.refl I, zv⟩)
 have : vs.toArray.size = ds.length := by simp [len]
 rw [this]
 unfold seqIndex?
 have n1 : ¬ ((k : Int) < 0) := by lia
 simp only [n1, if_false]
 rw [if_pos (by simp; lia)]
 simp
theorem lA.str {s : Str} {k : Int} {c : Nat} (e : s.cps[place s.length k]? = some c) (hk : -(s.length : Int) <= k) (hl : s.length <= 1048576) : lA C (.str s) (.int k) (.str ⟨#[c]⟩) := by
 intro A W h v1 v2 R I tw wo z1 z2 tk qQ qE qK
 cases z1; cases z2
 have hlt : place s.length k < s.length := (Array.getElem?_eq_some_iff.mp e).1
 refine P.getItem_str (c := c) ?_ ?_ (qK _ h _ ⟨.refl I, .str _ _⟩)
 ·unfold place at hlt
  split at hlt <;> (simp; lia)
 ·unfold seqIndex?
  unfold place at e hlt
  by_cases neg : k < 0
  ·simp only [neg, if_true] at e hlt ⊢
   rw [if_pos (by simp; lia)]
   exact e
  ·simp only [neg, if_false] at e hlt ⊢
   rw [if_pos (by simp; lia)]
   exact e
theorem lA.dict {kvs : List (Str × D)} {k : Str} {d : D} (e : kvs.lookup k = some d) : lA C (.dict kvs) (.str k) d := by
 intro A W h v1 v2 R I tw wo z1 z2 tk qQ qE qK
 refine z1.dictE fun a es g m nw l rr => ?_
 cases z2
 have key : ∀ {es : List (Str × Value)} {kvs : List (Str × D)}, aV C W h es kvs -> kvs.lookup k = some d -> ∃ v, valueAt es k = some v /\ Val C W h v d := by
  intro es kvs z
  induction es generalizing kvs with
  | nil => cases z; intro e; cases e
  | cons p r ih =>
   cases z with
   | @cons k' v vs d' ds' z zr =>
    intro e
    rw [List.lookup_cons] at e
    unfold valueAt
    rw [List.find?_cons]
    cases q : k == k' with
    | true =>
     rw [q] at e; cases e
     have : k = k' := eq_of_beq q
     subst this
     simp only [decide_true]
     exact ⟨v, rfl, z⟩
    | false =>
     rw [q] at e
     have : ¬ k' = k := fun w => by rw [w, beq_self_eq_true] at q; cases q
     simp only [decide_eq_false this]
     exact ih zr e
 obtain ⟨v, hv, zv⟩ := key rr e
 exact wpAny_getItem_of (strKind_is _ _ _ _) g.mapOf hv (qK _ h _ ⟨.refl I, zv⟩)
inductive Part (C : Cfg) (r : Nat) (sc : Scope) (ρ : Rho) (own : Own) : Option Expr -> Option Int -> Prop
 | none : Part C r sc ρ own Option.none Option.none
 | some {e : Expr} {i : Int} : Ev C r sc ρ own e (.int i) -> Part C r sc ρ own (some e) (some i)
theorem Part.run {e : Option Expr} {i : Option Int} (x : Part C r sc ρ own e i) {A : Around} {env : Env} {W : Addr -> Prop} {h₀ h : Heap} {O : Str -> Prop} (R : bL r A) (G : GlobOf env sc) (S : St C W h₀ env O ρ own h) :
  Tri C A (valueOrNone (evalOpt e env)) h fun v h' => Ext C h h' /\ IsPart v i /\ ∃ q : Option (Int × Tok), v = partValue q /\ q.map (·.1) = i := by
 cases x with
 | none => exact Tri.pure ⟨.refl S.inv, .none, Option.none, rfl, rfl⟩
 | some y => exact (y.go A env W h₀ O h R G S).mono (by rintro v h' ⟨x1, z⟩; cases z with | @int _ t => exact ⟨x1, .int _ _, Option.some (_, t), rfl, rfl⟩)
noncomputable def picked (n : Nat) (lo hi st : Option Int) : List Nat := sliceRange (sliceBounds lo hi st n).1 (sliceBounds lo hi st n).2.1 (sliceBounds lo hi st n).2.2
theorem Ev.sliceL {o : Expr} {lo hi st : Option Expr} {p pos : Pos} {ds : List D} {l u t : Option Int} (x : Ev C r sc ρ own o (.list ds)) (y1 : Part C r sc ρ own lo l) (y2 : Part C r sc ρ own hi u) (y3 : Part C r sc ρ own st t) (h0 : t ≠ some 0)
  (len : ((picked ds.length l u t).filterMap (ds[·]?)).length <= 1048576) : Ev C r sc ρ own (.Subscript o (.Slice lo hi st p) pos) (.list ((picked ds.length l u t).filterMap (ds[·]?))) := by
 constructor; intro A env W h₀ O h R G S tk qQ qE qK
 obtain ⟨id, hl⟩ := cO
 refine Subscript_ ((x.go A env W h₀ O h R G S).use2 fun v1 h1 tk1 e1 z1 => ?_)
 have S1 := S.ext e1
 rw [arm_eval_Slice]
 refine wpAny_bind ((y1.run (A := A) R G S1).use3 fun vl h2 tk2 e2 p2 _ => ?_)
 have S2 := S1.ext e2
 refine wpAny_bind (wpAny_holding ((y2.run (A := A) R G S2).use3 fun vu h3 tk3 e3 p3 _ => ?_))
 have S3 := S2.ext e3
 refine wpAny_bind (wpAny_holding ((y3.run (A := A) R G S3).use3 fun vs h4 tk4 e4 p4 _ => ?_))
 have S4 := S3.ext e4
 refine wpAny_newObj_type ?_ (by size_fits)
 have e14 := (e2.trans e3).trans e4
 let so : Obj := { cls := .type "slice", data := .fields #[vl, vu, vs] }
 have e5 : Ext C h4 (h4.push so) := .push S4.inv so
 have S5 := S4.ext e5
 have z5 := (z1.ext e14 S.tw).ext e5 S.tw
 refine z5.listE fun a its n g nw sz rr => ?_
 refine nA (T := "list") ⟨_, g, rfl⟩ hl (wpAny_getItem_list_slice (lo := l) (hi := u) (st := t) (aO g) ⟨so, Heap.get?_push_size _ rfl, rfl, rfl⟩ p2 p3 p4 h0 ?_ (by have := rr.length; simp [sizeLine]; lia))
 have key : slicePick its.toArray l u t = ((picked ds.length l u t).filterMap (its[·]?)).toArray := by
  unfold slicePick picked
  have : its.toArray.size = ds.length := by simp [rr.length]
  rw [this]; simp
 rw [key]
 have k6 : Ext C (h4.push so) ((h4.push so).push (aM ((picked ds.length l u t).filterMap (its[·]?)) 0)) := .push S5.inv _
 refine (qK _ _ tk4 ⟨((e1.trans e14).trans e5).trans k6, .list (Heap.get?_push_size _ rfl) (eH S5.wOld') len ?_⟩)
 have rr' := rr.ext k6 S.tw
 have pick : ∀ is : List Nat, ao C (Wof W own) ((h4.push so).push (aM ((picked ds.length l u t).filterMap (its[·]?)) 0)) (is.filterMap (its[·]?)) (is.filterMap (ds[·]?)) := by
  intro is
  induction is with
  | nil => exact .nil
  | cons i is ih =>
   rw [List.filterMap_cons, List.filterMap_cons]
   cases q : ds[i]? with
   | none =>
    have : its[i]? = Option.none := by
     rw [List.getElem?_eq_none_iff] at q ⊢
     rw [rr.length]; exact q
    rw [this]; exact ih
   | some d =>
    obtain ⟨v, hv, zv⟩ := rr'.get q
    rw [hv]; exact .cons zv ih
 exact pick _
end
theorem ne_add {a n : Nat} (k : Nat) (h : a < n) : a ≠ n + k := by lia
theorem kI {n k : Nat} (h : k ≠ 0) : n + k ≠ n := by lia
theorem nc_ex {h : Heap} {wr : List Addr} (x : ∀ a ∈ wr, ∃ o, h.get? a = some o /\ bM o) : ∀ a, a ∈ wr -> ∀ o, h.get? a = some o -> bM o := fun a m o e => by
 obtain ⟨o', e', n⟩ := x a m
 rw [e] at e'; cases e'; exact n
theorem cP {o : Obj} {vs : Array Value} (d : o.data = .fields vs) (n : ∀ q t, vs[1]? ≠ some (.str q t)) : bM o := fun us e q t w => by
 rw [d] at e; cases e; exact n q t w
theorem Itr.ofWalks {A : Around} {tg : Expr} {I : Addr} {fp wr : List Addr} {n : Nat} {P : Nat -> Value -> Prop} {St₁ : Nat -> Heap -> Prop} {ds : List D} (X : Walks C.prog C.w A I fp wr n P St₁) (nt : ∀ v, letOwnedTupleGo tg (.ref I) v = pure ())
  (hn : n = ds.length) (fr : ∀ a ∈ wr, cz C a) (ex : ∀ i h, St₁ i h -> ∀ a ∈ wr, ∃ o, h.get? a = some o /\ bM o) :
  Itr C A tg (.ref I) ds (fun a => a ∈ wr) (fun Wa i h => St₁ i h /\ (∀ b ∈ fp, b ∉ wr -> ¬ Wa b /\ h.get? b ≠ Option.none) /\ (∀ i v d, P i v -> ds[i]? = some d -> Val C Wa h v d)) where
 frame := by
  rintro S Wa Wb i h h' ⟨s, f, z⟩ kp hs hn hw
  have gone : ∀ b ∈ fp, ∀ o, h.get? b = some o -> h'.get? b = some o := fun b hb o e => kp b o e fun q => by
   by_cases m : b ∈ wr
   ·exact hn b q m
   ·exact (f b hb m).1 (hs b q)
  refine ⟨X.frame i h h' s gone, fun b hb m => ⟨fun q => ?_, ?_⟩, fun i v d p e => (z i v d p e).kp kp hs hw⟩
  ·cases e : h.get? b with
   | none => exact (f b hb m).2 e
   | some o => exact (f b hb m).1 (hw b o e q)
  ·cases e : h.get? b with
   | none => exact absurd e (f b hb m).2
   | some o => exact bw (gone b hb o e)
 item := by
  rintro Wa i h d ⟨s, f, z⟩ hwr tw wo I' hd tk qQ qE qK
  have hi : i < n := by rw [hn]; exact (List.getElem?_eq_some_iff.mp hd).1
  refine X.item i (sh C h tk) _ _ hi s fun v h' tk' p s' k => (qK _ h' tk' ⟨v, rfl, ?_⟩)
  have kp : Kp (fun a => a ∈ wr) h h' := fun b o e q => k b o q e
  rw [nt]
  refine Tri.pure ⟨I'.kp fr (nc_ex (ex _ _ s)) kp, kp, fun a q => ex _ _ s' a q, ⟨s', fun b hb m => ⟨(f b hb m).1, ?_⟩, fun i v d p e => (z i v d p e).keep kp hwr⟩, (z i v d p hd).keep kp hwr⟩
  cases e : h.get? b with
  | none => exact absurd e (f b hb m).2
  | some o => exact bw (kp b o e m)
 done := by rintro Wa h ⟨s, f, z⟩ hwr I' tk qQ qE qK; exact X.done (sh C h tk) _ _ (hn ▸ s) fun h' tk' k => (qK _ h' tk' ⟨rfl, I'.kp fr (nc_ex (ex _ _ s)) (fun b o e q => k b o q e), fun b o e q => k b o q e⟩)
 self := by rintro Wa i h ⟨s, f, z⟩ tk qQ qE qK; exact X.self i (sh C h tk) _ _ s (qK _ h tk ⟨rfl, rfl⟩)
theorem Itr.ofWalksT {A : Around} {es : List Expr} {k : Nat} {pos : Pos} {I : Addr} {fp wr : List Addr} {n : Nat} {Pt : Nat -> Array Value -> Prop} {St₁ : Nat -> Heap -> Prop} {Mid : Nat -> Addr -> Heap -> Prop} {ds : List D}
  (X : WalksT C.prog C.w A I fp wr n Pt St₁ Mid) (hn : n = ds.length) (fr : ∀ a ∈ wr, cz C a) (ex : ∀ i h, St₁ i h -> ∀ a ∈ wr, ∃ o, h.get? a = some o /\ bM o) :
  Itr C A (.Tuple es k pos) (.ref I) ds (fun a => a ∈ wr) (fun Wa i h => St₁ i h /\ (∀ b ∈ fp, b ∉ wr -> ¬ Wa b /\ h.get? b ≠ Option.none) /\ (∀ i vs d, Pt i vs -> ds[i]? = some d -> ∃ es, d = .tup es /\ es.length <= 1048576 /\ ao C Wa h vs.toList es)) where
 frame := by
  rintro S Wa Wb i h h' ⟨s, f, z⟩ kp hs hn hw
  have gone : ∀ b ∈ fp, ∀ o, h.get? b = some o -> h'.get? b = some o := fun b hb o e => kp b o e fun q => by
   by_cases m : b ∈ wr
   ·exact hn b q m
   ·exact (f b hb m).1 (hs b q)
  refine ⟨X.frame i h h' s gone, fun b hb m => ⟨fun q => ?_, ?_⟩, fun i v d p e => ?_⟩
  ·cases e : h.get? b with
   | none => exact (f b hb m).2 e
   | some o => exact (f b hb m).1 (hw b o e q)
  ·cases e : h.get? b with
   | none => exact absurd e (f b hb m).2
   | some o => exact bw (gone b hb o e)
  ·obtain ⟨es, e1, l, zz⟩ := z i v d p e
   exact ⟨es, e1, l, zz.kp kp hs hw⟩
 item := by
  rintro Wa i h d ⟨s, f, z⟩ hwr tw wo I' hd tk qQ qE qK
  have hi : i < n := by rw [hn]; exact (List.getElem?_eq_some_iff.mp hd).1
  refine X.item i (sh C h tk) _ _ hi s fun T vals h' tk' p hT hIs mid k => (qK _ h' tk' ⟨_, rfl, ?_⟩)
  have kp : Kp (fun a => a ∈ wr) h h' := fun b o e q => k b o q e
  intro tk2 qQ qE qK
  refine X.go es _ _ i T (sh C h' tk2) _ _ mid fun h'' s' k' => (qK _ h'' tk2 ?_)
  have kp' : Kp (fun a => a ∈ wr) h' h'' := fun b o e q => k' b o q e
  have kk := kp.trans kp'
  obtain ⟨es, e1, l, zz⟩ := z i vals d p hd
  subst e1
  have nT : ¬ Wa T := fun q => wo T q (Heap.get?_none_of_le hT)
  have tup : Val C Wa h'' (.ref T) (.tup es) :=
   .tup (vs := vals.toList) (fC kp' (X.apart _ _ _ mid) (by simpa using hIs)) nT l (zz.keep kk hwr)
  refine ⟨I'.kp fr (nc_ex (ex _ _ s)) kk, kk, fun a q => ex _ _ s' a q, ⟨s', fun b hb m => ⟨(f b hb m).1, ?_⟩, fun i v d p e => ?_⟩, tup⟩
  ·cases e : h.get? b with
   | none => exact absurd e (f b hb m).2
   | some o => exact bw (kk b o e m)
  ·obtain ⟨es, e1, l, zz⟩ := z i v d p e
   exact ⟨es, e1, l, zz.keep kk hwr⟩
 done := by rintro Wa h ⟨s, f, z⟩ hwr I' tk qQ qE qK; exact X.done (sh C h tk) _ _ (hn ▸ s) fun h' tk' k => (qK _ h' tk' ⟨rfl, I'.kp fr (nc_ex (ex _ _ s)) (fun b o e q => k b o q e), fun b o e q => k b o q e⟩)
 self := by rintro Wa i h ⟨s, f, z⟩ tk qQ qE qK; exact X.self i (sh C h tk) _ _ s (qK _ h tk ⟨rfl, rfl⟩)
section
variable {r : Nat} {sc : Scope} {ρ : Rho} {own : Own}
noncomputable def iZ (C : Cfg) (r : Nat) (tg : Expr) (T : String) (ds out : List D) : Prop :=
 ∀ A W h vs, bL r A -> Inv C h -> (∀ a, C.Tb a -> W a) -> (∀ a, W a -> h.get? a ≠ Option.none) -> ao C W h vs ds ->
   Tri C A (call (.type T) vs) h fun x h1 => Tri C A (pyIter x) h1 (ItrIs C A tg out W h)
theorem EvI.ofT {x : Str} {T : String} {p pos : Pos} {tg e : Expr} {es : List Expr} {ds out : List D} (b : iu C sc x (.type T)) (y : EvL C r sc ρ own (e :: es) ds)
  (f : iZ C r tg T ds out) (n : autoParam ((e :: es).all notStar = true) tacR) :
  EvI C r sc ρ own tg (.Call (.Name x p) (e :: es) [] pos) out := by
 constructor; intro A env W h₀ O h R G S tk qQ qE qK
 obtain ⟨hx, hb, hg, hn, hd⟩ := b
 refine wpAny_Call_NameR ((Ev.builtin G S hx hg hb hn hd).use2 fun v h1 tk1 e1 e2 => ?_)
 subst e1 e2
 refine PySem.callWith_type (bI pos env _ n) (aU n ((y.go A env W h₀ O h1 pos R G S).use2 fun vs h2 tk2 x2 z2 => ?_))
 have S2 := S.ext x2
 refine (f A (Wof W own) h2 vs R S2.inv S2.tw S2.wOld' z2).use fun u h3 tk3 tri => (qK _ h3 tk3 (tri.mono (by rintro it h4 ⟨x4, wr, St', I, fr, st, l⟩; exact ⟨x2.trans x4, wr, St', I, fun a q => ⟨x2.none_back (fr a q).1, (fr a q).2⟩, st, l⟩)))
theorem range_src {A : Around} {tx : Str} {tp : Pos} {W : Addr -> Prop} {h : Heap} {a b c : Int} {t u v : Tok} (n : Nat) (hh : A.handled = Option.none) (I : Inv C h)
  (sm : Builtin.Range.small a b c = true) (sz : Builtin.Range.rangeSize a b c = (n : Int)) (l : n <= 1048576) :
  Tri C A (pyIter (.ref h.objs.size)) (h.push { cls := .type "range", data := .fields #[.int a t, .int b u, .int c v] }) (ItrIs C A (.Name tx tp) ((List.range n).map fun k => D.int (a + (k : Nat) * c)) W h) := by
 generalize hh1 : h.push { cls := .type "range", data := .fields #[.int a t, .int b u, .int c v] } = h1
 have x1 : Ext C h h1 := by rw [<- hh1]; exact .push I _
 have hr : IsRange h1 h.objs.size a b c t u v := by rw [<- hh1]; exact IsRange.new ..
 intro tk qQ qE qK
 refine wpAny_pyIter_range hr sm (qK _ _ tk ⟨x1.trans (.push x1.2 _), _, _, Itr.range hh (fun _ => rfl) (x1.2.fresh_of_none (aj h1)), fun a q => ?_, ?_, by simpa using l⟩)
 ·rw [q]
  exact ⟨x1.none_back (aj h1), _, Heap.get?_push_size _ rfl, cP rfl (by simp [rawInt])⟩
 ·show IsRangeIter _ h1.objs.size (a + ((0 : Nat) : Int) * c) ((n : Int) - ((0 : Nat) : Int)) c
  rw [sz]
  simpa using Heap.get?_push_size h1 (o := { cls := .type "range_iterator", data := .fields #[rawInt a, rawInt (n : Int), rawInt c] }) rfl
theorem iZ.range1 {tx : Str} {tp : Pos} {n : Int} (l : n <= 1048576) (l0 : -1000000 <= n) : iZ C r (.Name tx tp) "range" [.int n] ((List.range n.toNat).map fun k => D.int (k : Nat)) := by
 intro A W h vs R I tw wo z tk qQ qE qK
 obtain ⟨v, rfl, q⟩ := z.one
 refine q.intE fun t => ?_
 have q := range_src (C := C) (A := A) (tx := tx) (tp := tp) (W := W) (h := h) (a := 0) (b := n) (c := 1) (t := tk) (u := t) (v := tk + 1) n.toNat R.1 I (small_one (by lia) (by lia) (by lia) (by lia)) (by rw [rangeSize_one]; split <;> lia) (by lia)
 simp only [Int.mul_one, Int.zero_add] at q
 exact call_range_1 (qK _ _ _ q)
theorem iZ.range2 {tx : Str} {tp : Pos} {a b : Int} (l : b - a <= 1048576) (l0 : -1000000000 <= a) (l1 : a <= 1000000000) (l2 : -1000000000 <= b) (l3 : b <= 1000000000) : iZ C r (.Name tx tp) "range" [.int a, .int b] ((List.range (b - a).toNat).map fun k => D.int (a + (k : Nat))) := by
 intro A W h vs R I tw wo z tk qQ qE qK
 obtain ⟨v, u, rfl, q, q'⟩ := z.two
 refine q.intE fun t => ?_
 refine q'.intE fun t' => ?_
 have q := range_src (C := C) (A := A) (tx := tx) (tp := tp) (W := W) (h := h) (a := a) (b := b) (c := 1) (t := t) (u := t') (v := tk) (b - a).toNat R.1 I (small_one (by lia) (by lia) (by lia) (by lia)) (by rw [rangeSize_one]; split <;> lia) (by lia)
 simp only [Int.mul_one] at q
 exact call_range_2 (qK _ _ _ q)
noncomputable def signs (s : Str) : List D := s.cps.toList.map fun c => .str ⟨#[c]⟩
theorem EvI.str {tx : Str} {tp : Pos} {e : Expr} {s : Str} (x : Ev C r sc ρ own e (.str s)) (l : s.length <= 1048576) : EvI C r sc ρ own (.Name tx tp) e (signs s) := by
 constructor; intro A env W h₀ O h R G S
 refine (x.go A env W h₀ O h R G S).mono ?_
 rintro v h1 ⟨e1, z⟩
 refine z.strE fun t => ?_
 intro tk qQ qE qK
 have S1 := S.ext e1
 have len : s.cps.size = (signs s).length := by simp [signs]
 refine wpAny_pyIter_strU (qK _ _ tk ⟨e1.trans (.push S1.inv _), (fun a => a ∈ [h1.objs.size]), (fun Wa i h => (h.IsStrIter h1.objs.size (strIterType s) s t i) /\ (∀ b ∈ [h1.objs.size], b ∉ [h1.objs.size] -> ¬ Wa b /\ h.get? b ≠ Option.none) /\ (∀ i v d, SignAt s i v -> (signs s)[i]? = some d -> Val C Wa h v d)), ?_, fun a q => ?_, ⟨⟨_, Heap.get?_push_size _ rfl, rfl, rfl⟩, fun b q n => absurd q n, ?_⟩, ?_⟩)
 ·have X : Walks C.prog C.w A h1.objs.size [h1.objs.size] [h1.objs.size] s.cps.size (SignAt s) (fun i h => h.IsStrIter h1.objs.size (strIterType s) s t i) := by
   unfold strIterType
   cases ha : s.cps.all (· < 128)
   ·exact Walks.strWide R.1 _ s t
   ·exact Walks.strAscii R.1 _ s t
  refine Itr.ofWalks X (fun _ => rfl) len (fun a q => by rw [List.mem_singleton.mp q]; exact S1.inv.fresh_of_none (aj h1)) (by rintro i h ⟨o, e, _, d⟩ a q; exact ⟨o, by rw [List.mem_singleton.mp q]; exact e, cP d (by simp)⟩)
 ·rw [List.mem_singleton.mp q]
  exact ⟨e1.none_back (aj h1), _, Heap.get?_push_size _ rfl, cP rfl (by simp)⟩
 ·rintro i v d ⟨c, u, e1, e2⟩ e3
  subst e2
  have : d = .str ⟨#[c]⟩ := by
   unfold signs at e3
   rw [List.getElem?_map, Array.getElem?_toList, e1] at e3
   simpa using e3.symm
  subst this
  exact .str _ _
 ·rw [<- len]; exact l
theorem iZ.reversed {tx : Str} {tp : Pos} {ds : List D} : iZ C r (.Name tx tp) "reversed" [.list ds] ds.reverse := by
 intro A W h vs R I tw wo z tk qQ qE qK
 obtain ⟨v, rfl, q⟩ := z.one
 refine q.listE fun a vs n g nw l rr => ?_
 have len := rr.length
 refine call_reversed_list (aO g) (qK _ _ tk (fun tk1 qQ qE qK => ?_))
 have hr : (h.push (revObj a ((vs.toArray.size : Int) - 1))).IsRevIter h.objs.size a ((vs.toArray.size : Int) - 1) := ⟨_, Heap.get?_push_size _ rfl, rfl, rfl⟩
 have na : a ≠ h.objs.size := Nat.ne_of_lt (Heap.lt_size g)
 refine wpAny_pyIter_revIter hr (qK _ _ tk1 ⟨.push I _, _, _, Itr.ofWalks (Walks.listRev (items := vs.toArray) R.1 h.objs.size a na) (fun _ => rfl) (by simp [len]) (fun b q => by rw [List.mem_singleton.mp q]; exact I.fresh_of_none (aj h)) (by rintro i h' ⟨_, ⟨o, e, _, d⟩, _⟩ b q; exact ⟨o, by rw [List.mem_singleton.mp q]; exact e, cP d (by simp [rawInt])⟩), fun b q => ?_, ⟨⟨Nat.zero_le _, by simpa using hr, ⟨_, Heap.get?_push_of_some _ g, rfl, n, rfl⟩⟩, fun b q m => ?_, fun i v d p e => ?_⟩, by simpa using l⟩)
 ·rw [List.mem_singleton.mp q]
  exact ⟨aj h, _, Heap.get?_push_size _ rfl, cP rfl (by simp [rawInt])⟩
 ·have : b = a := by simp at q m; exact q.resolve_left m
  subst this
  refine ⟨fun w => w.elim nw fun w => na (List.mem_singleton.mp w), bw (Heap.get?_push_of_some _ g)⟩
 ·have hi : i < ds.length := by have := (List.getElem?_eq_some_iff.mp e).1; simpa using this
  rw [List.getElem?_reverse hi] at e
  obtain ⟨u, hu, zu⟩ := rr.get e
  have : v = u := by
   have p' : vs[ds.length - 1 - i]? = some v := by simpa [len] using p
   rw [hu] at p'; cases p'; rfl
  subst this
  exact zu.kp (S := fun _ => False) (.of_all fun _ _ e => Heap.get?_push_of_some _ e) (fun _ f => f.elim) fun b o e q => q.elim id fun q => by rw [List.mem_singleton.mp q, aj] at e; cases e
noncomputable def numbered (ds : List D) : List D := (List.range ds.length).filterMap fun (i : Nat) => (ds[i]?).map fun d => D.tup [.int (i : Int), d]
theorem eF {ds : List D} {i : Nat} : (numbered ds)[i]? = (ds[i]?).map fun d => D.tup [.int (i : Int), d] := by
 unfold numbered
 have key : ∀ (n : Nat), n <= ds.length -> ((List.range n).filterMap fun (i : Nat) => (ds[i]?).map fun d => D.tup [.int (i : Int), d]) = (List.range n).map fun (i : Nat) => D.tup [.int (i : Int), ds[i]?.getD .none] := by
  intro n hn
  induction n with
  | zero => rfl
  | succ n ih =>
   rw [List.range_succ, List.filterMap_append, List.map_append, ih (by lia)]
   congr 1
   rw [List.filterMap_cons, List.filterMap_nil, List.map_cons, List.map_nil, List.getElem?_eq_getElem (show n < ds.length by lia)]
   rfl
 rw [key _ (Nat.le_refl _), List.getElem?_map]
 by_cases h : i < ds.length
 ·rw [List.getElem?_range h, Option.map_some, List.getElem?_eq_getElem h]; rfl
 ·rw [List.getElem?_eq_none (by simpa using h), List.getElem?_eq_none (by lia)]; rfl
theorem ie {ds : List D} : (numbered ds).length = ds.length := by
 have h : ∀ i, (numbered ds)[i]? = Option.none ↔ ds[i]? = Option.none := fun i => by rw [eF]; cases ds[i]? <;> simp
 have h1 := h (numbered ds).length
 have h2 := h ds.length
 simp at h1 h2
 lia
theorem iZ.enumerate {es : List Expr} {k : Nat} {tp : Pos} {ds : List D} : iZ C r (.Tuple es k tp) "enumerate" [.list ds] (numbered ds) := by
 intro A W h vs R I tw wo z tk qQ qE qK
 obtain ⟨v, rfl, q⟩ := z.one
 refine q.listE fun a vs n g nw l rr => ?_
 have len := rr.length
 refine call_enumerate_list (aO g) fun h' he hit hsz hk => (qK _ h' tk (fun tk1 qQ qE qK => ?_))
 have lt := Heap.lt_size g
 have x1 : Ext C h h' := .all I hk
 have na : a ≠ h.objs.size := Nat.ne_of_lt lt
 have na1 : a ≠ h.objs.size + 1 := ne_add 1 lt
 have ne1 : h.objs.size + 1 ≠ h.objs.size := kI (by decide)
 have n1 : h.get? (h.objs.size + 1) = Option.none := Heap.get?_none_of_le (Nat.le_succ _)
 have wrf : ∀ b ∈ [h.objs.size + 1, h.objs.size], h.get? b = Option.none := fun b q => by
  simp at q
  rcases q with rfl | rfl
  ·exact n1
  ·exact aj h
 refine wpAny_pyIter_enum he (qK _ h' tk1 ⟨x1, _, _, Itr.ofWalksT (WalksT.enumerate (items := vs.toArray) R.1 (h.objs.size + 1) h.objs.size a ne1 na1 na) (by simp [len, ie]) (fun b q => I.fresh_of_none (wrf b q))
  ?_, fun b q => ⟨wrf b q, ?_⟩, ⟨⟨⟨_, he⟩, hit, ⟨_, hk _ _ g, rfl, n, rfl⟩⟩, fun b q m => ?_, fun i vs' d p e => ?_⟩, by rw [ie]; exact l⟩)
 ·rintro i h' ⟨⟨_, e1⟩, ⟨o, e2, _, d2⟩, _⟩ b q
  simp at q
  rcases q with rfl | rfl
  ·exact ⟨_, e1, cP rfl (by simp)⟩
  ·exact ⟨_, e2, cP d2 (by simp)⟩
 ·simp at q
  rcases q with rfl | rfl
  ·exact ⟨_, he, cP rfl (by simp)⟩
  ·obtain ⟨o, e2, _, d2⟩ := hit; exact ⟨_, e2, cP d2 (by simp)⟩
 ·have : b = a := by
   simp at q m
   rcases q with q | q | q
   ·exact absurd q m.1
   ·exact absurd q m.2
   ·exact q
  subst this
  refine ⟨fun w => w.elim nw fun w => ?_, bw (hk _ _ g)⟩
  simp at w
  exact w.elim na1 na
 ·obtain ⟨t, x, p1, p2⟩ := p
  rw [eF] at e
  cases e' : ds[i]? with
  | none => rw [e'] at e; cases e
  | some d' =>
   rw [e'] at e; cases e
   obtain ⟨u, hu, zu⟩ := rr.get e'
   have : x = u := by
    have p' : vs[i]? = some x := by simpa using p1
    rw [hu] at p'; cases p'; rfl
   subst this p2
   refine ⟨_, rfl, (show 2 <= 1048576 by decide), .cons (.int _ _) (.cons (zu.kp (S := fun _ => False) (.of_all hk) (fun _ f => f.elim) fun b o e q => q.elim id fun q => ?_) .nil)⟩
   rw [wrf b q] at e; cases e
end
theorem fM : ∀ {own : Own} {i : Nat} {a : Addr} {d d' : D}, own[i]? = some (a, d) -> (own.set i (a, d')).map (·.1) = own.map (·.1)
 | [], _, _, _, _, h => by simp at h
 | (b, e) :: own, 0, a, d, d', h => by simp at h; obtain ⟨rfl, rfl⟩ := h; rfl
 | (b, e) :: own, i + 1, a, d, d', h => by
  simp only [List.getElem?_cons_succ] at h
  simp only [List.set_cons_succ, List.map_cons]
  rw [fM h]
theorem cC {own : Own} {i : Nat} {a : Addr} {d : D} (h : own[i]? = some (a, d)) : (a, d) ∈ own := List.mem_of_getElem? h
theorem cJ {own : Own} {i : Nat} {a : Addr} {d : D} (h : own[i]? = some (a, d)) : a ∈ own.map (·.1) := List.mem_map.mpr ⟨_, cC h, rfl⟩
theorem set_mem : ∀ {own : Own} {i : Nat} {a : Addr} {d d' : D} {p : Addr × D}, (own.map (·.1)).Nodup -> own[i]? = some (a, d) -> p ∈ own.set i (a, d') -> p = (a, d') ∨ (p ∈ own /\ p.1 ≠ a)
 | [], _, _, _, _, _, _, h, _ => by simp at h
 | (b, e) :: own, 0, a, d, d', p, n, h, m => by
  simp at h; obtain ⟨rfl, rfl⟩ := h
  simp only [List.map_cons, List.nodup_cons] at n
  rw [List.set_cons_zero] at m
  rcases List.mem_cons.mp m with q | q
  ·exact .inl q
  ·exact .inr ⟨List.mem_cons_of_mem _ q, fun w => n.1 (w ▸ List.mem_map.mpr ⟨p, q, rfl⟩)⟩
 | (b, e) :: own, i + 1, a, d, d', p, n, h, m => by
  simp only [List.getElem?_cons_succ] at h
  simp only [List.map_cons, List.nodup_cons] at n
  rw [List.set_cons_succ] at m
  rcases List.mem_cons.mp m with q | q
  ·right
   rw [q]
   exact ⟨List.mem_cons_self, fun w => n.1 (show b ∈ _ from (show b = a from w) ▸ cJ h)⟩
  ·exact (set_mem n.2 h q).imp id (by rintro ⟨x, y⟩; exact ⟨List.mem_cons_of_mem _ x, y⟩)
theorem erase_mem : ∀ {own : Own} {i : Nat} {a : Addr} {d : D} {b : Addr}, (own.map (·.1)).Nodup -> own[i]? = some (a, d) -> (b ∈ (own.eraseIdx i).map (·.1) ↔ b ∈ own.map (·.1) /\ b ≠ a)
 | [], _, _, _, _, _, h => by simp at h
 | (b, e) :: own, 0, a, d, c, n, h => by
  simp at h; obtain ⟨rfl, rfl⟩ := h
  simp only [List.map_cons, List.nodup_cons] at n
  simp only [List.eraseIdx_cons_zero, List.map_cons, List.mem_cons]
  exact ⟨fun q => ⟨.inr q, fun w => n.1 (w ▸ q)⟩, fun q => q.1.resolve_left q.2⟩
 | (b, e) :: own, i + 1, a, d, c, n, h => by
  simp only [List.getElem?_cons_succ] at h
  simp only [List.map_cons, List.nodup_cons] at n
  simp only [List.eraseIdx_cons_succ, List.map_cons, List.mem_cons]
  rw [erase_mem n.2 h]
  constructor
  ·rintro (q | q)
   ·exact ⟨.inl q, fun w => n.1 (q ▸ w ▸ cJ h)⟩
   ·exact ⟨.inr q.1, q.2⟩
  ·rintro ⟨q | q, w⟩
   ·exact .inl q
   ·exact .inr ⟨q, w⟩
theorem eU {own : Own} {i : Nat} {p : Addr × D} (h : p ∈ own.eraseIdx i) : p ∈ own := List.mem_of_mem_eraseIdx h
theorem bc.some {W : Addr -> Prop} {h : Heap} {a : Addr} {d : D} (z : bc C W h a d) : ∃ o, h.get? a = some o /\ ∀ v, o.data ≠ .cell v := by
 cases d with
 | list ds => obtain ⟨vs, n, e, _⟩ := z; exact ⟨_, e, fun v w => by cases w⟩
 | dict ds => obtain ⟨es, ⟨o, _, _, e, _, q, _⟩, _⟩ := z; exact ⟨o, e, fun v w => by rw [q] at w; cases w⟩
 | ns fs => obtain ⟨m, ⟨o, _, _, e, q, _⟩, _⟩ := z; exact ⟨o, e, fun v w => by rw [q] at w; cases w⟩
 | _ => exact z.elim
theorem bc.fX {W : Addr -> Prop} {h : Heap} {a : Addr} {d : D} (z : bc C W h a d) {v : Option Value} (c : h.IsCell a v) : False := by
 obtain ⟨o, e, n⟩ := z.some
 obtain ⟨o', e', q⟩ := c
 rw [e] at e'; cases e'
 exact n _ q
theorem St.mutate {W : Addr -> Prop} {h₀ h h' : Heap} {env : Env} {O : Str -> Prop} {ρ : Rho} {own : Own} {a : Addr} {d d' : D} {i : Nat} (S : St C W h₀ env O ρ own h) (hi : own[i]? = some (a, d)) (k : Kp (fun b => C.Tb b ∨ b = a) h h') (I' : Inv C h')
  (z : bc C (Wof W own) h' a d') : St C W h₀ env O ρ (own.set i (a, d')) h' := by
 obtain ⟨_, nW, fa, f0⟩ := S.owns _ (cC hi)
 have ef := fM (d' := d') hi
 have eW : Wof W (own.set i (a, d')) = Wof W own := Wof.congr ef
 have wa : Wof W own a := .inr (cJ hi)
 have sub : ∀ b, (C.Tb b ∨ b = a) -> Wof W own b := fun b q => q.elim (S.tw b) fun q => q ▸ wa
 have nL : ∀ m, h.Ns env.locals m -> ¬ (C.Tb env.locals ∨ env.locals = a) := fun m n q => q.elim (S.inv.ns_notTb n) fun q => nW (q ▸ S.nsW)
 have nC : ∀ c v, h.IsCell c v -> ¬ (C.Tb c ∨ c = a) := fun c v ci q => q.elim (S.inv.cell_notTb ci) fun q => (S.owns _ (cC hi)).1.fX (q ▸ ci)
 refine S.touch k I' fa f0 wa ?_ ef ?_ (fun y e hy => ?_) (fun x hx => ?_) (fun p hp => ?_)
 ·exact z.plainly
 ·obtain ⟨m, n⟩ := S.ns; exact ⟨m, jA k (nL m n) n⟩
 ·obtain ⟨v, b, zz⟩ := S.bound y e hy
  rw [eW]
  exact ⟨v, b.kp k nL nC, zz.kp k sub (fun _ _ _ q => q) fun _ q => ef ▸ q⟩
 ·obtain ⟨c, v, l, ci⟩ := S.cells' x hx
  exact ⟨c, v, l, bZ k (nC c _ ci) ci⟩
 ·rw [eW]
  rcases set_mem S.nodup hi hp with q | ⟨q, w⟩
  ·rw [q]; exact z
  ·exact (S.owns p q).1.but k wa S.tw fun t => t.elim (fun t => (S.owns p q).2.1 (S.tbW _ t)) w
noncomputable def eV : D -> Prop
 | .list _ => True
 | .dict _ => True
 | _ => False
theorem bc.frozen {W : Addr -> Prop} {h : Heap} {a : Addr} {d : D} (z : bc C W h a d) (f : eV d) (n : ¬ W a) : Val C W h (.ref a) d := by
 cases d with
 | list ds => obtain ⟨vs, k, e, l, r⟩ := z; exact .list e n l r
 | dict ds => obtain ⟨es, e, m, l, r⟩ := z; exact .dict e m n l r
 | _ => exact f.elim
theorem Wof.erase {W : Addr -> Prop} {own : Own} {i : Nat} {a : Addr} : Wof W (own.eraseIdx i) a -> Wof W own a := fun q => q.imp id fun q => by
 obtain ⟨p, hp, rfl⟩ := List.mem_map.mp q
 exact List.mem_map.mpr ⟨p, eU hp, rfl⟩
theorem St.freeze {W : Addr -> Prop} {h₀ h : Heap} {env : Env} {O : Str -> Prop} {ρ : Rho} {own : Own} {a : Addr} {d : D} {i : Nat} {x : Str} (S : St C W h₀ env O ρ own h) (hx : ρ.lookup x = some (.own a)) (hi : own[i]? = some (a, d)) (f : eV d) :
  St C W h₀ env O ((x, d) :: ρ) (own.eraseIdx i) h := by
 have hw : ∀ b o, h.get? b = some o -> Wof W (own.eraseIdx i) b -> Wof W own b := fun b o _ q => q.erase
 have no : ¬ Wof W (own.eraseIdx i) a := fun q => q.elim (S.owns _ (cC hi)).2.1 fun q => ((erase_mem S.nodup hi).mp q).2 rfl
 refine { S with bound := fun y e hy => ?_, owns := fun p hp => ?_, nodup := ?_ }
 ·rw [ak] at hy
  by_cases q : y = x
  ·rw [if_pos q] at hy; cases hy; subst q
   obtain ⟨v, b, z⟩ := S.bound y _ hx
   have : v = .ref a := z
   subst this
   exact ⟨_, b, .of (((S.owns _ (cC hi)).1.kp2 (.refl _) (S := fun _ => False) (fun _ f => f.elim) hw (fun f => f)).frozen f no)⟩
  ·rw [if_neg q] at hy
   obtain ⟨v, b, z⟩ := S.bound y e hy
   refine ⟨v, b, ?_⟩
   cases e with
   | own b => exact z
   | _ => exact Val.kp (.refl _) (S := fun _ => False) (fun _ f => f.elim) hw z
 ·obtain ⟨o1, w1, r1⟩ := S.owns p (eU hp)
  exact ⟨o1.kp2 (.refl _) (S := fun _ => False) (fun _ f => f.elim) hw (fun f => f), w1, r1⟩
 ·exact S.nodup.sublist ((List.eraseIdx_sublist own i).map _)
noncomputable def D.flat : D -> Bool
 | .none => true
 | .bool _ => true
 | .int _ => true
 | .str _ => true
 | _ => false
theorem Val.flat {W W' : Addr -> Prop} {h h' : Heap} {v : Value} {d : D} (z : Val C W h v d) (f : d.flat = true) : Val C W' h' v d := by
 cases d with
 | none => exact z.noneE .none
 | bool b => exact z.boolE (.bool b)
 | int i => exact z.intE fun t => .int i t
 | str s => exact z.strE fun t => .str s t
 | _ => cases f
theorem ao.flat {W W' : Addr -> Prop} {h h' : Heap} {vs : List Value} {ds : List D} (z : ao C W h vs ds) (f : ds.all D.flat = true) : ao C W' h' vs ds := by
 induction ds generalizing vs with
 | nil => rw [z.nil_inv]; exact .nil
 | cons d ds ih =>
  obtain ⟨v, us, rfl, a, b⟩ := z.cons_inv
  have f := Bool.and_eq_true_iff.mp f
  exact .cons (a.flat f.1) (ih b f.2)
section
variable {r : Nat} {sc : Scope} {O : Str -> Prop} {ρ : Rho} {own : Own} {P : aZ}
theorem Ev.peek {e : Expr} {d d0 : D} {x : Str} {a : Addr} {i : Nat} (hx : ρ.lookup x = some (.own a)) (hi : own[i]? = some (a, d0)) (f : eV d0) (y : Ev C r sc ((x, d0) :: ρ) (own.eraseIdx i) e d) (fl : d.flat = true) : Ev C r sc ρ own e d := by
 constructor; intro A env W h₀ O h R G S
 exact (y.go A env W h₀ O h R G (S.freeze hx hi f)).mono (by rintro v h' ⟨e1, z⟩; exact ⟨e1, z.flat fl⟩)
theorem EvF.peek {e : Expr} {ds : List D} {d0 : D} {x : Str} {a : Addr} {i : Nat} (hx : ρ.lookup x = some (.own a)) (hi : own[i]? = some (a, d0)) (f : eV d0) (y : EvF C r sc ((x, d0) :: ρ) (own.eraseIdx i) e (.list ds)) (fl : ds.all D.flat = true) : EvF C r sc ρ own e (.list ds) := by
 constructor; intro A env W h₀ O h R G S
 exact (y.go A env W h₀ O h R G (S.freeze hx hi f)).mono (by rintro v h' ⟨b, e1, e2, e3, e4, vs, n, e5, l, z⟩; exact ⟨b, e1, e2, e3, e4, vs, n, e5, l, z.flat fl⟩)
theorem Ev.ownName {x : Str} {p : Pos} {a : Addr} {A : Around} {env : Env} {W : Addr -> Prop} {h₀ h : Heap} {O : Str -> Prop} (e : ρ.lookup x = some (.own a)) (S : St C W h₀ env O ρ own h) (hd : autoParam ((x == ("__debug__" : Str)) = false) tacD) :
  Tri C A (eval (.Name x p) env) h fun v h' => v = .ref a /\ h' = h := by
 intro tk qQ qE qK
 obtain ⟨v, b, z⟩ := S.bound x _ e
 have : v = .ref a := z
 subst this
 refine wpAny_Name ?_ hd
 rcases b with ⟨a, m, n, e⟩ | ⟨a | ⟨a, a'⟩, c, n, e⟩
 ·exact wpAny_loadName_local S.kind a n e (qK _ h tk ⟨rfl, rfl⟩)
 ·exact wpAny_loadName_cell S.kind a n e (qK _ h tk ⟨rfl, rfl⟩)
 ·exact wpAny_loadName_free S.kind a n e (qK _ h tk ⟨rfl, rfl⟩) a'
theorem aV.cons_inv {W : Addr -> Prop} {h : Heap} {es : List (Str × Value)} {k : Str} {d : D} {kvs : List (Str × D)} (z : aV C W h es ((k, d) :: kvs)) : ∃ v us, es = (k, v) :: us /\ Val C W h v d /\ aV C W h us kvs := by
 cases z with | cons a b => exact ⟨_, _, rfl, a, b⟩
theorem valAt {W : Addr -> Prop} {h : Heap} {k : Str} {d : D} {es : List (Str × Value)} {kvs : List (Str × D)} (z : aV C W h es kvs) (e : kvs.lookup k = some d) : ∃ v, valueAt es k = some v /\ Val C W h v d := by
 induction kvs generalizing es with
 | nil => cases e
 | cons p kvs ih =>
  obtain ⟨v, us, rfl, a, b⟩ := z.cons_inv
  rw [ak] at e
  by_cases w : k = p.1
  ·rw [if_pos w] at e; cases e
   refine ⟨v, ?_, a⟩
   unfold valueAt
   rw [List.find?_cons_of_pos (by simpa using w.symm)]; rfl
  ·rw [if_neg w] at e
   have q := ih b e
   unfold valueAt at q ⊢
   rw [List.find?_cons_of_neg (by simpa using fun q => w q.symm)]
   exact q
theorem Ev.ownItem {x : Str} {p pos : Pos} {i : Expr} {a : Addr} {j : Nat} {kvs : List (Str × D)} {k : Str} {d : D} (hx : ρ.lookup x = some (.own a)) (hj : own[j]? = some (a, .dict kvs)) (y : Ev C r sc ρ own i (.str k)) (e : kvs.lookup k = some d)
  (hd : autoParam ((x == ("__debug__" : Str)) = false) tacD) : Ev C r sc ρ own (.Subscript (.Name x p) i pos) d := by
 constructor; intro A env W h₀ O h R G S tk qQ qE qK
 obtain ⟨id, hl⟩ := fB
 refine Subscript_ ((Ev.ownName (A := A) hx S hd).use2 fun v1 h1 tk1 e1 z1 => ?_)
 subst e1 z1
 refine (y.go A env W h₀ O h1 R G S).use2 fun v2 h2 tk2 e2 z2 => ?_
 have S2 := S.ext e2
 obtain ⟨es, g, m, l, rr⟩ := (S2.owns _ (cC hj)).1
 obtain ⟨v, hv, zv⟩ := valAt rr e
 obtain ⟨t, rfl⟩ : ∃ t, v2 = .str k t := by cases z2; exact ⟨_, rfl⟩
 refine nA (Heap.DictOf.typeIs (s := sh C h2 tk2) g) hl (wpAny_getItem_of (strKind_is _ _ _ _) g.mapOf hv (qK _ h2 _ ⟨e2, zv⟩))
theorem Ev.ownAt {x : Str} {p pos : Pos} {i : Expr} {a : Addr} {j : Nat} {ds : List D} {k : Int} {d : D} (hx : ρ.lookup x = some (.own a)) (hj : own[j]? = some (a, .list ds)) (y : Ev C r sc ρ own i (.int k)) (e : ds[k.toNat]? = some d) (k0 : 0 <= k)
  (hd : autoParam ((x == ("__debug__" : Str)) = false) tacD) : Ev C r sc ρ own (.Subscript (.Name x p) i pos) d := by
 constructor; intro A env W h₀ O h R G S tk qQ qE qK
 obtain ⟨id, hl⟩ := cO
 refine Subscript_ ((Ev.ownName (A := A) hx S hd).use2 fun v1 h1 tk1 e1 z1 => ?_)
 subst e1 z1
 refine (y.go A env W h₀ O h1 R G S).use2 fun v2 h2 tk2 e2 z2 => ?_
 have S2 := S.ext e2
 obtain ⟨vs, n, g, l, rr⟩ := (S2.owns _ (cC hj)).1
 obtain ⟨v, hv, zv⟩ := rr.get e
 obtain ⟨t, rfl⟩ : ∃ t, v2 = .int k t := by cases z2; exact ⟨_, rfl⟩
 have lt : k.toNat < ds.length := (List.getElem?_eq_some_iff.mp e).1
 refine nA (T := "list") ⟨_, g, rfl⟩ hl (wpAny_getItem_list (aO g) k0 (by lia) (by simpa using hv) (qK _ h2 _ ⟨e2, zv⟩))
theorem Mut.erase {env : Env} {i : Nat} {b : Addr} : Mut C env O (own.eraseIdx i) b -> Mut C env O own b := by
 rintro (q | q | q | q)
 ·exact .inl q
 ·exact .inr (.inl q)
 ·exact .inr (.inr (.inl q))
 ·obtain ⟨p, hp, e⟩ := List.mem_map.mp q
  exact .inr (.inr (.inr (List.mem_map.mpr ⟨p, eU hp, e⟩)))
theorem X.freeze {ss : List Stmt} {x : Str} {a : Addr} {d : D} {i : Nat} (hx : ρ.lookup x = some (.own a)) (hi : own[i]? = some (a, d)) (f : eV d) (y : X C r sc O ((x, d) :: ρ) (own.eraseIdx i) ss P) : X C r sc O ρ own ss P := by
 constructor; intro A env W h₀ h R G S
 refine (y.go A env W h₀ h R G (S.freeze hx hi f)).mono fun fl h' ⟨fd, ρ', own', p, S', fi, k, g⟩ => ⟨fd, ρ', own', p, S', fi, k.mono fun b q => q.erase, fun b hb => (g b hb).imp (fun q => ?_) id⟩
 obtain ⟨p, hp, e⟩ := List.mem_map.mp q
 exact List.mem_map.mpr ⟨p, eU hp, e⟩
noncomputable def Sub (ρ' ρ : Rho) : Prop := ∀ x d, ρ'.lookup x = some d -> ρ.lookup x = some d
theorem Sub.nil : Sub [] ρ := fun _ _ e => by cases e
theorem Sub.cons {x : Str} {d : D} {ρ' : Rho} (e : ρ.lookup x = some d) (s : Sub ρ' ρ) : Sub ((x, d) :: ρ') ρ := fun y f q => by
 rw [ak] at q
 by_cases w : y = x
 ·rw [if_pos w] at q; cases q; rw [w]; exact e
 ·rw [if_neg w] at q; exact s y f q
theorem X.weaken {ss : List Stmt} {ρ' : Rho} (s : Sub ρ' ρ) (y : X C r sc O ρ' own ss P) : X C r sc O ρ own ss P :=
 ⟨fun A env W h₀ h R G S => y.go A env W h₀ h R G (S.weaken s)⟩
theorem X.mono {ss : List Stmt} {P' : aZ} (y : X C r sc O ρ own ss P) (k : ∀ f ρ' own', P f ρ' own' -> P' f ρ' own') : X C r sc O ρ own ss P' := ⟨fun A env W h₀ h R G S =>
 (y.go A env W h₀ h R G S).mono fun f h' q => q.mono k⟩
theorem scope_kind {env : Env} {W : Addr -> Prop} {h₀ h : Heap} (S : St C W h₀ env O ρ own h) : interactive env = false := by
 unfold interactive; rw [S.kind]; rfl
structure EvO (C : Cfg) (r : Nat) (sc : Scope) (ρ : Rho) (own : Own) (e : Expr) (a : Addr) : Prop where
 go : ∀ A env W h₀ O h, bL r A -> GlobOf env sc -> St C W h₀ env O ρ own h -> Tri C A (eval e env) h fun v h' => v = .ref a /\ Ext C h h'
theorem EvO.name {x : Str} {p : Pos} {a : Addr} (e : ρ.lookup x = some (.own a)) (hd : autoParam ((x == ("__debug__" : Str)) = false) tacD) : EvO C r sc ρ own (.Name x p) a := by
 constructor; intro A env W h₀ O h R G S
 exact (Ev.ownName e S hd).mono (by rintro v h' ⟨e1, e2⟩; exact ⟨e1, by subst e2; exact .refl S.inv⟩)
theorem X1.ownMeth {o : Expr} {name : Str} {apos pos epos : Pos} {es : List Expr} {T id : String} {a : Addr} {i : Nat} {d d' : D} {ds : List D} (hx : EvO C r sc ρ own o a) (hi : own[i]? = some (a, d)) (y : EvL C r sc ρ own es ds)
  (ty : d.ty = some T) (pa : PlainAttrs T) (sl : Slot T name id) (md' : typeOf (.builtin id) = pure (.type "method_descriptor"))
  (f : ∀ A W h vs, bL r A -> Inv C h -> cz C a -> (∀ a, C.Tb a -> W a) -> W a -> bc C W h a d -> ao C W h vs ds -> Tri C A (call (.builtin id) (.ref a :: vs)) h fun _ h' => Kp (fun b => C.Tb b ∨ b = a) h h' /\ Inv C h' /\ bc C W h' a d')
  (p : P .next ρ (own.set i (a, d'))) (n : autoParam (es.all notStar = true) tacR)
  (hb : autoParam (∀ env, attributeBase o name env (eval o env) = eval o env) tacI1) (hl : autoParam (decide (es.length + 0 + 0 < 30) = true) tacR) (hp : autoParam ((apos.endLine == epos.line) = true) tacR) :
  X1 C r sc O ρ own (.Expr (.Call (.Attribute o name apos) es [] epos) pos) P := by
 constructor; intro A env W h₀ h R G S tk qQ qE qK
 refine wpAny_Expr_any (wpAny_Call_method (hb env) ?_ hp pa sl md' ((hx.go A env W h₀ O h R (az G) S).use2 fun v h1 tk1 e1 x1 => ?_)) (scope_kind S) rfl
 ·have h1 : ((backTo epos (starEach es env)).all fun x => !x.fst) = true := by
   have := bI epos env es n
   rw [List.any_eq_false] at this
   rw [List.all_eq_true]
   intro q hq
   have := this q hq
   simpa using this
  rw [h1]
  show (true && true && decide (es.length + 0 + 0 < 30)) = true
  rw [hl]; rfl
 ·subst e1
  have S1 := S.ext x1
  have o1 := (S1.owns _ (cC hi)).1
  refine ⟨?_, ?_, ?_⟩
  ·cases d with
   | list ds => cases ty; obtain ⟨vs, k, e, _⟩ := o1; exact ⟨_, e, rfl⟩
   | dict ds => cases ty; obtain ⟨es, e, _⟩ := o1; exact Heap.DictOf.typeIs (s := sh C h1 tk1) e
   | ns fs => cases ty
   | _ => exact o1.elim
  ·intro b eb
   cases eb
   cases d with
   | list ds => obtain ⟨vs, k, e, _⟩ := o1; exact ⟨_, e, rfl⟩
   | dict ds => obtain ⟨es, ⟨o, _, _, q, ex, _⟩, _⟩ := o1; exact ⟨o, q, ex.2.1⟩
   | ns fs => cases ty
   | _ => exact o1.elim
  ·refine Calls.callWith_builtin (bI epos env _ n) (aU n ((y.go A env W h₀ O h1 epos R (az G) S1).use2 fun vs h2 tk2 x2 z2 => ?_))
   have S2 := S1.ext x2
   obtain ⟨o2, nW, fa, f0⟩ := S2.owns _ (cC hi)
   refine (f A (Wof W own) h2 vs R S2.inv fa S2.tw (.inr (cJ hi)) o2 z2).use3 fun u h3 tk3 k3 I3 o3 => ?_
   refine (qK _ h3 tk3 ⟨.next, ρ, _, p, S2.mutate hi k3 I3 o3, trivial, ?_, fun b q => .inl (fM hi ▸ q)⟩)
   refine ((x1.trans x2).1.mono fun b q => .inl q).trans (k3.mono fun b q => q.elim .inl fun q => .inr (.inr (.inr (q ▸ cJ hi))))
end
theorem nq {h : Heap} {a : Addr} {vs : List Value} {n : Nat} (g : h.get? a = some (aM vs n)) (f : Array Value -> Array Value) : ∃ m, (h.update a (Obj.mapSeq f)).get? a = some (aM (f vs.toArray).toList m) := by
 rw [Heap.get?_update_self _ g (Obj.isFreed_of_seq (Obj.data_mapSeq (o := aM vs n) rfl f).choose_spec)]
 refine ⟨if (f vs.toArray).size == vs.toArray.size then n else n + 1, ?_⟩
 simp [Obj.mapSeq, aM]
theorem upd_kp {h : Heap} {a : Addr} (f : Obj -> Obj) : Kp (fun b => C.Tb b ∨ b = a) h (h.update a f) := fun b o e n => (Heap.SameBut.update ..).extBut b o (fun q => n (.inr q)) e
theorem upd_inv {h : Heap} {a : Addr} (f : Obj -> Obj) (I : Inv C h) (fa : cz C a) (n : ∀ o, h.get? a = some o -> bM o) : Inv C (h.update a f) := I.extBut fa n (Heap.SameBut.update ..).extBut
section
variable {r : Nat} {sc : Scope} {O : Str -> Prop} {ρ : Rho} {own : Own} {P : aZ}
theorem nu {W : Addr -> Prop} {h : Heap} {a : Addr} (f : Obj -> Obj) {vs : List Value} {ds : List D} (tw : ∀ a, C.Tb a -> W a) (wa : W a) (z : ao C W h vs ds) : ao C W (h.update a f) vs ds :=
 z.keep (upd_kp (C := C) f) fun b q => q.elim (tw b) fun q => q ▸ wa
theorem reverse_meets (l : Addr) (items : Array Value) (n : Nat) (hsz : items.size <= sizeLine) :
  Meets (Builtin.«list.reverse» ⟨[.ref l], []⟩) (fun _ R s => s.heap.get? l = some { cls := .type "list", dict := none, data := .seq items n, slots := #[] } /\ R (.ok (.ret Value.none)) { s with heap := s.heap.update l (Obj.mapSeq Array.reverse), toks := s.toks }) :=
 .of_wp fun prog w A R s h => by
  obtain ⟨hp, g, d, tk, os⟩ := s; obtain ⟨hl, h⟩ := h
  have hz' : items.reverse.size <= sizeLine + 1 := by rw [Array.size_reverse]; lia
  wp_walk using (wpAny_updateSeq hl rfl (hz := hsz) (_hz' := hz')); exact ⟨_, rfl, h⟩
theorem X1.append {o e : Expr} {apos pos epos : Pos} {a : Addr} {i : Nat} {ds : List D} {d : D} (hx : EvO C r sc ρ own o a) (hi : own[i]? = some (a, .list ds)) (y : Ev C r sc ρ own e d) (l : ds.length + 1 <= 1048576)
  (p : P .next ρ (own.set i (a, .list (ds ++ [d])))) (n : autoParam (notStar e = true) tacR)
  (hb : autoParam (∀ env, attributeBase o "append" env (eval o env) = eval o env) tacI1) (hp : autoParam ((apos.endLine == epos.line) = true) tacR) :
  X1 C r sc O ρ own (.Expr (.Call (.Attribute o "append" apos) [e] [] epos) pos) P := by
 refine X1.ownMeth (T := "list") hx hi (.cons y .nil n) rfl F.plainAttrs_list F.slot_list_append F.type_list_append (fun A W h vs R I fa tw wa oo z => ?_) p (by show (notStar e && true) = true; rw [n]; rfl) hb rfl hp
 obtain ⟨v, rfl, q⟩ := z.one
 obtain ⟨us, k, g, l0, rr⟩ := oo
 intro tk qQ qE qK
 refine call_meets F.slot_list_append ⟨_, g, rfl⟩ F.entry_list_append (F.args_list_append_2 _ _) (AutoListH.list_append_list_val_0 a us.toArray k v (by have := rr.length; simp [sizeLine]; lia)) ⟨g, ?_⟩
 refine (qK _ _ tk ⟨upd_kp _, upd_inv _ I fa (dW g), ?_⟩)
 obtain ⟨m, g'⟩ := nq g (fun x_1 => x_1.push v)
 refine ⟨us ++ [v], m, by simpa using g', by simpa using l, ?_⟩
 exact (nu _ tw wa rr).append (.cons (q.keep (upd_kp (C := C) _) fun b q => q.elim (tw b) fun q => q ▸ wa) .nil)
theorem X1.extend {o e : Expr} {apos pos epos : Pos} {a : Addr} {i : Nat} {ds es : List D} (hx : EvO C r sc ρ own o a) (hi : own[i]? = some (a, .list ds)) (y : Ev C r sc ρ own e (.list es)) (l : ds.length + es.length <= 1048576)
  (p : P .next ρ (own.set i (a, .list (ds ++ es)))) (n : autoParam (notStar e = true) tacR)
  (hb : autoParam (∀ env, attributeBase o "extend" env (eval o env) = eval o env) tacI1) (hp : autoParam ((apos.endLine == epos.line) = true) tacR) :
  X1 C r sc O ρ own (.Expr (.Call (.Attribute o "extend" apos) [e] [] epos) pos) P := by
 refine X1.ownMeth (T := "list") hx hi (.cons y .nil n) rfl F.plainAttrs_list F.slot_list_extend F.type_list_extend (fun A W h vs R I fa tw wa oo z => ?_) p (by show (notStar e && true) = true; rw [n]; rfl) hb rfl hp
 obtain ⟨v, rfl, q⟩ := z.one
 obtain ⟨us, k, g, l0, rr⟩ := oo
 refine q.listE fun b ws k' g' nb l' rr' => ?_
 intro tk qQ qE qK
 have e1 := rr.length
 have e2 := rr'.length
 refine call_meets F.slot_list_extend ⟨_, g, rfl⟩ F.entry_list_extend (F.args_list_extend_2 _ _) (AutoSeq1.list_extend_list_list_0 a us.toArray k b ws.toArray k' (by simp [Builtin.List.listTooLong, sizeLine]; intro _; lia) (by simp [sizeLine]; lia) (by simp [sizeLine]; lia)) ⟨g, g', ?_⟩
 refine (qK _ _ tk ⟨upd_kp _, upd_inv _ I fa (dW g), ?_⟩)
 obtain ⟨m, g'⟩ := nq g (fun x_1 => x_1 ++ ws.toArray)
 refine ⟨us ++ ws, m, by simpa using g', by simpa using l, ?_⟩
 exact (nu _ tw wa rr).append (nu _ tw wa rr')
theorem X1.reverse {o : Expr} {apos pos epos : Pos} {a : Addr} {i : Nat} {ds : List D} (hx : EvO C r sc ρ own o a) (hi : own[i]? = some (a, .list ds))
  (p : P .next ρ (own.set i (a, .list ds.reverse)))
  (hb : autoParam (∀ env, attributeBase o "reverse" env (eval o env) = eval o env) tacI1) (hp : autoParam ((apos.endLine == epos.line) = true) tacR) :
  X1 C r sc O ρ own (.Expr (.Call (.Attribute o "reverse" apos) [] [] epos) pos) P := by
 refine X1.ownMeth (T := "list") hx hi .nil rfl F.plainAttrs_list F.slot_list_reverse F.type_list_reverse (fun A W h vs R I fa tw wa oo z => ?_) p rfl hb rfl hp
 cases z
 obtain ⟨us, k, g, l0, rr⟩ := oo
 intro tk qQ qE qK
 refine call_meets F.slot_list_reverse ⟨_, g, rfl⟩ F.entry_list_reverse (F.args_list_reverse_1 _) (reverse_meets a us.toArray k (by have := rr.length; simp [sizeLine]; lia)) ⟨g, ?_⟩
 refine (qK _ _ tk ⟨upd_kp _, upd_inv _ I fa (dW g), ?_⟩)
 obtain ⟨m, g'⟩ := nq g Array.reverse
 exact ⟨us.reverse, m, by simpa using g', by simpa using l0, (nu _ tw wa rr).reverse⟩
theorem mC {prog : Program} {w : World} {E : Value -> Shared -> Prop} {s : Shared} {A : Around} {a : Addr} {vs : List Value} {n : Nat} {k : Int} {t : Tok} {v : Value} {Q : Unit -> Shared -> Prop} (g : s.heap.get? a = some (aM vs n)) (h0 : 0 <= k) (hfit : k < 2 ^ 63) (hn : k < vs.length)
  (hQ : ∀ h' m, Heap.SameBut a s.heap h' -> h'.get? a = some (aM (vs.set k.toNat v) m) -> Q () { s with heap := h' }) : wpAny (model prog w) A (setItem (.ref a) (.int k t) v) Q E s := by
 have hT : s.TypeIs (.ref a) "list" := ⟨_, g, rfl⟩
 unfold setItem
 try with_reducible refine wpAny_holding ?_
 first | refine wpAny_bind (wpAny_pure ?_) | skip
 refine wpAny_bind (wpAny_sequenceKey hT (by decide) ?_)
 refine wpAny_bind (wpAny_callSpecial?_slot (name := Str.ofString "__setitem__") hT slot_list_setitem
  (wpAny_call_entry slot_list_setitem hT entry_list_setitem ?_ (args_list_setitem _ _ _)))
 show wpAny _ _ (Builtin.List.listSubscript? (.int k t) >>= _) _ _ s
 refine wpAny_bind (wpAny_listSubscript_int (fitsIndex_of h0 hfit) ?_)
 clear hfit
 obtain ⟨j, rfl⟩ := Int.eq_ofNat_of_zero_le h0
 have hj : j < vs.length := by omega
 have hx' : vs.toArray[j]? = some vs[j] := by simp [hj]
 show wpAny _ _ ((seqItemAt a j >>= fun r => pure (r.map (j, ·))) >>= _) _ _ s
 refine wpAny_bind (wpAny_bind (wpAny_seqItemAt g rfl (wpAny_pure ?_)))
 rw [hx']
 show wpAny _ _ (setSeqItemAt a j v >>= _) _ _ s
 obtain ⟨m, g'⟩ := nq g (·.setIfInBounds j v)
 have g2 : (s.heap.update a (Obj.mapSeq (·.setIfInBounds j v))).get? a = some (aM (vs.set (Int.toNat (j : Int)) v) m) := by simpa using g'
 refine wpAny_bind (wpAny_setSeqItemAt g rfl ?_)
 first
  | exact wpAny_bind (wpAny_pure (wpAny_pure ⟨.none, rfl, wpAny_pure (hQ _ m (Heap.SameBut.update ..) g2)⟩))
  | exact wpAny_pure ⟨.none, rfl, wpAny_pure (hQ _ m (Heap.SameBut.update ..) g2)⟩
theorem ao.set {W : Addr -> Prop} {h : Heap} {v : Value} {d : D} (z : Val C W h v d) : ∀ {vs : List Value} {ds : List D} (k : Nat), ao C W h vs ds -> ao C W h (vs.set k v) (ds.set k d)
 | _, _, _, .nil => .nil
 | _, _, 0, .cons _ r => .cons z r
 | _, _, k + 1, .cons u r => .cons u (ao.set z k r)
theorem X1.setL {x : Str} {px tpos pos : Pos} {i e : Expr} {a : Addr} {j k : Nat} {ds : List D} {d : D} (hx : ρ.lookup x = some (.own a)) (hj : own[j]? = some (a, .list ds)) (y : Ev C r sc ρ own e d) (yi : Ev C r sc ρ own i (.int k)) (hk : k < ds.length)
  (p : P .next ρ (own.set j (a, .list (ds.set k d)))) (hd : autoParam ((x == ("__debug__" : Str)) = false) tacD)
  (hs : autoParam (∀ env line, swapsWith e (some (.Subscript (.Name x px) i tpos)) line env = pure false) tacI2) :
  X1 C r sc O ρ own (.Assign [.Subscript (.Name x px) i tpos] e pos) P := by
 constructor; intro A env W h₀ h R G S tk qQ qE qK
 refine wpAny_Assign_Subscript ((y.go A env W h₀ O h R (az G) S).use2 fun v h1 tk1 e1 z1 => ?_) (hs _ _)
 have S1 := S.ext e1
 refine (Ev.ownName (A := A) hx S1 hd).use2 fun v2 h2 tk2 e2 z2 => ?_
 subst e2 z2
 refine (yi.go A env W h₀ O h2 R (az G) S1).use2 fun v3 h3 tk3 e3 z3 => ?_
 have S3 := S1.ext e3
 obtain ⟨⟨vs, n, g, l, rr⟩, nW, fa, f0⟩ := S3.owns _ (cC hj)
 obtain ⟨t, rfl⟩ : ∃ t, v3 = .int k t := by cases z3; exact ⟨_, rfl⟩
 refine mC (v := v) (k := (k : Int)) g (by omega) (by omega) (by rw [rr.length]; omega) fun h4 m hs4 g4 => ?_
 replace hs4 : Heap.SameBut a h3 h4 := hs4
 rw [Int.toNat_natCast] at g4
 have k4 : Kp (fun b => C.Tb b ∨ b = a) h3 h4 := fun b o e n => hs4.extBut b o (fun q => n (.inr q)) e
 have sub : ∀ b, (C.Tb b ∨ b = a) -> Wof W own b := fun b q => q.elim (S3.tw b) fun q => q ▸ .inr (cJ hj)
 have I4 : Inv C h4 := S3.inv.extBut fa (dW g) hs4.extBut
 refine (qK _ h4 _ ⟨.next, ρ, _, p, S3.mutate hj k4 I4 ⟨_, m, g4, by simpa using l, ((rr.keep k4 sub).set ((z1.ext e3 S.tw).keep k4 sub) k)⟩, trivial, ?_, fun b q => .inl (fM hj ▸ q)⟩)
 exact (((e1.trans e3).1.mono fun b q => .inl q)).trans (k4.mono fun b q => q.elim .inl fun q => .inr (.inr (.inr (q ▸ cJ hj))))
theorem X1.setD {x : Str} {px tpos pos : Pos} {i e : Expr} {a : Addr} {j : Nat} {k : Str} {kvs : List (Str × D)} {d : D} (hx : ρ.lookup x = some (.own a)) (hj : own[j]? = some (a, .dict kvs)) (y : Ev C r sc ρ own e d) (yi : Ev C r sc ρ own i (.str k)) (hl : kvs.length + 1 <= 1048576)
  (p : P .next ρ (own.set j (a, .dict (dput kvs k d)))) (hd : autoParam ((x == ("__debug__" : Str)) = false) tacD)
  (hs : autoParam (∀ env line, swapsWith e (some (.Subscript (.Name x px) i tpos)) line env = pure false) tacI2) :
  X1 C r sc O ρ own (.Assign [.Subscript (.Name x px) i tpos] e pos) P := by
 constructor; intro A env W h₀ h R G S tk qQ qE qK
 refine wpAny_Assign_Subscript ((y.go A env W h₀ O h R (az G) S).use2 fun v h1 tk1 e1 z1 => ?_) (hs _ _)
 have S1 := S.ext e1
 refine (Ev.ownName (A := A) hx S1 hd).use2 fun v2 h2 tk2 e2 z2 => ?_
 subst e2 z2
 refine (yi.go A env W h₀ O h2 R (az G) S1).use2 fun v3 h3 tk3 e3 z3 => ?_
 have S3 := S1.ext e3
 obtain ⟨⟨es, g, m, l, rr⟩, nW, fa, f0⟩ := S3.owns _ (cC hj)
 obtain ⟨t, rfl⟩ : ∃ t, v3 = .str k t := by cases z3; exact ⟨_, rfl⟩
 refine wpAny_setItem_pairs (strKind_is _ _ _ _) g (fun h4 g4 hs4 => ?_) (by rw [rr.length]; simp [sizeLine]; lia)
 have k4 : Kp (fun b => C.Tb b ∨ b = a) h3 h4 := fun b o e n => hs4.extBut b o (fun q => n (.inr q)) e
 have sub : ∀ b, (C.Tb b ∨ b = a) -> Wof W own b := fun b q => q.elim (S3.tw b) fun q => q ▸ .inr (cJ hj)
 have I4 : Inv C h4 := S3.inv.extBut fa (nc_dict g) hs4.extBut
 refine (qK _ h4 _ ⟨.next, ρ, _, p, S3.mutate hj k4 I4 ⟨_, g4, m, ?_, ((rr.kp k4 sub fun _ _ _ q => q).stored ((z1.ext e3 S.tw).keep k4 sub))⟩, trivial, ?_, fun b q => .inl (fM hj ▸ q)⟩)
 ·have := mO kvs k d; lia
 ·exact (((e1.trans e3).1.mono fun b q => .inl q)).trans (k4.mono fun b q => q.elim .inl fun q => .inr (.inr (.inr (q ▸ cJ hj))))
noncomputable def InOk (C : Cfg) (op : Operator) (d1 d2 d : D) : Prop :=
 ∀ A W h v1 v2, A.handled = Option.none -> Inv C h -> (∀ a, C.Tb a -> W a) -> (∀ a, W a -> h.get? a ≠ Option.none) -> Val C W h v1 d1 -> Val C W h v2 d2 -> Tri C A (inplaceOp op v1 v2) h fun v h' => Ext C h h' /\ Val C W h' v d
theorem InOk.add {x y : Int} : InOk C .Add (.int x) (.int y) (.int (x + y)) := by
 intro A W h v1 v2 R I tw wo z1 z2 tk qQ qE qK; cases z1; cases z2
 exact AutoIntOps.iadd_0 (qK _ h _ ⟨.refl I, .int _ _⟩)
theorem X1.augL {x : Str} {px tpos pos : Pos} {i e : Expr} {op : Operator} {a : Addr} {j k : Nat} {ds : List D} {d0 d1 d : D} (hx : ρ.lookup x = some (.own a)) (hj : own[j]? = some (a, .list ds)) (yi : Ev C r sc ρ own i (.int k)) (h0 : ds[k]? = some d0)
  (y : Ev C r sc ρ own e d1) (b : InOk C op d0 d1 d) (p : P .next ρ (own.set j (a, .list (ds.set k d)))) (hd : autoParam ((x == ("__debug__" : Str)) = false) tacD)
  (hi : autoParam (∀ ov iv new, augStore i ov iv new = (do holding [new, ov, iv] (setItem ov iv new); release [new, ov, iv] []; pure .next)) tacI3) :
  X1 C r sc O ρ own (.AugAssign (.Subscript (.Name x px) i tpos) op e pos) P := by
 constructor; intro A env W h₀ h R G S tk qQ qE qK
 have hk : k < ds.length := (List.getElem?_eq_some_iff.mp h0).1
 refine wpAny_AugAssign_SubscriptAny ((Ev.ownName (A := A) hx S hd).use2 fun v1 h1 tk1 e1 z1 => ?_) hi
 subst e1 z1
 refine (yi.go A env W h₀ O h1 R (az G) S).use2 fun v2 h2 tk2 e2 z2 => ?_
 have S2 := S.ext e2
 obtain ⟨t, rfl⟩ : ∃ t, v2 = .int k t := by cases z2; exact ⟨_, rfl⟩
 obtain ⟨⟨vs, n, g, l, rr⟩, nW, fa, f0⟩ := S2.owns _ (cC hj)
 obtain ⟨u, hu, zu⟩ := rr.get h0
 refine wpAny_getItem_list (aO g) (by lia) (by lia) (x := u) (by simpa using hu) ?_
 refine (y.go A env W h₀ O h2 R (az G) S2).use2 fun v3 h3 tk3 e3 z3 => ?_
 have S3 := S2.ext e3
 refine (b A (Wof W own) h3 u v3 R.1 S3.inv S3.tw S3.wOld' (zu.ext e3 S.tw) z3).use2 fun v4 h4 tk4 e4 z4 => ?_
 have S4 := S3.ext e4
 obtain ⟨⟨vs, n, g, l, rr⟩, nW, fa, f0⟩ := S4.owns _ (cC hj)
 refine mC (v := v4) (k := (k : Int)) g (by lia) (by lia) (by rw [rr.length]; lia) fun h5 m hs5 g5 => ?_
 replace hs5 : Heap.SameBut a h4 h5 := hs5
 rw [Int.toNat_natCast] at g5
 have k5 : Kp (fun b => C.Tb b ∨ b = a) h4 h5 := fun b o e n => hs5.extBut b o (fun q => n (.inr q)) e
 have sub : ∀ b, (C.Tb b ∨ b = a) -> Wof W own b := fun b q => q.elim (S3.tw b) fun q => q ▸ .inr (cJ hj)
 have I5 : Inv C h5 := S4.inv.extBut fa (dW g) hs5.extBut
 refine (qK _ h5 _ ⟨.next, ρ, _, p, S4.mutate hj k5 I5 ⟨_, m, g5, by simpa using l, ((rr.keep k5 sub).set (z4.keep k5 sub) k)⟩, trivial, ?_, fun b q => .inl (fM hj ▸ q)⟩)
 exact ((((e2.trans e3).trans e4).1.mono fun b q => .inl q)).trans (k5.mono fun b q => q.elim .inl fun q => .inr (.inr (.inr (q ▸ cJ hj))))
end
inductive dF (C : Cfg) (W : Addr -> Prop) (h : Heap) : List Value -> List D -> Prop
 | nil : dF C W h [] []
 | cons {v : Value} {vs : List Value} {d : D} {ds : List D} : VT C W [] h v d -> dF C W h vs ds -> dF C W h (v :: vs) (d :: ds)
theorem VT.any {W : Addr -> Prop} {own own' : Own} {h : Heap} {v : Value} {d : D} (x : VT C W own h v d) : VT C W own' h v d := by cases d <;> exact x
theorem dF.kp {S W W' : Addr -> Prop} {h h' : Heap} (k : Kp S h h') (hs : ∀ a, S a -> W a) (hw : ∀ a o, h.get? a = some o -> W' a -> W a) {vs : List Value} {ds : List D} (x : dF C W h vs ds) : dF C W' h' vs ds :=
 dF.rec (motive := fun vs ds _ => dF C W' h' vs ds) .nil (fun z _ r => .cons (z.kp k hs hw fun _ q => q) r) x
theorem dF.length {W : Addr -> Prop} {h : Heap} {vs : List Value} {ds : List D} (x : dF C W h vs ds) : vs.length = ds.length := dF.rec (motive := fun vs ds _ => vs.length = ds.length) rfl (fun _ _ r => congrArg (· + 1) r) x
section
variable {r : Nat} {sc : Scope} {O : Str -> Prop} {ρ : Rho} {own : Own} {P : aZ}
inductive RowIs (C : Cfg) (W : Addr -> Prop) (h₀ : Heap) (env : Env) (O : Str -> Prop) (ρ : Rho) (own : Own) (h : Heap) (n : Nat) (Q : List D -> Own -> Prop) (vs : List Value) (h' : Heap) : Prop
 | mk (ds : List D) (own' : Own) (q : Q ds own') (e : Ext C h h') (S : St C W h₀ env O ρ own' h') (sb : ∀ b ∈ own.map (·.1), b ∈ own'.map (·.1)) (g : d7 own own' h) (z : dF C (Wof W own') h' vs ds) (l : ds.length = n) : RowIs C W h₀ env O ρ own h n Q vs h'
inductive TupIs (C : Cfg) (W : Addr -> Prop) (h₀ : Heap) (env : Env) (O : Str -> Prop) (ρ : Rho) (own : Own) (h : Heap) (n : Nat) (Q : List D -> Own -> Prop) (v : Value) (h' : Heap) : Prop
 | mk (a : Addr) (vs : List Value) (ds : List D) (own' : Own) (ev : v = .ref a) (it : h'.IsTuple a vs.toArray) (q : Q ds own') (e : Ext C h h') (S : St C W h₀ env O ρ own' h') (sb : ∀ b ∈ own.map (·.1), b ∈ own'.map (·.1)) (g : d7 own own' h) (z : dF C (Wof W own') h' vs ds) (l : ds.length = n) : TupIs C W h₀ env O ρ own h n Q v h'
structure EvM (C : Cfg) (r : Nat) (sc : Scope) (ρ : Rho) (own : Own) (es : List Expr) (Q : List D -> Own -> Prop) : Prop where
 go : ∀ A env W h₀ O h pos, bL r A -> GlobOf env sc -> St C W h₀ env O ρ own h -> Tri C A (spliced (backTo pos (starEach es env))) h (RowIs C W h₀ env O ρ own h es.length Q)
theorem EvM.nil {Q : List D -> Own -> Prop} (q : Q [] own) : EvM C r sc ρ own [] Q := ⟨fun A env W h₀ O h pos R G S tk qQ qE qK => spliced_nil (qK _ h _ ⟨[], own, q, .refl S.inv, S, fun _ q => q, fun a q => .inl q, .nil, rfl⟩)⟩
theorem Wof.grow {W : Addr -> Prop} {own own' : Own} {h : Heap} {b : Addr} (g : d7 own own' h) (o : h.get? b ≠ Option.none) : Wof W own' b -> Wof W own b := fun q => q.elim .inl fun q => .inr ((g b q).resolve_right o)
theorem EvM.val {e : Expr} {es : List Expr} {d : D} {Q : List D -> Own -> Prop} (x : Ev C r sc ρ own e d) (y : EvM C r sc ρ own es fun ds own' => Q (d :: ds) own') (n : autoParam (notStar e = true) tacR) : EvM C r sc ρ own (e :: es) Q := by
 constructor; intro A env W h₀ O h pos R G S tk qQ qE qK
 rw [aJ e es env n]
 show wpAny _ A (spliced ((false, eval e env) :: backTo pos (starEach es env))) _ _ _
 refine spliced_cons ((x.go A env W h₀ O h R G S).use2 fun v h1 tk1 e1 z => ?_)
 have S1 := S.ext e1
 refine (y.go A env W h₀ O h1 pos R G S1).use ?_
 rintro vs h2 tk2 ⟨ds, own', q, e2, S2, sb, g2, z2, ln⟩
 exact (qK _ h2 tk2 ⟨_, own', q, e1.trans e2, S2, sb, fun a ha => (g2 a ha).imp id e1.none_back,
  .cons (.of (z.kp e2.1 S.tw fun b o ho w => Wof.grow g2 (bw (ho)) w)) z2, by rw [List.length_cons, List.length_cons, ln]⟩)
theorem EvM.new {e : Expr} {es : List Expr} {d : D} {Q : List D -> Own -> Prop} (x : EvF C r sc ρ own e d) (y : ∀ a, EvM C r sc ρ ((a, d) :: own) es fun ds own' => Q (.own a :: ds) own') (n : autoParam (notStar e = true) tacR) : EvM C r sc ρ own (e :: es) Q := by
 constructor; intro A env W h₀ O h pos R G S tk qQ qE qK
 rw [aJ e es env n]
 show wpAny _ A (spliced ((false, eval e env) :: backTo pos (starEach es env))) _ _ _
 refine spliced_cons ((x.go A env W h₀ O h R G S).use ?_)
 rintro v h1 tk1 ⟨a, ev, f, m, e1, z⟩
 subst ev
 have S1 := S.adopt e1 f z
 refine ((y a).go A env W h₀ O h1 pos R G S1).use ?_
 rintro vs h2 tk2 ⟨ds, own', q, e2, S2, sb, g2, z2, ln⟩
 exact (qK _ h2 tk2 ⟨_, own', q, e1.trans e2, S2, fun b hb => sb b (List.mem_cons_of_mem _ hb), fun b ha => by
   rcases g2 b ha with q | q
   ·rcases List.mem_cons.mp q with q | q
    ·exact .inr (q ▸ f)
    ·exact .inl q
   ·exact .inr (e1.none_back q), .cons rfl z2, by rw [List.length_cons, List.length_cons, ln]⟩)
theorem EvM.tup {A : Around} {env : Env} {W : Addr -> Prop} {h₀ h : Heap} {es : List Expr} {k : Nat} {pos : Pos} {Q : List D -> Own -> Prop} (x : EvM C r sc ρ own es Q) (l : es.length <= 1000) (R : bL r A) (G : GlobOf env sc) (S : St C W h₀ env O ρ own h) :
  Tri C A (eval (.Tuple es k pos) env) h (TupIs C W h₀ env O ρ own h es.length Q) := by
 intro tk qQ qE qK
 refine wpAny_Tuple_spliced ((x.go A env W h₀ O h pos R G S).use ?_)
 rintro vs h1 tk1 ⟨ds, own', q, e1, S1, sb, g1, z, ln⟩
 refine ⟨?_, ?_⟩
 ·have := z.length; simp [sizeLine]; lia
 ·have e2 : Ext C h1 (h1.push (tupObj vs 0)) := .push S1.inv _
  exact (qK _ _ tk1 ⟨_, vs, ds, own', rfl, ⟨_, Heap.get?_push_size _ rfl, rfl, 0, rfl⟩, q, e1.trans e2, S1.ext e2, sb, g1, z.kp e2.1 S1.tw (fun _ _ _ q => q), ln⟩)
noncomputable def nm (e : Expr) : Str := (ev e).1
noncomputable def isNm (e : Expr) : Bool := Nat.beq e.ctorIdx 23
theorem isNm_plain {t : Expr} (h : isNm t = true) : notStar t = true := (congrArg (fun n => !(Nat.beq n 22)) (Nat.eq_of_beq_eq_true h : t.ctorIdx = 23) :)
theorem mY : ∀ {ts : List Expr}, ts.all isNm = true -> ts.all notStar = true
 | [], _ => rfl
 | t :: ts, h => by
  simp only [List.all_cons, Bool.and_eq_true] at h ⊢
  exact ⟨isNm_plain h.1, mY h.2⟩
noncomputable def updN : List Expr -> List D -> Rho -> Rho
 | t :: ts, d :: ds, ρ => updN ts ds ((nm t, d) :: ρ)
 | _, _, ρ => ρ
theorem isNm_inv {t : Expr} (a : isNm t = true) : ∃ x p, t = .Name x p := by
 cases t with
 | Name x p => exact ⟨x, p, rfl⟩
 | _ => exact (Bool.false_ne_true a).elim
theorem dF.nil_inv {W : Addr -> Prop} {h : Heap} {vs : List Value} (z : dF C W h vs []) : vs = [] := by cases z; rfl
theorem dF.cons_inv {W : Addr -> Prop} {h : Heap} {vs : List Value} {d : D} {ds : List D} (z : dF C W h vs (d :: ds)) : ∃ v us, vs = v :: us /\ VT C W [] h v d /\ dF C W h us ds := by
 cases z with | cons a b => exact ⟨_, _, rfl, a, b⟩
theorem storeAll {A : Around} {env : Env} {W : Addr -> Prop} {h₀ : Heap} (G : env.scope = sc) (R : bL r A) : ∀ (ts : List Expr) (ds : List D) (vs : List Value) (ρ : Rho) (own : Own) (h : Heap), ts.all isNm = true -> (∀ t ∈ ts, Sto sc O (nm t)) -> ds.length = ts.length ->
  St C W h₀ env O ρ own h -> dF C (Wof W own) h vs ds -> Tri C A (assignInOrder ((assignEach ts env).map (·.2)) vs) h fun _ h' => St C W h₀ env O (updN ts ds ρ) own h' /\ Kp (aN C env O) h h' := by
 intro ts
 induction ts with
 | nil =>
  intro ds vs ρ own h _ _ l S z tk qQ qE qK
  cases ds with
  | nil => rw [z.nil_inv]; exact wpAny_assignInOrder_none (qK _ h tk ⟨S, .refl _⟩)
  | cons _ _ => cases l
 | cons t ts ih =>
  intro ds vs ρ own h a k l S z tk qQ qE qK
  have a := Bool.and_eq_true_iff.mp a
  rw [bJ t ts env (isNm_plain a.1)]
  cases ds with
  | nil => cases l
  | cons d ds =>
   obtain ⟨v, us, rfl, z1, z2⟩ := z.cons_inv
   obtain ⟨x, p, rfl⟩ := isNm_inv a.1
   refine wpAny_assignInOrder_more ?_
   refine ((Asg.name (r := r) (d := d) (k _ List.mem_cons_self)).go A env W h₀ ρ own h v R (bQ G) S z1.any).use2 fun _ h1 tk1 S1 k1 => ?_
   exact (ih ds us _ own h1 a.2 (fun t ht => k t (List.mem_cons_of_mem _ ht)) (Nat.succ.inj l) S1 (z2.kp k1 (fun a q => aN.sub S q) fun _ _ _ q => q)).use2 fun _ h2 tk2 S2 k2 => (qK _ h2 tk2 ⟨S2, k1.trans k2⟩)
theorem grow_mut {env : Env} {own own' : Own} {h h1 h' : Heap} (e1 : Ext C h h1) (k : Kp (aN C env O) h1 h') : Kp (Mut C env O own) h h' := (e1.1.mono fun _ q => .inl q).trans (k.mono fun _ q => q.mut)
theorem X1.assignTup {ts es : List Expr} {k k' : Nat} {tpos epos pos : Pos} {Q : List D -> Own -> Prop} (x : EvM C r sc ρ own es Q) (p : ∀ ds own', Q ds own' -> P .next (updN ts ds ρ) own') (sto : ∀ t ∈ ts, Sto sc O (nm t)) (nms : autoParam (ts.all isNm = true) tacR) (len : autoParam (es.length = ts.length) tacR) (l : autoParam (es.length <= 1000) tacD)
  (h1 : autoParam (∀ env line, env.scope = sc -> swapsWithSole [.Tuple ts k tpos] (.Tuple es k' epos) line env = pure false) tacI3) (h2 : autoParam (∀ env, env.scope = sc -> swappedStores [.Tuple ts k tpos] (.Tuple es k' epos) env = pure Option.none) tacC) :
  X1 C r sc O ρ own (.Assign [.Tuple ts k tpos] (.Tuple es k' epos) pos) P := by
 constructor; intro A env W h₀ h R G S tk qQ qE qK
 refine Assign_Tuple ((x.tup (A := A) l R (az G) S).use ?_) (h1 env _ G) (h2 env G)
 rintro v h1 tk1 ⟨a, vs, ds, own', e, it, q, e1, S1, sb, g1, z, ln⟩
 subst e
 have hl : vs.length = ts.length := by rw [z.length, ln, len]
 refine wpAny_assign_Tuple R.1 it (by rw [fV]; simp [hl]) (fU env (mY nms)) fun h2 hx => ?_
 have e2 : Ext C h1 h2 := .all S1.inv fun b o q => hx b o (Nat.ne_of_lt (Heap.lt_size q)) q
 refine (storeAll G R ts ds vs ρ own' h2 nms sto (by rw [ln, len]) (S1.ext e2) (z.kp e2.1 S1.tw fun _ _ _ q => q)).use2 fun _ h3 tk3 S3 k3 => ?_
 exact (qK _ h3 tk3 ⟨.next, _, own', p ds own' q, S3, trivial, grow_mut (own' := own') (e1.trans e2) k3, g1⟩)
theorem X1.assignSwap {x y : Str} {px py : Pos} {e1 e2 : Expr} {k k' : Nat} {tpos epos pos : Pos} {Q : List D -> Own -> Prop} (x' : EvM C r sc ρ own [e1, e2] Q) (p : ∀ d1 d2 own', Q [d1, d2] own' -> P .next ((x, d1) :: (y, d2) :: ρ) own') (sx : Sto sc O x) (sy : Sto sc O y)
  (h1 : autoParam (∀ env line, env.scope = sc -> swapsWithSole [.Tuple [.Name x px, .Name y py] k tpos] (.Tuple [e1, e2] k' epos) line env = pure false) tacI3) (h2 : autoParam (∀ env, env.scope = sc -> swappedStores [.Tuple [.Name x px, .Name y py] k tpos] (.Tuple [e1, e2] k' epos) env = pure (some [x, y])) tacC) :
  X1 C r sc O ρ own (.Assign [.Tuple [.Name x px, .Name y py] k tpos] (.Tuple [e1, e2] k' epos) pos) P := by
 constructor; intro A env W h₀ h R G S tk qQ qE qK
 refine Assign_Tuple_swapped ((x'.tup (A := A) (Nat.le_of_lt_succ (by show 2 < 1001; decide)) R (az G) S).use ?_) (h1 env _ G) (h2 env G)
 rintro v h1 tk1 ⟨a, vs, ds, own', e, it, q, e1, S1, sb, g1, z, ln⟩
 subst e
 obtain ⟨v1, v2, d1, d2, rfl, rfl, z1, z2⟩ : ∃ v1 v2 d1 d2, vs = [v1, v2] /\ ds = [d1, d2] /\ VT C (Wof W own') [] h1 v1 d1 /\ VT C (Wof W own') [] h1 v2 d2 := by
  cases z with
  | nil => cases ln
  | cons z1 r => cases r with
   | nil => cases ln
   | cons z2 r => cases r with
    | nil => exact ⟨_, _, _, _, rfl, rfl, z1, z2⟩
    | cons _ _ => simp at ln
 refine wpAny_unpackItems_tuple (items := [v1, v2].toArray) R.1 it fun h2 hx => ?_
 have e2 : Ext C h1 h2 := .all S1.inv fun b o q => hx b o (Nat.ne_of_lt (Heap.lt_size q)) q
 have S2 := S1.ext e2
 have z1' : VT C (Wof W own') own' h2 v1 d1 := (z1.kp e2.1 S1.tw (fun _ _ _ q => q) fun _ q => q).any
 have z2' : VT C (Wof W own') own' h2 v2 d2 := (z2.kp e2.1 S1.tw (fun _ _ _ q => q) fun _ q => q).any
 show wpAny _ A (assignInOrder [bindName env y, bindName env x] [v2, v1]) _ _ _
 refine wpAny_assignInOrder_more (bindName_ ((S2.store (A := A) (bQ G y sy) z2').use2 fun _ h3 tk3 S3 k3 => ?_))
 have k3' : Kp (aN C env O) h2 h3 := k3.mono fun _ q => .inr q
 have z1'' : VT C (Wof W own') own' h3 v1 d1 := z1'.kp k3' (fun a q => aN.sub S2 q) (fun _ _ _ q => q) fun _ q => q
 refine wpAny_assignInOrder_more (bindName_ ((S3.store (A := A) (bQ G x sx) z1'').use2 fun _ h4 tk4 S4 k4 => ?_))
 have k4' : Kp (aN C env O) h3 h4 := k4.mono fun _ q => .inr q
 exact wpAny_assignInOrder_none (qK _ h4 tk4 ⟨.next, _, own', p d1 d2 own' q, S4, trivial, grow_mut (own' := own') (e1.trans e2) (k3'.trans k4'), g1⟩)
end
theorem dX {n : Str} : ∀ {ns : List Str} {vs : List Value}, ns.length = vs.length -> n ∈ ns -> ((ns.zip vs).lookup n).isNone = false
 | [], _, _, h => nomatch h
 | m :: ns, [], l, _ => by simp at l
 | m :: ns, v :: vs, l, h => by
  rw [List.zip_cons_cons, List.lookup_cons]
  cases q : n == m with
  | true => rfl
  | false =>
   rcases List.mem_cons.mp h with e | h
   ·rw [e] at q; simp at q
   ·exact dX (by simpa using l) h
theorem filter_zip {ns ms : List Str} {vs : List Value} (l : ns.length = vs.length) (s : ∀ n ∈ ms, n ∈ ns) : ms.filter (fun n => ((ns.zip vs).lookup n).isNone) = [] := by
 rw [List.filter_eq_nil_iff]
 intro n h
 rw [dX l (s n h)]; nofun
theorem jy : ∀ (ns : List Str) (vs : List Value), ns.length = vs.length -> ns.Nodup -> ns.filterMap (fun n => ((ns.zip vs).lookup n).map (n, ·)) = ns.zip vs
 | [], _, _, _ => rfl
 | m :: ns, [], l, _ => by simp at l
 | m :: ns, v :: vs, l, nd => by
  rw [List.nodup_cons] at nd
  rw [List.zip_cons_cons, List.filterMap_cons]
  have e : ((m, v) :: ns.zip vs).lookup m = some v := by rw [List.lookup_cons, beq_self_eq_true]
  rw [e]
  simp only [Option.map_some]
  congr 1
  have ih := jy ns vs (by simpa using l) nd.2
  refine Eq.trans ?_ ih
  have key : ∀ l : List Str, (∀ n ∈ l, n ∈ ns) -> l.filterMap (fun n => (((m, v) :: ns.zip vs).lookup n).map (n, ·)) = l.filterMap (fun n => ((ns.zip vs).lookup n).map (n, ·)) := by
   intro l
   induction l with
   | nil => intro _; rfl
   | cons n l ih =>
    intro h
    have : (n == m) = false := beq_eq_false_iff_ne.mpr fun q => nd.1 (q ▸ h n List.mem_cons_self)
    rw [List.filterMap_cons, List.filterMap_cons, List.lookup_cons, this, ih fun n hn => h n (List.mem_cons_of_mem _ hn)]
  exact key ns fun _ h => h
theorem bW {M : Model} {A : Around} {α : Type} {E : Value -> Shared -> Prop} {s : Shared} {c : Prop} [Decidable c] {x y : Sem α} {Q : α -> Shared -> Prop} (h : ¬ c) (k : wpAny M A y Q E s) : wpAny M A (if c then x else y) Q E s := by rw [if_neg h]; exact k
theorem lg {M : Model} {A : Around} {E : Value -> Shared -> Prop} {s : Shared} {fd : FuncData} {as : List Arg} {ds : List Expr} (hp : fd.params = { posonlyargs := [], args := as, vararg := none, kwonlyargs := [], kw_defaults := [], kwarg := none, defaults := ds })
  (r : Option (Array Value)) (hs : ∀ Q : Option (Array Value) -> Shared -> Prop, Q r s -> wpAny M A (seqItems? fd.defaults) Q E s) (vs : List Value) (hl : vs.length = as.length) (nd : (as.map (·.arg)).Nodup) {Q : List (Str × Value) -> Shared -> Prop} (q : Q ((as.map (·.arg)).zip vs) s) :
  wpAny M A (bindArgs fd ⟨vs, []⟩) Q E s := by
 cases fd with | mk =>
 cases hp
 refine wpAny_bind (wpAny_pure ?_)
 refine wpAny_bind (hs _ ?_)
 have hl' : (as.map (·.arg)).length = vs.length := by rw [List.length_map, hl]
 refine bW (fun w => Nat.lt_irrefl _ (Nat.lt_of_lt_of_eq (of_decide_eq_true (Bool.and_eq_true_iff.mp w).1 : (as.map (·.arg)).length < vs.length) hl'.symm)) ?_
 refine bW (fun w => ?_) ?_
 ·have e := filter_zip hl' (ms := (as.map (·.arg)).take ((as.map (·.arg)).length - (((r.getD #[]).toList.drop ((r.getD #[]).toList.length - (as.map (·.arg)).length)).length))) fun n hn => List.mem_of_mem_take hn
  exact Bool.noConfusion ((congrArg (fun l : List Str => !l.isEmpty) e).symm.trans w)
 have loop : ∀ (l : List (Str × Value)), (∀ p ∈ l, p.1 ∈ as.map (·.arg)) -> (forIn l ((as.map (·.arg)).zip vs) fun x __s => if (List.lookup x.fst __s).isNone = true then pure (ForInStep.yield (__s ++ [(x.fst, x.snd)])) else pure (ForInStep.yield __s) : Sem (List (Str × Value))) = pure ((as.map (·.arg)).zip vs) := by
  intro l h
  induction l with
  | nil => rfl
  | cons p l ih =>
   rw [List.forIn_cons, if_neg (by rw [dX hl' (h p List.mem_cons_self)]; nofun)]
   exact ih fun p hp => h p (List.mem_cons_of_mem _ hp)
 refine wpAny_bind (wpAny_of_eq (loop _ fun p hp => ?_) ?_)
 ·obtain ⟨a, b⟩ := p
  exact List.mem_of_mem_drop (List.of_mem_zip hp).1
 refine wpAny_bind (wpAny_pure ?_)
 refine bW nofun ?_
 refine wpAny_pure ?_
 have e : (as.map Arg.arg ++ []).filterMap (fun n => (((as.map Arg.arg).zip vs).lookup n).map (n, ·)) = (as.map Arg.arg).zip vs := by rw [List.append_nil]; exact jy _ _ hl' nd
 rw [<- e] at q
 exact q
theorem call_cells {prog : Program} {w : World} {A : Around} {s : Shared} {R : Result -> Shared -> Prop} {a : Addr} {o : Obj} {fd : FuncData} {body : List Stmt} {vals : List Value} {binds : List (Str × Value)}
  (hroom : A.depth < recursionLimit) (ho : s.heap.get? a = some o) (hdata : o.data = .func fd) (hlim : s.heap.NoLimit) (hcd : s.heap.CodeRec fd.code fd.qualname)
  (hbody : fd.body = .stmts body) (hbind : ∀ (Q : List (Str × Value) -> Shared -> Prop) (E : Value -> Shared -> Prop), Q binds s -> wpAny (model prog w) A.in1 (bindArgs fd ⟨vals, []⟩) Q E s) (hclo : fd.closure = [])
  (hkind : ∀ x ∈ binds, fd.scope.names.lookup x.1 = some .local ∨ (fd.scope.names.lookup x.1 = some .cell /\ ((cellsFrom (s.heap.objs.size + 1) fd.scope.names []).lookup x.1).isSome = true))
  (h : ∀ s₁, InCallC s (callEnvC fd s.heap.objs.size a).locals (bindL (callEnvC fd s.heap.objs.size a).kindOf binds fun _ => none) (callEnvC fd s.heap.objs.size a).cells
    (bindC (callEnvC fd s.heap.objs.size a).kindOf binds fun _ => none) s₁ ->
   wpAny (model prog w) (A.deeper (callEnvC fd s.heap.objs.size a)) (execs body (callEnvC fd s.heap.objs.size a)) (fun f s' => R (.ok (.ret (match f with | .ret v => v | _ => .none))) s')
    (fun e s' => wpAny (model prog w) (A.deeper (callEnvC fd s.heap.objs.size a)) (leaving (callEnvC fd s.heap.objs.size a) e) (fun _ s'' => R (.error e) s'') (fun e' s'' => R (.error e') s'') s') s₁)
  (hco : fd.scope.isCoroutine = false) (hgen : fd.scope.isGenerator = false) (hk : fd.scope.kind = .function) :
  codeAny (model prog w) A (.call (.ref a) ⟨vals, []⟩) R s := by
 refine codeAny_call_function hroom ho hdata hco hgen hbody hcd ?_
 refine hbind _ _ ?_
 rw [hclo]
 refine wpAny_newFunctionEnv_cells hk hkind fun env he s' x => ?_
 subst he
 exact ⟨hlim.keeps x.toInCall.keep, codeAny_func (h s' x)⟩
structure Cls (C : Cfg) (Cl : Addr) (abs : List Str) (mN : Str -> Option Value) : Prop where
 quiet : ∀ x ∈ abs, mN x = none
 at_ : ∃ N, ClsAt C.hB Cl N mN
 ga : mN "__getattribute__" = none
 gh : mN "__getattr__" = none
 sa : mN "__setattr__" = none
noncomputable def lB (name : Str) : Prop := typeLookup (.type "object") name = pure none
theorem Val.handed {W : Addr -> Prop} {h : Heap} {v : Value} {d : D} (z : Val C W h v d) : handedOut v = pure v := by cases z <;> rfl
theorem dD.get {W : Addr -> Prop} {h : Heap} {m : Str -> Option Value} {x : Str} {d : D} {fs : List (Str × D)} (z : dD C W h m fs) : fs.lookup x = some d -> ∃ v, m x = some v /\ Val C W h v d := by
 refine dD.ind (P := fun m fs => fs.lookup x = some d -> ∃ v, m x = some v /\ Val C W h v d) (fun e => eG e) (fun {m y v d' ds} e z _ ih q => ?_) z
 rw [ak] at q
 by_cases w : x = y
 ·rw [if_pos w] at q
  have q := Option.some.inj q
  subst w; subst q; exact ⟨_, e, z⟩
 ·rw [if_neg w] at q; exact ih q
theorem eO.get {W : Addr -> Prop} {h : Heap} {m : Str -> Option Value} {x : Str} {d : D} : ∀ {fs : List (Str × D)}, eO C W h m fs -> fs.lookup x = some d -> ∃ v, m x = some v /\ VT C W [] h v d
 | [], _, e => by cases e
 | (y, _) :: _, ⟨⟨v, e, z⟩, r⟩, q => by
  rw [ak] at q
  by_cases w : x = y
  ·rw [if_pos w] at q; cases q; subst w; exact ⟨_, e, z⟩
  ·rw [if_neg w] at q; exact eO.get r q
theorem getField {A : Around} {W : Addr -> Prop} {h : Heap} {v : Value} {Cl : Addr} {fs : List (Str × D)} {name : Str} {d : D} {abs : List Str} {mN : Str -> Option Value} (cl : Cls C Cl abs mN) (I : Inv C h) (z : Val C W h v (.obj Cl fs)) (hf : fs.lookup name = some d)
  (hna : name ∈ abs) (hB : lB name) : Tri C A (getAttr v name true) h fun u h' => h' = h /\ Val C W h u d := by
 intro tk qQ qE qK
 obtain ⟨N, X⟩ := cl.at_
 have X := X.keeps I.1
 refine z.objE fun a dA m oa c5 n2 r ex => clsE X fun nm q bs sn sub col dd k0 k1 k2 k3 k5 hC => ?_
 obtain ⟨e, c1, c2, c3, c4, n1⟩ := oa
 ·obtain ⟨u, hu, zu⟩ := r.get hf
  exact load_attr hC X.ns cl.ga (cl.quiet _ hna) hB ⟨_, e, c1, c2, .inr ⟨_, c3, c4, c5⟩⟩ hu zu.handed (qK _ h _ ⟨rfl, zu⟩)
section
variable {r : Nat} {sc : Scope} {O : Str -> Prop} {ρ : Rho} {own : Own} {P : aZ}
noncomputable def dU (o : Expr) (name : Str) (pos : Pos) : Prop := ∀ env, eval (.Attribute o name pos) env = (do
   let v <- eval o env
   standAt pos.atName
   let r <- holding [v] (getAttr v name true)
   letTemporaryGo o v r
   pure r)
theorem Ev.attr {o : Expr} {name : Str} {pos : Pos} {Cl : Addr} {fs : List (Str × D)} {d : D} {abs : List Str} {mN : Str -> Option Value} (cl : Cls C Cl abs mN) (x : Ev C r sc ρ own o (.obj Cl fs)) (hf : autoParam (fs.lookup name = some d) tacR) (hna : autoParam (name ∈ abs) tacD) (hB : autoParam (lB name) tacN)
  (he : autoParam (dU o name pos) tacU) : Ev C r sc ρ own (.Attribute o name pos) d := by
 constructor; intro A env W h₀ O h R G S tk qQ qE qK
 refine Attribute_any_ ((x.go A env W h₀ O h R G S).use2 fun v h1 tk1 e1 z1 => ?_) (he env)
 exact (getField (A := A) cl (S.ext e1).inv z1 hf hna hB).use2 fun u h2 tk2 e2 z2 => by subst e2; exact (qK _ _ tk2 ⟨e1, z2⟩)
theorem ownField {A : Around} {env : Env} {W : Addr -> Prop} {h₀ h : Heap} {x : Str} {p : Pos} {Cl dA : Addr} {i : Nat} {fs : List (Str × D)} {name : Str} {pos : Pos} {d : D} {abs : List Str} {mN : Str -> Option Value} (cl : Cls C Cl abs mN) (hx : ρ.lookup x = some (.objO Cl dA)) (hi : own[i]? = some (dA, .ns fs))
  (hf : fs.lookup name = some d) (hna : name ∈ abs) (hB : lB name) (R : bL r A) (G : GlobOf env sc) (S : St C W h₀ env O ρ own h)
  (he : dU (.Name x p) name pos) (hd : (x == ("__debug__" : Str)) = false) : Tri C A (eval (.Attribute (.Name x p) name pos) env) h fun u h' => Ext C h h' /\ VT C (Wof W own) [] h' u d := by
 intro tk qQ qE qK
 refine Attribute_any_ (((Ev.name (r := r) hx (by rfl) hd).go A env W h₀ O h R G S).use2 fun v h1 tk1 e1 z1 => ?_) (he env)
 have S1 := S.ext e1
 obtain ⟨N, X⟩ := cl.at_
 have X := X.keeps S1.inv.1
 refine z1.objOE fun a oa => clsE X fun nm q bs sn sub col dd k0 k1 k2 k3 k5 hC => ?_
 obtain ⟨e, c1, c2, c3, c4, n1⟩ := oa
 ·obtain ⟨m, n1, vt, ex⟩ := (S1.owns _ (cC hi)).1
  obtain ⟨u, hu, zu⟩ := vt.get hf
  refine load_attr hC X.ns cl.ga (cl.quiet _ hna) hB ⟨_, e, c1, c2, .inr ⟨_, c3, c4, n1⟩⟩ hu ?_ (qK _ h1 _ ⟨e1, zu⟩)
  cases d with
  | own a => have : u = .ref a := zu; subst this; rfl
  | _ => exact Val.handed zu
theorem Ev.attrO {x : Str} {p : Pos} {Cl dA : Addr} {i : Nat} {fs : List (Str × D)} {name : Str} {pos : Pos} {d : D} {abs : List Str} {mN : Str -> Option Value} (cl : Cls C Cl abs mN) (hx : ρ.lookup x = some (.objO Cl dA)) (hi : own[i]? = some (dA, .ns fs))
  (hf : fs.lookup name = some d) (no : autoParam (bU d) tacR) (hna : autoParam (name ∈ abs) tacD) (hB : autoParam (lB name) tacN) (he : autoParam (dU (.Name x p) name pos) tacU) (hd : autoParam ((x == ("__debug__" : Str)) = false) tacD) : Ev C r sc ρ own (.Attribute (.Name x p) name pos) d := by
 constructor; intro A env W h₀ O h R G S
 exact (ownField cl hx hi hf hna hB R G S he hd).mono (by rintro u h' ⟨e, z⟩; exact ⟨e, z.val no⟩)
theorem EvO.attr {x : Str} {p : Pos} {Cl dA a : Addr} {i : Nat} {fs : List (Str × D)} {name : Str} {pos : Pos} {abs : List Str} {mN : Str -> Option Value} (cl : Cls C Cl abs mN) (hx : ρ.lookup x = some (.objO Cl dA)) (hi : own[i]? = some (dA, .ns fs))
  (hf : fs.lookup name = some (.own a)) (hna : autoParam (name ∈ abs) tacD) (hB : autoParam (lB name) tacN) (he : autoParam (dU (.Name x p) name pos) tacU) (hd : autoParam ((x == ("__debug__" : Str)) = false) tacD) : EvO C r sc ρ own (.Attribute (.Name x p) name pos) a := by
 constructor; intro A env W h₀ O h R G S
 exact (ownField cl hx hi hf hna hB R G S he hd).mono (by rintro u h' ⟨e, z⟩; exact ⟨z, e⟩)
theorem eO.put {W : Addr -> Prop} {h : Heap} {m : Str -> Option Value} {x : Str} {v : Value} {d : D} (z : VT C W [] h v d) : ∀ {fs : List (Str × D)}, eO C W h m fs -> eO C W h (fun y => if y = x then some v else m y) (fs.map fun kv => if kv.1 = x then (kv.1, d) else kv)
 | [], _ => trivial
 | (y, e) :: fs, ⟨⟨u, hu, zu⟩, r⟩ => by
  rw [List.map_cons]
  by_cases q : y = x
  ·rw [if_pos q]
   exact ⟨⟨v, by show (if y = x then _ else _) = _; rw [if_pos q], z⟩, r.put z⟩
  ·rw [if_neg q]
   exact ⟨⟨u, by show (if y = x then _ else _) = _; rw [if_neg q]; exact hu, zu⟩, r.put z⟩
theorem eO.stay {W : Addr -> Prop} {h : Heap} {m : Str -> Option Value} {x : Str} {v : Value} : ∀ {fs : List (Str × D)}, fs.any (fun kv => kv.1 = x) = false -> eO C W h m fs -> eO C W h (fun y => if y = x then some v else m y) fs
 | [], _, _ => trivial
 | (y, e) :: fs, n, ⟨⟨u, hu, zu⟩, r⟩ => by
  simp only [List.any_cons, Bool.or_eq_false_iff, decide_eq_false_iff_not] at n
  exact ⟨⟨u, by show (if y = x then _ else _) = _; rw [if_neg n.1]; exact hu, zu⟩, r.stay n.2⟩
theorem eO.append {W : Addr -> Prop} {h : Heap} {m : Str -> Option Value} : ∀ {fs gs : List (Str × D)}, eO C W h m fs -> eO C W h m gs -> eO C W h m (fs ++ gs)
 | [], _, _, g => g
 | _ :: _, _, ⟨a, r⟩, g => ⟨a, r.append g⟩
set_option tactic.hygienic true in
theorem eO.dput {W : Addr -> Prop} {h : Heap} {m : Str -> Option Value} {x : Str} {v : Value} {d : D} {fs : List (Str × D)} (z : VT C W [] h v d) (r : eO C W h m fs) : eO C W h (fun y => if y = x then some v else m y) (dput fs x d) := by
 unfold Mine.dput
 split
 ·exact r.put z
 ·rename_i n
  exact (r.stay (Bool.eq_false_iff.mpr n)).append ⟨⟨v, if_pos rfl, z⟩, trivial⟩
theorem dY {x : Str} : ∀ {fs : List (Str × D)}, fs.lookup x = Option.none ↔ fs.any (fun kv => kv.1 = x) = false := by
 intro rv
 induction rv with
 | nil =>
  simp
 | cons hd fs ih =>
  obtain ⟨y, e⟩ := hd
  skip
  rw [ak, List.any_cons, Bool.or_eq_false_iff, decide_eq_false_iff_not]
  by_cases q : x = y
  ·rw [if_pos q]; simp [q]
  ·rw [if_neg q, ih]
   exact ⟨fun w => ⟨fun q' => q q'.symm, w⟩, fun w => w.2⟩
set_option tactic.hygienic true in
theorem any_dput {x y : Str} {d : D} {fs : List (Str × D)} : (dput fs x d).any (fun kv => kv.1 = y) = (fs.any (fun kv => kv.1 = y) || decide (x = y)) := by
 unfold dput
 split
 ·rename_i n
  rw [List.any_map]
  have e : ((fun kv : Str × D => decide (kv.1 = y)) ∘ fun kv => if kv.1 = x then (kv.1, d) else kv) = fun kv => decide (kv.1 = y) := by
   funext kv; simp only [Function.comp]; split <;> rfl
  rw [e]
  by_cases q : x = y
  ·subst q; rw [n]; rfl
  ·simp [q]
 ·rw [List.any_append]; simp
theorem exact_dput {x : Str} {v : Value} {d : D} {m : Str -> Option Value} {fs : List (Str × D)} (ex : ∀ y, fs.lookup y = Option.none -> m y = Option.none) : ∀ y, (dput fs x d).lookup y = Option.none -> (if y = x then some v else m y) = Option.none := by
 intro y e
 rw [dY, any_dput, Bool.or_eq_false_iff, decide_eq_false_iff_not] at e
 rw [if_neg fun q => e.2 q.symm]
 exact ex y (dY.mpr e.1)
theorem within_fs {m : Str -> Option Value} {fs : List (Str × D)} (ex : ∀ y, fs.lookup y = Option.none -> m y = Option.none) : Within m (fs.map (·.1)) := by
 intro y n
 cases q : fs.any (fun kv => kv.1 = y) with
 | false => exact absurd (ex y (dY.mpr q)) n
 | true =>
  obtain ⟨kv, h1, h2⟩ := List.any_eq_true.mp q
  exact List.mem_map.mpr ⟨kv, h1, by simpa using h2⟩
theorem setField {A : Around} {env : Env} {W : Addr -> Prop} {h₀ h : Heap} {x : Value} {v : Value} {Cl dA : Addr} {i : Nat} {fs : List (Str × D)} {name : Str} {d : D} {abs : List Str} {mN : Str -> Option Value} (cl : Cls C Cl abs mN) (S : St C W h₀ env O ρ own h) (hi : own[i]? = some (dA, .ns fs)) (z1 : Val C (Wof W own) h x (.objO Cl dA))
  (zv : VT C (Wof W own) [] h v d) (hna : name ∈ abs) (hB : lB name) (lf : fs.length <= 1000) :
  Tri C A (setAttr x name v) h fun _ h' => St C W h₀ env O ρ (own.set i (dA, .ns (dput fs name d))) h' /\ Kp (fun b => C.Tb b ∨ b = dA) h h' := by
 intro tk qQ qE qK
 obtain ⟨N, X⟩ := cl.at_
 have X := X.keeps S.inv.1
 refine z1.objOE fun a oa => clsE X fun nm q bs sn sub col dd k0 k1 k2 k3 k5 hC => ?_
 obtain @⟨o, e, c1, c2, c3, c4, n1⟩ := oa
 ·obtain ⟨⟨m, n1', vt, ex⟩, nW, fa, f0⟩ := S.owns _ (cC hi)
  have xC : a ≠ Cl := fun q => by subst q; rw [hC] at e; cases e; exact c2 _ rfl
  refine store_attr PySem.F.store_object hC X.ns cl.sa (cl.quiet _ hna) hB xC ⟨o, e, c1, c2, .inr ⟨dA, c3, c4, n1'⟩⟩ (fun h' tk' I' hk hsame => ?_) (within_fs ex) (by rw [List.length_map]; simp [sizeLine]; lia)
  obtain ⟨o1, e1, p1, p2, p3, p4⟩ := hsame o e
  have kk : ∀ b o', b ≠ dA -> h.get? b = some o' -> h'.get? b = some o' := fun b o' nb eb => by
   by_cases w : b = a
   ·subst w
    rw [e] at eb; cases eb
    rw [e1]
    have : o1 = o := by
     obtain ⟨oc, od, oda, os⟩ := o
     obtain ⟨oc', od', oda', os'⟩ := o1
     dsimp only at p1 p2 p3 c3
     have := p4 dA c3
     dsimp only at this
     subst p1 p2 p3 c3 this
     rfl
    rw [this]
   ·exact hk b o' w (fun o₀ dx q1 q2 => by rw [e] at q1; cases q1; rw [c3] at q2; cases q2; exact nb) eb
  have k4 : Kp (fun b => C.Tb b ∨ b = dA) h h' := fun b o' eb n => kk b o' (fun q => n (.inr q)) eb
  have I4 : Inv C h' := S.inv.kp (S := fun b => b = dA) (fun b q => q ▸ fa) (fun b q => by rw [show b = dA from q]; exact mJ n1'.ns) fun b o' eb n => kk b o' n eb
  have sub : ∀ b, (C.Tb b ∨ b = dA) -> Wof W own b := fun b q => q.elim (S.tw b) fun q => q ▸ .inr (cJ hi)
  refine (qK _ h' tk' ⟨S.mutate hi k4 I4 ⟨fun y => if y = name then some v else m y, ?_, ?_, exact_dput ex⟩, k4⟩)
  ·obtain ⟨o2, q1, q2, _, q3⟩ := I'
   rw [e1] at q1; cases q1
   rcases q3 with ⟨q3, _⟩ | ⟨d', q3, _, q4⟩
   ·rw [p4 dA c3] at q3; cases q3
   ·rw [p4 dA c3] at q3; cases q3; exact q4
  ·exact (vt.kp k4 sub fun _ _ _ q => q).dput (zv.kp k4 sub (fun _ _ _ q => q) fun _ q => q)
theorem X1.setAttr {x : Str} {px tpos pos : Pos} {name : Str} {e : Expr} {Cl dA : Addr} {fs : List (Str × D)} {d : D} {abs : List Str} {mN : Str -> Option Value} (cl : Cls C Cl abs mN) (i : Nat) (y : Ev C r sc ρ own e d)
  (p : P .next ρ (own.set i (dA, .ns (dput fs name d)))) (hx : autoParam (ρ.lookup x = some (.objO Cl dA)) tacR) (hi : autoParam (own[i]? = some (dA, .ns fs)) tacR) (hna : autoParam (name ∈ abs) tacD) (hB : autoParam (lB name) tacN) (lf : autoParam (fs.length <= 1000) tacB) (hd : autoParam ((x == ("__debug__" : Str)) = false) tacD)
  (hs : autoParam (∀ env line, swapsWith e (some (.Attribute (.Name x px) name tpos)) line env = pure false) tacI2) :
  X1 C r sc O ρ own (.Assign [.Attribute (.Name x px) name tpos] e pos) P := by
 constructor; intro A env W h₀ h R G S tk qQ qE qK
 refine plainObj_wpAny_Assign_Attribute ((y.go A env W h₀ O h R (az G) S).use2 fun v h1 tk1 e1 z1 => ?_) (hs _ _)
 have S1 := S.ext e1
 refine ((Ev.name (r := r) hx (by rfl) hd).go A env W h₀ O h1 R (az G) S1).use2 fun v2 h2 tk2 e2 z2 => ?_
 have S2 := S1.ext e2
 refine (setField (A := A) cl S2 hi z2 (.of (z1.ext e2 S.tw)) hna hB lf).use2 fun _ h3 tk3 S3 k3 => ?_
 refine (qK _ h3 tk3 ⟨.next, ρ, _, p, S3, trivial, ?_, fun b q => .inl (fM hi ▸ q)⟩)
 exact ((e1.trans e2).1.mono fun b q => .inl q).trans (k3.mono fun b q => q.elim .inl fun q => .inr (.inr (.inr (q ▸ cJ hi))))
theorem X1.setAttrNew {x : Str} {px tpos pos : Pos} {name : Str} {e : Expr} {Cl dA : Addr} {fs : List (Str × D)} {d : D} {abs : List Str} {mN : Str -> Option Value} (cl : Cls C Cl abs mN) (i : Nat) (y : EvF C r sc ρ own e d)
  (p : ∀ a, P .next ρ ((a, d) :: own.set i (dA, .ns (dput fs name (.own a))))) (hx : autoParam (ρ.lookup x = some (.objO Cl dA)) tacR) (hi : autoParam (own[i]? = some (dA, .ns fs)) tacR) (hna : autoParam (name ∈ abs) tacD) (hB : autoParam (lB name) tacN) (lf : autoParam (fs.length <= 1000) tacB) (hd : autoParam ((x == ("__debug__" : Str)) = false) tacD)
  (hs : autoParam (∀ env line, swapsWith e (some (.Attribute (.Name x px) name tpos)) line env = pure false) tacI2) :
  X1 C r sc O ρ own (.Assign [.Attribute (.Name x px) name tpos] e pos) P := by
 constructor; intro A env W h₀ h R G S tk qQ qE qK
 refine plainObj_wpAny_Assign_Attribute ((y.go A env W h₀ O h R (az G) S).use ?_) (hs _ _)
 rintro v h1 tk1 ⟨a, ev, f, m, e1, z1⟩
 subst ev
 have S1 := S.adopt e1 f z1
 refine ((Ev.name (r := r) hx (by rfl) hd).go A env W h₀ O h1 R (az G) S1).use2 fun v2 h2 tk2 e2 z2 => ?_
 have S2 := S1.ext e2
 refine (setField (A := A) (i := i + 1) cl S2 (by simpa using hi) z2 (d := .own a) rfl hna hB lf).use2 fun _ h3 tk3 S3 k3 => ?_
 refine (qK _ h3 tk3 ⟨.next, ρ, _, p a, S3, trivial, ?_, fun b q => ?_⟩)
 ·have f2 : ∀ b o, h.get? b = some o -> b ≠ a := fun b o eb q => by rw [q, f] at eb; cases eb
  exact ((e1.trans ⟨e2.1, e2.2⟩).1.mono fun b q => .inl q).trans (k3.mono fun b q => q.elim .inl fun q => .inr (.inr (.inr (q ▸ cJ hi))))
 ·rcases List.mem_cons.mp q with q | q
  ·exact .inr (q ▸ f)
  ·exact .inl (fM hi ▸ q)
end
theorem Xc.mono {r : Nat} {sc : Scope} {cd : Value} {O : Str -> Prop} {ρ : Rho} {own : Own} {ss : List Stmt} {P P' : aZ} (y : Xc C r sc cd O ρ own ss P) (k : ∀ f ρ' own', P f ρ' own' -> P' f ρ' own') : Xc C r sc cd O ρ own ss P' := ⟨fun A env W h₀ h R G Gc S =>
 (y.go A env W h₀ h R G Gc S).mono fun f h' q => q.mono k⟩
theorem X.c {r : Nat} {sc : Scope} {cd : Value} {O : Str -> Prop} {ρ : Rho} {own : Own} {ss : List Stmt} {P : aZ} (y : X C r sc O ρ own ss P) : Xc C r sc cd O ρ own ss P := ⟨fun A env W h₀ h R G _ S => y.go A env W h₀ h R G S⟩
inductive nZ (C : Cfg) (W : Addr -> Prop) (own0 : Own) (h : Heap) (P : D -> Own -> Prop) (v : Value) (h' : Heap) : Prop
 | mk (d : D) (own' : Own) (p : P d own') (I : Inv C h') (k : Kp (fun b => C.Tb b ∨ b ∈ own0.map (·.1)) h h') (g : d7 own0 own' h) (nd : (own'.map (·.1)).Nodup) (ow : ∀ p ∈ own', bc C (Wof W own') h' p.1 p.2 /\ ¬ W p.1 /\ cz C p.1) (z : Val C (Wof W own') h' v d) : nZ C W own0 h P v h'
noncomputable def BindOk (C : Cfg) (fd : FuncData) (ns : List Str) : Prop := ∀ (vs : List Value) A s Q E, vs.length = ns.length -> (∀ b o, C.hB.get? b = some o -> s.heap.get? b = some o) -> Q (ns.zip vs) s -> wpAny (md C) A (bindArgs fd ⟨vs, []⟩) Q E s
noncomputable def BindTo (C : Cfg) (fd : FuncData) (us : List Value) (bs : List (Str × Value)) : Prop := ∀ A s Q E, (∀ b o, C.hB.get? b = some o -> s.heap.get? b = some o) -> Q bs s -> wpAny (md C) A (bindArgs fd ⟨us, []⟩) Q E s
theorem BindOk.to {fd : FuncData} {ns : List Str} {vs : List Value} (b : BindOk C fd ns) (l : vs.length = ns.length) : BindTo C fd vs (ns.zip vs) := fun A s Q E k q => b vs A s Q E l k q
theorem Fn.raw {r : Nat} {a : Addr} {o : Obj} {fd : FuncData} {body : List Stmt} {ns : List Str} {ds : List D} {own0 : Own} {us vs : List Value}
  (ho : C.hB.get? a = some o) (hd : o.data = .func fd) (hcd : C.hB.CodeRec fd.code fd.qualname) (hb : fd.body = .stmts body) (hg : fd.globals = mainGlobals) (hbl : fd.builtins = builtinsNs) (hcl : fd.closure = [])
  (hbind : BindTo C fd us (ns.zip vs)) (hn : ns.Nodup) (hl : ns.length = ds.length) (hk : ∀ x ∈ ns, fd.scope.names.lookup x = some .local ∨ fd.scope.names.lookup x = some .cell)
  {A : Around} {W : Addr -> Prop} {h₀ h : Heap} (R : bL (r + 1) A) (I : Inv C h) (tw : ∀ a, C.Tb a -> W a) (wo : WOk C h W) (k0 : ∀ b o, h₀.get? b = some o -> h.get? b = some o)
  (ow : ∀ p ∈ own0, bc C (Wof W own0) h p.1 p.2 /\ ¬ W p.1 /\ cz C p.1 /\ h₀.get? p.1 = Option.none) (nd : (own0.map (·.1)).Nodup) (z : ao C (Wof W own0) h vs ds) {P : Value -> Heap -> Prop}
  (x : ∀ env A' W' h1, bL r A' -> env.scope = fd.scope -> CodeIs C env fd.code -> (∀ b, W b -> W' b) -> (∀ b o, h.get? b = some o -> h1.get? b = some o) -> h.get? env.locals = Option.none -> (∀ n c, env.cells.lookup n = some c -> h.get? c = Option.none) ->
   St C W' h₀ env (aa fd.scope) (ns.zip ds) own0 h1 -> Tri C A' (execs body env) h1 fun f h2 => P (match f with | .ret v => v | _ => .none) h2)
  (hco : autoParam (fd.scope.isCoroutine = false) tacR) (hgen : autoParam (fd.scope.isGenerator = false) tacR) (hkd : autoParam (fd.scope.kind = .function) tacR) : Tri C A (call (.ref a) us) h P := by
 intro tk qQ qE qK
 have hlen : vs.length = ns.length := by rw [z.length, hl]
 have hz : ((ns.zip vs).map (·.1)) = ns := iy _ _ hlen.symm
 refine wpAny_call (call_cells R.lim (I.1 _ _ ho) hd ((C.nolimit).keeps I.1) (hcd.keeps I.1) hb (fun Q E q => hbind _ _ Q E I.1 q) hcl ?_ (fun s₁ IC => ?_) hco hgen hkd)
 ·intro p hp
  have : p.1 ∈ ns := by rw [<- hz]; exact List.mem_map.mpr ⟨p, hp, rfl⟩
  rcases hk p.1 this with q | q
  ·exact .inl q
  ·obtain ⟨c, hc⟩ := gU (n := (sh C h tk).heap.objs.size + 1) q
   exact .inr ⟨q, by rw [hc]; rfl⟩
 ·obtain ⟨h1, tk1, es⟩ := IC.toInCall.same
  subst es
  generalize hL : (sh C h tk).heap.objs.size = L at IC ⊢
  have hL' : h.objs.size = L := hL
  have keep : ∀ b o, h.get? b = some o -> h1.get? b = some o := IC.toInCall.keep
  have ns1 : h1.Ns (callEnvC fd L a).locals _ := IC.toInCall.ns
  let env := callEnvC fd L a
  let W' : Addr -> Prop := fun b => W b ∨ b = env.locals ∨ ∃ n, env.cells.lookup n = some b
  have fL : h.get? env.locals = Option.none := by show h.get? L = _; rw [<- hL']; exact aj h
  have fc : ∀ n c, env.cells.lookup n = some c -> h.get? c = Option.none := fun n c e => by
   have q : L < c := IC.above n c (mem_of_lookup e)
   exact Heap.get?_none_of_le (by omega)
  have back : ∀ b, h.get? b = Option.none -> h₀.get? b = Option.none := fun b e => by
   cases q : h₀.get? b with
   | none => rfl
   | some o => rw [k0 b o q] at e; cases e
  have hw0 : ∀ b o, h.get? b = some o -> W' b -> W b := fun b o e q => by
   rcases q with q | q | ⟨n, q⟩
   ·exact q
   ·rw [q, fL] at e; cases e
   ·rw [fc n b q] at e; cases e
  have hw : ∀ b o, h.get? b = some o -> Wof W' own0 b -> Wof W own0 b := fun b o e q => q.imp (hw0 b o e) id
  have ce : ∀ n c, env.cells.lookup n = some c -> h1.IsCell c (bindC env.kindOf (ns.zip vs) (fun _ => Option.none) n) := fun n c e => IC.cell n c e
  have S : St C W' h₀ env (aa fd.scope) (ns.zip ds) own0 h1 := by
   refine ⟨I.keeps keep, fun b o e _ => keep b o (k0 b o e), hkd, hg, hbl, ⟨_, ns1⟩, .inr (.inl rfl), ⟨I.fresh_of_none fL, back _ fL⟩, fun y hy => ?_, fun y c l => ⟨by obtain ⟨o, e, _⟩ := ce y c l; exact bw (e), (I.keeps keep).cell_notTb (ce y c l)⟩, fun y y' c e1 e2 => ?_, fun b q => .inl (tw b q), (wo.keeps keep).or fun b q => ?_, fun y e hy => ?_, fun p hp => ?_, nd⟩
   ·obtain ⟨c, hc⟩ := gU (n := L + 1) hy
    exact ⟨c, _, hc, ce y c hc, .inr (.inr ⟨y, hc⟩), I.fresh_of_none (fc y c hc), back _ (fc y c hc)⟩
   ·exact name_of_addr IC.apart (mem_of_lookup e1) (mem_of_lookup e2)
   ·rcases q with q | ⟨n, q⟩
    ·exact q ▸ .ns ns1
    ·exact .cell (ce n b q)
   ·obtain ⟨v, hv, zv⟩ := zip_val z hl hy
    have hy' : y ∈ ns := by rw [<- hz]; exact List.mem_map.mpr ⟨_, hv, rfl⟩
    refine ⟨v, ?_, .of (zv.kp (S := fun _ => False) (.of_all keep) (fun _ f => f.elim) hw)⟩
    rcases hk y hy' with q | q
    ·exact .inl ⟨q, _, ns1, bindL_get q (by rw [hz]; exact hn) hv⟩
    ·obtain ⟨c, hc⟩ := gU (n := L + 1) q
     exact .inr ⟨.inl q, c, hc, by rw [<- bindC_get (k := env.kindOf) (m := fun _ => Option.none) q (by rw [hz]; exact hn) hv]; exact ce y c hc⟩
   ·obtain ⟨o1, n1, f1, g1⟩ := ow p hp
    refine ⟨o1.kp2 (S := fun _ => False) (.of_all keep) (fun _ f => f.elim) hw (fun f => f), fun q => ?_, f1, g1⟩
    obtain ⟨o2, e2, _⟩ := o1.some
    exact n1 (hw0 _ _ e2 q)
  exact (x env (A.deeper env) W' h1 R.deeper rfl ⟨rfl, _, hcd, rfl⟩ (fun _ q => .inl q) keep fL fc S).use fun f h2 tk2 p => qK _ h2 tk2 p
theorem Fn.run {r : Nat} {a : Addr} {o : Obj} {fd : FuncData} {body : List Stmt} {ns : List Str} {ds : List D} {P : D -> Own -> Prop} {own0 : Own} {us vs : List Value}
  (ho : C.hB.get? a = some o) (hd : o.data = .func fd) (hcd : C.hB.CodeRec fd.code fd.qualname) (hb : fd.body = .stmts body) (hg : fd.globals = mainGlobals) (hbl : fd.builtins = builtinsNs) (hcl : fd.closure = [])
  (hbind : BindTo C fd us (ns.zip vs)) (hn : ns.Nodup) (hl : ns.length = ds.length) (hk : ∀ x ∈ ns, fd.scope.names.lookup x = some .local ∨ fd.scope.names.lookup x = some .cell)
  (x : Xc C r fd.scope fd.code (aa fd.scope) (ns.zip ds) own0 body fun f _ own' => (∃ d, f = .ret d /\ P d own') ∨ (f = .next /\ P .none own'))
  {A : Around} {W : Addr -> Prop} {h₀ h : Heap} (R : bL (r + 1) A) (I : Inv C h) (tw : ∀ a, C.Tb a -> W a) (wo : WOk C h W) (k0 : ∀ b o, h₀.get? b = some o -> h.get? b = some o)
  (ow : ∀ p ∈ own0, bc C (Wof W own0) h p.1 p.2 /\ ¬ W p.1 /\ cz C p.1 /\ h₀.get? p.1 = Option.none) (nd : (own0.map (·.1)).Nodup) (z : ao C (Wof W own0) h vs ds)
  (hco : autoParam (fd.scope.isCoroutine = false) tacR) (hgen : autoParam (fd.scope.isGenerator = false) tacR) (hkd : autoParam (fd.scope.kind = .function) tacR) : Tri C A (call (.ref a) us) h fun v h' => nZ C W own0 h P v h' := by
 refine Fn.raw ho hd hcd hb hg hbl hcl hbind hn hl hk R I tw wo k0 ow nd z (fun env A' W' h1 R' es ci wW keep fL fc S => ?_) hco hgen hkd
 refine (x.go A' env W' h₀ h1 R' es ci S).mono ?_
 rintro f h2 ⟨fd', ρ', own', p, S2, fi, k2, g2⟩
 have kp : Kp (fun b => C.Tb b ∨ b ∈ own0.map (·.1)) h h2 := fun b o e n => k2 b o (keep b o e) fun q => by
  rcases q with q | q | ⟨y, _, q⟩ | q
  ·exact n (.inl q)
  ·rw [q, fL] at e; cases e
  ·rw [fc y b q] at e; cases e
  ·exact n (.inr q)
 have g0 : d7 own0 own' h := fun b hb => (g2 b hb).imp id fun q => by
  cases e : h.get? b with
  | none => rfl
  | some o => rw [keep b o e] at q; cases q
 have sub : ∀ b, Wof W own' b -> Wof W' own' b := fun b q => q.imp (wW b) id
 have ow' : ∀ p ∈ own', bc C (Wof W own') h2 p.1 p.2 /\ ¬ W p.1 /\ cz C p.1 := fun p hp => by
  obtain ⟨o1, n1, f1, _⟩ := S2.owns p hp
  exact ⟨o1.kp2 (S := fun _ => False) (.refl _) (fun _ f => f.elim) (fun b _ _ q => sub b q) (fun f => f), fun q => n1 (wW _ q), f1⟩
 rcases p with ⟨d, rfl, p⟩ | ⟨rfl, p⟩
 ·cases f <;> first | exact fi.elim | skip
  exact ⟨d, own', p, S2.inv, kp, g0, S2.nodup, ow', Val.kp (S := fun _ => False) (.refl _) (fun _ f => f.elim) (fun b _ _ q => sub b q) fi⟩
 ·cases f <;> first | exact fi.elim | skip
  exact ⟨.none, own', p, S2.inv, kp, g0, S2.nodup, ow', .none⟩
inductive eE (own : Own) : List (Str × D) -> List (Str × D) -> Prop
 | nil : eE own [] []
 | val {x : Str} {d : D} {fs gs : List (Str × D)} : bU d -> eE own fs gs -> eE own ((x, d) :: fs) ((x, d) :: gs)
 | own {x : Str} {b : Addr} {d : D} {fs gs : List (Str × D)} : (b, d) ∈ own -> eV d -> eE own fs gs -> eE own ((x, .own b) :: fs) ((x, d) :: gs)
theorem eE.vals {W : Addr -> Prop} {own : Own} {h : Heap} {m : Str -> Option Value} (ow : ∀ p ∈ own, bc C (Wof W own) h p.1 p.2 /\ ¬ W p.1) {fs gs : List (Str × D)} (r : eE own fs gs) : eO C (Wof W own) h m fs -> dD C W h m gs := by
 refine eE.rec (motive := fun fs gs _ => eO C (Wof W own) h m fs -> dD C W h m gs) (fun _ => .nil) (fun n _ ih y => ?_) (fun mm f _ ih y => ?_) r
 ·obtain ⟨⟨v, e, z⟩, y⟩ := y
  exact .cons e ((z.val n).kp (S := fun _ => False) (.refl _) (fun _ f => f.elim) fun _ _ _ q => .inl q) (ih y)
 ·obtain ⟨⟨v, e, z⟩, y⟩ := y
  obtain ⟨o1, n1⟩ := ow _ mm
  have q := (o1.kp2 (S := fun _ => False) (W' := W) (.refl _) (fun _ f => f.elim) (fun _ _ _ q => .inl q) (fun f => f)).frozen f n1
  have z : v = .ref _ := z
  subst z
  exact .cons e q (ih y)
theorem eE.lookup {own : Own} {x : Str} {fs gs : List (Str × D)} (r : eE own fs gs) : gs.lookup x = Option.none -> fs.lookup x = Option.none := by
 have key : ∀ {y : Str} {d e : D} {fs gs : List (Str × D)}, (gs.lookup x = Option.none -> fs.lookup x = Option.none) -> List.lookup x ((y, d) :: gs) = Option.none -> List.lookup x ((y, e) :: fs) = Option.none := fun {y d e fs gs} ih q => by
  rw [ak] at q ⊢
  by_cases w : x = y
  ·rw [if_pos w] at q; cases q
  ·rw [if_neg w] at q ⊢; exact ih q
 exact eE.rec (motive := fun fs gs _ => gs.lookup x = Option.none -> fs.lookup x = Option.none) (fun _ => rfl) (fun _ _ ih => key ih) (fun _ _ _ ih => key ih) r
theorem mH {W : Addr -> Prop} {own : Own} {h : Heap} {v : Value} {Cl dA : Addr} {fs gs : List (Str × D)} (z : Val C (Wof W own) h v (.objO Cl dA)) (m : (dA, .ns fs) ∈ own) (ow : ∀ p ∈ own, bc C (Wof W own) h p.1 p.2 /\ ¬ W p.1) (r : eE own fs gs) : Val C W h v (.obj Cl gs) := by
 refine z.objOE fun a oa => ?_
 obtain ⟨e, c1, c2, c3, c4, n1⟩ := oa
 obtain ⟨⟨mm, n2, vt, ex⟩, nW⟩ := ow _ m
 exact .obj (.mk e c1 c2 c3 c4 fun q => n1 (.inl q)) n2 nW (r.vals ow vt) fun x q => ex x (r.lookup q)
inductive NewOut (C : Cfg) (W : Addr -> Prop) (h : Heap) (Cl : Addr) (Q : Addr -> Own -> Prop) (v : Value) (h' : Heap) : Prop
 | mk (dA : Addr) (own' : Own) (q : Q dA own') (x : Ext C h h') (nw : ∀ p ∈ own', h.get? p.1 = Option.none) (nd : (own'.map (·.1)).Nodup) (ow : ∀ p ∈ own', bc C (Wof W own') h' p.1 p.2 /\ ¬ W p.1) (z : Val C (Wof W own') h' v (.objO Cl dA)) : NewOut C W h Cl Q v h'
noncomputable def lE (C : Cfg) (r : Nat) (Cl : Addr) (ds : List D) (Q : Addr -> Own -> Prop) : Prop :=
 ∀ A W h vs, bL r A -> Inv C h -> (∀ a, C.Tb a -> W a) -> WOk C h W -> ao C W h vs ds -> Tri C A (call (.ref Cl) vs) h (NewOut C W h Cl Q)
theorem bL.under {r : Nat} {A : Around} {Cl : Addr} {vs : List Value} (R : bL (r + 1) A) : bL r (A.under (.builtin "type.__call__" ⟨.ref Cl :: vs, []⟩)) := by
 refine ⟨R.1, ?_, ?_, R.2.2.2⟩
 ·have := R.2.1; show A.depth + 1 + _ <= _; lia
 ·have := R.2.2.1
  show A.units + 1 + _ <= _
  lia
theorem lE.of {r : Nat} {Cl fI : Addr} {oI : Obj} {abs : List Str} {mN : Str -> Option Value} {fd : FuncData} {body : List Stmt} {ns : List Str} {ds : List D} {Q : Addr -> Own -> Prop} {me : Str} (cl : Cls C Cl abs mN) (hi : mN "__init__" = some (.ref fI))
  (ho : C.hB.get? fI = some oI) (hfc : oI.cls = .type "function") (hd : oI.data = .func fd) (hcd : C.hB.CodeRec fd.code fd.qualname) (hb : fd.body = .stmts body) (hg : fd.globals = mainGlobals) (hbl : fd.builtins = builtinsNs) (hcl : fd.closure = [])
  (hbind : BindOk C fd (me :: ns)) (hn : (me :: ns).Nodup) (hl : ns.length = ds.length) (hk : ∀ x ∈ me :: ns, fd.scope.names.lookup x = some .local ∨ fd.scope.names.lookup x = some .cell)
  (x : ∀ dA, Xc C r fd.scope fd.code (aa fd.scope) ((me, .objO Cl dA) :: ns.zip ds) [(dA, .ns [])] body fun f _ own' => f = .next /\ Q dA own')
  (hco : autoParam (fd.scope.isCoroutine = false) tacR) (hgen : autoParam (fd.scope.isGenerator = false) tacR) (hkd : autoParam (fd.scope.kind = .function) tacR) : lE C (r + 2) Cl ds Q := by
 intro A W h vs R I tw wok z tk qQ qE qK
 have wo := wok.old
 obtain ⟨N, X⟩ := cl.at_
 have X := X.keeps I.1
 refine clsE X fun nm q bs sn sub col dd k0 k1 k2 k3 k5 hC => ?_
 refine wpAny_call_obj_init PySem.F.objNew hC X.ns hi (I.1 _ _ ho) hfc fun h1 xA dA M => ?_
 obtain ⟨ob, e1, e2, e3, e4⟩ := M.inst
 have e5 := M.dict ob e1
 obtain ⟨d', e6, e7, e8⟩ : ∃ d', ob.dict = some d' /\ d' ≠ xA /\ h1.Ns1 d' fun _ => Option.none := by
  rcases e4 with ⟨q, _⟩ | q
  ·rw [e5] at q; cases q
  ·exact q
 rw [e5] at e6; cases e6
 have I1 : Inv C h1 := I.keeps M.keeps
 have fd' : cz C dA := I.fresh_of_none M.newD
 have hw : ∀ b o, h.get? b = some o -> Wof W [(dA, .ns [])] b -> W b := fun b o e q => q.elim id fun q => by
  have : b = dA := by simpa using q
  rw [this, M.newD] at e; cases e
 have zz : ao C (Wof W [(dA, .ns [])]) h1 (.ref xA :: vs) (.objO Cl dA :: ds) := by
  refine .cons (.objO (.mk e1 e2 e3 e5 e7 fun q => ?_)) (z.kp (S := fun _ => False) (.of_all M.keeps) (fun _ f => f.elim) hw)
  rcases q with q | q
  ·exact wo _ q M.newX
  ·have : xA = dA := by simpa using q
   exact e7 this.symm
 refine (Fn.run (r := r) (P := fun d own' => d = .none /\ Q dA own') (own0 := [(dA, .ns [])]) (ds := .objO Cl dA :: ds) ho hd hcd hb hg hbl hcl (hbind.to (by rw [zz.length, List.length_cons, List.length_cons, hl])) hn (by simp [hl]) hk ((x dA).mono (by rintro f _ own' ⟨a, b⟩; exact .inr ⟨a, rfl, b⟩))
  (bL.under R) I1 tw (wok.keeps M.keeps) M.keeps (fun p hp => ?_) (by simp) zz hco hgen hkd).use ?_
 ·rw [List.mem_singleton.mp hp]
  exact ⟨⟨_, e8, trivial, fun _ _ => rfl⟩, fun q => wo _ q M.newD, fd', M.newD⟩
 ·rintro v h2 tk2 ⟨d, own', ⟨hd', Qq⟩, I2, k2, g2, nd2, ow2, zv⟩
  subst hd'
  cases zv
  have kx : Kp C.Tb h h2 := fun b o e n => k2 b o (M.keeps b o e) fun q => by
   rcases q with q | q
   ·exact n q
   ·have : b = dA := by simpa using q
    rw [this, M.newD] at e; cases e
  have ext : Ext C h h2 := ⟨kx, I2⟩
  have nw : ∀ p ∈ own', h.get? p.1 = Option.none := fun p hp => by
   rcases g2 p.1 (List.mem_map.mpr ⟨p, hp, rfl⟩) with q | q
   ·have : p.1 = dA := by simpa using q
    rw [this]; exact M.newD
   ·cases e : h.get? p.1 with
    | none => rfl
    | some o => rw [M.keeps _ o e] at q; cases q
  have xT : ¬ C.Tb xA := fun q => by
   obtain ⟨vs', e⟩ := C.tabHas h1 I1.2 xA q
   rw [e1] at e; cases e; cases e2
  refine ⟨rfl, qK _ h2 tk2 ⟨dA, own', Qq, ext, nw, nd2, fun p hp => ⟨(ow2 p hp).1, (ow2 p hp).2.1⟩, .objO (.mk (k2 _ _ e1 fun q => q.elim xT fun q => ?_) e2 e3 e5 e7 fun q => ?_)⟩⟩
  ·have : xA = dA := by simpa using q
   exact e7 this.symm
  ·rcases q with q | q
   ·exact wo _ q M.newX
   ·rcases g2 xA q with w | w
    ·have : xA = dA := by simpa using w
     exact e7 this.symm
    ·rw [e1] at w; cases w
theorem Val.noOwn {W : Addr -> Prop} {own : Own} {h : Heap} {v : Value} {d : D} (z : Val C (Wof W own) h v d) : Val C W h v d := z.kp (S := fun _ => False) (.refl _) (fun _ f => f.elim) fun _ _ _ q => .inl q
theorem lE.fn {r : Nat} {Cl : Addr} {ds : List D} {gs : List (Str × D)} (x : lE C r Cl ds fun dA own' => ∃ fs, (dA, .ns fs) ∈ own' /\ eE own' fs gs) : Fn C r (.ref Cl) ds (.obj Cl gs) := by
 intro A W h vs R I tw wo z
 refine (x A W h vs R I tw wo z).mono (by rintro v h' ⟨dA, own', ⟨fs, m, q⟩, e, _, _, ow, zv⟩; exact ⟨e, mH zv m ow q⟩)
noncomputable def parts (s : Stmt) : Arguments × List Stmt × Scope := ((sv s).1, (sv s).2.1, (sv s).2.2.2.1)
inductive cY (C : Cfg) (a : Addr) (s : Stmt) (cd : Value) : Prop
 | mk (o : Obj) (fd : FuncData) (ho : C.hB.get? a = some o) (hc : o.cls = .type "function") (hd : o.data = .func fd) (hr : C.hB.CodeRec fd.code fd.qualname) (e1 : fd.code = cd) (e2 : fd.params = (parts s).1) (e3 : fd.body = .stmts (parts s).2.1) (e4 : fd.scope = (parts s).2.2) (e5 : fd.globals = mainGlobals) (e6 : fd.builtins = builtinsNs)
  (e7 : fd.closure = []) (e8 : fd.defaults = .none ∨ ∃ t o its n, fd.defaults = .ref t /\ C.hB.get? t = some o /\ o.data = .seq its n) : cY C a s cd
noncomputable def Plain (s : Stmt) (ns : List Str) : Prop := ∃ as ds, (parts s).1 = { posonlyargs := [], args := as, vararg := none, kwonlyargs := [], kw_defaults := [], kwarg := none, defaults := ds } /\ as.map (·.arg) = ns
noncomputable def nJ (sc : Scope) : Prop := sc.isCoroutine = false /\ sc.isGenerator = false /\ sc.kind = .function
noncomputable def isOwnName (o : Option NameKind) : Bool := o == some .local || o == some .cell
noncomputable def gM (sc : Scope) (ns : List Str) : Prop := ns.all (fun x => isOwnName (sc.names.lookup x)) = true
theorem gM.get {sc : Scope} {ns : List Str} (h : gM sc ns) : ∀ x ∈ ns, sc.names.lookup x = some .local ∨ sc.names.lookup x = some .cell := fun x hx => (Bool.or_eq_true_iff.mp (List.all_eq_true.mp h x hx)).imp eq_of_beq eq_of_beq
theorem jk {fd : FuncData} {s : Stmt} {ns : List Str} (e : fd.params = (parts s).1) (p : Plain s ns) (nd : ns.Nodup) (d : fd.defaults = .none ∨ ∃ t o its n, fd.defaults = .ref t /\ C.hB.get? t = some o /\ o.data = .seq its n) : BindOk C fd ns := by
 intro vs A st Q E hl hk q
 obtain ⟨as, ds, e1, e2⟩ := p
 subst e2
 rcases d with d | ⟨t, o, its, n, d, ho, hd⟩
 ·refine lg (e.trans e1) none (fun Q q => by rw [d]; exact wpAny_pure q) vs (by simpa using hl) nd q
 ·refine lg (e.trans e1) (some its) (fun Q q => by rw [d]; exact wpAny_seqItems (hk _ _ ho) hd q) vs (by simpa using hl) nd q
theorem cY.fn {r : Nat} {a : Addr} {s : Stmt} {cd : Value} {ns : List Str} {ds : List D} {d : D} (D : cY C a s cd) (x : Xc C r (parts s).2.2 cd (aa (parts s).2.2) (ns.zip ds) [] (parts s).2.1 fun f _ _ => f = .ret d ∨ (f = .next /\ d = .none))
  (p : autoParam (Plain s ns) tacE) (nd : autoParam (ns.Nodup) tacD) (hl : autoParam (ns.length = ds.length) tacR) (os : autoParam (nJ (parts s).2.2) tacT) (on : autoParam (gM (parts s).2.2 ns) tacR) : Fn C (r + 1) (.ref a) ds d := by
 obtain ⟨o, fd, ho, hc, hd, hcd, e1, e2, e3, e4, e5, e6, e7, e8⟩ := D
 subst e1
 rw [<- e4] at x os on
 intro A W h vs R I tw wo z
 refine (Fn.run (P := fun d' _ => d' = d) (own0 := []) ho hd hcd e3 e5 e6 e7 ((jk e2 p nd e8).to (z.length.trans hl.symm)) nd hl on.get (x.mono fun f _ own' q => ?_)
  R I tw wo (h₀ := h) (fun _ _ e => e) (fun p hp => cR hp) .nil (z.kp (S := fun _ => False) (.refl _) (fun _ f => f.elim) fun _ _ _ q => q.elim id fun q => cR q) os.1 os.2.1 os.2.2).mono ?_
 ·rcases q with q | ⟨q, w⟩
  ·exact .inl ⟨_, q, rfl⟩
  ·exact .inr ⟨q, w.symm⟩
 ·rintro v h' ⟨d', own', e, I', k, g, nd, ow, zv⟩
  subst e
  exact ⟨⟨fun b o e n => k b o e fun q => q.elim n fun q => cR q, I'⟩, zv.noOwn⟩
theorem cY.fnNew {r : Nat} {a : Addr} {s : Stmt} {cd : Value} {ns : List Str} {ds : List D} {Cl : Addr} {gs : List (Str × D)} (D : cY C a s cd)
  (x : Xc C r (parts s).2.2 cd (aa (parts s).2.2) (ns.zip ds) [] (parts s).2.1 fun f _ own' => ∃ dA fs, f = .ret (.objO Cl dA) /\ (dA, .ns fs) ∈ own' /\ eE own' fs gs)
  (p : autoParam (Plain s ns) tacE) (nd : autoParam (ns.Nodup) tacD) (hl : autoParam (ns.length = ds.length) tacR) (os : autoParam (nJ (parts s).2.2) tacT) (on : autoParam (gM (parts s).2.2 ns) tacR) : Fn C (r + 1) (.ref a) ds (.obj Cl gs) := by
 obtain ⟨o, fd, ho, hc, hd, hcd, e1, e2, e3, e4, e5, e6, e7, e8⟩ := D
 subst e1
 rw [<- e4] at x os on
 intro A W h vs R I tw wo z
 refine (Fn.run (P := fun d own' => ∃ dA fs, d = .objO Cl dA /\ (dA, .ns fs) ∈ own' /\ eE own' fs gs) (own0 := []) ho hd hcd e3 e5 e6 e7 ((jk e2 p nd e8).to (z.length.trans hl.symm)) nd hl on.get (x.mono (by rintro f _ own' ⟨dA, fs, e, m, q⟩; exact .inl ⟨_, e, dA, fs, rfl, m, q⟩))
  R I tw wo (h₀ := h) (fun _ _ e => e) (fun p hp => cR hp) .nil (z.kp (S := fun _ => False) (.refl _) (fun _ f => f.elim) fun _ _ _ q => q.elim id fun q => cR q) os.1 os.2.1 os.2.2).mono ?_
 rintro v h' ⟨d, own', ⟨dA, fs, e, m, q⟩, I', k, g, nd, ow, zv⟩
 subst e
 exact ⟨⟨fun b o e n => k b o e fun q => q.elim n fun q => cR q, I'⟩, mH zv m (fun p hp => ⟨(ow p hp).1, (ow p hp).2.1⟩) q⟩
theorem cY.new {r : Nat} {Cl a : Addr} {s : Stmt} {cd : Value} {abs : List Str} {mN : Str -> Option Value} {ns : List Str} {ds : List D} {Q : Addr -> Own -> Prop} {me : Str} (cl : Cls C Cl abs mN) (hi : mN "__init__" = some (.ref a)) (D : cY C a s cd)
  (x : ∀ dA, Xc C r (parts s).2.2 cd (aa (parts s).2.2) ((me, .objO Cl dA) :: ns.zip ds) [(dA, .ns [])] (parts s).2.1 fun f _ own' => f = .next /\ Q dA own')
  (p : autoParam (Plain s (me :: ns)) tacE) (nd : autoParam ((me :: ns).Nodup) tacD) (hl : autoParam (ns.length = ds.length) tacR) (os : autoParam (nJ (parts s).2.2) tacT) (on : autoParam (gM (parts s).2.2 (me :: ns)) tacR) : lE C (r + 2) Cl ds Q := by
 obtain ⟨o, fd, ho, hc, hd, hcd, e1, e2, e3, e4, e5, e6, e7, e8⟩ := D
 subst e1
 rw [<- e4] at x os on
 exact lE.of cl hi ho hc hd hcd e3 e5 e6 e7 (jk e2 p nd e8) nd hl on.get x os.1 os.2.1 os.2.2
section
variable {r : Nat} {sc : Scope} {O : Str -> Prop} {ρ : Rho} {own : Own} {P : aZ}
noncomputable def m7 (C : Cfg) (x : Str) (Cl : Addr) : Prop := C.mg x = some (.ref Cl)
theorem St.adopts {W : Addr -> Prop} {h₀ h h' : Heap} {env : Env} {O : Str -> Prop} {new : Own} (S : St C W h₀ env O ρ own h) (x : Ext C h h') (f : ∀ p ∈ new, h.get? p.1 = Option.none) (nd : (new.map (·.1)).Nodup)
  (o : ∀ p ∈ new, bc C (Wof (Wof W own) new) h' p.1 p.2) : St C W h₀ env O ρ (new ++ own) h' := by
 have S' := S.ext x
 have eq : ∀ b, Wof W (new ++ own) b ↔ Wof (Wof W own) new b := fun b => by
  unfold Wof
  rw [List.map_append, List.mem_append]
  constructor
  ·rintro (q | q | q)
   ·exact .inl (.inl q)
   ·exact .inr q
   ·exact .inl (.inr q)
  ·rintro ((q | q) | q)
   ·exact .inl q
   ·exact .inr (.inr q)
   ·exact .inr (.inl q)
 have hk : ∀ b o, h.get? b = some o -> Wof W (new ++ own) b -> Wof W own b := fun b o e q => ((eq b).mp q).elim id fun q => by
  obtain ⟨p, hp, w⟩ := List.mem_map.mp q
  rw [<- w, f p hp] at e; cases e
 refine { S' with bound := fun y e hy => ?_, owns := fun p hp => ?_, nodup := ?_ }
 ·obtain ⟨v, b, z⟩ := S.bound y e hy
  refine ⟨v, b.kp x.1 (fun m n => S.inv.ns_notTb n) (fun c v e => S.inv.cell_notTb e), (z.kp x.1 S.tw hk fun b q => q).any⟩
 ·rcases List.mem_append.mp hp with hp | hp
  ·have fp := f p hp
   exact ⟨(o p hp).kp2 (.refl _) (S := fun _ => False) (fun _ f => f.elim) (fun b _ _ q => (eq b).mp q) (fun f => f), fun q => S.wOld p.1 q fp, S.inv.fresh_of_none fp, S.fresh0 fp⟩
  ·obtain ⟨o1, w1, r1⟩ := S.owns p hp
   exact ⟨o1.kp2 x.1 S.tw hk (fun q => w1 (S.tbW _ q)), w1, r1⟩
 ·rw [List.map_append]
  refine List.nodup_append.mpr ⟨nd, S.nodup, fun a ha b hb q => ?_⟩
  subst q
  obtain ⟨p, hp, w⟩ := List.mem_map.mp ha
  exact S.exists_own hb (w ▸ f p hp)
theorem kY {A : Around} {env : Env} {pos : Pos} {es : List Expr} {Cl N : Addr} {mN : Str -> Option Value} {h : Heap} {tk : Tok} {Q : Value -> Shared -> Prop} {E : Value -> Shared -> Prop} (X : ClsAt C.hB Cl N mN) (I : ∀ b o, C.hB.get? b = some o -> h.get? b = some o)
  (x : wpAny (md C) A (spliced (backTo pos (starEach es env))) (fun vs s₁ => vs.length = es.length /\ (∀ b o, C.hB.get? b = some o -> s₁.heap.get? b = some o) /\ wpAny (md C) A (call (.ref Cl) vs) Q E s₁) E (sh C h tk)) (n : es.all notStar = true) :
  wpAny (md C) A (callWith pos (.ref Cl) [] (backTo pos (starEach es env)) []) Q E (sh C h tk) := by
 cases es with
 | nil =>
  refine callWith_clsA (args := []) X rfl ?_
  refine aU (es := []) (env := env) (pos := pos) rfl (wpAny_mono x (fun vs s₁ h₁ => ?_) fun _ _ e => e)
  have : vs = [] := List.eq_nil_of_length_eq_zero h₁.1
  subst this
  exact ⟨rfl, h₁.2⟩
 | cons e es =>
  simp only [List.all_cons, Bool.and_eq_true] at n
  have q : (backTo pos (starEach es env)).any (·.1) = false := bI pos env es n.2
  exact callWith_cls X (wpAny_mono x (fun vs s₁ h₁ => h₁.2) fun _ _ e => e) (aJ e es env n.1) q
theorem Ev.new {x : Str} {Cl : Addr} {p pos : Pos} {es : List Expr} {ds : List D} {d : D} {abs : List Str} {mN : Str -> Option Value} (g : m7 C x Cl) (cl : Cls C Cl abs mN) (y : EvL C r sc ρ own es ds) (f : Fn C r (.ref Cl) ds d)
  (hx : autoParam (sc.names.lookup x = some .globalImplicit) tacR) (n : autoParam (es.all notStar = true) tacR) (ln : autoParam (ds.length = es.length) tacR) (hd : autoParam ((x == ("__debug__" : Str)) = false) tacD) : Ev C r sc ρ own (.Call (.Name x p) es [] pos) d := by
 constructor; intro A env W h₀ O h R G S tk qQ qE qK
 refine wpAny_Call_NameR ((Ev.global G S hx g hd).use2 fun v h1 tk1 e1 e2 => ?_)
 subst e1 e2
 obtain ⟨N, X⟩ := cl.at_
 refine kY X S.inv.1 ((y.go A env W h₀ O h1 pos R G S).use2 fun vs h2 tk2 x2 z2 => ?_) n
 have S2 := S.ext x2
 exact ⟨z2.length.trans ln, S2.inv.1, (f A (Wof W own) h2 vs R S2.inv S2.tw S2.wok' z2).use2 fun u h3 tk3 x3 z3 => (qK _ h3 tk3 ⟨x2.trans x3, z3⟩)⟩
theorem X1.assignNew {y x : Str} {Cl : Addr} {py p epos pos : Pos} {es : List Expr} {ds : List D} {Q : Addr -> Own -> Prop} {abs : List Str} {mN : Str -> Option Value} (g : m7 C x Cl) (cl : Cls C Cl abs mN) (a : EvL C r sc ρ own es ds) (f : lE C r Cl ds Q)
  (k : Sto sc O y) (pp : ∀ dA new, Q dA new -> P .next ((y, .objO Cl dA) :: ρ) (new ++ own)) (hx : autoParam (sc.names.lookup x = some .globalImplicit) tacR)
  (n : autoParam (es.all notStar = true) tacR) (ln : autoParam (ds.length = es.length) tacR) (hd : autoParam ((x == ("__debug__" : Str)) = false) tacD)
  (h1 : autoParam (∀ env line, env.scope = sc -> swapsWithSole [.Name y py] (.Call (.Name x p) es [] epos) line env = pure false) tacI3) : X1 C r sc O ρ own (.Assign [.Name y py] (.Call (.Name x p) es [] epos) pos) P := by
 constructor; intro A env W h₀ h R G S tk qQ qE qK
 refine wpAny_Assign_stores ?_ (h1 env _ G) rfl
 refine wpAny_Call_NameR ((Ev.global (az G) S hx g hd).use2 fun v h1 tk1 e1 e2 => ?_)
 subst e1 e2
 obtain ⟨N, X⟩ := cl.at_
 refine kY X S.inv.1 ((a.go A env W h₀ O h1 epos R (az G) S).use2 fun vs h2 tk2 x2 z2 => ?_) n
 have S2 := S.ext x2
 refine ⟨z2.length.trans ln, S2.inv.1, (f A (Wof W own) h2 vs R S2.inv S2.tw S2.wok' z2).use ?_⟩
 rintro u h3 tk3 ⟨dA, new, q, x3, nw, nd, ow, zv⟩
 have S3 := S2.adopts x3 nw nd fun p hp => (ow p hp).1
 have zv' : Val C (Wof W (new ++ own)) h3 u (.objO Cl dA) := zv.kp (S := fun _ => False) (.refl _) (fun _ f => f.elim) fun b _ _ q => by
  unfold Wof at q ⊢
  rw [List.map_append, List.mem_append] at q
  rcases q with q | q | q
  ·exact .inl (.inl q)
  ·exact .inr q
  ·exact .inl (.inr q)
 refine ((Asg.name (r := r) (d := .objO Cl dA) k).go A env W h₀ ρ _ h3 u R (bQ G) S3 (.of zv')).use2 fun _ h4 tk4 S4 k4 =>
  (qK _ h4 tk4 ⟨.next, _, _, pp dA new q, S4, trivial, ((x2.trans x3).1.mono fun _ q => .inl q).trans (k4.mono fun _ q => aN.mut q), fun b q => ?_⟩)
 rw [List.map_append] at q
 rcases List.mem_append.mp q with q | q
 ·obtain ⟨p, hp, w⟩ := List.mem_map.mp q
  exact .inr (x2.none_back (w ▸ nw p hp))
 ·exact .inl q
structure Meth (C : Cfg) (Cl : Addr) (mN : Str -> Option Value) (name : Str) (f : Addr) : Prop where
 at_ : mN name = some (.ref f)
 fn : ∃ o fd, C.hB.get? f = some o /\ o.cls = .type "function" /\ o.data = .func fd
 top : ∃ y, typeLookup (.type "object") name = pure y
theorem Ev.callM {o : Expr} {name : Str} {apos pos : Pos} {es : List Expr} {Cl f : Addr} {fs : List (Str × D)} {ds : List D} {d : D} {abs : List Str} {mN : Str -> Option Value} (cl : Cls C Cl abs mN) (m : Meth C Cl mN name f) (x : Ev C r sc ρ own o (.obj Cl fs)) (y : EvL C r sc ρ own es ds)
  (fn : Fn C r (.ref f) (.obj Cl fs :: ds) d) (hsh : autoParam (fs.lookup name = Option.none) tacR) (n : autoParam (es.all notStar = true) tacR)
  (hb : autoParam (∀ env, attributeBase o name env (eval o env) = eval o env) tacI1) (hl : autoParam (decide (es.length + 0 + 0 < 30) = true) tacR) (hp : autoParam ((apos.endLine == pos.line) = true) tacR) :
  Ev C r sc ρ own (.Call (.Attribute o name apos) es [] pos) d := by
 constructor; intro A env W h₀ O h R G S tk qQ qE qK
 rw [arm_eval_Call, hb]
 refine wpAny_bind ((x.go A env W h₀ O h R G S).use2 fun v h1 tk1 e1 z1 => ?_)
 have S1 := S.ext e1
 refine wpAny_bind (wpAny_standAt ?_)
 have hform : methodCallForm (es.length + ([] : List Keyword).length) (backTo pos (starEach es env)) (backToKw pos (keywordEach [] env)) = true := by
  have h1 : ((backTo pos (starEach es env)).all fun x => !x.fst) = true := by
   have := bI pos env es n
   rw [List.any_eq_false] at this
   rw [List.all_eq_true]
   intro q hq
   have := this q hq
   simpa using this
  show ((backTo pos (starEach es env)).all (fun x => !x.1) && true && decide (es.length + 0 + 0 < 30)) = true
  rw [h1, hl]; rfl
 have hpos : methodCallPos true o env apos pos = pure pos := by unfold methodCallPos; simp [hp]
 unfold methodCall
 rw [hform]
 obtain ⟨N, X⟩ := cl.at_
 have X := X.keeps S1.inv.1
 refine z1.objE fun a dA mm oa c5 n2 rr ex => clsE X fun nm q bs sn sub col dd k0 k1 k2 k3 k5 hC => ?_
 have oa' := oa
 obtain @⟨ob, e, c1, c2, c3, c4, n1⟩ := oa'
 ·obtain ⟨of, fd, ho, hfc, hdat⟩ := m.fn
  obtain ⟨yy, hB⟩ := m.top
  refine wpAny_bind (wpAny_holding (method_of hC X.ns cl.ga cl.gh m.at_ (S1.inv.1 _ _ ho) hfc hB ⟨ob, e, c1, c2, .inr ⟨dA, c3, c4, c5⟩⟩ (ex name hsh) ?_))
  refine wpAny_bind (wpAny_of_eq hpos ?_)
  have z1' : Val C (Wof W own) h1 (.ref a) (.obj Cl fs) := .obj oa c5 n2 rr ex
  refine Calls.callWith_function (o := of) (fd := fd) (aU n ((y.go A env W h₀ O h1 pos R G S1).use2 fun vs h2 tk2 x2 z2 => ?_))
  have S2 := S1.ext x2
  exact ⟨⟨S2.inv.1 _ _ ho, hdat⟩, (fn A (Wof W own) h2 (.ref a :: vs) R S2.inv S2.tw S2.wok' (.cons (z1'.ext x2 S.tw) z2)).use2 fun u h3 tk3 x3 z3 => (qK _ h3 tk3 ⟨(e1.trans x2).trans x3, z3⟩)⟩
noncomputable def jV (C : Cfg) (Cl : Addr) (name : Str) (d : D) : Prop := ∀ A W h, Inv C h -> Tri C A (getAttr (.ref Cl) name true) h fun u h' => h' = h /\ Val C W h u d
theorem Ev.clsAttr {x : Str} {p pos : Pos} {name : Str} {Cl : Addr} {d : D} (g : m7 C x Cl) (v : jV C Cl name d) (hx : autoParam (sc.names.lookup x = some .globalImplicit) tacR) (he : autoParam (dU (.Name x p) name pos) tacU) (hd : autoParam ((x == ("__debug__" : Str)) = false) tacD) :
  Ev C r sc ρ own (.Attribute (.Name x p) name pos) d := by
 constructor; intro A env W h₀ O h R G S tk qQ qE qK
 refine Attribute_any_ ((Ev.global G S hx g hd).use2 fun v1 h1 tk1 e1 e2 => ?_) (he env)
 subst e1 e2
 exact (v A (Wof W own) h1 S.inv).use2 fun u h2 tk2 e z => by subst e; exact (qK _ _ tk2 ⟨.refl S.inv, z⟩)
end
noncomputable def au (ss : List Str) : List D := ss.map .str
noncomputable def bK (ns : List Int) : List D := ns.map .int
theorem ao.au {W : Addr -> Prop} {h : Heap} {vs : List Value} {ss : List Str} (z : ao C W h vs (au ss)) : StrsAre vs ss := by
 induction ss generalizing vs with
 | nil => rw [z.nil_inv]; exact .nil
 | cons s ss ih =>
  obtain ⟨v, us, rfl, a, b⟩ := z.cons_inv
  exact a.strE (G := fun v => StrsAre (v :: us) (s :: ss)) fun t => .cons _ _ (ih b)
theorem strsVal {W : Addr -> Prop} {h : Heap} {vs : List Value} {ss : List Str} (x : StrsAre vs ss) : ao C W h vs (au ss) := by
 induction x with
 | nil => exact .nil
 | cons _ _ _ ih => exact .cons (.str _ _) ih
section
variable {r : Nat} {sc : Scope} {O : Str -> Prop} {ρ : Rho} {own : Own} {P : aZ}
theorem aB.neS {x y : Str} : aB C .NotEq (.str x) (.str y) (x != y) := by
 intro A W h v1 v2 R U I z1 z2 tk qQ qE qK
 obtain ⟨_, rfl⟩ := z1.str_inv
 obtain ⟨_, rfl⟩ := z2.str_inv
 refine PySem.P.ne_str (qK _ h _ ⟨rfl, ?_⟩)
 congr 1
 obtain ⟨a⟩ := x
 obtain ⟨b⟩ := y
 by_cases q : a = b
 ·subst q; simp
 ·have h1 : a.toList ≠ b.toList := fun w => q (by rw [<- Array.toArray_toList (xs := a), w, Array.toArray_toList])
  have h2 : (⟨a⟩ : Str) ≠ ⟨b⟩ := fun w => q (Str.mk.inj w)
  rw [bne_iff_ne.mpr h1, bne_iff_ne.mpr h2]
theorem aB.inL {x : Str} {ss : List Str} : aB C .In (.str x) (.list (au ss)) (ss.any (· == x)) := by
 intro A W h v1 v2 R U I z1 z2 tk qQ qE qK; cases z1
 cases z2 with
 | @list a vs n _ g nw l rr => exact in_list_strs (aO g) rr.au (qK _ h _ ⟨rfl, rfl⟩)
open Classical in
theorem Fn.max2 {a b : Int} : Fn C r (.builtin "max") [.int a, .int b] (.int (max a b)) := by
 intro A W h vs R I tw wok z tk qQ qE qK; have wo := wok.old
 obtain ⟨v, u, rfl, q, y⟩ := z.two
 refine q.intE fun t => ?_
 refine y.intE fun t' => ?_
 have e1 : Ext C h (h.push { cls := .type "tuple", data := .seq #[.int a t, .int b t'] }) := .push I _
 have ht : (h.push { cls := .type "tuple", data := .seq #[.int a t, .int b t'] }).IsTuple h.objs.size #[.int a t, .int b t'] := ⟨_, Heap.get?_push_size _ rfl, rfl, 0, rfl⟩
 generalize hH : h.push { cls := .type "tuple", data := .seq #[.int a t, .int b t'] } = H at e1 ht
 refine call_max_two ?_
 show wpAny _ _ _ _ _ (sh C (h.push { cls := .type "tuple", data := .seq #[.int a t, .int b t'] }) tk)
 rw [hH]
 have ne : h.objs.size ≠ H.objs.size := by rw [<- hH, Heap.size_push]; exact (kI (n := h.objs.size) (k := 1) (by decide)).symm
 refine wpAny_pyIter_tuple ht ⟨H.objs.size, _, _, _, _, _, _, rfl, Walks.tuple (A := A.in1) R.1 H.objs.size h.objs.size ne #[.int a t, .int b t'], ⟨⟨_, Heap.get?_push_size _ rfl, rfl, rfl⟩, ht.at fun o e => Heap.get?_push_of_some _ e⟩, ?_, (show 0 < 2 by decide), CmpOf.ints_gt (fun i => if i = 0 then a else b) ?_, fun v h' tk' p k => ?_⟩
 ·intro c hc
  have sz : (H.push { cls := .type "tuple_iterator", data := .fields #[.ref h.objs.size, .int 0 0] }).objs.size = H.objs.size + 1 := Heap.size_push ..
  have lt : h.objs.size < H.objs.size := by rw [<- hH, Heap.size_push]; exact Nat.lt_succ_self _
  show c < (H.push _).objs.size
  rw [sz]
  simp at hc
  rcases hc with rfl | rfl
  ·exact Nat.lt_succ_self _
  ·exact Nat.lt_succ_of_lt lt
 ·intro i v e
  match i, e with
  | 0, e => exact ⟨t, by simpa using e.symm⟩
  | 1, e => exact ⟨t', by simpa using e.symm⟩
  | n + 2, e => simp at e
 ·have p' : v = .int (max a b) (if a < b then t' else t) := by
   have hb : argBest (fun i j => decide ((if i = 0 then a else b) > (if j = 0 then a else b))) (2 - 1) = if b > a then 1 else 0 := by
    show (if decide ((if (1 : Nat) = 0 then a else b) > (if (0 : Nat) = 0 then a else b)) = true then 1 else 0) = _
    simp
   have p : #[Value.int a t, Value.int b t'][argBest (fun i j => decide ((if i = 0 then a else b) > (if j = 0 then a else b))) (2 - 1)]? = some v := p
   rw [hb] at p
   by_cases q : b > a
   ·rw [if_pos q] at p
    rw [if_pos (by lia)]
    have : max a b = b := by lia
    rw [this]; simpa using p.symm
   ·rw [if_neg q] at p
    rw [if_neg (by lia)]
    have : max a b = a := by lia
    rw [this]; simpa using p.symm
  refine (qK _ h' tk' ⟨?_, by rw [p']; exact .int _ _⟩)
  refine e1.trans (.all e1.2 fun c o e => k c o ?_ (Heap.get?_push_of_some _ e))
  intro q
  have : c = H.objs.size := by simpa using q
  rw [this, aj] at e; cases e
noncomputable def upS (x : Str) : Str := ⟨placed x fun _ c => Unicode.upperOf c⟩
noncomputable def dh (x : Str) : Str := ⟨placed x fun i _ => Unicode.lowerAt x.cps i⟩
noncomputable def gV (x : Str) : Str := ⟨placed x fun i c => if i == 0 then Unicode.titleOf c else Unicode.lowerAt x.cps i⟩
theorem short {n : Nat} (h : n <= 1048576) : Builtin.Str.tooLong n = false := by
 unfold Builtin.Str.tooLong; simp [sizeLine]; lia
theorem Fn.upper {x : Str} (l : (upS x).length <= 1048576) : Fn C r (.builtin "str.upper") [.str x] (.str (upS x)) := by
 intro A W h vs R I tw wok z tk qQ qE qK; have wo := wok.old
 obtain ⟨v, rfl, q⟩ := z.one
 cases q with
 | @str _ t => exact call_gives F.slot_str_upper (typeIs_str _ x t) F.entry_str_upper (F.args_str_upper_1 _) (gives_str_upper x t (short l)) ⟨by have := l; simp [sizeLine]; unfold upS at this; lia, (qK _ h _ ⟨.refl I, .str _ _⟩)⟩
theorem Fn.lower {x : Str} (l : (dh x).length <= 1048576) : Fn C r (.builtin "str.lower") [.str x] (.str (dh x)) := by
 intro A W h vs R I tw wok z tk qQ qE qK; have wo := wok.old
 obtain ⟨v, rfl, q⟩ := z.one
 cases q with
 | @str _ t => exact call_gives F.slot_str_lower (typeIs_str _ x t) F.entry_str_lower (F.args_str_lower_1 _) (gives_str_lower x t (short l)) ⟨by have := l; simp [sizeLine]; unfold dh at this; lia, (qK _ h _ ⟨.refl I, .str _ _⟩)⟩
theorem Fn.join {x : Str} {ss : List Str} (l : (ss.map (·.length)).sum + ss.length * x.length <= 1048576) : Fn C r (.builtin "str.join") [.str x, .list (au ss)] (.str (Txt.join x ss)) := by
 intro A W h vs R I tw wok z tk qQ qE qK; have wo := wok.old
 obtain ⟨v, u, rfl, q, y⟩ := z.two
 refine q.strE fun t => ?_
 cases y with
 | @list a vs n _ g nw l' rr => exact join_list (aO g) (by simpa using rr.au) (by lia) fun t' k => (qK _ h _ ⟨.refl I, .str _ _⟩)
theorem Fn.tuple {ds : List D} : Fn C r (.type "tuple") [.list ds] (.tup ds) := by
 intro A W h vs R I tw wok z tk qQ qE qK; have wo := wok.old
 obtain ⟨v, rfl, q⟩ := z.one
 refine q.listE fun a vs n g nw l rr => ?_
 refine call_tuple_list (aO g) (fun h' hk => ?_) (by have := rr.length; simp [sizeLine]; lia)
 have e1 : Ext C h h' := .all I hk
 have e2 : Ext C h' (h'.push { cls := .type "tuple", data := .seq vs.toArray }) := .push e1.2 _
 refine (qK _ _ _ ⟨e1.trans e2, .tup ⟨_, Heap.get?_push_size _ rfl, rfl, 0, rfl⟩ (fun q => ?_) l (rr.ext (e1.trans e2) tw)⟩)
 exact wo _ q ((e1.none_back (aj h')))
end
mutual
noncomputable def D.py : D -> PyData
 | .none => .none
 | .bool b => .bool b
 | .int i => .int i
 | .str s => .str s
 | .list ds => .list (cH ds)
 | .tup ds => .tuple (cH ds)
 | _ => .none
noncomputable def cH : List D -> List PyData
 | [] => []
 | d :: ds => d.py :: cH ds
end
mutual
noncomputable def D.plain : D -> Bool
 | .none => true
 | .bool _ => true
 | .int _ => true
 | .str _ => true
 | .list ds => plainAll ds
 | .tup ds => plainAll ds
 | _ => false
noncomputable def plainAll : List D -> Bool
 | [] => true
 | d :: ds => d.plain && plainAll ds
end
theorem Val.reads {W : Addr -> Prop} {h : Heap} {v : Value} {d : D} (z : Val C W h v d) : d.plain = true -> ∃ as, Reads h v d.py as :=
 Val.rec (motive_1 := fun v d _ => d.plain = true -> ∃ as, Reads h v d.py as) (motive_2 := fun vs ds _ => plainAll ds = true -> ∃ as, ReadsAll h vs (cH ds) as) (motive_3 := fun _ _ _ => True) (motive_4 := fun _ _ _ => True) (motive_5 := fun _ _ _ => True)
  (fun _ => ⟨_, .none⟩) (fun b _ => ⟨_, .bool b⟩) (fun i t _ => ⟨_, .int i t⟩) (fun s t _ => ⟨_, .str s t⟩)
  (fun e _ _ _ r p => (r p).elim fun _ q => ⟨_, .list e rfl rfl (by simpa using q)⟩) (fun e _ _ _ r p => (r p).elim fun _ q => e.elim fun _ e => e.2.2.elim fun _ e3 => ⟨_, .tuple e.1 e.2.1 e3 (by simpa using q)⟩)
  (fun _ _ _ _ _ _ p => nomatch p) (fun _ _ _ _ _ _ p => nomatch p) (fun _ _ _ _ _ _ _ p => nomatch p) (fun _ p => nomatch p) (fun _ p => nomatch p)
  (fun _ => ⟨_, .nil⟩) (fun _ _ a b p => (a (Bool.and_eq_true_iff.mp p).1).elim fun _ q => (b (Bool.and_eq_true_iff.mp p).2).elim fun _ q' => ⟨_, .cons q q'⟩)
  trivial (fun _ _ _ _ => trivial) trivial (fun _ _ _ _ _ => trivial) trivial (fun _ _ _ _ _ _ _ => trivial) z
theorem aB.eqP {d1 d2 : D} (p1 : d1.plain = true) (p2 : d2.plain = true) (s1 : SeqAt.shaped d1.py = true) (s2 : SeqAt.shaped d2.py = true) : aB C .Eq d1 d2 (PyData.eqv d1.py d2.py) := by
 intro A W h v1 v2 R U I z1 z2 tk qQ qE qK
 obtain ⟨as, r1⟩ := z1.reads p1
 obtain ⟨bs, r2⟩ := z2.reads p2
 exact SeqAt.compareEq_shaped (s := sh C h tk) r1 r2 s1 s2 (by show A.units + 64 < 9900; lia) (qK _ h _ ⟨rfl, rfl⟩)
theorem aB.neP {d1 d2 : D} (p1 : d1.plain = true) (p2 : d2.plain = true) (s1 : SeqAt.shaped d1.py = true) (s2 : SeqAt.shaped d2.py = true) : aB C .NotEq d1 d2 (!PyData.eqv d1.py d2.py) := by
 intro A W h v1 v2 R U I z1 z2 tk qQ qE qK
 obtain ⟨as, r1⟩ := z1.reads p1
 obtain ⟨bs, r2⟩ := z2.reads p2
 exact SeqAt.compareNe_shaped (s := sh C h tk) r1 r2 s1 s2 (by show A.units + 64 < 9900; lia) (qK _ h _ ⟨rfl, rfl⟩)
theorem aB.neSame {d : D} (p : d.plain = true) (s : SeqAt.shaped d.py = true) : aB C .NotEq d d false := by
 have := aB.neP (C := C) p p s s
 rwa [SeqAt.eqv_refl _ (SeqAt.canLay_of_shaped s)] at this
noncomputable def aY (kvs : List (Str × Str)) : List (Str × D) := kvs.map fun p => (p.1, .str p.2)
theorem ao.bK {W : Addr -> Prop} {h : Heap} : ∀ {vs : List Value} {ns : List Int}, ao C W h vs (Mine.bK ns) -> IntsAre vs ns
 | _, [], .nil => .nil
 | _, s :: ss, .cons z r => by cases z; exact .cons _ _ (ao.bK r)
section
variable {r : Nat} {sc : Scope} {O : Str -> Prop} {ρ : Rho} {own : Own} {P : aZ}
noncomputable def bH (x y : Str) : List Str := if (Builtin.Str.occurrences x y 0 x.length (x.length + 1)).isEmpty then [x] else Builtin.Str.partsBetween x (Builtin.Str.occurrences x y 0 x.length (x.length + 1)) y.length
theorem gJ : ∀ (tk : Nat) (ss : List Str), StrsAre (strsFrom tk ss) ss
 | _, [] => .nil
 | tk, s :: ss => .cons _ _ (gJ _ ss)
theorem Fn.split {x y : Str} (h1 : (decide (x.length < y.length) || decide (Builtin.Str.strKind x < Builtin.Str.strKind y)) = false) (hy : (y.length == 0) = false) (hx : x.length <= 1048576) (hn : (bH x y).length <= 1048576) :
  Fn C r (.builtin "str.split") [.str x, .str y] (.list (au (bH x y))) := by
 intro A W h vs R I tw wok z tk qQ qE qK; have wo := wok.old
 obtain ⟨v, u, rfl, q, q'⟩ := z.two
 refine q.strE fun t => ?_
 refine q'.strE fun t' => ?_
 unfold bH at hn qK
 cases hf : (Builtin.Str.occurrences x y 0 x.length (x.length + 1)).isEmpty with
 | true =>
  rw [hf] at qK
  refine call_meets F.slot_str_split (typeIs_str _ x t) F.entry_str_split (F.args_str_split_2 _ _) (meets_str_split_not_found x y t t' h1 hy hf) ?_
  exact (qK _ _ _ ⟨.push I _, .list (vs := [.str x t]) (Heap.get?_push_size _ rfl) (eH wo) (by simp [au]) (.cons (.str _ _) .nil)⟩)
 | false =>
  rw [hf] at hn qK
  refine call_meets F.slot_str_split (typeIs_str _ x t) F.entry_str_split (F.args_str_split_2 _ _) (meets_str_split_sep x y t t' h1 hy hf (by simp [sizeLine]; lia) (by simp at hn; simp [sizeLine]; lia)) ?_
  refine (qK _ _ _ ⟨.push I _, .list (vs := strsFrom tk _) (Heap.get?_push_size _ rfl) (eH wo) (by simpa [au] using hn) (strsVal (gJ _ _))⟩)
noncomputable def gD (bs : List Bool) : Str := (PyData.list (bs.map .bool)).shown
theorem bools_are (bs : List Bool) : plainAll (bs.map .bool) = true /\ cH (bs.map .bool) = bs.map .bool /\ PyData.showableAll (bs.map .bool) = true /\ PyData.hasDictAll (bs.map .bool) = false /\ PyData.depthAll (bs.map .bool) = 0 := by
 induction bs with
 | nil => exact ⟨rfl, rfl, rfl, rfl, rfl⟩
 | cons b bs ih => exact ⟨ih.1, congrArg (PyData.bool b :: ·) ih.2.1, ih.2.2.1, ih.2.2.2.1, congrArg (max 0) ih.2.2.2.2⟩
theorem Fn.repr {bs : List Bool} (l : (gD bs).length <= 1048576) : Fn C r (.builtin "repr") [.list (bs.map .bool)] (.str (gD bs)) := by
 obtain ⟨b1, b2, b3, b4, b5⟩ := bools_are bs
 intro A W h vs R I tw wok z tk qQ qE qK
 obtain ⟨v, rfl, q⟩ := z.one
 obtain ⟨as, rd⟩ := q.reads b1
 rw [show (D.list (bs.map .bool)).py = .list (bs.map .bool) from congrArg PyData.list b2] at rd
 revert rd
 refine q.listE fun a vs n g nw l' rr rd => ?_
 refine repr_of_reads' (s := sh C h tk) (h₀ := h) rd b3 (PyData.noDict_hsm b4) R.2.2.2 ?_ (fun _ _ e => e) (fun h' u tk' hk => (qK _ h' tk' ⟨.all I hk, .str _ _⟩)) (by show (gD bs).length <= _; simp [sizeLine]; lia)
 have := R.2.2.1
 have d1 : (PyData.list (bs.map .bool)).depth <= 1 := by show PyData.depthAll _ + 1 <= 1; rw [b5]; exact Nat.le_refl _
 show A.units + (_ + 1) < 9900
 lia
end
set_option tactic.hygienic true in
theorem m9 {pos pos' : Pos} {c cv : Value} (l : List Value) (h : TriplesOk l) (e : codeAmong pos' (l ++ [rawInt pos.line, rawInt pos.col, c]) = some cv) : codeAmong pos' l = some cv ∨ (pos'.line = pos.line /\ pos'.col = pos.col /\ cv = c) := by
 fun_induction TriplesOk l with
 | case1 =>
  right
  simp only [List.nil_append, codeAmong, rawInt] at e
  split at e
  ·rename_i q
   simp only [Bool.and_eq_true, beq_iff_eq] at q
   cases e
   exact ⟨by lia, by lia, rfl⟩
  ·cases e
 | case2 a t b u x rest ih =>
  simp only [List.cons_append, codeAmong] at e ⊢
  split at e
  ·rename_i q; left; rw [if_pos q]; exact e
  ·rename_i q; rw [if_neg q]; exact ih h e
 | case3 l h1 h2 => exact h.elim
theorem mU {h h' : Heap} {mg : Str -> Option Value} {P : Addr} (x : h.BuiltinsAt mg P) (k : ∀ b o, h.get? b = some o -> h'.get? b = some o) : h'.BuiltinsAt mg P :=
 by obtain ⟨bm, o, a1, a2, a3, a4, a5, r⟩ := x; exact ⟨bm, o, a1, a2, a3, a4, k _ _ a5, r⟩
theorem tab_grow {h h' : Heap} {P c' : Addr} {ps : Array Value} {pos : Pos} {qual : Str} {c : Addr} (I : Inv C h) (hq : (c, P) ∈ C.tabs) (hP : h.get? P = some (tabObj ps)) (ht : TriplesOk ps.toList)
  (hf : ∀ pos cv, codeAmong pos ps.toList = some cv -> ∃ c', cv = .ref c' /\ ¬ C.Tb c' /\ h.CodeRec (.ref c') (C.qn P pos.line pos.col)) (hqn : C.qn P pos.line pos.col = qual)
  (hx : Heap.ExtBut P h h') (hge : h.objs.size <= c') (hr : h'.CodeRec (.ref c') qual) (hP' : h'.get? P = some (tabObj (ps ++ #[rawInt pos.line, rawInt pos.col, .ref c']))) : Ext C h h' /\ ¬ C.Tb c' := by
 have nT : ¬ C.Tb c' := fun t => by
  obtain ⟨vs, e⟩ := C.tabHas h I.2 c' t
  exact absurd (Heap.lt_size e) (Nat.not_lt.mpr hge)
 have nP : ∀ b, b = P -> C.Tb b := fun b q => ⟨_, hq, q.symm⟩
 refine ⟨⟨fun b o e n => hx b o (fun q => n (nP b q)) e, fun b o e => hx b o (fun q => ?_) (I.1 b o e), fun q hq' => ?_⟩, nT⟩
 ·rw [q, C.tabHid _ hq] at e; cases e
 ·by_cases qP : q.2 = P
  ·rw [qP]
   refine ⟨_, hP', by simpa using TriplesOk_snoc _ _ _ _ ht, fun pos' cv e => ?_⟩
   rw [Array.toList_append] at e
   rcases m9 _ ht e with e | ⟨e1, e2, rfl⟩
   ·obtain ⟨c2, e1, n2, r2⟩ := hf pos' cv e
    obtain ⟨c3, oc, vs, u, f1, f2, f3, f4⟩ := r2
    cases e1
    cases f1
    refine ⟨c2, rfl, n2, c2, oc, vs, u, rfl, hx _ _ (fun w => n2 (nP _ w)) f2, f3, f4⟩
   ·refine ⟨c', rfl, nT, ?_⟩
    rw [e1, e2, hqn]; exact hr
  ·obtain ⟨ps2, e, t2, f2⟩ := I.2 q hq'
   refine ⟨ps2, hx _ _ qP e, t2, fun pos' cv w => ?_⟩
   obtain ⟨c2, e1, n2, r2⟩ := f2 pos' cv w
   obtain ⟨c3, oc, vs, u, f1, g2, g3, g4⟩ := r2
   cases e1
   cases f1
   exact ⟨c2, rfl, n2, c2, oc, vs, u, rfl, hx _ _ (fun w => n2 (nP _ w)) g2, g3, g4⟩
section
variable {r : Nat} {sc : Scope} {O : Str -> Prop} {ρ : Rho} {own : Own} {P : aZ}
inductive LamMk (C : Cfg) (h : Heap) (name qual : Str) (params : Arguments) (body : Expr) (scope : Scope) (clos : List (Str × Addr)) (v : Value) (h' : Heap) : Prop
 | mk (f c' : Addr) (ctv pm : Value) (e : v = .ref f) (x : Ext C h h') (f0 : h.get? f = Option.none) (ho : h'.get? f = some (kla_obj name qual params body scope clos pm c' ctv)) (hr : h'.CodeRec (.ref c') qual) (nt : ¬ C.Tb c') (ntf : ¬ C.Tb f) : LamMk C h name qual params body scope clos v h'
inductive MadeIs (C : Cfg) (h : Heap) (name qual : Str) (params : Arguments) (body : List Stmt) (scope : Scope) (clos : List (Str × Addr)) (v : Value) (h' : Heap) : Prop
 | mk (f c' : Addr) (ctv pm doc : Value) (e : v = .ref f) (x : Ext C h h') (f0 : h.get? f = Option.none) (ho : h'.get? f = some (fnMade name qual params body scope clos doc pm c' ctv)) (hr : h'.CodeRec (.ref c') qual) (nt : ¬ C.Tb c') (ntf : ¬ C.Tb f) : MadeIs C h name qual params body scope clos v h'
theorem make_lam {A : Around} {env : Env} {W : Addr -> Prop} {h₀ h : Heap} {name qual : Str} {params : Arguments} {body : Expr} {scope : Scope} {pos : Pos} {firstLine : Nat} {clos : List (Str × Addr)} {c Pt : Addr}
  (S : St C W h₀ env O ρ own h) (hc : env.code = .ref c) (hq : (c, Pt) ∈ C.tabs) (hcl : closureFor scope env = pure clos) (hqn : C.qn Pt pos.line pos.col = qual) :
  Tri C A (makeFunction name qual params (.expr body) scope env [] [] [] pos firstLine) h (LamMk C h name qual params body scope clos) := by
 intro tk qQ qE qK
 obtain ⟨ps, hP, ht, hf⟩ := S.inv.2 _ hq
 have hg : h.Ns mainGlobals C.mg := C.g.keeps S.inv.1
 have hC : CodeHd h c Pt := (C.tabCode _ hq).keeps S.inv.1
 have hb := mU (C.bmain _ hq) S.inv.1
 have gP : mainGlobals ≠ Pt := fun q => by
  obtain ⟨o, _, _, e, d, _⟩ := hg
  rw [q, hP] at e; cases e; cases d
 cases hn : codeAmong pos ps.toList with
 | none =>
  refine kla_makeFunction hcl S.glob hg hc hC hP ht hn gP hb fun c' ctv h' tk' hx hge hlt hr hP' => ?_
  obtain ⟨x1, nT⟩ := tab_grow S.inv hq hP ht hf hqn hx hge hr hP'
  have f0 : h.get? h'.objs.size = Option.none := x1.none_back (aj h')
  refine (qK _ _ tk' ⟨h'.objs.size, c', ctv, _, rfl, x1.trans (.push x1.2 _), f0, Heap.get?_push_size _ rfl, hr.push _, nT, fun t => ?_⟩)
  obtain ⟨vs, e⟩ := C.tabHas h S.inv.2 _ t
  rw [f0] at e; cases e
 | some cv =>
  obtain ⟨c', rfl, nT, hr⟩ := hf pos cv hn
  rw [hqn] at hr
  refine kla_makeFunctionHit hcl S.glob hg hc hC hP ht hn hb fun ctv h' tk' hk hsz => ?_
  have x1 : Ext C h h' := .all S.inv hk
  have f0 : h.get? h'.objs.size = Option.none := x1.none_back (aj h')
  refine (qK _ _ tk' ⟨h'.objs.size, c', ctv, _, rfl, x1.trans (.push x1.2 _), f0, Heap.get?_push_size _ rfl, (hr.keeps hk).push _, nT, fun t => ?_⟩)
  obtain ⟨vs, e⟩ := C.tabHas h S.inv.2 _ t
  rw [f0] at e; cases e
theorem make_def {A : Around} {env : Env} {W : Addr -> Prop} {h₀ h : Heap} {name qual : Str} {params : Arguments} {body : List Stmt} {scope : Scope} {pos : Pos} {firstLine : Nat} {clos : List (Str × Addr)} {c Pt : Addr}
  (S : St C W h₀ env O ρ own h) (hc : env.code = .ref c) (hq : (c, Pt) ∈ C.tabs) (hcl : closureFor scope env = pure clos) (hqn : C.qn Pt pos.line pos.col = qual) :
  Tri C A (makeFunction name qual params (.stmts body) scope env [] [] [] pos firstLine) h (MadeIs C h name qual params body scope clos) := by
 intro tk qQ qE qK
 obtain ⟨ps, hP, ht, hf⟩ := S.inv.2 _ hq
 have hg : h.Ns mainGlobals C.mg := C.g.keeps S.inv.1
 have hC : CodeHd h c Pt := (C.tabCode _ hq).keeps S.inv.1
 have hb := mU (C.bmain _ hq) S.inv.1
 have gP : mainGlobals ≠ Pt := fun q => by
  obtain ⟨o, _, _, e, d, _⟩ := hg
  rw [q, hP] at e; cases e; cases d
 cases hn : codeAmong pos ps.toList with
 | none =>
  refine makeFunction_K hcl S.glob hg hc hC hP ht hn gP hb fun c' ctv doc h' tk' hx hge hlt hr hP' => ?_
  obtain ⟨x1, nT⟩ := tab_grow S.inv hq hP ht hf hqn hx hge hr hP'
  have f0 : h.get? h'.objs.size = Option.none := x1.none_back (aj h')
  refine (qK _ _ tk' ⟨h'.objs.size, c', ctv, _, doc, rfl, x1.trans (.push x1.2 _), f0, Heap.get?_push_size _ rfl, hr.push _, nT, fun t => ?_⟩)
  obtain ⟨vs, e⟩ := C.tabHas h S.inv.2 _ t
  rw [f0] at e; cases e
 | some cv =>
  obtain ⟨c', rfl, nT, hr⟩ := hf pos cv hn
  rw [hqn] at hr
  refine makeFunction_hit hcl S.glob hg hc hC hP ht hn hb fun ctv doc h' tk' hk hsz => ?_
  have x1 : Ext C h h' := .all S.inv hk
  have f0 : h.get? h'.objs.size = Option.none := x1.none_back (aj h')
  refine (qK _ _ tk' ⟨h'.objs.size, c', ctv, _, doc, rfl, x1.trans (.push x1.2 _), f0, Heap.get?_push_size _ rfl, (hr.keeps hk).push _, nT, fun t => ?_⟩)
  obtain ⟨vs, e⟩ := C.tabHas h S.inv.2 _ t
  rw [f0] at e; cases e
end
end Mine
namespace Mine
open Builtin Builtin.ObjectAttr
variable {C : Cfg}
theorem fJ : Slot "function" "__setattr__" "object.__setattr__" :=
 .of (owner := "object") (n := "__setattr__") (by rw [typeLookup_type, builtinLookup_eq_fast]; kernel_rfl) (by decide +kernel) (by decide +kernel) (by decide +kernel)
  (by first | exact .inl (by decide +kernel) | exact .inr (by decide +kernel)) (by rw [isSubtype_type]; kernel_rfl)
theorem fK : Slot "function" "__getattribute__" "object.__getattribute__" :=
 .of (owner := "object") (n := "__getattribute__") (by rw [typeLookup_type, builtinLookup_eq_fast]; kernel_rfl) (by decide +kernel) (by decide +kernel) (by decide +kernel)
  (by first | exact .inl (by decide +kernel) | exact .inr (by decide +kernel)) (by rw [isSubtype_type]; kernel_rfl)
theorem entry_oga : entryFor table "object.__getattribute__" = some Builtin.«object.__getattribute__» := entryFor_of_tree (by kernel_rfl)
theorem args_oga (a b : Value) : argsOk "object.__getattribute__" ⟨[a, b], []⟩ := by unfold argsOk; kernel_rfl
theorem mro_fn : mroOf (.type "function") = pure [.type "function", .type "object"] := by rw [mroOf_type]; kernel_rfl
theorem fn_no_getattr : typeLookup (.type "function") "__getattr__" = pure none := by rw [typeLookup_type, builtinLookup_eq_fast]; kernel_rfl
noncomputable def NoFn (name : Str) : Prop := typeLookup (.type "function") name = pure none
theorem refuse_fn (self : Value) : refuseLoop self "__setattr__" [.type "function", .type "object"] = pure () := by kernel_rfl
section
variable {prog : Program} {w : World} {A : Around} {E : Value -> Shared -> Prop} {s : Shared}
theorem mG {x : Addr} {o : Obj} {Q : Option Addr -> Shared -> Prop} (hx : s.heap.get? x = some o) (hdat : ∀ c, o.data ≠ .cls c) (k : wpAny (model prog w) A (instanceDict x false) Q E s) : wpAny (model prog w) A (ObjectAttr.ownDict x) Q E s := by
 unfold ObjectAttr.ownDict
 refine wpAny_bind (wpAny_loadPart hx ?_)
 generalize o.data = d at hdat
 cases d <;> first | exact k | exact absurd rfl (hdat _)
set_option tactic.hygienic true in
theorem get_fn {x dx : Addr} {o : Obj} {m : Str -> Option Value} {name : Str} {v : Value} {expr : Bool} {Q : Value -> Shared -> Prop} (hx : s.heap.get? x = some o) (hc : o.cls = .type "function") (hd : o.dict = some dx) (hdat : ∀ c, o.data ≠ .cls c) (hns : s.heap.Ns dx m) (hv : m name = some v)
  (hB : NoFn name) (hh : handedOut v = pure v) (hq : Q v { s with toks := s.toks + 1 }) : wpAny (model prog w) A (getAttr (.ref x) name expr) Q E s := by
 have hT : ({ s with toks := s.toks + 1 } : Shared).TypeIs (.ref x) "function" := ⟨o, hx, hc⟩
 unfold getAttr
 refine wpAny_bind (wpAny_mkText ?_)
 unfold getAttrBy
 refine wpAny_holding (wpAny_bind (wpAny_typeOf hT ?_))
 refine wpAny_bind (wpAny_of_eq fK.lookup ?_)
 dsimp only
 rw [show (onTheHeap (.type "function") && Value.builtin "object.__getattribute__" == Value.builtin "object.__getattribute__") = false from rfl, if_neg (by decide)]
 unfold getAttrByItsOwn
 refine wpAny_bind (wpAny_of_eq (a := none) rfl ?_)
 refine wpAny_bind (wpAny_attempt (wpAny_holding ?_))
 unfold callGetattribute
 rw [show (expr && onTheHeap (Value.builtin "object.__getattribute__")) = false from Bool.and_false _, if_neg (by decide)]
 unfold boundAndCalled
 rw [fK.bind]
 refine wpAny_bind (wpAny_pure ?_)
 show wpAny _ _ (call (.builtin "object.__getattribute__") [.ref x, .str name s.toks]) _ _ _
 refine wpAny_call_entry fK hT entry_oga ?_ (args_oga _ _)
 unfold Builtin.«object.__getattribute__»
 refine wpAny_bind (wpAny_of_eq (a := (Value.ref x, [Value.str name s.toks])) rfl ?_)
 dsimp only
 refine wpAny_bind (wpAny_of_eq (a := name) rfl ?_)
 refine wpAny_bind (wpAny_typeOf hT ?_)
 unfold find
 refine wpAny_bind (wpAny_bind (wpAny_of_eq hB ?_))
 refine wpAny_bind (wpAny_of_eq (a := none) rfl ?_)
 refine wpAny_bind (wpAny_of_eq (a := none) rfl ?_)
 dsimp only
 unfold ownThenClass
 refine wpAny_bind ?_
 unfold inOwnDict
 dsimp only
 refine wpAny_bind ?_
 refine mG hx hdat ?_
 unfold instanceDict
 refine wpAny_bind (wpAny_loadPart hx ?_)
 rw [hc]
 dsimp only
 refine wpAny_bind (wpAny_pure ?_)
 rw [hd]
 refine wpAny_pure ?_
 refine wpAny_nsGet hns ?_
 rw [hv]
 refine wpAny_bind (wpAny_rule (wpAny_pure ?_))
 refine wpAny_pure ⟨_, rfl, ?_⟩
 rw [hh]
 exact wpAny_pure hq
theorem set_fn {x dx : Addr} {o : Obj} {m : Str -> Option Value} {name : Str} {v : Value} {ns : List Str} {Q : Unit -> Shared -> Prop} (hx : s.heap.get? x = some o) (hc : o.cls = .type "function") (hd : o.dict = some dx) (hne : dx ≠ x) (hns : s.heap.Ns1 dx m)
  (hB : NoFn name) (hw : Within m ns) (hz : ns.length <= 1000) (hq : ∀ h' tk, h'.Ns1 dx (fun y => if y = name then some v else m y) -> Heap.SameBut dx s.heap h' -> Q () { s with heap := h', toks := tk }) : wpAny (model prog w) A (setAttr (.ref x) name v) Q E s := by
 have hT : ({ s with toks := s.toks + 1 } : Shared).TypeIs (.ref x) "function" := ⟨o, hx, hc⟩
 unfold setAttr
 refine wpAny_bind (wpAny_mkText (wpAny_bind ?_))
 refine wpAny_callSpecial?_slot hT fJ (wpAny_call_entry fJ hT PySem.F.store_object.entry ?_ (PySem.F.store_object.args _ _ _))
 rw [osa_eq, refuse_eq]
 refine wpAny_bind (wpAny_bind (wpAny_typeOf hT (wpAny_bind (wpAny_of_eq mro_fn ?_))))
 rw [refuse_fn]
 refine wpAny_pure (wpAny_bind (wpAny_typeOf hT (wpAny_bind (wpAny_of_eq hB (wpAny_bind (wpAny_of_eq (a := none) rfl ?_))))))
 dsimp only
 unfold storeInOwnDict
 refine wpAny_bind (wpAny_of_eq (a := ()) (by rfl) ?_)
 refine wpAny_bind ?_
 unfold ownDictForStores instanceDict
 refine wpAny_bind (wpAny_loadPart hx ?_)
 rw [hc]
 dsimp only
 refine wpAny_bind (wpAny_pure ?_)
 rw [hd]
 refine wpAny_pure ?_
 dsimp only
 unfold storeInDict newKeyGuard
 refine wpAny_bind (wpAny_pure (wpAny_bind (wpAny_nsSet1 hns fun h' hn' hs => ?_)))
 obtain ⟨oD, esD, epD, hoD, hdD, hcD⟩ := hn'.count (Within.cons name v hw)
 refine wpAny_bind (wpAny_lookBehind hoD (by rw [hdD]; exact pastItsLine_dict (Nat.le_trans hcD (by rw [List.length_cons, sizeLine_eq]; lia))) ?_)
 exact wpAny_pure ⟨_, rfl, wpAny_pure (hq h' _ hn' hs)⟩
set_option tactic.hygienic true in
theorem set_fn0 {x : Addr} {o : Obj} {name : Str} {v : Value} {Q : Unit -> Shared -> Prop} (hx : s.heap.get? x = some o) (hc : o.cls = .type "function") (hd : o.dict = none) (hdat : ∀ c, o.data ≠ .cls c)
  (hB : NoFn name) (hq : ∀ h' tk dx, s.heap.get? dx = none -> dx ≠ x -> h'.get? x = some { o with dict := some dx } -> h'.Ns1 dx (fun y => if y = name then some v else none) -> (∀ b ob, b ≠ x -> s.heap.get? b = some ob -> h'.get? b = some ob) -> Q () { s with heap := h', toks := tk }) : wpAny (model prog w) A (setAttr (.ref x) name v) Q E s := by
 have hT : ({ s with toks := s.toks + 1 } : Shared).TypeIs (.ref x) "function" := ⟨o, hx, hc⟩
 unfold setAttr
 refine wpAny_bind (wpAny_mkText (wpAny_bind ?_))
 refine wpAny_callSpecial?_slot hT fJ (wpAny_call_entry fJ hT PySem.F.store_object.entry ?_ (PySem.F.store_object.args _ _ _))
 rw [osa_eq, refuse_eq]
 refine wpAny_bind (wpAny_bind (wpAny_typeOf hT (wpAny_bind (wpAny_of_eq mro_fn ?_))))
 rw [refuse_fn]
 refine wpAny_pure (wpAny_bind (wpAny_typeOf hT (wpAny_bind (wpAny_of_eq hB (wpAny_bind (wpAny_of_eq (a := none) rfl ?_))))))
 dsimp only
 unfold storeInOwnDict
 refine wpAny_bind (wpAny_of_eq (a := ()) (by rfl) ?_)
 refine wpAny_bind ?_
 unfold ownDictForStores instanceDict
 refine wpAny_bind (wpAny_loadPart hx ?_)
 rw [hc]
 dsimp only
 refine wpAny_bind (wpAny_pure ?_)
 rw [hd]
 dsimp only
 rw [if_neg (by decide)]
 refine wpAny_bind (wpAny_pure ?_)
 split
 ·rename_i c q; exact absurd q (hdat c)
 obtain ⟨h, g, d, t, os⟩ := s
 have hx₁ : (h.push { cls := .type "dict", data := .dict #[] }).get? x = some o := Heap.get?_push_of_some _ hx
 have hxs : x ≠ h.objs.size := Nat.ne_of_lt (Heap.lt_size hx)
 refine wpAny_bind (wpAny_alloc' ?_)
 refine wpAny_bind (wpAny_update' hx₁ ?_)
 have hgd : ((h.push { cls := .type "dict", data := .dict #[] }).update x fun o => { cls := o.cls, dict := some h.objs.size, data := o.data, slots := o.slots }).get? h.objs.size
   = some { cls := .type "dict", data := .dict #[] } :=
  (Heap.get?_update_ne _ _ _ _ hxs.symm).trans (Heap.get?_push_at rfl rfl)
 have hnd : ((h.push { cls := .type "dict", data := .dict #[] }).update x fun o => { cls := o.cls, dict := some h.objs.size, data := o.data, slots := o.slots }).Ns h.objs.size (fun _ => none) :=
  ⟨_, #[], _, hgd, rfl, fun e he => absurd he (by simp), fun _ => rfl⟩
 unfold dictMade
 dsimp only
 rw [if_neg (by decide +kernel)]
 refine wpAny_pure ?_
 dsimp only
 unfold storeInDict newKeyGuard
 refine wpAny_bind (wpAny_pure (wpAny_bind (wpAny_nsSet1 (Heap.Ns1.of_empty hnd) fun h' hn' hs => ?_)))
 obtain ⟨oD, esD, epD, hoD, hdD, hcD⟩ := hn'.count (Within.cons name v Within.nil)
 refine wpAny_bind (wpAny_lookBehind hoD (by rw [hdD]; exact pastItsLine_dict (Nat.le_trans hcD (by rw [List.length_cons, List.length_nil, sizeLine_eq]; lia))) ?_)
 have hx' : h'.get? x = some { cls := o.cls, dict := some h.objs.size, data := o.data, slots := o.slots } := by
  refine (hs.2 x hxs).trans (Heap.get?_update_self _ hx₁ ?_)
  have hfr := (Heap.get?_some_iff.mp hx).2
  obtain ⟨oc, od, odt, osl⟩ := o
  cases odt <;> first | rfl | exact hfr
 refine wpAny_pure ⟨_, rfl, wpAny_pure (hq h' _ h.objs.size (aj h) hxs.symm hx' hn' fun b ob hbx hb => ?_)⟩
 exact (hs.2 b (Nat.ne_of_lt (Heap.lt_size hb))).trans ((Heap.get?_update_ne _ _ _ _ hbx).trans (Heap.get?_push_of_some _ hb))
end
end Mine
namespace Mine
variable {C : Cfg}
theorem lX {α : Type} {x : Str} {v : α} : ∀ {l : List (Str × α)}, (l.map (·.1)).Nodup -> (x, v) ∈ l -> l.lookup x = some v := by
 intro rv
 induction rv with
 | nil =>
  intro _ h
  exact cR h
 | cons hd l ih =>
  obtain ⟨y, u⟩ := hd
  intro n h
  simp only [List.map_cons, List.nodup_cons] at n
  rw [List.lookup_cons]
  rcases List.mem_cons.mp h with q | q
  ·cases q; rw [beq_self_eq_true]
  ·have : (x == y) = false := beq_eq_false_iff_ne.mpr fun w => n.1 (List.mem_map.mpr ⟨_, q, w⟩)
   rw [this]; exact ih n.2 q
theorem lookup_append {α : Type} {x : Str} : ∀ {l r : List (Str × α)}, (l ++ r).lookup x = (l.lookup x).or (r.lookup x)
 | [], r => rfl
 | (y, u) :: l, r => by
  rw [List.cons_append, List.lookup_cons, List.lookup_cons]
  cases x == y with
  | true => rfl
  | false => exact lookup_append
noncomputable abbrev fX : Str -> Prop := fun _ => False
noncomputable def jm (C : Cfg) (W : Addr -> Prop) (own : Own) (h : Heap) (cs : List (Str × Addr)) (sc : Scope) (ρf : Rho) : Prop :=
 ∀ x d, ρf.lookup x = some d -> sc.names.lookup x = some .free /\ (x == ("__classdict__" : Str)) = false /\ ∃ c v, cs.lookup x = some c /\ h.IsCell c (some v) /\ VT C W own h v d
noncomputable def CellsOk (C : Cfg) (h : Heap) (cs : List (Str × Addr)) : Prop := (∀ x c, cs.lookup x = some c -> h.get? c ≠ Option.none /\ ¬ C.Tb c) /\ ∀ x y c, cs.lookup x = some c -> cs.lookup y = some c -> x = y
theorem St.enter {env : Env} {sc : Scope} {cs : List (Str × Addr)} {L : Addr} {h₀ h h1 : Heap} {W : Addr -> Prop} {own0 : Own} {ns : List Str} {vs : List Value} {ds : List D} {ρf : Rho} (e1 : env.scope = sc) (e2 : env.locals = L) (e3 : env.globals = mainGlobals) (e4 : env.builtins = builtinsNs) (e5 : env.cells = cs)
  (hL : h.objs.size = L) (I : Inv C h) (keep : ∀ b o, h.get? b = some o -> h1.get? b = some o) (ns1 : h1.Ns L fun x => (ns.zip vs).reverse.lookup x) (hkd : sc.kind = .function)
  (hk : ∀ x ∈ ns, sc.names.lookup x = some .local) (hn : ns.Nodup) (hl : ns.length = ds.length) (tw : ∀ a, C.Tb a -> W a) (wo : WOk C h W) (k0 : ∀ b o, h₀.get? b = some o -> ¬ C.Tb b -> h.get? b = some o)
  (ow : ∀ p ∈ own0, bc C (Wof W own0) h p.1 p.2 /\ ¬ W p.1 /\ cz C p.1 /\ h₀.get? p.1 = Option.none) (nd : (own0.map (·.1)).Nodup) (z : ao C (Wof W own0) h vs ds)
  (fr : jm C (Wof W own0) own0 h cs sc ρf) (ck : CellsOk C h cs) : St C (fun b => W b ∨ b = L) h₀ env fX (ns.zip ds ++ ρf) own0 h1 := by
 subst e1 e2 e5
 have hlen : ns.length = vs.length := by rw [z.length, hl]
 have fL : h.get? env.locals = Option.none := by rw [<- hL]; exact aj h
 have back : ∀ b, h.get? b = Option.none -> h₀.get? b = Option.none := fun b e => by
  cases q : h₀.get? b with
  | none => rfl
  | some o =>
   by_cases t : C.Tb b
   ·obtain ⟨vs, z⟩ := C.tabHas h I.2 b t
    rw [e] at z; cases z
   ·rw [k0 b o q t] at e; cases e
 have hw0 : ∀ b o, h.get? b = some o -> (W b ∨ b = env.locals) -> W b := fun b o e q => by
  rcases q with q | q
  ·exact q
  ·rw [q, fL] at e; cases e
 have hw : ∀ b o, h.get? b = some o -> Wof (fun b => W b ∨ b = env.locals) own0 b -> Wof W own0 b := fun b o e q => q.imp (hw0 b o e) id
 have I1 : Inv C h1 := I.keeps keep
 refine ⟨I1, fun b o e n => keep b o (k0 b o e n), hkd, e3, e4, ⟨_, ns1⟩, .inr rfl, ⟨I.fresh_of_none fL, back _ fL⟩, fun y hy => hy.elim, fun y c l => ⟨?_, (ck.1 y c l).2⟩, fun y y' c a b => ck.2 y y' c a b, fun b q => .inl (tw b q), (wo.keeps keep).or fun b q => q ▸ .ns ns1, fun y e hy => ?_, fun p hp => ?_, nd⟩
 ·cases e : h.get? c with
  | none => exact absurd e (ck.1 y c l).1
  | some o => exact bw (keep c o e)
 ·rw [lookup_append] at hy
  cases e : (ns.zip ds).lookup y with
  | some d =>
   rw [e] at hy; cases hy
   obtain ⟨v, hv, zv⟩ := zip_val z hl e
   have hy' : y ∈ ns := (List.of_mem_zip hv).1
   refine ⟨v, .inl ⟨hk y hy', _, ns1, ?_⟩, .of (zv.kp (S := fun _ => False) (.of_all keep) (fun _ f => f.elim) hw)⟩
   refine lX ?_ (List.mem_reverse.mpr hv)
   rw [List.map_reverse, iy _ _ hlen]
   exact (List.reverse_perm ns).symm.nodup hn
  | none =>
   rw [e] at hy
   obtain ⟨f1, f2, c, v, f3, f4, f5⟩ := fr y _ hy
   exact ⟨v, .inr ⟨.inr ⟨f1, f2⟩, c, f3, bZ (S := fun _ => False) (.of_all keep) (fun f => f) f4⟩, f5.kp (S := fun _ => False) (.of_all keep) (fun _ f => f.elim) hw fun _ q => q⟩
 ·obtain ⟨o1, n1, f1, g1⟩ := ow p hp
  refine ⟨o1.kp2 (S := fun _ => False) (.of_all keep) (fun _ f => f.elim) hw (fun f => f), fun q => ?_, f1, g1⟩
  obtain ⟨o2, e2, _⟩ := o1.some
  exact n1 (hw0 _ _ e2 q)
noncomputable def ji (sc : Scope) : Prop := sc.names.all (fun p => match p.2 with | .cell => false | _ => true) = true
theorem ji.get {sc : Scope} (h : ji sc) : ∀ x ∈ sc.names, x.2 ≠ .cell := fun x hx q => by
 have := List.all_eq_true.mp h x hx
 rw [q] at this; cases this
noncomputable def PlainA (p : Arguments) (ns : List Str) : Prop := ∃ as ds, p = { posonlyargs := [], args := as, vararg := none, kwonlyargs := [], kw_defaults := [], kwarg := none, defaults := ds } /\ as.map (·.arg) = ns
section
variable {A : Around} {W : Addr -> Prop} {h₀ h : Heap} {vs : List Value} {ds : List D} {ns : List Str} {a : Addr} {o : Obj} {fd : FuncData} {ρf : Rho} {own0 : Own}
theorem Clo.run {r : Nat} {body : List Stmt} {P : D -> Own -> Prop} (ho : h.get? a = some o) (hd : o.data = .func fd) (hcd : h.CodeRec fd.code fd.qualname) (hb : fd.body = .stmts body) (hg : fd.globals = mainGlobals) (hbl : fd.builtins = builtinsNs)
  (hp : PlainA fd.params ns) (hdf : fd.defaults = .none) (hn : ns.Nodup) (hl : ns.length = ds.length) (hk : ∀ x ∈ ns, fd.scope.names.lookup x = some .local) (hnc : ji fd.scope)
  (x : ∀ env A', bL r A' -> env.scope = fd.scope -> env.cells = fd.closure -> ∀ W' h1, (∀ b, W b -> W' b) -> St C W' h₀ env fX (ns.zip ds ++ ρf) own0 h1 -> Tri C A' (execs body env) h1 (iw C W' h₀ env fX own0 h1 fun fd _ own' => (∃ d, fd = .ret d /\ P d own') ∨ (fd = .next /\ P .none own')))
  (R : bL (r + 1) A) (I : Inv C h) (tw : ∀ a, C.Tb a -> W a) (wo : WOk C h W) (k0 : ∀ b o, h₀.get? b = some o -> ¬ C.Tb b -> h.get? b = some o)
  (ow : ∀ p ∈ own0, bc C (Wof W own0) h p.1 p.2 /\ ¬ W p.1 /\ cz C p.1 /\ h₀.get? p.1 = Option.none) (nd : (own0.map (·.1)).Nodup) (z : ao C (Wof W own0) h vs ds)
  (fr : jm C (Wof W own0) own0 h fd.closure fd.scope ρf) (ck : CellsOk C h fd.closure)
  (hco : fd.scope.isCoroutine = false) (hgen : fd.scope.isGenerator = false) (hkd : fd.scope.kind = .function) : Tri C A (call (.ref a) vs) h fun v h' => nZ C W own0 h P v h' := by
 intro tk qQ qE qK
 have hlen : vs.length = ns.length := by rw [z.length, hl]
 obtain ⟨as, dd, ep, en⟩ := hp
 subst en
 refine wpAny_call (codeAny_call_function R.lim ho hd hco hgen hb hcd ?_)
 refine lg ep none (fun Q q => by rw [hdf]; exact wpAny_pure q) vs (by simpa using hlen) hn ?_
 refine wpAny_newFunctionEnv hnc.get (fun y hy => hk _ (List.of_mem_zip hy).1) (fun h1 ns1 sb => ?_) hkd
 have keep : ∀ b o, h.get? b = some o -> h1.get? b = some o := fun b o e => sb.extBut b o (Nat.ne_of_lt (Heap.lt_size e)) (Heap.get?_push_of_some _ e)
 refine ⟨((C.nolimit).keeps I.1).fresh _ sb, ?_⟩
 generalize henv : newEnv fd.scope (sh C h tk).heap.objs.size fd.globals fd.closure (fd.qualname ++ ".<locals>.") (some a) fd.code none fd.builtins = env
 have S : St C (fun b => W b ∨ b = h.objs.size) h₀ env fX (((as.map (·.arg)).zip ds) ++ ρf) own0 h1 :=
  .enter (by rw [<- henv]; rfl) (by rw [<- henv]; rfl) (by rw [<- henv]; exact hg) (by rw [<- henv]; exact hbl) (by rw [<- henv]; rfl) rfl I keep ns1 hkd hk hn hl tw wo k0 ow nd z fr ck
 refine codeAny_func ?_
 refine (x env (A.deeper env) R.deeper (by rw [<- henv]; rfl) (by rw [<- henv]; rfl) _ h1 (fun _ q => .inl q) S).use ?_
 rintro f h2 tk2 ⟨fd', ρ', own', p, S2, fi, k2, g2⟩
 have el : env.locals = h.objs.size := by rw [<- henv]; rfl
 have kp : Kp (fun b => C.Tb b ∨ b ∈ own0.map (·.1)) h h2 := fun b o e n => k2 b o (keep b o e) fun q => by
  rcases q with q | q | ⟨y, f, q⟩ | q
  ·exact n (.inl q)
  ·rw [q, el, aj] at e; cases e
  ·exact f
  ·exact n (.inr q)
 have g0 : d7 own0 own' h := fun b hb => (g2 b hb).imp id fun q => by
  cases e : h.get? b with
  | none => rfl
  | some o => rw [keep b o e] at q; cases q
 have sub : ∀ b, Wof W own' b -> Wof (fun b => W b ∨ b = h.objs.size) own' b := fun b q => q.imp .inl id
 have ow' : ∀ p ∈ own', bc C (Wof W own') h2 p.1 p.2 /\ ¬ W p.1 /\ cz C p.1 := fun p hp => by
  obtain ⟨o1, n1, f1, _⟩ := S2.owns p hp
  exact ⟨o1.kp2 (S := fun _ => False) (.refl _) (fun _ f => f.elim) (fun b _ _ q => sub b q) (fun f => f), fun q => n1 (.inl q), f1⟩
 rcases p with ⟨d, rfl, p⟩ | ⟨rfl, p⟩
 ·cases f <;> first | exact fi.elim | skip
  exact (qK _ h2 tk2 ⟨d, own', p, S2.inv, kp, g0, S2.nodup, ow', Val.kp (S := fun _ => False) (.refl _) (fun _ f => f.elim) (fun b _ _ q => sub b q) fi⟩)
 ·cases f <;> first | exact fi.elim | skip
  exact (qK _ h2 tk2 ⟨.none, own', p, S2.inv, kp, g0, S2.nodup, ow', .none⟩)
theorem Lam.run {r : Nat} {body : Expr} {d : D} (ho : h.get? a = some o) (hd : o.data = .func fd) (hcd : h.CodeRec fd.code fd.qualname) (hb : fd.body = .expr body) (hg : fd.globals = mainGlobals) (hbl : fd.builtins = builtinsNs)
  (hp : PlainA fd.params ns) (hdf : fd.defaults = .none) (hn : ns.Nodup) (hl : ns.length = ds.length) (hk : ∀ x ∈ ns, fd.scope.names.lookup x = some .local) (hnc : ji fd.scope)
  (x : Ev C r fd.scope (ns.zip ds ++ ρf) [] body d) (R : bL (r + 1) A) (I : Inv C h) (tw : ∀ a, C.Tb a -> W a) (wo : WOk C h W)
  (z : ao C W h vs ds) (fr : jm C W [] h fd.closure fd.scope ρf) (ck : CellsOk C h fd.closure)
  (hco : fd.scope.isCoroutine = false) (hgen : fd.scope.isGenerator = false) (hkd : fd.scope.kind = .function) : Tri C A (call (.ref a) vs) h fun v h' => Ext C h h' /\ Val C W h' v d := by
 intro tk qQ qE qK
 have hlen : vs.length = ns.length := by rw [z.length, hl]
 obtain ⟨as, dd, ep, en⟩ := hp
 subst en
 have w0 : ∀ b o, h.get? b = some o -> Wof W [] b -> W b := fun b o _ q => q.elim id fun q => cR q
 refine wpAny_call (kla_callFunE R.lim ho hd hco hgen hb hcd ?_)
 refine lg ep none (fun Q q => by rw [hdf]; exact wpAny_pure q) vs (by simpa using hlen) hn ?_
 refine wpAny_newFunctionEnv hnc.get (fun y hy => hk _ (List.of_mem_zip hy).1) (fun h1 ns1 sb => ?_) hkd
 have keep : ∀ b o, h.get? b = some o -> h1.get? b = some o := fun b o e => sb.extBut b o (Nat.ne_of_lt (Heap.lt_size e)) (Heap.get?_push_of_some _ e)
 refine ⟨((C.nolimit).keeps I.1).fresh _ sb, ?_⟩
 generalize henv : newEnv fd.scope (sh C h tk).heap.objs.size fd.globals fd.closure (fd.qualname ++ ".<locals>.") (some a) fd.code none fd.builtins = env
 have z' : ao C (Wof W []) h vs ds := z.kp (S := fun _ => False) (.refl _) (fun _ f => f.elim) w0
 have fr' : jm C (Wof W []) [] h fd.closure fd.scope ρf := fun x d e => by
  obtain ⟨f1, f2, c, v, f3, f4, f5⟩ := fr x d e
  exact ⟨f1, f2, c, v, f3, f4, f5.kp (S := fun _ => False) (.refl _) (fun _ f => f.elim) w0 fun _ q => q⟩
 have S : St C (fun b => W b ∨ b = h.objs.size) h env fX (((as.map (·.arg)).zip ds) ++ ρf) [] h1 :=
  .enter (by rw [<- henv]; rfl) (by rw [<- henv]; rfl) (by rw [<- henv]; exact hg) (by rw [<- henv]; exact hbl) (by rw [<- henv]; rfl) rfl I keep ns1 hkd hk hn hl tw wo (fun _ _ e _ => e) (fun p hp => cR hp) .nil z' fr' ck
 refine kla_codeExpr ?_
 refine (x.go (A.deeper env) env _ h _ h1 R.deeper (az (by rw [<- henv]; rfl)) S).use2 fun v h2 tk2 x2 z2 => ?_
 refine (qK _ h2 tk2 ⟨⟨fun b o e n => x2.1 b o (keep b o e) n, x2.2⟩, z2.kp (S := fun _ => False) (.refl _) (fun _ f => f.elim) fun b _ _ q => .inl (.inl q)⟩)
end
theorem iw.step {A : Around} {W : Addr -> Prop} {h₀ : Heap} {env : Env} {O : Str -> Prop} {ρ : Rho} {own : Own} {h : Heap} {s : Stmt} {ss : List Stmt} {P : aZ}
  (S : St C W h₀ env O ρ own h) (x : Tri C A (exec s env) h (iw C W h₀ env O own h fun f ρ' own' => match f with | .next => ∀ h1, St C W h₀ env O ρ' own' h1 -> Tri C A (execs ss env) h1 (iw C W h₀ env O own' h1 P) | f => P f ρ' own')) :
  Tri C A (execs (s :: ss) env) h (iw C W h₀ env O own h P) := by
 intro tk qQ qE qK
 refine wpAny_execs_cons (x.useX fun f h1 tk1 fd ρ1 own1 p S1 fi k1 g1 => ?_)
 cases f <;> cases fd <;> first | exact fi.elim | skip
 ·refine (p h1 S1).useX fun f h2 tk2 fd ρ2 own2 p2 S2 fi2 k2 g2 => ?_
  obtain ⟨m, n⟩ := S1.ns
  exact (qK _ h2 tk2 ⟨fd, ρ2, own2, p2, S2, fi2, k1.seq g1 k2, g1.trans k1 g2 S1.inv.2 S1.cells' (by obtain ⟨o, _, _, e, _⟩ := n; exact bw (e))⟩)
 ·exact (qK _ h1 tk1 ⟨.brk, ρ1, own1, p, S1, trivial, k1, g1⟩)
 ·exact (qK _ h1 tk1 ⟨.cont, ρ1, own1, p, S1, trivial, k1, g1⟩)
 ·exact (qK _ h1 tk1 ⟨.ret _, ρ1, own1, p, S1, fi, k1, g1⟩)
noncomputable def Agree (env : Env) (cs : List (Str × Addr)) : Prop := ∀ x c, cs.lookup x = some c -> env.cells.lookup x = some c
noncomputable def HasCs (sc : Scope) (cs : List (Str × Addr)) : Prop := ∀ x, sc.names.lookup x = some .free -> ∃ c, cs.lookup x = some c
structure Xa (C : Cfg) (r : Nat) (sc : Scope) (cs : List (Str × Addr)) (O : Str -> Prop) (ρ : Rho) (own : Own) (ss : List Stmt) (P : aZ) : Prop where
 go : ∀ A env W h₀ h, bL r A -> env.scope = sc -> Agree env cs -> St C W h₀ env O ρ own h -> Tri C A (execs ss env) h (iw C W h₀ env O own h P)
structure X1a (C : Cfg) (r : Nat) (sc : Scope) (cs : List (Str × Addr)) (O : Str -> Prop) (ρ : Rho) (own : Own) (s : Stmt) (P : aZ) : Prop where
 go : ∀ A env W h₀ h, bL r A -> env.scope = sc -> Agree env cs -> St C W h₀ env O ρ own h -> Tri C A (exec s env) h (iw C W h₀ env O own h P)
structure Eva (C : Cfg) (r : Nat) (sc : Scope) (cs : List (Str × Addr)) (ρ : Rho) (own : Own) (e : Expr) (d : D) : Prop where
 go : ∀ A env W h₀ O h, bL r A -> GlobOf env sc -> env.scope = sc -> Agree env cs -> St C W h₀ env O ρ own h -> Tri C A (eval e env) h fun v h' => Ext C h h' /\ Val C (Wof W own) h' v d
section
variable {r : Nat} {sc csc : Scope} {cs : List (Str × Addr)} {O : Str -> Prop} {ρ ρf : Rho} {own : Own} {P : aZ} {cd : Value}
theorem X.a {ss : List Stmt} (y : X C r sc O ρ own ss P) : Xa C r sc cs O ρ own ss P := ⟨fun A env W h₀ h R G _ S => y.go A env W h₀ h R G S⟩
theorem X1.a {s : Stmt} (y : X1 C r sc O ρ own s P) : X1a C r sc cs O ρ own s P := ⟨fun A env W h₀ h R G _ S => y.go A env W h₀ h R G S⟩
theorem Ev.a {e : Expr} {d : D} (y : Ev C r sc ρ own e d) : Eva C r sc cs ρ own e d := ⟨fun A env W h₀ O h R G _ _ S => y.go A env W h₀ O h R G S⟩
theorem Xa.cons {s : Stmt} {ss : List Stmt} (x : X1a C r sc cs O ρ own s fun f ρ' own' => match f with | .next => Xa C r sc cs O ρ' own' ss P | f => P f ρ' own') : Xa C r sc cs O ρ own (s :: ss) P := ⟨fun A env W h₀ h R G ag S =>
 iw.step S ((x.go A env W h₀ h R G ag S).mono (by rintro f h' ⟨fd, ρ1, own1, p, q1, q2, q3, q4⟩; exact ⟨fd, ρ1, own1, by cases fd with | next => exact fun h1 S1 => p.go A env W h₀ h1 R G ag S1 | _ => exact p, q1, q2, q3, q4⟩))⟩
theorem Xa.nil (p : P .next ρ own) : Xa C r sc cs O ρ own [] P := (X.nil p).a
theorem X1a.iff {t : Expr} {b : Bool} {ss es : List Stmt} {pos : Pos} (x : Tst C r sc ρ own t b) (y : b = true -> Xa C r sc cs O ρ own ss P) (z : b = false -> Xa C r sc cs O ρ own es P) : X1a C r sc cs O ρ own (.If t ss es pos) P := by
 constructor; intro A env W h₀ h R G ag S tk qQ qE qK
 refine wpAny_If ((x.go A env W h₀ O h R (az G) S).use2 fun v h1 tk1 e1 q => ?_)
 subst q
 have k1 : Kp (Mut C env O own) h h1 := e1.1.mono fun _ q => .inl q
 have gn : ∀ {own' : Own}, d7 own own' h1 -> d7 own own' h := fun g a ha => (g a ha).imp id fun q => e1.none_back q
 have k : ∀ ss, Xa C r sc cs O ρ own ss P -> wpAny (md C) A (execs ss env) qQ qE (sh C h1 tk1) := fun ss y =>
  (y.go A env W h₀ h1 R G ag (S.ext e1)).use (by rintro f h2 tk2 ⟨fd, ρ2, own2, p2, S2, f2, k2, g2⟩; exact (qK _ h2 tk2 ⟨fd, ρ2, own2, p2, S2, f2, k1.trans k2, gn g2⟩))
 cases v with
 | true => exact k _ (y rfl)
 | false => exact k _ (z rfl)
theorem Eva.bin {a b : Expr} {op : Operator} {pos : Pos} {d1 d2 d : D} (x : Eva C r sc cs ρ own a d1) (y : Eva C r sc cs ρ own b d2) (k : bh C op d1 d2 d) : Eva C r sc cs ρ own (.BinOp a op b pos) d := by
 constructor; intro A env W h₀ O h R G G' ag S tk qQ qE qK
 refine wpAny_BinOp ((x.go A env W h₀ O h R G G' ag S).use2 fun v1 h1 tk1 e1 z1 => ?_)
 have S1 := S.ext e1
 refine (y.go A env W h₀ O h1 R G G' ag S1).use2 fun v2 h2 tk2 e2 z2 => ?_
 have S2 := S1.ext e2
 exact (k A (Wof W own) h2 v1 v2 R.1 S2.inv S2.tw S2.wOld' (z1.ext e2 S.tw) z2).use2 fun v h3 tk3 e3 z3 => (qK _ h3 tk3 ⟨(e1.trans e2).trans e3, z3⟩)
theorem X1a.ret {e : Expr} {pos : Pos} {d : D} (x : Eva C r sc cs ρ own e d) (p : P (.ret d) ρ own) : X1a C r sc cs O ρ own (.Return (some e) pos) P := by
 constructor; intro A env W h₀ h R G ag S tk qQ qE qK
 exact wpAny_Return_some ((x.go A env W h₀ O h R (az G) G ag S).use2 fun v h1 tk1 e1 z => (qK _ h1 tk1 ⟨.ret d, ρ, own, p, S.ext e1, z, e1.1.mono fun _ q => .inl q, fun a q => .inl q⟩))
noncomputable def jb (sc csc : Scope) (ρ ρf : Rho) : Prop := ∀ x d, ρf.lookup x = some d -> ρ.lookup x = some d /\ csc.names.lookup x = some .free /\ (x == ("__classdict__" : Str)) = false /\ (sc.names.lookup x = some .cell ∨ sc.names.lookup x = some .free)
theorem St.frees {W : Addr -> Prop} {h₀ h : Heap} {env : Env} (S : St C W h₀ env O ρ own h) (G : env.scope = sc) (ag : Agree env cs) (hs : HasCs csc cs) (hf : jb sc csc ρ ρf) : jm C (Wof W own) own h cs csc ρf := by
 intro x d e
 obtain ⟨e1, e2, e3, e4⟩ := hf x d e
 obtain ⟨c, hc⟩ := hs x e2
 obtain ⟨v, b, z⟩ := S.bound x d e1
 refine ⟨e2, e3, c, v, hc, ?_, z⟩
 have k : env.kindOf x = sc.names.lookup x := by rw [<- G]; rfl
 rcases b with ⟨q, _⟩ | ⟨_, c', l, i⟩
 ·rw [k] at q; rw [q] at e4; rcases e4 with e4 | e4 <;> cases e4
 ·rw [ag x c hc] at l; cases l; exact i
theorem St.cellsOk {W : Addr -> Prop} {h₀ h : Heap} {env : Env} (S : St C W h₀ env O ρ own h) (ag : Agree env cs) : CellsOk C h cs :=
 ⟨fun x c l => S.seen x c (ag x c l), fun x y c l l' => S.apart x y c (ag x c l) (ag y c l')⟩
theorem St.swap {W : Addr -> Prop} {h₀ h h' : Heap} {env : Env} {own' : Own} (S : St C W h₀ env O ρ own h) (I : Inv C h') (k : Kp (fun b => C.Tb b ∨ b ∈ own.map (·.1)) h h') (e : own'.map (·.1) = own.map (·.1))
  (ow : ∀ p ∈ own', bc C (Wof W own') h' p.1 p.2) : St C W h₀ env O ρ own' h' := by
 have ew : Wof W own' = Wof W own := Wof.congr e
 have sW : ∀ a, (C.Tb a ∨ a ∈ own.map (·.1)) -> Wof W own a := fun a q => q.elim (S.tw a) .inr
 have nL : ¬ (C.Tb env.locals ∨ env.locals ∈ own.map (·.1)) := fun q => q.elim S.nsF.1.2 (S.own_ne S.nsW)
 have nC : ∀ c v, h.IsCell c v -> ¬ (C.Tb c ∨ c ∈ own.map (·.1)) := fun c v i q => q.elim (S.inv.cell_notTb i) fun q => by
  obtain ⟨p, hp, rfl⟩ := List.mem_map.mp q
  exact (S.owns p hp).1.fX i
 have old : ∀ p ∈ own', ¬ W p.1 /\ cz C p.1 /\ h₀.get? p.1 = Option.none := fun p hp => by
  obtain ⟨p', hp', e'⟩ := List.mem_map.mp (show p.1 ∈ own.map (·.1) from e ▸ List.mem_map.mpr ⟨p, hp, rfl⟩)
  have := (S.owns p' hp').2
  rw [e'] at this; exact this
 refine ⟨I, fun b o q n => k b o (S.keep b o q n) fun w => w.elim n fun w => ?_, S.kind, S.glob, S.blt, ?_, S.nsW, S.nsF, fun y hy => ?_, fun y c l => ⟨?_, (S.seen y c l).2⟩, S.apart, S.tbW, S.wok.kp I k fun a q => q.imp id fun q => ?_, fun y d q => ?_, fun p hp => ⟨ow p hp, old p hp⟩, by rw [e]; exact S.nodup⟩
 ·obtain ⟨p, hp, rfl⟩ := List.mem_map.mp w
  rw [(S.owns p hp).2.2.2] at q; cases q
 ·obtain ⟨m, n⟩ := S.ns; exact ⟨m, jA k nL n⟩
 ·obtain ⟨c, v, l, i, w⟩ := S.cells y hy; exact ⟨c, v, l, bZ k (nC c v i) i, w⟩
 ·by_cases w : c ∈ own.map (·.1)
  ·obtain ⟨p, hp, e'⟩ := List.mem_map.mp (show c ∈ own'.map (·.1) from e ▸ w)
   exact e' ▸ (ow p hp).plainly.ne
  ·cases q : h.get? c with
   | none => exact absurd q (S.seen y c l).1
   | some o => exact bw (k c o q fun z => z.elim (S.seen y c l).2 w)
 ·obtain ⟨p, hp, e'⟩ := List.mem_map.mp (show a ∈ own'.map (·.1) from e ▸ q)
  exact e' ▸ (ow p hp).plainly
 ·obtain ⟨v, b, z⟩ := S.bound y d q
  refine ⟨v, b.kp k (fun m n => nL) nC, ?_⟩
  rw [ew]
  exact z.kp k sW (fun _ _ _ q => q) fun b q => by rw [e]; exact q
noncomputable abbrev lF (C : Cfg) (r : Nat) (tag : Nat) (cs : List (Str × Addr)) (ns : List Str) (ds : List D) (ρf : Rho) (own0 : Own) (Q : D -> Own -> Prop) : Prop :=
 Xa C r (C.clo tag).2.2 cs fX (ns.zip ds ++ ρf) own0 (C.clo tag).2.1 fun f _ own' => (∃ d, f = .ret d /\ Q d own') ∨ (f = .next /\ Q .none own')
structure CloIs (C : Cfg) (tag : Nat) (ns : List Str) : Prop where
 par : PlainA (C.clo tag).1 ns
 nd : ns.Nodup
 loc : ∀ x ∈ ns, (C.clo tag).2.2.names.lookup x = some .local
 noc : ji (C.clo tag).2.2
 co : (C.clo tag).2.2.isCoroutine = false
 gen : (C.clo tag).2.2.isGenerator = false
 kd : (C.clo tag).2.2.kind = .function
theorem clo_call {tag : Nat} {ns : List Str} {ds : List D} {own0 : Own} {Q : D -> Own -> Prop} {A : Around} {W : Addr -> Prop} {h₀ h : Heap} {v : Value} {vs : List Value} (ci : CloIs C tag ns) (hl : ns.length = ds.length)
  (x : lF C r tag cs ns ds ρf own0 Q) (R : bL (r + 1) A) (I : Inv C h) (tw : ∀ a, C.Tb a -> W a) (wo : WOk C h W) (k0 : ∀ b o, h₀.get? b = some o -> ¬ C.Tb b -> h.get? b = some o)
  (ow : ∀ p ∈ own0, bc C (Wof W own0) h p.1 p.2 /\ ¬ W p.1 /\ cz C p.1 /\ h₀.get? p.1 = Option.none) (nd : (own0.map (·.1)).Nodup) (zf : Val C W h v (.clo tag cs)) (z : ao C (Wof W own0) h vs ds)
  (fr : jm C (Wof W own0) own0 h cs (C.clo tag).2.2 ρf) (ck : CellsOk C h cs) : Tri C A (call v vs) h fun v h' => nZ C W own0 h Q v h' := by
 obtain ⟨a, rfl, @⟨c, o, co, fd, cvs, t, e1, _, e3, ⟨c1, c2, c3, c4, c5, c6, c7, c8, c9⟩, e4, e5, e6, n1, n2⟩⟩ := zf.clo_inv
 have hcr : h.CodeRec fd.code fd.qualname := by rw [c9]; exact ⟨c, co, cvs, t, rfl, e4, e5, e6⟩
 subst c6
 rw [<- c3] at fr
 refine Clo.run (ρf := ρf) (P := Q) e1 e3 hcr c2 c4 c5 (by rw [c1]; exact ci.par) c7 ci.nd hl (by rw [c3]; exact ci.loc) (by rw [c3]; exact ci.noc) (fun env A' R' G' ec W' h1 _ S' => ?_) R I tw wo k0 ow nd z fr ck (by rw [c3]; exact ci.co) (by rw [c3]; exact ci.gen) (by rw [c3]; exact ci.kd)
 exact x.go A' env W' h₀ h1 R' (by rw [G', c3]) (fun x c l => by rw [ec]; exact l) S'
theorem Eva.callClo {f : Str} {p pos : Pos} {e : Expr} {es : List Expr} {tag : Nat} {ns : List Str} {ds : List D} {d : D} (hf : ρ.lookup f = some (.clo tag cs)) (y : EvL C (r + 1) sc ρ own (e :: es) ds) (ci : CloIs C tag ns) (hl : ns.length = ds.length) (hs : HasCs (C.clo tag).2.2 cs)
  (fo : jb sc (C.clo tag).2.2 ρ ρf) (nof : ∀ x d, ρf.lookup x = some d -> bU d) (x : lF C r tag cs ns ds ρf [] fun d' own' => d' = d /\ own' = []) (n : autoParam (notStar e = true) tacR) (hd : autoParam ((f == ("__debug__" : Str)) = false) tacD) :
  Eva C (r + 1) sc cs ρ own (.Call (.Name f p) (e :: es) [] pos) d := by
 constructor; intro A env W h₀ O h R G G' ag S tk qQ qE qK
 refine wpAny_Call_NameR (((Ev.name (r := r + 1) hf (by rfl) hd).go A env W h₀ O h R G S).use2 fun v h1 tk1 e1 zv => ?_)
 have S1 := S.ext e1
 obtain ⟨a, rfl, @⟨c, o, co, fd, cvs, t, q1, q2, q3, _, _, _, _, q4, _⟩⟩ := zv.clo_inv
 refine callWith_def q3 ((y.go A env W h₀ O h1 pos R G S1).use2 fun vs h2 tk2 x2 z2 => ?_) (aJ e es env n)
 have S2 := S1.ext x2
 have zv2 := zv.ext x2 S.tw
 refine ⟨x2.1 _ _ q1 fun q => q4 (S.tw a q), ?_⟩
 have w0 : ∀ b o, h2.get? b = some o -> Wof (Wof W own) [] b -> Wof W own b := fun b o _ q => q.elim id fun q => cR q
 refine (clo_call (W := Wof W own) (own0 := []) (h₀ := h2) ci hl x R S2.inv S2.tw S2.wok' (fun _ _ e _ => e) (fun p hp => cR hp) .nil zv2 (z2.kp (S := fun _ => False) (.refl _) (fun _ f => f.elim) w0) (fun y d e => ?_) (S2.cellsOk ag)).use ?_
 ·obtain ⟨f1, f2, c, v, f3, f4, f5⟩ := (S2.frees G' ag hs fo) y d e
  exact ⟨f1, f2, c, v, f3, f4, .of ((f5.val (nof y d e)).kp (S := fun _ => False) (.refl _) (fun _ f => f.elim) w0)⟩
 ·rintro u h3 tk3 ⟨d', own', ⟨p1, p2⟩, I3, k3, _, _, _, z3⟩
  subst p1 p2
  have e3 : Ext C h2 h3 := ⟨fun b o e n => k3 b o e fun q => q.elim n (fun q => by cases q), I3⟩
  exact (qK _ h3 tk3 ⟨(e1.trans x2).trans e3, z3.kp (S := fun _ => False) (.refl _) (fun _ f => f.elim) fun b _ _ q => .inl q⟩)
theorem X1a.callClo {f : Str} {p epos pos : Pos} {e : Expr} {es : List Expr} {tag : Nat} {ns : List Str} {ds : List D} {Q : D -> Own -> Prop} (hf : ρ.lookup f = some (.clo tag cs)) (y : EvL C (r + 1) sc ρ own (e :: es) ds) (ci : CloIs C tag ns) (hl : ns.length = ds.length) (hs : HasCs (C.clo tag).2.2 cs)
  (fo : jb sc (C.clo tag).2.2 ρ ρf) (x : lF C r tag cs ns ds ρf own Q) (same : ∀ d own', Q d own' -> own'.map (·.1) = own.map (·.1)) (pp : ∀ d own', Q d own' -> P .next ρ own')
  (n : autoParam (notStar e = true) tacR) (hd : autoParam ((f == ("__debug__" : Str)) = false) tacD)
  (hi : autoParam (∀ env, swapsWith (.Call (.Name f p) (e :: es) [] epos) none pos.line env = pure false) tacI1) :
  X1a C (r + 1) sc cs O ρ own (.Expr (.Call (.Name f p) (e :: es) [] epos) pos) P := by
 constructor; intro A env W h₀ h R G ag S tk qQ qE qK
 have GO := az (env := env) G
 refine wpAny_Expr_any ?_ (scope_kind S) (hi env)
 refine wpAny_Call_NameR (((Ev.name (r := r + 1) hf (by rfl) hd).go A env W h₀ O h R GO S).use2 fun v h1 tk1 e1 zv => ?_)
 have S1 := S.ext e1
 obtain ⟨a, rfl, @⟨c, o, co, fd, cvs, t, q1, q2, q3, _, _, _, _, q4, _⟩⟩ := zv.clo_inv
 refine callWith_def q3 ((y.go A env W h₀ O h1 epos R GO S1).use2 fun vs h2 tk2 x2 z2 => ?_) (aJ e es env n)
 have S2 := S1.ext x2
 have zv2 := zv.ext x2 S.tw
 refine ⟨x2.1 _ _ q1 fun q => q4 (S.tw a q), ?_⟩
 refine (clo_call (W := W) (own0 := own) (h₀ := h₀) ci hl x R S2.inv S2.tbW S2.wok S2.keep S2.owns S2.nodup (zv2.kp (S := fun _ => False) (.refl _) (fun _ f => f.elim) fun _ _ _ q => .inl q) z2 (S2.frees G ag hs fo) (S2.cellsOk ag)).use ?_
 rintro u h3 tk3 ⟨d', own', q, I3, k3, g3, _, o3, _⟩
 have e12 := e1.trans x2
 exact (qK _ h3 tk3 ⟨.next, ρ, own', pp _ _ q, S2.swap I3 k3 (same _ _ q) (fun p hp => (o3 p hp).1), trivial, fun b o e n => k3 b o (e12.1 b o e fun t => n (.inl t)) (fun w => w.elim (fun t => n (.inl t)) fun w => n (.inr (.inr (.inr w)))), fun b hb => (g3 b hb).imp id fun w => e12.none_back w⟩)
theorem Xc.cons {s : Stmt} {ss : List Stmt} (x : X1 C r sc O ρ own s fun f ρ' own' => match f with | .next => Xc C r sc cd O ρ' own' ss P | f => P f ρ' own') : Xc C r sc cd O ρ own (s :: ss) P := ⟨fun A env W h₀ h R G Gc S =>
 iw.step S ((x.go A env W h₀ h R G S).mono (by rintro f h' ⟨fd, ρ1, own1, p, q1, q2, q3, q4⟩; exact ⟨fd, ρ1, own1, by cases fd with | next => exact fun h1 S1 => p.go A env W h₀ h1 R G Gc S1 | _ => exact p, q1, q2, q3, q4⟩))⟩
theorem Xc.defc {name : Str} {params : Arguments} {body : List Stmt} {scope : Scope} {pos : Pos} {c Pt : Addr} {tag : Nat} {ss : List Stmt} (hq : (c, Pt) ∈ C.tabs) (hqn : ∀ q, C.hB.CodeRec (.ref c) q -> C.qn Pt pos.line pos.col = q ++ (".<locals>." : Str) ++ name)
  (ht : C.clo tag = (params, body, scope)) (k : Sto sc O name) (cap : ∀ x, (x, NameKind.free) ∈ scope.names -> O x) (rest : ∀ cs, HasCs scope cs -> Xa C r sc cs O ((name, .clo tag cs) :: ρ) own ss P)
  (hnm : autoParam ((sc.names.lookup name == some .globalExplicit) = false) tacR) (hd0 : autoParam (params.defaults = []) tacR) (hk0 : autoParam (params.kw_defaults = []) tacR) (ha : autoParam (∀ env, annTrees params none env = []) tacI1) :
  Xc C r sc (.ref c) O ρ own (.FunctionDef name params body [] none [] scope none name pos :: ss) P := by
 constructor; intro A env W h₀ h R G ⟨Gc, q, hcr, hql⟩ S
 have hcl : ∀ x, (x, NameKind.free) ∈ scope.names -> ∃ c, env.cells.lookup x = some c := fun x hx => by
  obtain ⟨c, v, l, _⟩ := S.cells x (cap x hx); exact ⟨c, l⟩
 have hqn' : C.qn Pt pos.line pos.col = qualnameIn env name name := by
  unfold qualnameIn
  have : (env.kindOf name == some .globalExplicit) = false := by rw [show env.kindOf name = sc.names.lookup name by rw [<- G]; rfl]; exact hnm
  rw [this, hqn q hcr, hql]; rfl
 have ag : Agree env (dR env.cells scope.names []) := fun x c l => by
  obtain ⟨a, b⟩ := iY l
  obtain ⟨c', l'⟩ := hcl x a
  rw [l'] at b; rw [l', b]; rfl
 have hs : HasCs scope (dR env.cells scope.names []) := fun x hx => capt_has _ _ _ (mem_of_lookup hx) |>.elim fun c hc => dN hc
 refine iw.step S fun tk qQ qE qK => ?_
 refine nestDef_K hd0 hk0 (ha env) ((make_def (A := A) S Gc hq (dg hcl) hqn').use ?_)
 rintro v h1 tk1 ⟨f, c', ctv, pm, doc, ev, e1, f0, ho, hr, nt, ntf⟩
 subst ev
 have S1 := S.ext e1
 have nf : ¬ Wof W own f := fun w => S.wOld' f w f0
 have nc : ¬ Wof W own c' := S1.wok'.noCode hr nt
 obtain ⟨c2, oc, vs, u, q1, q2, q3, q4⟩ := hr
 cases q1
 have zf : Val C (Wof W own) h1 (.ref f) (.clo tag (dR env.cells scope.names [])) := .clo (.mk ho rfl rfl ⟨by rw [ht], by rw [ht], by rw [ht], rfl, rfl, rfl, rfl, rfl, rfl⟩ q2 q3 q4 nf nc)
 refine (S1.store (A := A) (d := .clo tag (dR env.cells scope.names [])) (bQ G name k) (.of zf)).use2 fun _ h2 tk2 S2 k2 => ?_
 exact (qK _ h2 tk2 ⟨.next, _, own, fun h3 S3 => (rest _ hs).go A env W h₀ h3 R G ag S3, S2, trivial, (e1.1.mono fun _ q => .inl q).trans (k2.mono fun _ q => q.mut), fun a q => .inl q⟩)
end
theorem method_fn {prog : Program} {w : World} {A : Around} {E : Value -> Shared -> Prop} {s : Shared} {x dx : Addr} {o : Obj} {m : Str -> Option Value} {name : Str} {v : Value} {pl : Sem Bool} {Q : Value × List Value -> Shared -> Prop} (hx : s.heap.get? x = some o) (hc : o.cls = .type "function") (hd : o.dict = some dx) (hdat : ∀ c, o.data ≠ .cls c) (hns : s.heap.Ns dx m) (hv : m name = some v)
  (hB : NoFn name) (hh : handedOut v = pure v) (hq : Q (v, []) { s with toks := s.toks + 1 }) : wpAny (model prog w) A (getMethod (.ref x) name pl) Q E s := by
 have hT : s.TypeIs (.ref x) "function" := ⟨o, hx, hc⟩
 unfold getMethod
 refine wpAny_bind (wpAny_specialOf hT fK.lookup ?_)
 dsimp only
 rw [F.canon_object_ga]
 refine bW Bool.false_ne_true ?_
 refine wpAny_bind (wpAny_specialOf hT fn_no_getattr ?_)
 refine bW Bool.false_ne_true ?_
 refine wpAny_bind (wpAny_specialOf hT hB ?_)
 exact wpAny_bind (get_fn hx hc hd hdat hns hv hB hh (wpAny_pure hq))
theorem cu.get {W : Addr -> Prop} {h : Heap} {cs : List (Str × Addr)} {x : Str} {d : D} {fs : List (Str × D)} (z : cu C W h cs fs) : fs.lookup x = some d -> ∃ c v, cs.lookup x = some c /\ h.IsCell c (some v) /\ ¬ W c /\ Val C W h v d := by
 refine cu.ind (P := fun cs fs => fs.lookup x = some d -> ∃ c v, cs.lookup x = some c /\ h.IsCell c (some v) /\ ¬ W c /\ Val C W h v d) (fun e => eG e) (fun {cs y c v d' ds} e i n z _ ih q => ?_) z
 rw [ak] at q
 by_cases w : x = y
 ·rw [if_pos w] at q
  have q := Option.some.inj q
  subst w; subst q; exact ⟨_, _, e, i, n, z⟩
 ·rw [if_neg w] at q; exact ih q
theorem lookup_of_fst {α β : Type} {x : Str} {c : α} {l : List (Str × α)} {f : List (Str × β)} (h : l.lookup x = some c) (e : l.map (·.1) = f.map (·.1)) : ∃ d, f.lookup x = some d := by
 have : x ∈ f.map (·.1) := e ▸ List.mem_map.mpr ⟨_, mem_of_lookup h, rfl⟩
 obtain ⟨⟨y, d⟩, hm, rfl⟩ := List.mem_map.mp this
 exact dN hm
theorem rule_cells {W : Addr -> Prop} {h : Heap} {cs : List (Str × Addr)} {fs : List (Str × D)} (I : Inv C h) (z : cu C W h cs fs) (e : cs.map (·.1) = fs.map (·.1)) (nd : (cs.map (·.2)).Nodup) : CellsOk C h cs := by
 refine ⟨fun x c l => ?_, fun x y c l l' => ?_⟩
 ·obtain ⟨d, hd⟩ := lookup_of_fst l e
  obtain ⟨c', v, l', i, _⟩ := z.get hd
  rw [l] at l'; cases l'
  exact ⟨(bz.cell i).ne, I.cell_notTb i⟩
 ·have m1 := mem_of_lookup l
  have m2 := mem_of_lookup l'
  clear l l' z e
  induction cs with
  | nil => cases m1
  | cons p r ih =>
   simp only [List.map_cons, List.nodup_cons] at nd
   rcases List.mem_cons.mp m1 with q | q <;> rcases List.mem_cons.mp m2 with q' | q'
   ·rw [<- q] at q'; exact (congrArg Prod.fst q').symm
   ·exact absurd (List.mem_map.mpr ⟨_, q', by rw [<- q]⟩) nd.1
   ·exact absurd (List.mem_map.mpr ⟨_, q, by rw [<- q']⟩) nd.1
   ·exact ih nd.2 q q'
structure LamIs (C : Cfg) (tag : Nat) (ns : List Str) : Prop where
 par : PlainA (C.lam tag).1 ns
 nd : ns.Nodup
 loc : ∀ x ∈ ns, (C.lam tag).2.2.names.lookup x = some .local
 noc : ji (C.lam tag).2.2
 co : (C.lam tag).2.2.isCoroutine = false
 gen : (C.lam tag).2.2.isGenerator = false
 kd : (C.lam tag).2.2.kind = .function
noncomputable def gZ (sc : Scope) (fs : List (Str × D)) : Prop := ∀ x d, fs.lookup x = some d -> sc.names.lookup x = some .free /\ (x == ("__classdict__" : Str)) = false
theorem gZ.nil {sc : Scope} : gZ sc [] := fun x d e => by cases e
theorem gZ.cons {sc : Scope} {x : Str} {d : D} {fs : List (Str × D)} (f : sc.names.lookup x = some .free) (s : gZ sc fs) (c : autoParam ((x == ("__classdict__" : Str)) = false) tacD) : gZ sc ((x, d) :: fs) := fun y e q => by
 rw [ak] at q
 by_cases w : y = x
 ·subst w; exact ⟨f, c⟩
 ·rw [if_neg w] at q; exact s y e q
section
variable {r : Nat} {sc : Scope} {ρ : Rho} {own : Own}
theorem Ev.callRule {o : Expr} {apos pos : Pos} {e : Expr} {es : List Expr} {tag : Nat} {fs : List (Str × D)} {vd : D} {ns : List Str} {ds : List D} {d : D} (x : Ev C (r + 1) sc ρ own o (.rule tag fs vd)) (y : EvL C (r + 1) sc ρ own (e :: es) ds) (li : LamIs C tag ns) (hl : ns.length = ds.length) (fa : gZ (C.lam tag).2.2 fs)
  (b : Ev C r (C.lam tag).2.2 (ns.zip ds ++ fs) [] (C.lam tag).2.1 d) (n : autoParam ((e :: es).all notStar = true) tacR)
  (hb : autoParam (∀ env, attributeBase o "applies_to" env (eval o env) = eval o env) tacI1) (hln : autoParam (decide ((e :: es).length + 0 + 0 < 30) = true) tacR) (hp : autoParam ((apos.endLine == pos.line) = true) tacR)
  (hB : autoParam (NoFn "applies_to") tacF) : Ev C (r + 1) sc ρ own (.Call (.Attribute o "applies_to" apos) (e :: es) [] pos) d := by
 constructor; intro A env W h₀ O h R G S tk qQ qE qK
 rw [arm_eval_Call, hb]
 refine wpAny_bind ((x.go A env W h₀ O h R G S).use2 fun v h1 tk1 e1 z1 => ?_)
 have S1 := S.ext e1
 refine wpAny_bind (wpAny_standAt ?_)
 have hform : methodCallForm ((e :: es).length + ([] : List Keyword).length) (backTo pos (starEach (e :: es) env)) (backToKw pos (keywordEach [] env)) = true := by
  have h1 : ((backTo pos (starEach (e :: es) env)).all fun x => !x.fst) = true := by
   have := bI pos env (e :: es) n
   rw [List.any_eq_false] at this
   rw [List.all_eq_true]
   intro q hq
   have := this q hq
   simpa using this
  show ((backTo pos (starEach (e :: es) env)).all (fun x => !x.1) && true && decide ((e :: es).length + 0 + 0 < 30)) = true
  rw [h1, hln]; rfl
 have hpos : methodCallPos true o env apos pos = pure pos := by unfold methodCallPos; simp [hp]
 unfold methodCall
 rw [hform]
 refine z1.ruleE fun a vv cs ra g8 zc ec nd => ?_
 obtain @⟨dA, f, c, ob, fo, co, fd, ffd, m, cvs, t, g1, g2, g3, g4, g5, g6, g7, g9, g10, g11, ⟨l1, l2, l3, l4, l5, l6, l7, l8, l9⟩, g13, g14, g15, n1, n2, n3, n4⟩ := ra
 refine wpAny_bind (wpAny_holding (method_fn (s := sh C h1 tk1) g1 g2 g4 (fun c q => by rw [g3] at q; cases q) g5.ns g6 hB rfl ?_))
 refine wpAny_bind (wpAny_of_eq hpos ?_)
 simp only [List.all_cons, Bool.and_eq_true] at n
 show wpAny _ _ (callWith pos (.ref f) [] (backTo pos (starEach (e :: es) env)) []) _ _ (sh C h1 (tk1 + 1))
 refine callWith_def g11 ((y.go A env W h₀ O h1 pos R G S1).use2 fun vs h2 tk2 x2 z2 => ?_) (aJ e es env n.1)
 have S2 := S1.ext x2
 have kT : ∀ b o, h1.get? b = some o -> ¬ Wof W own b -> h2.get? b = some o := fun b o e nb => x2.1 b o e fun t => nb (S.tw b t)
 have fo2 := kT f fo g9 n3
 have zc2 : cu C (Wof W own) h2 cs fs := zc.kp x2.1 S.tw fun _ _ _ q => q
 have hcr : h2.CodeRec ffd.code ffd.qualname := by rw [l9]; exact ⟨c, co, cvs, t, rfl, kT c co g13 n4, g14, g15⟩
 refine ⟨fo2, ?_⟩
 refine (Lam.run (r := r) (ρf := fs) fo2 g11 hcr l2 l4 l5 (by rw [l1]; exact li.par) l7 li.nd hl (by rw [l3]; exact li.loc) (by rw [l3]; exact li.noc) (by rw [l3]; exact b) R S2.inv S2.tw S2.wok' z2 (fun x d q => ?_) (l6 ▸ rule_cells S2.inv zc2 ec nd) (by rw [l3]; exact li.co) (by rw [l3]; exact li.gen) (by rw [l3]; exact li.kd)).use2 fun u h3 tk3 x3 z3 => (qK _ h3 tk3 ⟨(e1.trans x2).trans x3, z3⟩)
 obtain ⟨q1, q2⟩ := fa x d q
 obtain ⟨c', v', q3, q4, q5, q6⟩ := zc2.get q
 exact ⟨l3 ▸ q1, q2, c', v', l6 ▸ q3, q4, .of q6⟩
theorem Ev.attrRule {o : Expr} {pos : Pos} {tag : Nat} {fs : List (Str × D)} {d : D} (x : Ev C r sc ρ own o (.rule tag fs d)) (he : autoParam (dU o "allowance" pos) tacU)
  (hB : autoParam (NoFn "allowance") tacF) : Ev C r sc ρ own (.Attribute o "allowance" pos) d := by
 constructor; intro A env W h₀ O h R G S tk qQ qE qK
 refine Attribute_any_ ((x.go A env W h₀ O h R G S).use2 fun v h1 tk1 e1 z1 => ?_) (he env)
 refine z1.ruleE fun a vv cs ra g8 zc ec nd => ?_
 obtain @⟨dA, f, c, ob, fo, co, fd, ffd, m, cvs, t, g1, g2, g3, g4, g5, g6, g7, g9, g10, g11, l, g13, g14, g15, n1, n2, n3, n4⟩ := ra
 exact get_fn (s := sh C h1 tk1) g1 g2 g4 (fun c q => by rw [g3] at q; cases q) g5.ns g7 hB g8.handed (qK _ h1 _ ⟨e1, g8⟩)
end
namespace FM
theorem owner_map : Manifest.owners.lookup (String.ofList ['p', 'a', 'm'].reverse) = some Manifest.sig_map := by kernel_rfl
theorem cV : Slot "map" "__next__" "map.__next__" :=
 .of (owner := "map") (n := "__next__") (by rw [typeLookup_type, builtinLookup_eq_fast]; kernel_rfl) (by decide +kernel) (by decide +kernel) (by decide +kernel)
  (by first | exact .inl (by decide +kernel) | exact .inr (by decide +kernel)) (by rw [isSubtype_type]; kernel_rfl)
theorem jt : Slot "map" "__iter__" "map.__iter__" :=
 .of (owner := "map") (n := "__iter__") (by rw [typeLookup_type, builtinLookup_eq_fast]; kernel_rfl) (by decide +kernel) (by decide +kernel) (by decide +kernel)
  (by first | exact .inl (by decide +kernel) | exact .inr (by decide +kernel)) (by rw [isSubtype_type]; kernel_rfl)
theorem slot_map_init : Slot "map" "__init__" "object.__init__" :=
 .of (owner := "object") (n := "__init__") (by rw [typeLookup_type, builtinLookup_eq_fast]; kernel_rfl) (by decide +kernel) (by decide +kernel) (by decide +kernel)
  (by first | exact .inl (by decide +kernel) | exact .inr (by decide +kernel)) (by rw [isSubtype_type]; kernel_rfl)
theorem iU : entryFor table "map.__next__" = some Builtin.«map.__next__» := entryFor_of_tree (by kernel_rfl)
theorem entry_map_new : entryFor table "map.__new__" = some Builtin.«map.__new__» := entryFor_of_tree (by kernel_rfl)
theorem entry_map_iter : entryFor table "map.__iter__" = some Builtin.«dict_keyiterator.__iter__» :=
 entryFor_alias (id' := "dict_keyiterator.__iter__") (by kernel_rfl) (by first | rfl | decide +kernel) (by decide +kernel) (by kernel_rfl)
theorem ir (a : Value) : argsOk "map.__next__" ⟨[a], []⟩ := by unfold argsOk; kernel_rfl
theorem ni (a : Value) : argsOk "map.__iter__" ⟨[a], []⟩ := by unfold argsOk; kernel_rfl
theorem mro_map : mroOf (.type "map") = pure [.type "map", .type "object"] := by rw [mroOf_type]; kernel_rfl
theorem lookup_map_new : typeLookup (.type "map") "__new__" = pure (some (.builtin "map.__new__")) := by rw [typeLookup_type, builtinLookup_eq_fast]; kernel_rfl
theorem called_map : TypeCalled "map" "map.__new__" "object.__init__" :=
 ⟨by decide +kernel, by decide +kernel, ⟨_, _, mro_map⟩, madeBy_type mro_map lookup_map_new (by decide +kernel), by decide +kernel, by rw [isSubtype_type]; kernel_rfl, slot_map_init⟩
theorem typeCall_map_2 (a b : Value) : checkTypeCall "map" ⟨[a, b], []⟩ = pure () := by kernel_rfl
theorem newCall_map_2 (a b : Value) : checkBuiltinCall "map.__new__" ⟨[.type "map", a, b], []⟩ = pure () := by kernel_rfl
theorem sub_map : isSubtype (.type "map") (.type "map") = pure true := by rw [isSubtype_type]; kernel_rfl
theorem map_no_len : typeLookup (.type "map") "__len__" = pure none := by rw [typeLookup_type, builtinLookup_eq_fast]; kernel_rfl
theorem map_no_hint : typeLookup (.type "map") "__length_hint__" = pure none := by rw [typeLookup_type, builtinLookup_eq_fast]; kernel_rfl
end FM
noncomputable abbrev mapObj (T : Addr) (f : Value) : Obj := { cls := .type "map", data := .fields #[.ref T, f] }
noncomputable abbrev lQ (v : Value) : Obj := { cls := .type "tuple", data := .seq #[v] }
noncomputable abbrev dZ (l : Addr) : Obj := { cls := .type "list_iterator", data := .fields #[.ref l, .int 0 0] }
noncomputable abbrev mapH (h : Heap) (l : Addr) (f : Value) : Heap := ((h.push (dZ l)).push (lQ (.ref h.objs.size))).push (mapObj (h.push (dZ l)).objs.size f)
theorem meets_map_new (l : Addr) (f : Value) (xs : Array Value) :
  Meets (Builtin.«map.__new__» ⟨[.type "map", f, .ref l], []⟩) (fun _ R s => s.heap.IsList l xs /\ R (.ok (.ret (.ref ((s.heap.push (dZ l)).push (lQ (.ref s.heap.objs.size))).objs.size))) { s with heap := mapH s.heap l f }) :=
 .of_wp fun prog w A R s h => by
  obtain ⟨hp, g, d, tk, os⟩ := s; obtain ⟨hl, h⟩ := h
  have hsub := FM.sub_map
  have hL1 : Heap.IsList (Shared.heap ⟨hp, g, d, tk, os⟩) l xs := hl
  wp_walk using wpAny_pyIter_list hL1
  exact ⟨_, rfl, h⟩
section
variable {prog : Program} {w : World} {A : Around} {E : Value -> Shared -> Prop} {s : Shared}
theorem call_map {l : Addr} {f : Value} {xs : Array Value} {Q : Value -> Shared -> Prop} (hl : s.heap.IsList l xs) (h : Q (.ref ((s.heap.push (dZ l)).push (lQ (.ref s.heap.objs.size))).objs.size) { s with heap := mapH s.heap l f }) :
  wpAny (model prog w) A (call (.type "map") [f, .ref l]) Q E s := by
 refine callType_new FM.called_map (by decide) (FM.typeCall_map_2 _ _) (FM.newCall_map_2 _ _) (fun obj => F.args_object_init_3 obj _ _) FM.entry_map_new (meets_map_new l f xs) ⟨hl, ?_⟩
 exact ⟨⟨_, Heap.get?_push_size _ rfl, rfl⟩, h⟩
noncomputable def CallsTo (prog : Program) (w : World) (A : Around) (f : Value) (P : Value -> Prop) (R : Value -> Value -> Prop) : Prop :=
 ∀ (s : Shared) (v : Value) (Q : Value -> Shared -> Prop) (E : Value -> Shared -> Prop), P v -> (∀ u tk, R v u -> Q u { s with toks := tk }) -> wpAny (model prog w) A (call f [v]) Q E s
structure MapAt (h : Heap) (M T I l : Addr) (f : Value) (i : Nat) (items : Array Value) : Prop where
 m : h.get? M = some (mapObj T f)
 t : h.get? T = some (lQ (.ref I))
 it : h.IsListIter I l i
 ls : h.IsList l items
 nM : M ≠ I
 nT : T ≠ I
 nl : l ≠ I
set_option tactic.hygienic true in
theorem map_next_item {M T I l : Addr} {f : Value} {i : Nat} {items : Array Value} {x : Value} {R : Value -> Value -> Prop} {Q : Option Value -> Shared -> Prop} (X : MapAt s.heap M T I l f i items) (hx : items[i]? = some x) {P : Value -> Prop} (hP : P x) (hc : ∀ A, CallsTo prog w A f P R)
  (hQ : ∀ u h' tk, R x u -> MapAt h' M T I l f (i + 1) items -> Heap.SameBut I s.heap h' -> Q (some u) { s with heap := h', toks := tk }) : wpAny (model prog w) A (pyNext (.ref M)) Q E s := by
 have hT : s.TypeIs (.ref M) "map" := ⟨_, X.m, rfl⟩
 unfold pyNext
 refine wpAny_bind (wpAny_attempt (wpAny_callSpecial?_slot (name := Str.ofString "__next__") hT FM.cV
  (wpAny_call_entry FM.cV hT FM.iU ?_ (FM.ir _))))
 show wpAny _ _ (field (.ref M) 0 >>= _) _ _ _
 refine wpAny_bind (wpAny_field X.m rfl (x := .ref T) rfl ?_)
 refine wpAny_bind (wpAny_seqItems X.t rfl ?_)
 refine wpAny_bind ?_
 simp only [List.forIn_cons, List.forIn_nil]
 refine wpAny_bind (wpAny_bind ?_)
 refine wpAny_holding (wpAny_nextOf_list_item X.it X.ls hx fun h' hit hs => ?_)
 refine wpAny_pure (wpAny_pure ?_)
 have X' : MapAt h' M T I l f (i + 1) items := ⟨hs.extBut _ _ X.nM X.m, hs.extBut _ _ X.nT X.t, hit, X.ls.extBut hs.extBut X.nl, X.nM, X.nT, X.nl⟩
 show wpAny _ _ _ _ _ _
 refine wpAny_bind (wpAny_field X'.m rfl (x := f) rfl ?_)
 refine wpAny_bind (wpAny_holding ?_)
 refine hc _ _ _ _ _ hP fun u tk hR => ?_
 refine wpAny_bind (wpAny_letGo (wpAny_pure ⟨_, rfl, wpAny_pure (hQ u h' tk hR X' hs)⟩))
set_option tactic.hygienic true in
theorem map_next_end {M T I l : Addr} {f : Value} {i : Nat} {items : Array Value} {Q : Option Value -> Shared -> Prop} (hh : A.handled = none) (X : MapAt s.heap M T I l f i items) (hx : items[i]? = none)
  (hQ : ∀ h' tk, (∀ b o, b ≠ I -> s.heap.get? b = some o -> h'.get? b = some o) -> Q none { s with heap := h', toks := tk }) : wpAny (model prog w) A (pyNext (.ref M)) Q E s := by
 have hT : s.TypeIs (.ref M) "map" := ⟨_, X.m, rfl⟩
 unfold pyNext
 refine wpAny_bind (wpAny_attempt (wpAny_callSpecial?_slot (name := Str.ofString "__next__") hT FM.cV
  (wpAny_call_entry FM.cV hT FM.iU ?_ (FM.ir _))))
 show wpAny _ _ (field (.ref M) 0 >>= _) _ _ _
 refine wpAny_bind (wpAny_field X.m rfl (x := .ref T) rfl ?_)
 refine wpAny_bind (wpAny_seqItems X.t rfl ?_)
 refine wpAny_bind ?_
 simp only [List.forIn_cons, List.forIn_nil]
 refine wpAny_bind (wpAny_bind ?_)
 refine wpAny_holding (wpAny_nextOf_list_end (by simp [hh]) X.it X.ls hx fun h' e hs he => ?_)
 obtain ⟨o, ho, hcls⟩ := he
 refine wpAny_bind (wpAny_isInstance (T := "StopIteration") (b := true) ⟨o, ho, hcls⟩ isSubtype_stop ?_)
 exact wpAny_pure (hQ _ _ fun b o n e => hs b o n e)
end
theorem map_walks {prog : Program} {w : World} {A : Around} (hh : A.handled = none) {M T I l : Addr} {f : Value} {items : Array Value} {P : Value -> Prop} {R : Value -> Value -> Prop} (hP : ∀ (i : Nat) (x : Value), items[i]? = some x -> P x) (hc : ∀ A, CallsTo prog w A f P R) :
  Walks prog w A M [M, T, I, l] [I] items.size (fun i v => ∃ x, items[i]? = some x /\ R x v) (fun i h => MapAt h M T I l f i items) where
 sub := fun b hb => by simp at hb; simp [hb]
 frame := fun i h h' X k => ⟨k M (by simp) _ X.m, k T (by simp) _ X.t, X.it.at fun o e => k I (by simp) o e, X.ls.at fun o e => k l (by simp) o e, X.nM, X.nT, X.nl⟩
 item := fun i s Q E hi X hQ => map_next_item X (x := items[i]) (by simp [hi]) (hP i _ (by simp [hi])) hc fun u h' tk hR X' hs => hQ u h' tk ⟨items[i], by simp [hi], hR⟩ X' fun b o hb e => hs.extBut b o (fun q => hb (by simp [q])) e
 done := fun s Q E X hQ => map_next_end hh X (by simp) fun h' tk k => hQ h' tk fun b o hb e => k b o (fun q => hb (by simp [q])) e
 self := fun i s Q E X hQ => by
  have hT : s.TypeIs (.ref M) "map" := ⟨_, X.m, rfl⟩
  refine wpAny_pyIter_slot hT FM.jt (wpAny_call_entry FM.jt hT FM.entry_map_iter ?_ (FM.ni _))
  exact wpAny_pure ⟨_, rfl, "map", _, hT, FM.cV.lookup, hQ⟩
structure NoLen (T : String) : Prop where
 len : typeLookup (.type T) "__len__" = pure none
 hint : typeLookup (.type T) "__length_hint__" = pure none
 li : (Value.type T == Value.type "list") = false
 tu : (Value.type T == Value.type "tuple") = false
section
variable {prog : Program} {w : World} {A : Around} {E : Value -> Shared -> Prop} {s : Shared} {I : Addr} {fp wr : List Addr} {G : Array GenState -> Array GenState -> Prop} {n : Nat} {P : Nat -> Value -> Prop} {St : Nat -> Shared -> Prop} {T : String}
theorem eQ {h : Heap} {S : Addr} {f : Obj -> Obj} {b : Addr} {o : Obj} (n : b ≠ S) (e : h.get? b = some o) : (h.update S f).get? b = some o := (Heap.get?_update_other _ _ (Ne.symm n)).trans e
theorem extend_any {R : Result -> Shared -> Prop} (nl : NoLen T) (W : WalksS prog w A.in1 I fp wr G n P St) (hT : ∀ i s, St i s -> s.TypeIs (.ref I) T) (S : Addr) (res : Value) (c₀ : Nat) (hst : St 0 s) (hSf : S ∉ fp) (hI : I ∈ fp) (hS : s.heap.get? S = some (aM [] c₀))
  (hR : ∀ s' acc' c', Moved (S :: wr) G s s' -> s'.heap.get? S = some { cls := .type "list", dict := none, data := .seq acc' c', slots := #[] } -> ItemsOf P acc' n -> R (.ok (.ret res)) s') (hn : n <= sizeLine) :
  wpAny (model prog w) A.in1 (Builtin.List.listExtendWith (.ref S) (.ref I) res) (fun fin s' => match fin with | .done f => R (.ok f) s' | .again c' => c'.quiet = true /\ codeAny (model prog w) A c' R s') (fun e s' => R (.error e) s') s := by
 have e1 : Builtin.List.listSameRef (.ref S) (.ref I) = false := by
  have : S ≠ I := fun e => hSf (e ▸ hI)
  simp [Builtin.List.listSameRef, this]
 unfold Builtin.List.listExtendWith
 refine wpAny_bind (wpAny_typeOf (hT 0 _ hst) ?_)
 rw [e1, nl.li, nl.tu]
 refine bW Bool.false_ne_true ?_
 refine wpAny_bind (W.self 0 _ _ _ hst (wpAny_bind (wpAny_holding ?_)))
 unfold Builtin.List.listLengthHint
 refine wpAny_bind (wpAny_specialOf (hT 0 _ hst) nl.len ?_)
 show wpAny _ A.in1 (specialOf (Value.ref I) (Str.ofString "__length_hint__") >>= _) _ _ _
 refine wpAny_bind (wpAny_specialOf (hT 0 _ hst) nl.hint (wpAny_pure ?_))
 show wpAny _ A.in1 (rule "list.extend.makes-room" >>= fun _ => (updateSeq S (·.push .none) >>= fun _ => updateSeq S (·.pop)) >>= fun _ => again (.builtin "list.extend.loop" ⟨[.ref S, .ref I, res], []⟩)) _ _ _
 refine wpAny_bind (wpAny_rule (wpAny_bind (wpAny_bind (wpAny_updateSeq hS rfl ?_))))
 have hS2 := Heap.get?_update_self (Obj.mapSeq (·.push Value.none)) hS rfl
 refine wpAny_updateSeq (hz := by seq_fits) hS2 rfl ?_
 have hS3 := Heap.get?_update_self (Obj.mapSeq (·.pop)) hS2 rfl
 refine wpAny_pure ⟨plainId_quiet F.plain_extend_loop _, codeAny_extend_loopS W hn _ hSf _ n 0 _ _ _ rfl (Nat.zero_le _) (W.frame 0 s _ s.toks hst (Nat.le_refl _) fun b hb o e => ?_) hS3 (ItemsOf.nil P) fun s' acc' c' hm g1 g2 => ?_⟩
 ·exact eQ (fun h => hSf (h ▸ hb)) (eQ (fun h => hSf (h ▸ hb)) e)
 ·exact hR s' acc' c' (Moved.trans W.gtrans ((Moved.refl W.grefl).then_heap (Nat.le_refl _) fun b o hb e => eQ (fun h => hb (h ▸ List.mem_cons_self)) (eQ (fun h => hb (h ▸ List.mem_cons_self)) e)) hm) g1 g2
theorem list_any {Q : Value -> Shared -> Prop} (nl : NoLen T) (W : WalksS prog w A.in1.in1 I fp wr G n P St) (hT : ∀ i s, St i s -> s.TypeIs (.ref I) T) (hst : St 0 s) (hfp : ∀ b ∈ fp, b < s.heap.objs.size) (hI : I ∈ fp)
  (hQ : ∀ s' acc' c', Moved (s.heap.objs.size :: wr) G { s with heap := s.heap.push (aM [] 0) } s' -> s'.heap.get? s.heap.objs.size = some { cls := .type "list", dict := none, data := .seq acc' c', slots := #[] } -> ItemsOf P acc' n -> Q (.ref s.heap.objs.size) s') (hn : n <= sizeLine) :
  wpAny (model prog w) A (call (.type "list") [.ref I]) Q E s := by
 have hSf : s.heap.objs.size ∉ fp := fun hm => Nat.lt_irrefl _ (hfp _ hm)
 refine callType_codes (Q₁ := fun obj s₁ => obj = .ref s.heap.objs.size /\ s₁ = { s with heap := s.heap.push (aM [] 0) }) F.called_list (F.typeCall_list_1 _) F.entry_list_init (code_list_new _ ⟨rfl, rfl⟩) fun obj s₁ h₁ => ?_
 obtain ⟨rfl, rfl⟩ := h₁
 have hS : (s.heap.push (aM [] 0)).get? s.heap.objs.size = some (aM [] 0) := Heap.get?_push_size _ rfl
 have st1 := W.frame 0 s (s.heap.push (aM [] 0)) s.toks hst (Nat.le_refl _) fun b _ o e => Heap.get?_push_of_some _ e
 refine ⟨⟨_, hS, rfl⟩, F.args_list_init_2 _ _, ?_⟩
 show wpAny _ A.in1.in1 (do let old <- Builtin.List.listItems (.ref s.heap.objs.size); Builtin.List.listUpdate (.ref s.heap.objs.size) (fun _ => #[]); letGo old.toList.reverse; Builtin.List.listExtendWith (.ref s.heap.objs.size) (.ref I) .none) _ _ _
 refine wpAny_bind ?_
 unfold Builtin.List.listItems
 refine wpAny_bind (wpAny_seqItems hS rfl (wpAny_pure ?_))
 show wpAny _ A.in1.in1 (updateSeq s.heap.objs.size (fun _ => #[]) >>= fun _ => letGo (#[] : Array Value).toList.reverse >>= fun _ => Builtin.List.listExtendWith (.ref s.heap.objs.size) (.ref I) .none) _ _ _
 refine wpAny_bind (wpAny_updateSeq hS rfl (wpAny_bind (wpAny_letGo ?_)))
 have hS2 := Heap.get?_update_self (Obj.mapSeq (fun _ => (#[] : Array Value))) hS rfl
 refine extend_any (A := A.in1) nl W hT _ .none _ (W.frame 0 _ _ s.toks st1 (Nat.le_refl _) fun b hb o e => eQ (fun h => hSf (h ▸ hb)) e) hSf hI hS2 (fun s' acc' c' hm g1 g2 => ?_) hn
 exact ⟨rfl, hQ s' acc' c' (Moved.trans W.gtrans ((Moved.refl W.grefl).then_heap (Nat.le_refl _) fun b o hb e => eQ (fun h => hb (h ▸ List.mem_cons_self)) e) hm) g1 g2⟩
theorem collect_any {Q : List Value -> Shared -> Prop} (nl : NoLen T) (W : WalksS prog w A.in1 I fp wr G n P St) (hT : ∀ i s, St i s -> s.TypeIs (.ref I) T) (hst : St 0 s) (hfp : ∀ b ∈ fp, b < s.heap.objs.size) (hI : I ∈ fp)
  (hQ : ∀ s' acc, Moved wr G s s' -> ItemsOf P acc n -> Q acc.toList s') (hn : n <= sizeLine) : wpAny (model prog w) A (collect (.ref I)) Q E s := by
 have hSf : s.heap.objs.size ∉ fp := fun hm => Nat.lt_irrefl _ (hfp _ hm)
 unfold collect
 refine wpAny_bind (wpAny_runValue (codeAny_builtin F.entry_proto_collect ?_))
 rw [Around.under_plainId F.plain_proto_collect _]
 show wpAny _ A.in1 (newList [] >>= fun l => again (.builtin "list.__iadd__" ⟨[l, .ref I], []⟩)) _ _ s
 refine wpAny_bind (wpAny_newObj_type (wpAny_pure ⟨plainId_quiet F.plain_list_iadd _, codeAny_builtin F.entry_list_iadd ?_⟩))
 rw [Around.under_plainId F.plain_list_iadd _]
 have st1 := W.frame 0 s (s.heap.push (aM [] 0)) s.toks hst (Nat.le_refl _) fun b _ o e => Heap.get?_push_of_some _ e
 show wpAny _ A.in1 (Builtin.List.listExtendWith (.ref s.heap.objs.size) (.ref I) (.ref s.heap.objs.size)) _ _ _
 refine extend_any (R := fun r s' => match r with
   | .ok (.ret v) => wpAny (model prog w) A (match v with
    | .ref a => do
     match (<- load a).data with
     | .seq xs _ => pure xs.toList
     | _ => unsupported "internal:collect"
    | _ => unsupported "internal:collect") Q E s'
   | .ok _ => False
   | .error e => E e s') (s := { s with heap := s.heap.push (aM [] 0) }) nl W hT s.heap.objs.size _ 0 st1 hSf hI (Heap.get?_push_size _ rfl) (fun s' acc' c' hm g1 g2 => ?_) hn
 show wpAny _ A (load s.heap.objs.size >>= _) _ _ s'
 exact wpAny_bind (wpAny_load g1 (wpAny_pure (hQ s' acc' (Moved.drop_new (o := aM [] 0) (tk := s.toks) hm (Nat.le_refl _)) g2)))
theorem join_any {x : Str} {t : Tok} {Q : Value -> Shared -> Prop} (nl : NoLen T) (W : WalksS prog w A.in1.in1 I fp wr G n P St) (hT : ∀ i s, St i s -> s.TypeIs (.ref I) T) (hst : St 0 s) (hfp : ∀ b ∈ fp, b < s.heap.objs.size) (hI : I ∈ fp) (hstr : ∀ i v, P i v -> ∃ y u, v = Value.str y u)
  (hq : ∀ s' (l : List (Str × Tok)), Moved wr G s s' -> ItemsOf P (strValues l).toArray n -> JoinOk x (l.map (·.1)) = true /\ ∀ t' k, Q (.str (Txt.join x (l.map (·.1))) t') { s' with toks := k }) (hn : n <= sizeLine) :
  wpAny (model prog w) A (call (.builtin "str.join") [.str x t, .ref I]) Q E s := by
 refine wpAny_call (codeAny_call_builtin F.slot_str_join.plain F.entry_str_join (F.slot_str_join.check _ _ _ _ _ _ _ _ (typeIs_str _ _ _) (F.args_str_join_2 _ _) ?_))
 rw [join_tree_other]
 refine wpAny_bind (wpAny_typeOf (hT 0 s hst) ?_)
 rw [nl.li, nl.tu]
 refine bW Bool.false_ne_true ?_
 refine wpAny_bind (wpAny_tryCatch (W.of_in1.self 0 s _ _ hst ?_))
 refine wpAny_bind (collect_any nl W hT hst hfp hI (fun s' acc hm hacc => ?_) hn)
 obtain ⟨l, hl⟩ := exists_strValues acc.toList fun v hv => by
  obtain ⟨j, hj, rfl⟩ := Array.mem_iff_getElem.mp (Array.mem_toList_iff.mp hv)
  exact hstr j _ (hacc.2 j _ (Array.getElem?_eq_getElem hj))
 rw [<- hl]
 obtain ⟨hok, hpost⟩ := hq s' l hm (by rw [hl]; simpa using hacc)
 unfold JoinOk at hok
 rw [Bool.not_eq_true'] at hok
 have g : Gives (joinTail x (strValues l)) (joinMade x l) := by
  have g0 := gives_joinTail x l hok
  cases l with
  | nil => exact g0
  | cons p r => cases r <;> exact g0
 exact g prog w A (wants Q E) s' (post_join l ⟨joinFit_length hok, hpost⟩)
end
theorem jq {prog : Program} {w : World} {A : Around} {E : Value -> Shared -> Prop} {s : Shared} {expr : Bool} {Q : Value -> Shared -> Prop} (h : ∀ u, Q (.builtin "str.capitalize") { s with toks := u }) : wpAny (model prog w) A (getAttr (.type "str") "capitalize" expr) Q E s := by
 have X : Frag.In [] s.heap := fun _ _ e => by cases e
 have hm : typeOf (.type "str") = pure (.type "type") := kitMeta_of (by decide +kernel)
 have hstub : opaqueClassAbove (.type "str") = pure none := by unfold opaqueClassAbove; dsimp only; rw [show Manifest.isStub "str" = false by decide +kernel]; rfl
 refine cls_open (K := []) (mc := .type "type") (r := .val (.builtin "str.capitalize")) X (Looks.of_pure hstub) (Looks.of_pure hm) type_tga (looks_hook X (r := none) rfl) (by show subIn [] _ _ = _; rfl) (by kernel_rfl) ?_
 show wpAny _ _ (ret (.builtin "str.capitalize")) _ _ _
 exact wpAny_pure (handed_on rfl (h _))
theorem noLen_map : NoLen "map" := ⟨FM.map_no_len, FM.map_no_hint, by decide, by decide⟩
theorem capS_nil {x : Str} (h : x.length = 0) : gV x = x := by
 obtain ⟨a⟩ := x
 have : a = #[] := Array.eq_empty_of_size_eq_zero h
 subst this
 rfl
theorem capCalls {prog : Program} {w : World} (A : Around) : CallsTo prog w A (.builtin "str.capitalize") (fun v => ∃ x t, v = .str x t /\ (gV x).length <= 1048576) fun v u => ∃ x t t', v = .str x t /\ u = .str (gV x) t' := by
 intro s v Q E ⟨x, t, e, l⟩ hQ
 subst e
 refine call_gives F.slot_str_capitalize (typeIs_str _ x t) F.entry_str_capitalize (F.args_str_capitalize_1 _) (gives_str_capitalize x t (short l)) ?_
 cases h0 : x.length == 0 with
 | true =>
  rw [if_pos rfl]
  exact hQ _ s.toks ⟨x, t, t, rfl, by rw [capS_nil (by simpa using h0)]⟩
 | false =>
  rw [if_neg (by decide)]
  exact ⟨Nat.le_trans l (by decide), hQ _ _ ⟨x, t, _, rfl, rfl⟩⟩
theorem gH {items : List Value} {ss : List Str} (z : StrsAre items ss) {i : Nat} {v : Value} (h : items[i]? = some v) : ∃ x t, ss[i]? = some x /\ v = .str x t := by
 induction z generalizing i with
 | nil => simp at h
 | cons x t z ih =>
  cases i with
  | zero => simp at h; exact ⟨x, t, rfl, h.symm⟩
  | succ i => simpa using ih (by simpa using h)
theorem strValues_get (l : List (Str × Tok)) (j : Nat) : (strValues l)[j]? = (l[j]?).map fun p => .str p.1 p.2 := by
 induction l generalizing j with
 | nil => rfl
 | cons p l ih =>
  cases j with
  | zero => rfl
  | succ j => exact ih j
section
variable {r : Nat} {sc : Scope} {ρ : Rho} {own : Own}
theorem Ev.joinCap {o e : Expr} {apos pos mp mpos sp cp : Pos} {x : Str} {ss : List Str} (ox : Ev C r sc ρ own o (.str x)) (ex : Ev C r sc ρ own e (.list (au ss))) (bm : iu C sc "map" (.type "map")) (bs : iu C sc "str" (.type "str"))
  (l1 : ∀ s ∈ ss, (gV s).length <= 1048576) (l2 : JoinOk x (ss.map gV) = true) (ne : autoParam (notStar e = true) tacR)
  (hb : autoParam (∀ env, attributeBase o "join" env (eval o env) = eval o env) tacI1) (hp : autoParam ((apos.endLine == pos.line) = true) tacR) (hc : autoParam (dU (.Name "str" sp) "capitalize" cp) tacU) :
  Ev C r sc ρ own (.Call (.Attribute o "join" apos) [.Call (.Name "map" mp) [.Attribute (.Name "str" sp) "capitalize" cp, e] [] mpos] [] pos) (.str (Txt.join x (ss.map gV))) := by
 constructor; intro A env W h₀ O h R G S tk qQ qE qK
 refine wpAny_Call_method (hb env) ?_ hp F.plainAttrs_str F.slot_str_join F.type_str_join ((ox.go A env W h₀ O h R G S).use2 fun v h1 tk1 x1 z1 => ⟨z1.typeIs rfl, z1.noDict rfl (by decide), ?_⟩)
 ·rfl
 ·refine z1.strE fun t => ?_
  have S1 := S.ext x1
  refine Calls.callWith_builtin rfl (aU (by rfl) ?_)
  refine spliced_cons ?_
  obtain ⟨m1, m2, m3, m4, m5⟩ := bm
  obtain ⟨s1, s2, s3, s4, s5⟩ := bs
  refine wpAny_Call_NameR ((Ev.builtin G S1 m1 m3 m2 m4 m5).use2 fun v2 h2 tk2 e2 e3 => ?_)
  subst e2 e3
  refine PySem.callWith_type (bI mpos env [.Attribute (.Name "str" sp) "capitalize" cp, e] (by simp only [List.all_cons, List.all_nil, ne]; rfl)) (aU (by simp only [List.all_cons, List.all_nil, ne]; rfl) ?_)
  rw [aJ _ [e] env rfl, aJ e [] env ne]
  refine spliced_cons ?_
  refine Attribute_any_ ((Ev.builtin G S1 s1 s3 s2 s4 s5).use2 fun v3 h3 tk3 e4 e5 => ?_) (hc env)
  subst e4 e5
  refine jq fun u => ?_
  refine spliced_cons ((ex.go A env W h₀ O _ R G S1).use2 fun v4 h4 tk4 x4 z4 => ?_)
  have S4 := S1.ext x4
  refine spliced_nil ?_
  obtain ⟨l, vs, k, rfl, g, nw, sz, rr⟩ := z4.list_inv
  have lvs := rr.length
  have zs := ao.au rr
  refine call_map (xs := vs.toArray) (aO g) ?_
  refine spliced_nil ?_
  generalize hH : mapH h4 l (.builtin "str.capitalize") = H
  have z1' : (h4.push (dZ l)).objs.size = h4.objs.size + 1 := Heap.size_push ..
  have z2' : ((h4.push (dZ l)).push (lQ (.ref h4.objs.size))).objs.size = h4.objs.size + 2 := by rw [Heap.size_push, z1']
  have kH : ∀ b o, h4.get? b = some o -> H.get? b = some o := fun b o q => by rw [<- hH]; exact Heap.get?_push_of_some _ (Heap.get?_push_of_some _ (Heap.get?_push_of_some _ q))
  have lt := Heap.lt_size g
  have XM : MapAt H (h4.objs.size + 2) (h4.objs.size + 1) h4.objs.size l (.builtin "str.capitalize") 0 vs.toArray := by
   refine ⟨?_, ?_, ?_, ?_, kI (by decide), kI (by decide), Nat.ne_of_lt lt⟩
   ·rw [<- hH, <- z2', <- z1']; exact Heap.get?_push_size _ rfl
   ·rw [<- hH, <- z1']; exact Heap.get?_push_of_some _ (Heap.get?_push_size _ rfl)
   ·rw [<- hH]; exact ⟨_, Heap.get?_push_of_some _ (Heap.get?_push_of_some _ (Heap.get?_push_size _ rfl)), rfl, rfl⟩
   ·exact ⟨_, kH _ _ g, rfl, k, rfl⟩
  have sH : H.objs.size = h4.objs.size + 3 := by rw [<- hH, Heap.size_push, z2']
  show wpAny (md C) A (PySem.call (Value.builtin "str.join") [Value.str x t, Value.ref ((h4.push (dZ l)).push (lQ (.ref h4.objs.size))).objs.size]) _ _ _
  rw [z2']
  have W1 := map_walks (prog := C.prog) (w := C.w) (A := A.in1.in1) (by simp [R.1]) (M := h4.objs.size + 2) (T := h4.objs.size + 1) (I := h4.objs.size) (l := l) (items := vs.toArray) (hP := fun i v hv => by
   obtain ⟨y, t', hy, ev⟩ := gH zs (i := i) (v := v) (by simpa using hv)
   exact ⟨y, t', ev, l1 y (List.mem_of_getElem? hy)⟩) capCalls
  refine join_any (n := vs.toArray.size) noLen_map W1.toS (fun i s X => ⟨_, X.m, rfl⟩) XM (fun b hb => ?_) (by simp) (by rintro i v ⟨q, _, y, t1, t2, _, e⟩; exact ⟨_, _, e⟩) (fun s' ls hm hit => ?_) (by have := sz; simp [sizeLine]; simp [au] at lvs; simp [au] at this; lia)
  ·simp only [List.mem_cons, List.not_mem_nil, or_false] at hb
   show b < H.objs.size
   rw [sH]
   rcases hb with rfl | rfl | rfl | rfl
   ·exact Nat.add_lt_add_left (by decide) _
   ·exact Nat.add_lt_add_left (by decide) _
   ·exact Nat.lt_add_of_pos_right (by decide)
   ·exact Nat.lt_add_right 3 lt
  ·have els : ls.map (·.1) = ss.map gV := by
    obtain ⟨q1, q2⟩ := hit
    have q1 : ls.length = ss.length := by
     have h9 : (strValues ls).toArray.size = ls.length := by simp [strValues]
     rw [h9] at q1; rw [au, List.length_map] at lvs; rw [q1]; simpa using lvs
    refine List.ext_getElem? fun j => ?_
    rw [List.getElem?_map, List.getElem?_map]
    cases hj : ls[j]? with
    | none =>
     have : ss[j]? = Option.none := by rw [List.getElem?_eq_none_iff] at hj ⊢; lia
     rw [this]; rfl
    | some p =>
     obtain ⟨v, hv, y, t1, t2, ey, e⟩ := q2 j (.str p.1 p.2) (by rw [List.getElem?_toArray, strValues_get, hj]; rfl)
     obtain ⟨y', t', hy, ev⟩ := gH zs (i := j) (v := v) (by simpa using hv)
     rw [ey] at ev
     cases ev
     rw [hy]
     exact congrArg some (Value.str.inj e).1
   rw [els]
   obtain ⟨hh, gg, dd, tt, oo⟩ := s'
   have eg : gg = _ := hm.gens
   have ed : dd = _ := hm.drawn
   have eo : oo = _ := hm.os
   subst eg ed eo
   refine ⟨l2, fun t' k' => qK _ hh k' ⟨?_, .str _ _⟩⟩
   have kp : Kp (fun a => a = h4.objs.size) H hh := fun b o q n => hm.heap b o (by simpa using n) q
   refine x1.trans (x4.trans ⟨fun b o q n => kp b o (kH b o q) (Nat.ne_of_lt (Heap.lt_size q)), ?_⟩)
   exact (S4.inv.keeps kH).kp (fun a q => by rw [q]; exact S4.inv.fresh_of_none (aj h4)) (fun a q o e => by rw [q] at e; exact iK XM.it o e) kp
end
section
variable {prog : Program} {w : World} {A : Around}
noncomputable abbrev metS (ss : List Str) (i : Nat) (k : Str) : Bool := (ss.take i).any (· == k)
theorem metS_succ {ss : List Str} {i : Nat} {x : Str} (h : ss[i]? = some x) (k : Str) : metS ss (i + 1) k = (metS ss i k || decide (k = x)) := by
 unfold metS
 rw [List.take_add_one, h]
 simp only [Option.toList_some, List.any_append, List.any_cons, List.any_nil, Bool.or_false]
 congr 1
 by_cases e : k = x
 ·subst e; simp
 ·have : (x == k) = false := beq_eq_false_iff_ne.mpr fun q => e q.symm
  rw [this, decide_eq_false e]
theorem set_loop {R : Result -> Shared -> Prop} {I : Addr} {fp wr : List Addr} {G : Array GenState -> Array GenState -> Prop} {n : Nat} {P : Nat -> Value -> Prop} {St : Nat -> Shared -> Prop}
  (W : WalksS prog w A.in1 I fp wr G n P St) (S : Addr) (hSf : S ∉ fp) (ss : List Str) (hval : ∀ i v, P i v -> ∃ x t, ss[i]? = some x /\ v = .str x t) (hb : n + 1 < scanBound) :
  ∀ (k i : Nat) (s : Shared), n - i = k -> i <= n -> St i s -> (∃ m, m <= i /\ s.heap.SetOf (strKind prog w) S (metS ss i) m) ->
   (∀ s', Moved (S :: wr) G s s' -> (∃ m, m <= n /\ s'.heap.SetOf (strKind prog w) S (metS ss n) m) -> R (.ok (.ret .none)) s') ->
   codeAny (model prog w) A (.builtin "set.update.loop" ⟨[.ref S, .ref I], []⟩) R s := by
 have hSw : S ∉ wr := fun h => hSf (W.sub _ h)
 have hsub : ∀ b ∈ wr, b ∈ S :: wr := fun b hb => List.mem_cons_of_mem _ hb
 intro k
 induction k with
 | zero =>
  intro i s hk hi hst ⟨m, hm, hS⟩ hR
  have hin : i = n := by lia
  subst hin
  refine codeAny_builtin PyProof.Rows.F.entry_set_update_loop ?_
  rw [Around.under_plainId PyProof.Rows.F.plain_set_update_loop _]
  show wpAny _ A.in1 (pyNext (.ref I) >>= _) _ _ s
  refine wpAny_bind (W.done s _ _ hst fun s' mv => ?_)
  obtain ⟨o, es, ep, t, ho, rest⟩ := hS
  exact wpAny_pure (hR s' (mv.mono hsub) ⟨m, hm, o, es, ep, t, mv.heap S _ hSw ho, rest⟩)
 | succ k ih =>
  intro i s hk hi hst ⟨m, hm, hS⟩ hR
  have hlt : i < n := by lia
  refine codeAny_builtin PyProof.Rows.F.entry_set_update_loop ?_
  rw [Around.under_plainId PyProof.Rows.F.plain_set_update_loop _]
  show wpAny _ A.in1 (pyNext (.ref I) >>= _) _ _ s
  refine wpAny_bind (W.item i s _ _ hlt hst fun v s' hP hst' mv => ?_)
  obtain ⟨x, t, hx, rfl⟩ := hval i v hP
  obtain ⟨o, es, ep, tb, ho, rest⟩ := hS
  have hS' : s'.heap.SetOf (strKind prog w) S (metS ss i) m := ⟨o, es, ep, tb, mv.heap S _ hSw ho, rest⟩
  show wpAny _ A.in1 (holding [Value.str x t] (setAdd S (.str x t)) >>= _) _ _ s'
  refine wpAny_bind (wpAny_holding ?_)
  unfold setAdd
  refine wpAny_holding (wpAny_bind ((strKind prog w).pyHash (k := x) (strKind_is _ _ _ _) ?_))
  refine wpAny_setAddHashed_of (knd := strKind prog w) (s := { s' with toks := s'.toks + 1 }) (strKind_is _ _ _ _) rfl hS' (by lia) fun h' hsb hS2 => ?_
  refine wpAny_pure ⟨plainId_quiet PyProof.Rows.F.plain_set_update_loop _, ih (i + 1) _ (by lia) hlt (W.frame _ s' _ _ hst' (Nat.le_succ _) fun b hb o e => ?_) ⟨if metS ss i x then m else m + 1, ?_, ?_⟩ fun s'' mv'' hS'' => ?_⟩
  ·rw [hsb.2 b (fun h : b = S => hSf (by rw [<- h]; exact hb))]; exact e
  ·split <;> lia
  ·exact SetOf_congr hS2 (fun k' => (metS_succ hx k').symm) rfl
  ·refine hR s'' (Moved.trans W.gtrans ((mv.mono hsub).then_heap (Nat.le_succ _) fun b o hb e => ?_) mv'') hS''
   rw [hsb.2 b (fun h : b = S => hb (by rw [h]; exact List.mem_cons_self))]; exact e
set_option tactic.hygienic true in
theorem call_set_strs {E : Value -> Shared -> Prop} {s : Shared} {l : Addr} {items : Array Value} {ss : List Str} {Q : Value -> Shared -> Prop} (hh : A.handled = none) (hl : s.heap.IsList l items) (hi : StrsAre items.toList ss) (hb : items.size + 1 < scanBound)
  (h : ∀ (h' : Heap) (tk : Nat) (m : Nat), m <= items.size -> h'.SetOf (strKind prog w) s.heap.objs.size (fun k => ss.any (· == k)) m -> (∀ b o, s.heap.get? b = some o -> h'.get? b = some o) -> Q (.ref s.heap.objs.size) { s with heap := h', toks := tk }) :
  wpAny (model prog w) A (call (.type "set") [.ref l]) Q E s := by
 obtain ⟨c, tl, hmro⟩ := F.called_set.mro
 have hmade := F.called_set.made
 have hsub := F.called_set.sub
 have len : items.size = ss.length := by
  have : ∀ {a : List Value} {b : List Str}, StrsAre a b -> a.length = b.length := fun z => by induction z <;> simp_all
  simpa using this hi
 refine wpAny_call (codeAny_of_tree ?_)
 show wpAny _ _ (callAny (.type "set") _) _ _ _
 refine wpAny_pure ⟨Code.quiet_builtin _ (by decide +kernel), codeAny_builtin F.entry_type_call ?_⟩
 rw [Around.under_plain (weight_type_call_type "set" [.ref l] []) rfl]
 have h1 := F.called_set.notType
 have h2 := F.called_set.canCreate
 have hct := F.typeCall_set_1 (.ref l)
 repeat (any_goals (first | assumption | wp_step))
 refine codeAny_mono (code_set_new_1 (.ref l) (E := E) (Q₁ := fun obj s₁ => ∃ led : Bool, obj = .ref s.heap.objs.size /\ s₁ = { s with heap := s.heap.push { cls := .type "set", dict := none, data := .set #[] 0 (.fresh 0 0 led) } }) fun led => ⟨led, rfl, rfl⟩) fun r s₁ hr => ?_
 cases r with
 | error e => exact hr
 | ok fl =>
  cases fl with
  | ret obj =>
   obtain ⟨led, rfl, rfl⟩ := hr
   generalize hso : ({ cls := .type "set", dict := none, data := .set #[] 0 (.fresh 0 0 led) } : Obj) = so
   have hS : (s.heap.push so).get? s.heap.objs.size = some so := Heap.get?_push_size _ (by rw [<- hso]; rfl)
   have hT : Shared.TypeIs { s with heap := s.heap.push so } (.ref s.heap.objs.size) "set" := ⟨_, hS, by rw [<- hso]⟩
   have hli := F.called_set.init.lookup
   have hbi := F.called_set.init.bind (.ref s.heap.objs.size)
   repeat (any_goals (first | assumption | wp_step))
   refine codeAny_mono (codeAny_call_builtin (R := wants (fun r s₂ => r = .none /\ ∃ h' tk m, s₂ = { s with heap := h', toks := tk } /\ m <= items.size /\ h'.SetOf (strKind prog w) s.heap.objs.size (fun k => ss.any (· == k)) m /\ (∀ b o, s.heap.get? b = some o -> h'.get? b = some o)) E) F.called_set.init.plain F.entry_set_init (check_set_init_1 hT ?_)) fun r₂ s₂ hr₂ => ?_
   ·obtain ⟨ol, hol, hcl, nl, hdl⟩ := hl
    obtain ⟨ocls, odict, odata, oslots⟩ := ol
    simp only at hcl hdl
    subst hcl; subst hdl
    have hol' : (s.heap.push so).get? l = some { cls := .type "list", dict := odict, data := .seq items nl, slots := oslots } := Heap.get?_push_of_some _ hol
    have hsls := F.sub_list_set
    have hslf := F.sub_list_frozenset
    have hne : (Value.type "list" == Value.type "dict") = false := by decide
    have hl1 : (s.heap.push so).IsList l items := ⟨_, hol', rfl, nl, rfl⟩
    subst hso
    unfold Builtin.«set.__init__» noKeywords Builtin.Frozenset.updateFrom
    generalize hPI : pyIter = PI
    wp_walk
    subst hPI
    refine wpAny_pyIter_list hl1 ?_
    generalize hso : ({ cls := .type "set", dict := none, data := .set #[] 0 (.fresh 0 0 led) } : Obj) = so at hl1 hS
    refine wpAny_bind (wpAny_runValue ?_)
    have hlS : l < s.heap.objs.size := Heap.lt_size hol
    have hneI : l ≠ (s.heap.push so).objs.size := by rw [Heap.size_push]; exact Nat.ne_of_lt (Nat.lt_succ_of_lt hlS)
    have hSf : s.heap.objs.size ∉ [(s.heap.push so).objs.size, l] := by
     rw [Heap.size_push]; simp only [List.mem_cons, List.not_mem_nil, or_false, not_or]
     exact ⟨Nat.ne_of_lt (Nat.lt_succ_self _), Nat.ne_of_gt hlS⟩
    refine set_loop ((Walks.list (A := A.in1.in1.in1) (by simp [hh]) _ l hneI items).toS) s.heap.objs.size hSf ss (fun i v hv => gH hi (by simpa using hv)) hb (items.size - 0) 0 _ (by lia) (Nat.zero_le _) ⟨⟨_, Heap.get?_push_size _ rfl, rfl, rfl⟩, hl1.push _⟩ ?_ ?_
    ·have hget : ((s.heap.push so).push { cls := .type "list_iterator", data := .fields #[.ref l, .int 0 0] }).get? s.heap.objs.size = some so := Heap.get?_push_of_some _ hS
     subst hso
     exact ⟨0, Nat.le_refl _, SetOf_congr ((PyProof.Rows.setObjOf_fresh (knd := strKind prog w) led).setOf hget (by unfold scanBound; lia)) (fun _ => rfl) rfl⟩
    ·rintro s' hm ⟨m, hmn, hS'⟩
     obtain ⟨h', g', d', tk', os'⟩ := s'
     have eg : g' = s.gens := hm.gens
     have ed : d' = s.drawn := hm.drawn
     have eo : os' = s.os := hm.os
     subst eg; subst ed; subst eo
     show wpAny _ _ _ _ _ _
     refine wpAny_pure ?_
     show wpAny _ _ (ret Value.none) _ _ _
     refine wpAny_pure ⟨rfl, h', tk', m, rfl, hmn, ?_, fun b o e => ?_⟩
     ·have : metS ss items.size = fun k => ss.any (· == k) := by funext k; unfold metS; rw [len, List.take_length]
      rw [<- this]; exact hS'
     ·have hb1 := Heap.lt_size e
      refine hm.heap b o ?_ (Heap.get?_push_of_some _ (Heap.get?_push_of_some _ e))
      simp only [List.mem_cons, List.not_mem_nil, or_false, not_or]
      exact ⟨Nat.ne_of_lt hb1, by rw [Heap.size_push]; exact Nat.ne_of_lt (Nat.lt_succ_of_lt hb1)⟩
   ·cases r₂ with
    | error e => exact hr₂
    | ok fl₂ =>
     cases fl₂ with
     | ret r =>
      obtain ⟨rfl, h', tk, m, rfl, hmn, hS', hk'⟩ := hr₂
      repeat (any_goals (first | assumption | wp_step))
      exact h _ _ m hmn hS' hk'
     | _ => exact hr₂.elim
  | _ => exact hr.elim
end
end Mine
namespace Mine
open Builtin Builtin.ObjectAttr
namespace FS
theorem iC : Slot "method_descriptor" "__get__" "method_descriptor.__get__" :=
 .of (owner := "method_descriptor") (n := "__get__") (by rw [typeLookup_type, builtinLookup_eq_fast]; kernel_rfl) (by decide +kernel) (by decide +kernel) (by decide +kernel)
  (by first | exact .inl (by decide +kernel) | exact .inr (by decide +kernel)) (by rw [isSubtype_type]; kernel_rfl)
theorem md_no_set : typeLookup (.type "method_descriptor") "__set__" = pure none := by rw [typeLookup_type, builtinLookup_eq_fast]; kernel_rfl
theorem md_no_del : typeLookup (.type "method_descriptor") "__delete__" = pure none := by rw [typeLookup_type, builtinLookup_eq_fast]; kernel_rfl
theorem entry_md_get : entryFor table "method_descriptor.__get__" = some Builtin.«method_descriptor.__get__» := entryFor_of_tree (by kernel_rfl)
theorem args_md_get (a b c : Value) : argsOk "method_descriptor.__get__" ⟨[a, b, c], []⟩ := by unfold argsOk; kernel_rfl
end FS
noncomputable abbrev bmObj (a : Addr) : Obj := { cls := .type "builtin_function_or_method", data := .fields #[.builtin "set.__contains__", .ref a] }
theorem md_tree (a : Addr) : ∃ err : Sem Unit, Builtin.«method_descriptor.__get__» ⟨[.builtin "set.__contains__", .ref a, .type "set"], []⟩ =
  ((isInstance (.ref a) (.type "set") >>= fun b => if (!b) = true then err else pure ()) >>= fun _ => newFields "builtin_function_or_method" [.builtin "set.__contains__", .ref a] >>= fun r => ret r) := by
 refine ⟨?_, ?_⟩
 rotate_left
 ·with_unfolding_all rfl
section
variable {prog : Program} {w : World} {A : Around} {E : Value -> Shared -> Prop} {s : Shared}
set_option tactic.hygienic true in
theorem j7 {a : Addr} {o : Obj} {expr : Bool} {Q : Value -> Shared -> Prop} (ho : s.heap.get? a = some o) (hc : o.cls = .type "set") (hd : o.dict = none) (hdat : ∀ c, o.data ≠ .cls c)
  (hq : ∀ tk, Q (.ref s.heap.objs.size) { s with heap := s.heap.push (bmObj a), toks := tk }) : wpAny (model prog w) A (getAttr (.ref a) "__contains__" expr) Q E s := by
 have hT : ({ s with toks := s.toks + 1 } : Shared).TypeIs (.ref a) "set" := ⟨o, ho, hc⟩
 unfold getAttr
 refine wpAny_bind (wpAny_mkText ?_)
 unfold getAttrBy
 refine wpAny_holding (wpAny_bind (wpAny_typeOf hT ?_))
 refine wpAny_bind (wpAny_of_eq F.slot_set_getattribute.lookup ?_)
 dsimp only
 rw [show (onTheHeap (.type "set") && Value.builtin "set.__getattribute__" == Value.builtin "object.__getattribute__") = false from rfl, if_neg (by decide)]
 unfold getAttrByItsOwn
 refine wpAny_bind (wpAny_of_eq (a := none) rfl ?_)
 refine wpAny_bind (wpAny_attempt (wpAny_holding ?_))
 unfold callGetattribute
 rw [show (expr && onTheHeap (Value.builtin "set.__getattribute__")) = false from Bool.and_false _, if_neg (by decide)]
 unfold boundAndCalled
 rw [F.slot_set_getattribute.bind]
 refine wpAny_bind (wpAny_pure ?_)
 show wpAny _ _ (call (.builtin "set.__getattribute__") [.ref a, .str "__contains__" s.toks]) _ _ _
 refine wpAny_call_entry F.slot_set_getattribute hT F.entry_set_ga ?_ (F.args_set_getattribute_2 _ _)
 unfold Builtin.«object.__getattribute__»
 refine wpAny_bind (wpAny_of_eq (a := (Value.ref a, [Value.str "__contains__" s.toks])) rfl ?_)
 dsimp only
 refine wpAny_bind (wpAny_of_eq (a := ("__contains__" : Str)) rfl ?_)
 refine wpAny_bind (wpAny_typeOf hT ?_)
 unfold find
 refine wpAny_bind (wpAny_bind (wpAny_of_eq F.slot_set_contains.lookup ?_))
 unfold getOf
 refine wpAny_bind ?_
 unfold specialOf
 refine wpAny_bind (wpAny_of_eq F.type_set_contains (wpAny_of_eq FS.iC.lookup ?_))
 unfold dataDescriptor? takesStores specialOf
 refine wpAny_bind (wpAny_bind (wpAny_bind (wpAny_bind (wpAny_of_eq F.type_set_contains (wpAny_of_eq FS.md_no_set ?_)))))
 refine bW Bool.false_ne_true ?_
 refine wpAny_bind (wpAny_bind (wpAny_of_eq F.type_set_contains (wpAny_of_eq FS.md_no_del (wpAny_pure ?_))))
 refine bW Bool.false_ne_true ?_
 refine wpAny_pure ?_
 dsimp only
 unfold ownThenClass
 refine wpAny_bind ?_
 unfold inOwnDict
 dsimp only
 refine wpAny_bind ?_
 refine mG ho hdat ?_
 unfold instanceDict
 refine wpAny_bind (wpAny_loadPart ho ?_)
 rw [hc]
 dsimp only
 rw [hd]
 dsimp only
 rw [if_pos (by decide)]
 refine wpAny_pure (wpAny_pure ?_)
 dsimp only
 refine wpAny_bind (wpAny_of_eq (a := ()) (by rfl) ?_)
 unfold byTheClass
 refine wpAny_bind (wpAny_rule (wpAny_pure ?_))
 dsimp only
 unfold bindTo
 dsimp only
 refine wpAny_bind (wpAny_holding (wpAny_call ?_))
 obtain ⟨err, e⟩ := md_tree a
 refine codeAny_call_builtin FS.iC.plain FS.entry_md_get (FS.iC.check _ _ _ _ _ _ _ _ F.type_set_contains (FS.args_md_get _ _ _) ?_)
 rw [e]
 refine wpAny_bind (wpAny_bind (wpAny_isInstance (T := "set") (b := true) hT (by rw [isSubtype_type]; kernel_rfl) ?_))
 refine bW Bool.false_ne_true ?_
 refine wpAny_pure (wpAny_bind ?_)
 refine wpAny_newObj_type (wpAny_pure ?_)
 refine wpAny_pure ⟨_, rfl, ?_⟩
 exact wpAny_of_eq (a := Value.ref s.heap.objs.size) rfl (hq _)
end
end Mine
namespace Mine
namespace FS
theorem sig_sc : Manifest.signature? "set.__contains__" = some ⟨.oneArg, "set.__contains__", "__contains__", .self, [⟨"object", .posOnly, true⟩]⟩ := by
 rw [signature?_of (id := "set.__contains__") (n := ['_', '_', 's', 'n', 'i', 'a', 't', 'n', 'o', 'c', '_', '_']) (o := ['t', 'e', 's']) (by kernel_rfl) F.owner_set]; kernel_rfl
theorem kind_sc : builtinKind "set.__contains__" = some .method := by decide +kernel
theorem sub_set_module : isSubtype (.type "set") (.type "module") = pure false := by rw [isSubtype_type]; kernel_rfl
theorem check_sc (a b : Value) : Bind.checkArgs "set.__contains__" ⟨.oneArg, s!"{Bind.lastOf "set"}.{Bind.lastOf "set.__contains__"}", "__contains__", .self, [⟨"object", .posOnly, true⟩]⟩ ⟨[a, b], []⟩ = pure () := by kernel_rfl
end FS
section
variable {prog : Program} {w : World} {A : Around} {E : Value -> Shared -> Prop} {s : Shared}
theorem bound_check {a : Addr} {o : Obj} {v : Value} {Q : Unit -> Shared -> Prop} (ho : s.heap.get? a = some o) (hc : o.cls = .type "set") {es : Array (Int × Value)} {ep : Nat} {tb : SetTable} (hd : o.data = .set es ep tb) (hq : Q () s) : wpAny (model prog w) A (checkBoundCall "set.__contains__" ⟨[.ref a, v], []⟩) Q E s := by
 unfold checkBoundCall
 rw [FS.sig_sc, FS.kind_sc]
 dsimp only
 rw [if_neg (by decide)]
 refine wpAny_bind (wpAny_isInstance (T := "set") (b := false) ⟨o, ho, hc⟩ FS.sub_set_module ?_)
 rw [show (Manifest.varargsMethods.contains "set.__contains__" || false) = false by decide +kernel, if_neg (by decide)]
 refine wpAny_bind (wpAny_bind ?_)
 refine wpAny_loadPart ho (wpAny_pure ?_)
 rw [hd]
 dsimp only
 rw [if_neg (by decide)]
 refine wpAny_bind (wpAny_typeOf (T := "set") ⟨o, ho, hc⟩ ?_)
 exact wpAny_of_eq (FS.check_sc _ _) hq
theorem bound_call {a B : Addr} {S : Str -> Bool} {n : Nat} {x : Str} {t : Tok} {Q : Value -> Shared -> Prop} (hB : s.heap.get? B = some (bmObj a)) (hS : s.heap.SetOf (strKind prog w) a S n) (hq : ∀ tk, Q (.bool (S x)) { s with toks := tk }) :
  wpAny (model prog w) A (call (.ref B) [.str x t]) Q E s := by
 obtain ⟨o, es, ep, tb, ho, hex, hd, rest⟩ := id hS
 have hdat : ∀ c, o.data ≠ .cls c := fun c q => by rw [hd] at q; cases q
 refine wpAny_call (codeAny_of_tree ?_)
 show wpAny _ _ (callAny (.ref B) ⟨[.str x t], []⟩) _ _ _
 unfold callAny
 dsimp only
 refine wpAny_bind (wpAny_load hB ?_)
 dsimp only
 rw [if_pos (by decide)]
 show wpAny _ _ (checkBoundCall "set.__contains__" ⟨[.ref a, .str x t], []⟩ >>= fun _ => again (.builtin "set.__contains__" ⟨[.ref a, .str x t], []⟩)) _ _ _
 refine wpAny_bind (bound_check ho hex.1 hd ?_)
 refine wpAny_pure ⟨plainId_quiet F.slot_set_contains.plain _, codeAny_builtin entry_set_contains ?_⟩
 rw [Around.under_plainId F.slot_set_contains.plain _]
 unfold Builtin.«frozenset.__contains__» Builtin.Frozenset.oneOther
 simp only [List.isEmpty_nil, bind_assoc]
 unfold Builtin.Frozenset.addrOf Builtin.Frozenset.withSetAsKey setContains
 refine wpAny_bind (wpAny_pure ?_)
 try dsimp only
 refine wpAny_bind (wpAny_pure ?_)
 try dsimp only
 refine wpAny_bind (wpAny_tryCatch ?_)
 refine wpAny_holding ?_
 refine wpAny_bind ((strKind prog w).pyHash (k := x) (strKind_is _ _ _ _) ?_)
 refine wpAny_bind (wpAny_setFind_of (s := { s with toks := s.toks + 1 }) (strKind_is _ _ _ _) rfl hS fun r hr => ?_)
 refine wpAny_pure ?_
 show wpAny _ _ (ret (Value.bool r.isSome)) _ _ _
 rw [hr]
 exact wpAny_pure (hq _)
end
namespace FF
theorem slot_next : Slot "filter" "__next__" "filter.__next__" :=
 .of (owner := "filter") (n := "__next__") (by rw [typeLookup_type, builtinLookup_eq_fast]; kernel_rfl) (by decide +kernel) (by decide +kernel) (by decide +kernel)
  (by first | exact .inl (by decide +kernel) | exact .inr (by decide +kernel)) (by rw [isSubtype_type]; kernel_rfl)
theorem slot_iter : Slot "filter" "__iter__" "filter.__iter__" :=
 .of (owner := "filter") (n := "__iter__") (by rw [typeLookup_type, builtinLookup_eq_fast]; kernel_rfl) (by decide +kernel) (by decide +kernel) (by decide +kernel)
  (by first | exact .inl (by decide +kernel) | exact .inr (by decide +kernel)) (by rw [isSubtype_type]; kernel_rfl)
theorem slot_init : Slot "filter" "__init__" "object.__init__" :=
 .of (owner := "object") (n := "__init__") (by rw [typeLookup_type, builtinLookup_eq_fast]; kernel_rfl) (by decide +kernel) (by decide +kernel) (by decide +kernel)
  (by first | exact .inl (by decide +kernel) | exact .inr (by decide +kernel)) (by rw [isSubtype_type]; kernel_rfl)
theorem entry_next : entryFor table "filter.__next__" = some Builtin.«filter.__next__» := entryFor_of_tree (by kernel_rfl)
theorem entry_new : entryFor table "filter.__new__" = some Builtin.«filter.__new__» := entryFor_of_tree (by kernel_rfl)
theorem entry_iter : entryFor table "filter.__iter__" = some Builtin.«dict_keyiterator.__iter__» :=
 entryFor_alias (id' := "dict_keyiterator.__iter__") (by kernel_rfl) (by first | rfl | decide +kernel) (by decide +kernel) (by kernel_rfl)
theorem args_next (a : Value) : argsOk "filter.__next__" ⟨[a], []⟩ := by unfold argsOk; kernel_rfl
theorem args_iter (a : Value) : argsOk "filter.__iter__" ⟨[a], []⟩ := by unfold argsOk; kernel_rfl
theorem mro : mroOf (.type "filter") = pure [.type "filter", .type "object"] := by rw [mroOf_type]; kernel_rfl
theorem lookup_new : typeLookup (.type "filter") "__new__" = pure (some (.builtin "filter.__new__")) := by rw [typeLookup_type, builtinLookup_eq_fast]; kernel_rfl
theorem called : TypeCalled "filter" "filter.__new__" "object.__init__" :=
 ⟨by decide +kernel, by decide +kernel, ⟨_, _, mro⟩, madeBy_type mro lookup_new (by decide +kernel), by decide +kernel, by rw [isSubtype_type]; kernel_rfl, slot_init⟩
theorem typeCall (a b : Value) : checkTypeCall "filter" ⟨[a, b], []⟩ = pure () := by kernel_rfl
theorem newCall (a b : Value) : checkBuiltinCall "filter.__new__" ⟨[.type "filter", a, b], []⟩ = pure () := by kernel_rfl
theorem sub : isSubtype (.type "filter") (.type "filter") = pure true := by rw [isSubtype_type]; kernel_rfl
theorem no_len : typeLookup (.type "filter") "__len__" = pure none := by rw [typeLookup_type, builtinLookup_eq_fast]; kernel_rfl
theorem no_hint : typeLookup (.type "filter") "__length_hint__" = pure none := by rw [typeLookup_type, builtinLookup_eq_fast]; kernel_rfl
end FF
theorem noLen_filter : NoLen "filter" := ⟨FF.no_len, FF.no_hint, by decide, by decide⟩
noncomputable abbrev filObj (B I : Addr) : Obj := { cls := .type "filter", data := .fields #[.ref B, .ref I] }
noncomputable abbrev filH (h : Heap) (l B : Addr) : Heap := (h.push (dZ l)).push (filObj B h.objs.size)
theorem lW (l B : Addr) (xs : Array Value) :
  Meets (Builtin.«filter.__new__» ⟨[.type "filter", .ref B, .ref l], []⟩) (fun _ R s => s.heap.IsList l xs /\ R (.ok (.ret (.ref (s.heap.push (dZ l)).objs.size))) { s with heap := filH s.heap l B }) :=
 .of_wp fun prog w A R s h => by
  obtain ⟨hp, g, d, tk, os⟩ := s; obtain ⟨hl, h⟩ := h
  have hsub := FF.sub
  have hL1 : Heap.IsList (Shared.heap ⟨hp, g, d, tk, os⟩) l xs := hl
  wp_walk using wpAny_pyIter_list hL1
  exact ⟨_, rfl, h⟩
structure mZ (prog : Program) (w : World) (h : Heap) (F B a I l : Addr) (S : Str -> Bool) (i : Nat) (ss : List Str) : Prop where
 f : h.get? F = some (filObj B I)
 b : h.get? B = some (bmObj a)
 s : ∃ n, h.SetOf (strKind prog w) a S n
 it : h.IsListIter I l i
 ls : ∃ items, h.IsList l items /\ StrsAre items.toList ss
 nF : F ≠ I
 nB : B ≠ I
 na : a ≠ I
 nl : l ≠ I
section
variable {prog : Program} {w : World} {A : Around} {E : Value -> Shared -> Prop} {s : Shared}
theorem call_filter {l B : Addr} {xs : Array Value} {Q : Value -> Shared -> Prop} (hl : s.heap.IsList l xs) (h : Q (.ref (s.heap.push (dZ l)).objs.size) { s with heap := filH s.heap l B }) :
  wpAny (model prog w) A (call (.type "filter") [.ref B, .ref l]) Q E s := by
 refine callType_new FF.called (by decide) (FF.typeCall _ _) (FF.newCall _ _) (fun obj => F.args_object_init_3 obj _ _) FF.entry_new (lW l B xs) ⟨hl, ?_⟩
 exact ⟨⟨_, Heap.get?_push_size _ rfl, rfl⟩, h⟩
theorem mZ.keep {h h' : Heap} {F B a I l : Addr} {S : Str -> Bool} {i j : Nat} {ss : List Str} (X : mZ prog w h F B a I l S i ss) (k : ∀ b o, b ≠ I -> h.get? b = some o -> h'.get? b = some o) (it : h'.IsListIter I l j) : mZ prog w h' F B a I l S j ss :=
 ⟨k _ _ X.nF X.f, k _ _ X.nB X.b, by obtain ⟨n, o, es, ep, tb, ho, r⟩ := X.s; exact ⟨n, o, es, ep, tb, k _ _ X.na ho, r⟩, it, by obtain ⟨its, e, z⟩ := X.ls; exact ⟨its, e.at fun o q => k _ o X.nl q, z⟩, X.nF, X.nB, X.na, X.nl⟩
theorem strs_at {items : List Value} {ss : List Str} (z : StrsAre items ss) (i : Nat) : (items[i]? = none /\ ss[i]? = none) ∨ ∃ x t, ss[i]? = some x /\ items[i]? = some (.str x t) := by
 cases h : items[i]? with
 | none =>
  left
  refine ⟨rfl, ?_⟩
  have len : ∀ {a : List Value} {b : List Str}, StrsAre a b -> a.length = b.length := fun z => by induction z <;> simp_all
  rw [List.getElem?_eq_none_iff] at h ⊢
  rw [<- len z]; exact h
 | some v =>
  right
  obtain ⟨x, t, a, b⟩ := gH z h
  exact ⟨x, t, a, by rw [b]⟩
set_option tactic.hygienic true in
theorem lit_item {it l : Addr} {i : Nat} {items : Array Value} {x : Value} {Q : Option Value -> Shared -> Prop} (hit : s.heap.IsListIter it l i) (hl : s.heap.IsList l items) (hx : items[i]? = some x)
  (hQ : ∀ h', h'.IsListIter it l (i + 1) -> Heap.SameBut it s.heap h' -> Q (some x) { s with heap := h' }) : wpAny (model prog w) A (callSpecial? (.ref it) "__next__") Q E s := by
 obtain ⟨o, ho, hc, hd⟩ := id hit
 obtain ⟨ol, hol, _, nl, hdl⟩ := hl
 refine wpAny_callSpecial?_slot (name := Str.ofString "__next__") hit.typeIs slot_listiter_next (wpAny_call_entry slot_listiter_next hit.typeIs entry_listiter_next ?_ (args_listiter_next _))
 show wpAny _ _ (field (.ref it) 0 >>= _) _ _ s
 refine wpAny_bind (wpAny_field ho hd (x := .ref l) rfl ?_)
 show wpAny _ _ (if (Value.ref l == Value.none) = true then _ else _) _ _ s
 rw [if_neg (show ¬ ((Value.ref l == Value.none) = true) from Bool.false_ne_true)]
 show wpAny _ _ (field (.ref it) 1 >>= _) _ _ s
 refine wpAny_bind (wpAny_field ho hd (x := .int i 0) rfl ?_)
 refine wpAny_bind (wpAny_seqItems hol hdl ?_)
 dsimp only
 rw [Int.toNat_natCast, hx]
 dsimp only
 refine wpAny_bind (wpAny_setField ho hd (by simp) (wpAny_pure ⟨x, rfl, hQ _ ⟨_, Heap.get?_update_self _ ho (Obj.isFreed_of_fields (Obj.data_mapFields hd _)), (Obj.cls_mapFields ..).trans hc, ?_⟩ (Heap.SameBut.update ..)⟩))
 rw [Obj.data_mapFields hd]; simp [rawInt]
set_option tactic.hygienic true in
theorem lit_end {it l : Addr} {i : Nat} {items : Array Value} {Q : Option Value -> Shared -> Prop} (hh : A.handled = none) (hit : s.heap.IsListIter it l i) (hl : s.heap.IsList l items) (hx : items[i]? = none)
  (hE : ∀ h' e, Heap.ExtBut it s.heap h' -> (∃ o, h'.get? e = some o /\ o.cls = .type "StopIteration") -> E (.ref e) { s with heap := h' }) : wpAny (model prog w) A (callSpecial? (.ref it) "__next__") Q E s := by
 obtain ⟨o, ho, hc, hd⟩ := id hit
 obtain ⟨ol, hol, _, nl, hdl⟩ := hl
 refine wpAny_callSpecial?_slot (name := Str.ofString "__next__") hit.typeIs slot_listiter_next (wpAny_call_entry slot_listiter_next hit.typeIs entry_listiter_next ?_ (args_listiter_next _))
 show wpAny _ _ (field (.ref it) 0 >>= _) _ _ s
 refine wpAny_bind (wpAny_field ho hd (x := .ref l) rfl ?_)
 show wpAny _ _ (if (Value.ref l == Value.none) = true then _ else _) _ _ s
 rw [if_neg (show ¬ ((Value.ref l == Value.none) = true) from Bool.false_ne_true)]
 show wpAny _ _ (field (.ref it) 1 >>= _) _ _ s
 refine wpAny_bind (wpAny_field ho hd (x := .int i 0) rfl ?_)
 refine wpAny_bind (wpAny_seqItems hol hdl ?_)
 dsimp only
 rw [Int.toNat_natCast, hx]
 dsimp only
 refine wpAny_bind (wpAny_rule (wpAny_bind (wpAny_setField ho hd (by simp) ?_)))
 show wpAny _ _ (newExc (.type "StopIteration") [] >>= _) _ _ _
 refine wpAny_bind ?_
 unfold newExc newTuple
 refine wpAny_bind (wpAny_newObj_type ?_ (by size_fits))
 refine wpAny_bind (m := firstArgMember _ _) (wpAny_of_eq (a := Value.none) rfl ?_)
 refine wpAny_newObj_type ?_ (by size_fits)
 unfold raiseNew
 refine wpAny_bind (wpAny_handled ?_)
 first | rw [show A.in1.handled = none from hh] | rw [hh]
 exact wpAny_bind (wpAny_pure (wpAny_throw (hE _ _ (((Heap.SameBut.update ..).extBut.push _).push _) ⟨_, Heap.get?_push_size _ rfl, rfl⟩)))
theorem mL {R : Result -> Shared -> Prop} {F B a I l : Addr} {S : Str -> Bool} {ss : List Str} (hh : A.handled = none) : ∀ (k i : Nat) (s : Shared), ss.length - i = k -> mZ prog w s.heap F B a I l S i ss ->
  (∀ x t rest h' tk j, (ss.drop i).filter S = x :: rest -> (ss.drop j).filter S = rest -> mZ prog w h' F B a I l S j ss -> (∀ b o, b ≠ I -> s.heap.get? b = some o -> h'.get? b = some o) -> R (.ok (.ret (.str x t))) { s with heap := h', toks := tk }) ->
  ((ss.drop i).filter S = [] -> ∀ e h' tk, (∀ b o, b ≠ I -> s.heap.get? b = some o -> h'.get? b = some o) -> (∃ o, h'.get? e = some o /\ o.cls = .type "StopIteration") -> R (.error (.ref e)) { s with heap := h', toks := tk }) ->
  wpAny (model prog w) A.in1 (Builtin.«filter.__next__» ⟨[.ref F], []⟩) (fun fin s' => match fin with | .done f => R (.ok f) s' | .again c' => c'.quiet = true /\ codeAny (model prog w) A c' R s') (fun e s' => R (.error e) s') s := by
 intro k
 induction k with
 | zero =>
  intro i s hk X hi he
  obtain ⟨items, hl, z⟩ := X.ls
  have hs0 : ss[i]? = none := List.getElem?_eq_none (by omega)
  have hx : items[i]? = none := by
   rcases strs_at z i with ⟨q, _⟩ | ⟨x, t, q, _⟩
   ·simpa using q
   ·rw [hs0] at q; cases q
  show wpAny _ _ (field (.ref F) 0 >>= _) _ _ _
  refine wpAny_bind (wpAny_field X.f rfl (x := .ref B) rfl ?_)
  refine wpAny_bind (wpAny_field X.f rfl (x := .ref I) rfl ?_)
  refine wpAny_bind (lit_end (by simp [hh]) X.it hl hx fun h' e hs hc => ?_)
  exact he (by rw [List.drop_eq_nil_of_le (by omega)]; rfl) e h' s.toks (fun b o n q => hs b o n q) hc
 | succ k ih =>
  intro i s hk X hi he
  obtain ⟨items, hl, z⟩ := X.ls
  have hlt : i < ss.length := by omega
  obtain ⟨x, t, hsx, hx⟩ : ∃ x t, ss[i]? = some x /\ items[i]? = some (.str x t) := by
   rcases strs_at z i with ⟨_, q⟩ | ⟨x, t, q, q'⟩
   ·rw [List.getElem?_eq_getElem hlt] at q; cases q
   ·exact ⟨x, t, q, by simpa using q'⟩
  have hdrop : ss.drop i = x :: ss.drop (i + 1) := by
   rw [List.drop_eq_getElem_cons hlt]
   rw [List.getElem?_eq_getElem hlt] at hsx
   rw [Option.some.inj hsx]
  show wpAny _ _ (field (.ref F) 0 >>= _) _ _ _
  refine wpAny_bind (wpAny_field X.f rfl (x := .ref B) rfl ?_)
  refine wpAny_bind (wpAny_field X.f rfl (x := .ref I) rfl ?_)
  refine wpAny_bind (lit_item X.it hl hx fun h' hit hs => ?_)
  have X' : mZ prog w h' F B a I l S (i + 1) ss := X.keep (fun b o n q => hs.extBut b o n q) hit
  obtain ⟨n, hS⟩ := X'.s
  refine wpAny_bind (wpAny_holding ?_)
  rw [show ((Value.ref B == Value.none) || (Value.ref B == Value.type "bool")) = false from rfl, if_neg (by decide)]
  refine wpAny_bind (bound_call (s := { s with heap := h' }) X'.b hS fun tk => ?_)
  refine wpAny_holding (wpAny_truthy_bool ?_)
  cases hSx : S x with
  | true =>
   rw [if_pos rfl]
   exact wpAny_pure (hi x t _ h' tk (i + 1) (by rw [hdrop, List.filter_cons_of_pos hSx]) rfl X' fun b o n q => hs.extBut b o n q)
  | false =>
   rw [if_neg (by decide)]
   refine wpAny_pure ⟨plainId_quiet FF.slot_next.plain _, codeAny_builtin FF.entry_next ?_⟩
   rw [Around.under_plainId FF.slot_next.plain _]
   have hf : (ss.drop i).filter S = (ss.drop (i + 1)).filter S := by rw [hdrop, List.filter_cons_of_neg (by simp [hSx])]
   refine ih (i + 1) { s with heap := h', toks := tk } (by omega) X' (fun x' t' rest h2 tk2 j e1 e2 X2 k2 => ?_) (fun e1 e h2 tk2 k2 hc => ?_)
   ·exact hi x' t' rest h2 tk2 j (hf.trans e1) e2 X2 fun b o n q => k2 b o n (hs.extBut b o n q)
   ·exact he (hf.trans e1) e h2 tk2 (fun b o n q => k2 b o n (hs.extBut b o n q)) hc
end
theorem filter_walks {prog : Program} {w : World} {A : Around} (hh : A.handled = none) {F B a I l : Addr} {S : Str -> Bool} {ss : List Str} :
  Walks prog w A F [F, B, a, I, l] [I] (ss.filter S).length (fun i v => ∃ x t, (ss.filter S)[i]? = some x /\ v = .str x t) (fun i h => ∃ j, mZ prog w h F B a I l S j ss /\ (ss.drop j).filter S = (ss.filter S).drop i) where
 sub := fun b hb => by simp at hb; simp [hb]
 frame := by rintro i h h' ⟨j, X, e⟩ k; exact ⟨j, ⟨k F (by simp) _ X.f, k B (by simp) _ X.b, by obtain ⟨n, o, es, ep, tb, ho, r⟩ := X.s; exact ⟨n, o, es, ep, tb, k a (by simp) _ ho, r⟩, X.it.at fun o e => k I (by simp) o e, by obtain ⟨its, e, z⟩ := X.ls; exact ⟨its, e.at fun o q => k l (by simp) o q, z⟩, X.nF, X.nB, X.na, X.nl⟩, e⟩
 item := by
  rintro i s Q E hi ⟨j, X, e⟩ hQ
  have hT : s.TypeIs (.ref F) "filter" := ⟨_, X.f, rfl⟩
  unfold pyNext
  refine wpAny_bind (wpAny_attempt (wpAny_callSpecial?_slot (name := Str.ofString "__next__") hT FF.slot_next (wpAny_call (codeAny_call_builtin FF.slot_next.plain FF.entry_next (FF.slot_next.check _ _ _ _ _ _ _ _ hT (FF.args_next _) ?_)))))
  refine mL (R := wants _ _) hh _ j s rfl X (fun x t rest h' tk j' e1 e2 X' k => ?_) (fun e1 => ?_)
  ·refine wpAny_pure (hQ _ h' tk ⟨x, t, ?_, rfl⟩ ⟨j', X', ?_⟩ fun b o hb q => k b o (fun w => hb (by simp [w])) q)
   ·have := congrArg List.head? (e.symm.trans e1)
    rw [List.head?_drop] at this
    simpa using this
   ·rw [e2]
    have := congrArg List.tail (e.symm.trans e1)
    rw [List.tail_drop] at this
    exact this.symm
  ·rw [e] at e1
   have := List.drop_eq_nil_iff.mp e1
   omega
 done := by
  rintro s Q E ⟨j, X, e⟩ hQ
  have hT : s.TypeIs (.ref F) "filter" := ⟨_, X.f, rfl⟩
  unfold pyNext
  refine wpAny_bind (wpAny_attempt (wpAny_callSpecial?_slot (name := Str.ofString "__next__") hT FF.slot_next (wpAny_call (codeAny_call_builtin FF.slot_next.plain FF.entry_next (FF.slot_next.check _ _ _ _ _ _ _ _ hT (FF.args_next _) ?_)))))
  refine mL (R := wants _ _) hh _ j s rfl X (fun x t rest h' tk j' e1 e2 X' k => ?_) (fun e1 ee h' tk k hc => ?_)
  ·rw [e, List.drop_length] at e1; cases e1
  ·obtain ⟨o, ho, hcls⟩ := hc
   refine wpAny_bind (wpAny_isInstance (T := "StopIteration") (b := true) ⟨o, ho, hcls⟩ isSubtype_stop ?_)
   exact wpAny_pure (hQ h' tk fun b o hb q => k b o (fun w => hb (by simp [w])) q)
 self := by
  rintro i s Q E ⟨j, X, e⟩ hQ
  have hT : s.TypeIs (.ref F) "filter" := ⟨_, X.f, rfl⟩
  refine wpAny_pyIter_slot hT FF.slot_iter (wpAny_call_entry FF.slot_iter hT FF.entry_iter ?_ (FF.args_iter _))
  exact wpAny_pure ⟨_, rfl, "filter", _, hT, FF.slot_next.lookup, hQ⟩
variable {C : Cfg}
theorem items_strs {l : List Str} {acc : Array Value} (h : ItemsOf (fun i v => ∃ x t, l[i]? = some x /\ v = .str x t) acc l.length) : StrsAre acc.toList l := by
 have key : ∀ (vs : List Value) (l : List Str), vs.length = l.length -> (∀ (j : Nat) (v : Value), vs[j]? = some v -> ∃ x t, l[j]? = some x /\ v = .str x t) -> StrsAre vs l := by
  intro vs
  induction vs with
  | nil => intro l h1 h2; cases l with
   | nil => exact .nil
   | cons a l => cases h1
  | cons v vs ih =>
   intro l h1 h2
   cases l with
   | nil => cases h1
   | cons a l =>
    obtain ⟨x, t, e1, e2⟩ := h2 0 v rfl
    simp at e1
    subst e1 e2
    exact .cons _ _ (ih l (by simpa using h1) fun j v hv => by simpa using h2 (j + 1) v (by simpa using hv))
 exact key _ _ (by simpa using h.1) fun j v hv => h.2 j v (by simpa using hv)
section
variable {r : Nat} {sc : Scope} {ρ : Rho} {own : Own}
theorem Ev.listFilter {e1 e2 : Expr} {lp fp sp ap cp1 cp2 pos : Pos} {as ss : List Str} (x1 : Ev C r sc ρ own e1 (.list (au ss))) (x2 : Ev C r sc ρ own e2 (.list (au as))) (bl : iu C sc "list" (.type "list")) (bf : iu C sc "filter" (.type "filter")) (bs : iu C sc "set" (.type "set"))
  (lss : ss.length <= 30) (n1 : autoParam (notStar e1 = true) tacR) (n2 : autoParam (notStar e2 = true) tacR)
  (hc : autoParam (dU (.Call (.Name "set" sp) [e1] [] cp1) "__contains__" ap) tacU) :
  Ev C r sc ρ own (.Call (.Name "list" lp) [.Call (.Name "filter" fp) [.Attribute (.Call (.Name "set" sp) [e1] [] cp1) "__contains__" ap, e2] [] cp2] [] pos) (.list (au (as.filter fun x => ss.any (· == x)))) := by
 constructor; intro A env W h₀ O h R G S tk qQ qE qK
 obtain ⟨l1, l2, l3, l4, l5⟩ := bl
 obtain ⟨f1, f2, f3, f4, f5⟩ := bf
 obtain ⟨s1, s2, s3, s4, s5⟩ := bs
 refine wpAny_Call_NameR ((Ev.builtin G S l1 l3 l2 l4 l5).use2 fun v h1 tk1 a1 a2 => ?_)
 subst a1 a2
 refine PySem.callWith_type rfl (aU rfl ?_)
 refine spliced_cons ?_
 refine wpAny_Call_NameR ((Ev.builtin G S f1 f3 f2 f4 f5).use2 fun v2 h2 tk2 a3 a4 => ?_)
 subst a3 a4
 have na : ([.Attribute (.Call (.Name "set" sp) [e1] [] cp1) "__contains__" ap, e2] : List Expr).all notStar = true := by simp only [List.all_cons, List.all_nil, n2]; rfl
 refine PySem.callWith_type (bI cp2 env _ na) (aU na ?_)
 rw [aJ _ [e2] env rfl, aJ e2 [] env n2]
 refine spliced_cons ?_
 refine Attribute_any_ ?_ (hc env)
 refine wpAny_Call_NameR ((Ev.builtin G S s1 s3 s2 s4 s5).use2 fun v3 h3 tk3 a5 a6 => ?_)
 subst a5 a6
 refine PySem.callWith_type (bI cp1 env [e1] (by simp only [List.all_cons, List.all_nil, n1]; rfl)) (aU (by simp only [List.all_cons, List.all_nil, n1]; rfl) ?_)
 rw [aJ e1 [] env n1]
 refine spliced_cons ((x1.go A env W h₀ O _ R G S).use2 fun v4 h4 tk4 e4 z4 => ?_)
 have S4 := S.ext e4
 refine spliced_nil ?_
 obtain ⟨la, vs, k, rfl, g, nw, sz, rr⟩ := z4.list_inv
 have lvs := rr.length
 rw [au, List.length_map] at lvs
 refine call_set_strs R.1 (aO g) (ss := ss) (by simpa using ao.au rr) (by show _ < 4096; rw [List.size_toArray]; lia) fun h5 tk5 m hm hS k5 => ?_
 have x5 : Ext C h4 h5 := .all S4.inv k5
 have S5 := S4.ext x5
 obtain ⟨os, es, ep, tb, ho, hex, hd, hel⟩ := id hS
 refine j7 (s := sh C h5 tk5) ho hex.1 hex.2.1 (fun c q => by rw [hd] at q; cases q) fun tk6 => ?_
 have x6 : Ext C h5 (h5.push (bmObj h4.objs.size)) := .push S5.inv _
 have S6 := S5.ext x6
 have tB : ¬ C.Tb h5.objs.size := (S5.inv.fresh_of_none (aj h5)).2
 have tA : ¬ C.Tb h4.objs.size := (S4.inv.fresh_of_none (aj h4)).2
 have gB : (h5.push (bmObj h4.objs.size)).get? h5.objs.size = some (bmObj h4.objs.size) := Heap.get?_push_size _ rfl
 have gA : (h5.push (bmObj h4.objs.size)).get? h4.objs.size = some os := Heap.get?_push_of_some _ ho
 refine spliced_cons ((x2.go A env W h₀ O _ R G S6).use2 fun v7 h7 tk7 e7 z7 => ?_)
 have S7 := S6.ext e7
 refine spliced_nil ?_
 obtain ⟨lb, vs2, k2, rfl, g2, nw2, sz2, rr2⟩ := z7.list_inv
 have gB7 := e7.1 _ _ gB tB
 have gA7 := e7.1 _ _ gA tA
 refine call_filter (xs := vs2.toArray) (aO g2) ?_
 refine spliced_nil ?_
 have sI : (h7.push (dZ lb)).objs.size = h7.objs.size + 1 := Heap.size_push ..
 generalize hH : filH h7 lb h5.objs.size = H
 have sH : H.objs.size = h7.objs.size + 2 := by rw [<- hH, Heap.size_push, sI]
 have kH : ∀ b o, h7.get? b = some o -> H.get? b = some o := fun b o q => by rw [<- hH]; exact Heap.get?_push_of_some _ (Heap.get?_push_of_some _ q)
 have IH : Inv C H := S7.inv.keeps kH
 show wpAny (md C) A (PySem.call (.type "list") [Value.ref (h7.push (dZ lb)).objs.size]) _ _ (sh C H tk7)
 rw [sI]
 have XF : mZ C.prog C.w H (h7.objs.size + 1) h5.objs.size h4.objs.size h7.objs.size lb (fun x => ss.any (· == x)) 0 as := by
  refine ⟨?_, kH _ _ gB7, ⟨m, os, es, ep, tb, kH _ _ gA7, hex, hd, hel⟩, ?_, ⟨vs2.toArray, ⟨_, kH _ _ g2, rfl, k2, rfl⟩, by simpa using ao.au rr2⟩, kI (by decide), Nat.ne_of_lt (Heap.lt_size gB7), Nat.ne_of_lt (Heap.lt_size gA7), Nat.ne_of_lt (Heap.lt_size g2)⟩
  ·rw [<- hH, <- sI]; exact Heap.get?_push_size _ rfl
  ·rw [<- hH]; exact ⟨_, Heap.get?_push_of_some _ (Heap.get?_push_size _ rfl), rfl, rfl⟩
 have ltH : ∀ {b o}, h7.get? b = some o -> b < H.objs.size := fun q => by rw [sH]; exact Nat.lt_add_right 2 (Heap.lt_size q)
 have l2 := rr2.length
 rw [au, List.length_map] at l2
 have lf : (as.filter fun x => ss.any (· == x)).length <= 1048576 := Nat.le_trans (List.length_filter_le _ _) (by simpa [au] using sz2)
 refine list_any (s := sh C H tk7) noLen_filter (filter_walks (prog := C.prog) (w := C.w) (A := A.in1.in1) (by simp [R.1]) (F := h7.objs.size + 1) (B := h5.objs.size) (a := h4.objs.size) (I := h7.objs.size) (l := lb) (S := fun x => ss.any (· == x)) (ss := as)).toS (by rintro i s ⟨j, X, _⟩; exact ⟨_, X.f, rfl⟩) ⟨0, XF, rfl⟩ (fun b hb => ?_) (by simp) (fun s' acc c' hm hg hit => ?_) (by simpa [sizeLine] using Nat.le_trans lf (by decide))
 ·simp only [List.mem_cons, List.not_mem_nil, or_false] at hb
  show b < H.objs.size
  rcases hb with rfl | rfl | rfl | rfl | rfl
  ·rw [sH]; exact Nat.lt_succ_self _
  ·exact ltH gB7
  ·exact ltH gA7
  ·rw [sH]; exact Nat.lt_add_of_pos_right (by decide)
  ·exact ltH g2
 ·obtain ⟨hh, gg, dd, tt, oo⟩ := s'
  have eg : gg = _ := hm.gens
  have ed : dd = _ := hm.drawn
  have eo : oo = _ := hm.os
  have hg : hh.get? H.objs.size = some (aM acc.toList c') := by
   have : hh.get? H.objs.size = some { cls := .type "list", dict := Option.none, data := .seq acc c', slots := #[] } := hg
   rw [this]
  have kp : Kp (fun a => a = H.objs.size ∨ a = h7.objs.size) (H.push (aM [] 0)) hh := fun b o q n => hm.heap b o (by simpa using n) q
  have Ih : Inv C hh := by
   refine (IH.push (aM [] 0)).kp (fun a q => ?_) (fun a q o e => ?_) kp
   ·rcases q with q | q
    ·rw [q]; exact IH.fresh_of_none (aj H)
    ·rw [q]; exact S7.inv.fresh_of_none (aj h7)
   ·rcases q with q | q
    ·rw [q, Heap.get?_push_size _ rfl] at e
     exact nc_of fun v w => by cases e; cases w
    ·rw [q] at e
     exact iK (XF.it.at fun o e => Heap.get?_push_of_some _ e) o e
  have kk : Kp C.Tb h3 hh := fun b o q n => by
   have q4 := e4.1 b o q n
   have q7 := e7.1 b o (Heap.get?_push_of_some _ (k5 b o q4)) n
   exact kp b o (Heap.get?_push_of_some _ (kH b o q7)) fun w => w.elim (Nat.ne_of_lt (ltH q7)) (Nat.ne_of_lt (Heap.lt_size q7))
  have ext : Ext C h3 hh := ⟨kk, Ih⟩
  have nD : h3.get? H.objs.size = Option.none := by
   cases q : h3.get? H.objs.size with
   | none => rfl
   | some o =>
    have lt := Heap.lt_size q
    have tD : ¬ C.Tb H.objs.size := (IH.fresh_of_none (aj H)).2
    have q4 := e4.1 _ o q tD
    have q7 := e7.1 _ o (Heap.get?_push_of_some _ (k5 _ o q4)) tD
    exact absurd (ltH q7) (Nat.lt_irrefl _)
  rw [eg, ed, eo]
  exact qK _ hh tt ⟨ext, .list hg (fun q => S.wOld' _ q nD) (by simpa [au] using lf) (strsVal (items_strs hit))⟩
end
section
variable {r : Nat} {sc : Scope} {O : Str -> Prop} {ρ : Rho} {own : Own} {P : aZ}
theorem aB.inI {x : Int} {ns : List Int} : aB C .In (.int x) (.list (bK ns)) (ns.any (· == x)) := by
 intro A W h v1 v2 R U I z1 z2 tk qQ qE qK
 refine z1.intE fun t => ?_
 refine z2.listE fun a vs n g nw l rr => ?_
 exact in_list_ints (aO g) rr.bK (qK _ h _ ⟨rfl, rfl⟩)
theorem aB.notInI {x : Int} {ns : List Int} : aB C .NotIn (.int x) (.list (bK ns)) (!ns.any (· == x)) := by
 intro A W h v1 v2 R U I z1 z2 tk qQ qE qK
 refine z1.intE fun t => ?_
 refine z2.listE fun a vs n g nw l rr => ?_
 exact notin_list_ints (aO g) rr.bK (qK _ h _ ⟨rfl, rfl⟩)
theorem aB.inP {d : D} {ds : List D} (p1 : plainAll ds = true) (p2 : d.plain = true) (s1 : PyData.canLayAll0 (cH ds) = true) (s2 : SeqAt.shaped d.py = true) : aB C .In d (.list ds) ((cH ds).any fun y => PyData.eqv y d.py) := by
 intro A W h v1 v2 R U I z1 z2 tk qQ qE qK
 obtain ⟨as, r1⟩ := z1.reads p2
 obtain ⟨bs, r2⟩ := z2.reads (d := .list ds) p1
 refine SeqAt.in_list_reads (s := sh C h tk) r2 r1 s1 (SeqAt.canLay_of_shaped s2) ?_ (qK _ h _ ⟨rfl, rfl⟩)
 have h1 := SeqAt.depth_of_shaped s2
 have h2 := Nat.min_le_right (PyData.depthAll (cH ds)) d.py.depth
 show A.units + 1 + _ < 9900
 omega
theorem InOk.fdiv {x y : Int} (k : y ≠ 0) (k2 : Builtin.divisionGoesByPylong x y = false) : InOk C .FloorDiv (.int x) (.int y) (.int (x.fdiv y)) := by
 intro A W h v1 v2 R I tw wo z1 z2 tk qQ qE qK; refine z1.intE fun _ => ?_; refine z2.intE fun _ => ?_
 exact ifloordiv_int k (qK _ h _ ⟨.refl I, .int _ _⟩) (.inl k2)
theorem Fn.startswith {x y : Str} : Fn C r (.builtin "str.startswith") [.str x, .str y] (.bool (Txt.startswith x y)) := by
 intro A W h vs R I tw wok z tk qQ qE qK
 obtain ⟨v, u, rfl, q, q'⟩ := z.two
 refine q.strE fun t => ?_
 refine q'.strE fun t' => ?_
 exact call_gives F.slot_str_startswith (typeIs_str _ x t) F.entry_str_startswith (F.args_str_startswith_2 _ _) (gives_str_startswith x y t t') (qK _ h _ ⟨.refl I, .bool _⟩)
noncomputable def showD (ds : List D) : Str := (PyData.list (cH ds)).shown
theorem Fn.reprP {ds : List D} (b1 : plainAll ds = true) (b3 : PyData.showableAll (cH ds) = true) (b4 : PyData.hasDictAll (cH ds) = false) (b5 : PyData.depthAll (cH ds) <= 1) (l : (showD ds).length <= 1048576) : Fn C r (.builtin "repr") [.list ds] (.str (showD ds)) := by
 intro A W h vs R I tw wok z tk qQ qE qK
 obtain ⟨v, rfl, q⟩ := z.one
 obtain ⟨as, rd⟩ := q.reads (d := .list ds) b1
 revert rd
 refine q.listE fun a vs n g nw l' rr rd => ?_
 refine repr_of_reads' (s := sh C h tk) (h₀ := h) rd b3 (PyData.noDict_hsm b4) R.2.2.2 ?_ (fun _ _ e => e) (fun h' u tk' hk => (qK _ h' tk' ⟨.all I hk, .str _ _⟩)) (by show (showD ds).length <= _; simp [sizeLine]; omega)
 have := R.2.2.1
 show A.units + (PyData.depthAll (cH ds) + 1 + 1) < 9900
 omega
end
end Mine
namespace Mine
open PySem.Builtin.Str
variable {C : Cfg}
theorem split_none (x : Str) (t : Tok) : Builtin.«str.split» ⟨[.str x t, .none], []⟩ = Builtin.«str.split» ⟨[.str x t], []⟩ := rfl
noncomputable def iz (x : Str) : List Str := if (spaceWords x (x.length + 1) == [(0, x.length)]) = true then [x] else PySem.wordsOf x
section
variable {r : Nat}
theorem Fn.splitN {x : Str} (hx : x.length <= 1048576) (hn : (spaceWords x (x.length + 1)).length <= 1048576) : Fn C r (.builtin "str.split") [.str x, .none] (.list (au (iz x))) := by
 intro A W h vs R I tw wok z tk qQ qE qK
 obtain ⟨v, u, rfl, q, q'⟩ := z.two
 refine q.strE fun t => ?_
 refine q'.noneE ?_
 have m := meets_str_split_space x t (by simp [sizeLine]; omega) (by simp [sizeLine]; omega)
 rw [<- split_none] at m
 refine call_meets F.slot_str_split (typeIs_str _ x t) F.entry_str_split (F.args_str_split_2 _ _) m ?_
 unfold iz at qK
 by_cases w : (spaceWords x (x.length + 1) == [(0, x.length)]) = true
 ·rw [if_pos w] at qK ⊢
  exact (qK _ _ _ ⟨.push I _, .list (vs := [.str x t]) (Heap.get?_push_size _ rfl) (eH wok.old) (by simp [au]) (.cons (.str _ _) .nil)⟩)
 ·rw [if_neg w] at qK ⊢
  exact (qK _ _ _ ⟨.push I _, .list (vs := strsFrom tk _) (Heap.get?_push_size _ rfl) (eH wok.old) (by simpa [au, PySem.wordsOf] using hn) (strsVal (gJ _ _))⟩)
theorem Fn.index {x : Str} {ss : List Str} {j : Nat} (l : ss.length <= 1048576) (hj : ss[j]? = some x) (no : ∀ i, i < j -> ss[i]? ≠ some x) : Fn C r (.builtin "list.index") [.list (au ss), .str x] (.int j) := by
 intro A W h vs R I tw wok z tk qQ qE qK
 obtain ⟨v, u, rfl, q, q'⟩ := z.two
 refine q'.strE fun t' => ?_
 refine q.listE fun a vs n g nw l' rr => ?_
 have len : vs.length = ss.length := by rw [rr.length]; exact List.length_map _
 have at_ : ∀ (i : Nat) (y : Str), ss[i]? = some y -> ∃ t, vs[i]? = some (.str y t) := fun i y e => by
  obtain ⟨v, hv, z⟩ := rr.get (k := i) (d := .str y) (by unfold au; rw [List.getElem?_map, e]; rfl)
  obtain ⟨t, rfl⟩ := z.str_inv
  exact ⟨t, hv⟩
 have all : ∀ y ∈ vs, ∃ s t, y = Value.str s t := fun y hy => by
  obtain ⟨i, hi⟩ := List.mem_iff_getElem?.mp hy
  have hlt : i < ss.length := by rw [<- len]; exact (List.getElem?_eq_some_iff.mp hi).1
  obtain ⟨t, e⟩ := at_ i _ (List.getElem?_eq_getElem hlt)
  exact ⟨_, t, Option.some.inj (hi.symm.trans e)⟩
 have hjl : j < vs.length := by rw [len]; exact (List.getElem?_eq_some_iff.mp hj).1
 obtain ⟨t0, e0⟩ := at_ j x hj
 have hx : vs[j] = .str x t0 := Option.some.inj ((List.getElem?_eq_getElem hjl).symm.trans e0)
 refine call_meets F.slot_list_index ⟨_, g, rfl⟩ F.entry_list_index (F.args_list_index_2 _ _)
  (SeqAt.list_indexAt a vs.toArray n none #[] (.str x t') (fun y => match y with | .str s _ => s == x | _ => false) j (by simpa using hjl) (by omega) (by
   show (match vs[j] with | .str s _ => s == x | _ => false) = true
   rw [hx]; exact beq_self_eq_true x) (fun m hm hmj => by
   have hm' : m < ss.length := by rw [<- len]; simpa using hm
   obtain ⟨t, e⟩ := at_ m _ (List.getElem?_eq_getElem hm')
   have hv : vs[m]'(by simpa using hm) = .str ss[m] t := Option.some.inj ((List.getElem?_eq_getElem _).symm.trans e)
   show (match vs[m]'(by simpa using hm) with | .str s _ => s == x | _ => false) = false
   rw [hv]
   exact beq_eq_false_iff_ne.mpr fun q => no m hmj (by rw [List.getElem?_eq_getElem hm', q])))
  ⟨g, fun y hy => ?_, (qK _ h _ ⟨.refl I, .int _ _⟩)⟩
 obtain ⟨s, t, rfl⟩ := all y (by simpa using hy)
 exact SeqAt.EqAt.str_str s t x t'
end
end Mine
namespace Mine
variable {C : Cfg}
theorem m8 {prog : Program} {w : World} {A : Around} {R : Result -> Shared -> Prop} {s : Shared} {elt target iter : Expr} {ifs : List Expr} {c0 : Comprehension} {scope : Scope} {pos : Pos} {it acc : Value} {env : Env}
  (h0 : codeAny (model prog w) A (.compLoop (.ListComp elt [c0, ⟨target, iter, ifs, 0⟩] scope pos) 1 it acc env) R s)
  (h : ∀ E, wpAny (model prog w) A (pyIter it) (fun it' s' => codeAny (model prog w) A (.compLoop (.ListComp elt [c0, ⟨target, iter, ifs, 0⟩] scope pos) 1 it' acc env) R s') E s) :
  codeAny (model prog w) A (.compStart (.ListComp elt [c0, ⟨target, iter, ifs, 0⟩] scope pos) 1 it acc env) R s := by
 refine codeAny_of_tree ?_
 show wpAny _ _ ((compStart (.ListComp elt [c0, ⟨target, iter, ifs, 0⟩] scope pos) 1 it acc env).onRaise (fun x => do noteFrame x env; standAt theWindowsPlace)) _ _ s
 refine wpAny_notedAt ?_
 unfold compStart
 show wpAny _ _ (ask >>= _) _ _ s
 refine wpAny_bind (wpAny_askSetting (wpAny_ite ?_))
 split
 ·first
   | exact wpAny_bind (wpAny_pure (wpAny_pure (And.intro rfl h0)))
   | exact wpAny_pure (And.intro rfl h0)
 ·first
   | exact wpAny_bind (wpAny_rule (wpAny_bind (wpAny_standAt (wpAny_bind (wpAny_mono (h _) (fun it' s' h' => wpAny_pure (And.intro rfl h')) fun _ _ x => x)))))
   | (refine wpAny_bind (wpAny_rule ?_); show wpAny _ _ (standAt iter.pos >>= _) _ _ s; exact wpAny_bind (wpAny_standAt (wpAny_bind (wpAny_mono (h _) (fun it' s' h' => wpAny_pure (And.intro rfl h')) fun _ _ x => x))))
inductive InnI (C : Cfg) (W wr : Addr -> Prop) (h₀ : Heap) (env : Env) (O : Str -> Prop) (ρ : Rho) (own : Own) (St' : (Addr -> Prop) -> Nat -> Heap -> Prop) (Acc : (Addr -> Prop) -> Nat -> Addr -> Heap -> Prop) (D : Addr) (len : Nat) (h2 : Heap) (n : Nat) (s : Shared) : Prop
 | mk (i : Nat) (hh : Heap) (tk' : Tok) (e : s = sh C hh tk') (en : n = len + 1 - i) (hi : i <= len) (S : St C (more W wr) h₀ env O ρ own hh) (st : St' (Wof (more W wr) own) i hh) (k : Kp (fun a => (aN C env O a ∨ a = D) ∨ wr a) h2 hh)
   (acc : Acc (Wof (more W wr) own) i D hh) : InnI C W wr h₀ env O ρ own St' Acc D len h2 n s
theorem comp_inner {A : Around} {env : Env} {W : Addr -> Prop} {h₀ h : Heap} {r : Nat} {scope : Scope} {ρ : Rho} {own : Own} {elt tg iter : Expr} {c0 : Comprehension} {pos : Pos} {ifs : List Expr} {ds : List D} {upd : D -> Rho -> Rho} {p : D -> Bool}
  {emit : Value -> Env -> Sem PySem.Fin -> Sem PySem.Fin} {Acc : (Addr -> Prop) -> Nat -> Addr -> Heap -> Prop} {D : Addr}
  (R : bL r A) (EI : jU C h₀ scope env W D) (S : St C W h₀ env (aa scope) ρ own h) (src : EvI C r scope ρ own tg iter ds)
  (hturn : ∀ it acc env, (md C).den (.compLoop (.ListComp elt [c0, ⟨tg, iter, ifs, 0⟩] scope pos) 1 it acc env) = (jY 1 (.ListComp elt [c0, ⟨tg, iter, ifs, 0⟩] scope pos) iter tg ifs (emit acc) it acc env).onRaise (fun x => do noteFrame x env; theTreesLotGoes x))
  (hu : ∀ d ∈ ds, ∀ x e, ρ.lookup x = some e -> (upd d ρ).lookup x = some e)
  (asg : ∀ d ∈ ds, Asg C r scope (aa scope) tg d (upd d)) (tst : ∀ d ∈ ds, di C r scope (upd d ρ) own ifs (p d))
  (hAcc : AccOk C Acc) (acc0 : Acc (Wof W own) 0 D h)
  (hemit : ∀ i d, ds[i]? = some d -> p d = true -> ∀ W' hh, jU C h₀ scope env W' D -> St C W' h₀ env (aa scope) (upd d ρ) own hh -> Acc (Wof W' own) i D hh ->
   EmitTo C A (emit (.ref D) env) hh fun h' => Acc (Wof W' own) (i + 1) D h' /\ Kp (fun a => aN C env (aa scope) a ∨ a = D) hh h' /\ St C W' h₀ env (aa scope) ρ own h')
  (hskip : ∀ i d, ds[i]? = some d -> p d = false -> ∀ W D hh, Acc W i D hh -> Acc W (i + 1) D hh)
  (hs : ∀ env x, foldedSetIterable iter env x = pure x) :
  EmitTo C A (fun k => do
    let x <- eval iter env
    standAt iter.pos
    let x <- foldedSetIterable iter env x
    let _ <- runOwn (.compStart (.ListComp elt [c0, ⟨tg, iter, ifs, 0⟩] scope pos) 1 (<- holding [x] (pyIter x)) (.ref D) env) env
    k) h fun h' => Acc (Wof W own) ds.length D h' /\ Kp (fun a => aN C env (aa scope) a ∨ a = D) h h' /\ St C W h₀ env (aa scope) ρ own h' := by
 intro tk k Q E hk
 have exD : h.get? D ≠ Option.none := (hAcc.plain _ _ _ _ acc0).ne
 refine wpAny_bind ((src.go A env W h₀ (aa scope) h R EI.gl S).use fun x h1 tk1 tri => wpAny_bind (wpAny_standAt (wpAny_bind (wpAny_of_eq (hs env x) (wpAny_bind (wpAny_holding (tri.use ?_)))))))
 rintro it h2 tk2 ⟨e2, wr, St', I, fr, st0, hl⟩
 have S2 : St C (more W wr) h₀ env (aa scope) ρ own h2 := S.more e2 fr
 have wr0 : ∀ a, wr a -> h₀.get? a = Option.none := fun a q => S.fresh0 (fr a q).1
 have wrS : ∀ a, Seen env a -> ¬ wr a := S.seen_ne fun a q => (fr a q).1
 have wrW : ∀ a, wr a -> ¬ W a := fun a q w => S.wOld a w (fr a q).1
 have wrM : ∀ {a}, aN C env (aa scope) a -> ¬ wr a := fun m q => S.exists_mutF m (fr _ q).1
 have wrD : ¬ wr D := fun q => exD (fr D q).1
 have hwr : ∀ a, wr a -> Wof (more W wr) own a := fun a q => .inl (.inr q)
 have EI2 : jU C h₀ scope env (more W wr) D := ⟨EI.fr, EI.f0, EI.gl, EI.sto, .inl EI.wD, EI.nS⟩
 have wof : ∀ a o, h.get? a = some o -> Wof (more W wr) own a -> Wof W own a := fun a o z q => by
  rcases q with (q | q) | q
  ·exact .inl q
  ·rw [(fr a q).1] at z; cases z
  ·exact .inr q
 have acc2 : Acc (Wof (more W wr) own) 0 D h2 := hAcc.frame C.Tb (Wof W own) _ 0 D h h2 acc0 e2.1 S.tw (fun t => EI.fr.2 t) wof
 refine wpAny_bind (wpAny_runOwn (h := Option.none) ?_ nofun)
 rw [Around.mark_none]
 generalize hR : (fun (r : Result) (s' : Shared) => match r with | .ok f => wpAny (md C) A k Q E s' | .error e => cameBackBy (md C) A env E e s') = RR
 have fin : ∀ i hh tk', i = ds.length -> St C (more W wr) h₀ env (aa scope) ρ own hh -> St' (Wof (more W wr) own) i hh -> Kp (fun a => (aN C env (aa scope) a ∨ a = D) ∨ wr a) h2 hh -> Acc (Wof (more W wr) own) i D hh -> ∀ E', wpAny (md C) A (pyNext it) (fun r s₁ => match r with
   | none => RR (.ok .next) s₁
   | some v => False) E' (sh C hh tk') := by
  intro i hh tk' ei S3 st k3 acc3 E'
  subst ei
  refine (I.done _ hh st hwr S3.inv).use3 fun rr h4 tk4 er I4 k4 => ?_
  subst er
  rw [<- hR]
  have acc4 := hAcc.frame wr _ (Wof W own) _ D hh h4 acc3 k4 hwr wrD fun _ _ _ q => q.imp .inl id
  refine hk _ _ ⟨acc4, fun b o e n => ?_, S3.less S k4 I4 (fun _ q => q) wrW wr0 wrS⟩
  have nw : ¬ wr b := fun q => by rw [(fr b q).1] at e; cases e
  exact k4 b o (k3 b o (e2.1 b o e fun t => n (.inl (.inl t))) fun q => q.elim n nw) nw
 have loop : ∀ tk', codeAny (md C) A (.compLoop (.ListComp elt [c0, ⟨tg, iter, ifs, 0⟩] scope pos) 1 it (.ref D) env) RR (sh C h2 tk') := by
  intro tk'
  refine mR (hturn it (.ref D) env) rfl (InnI C W wr h₀ env (aa scope) ρ own St' Acc D ds.length h2) ?_ (ds.length + 1)
   ⟨0, h2, tk', rfl, rfl, Nat.zero_le _, S2, I.frame (fun _ => False) _ (Wof (more W wr) own) 0 h2 h2 st0 (.refl _) (fun _ f => f.elim) (fun _ f => f.elim) (fun a o e q => by
    rcases q with (q | q) | q
    ·exact .inl (.inl q)
    ·exact .inr q
    ·exact .inl (.inr q)), .refl _, acc2⟩
  rintro n s ⟨i, hh, tk5, rfl, rfl, hi, S3, st, k3, acc3⟩ E'
  by_cases hlt : i < ds.length
  ·have hd : ds[i]? = some ds[i] := List.getElem?_eq_getElem hlt
   have hmem : ds[i] ∈ ds := List.getElem_mem hlt
   refine (I.item _ i hh ds[i] st hwr S3.tw S3.wOld' S3.inv hd).useE fun rr h4 tk4 v er go => ?_
   subst er
   refine go.use ?_
   rintro _ h5 tk6 ⟨I5, k5, x5, st5, z5⟩
   have S5 : St C (more W wr) h₀ env (aa scope) ρ own h5 := S3.frame k5 I5 (fun a q => .inr q) (fun a q => .inr (wr0 a q)) wrS fun a q => .inr (x5 a q)
   have acc5 := hAcc.frame wr _ (Wof (more W wr) own) i D hh h5 acc3 k5 hwr wrD fun _ _ _ q => q
   refine ((asg ds[i] hmem).go A env _ h₀ ρ own h5 v R EI.sto S5 (.of z5)).use2 fun _ h6 tk7 S6 k6 => ?_
   have st6 := I.frame _ _ (Wof (more W wr) own) (i + 1) h5 h6 st5 k6 (fun a q => aN.sub S5 q) (fun a q => wrM q) (fun _ _ _ q => q)
   have nMD : ¬ aN C env (aa scope) D := fun q => by
    rcases q with q | q | ⟨x, _, q⟩
    ·exact EI.fr.2 q
    ·exact EI.nS (.inl q)
    ·exact EI.nS (.inr ⟨x, q⟩)
   have acc6 := hAcc.frame _ _ (Wof (more W wr) own) i D h5 h6 acc5 k6 (fun a q => aN.sub S5 q) nMD fun _ _ _ q => q
   refine ((tst ds[i] hmem).go A env _ h₀ (aa scope) h6 R EI.gl S6).use2 fun ok h7 tk8 e7 ok7 => ?_
   have S7 := S6.ext e7
   have tbwr : ∀ a, C.Tb a -> ¬ wr a := fun a t => wrM (.inl t)
   have st7 := I.frame _ _ (Wof (more W wr) own) (i + 1) h6 h7 st6 e7.1 S6.tw tbwr fun _ _ _ q => q
   have acc7 := hAcc.frame _ _ (Wof (more W wr) own) i D h6 h7 acc6 e7.1 S6.tw (fun t => EI.fr.2 t) fun _ _ _ q => q
   have k7 : Kp (fun a => (aN C env (aa scope) a ∨ a = D) ∨ wr a) h2 h7 := fun b o e n =>
    e7.1 b o (k6 b o (k5 b o (k3 b o e n) fun q => n (.inr q)) fun q => n (.inl (.inl q))) fun q => n (.inl (.inl (.inl q)))
   subst ok7
   cases hp : p ds[i] with
   | true =>
    rw [if_pos rfl]
    refine fun k' Qf hk' => hemit i ds[i] hd hp (more W wr) h7 EI2 S7 acc7 _ k' Qf _ ?_
    rintro h8 tk9 ⟨acc8, k8, S8⟩
    have st8 := I.frame _ _ (Wof (more W wr) own) (i + 1) h7 h8 st7 k8 (fun a (q : aN C env (aa scope) a ∨ a = D) => q.elim (aN.sub S7) fun (q : a = D) => .inl (.inl (q ▸ EI.wD))) (fun a (q : aN C env (aa scope) a ∨ a = D) => q.elim wrM fun (q : a = D) => q ▸ wrD) fun _ _ _ q => q
    exact hk' _ ⟨ds.length + 1 - (i + 1), by omega, i + 1, h8, tk9, rfl, rfl, hlt, S8, st8, fun b o e n => k8 b o (k7 b o e n) fun q => n (.inl q), acc8⟩
   | false =>
    rw [if_neg Bool.false_ne_true]
    exact ⟨ds.length + 1 - (i + 1), by omega, i + 1, h7, tk8, rfl, rfl, hlt, S7.weaken (hu _ hmem), st7, k7, hskip i ds[i] hd hp _ _ _ acc7⟩
  ·have ei : i = ds.length := by omega
   refine wpAny_mono (fin i hh tk5 ei S3 st k3 acc3 E') (fun r s₁ q => ?_) fun _ _ q => q
   cases r with
   | none => exact q
   | some v => exact q.elim
 exact m8 (loop tk2) fun E' => (I.self _ 0 h2 st0).use2 fun v hv tkv ev eh => by
  subst ev eh
  exact loop tkv
noncomputable def accO (C : Cfg) (out : Nat -> List D) (W : Addr -> Prop) (i : Nat) (a : Addr) (h : Heap) : Prop := ∃ vs k, h.get? a = some (aM vs k) /\ ao C W h vs (out i)
theorem accO_ok {out : Nat -> List D} : AccOk C (accO C out) where
 frame := by rintro S Wa Wb i D h h' ⟨vs, k, e, z⟩ kp hs nD hw; exact ⟨vs, k, kp _ _ e nD, z.kp kp hs hw⟩
 plain := by rintro W i D h ⟨vs, k, e, z⟩; exact ⟨_, e, dW e _ e⟩
section
variable {r : Nat} {sc scope : Scope} {O : Str -> Prop} {ρ ρc : Rho} {own : Own} {P : aZ} {tg iter elt tg2 iter2 : Expr} {ifs2 : List Expr} {ds : List D} {ds2 : D -> List D} {upd upd2 : D -> Rho -> Rho} {p2 : D -> D -> Bool} {f : D -> D -> D} {pos : Pos}
structure CompIn2 (C : Cfg) (r : Nat) (scope : Scope) (ρ1 : Rho) (own : Own) (elt tg2 iter2 : Expr) (ifs2 : List Expr) (ds2 : List D) (upd2 : D -> Rho -> Rho) (p2 : D -> Bool) (f : D -> D) : Prop where
 src : EvI C r scope ρ1 own tg2 iter2 ds2
 hu : ∀ d ∈ ds2, ∀ x e, ρ1.lookup x = some e -> (upd2 d ρ1).lookup x = some e
 asg : ∀ d ∈ ds2, Asg C r scope (aa scope) tg2 d (upd2 d)
 tst : ∀ d ∈ ds2, di C r scope (upd2 d ρ1) own ifs2 (p2 d)
 el : ∀ d ∈ ds2, p2 d = true -> Ev C r scope (upd2 d ρ1) own elt (f d)
noncomputable def gK (ds : List D) (ds2 : D -> List D) (p2 : D -> D -> Bool) (f : D -> D -> D) : List D := ds.flatMap fun d => ((ds2 d).filter (p2 d)).map (f d)
theorem out2_take {d : D} {i : Nat} (h : ds[i]? = some d) : gK (ds.take (i + 1)) ds2 p2 f = gK (ds.take i) ds2 p2 f ++ ((ds2 d).filter (p2 d)).map (f d) := by
 unfold gK
 rw [List.take_add_one, h, List.flatMap_append]
 exact congrArg _ (List.append_nil _)
theorem comp_list2 {A : Around} {env : Env} {W : Addr -> Prop} {h₀ h : Heap} {cpos : Pos} {use : Option (Value -> Sem Unit)}
  (X : jc C r sc scope ρ ρc own tg iter [] ds upd fun _ => true) (Y : ∀ d ∈ ds, CompIn2 C r scope (upd d ρc) own elt tg2 iter2 ifs2 (ds2 d) upd2 (p2 d) (f d)) (hs2 : ∀ env x, foldedSetIterable iter2 env x = pure x) (len : ∀ i, (gK (ds.take i) ds2 p2 f).length + 1000 <= 1048576) (l2 : ∀ d ∈ ds, (ds2 d).length < 1000)
  (R : bL r A) (G : GlobOf env sc) (S : St C W h₀ env O ρ own h)
  {Q : Value -> Shared -> Prop} {E : Value -> Shared -> Prop} {tk : Tok}
  (cont : ∀ D Lc H tkH m, h.get? D = Option.none -> h.get? Lc = Option.none -> D ≠ Lc -> D ≠ sysModules -> Ext C h H -> H.Ns Lc m -> bc C (fun b => Wof W own b ∨ b = D ∨ b = Lc) H D (.list (gK ds ds2 p2 f)) -> compPost (md C) A E use Q (.ref D) Lc (.ok .next) (sh C H tkH)) :
  wpAny (md C) A (comprehension (.ListComp elt [⟨tg, iter, [], 0⟩, ⟨tg2, iter2, ifs2, 0⟩] scope pos) scope env cpos (newList []) false (eval iter env) use) Q E (sh C h tk) := by
 refine comp_run (emit := fun acc env k => (do
    let x <- eval iter2 env
    standAt iter2.pos
    let x <- foldedSetIterable iter2 env x
    let _ <- runOwn (.compStart (.ListComp elt [⟨tg, iter, [], 0⟩, ⟨tg2, iter2, ifs2, 0⟩] scope pos) 1 (<- holding [x] (pyIter x)) acc env) env
    k)) (Acc := accO C fun i => gK (ds.take i) ds2 p2 f) R G S X.src rfl (fun _ _ _ => rfl) (fun _ _ _ => rfl) (fun h0 h1 => codeAny_compStart_list h0 (h1 _)) X.hkind X.hnd X.hcap X.hρ X.hu X.asg X.tst accO_ok ?_ ?_ ?_ X.hs ?_
 ·intro h1 I E Q tk1 k
  have e : (h1.push (aM [] 0)).get? h1.objs.size = some (aM [] 0) := Heap.get?_push_size _ rfl
  exact wpAny_newObj_type (k h1.objs.size (h1.push (aM [] 0)) tk1 (aj h1) I.size_mods ((I.push _).notTb e (by intro vs q; cases q)) (fun _ _ e => Heap.get?_push_of_some _ e) fun W => ⟨[], 0, e, .nil⟩)
 ·intro i d hd _ cenv W' hh D EI S' acc
  have hmem : d ∈ ds := List.mem_of_getElem? hd
  have y := Y d hmem
  have H := comp_inner (emit := fun acc env k => ((do let _ <- call (.builtin "list.append") [acc, <- eval elt env] : Sem Unit) >>= fun _ => k)) (Acc := accO C fun j => gK (ds.take i) ds2 p2 f ++ (((ds2 d).take j).filter (p2 d)).map (f d)) (c0 := ⟨tg, iter, [], 0⟩) (pos := pos) R EI S' y.src (fun _ _ _ => rfl) y.hu y.asg y.tst accO_ok
   (by obtain ⟨vs, k, e, z⟩ := acc; exact ⟨vs, k, e, by show ao C _ _ _ (gK (ds.take i) ds2 p2 f ++ []); rw [List.append_nil]; exact z⟩) ?_ ?_ hs2
  ·intro tk k Q E hk
   refine H tk k Q E ?_
   rintro h' tk' ⟨⟨vs, k2, e, z⟩, kp, S2⟩
   refine hk h' tk' ⟨⟨vs, k2, e, ?_⟩, kp, S2.weaken (X.hu d hmem)⟩
   show ao C _ _ _ (gK (ds.take (i + 1)) ds2 p2 f)
   rw [out2_take hd]
   have z : ao C _ _ _ (gK (ds.take i) ds2 p2 f ++ (((ds2 d).take (ds2 d).length).filter (p2 d)).map (f d)) := z
   rw [List.take_length] at z
   exact z
  ·rintro j b hb hp W2 h2 EI2 S2 ⟨vs, k, e, z⟩ tk' kk qQ qE qK
   have bmem : b ∈ ds2 d := List.mem_of_getElem? hb
   refine wpAny_bind (wpAny_bind (((y.el b bmem hp).go A cenv W2 h₀ _ h2 R EI2.gl S2).use2 fun v h3 tk3 x3 z3 => ?_))
   have nT : ¬ C.Tb D := S2.inv.notTb e (by intro vs q; cases q)
   have e3 := x3.1 _ _ e nT
   refine wpAny_bind (wpAny_list_append_plain ⟨k, e3⟩ (fun h4 ⟨k4, e4⟩ hs => wpAny_pure (qK h4 _ ⟨⟨vs ++ [v], k4, by simpa using e4, ?_⟩, EI2.st S2 (y.hu b bmem) ?_ ?_ ⟨_, e4, dW e4 _ e4⟩⟩)) ?_)
   ·have kk : Kp (fun a => a = D) h3 h4 := fun b o q n => hs.extBut b o n q
    have sub : ∀ a, a = D -> Wof W2 own a := fun a q => .inl (q ▸ EI2.wD)
    show ao C _ _ _ (gK (ds.take i) ds2 p2 f ++ (((ds2 d).take (j + 1)).filter (p2 d)).map (f d))
    rw [dj hb, hp, if_pos rfl, List.map_append, <- List.append_assoc]
    exact ((z.ext x3 S2.tw).keep kk sub).append (.cons (z3.keep kk sub) .nil)
   ·exact fun b o q n => hs.extBut b o (fun w => n (.inr w)) (x3.1 b o q fun w => n (.inl w))
   ·exact x3.2.extBut EI2.fr (dW e3) hs.extBut
   ·have h1 := z.length
    have h3 := len i
    have h4 : (((ds2 d).take j).filter (p2 d)).length <= (ds2 d).length := Nat.le_trans (List.length_filter_le _ _) (by rw [List.length_take]; omega)
    have := l2 d hmem
    rw [List.length_append, List.length_map] at h1
    simp [sizeLine]; omega
  ·intro j b hb hp W2 D h2 ⟨vs, k, e, z⟩
   refine ⟨vs, k, e, ?_⟩
   show ao C _ _ _ (gK (ds.take i) ds2 p2 f ++ (((ds2 d).take (j + 1)).filter (p2 d)).map (f d))
   rw [dj hb, hp, if_neg (by nofun), List.append_nil]; exact z
 ·intro i d hd hp
  cases hp
 ·intro D Lc H tkH m a1 a2 a3 a4 a5 a6 ⟨vs, k, e, z⟩
  have l := len ds.length
  have z : ao C _ _ _ (gK (ds.take ds.length) ds2 p2 f) := z
  rw [List.take_length] at z l
  exact cont D Lc H tkH m a1 a2 a3 a4 a5 a6 ⟨vs, k, e, by omega, z⟩
theorem EvF.listcomp2 (X : jc C r sc scope ρ ρc own tg iter [] ds upd fun _ => true) (Y : ∀ d ∈ ds, CompIn2 C r scope (upd d ρc) own elt tg2 iter2 ifs2 (ds2 d) upd2 (p2 d) (f d)) (hs2 : ∀ env x, foldedSetIterable iter2 env x = pure x) (len : ∀ i, (gK (ds.take i) ds2 p2 f).length + 1000 <= 1048576) (l2 : ∀ d ∈ ds, (ds2 d).length < 1000) :
  EvF C r sc ρ own (.ListComp elt [⟨tg, iter, [], 0⟩, ⟨tg2, iter2, ifs2, 0⟩] scope pos) (.list (gK ds ds2 p2 f)) := by
 constructor; intro A env W h₀ O h R G S tk qQ qE qK
 refine comp_list2 (use := Option.none) X Y hs2 len l2 R G S fun D Lc H tkH m a1 a2 a3 a4 a5 a6 z => ⟨m, a6, fun h' hs' => (qK _ h' tkH ⟨D, rfl, a1, a4, ⟨fun b o e n => hs'.extBut b o (fun q => by rw [q, a2] at e; cases e) (a5.1 b o e n), a5.2.extBut (S.inv.fresh_of_none a2) (mJ a6) hs'.extBut⟩, ?_⟩)⟩
 have kk : Kp (fun a => a = Lc) H h' := fun b o q n => hs'.extBut b o n q
 exact z.kp2 kk (fun a q => .inr (.inr q)) (fun a _ _ q => q.imp id .inl) a3
end
end Mine
namespace Mine
open PySem
noncomputable abbrev pw : Program := PySem.Challenge.pw_wy0041_01
noncomputable def iJ : Stmt := .Pass ⟨0, 0, 0, 0⟩
noncomputable def aP (i : Nat) : Stmt := pw.main.body.getD i iJ
noncomputable def inner (s : Stmt) (j : Nat) : Stmt := (sv s).2.1.getD j iJ
end Mine
namespace Mine
variable {C : Cfg}
structure Ws where
 raw : Str
 n : Nat
 nt : Nat
 count : List Int
 tr : Nat
noncomputable def Ws.fs (x : Ws) : List (Str × D) := [("raw", .str x.raw), ("n", .int x.n), ("nt", .int x.nt), ("norm", .tup [.tup (bK x.count), .int x.tr]), ("is_simple", .bool (decide (x.count.length <= 1)))]
noncomputable abbrev Ws.d (Cl : Addr) (x : Ws) : D := .obj Cl x.fs
noncomputable abbrev mBody (c i : Nat) : List Stmt := (parts (inner (aP c) i)).2.1
noncomputable abbrev mSc (c i : Nat) : Scope := (parts (inner (aP c) i)).2.2
noncomputable abbrev fBody (i : Nat) : List Stmt := (parts (aP i)).2.1
noncomputable abbrev fSc (i : Nat) : Scope := (parts (aP i)).2.2
theorem Fn.lenT {r : Nat} {ds : List D} : Fn C r (.builtin "len") [.tup ds] (.int ds.length) := by
 intro A W h vs R I tw wok z tk qQ qE qK; have wo := wok.old
 obtain ⟨v, rfl, q⟩ := z.one
 refine q.tupE fun a vs g nw l rr => ?_
 have e := rr.length
 have h1 : (vs.toArray.size : Int) = (ds.length : Int) := by simp [e]
 obtain ⟨o, e1, e2, n, e3⟩ := g
 refine len_tuple ⟨o, e1, e2, n, e3⟩ (by simp [e]; lia) (qK _ h _ ⟨.refl I, ?_⟩)
 rw [h1]; exact .int _ _
noncomputable def nR (s : Stmt) : List Stmt := (sv s).2.1
noncomputable def ifThen (s : Stmt) : List Stmt := (sv s).2.1
noncomputable def ifElse (s : Stmt) : List Stmt := (sv s).2.2.1
noncomputable def nthS (l : List Stmt) (i : Nat) : Stmt := l.getD i iJ
noncomputable def gG : List Str := ["raw", "n", "nt", "norm", "is_simple"]
noncomputable def fP : List Str := ["useragents", "rulelines", "delay", "req_rate"]
theorem longest_ok {r : Nat} {Cl : Addr} {mN : Str -> Option Value} (cl : Cls C Cl gG mN) (x : Ws) :
  X C r (mSc 15 2) (aa (mSc 15 2)) [("self", x.d Cl)] [] (mBody 15 2) fun f _ _ => f = .ret (.int (max ((x.count.length : Int) - 1) x.tr)) := by
 refine X.cons (X1.assign (d := .tup [.tup (bK x.count), .int x.tr]) (.attr cl .name) (.tup (.cons (.name (.inl rfl)) (.cons (.name (.inl rfl)) .nil))) ?_)
 refine X.cons (X1.ret (.callB .of (.cons (.bin (.callB .of (.cons .name .nil) Fn.lenT) .int .sub) (.cons .name .nil)) Fn.max2) ?_)
 show cX.ret _ = cX.ret _
 simp [bK]
structure FnT (C : Cfg) (x : Str) (s : Stmt) where
 a : Addr
 g : C.mg x = some (.ref a)
 cd : Value
 d : cY C a s cd
theorem FnT.gf {x : Str} {s : Stmt} (T : FnT C x s) : GFn C x T.a := ⟨T.g, by obtain ⟨o, fd, a, _, b, _⟩ := T.d; exact ⟨o, fd, a, b⟩⟩
structure FnM (C : Cfg) (x : Str) (s : Stmt) (nm : Str) where
 a : Addr
 g : C.mg x = some (.ref a)
 c : Addr
 P : Addr
 d : cY C a s (.ref c)
 m : (c, P) ∈ C.tabs
 qn : ∀ q l k, C.hB.CodeRec (.ref c) q -> C.qn P l k = q ++ (".<locals>." : Str) ++ nm
theorem FnM.gf {x nm : Str} {s : Stmt} (T : FnM C x s nm) : GFn C x T.a := ⟨T.g, by obtain ⟨o, fd, a, _, b, _⟩ := T.d; exact ⟨o, fd, a, b⟩⟩
structure jB (C : Cfg) (Cl : Addr) (mN : Str -> Option Value) (x : Str) (s : Stmt) where
 a : Addr
 at_ : mN x = some (.ref a)
 cd : Value
 d : cY C a s cd
theorem jB.m {Cl : Addr} {mN : Str -> Option Value} {x : Str} {s : Stmt} (T : jB C Cl mN x s) (top : autoParam (∃ y, typeLookup (.type "object") x = pure y) tacM) : Meth C Cl mN x T.a :=
 ⟨T.at_, by obtain ⟨o, fd, a, c, b, _⟩ := T.d; exact ⟨o, fd, a, c, b⟩, top⟩
noncomputable def enFs (as rs : D) : List (Str × D) := [("useragents", as), ("rulelines", rs), ("delay", .none), ("req_rate", .none)]
theorem einit_ok {r : Nat} {En a : Addr} {cd : Value} {mN : Str -> Option Value} (cl : Cls C En fP mN) (hi : mN "__init__" = some (.ref a)) (De : cY C a (inner (aP 2) 0) cd) :
  lE C (r + 2) En [] fun dA own' => ∃ l1 l2, own' = [(l2, .list []), (l1, .list []), (dA, .ns (enFs (.own l1) (.own l2)))] := by
 refine De.new cl hi (me := "self") (ns := []) fun dA => X.c ?_
 refine X.cons (X1.setAttrNew cl 0 (.list .nil (by decide)) fun l1 => ?_)
 refine X.cons (X1.setAttrNew cl 1 (.list .nil (by decide)) fun l2 => ?_)
 refine X.cons (X1.setAttr cl 2 .none ?_)
 refine X.cons (X1.setAttr cl 2 .none ?_)
 exact X.nil ⟨rfl, l1, l2, rfl⟩
section
variable {r : Nat} {sc : Scope} {O : Str -> Prop} {ρ : Rho} {own : Own} {P : aZ}
theorem St.drop {W : Addr -> Prop} {h₀ h : Heap} {env : Env} {a : Addr} {d : D} {i : Nat} (S : St C W h₀ env O ρ own h) (hi : own[i]? = some (a, d)) : St C W h₀ env O ρ (own.eraseIdx i) h := by
 have hw : ∀ b o, h.get? b = some o -> Wof W (own.eraseIdx i) b -> Wof W own b := fun b o _ q => q.erase
 refine { S with bound := fun y e hy => ?_, owns := fun p hp => ?_, nodup := ?_ }
 ·obtain ⟨v, b, z⟩ := S.bound y e hy
  refine ⟨v, b, ?_⟩
  cases e with
  | own b => exact z
  | _ => exact Val.kp (.refl _) (S := fun _ => False) (fun _ f => f.elim) hw z
 ·obtain ⟨o1, w1, r1⟩ := S.owns p (eU hp)
  exact ⟨o1.kp2 (.refl _) (S := fun _ => False) (fun _ f => f.elim) hw (fun f => f), w1, r1⟩
 ·exact S.nodup.sublist ((List.eraseIdx_sublist own i).map _)
theorem X.drop {ss : List Stmt} {a : Addr} {d : D} (i : Nat) (y : X C r sc O ρ (own.eraseIdx i) ss P) (hi : autoParam (own[i]? = some (a, d)) tacR) : X C r sc O ρ own ss P := by
 constructor; intro A env W h₀ h R G S
 refine (y.go A env W h₀ h R G (S.drop hi)).mono fun fl h' ⟨fd, ρ', own', p, S', fi, k, g⟩ => ⟨fd, ρ', own', p, S', fi, k.mono fun b q => q.erase, fun b hb => (g b hb).imp (fun q => ?_) id⟩
 obtain ⟨p, hp, e⟩ := List.mem_map.mp q
 exact List.mem_map.mpr ⟨p, eU hp, e⟩
theorem EvF.app {a b : Expr} {pos : Pos} {x y : List D} (xa : Ev C r sc ρ own a (.list x)) (yb : Ev C r sc ρ own b (.list y)) (k : x.length + y.length <= 1048576) : EvF C r sc ρ own (.BinOp a .Add b pos) (.list (x ++ y)) := by
 constructor; intro A env W h₀ O h R G S tk qQ qE qK
 refine wpAny_BinOp ((xa.go A env W h₀ O h R G S).use2 fun v1 h1 tk1 e1 z1 => ?_)
 have S1 := S.ext e1
 refine (yb.go A env W h₀ O h1 R G S1).use2 fun v2 h2 tk2 e2 z2 => ?_
 have S2 := S1.ext e2
 have z1' := z1.ext e2 S.tw
 refine z1'.listE fun a vs n g1 n1 s1 r1 => ?_
 refine z2.listE fun b ws n' g2 n2 s2 r2 => ?_
 have e3 : Ext C h2 (h2.push (aM (vs ++ ws) 0)) := .push S2.inv _
 refine concat_meets ⟨_, g1, rfl⟩ ⟨_, g2, rfl⟩ noFill_list_add seq_list_add PySem.F.slot_list_add PySem.F.entry_list_add (PySem.F.args_list_add_2 _ _)
  (list_addW a b vs.toArray ws.toArray _ _ none none #[] #[] (by have := r1.length; have := r2.length; simp [sizeLine]; lia)) ⟨g1, g2, ?_⟩
 have q : vs.toArray ++ ws.toArray = (vs ++ ws).toArray := by simp
 rw [q]
 refine (qK _ _ _ ⟨_, rfl, (e1.trans e2).none_back (aj h2), S2.inv.size_mods, (e1.trans e2).trans e3, vs ++ ws, 0, Heap.get?_push_size _ rfl, by simpa using k, ?_⟩)
 exact (r1.append r2).kp e3.1 S.tw fun b o e q => q.elim id fun q => by rw [q, aj] at e; cases e
end
noncomputable def bump (c : List Int) (b : Nat) : List Int :=
 let c' := if b ≥ c.length then c ++ List.replicate (b - c.length + 1) 0 else c
 c'.set b ((c'.getD b 0) + 1)
noncomputable def scan : List Nat -> Nat -> Nat -> List Int -> Nat -> Nat × Nat × List Int × Nat
 | [], n, nt, c, b => (n, nt, c, b)
 | ch :: l, n, nt, c, b => if ch = 32 then scan l (n + 1) nt c (b + 1) else if ch = 9 then scan l (n + 1) (nt + 1) (bump c b) 0 else (n, nt, c, b)
theorem jg {ch : Nat} {l : List Nat} {n nt : Nat} {c : List Int} {b : Nat} : scan (ch :: l) n nt c b = if ch = 32 then scan l (n + 1) nt c (b + 1) else if ch = 9 then scan l (n + 1) (nt + 1) (bump c b) 0 else (n, nt, c, b) := rfl
noncomputable def fH (s : Str) : Ws := let q := scan s.cps.toList 0 0 [] 0; ⟨s, q.1, q.2.1, q.2.2.1, q.2.2.2⟩
noncomputable def wsRho (Wh dA a : Addr) (n nt b : Nat) : Rho := [("self", .objO Wh dA), ("S", .str " "), ("T", .str "\t"), ("n", .int n), ("nt", .int nt), ("b", .int b), ("count", .own a)]
theorem sp_iff {ch : Nat} : ((⟨#[ch]⟩ : Str) == (" " : Str)) = decide (ch = 32) := by
 have e : (" " : Str) = ⟨#[32]⟩ := by decide +kernel
 rw [e]
 by_cases q : ch = 32
 ·subst q; decide
 ·rw [decide_eq_false q, beq_eq_false_iff_ne]
  intro w; injection w with w; injection w with w; injection w with w; exact q w
theorem tab_iff {ch : Nat} : ((⟨#[ch]⟩ : Str) == ("\t" : Str)) = decide (ch = 9) := by
 have e : ("\t" : Str) = ⟨#[9]⟩ := by decide +kernel
 rw [e]
 by_cases q : ch = 9
 ·subst q; decide
 ·rw [decide_eq_false q, beq_eq_false_iff_ne]
  intro w; injection w with w; injection w with w; injection w with w; exact q w
theorem Sub.both {x : Str} {d : D} {ρ ρ' : Rho} (s : Sub ρ ρ') : Sub ((x, d) :: ρ) ((x, d) :: ρ') := fun y e q => by
 rw [ak] at q ⊢
 by_cases w : y = x
 ·rw [if_pos w] at q ⊢; exact q
 ·rw [if_neg w] at q ⊢; exact s y e q
section
variable {r : Nat} {sc : Scope} {O : Str -> Prop} {ρ : Rho} {own : Own} {P : aZ}
inductive cT {σ : Type} (J : Nat -> σ -> Prop) (R : Nat -> σ -> Rho) (o : Nat -> σ -> Own) (i : Nat) (ρ : Rho) : Own -> Prop
 | mk (z : σ) (j : J i z) (s : Sub (R i z) ρ) : cT J R o i ρ (o i z)
theorem X.loop {α σ : Type} {x : Str} {tp pos : Pos} {e : Expr} {body ss : List Stmt} {xs : List α} (g : α -> D) (J : Nat -> σ -> Prop) (R : Nat -> σ -> Rho) (o : Nat -> σ -> Own) (z : σ)
  (src : EvI C r sc ρ (o 0 z) (.Name x tp) e (xs.map g)) (s : Sub (R 0 z) ρ) (j : J 0 z)
  (turn : ∀ i y z, xs[i]? = some y -> J i z -> X C r sc O ((x, g y) :: R i z) (o i z) body (LoopP (cT J R o (i + 1)) (Then C r sc O ss P)))
  (fin : ∀ z, J xs.length z -> X C r sc O (R xs.length z) (o xs.length z) ss P) (k : autoParam (Sto sc O x) tacS)
  (hs : autoParam (∀ env x, foldedSetIterable e env x = pure x) tacI2) : X C r sc O ρ (o 0 z) (.For (.Name x tp) e body [] pos :: ss) P :=
 X.cons (X1.for (cT J R o) src (fun _ _ => Asg.name k) (.mk z j s)
  (fun i d ρ' own' hd hJ => by
   cases hJ with
   | mk z j s =>
    rw [List.getElem?_map] at hd
    cases h : xs[i]? with
    | none => rw [h] at hd; cases hd
    | some y => rw [h] at hd; cases hd; exact X.weaken s.both (turn i y z h j))
  (fun ρ' own' hJ => by
   cases hJ with
   | mk z j s => rw [List.length_map] at j s; rw [List.length_map]; exact X.weaken s (fin z j)) hs)
end
theorem bump_len {c : List Int} {b k : Nat} (hc : c.length <= k) (hb : b < k) : (bump c b).length <= k := by
 unfold bump
 simp only [List.length_set]
 split
 ·rw [List.length_append, List.length_replicate]; lia
 ·exact hc
theorem winit_loop {r : Nat} {Wh dA : Addr} {mN : Str -> Option Value} (cl : Cls C Wh gG mN) (s : Str) (len : s.length <= 100000) (a0 : Addr) {P : aZ}
  (fin : ∀ ρ' a q, Sub (wsRho Wh dA a q.1 q.2.1 q.2.2.2) ρ' -> q = scan s.cps.toList 0 0 [] 0 -> P .next ρ' [(a, .list (bK q.2.2.1)), (dA, .ns [("raw", .str s)])]) {ρ : Rho} (h0 : Sub (wsRho Wh dA a0 0 0 0) ρ) :
  X1 C r (mSc 15 1) (aa (mSc 15 1)) ρ [(a0, .list []), (dA, .ns [("raw", .str s)])] ((mBody 15 1).getD 4 iJ) P := by
 let J : Nat -> Rho -> Own -> Prop := fun i ρ' own' => ∃ a n nt c b, own' = [(a, .list (bK c)), (dA, .ns [("raw", .str s)])] /\ Sub (wsRho Wh dA a n nt b) ρ' /\ scan (s.cps.toList.drop i) n nt c b = scan s.cps.toList 0 0 [] 0 /\ c.length <= i /\ b <= i
 refine X1.for J (EvI.str (s := s) (Ev.attrO (i := 1) cl (h0 _ _ rfl) rfl rfl) (by lia)) (fun d _ => Asg.name (.inl rfl)) ⟨a0, 0, 0, [], 0, rfl, h0, by simp, by simp, by simp⟩ ?_ ?_
 ·rintro i d ρ' own' hd ⟨a, n, nt, c, b, rfl, hs, he, hc, hb⟩
  have hi : i < s.cps.toList.length := by have := (List.getElem?_eq_some_iff.mp hd).1; simpa [signs] using this
  have hd' : d = .str ⟨#[s.cps.toList[i]]⟩ := by
   unfold signs at hd
   rw [List.getElem?_map, List.getElem?_eq_getElem hi] at hd
   simpa using hd.symm
  generalize hch : s.cps.toList[i] = ch at hd'
  subst hd'
  have hdrop : s.cps.toList.drop i = ch :: s.cps.toList.drop (i + 1) := by rw [List.drop_eq_getElem_cons hi, hch]
  rw [hdrop] at he
  have il : i < 100000 := by
   have h1 : s.cps.toList.length = s.cps.size := by simp
   have h2 : s.length = s.cps.size := rfl
   lia
  refine X.weaken (ρ' := ("ch", .str ⟨#[ch]⟩) :: wsRho Wh dA a n nt b) hs.both ?_
  refine X.cons (X1.iff (Tst.cmp .name .name .eqS) (fun t => ?_) (fun t => ?_))
  ·rw [sp_iff] at t
   have t : ch = 32 := by simpa using t
   refine X.cons (X1.assign (d := .int ((n + 1 : Nat) : Int)) (.bin .name .int .add) (.name (.inl rfl)) ?_)
   refine X.cons (X1.assign (d := .int ((b + 1 : Nat) : Int)) (.bin .name .int .add) (.name (.inl rfl)) ?_)
   refine X.nil (X.nil ⟨a, n + 1, nt, c, b + 1, rfl, ?_, ?_, by lia, by lia⟩)
   ·repeat (first | exact Sub.nil | refine Sub.cons (by rfl) ?_)
   ·rw [<- he, jg, if_pos t]
  ·rw [sp_iff] at t
   have t : ch ≠ 32 := by simpa using t
   refine X.cons (X1.iff (Tst.cmp .name .name .eqS) (fun u => ?_) (fun u => ?_))
   ·rw [tab_iff] at u
    have u : ch = 9 := by simpa using u
    refine X.cons (X1.assign (d := .int ((n + 1 : Nat) : Int)) (.bin .name .int .add) (.name (.inl rfl)) ?_)
    refine X.cons (X1.assign (d := .int ((nt + 1 : Nat) : Int)) (.bin .name .int .add) (.name (.inl rfl)) ?_)
    have cont : ∀ (P' : aZ) ρ' a' c', Sub (("ch", .str ⟨#[ch]⟩) :: wsRho Wh dA a' (n + 1) (nt + 1) b) ρ' -> b < c'.length -> c'.set b (c'.getD b 0 + 1) = bump c b -> (∀ ρ2, Sub (wsRho Wh dA a' (n + 1) (nt + 1) 0) ρ2 -> P' .next ρ2 [(a', .list (bK (bump c b))), (dA, .ns [("raw", .str s)])]) ->
      X C r (mSc 15 1) (aa (mSc 15 1)) ρ' [(a', .list (bK c')), (dA, .ns [("raw", .str s)])] ((ifThen (nthS (ifElse (nthS (nR (nthS (mBody 15 1) 4)) 0)) 0)).drop 3) P' := by
     intro P' ρ' a' c' hs' hb' hbump k
     refine X.weaken hs' ?_
     have e1 : (bK c')[b]? = some (.int (c'.getD b 0)) := by simp [bK, hb']
     have e2 : (bK c').set b (.int (c'.getD b 0 + 1)) = bK (bump c b) := by rw [<- hbump]; simp [bK, List.map_set]
     refine X.cons (X1.setL (j := 0) (k := b) rfl rfl (.bin (d := .int (c'.getD b 0 + 1)) (Ev.ownAt (d := .int (c'.getD b 0)) (j := 0) rfl rfl .name (by simpa using e1) (by lia)) .int .add) .name (by simpa [bK] using hb') ?_)
     rw [e2]
     refine X.cons (X1.assign (d := .int ((0 : Nat) : Int)) .int (.name (.inl rfl)) ?_)
     refine X.nil (k _ ?_)
     repeat (first | exact Sub.nil | refine Sub.cons (by rfl) ?_)
    have done : ∀ ρ2 a', Sub (wsRho Wh dA a' (n + 1) (nt + 1) 0) ρ2 -> J (i + 1) ρ2 [(a', .list (bK (bump c b))), (dA, .ns [("raw", .str s)])] := fun ρ2 a' h2 =>
     ⟨a', n + 1, nt + 1, bump c b, 0, rfl, h2, by rw [<- he, jg, if_neg t, if_pos u], bump_len (by lia) (by lia), by lia⟩
    refine X.cons (X1.iff (Tst.cmp .name (Ev.peek (x := "count") (i := 0) rfl rfl trivial (.callB .of (.cons .name .nil) Fn.len) rfl) .geI) (fun v => ?_) (fun v => ?_))
    ·have v : c.length <= b := by simpa [bK] using v
     have e : bK c ++ List.replicate (((b : Int) - (bK c).length + 1).toNat) (.int 0) = bK (c ++ List.replicate (b - c.length + 1) 0) := by
      unfold bK
      rw [List.map_append, List.map_replicate, List.length_map]
      congr 2
      lia
     refine X.cons (X1.assignOwn (d := .list (bK (c ++ List.replicate (b - c.length + 1) 0))) (e ▸ EvF.peek (x := "count") (i := 0) rfl rfl trivial (.app .name (.bin (EvF.ev (.list (.cons .int .nil) (by decide))) (.bin (.bin .name (.callB .of (.cons .name .nil) Fn.len) .sub) .int .add) (.rep (by simp [bK]; lia) (by simp [bK]; lia))) (by simp [bK]; lia)) (List.all_eq_true.mpr fun d hd => (List.mem_append.mp hd).elim (fun q => by obtain ⟨x, _, rfl⟩ := List.mem_map.mp q; rfl) fun q => by rw [List.eq_of_mem_replicate q]; rfl)) (.inl rfl) fun a' => ?_)
     refine X.nil (X.drop 1 (cont _ _ a' _ ?_ ?_ ?_ fun ρ2 h2 => ?_))
     ·exact (Sub.cons (by rfl) (Sub.cons (by rfl) (Sub.cons (by rfl) (Sub.cons (by rfl) (Sub.cons (by rfl) (Sub.cons (by rfl) (Sub.cons (by rfl) (Sub.cons (by rfl) .nil))))))))
     ·simp; lia
     ·unfold bump; rw [if_pos v]
     ·exact X.nil (X.nil (done ρ2 a' h2))
    ·have v : b < c.length := by simpa [bK] using v
     refine X.nil (cont _ _ a c ?_ v ?_ fun ρ2 h2 => ?_)
     ·exact (Sub.cons (by rfl) (Sub.cons (by rfl) (Sub.cons (by rfl) (Sub.cons (by rfl) (Sub.cons (by rfl) (Sub.cons (by rfl) (Sub.cons (by rfl) (Sub.cons (by rfl) .nil))))))))
     ·unfold bump; rw [if_neg (by lia)]
     ·exact X.nil (X.nil (done ρ2 a h2))
   ·rw [tab_iff] at u
    have u : ch ≠ 9 := by simpa using u
    refine X.cons (X1.brk ?_)
    refine fin _ a (n, nt, c, b) ?_ ?_
    ·repeat (first | exact Sub.nil | refine Sub.cons (by rfl) ?_)
    ·rw [<- he, jg, if_neg t, if_neg u]
 ·rintro ρ' own' ⟨a, n, nt, c, b, rfl, hs, he, _⟩
  refine fin ρ' a (n, nt, c, b) hs ?_
  rw [<- he]
  have : (signs s).length = s.cps.toList.length := by simp [signs]
  rw [this, List.drop_length]; rfl
theorem mD : ∀ (l : List Nat) (n nt : Nat) (c : List Int) (b : Nat), let q := scan l n nt c b; q.1 <= n + l.length /\ q.2.2.1.length <= c.length + b + l.length /\ q.2.2.2 <= b + l.length := by
 intro rv
 induction rv with
 | nil =>
  intro n nt c b
  exact ⟨Nat.le_refl _, Nat.le_add_right _ _, Nat.le_refl _⟩
 | cons ch l ih =>
  intro n nt c b
  rw [jg]
  simp only [List.length_cons]
  split
  ·have := ih (n + 1) nt c (b + 1); simp only at this; lia
  ·split
   ·have := ih (n + 1) (nt + 1) (bump c b) 0
    have h2 : (bump c b).length <= c.length + b + 1 := by
     unfold bump
     simp only [List.length_set]
     split
     ·rw [List.length_append, List.length_replicate]; lia
     ·lia
    simp only at this; lia
   ·simp; lia
theorem winit_ok {r : Nat} {Wh a : Addr} {cd : Value} {mN : Str -> Option Value} (cl : Cls C Wh gG mN) (g : m7 C "Whitespace" Wh) (hS : jV C Wh "S" (.str " ")) (hT : jV C Wh "T" (.str "\t")) (hi : mN "__init__" = some (.ref a)) (De : cY C a (inner (aP 15) 1) cd) (s : Str) (len : s.length <= 100000) :
  Fn C (r + 2) (.ref Wh) [.str s] ((fH s).d Wh) := by
 refine lE.fn (De.new cl hi (me := "self") (ns := ["ws"]) (Q := fun dA own' => ∃ fs, (dA, .ns fs) ∈ own' /\ eE own' fs (fH s).fs) fun dA => X.c ?_)
 refine X.cons (X1.setAttr cl 0 .name ?_)
 refine X.cons (X1.assignSwap (Q := fun ds own' => ds = [.str " ", .str "\t"] /\ own' = [(dA, .ns [("raw", .str s)])]) (.val (.clsAttr g hS) (.val (.clsAttr g hT) (.nil ⟨rfl, rfl⟩))) (?_) (.inl rfl) (.inl rfl))
 rintro d1 d2 own' ⟨e1, e2⟩
 cases e1
 subst e2
 refine X.cons (X1.assignOwn (.list .nil (by decide)) (.inl rfl) fun a0 => ?_)
 refine X.cons (X1.assignA (d := .int ((0 : Nat) : Int)) .int (.cons (.name (.inl rfl)) (.cons (.name (.inl rfl)) (.one (.name (.inl rfl))))) ?_ (fun _ _ _ => rfl) (fun _ _ => rfl))
 have sb := mD s.cps.toList 0 0 [] 0
 refine X.cons (winit_loop cl s len a0 (fun ρ' a q hs he => ?_) ?_)
 ·refine X.weaken hs (X.freeze (x := "count") (i := 0) rfl rfl trivial ?_)
  have lq : q.2.2.1.length <= 100000 := by
   rw [he]
   have h1 : s.cps.toList.length = s.cps.size := by simp
   have h2 : s.length = s.cps.size := rfl
   simp at sb; lia
  refine X.cons (X1.setAttr cl 0 .name ?_)
  refine X.cons (X1.setAttr cl 0 .name ?_)
  refine X.cons (X1.setAttr (d := .tup [.tup (bK q.2.2.1), .int q.2.2.2]) cl 0 (.tup (.cons (.callT .of (.cons .name .nil) Fn.tuple) (.cons .name .nil)) (show 2 <= 1048576 by decide)) ?_)
  refine X.cons (X1.setAttr cl 0 (.cmp (.callB .of (.cons .name .nil) Fn.len) .int .leI) ?_)
  refine X.nil ⟨rfl, _, .head _, ?_⟩
  have e : (decide (((bK q.2.2.1).length : Int) <= 1)) = decide (q.2.2.1.length <= 1) := by
   simp [bK]
   constructor <;> intro h <;> lia
  rw [e]
  subst he
  exact .val (by rfl) (.val (by rfl) (.val (by rfl) (.val (by rfl) (.val (by rfl) .nil))))
 ·repeat (first | exact Sub.nil | refine Sub.cons (by rfl) ?_)
noncomputable def ilTo (ts : Nat) (c : List Int) : Nat -> Int
 | 0 => 0
 | k + 1 => ilTo ts c k + (((ts + k) / ts : Nat) : Int) * c.getD (ts + k) 0
noncomputable def Ws.ind (x : Ws) (ts : Nat) : Int := x.tr + (ts : Int) * (ilTo ts x.count (x.count.length - ts) + x.nt)
noncomputable def Ws.longest (x : Ws) : Int := max ((x.count.length : Int) - 1) x.tr
noncomputable def Ws.less (x y : Ws) : Bool :=
 if y.n <= x.n then false
 else if x.count.length <= 1 /\ y.count.length <= 1 then decide (x.nt <= y.nt)
 else (List.range ((max x.longest y.longest).toNat)).all fun k => decide (x.ind (k + 2) < y.ind (k + 2))
noncomputable def Ws.small (x : Ws) : Prop := x.count.length <= 100000 /\ x.tr <= 100000
theorem gW {k : Int} (h1 : -1000000000 <= k) (h2 : k <= 1000000000) : Builtin.Int.intBits k <= 64 := intBits_le_64 (by lia) (by lia)
theorem indent_ok {r : Nat} {Cl : Addr} {mN : Str -> Option Value} (cl : Cls C Cl gG mN) (x : Ws) (hx : x.small) (ts : Nat) (h0 : 0 < ts) (h1 : ts <= 1000000) :
  X C r (mSc 15 3) (aa (mSc 15 3)) [("self", x.d Cl), ("tabsize", .int ts)] [] (mBody 15 3) fun f _ _ => f = .ret (.int (x.ind ts)) := by
 have hc := hx.1
 refine X.cons (X1.assign (d := .tup [.tup (bK x.count), .int x.tr]) (.attr cl .name) (.tup (.cons (.name (.inl rfl)) (.cons (.name (.inl rfl)) .nil))) ?_)
 refine X.cons (X1.assign (d := .int ((0 : Nat) : Int)) .int (.name (.inl rfl)) ?_)
 let R : Nat -> Rho := fun i => [("self", x.d Cl), ("tabsize", .int ts), ("count", .tup (bK x.count)), ("trailing", .int x.tr), ("il", .int (ilTo ts x.count i))]
 refine X.cons (X1.for (fun i ρ' own' => own' = [] /\ Sub (R i) ρ') (EvI.ofT .of (.cons .name (.cons (.callB .of (.cons .name .nil) Fn.lenT) .nil)) (.range2 (by simp [bK]; lia) (by lia) (by lia) (by lia) (by simp [bK]; lia))) (fun d _ => Asg.name (.inl rfl)) ⟨rfl, ?_⟩ ?_ ?_)
 ·repeat (first | exact Sub.nil | refine Sub.cons (by rfl) ?_)
 ·rintro i d ρ' own' hd ⟨rfl, hs⟩
  have hi : i < x.count.length - ts := by
   have := (List.getElem?_eq_some_iff.mp hd).1
   simp [bK] at this; lia
  have hd' : d = .int ((ts : Int) + (i : Nat)) := by
   rw [List.getElem?_map, List.getElem?_range (by simp [bK]; lia)] at hd
   simpa using hd.symm
  subst hd'
  refine X.weaken (ρ' := ("i", .int ((ts : Int) + (i : Nat))) :: R i) hs.both ?_
  obtain ⟨q, e0, e1, hq⟩ : ∃ q : Nat, q = (ts + i) / ts /\ ((ts : Int) + (i : Nat)).fdiv ts = (q : Int) /\ q <= ts + i :=
   ⟨_, rfl, by rw [Int.fdiv_eq_ediv_of_nonneg _ (by lia)]; push_cast; rfl, Nat.div_le_self _ _⟩
  have e2 : (bK x.count)[ts + i]? = some (.int (x.count.getD (ts + i) 0)) := by
   have : ts + i < x.count.length := by lia
   simp [bK, this]
  refine X.cons (X1.assign (d := .int (ilTo ts x.count (i + 1))) (.bin .name (.bin (.bin .name .name (.fdiv (by lia) (PyProof.noPylong_small (by lia)))) (.sub (d := .int (x.count.getD (ts + i) 0)) .name .name (by rw [show ((ts : Int) + (i : Nat)) = ((ts + i : Nat) : Int) by push_cast; rfl]; exact .tup e2) rfl mK) (.mul (.of_left (by rw [e1]; exact gW (by lia) (by lia))))) (by rw [e1, e0]; exact .add)) (.name (.inl rfl)) ?_)
  refine X.nil ⟨rfl, ?_⟩
  repeat (first | exact Sub.nil | refine Sub.cons (by rfl) ?_)
 ·rintro ρ' own' ⟨rfl, hs⟩
  refine X.weaken hs ?_
  refine X.cons (X1.ret (.bin .name (.bin .name (.bin .name (.attr cl .name) .add) (.mul (.of_left (gW (by lia) (by lia))))) .add) ?_)
  show cX.ret _ = cX.ret _
  have : ((List.range (((bK x.count).length : Int) - ts).toNat).map fun k => D.int ((ts : Int) + (k : Nat))).length = x.count.length - ts := by simp [bK]
  rw [this]
  rfl
structure LessT (C : Cfg) (Wh : Addr) (mN : Str -> Option Value) where
 cl : Cls C Wh gG mN
 lon : jB C Wh mN "longest_run_of_spaces" (inner (aP 15) 2)
 ind : jB C Wh mN "indent_level" (inner (aP 15) 3)
 les : jB C Wh mN "less" (inner (aP 15) 6)
theorem longest_fn {r : Nat} {Wh : Addr} {mN : Str -> Option Value} (T : LessT C Wh mN) (x : Ws) : Fn C (r + 1) (.ref T.lon.a) [x.d Wh] (.int x.longest) :=
 T.lon.d.fn (ns := ["self"]) (X.c ((longest_ok T.cl x).mono fun f _ _ e => .inl e))
theorem indent_fn {r : Nat} {Wh : Addr} {mN : Str -> Option Value} (T : LessT C Wh mN) (x : Ws) (hx : x.small) (ts : Nat) (h0 : 0 < ts) (h1 : ts <= 1000000) : Fn C (r + 1) (.ref T.ind.a) [x.d Wh, .int ts] (.int (x.ind ts)) :=
 T.ind.d.fn (ns := ["self", "tabsize"]) (X.c ((indent_ok T.cl x hx ts h0 h1).mono fun f _ _ e => .inl e))
theorem Ws.longest_small {x : Ws} (h : x.small) : -1 <= x.longest /\ x.longest <= 100000 := by
 have h1 := h.1
 have h2 := h.2
 unfold Ws.longest
 omega
theorem less_ok {r : Nat} {Wh : Addr} {mN : Str -> Option Value} (T : LessT C Wh mN) (x y : Ws) (hx : x.small) (hy : y.small) :
  X C (r + 1) (mSc 15 6) (aa (mSc 15 6)) [("self", x.d Wh), ("other", y.d Wh)] [] (mBody 15 6) fun f _ _ => f = .ret (.bool (x.less y)) := by
 refine X.cons (X1.iff (Tst.cmp (.attr T.cl .name) (.attr T.cl .name) .geI) (fun t => ?_) (fun t => ?_))
 ·refine X.cons (X1.ret .bool ?_)
  show cX.ret _ = cX.ret _
  have t : y.n <= x.n := by simpa using t
  unfold Ws.less; rw [if_pos t]
 ·have t : ¬ y.n <= x.n := by simpa using t
  refine X.nil (X.cons (X1.iff (Tst.boolop (d8.and_cons (Tst.of (.attr T.cl .name) rfl) fun _ => d8.and_cons (Tst.of (.attr T.cl .name) rfl) fun _ => d8.and_nil)) (fun u => ?_) (fun u => ?_)))
  ·refine X.cons (X1.ret (.cmp (.attr T.cl .name) (.attr T.cl .name) .leI) ?_)
   show cX.ret _ = cX.ret _
   have u : x.count.length <= 1 /\ y.count.length <= 1 := by simpa using u
   unfold Ws.less; rw [if_neg t, if_pos u]
   congr 2
   simp
  ·have u : ¬ (x.count.length <= 1 /\ y.count.length <= 1) := by simpa using u
   have lx := Ws.longest_small hx
   have ly := Ws.longest_small hy
   refine X.nil (X.cons (X1.assign (d := .int (max x.longest y.longest + 1)) (.bin (.callB .of (.cons (.callM T.cl T.lon.m .name .nil (longest_fn T x)) (.cons (.callM T.cl T.lon.m .name .nil (longest_fn T y)) .nil)) Fn.max2) .int .add) (.name (.inl rfl)) ?_))
   have fin : x.less y = (List.range ((max x.longest y.longest).toNat)).all fun k => decide (x.ind (k + 2) < y.ind (k + 2)) := by
    unfold Ws.less; rw [if_neg t, if_neg u]
   refine X.cons (X1.for (fun i ρ' own' => own' = [] /\ Sub [("self", x.d Wh), ("other", y.d Wh)] ρ' /\ ∀ k < i, x.ind (k + 2) < y.ind (k + 2)) (EvI.ofT .of (.cons .int (.cons (.bin .name .int .add) .nil)) (.range2 (by lia) (by lia) (by lia) (by lia) (by lia))) (fun d _ => Asg.name (.inl rfl)) ⟨rfl, ?_, by lia⟩ ?_ ?_)
   ·repeat (first | exact Sub.nil | refine Sub.cons (by rfl) ?_)
   ·rintro i d ρ' own' hd ⟨rfl, hs, ha⟩
    have hi : i < (max x.longest y.longest).toNat := by
     have := (List.getElem?_eq_some_iff.mp hd).1
     simp at this; lia
    have hd' : d = .int ((i + 2 : Nat) : Int) := by
     rw [List.getElem?_map, List.getElem?_range (by lia)] at hd
     simp at hd
     rw [<- hd]; congr 1; push_cast; lia
    subst hd'
    refine X.weaken (ρ' := [("ts", .int ((i + 2 : Nat) : Int)), ("self", x.d Wh), ("other", y.d Wh)]) hs.both ?_
    refine X.cons (X1.iff (Tst.cmp (.callM T.cl T.ind.m .name (.cons .name .nil) (indent_fn T x hx (i + 2) (by lia) (by lia))) (.callM T.cl T.ind.m .name (.cons .name .nil) (indent_fn T y hy (i + 2) (by lia) (by lia))) .geI) (fun v => ?_) (fun v => ?_))
    ·refine X.cons (X1.ret .bool ?_)
     show cX.ret _ = cX.ret _
     have v : y.ind (i + 2) <= x.ind (i + 2) := by simpa using v
     rw [fin]
     have : ((List.range ((max x.longest y.longest).toNat)).all fun k => decide (x.ind (k + 2) < y.ind (k + 2))) = false := by
      rw [List.all_eq_false]
      exact ⟨i, List.mem_range.mpr hi, by simpa using v⟩
     rw [this]
    ·have v : x.ind (i + 2) < y.ind (i + 2) := by simpa using v
     refine X.nil (X.nil ⟨rfl, ?_, fun k hk => ?_⟩)
     ·repeat (first | exact Sub.nil | refine Sub.cons (by rfl) ?_)
     ·rcases Nat.lt_succ_iff_lt_or_eq.mp hk with q | rfl
      ·exact ha k q
      ·exact v
   ·rintro ρ' own' ⟨rfl, hs, ha⟩
    refine X.weaken hs (X.cons (X1.ret .bool ?_))
    show cX.ret _ = cX.ret _
    rw [fin]
    have : ((List.range ((max x.longest y.longest).toNat)).all fun k => decide (x.ind (k + 2) < y.ind (k + 2))) = true := by
     rw [List.all_eq_true]
     intro k hk
     have hk := List.mem_range.mp hk
     simp only [List.length_map, List.length_range] at ha
     exact decide_eq_true (ha k (by lia))
    rw [this]
theorem less_fn {r : Nat} {Wh : Addr} {mN : Str -> Option Value} (T : LessT C Wh mN) (x y : Ws) (hx : x.small) (hy : y.small) : Fn C (r + 2) (.ref T.les.a) [x.d Wh, y.d Wh] (.bool (x.less y)) :=
 T.les.d.fn (ns := ["self", "other"]) (X.c ((less_ok T x y hx hy).mono fun f _ _ e => .inl e))
noncomputable abbrev hasS (y x : Str) : Bool := !(Builtin.Str.occurrences x y 0 x.length 1).isEmpty
noncomputable def slash : Str := "/"
noncomputable def star : Str := "*"
noncomputable def nU (x y : Str) : Prop := (decide (x.length < y.length) || decide (Builtin.Str.strKind x < Builtin.Str.strKind y)) = false /\ (y.length == 0) = false /\ x.length <= 1048576 /\ (bH x y).length <= 1048576
noncomputable def iT (l : List Str) : Str := l.headD ""
noncomputable def bV (as : List Str) (s : Str) : Bool := as.any fun a => (a != star) && hasS (dh a) (dh (iT (bH s slash)))
structure EntryT (C : Cfg) (En : Addr) (mN : Str -> Option Value) where
 cl : Cls C En fP mN
 name : m7 C "Entry" En
 ini : jB C En mN "__init__" (inner (aP 2) 0)
 app : jB C En mN "applies_to" (inner (aP 2) 2)
 alw : jB C En mN "allowance" (inner (aP 2) 3)
 rec_ : FnT C "_law_record" (aP 17)
theorem splitS_ne {x y : Str} (h : bH x y ≠ []) : (au (bH x y))[place (au (bH x y)).length 0]? = some (.str (iT (bH x y))) := by
 cases e : bH x y with
 | nil => exact absurd e h
 | cons a l => rfl
theorem lz {r : Nat} {En : Addr} {mN : Str -> Option Value} (T : EntryT C En mN) (as : List Str) (rs : List D) (de rr : D) :
  Fn C (r + 1) (.ref T.app.a) [D.obj En [(("useragents" : Str), .list (au as)), ("rulelines", .list rs), ("delay", de), ("req_rate", rr)], .none] (.bool (as.any (· == star))) := by
 refine T.app.d.fn (ns := ["self", "useragent"]) (X.c ?_)
 refine X.cons (X1.iff (Tst.cmp .name .none (aB.isN (by rfl))) (fun t => ?_) (fun t => by cases t))
 exact X.cons (X1.ret (.cmp .str (.attr T.cl .name) .inL) (.inl rfl))
theorem mV {r : Nat} {En : Addr} {mN : Str -> Option Value} (T : EntryT C En mN) (as : List Str) (rs : List D) (de rr : D) (s : Str) (sp : nU s slash) (ne : bH s slash ≠ [])
  (l1 : (dh (iT (bH s slash))).length <= 1048576) (l2 : ∀ a ∈ as, (dh a).length <= 1048576) :
  Fn C (r + 1) (.ref T.app.a) [D.obj En [(("useragents" : Str), .list (au as)), ("rulelines", .list rs), ("delay", de), ("req_rate", rr)], .str s] (.bool (bV as s)) := by
 refine T.app.d.fn (ns := ["self", "useragent"]) (X.c ?_)
 refine X.cons (X1.iff (Tst.cmp .name .none (aB.isN (by rfl))) (fun t => by cases t) (fun t => ?_))
 refine X.nil (X.cons (X1.assign (d := .str (dh (iT (bH s slash)))) (.meth (.sub (.meth .name (.cons .str .nil) rfl F.plainAttrs_str F.slot_str_split F.type_str_split (Fn.split sp.1 sp.2.1 sp.2.2.1 sp.2.2.2)) .int (.list (splitS_ne ne) (by lia) (by lia)) rfl cO) .nil rfl F.plainAttrs_str F.slot_str_lower F.type_str_lower (Fn.lower l1)) (.name (.inl rfl)) ?_))
 let ρ0 : Rho := [("self", D.obj En [(("useragents" : Str), .list (au as)), ("rulelines", .list rs), ("delay", de), ("req_rate", rr)]), ("useragent", .str (dh (iT (bH s slash))))]
 have key : ∀ b, b = bV as s -> (cX.ret (.bool b) = .ret (.bool (bV as s)) ∨ cX.ret (.bool b) = .next /\ D.bool (bV as s) = .none) := fun b e => .inl (by rw [e])
 refine X.cons (X1.for (fun i ρ' own' => own' = [] /\ Sub ρ0 ρ' /\ ∀ a ∈ as.take i, ((a != star) && hasS (dh a) (dh (iT (bH s slash)))) = false) (EvI.list (.attr T.cl .name)) (fun d _ => Asg.name (.inl rfl)) ⟨rfl, ?_, by simp⟩ ?_ ?_)
 ·repeat (first | exact Sub.nil | refine Sub.cons (by rfl) ?_)
 ·rintro i d ρ' own' hd ⟨rfl, hs, ha⟩
  have hi : i < as.length := by have := (List.getElem?_eq_some_iff.mp hd).1; simpa [au] using this
  have hd' : d = .str as[i] := by
   unfold au at hd
   rw [List.getElem?_map, List.getElem?_eq_getElem hi] at hd
   simpa using hd.symm
  generalize hag : as[i] = ag at hd'
  subst hd'
  have hm : ag ∈ as := hag ▸ List.getElem_mem hi
  have ht : as.take (i + 1) = as.take i ++ [ag] := by rw [List.take_succ_eq_append_getElem hi, hag]
  refine X.weaken (ρ' := ("agent", .str ag) :: ρ0) hs.both ?_
  have next : ∀ ρ2, Sub ρ0 ρ2 -> ((ag != star) && hasS (dh ag) (dh (iT (bH s slash)))) = false -> ([] : Own) = [] /\ Sub ρ0 ρ2 /\ ∀ a ∈ as.take (i + 1), ((a != star) && hasS (dh a) (dh (iT (bH s slash)))) = false := fun ρ2 h2 e => by
   refine ⟨rfl, h2, fun a q => ?_⟩
   rw [ht, List.mem_append] at q
   rcases q with q | q
   ·exact ha a q
   ·rw [List.mem_singleton.mp q]; exact e
  refine X.cons (X1.iff (Tst.cmp .name .str .neS) (fun t => ?_) (fun t => ?_))
  ·refine X.cons (X1.assign (d := .str (dh ag)) (.meth .name .nil rfl F.plainAttrs_str F.slot_str_lower F.type_str_lower (Fn.lower (l2 ag hm))) (.name (.inl rfl)) ?_)
   refine X.cons (X1.iff (Tst.cmp .name .name .inS) (fun u => ?_) (fun u => ?_))
   ·refine X.cons (X1.ret .bool (key _ ?_))
    unfold bV
    symm
    rw [List.any_eq_true]
    exact ⟨ag, hm, by rw [Bool.and_eq_true]; exact ⟨t, u⟩⟩
   ·refine X.nil (X.nil (X.nil (next _ ?_ (by rw [Bool.and_eq_false_iff]; exact .inr u))))
    repeat (first | exact Sub.nil | refine Sub.cons (by rfl) ?_)
  ·refine X.nil (X.nil (next _ ?_ (by rw [Bool.and_eq_false_iff]; exact .inl t)))
   repeat (first | exact Sub.nil | refine Sub.cons (by rfl) ?_)
 ·rintro ρ' own' ⟨rfl, hs, ha⟩
  refine X.weaken hs (X.cons (X1.ret .bool (key _ ?_)))
  unfold bV
  symm
  rw [List.any_eq_false]
  intro a q
  have := ha a (by rw [show (au as).length = as.length by simp [au], List.take_length]; exact q)
  simpa using this
noncomputable def cQ (n : Nat) : Nat -> Nat -> List Nat
 | _, 0 => []
 | x, k + 1 => x % 2 ^ n :: cQ n (x / 2 ^ n) k
noncomputable def bN (n : Nat) : List Nat -> Nat
 | [] => 0
 | d :: r => d + 2 ^ n * bN n r
theorem gw {n k x : Nat} : cQ n x (k + 1) = x % 2 ^ n :: cQ n (x / 2 ^ n) k := rfl
theorem eY {n d : Nat} {r : List Nat} : bN n (d :: r) = d + 2 ^ n * bN n r := rfl
theorem iV (n : Nat) : ∀ (k x : Nat), (cQ n x k).length = k
 | 0, _ => rfl
 | k + 1, x => by rw [gw, List.length_cons, iV n k]
theorem digs_add (n : Nat) : ∀ (j k x : Nat), cQ n x (j + k) = cQ n (x % 2 ^ (n * j)) j ++ cQ n (x / 2 ^ (n * j)) k := by
 intro rv
 induction rv with
 | zero =>
  intro k x
  show cQ n x (0 + k) = cQ n (x / 2 ^ 0) k
  rw [Nat.zero_add, Nat.pow_zero, Nat.div_one]
 | succ j ih =>
  intro k x
  have e : 2 ^ (n * (j + 1)) = 2 ^ n * 2 ^ (n * j) := by rw [Nat.mul_succ, Nat.add_comm, Nat.pow_add]
  rw [show j + 1 + k = (j + k) + 1 by lia, gw, gw, ih k, List.cons_append, e, Nat.mod_mul_right_mod, Nat.mod_mul_right_div_self, Nat.div_div_eq_div_mul]
theorem jX (n : Nat) : ∀ a b : List Nat, bN n (a ++ b) = bN n a + 2 ^ (n * a.length) * bN n b
 | [], b => by
  show bN n b = 0 + 2 ^ 0 * bN n b
  rw [Nat.pow_zero, Nat.one_mul, Nat.zero_add]
 | d :: r, b => by
  rw [List.cons_append, eY, eY, jX n r b, List.length_cons, Nat.mul_succ, Nat.pow_add, Nat.mul_add, <- Nat.mul_assoc, Nat.mul_comm (2 ^ n) (2 ^ _), Nat.add_assoc]
theorem undig_lt (n : Nat) : ∀ a : List Nat, (∀ d ∈ a, d < 2 ^ n) -> bN n a < 2 ^ (n * a.length)
 | [], _ => Nat.one_pos
 | d :: r, h => by
  have ih := undig_lt n r fun d hd => h d (List.mem_cons_of_mem _ hd)
  have h0 := h d List.mem_cons_self
  rw [eY, List.length_cons, Nat.mul_succ, Nat.pow_add]
  have : 2 ^ n * (bN n r + 1) <= 2 ^ n * 2 ^ (n * r.length) := Nat.mul_le_mul_left _ ih
  rw [Nat.mul_add, Nat.mul_one] at this
  rw [Nat.mul_comm (2 ^ (n * _))]
  lia
theorem jD (n : Nat) : ∀ (k x : Nat), bN n (cQ n x k) = x % 2 ^ (n * k)
 | 0, x => (Nat.mod_one x).symm
 | k + 1, x => by
  have e : 2 ^ (n * (k + 1)) = 2 ^ n * 2 ^ (n * k) := by rw [Nat.mul_succ, Nat.add_comm, Nat.pow_add]
  rw [gw, eY, jD n k, e, Nat.mod_mul]
theorem digs_lt (n : Nat) : ∀ (k x : Nat), ∀ d ∈ cQ n x k, d < 2 ^ n
 | 0, _, d, h => nomatch h
 | k + 1, x, d, h => by
  rw [gw] at h
  rcases List.mem_cons.mp h with rfl | h
  ·exact Nat.mod_lt _ (Nat.two_pow_pos n)
  ·exact digs_lt n k _ d h
theorem kZ (a : Nat) : a < 2 ^ (Builtin.Int.intBits (a : Int)) := by
 unfold Builtin.Int.intBits
 by_cases h : a = 0
 ·subst h; simp
 ·rw [if_neg (by simpa using h)]
  simpa using Nat.lt_log2_self
theorem bits_le {a k : Nat} (h : a < 2 ^ k) : Builtin.Int.intBits (a : Int) <= k := intBits_le (by simpa using h)
theorem bits_pos {a : Nat} (h : a ≠ 0) : 0 < Builtin.Int.intBits (a : Int) := by
 unfold Builtin.Int.intBits
 rw [if_neg (by simpa using h)]; lia
theorem or_high (x s : Nat) : x ||| (x / 2 ^ s * 2 ^ s) = x := by
 apply Nat.eq_of_testBit_eq
 intro i
 rw [Nat.testBit_or, <- Nat.shiftLeft_eq, <- Nat.shiftRight_eq_div_pow, Nat.testBit_shiftLeft, Nat.testBit_shiftRight]
 by_cases h : s <= i
 ·rw [show s + (i - s) = i by lia]; simp
 ·simp [h]
theorem and_high (x s : Nat) : x &&& (x / 2 ^ s * 2 ^ s) = x / 2 ^ s * 2 ^ s := by
 apply Nat.eq_of_testBit_eq
 intro i
 rw [Nat.testBit_and, <- Nat.shiftLeft_eq, <- Nat.shiftRight_eq_div_pow, Nat.testBit_shiftLeft, Nat.testBit_shiftRight]
 by_cases h : s <= i
 ·rw [show s + (i - s) = i by lia]; simp [h]
 ·simp [h]
theorem bitXor_low (x s : Nat) : Builtin.bitXor (x : Int) ((x / 2 ^ s * 2 ^ s : Nat) : Int) = ((x % 2 ^ s : Nat) : Int) := by
 have hm := Nat.div_add_mod x (2 ^ s)
 have h1 := or_high x s
 have h2 := and_high x s
 generalize hy : x / 2 ^ s * 2 ^ s = y at h1 h2 ⊢
 have hy' : 2 ^ s * (x / 2 ^ s) = y := by rw [Nat.mul_comm]; exact hy
 have e1 : Builtin.bitNot (x : Int) = -(x : Int) - 1 := rfl
 have e2 : Builtin.bitNot (y : Int) = -(y : Int) - 1 := rfl
 have n1 : decide (0 <= -(x : Int) - 1) = false := by simp; lia
 have n2 : decide (0 <= -(y : Int) - 1) = false := by simp; lia
 have p1 : decide (0 <= (x : Int)) = true := by simp
 have p2 : decide (0 <= (y : Int)) = true := by simp
 have t1 : (-(-(x : Int) - 1) - 1).toNat = x := by lia
 have t2 : (-(-(y : Int) - 1) - 1).toNat = y := by lia
 unfold Builtin.bitXor Builtin.bitOr
 rw [e1, e2]
 unfold Builtin.bitAnd
 rw [n1, n2, p1, p2]
 show Builtin.bitNot (Builtin.bitNot (((Builtin.bitNot _).toNat ||| (Builtin.bitNot _).toNat : Nat) : Int)) - (((x : Int).toNat &&& (y : Int).toNat : Nat) : Int) = _
 unfold Builtin.bitNot
 rw [t1, t2, h1, Int.toNat_natCast, Int.toNat_natCast, h2]
 lia
section
variable {r : Nat} {sc : Scope} {O : Str -> Prop} {ρ : Rho} {own : Own} {P : aZ} {cs : List (Str × Addr)}
theorem X1.retN {pos : Pos} (p : P (.ret .none) ρ own) : X1 C r sc O ρ own (.Return none pos) P := by
 constructor; intro A env W h₀ h R G S tk qQ qE qK
 exact wpAny_Return_none (qK _ h tk ⟨.ret .none, ρ, own, p, S, .none, .refl _, fun a q => .inl q⟩)
theorem EvF.rep {a b : Expr} {pos : Pos} {x : D} {n : Int} (xa : Ev C r sc ρ own a (.list [x])) (yb : Ev C r sc ρ own b (.int n)) (k0 : 0 <= n) (k : n <= 1048576) : EvF C r sc ρ own (.BinOp a .Mult b pos) (.list (List.replicate n.toNat x)) := by
 constructor; intro A env W h₀ O h R G S tk qQ qE qK
 refine wpAny_BinOp ((xa.go A env W h₀ O h R G S).use2 fun v1 h1 tk1 e1 z1 => ?_)
 have S1 := S.ext e1
 refine (yb.go A env W h₀ O h1 R G S1).use2 fun v2 h2 tk2 e2 z2 => ?_
 have S2 := S1.ext e2
 obtain ⟨l, vs, n', rfl, g1, n1, s1, r1⟩ := (z1.ext e2 S.tw).list_inv
 obtain ⟨u, rfl⟩ := z2.int_inv
 obtain ⟨v, vs, rfl, r5, r2⟩ := r1.cons_inv
 cases r2.nil_inv
 have e3 : Ext C h2 (h2.push (aM (List.replicate n.toNat v) 0)) := .push S2.inv _
 refine wpAny_binaryOp_repeat_ref (T := "list") (U := "int") (by decide) ⟨_, g1, rfl⟩ (fun s' => typeIs_int s' n u) noFill_list_mul F.fills_int_mul F.slot_int_rmul repeat_list F.slot_int_index.lookup
   (call_meets F.slot_int_rmul (typeIs_int _ n u) F.entry_int_rmul (F.args_int_rmul_2 _ _) (int___rmul___int_list n u l _ n')
    ⟨g1, rfl, ⟨_, g1, rfl⟩, call_meets F.slot_list_mul ⟨_, g1, rfl⟩ F.entry_list_mul (F.args_list_mul_2 _ _)
    (AutoListH.list___mul___list_int_3 l _ n' n u (by simp [Builtin.List.listFitsIndex]; lia) (by have q : #[v].size = 1 := rfl; rw [q]; lia) (by simp [Builtin.List.listTooLong, sizeLine]; lia))
    ⟨g1, ?_⟩⟩)
 have q : List.foldl (fun x1 x2 => x1 ++ x2) #[] (List.replicate (if ([v].toArray).isEmpty = true then 0 else n.toNat) [v].toArray) = (List.replicate n.toNat v).toArray := by
  rw [if_neg (show ¬ ([v].toArray).isEmpty = true from Bool.false_ne_true)]
  generalize n.toNat = j
  suffices H : ∀ (acc : List Value), List.foldl (fun x1 x2 => x1 ++ x2) acc.toArray (List.replicate j [v].toArray) = (acc ++ List.replicate j v).toArray by simpa using H []
  induction j with
  | zero => intro acc; simp
  | succ j ih => intro acc; rw [List.replicate_succ, List.foldl_cons, List.append_toArray, ih]; simp [List.replicate_succ]
 rw [q]
 refine (qK _ _ _ ⟨_, rfl, (e1.trans e2).none_back (aj h2), S2.inv.size_mods, (e1.trans e2).trans e3, List.replicate n.toNat v, 0, Heap.get?_push_size _ rfl, by simp; lia, ?_⟩)
 have r3 := r5.kp e3.1 S.tw (W' := fun b => Wof W own b ∨ b = h2.objs.size) fun b o e q => q.elim id fun q => by rw [q, aj] at e; cases e
 clear q
 generalize h2.push (aM (List.replicate n.toNat v) 0) = hh at r3
 generalize n.toNat = j
 induction j with
 | zero => exact .nil
 | succ n ih => exact .cons r3 ih
end
noncomputable abbrev in2d : Stmt := inner (aP 8) 1
noncomputable abbrev inD2 : Stmt := inner (aP 9) 0
noncomputable def iD (ns : List Nat) : List D := ns.map fun k => D.int (k : Nat)
theorem dB (ns : List Nat) : (iD ns).length = ns.length := by simp [iD]
noncomputable def putAt (ds : List D) (L : Nat) (es : List D) : List D := ds.take L ++ es ++ ds.drop (L + es.length)
theorem putAt_len {ds : List D} {L : Nat} {es : List D} (h : L + es.length <= ds.length) : (putAt ds L es).length = ds.length := by
 unfold putAt; simp; lia
theorem putAt_two {ds : List D} {L : Nat} {es fs : List D} (h : L + es.length + fs.length <= ds.length) : putAt (putAt ds L es) (L + es.length) fs = putAt ds L (es ++ fs) := by
 unfold putAt
 have h1 : (ds.take L).length = L := by simp; lia
 have h2 : (ds.take L ++ es).length = L + es.length := by rw [List.length_append, h1]
 rw [List.take_append_of_le_length (by lia), List.take_of_length_le (by lia), List.drop_append, h2,
  List.drop_eq_nil_of_le (by lia), List.nil_append, List.drop_drop, List.length_append]
 simp only [List.append_assoc]
 congr 4
 lia
noncomputable def isCell (o : Option NameKind) : Bool := o == some .cell
noncomputable def CapOk (sc scope : Scope) : Prop := scope.names.all (fun p => match p.2 with | .free => isCell (sc.names.lookup p.1) | _ => true) = true
theorem CapOk.get {sc scope : Scope} (h : CapOk sc scope) : ∀ x, (x, NameKind.free) ∈ scope.names -> aa sc x := fun x hx => by
 have q : isCell (sc.names.lookup x) = true := List.all_eq_true.mp h _ hx
 exact eq_of_beq q
theorem jb.nil {sc csc : Scope} {ρ : Rho} : jb sc csc ρ [] := fun x d e => by cases e
theorem jb.cons {sc csc : Scope} {ρ ρf : Rho} {x : Str} {d : D} (e : ρ.lookup x = some d) (f : csc.names.lookup x = some .free) (k : sc.names.lookup x = some .cell ∨ sc.names.lookup x = some .free) (s : jb sc csc ρ ρf) (c : autoParam ((x == ("__classdict__" : Str)) = false) tacD) : jb sc csc ρ ((x, d) :: ρf) := fun y f' q => by
 rw [ak] at q
 by_cases w : y = x
 ·rw [if_pos w] at q; cases q; subst w; exact ⟨e, f, c, k⟩
 ·rw [if_neg w] at q; exact s y f' q
noncomputable def i2Rho (tag : Nat) (cs : List (Str × Addr)) (a : Addr) (n : Nat) : Rho := [("a_digits", .own a), ("n", .int n), ("inner", .clo tag cs)]
theorem i2_is (c0 : C.clo 0 = parts in2d) : CloIs C 0 ["x", "L", "R"] := by
 refine ⟨?_, by decide, ?_, ?_, ?_, ?_, ?_⟩ <;> rw [c0]
 ·exact ⟨_, _, rfl, rfl⟩
 ·exact fun x hx => by revert x; decide
 ·rfl
 ·rfl
 ·rfl
 ·rfl
theorem i2_inner (c0 : C.clo 0 = parts in2d) {cs : List (Str × Addr)} {a : Addr} {n : Nat} (hs : HasCs (parts in2d).2.2 cs) (hn : n <= 1000) : ∀ (k r : Nat), k <= r -> ∀ (x L R : Nat) (ds : List D), L < R -> R - L <= 2 ^ k -> x < 2 ^ (n * (R - L)) -> x < 2 ^ 64 -> R <= ds.length -> ds.length <= 1000 ->
  lF C r 0 cs ["x", "L", "R"] [.int x, .int L, .int R] (i2Rho 0 cs a n) [(a, .list ds)] fun d own' => d = .none /\ own' = [(a, .list (putAt ds L (iD (cQ n x (R - L)))))] := by
 intro k
 induction k with
 | zero =>
  intro r hr x L R ds h1 h2 h3 h4 h5 h6
  unfold lF
  rw [c0]
  have hR : R = L + 1 := by have : (2 : Nat) ^ 0 = 1 := rfl; lia
  subst hR
  refine Xa.cons (X1a.iff (Tst.cmp (.bin .name .int .add) .name .eqI) (fun t => ?_) (fun t => ?_))
  ·refine X.a ?_
   refine X.cons (X1.setL (j := 0) (k := L) rfl rfl .name .name (by lia) ?_)
   refine X.cons (X1.retN (.inl ⟨_, rfl, rfl, ?_⟩))
   have e : putAt ds L (iD (cQ n x (L + 1 - L))) = ds.set L (.int x) := by
    rw [show L + 1 - L = 1 by lia]
    unfold putAt iD cQ cQ
    rw [Nat.mod_eq_of_lt (by rw [show L + 1 - L = 1 by lia, Nat.mul_one] at h3; exact h3)]
    rw [List.set_eq_take_append_cons_drop, if_pos (by lia)]
    simp
   rw [e]; rfl
  ·exfalso
   simp at t
 | succ k ih =>
  intro r hr x L R ds h1 h2 h3 h4 h5 h6
  obtain ⟨r, rfl⟩ : ∃ r', r = r' + 1 := ⟨r - 1, by lia⟩
  unfold lF
  rw [c0]
  refine Xa.cons (X1a.iff (Tst.cmp (.bin .name .int .add) .name .eqI) (fun t => ?_) (fun t => ?_))
  ·have hR : R = L + 1 := by simp at t; lia
   subst hR
   refine X.a ?_
   refine X.cons (X1.setL (j := 0) (k := L) rfl rfl .name .name (by lia) ?_)
   refine X.cons (X1.retN (.inl ⟨_, rfl, rfl, ?_⟩))
   have e : putAt ds L (iD (cQ n x (L + 1 - L))) = ds.set L (.int x) := by
    rw [show L + 1 - L = 1 by lia]
    unfold putAt iD cQ cQ
    rw [Nat.mod_eq_of_lt (by rw [show L + 1 - L = 1 by lia, Nat.mul_one] at h3; exact h3)]
    rw [List.set_eq_take_append_cons_drop, if_pos (by lia)]
    simp
   rw [e]; rfl
  ·have hR : L + 1 < R := by simp at t; lia
   have p2 : (2 : Nat) ^ (k + 1) = 2 ^ k + 2 ^ k := by rw [Nat.pow_succ]; lia
   generalize hm : (L + R) / 2 = mid
   have hmL : L < mid := by lia
   have hmR : mid < R := by lia
   generalize hsft : (mid - L) * n = s
   have hs1 : s <= 1000000 := by
    rw [<- hsft]
    exact Nat.le_trans (Nat.mul_le_mul (show mid - L <= 1000 by lia) hn) (by decide)
   have e1 : ((L : Int) + (R : Int)).fdiv (2 ^ (1 : Int).toNat) = (mid : Int) := by
    rw [Int.fdiv_eq_ediv_of_nonneg _ (by decide)]
    show ((L : Int) + (R : Int)) / 2 = _
    lia
   have e2 : ((mid : Int) - (L : Int)) * (n : Int) = (s : Int) := by
    rw [<- hsft, Int.natCast_mul, Int.natCast_sub (by lia)]
   have e3 : (x : Int).fdiv (2 ^ (s : Int).toNat) = ((x / 2 ^ s : Nat) : Int) := by
    rw [Int.toNat_natCast, Int.fdiv_eq_ediv_of_nonneg _ (by exact_mod_cast Nat.zero_le _)]
    push_cast; rfl
   have e4 : ((x / 2 ^ s : Nat) : Int) * 2 ^ (s : Int).toNat = ((x / 2 ^ s * 2 ^ s : Nat) : Int) := by
    rw [Int.toNat_natCast]; push_cast; rfl
   refine Xa.nil ?_
   refine Xa.cons (X1.a (X1.assign (d := .int mid) (.bin (.bin .name .name .add) .int (by rw [<- e1]; exact .rsh (by decide))) (.name (.inl rfl)) ?_))
   refine Xa.cons (X1.a (X1.assign (d := .int s) (.bin (.bin .name .name .sub) .name (by rw [<- e2]; exact .mul (.of_right (gW (by lia) (by lia))))) (.name (.inl rfl)) ?_))
   refine Xa.cons (X1.a (X1.assign (d := .int ((x / 2 ^ s : Nat) : Int)) (.bin .name .name (by rw [<- e3]; exact .rsh (by lia))) (.name (.inl rfl)) ?_))
   refine Xa.cons (X1.a (X1.assign (d := .int ((x % 2 ^ s : Nat) : Int)) (.bin .name (.bin (d := .int ((x / 2 ^ s * 2 ^ s : Nat) : Int)) .name .name (by rw [<- e4]; exact .lsh (by lia) (by lia) (by rw [Int.natAbs_natCast]; exact Nat.lt_of_le_of_lt (Nat.div_le_self _ _) h4))) (by rw [<- bitXor_low]; exact .xor)) (.name (.inl rfl)) ?_))
   have dl : s = n * (mid - L) := by rw [<- hsft, Nat.mul_comm]
   have x3 : x < 2 ^ s * 2 ^ (n * (R - mid)) := by
    rw [dl, <- Nat.pow_add, <- Nat.mul_add, show mid - L + (R - mid) = R - L by lia]; exact h3
   have lo : x % 2 ^ s < 2 ^ (n * (mid - L)) := by rw [<- dl]; exact Nat.mod_lt _ (Nat.two_pow_pos s)
   have hi : x / 2 ^ s < 2 ^ (n * (R - mid)) := Nat.div_lt_of_lt_mul x3
   have lo' : x % 2 ^ s < 2 ^ 64 := Nat.lt_of_le_of_lt (Nat.mod_le _ _) h4
   have hi' : x / 2 ^ s < 2 ^ 64 := Nat.lt_of_le_of_lt (Nat.div_le_self _ _) h4
   have l1 : (iD (cQ n (x % 2 ^ s) (mid - L))).length = mid - L := by rw [dB, iV]
   have l2 : (iD (cQ n (x / 2 ^ s) (R - mid))).length = R - mid := by rw [dB, iV]
   have fin : putAt (putAt ds L (iD (cQ n (x % 2 ^ s) (mid - L)))) mid (iD (cQ n (x / 2 ^ s) (R - mid))) = putAt ds L (iD (cQ n x (R - L))) := by
    have := putAt_two (ds := ds) (L := L) (es := iD (cQ n (x % 2 ^ s) (mid - L))) (fs := iD (cQ n (x / 2 ^ s) (R - mid))) (by rw [l1, l2]; lia)
    rw [l1, show L + (mid - L) = mid by lia] at this
    rw [this, show R - L = (mid - L) + (R - mid) by lia, digs_add, <- dl]
    unfold iD
    rw [List.map_append]
   refine Xa.cons (X1a.callClo (tag := 0) (ns := ["x", "L", "R"]) (ρf := i2Rho 0 cs a n) rfl (.cons .name (.cons .name (.cons .name .nil))) (i2_is c0) rfl (by rw [c0]; exact hs) (by rw [c0]; exact .cons rfl rfl (.inr rfl) (.cons rfl rfl (.inr rfl) (.cons rfl rfl (.inr rfl) .nil))) (ih r (by lia) _ _ _ ds hmL (by lia) lo lo' (by lia) h6) (fun d own' q => by rw [q.2]; rfl) fun d own' q => ?_)
   rw [q.2]
   refine Xa.cons (X1a.callClo (tag := 0) (ns := ["x", "L", "R"]) (ρf := i2Rho 0 cs a n) rfl (.cons .name (.cons .name (.cons .name .nil))) (i2_is c0) rfl (by rw [c0]; exact hs) (by rw [c0]; exact .cons rfl rfl (.inr rfl) (.cons rfl rfl (.inr rfl) (.cons rfl rfl (.inr rfl) .nil))) (ih r (by lia) _ _ _ _ hmR (by lia) hi hi' (by rw [putAt_len (by rw [l1]; lia)]; lia) (by rw [putAt_len (by rw [l1]; lia)]; lia)) (fun d own' q => by rw [q.2]; rfl) fun d own' q => ?_)
   rw [q.2, fin]
   exact Xa.nil (.inr ⟨rfl, rfl, rfl⟩)
theorem digits_ok {r : Nat} (c0 : C.clo 0 = parts in2d) (T : FnM C "_int2digits" (aP 8) "inner") (a n : Nat) (ha : a < 2 ^ 31) (h1 : 1 <= n) (h2 : n <= 31) :
  Fn C (r + 12) (.ref T.a) [.int a, .int n] (.list (iD (cQ n a ((Builtin.Int.intBits a + n - 1) / n)))) := by
 refine T.d.fn (ns := ["a", "n"]) ?_
 have hb : Builtin.Int.intBits (a : Int) <= 31 := bits_le ha
 have hm : (Builtin.Int.intBits (a : Int) + n - 1) / n <= 100 := Nat.le_trans (Nat.div_le_self _ _) (by lia)
 have hge : a < 2 ^ (n * ((Builtin.Int.intBits (a : Int) + n - 1) / n)) := by
  refine Nat.lt_of_lt_of_le (kZ a) (Nat.pow_le_pow_right (by decide) ?_)
  have := Nat.lt_mul_div_succ (Builtin.Int.intBits (a : Int) + n - 1) (show 0 < n by lia)
  rw [Nat.mul_add, Nat.mul_one] at this
  lia
 generalize hbb : Builtin.Int.intBits (a : Int) = bb at hb hm hge ⊢
 generalize hmm : (bb + n - 1) / n = m at hm hge ⊢
 have e1 : ((bb : Int) + (n : Int) - 1).fdiv n = (m : Int) := by
  rw [<- hmm, Int.fdiv_eq_ediv_of_nonneg _ (by lia)]
  push_cast
  rw [Int.natCast_sub (by lia)]
  push_cast; rfl
 refine Xc.cons (X1.assignOwn (d := .list (List.replicate (m : Int).toNat (.int ((0 : Nat) : Int)))) (.rep (EvF.ev (.list (.cons .int .nil) (by decide))) (.bin (.bin (.bin (.meth .name .nil rfl F.plainAttrs_int F.slot_int_bit_length F.type_int_bit_length Fn.bitLength) .name .add) .int .sub) .name (by rw [hbb, <- e1]; exact .fdiv (by lia) (PyProof.noPylong_small (by lia)))) (by lia) (by lia)) (.inr ⟨rfl, rfl⟩) fun l => ?_)
 refine Xc.defc (tag := 0) T.m (fun q hq => T.qn q _ _ hq) c0 (.inr ⟨rfl, rfl⟩) ?_ fun cs hs => ?_
 ·exact CapOk.get rfl
 have dl : (List.replicate (m : Int).toNat (D.int ((0 : Nat) : Int))).length = m := by simp
 generalize hds : List.replicate (m : Int).toNat (D.int ((0 : Nat) : Int)) = ds at dl
 have ret : ∀ (ρ' : Rho) (own' : Own) (es : List D), Sub [("a_digits", .own l)] ρ' -> own' = [(l, .list es)] -> es = iD (cQ n a m) -> Xa C (r + 11) (fSc 8) cs (aa (fSc 8)) ρ' own' [nthS (fBody 8) 3] fun f _ _ => f = .ret (.list (iD (cQ n a m))) ∨ (f = .next /\ D.list (iD (cQ n a m)) = .none) := fun ρ' own' es s e1 e2 => by
  subst e1 e2
  exact X.a (X.weaken s (X.freeze (x := "a_digits") (i := 0) rfl rfl trivial (X.cons (X1.ret .name (.inl rfl)))))
 refine Xa.cons (X1a.iff (Tst.of .name rfl) (fun t => ?_) (fun t => ?_))
 ·have ha0 : a ≠ 0 := by simp at t; lia
  have hm0 : 0 < m := by
   have := bits_pos ha0
   rw [hbb] at this
   rw [<- hmm]
   exact Nat.div_pos (by lia) (by lia)
  refine Xa.cons (X1a.callClo (r := r + 10) (tag := 0) (ns := ["x", "L", "R"]) (ρf := i2Rho 0 cs l n) rfl (.cons .name (.cons .int (.cons (Ev.peek (x := "a_digits") (i := 0) rfl rfl trivial (.callB .of (.cons .name .nil) Fn.len) rfl) .nil))) (i2_is c0) rfl (by rw [c0]; exact hs) (by rw [c0]; exact .cons rfl rfl (.inl rfl) (.cons rfl rfl (.inl rfl) (.cons rfl rfl (.inl rfl) .nil)))
   (by
    have := i2_inner c0 (cs := cs) (a := l) (n := n) hs (by lia) 10 (r + 10) (by lia) a 0 m ds hm0 (Nat.le_trans (Nat.sub_le _ _) (by lia)) (by simpa using hge) (by lia) (by lia) (by lia)
    rw [dl]
    exact this) (fun d own' q => by rw [q.2]; rfl) fun d own' q => Xa.nil ?_)
  refine ret _ _ _ (.cons (by rfl) .nil) q.2 ?_
  have : (iD (cQ n a m)).length = m := by rw [dB, iV]
  unfold putAt
  rw [Nat.sub_zero, this]
  simp [dl]
 ·have ha0 : a = 0 := by simp at t; lia
  subst ha0
  refine Xa.nil (ret _ _ _ (.cons (by rfl) .nil) rfl ?_)
  have hb0 : bb = 0 := by rw [<- hbb]; rfl
  have hm0 : m = 0 := by rw [<- hmm, hb0]; exact Nat.div_eq_of_lt (by lia)
  subst hm0
  exact List.eq_nil_of_length_eq_zero dl
noncomputable def mQ (cs : List (Str × Addr)) (ns : List Nat) (n : Nat) : Rho := [("digits", .list (iD ns)), ("n", .int n), ("inner", .clo 1 cs)]
theorem d2_is (c1 : C.clo 1 = parts inD2) : CloIs C 1 ["L", "R"] := by
 refine ⟨?_, by decide, ?_, ?_, ?_, ?_, ?_⟩ <;> rw [c1]
 ·exact ⟨_, _, rfl, rfl⟩
 ·exact fun x hx => by revert x; decide
 ·rfl
 ·rfl
 ·rfl
 ·rfl
noncomputable def slice (ns : List Nat) (L R : Nat) : List Nat := (ns.drop L).take (R - L)
theorem slice_split {ns : List Nat} {L mid R : Nat} (h1 : L <= mid) (h2 : mid <= R) (h3 : R <= ns.length) : slice ns L R = slice ns L mid ++ slice ns mid R := by
 unfold slice
 rw [show R - L = (mid - L) + (R - mid) by lia, List.take_add, List.drop_drop, show L + (mid - L) = mid by lia]
theorem slice_len {ns : List Nat} {L R : Nat} (h1 : L <= R) (h3 : R <= ns.length) : (slice ns L R).length = R - L := by unfold slice; simp; lia
theorem slice_mem {ns : List Nat} {L R x : Nat} (h : x ∈ slice ns L R) : x ∈ ns := List.mem_of_mem_drop (List.mem_of_mem_take h)
theorem d2_inner (c1 : C.clo 1 = parts inD2) {cs : List (Str × Addr)} {n : Nat} {ns : List Nat} (hs : HasCs (parts inD2).2.2 cs) (hn : n <= 1000) (hd : ∀ d ∈ ns, d < 2 ^ n) (hl : n * ns.length <= 63) : ∀ (k r : Nat), k <= r -> ∀ (L R : Nat), L < R -> R - L <= 2 ^ k -> R <= ns.length -> ns.length <= 1000 ->
  lF C r 1 cs ["L", "R"] [.int L, .int R] (mQ cs ns n) [] fun d own' => d = .int (bN n (slice ns L R)) /\ own' = [] := by
 intro k
 have base : ∀ (r L : Nat) (P : aZ), L < ns.length -> ns.length <= 1000 -> P (.ret (.int (bN n (slice ns L (L + 1))))) (([("L", .int L), ("R", .int (L + 1 : Nat))] : Rho) ++ mQ cs ns n) [] -> Xa C r (parts inD2).2.2 cs fX (([("L", .int L), ("R", .int (L + 1 : Nat))] : Rho) ++ mQ cs ns n) [] [nthS (ifThen (nthS (parts inD2).2.1 0)) 0] P := by
  intro r L P h h9 p
  have e : slice ns L (L + 1) = [ns[L]] := by
   unfold slice
   rw [show L + 1 - L = 1 by lia, List.drop_eq_getElem_cons h]; rfl
  refine X.a (X.cons (X1.ret (.sub (d := .int (ns[L] : Nat)) .name .name (.list ?_ (by lia) (by lia)) rfl cO) ?_))
  ·unfold place iD
   rw [if_neg (by lia)]
   simp [h]
  ·show P _ _ _; rw [e, eY, show bN n [] = 0 from rfl, Nat.mul_zero, Nat.add_zero] at p; exact p
 induction k with
 | zero =>
  intro r hr L R h1 h2 h3 h4
  unfold lF
  rw [c1]
  have hR : R = L + 1 := by have : (2 : Nat) ^ 0 = 1 := rfl; lia
  subst hR
  refine Xa.cons (X1a.iff (Tst.cmp (.bin .name .int .add) .name .eqI) (fun t => base r L _ (by lia) h4 (.inl ⟨_, rfl, rfl, rfl⟩)) (fun t => ?_))
  exfalso; simp at t
 | succ k ih =>
  intro r hr L R h1 h2 h3 h4
  obtain ⟨r, rfl⟩ : ∃ r', r = r' + 1 := ⟨r - 1, by lia⟩
  unfold lF
  rw [c1]
  refine Xa.cons (X1a.iff (Tst.cmp (.bin .name .int .add) .name .eqI) (fun t => ?_) (fun t => ?_))
  ·have hR : R = L + 1 := by simp at t; lia
   subst hR
   exact base _ L _ (by lia) h4 (.inl ⟨_, rfl, rfl, rfl⟩)
  ·have hR : L + 1 < R := by simp at t; lia
   have p2 : (2 : Nat) ^ (k + 1) = 2 ^ k + 2 ^ k := by rw [Nat.pow_succ]; lia
   generalize hm : (L + R) / 2 = mid
   have hmL : L < mid := by lia
   have hmR : mid < R := by lia
   generalize hsft : (mid - L) * n = s
   have hs1 : s <= 1000000 := by
    rw [<- hsft]
    exact Nat.le_trans (Nat.mul_le_mul (show mid - L <= 1000 by lia) hn) (by decide)
   have e1 : ((L : Int) + (R : Int)).fdiv (2 ^ (1 : Int).toNat) = (mid : Int) := by
    rw [Int.fdiv_eq_ediv_of_nonneg _ (by decide)]
    show ((L : Int) + (R : Int)) / 2 = _
    lia
   have e2 : ((mid : Int) - (L : Int)) * (n : Int) = (s : Int) := by
    rw [<- hsft, Int.natCast_mul, Int.natCast_sub (by lia)]
   have e4 : ∀ x : Nat, (x : Int) * 2 ^ (s : Int).toNat = ((x * 2 ^ s : Nat) : Int) := fun x => by
    rw [Int.toNat_natCast]; push_cast; rfl
   have big : bN n (slice ns mid R) < 2 ^ 64 := by
    have h5 := undig_lt n (slice ns mid R) fun d h => hd d (slice_mem h)
    rw [slice_len (by lia) h3] at h5
    refine Nat.lt_of_lt_of_le h5 (Nat.pow_le_pow_right (by decide) (Nat.le_trans (Nat.mul_le_mul_left n (show R - mid <= ns.length by lia)) (by lia)))
   have sum : bN n (slice ns L R) = bN n (slice ns mid R) * 2 ^ s + bN n (slice ns L mid) := by
    rw [slice_split (L := L) (mid := mid) (by lia) (by lia) h3, jX, slice_len (by lia) (by lia), <- hsft, Nat.mul_comm n, Nat.mul_comm (2 ^ _), Nat.add_comm]
   refine Xa.nil ?_
   refine Xa.cons (X1.a (X1.assign (d := .int mid) (.bin (.bin .name .name .add) .int (by rw [<- e1]; exact .rsh (by decide))) (.name (.inl rfl)) ?_))
   refine Xa.cons (X1.a (X1.assign (d := .int s) (.bin (.bin .name .name .sub) .name (by rw [<- e2]; exact .mul (.of_right (gW (by lia) (by lia))))) (.name (.inl rfl)) ?_))
   have call : ∀ (A B : Nat) (x y : Expr) (p q pos : Pos), A < B -> B - A <= 2 ^ k -> B <= ns.length -> ∀ ρ', Sub (mQ cs ns n) ρ' -> Ev C (r + 1) (parts inD2).2.2 ρ' [] x (.int A) -> Ev C (r + 1) (parts inD2).2.2 ρ' [] y (.int B) -> notStar x = true -> notStar y = true ->
     Eva C (r + 1) (parts inD2).2.2 cs ρ' [] (.Call (.Name "inner" p) [x, y] [] pos) (.int (bN n (slice ns A B))) := by
    intro A B x y p q pos h5 h6 h7 ρ' hsub ex ey nx ny
    exact Eva.callClo (tag := 1) (ns := ["L", "R"]) (ρf := mQ cs ns n) (hsub _ _ rfl) (.cons ex (.cons ey .nil ny) nx) (d2_is c1) rfl (by rw [c1]; exact hs) (by rw [c1]; exact .cons (hsub _ _ rfl) rfl (.inr rfl) (.cons (hsub _ _ rfl) rfl (.inr rfl) (.cons (hsub _ _ rfl) rfl (.inr rfl) .nil)))
     (fun x d e => by
      unfold mQ at e
      simp only [ak] at e
      revert e
      repeat' split
      all_goals (intro e; cases e <;> rfl)) (ih r (by lia) A B h5 h6 h7 h4) nx
   refine Xa.cons (X1a.ret (Eva.bin (.bin (call mid R _ _ _ ⟨0, 0, 0, 0⟩ _ hmR (by lia) h3 _ ?_ .name .name rfl rfl) (Ev.a .name) (.lsh (by lia) (by lia) (by rw [Int.natAbs_natCast]; exact big))) (call L mid _ _ _ ⟨0, 0, 0, 0⟩ _ hmL (by lia) (by lia) _ ?_ .name .name rfl rfl) .add) (.inl ⟨_, rfl, ?_, rfl⟩))
   ·exact .cons rfl (.cons rfl (.cons rfl .nil))
   ·exact .cons rfl (.cons rfl (.cons rfl .nil))
   ·rw [e4, sum]; push_cast; rfl
theorem Eva.ifexp {r : Nat} {sc : Scope} {cs : List (Str × Addr)} {ρ : Rho} {own : Own} {t a b : Expr} {pos : Pos} {c : Bool} {d : D} (x : Tst C r sc ρ own t c) (y : c = true -> Eva C r sc cs ρ own a d) (z : c = false -> Eva C r sc cs ρ own b d) : Eva C r sc cs ρ own (.IfExp t a b pos) d := by
 constructor; intro A env W h₀ O h R G G' ag S tk qQ qE qK
 refine wpAny_IfExp ((x.go A env W h₀ O h R G S).use2 fun v h1 tk1 e1 q => ?_)
 subst q
 cases v with
 | true => exact ((y rfl).go A env W h₀ O h1 R G G' ag (S.ext e1)).use2 fun v2 h2 tk2 e2 z2 => (qK _ h2 tk2 ⟨e1.trans e2, z2⟩)
 | false => exact ((z rfl).go A env W h₀ O h1 R G G' ag (S.ext e1)).use2 fun v2 h2 tk2 e2 z2 => (qK _ h2 tk2 ⟨e1.trans e2, z2⟩)
theorem d2_ok {r : Nat} (c1 : C.clo 1 = parts inD2) (T : FnM C "_digits2int" (aP 9) "inner") (n : Nat) (ns : List Nat) (hn : n <= 1000) (hd : ∀ d ∈ ns, d < 2 ^ n) (hl : n * ns.length <= 63) (hl2 : ns.length <= 1000) :
  Fn C (r + 12) (.ref T.a) [.list (iD ns), .int n] (.int (bN n ns)) := by
 refine T.d.fn (ns := ["digits", "n"]) ?_
 refine Xc.defc (tag := 1) T.m (fun q hq => T.qn q _ _ hq) c1 (.inr ⟨rfl, rfl⟩) (CapOk.get rfl) fun cs hs => ?_
 refine Xa.cons (X1a.ret (d := .int (bN n ns)) (Eva.ifexp (Tst.of .name rfl) (fun t => ?_) (fun t => ?_)) (.inl rfl))
 ·have hne : ns ≠ [] := by
   intro q; subst q; simp [iD] at t
  have hpos : 0 < ns.length := List.length_pos_iff.mpr hne
  have e : slice ns 0 ns.length = ns := by unfold slice; simp
  refine Eva.callClo (r := r + 10) (tag := 1) (ns := ["L", "R"]) (ds := [.int (0 : Nat), .int ns.length]) (ρf := mQ cs ns n) rfl (.cons .int (.cons (by rw [<- dB ns]; exact .callB .of (.cons .name .nil) Fn.len) .nil)) (d2_is c1) rfl (by rw [c1]; exact hs) (by rw [c1]; exact .cons rfl rfl (.inl rfl) (.cons rfl rfl (.inl rfl) (.cons rfl rfl (.inl rfl) .nil)))
     (fun x d e => by
      unfold mQ at e
      simp only [ak] at e
      revert e
      repeat' split
      all_goals (intro e; cases e <;> rfl)) ?_
  have := d2_inner c1 (cs := cs) (n := n) (ns := ns) hs hn hd hl 10 (r + 10) (by lia) 0 ns.length hpos (by lia) (Nat.le_refl _) hl2
  rw [e] at this
  exact this
 ·have hne : ns = [] := by
   cases ns with
   | nil => rfl
   | cons a l => simp [iD] at t
  subst hne
  exact Ev.a Ev.int
theorem div2_ok {r : Nat} (T : FnT C "_div2n1n" (aP 6)) {t : Tok} (lim : C.mg "_DIV_LIMIT" = some (.int 4000 t)) (a b n : Nat) (ha : a < 2 ^ 64) (hb : 0 < b) (hb2 : b < 2 ^ 30) :
  Fn C (r + 1) (.ref T.a) [.int a, .int b, .int n] (.tup [.int (a / b : Nat), .int (a % b : Nat)]) := by
 refine T.d.fn (ns := ["a", "b", "n"]) (X.c ?_)
 have hbits : Builtin.Int.intBits (a : Int) <= 64 := bits_le ha
 refine X.cons (X1.iff (Tst.cmp (.bin (.meth .name .nil rfl F.plainAttrs_int F.slot_int_bit_length F.type_int_bit_length Fn.bitLength) .name .sub) (.gint rfl lim) .leI) (fun u => ?_) (fun u => ?_))
 ·refine X.cons (X1.ret (.callB (id := "divmod") (ds := [.int a, .int b]) .of (.cons .name (.cons .name .nil)) ?_) (.inl rfl))
  have e1 : (a : Int).fdiv b = ((a / b : Nat) : Int) := by rw [Int.fdiv_eq_ediv_of_nonneg _ (by lia)]; push_cast; rfl
  have e2 : (a : Int).fmod b = ((a % b : Nat) : Int) := by rw [Int.fmod_eq_emod_of_nonneg _ (by lia)]; push_cast; rfl
  rw [<- e1, <- e2]
  exact Fn.divmod (by lia) (PyProof.noPylong_small (by lia))
 ·exfalso
  simp at u
  lia
structure DivT (C : Cfg) where
 c0 : C.clo 0 = parts in2d
 c1 : C.clo 1 = parts inD2
 tk : Tok
 lim : C.mg "_DIV_LIMIT" = some (.int 4000 tk)
 div2 : FnT C "_div2n1n" (aP 6)
 i2d : FnM C "_int2digits" (aP 8) "inner"
 d2i : FnM C "_digits2int" (aP 9) "inner"
 pos : FnT C "_divmod_pos" (aP 10)
 idm : FnT C "int_divmod" (aP 11)
theorem div_step {d n v b Q : Nat} (hb : 0 < b) (hQ : Q = v / b) : (d + 2 ^ n * v) / b = (v % b * 2 ^ n + d) / b + 2 ^ n * Q /\ (d + 2 ^ n * v) % b = (v % b * 2 ^ n + d) % b := by
 have h1 : d + 2 ^ n * v = (v % b * 2 ^ n + d) + b * (2 ^ n * Q) := by
  have := Nat.div_add_mod v b
  rw [<- hQ] at this
  rw [<- Nat.mul_assoc, Nat.mul_comm b, Nat.mul_assoc]
  conv => lhs; rw [<- this, Nat.mul_add]
  rw [Nat.mul_comm (v % b)]
  lia
 rw [h1]
 exact ⟨by rw [Nat.add_mul_div_left _ _ hb], Nat.add_mul_mod_self_left _ _ _⟩
theorem pos_ok {r : Nat} (T : DivT C) (a b : Nat) (ha : a < 2 ^ 31) (hb : 0 < b) (hb2 : b < 2 ^ 30) :
  Fn C (r + 13) (.ref T.pos.a) [.int a, .int b] (.tup [.int (a / b : Nat), .int (a % b : Nat)]) := by
 refine T.pos.d.fn (ns := ["a", "b"]) (X.c ?_)
 have hn1 : 1 <= Builtin.Int.intBits (b : Int) := bits_pos (by lia)
 have hn2 : Builtin.Int.intBits (b : Int) <= 30 := bits_le hb2
 have hbn : b < 2 ^ Builtin.Int.intBits (b : Int) := kZ b
 have hba : Builtin.Int.intBits (a : Int) <= 31 := bits_le ha
 generalize hnn : Builtin.Int.intBits (b : Int) = n at hn1 hn2 hbn
 have hge : a < 2 ^ (n * ((Builtin.Int.intBits (a : Int) + n - 1) / n)) := by
  refine Nat.lt_of_lt_of_le (kZ a) (Nat.pow_le_pow_right (by decide) ?_)
  have := Nat.lt_mul_div_succ (Builtin.Int.intBits (a : Int) + n - 1) (show 0 < n by lia)
  rw [Nat.mul_add, Nat.mul_one] at this
  lia
 have hm2 : n * ((Builtin.Int.intBits (a : Int) + n - 1) / n) <= 62 := Nat.le_trans (Nat.mul_div_le _ _) (by lia)
 have hdig := digits_ok (r := r) T.c0 T.i2d a n ha hn1 (by lia)
 generalize (Builtin.Int.intBits (a : Int) + n - 1) / n = m at hge hm2 hdig
 have hm1 : m <= 62 := Nat.le_trans (Nat.le_mul_of_pos_left m (by lia)) hm2
 refine X.cons (X1.assign (d := .int n) (by rw [<- hnn]; exact .meth .name .nil rfl F.plainAttrs_int F.slot_int_bit_length F.type_int_bit_length Fn.bitLength) (.name (.inl rfl)) ?_)
 refine X.cons (X1.assign (.call T.i2d.gf (.cons .name (.cons .name .nil)) hdig) (.name (.inl rfl)) ?_)
 refine X.cons (X1.assign (d := .int ((0 : Nat) : Int)) .int (.name (.inl rfl)) ?_)
 refine X.cons (X1.assignOwn (.list .nil (by decide)) (.inl rfl) fun l => ?_)
 generalize hds : cQ n a m = ds
 have dl : ds.length = m := by rw [<- hds, iV]
 have dlt : ∀ d ∈ ds, d < 2 ^ n := by rw [<- hds]; exact digs_lt n m a
 have dval : bN n ds = a := by rw [<- hds, jD]; exact Nat.mod_eq_of_lt hge
 let R : Nat -> Rho := fun rr => [("r", .int rr), ("b", .int b), ("n", .int n), ("q_digits", .own l)]
 let V : Nat -> Nat := fun i => bN n (ds.drop (m - i))
 refine X.cons (X1.for (fun i ρ' own' => ∃ qs : List Nat, own' = [(l, .list (iD qs))] /\ qs.length = i /\ (∀ q ∈ qs, q < 2 ^ n) /\ bN n qs.reverse = V i / b /\ Sub (R (V i % b)) ρ') (EvI.ofT .of (.cons .name .nil) iZ.reversed) (fun d _ => Asg.name (.inl rfl)) ?_ ?_ ?_)
 ·refine ⟨[], rfl, rfl, by simp, ?_, ?_⟩
  ·show bN n [] = bN n (ds.drop (m - 0)) / b
   rw [Nat.sub_zero, List.drop_eq_nil_of_le (by lia)]
   exact (Nat.zero_div b).symm
  ·have : V 0 % b = 0 := by
    show bN n (ds.drop (m - 0)) % b = 0
    rw [Nat.sub_zero, List.drop_eq_nil_of_le (by lia)]
    exact Nat.zero_mod b
   rw [this]
   repeat (first | exact Sub.nil | refine Sub.cons (by rfl) ?_)
 ·rintro i d ρ' own' hd ⟨qs, rfl, hqi, hq, hu, hs⟩
  have hi : i < m := by
   have := (List.getElem?_eq_some_iff.mp hd).1
   simpa [dB, dl] using this
  have hg : m - 1 - i < ds.length := by lia
  have hd' : d = .int (ds[m - 1 - i] : Nat) := by
   rw [List.getElem?_reverse (by rw [dB]; lia), dB, dl] at hd
   unfold iD at hd
   rw [List.getElem?_map, List.getElem?_eq_getElem hg] at hd
   simpa using hd.symm
  generalize hdd : ds[m - 1 - i] = dd at hd'
  subst hd'
  have hdl : dd < 2 ^ n := hdd ▸ dlt _ (List.getElem_mem hg)
  have hV : V (i + 1) = dd + 2 ^ n * V i := by
   show bN n (ds.drop (m - (i + 1))) = dd + 2 ^ n * bN n (ds.drop (m - i))
   rw [show m - (i + 1) = m - 1 - i by lia, List.drop_eq_getElem_cons hg, hdd, bN, show m - 1 - i + 1 = m - i by lia]
  obtain ⟨s1, s2⟩ := div_step (d := dd) (n := n) (v := V i) (b := b) hb hu
  have rlt : V i % b < b := Nat.mod_lt _ hb
  generalize hrr : V i % b = rr at rlt s1 s2 hs
  have p30 : (2 : Nat) ^ n <= 2 ^ 30 := Nat.pow_le_pow_right (by decide) hn2
  have hx : rr * 2 ^ n + dd < b * 2 ^ n := by
   have : (rr + 1) * 2 ^ n <= b * 2 ^ n := Nat.mul_le_mul_right _ rlt
   rw [Nat.add_mul, Nat.one_mul] at this
   lia
  have hx2 : b * 2 ^ n < 2 ^ 64 := Nat.lt_of_le_of_lt (Nat.mul_le_mul (Nat.le_of_lt hb2) p30) (by decide)
  have e4 : (rr : Int) * 2 ^ (n : Int).toNat + (dd : Int) = ((rr * 2 ^ n + dd : Nat) : Int) := by
   rw [Int.toNat_natCast]; push_cast; rfl
  refine X.weaken (ρ' := ("a_digit", .int dd) :: R rr) hs.both ?_
  refine X.cons (X1.assign (d := .tup [.int ((rr * 2 ^ n + dd) / b : Nat), .int ((rr * 2 ^ n + dd) % b : Nat)]) (.call T.div2.gf (.cons (.bin (.bin .name .name (.lsh (by lia) (by lia) (by rw [Int.natAbs_natCast]; lia))) .name (by rw [<- e4]; exact .add)) (.cons .name (.cons .name .nil))) (div2_ok T.div2 T.lim _ b n (by lia) hb hb2)) (.tup (.cons (.name (.inl rfl)) (.cons (.name (.inl rfl)) .nil))) ?_)
  refine X.cons (X1.append (i := 0) (.name rfl) rfl .name (by rw [dB]; lia) ?_)
  refine X.nil ⟨qs ++ [(rr * 2 ^ n + dd) / b], ?_, ?_, ?_, ?_, ?_⟩
  ·simp [iD]
  ·simp [hqi]
  ·intro q hq'
   rcases List.mem_append.mp hq' with h | h
   ·exact hq q h
   ·rw [List.mem_singleton.mp h]
    exact Nat.div_lt_of_lt_mul hx
  ·rw [List.reverse_append, List.reverse_singleton, List.singleton_append, bN, hu, hV, s1, hu]
  ·rw [hV, s2]
   repeat (first | exact Sub.nil | refine Sub.cons (by rfl) ?_)
 ·rintro ρ' own' ⟨qs, rfl, hqi, hq, hu, hs⟩
  have hlen : (iD ds).reverse.length = m := by rw [List.length_reverse, dB, dl]
  rw [hlen] at hqi hu hs
  have hVm : V m = a := by show bN n (ds.drop (m - m)) = a; rw [Nat.sub_self, List.drop_zero, dval]
  rw [hVm] at hu hs
  refine X.weaken hs ?_
  refine X.cons (X1.reverse (i := 0) (.name rfl) rfl ?_)
  have er : (iD qs).reverse = iD qs.reverse := by simp [iD, List.map_reverse]
  show X C _ _ _ _ [(l, .list (iD qs).reverse)] _ _
  rw [er]
  refine X.freeze (x := "q_digits") (i := 0) rfl rfl trivial ?_
  refine X.cons (X1.assign (d := .int (a / b : Nat)) (.call T.d2i.gf (.cons .name (.cons .name .nil)) (by
   rw [<- hu]
   exact d2_ok (r := r) T.c1 T.d2i n qs.reverse (by lia) (fun d h => hq d (List.mem_reverse.mp h)) (by rw [List.length_reverse, hqi]; lia) (by rw [List.length_reverse]; lia))) (.name (.inl rfl)) ?_)
  exact X.cons (X1.ret (.tup (.cons .name (.cons .name .nil)) (by show 2 <= 1048576; decide)) (.inl rfl))
theorem idm_pos {r : Nat} (T : DivT C) (a b : Nat) (ha : a < 2 ^ 31) (hb : 0 < b) (hb2 : b < 2 ^ 30) :
  Fn C (r + 14) (.ref T.idm.a) [.int a, .int b] (.tup [.int (a / b : Nat), .int (a % b : Nat)]) := by
 refine T.idm.d.fn (ns := ["a", "b"]) (X.c ?_)
 refine X.cons (X1.iff (Tst.cmp .name .int .eqI) (fun t => by simp at t; omega) (fun t => ?_))
 refine X.cons (X1.iff (Tst.cmp .name .int .ltI) (fun t => by simp at t; omega) (fun t => ?_))
 refine X.cons (X1.iff (Tst.cmp .name .int .ltI) (fun t => by simp at t; omega) (fun t => ?_))
 exact X.cons (X1.ret (.call T.pos.gf (.cons .name (.cons .name .nil)) (pos_ok T a b ha hb hb2)) (.inl rfl))
theorem neg_div {a b : Nat} (hb : 0 < b) : (-(a : Int) - 1).fdiv b = -((a / b : Nat) : Int) - 1 /\ (-(a : Int) - 1).fmod b = (b : Int) + (-((a % b : Nat) : Int) - 1) := by
 have h1 := Nat.div_add_mod a b
 have h2 := Nat.mod_lt a hb
 have e : -(a : Int) - 1 = ((b : Int) + (-((a % b : Nat) : Int) - 1)) + b * (-((a / b : Nat) : Int) - 1) := by
  have : (a : Int) = (b : Int) * ((a / b : Nat) : Int) + ((a % b : Nat) : Int) := by exact_mod_cast h1.symm
  rw [Int.mul_sub, Int.mul_neg, Int.mul_one]
  lia
 rw [Int.fdiv_eq_ediv_of_nonneg _ (by lia), Int.fmod_eq_emod_of_nonneg _ (by lia), e]
 constructor
 ·rw [Int.add_mul_ediv_left _ _ (by lia), Int.ediv_eq_zero_of_lt (by lia) (by lia)]; lia
 ·rw [Int.add_mul_emod_self_left, Int.emod_eq_of_lt (by lia) (by lia)]
theorem idm_ok {r : Nat} (T : DivT C) (a : Int) (b : Nat) (ha : -2000000000 <= a) (ha2 : a <= 2000000000) (hb : 0 < b) (hb2 : b < 1000000000) :
  Fn C (r + 15) (.ref T.idm.a) [.int a, .int b] (.tup [.int (a.fdiv b), .int (a.fmod b)]) := by
 by_cases h : 0 <= a
 ·obtain ⟨n, rfl⟩ := Int.eq_ofNat_of_zero_le h
  have e1 : (n : Int).fdiv b = ((n / b : Nat) : Int) := by rw [Int.fdiv_eq_ediv_of_nonneg _ (by lia)]; push_cast; rfl
  have e2 : (n : Int).fmod b = ((n % b : Nat) : Int) := by rw [Int.fmod_eq_emod_of_nonneg _ (by lia)]; push_cast; rfl
  rw [e1, e2]
  exact (idm_pos (r := r) T n b (by lia) hb (by lia)).mono (by lia)
 ·obtain ⟨n, rfl⟩ : ∃ n : Nat, a = -(n : Int) - 1 := ⟨(-a - 1).toNat, by lia⟩
  obtain ⟨e1, e2⟩ := neg_div (a := n) hb
  rw [e1, e2]
  refine T.idm.d.fn (ns := ["a", "b"]) (X.c ?_)
  refine X.cons (X1.iff (Tst.cmp .name .int .eqI) (fun t => by simp at t; lia) (fun t => ?_))
  refine X.cons (X1.iff (Tst.cmp .name .int .ltI) (fun t => by simp at t; lia) (fun t => ?_))
  refine X.cons (X1.iff (Tst.cmp .name .int .ltI) (fun t => ?_) (fun t => by simp at t; lia))
  have e3 : Builtin.bitNot (-(n : Int) - 1) = (n : Int) := by show -(-(n : Int) - 1) - 1 = _; lia
  have u : UnOk C .Invert (.int (-(n : Int) - 1)) (.int n) := by
   have := UnOk.inv (C := C) (x := -(n : Int) - 1)
   rw [e3] at this; exact this
  refine X.cons (X1.assign (.call (ds := [.int n, .int b]) T.idm.gf (.cons (.un .name u) (.cons .name .nil)) (idm_pos T n b (by lia) hb (by lia))) (.tup (.cons (.name (.inl rfl)) (.cons (.name (.inl rfl)) .nil))) ?_)
  exact X.cons (X1.ret (.tup (.cons (.un .name .inv) (.cons (.bin .name (.un .name .inv) .add) .nil)) (by show 2 <= 1048576; decide)) (.inl rfl))
noncomputable def enF (as rs de rr : D) : List (Str × D) := [("useragents", as), ("rulelines", rs), ("delay", de), ("req_rate", rr)]
noncomputable abbrev enG (En : Addr) (as rs : List D) (de rr : D) : D := .obj En (enF (.list as) (.list rs) de rr)
noncomputable def alD : Option Str -> D
 | none => .bool true
 | some s => .str s
noncomputable def alT : Option Str -> Bool
 | none => true
 | some s => s.length != 0
noncomputable def cF {α : Type} (m : α -> Int) (v : α -> Str) : List α -> Int -> Option Str -> Option Str
 | [], _, al => al
 | x :: r, b, al => if m x = 0 then cF m v r b al else if b < m x then cF m v r (m x) (some (v x)) else if m x = b /\ alT al = false then cF m v r b (some (v x)) else cF m v r b al
theorem mX {α : Type} {m : α -> Int} {v : α -> Str} {x : α} {r : List α} {b : Int} {al : Option Str} : cF m v (x :: r) b al = if m x = 0 then cF m v r b al else if b < m x then cF m v r (m x) (some (v x)) else if m x = b /\ alT al = false then cF m v r b (some (v x)) else cF m v r b al := rfl
structure RuleK (C : Cfg) (α : Type) where
 tag : Nat
 fr : α -> List (Str × D)
 v : α -> Str
 li : LamIs C tag ["name"]
 fa : ∀ x, gZ (C.lam tag).2.2 (fr x)
noncomputable def RuleK.d {α : Type} (K : RuleK C α) (x : α) : D := .rule K.tag (K.fr x) (.str (K.v x))
theorem alT_truth {al : Option Str} (h : ∀ s, al = some s -> s.length <= 1048576) : (alD al).truth = some (alT al) := by
 cases al with
 | none => rfl
 | some s =>
  show (if s.length <= 1048576 then some ((s.length : Int) != 0) else Option.none) = some (s.length != 0)
  rw [if_pos (h s rfl)]
  congr 1
  by_cases e : s.length = 0
  ·rw [e]; rfl
  ·have : (s.length : Int) ≠ 0 := by lia
   rw [show ((s.length : Int) != 0) = true from bne_iff_ne.mpr this, show (s.length != 0) = true from bne_iff_ne.mpr e]
theorem allowance_ok {r : Nat} {α : Type} {En a : Addr} {cd : Value} {mN : Str -> Option Value} (cl : Cls C En fP mN) (De : cY C a (inner (aP 2) 3) cd) (K : RuleK C α) (as : List D) (de rr : D) (rs : List α) (s : Str) (m : α -> Int)
  (hm : ∀ x ∈ rs, Ev C r (C.lam K.tag).2.2 ((["name"] : List Str).zip [.str s] ++ K.fr x) [] (C.lam K.tag).2.1 (.int (m x))) (hv : ∀ x ∈ rs, (K.v x).length <= 1048576) (hl : rs.length <= 100000) :
  Fn C (r + 2) (.ref a) [enG En as (rs.map K.d) de rr, .str s] (alD (cF m K.v rs (-1) none)) := by
 generalize hG : cF m K.v rs (-1) none = G
 refine De.fn (ns := ["self", "filename"]) (X.c ?_)
 refine X.cons (X1.assign (d := .int (-1)) (.un .int .neg) (.name (.inl rfl)) ?_)
 refine X.cons (X1.assign (d := alD none) .bool (.name (.inl rfl)) ?_)
 let R : Int -> Option Str -> Rho := fun b al => [("best_match", .int b), ("allowance", alD al), ("filename", .str s)]
 have nal : ∀ al, bU (alD al) := fun al => by cases al <;> rfl
 refine X.cons (X1.for (fun i ρ' own' => ∃ b al, own' = [] /\ Sub (R b al) ρ' /\ (∀ s, al = some s -> s.length <= 1048576) /\ cF m K.v (rs.drop i) b al = G) (EvI.list (.attr cl .name)) (fun d _ => Asg.name (.inl rfl)) ⟨-1, none, rfl, ?_, nofun, hG⟩ ?_ ?_)
 ·repeat (first | exact Sub.nil | refine Sub.cons (by rfl) ?_)
 ·rintro i d ρ' own' hd ⟨b, al, rfl, hs, hsm, he⟩
  have hi : i < rs.length := by have := (List.getElem?_eq_some_iff.mp hd).1; simpa using this
  have hd' : d = K.d rs[i] := by
   rw [List.getElem?_map, List.getElem?_eq_getElem hi] at hd
   simpa using hd.symm
  have hmem : rs[i] ∈ rs := List.getElem_mem hi
  have hdrop : rs.drop i = rs[i] :: rs.drop (i + 1) := List.drop_eq_getElem_cons hi
  generalize rs[i] = x at hd' hmem hdrop
  subst hd'
  rw [hdrop] at he
  rw [mX] at he
  refine X.weaken (ρ' := ("line", K.d x) :: R b al) hs.both ?_
  refine X.cons (X1.assign (.callRule (ns := ["name"]) .name (.cons .name .nil) K.li rfl (K.fa x) (hm x hmem)) (.name (.inl rfl)) ?_)
  have nx : ∀ (ρ2 : Rho) (b2 : Int) (al2 : Option Str), Sub (R b2 al2) ρ2 -> (∀ s, al2 = some s -> s.length <= 1048576) -> cF m K.v (rs.drop (i + 1)) b2 al2 = G -> ∃ b al, ([] : Own) = [] /\ Sub (R b al) ρ2 /\ (∀ s, al = some s -> s.length <= 1048576) /\ cF m K.v (rs.drop (i + 1)) b al = G :=
   fun ρ2 b2 al2 h1 h2 h3 => ⟨b2, al2, rfl, h1, h2, h3⟩
  have hvx : ∀ s, some (K.v x) = some s -> s.length <= 1048576 := fun s e => by cases e; exact hv x hmem
  refine X.cons (X1.iff (Tst.of .name rfl) (fun t => ?_) (fun t => ?_))
  ·have t : m x ≠ 0 := by simpa using t
   rw [if_neg t] at he
   refine X.cons (X1.iff (Tst.cmp .name .name .gtI) (fun u => ?_) (fun u => ?_))
   ·have u : b < m x := by simpa using u
    rw [if_pos u] at he
    refine X.cons (X1.assign (d := .int (m x)) .name (.name (.inl rfl)) ?_)
    refine X.cons (X1.assign (d := alD (some (K.v x))) (.attrRule (tag := K.tag) (fs := K.fr x) .name) (.name (.inl rfl)) ?_)
    refine X.nil (X.nil (X.nil (nx _ _ _ ?_ hvx he)))
    repeat (first | exact Sub.nil | refine Sub.cons (by rfl) ?_)
   ·have u : ¬ b < m x := by simpa using u
    rw [if_neg u] at he
    refine X.cons (X1.iff (Tst.boolop (d8.and_cons (Tst.cmp .name .name .eqI) fun _ => d8.and_cons (Tst.not (Tst.of (.name rfl (nal al)) (alT_truth hsm))) fun _ => d8.and_nil)) (fun w => ?_) (fun w => ?_))
    ·have w : m x = b /\ alT al = false := by simpa using w
     rw [if_pos w] at he
     refine X.cons (X1.assign (d := alD (some (K.v x))) (.attrRule (tag := K.tag) (fs := K.fr x) .name) (.name (.inl rfl)) ?_)
     refine X.nil (X.nil (X.nil (X.nil (nx _ _ _ ?_ hvx he))))
     repeat (first | exact Sub.nil | refine Sub.cons (by rfl) ?_)
    ·have w : ¬ (m x = b /\ alT al = false) := by simpa using w
     rw [if_neg w] at he
     refine X.nil (X.nil (X.nil (X.nil (nx _ _ _ ?_ hsm he))))
     repeat (first | exact Sub.nil | refine Sub.cons (by rfl) ?_)
  ·have t : m x = 0 := by simpa using t
   rw [if_pos t] at he
   refine X.nil (X.nil (nx _ _ _ ?_ hsm he))
   repeat (first | exact Sub.nil | refine Sub.cons (by rfl) ?_)
 ·rintro ρ' own' ⟨b, al, rfl, hs, hsm, he⟩
  rw [List.length_map, List.drop_length] at he
  refine X.weaken hs (X.cons (X1.ret (.name rfl (nal al)) (.inl ?_)))
  rw [<- he]; rfl
noncomputable def orD (a b : D) : D := match b with | .none => a | d => d
theorem gm {r : Nat} {En ai a : Addr} {ci cd : Value} {mN : Str -> Option Value} (cl : Cls C En fP mN) (g : m7 C "Entry" En) (hi : mN "__init__" = some (.ref ai)) (Di : cY C ai (inner (aP 2) 0) ci) (De : cY C a (aP 3) cd)
  {as1 as2 : List Str} {rs1 rs2 : List D} {d1 d2 q1 q2 : D} (l2 : as2.length <= 30) (lr : rs1.length + rs2.length <= 100000) (n1 : bU d1) (n2 : bU d2) (n3 : bU q1) (n4 : bU q2) :
  Fn C (r + 3) (.ref a) [enG En (au as1) rs1 d1 q1, enG En (au as2) rs2 d2 q2] (enG En (au (as1.filter fun x => as2.any (· == x))) (rs1 ++ rs2) (orD d1 d2) (orD q1 q2)) := by
 refine De.fnNew (ns := ["e1", "e2"]) (X.c ?_)
 refine X.cons (X1.assignNew g cl .nil (einit_ok cl hi Di) (.inl rfl) ?_)
 rintro dA new ⟨la, lb, e⟩
 subst e
 refine X.cons (X1.setAttr cl 2 (.listFilter (.attr cl .name) (.attr cl .name) .of .of .of l2) ?_)
 refine X.cons (X1.setAttr cl 2 (.bin (.attr cl .name) (.attr cl .name) (.app (by lia))) ?_)
 refine X.cons (X1.setAttr (d := orD d1 d2) cl 2 (.ifexp (.cmp (.attr cl .name) .none (aB.isN n2)) (fun t => ?_) (fun t => ?_)) ?_)
 ·cases d2 <;> first | exact .attr cl .name | cases t
 ·cases d2 <;> first | exact .attr cl .name | cases t
 refine X.cons (X1.setAttr (d := orD q1 q2) cl 2 (.ifexp (.cmp (.attr cl .name) .none (aB.isN n4)) (fun t => ?_) (fun t => ?_)) ?_)
 ·cases q2 <;> first | exact .attr cl .name | cases t
 ·cases q2 <;> first | exact .attr cl .name | cases t
 have no : ∀ x y : D, bU x -> bU y -> bU (orD x y) := fun x y h1 h2 => by cases y <;> first | exact h1 | exact h2
 refine X.cons (X1.ret .name ⟨dA, enF (.list (au (as1.filter fun x => as2.any (· == x)))) (.list (rs1 ++ rs2)) (orD d1 d2) (orD q1 q2), rfl, ?_, ?_⟩)
 ·exact .tail _ (.tail _ (.head _))
 ·exact .val (by rfl) (.val (by rfl) (.val (no _ _ n1 n2) (.val (no _ _ n3 n4) .nil)))
theorem Ev.or2 {r : Nat} {sc : Scope} {ρ : Rho} {own : Own} {a b : Expr} {pos : Pos} {d1 d2 : D} {c : Bool} (x : Ev C r sc ρ own a d1) (t : d1.truth = some c) (y : c = false -> Ev C r sc ρ own b d2) :
  Ev C r sc ρ own (.BoolOp .Or [a, b] pos) (if c then d1 else d2) := by
 constructor; intro A env W h₀ O h R G S tk qQ qE qK
 refine BoolOp_or ((x.go A env W h₀ O h R G S).use2 fun v h1 tk1 e1 z1 => (truth_ok z1 t).use2 fun b' h2 tk2 q w => ?_)
 subst q w
 cases b' with
 | true => exact (qK _ h2 tk2 ⟨e1, z1⟩)
 | false => exact ((y rfl).go A env W h₀ O h2 R G (S.ext e1)).use2 fun v h3 tk3 e3 z3 => (qK _ h3 tk3 ⟨e1.trans e3, z3⟩)
theorem Bound.eval {A : Around} {env : Env} {h : Heap} {x : Str} {v : Value} {p : Pos} (kd : env.scope.kind = .function) (b : Bound env h x v) (hd : autoParam ((x == ("__debug__" : Str)) = false) tacD) :
  Tri C A (eval (.Name x p) env) h fun u h' => u = v /\ h' = h := by
 intro tk qQ qE qK
 refine wpAny_Name ?_ hd
 rcases b with ⟨a, m, n, e⟩ | ⟨a | ⟨a, a'⟩, c, n, e⟩
 ·exact wpAny_loadName_local kd a n e (qK _ h tk ⟨rfl, rfl⟩)
 ·exact wpAny_loadName_cell kd a n e (qK _ h tk ⟨rfl, rfl⟩)
 ·exact wpAny_loadName_free kd a n e (qK _ h tk ⟨rfl, rfl⟩) a'
theorem nodup_snd : ∀ {l : List (Str × Addr)}, (l.map (·.1)).Nodup -> (∀ p ∈ l, ∀ q ∈ l, p.2 = q.2 -> p.1 = q.1) -> (l.map (·.2)).Nodup
 | [], _, _ => .nil
 | a :: l, n, k => by
  rw [List.map_cons, List.nodup_cons] at n ⊢
  refine ⟨fun q => ?_, nodup_snd n.2 fun p hp q hq => k p (.tail _ hp) q (.tail _ hq)⟩
  obtain ⟨p, hp, e⟩ := List.mem_map.mp q
  exact n.1 (List.mem_map.mpr ⟨p, hp, k p (.tail _ hp) a (.head _) e⟩)
theorem cu.of {W : Addr -> Prop} {h : Heap} {cs : List (Str × Addr)} : ∀ {fs : List (Str × D)}, (∀ x d, (x, d) ∈ fs -> ∃ c v, cs.lookup x = some c /\ h.IsCell c (some v) /\ ¬ W c /\ Val C W h v d) -> cu C W h cs fs
 | [], _ => .nil
 | (x, d) :: fs, k => by
  obtain ⟨c, v, a, b, n, z⟩ := k x d (.head _)
  exact .cons a b n z (cu.of fun y e q => k y e (.tail _ q))
theorem cY.rule {r : Nat} {a c P : Addr} {s : Stmt} {ns : List Str} {ds : List D} {tag : Nat} {vx : Str} {vd : D} {fs : List (Str × D)} {rn : Str}
  {q1 q2 q3 q4 q5 q6 q7 t1 t2 t3 t4 l0 l1 : Pos} {a0 a1 : Arguments} {b0 b1 : Expr} {s0 s1 : Scope}
  (D : cY C a s (.ref c)) (hm : (c, P) ∈ C.tabs) (qn : ∀ q l k, C.hB.CodeRec (.ref c) q -> C.qn P l k = q ++ (".<locals>." : Str) ++ ("<lambda>" : Str))
  (hb : (parts s).2.1 = [.Assign [.Name rn q1] (.Lambda a0 b0 s0 l0) t1, .Assign [.Attribute (.Name rn q2) "applies_to" q3] (.Lambda a1 b1 s1 l1) t2, .Assign [.Attribute (.Name rn q4) "allowance" q5] (.Name vx q6) t3, .Return (some (.Name rn q7)) t4])
  (ht : C.lam tag = (a1, b1, s1)) (lv : (ns.zip ds).lookup vx = some vd) (nov : bU vd) (nvr : vx ≠ rn) (hfs : ∀ x d, (x, d) ∈ fs -> (ns.zip ds).lookup x = some d /\ bU d /\ (x, NameKind.free) ∈ s1.names /\ (parts s).2.2.names.lookup x = some .cell)
  (hfc : ∀ cells, (dR cells s1.names []).map (·.1) = fs.map (·.1)) (hfn : (fs.map (·.1)).Nodup) (k : Sto (parts s).2.2 (aa (parts s).2.2) rn) (krn : (parts s).2.2.names.lookup rn = some .local)
  (c0 : ∀ x, (x, NameKind.free) ∈ s0.names -> aa (parts s).2.2 x) (c1 : ∀ x, (x, NameKind.free) ∈ s1.names -> aa (parts s).2.2 x)
  (dn : ∀ env, defaultsOf a0 env = ([], [])) (dn1 : ∀ env, defaultsOf a1 env = ([], [])) (hdr : (rn == ("__debug__" : Str)) = false) (hdv : (vx == ("__debug__" : Str)) = false)
  (d0 : a1.defaults = []) (k0 : a1.kw_defaults = [])
  (p : autoParam (Plain s ns) tacE) (nd : autoParam (ns.Nodup) tacD) (hl : autoParam (ns.length = ds.length) tacR) (os : autoParam (nJ (parts s).2.2) tacT) (on : autoParam (gM (parts s).2.2 ns) tacR) :
  Fn C (r + 1) (.ref a) ds (.rule tag fs vd) := by
 obtain ⟨o, fd, ho, hc, hd, hcd, e1, e2, e3, e4, e5, e6, e7, e8⟩ := D
 generalize hsc : (parts s).2.2 = sc at *
 generalize hbd : (parts s).2.1 = body at *
 intro A W h vs R I tw wo z
 refine Fn.raw (own0 := []) ho hd hcd e3 e5 e6 e7 ((jk e2 p nd e8).to (z.length.trans hl.symm)) nd hl (by rw [e4]; exact on.get) R I tw wo (h₀ := h) (fun _ _ e => e) (fun p hp => cR hp) .nil
  (z.kp (S := fun _ => False) (.refl _) (fun _ f => f.elim) fun _ _ _ q => q.elim id fun q => cR q) (fun env A' W' h1 R' es ci wW keep fL fc S => ?_) (by rw [e4]; exact os.1) (by rw [e4]; exact os.2.1) (by rw [e4]; exact os.2.2)
 rw [e4] at S es
 rw [e1] at ci
 obtain ⟨Gc, q, hcr, hql⟩ := ci
 have hcell : ∀ x, aa sc x -> ∃ c, env.cells.lookup x = some c := fun x hx => by
  obtain ⟨c, v, l, _⟩ := S.cells x hx; exact ⟨c, l⟩
 have hqn : ∀ l k, C.qn P l k = env.qual ++ ("<lambda>" : Str) := fun l k => by rw [qn q l k hcr, hql]
 have hkd : env.scope.kind = .function := S.kind
 intro tk qQ qE qK
 rw [hb]
 refine wpAny_execs_cons (wpAny_Assign_stores (kla_eval (dn env) ((make_lam (A := A') S Gc hm (dg fun x hx => hcell x (c0 x hx)) (hqn _ _)).use ?_)) (by rfl) rfl)
 rintro v h2 tk2 ⟨f, cf, ctv, pm, ev, x2, f0, hof, hrf, ntf', ntf⟩
 subst ev
 have S2 : St C (Mine.more W' fun b => b = f) h env (aa sc) (ns.zip ds) [] h2 := S.more x2 fun b q => q ▸ ⟨f0, _, hof, nc_func rfl⟩
 refine ((Asg.name (r := r) k).go A' env _ h _ [] h2 (.ref f) R' (bQ es) S2 (show VT C _ _ _ _ (.own f) from rfl)).use2 fun _ h3 tk3 S3 k3 => ?_
 have exL : h1.get? env.locals ≠ none := S.wOld _ S.nsW
 have mfx : ∀ b, lC env (aa sc) b -> h1.get? b ≠ none := fun b q => by
  rcases q with q | ⟨x, hx, q⟩
  ·exact q ▸ exL
  ·exact (S.seen x b q).1
 have mfh : ∀ b, lC env (aa sc) b -> h.get? b = none := fun b q => by
  rcases q with q | ⟨x, hx, q⟩
  ·exact q ▸ fL
  ·exact fc x b q
 have mfF : ¬ aN C env (aa sc) f := fun q => q.elim ntf fun q => mfx f q f0
 have hof3 := k3 _ _ hof mfF
 refine wpAny_execs_cons (plainObj_wpAny_Assign_Attribute (kla_eval (dn1 env) ((make_lam (A := A') S3 Gc hm (dg fun x hx => hcell x (c1 x hx)) (hqn _ _)).use ?_)) rfl)
 rintro v h4 tk4 ⟨g, cg, ctg, pg, ev, x4, g0, hog, hrg, ntg', ntg⟩
 subst ev
 have S4 := S3.ext x4
 have hof4 := x4.1 _ _ hof3 ntf
 obtain ⟨vr, br, zr⟩ := S4.bound rn (.own f) (by rw [ak, if_pos rfl])
 have zr : vr = .ref f := zr
 subst zr
 refine (br.eval (C := C) (A := A') hkd hdr).use2 fun u h4' tk4' w1 w2 => ?_
 subst w1 w2
 refine set_fn0 hof4 rfl rfl (fun c q => by cases q) (by unfold NoFn; rw [typeLookup_type, builtinLookup_eq_fast]; kernel_rfl) fun h5 tk5 dx dx0 dxf hof5 ns5 kp5 => ?_
 have ffr : cz C f := S.inv.fresh_of_none f0
 have ncf : ∀ a, a = f -> ∀ o, h4'.get? a = some o -> bM o := fun a e o q => by
  rw [e, hof4] at q; cases q; exact nc_func rfl
 have K5 : Kp (fun b => b = f) h4' h5 := fun b o e n => kp5 b o n e
 have I5 : Inv C h5 := S4.inv.kp (S := fun b => b = f) (fun b (q : b = f) => q ▸ ffr) ncf K5
 have gf : g ≠ f := fun q => by rw [q, hof3] at g0; cases g0
 have hog5 := K5 _ _ hog gf
 have nsS : ∀ b, Seen env b -> ¬ b = f := fun b q w => by
  rw [w] at q
  rcases q with q | ⟨x, q⟩
  ·exact exL (q ▸ f0)
  ·exact (S.seen x f q).1 f0
 have br5 := br.kp' K5 nsS
 obtain ⟨vv, bv, zv⟩ := S4.bound vx vd (by rw [ak, if_neg (fun q => nvr (by first | exact q | exact q.symm))]; exact lv)
 have bv5 := bv.kp' K5 nsS
 refine wpAny_execs_cons (plainObj_wpAny_Assign_Attribute ((bv5.eval (C := C) (A := A') hkd hdv).use2 fun u h5a tk5a w1 w2 => ?_) rfl)
 subst w1 w2
 refine (br5.eval (C := C) (A := A') hkd hdr).use2 fun u2 h5b tk5b w1 w2 => ?_
 subst w1 w2
 refine set_fn (ns := ["applies_to"]) hof5 rfl rfl dxf ns5 (by unfold NoFn; rw [typeLookup_type, builtinLookup_eq_fast]; kernel_rfl) (fun x hx => ?_) (by decide) fun h7 tk7 ns7 sb7 => ?_
 ·by_cases w : x = ("applies_to" : Str)
  ·subst w; exact .head _
  ·exact absurd (if_neg w) hx
 have K7 : Kp (fun b => b = dx) h5b h7 := extBut_kp sb7.extBut
 have dxr : cz C dx := S4.inv.fresh_of_none dx0
 have I7 : Inv C h7 := I5.kp (S := fun b => b = dx) (fun b (q : b = dx) => q ▸ dxr) (fun b (q : b = dx) o e => mJ (Heap.Ns1.ns ns5) o (q ▸ e)) K7
 have nsS7 : ∀ b, Seen env b -> ¬ b = dx := fun b q w => by
  rw [w] at q
  rcases q with q | ⟨x, q⟩
  ·exact S4.wOld _ S4.nsW (q ▸ dx0)
  ·exact (S4.seen x dx q).1 dx0
 have br7 := br5.kp' K7 nsS7
 have KA : ∀ b o, h1.get? b = some o -> ¬ C.Tb b -> ¬ lC env (aa sc) b -> h7.get? b = some o := fun b o e n m => by
  have e2 := x2.1 _ _ e n
  have e3 := k3 _ _ e2 fun q => q.elim n m
  have e4 := x4.1 _ _ e3 n
  have e5 := K5 _ _ e4 fun q => by rw [q, f0] at e; cases e
  exact K7 _ _ e5 fun q => by rw [q, dx0] at e4; cases e4
 have KH : Kp C.Tb h h7 := fun b o e n => KA b o (keep b o e) n fun m => by rw [mfh b m] at e; cases e
 have wo7 : WOk C h7 W := wo.kp I7 KH fun b q => .inl q
 have nW : ∀ b, h.get? b = none -> ¬ W b := fun b e w => wo.old b w e
 have back1 : ∀ b, h1.get? b = none -> h.get? b = none := fun b e => by
  cases w : h.get? b with
  | none => rfl
  | some o => rw [keep b o w] at e; cases e
 have n3 : ∀ b, h3.get? b = none -> h.get? b = none := fun b e => by
  cases w : h.get? b with
  | none => rfl
  | some o =>
   by_cases t : C.Tb b
   ·obtain ⟨vs, w⟩ := C.tabHas h3 S3.inv.2 b t
    rw [e] at w; cases w
   ·have := k3 _ _ (x2.1 _ _ (keep b o w) t) fun q => q.elim t fun m => by rw [mfh b m] at w; cases w
    rw [e] at this; cases this
 have n4 : h.get? dx = none := n3 dx (x4.none_back dx0)
 have hog7 : h7.get? g = _ := K7 _ _ hog5 fun q => by rw [q, dx0] at hog; cases hog
 have hof7 : h7.get? f = _ := K7 _ _ hof5 fun q => dxf q.symm
 obtain ⟨c2, oc, cvs, u, w1, w2, w3, w4⟩ := hrg
 cases w1
 have cgf : cg ≠ f := fun q => by rw [q, hof4] at w2; cases w2; cases w3
 have w7 : h7.get? cg = some oc := K7 _ _ (K5 _ _ w2 cgf) fun q => by rw [q, dx0] at w2; cases w2
 have hr7 : h7.CodeRec (.ref cg) (env.qual ++ ("<lambda>" : Str)) := ⟨cg, oc, cvs, u, rfl, w7, w3, w4⟩
 have K47 : Kp (fun b => b = f) h4' h7 := fun b o e n => K7 _ _ (K5 _ _ e n) fun q => by rw [q, dx0] at e; cases e
 have down : ∀ {v : Value} {d : D}, Val C (Wof (Mine.more W' fun b => b = f) []) h4' v d -> Val C W h7 v d := fun z => z.kp K47 (fun b q => .inl (.inr q)) fun b o e w => .inl (.inl (wW b w))
 have zc : cu C W h7 (dR env.cells s1.names []) fs := .of fun x d hx => by
  obtain ⟨l1, l2, l3, l4⟩ := hfs x d hx
  obtain ⟨v, b, z⟩ := S4.bound x d (by
   rw [ak, if_neg fun q => ?_]
   ·exact l1
   ·first | (rw [<- q, krn] at l4; cases l4) | (rw [q, krn] at l4; cases l4))
  rcases b with ⟨b, _⟩ | ⟨b, c, lc, ic⟩
  ·have : env.kindOf x = some .cell := by rw [<- l4, <- es]; rfl
   rw [this] at b; cases b
  ·exact ⟨c, v, capt_some l3 lc, bZ K47 (nsS c (.inr ⟨x, lc⟩)) ic, nW c (fc x c lc), down (z.val l2)⟩
 have hnd : ((dR env.cells s1.names []).map (·.2)).Nodup := nodup_snd (by rw [hfc]; exact hfn) fun p hp q hq e => by
  obtain ⟨x, c⟩ := p
  obtain ⟨y, c'⟩ := q
  obtain ⟨m1, e1⟩ := iW _ _ _ _ hp
  obtain ⟨m2, e2⟩ := iW _ _ _ _ hq
  obtain ⟨d1, g1⟩ := hcell x (c1 x m1)
  obtain ⟨d2, g2⟩ := hcell y (c1 y m2)
  rw [g1] at e1; rw [g2] at e2
  have e : c = c' := e
  have e1 : c = d1 := e1
  have e2 : c' = d2 := e2
  refine S.apart x y d1 g1 ?_
  rw [g2, <- e2, <- e, e1]
 have zf : Val C W h7 (.ref f) (.rule tag fs vd) :=
  .rule (.mk hof7 rfl rfl rfl ns7 (by show (if ("applies_to" : Str) = "allowance" then _ else _) = _; rw [if_neg (by decide), if_pos rfl]) (if_pos rfl) hog7 rfl rfl ⟨by rw [ht], by rw [ht], by rw [ht], rfl, rfl, rfl, by rfl, by rfl, rfl⟩ w7 w3 w4
   (nW f (back1 f f0)) (nW dx n4) (nW g (n3 g g0)) (wo7.noCode hr7 ntg')) (down (zv.val nov)) zc (hfc _) hnd
 refine wpAny_execs_cons (wpAny_Return_some ((br7.eval (C := C) (A := A') hkd hdr).use2 fun u2 h7a tk7a w1 w2 => ?_))
 subst w1 w2
 exact (qK _ h7a tk7a ⟨⟨KH, I7⟩, zf⟩)
theorem pick_list {α : Type} (ds : List α) (a k : Nat) : ((List.range k).map (a + ·)).filterMap (ds[·]?) = (ds.drop a).take k := by
 have h := pick_run ds.toArray a k
 simpa using h
theorem jK {α : Type} (ds : List α) (lo hi : Option Int) : (picked ds.length lo hi none).filterMap (ds[·]?) = (ds.drop (lo.elim 0 (clipAt ds.length))).take (hi.elim ds.length (clipAt ds.length) - lo.elim 0 (clipAt ds.length)) := by
 unfold picked
 rw [sliceBounds_plain]
 simp only [sliceRange_one]
 exact pick_list ..
theorem pick_to {α : Type} (ds : List α) (k : Nat) : (picked ds.length none (some (k : Int)) none).filterMap (ds[·]?) = ds.take k := by
 rw [jK]
 simp only [Option.elim, clipAt_nat, List.drop_zero, Nat.sub_zero]
 rcases Nat.le_total k ds.length with h | h
 ·rw [Nat.min_eq_left h]
 ·rw [Nat.min_eq_right h, List.take_of_length_le (Nat.le_refl _), List.take_of_length_le h]
theorem pick_from {α : Type} (ds : List α) (k : Nat) : (picked ds.length (some (k : Int)) none none).filterMap (ds[·]?) = ds.drop k := by
 rw [jK]
 simp only [Option.elim, clipAt_nat]
 rcases Nat.le_total k ds.length with h | h
 ·rw [Nat.min_eq_left h, List.take_of_length_le (by simp)]
 ·rw [Nat.min_eq_right h, List.drop_of_length_le h]; simp
set_option tactic.hygienic true in
theorem pick_rev {α : Type} (ds : List α) : (picked ds.length none none (some (-1))).filterMap (ds[·]?) = ds.reverse := by
 unfold picked
 rw [krv_bounds]
 show (sliceRange ((ds.length : Int) - 1) (-1) (-1)).filterMap _ = _
 have h := pick_list ds 0 ds.length
 rw [krv_sliceRange, krv_range, List.filterMap_reverse]
 rw [show ((0 + ·) : Nat -> Nat) = id from funext fun k => Nat.zero_add k, List.map_id, List.drop_zero, List.take_length] at h
 rw [h]
section
variable {r : Nat} {sc : Scope} {ρ : Rho} {own : Own}
theorem Ev.takeL {o e : Expr} {p pos : Pos} {ds : List D} {k : Nat} (x : Ev C r sc ρ own o (.list ds)) (y : Ev C r sc ρ own e (.int (k : Nat))) (l : ds.length <= 1048576) : Ev C r sc ρ own (.Subscript o (.Slice Option.none (some e) Option.none p) pos) (.list (ds.take k)) := by
 have h := Ev.sliceL x (p := p) (pos := pos) .none (.some y) .none nofun (by rw [pick_to, List.length_take]; lia)
 rw [pick_to] at h; exact h
theorem Ev.dropL {o e : Expr} {p pos : Pos} {ds : List D} {k : Nat} (x : Ev C r sc ρ own o (.list ds)) (y : Ev C r sc ρ own e (.int (k : Nat))) (l : ds.length <= 1048576) : Ev C r sc ρ own (.Subscript o (.Slice (some e) Option.none Option.none p) pos) (.list (ds.drop k)) := by
 have h := Ev.sliceL x (p := p) (pos := pos) (.some y) .none .none nofun (by rw [pick_from, List.length_drop]; omega)
 rw [pick_from] at h; exact h
theorem Ev.revL {o e : Expr} {p pos : Pos} {ds : List D} (x : Ev C r sc ρ own o (.list ds)) (y : Ev C r sc ρ own e (.int (-1))) (l : ds.length <= 1048576) : Ev C r sc ρ own (.Subscript o (.Slice Option.none Option.none (some e) p) pos) (.list ds.reverse) := by
 have h := Ev.sliceL x (p := p) (pos := pos) .none .none (.some y) (by decide) (by rw [pick_rev, List.length_reverse]; omega)
 rw [pick_rev] at h; exact h
end
section
variable {α β : Type} (g : α -> D)
open Classical in
noncomputable def back [Inhabited β] (f : α -> β) (d : D) : β := if h : ∃ x, g x = d then f h.choose else default
theorem cj [Inhabited β] (inj : ∀ x y, g x = g y -> x = y) (f : α -> β) (x : α) : back g f (g x) = f x := by
 unfold back
 have h : ∃ y, g y = g x := ⟨x, rfl⟩
 rw [dif_pos h, inj _ _ h.choose_spec]
set_option tactic.hygienic true in
theorem lw [Inhabited β] (inj : ∀ x y, g x = g y -> x = y) (p : α -> Bool) (f : α -> β) (xs : List α) : ((xs.map g).filter (back g p)).map (back g f) = (xs.filter p).map f := by
 rw [List.filter_map, List.map_map]
 rw [show (back g p ∘ g) = p from funext fun x => cj g inj p x, show (back g f ∘ g) = f from funext fun x => cj g inj f x]
end
noncomputable def RhoIn (scope : Scope) (ρ ρc : Rho) : Prop := ∀ x d, ρc.lookup x = some d -> (x, NameKind.free) ∈ scope.names /\ ρ.lookup x = some d
noncomputable def aK (scope : Scope) (ρ : Rho) : Rho := scope.names.filterMap fun p => match p.2 with
 | .free => (ρ.lookup p.1).map fun d => (p.1, d)
 | _ => none
theorem dM {scope : Scope} {ρ : Rho} : RhoIn scope ρ (aK scope ρ) := fun x d e => by
 have := mem_of_lookup e
 unfold aK at this
 obtain ⟨⟨y, k⟩, hp, q⟩ := List.mem_filterMap.mp this
 cases k <;> simp only [reduceCtorEq] at q
 cases w : ρ.lookup y with
 | none => rw [w] at q; cases q
 | some d' =>
  rw [w] at q
  cases q
  exact ⟨hp, w⟩
noncomputable def dK : List (Str × NameKind) -> Bool
 | [] => true
 | (x, _) :: r => !(r.any fun q => q.1 == x) && dK r
theorem nodupB_cons {x : Str} {k : NameKind} {r : List (Str × NameKind)} : dK ((x, k) :: r) = (!(r.any fun q => q.1 == x) && dK r) := rfl
theorem lR : ∀ {l : List (Str × NameKind)}, dK l = true -> (l.map (·.1)).Nodup
 | [], _ => .nil
 | (x, k) :: r, h => by
  rw [nodupB_cons, Bool.and_eq_true, Bool.not_eq_true'] at h
  rw [List.map_cons, List.nodup_cons]
  refine ⟨fun q => ?_, lR h.2⟩
  obtain ⟨p, hp, e⟩ := List.mem_map.mp q
  have : (r.any fun q => q.1 == x) = true := List.any_eq_true.mpr ⟨p, hp, by rw [e]; exact beq_self_eq_true _⟩
  rw [h.1] at this; cases this
noncomputable def jC (sc scope : Scope) (ρ : Rho) : Bool := scope.names.all fun p => match p.2 with
 | .free => (ρ.lookup p.1).isSome && (match sc.names.lookup p.1 with | some .cell => true | some .free => true | _ => false)
 | _ => true
theorem capIn_get {sc scope : Scope} {ρ : Rho} (h : jC sc scope ρ = true) : ∀ x, (x, NameKind.free) ∈ scope.names -> (∃ d, ρ.lookup x = some d) /\ (sc.names.lookup x = some .cell ∨ sc.names.lookup x = some .free) := fun x hx => by
 have := List.all_eq_true.mp h _ hx
 rw [Bool.and_eq_true] at this
 refine ⟨Option.isSome_iff_exists.mp this.1, ?_⟩
 have h2 := this.2
 revert h2
 cases sc.names.lookup x with
 | none => intro q; cases q
 | some k => cases k <;> intro q <;> first | exact .inl rfl | exact .inr rfl | cases q
section
variable {α : Type} {r : Nat} {sc scope : Scope} {ρ ρc : Rho} {own : Own} {iter : Expr} {ifs : List Expr} {pos : Pos}
theorem lc_in (g : α -> D) (inj : ∀ x y, g x = g y -> x = y) {tg : Expr} (upd : α -> Rho -> Rho) {xs : List α} {p : α -> Bool} (src : EvI C r sc ρ own tg iter (xs.map g)) (rin : RhoIn scope ρ ρc) (hu : ∀ x y e, ρc.lookup y = some e -> (upd x ρc).lookup y = some e)
  (asg : ∀ x, Asg C r scope (aa scope) tg (g x) (upd x)) (tst : ∀ x ∈ xs, di C r scope (upd x ρc) own ifs (p x)) (len : xs.length <= 1048576)
  (cap : jC sc scope ρ = true) (hk : scope.kind = .function) (hn : dK scope.names = true) (hs : ∀ env x, foldedSetIterable iter env x = pure x) : jc C r sc scope ρ ρc own tg iter ifs (xs.map g) (fun d => back g upd d) (back g p) :=
 ⟨src, hk, lR hn, capIn_get cap, rin, fun d hd => by obtain ⟨x, _, rfl⟩ := List.mem_map.mp hd; rw [cj g inj]; exact hu x, fun d hd => by obtain ⟨x, _, rfl⟩ := List.mem_map.mp hd; rw [cj g inj]; exact asg x,
  fun d hd => by obtain ⟨x, hx, rfl⟩ := List.mem_map.mp hd; rw [cj g inj, cj g inj]; exact tst x hx, hs, by rw [List.length_map]; exact len⟩
theorem EvF.lcG (g : α -> D) (inj : ∀ x y, g x = g y -> x = y) {tg elt : Expr} (upd : α -> Rho -> Rho) {xs : List α} {p : α -> Bool} {f : α -> D} (X : jc C r sc scope ρ ρc own tg iter ifs (xs.map g) (fun d => back g upd d) (back g p))
  (el : ∀ x ∈ xs, p x = true -> Ev C r scope (upd x ρc) own elt (f x)) : EvF C r sc ρ own (.ListComp elt [⟨tg, iter, ifs, 0⟩] scope pos) (.list ((xs.filter p).map f)) := by
 have h := EvF.listcomp (pos := pos) (f := back g f) X (elt := elt) fun d hd hp => by
  obtain ⟨x, hx, rfl⟩ := List.mem_map.mp hd
  rw [cj g inj] at hp ⊢
  rw [cj g inj]
  exact el x hx hp
 rw [lw g inj] at h
 exact h
theorem EvF.lc (g : α -> D) (inj : ∀ x y, g x = g y -> x = y) {tx : Str} {tp : Pos} {elt : Expr} {xs : List α} {p : α -> Bool} {f : α -> D} (src : EvI C r sc ρ own (.Name tx tp) iter (xs.map g))
  (tst : ∀ x ∈ xs, di C r scope ((tx, g x) :: aK scope ρ) own ifs (p x)) (el : ∀ x ∈ xs, p x = true -> Ev C r scope ((tx, g x) :: aK scope ρ) own elt (f x)) (len : xs.length <= 1048576)
  (nt : autoParam ((aK scope ρ).lookup tx = none) tacR) (k : autoParam (Sto scope (aa scope) tx) tacS) (cap : autoParam (jC sc scope ρ = true) tacR) (hk : autoParam (scope.kind = .function) tacR) (hn : autoParam (dK scope.names = true) tacR)
  (hs : autoParam (∀ env x, foldedSetIterable iter env x = pure x) tacI2) : EvF C r sc ρ own (.ListComp elt [⟨.Name tx tp, iter, ifs, 0⟩] scope pos) (.list ((xs.filter p).map f)) :=
 EvF.lcG g inj (fun x ρ => (tx, g x) :: ρ) (lc_in g inj _ src dM (fun x y e q => by rw [ak, if_neg fun w => by rw [w, nt] at q; cases q]; exact q) (fun x => Asg.name k) tst len cap hk hn hs) el
theorem lookup_two {ρc : Rho} {t1 t2 : Str} {d1 d2 : D} (n1 : ρc.lookup t1 = none) (n2 : ρc.lookup t2 = none) (y : Str) (e : D) (q : ρc.lookup y = some e) : ((t2, d2) :: (t1, d1) :: ρc).lookup y = some e := by
 rw [ak, if_neg fun w => by rw [w, n2] at q; cases q]
 rw [ak, if_neg fun w => by rw [w, n1] at q; cases q]
 exact q
theorem EvF.lc2 (g1 g2 : α -> D) (inj : ∀ x y, D.tup [g1 x, g2 x] = .tup [g1 y, g2 y] -> x = y) {t1 t2 : Str} {k : Nat} {p1 p2 tp : Pos} {elt : Expr} {xs : List α} {p : α -> Bool} {f : α -> D}
  (src : EvI C r sc ρ own (.Tuple [.Name t1 p1, .Name t2 p2] k tp) iter (xs.map fun x => .tup [g1 x, g2 x]))
  (tst : ∀ x ∈ xs, di C r scope ((t2, g2 x) :: (t1, g1 x) :: aK scope ρ) own ifs (p x)) (el : ∀ x ∈ xs, p x = true -> Ev C r scope ((t2, g2 x) :: (t1, g1 x) :: aK scope ρ) own elt (f x)) (len : xs.length <= 1048576)
  (nt1 : autoParam ((aK scope ρ).lookup t1 = none) tacR) (nt2 : autoParam ((aK scope ρ).lookup t2 = none) tacR) (k1 : autoParam (Sto scope (aa scope) t1) tacS) (k2 : autoParam (Sto scope (aa scope) t2) tacS)
  (cap : autoParam (jC sc scope ρ = true) tacR) (hk : autoParam (scope.kind = .function) tacR) (hn : autoParam (dK scope.names = true) tacR)
  (hs : autoParam (∀ env x, foldedSetIterable iter env x = pure x) tacI2) : EvF C r sc ρ own (.ListComp elt [⟨.Tuple [.Name t1 p1, .Name t2 p2] k tp, iter, ifs, 0⟩] scope pos) (.list ((xs.filter p).map f)) :=
 EvF.lcG (fun x => .tup [g1 x, g2 x]) inj (fun x ρ => (t2, g2 x) :: (t1, g1 x) :: ρ) (lc_in _ inj _ src dM (fun x => lookup_two nt1 nt2) (fun x => Asg.tup (jW.cons (u1 := fun ρ => (t1, g1 x) :: ρ) (u2 := fun ρ => (t2, g2 x) :: ρ) (.name k1) (jW.cons (u1 := fun ρ => (t2, g2 x) :: ρ) (u2 := id) (.name k2) .nil)) rfl) tst len cap hk hn hs) el
end
theorem bitAnd_one (x : Nat) : Builtin.bitAnd (x : Int) 1 = ((x % 2 : Nat) : Int) := by
 have p1 : decide (0 <= (x : Int)) = true := by simp
 unfold Builtin.bitAnd
 rw [p1]
 show ((((x : Int).toNat &&& (1 : Int).toNat : Nat)) : Int) = _
 rw [Int.toNat_natCast, show (1 : Int).toNat = 1 from rfl, Nat.and_one_is_mod]
noncomputable def bit (d k : Nat) : Nat := d / 2 ^ k % 2
theorem fdiv_pow (d k : Nat) : (d : Int).fdiv (2 ^ k) = ((d / 2 ^ k : Nat) : Int) := by
 rw [show ((2 : Int) ^ k) = ((2 ^ k : Nat) : Int) from by push_cast; rfl, Int.fdiv_eq_ediv_of_nonneg _ (Int.natCast_nonneg _)]; rfl
section
variable {r : Nat} {sc : Scope} {O : Str -> Prop} {ρ : Rho} {own : Own} {P : aZ}
theorem Ev.bit {a b : Expr} {p1 p2 p3 : Pos} {kk : Nat} {d k : Nat} (x : Ev C r sc ρ own a (.int d)) (y : Ev C r sc ρ own b (.int k)) : Ev C r sc ρ own (.BinOp (.BinOp a .RShift b p1) .BitAnd (.Constant (.int 1) kk p2) p3) (.int (Mine.bit d k : Nat)) := by
 have h1 : bh C .RShift (.int d) (.int k) (.int ((d / 2 ^ k : Nat) : Int)) := by
  have := bh.rsh (C := C) (x := d) (y := k) (Int.natCast_nonneg _)
  rw [Int.toNat_natCast, fdiv_pow] at this; exact this
 have h2 : bh C .BitAnd (.int ((d / 2 ^ k : Nat) : Int)) (.int 1) (.int (Mine.bit d k : Nat)) := by
  have := bh.and (C := C) (x := ((d / 2 ^ k : Nat) : Int)) (y := 1)
  rw [bitAnd_one] at this; exact this
 exact .bin (.bin x y h1) .int h2
theorem lU (a b : Nat) : (((a : Nat) : Int) == ((b : Nat) : Int)) = (a == b) := by
 by_cases e : a = b
 ·subst e; simp
 ·rw [beq_eq_false_iff_ne.mpr e, beq_eq_false_iff_ne.mpr (by lia)]
theorem aB.eqN {x y : Nat} : aB C .Eq (.int x) (.int y) (x == y) := by rw [<- lU]; exact .eqI
theorem lY (n : Nat) : (D.int n).truth = some (n != 0) := by
 show some ((n : Int) != 0) = _
 congr 1
 by_cases e : n = 0
 ·rw [e]; rfl
 ·rw [bne_iff_ne.mpr e, bne_iff_ne.mpr (by lia)]
theorem Ev.atL {o i : Expr} {pos : Pos} {ds : List D} {k : Nat} {d : D} (x : Ev C r sc ρ own o (.list ds)) (y : Ev C r sc ρ own i (.int k)) (e : ds[k]? = some d) (l : k < 2 ^ 62 := by lia) : Ev C r sc ρ own (.Subscript o i pos) d :=
 .sub x y (.list (by unfold place; rw [if_neg (by lia), Int.toNat_natCast]; exact e) (by lia) (by lia)) rfl cO
theorem Ev.atT {o i : Expr} {pos : Pos} {ds : List D} {k : Nat} {d : D} (x : Ev C r sc ρ own o (.tup ds)) (y : Ev C r sc ρ own i (.int k)) (e : ds[k]? = some d) : Ev C r sc ρ own (.Subscript o i pos) d :=
 .sub x y (.tup e) rfl mK
theorem EvF.one {ds : List D} {e : Expr} (x : EvF C r sc ρ own e (.list ds)) : Ev C r sc ρ own e (.list ds) := x.ev
theorem EvF.lst {es : List Expr} {pos : Pos} {ds : List D} (x : EvL C r sc ρ own es ds) (l : autoParam (ds.length <= 1048576) tacB) : EvF C r sc ρ own (.List es pos) (.list ds) := .list x l
theorem Ev.lst {es : List Expr} {pos : Pos} {ds : List D} (x : EvL C r sc ρ own es ds) (l : autoParam (ds.length <= 1048576) tacB) : Ev C r sc ρ own (.List es pos) (.list ds) := (EvF.list x l).ev
theorem Ev.tp {es : List Expr} {k : Nat} {pos : Pos} {ds : List D} (x : EvL C r sc ρ own es ds) (l : autoParam (ds.length <= 1048576) tacB) : Ev C r sc ρ own (.Tuple es k pos) (.tup ds) := .tup x l
noncomputable def natRow (n : Nat) : List D := (List.range n).map fun k => D.int (k : Nat)
theorem X.loopR {σ : Type} {x : Str} {tp pos : Pos} {e : Expr} {body ss : List Stmt} {n : Nat} {O : Str -> Prop} {P : aZ} (g : Nat -> D) (J : Nat -> σ -> Prop) (R : Nat -> σ -> Rho) (o : Nat -> σ -> Own) (z : σ)
  (src : EvI C r sc ρ (o 0 z) (.Name x tp) e ((List.range n).map g)) (s : Sub (R 0 z) ρ) (j : J 0 z)
  (turn : ∀ i z, i < n -> J i z -> X C r sc O ((x, g i) :: R i z) (o i z) body (LoopP (cT J R o (i + 1)) (Then C r sc O ss P)))
  (fin : ∀ z, J n z -> X C r sc O (R n z) (o n z) ss P) (k : autoParam (Sto sc O x) tacS)
  (hs : autoParam (∀ env x, foldedSetIterable e env x = pure x) tacI2) : X C r sc O ρ (o 0 z) (.For (.Name x tp) e body [] pos :: ss) P :=
 X.loop g J R o z src s j (fun i y z h j => by
  obtain ⟨h1, h2⟩ := List.getElem?_eq_some_iff.mp h
  rw [List.getElem_range] at h2
  subst h2
  exact turn i z (by rwa [List.length_range] at h1) j) (fun z j => by rw [List.length_range] at j ⊢; exact fin z j) k hs
theorem EvI.rangeN {tx : Str} {tp p pos : Pos} {e : Expr} {n : Nat} (x : Ev C r sc ρ own e (.int n)) (l : n <= 1048576) (hx : autoParam (sc.names.lookup ("range" : Str) = some .globalImplicit) tacR) (ne : autoParam (notStar e = true) tacR) : EvI C r sc ρ own (.Name tx tp) (.Call (.Name "range" p) [e] [] pos) (natRow n) := by
 have h := iZ.range1 (C := C) (r := r) (tx := tx) (tp := tp) (n := (n : Int)) (by lia) (by lia)
 rw [Int.toNat_natCast] at h
 exact EvI.ofT (.of (hx := hx)) (.cons x .nil (n := ne)) h (n := by simp [ne])
theorem Ev.as {e : Expr} {d d' : D} (x : Ev C r sc ρ own e d) (h : d = d') : Ev C r sc ρ own e d' := h ▸ x
theorem d8.as {op : BoolOp} {es : List Expr} {b b' : Bool} (x : d8 C r sc ρ own op es b) (h : b = b') : d8 C r sc ρ own op es b' := h ▸ x
theorem Ev.lenL {p pos : Pos} {e : Expr} {ds : List D} {n : Nat} (x : Ev C r sc ρ own e (.list ds)) (h : ds.length = n) (hx : autoParam (sc.names.lookup ("len" : Str) = some .globalImplicit) tacR) (ne : autoParam (notStar e = true) tacR) : Ev C r sc ρ own (.Call (.Name "len" p) [e] [] pos) (.int n) := by
 subst h; exact .callB (.of (hx := hx)) (.cons x .nil (n := ne)) Fn.len (n := by simp [ne])
theorem X1.set {x : Str} {px pos : Pos} {e : Expr} {d : D} (y : Ev C r sc ρ own e d) (p : P .next ((x, d) :: ρ) own) (k : autoParam (Sto sc (aa sc) x) tacS) (n : autoParam (notStar (.Name x px) = true) tacR)
  (h1 : autoParam (∀ env line, env.scope = sc -> swapsWithSole [.Name x px] e line env = pure false) tacC3) (h2 : autoParam (∀ env, env.scope = sc -> swappedStores [.Name x px] e env = pure Option.none) tacI2) : X1 C r sc (aa sc) ρ own (.Assign [.Name x px] e pos) P :=
 X1.assign y (.name k) p n h1 h2
theorem getD_at {α : Type} {l : List α} {j : Nat} {d : α} (h : j < l.length) : l[j]? = some (l.getD j d) := by
 rw [List.getD_eq_getElem?_getD, List.getElem?_eq_getElem h]; rfl
end
noncomputable def stoB (sc : Scope) (t : Expr) : Bool := isOwnName (sc.names.lookup (nm t))
theorem stoB_ok {sc : Scope} {t : Expr} (h : stoB sc t = true) : Sto sc (aa sc) (nm t) := (Bool.or_eq_true_iff.mp h).imp eq_of_beq fun q => ⟨eq_of_beq q, eq_of_beq q⟩
theorem X1.tup {r : Nat} {sc : Scope} {ρ : Rho} {own : Own} {P : aZ} {ts es : List Expr} {k k' : Nat} {tpos epos pos : Pos} {Q : List D -> Own -> Prop} (x : EvM C r sc ρ own es Q) (p : ∀ ds own', Q ds own' -> P .next (updN ts ds ρ) own') (sb : autoParam (ts.all (stoB sc) = true) tacR) (nms : autoParam (ts.all isNm = true) tacR) (len : autoParam (es.length = ts.length) tacR) (l : autoParam (es.length <= 1000) tacB)
  (h1 : autoParam (∀ env line, env.scope = sc -> swapsWithSole [.Tuple ts k tpos] (.Tuple es k' epos) line env = pure false) tacI3) (h2 : autoParam (∀ env, env.scope = sc -> swappedStores [.Tuple ts k tpos] (.Tuple es k' epos) env = pure Option.none) tacC) :
  X1 C r sc (aa sc) ρ own (.Assign [.Tuple ts k tpos] (.Tuple es k' epos) pos) P :=
 X1.assignTup x p (fun t ht => stoB_ok (List.all_eq_true.mp sb t ht)) nms len l h1 h2
section
variable {α : Type} {r : Nat} {sc scope : Scope} {ρ : Rho} {own : Own} {iter : Expr} {pos : Pos}
theorem EvF.lcA (g : α -> D) (inj : ∀ x y, g x = g y -> x = y) {tx : Str} {tp : Pos} {elt : Expr} {xs : List α} {f : α -> D} (src : EvI C r sc ρ own (.Name tx tp) iter (xs.map g))
  (el : ∀ x ∈ xs, Ev C r scope ((tx, g x) :: aK scope ρ) own elt (f x)) (len : xs.length <= 1048576)
  (nt : autoParam ((aK scope ρ).lookup tx = none) tacR) (k : autoParam (Sto scope (aa scope) tx) tacS) (cap : autoParam (jC sc scope ρ = true) tacR) (hk : autoParam (scope.kind = .function) tacR) (hn : autoParam (dK scope.names = true) tacR)
  (hs : autoParam (∀ env x, foldedSetIterable iter env x = pure x) tacI2) : EvF C r sc ρ own (.ListComp elt [⟨.Name tx tp, iter, [], 0⟩] scope pos) (.list (xs.map f)) := by
 have h := EvF.lc (pos := pos) g inj (p := fun _ => true) src (fun _ _ => .nil) (fun x hx _ => el x hx) len nt k cap hk hn hs
 rw [List.filter_eq_self.mpr fun _ _ => rfl] at h
 exact h
end
theorem bB : ∀ x y : Nat, D.int (x : Nat) = D.int (y : Nat) -> x = y := fun x y e => by cases e; rfl
theorem lM : ∀ x y : Str, D.str x = D.str y -> x = y := fun x y e => by cases e; rfl
theorem X1.setLC {α : Type} {r : Nat} {sc scope : Scope} {ρ : Rho} {own : Own} {P : aZ} {y : Str} {py spos pos : Pos} {iter elt : Expr} {ifs : List Expr} (g : α -> D) (inj : ∀ x y, g x = g y -> x = y) {tx : Str} {tp : Pos} {xs : List α} {p : α -> Bool} {f : α -> D} (src : EvI C r sc ρ own (.Name tx tp) iter (xs.map g))
  (tst : ∀ x ∈ xs, di C r scope ((tx, g x) :: aK scope ρ) own ifs (p x)) (el : ∀ x ∈ xs, p x = true -> Ev C r scope ((tx, g x) :: aK scope ρ) own elt (f x)) (len : xs.length <= 1048576)
  (pp : P .next ((y, .list ((xs.filter p).map f)) :: ρ) own)
  (nt : autoParam ((aK scope ρ).lookup tx = none) tacR) (k : autoParam (Sto scope (aa scope) tx) tacS) (cap : autoParam (jC sc scope ρ = true) tacR) (hk : autoParam (scope.kind = .function) tacR) (hn : autoParam (dK scope.names = true) tacR)
  (hs : autoParam (∀ env x, foldedSetIterable iter env x = pure x) tacI2) (ky : autoParam (Sto sc (aa sc) y) tacS)
  (hsw : ∀ env line, env.scope = sc -> swapsWithSole [.Name y py] (.ListComp elt [⟨.Name tx tp, iter, ifs, 0⟩] scope pos) line env = pure true := by intro env line e; cases env; cases e; rfl) :
  X1 C r sc (aa sc) ρ own (.Assign [.Name y py] (.ListComp elt [⟨.Name tx tp, iter, ifs, 0⟩] scope pos) spos) P := by
 have X := lc_in g inj (fun x ρ => (tx, g x) :: ρ) (p := p) src dM (fun x y e q => by rw [ak, if_neg fun w => by rw [w, nt] at q; cases q]; exact q) (fun x => Asg.name k) tst len cap hk hn hs
 refine X1.assignComp (fun {A env W h₀ h tk Q E use} R G S cont u hu => ?_) ky (.inl ⟨_, rfl⟩) hsw pp
 subst hu
 unfold evalThenUse
 refine wpAny_bind (wpAny_mono (Q := fun _ s' => Q .none s') (mq (use := some u) (Q := fun _ s' => Q .none s') (f := back g f) X (fun d hd hp => ?_) R G S fun D Lc H tkH m a1 a2 a3 a4 a5 a6 z => cont D Lc H tkH m a1 a2 a3 a4 a5 a6 ?_) (fun _ _ q => wpAny_pure q) fun _ _ q => q)
 ·obtain ⟨x, hx, rfl⟩ := List.mem_map.mp hd
  rw [cj g inj] at hp ⊢
  rw [cj g inj]
  exact el x hx hp
 ·rw [lw g inj] at z; exact z
theorem hits_of {W : Addr -> Prop} {A : Around} {s : Shared} {h : Heap} : ∀ {ka : List (Str × Value)} {kvs : List (Str × Str)} (kb0 : List (Str × Value)), (∀ k x, (k, x) ∈ kvs -> ∃ v, valueAt kb0 k = some v /\ Val C W h v (.str x)) -> aV C W h ka (aY kvs) -> KeqHits A s kb0 ka true
 | _, [], _, _, .nil => .nil
 | _, (k, x) :: kvs, kb0, mem, .cons z1 r1 => by
  obtain ⟨v, v2, z2⟩ := mem k x List.mem_cons_self
  obtain ⟨t1, rfl⟩ := z1.str_inv
  obtain ⟨t2, rfl⟩ := z2.str_inv
  have e : (PyData.eqv (.str x) (.str x) && true) = true := by simp [PyData.eqv]
  rw [<- e]
  exact KeqHits.hit v2 (keq_flat (.str _ _) (.str _ _)) (hits_of kb0 (fun k v m => mem k v (List.mem_cons_of_mem _ m)) r1)
theorem aB.nePerm {kvs kvs2 : List (Str × Str)} (hl : kvs.length = kvs2.length) (hf : ∀ k x, (k, x) ∈ kvs -> (aY kvs2).lookup k = some (.str x)) : aB C .NotEq (.dict (aY kvs)) (.dict (aY kvs2)) false := by
 intro A W h v1 v2 R U I z1 z2 tk qQ qE qK
 obtain ⟨a, ea, rfl, ga, ma, nwa, la, ra⟩ := z1.dict_inv
 obtain ⟨b, eb, rfl, gb, mb, nwb, lb, rb⟩ := z2.dict_inv
 have ea' : (a == sysModules) = false := beq_eq_false_iff_ne.mpr ma
 have eb' : (b == sysModules) = false := beq_eq_false_iff_ne.mpr mb
 refine keq_ne (s := sh C h tk) (r := true) ea' eb' ga gb (by show A.units < 9900; lia) (fun _ => hits_of eb (fun k x m => valAt rb (hf k x m)) ra) (qK _ h _ ⟨rfl, ?_⟩)
 rw [ra.length, rb.length]; simp [aY, hl]
theorem EvF.dict0 {r : Nat} {sc : Scope} {ρ : Rho} {own : Own} {pos : Pos} : EvF C r sc ρ own (.Dict [] [] pos) (.dict []) := by
 constructor; intro A env W h₀ O h R G S tk qQ qE qK
 refine wpAny_Dict_empty ?_
 have e2 : Ext C h (h.push { cls := .type "dict", data := .dict #[] }) := .push S.inv _
 exact (qK _ _ tk ⟨_, rfl, aj h, S.inv.size_mods, e2, [], Heap.DictOf.new h, S.inv.size_mods, Nat.zero_le _, .nil⟩)
noncomputable def mF (as : List Str) (d : D) : D := match d with | .none => .str (as.getLast?.getD "") | _ => .none
theorem rateD_no (as : List Str) (d : D) : bU (mF as d) := by cases d <;> rfl
noncomputable abbrev recD (En : Addr) (as : List Str) (rs : List D) (d : D) : D := enG En (au as) rs d (mF as d)
theorem dJ {r : Nat} {En a ai : Addr} {cd ci : Value} {mN : Str -> Option Value} (cl : Cls C En fP mN) (g : m7 C "Entry" En) (hi : mN "__init__" = some (.ref ai)) (Di : cY C ai (inner (aP 2) 0) ci) (De : cY C a (aP 17) cd)
  {as : List Str} {rs : List D} {d : D} (la : as.length <= 100000) (l0 : as ≠ []) (lr : rs.length <= 100000) (nd : bU d) : Fn C (r + 3) (.ref a) [.list (au as), .list rs, d] (recD En as rs d) := by
 have ls : (au as).length = as.length := List.length_map _
 refine De.fnNew (ns := ["agents", "rules", "delay"]) (X.c ?_)
 refine X.cons (X1.assignNew g cl .nil (einit_ok cl hi Di) (.inl rfl) ?_)
 rintro dA new ⟨l1, l2, e⟩
 subst e
 refine X.cons (X1.extend (i := 1) (EvO.attr (i := 2) cl rfl rfl rfl) rfl .name (by simp; lia) ?_)
 refine X.cons (X1.extend (i := 0) (EvO.attr (i := 2) cl rfl rfl rfl) rfl .name (by simp; lia) ?_)
 refine X.cons (X1.setAttr (d := d) cl 2 (.name rfl nd) ?_)
 refine X.cons (X1.setAttr (d := mF as d) cl 2 (.ifexp (.cmp (.name rfl nd) .none (aB.isN nd)) (fun t => ?_) (fun t => ?_)) ?_)
 ·have hp : 0 < as.length := List.length_pos_iff.mpr l0
  have e : mF as d = .str (as.getLast?.getD "") := by cases d <;> first | rfl | cases t
  rw [e]
  refine .sub .name (.un .int .neg) (.list (k := -1) ?_ (by rw [ls]; lia) (by decide)) rfl cO
  unfold place
  rw [if_pos (by decide), ls, show ((-1 : Int) + as.length).toNat = as.length - 1 by lia]
  unfold au
  rw [List.getElem?_map, <- List.getLast?_eq_getElem?]
  cases q : as.getLast? with
  | none => exact absurd (List.getLast?_eq_none_iff.mp q) l0
  | some y => rfl
 ·have e : mF as d = .none := by cases d <;> first | rfl | cases t
  rw [e]; exact .none
 refine X.cons (X1.ret .name ⟨dA, enF (.own l1) (.own l2) d (mF as d), rfl, ?_, ?_⟩)
 ·exact .tail _ (.tail _ (.head _))
 ·exact .own (b := l1) (d := .list ([] ++ au as)) (.tail _ (.head _)) trivial (.own (b := l2) (d := .list ([] ++ rs)) (.head _) trivial (.val nd (.val (rateD_no as d) .nil)))
noncomputable def lamOf (s : Stmt) (j : Nat) : Arguments × Expr × Scope := (ev (sv ((sv s).2.1.getD j iJ)).2.2.2.2).2
noncomputable abbrev lam1 : Arguments × Expr × Scope := lamOf (aP 18) 1
noncomputable abbrev Rl := Str × Str
noncomputable def fr1 (x : Rl) : List (Str × D) := [("path", .str x.1)]
noncomputable def iH (s : Str) (x : Rl) : Int := if Txt.startswith s x.1 then (x.1.length + 1 : Nat) else 0
theorem lam_is (l0 : C.lam 0 = lam1) : LamIs C 0 ["name"] := by
 refine ⟨by rw [l0]; exact ⟨_, _, rfl, rfl⟩, by decide, ?_, by rw [l0]; rfl, by rw [l0]; rfl, by rw [l0]; rfl, by rw [l0]; rfl⟩
 intro x hx
 rw [List.mem_singleton] at hx
 subst hx
 rw [l0]; rfl
noncomputable def K1 (l0 : C.lam 0 = lam1) : RuleK C Rl where
 tag := 0
 fr := fr1
 v := fun x => x.2
 li := lam_is l0
 fa := fun x => .cons (by rw [l0]; rfl) .nil
noncomputable abbrev rlD (x : Rl) : D := .rule 0 (fr1 x) (.str x.2)
theorem rule1_ok {r : Nat} (l0 : C.lam 0 = lam1) (T : FnM C "_law_rule" (aP 18) "<lambda>") (x : Rl) : Fn C (r + 1) (.ref T.a) [.str x.1, .str x.2] (rlD x) := by
 refine T.d.rule (ns := ["path", "verdict"]) (rn := "rule") (vx := "verdict") (fs := fr1 x) T.m T.qn rfl l0 rfl rfl (by decide) ?_ (fun _ => rfl) (show ([("path" : Str)]).Nodup by decide) (.inl rfl) rfl ?_ ?_ (fun _ => rfl) (fun _ => rfl) (by decide) (by decide) rfl rfl
 ·intro y d hy
  unfold fr1 at hy
  rcases List.mem_cons.mp hy with q | q
  ·cases q; exact ⟨rfl, rfl, .tail _ (.head _), rfl⟩
  ·cases q
 ·intro y hy; cases hy
 ·intro y hy
  have : CapOk (parts (aP 18)).2.2 lam1.2.2 := by rfl
  exact this.get y hy
theorem allow1_ok {r : Nat} {En a : Addr} {cd : Value} {mN : Str -> Option Value} (l0 : C.lam 0 = lam1) (cl : Cls C En fP mN) (De : cY C a (inner (aP 2) 3) cd) (as : List D) (de rr : D) (rs : List Rl) (s : Str)
  (hv : ∀ x ∈ rs, x.2.length <= 1048576) (hp : ∀ x ∈ rs, x.1.length <= 1048576) (hl : rs.length <= 100000) :
  Fn C (r + 2) (.ref a) [enG En as (rs.map rlD) de rr, .str s] (alD (cF (iH s) (fun x : Rl => x.2) rs (-1) none)) := by
 refine allowance_ok cl De (K1 l0) as de rr rs s (iH s) (fun x hx => ?_) hv hl
 show Ev C r (C.lam 0).2.2 _ [] (C.lam 0).2.1 _
 rw [l0]
 refine .ifexp (c := Txt.startswith s x.1) (.of (.meth .name (.cons .name .nil) rfl F.plainAttrs_str F.slot_str_startswith F.type_str_startswith Fn.startswith) rfl) (fun t => ?_) (fun t => ?_)
 ·unfold iH; rw [if_pos t]
  exact .as (.bin (.callB .of (.cons .name .nil) (Fn.lenS (hp x hx))) .int .add) (congrArg D.int (by lia))
 ·unfold iH; rw [t]; exact .int
end Mine
namespace Mine
open PySem.Builtin.Str
variable {C : Cfg}
inductive CapT (C : Cfg) (a : Addr) : Prop
 | mk (g : C.mg "capwords" = some (.ref a)) (o : Obj) (fd : FuncData) (ho : C.hB.get? a = some o) (hd : o.data = .func fd) (hr : C.hB.CodeRec fd.code fd.qualname) (e2 : fd.params = (parts (aP 13)).1) (e3 : fd.body = .stmts (parts (aP 13)).2.1) (e4 : fd.scope = (parts (aP 13)).2.2) (e5 : fd.globals = mainGlobals) (e6 : fd.builtins = builtinsNs)
  (e7 : fd.closure = []) (t : Addr) (ot : Obj) (n : Nat) (e8 : fd.defaults = .ref t) (e9 : C.hB.get? t = some ot) (e10 : ot.data = .seq #[.none] n) : CapT C a
theorem CapT.gf {a : Addr} (T : CapT C a) : GFn C "capwords" a := by
 obtain ⟨g, o, fd, ho, hd, _⟩ := T
 exact ⟨g, o, fd, ho, hd⟩
theorem bind_cap {M : Model} {A : Around} {E : Value -> Shared -> Prop} {s : Shared} {fd : FuncData} {v : Value} (hp : fd.params = (parts (aP 13)).1) (hs : ∀ Q : Option (Array Value) -> Shared -> Prop, Q (some #[.none]) s -> wpAny M A (seqItems? fd.defaults) Q E s)
  {Q : List (Str × Value) -> Shared -> Prop} (q : Q [("s", v), ("sep", .none)] s) : wpAny M A (bindArgs fd ⟨[v], []⟩) Q E s := by
 cases fd with | mk =>
 cases hp
 refine wpAny_bind (wpAny_pure ?_)
 refine wpAny_bind (hs _ ?_)
 refine wpAny_of_eq (a := [(("s" : Str), v), ("sep", .none)]) ?_ q
 kernel_rfl
noncomputable def capW (s : Str) : Str := Txt.join " " ((iz s).map gV)
theorem cap1_ok {r : Nat} {a : Addr} (T : CapT C a) (s : Str) (hx : s.length <= 1048576) (hn : (spaceWords s (s.length + 1)).length <= 1048576) (l1 : ∀ x ∈ iz s, (gV x).length <= 1048576) (l2 : JoinOk " " ((iz s).map gV) = true) :
  Fn C (r + 1) (.ref a) [.str s] (.str (capW s)) := by
 obtain ⟨g, o, fd, ho, hd, hr, e2, e3, e4, e5, e6, e7, t, ot, n, e8, e9, e10⟩ := T
 intro A W h vs R I tw wok z
 obtain ⟨v, rfl, q⟩ := z.one
 have nd : (["s", "sep"] : List Str).Nodup := by decide
 refine (Fn.run (P := fun d' _ => d' = .str (capW s)) (own0 := []) (ns := ["s", "sep"]) (us := [v]) (vs := [v, .none]) (ds := [.str s, .none]) ho hd hr e3 e5 e6 e7 (fun A s Q E k w => bind_cap e2 (fun Q y => by rw [e8]; exact wpAny_seqItems (k _ _ e9) e10 y) w) nd rfl (by rw [e4]; exact gM.get rfl) ?_
  R I tw wok (h₀ := h) (fun _ _ e => e) (fun p hp => cR hp) .nil (.cons (q.kp (S := fun _ => False) (.refl _) (fun _ f => f.elim) fun _ _ _ q => q.elim id fun q => cR q) (.cons .none .nil)) (by rw [e4]; rfl) (by rw [e4]; rfl) (by rw [e4]; rfl)).mono ?_
 ·rw [e4]
  refine X.c (X.cons (X1.ret (.joinCap (.or2 (d2 := .str " ") (c := false) .name rfl fun _ => .str) ?_ .of .of l1 l2) (.inl ⟨_, rfl, rfl⟩)))
  exact .meth .name (.cons .name .nil) rfl F.plainAttrs_str F.slot_str_split F.type_str_split (Fn.splitN hx hn)
 ·rintro v h' ⟨d', own', e, I', k, g, nd, ow, zv⟩
  subst e
  exact ⟨⟨fun b o e n => k b o e fun q => q.elim n fun q => cR q, I'⟩, zv.noOwn⟩
end Mine
namespace Mine
variable {C : Cfg} {r : Nat} {sc : Scope} {ρ : Rho} {own : Own}
noncomputable def upd2 (t1 t2 : Str) : D -> Rho -> Rho
 | .tup [a, b], ρ => (t2, b) :: (t1, a) :: ρ
 | _, ρ => ρ
theorem Asg.two {t1 t2 : Str} {k : Nat} {p1 p2 tp : Pos} {a b : D} (k1 : autoParam (Sto sc (aa sc) t1) tacS) (k2 : autoParam (Sto sc (aa sc) t2) tacS) :
  Asg C r sc (aa sc) (.Tuple [.Name t1 p1, .Name t2 p2] k tp) (.tup [a, b]) (upd2 t1 t2 (.tup [a, b])) :=
 Asg.tup (u := fun ρ => (t2, b) :: (t1, a) :: ρ) (jW.cons (u1 := fun ρ => (t1, a) :: ρ) (u2 := fun ρ => (t2, b) :: ρ) (.name k1) (jW.cons (u1 := fun ρ => (t2, b) :: ρ) (u2 := id) (.name k2) .nil)) rfl
theorem bh.modK {m n : Nat} (h : m ≠ 0) : bh C .Mod (.int (n : Nat)) (.int (m : Nat)) (.int (n % m : Nat)) := by
 have := bh.mod (C := C) (x := (n : Int)) (y := (m : Int)) (by lia)
 rw [Int.fmod_eq_emod_of_nonneg _ (by lia)] at this; exact this
theorem bh.divK {m n : Nat} (h : m ≠ 0) (hm : m < 2 ^ 30) : bh C .FloorDiv (.int (n : Nat)) (.int (m : Nat)) (.int (n / m : Nat)) := by
 have := bh.fdiv (C := C) (x := (n : Int)) (y := (m : Int)) (by omega) (PyProof.noPylong_small (by rw [Int.natAbs_natCast]; omega))
 rw [Int.fdiv_eq_ediv_of_nonneg _ (by omega)] at this; exact this
theorem Ev.modN {e : Expr} {p pos : Pos} {k m n : Nat} (x : Ev C r sc ρ own e (.int n)) (h : autoParam (m ≠ 0) tacD) : Ev C r sc ρ own (.BinOp e .Mod (.Constant (.int (m : Nat)) k p) pos) (.int (n % m : Nat)) :=
 .bin x .int (.modK h)
theorem Ev.divN {e : Expr} {p pos : Pos} {k m n : Nat} (x : Ev C r sc ρ own e (.int n)) (h : autoParam (m ≠ 0) tacD) (hm : autoParam (m < 2 ^ 30) tacD) : Ev C r sc ρ own (.BinOp e .FloorDiv (.Constant (.int (m : Nat)) k p) pos) (.int (n / m : Nat)) :=
 .bin x .int (.divK h hm)
theorem addK {m n : Nat} : bh C .Add (.int (m : Nat)) (.int (n : Nat)) (.int (m + n : Nat)) := by rw [Int.natCast_add]; exact .add
theorem aB.neN {x y : Nat} : aB C .NotEq (.int x) (.int y) (x != y) := by
 have := aB.neI (C := C) (x := (x : Int)) (y := (y : Int))
 rwa [show ((x : Int) != (y : Int)) = (x != y) by unfold bne; rw [lU]] at this
theorem iD_set {l : List Nat} {k n : Nat} : (iD l).set k (.int (n : Nat)) = iD (l.set k n) := by unfold iD; rw [List.map_set]
theorem jN {l : List Nat} {k : Nat} (h : k < l.length) : (iD l)[k]? = some (.int (l.getD k 0 : Nat)) := by unfold iD; rw [List.getElem?_map, getD_at (d := 0) h]; rfl
theorem bF {l : List Str} {k : Nat} (h : k < l.length) : (au l)[k]? = some (.str (l.getD k "")) := by unfold au; rw [List.getElem?_map, getD_at (d := ("" : Str)) h]; rfl
theorem numbered_mem {ds : List D} {d : D} (h : d ∈ numbered ds) : ∃ (i : Nat) (x : D), d = .tup [.int i, x] := by
 obtain ⟨i, hi⟩ := List.mem_iff_getElem?.mp h
 rw [eF] at hi
 cases e : ds[i]? with
 | none => rw [e] at hi; cases hi
 | some x => rw [e] at hi; cases hi; exact ⟨i, x, rfl⟩
variable {C : Cfg}
noncomputable def eX : List (List Str) := [["fig"], ["plum", "tree"], ["kiwi"], ["date", "palm"], ["sorb"]]
noncomputable def lH : List Str := ["\t", "  ", "\x0b ", " \r\n"]
noncomputable def du (dr : Nat) : Str := lH.getD (dr % 4) ""
noncomputable def dO (ws : List Str) (dr : Nat) : Str := Txt.join (du dr) ws ++ du dr
noncomputable def chr (s : Str) (i : Nat) : Str := ⟨#[s.cps.getD i 0]⟩
noncomputable def typ1 (t : Str) (dr : Nat) : Str := Txt.join "" ((List.range t.length).map fun i => if bit dr i != 0 then upS (chr t i) else chr t i)
noncomputable def typ (ws : List Str) (dr : Nat) : Str := typ1 (dO ws dr) dr
noncomputable def charOkT (t : Str) : Bool := decide (t.length <= 15) && (List.range t.length).all fun i => decide ((upS (chr t i)).length <= 1)
noncomputable def CharOk : Prop := ∀ ws ∈ eX, ∀ d, d < 4 -> charOkT (dO ws d) = true
theorem charOk : CharOk := by unfold CharOk; decide +kernel
theorem je (ws : List Str) (dr : Nat) : dO ws (dr % 4) = dO ws dr := by
 unfold dO du; rw [Nat.mod_mod]
theorem txt_ok {ws : List Str} (h : ws ∈ eX) (dr : Nat) : (dO ws dr).length <= 15 /\ ∀ i, i < (dO ws dr).length -> (upS (chr (dO ws dr) i)).length <= 1 := by
 have := charOk ws h (dr % 4) (Nat.mod_lt _ (by decide))
 rw [je] at this
 unfold charOkT at this
 rw [Bool.and_eq_true, List.all_eq_true] at this
 exact ⟨of_decide_eq_true this.1, fun i hi => of_decide_eq_true (this.2 i (List.mem_range.mpr hi))⟩
theorem chr_len (s : Str) (i : Nat) : (chr s i).length <= 1 := Nat.le_refl _
theorem sum_le_len : ∀ {l : List Str}, (∀ s ∈ l, s.length <= 1) -> (l.map (·.length)).sum <= l.length
 | [], _ => Nat.le_refl _
 | a :: l, h => by
  have := sum_le_len (l := l) fun s hs => h s (.tail _ hs)
  have := h a (.head _)
  rw [List.map_cons, List.sum_cons, List.length_cons]; lia
theorem chr_at {s : Str} {i : Nat} (h : i < s.length) : s.cps[place s.length (i : Int)]? = some (s.cps.getD i 0) := by
 unfold place
 rw [if_neg (by lia), Int.toNat_natCast]
 have h' : i < s.cps.size := h
 rw [Array.getD_eq_getD_getElem?, Array.getElem?_eq_getElem h']
 rfl
theorem white_ok {ws : List Str} (h : ws ∈ eX) (dr : Nat) : (ws.map (·.length)).sum + ws.length * (du dr).length <= 1048576 /\ ∀ x ∈ ws, x.length <= 5 := by
 have : ∀ d, d < 4 -> ∀ ws ∈ eX, (ws.map (·.length)).sum + ws.length * (lH.getD d "").length <= 1048576 /\ ∀ x ∈ ws, x.length <= 5 := by decide +kernel
 exact this _ (Nat.mod_lt _ (by decide)) ws h
theorem typed_ok {r : Nat} (T : FnT C "_law_typed" (aP 19)) {ws : List Str} (hw : ws ∈ eX) (dr : Nat) : Fn C (r + 1) (.ref T.a) [.list (au ws), .int dr] (.str (typ ws dr)) := by
 have ok := txt_ok hw dr
 have m4 : dr % 4 < 4 := Nat.mod_lt _ (by decide)
 refine T.d.fn (ns := ["words", "drawn"]) (X.c ?_)
 refine X.cons (X1.set (d := .str (du dr)) (.atL (ds := au lH) (k := dr % 4) (.lst (.cons .str (.cons .str (.cons .str (.cons .str .nil))))) (.modN .name) (bF (show dr % 4 < 4 from m4))) ?_)
 have hw4 := white_ok hw dr
 refine X.cons (X1.set (d := .str (dO ws dr)) (.bin (.meth .name (.cons .name .nil) rfl F.plainAttrs_str F.slot_str_join F.type_str_join (Fn.join ?_)) .name (.cat ?_)) ?_)
 ·exact hw4.1
 ·have e : (dO ws dr).length = (Txt.join (du dr) ws).length + (du dr).length := strLen_append _ _
  have := ok.1
  show _ <= sizeLine; unfold sizeLine; lia
 unfold typ
 generalize dO ws dr = tx at ok ⊢
 refine X.cons (X1.ret (.meth .str (.cons (.as (EvF.one (EvF.lcA (fun i : Nat => D.int i) bB (xs := List.range tx.length) (f := fun i => .str (if bit dr i != 0 then upS (chr tx i) else chr tx i)) (.rangeN (.callB .of (.cons .name .nil) (Fn.lenS (by lia))) (by lia)) (fun i hi => ?_) (by rw [List.length_range]; lia))) ?_) .nil) rfl F.plainAttrs_str F.slot_str_join F.type_str_join (Fn.join ?_)) (.inl rfl))
 ·have hi := List.mem_range.mp hi
  have hc := ok.2 i hi
  refine .ifexp (c := bit dr i != 0) (.of (.bit .name .name) (lY _)) (fun t => ?_) (fun t => ?_)
  ·rw [if_pos t]
   exact .meth (.sub (d := .str (chr tx i)) .name .name (.str (chr_at hi) (by lia) (by lia)) rfl items_str) .nil rfl F.plainAttrs_str F.slot_str_upper F.type_str_upper (Fn.upper (by lia))
  ·rw [if_neg (by rw [t]; decide)]
   exact .sub (d := .str (chr tx i)) .name .name (.str (chr_at hi) (by lia) (by lia)) rfl items_str
 ·unfold au; rw [List.map_map]; rfl
 ·have hs : ∀ s ∈ (List.range tx.length).map fun i => if bit dr i != 0 then upS (chr tx i) else chr tx i, s.length <= 1 := by
   intro s hs
   obtain ⟨i, hi, rfl⟩ := List.mem_map.mp hs
   have := ok.2 i (List.mem_range.mp hi)
   split
   ·exact this
   ·exact chr_len tx i
  have := sum_le_len hs
  rw [List.length_map, List.length_range] at this ⊢
  have e0 : ("" : Str).length = 0 := by decide
  rw [e0]; lia
variable {C : Cfg} {r : Nat} {sc scope : Scope} {ρ : Rho} {own : Own} {iter iter2 elt : Expr} {ifs2 : List Expr} {pos : Pos}
noncomputable def dn : D -> Nat
 | .int n => n.toNat
 | _ => 0
noncomputable def two (xs : List Nat) (ys : Nat -> List Nat) (p : Nat -> Nat -> Bool) (f : Nat -> Nat -> D) : List D := xs.flatMap fun x => ((ys x).filter (p x)).map (f x)
theorem iD_mem {d : D} {xs : List Nat} (h : d ∈ iD xs) : ∃ x ∈ xs, d = .int (x : Nat) := by
 unfold iD at h
 obtain ⟨x, hx, e⟩ := List.mem_map.mp h
 exact ⟨x, hx, e.symm⟩
theorem two_is (xs : List Nat) (ys : Nat -> List Nat) (p : Nat -> Nat -> Bool) (f : Nat -> Nat -> D) : gK (iD xs) (fun d => iD (ys (dn d))) (fun d e => p (dn d) (dn e)) (fun d e => f (dn d) (dn e)) = two xs ys p f := by
 unfold gK two iD
 rw [List.flatMap_map]
 refine congrArg (List.flatMap · xs) (funext fun x => ?_)
 rw [List.filter_map, List.map_map]
 rfl
theorem kW {α β : Type} {k : Nat} {f : α -> List β} : ∀ {l : List α}, (∀ x ∈ l, (f x).length <= k) -> (l.flatMap f).length <= l.length * k
 | [], _ => Nat.zero_le _
 | a :: l, h => by
  have h1 := kW (l := l) fun x hx => h x (.tail _ hx)
  have h2 := h a (.head _)
  rw [List.flatMap_cons, List.length_append, List.length_cons, Nat.add_mul]
  lia
section
variable {t1 t2 : Str} {p1 p2 : Pos} {xs : List Nat} {ys : Nat -> List Nat} {p : Nat -> Nat -> Bool} {f : Nat -> Nat -> D}
theorem two_in (src : EvI C r sc ρ own (.Name t1 p1) iter (iD xs)) (src2 : ∀ x ∈ xs, EvI C r scope ((t1, .int x) :: aK scope ρ) own (.Name t2 p2) iter2 (iD (ys x)))
  (tst : ∀ x ∈ xs, ∀ y ∈ ys x, di C r scope ((t2, .int y) :: (t1, .int x) :: aK scope ρ) own ifs2 (p x y)) (el : ∀ x ∈ xs, ∀ y ∈ ys x, p x y = true -> Ev C r scope ((t2, .int y) :: (t1, .int x) :: aK scope ρ) own elt (f x y))
  (len : xs.length <= 100) (l2 : ∀ x ∈ xs, (ys x).length <= 100) (n1 : (aK scope ρ).lookup t1 = none) (n2 : (aK scope ρ).lookup t2 = none) (ne : t1 ≠ t2) (k1 : Sto scope (aa scope) t1) (k2 : Sto scope (aa scope) t2) (cap : jC sc scope ρ = true) (hk : scope.kind = .function) (hn : dK scope.names = true)
  (hs : ∀ env x, foldedSetIterable iter env x = pure x) :
  jc C r sc scope ρ (aK scope ρ) own (.Name t1 p1) iter [] (iD xs) (fun d ρ => (t1, d) :: ρ) (fun _ => true) /\
  (∀ d ∈ iD xs, CompIn2 C r scope ((fun d ρ => (t1, d) :: ρ) d (aK scope ρ)) own elt (.Name t2 p2) iter2 ifs2 ((fun d => iD (ys (dn d))) d) (fun d ρ => (t2, d) :: ρ) ((fun d e => p (dn d) (dn e)) d) ((fun d e => f (dn d) (dn e)) d)) /\
  (∀ i, (gK ((iD xs).take i) (fun d => iD (ys (dn d))) (fun d e => p (dn d) (dn e)) (fun d e => f (dn d) (dn e))).length + 1000 <= 1048576) /\ (∀ d ∈ iD xs, ((fun d => iD (ys (dn d))) d).length < 1000) := by
 have ln : (iD xs).length = xs.length := List.length_map _
 have l3 : ∀ d ∈ iD xs, (iD (ys (dn d))).length <= 100 := fun d hd => by
  obtain ⟨x, hx, rfl⟩ := iD_mem hd
  have := l2 x hx
  show (iD (ys x)).length <= 100
  unfold iD; rw [List.length_map]; exact this
 refine ⟨⟨src, hk, lR hn, capIn_get cap, dM, fun d _ x e q => ?_, fun d _ => Asg.name k1, fun d _ => .nil, hs, by lia⟩, fun d hd => ?_, fun i => ?_, fun d hd => Nat.lt_of_le_of_lt (l3 d hd) (by decide)⟩
 ·show List.lookup x ((t1, d) :: aK scope ρ) = _
  rw [ak, if_neg fun w => by rw [w, n1] at q; cases q]; exact q
 ·obtain ⟨x, hx, rfl⟩ := iD_mem hd
  refine ⟨src2 x hx, fun d _ y e q => ?_, fun d _ => Asg.name k2, fun d hd => ?_, fun d hd hp => ?_⟩
  ·show List.lookup y ((t2, d) :: (t1, .int x) :: aK scope ρ) = _
   have q : List.lookup y ((t1, D.int x) :: aK scope ρ) = some e := q
   rw [ak, if_neg fun w => ?_]
   ·exact q
   ·subst w
    rw [ak, if_neg fun w => ne w.symm, n2] at q; cases q
  ·obtain ⟨y, hy, rfl⟩ := iD_mem hd
   exact tst x hx y hy
  ·obtain ⟨y, hy, rfl⟩ := iD_mem hd
   exact el x hx y hy hp
 ·unfold gK
  have h := kW (k := 100) (l := (iD xs).take i) (f := fun d => ((iD (ys (dn d))).filter fun e => p (dn d) (dn e)).map fun e => f (dn d) (dn e)) fun d hd => by
   rw [List.length_map]
   exact Nat.le_trans (List.length_filter_le _ _) (l3 d (List.mem_of_mem_take hd))
  have h2 : ((iD xs).take i).length <= 100 := by rw [List.length_take]; lia
  exact Nat.le_trans (Nat.add_le_add_right h 1000) (by lia)
variable (src : EvI C r sc ρ own (.Name t1 p1) iter (iD xs)) (src2 : ∀ x ∈ xs, EvI C r scope ((t1, .int x) :: aK scope ρ) own (.Name t2 p2) iter2 (iD (ys x)))
  (tst : ∀ x ∈ xs, ∀ y ∈ ys x, di C r scope ((t2, .int y) :: (t1, .int x) :: aK scope ρ) own ifs2 (p x y)) (el : ∀ x ∈ xs, ∀ y ∈ ys x, p x y = true -> Ev C r scope ((t2, .int y) :: (t1, .int x) :: aK scope ρ) own elt (f x y))
  (len : xs.length <= 100) (l2 : ∀ x ∈ xs, (ys x).length <= 100)
include src src2 tst el len l2
theorem EvF.lcN (n1 : autoParam ((aK scope ρ).lookup t1 = none) tacR) (n2 : autoParam ((aK scope ρ).lookup t2 = none) tacR) (ne : autoParam (t1 ≠ t2) tacD) (k1 : autoParam (Sto scope (aa scope) t1) tacS) (k2 : autoParam (Sto scope (aa scope) t2) tacS) (cap : autoParam (jC sc scope ρ = true) tacR) (hk : autoParam (scope.kind = .function) tacR) (hn : autoParam (dK scope.names = true) tacR)
  (hs : autoParam (∀ env x, foldedSetIterable iter env x = pure x) tacI2) (hs2 : autoParam (∀ env x, foldedSetIterable iter2 env x = pure x) tacI2) : EvF C r sc ρ own (.ListComp elt [⟨.Name t1 p1, iter, [], 0⟩, ⟨.Name t2 p2, iter2, ifs2, 0⟩] scope pos) (.list (two xs ys p f)) := by
 obtain ⟨X, Y, a, b⟩ := two_in src src2 tst el len l2 n1 n2 ne k1 k2 cap hk hn hs
 have h := EvF.listcomp2 (pos := pos) X Y hs2 a b
 rwa [two_is] at h
end
variable {C : Cfg} {r : Nat} {sc : Scope} {ρ : Rho} {own : Own}
inductive Pl (k : Nat) (d : D) : Prop
 | mk (a : d.plain = true) (b : d.py.canLay0 = true) (c : d.py.depth <= k)
theorem Pl.int {k : Nat} {n : Int} : Pl k (.int n) := ⟨rfl, rfl, Nat.zero_le _⟩
theorem Pl.bool {k : Nat} {b : Bool} : Pl k (.bool b) := ⟨rfl, rfl, Nat.zero_le _⟩
theorem Pl.str {k : Nat} {s : Str} (h : SeqAt.shaped (D.str s).py = true) : Pl k (.str s) := ⟨rfl, SeqAt.canLay_of_shaped h, Nat.zero_le _⟩
theorem pl_all {k : Nat} : ∀ {ds : List D}, (∀ d ∈ ds, Pl k d) -> plainAll ds = true /\ PyData.canLayAll0 (cH ds) = true /\ PyData.depthAll (cH ds) <= k
 | [], _ => ⟨rfl, rfl, Nat.zero_le _⟩
 | d :: ds, h => by
  obtain ⟨a, b, c⟩ := h d (.head _)
  obtain ⟨x, y, z⟩ := pl_all (ds := ds) fun e he => h e (.tail _ he)
  exact ⟨Bool.and_eq_true_iff.mpr ⟨a, x⟩, Bool.and_eq_true_iff.mpr ⟨b, y⟩, Nat.max_le.mpr ⟨c, z⟩⟩
theorem Pl.list {k : Nat} {ds : List D} (h : ∀ d ∈ ds, Pl k d) : Pl (k + 1) (.list ds) := by
 obtain ⟨a, b, c⟩ := pl_all h
 exact ⟨a, b, Nat.succ_le_succ c⟩
theorem Pl.tup {k : Nat} {ds : List D} (h : ∀ d ∈ ds, Pl k d) : Pl (k + 1) (.tup ds) := by
 obtain ⟨a, b, c⟩ := pl_all h
 exact ⟨a, b, Nat.succ_le_succ c⟩
theorem Pl.two {k : Nat} {d e : D} (x : Pl k d) (y : Pl k e) : Pl (k + 1) (.tup [d, e]) := .tup fun z hz => by
 rcases List.mem_cons.mp hz with q | q
 ·rw [q]; exact x
 ·rw [List.mem_singleton.mp q]; exact y
theorem Pl.sh {d : D} (h : Pl 60 d) : SeqAt.shaped d.py = true := by
 obtain ⟨a, b, c⟩ := h
 exact Bool.and_eq_true_iff.mpr ⟨b, decide_eq_true (by lia)⟩
theorem Pl.map {α : Type} {k : Nat} {g : α -> D} {xs : List α} (h : ∀ x ∈ xs, Pl k (g x)) : Pl (k + 1) (.list (xs.map g)) := .list fun d hd => by
 obtain ⟨x, hx, rfl⟩ := List.mem_map.mp hd
 exact h x hx
theorem Pl.ints {k : Nat} (xs : List Nat) : Pl (k + 1) (.list (iD xs)) := .map fun _ _ => .int
theorem Pl.strs {k : Nat} {xs : List Str} (h : ∀ s ∈ xs, SeqAt.shaped (D.str s).py = true) : Pl (k + 1) (.list (au xs)) := .map fun s hs => .str (h s hs)
theorem aB.eqQ {d1 d2 : D} (a : Pl 60 d1) (b : Pl 60 d2) : aB C .Eq d1 d2 (PyData.eqv d1.py d2.py) := by
 have h1 := a.sh
 have h2 := b.sh
 obtain ⟨p1, _, _⟩ := a
 obtain ⟨p2, _, _⟩ := b
 exact .eqP p1 p2 h1 h2
theorem aB.neQ {d1 d2 : D} (a : Pl 60 d1) (b : Pl 60 d2) : aB C .NotEq d1 d2 (!PyData.eqv d1.py d2.py) := by
 have h1 := a.sh
 have h2 := b.sh
 obtain ⟨p1, _, _⟩ := a
 obtain ⟨p2, _, _⟩ := b
 exact .neP p1 p2 h1 h2
theorem aB.neS' {d : D} (a : Pl 60 d) : aB C .NotEq d d false := by
 have h1 := a.sh
 obtain ⟨p1, _, _⟩ := a
 exact .neSame p1 h1
theorem eqvAll_map {α : Type} [BEq α] {g : α -> D} (h : ∀ x y, PyData.eqv (g x).py (g y).py = (x == y)) : ∀ xs ys : List α, PyData.eqvAll (cH (xs.map g)) (cH (ys.map g)) = (xs == ys)
 | [], [] => rfl
 | [], _ :: _ => rfl
 | _ :: _, [] => rfl
 | x :: xs, y :: ys => by
  show (PyData.eqv (g x).py (g y).py && PyData.eqvAll (cH (xs.map g)) (cH (ys.map g))) = _
  rw [h, eqvAll_map h xs ys]; rfl
theorem eqv_list {α : Type} [BEq α] {g : α -> D} (h : ∀ x y, PyData.eqv (g x).py (g y).py = (x == y)) (xs ys : List α) : PyData.eqv (D.list (xs.map g)).py (D.list (ys.map g)).py = (xs == ys) := by
 exact eqvAll_map h xs ys
theorem eqv_nat (x y : Nat) : PyData.eqv (D.int (x : Nat)).py (D.int (y : Nat)).py = (x == y) := by
 exact lU x y
theorem eqv_str (x y : Str) : PyData.eqv (D.str x).py (D.str y).py = (x == y) := rfl
theorem aB.eqNil {ds : List D} (h : ∀ d ∈ ds, Pl 50 d) : aB C .Eq (.list ds) (.list []) ds.isEmpty := by
 obtain ⟨a, b, c⟩ := Pl.list h
 have h1 := aB.eqQ (C := C) (d1 := .list ds) (d2 := .list []) ⟨a, b, by lia⟩ (.list fun d hd => by cases hd)
 have e : PyData.eqv (D.list ds).py (D.list []).py = ds.isEmpty := by
  cases ds <;> rfl
 rwa [e] at h1
theorem aB.eqNilN {xs : List Nat} : aB C .Eq (.list (iD xs)) (.list []) xs.isEmpty := by
 have := aB.eqNil (C := C) (ds := iD xs) fun d hd => by
  obtain ⟨x, _, rfl⟩ := iD_mem hd
  exact .int
 rwa [show (iD xs).isEmpty = xs.isEmpty by cases xs <;> rfl] at this
theorem iD_intL (xs : List Nat) : iD xs = bK (xs.map fun n : Nat => (n : Int)) := by unfold iD bK; rw [List.map_map]; rfl
theorem any_nat (x : Nat) (xs : List Nat) : (xs.map fun n : Nat => (n : Int)).any (· == (x : Int)) = xs.contains x := by
 rw [List.any_map, List.contains_eq_any_beq]
 refine congrArg (xs.any ·) (funext fun y => ?_)
 show ((y : Int) == (x : Int)) = (x == y)
 rw [lU, BEq.comm]
theorem aB.inN {x : Nat} {xs : List Nat} : aB C .In (.int x) (.list (iD xs)) (xs.contains x) := by
 have := aB.inI (C := C) (x := x) (ns := xs.map fun n : Nat => (n : Int))
 rwa [any_nat, <- iD_intL] at this
theorem aB.notInN {x : Nat} {xs : List Nat} : aB C .NotIn (.int x) (.list (iD xs)) (!xs.contains x) := by
 have := aB.notInI (C := C) (x := x) (ns := xs.map fun n : Nat => (n : Int))
 rwa [any_nat, <- iD_intL] at this
noncomputable def ig {α : Type} (xs : List α) : List α := xs.drop (xs.length - 1)
theorem pick_last {α : Type} (ds : List α) : (picked ds.length (some (-1)) none none).filterMap (ds[·]?) = ig ds := by
 rw [jK]
 simp only [Option.elim]
 have e : clipAt ds.length (-1) = ds.length - 1 := by
  unfold clipAt; split <;> lia
 rw [e]
 exact List.take_of_length_le (by rw [List.length_drop]; lia)
theorem Ev.ig {o e : Expr} {p pos : Pos} {ds : List D} (x : Ev C r sc ρ own o (.list ds)) (y : Ev C r sc ρ own e (.int (-1))) (l : ds.length <= 1048576) : Ev C r sc ρ own (.Subscript o (.Slice (some e) Option.none Option.none p) pos) (.list (ig ds)) := by
 have h := Ev.sliceL x (p := p) (pos := pos) (.some y) .none .none nofun (by rw [pick_last]; unfold Mine.ig; rw [List.length_drop]; omega)
 rw [pick_last] at h; exact h
variable {C : Cfg} {r : Nat} {sc : Scope} {ρ : Rho} {own : Own}
theorem vals_at {W : Addr -> Prop} {h : Heap} {g : Nat -> D} : ∀ (vs : List Value) (n a : Nat), vs.length = n -> (∀ (j : Nat) (v : Value), vs[j]? = some v -> Val C W h v (g (a + j))) -> ao C W h vs ((List.range' a n).map g)
 | [], n, a, e, _ => by cases e; exact .nil
 | v :: vs, 0, a, e, _ => by cases e
 | v :: vs, n + 1, a, e, k => by
  refine .cons (k 0 v rfl) (vals_at vs n (a + 1) (by simpa using e) fun j u hu => ?_)
  have := k (j + 1) u (by simpa using hu)
  rwa [show a + (j + 1) = a + 1 + j by lia] at this
theorem EvF.listRange {lp rp cp pos : Pos} {e : Expr} {n : Nat} (x : Ev C r sc ρ own e (.int n)) (l : n <= 1000000) (bl : iu C sc "list" (.type "list")) (br : iu C sc "range" (.type "range")) (ne : autoParam (notStar e = true) tacR) :
  EvF C r sc ρ own (.Call (.Name "list" lp) [.Call (.Name "range" rp) [e] [] cp] [] pos) (.list (iD (List.range n))) := by
 constructor; intro A env W h₀ O h R G S tk qQ qE qK
 obtain ⟨l1, l2, l3, l4, l5⟩ := bl
 obtain ⟨r1, r2, r3, r4, r5⟩ := br
 refine wpAny_Call_NameR ((Ev.builtin G S l1 l3 l2 l4 l5).use2 fun v h1 tk1 a1 a2 => ?_)
 subst a1 a2
 refine PySem.callWith_type rfl (aU rfl ?_)
 refine spliced_cons ?_
 refine wpAny_Call_NameR ((Ev.builtin G S r1 r3 r2 r4 r5).use2 fun v2 h2 tk2 a3 a4 => ?_)
 subst a3 a4
 have na : ([e] : List Expr).all notStar = true := by simp only [List.all_cons, List.all_nil, ne]; rfl
 refine PySem.callWith_type (bI cp env _ na) (aU na ?_)
 rw [aJ _ [] env ne]
 refine spliced_cons ((x.go A env W h₀ O _ R G S).use2 fun v4 h4 tk4 e4 z4 => ?_)
 have S4 := S.ext e4
 refine spliced_nil ?_
 refine z4.intE fun t => ?_
 refine call_range_1 ?_
 refine spliced_nil ?_
 have x5 : Ext C h4 (h4.push { cls := .type "range", data := .fields #[.int 0 tk4, .int n t, .int 1 (tk4 + 1)] }) := .push S4.inv _
 have S5 := S4.ext x5
 refine call_list_range R.1 (IsRange.new ..) (small_one (by lia) (by lia) (by lia) (by lia)) (n := n) (by rw [rangeSize_one]; split <;> lia) (by lia) fun h' tk' acc c' hk g it => ?_
 have xx := (e4.trans x5).trans (.all S5.inv hk)
 refine qK _ h' tk' ⟨_, rfl, (e4.trans x5).none_back (aj _), S5.inv.size_mods, xx, acc.toList, c', g, ?_, ?_⟩
 ·unfold iD; rw [List.length_map, List.length_range]; lia
 ·unfold iD
  rw [List.range_eq_range']
  refine vals_at acc.toList n 0 (by simpa using it.1) fun j v hv => ?_
  obtain ⟨t, rfl⟩ := it.2 j v (by simpa using hv)
  rw [Int.mul_one, Nat.zero_add, Int.zero_add]
  exact .int _ _
variable {C : Cfg} {r : Nat}
noncomputable abbrev aH := List (List Nat)
noncomputable abbrev nrD (nr : aH) : List D := nr.map fun row => .list (iD row)
noncomputable def nb (nr : aH) (u : Nat) : List Nat := nr.getD u []
structure NrOk (nr : aH) : Prop where
 len : nr.length = 5
 row : ∀ u, u < 5 -> (nb nr u).length <= 5
 lt : ∀ u, ∀ v ∈ nb nr u, v < 5
theorem nr_at {nr : aH} (h : NrOk nr) {u : Nat} (hu : u < 5) : (nrD nr)[u]? = some (.list (iD (nb nr u))) := by
 unfold nrD nb
 rw [List.getElem?_map, getD_at (d := ([] : List Nat)) (by rw [h.len]; exact hu)]; rfl
noncomputable def domB (nr : aH) (left : List Nat) (u v : Nat) : Bool := (u != v) && ((nb nr u).filter fun x => left.contains x && !(nb nr v).contains x).isEmpty
noncomputable def cornU (nr : aH) (left : List Nat) : List Nat := left.flatMap fun u => (left.filter (domB nr left u)).map fun _ => u
noncomputable def dC (nr : aH) (left : List Nat) : List Nat := left.filter fun u => !(ig (cornU nr left)).contains u
noncomputable def cD (nr : aH) : Nat -> List Nat
 | 0 => List.range 5
 | k + 1 => dC nr (cD nr k)
theorem two_iD (xs : List Nat) (ys : Nat -> List Nat) (p : Nat -> Nat -> Bool) (f : Nat -> Nat -> Nat) : two xs ys p (fun x y => .int (f x y : Nat)) = iD (xs.flatMap fun x => ((ys x).filter (p x)).map (f x)) := by
 unfold two iD
 rw [List.map_flatMap]
 refine congrArg (List.flatMap · xs) (funext fun x => ?_)
 rw [List.map_map]; rfl
theorem mj (nr : aH) : ∀ k, (cD nr k).length <= 5 /\ ∀ u ∈ cD nr k, u < 5
 | 0 => ⟨Nat.le_refl _, fun u hu => List.mem_range.mp hu⟩
 | k + 1 => by
  have := mj nr k
  exact ⟨Nat.le_trans (List.length_filter_le _ _) this.1, fun u hu => this.2 u ((List.mem_filter.mp hu).1)⟩
theorem lastL_map {α β : Type} (f : α -> β) (l : List α) : ig (l.map f) = (ig l).map f := by
 unfold ig; rw [List.length_map, List.map_drop]
theorem core_ok (T : FnT C "_law_core" (aP 21)) {nr : aH} (hn : NrOk nr) : Fn C (r + 1) (.ref T.a) [.list (nrD nr)] (.list (iD (cD nr 5))) := by
 refine T.d.fn (ns := ["near"]) (X.c ?_)
 let R : List Nat -> Rho := fun left => [("left", .list (iD left)), ("near", .list (nrD nr))]
 refine X.cons (X1.set (d := .list (iD (List.range 5))) (EvF.one (.listRange (n := 5) .int (by decide) .of .of)) ?_)
 refine X.loopR (σ := Unit) (fun k : Nat => D.int (k : Nat)) (fun _ _ => True) (fun i _ => R (cD nr i)) (fun _ _ => []) () (.rangeN (n := 5) .int (by decide)) (by (repeat (first | exact Sub.nil | refine Sub.cons (by rfl) ?_))) trivial (fun k _ hk _ => ?_) fun _ _ => ?_
 ·have nx : ∀ ρ2, Sub (R (cD nr (k + 1))) ρ2 -> cT (fun _ _ => True) (fun i (_ : Unit) => R (cD nr i)) (fun _ _ => []) (k + 1) ρ2 [] := fun ρ2 s => .mk () trivial s
  generalize cT (fun _ _ => True) (fun i (_ : Unit) => R (cD nr i)) (fun _ _ => []) (k + 1) = LI at nx ⊢
  show X C r _ _ (("turn", .int (k : Nat)) :: R (cD nr k)) [] _ _
  obtain ⟨hl, hm⟩ := mj nr k
  change ∀ ρ2, Sub (R (dC nr (cD nr k))) ρ2 -> _ at nx
  generalize cD nr k = left at nx hl hm ⊢
  refine X.cons (X1.set (EvF.one (.lcN (xs := left) (ys := fun _ => left) (p := domB nr left) (f := fun u _ => .int (u : Nat)) (.list .name) (fun x hx => .list .name) (fun x hx y hy => ?_) (fun x hx y hy hp => .name) (by lia) (fun x hx => by lia))) ?_)
  ·refine .one (.boolop (d8.as (.and_cons (.cmp .name .name .neN) fun _ => .and_cons (.cmp (EvF.one (.lc (fun n : Nat => D.int n) bB (xs := nb nr x) (p := fun z => left.contains z && !(nb nr y).contains z) (f := fun n : Nat => D.int n) (.list (.atL .name .name (nr_at hn (hm x hx)) (by have := hm x hx; lia)))
    (fun z hz => .one (.boolop (d8.as (.and_cons (.cmp .name .name .inN) fun _ => .and_cons (.cmp .name (.atL .name .name (nr_at hn (hm y hy)) (by have := hm y hy; lia)) .notInN) fun _ => .and_nil) (by rw [Bool.and_true]))))
    (fun z _ _ => .name) (by have := hn.row x (hm x hx); lia))) (.lst .nil) (.eqNilN)) fun _ => .and_nil) (by rw [Bool.and_true]; rfl)))
  ·rw [two_iD]
   refine X.cons (X1.set (EvF.one (.lc (fun n : Nat => D.int n) bB (xs := left) (p := fun u => !(ig (cornU nr left)).contains u) (f := fun n : Nat => D.int n) (.list .name) (fun u hu => .one (.cmp .name (.as (.ig .name (.un .int .neg) ?_) ?_) .notInN)) (fun u _ _ => .name) (by lia))) (X.nil (nx _ ?_)))
   ·unfold iD
    rw [List.length_map]
    have := kW (k := 5) (l := left) (f := fun u => (left.filter (domB nr left u)).map fun _ => u) fun u hu => by rw [List.length_map]; exact Nat.le_trans (List.length_filter_le _ _) hl
    exact Nat.le_trans this (by lia)
   ·unfold iD; rw [lastL_map]; rfl
   ·show Sub (R (dC nr left)) _
    refine .cons rfl (by (repeat (first | exact Sub.nil | refine Sub.cons (by rfl) ?_)))
 ·exact X.cons (X1.ret .name (.inl rfl))
noncomputable abbrev ls (x : Str) : List Nat := x.cps.toList
theorem app_list (a b : Str) : ls (a ++ b) = ls a ++ ls b := Array.toList_append
theorem len_list (x : Str) : x.length = (ls x).length := by simp [Str.length]
theorem nG {a b : Str} (h : ls a = ls b) : a = b := by
 cases a; cases b
 exact congrArg Str.mk (Array.toList_inj.mp h)
noncomputable def infB (y : List Nat) : List Nat -> Bool
 | [] => y.isEmpty
 | c :: l => y.isPrefixOf (c :: l) || infB y l
theorem infB_iff (y : List Nat) : ∀ l : List Nat, infB y l = true ↔ ∃ i, i + y.length <= l.length /\ (l.drop i).take y.length = y := by
 intro rv
 induction rv with
 | nil =>
  show y.isEmpty = true ↔ _
  rw [List.isEmpty_iff]
  constructor
  ·rintro rfl; exact ⟨0, Nat.le_refl _, rfl⟩
  ·rintro ⟨i, h, _⟩
   exact List.length_eq_zero_iff.mp (Nat.le_zero.mp (Nat.le_trans (Nat.le_add_left _ _) h))
 | cons c l ih =>
  show (y.isPrefixOf (c :: l) || infB y l) = true ↔ _
  rw [Bool.or_eq_true, ih, List.isPrefixOf_iff_prefix]
  constructor
  ·rintro (h | ⟨i, h1, h2⟩)
   ·exact ⟨0, by rw [Nat.zero_add]; exact h.length_le, (List.prefix_iff_eq_take.mp h).symm⟩
   ·exact ⟨i + 1, by rw [List.length_cons]; omega, h2⟩
  ·rintro ⟨i, h1, h2⟩
   cases i with
   | zero => exact .inl (List.prefix_iff_eq_take.mpr h2.symm)
   | succ i => exact .inr ⟨i, by rw [List.length_cons] at h1; omega, h2⟩
theorem hasS_inf (y x : Str) : hasS y x = infB (ls y) (ls x) := by
 have h1 := StrLaws.found_iff x y
 have h2 := infB_iff (ls y) (ls x)
 have e : (∃ i, i + y.length <= x.length /\ Builtin.Str.subAt x y i = true) ↔ ∃ i, i + (ls y).length <= (ls x).length /\ ((ls x).drop i).take (ls y).length = ls y := by
  refine exists_congr fun i => ?_
  rw [StrLaws.subAt_eq, beq_iff_eq, <- len_list, <- len_list]
 rw [e, <- h2] at h1
 exact Bool.eq_iff_iff.mpr h1
theorem slash_is : slash = ⟨#[47]⟩ := by decide +kernel
theorem kind_slash (x : Str) : decide (Builtin.Str.strKind x < Builtin.Str.strKind slash) = false := by
 have e : Builtin.Str.strKind slash = 1 := by decide +kernel
 rw [e]
 unfold Builtin.Str.strKind
 split
 ·rfl
 ·split <;> rfl
theorem split_head {p r : Str} (h : 47 ∉ ls p) : iT (bH ((p ++ slash) ++ r) slash) = p /\ bH ((p ++ slash) ++ r) slash ≠ [] /\ (bH ((p ++ slash) ++ r) slash).length <= ((p ++ slash) ++ r).length + 2 := by
 have hx : ls ((p ++ slash) ++ r) = ls p ++ 47 :: ls r := by
  rw [app_list, app_list, slash_is, List.append_assoc]; rfl
 generalize hxx : (p ++ slash) ++ r = x at hx
 have hat : (ls x)[(ls p).length]? = some 47 := by rw [hx, List.getElem?_append_right (Nat.le_refl _), Nat.sub_self]; rfl
 have hb : ∀ i, i < (ls p).length -> (ls x)[i]? ≠ some 47 := fun i hi q => by
  rw [hx, List.getElem?_append_left hi] at q
  exact h (List.mem_of_getElem? q)
 have hl := StrLaws.occ_length_le x slash 0 x.length (x.length + 1)
 unfold bH
 rcases StrLaws.occ_head x slash (x.length + 1) (by omega) with ⟨h0, hn⟩ | ⟨i, rest, h0, hi, hn⟩
 ·exfalso
  refine hn (ls p).length ?_
  rw [slash_is]
  exact (StrLaws.subAt_one x 47 _).mpr hat
 ·rw [slash_is] at hi hn
  have hi' := (StrLaws.subAt_one x 47 i).mp hi
  have e : i = (ls p).length := by
   rcases Nat.lt_trichotomy i (ls p).length with q | q | q
   ·exact absurd hi' (hb i q)
   ·exact q
   ·exact absurd ((StrLaws.subAt_one x 47 _).mpr hat) (hn _ q)
  rw [h0] at hl ⊢
  rw [if_neg (show ¬ (i :: rest).isEmpty = true from Bool.false_ne_true)]
  refine ⟨?_, fun q => ?_, ?_⟩
  ·show Builtin.Str.strSub x 0 i = p
   apply nG
   show (Builtin.Str.strSub x 0 i).cps.toList = _
   rw [StrLaws.strSub_toList, e, List.drop_zero, Nat.sub_zero, show x.cps.toList = ls x from rfl, hx, List.take_left]
  ·have := congrArg List.length q
   rw [PySem.length_partsBetween] at this
   cases this
  ·rw [PySem.length_partsBetween]
   omega
noncomputable def aG : List Str := ["Fig", "Plum Tree", "Kiwi", "Date Palm", "Sorb"]
noncomputable def tn (i : Nat) : Str := aG.getD i ""
noncomputable def dz : List (List Nat) := (List.range 32).map fun m => (List.range 5).filter fun i => m / 2 ^ i % 2 == 1
theorem dm (p : Nat -> Bool) : (List.range 5).filter p ∈ dz := by
 have e : (List.range 5).filter p = [0, 1, 2, 3, 4].filter p := rfl
 rw [e]
 simp only [List.filter_cons, List.filter_nil]
 generalize p 0 = a
 generalize p 1 = b
 generalize p 2 = c
 generalize p 3 = d
 generalize p 4 = e
 revert a b c d e
 decide
theorem sub5_sub {l : List Nat} (h : l ∈ dz) (q : Nat -> Bool) : l.filter q ∈ dz := by
 unfold dz at h
 obtain ⟨m, _, rfl⟩ := List.mem_map.mp h
 rw [List.filter_filter]
 exact dm _
theorem bu : ∀ l ∈ dz, l.length <= 5 /\ ∀ u ∈ l, u < 5 := by decide
noncomputable def rowP (S : List Nat) : Str := ("*" : Str) ++ Txt.join "+" (S.map fun r => upS (tn r))
noncomputable def bT (S : List Nat) : Str := ((("*" : Str) ++ Txt.join "+" (S.map fun r => upS (tn r))) ++ "/") ++ Txt.join "+" aG
noncomputable def kj (S : List Nat) : Str := dh (iT (bH (bT S) slash))
theorem row_chk : ∀ S ∈ dz, 47 ∉ ls (rowP S) /\ (bT S).length <= 1000 /\ (dh (rowP S)).length <= 1048576 /\ ∀ v < 5, infB (ls (dh (tn v))) (ls (dh (rowP S))) = S.contains v := by decide +kernel
theorem row_cut {S : List Nat} (h : S ∈ dz) : kj S = dh (rowP S) /\ bH (bT S) slash ≠ [] /\ (bH (bT S) slash).length <= (bT S).length + 2 := by
 obtain ⟨a, b, c⟩ := split_head (p := rowP S) (r := Txt.join "+" aG) (row_chk S h).1
 exact ⟨congrArg dh a, b, c⟩
theorem row_split (S : List Nat) (h : S ∈ dz) : nU (bT S) slash /\ bH (bT S) slash ≠ [] /\ (kj S).length <= 1048576 /\ (bT S).length <= 1000 := by
 obtain ⟨_, l1, l2, _⟩ := row_chk S h
 obtain ⟨e, n, l3⟩ := row_cut h
 have pos : slash.length <= (bT S).length := by
  have : (bT S).length = (rowP S ++ "/").length + (Txt.join "+" aG).length := strLen_append _ _
  have : (rowP S ++ "/").length = (rowP S).length + ("/" : Str).length := strLen_append _ _
  show ("/" : Str).length <= _
  omega
 refine ⟨⟨?_, by decide +kernel, by omega, by omega⟩, n, by rw [e]; exact l2, l1⟩
 rw [kind_slash, decide_eq_false (Nat.not_lt.mpr pos)]; rfl
theorem row_has (S : List Nat) (h : S ∈ dz) : ∀ v < 5, hasS (dh (tn v)) (kj S) = S.contains v := fun v hv => by
 rw [(row_cut h).1, hasS_inf]
 exact (row_chk S h).2.2.2 v hv
theorem bC : ∀ v < 5, (tn v != star) = true /\ (dh (tn v)).length <= 1048576 /\ (upS (tn v)).length <= 9 /\ (tn v).length <= 9 /\ SeqAt.shaped (D.str (tn v)).py = true := by decide +kernel
variable {C : Cfg} {r : Nat}
noncomputable def bj (nr : aH) (u : Nat) : List Str := "*" :: (nb nr u).map tn
noncomputable abbrev kE (En : Addr) (nr : aH) (u : Nat) : D := recD En (bj nr u) [] (.int (u : Nat))
noncomputable abbrev cB (En : Addr) (nr : aH) : List D := (List.range 5).map (kE En nr)
structure Sf where
 safe : aH
 last : aH
 held : aH
noncomputable def sf0 : Sf := ⟨(List.range 5).map fun c => (List.range 5).filter fun r => r != c, [], (List.range 5).map fun c => (List.range 5).filter fun r => r != c⟩
noncomputable def heldOf (nr : aH) (s : Sf) : aH := (List.range 5).map fun c => (nb s.held c).filter fun r => (nb s.safe c).contains r || bV (bj nr r) (bT (nb s.safe c))
noncomputable def fW (nr held : aH) : aH := (List.range 5).map fun d => (List.range 5).filter fun r => ((nb nr d).filter fun c => !(nb held c).contains r).isEmpty
noncomputable def cN (nr : aH) (s : Sf) : Sf := if s.safe != s.last then ⟨fW nr (heldOf nr s), s.safe, heldOf nr s⟩ else s
noncomputable def sfN (nr : aH) : Nat -> Sf
 | 0 => sf0
 | k + 1 => cN nr (sfN nr k)
structure bR (l : aH) : Prop where
 len : l.length = 5
 sub : ∀ c, c < 5 -> nb l c ∈ dz
theorem eZ {f : Nat -> List Nat} (h : ∀ c, c < 5 -> f c ∈ dz) : bR ((List.range 5).map f) := by
 refine ⟨by rw [List.length_map, List.length_range], fun c hc => ?_⟩
 unfold nb
 rw [List.getD_eq_getElem?_getD, List.getElem?_map, List.getElem?_range hc]
 exact h c hc
theorem jF (nr : aH) : ∀ k, bR (sfN nr k).safe /\ bR (sfN nr k).held
 | 0 => ⟨eZ (f := fun c => (List.range 5).filter fun r => r != c) fun c _ => dm _, eZ (f := fun c => (List.range 5).filter fun r => r != c) fun c _ => dm _⟩
 | k + 1 => by
  have ih := jF nr k
  show bR (cN nr (sfN nr k)).safe /\ bR (cN nr (sfN nr k)).held
  unfold cN
  split
  ·exact ⟨eZ (f := fun d => (List.range 5).filter fun r => ((nb nr d).filter fun c => !(nb (heldOf nr (sfN nr k)) c).contains r).isEmpty) fun c _ => dm _, eZ (f := fun c => (nb (sfN nr k).held c).filter fun r => (nb (sfN nr k).safe c).contains r || bV (bj nr r) (bT (nb (sfN nr k).safe c))) fun c hc => sub5_sub (ih.2.sub c hc) _⟩
  ·exact ih
theorem cZ {nr : aH} (h : nr.length = 5) {u : Nat} (hu : u < 5) : (nrD nr)[u]? = some (.list (iD (nb nr u))) := by
 unfold nrD nb
 rw [List.getElem?_map, getD_at (d := ([] : List Nat)) (by rw [h]; exact hu)]; rfl
theorem kJ : ∀ x y : List Nat, D.list (iD x) = D.list (iD y) -> x = y := fun x y e => by
 have e : iD x = iD y := D.list.inj e
 unfold iD at e
 exact (List.map_inj_right bB).mp e
theorem eqv_rows (x y : aH) : PyData.eqv (D.list (nrD x)).py (D.list (nrD y)).py = (x == y) := eqv_list (fun a b => eqv_list eqv_nat a b) x y
theorem pl_rows (x : aH) : Pl 60 (.list (nrD x)) := .map (k := 59) fun row _ => .ints (k := 58) row
theorem page_at {En : Addr} {nr : aH} {u : Nat} (h : u < 5) : (cB En nr)[u]? = some (kE En nr u) := by
 unfold cB
 rw [List.getElem?_map, List.getElem?_range h]; rfl
theorem low_ag {nr : aH} {u : Nat} (h : ∀ v ∈ nb nr u, v < 5) : ∀ a ∈ bj nr u, (dh a).length <= 1048576 := fun a ha => by
 rcases List.mem_cons.mp ha with q | q
 ·rw [q]; decide +kernel
 ·obtain ⟨v, hv, rfl⟩ := List.mem_map.mp q
  exact (bC v (h v hv)).2.1
theorem sum_le9 : ∀ {l : List Str}, (∀ s ∈ l, s.length <= 9) -> (l.map (·.length)).sum <= 9 * l.length
 | [], _ => Nat.le_refl _
 | a :: l, h => by
  have := sum_le9 (l := l) fun s hs => h s (.tail _ hs)
  have := h a (.head _)
  rw [List.map_cons, List.sum_cons, List.length_cons]; lia
theorem safe_ok {En : Addr} {mN : Str -> Option Value} (T : FnT C "_law_safe" (aP 22)) (E : EntryT C En mN) {nr : aH} (hn : bR nr) :
  Fn C (r + 2) (.ref T.a) [.list (cB En nr), .list (au aG), .list (nrD nr)] (.list (nrD (sfN nr 22).safe)) := by
 refine T.d.fn (ns := ["pages", "titles", "near"]) (X.c ?_)
 let R : Sf -> Rho := fun s => [("held", .list (nrD s.held)), ("safe", .list (nrD s.safe)), ("last", .list (nrD s.last)), ("pages", .list (cB En nr)), ("titles", .list (au aG)), ("near", .list (nrD nr))]
 refine X.cons (X1.tup (Q := fun ds own' => ds = [.list (nrD sf0.safe), .list []] /\ own' = []) (EvM.val (.as (EvF.one (.lcA (fun n : Nat => D.int n) bB (xs := List.range 5) (f := fun c => .list (iD ((List.range 5).filter fun r => r != c))) (.rangeN (n := 5) .int (by decide)) (fun c hc => ?_) (by decide))) ?_) (EvM.val (.lst .nil) (EvM.nil ⟨rfl, rfl⟩))) ?_)
 ·exact EvF.one (.lc (fun n : Nat => D.int n) bB (xs := List.range 5) (p := fun r => r != c) (f := fun n : Nat => D.int n) (.rangeN (n := 5) .int (by decide)) (fun r hr => .one (.cmp .name .name .neN)) (fun _ _ _ => .name) (by decide))
 ·rfl
 rintro ds own' ⟨rfl, rfl⟩
 refine X.cons (X1.set (d := .list (nrD sf0.held)) .name ?_)
 refine X.loopR (σ := Unit) (fun k : Nat => D.int (k : Nat)) (fun _ _ => True) (fun i _ => R (sfN nr i)) (fun _ _ => []) () (.rangeN (n := 22) .int (by decide)) (by (repeat (first | exact Sub.nil | refine Sub.cons (by rfl) ?_))) trivial (fun k _ hk _ => ?_) fun _ _ => ?_
 ·have nx : ∀ ρ2, Sub (R (sfN nr (k + 1))) ρ2 -> cT (fun _ _ => True) (fun i (_ : Unit) => R (sfN nr i)) (fun _ _ => []) (k + 1) ρ2 [] := fun ρ2 s => .mk () trivial s
  generalize cT (fun _ _ => True) (fun i (_ : Unit) => R (sfN nr i)) (fun _ _ => []) (k + 1) = LI at nx ⊢
  show X C _ _ _ (("turn", .int (k : Nat)) :: R (sfN nr k)) [] _ _
  obtain ⟨ok1, ok2⟩ := jF nr k
  change ∀ ρ2, Sub (R (cN nr (sfN nr k))) ρ2 -> _ at nx
  generalize sfN nr k = s at nx ok1 ok2 ⊢
  refine X.cons (X1.iff (b := s.safe != s.last) (.cmp .name .name ?_) (fun t => ?_) (fun t => ?_))
  ·have := aB.neQ (C := C) (pl_rows s.safe) (pl_rows s.last)
   rwa [eqv_rows] at this
  ·unfold cN at nx
   rw [if_pos t] at nx
   have hm : ∀ row ∈ s.safe, row ∈ dz := fun row hrow => by
    obtain ⟨c, hc, e⟩ := List.mem_iff_getElem.mp hrow
    have := ok1.sub c (by rw [<- ok1.len]; exact hc)
    unfold nb at this
    rwa [List.getD_eq_getElem?_getD, List.getElem?_eq_getElem hc, Option.getD_some, e] at this
   refine X.cons (X1.set (d := .list (s.safe.map fun row => .str (bT row))) (EvF.one (.lcA (fun l : List Nat => D.list (iD l)) kJ (xs := s.safe) (f := fun row => .str (bT row)) (.list .name) (fun row hrow => ?_) (by rw [ok1.len]; decide))) ?_)
   ·obtain ⟨l5, lt⟩ := bu row (hm row hrow)
    have tl := (row_split row (hm row hrow)).2.2.2
    refine .bin (.bin (.bin .str (.meth .str (.cons (.as (EvF.one (.lcA (fun n : Nat => D.int n) bB (xs := row) (f := fun u => .str (upS (tn u))) (.list .name) (fun u hu => ?_) (by lia))) ?_) .nil) rfl F.plainAttrs_str F.slot_str_join F.type_str_join (Fn.join (ss := row.map fun u => upS (tn u)) ?_)) (.cat ?_)) .str (.cat ?_)) (.meth .str (.cons .name .nil) rfl F.plainAttrs_str F.slot_str_join F.type_str_join (Fn.join (ss := aG) (by decide +kernel))) (.cat ?_)
    ·exact .meth (.atL .name .name (bF (lt u hu)) (by have := lt u hu; lia)) .nil rfl F.plainAttrs_str F.slot_str_upper F.type_str_upper (Fn.upper (Nat.le_trans (bC u (lt u hu)).2.2.1 (by decide)))
    ·unfold au; rw [List.map_map]; rfl
    ·have h9 := sum_le9 (l := row.map fun u => upS (tn u)) fun x hx => by
      obtain ⟨u, hu, rfl⟩ := List.mem_map.mp hx
      exact (bC u (lt u hu)).2.2.1
     rw [List.length_map] at h9 ⊢
     rw [show ("+" : Str).length = 1 from by decide]
     lia
    all_goals
     have c1 : ∀ a b : Str, (a ++ b).length = a.length + b.length := strLen_append
     unfold bT at tl
     rw [c1, c1, c1] at tl
     show _ <= sizeLine
     unfold sizeLine
     first | lia | (rw [c1]; lia) | (rw [c1, c1]; lia)
   refine X.cons (X1.set (d := .list (nrD (heldOf nr s))) (.as (EvF.one (.lcA (fun n : Nat => D.int n) bB (xs := List.range 5) (f := fun c => .list (iD ((nb s.held c).filter fun r => (nb s.safe c).contains r || bV (bj nr r) (bT (nb s.safe c))))) (.rangeN (n := 5) .int (by decide)) (fun c hc => ?_) (by decide))) ?_) ?_)
   ·have hc := List.mem_range.mp hc
    refine EvF.one (.lc (fun n : Nat => D.int n) bB (xs := nb s.held c) (p := fun r => (nb s.safe c).contains r || bV (bj nr r) (bT (nb s.safe c))) (f := fun n : Nat => D.int n) (.list (.atL .name .name (cZ ok2.len hc) (by lia))) (fun u hu => .one (.boolop (d8.as (.or_cons (.cmp .name (.atL .name .name (cZ ok1.len hc) (by lia)) .inN) fun _ => .or_cons (.of (d := .bool (bV (bj nr u) (bT (nb s.safe c)))) ?_ rfl) fun _ => .or_nil) (by rw [Bool.or_false])))) (fun _ _ _ => .name) ?_)
    ·have hu5 := (bu _ (ok2.sub c hc)).2 u hu
     have rs := row_split _ (ok1.sub c hc)
     refine .callM E.cl E.app.m (.atL .name .name (page_at hu5) (by lia)) (.cons (.atL .name .name (d := .str (bT (nb s.safe c))) ?_ (by lia)) .nil) (mV E _ [] _ _ _ rs.1 rs.2.1 rs.2.2.1 (low_ag (bu _ (hn.sub u hu5)).2))
     unfold nb
     rw [List.getElem?_map, getD_at (d := ([] : List Nat)) (by rw [ok1.len]; exact hc)]; rfl
    ·exact Nat.le_trans (bu _ (ok2.sub c hc)).1 (by decide)
   ·rfl
   refine X.cons (X1.tup (Q := fun ds own' => ds = [.list (nrD (fW nr (heldOf nr s))), .list (nrD s.safe)] /\ own' = []) (EvM.val (.as (EvF.one (.lcA (fun n : Nat => D.int n) bB (xs := List.range 5) (f := fun d => .list (iD ((List.range 5).filter fun r => ((nb nr d).filter fun c => !(nb (heldOf nr s) c).contains r).isEmpty))) (.rangeN (n := 5) .int (by decide)) (fun d hd => ?_) (by decide))) ?_) (EvM.val .name (EvM.nil ⟨rfl, rfl⟩))) ?_)
   ·have hd := List.mem_range.mp hd
    have hh : bR (heldOf nr s) := eZ (f := fun c => (nb s.held c).filter fun r => (nb s.safe c).contains r || bV (bj nr r) (bT (nb s.safe c))) fun c hc => sub5_sub (ok2.sub c hc) _
    generalize heldOf nr s = held at hh ⊢
    exact EvF.one (.lc (fun n : Nat => D.int n) bB (xs := List.range 5) (p := fun r => ((nb nr d).filter fun c => !(nb held c).contains r).isEmpty) (f := fun n : Nat => D.int n) (.rangeN (n := 5) .int (by decide)) (fun u hu => .one (.cmp (EvF.one (.lc (fun n : Nat => D.int n) bB (xs := nb nr d) (p := fun c => !(nb held c).contains u) (f := fun n : Nat => D.int n) (.list (.atL .name .name (cZ hn.len hd) (by lia))) (fun c hc => .one (.cmp .name (.atL .name .name (cZ hh.len ((bu _ (hn.sub d hd)).2 c hc)) (by have := (bu _ (hn.sub d hd)).2 c hc; lia)) .notInN)) (fun _ _ _ => .name) (Nat.le_trans (bu _ (hn.sub d hd)).1 (by decide)))) (.lst .nil) .eqNilN)) (fun _ _ _ => .name) (by decide))
   ·rfl
   rintro ds own' ⟨rfl, rfl⟩
   exact X.nil (X.nil (nx _ (by (repeat (first | exact Sub.nil | refine Sub.cons (by rfl) ?_)))))
  ·unfold cN at nx
   rw [if_neg (by rw [t]; decide)] at nx
   exact X.nil (X.nil (nx _ (by (repeat (first | exact Sub.nil | refine Sub.cons (by rfl) ?_)))))
 ·exact X.cons (X1.ret .name (.inl rfl))
variable {C : Cfg} {r : Nat}
noncomputable def prD (x : Nat × Nat) : D := .tup [.int (x.1 : Nat), .int (x.2 : Nat)]
noncomputable abbrev bY (xs : List (Nat × Nat)) : List D := xs.map prD
theorem X.loop2 {σ : Type} {sc : Scope} {ρ : Rho} {P : aZ} {t1 t2 : Str} {k : Nat} {p1 p2 tp pos : Pos} {e : Expr} {body ss : List Stmt} {xs : List (Nat × Nat)} (J : Nat -> σ -> Prop) (R : Nat -> σ -> Rho) (o : Nat -> σ -> Own) (z : σ)
  (src : EvI C r sc ρ (o 0 z) (.Tuple [.Name t1 p1, .Name t2 p2] k tp) e (bY xs)) (s : Sub (R 0 z) ρ) (j : J 0 z)
  (turn : ∀ i y z, xs[i]? = some y -> J i z -> X C r sc (aa sc) ((t2, .int (y.2 : Nat)) :: (t1, .int (y.1 : Nat)) :: R i z) (o i z) body (LoopP (cT J R o (i + 1)) (Then C r sc (aa sc) ss P)))
  (fin : ∀ z, J xs.length z -> X C r sc (aa sc) (R xs.length z) (o xs.length z) ss P) (k1 : autoParam (Sto sc (aa sc) t1) tacS) (k2 : autoParam (Sto sc (aa sc) t2) tacS)
  (hs : autoParam (∀ env x, foldedSetIterable e env x = pure x) tacI2) : X C r sc (aa sc) ρ (o 0 z) (.For (.Tuple [.Name t1 p1, .Name t2 p2] k tp) e body [] pos :: ss) P :=
 X.cons (X1.for (upd := upd2 t1 t2) (cT J R o) src (fun d hd => by
   obtain ⟨x, _, rfl⟩ := List.mem_map.mp hd
   exact .two k1 k2) (.mk z j s)
  (fun i d ρ' own' hd hJ => by
   cases hJ with
   | mk z j s =>
    rw [List.getElem?_map] at hd
    cases h : xs[i]? with
    | none => rw [h] at hd; cases hd
    | some y => rw [h] at hd; cases hd; exact X.weaken s.both.both (turn i y z h j))
  (fun ρ' own' hJ => by
   cases hJ with
   | mk z j s => rw [List.length_map] at j s; rw [List.length_map]; exact X.weaken s (fin z j)) hs)
noncomputable abbrev Row := Str × Nat
noncomputable def rowD (x : Row) : D := .tup [.str x.1, .int x.2]
noncomputable def pcs : Nat -> List Str
 | 0 => ["\t", "  "]
 | 1 => [" \t", "   "]
 | _ => ["\t", "  \t"]
noncomputable def bO : Row := ("", 0)
noncomputable def placeOf (rs : List Row) (o : Nat) : Nat := rs.findIdx fun x => x.2 == o
noncomputable def iI (kd dr : Nat) (rs : List Row) (f : Nat × Nat) : Row :=
 let lead := (rs.getD (placeOf rs f.2) bO).1
 let pc := (pcs kd).getD (dr % 2) ""
 (if kd = 2 then pc ++ lead else lead ++ pc, f.1)
noncomputable def cI (kd dr : Nat) (rs : List Row) (f : Nat × Nat) : List Row := rs.take (placeOf rs f.2 + 1) ++ [iI kd dr rs f] ++ rs.drop (placeOf rs f.2 + 1)
noncomputable def gk (left : List Nat) (fs : List (Nat × Nat)) (dr : Nat) : Nat -> List Row
 | 0 => left.map fun u => ("", u)
 | k + 1 => cI (dr % 3) (dr / 2 ^ (k + 1)) (gk left fs dr k) (fs.getD k (0, 0))
theorem outStep_len (kd dr : Nat) (rs : List Row) (f : Nat × Nat) : (cI kd dr rs f).length = rs.length + 1 := by
 unfold cI; simp; omega
theorem outN_len (left : List Nat) (fs : List (Nat × Nat)) (dr : Nat) : ∀ k, (gk left fs dr k).length = left.length + k
 | 0 => by show (left.map _).length = _; rw [List.length_map]; rfl
 | k + 1 => by
  show (cI _ _ _ _).length = _
  rw [outStep_len, outN_len left fs dr k]; lia
theorem pcs_len (m b : Nat) : ((pcs m).getD b "").length <= 3 := by
 have : ∀ l : List Str, (∀ x ∈ l, x.length <= 3) -> (l.getD b "").length <= 3 := fun l h => by
  rw [List.getD_eq_getElem?_getD]
  cases e : l[b]? with
  | none => exact Nat.zero_le _
  | some x => exact h x (List.mem_of_getElem? e)
 match m with
 | 0 => exact this _ (by decide)
 | 1 => exact this _ (by decide)
 | _ + 2 => exact this ["\t", "  \t"] (by decide)
theorem cL (a b : Str) : (a ++ b).length = a.length + b.length := strLen_append a b
theorem lead_len {rs : List Row} {n p : Nat} (h : ∀ x ∈ rs, x.1.length <= n) : (rs.getD p bO).1.length <= n := by
 rw [List.getD_eq_getElem?_getD]
 cases e : rs[p]? with
 | none => exact Nat.zero_le _
 | some y => exact h y (List.mem_of_getElem? e)
theorem outStep_mem {kd dr : Nat} {rs : List Row} {f : Nat × Nat} {x : Row} (h : x ∈ cI kd dr rs f) : x ∈ rs ∨ x = iI kd dr rs f := by
 unfold cI at h
 rcases List.mem_append.mp h with h | h
 ·rcases List.mem_append.mp h with h | h
  ·exact .inl (List.mem_of_mem_take h)
  ·exact .inr (List.mem_singleton.mp h)
 ·exact .inl (List.mem_of_mem_drop h)
theorem outNew_len {kd dr n : Nat} {rs : List Row} {f : Nat × Nat} (h : ∀ x ∈ rs, x.1.length <= n) : (iI kd dr rs f).1.length <= n + 3 := by
 have h1 := pcs_len kd (dr % 2)
 have h2 := lead_len (p := placeOf rs f.2) h
 unfold iI
 dsimp only
 split <;> rw [cL] <;> lia
theorem jL (left : List Nat) (fs : List (Nat × Nat)) (dr : Nat) : ∀ k, ∀ x ∈ gk left fs dr k, x.1.length <= 3 * k
 | 0, x, h => by
  obtain ⟨u, _, rfl⟩ := List.mem_map.mp h
  exact Nat.zero_le _
 | k + 1, x, h => by
  have ih := jL left fs dr k
  rcases outStep_mem h with q | q
  ·have := ih x q; lia
  ·rw [q]; exact outNew_len ih
theorem outN_mem {left : List Nat} {fs : List (Nat × Nat)} {dr : Nat} : ∀ {k : Nat} {v : Nat}, (v ∈ left ∨ ∃ j, j < k /\ (fs.getD j (0, 0)).1 = v) -> ∃ x ∈ gk left fs dr k, x.2 = v
 | 0, v, h => by
  rcases h with h | ⟨j, h, _⟩
  ·exact ⟨("", v), List.mem_map.mpr ⟨v, h, rfl⟩, rfl⟩
  ·lia
 | k + 1, v, h => by
  have old : (∃ x ∈ gk left fs dr k, x.2 = v) -> ∃ x ∈ gk left fs dr (k + 1), x.2 = v := fun ⟨x, hx, e⟩ => by
   refine ⟨x, ?_, e⟩
   show x ∈ cI _ _ _ _
   unfold cI
   rw [<- List.take_append_drop (placeOf (gk left fs dr k) (fs.getD k (0, 0)).2 + 1) (gk left fs dr k)] at hx
   rcases List.mem_append.mp hx with q | q
   ·exact List.mem_append.mpr (.inl (List.mem_append.mpr (.inl q)))
   ·exact List.mem_append.mpr (.inr q)
  rcases h with h | ⟨j, h, e⟩
  ·exact old (outN_mem (.inl h))
  ·by_cases q : j = k
   ·subst q
    refine ⟨iI (dr % 3) (dr / 2 ^ (j + 1)) (gk left fs dr j) (fs.getD j (0, 0)), ?_, e⟩
    show _ ∈ cI _ _ _ _
    unfold cI
    exact List.mem_append.mpr (.inl (List.mem_append.mpr (.inr (List.mem_singleton.mpr rfl))))
   ·exact old (outN_mem (.inr ⟨j, by lia, e⟩))
theorem first_at {n i : Nat} {p : Nat -> Bool} (h : p i = true) (hi : i < n) (hb : ∀ j, j < i -> p j = false) : ((List.range n).filter p)[0]? = some i := by
 rw [<- List.head?_eq_getElem?, List.head?_filter, List.find?_range_eq_some]
 exact ⟨h, List.mem_range.mpr hi, fun j hj => by simp [hb j hj]⟩
theorem row_at {rs : List Row} {j : Nat} (h : j < rs.length) : (rs.map rowD)[j]? = some (.tup [.str (rs.getD j bO).1, .int (rs.getD j bO).2]) := by
 rw [List.getElem?_map, getD_at (d := bO) h]; rfl
theorem place_lt {rs : List Row} {o : Nat} (h : ∃ x ∈ rs, x.2 = o) : placeOf rs o < rs.length := by
 obtain ⟨x, hx, q⟩ := h
 exact List.findIdx_lt_length_of_exists (p := fun x : Row => x.2 == o) ⟨x, hx, by simp [q]⟩
theorem place_is {rs : List Row} {o : Nat} (h : placeOf rs o < rs.length) : (rs.getD (placeOf rs o) bO).2 = o := by
 have := List.findIdx_getElem (w := h)
 rw [List.getD_eq_getElem?_getD, List.getElem?_eq_getElem h]
 exact eq_of_beq this
theorem place_before {rs : List Row} {o j : Nat} (h : j < placeOf rs o) : (rs.getD j bO).2 ≠ o := fun e => by
 have hj : j < rs.length := Nat.lt_of_lt_of_le h List.findIdx_le_length
 have := List.not_of_lt_findIdx h
 rw [List.getD_eq_getElem?_getD, List.getElem?_eq_getElem hj] at e
 simp at this
 exact this e
theorem rowInj : ∀ x y : Row, rowD x = rowD y -> x = y := fun x y e => by
 obtain ⟨a, b⟩ := x
 obtain ⟨c, d⟩ := y
 cases e; rfl
variable {C : Cfg} {r : Nat}
theorem InOk.divK {m n : Nat} (h : m ≠ 0) (hm : m < 2 ^ 30) : InOk C .FloorDiv (.int (n : Nat)) (.int (m : Nat)) (.int (n / m : Nat)) := by
 have := InOk.fdiv (C := C) (x := (n : Int)) (y := (m : Int)) (by lia) (PyProof.noPylong_small (by rw [Int.natAbs_natCast]; lia))
 rw [Int.fdiv_eq_ediv_of_nonneg _ (by lia)] at this; exact this
theorem half_pow (d k : Nat) : d / 2 ^ k / 2 = d / 2 ^ (k + 1) := by rw [Nat.div_div_eq_div_mul, Nat.pow_succ]
theorem outline_ok (T : FnT C "_law_outline" (aP 23)) (left : List Nat) (fl : List (Nat × Nat)) (dr : Nat) (l5 : left.length <= 5) (f5 : fl.length <= 5)
  (hf : ∀ k, k < fl.length -> (fl.reverse.getD k (0, 0)).2 ∈ left ∨ ∃ j, j < k /\ (fl.reverse.getD j (0, 0)).1 = (fl.reverse.getD k (0, 0)).2) :
  Fn C (r + 1) (.ref T.a) [.list (bY fl), .list (iD left), .int dr] (.list ((gk left fl.reverse dr fl.length).map rowD)) := by
 refine T.d.fn (ns := ["folds", "left", "drawn"]) (X.c ?_)
 let R : List Row -> Nat -> Rho := fun rs d => [("rows", .list (rs.map rowD)), ("drawn", .int (d : Nat)), ("kind", .int (dr % 3 : Nat)), ("folds", .list (bY fl))]
 have m3 : dr % 3 < 3 := Nat.mod_lt _ (by decide)
 refine X.cons (X1.tup (Q := fun ds own' => ds = [.int (dr % 3 : Nat), .list ((left.map fun u => (("" : Str), u)).map rowD)] /\ own' = []) (EvM.val (.modN .name) (EvM.val (.as (EvF.one (.lcA (fun n : Nat => D.int n) bB (xs := left) (f := fun u => .tup [.str "", .int (u : Nat)]) (.list .name) (fun u hu => .tp (.cons .str (.cons .name .nil))) (by lia))) ?_) (EvM.nil ⟨rfl, rfl⟩))) ?_)
 ·rw [List.map_map]; rfl
 rintro ds own' ⟨rfl, rfl⟩
 refine X.loop2 (σ := Unit) (xs := fl.reverse) (fun _ _ => True) (fun i _ => R (gk left fl.reverse dr i) (dr / 2 ^ i)) (fun _ _ => []) () (.list (.as (.revL .name (.un .int .neg) ?_) ?_)) ?_ trivial (fun k f _ hk _ => ?_) fun _ _ => ?_
 ·rw [List.length_map]; lia
 ·unfold bY; rw [List.map_reverse]
 ·rw [Nat.pow_zero, Nat.div_one]; (repeat (first | exact Sub.nil | refine Sub.cons (by rfl) ?_))
 ·have nx : ∀ ρ2, Sub (R (gk left fl.reverse dr (k + 1)) (dr / 2 ^ (k + 1))) ρ2 -> cT (fun _ _ => True) (fun i (_ : Unit) => R (gk left fl.reverse dr i) (dr / 2 ^ i)) (fun _ _ => []) (k + 1) ρ2 [] := fun ρ2 s => .mk () trivial s
  generalize cT (fun _ _ => True) (fun i (_ : Unit) => R (gk left fl.reverse dr i) (dr / 2 ^ i)) (fun _ _ => []) (k + 1) = LI at nx ⊢
  show X C r _ _ (("v", .int (f.2 : Nat)) :: ("u", .int (f.1 : Nat)) :: R (gk left fl.reverse dr k) (dr / 2 ^ k)) [] _ _
  have hkl : k < fl.length := by have := (List.getElem?_eq_some_iff.mp hk).1; rwa [List.length_reverse] at this
  have hfk : fl.reverse.getD k (0, 0) = f := by rw [List.getD_eq_getElem?_getD, hk]; rfl
  have hlen := outN_len left fl.reverse dr k
  have hsh := jL left fl.reverse dr k
  have hpl := place_lt (outN_mem (dr := dr) (hf k hkl))
  rw [hfk] at hpl
  change ∀ ρ2, Sub (R (cI (dr % 3) (dr / 2 ^ (k + 1)) (gk left fl.reverse dr k) (fl.reverse.getD k (0, 0))) (dr / 2 ^ (k + 1))) ρ2 -> _ at nx
  rw [hfk] at nx
  generalize gk left fl.reverse dr k = rs at hlen hsh hpl nx ⊢
  rw [<- half_pow] at nx
  generalize dr / 2 ^ k = dk at nx ⊢
  refine X.cons (X1.aug (d := .int (dk / 2 : Nat)) rfl rfl .int (InOk.divK (by decide) (by decide)) (by first | exact Or.inl rfl | exact Or.inr ⟨rfl, rfl⟩) ?_)
  generalize dk / 2 = d2 at nx ⊢
  have hpi := place_is hpl
  have hpb : ∀ j, j < placeOf rs f.2 -> (rs.getD j bO).2 ≠ f.2 := fun j => place_before
  unfold cI iI at nx
  generalize placeOf rs f.2 = pp at hpl hpi hpb nx
  refine X.cons (X1.set (d := .int (pp : Nat)) (.atL (k := 0) (EvF.one (EvF.lc (fun n : Nat => D.int n) bB (xs := List.range rs.length) (p := fun j => (rs.getD j bO).2 == f.2) (f := fun n : Nat => D.int n)
   (.rangeN (.lenL .name (List.length_map ..)) (by lia)) (fun j hj => .one (.cmp (.atT (k := 1) (.atL (k := j) .name .name (row_at (List.mem_range.mp hj)) (by have := List.mem_range.mp hj; lia)) .int rfl) .name .eqN))
   (fun j _ _ => .name) (by rw [List.length_range]; lia))) .int ?_) ?_)
  ·rw [List.getElem?_map, first_at (i := pp)]
   ·rfl
   ·rw [hpi]; exact beq_self_eq_true _
   ·exact hpl
   ·intro j hj; exact beq_eq_false_iff_ne.mpr (hpb j hj)
  have hb2 : d2 % 2 < 2 := Nat.mod_lt _ (by decide)
  have hpc : (au (pcs (dr % 3)))[d2 % 2]? = some (.str ((pcs (dr % 3)).getD (d2 % 2) "")) := bF (by
    have : (pcs (dr % 3)).length = 2 := by
     generalize dr % 3 = m at m3
     match m, m3 with
     | 0, _ => rfl
     | 1, _ => rfl
     | 2, _ => rfl
    lia)
  refine X.cons (X1.assignSwap (Q := fun ds own' => ds = [.str ((pcs (dr % 3)).getD (d2 % 2) ""), .str (rs.getD pp bO).1] /\ own' = []) (EvM.val (.atL (ds := au (pcs (dr % 3))) (k := d2 % 2) (.atL (k := dr % 3) (.lst (ds := [.list (au (pcs 0)), .list (au (pcs 1)), .list (au (pcs 2))]) (.cons (.lst (ds := au (pcs 0)) (.cons .str (.cons .str .nil))) (.cons (.lst (ds := au (pcs 1)) (.cons .str (.cons .str .nil))) (.cons (.lst (ds := au (pcs 2)) (.cons .str (.cons .str .nil))) .nil)))) .name ?_) (.modN .name) hpc) (EvM.val (.atT (k := 0) (.atL (k := pp) .name .name (row_at hpl)) .int rfl) (EvM.nil ⟨rfl, rfl⟩))) ?_ (by first | exact Or.inl rfl | exact Or.inr ⟨rfl, rfl⟩) (by first | exact Or.inl rfl | exact Or.inr ⟨rfl, rfl⟩))
  ·generalize dr % 3 = m at m3
   match m, m3 with
   | 0, _ => rfl
   | 1, _ => rfl
   | 2, _ => rfl
  rintro d1 d2 own' ⟨e, rfl⟩
  cases e
  have hl1 := pcs_len (dr % 3) (d2 % 2)
  have hl2 := lead_len (p := pp) hsh
  generalize (pcs (dr % 3)).getD (d2 % 2) "" = pc at nx hl1 ⊢
  generalize hld : (rs.getD pp bO).1 = lead at nx hl2 ⊢
  have hp1 : bh C .Add (.int (pp : Nat)) (.int 1) (.int ((pp + 1 : Nat) : Int)) := addK (n := 1)
  refine X.cons (X1.set (.bin (.bin (.takeL .name (.bin .name .int hp1) (by rw [List.length_map]; lia)) (.lst (ds := [rowD (if dr % 3 = 2 then pc ++ lead else lead ++ pc, f.1)]) (.cons (.tp (.cons (.ifexp (c := dr % 3 == 2) (.cmp .name .int (.eqN (y := 2))) (fun t => ?_) (fun t => ?_)) (.cons .name .nil))) .nil)) (.app ?_)) (.dropL .name (.bin .name .int hp1) (by rw [List.length_map]; lia)) (.app ?_)) (X.nil (nx _ ?_)))
  ·rw [if_pos (eq_of_beq t)]
   exact .bin .name .name (.cat (by show _ <= sizeLine; unfold sizeLine; lia))
  ·rw [if_neg (by simpa using t)]
   exact .bin .name .name (.cat (by show _ <= sizeLine; unfold sizeLine; lia))
  ·simp; lia
  ·simp; lia
  ·refine Sub.cons ?_ (by (repeat (first | exact Sub.nil | refine Sub.cons (by rfl) ?_)))
   rw [ak, if_pos rfl]
   simp [List.map_append, List.map_take, List.map_drop]
 ·rw [List.length_reverse]; exact X.cons (X1.ret .name (.inl rfl))
variable {C : Cfg} {r : Nat}
structure Fs where
 left : List Nat
 folds : List (Nat × Nat)
 steps : List (Nat × Nat)
 order : Int
noncomputable def pairsOf (left : List Nat) : List (Nat × Nat) := left.flatMap fun u => (left.filter fun v => u != v).map fun v => (u, v)
noncomputable def domP (nr : aH) (left : List Nat) (f : Nat × Nat) : Bool := ((nb nr f.1).filter fun x => left.contains x && !(nb nr f.2).contains x).isEmpty
noncomputable def bG (nr : aH) (left : List Nat) : List (Nat × Nat) := (pairsOf left).filter (domP nr left)
noncomputable def km (s : Fs) (n : Nat) : Nat := (s.order.fmod (n : Int)).toNat
noncomputable def gR (nr : aH) (s : Fs) : Fs :=
 let cs := bG nr s.left
 let c := cs.getD (km s cs.length) (0, 0)
 ⟨s.left.filter fun u => u != c.1, s.folds ++ [c], s.steps ++ [(cs.length, km s cs.length)], s.order.fdiv (cs.length : Int)⟩
noncomputable def fsN (nr : aH) (o : Int) : Nat -> Fs
 | 0 => ⟨List.range 5, [], [], o⟩
 | k + 1 => if (bG nr (fsN nr o k).left).isEmpty then fsN nr o k else gR nr (fsN nr o k)
noncomputable def backN (steps : List (Nat × Nat)) (o : Int) : Int := steps.reverse.foldl (fun o s => o * (s.1 : Nat) + ((s.2 : Nat) : Int).fmod (s.1 : Nat)) o
theorem fsN_stuck {nr : aH} {o : Int} {k : Nat} (h : (bG nr (fsN nr o k).left).isEmpty = true) : ∀ j, fsN nr o (k + j) = fsN nr o k
 | 0 => rfl
 | j + 1 => by
  show (if (bG nr (fsN nr o (k + j)).left).isEmpty then fsN nr o (k + j) else gR nr (fsN nr o (k + j))) = _
  rw [fsN_stuck h j, if_pos h]
theorem tn_beq : ∀ a < 5, ∀ b < 5, (tn a == tn b) = (a == b) := by decide +kernel
theorem any_tn {v : Nat} (hv : v < 5) : ∀ {l : List Nat}, (∀ x ∈ l, x < 5) -> (l.map tn).any (· == tn v) = l.contains v
 | [], _ => rfl
 | x :: l, h => by
  rw [List.map_cons, List.any_cons, any_tn hv fun y hy => h y (.tail _ hy), tn_beq x (h x (.head _)) v hv, List.contains_cons, BEq.comm]
theorem any_star : ∀ {l : List Nat}, (∀ x ∈ l, x < 5) -> (l.map tn).any (· == star) = false
 | [], _ => rfl
 | x :: l, h => by
  have := (bC x (h x (.head _))).1
  rw [List.map_cons, List.any_cons, any_star fun y hy => h y (.tail _ hy), Bool.or_false]
  simpa using this
theorem lZ {l m : List Nat} (hl : ∀ x ∈ l, x < 5) (hm : ∀ x ∈ m, x < 5) : (l.map tn).filter (fun x => (m.map tn).any (· == x)) = (l.filter m.contains).map tn := by
 rw [List.filter_map]
 refine congrArg (List.map tn) (List.filter_congr fun x hx => ?_)
 exact any_tn (hl x hx) hm
theorem contains_rev (l : List Nat) : l.reverse.contains = l.contains := funext fun x => by
 rw [List.contains_eq_mem, List.contains_eq_mem]; simp
noncomputable def dH (nr : aH) (left : List Nat) (u : Nat) : List Nat := (nb nr u).filter left.contains
theorem part_is {nr : aH} {left : List Nat} {u : Nat} (hn : ∀ x ∈ nb nr u, x < 5) (hl : ∀ x ∈ left, x < 5) : (bj nr u).filter (fun x => (left.reverse.map tn).any (· == x)) = (dH nr left u).map tn := by
 have hr : ∀ x ∈ left.reverse, x < 5 := fun x hx => hl x (List.mem_reverse.mp hx)
 unfold bj
 rw [List.filter_cons_of_neg (by rw [show ("*" : Str) = star from rfl, any_star hr]; decide), lZ hn hr, contains_rev]; rfl
theorem fO {nr : aH} {left : List Nat} {u : Nat} (hn : ∀ x ∈ nb nr u, x < 5) : ∀ x ∈ dH nr left u, x < 5 := fun x hx => hn x (List.mem_filter.mp hx).1
theorem map_tn_beq : ∀ {l m : List Nat}, (∀ x ∈ l, x < 5) -> (∀ x ∈ m, x < 5) -> (l.map tn == m.map tn) = (l == m)
 | [], [], _, _ => rfl
 | [], _ :: _, _, _ => rfl
 | _ :: _, [], _, _ => rfl
 | a :: l, b :: m, h, k => by
  show (tn a == tn b && (l.map tn == m.map tn)) = (a == b && (l == m))
  rw [tn_beq a (h a (.head _)) b (k b (.head _)), map_tn_beq (fun x hx => h x (.tail _ hx)) fun x hx => k x (.tail _ hx)]
theorem filter_beq (p : Nat -> Bool) : ∀ l : List Nat, (l.filter p == l) = (l.filter fun x => !p x).isEmpty := fun l => by
 rw [Bool.eq_iff_iff, beq_iff_eq, List.filter_eq_self, List.isEmpty_iff, List.filter_eq_nil_iff]
 exact ⟨fun h x hx => by rw [h x hx]; decide, fun h x hx => by simpa using h x hx⟩
theorem dom_is {nr : aH} {left : List Nat} {u v : Nat} (hu : ∀ x ∈ nb nr u, x < 5) (hv : ∀ x ∈ nb nr v, x < 5) :
  (((dH nr left u).map tn).filter (fun x => ((dH nr left v).map tn).any (· == x)) == (dH nr left u).map tn) = domP nr left (u, v) := by
 rw [lZ (fO hu) (fO hv), map_tn_beq (fun x hx => fO hu x (List.mem_filter.mp hx).1) (fO hu), filter_beq]
 unfold domP dH
 rw [List.filter_filter]
 refine congrArg List.isEmpty (List.filter_congr fun x hx => ?_)
 have e : ((nb nr v).filter left.contains).contains x = ((nb nr v).contains x && left.contains x) := by
  rw [Bool.eq_iff_iff]; simp [List.mem_filter]
 rw [e]
 cases left.contains x <;> simp
variable {C : Cfg} {r : Nat}
theorem pairs_mem {left : List Nat} {f : Nat × Nat} (h : f ∈ pairsOf left) : f.1 ∈ left /\ f.2 ∈ left /\ f.1 ≠ f.2 := by
 unfold pairsOf at h
 obtain ⟨u, hu, h⟩ := List.mem_flatMap.mp h
 obtain ⟨v, hv, rfl⟩ := List.mem_map.mp h
 obtain ⟨a, b⟩ := List.mem_filter.mp hv
 exact ⟨hu, a, by simpa using b⟩
theorem corn_mem {nr : aH} {left : List Nat} {f : Nat × Nat} (h : f ∈ bG nr left) : f.1 ∈ left /\ f.2 ∈ left /\ f.1 ≠ f.2 := pairs_mem (List.mem_filter.mp h).1
theorem pairs_len {left : List Nat} (h : left.length <= 5) : (pairsOf left).length <= 25 := by
 unfold pairsOf
 refine Nat.le_trans (kW (k := 5) fun u _ => ?_) (by lia)
 rw [List.length_map]
 exact Nat.le_trans (List.length_filter_le _ _) h
theorem two_pr (xs : List Nat) (ys : Nat -> List Nat) (p : Nat -> Nat -> Bool) : two xs ys p (fun x y => .tup [.int (x : Nat), .int (y : Nat)]) = bY (xs.flatMap fun x => ((ys x).filter (p x)).map fun y => (x, y)) := by
 unfold two bY
 rw [List.map_flatMap]
 refine congrArg (List.flatMap · xs) (funext fun x => ?_)
 rw [List.map_map]; rfl
theorem div_small {a : Int} {b : Nat} (hb : 0 < b) (h1 : -10000 <= a) (h2 : a <= 10000) : -10000 <= a.fdiv b /\ a.fdiv b <= 10000 := by
 rw [Int.fdiv_eq_ediv_of_nonneg _ (by lia)]
 exact ⟨Int.le_ediv_of_mul_le (by lia) (by lia), Int.ediv_le_of_le_mul (by lia) (by lia)⟩
structure FsOk (s : Fs) (k : Nat) : Prop where
 len : s.left.length <= 5
 pos : s.left ≠ []
 lt : ∀ u ∈ s.left, u < 5
 f5 : s.folds.length <= k
 s5 : s.steps.length <= k
 st : ∀ x ∈ s.steps, 1 <= x.1 /\ x.1 <= 25
 o1 : -10000 <= s.order
 o2 : s.order <= 10000
theorem pick_lt {s : Fs} {n : Nat} (h : 0 < n) : km s n < n := by
 have a := Int.fmod_nonneg_of_pos s.order (b := (n : Int)) (by omega)
 have b := Int.fmod_lt_of_pos s.order (b := (n : Int)) (by omega)
 unfold km; omega
theorem getD_mem {α : Type} {l : List α} {k : Nat} {d : α} (h : k < l.length) : l.getD k d ∈ l := by
 rw [List.getD_eq_getElem?_getD, List.getElem?_eq_getElem h]; exact List.getElem_mem _
theorem fsStep_ok {nr : aH} {s : Fs} {k : Nat} (h : FsOk s k) (c : 0 < (bG nr s.left).length) : FsOk (gR nr s) (k + 1) := by
 have hm := getD_mem (d := ((0, 0) : Nat × Nat)) (pick_lt (s := s) c)
 obtain ⟨m1, m2, m3⟩ := corn_mem hm
 have l25 : (bG nr s.left).length <= 25 := Nat.le_trans (List.length_filter_le _ _) (pairs_len h.len)
 have ds := div_small c h.o1 h.o2
 refine ⟨Nat.le_trans (List.length_filter_le _ _) h.len, fun e => ?_, fun u hu => h.lt u (List.mem_filter.mp hu).1, ?_, ?_, fun x hx => ?_, ds.1, ds.2⟩
 ·have : ((bG nr s.left).getD (km s (bG nr s.left).length) (0, 0)).2 ∈ (gR nr s).left := List.mem_filter.mpr ⟨m2, by simpa using fun q => m3 q.symm⟩
  rw [e] at this; cases this
 ·show (_ ++ [_]).length <= _
  rw [List.length_append]
  have := h.f5
  show _ + 1 <= _
  lia
 ·show (_ ++ [_]).length <= _
  rw [List.length_append]
  have := h.s5
  show _ + 1 <= _
  lia
 ·rcases List.mem_append.mp hx with q | q
  ·exact h.st x q
  ·rw [List.mem_singleton.mp q]; exact ⟨c, l25⟩
theorem jO {nr : aH} {o : Int} (h1 : -10000 <= o) (h2 : o <= 10000) : ∀ k, FsOk (fsN nr o k) k
 | 0 => ⟨by show (List.range 5).length <= 5; decide, by show List.range 5 ≠ []; decide, fun u hu => List.mem_range.mp hu, Nat.le_refl _, Nat.le_refl _, (fun x hx => by cases hx), h1, h2⟩
 | k + 1 => by
  have ih := jO (nr := nr) h1 h2 k
  show FsOk (if _ then _ else _) _
  by_cases e : (bG nr (fsN nr o k).left).isEmpty = true
  ·rw [if_pos e]; exact ⟨ih.len, ih.pos, ih.lt, Nat.le_succ_of_le ih.f5, Nat.le_succ_of_le ih.s5, ih.st, ih.o1, ih.o2⟩
  ·rw [if_neg e]
   refine fsStep_ok ih ?_
   rw [List.isEmpty_iff] at e
   exact List.length_pos_iff.mpr e
noncomputable abbrev jH (left : List Nat) : List Str := left.reverse.map tn
noncomputable def iG (left : List Nat) : Str := ((jH left).getLast?).getD ""
noncomputable abbrev partD (En : Addr) (nr : aH) (left : List Nat) (u : Nat) : D := enG En (au ((dH nr left u).map tn)) [] (.int (u : Nat)) (.str (iG left))
noncomputable abbrev bothD (En : Addr) (nr : aH) (left : List Nat) (f : Nat × Nat) : D := enG En (au (((dH nr left f.1).map tn).filter fun x => ((dH nr left f.2).map tn).any (· == x))) [] (.int (f.2 : Nat)) (.str (iG left))
theorem nH {En : Addr} {nr : aH} : ∀ x y : Nat, kE En nr x = kE En nr y -> x = y := fun x y e => by
 injection e with e1 e2
 injection e2 with e3 e4
 injection e4 with e5 e6
 injection e6 with e7 e8
 injection e7 with e9 e10
 exact bB _ _ e10
theorem pl_tn {l : List Nat} (h : ∀ x ∈ l, x < 5) : Pl 60 (.list (au (l.map tn))) := .strs (k := 59) fun s hs => by
 obtain ⟨x, hx, rfl⟩ := List.mem_map.mp hs
 exact (bC x (h x hx)).2.2.2.2
theorem part_at {En : Addr} {nr : aH} {left : List Nat} {u : Nat} (h : u < 5) : ((List.range 5).map (partD En nr left))[u]? = some (partD En nr left u) := by
 rw [List.getElem?_map, List.getElem?_range h]; rfl
structure FoldT (C : Cfg) (En : Addr) (mN : Str -> Option Value) where
 ent : EntryT C En mN
 mer : FnT C "merge_entries" (aP 3)
 div : DivT C
 fn : FnT C "_law_folds" (aP 20)
theorem rest_ok {En : Addr} {mN : Str -> Option Value} {r : Nat} (E : EntryT C En mN) {left : List Nat} (h : left ≠ []) (l : left.length <= 5) : Fn C (r + 3) (.ref E.rec_.a) [.list (au (jH left)), .list [], .none] (recD En (jH left) [] .none) :=
 dJ E.cl E.name E.ini.at_ E.ini.d E.rec_.d (by rw [List.length_map, List.length_reverse]; lia) (fun e => h (by simpa using e)) (Nat.zero_le _) rfl
noncomputable abbrev foldS : Scope := (parts (aP 20)).2.2
noncomputable abbrev foldB (i : Nat) : List Stmt := (parts (aP 20)).2.1.drop i
noncomputable def gq (En : Addr) (nr : aH) (s : Fs) (aF aS : Addr) : Rho := [("left", .list (iD s.left)), ("folds", .own aF), ("steps", .own aS), ("order", .int s.order), ("pages", .list (cB En nr)), ("titles", .list (au aG))]
noncomputable def gr (s : Fs) (aF aS : Addr) : Own := [(aS, .list (bY s.steps)), (aF, .list (bY s.folds))]
noncomputable abbrev foldD (s : Fs) : D := .tup [.list (bY s.folds), .list (iD s.left), .int (backN s.steps s.order)]
theorem folds_end {r : Nat} {P : aZ} {En : Addr} {nr : aH} (z : Fs) (ok : FsOk z 5) (aF aS : Addr) (p : ∀ ρ own, P (.ret (foldD z)) ρ own) : X C r foldS (aa foldS) (gq En nr z aF aS) (gr z aF aS) (foldB 2) P := by
 refine X.freeze (i := 1) (x := "folds") rfl rfl trivial (X.freeze (i := 0) (x := "steps") rfl rfl trivial ?_)
 let R2 : Int -> Rho := fun o => [("left", .list (iD z.left)), ("folds", .list (bY z.folds)), ("order", .int o)]
 let g : Nat -> Int := fun i => (z.steps.reverse.take i).foldl (fun o s => o * (s.1 : Nat) + ((s.2 : Nat) : Int).fmod (s.1 : Nat)) z.order
 have s5 := ok.s5
 refine X.loop2 (σ := Unit) (xs := z.steps.reverse) (fun _ _ => True) (fun i _ => R2 (g i)) (fun _ _ => []) () (.list (.as (.revL (ds := bY z.steps) .name (.un .int .neg) ?_) ?_)) ?_ trivial (fun k f _ hk _ => ?_) fun _ _ => ?_
 ·rw [List.length_map]; lia
 ·unfold bY; rw [List.map_reverse]
 ·show Sub (R2 z.order) _
  unfold gq; (repeat (first | exact Sub.nil | refine Sub.cons (by rfl) ?_))
 ·have hm := ok.st f (List.mem_reverse.mp (List.mem_of_getElem? hk))
  have e : g (k + 1) = g k * (f.1 : Nat) + ((f.2 : Nat) : Int).fmod (f.1 : Nat) := by
   show ((z.steps.reverse.take (k + 1)).foldl _ _) = _
   rw [List.take_add_one, hk, List.foldl_append]; rfl
  refine X.cons (X1.set (d := .int (g (k + 1))) (.as (.bin (.bin .name .name (.mul (.of_right (intBits_le_64 (by lia) (by lia))))) (.bin .name .name (.mod (by lia))) .add) ?_) (X.nil (.mk () trivial (by (repeat (first | exact Sub.nil | refine Sub.cons (by rfl) ?_))))))
  rw [e]
 ·refine X.cons (X1.ret (d := foldD z) (.as (.tp (.cons .name (.cons .name (.cons .name .nil)))) ?_) (p _ _))
  have : g z.steps.reverse.length = backN z.steps z.order := by
   show ((z.steps.reverse.take _).foldl _ _) = _
   rw [List.take_length]; rfl
  rw [this]
noncomputable abbrev foldL (i : Nat) : List Stmt := (nR ((parts (aP 20)).2.1.getD 1 iJ)).drop i
theorem folds_turn {r : Nat} {P : aZ} {En : Addr} {mN : Str -> Option Value} (T : FoldT C En mN) {nr : aH} (hn : bR nr) {s : Fs} {k : Nat} (ok : FsOk s k) (hk : k < 5) (aF aS : Addr)
  (nx : ∀ ρ, (bG nr s.left).isEmpty = false -> Sub (gq En nr (gR nr s) aF aS) ρ -> P .next ρ (gr (gR nr s) aF aS)) (bk : ∀ ρ, (bG nr s.left).isEmpty = true -> Sub (gq En nr s aF aS) ρ -> P .brk ρ (gr s aF aS)) :
  X C (r + 15) foldS (aa foldS) (("turn", .int (k : Nat)) :: gq En nr s aF aS) (gr s aF aS) (foldL 0) P := by
 have l5 := ok.len
 have hlt := ok.lt
 have nlt : ∀ u, u < 5 -> ∀ x ∈ nb nr u, x < 5 := fun u hu => (bu _ (hn.sub u hu)).2
 have nl5 : ∀ u, u < 5 -> (nb nr u).length <= 5 := fun u hu => (bu _ (hn.sub u hu)).1
 have E := T.ent
 refine X.cons (X1.set (d := recD En (jH s.left) [] .none) (.call E.rec_.gf (.cons (d := .list (au (jH s.left))) (.as (EvF.one (.lcA (fun n : Nat => D.int n) bB (xs := s.left.reverse) (f := fun u => .str (tn u)) (.list (.as (.revL (ds := iD s.left) .name (.un .int .neg) ?_) ?_)) (fun u hu => ?_) (by rw [List.length_reverse]; lia))) ?_) (.cons (.lst .nil) (.cons .none .nil))) (rest_ok E ok.pos l5)) ?_)
 ·unfold iD; rw [List.length_map]; lia
 ·unfold iD; rw [List.map_reverse]
 ·have hu := hlt u (List.mem_reverse.mp hu)
  exact .atL .name .name (bF hu) (by lia)
 ·unfold au jH; rw [List.map_map]; rfl
 refine X.cons (X1.tup (Q := fun ds own' => ∃ aC, ds = [.list ((List.range 5).map (partD En nr s.left)), .own aC] /\ own' = (aC, .list (bY [])) :: gr s aF aS) (EvM.val (EvF.one (.lcA (kE En nr) nH (xs := List.range 5) (f := partD En nr s.left) (.list .name) (fun u hu => ?_) (by decide))) (EvM.new (.lst .nil) fun aC => EvM.nil ⟨aC, rfl, rfl⟩)) ?_)
 ·have hu := List.mem_range.mp hu
  have h := gm (r := r + 12) E.cl E.name E.ini.at_ E.ini.d T.mer.d (as1 := bj nr u) (as2 := jH s.left) (rs1 := []) (rs2 := []) (d1 := .int (u : Nat)) (d2 := .none) (q1 := .none) (q2 := .str (iG s.left)) (by rw [List.length_map, List.length_reverse]; lia) (by decide) rfl rfl rfl rfl
  rw [part_is (nlt u hu) hlt] at h
  exact .call T.mer.gf (.cons .name (.cons .name .nil)) h
 rintro ds own' ⟨aC, rfl, rfl⟩
 let R2 : Rho := ("parts", .list ((List.range 5).map (partD En nr s.left))) :: ("corners", .own aC) :: gq En nr s aF aS
 let cs : Nat -> List (Nat × Nat) := fun i => ((pairsOf s.left).take i).filter (domP nr s.left)
 have pl := pairs_len l5
 refine X.loop2 (σ := Unit) (xs := pairsOf s.left) (fun _ _ => True) (fun i _ => R2) (fun i _ => (aC, .list (bY (cs i))) :: gr s aF aS) () (.list (.as (EvF.one (.lcN (xs := s.left) (ys := fun _ => s.left) (p := fun u v => u != v) (f := fun u v => .tup [.int (u : Nat), .int (v : Nat)]) (.list .name) (fun x hx => .list .name) (fun x hx y hy => .one (.cmp .name .name .neN)) (fun x hx y hy hp => .tp (.cons .name (.cons .name .nil))) (by lia) (fun x hx => by lia))) ?_)) ?_ trivial (fun i f _ hi _ => ?_) fun _ _ => ?_
 ·rw [two_pr]; rfl
 ·unfold R2 gq; (repeat (first | exact Sub.nil | refine Sub.cons (by rfl) ?_))
 ·have hm := pairs_mem (List.mem_of_getElem? hi)
  have h1 := hlt _ hm.1
  have h2 := hlt _ hm.2.1
  have tk : cs (i + 1) = cs i ++ (if domP nr s.left f then [f] else []) := by
   show ((pairsOf s.left).take (i + 1)).filter _ = _
   rw [List.take_add_one, hi, List.filter_append]
   cases e : domP nr s.left f <;> simp [e] <;> rfl
  have nx2 : ∀ ρ2, Sub R2 ρ2 -> cT (fun _ _ => True) (fun _ (_ : Unit) => R2) (fun i _ => (aC, .list (bY (cs i))) :: gr s aF aS) (i + 1) ρ2 ((aC, .list (bY (cs (i + 1)))) :: gr s aF aS) := fun ρ2 s => .mk () trivial s
  generalize cT (fun _ _ => True) (fun _ (_ : Unit) => R2) (fun i _ => (aC, .list (bY (cs i))) :: gr s aF aS) (i + 1) = LI at nx2 ⊢
  have cl25 : (cs i).length <= 25 := Nat.le_trans (List.length_filter_le _ _) (Nat.le_trans (by rw [List.length_take]; lia) pl)
  generalize cs i = c0 at tk cl25 ⊢
  rw [tk] at nx2
  have hb := gm (r := r + 12) E.cl E.name E.ini.at_ E.ini.d T.mer.d (as1 := (dH nr s.left f.1).map tn) (as2 := (dH nr s.left f.2).map tn) (rs1 := []) (rs2 := []) (d1 := .int (f.1 : Nat)) (d2 := .int (f.2 : Nat)) (q1 := .str (iG s.left)) (q2 := .str (iG s.left)) (by rw [List.length_map]; exact Nat.le_trans (List.length_filter_le _ _) (Nat.le_trans (nl5 _ h2) (by decide))) (by decide) rfl rfl rfl rfl
  refine X.cons (X1.set (d := bothD En nr s.left f) (.call T.mer.gf (.cons (.atL .name .name (part_at h1) (by lia)) (.cons (.atL .name .name (part_at h2) (by lia)) .nil)) hb) ?_)
  have ce : aB C .Eq (.list (au (((dH nr s.left f.1).map tn).filter fun x => ((dH nr s.left f.2).map tn).any (· == x)))) (.list (au ((dH nr s.left f.1).map tn))) (domP nr s.left f) := by
   have h := aB.eqQ (C := C) (d1 := .list (au (((dH nr s.left f.1).map tn).filter fun x => ((dH nr s.left f.2).map tn).any (· == x)))) (d2 := .list (au ((dH nr s.left f.1).map tn))) ?_ (pl_tn (fO (nlt _ h1)))
   ·unfold au at h
    rw [eqv_list eqv_str, dom_is (nlt _ h1) (nlt _ h2)] at h
    exact h
   ·rw [lZ (fO (nlt _ h1)) (fO (nlt _ h2))]
    exact pl_tn fun x hx => fO (nlt _ h1) x (List.mem_filter.mp hx).1
  refine X.cons (X1.iff (.cmp (.attr E.cl .name) (.attr E.cl (.atL .name .name (part_at h1) (by lia))) ce) (fun t => ?_) (fun t => ?_))
  ·rw [t] at nx2
   refine X.cons (X1.append (i := 0) (.name rfl) rfl (d := prD f) (.tp (.cons .name (.cons (.attr E.cl .name) .nil))) (by rw [List.length_map]; lia) (X.nil (X.nil ?_)))
   unfold bY at nx2
   rw [List.map_append] at nx2
   exact nx2 _ (by unfold R2 gq; (repeat (first | exact Sub.nil | refine Sub.cons (by rfl) ?_)))
  ·rw [t] at nx2
   have nx2 := nx2
   rw [if_neg (by decide), List.append_nil] at nx2
   exact X.nil (X.nil (nx2 _ (by unfold R2 gq; (repeat (first | exact Sub.nil | refine Sub.cons (by rfl) ?_)))))
 refine X.freeze (i := 0) (x := "corners") rfl rfl trivial ?_
 show X C _ _ _ (("corners", .list (bY (cs (pairsOf s.left).length))) :: R2) (gr s aF aS) _ _
 have ec : cs (pairsOf s.left).length = bG nr s.left := by
  show ((pairsOf s.left).take _).filter _ = _
  rw [List.take_length]; rfl
 rw [ec]
 have c25 : (bG nr s.left).length <= 25 := Nat.le_trans (List.length_filter_le _ _) pl
 refine X.cons (X1.iff (b := (bG nr s.left).isEmpty) (.cmp .name (.lst .nil) ?_) (fun t => ?_) (fun t => ?_))
 ·have h := aB.eqNil (C := C) (ds := bY (bG nr s.left)) fun d hd => by
   obtain ⟨x, _, rfl⟩ := List.mem_map.mp hd
   exact .two (k := 49) .int .int
  rwa [show (bY (bG nr s.left)).isEmpty = (bG nr s.left).isEmpty by unfold bY; rw [List.isEmpty_map]] at h
 ·exact X.cons (X1.brk (bk _ t (by unfold R2 gq; (repeat (first | exact Sub.nil | refine Sub.cons (by rfl) ?_)))))
 ·refine X.nil ?_
  have nx := fun ρ => nx ρ t
  have c0 : 0 < (bG nr s.left).length := by
   cases q : bG nr s.left with
   | nil => rw [q] at t; cases t
   | cons a l => exact Nat.succ_pos _
  have pk := pick_lt (s := s) c0
  have hd := idm_ok T.div (r := r) s.order (bG nr s.left).length (by have := ok.o1; lia) (by have := ok.o2; lia) c0 (by lia)
  have ep : s.order.fmod ((bG nr s.left).length : Int) = ((km s (bG nr s.left).length : Nat) : Int) := (Int.toNat_of_nonneg (Int.fmod_nonneg_of_pos _ (by lia))).symm
  rw [ep] at hd
  unfold gR at nx
  dsimp only at nx
  generalize km s (bG nr s.left).length = pick at pk hd nx
  generalize bG nr s.left = cs0 at c25 c0 pk hd nx ⊢
  have hat : (bY cs0)[pick]? = some (prD (cs0.getD pick (0, 0))) := by
   unfold bY
   rw [List.getElem?_map, getD_at (d := ((0, 0) : Nat × Nat)) pk]; rfl
  refine X.cons (X1.assign (.call T.div.idm.gf (.cons .name (.cons (.lenL .name (List.length_map ..)) .nil)) hd) .two ?_)
  refine X.cons (X1.append (i := 0) (.name rfl) rfl (d := prD (cs0.length, pick)) (.tp (.cons (.lenL .name (List.length_map ..)) (.cons .name .nil))) (by rw [List.length_map]; have := ok.s5; lia) ?_)
  refine X.cons (X1.append (i := 1) (.name rfl) rfl (d := prD (cs0.getD pick (0, 0))) (.atL (k := pick) .name .name hat (by lia)) (by rw [List.length_map]; have := ok.f5; lia) ?_)
  refine X.cons (X1.set (d := .list (iD (s.left.filter fun u => u != (cs0.getD pick (0, 0)).1))) (EvF.one (.lc (fun n : Nat => D.int n) bB (xs := s.left) (p := fun u => u != (cs0.getD pick (0, 0)).1) (f := fun n : Nat => D.int n) (.list .name) (fun u hu => .one (.cmp .name (.atT (k := 0) (.atL (k := pick) .name .name hat (by lia)) .int rfl) .neN)) (fun _ _ _ => .name) (by lia))) (X.nil ?_))
  unfold gr bY at nx
  rw [List.map_append, List.map_append] at nx
  exact nx _ (by unfold R2 gq; (repeat (first | exact Sub.nil | refine Sub.cons (by rfl) ?_)))
theorem folds_ok {r : Nat} {En : Addr} {mN : Str -> Option Value} (T : FoldT C En mN) {nr : aH} (hn : bR nr) {o : Int} (h1 : -10000 <= o) (h2 : o <= 10000) :
  Fn C (r + 16) (.ref T.fn.a) [.list (cB En nr), .list (au aG), .int o] (foldD (fsN nr o 5)) := by
 refine T.fn.d.fn (ns := ["pages", "titles", "order"]) (X.c ?_)
 refine X.cons (X1.tup (Q := fun ds own' => ∃ aF aS, ds = [.list (iD (List.range 5)), .own aF, .own aS] /\ own' = gr (fsN nr o 0) aF aS) (EvM.val (EvF.one (.listRange (n := 5) .int (by decide) .of .of)) (EvM.new (.lst .nil) fun aF => EvM.new (.lst .nil) fun aS => EvM.nil ⟨aF, aS, rfl, rfl⟩)) ?_)
 rintro ds own' ⟨aF, aS, rfl, rfl⟩
 have fin := fun (P : aZ) => folds_end (C := C) (r := r + 15) (P := P) (En := En) (nr := nr) (fsN nr o 5) (jO h1 h2 5) aF aS
 refine X.loopR (σ := Unit) (fun k : Nat => D.int (k : Nat)) (fun _ _ => True) (fun i _ => gq En nr (fsN nr o i) aF aS) (fun i _ => gr (fsN nr o i) aF aS) () (.rangeN (n := 5) .int (by decide)) (by unfold gq; (repeat (first | exact Sub.nil | refine Sub.cons (by rfl) ?_))) trivial (fun k _ hk _ => ?_) fun _ _ => ?_
 ·refine folds_turn T hn (jO h1 h2 k) hk aF aS (fun ρ e s => ?_) fun ρ e s => ?_
  ·have : fsN nr o (k + 1) = gR nr (fsN nr o k) := if_neg (by rw [e]; decide)
   rw [<- this] at s ⊢
   exact .mk () trivial s
  ·have : fsN nr o 5 = fsN nr o k := by
    have := fsN_stuck e (5 - k)
    rwa [show k + (5 - k) = 5 by lia] at this
   rw [<- this] at s ⊢
   exact X.weaken s (fin _ fun _ _ => .inl rfl)
 ·exact fin _ fun _ _ => .inl rfl
noncomputable abbrev cU (i : Nat) : List Stmt := (parts (aP 24)).2.1.drop i
noncomputable abbrev aQ : Scope := (parts (aP 24)).2.2
noncomputable def rhoA (nm : Nat) (o : Int) (dr : Nat) (cs : List Nat) : Rho := [("number", .int (nm : Nat)), ("order", .int o), ("drawn", .int (dr : Nat)), ("cells", .list (iD cs))]
theorem phA {r : Nat} {P : aZ} (script : List Int) (hl : script.length <= 1000)
  (k : ∀ (nm : Nat) (o : Int) (dr : Nat) (cs : List Nat), 1024 <= nm -> nm < 2048 -> -10000 <= o -> o <= 10000 -> cs.length = 4 -> X C r aQ (aa aQ) (rhoA nm o dr cs) [] (cU 3) P) :
  X C r aQ (aa aQ) [("script", .list (bK script))] [] (cU 0) P := by
 refine X.cons (X1.assignOwn (d := .list (iD [165, 10007, 1234, 77])) (EvF.lst (.cons .int (.cons .int (.cons .int (.cons .int .nil))))) (by first | exact Or.inl rfl | exact Or.inr ⟨rfl, rfl⟩) fun a => ?_)
 refine X.cons (X1.for (upd := upd2 "k" "x") (fun i ρ' own' => ∃ (cs : List Nat), own' = [(a, .list (iD cs))] /\ cs.length = 4 /\ Sub [("cells", .own a)] ρ')
  (EvI.ofT .of (.cons (.takeL (k := 60) .name .int (by unfold bK; rw [List.length_map]; lia)) .nil) .enumerate) (fun d hd => ?_) ⟨_, rfl, rfl, by (repeat (first | exact Sub.nil | refine Sub.cons (by rfl) ?_))⟩ ?_ ?_)
 ·obtain ⟨i, x, rfl⟩ := numbered_mem hd
  exact .two
 ·rintro i d ρ' own' hd ⟨cs, rfl, hc, hs⟩
  rw [eF] at hd
  obtain ⟨x, rfl⟩ : ∃ x : Int, d = .tup [.int i, .int x] := by
   unfold bK at hd
   rw [<- List.map_take, List.getElem?_map] at hd
   cases e : (script.take 60)[i]? with
   | none => rw [e] at hd; cases hd
   | some x => rw [e] at hd; cases hd; exact ⟨x, rfl⟩
  have m4 : i % 4 < 4 := Nat.mod_lt _ (by decide)
  refine X.weaken (ρ' := [("x", .int x), ("k", .int i), ("cells", .own a)]) hs.both.both ?_
  refine X.cons (X1.augL (j := 0) (k := i % 4) (d := .int ((cs.getD (i % 4) 0 + (x.fmod 1000000).toNat : Nat) : Int)) rfl rfl (.modN .name) (jN (by lia)) (.bin .name (.bin (d := .int 1000000) .int .int (bh.pow (x := 10) (y := 6) (by decide) (by decide))) (.mod (by decide))) ?_ ?_)
  ·rw [Int.natCast_add, Int.toNat_of_nonneg (Int.fmod_nonneg_of_pos _ (by decide))]; exact .add
  ·rw [iD_set]
   exact X.nil ⟨_, rfl, by rw [List.length_set]; exact hc, by (repeat (first | exact Sub.nil | refine Sub.cons (by rfl) ?_))⟩
 ·rintro ρ' own' ⟨cs, rfl, hc, hs⟩
  refine X.weaken hs (X.freeze (i := 0) (x := "cells") rfl rfl trivial ?_)
  refine X.cons (X1.tup (Q := fun ds own' => ds = [.int (1024 + cs.getD 0 0 % 1024 : Nat), .int (((cs.getD 1 0 % 20001 : Nat) : Int) - 10000), .int (cs.getD 2 0 : Nat)] /\ own' = []) (EvM.val (.bin .int (.modN (.atL (k := 0) .name .int (jN (by lia)))) (addK (m := 1024))) (EvM.val (.bin (.modN (.atL (k := 1) .name .int (jN (by lia)))) .int .sub) (EvM.val (.atL (k := 2) .name .int (jN (by lia))) (EvM.nil ⟨rfl, rfl⟩)))) ?_)
  rintro ds own' ⟨rfl, rfl⟩
  refine X.weaken (ρ' := rhoA _ _ _ _) ?_ (k (1024 + cs.getD 0 0 % 1024) (((cs.getD 1 0 % 20001 : Nat) : Int) - 10000) (cs.getD 2 0) cs (by lia) (by lia) (by lia) (by lia) hc)
  unfold rhoA; (repeat (first | exact Sub.nil | refine Sub.cons (by rfl) ?_))
noncomputable def fZ (nm : Nat) : List Nat := (List.range 11).map (bit nm)
theorem digs_bits : ∀ (k x j : Nat), cQ 1 (x / 2 ^ j) k = (List.range' j k).map (bit x)
 | 0, x, j => rfl
 | k + 1, x, j => by
  have ih := digs_bits k x (j + 1)
  rw [Nat.pow_succ, <- Nat.div_div_eq_div_mul] at ih
  show (x / 2 ^ j) % 2 ^ 1 :: cQ 1 (x / 2 ^ j / 2 ^ 1) k = bit x j :: _
  rw [Nat.pow_one, ih]; rfl
theorem bits_digs (nm : Nat) : cQ 1 nm 11 = fZ nm := by
 have := digs_bits 11 nm 0
 rw [Nat.pow_zero, Nat.div_one] at this
 exact this
theorem bits11 {nm : Nat} (h1 : 1024 <= nm) (h2 : nm < 2048) : Builtin.Int.intBits (nm : Int) = 11 := by
 have a := bits_le (k := 11) h2
 have b := kZ nm
 rcases Nat.lt_or_ge (Builtin.Int.intBits (nm : Int)) 11 with q | q
 ·have := Nat.pow_le_pow_right (n := 2) (by decide) (show Builtin.Int.intBits (nm : Int) <= 10 by lia)
  lia
 ·lia
noncomputable def PR : List (Nat × Nat) := (List.range 5).flatMap fun v => (List.range v).map fun u => (u, v)
noncomputable def linkE : List (Nat × (Nat × Nat)) := (List.range 10).map fun k => (k, PR.getD k (0, 0))
noncomputable def linkL (nm : Nat) : List (Nat × Nat) := (linkE.filter fun x => bit nm x.1 != 0).map (·.2)
noncomputable def kO (nm u v : Nat) : Bool := (u == v) || (linkL nm).any (· == (u, v)) || (linkL nm).any (· == (v, u))
noncomputable def aq (nm : Nat) : aH := (List.range 5).map fun u => (List.range 5).filter fun v => kO nm u v
theorem eN (nm : Nat) : bR (aq nm) := eZ (f := fun u => (List.range 5).filter fun v => kO nm u v) fun _ _ => dm _
theorem any_pr (f : Nat × Nat) : ∀ l : List (Nat × Nat), (cH (bY l)).any (fun y => PyData.eqv y (prD f).py) = l.any (· == f)
 | [] => rfl
 | x :: l => by
  have ih := any_pr f l
  show (PyData.eqv (prD x).py (prD f).py || (cH (bY l)).any fun y => PyData.eqv y (prD f).py) = (x == f || l.any (· == f))
  rw [ih]
  congr 1
  show (((x.1 : Int) == (f.1 : Int)) && (((x.2 : Int) == (f.2 : Int)) && true)) = _
  rw [lU, lU, Bool.and_true]; rfl
theorem aB.inPr {f : Nat × Nat} {l : List (Nat × Nat)} : aB C .In (prD f) (.list (bY l)) (l.any (· == f)) := by
 have h1 : ∀ d ∈ bY l, Pl 1 d := fun d hd => by
  obtain ⟨x, _, rfl⟩ := List.mem_map.mp hd
  exact .two (k := 0) .int .int
 obtain ⟨a, b, c⟩ := pl_all h1
 have h2 : Pl 60 (prD f) := .two (k := 59) .int .int
 have h3 := h2.sh
 obtain ⟨p2, _, _⟩ := h2
 have := aB.inP (C := C) (d := prD f) (ds := bY l) a p2 b h3
 rwa [any_pr] at this
theorem link_lt : ∀ x ∈ linkE, x.1 < 10 := by decide
theorem linkInj : ∀ x y : Nat × (Nat × Nat), D.tup [.int (x.1 : Nat), prD x.2] = .tup [.int (y.1 : Nat), prD y.2] -> x = y := fun x y e => by
 obtain ⟨a, b, c⟩ := x
 obtain ⟨d, e, f⟩ := y
 cases e; rfl
theorem EvI.as {r : Nat} {sc : Scope} {ρ : Rho} {own : Own} {tg e : Expr} {ds ds' : List D} (x : EvI C r sc ρ own tg e ds) (h : ds = ds') : EvI C r sc ρ own tg e ds' := h ▸ x
theorem bits_at {nm k : Nat} (h : k < 11) : (iD (fZ nm))[k]? = some (.int (bit nm k : Nat)) := by
 unfold iD fZ
 rw [List.getElem?_map, List.getElem?_map, List.getElem?_range h]; rfl
noncomputable def rhoB (nm : Nat) (o : Int) (dr : Nat) (cs : List Nat) : Rho := ("near", .list (nrD (aq nm))) :: ("bits", .list (iD (fZ nm))) :: rhoA nm o dr cs
theorem phB {r : Nat} {P : aZ} (T : DivT C) (nm : Nat) (o : Int) (dr : Nat) (cs : List Nat) (h1 : 1024 <= nm) (h2 : nm < 2048)
  (k : X C (r + 12) aQ (aa aQ) (rhoB nm o dr cs) [] (cU 6) P) :
  X C (r + 12) aQ (aa aQ) (rhoA nm o dr cs) [] (cU 3) P := by
 have hd := digits_ok (r := r) T.c0 T.i2d nm 1 (by lia) (by decide) (by decide)
 rw [bits11 h1 h2, show (11 + 1 - 1) / 1 = 11 from rfl, bits_digs] at hd
 refine X.cons (X1.set (.call T.i2d.gf (.cons .name (.cons .int .nil)) hd) ?_)
 refine X.cons (X1.set (d := .list (bY (linkL nm))) (.as (EvF.one (.lc2 (fun x : Nat × (Nat × Nat) => D.int (x.1 : Nat)) (fun x => prD x.2) linkInj (xs := linkE) (p := fun x => bit nm x.1 != 0) (f := fun x => prD x.2)
  (.as (EvI.ofT .of (.cons (.as (EvF.one (.lcN (xs := List.range 5) (ys := fun v => List.range v) (p := fun _ _ => true) (f := fun v u => .tup [.int (u : Nat), .int (v : Nat)]) (.rangeN (n := 5) .int (by decide)) (fun x hx => .rangeN .name (by have := List.mem_range.mp hx; lia)) (fun _ _ _ _ => .nil) (fun _ _ _ _ _ => .tp (.cons .name (.cons .name .nil))) (by decide) (fun x hx => by rw [List.length_range]; have := List.mem_range.mp hx; lia))) (show _ = D.list (bY PR) from rfl)) .nil) .enumerate) rfl)
  (fun x hx => .one (.of (.atL (k := x.1) .name .name (bits_at (by have := link_lt x hx; lia)) (by have := link_lt x hx; lia)) (lY _))) (fun _ _ _ => .name) (by decide))) ?_) ?_)
 ·unfold linkL bY; rw [List.map_map]; rfl
 refine X.cons (X1.set (d := .list (nrD (aq nm))) (.as (EvF.one (.lcA (fun n : Nat => D.int n) bB (xs := List.range 5) (f := fun u => .list (iD ((List.range 5).filter fun v => kO nm u v))) (.rangeN (n := 5) .int (by decide)) (fun u hu => ?_) (by decide))) rfl) ?_)
 ·refine EvF.one (.lc (fun n : Nat => D.int n) bB (xs := List.range 5) (p := fun v => kO nm u v) (f := fun n : Nat => D.int n) (.rangeN (n := 5) .int (by decide)) (fun v hv => .one (.boolop (d8.as (.or_cons (.cmp .name .name .eqN) fun _ => .or_cons (.cmp (.tp (.cons .name (.cons .name .nil))) .name (.inPr (f := (u, v)))) fun _ => .or_cons (.cmp (.tp (.cons .name (.cons .name .nil))) .name (.inPr (f := (v, u)))) fun _ => .or_nil) ?_))) (fun _ _ _ => .name) (by decide))
  unfold kO
  rw [Bool.or_false, Bool.or_assoc]
 exact X.weaken (by unfold rhoB rhoA; (repeat (first | exact Sub.nil | refine Sub.cons (by rfl) ?_))) k
end Mine
namespace Mine
open PySem.Builtin.Str
variable {C : Cfg}
noncomputable def wd (u : Nat) : List Str := eX.getD u []
noncomputable def wordE : List (Nat × List Str) := (List.range 5).map fun u => (u, wd u)
noncomputable def ty (dr u : Nat) : Str := typ (wd u) (dr / 2 ^ u)
noncomputable def lK (dr : Nat) : List Str := (List.range 5).map (ty dr)
theorem wordInj : ∀ x y : Nat × List Str, D.tup [.int (x.1 : Nat), .list (au x.2)] = .tup [.int (y.1 : Nat), .list (au y.2)] -> x = y := fun x y e => by
 obtain ⟨a, b⟩ := x
 obtain ⟨c, d⟩ := y
 have e := D.tup.inj e
 have e1 : a = c := bB _ _ (List.cons.inj e).1
 have e2 : au b = au d := D.list.inj (List.cons.inj (List.cons.inj e).2).1
 unfold au at e2
 rw [(List.map_inj_right lM).mp e2, e1]
theorem word_mem : ∀ x ∈ wordE, x.1 < 5 /\ x.2 ∈ eX := by decide
structure jd (s t : Str) : Prop where
 len : s.length <= 1048576
 sp : (spaceWords s (s.length + 1)).length <= 1048576
 cap : ∀ x ∈ iz s, (gV x).length <= 1048576
 jn : JoinOk " " ((iz s).map gV) = true
 is : capW s = t
theorem jd.fn {r : Nat} {a : Addr} {s t : Str} (h : jd s t) (T : CapT C a) : Fn C (r + 1) (.ref a) [.str s] (.str t) := by
 have := cap1_ok (r := r) T s h.len h.sp h.cap h.jn
 rwa [h.is] at this
noncomputable def TypOk (dr : Nat) : Prop := ∀ u, u < 5 -> jd (ty dr u) (tn u)
theorem lO : aG = (List.range 5).map tn := by decide
theorem pl_proper {k : Nat} : Pl (k + 1) (.list (au aG)) := .strs fun s hs => by
 rw [lO] at hs
 obtain ⟨u, hu, rfl⟩ := List.mem_map.mp hs
 exact (bC u (List.mem_range.mp hu)).2.2.2.2
noncomputable def Agr (C : Cfg) (d : D) : Prop := ∃ a b, d = .tup [a, b] /\ aB C .NotEq a b false /\ bU a /\ bU b
noncomputable def bA (C : Cfg) (ds : List D) : Prop := ∀ d ∈ ds, Agr C d
theorem Agr.same {d : D} (h : Pl 60 d) (n : autoParam (bU d) tacR) : Agr C (.tup [d, d]) := ⟨d, d, rfl, .neS' h, n, n⟩
theorem bA.add {ds es : List D} (x : bA C ds) (y : bA C es) : bA C (ds ++ es) := fun d hd => (List.mem_append.mp hd).elim (x d) (y d)
theorem bA.one {d : D} (x : Agr C d) : bA C [d] := fun e he => by rw [List.mem_singleton.mp he]; exact x
theorem bA.cons {d : D} {ds : List D} (x : Agr C d) (y : bA C ds) : bA C (d :: ds) := fun e he => (List.mem_cons.mp he).elim (fun q => q ▸ x) (y e)
structure gF (C : Cfg) where
 En : Addr
 mE : Str -> Option Value
 fold : FoldT C En mE
 Wh : Addr
 mW : Str -> Option Value
 les : LessT C Wh mW
 wname : m7 C "Whitespace" Wh
 hS : jV C Wh "S" (.str " ")
 hT : jV C Wh "T" (.str "\t")
 wini : jB C Wh mW "__init__" (inner (aP 15) 1)
 capA : Addr
 cap : CapT C capA
 rule : FnM C "_law_rule" (aP 18) "<lambda>"
 l0 : C.lam 0 = lam1
 typ : FnT C "_law_typed" (aP 19)
 core : FnT C "_law_core" (aP 21)
 safe : FnT C "_law_safe" (aP 22)
 out : FnT C "_law_outline" (aP 23)
noncomputable def rhoC (En : Addr) (nm : Nat) (o : Int) (dr : Nat) (cs : List Nat) (aA : Addr) : Rho := [("pages", .list (cB En (aq nm))), ("asked", .own aA), ("titles", .list (au aG)), ("typed", .list (au (lK dr))), ("near", .list (nrD (aq nm))), ("number", .int (nm : Nat)), ("order", .int o), ("drawn", .int (dr : Nat)), ("cells", .list (iD cs))]
theorem phC {r : Nat} {P : aZ} (T : gF C) (nm : Nat) (o : Int) (dr : Nat) (cs : List Nat) (h1 : 1024 <= nm) (h2 : nm < 2048) (ty_ok : TypOk dr)
  (k : ∀ aA ds, bA C ds -> ds.length = 3 -> X C (r + 12) aQ (aa aQ) (rhoC T.En nm o dr cs aA) [(aA, .list ds)] (cU 10) P) :
  X C (r + 12) aQ (aa aQ) (rhoB nm o dr cs) [] (cU 6) P := by
 refine X.cons (X1.set (d := .list (au (lK dr))) (.as (EvF.one (.lc2 (fun x : Nat × List Str => D.int (x.1 : Nat)) (fun x => .list (au x.2)) wordInj (xs := wordE) (p := fun _ => true) (f := fun x => .str (typ x.2 (dr / 2 ^ x.1)))
  (.as (EvI.ofT .of (.cons (.lst (ds := [.list (au (wd 0)), .list (au (wd 1)), .list (au (wd 2)), .list (au (wd 3)), .list (au (wd 4))]) (.cons (.lst (ds := au (wd 0)) (.cons .str .nil)) (.cons (.lst (ds := au (wd 1)) (.cons .str (.cons .str .nil))) (.cons (.lst (ds := au (wd 2)) (.cons .str .nil)) (.cons (.lst (ds := au (wd 3)) (.cons .str (.cons .str .nil))) (.cons (.lst (ds := au (wd 4)) (.cons .str .nil)) .nil)))))) .nil) .enumerate) rfl)
  (fun _ _ => .nil) (fun x hx _ => ?_) (by decide))) ?_) ?_)
 ·obtain ⟨x5, xm⟩ := word_mem x hx
  have hp : bh C .Pow (.int 2) (.int (x.1 : Nat)) (.int ((2 ^ x.1 : Nat) : Int)) := by
   have := bh.pow (C := C) (x := 2) (y := (x.1 : Int)) (by lia) (by rw [show Builtin.Int.intBits 2 = 2 from rfl]; lia)
   rw [Int.toNat_natCast] at this
   rw [Int.natCast_pow]; exact this
  have l2 : 2 ^ x.1 <= 2 ^ 4 := Nat.pow_le_pow_right (by decide) (by lia)
  have g2 : 0 < 2 ^ x.1 := Nat.pow_pos (by decide)
  exact .call T.typ.gf (.cons .name (.cons (.bin .name (.bin .int .name hp) (.divK (by lia) (by lia))) .nil)) (typed_ok T.typ xm _)
 ·rfl
 refine X.cons (X1.set (d := .list (au aG)) (.as (EvF.one (.lcA D.str lM (xs := lK dr) (f := fun s => .str (capW s)) (.list .name) (fun s hs => ?_) (by unfold lK; rw [List.length_map]; decide))) ?_) ?_)
 ·obtain ⟨u, hu, rfl⟩ := List.mem_map.mp hs
  have hu := List.mem_range.mp hu
  have c := ty_ok u hu
  exact .call T.cap.gf (.cons .name .nil) (by rw [c.is]; exact c.fn T.cap)
 ·unfold lK au
  rw [lO, List.map_map, List.map_map]
  refine congrArg D.list (List.map_congr_left fun u hu => ?_)
  exact congrArg D.str (ty_ok u (List.mem_range.mp hu)).is
 have bl : ∀ d ∈ fZ nm, d < 2 ^ 1 := fun d hd => by
  obtain ⟨k, _, rfl⟩ := List.mem_map.mp hd
  exact Nat.mod_lt _ (by decide)
 have h2i := d2_ok (r := r) T.fold.div.c1 T.fold.div.d2i 1 (fZ nm) (by decide) bl (by show 1 * 11 <= 63; decide) (by show 11 <= 1000; decide)
 have eu : bN 1 (fZ nm) = nm := by rw [<- bits_digs, jD, Nat.mod_eq_of_lt h2]
 rw [eu] at h2i
 let a1 : D := .tup [.list (iD (fZ nm)), .list (iD (fZ nm))]
 let a2 : D := .tup [.int (nm : Nat), .int (nm : Nat)]
 let a3 : D := .tup [.list (au aG), .list (au aG)]
 refine X.cons (X1.assignOwn (d := .list [a1, a2, a3]) (EvF.lst (.cons (.tp (.cons .name (.cons (.as (EvF.one (.lcA (fun n : Nat => D.int n) bB (xs := List.range 11) (f := fun k => .int (bit nm k : Nat)) (.rangeN (n := 11) .int (by decide)) (fun _ _ => .bit .name .name) (by decide))) ?_) .nil))) (.cons (.tp (.cons (.call T.fold.div.d2i.gf (.cons .name (.cons .int .nil)) h2i) (.cons .name .nil))) (.cons (.tp (.cons .name (.cons (.lst (ds := au aG) (.cons .str (.cons .str (.cons .str (.cons .str (.cons .str .nil)))))) .nil))) .nil)))) (by first | exact Or.inl rfl | exact Or.inr ⟨rfl, rfl⟩) fun aA => ?_)
 ·unfold iD fZ; rw [List.map_map]; rfl
 refine X.cons (X1.setLC (fun n : Nat => D.int n) bB (xs := List.range 5) (p := fun _ => true) (f := kE T.En (aq nm)) (.rangeN (n := 5) .int (by decide)) (fun _ _ => .nil) (fun u hu _ => ?_) (by decide) ?_)
 ·have hu := List.mem_range.mp hu
  have sb := bu _ ((eN nm).sub u hu)
  refine .call T.fold.ent.rec_.gf (.cons (.as (.bin (.lst (.cons .str .nil)) (EvF.one (.lcA (fun n : Nat => D.int n) bB (xs := nb (aq nm) u) (f := fun v => .str (tn v)) (.list (.atL .name .name (cZ (eN nm).len hu) (by lia))) (fun v hv => ?_) (by lia))) (.app ?_)) ?_) (.cons (.lst .nil) (.cons .name .nil))) (dJ (r := r + 9) T.fold.ent.cl T.fold.ent.name T.fold.ent.ini.at_ T.fold.ent.ini.d T.fold.ent.rec_.d (as := bj (aq nm) u) (by show (List.map _ _).length + 1 <= _; rw [List.length_map]; lia) (by unfold bj; nofun) (Nat.zero_le _) rfl)
  ·have := sb.2 v hv
   exact .atL .name .name (bF (l := aG) this) (by lia)
  ·rw [List.length_map]; show 1 + _ <= _; lia
  ·unfold au bj; rw [List.map_cons, List.map_map]; rfl
 ·rw [List.filter_eq_self.mpr fun _ _ => rfl]
  refine X.weaken (ρ' := rhoC T.En nm o dr cs aA) (by unfold rhoC rhoB rhoA; (repeat (first | exact Sub.nil | refine Sub.cons (by rfl) ?_))) (k aA [a1, a2, a3] (.cons (.same (.ints (k := 59) _)) (.cons (.same .int) (.one (.same (pl_proper (k := 59)))))) rfl)
end Mine
namespace Mine
variable {C : Cfg}
noncomputable def upd3 (t1 t2 t3 : Str) : D -> Rho -> Rho
 | .tup [a, b, c], ρ => (t3, c) :: (t2, b) :: (t1, a) :: ρ
 | _, ρ => ρ
theorem Asg.three {r : Nat} {sc : Scope} {t1 t2 t3 : Str} {k : Nat} {p1 p2 p3 tp : Pos} {a b c : D} (k1 : autoParam (Sto sc (aa sc) t1) tacS) (k2 : autoParam (Sto sc (aa sc) t2) tacS) (k3 : autoParam (Sto sc (aa sc) t3) tacS) :
  Asg C r sc (aa sc) (.Tuple [.Name t1 p1, .Name t2 p2, .Name t3 p3] k tp) (.tup [a, b, c]) (upd3 t1 t2 t3 (.tup [a, b, c])) :=
 Asg.tup (u := fun ρ => (t3, c) :: (t2, b) :: (t1, a) :: ρ) (jW.cons (u1 := fun ρ => (t1, a) :: ρ) (u2 := fun ρ => (t3, c) :: (t2, b) :: ρ) (.name k1) (jW.cons (u1 := fun ρ => (t2, b) :: ρ) (u2 := fun ρ => (t3, c) :: ρ) (.name k2) (jW.cons (u1 := fun ρ => (t3, c) :: ρ) (u2 := id) (.name k3) .nil))) rfl
noncomputable def iR (nr : aH) (part : List Nat) : Nat := (part.flatMap fun u => (nb nr u).filter part.contains).length
noncomputable abbrev dG (nr : aH) : aH := (sfN nr 22).safe
noncomputable def badN (nr : aH) (d r : Nat) : List Nat := (nb nr d).filter fun c => (c == r) || ((nb nr r).filter fun x => (nb (dG nr) c).contains x).isEmpty
structure PlainP (nr : aH) (o : Int) : Prop where
 back : backN (fsN nr o 5).steps (fsN nr o 5).order = o
 size : (fsN nr o 5).left.length = (cD nr 5).length
 link : iR nr (fsN nr o 5).left = iR nr (cD nr 5)
 emp : ∀ c, c < 5 -> (nb (dG nr) c).isEmpty = ((fsN nr o 5).left.length == 1)
 safe : ∀ d, d < 5 -> ∀ r ∈ nb (dG nr) d, badN nr d r = []
theorem rows_nr {nr : aH} (h : bR nr) : NrOk nr := ⟨h.len, fun u hu => (bu _ (h.sub u hu)).1, fun u v hv => by
 rcases Nat.lt_or_ge u 5 with q | q
 ·exact (bu _ (h.sub u q)).2 v hv
 ·unfold nb at hv
  rw [List.getD_eq_getElem?_getD, List.getElem?_eq_none (by rw [h.len]; exact q)] at hv
  cases hv⟩
noncomputable def rhoD (En : Addr) (nm : Nat) (o : Int) (dr : Nat) (cs : List Nat) (aA : Addr) : Rho := ("left", .list (iD (fsN (aq nm) o 5).left)) :: ("folds", .list (bY (fsN (aq nm) o 5).folds)) :: rhoC En nm o dr cs aA
theorem phD {r : Nat} {P : aZ} (T : gF C) (nm : Nat) (o : Int) (dr : Nat) (cs : List Nat) (h1 : -10000 <= o) (h2 : o <= 10000) (aA : Addr) (ds : List D) (ad : bA C ds) (hl : ds.length = 3) (pl : PlainP (aq nm) o)
  (k : ∀ ds', bA C ds' -> ds'.length = 6 -> X C (r + 16) aQ (aa aQ) (("safe", .list (nrD (dG (aq nm)))) :: rhoD T.En nm o dr cs aA) [(aA, .list ds')] (cU 14) P) :
  X C (r + 16) aQ (aa aQ) (rhoC T.En nm o dr cs aA) [(aA, .list ds)] (cU 10) P := by
 have no := eN nm
 have nrok := rows_nr no
 have fo := folds_ok (r := r) T.fold no h1 h2
 have z5 := jO (nr := aq nm) h1 h2 5
 have sk := jF (aq nm) 22
 have ck := mj (aq nm) 5
 unfold foldD at fo
 rw [pl.back] at fo
 refine X.cons (X1.assign (.call T.fold.fn.gf (.cons .name (.cons .name (.cons .name .nil))) fo) .three ?_)
 refine X.cons (X1.tup (Q := fun ds2 own' => ds2 = [.list (iD (cD (aq nm) 5)), .list (nrD (dG (aq nm)))] /\ own' = [(aA, .list ds)]) (EvM.val (.call T.core.gf (.cons .name .nil) (core_ok T.core nrok)) (EvM.val (.call T.safe.gf (.cons .name (.cons .name (.cons .name .nil))) (safe_ok T.safe T.fold.ent no)) (EvM.nil ⟨rfl, rfl⟩))) ?_)
 rintro ds2 own' ⟨rfl, rfl⟩
 let sz : List Nat -> D := fun part => .tup [.int (part.length : Nat), .int (iR (aq nm) part : Nat)]
 refine X.cons (X1.setLC (fun l : List Nat => D.list (iD l)) kJ (xs := [(fsN (aq nm) o 5).left, cD (aq nm) 5]) (p := fun _ => true) (f := sz) (.list (.lst (.cons .name (.cons .name .nil)))) (fun _ _ => .nil) (fun part hp _ => ?_) (show 2 <= 1048576 by decide) ?_)
 ·have hp5 : part.length <= 5 /\ ∀ u ∈ part, u < 5 := by
   rcases List.mem_cons.mp hp with q | q
   ·rw [q]; exact ⟨z5.len, z5.lt⟩
   ·rw [List.mem_singleton.mp q]; exact ck
  refine .tp (.cons (.lenL .name (dB _)) (.cons (.lenL (.as (EvF.one (.lcN (xs := part) (ys := nb (aq nm)) (p := fun u v => part.contains v) (f := fun u v => .int (v : Nat)) (.list .name) (fun u hu => .list (.atL .name .name (cZ no.len (hp5.2 u hu)) (by have := hp5.2 u hu; lia))) (fun u hu v hv => .one (.cmp .name .name .inN)) (fun _ _ _ _ _ => .name) (by lia) (fun u hu => by have := nrok.row u (hp5.2 u hu); lia))) (congrArg D.list (two_iD ..))) ?_) .nil))
  rw [dB]
  unfold iR
  refine congrArg List.length (congrArg (List.flatMap · part) (funext fun u => ?_))
  exact List.map_id _
 rw [List.filter_eq_self.mpr fun _ _ => rfl]
 have es : sz (cD (aq nm) 5) = sz (fsN (aq nm) o 5).left := by
  show D.tup [.int (_ : Nat), .int (_ : Nat)] = .tup [.int (_ : Nat), .int (_ : Nat)]
  rw [pl.size, pl.link]
 have hl1 : ((cD (aq nm) 5).length == 1) = ((fsN (aq nm) o 5).left.length == 1) := by rw [pl.size]
 let em : D := .list (List.replicate 5 (.bool ((fsN (aq nm) o 5).left.length == 1)))
 have ee : D.list ((dG (aq nm)).map fun row => .bool row.isEmpty) = em := by
  refine congrArg D.list ?_
  have : (dG (aq nm)).map (fun row => D.bool row.isEmpty) = (List.range 5).map fun c => D.bool (nb (dG (aq nm)) c).isEmpty := by
   refine List.ext_getElem (by rw [List.length_map, List.length_map, sk.1.len, List.length_range]) fun c hc hc2 => ?_
   rw [List.length_map, List.length_range] at hc2
   rw [List.getElem_map, List.getElem_map, List.getElem_range]
   unfold nb
   rw [List.getD_eq_getElem?_getD, List.getElem?_eq_getElem (by rw [sk.1.len]; exact hc2), Option.getD_some]
  rw [this, List.map_congr_left fun c hc => by rw [pl.emp c (List.mem_range.mp hc)]]
  rfl
 refine X.cons (X1.extend (i := 0) (.name rfl) rfl (.lst (.cons (.tp (.cons .name (.cons .name .nil))) (.cons (.tp (.cons (.atL (k := 0) .name .int rfl) (.cons (.as (.atL (k := 1) .name .int rfl) es) .nil))) (.cons (.tp (.cons (.as (EvF.one (.lcA (fun l : List Nat => D.list (iD l)) kJ (xs := dG (aq nm)) (f := fun row => .bool row.isEmpty) (.list .name) (fun row hr => .cmp .name (.lst .nil) .eqNilN) (by rw [sk.1.len]; decide))) ee) (.cons (.bin (.lst (.cons (.cmp (.lenL .name (dB _)) .int (.eqN (y := 1))) .nil)) .int (.rep (n := 5) (by decide) (by decide))) .nil))) .nil)))) (by rw [hl]; show 3 + 3 <= 1048576; decide) ?_)
 have a1 : Agr C (.tup [.int o, .int o]) := .same .int
 have a2 : Agr C (.tup [sz (fsN (aq nm) o 5).left, sz (fsN (aq nm) o 5).left]) := .same (.two (k := 59) .int .int)
 have a3 : Agr C (.tup [em, em]) := .same (.list (k := 59) fun d hd => by rw [List.eq_of_mem_replicate hd]; exact .bool)
 exact X.weaken (by unfold rhoD rhoC; (repeat (first | exact Sub.nil | refine Sub.cons (by rfl) ?_))) (k _ (ad.add (.cons a1 (.cons a2 (.one a3)))) (by rw [List.length_append, hl]; rfl))
theorem phE {r : Nat} {P : aZ} (En : Addr) (nm : Nat) (o : Int) (dr : Nat) (cs : List Nat) (aA : Addr) (ds : List D) (ad : bA C ds) (hl : ds.length = 6) (pl : PlainP (aq nm) o)
  (k : ∀ ds', bA C ds' -> ds'.length <= 31 -> X C r aQ (aa aQ) (rhoD En nm o dr cs aA) [(aA, .list ds')] (cU 15) P) :
  X C r aQ (aa aQ) (("safe", .list (nrD (dG (aq nm)))) :: rhoD En nm o dr cs aA) [(aA, .list ds)] (cU 14) P := by
 have no := eN nm
 have sk : bR (dG (aq nm)) := (jF (aq nm) 22).1
 have pls := pl.safe
 unfold badN at pls
 generalize dG (aq nm) = sf at sk pls ⊢
 have nlt : ∀ u, u < 5 -> ∀ x ∈ nb (aq nm) u, x < 5 := fun u hu => (bu _ (no.sub u hu)).2
 have nl5 : ∀ u, u < 5 -> (nb (aq nm) u).length <= 5 := fun u hu => (bu _ (no.sub u hu)).1
 let R : Rho := ("safe", .list (nrD (sf))) :: rhoD En nm o dr cs aA
 refine X.loopR (σ := List D) (fun k : Nat => D.int (k : Nat)) (fun i ds' => bA C ds' /\ ds'.length <= 6 + 5 * i) (fun _ _ => R) (fun _ ds' => [(aA, .list ds')]) ds (.rangeN (n := 5) .int (by decide)) (fun _ _ e => e) ⟨ad, by lia⟩ (fun d d1 hd hJ => ?_) fun d1 hJ => ?_
 ·have rd := sk.sub d hd
  have rlt := bu _ rd
  have nx : ∀ ρ2 d2, Sub R ρ2 -> bA C d2 -> d2.length <= 6 + 5 * (d + 1) -> cT (fun i ds' => bA C ds' /\ ds'.length <= 6 + 5 * i) (fun _ _ => R) (fun _ ds' => [(aA, .list ds')]) (d + 1) ρ2 [(aA, .list d2)] := fun ρ2 d2 s a l => .mk d2 ⟨a, l⟩ s
  generalize cT (fun i ds' => bA C ds' /\ ds'.length <= 6 + 5 * i) (fun _ _ => R) (fun _ ds' => [(aA, .list ds')]) (d + 1) = LI at nx ⊢
  refine X.loop (σ := List D) (xs := nb (sf) d) (fun n : Nat => D.int n) (fun j ds' => bA C ds' /\ ds'.length <= 6 + 5 * d + j) (fun _ _ => ("d", .int (d : Nat)) :: R) (fun _ ds' => [(aA, .list ds')]) d1 (.list (.atL .name .name (cZ sk.len hd) (by lia))) (fun _ _ e => e) ⟨hJ.1, hJ.2⟩ (fun j u d2 hj hJ2 => ?_) fun d2 hJ2 => ?_
  ·have nx2 : ∀ ρ2 d3, Sub (("d", .int (d : Nat)) :: R) ρ2 -> bA C d3 -> d3.length <= 6 + 5 * d + (j + 1) -> cT (fun j ds' => bA C ds' /\ ds'.length <= 6 + 5 * d + j) (fun _ _ => ("d", .int (d : Nat)) :: R) (fun _ ds' => [(aA, .list ds')]) (j + 1) ρ2 [(aA, .list d3)] := fun ρ2 d3 s a l => .mk d3 ⟨a, l⟩ s
   generalize cT (fun j ds' => bA C ds' /\ ds'.length <= 6 + 5 * d + j) (fun _ _ => ("d", D.int (d : Nat)) :: R) (fun _ ds' => [(aA, .list ds')]) (j + 1) = LI2 at nx2 ⊢
   have um := List.mem_of_getElem? hj
   have hu := rlt.2 u um
   have hb := pls d hd u um
   have hjl := (List.getElem?_eq_some_iff.mp hj).1
   refine X.cons (X1.append (i := 0) (.name rfl) rfl (d := .tup [.list [], .list []]) (.tp (.cons (.as (EvF.one (.lc (fun n : Nat => D.int n) bB (xs := nb (aq nm) d) (p := fun c => (c == u) || ((nb (aq nm) u).filter fun x => (nb sf c).contains x).isEmpty) (f := fun n : Nat => D.int n) (.list (.atL .name .name (cZ no.len hd) (by lia)))
    (fun c hc => .one (.boolop (d8.as (.or_cons (.cmp .name .name .eqN) fun _ => .or_cons (.cmp (EvF.one (.lc (fun n : Nat => D.int n) bB (xs := nb (aq nm) u) (p := fun x => (nb sf c).contains x) (f := fun n : Nat => D.int n) (.list (.atL .name .name (cZ no.len hu) (by lia))) (fun x hx => .one (.cmp .name (.atL .name .name (cZ sk.len (nlt d hd c hc)) (by have := nlt d hd c hc; lia)) .inN)) (fun _ _ _ => .name) (by have := nl5 u hu; lia))) (.lst .nil) .eqNilN) fun _ => .or_nil) (by rw [Bool.or_false]))))
    (fun _ _ _ => .name) (by have := nl5 d hd; lia))) ?_) (.cons (.lst .nil) .nil))) (by have := hJ2.2; lia) (X.nil ?_))
   ·rw [hb]; rfl
   ·exact nx2 _ (d2 ++ [D.tup [D.list [], D.list []]]) (by (repeat (first | exact Sub.nil | refine Sub.cons (by rfl) ?_))) (hJ2.1.add (.one (.same (.list (k := 59) fun d hd => by cases hd)))) (by rw [List.length_append]; show _ + 1 <= _; have := hJ2.2; lia)
  ·exact X.nil (nx _ _ (by (repeat (first | exact Sub.nil | refine Sub.cons (by rfl) ?_))) hJ2.1 (by have := hJ2.2; have := rlt.1; lia))
 ·exact X.weaken (by show Sub (rhoD En nm o dr cs aA) R; unfold R rhoD rhoC; (repeat (first | exact Sub.nil | refine Sub.cons (by rfl) ?_))) (k d1 hJ.1 (by have := hJ.2; lia))
theorem X1.setLC2 {α : Type} {r : Nat} {sc scope : Scope} {ρ : Rho} {own : Own} {P : aZ} {y : Str} {py spos pos : Pos} {iter elt : Expr} {ifs : List Expr} (g1 g2 : α -> D) (inj : ∀ x y, D.tup [g1 x, g2 x] = .tup [g1 y, g2 y] -> x = y) {t1 t2 : Str} {k : Nat} {p1 p2 tp : Pos} {xs : List α} {p : α -> Bool} {f : α -> D}
  (src : EvI C r sc ρ own (.Tuple [.Name t1 p1, .Name t2 p2] k tp) iter (xs.map fun x => .tup [g1 x, g2 x]))
  (tst : ∀ x ∈ xs, di C r scope ((t2, g2 x) :: (t1, g1 x) :: aK scope ρ) own ifs (p x)) (el : ∀ x ∈ xs, p x = true -> Ev C r scope ((t2, g2 x) :: (t1, g1 x) :: aK scope ρ) own elt (f x)) (len : xs.length <= 1048576)
  (pp : P .next ((y, .list ((xs.filter p).map f)) :: ρ) own)
  (nt1 : autoParam ((aK scope ρ).lookup t1 = none) tacR) (nt2 : autoParam ((aK scope ρ).lookup t2 = none) tacR) (k1 : autoParam (Sto scope (aa scope) t1) tacS) (k2 : autoParam (Sto scope (aa scope) t2) tacS) (cap : autoParam (jC sc scope ρ = true) tacR) (hk : autoParam (scope.kind = .function) tacR) (hn : autoParam (dK scope.names = true) tacR)
  (hs : autoParam (∀ env x, foldedSetIterable iter env x = pure x) tacI2) (ky : autoParam (Sto sc (aa sc) y) tacS)
  (hsw : ∀ env line, env.scope = sc -> swapsWithSole [.Name y py] (.ListComp elt [⟨.Tuple [.Name t1 p1, .Name t2 p2] k tp, iter, ifs, 0⟩] scope pos) line env = pure true := by intro env line e; cases env; cases e; rfl) :
  X1 C r sc (aa sc) ρ own (.Assign [.Name y py] (.ListComp elt [⟨.Tuple [.Name t1 p1, .Name t2 p2] k tp, iter, ifs, 0⟩] scope pos) spos) P := by
 have X := lc_in (fun x => .tup [g1 x, g2 x]) inj (fun x ρ => (t2, g2 x) :: (t1, g1 x) :: ρ) (p := p) src dM (fun x => lookup_two nt1 nt2) (fun x => Asg.tup (jW.cons (u1 := fun ρ => (t1, g1 x) :: ρ) (u2 := fun ρ => (t2, g2 x) :: ρ) (.name k1) (jW.cons (u1 := fun ρ => (t2, g2 x) :: ρ) (u2 := id) (.name k2) .nil)) rfl) tst len cap hk hn hs
 refine X1.assignComp (fun {A env W h₀ h tk Q E use} R G S cont u hu => ?_) ky (.inl ⟨_, rfl⟩) hsw pp
 subst hu
 unfold evalThenUse
 refine wpAny_bind (wpAny_mono (Q := fun _ s' => Q .none s') (mq (use := some u) (Q := fun _ s' => Q .none s') (f := back (fun x => .tup [g1 x, g2 x]) f) X (fun d hd hp => ?_) R G S fun D Lc H tkH m a1 a2 a3 a4 a5 a6 z => cont D Lc H tkH m a1 a2 a3 a4 a5 a6 ?_) (fun _ _ q => wpAny_pure q) fun _ _ q => q)
 ·obtain ⟨x, hx, rfl⟩ := List.mem_map.mp hd
  rw [cj (fun x => .tup [g1 x, g2 x]) inj] at hp ⊢
  rw [cj (fun x => .tup [g1 x, g2 x]) inj]
  exact el x hx hp
 ·rw [lw (fun x => .tup [g1 x, g2 x]) inj] at z; exact z
variable {C : Cfg} {r : Nat} {sc : Scope} {O : Str -> Prop} {ρ : Rho} {own : Own} {P : aZ}
theorem X1.assignCompOwn {y : Str} {py pos : Pos} {e : Expr} {d : D}
  (run : ∀ {A env W h₀ h tk} {Q : Value -> Shared -> Prop} {E : Value -> Shared -> Prop} {use : Option (Value -> Sem Unit)}, bL r A -> GlobOf env sc -> St C W h₀ env O ρ own h ->
   (∀ D Lc H tkH m, h.get? D = Option.none -> h.get? Lc = Option.none -> D ≠ Lc -> D ≠ sysModules -> Ext C h H -> H.Ns Lc m -> bc C (fun b => Wof W own b ∨ b = D ∨ b = Lc) H D d -> compPost (md C) A E use Q (.ref D) Lc (.ok .next) (sh C H tkH)) ->
   ∀ u, use = some u -> wpAny (md C) A (evalThenUse e env u) (fun _ s' => Q .none s') E (sh C h tk))
  (k : Sto sc O y) (hsw : ∀ env line, env.scope = sc -> swapsWithSole [.Name y py] e line env = pure true) (p : ∀ D, P .next ((y, .own D) :: ρ) ((D, d) :: own)) :
  X1 C r sc O ρ own (.Assign [.Name y py] e pos) P := by
 constructor; intro A env W h₀ h R G S tk qQ qE qK
 rw [arm_exec_Assign]
 refine wpAny_bind (wpAny_standAt (wpAny_bind ?_))
 rw [hsw env _ G]
 refine wpAny_pure ?_
 simp only [if_true]
 refine wpAny_bind ?_
 refine run (use := some _) (Q := fun _ s' => wpAny (md C) A (pure Flow.next : Sem Flow) _ _ s') R (az G) S (fun D Lc H tkH m a1 a2 a3 a4 a5 a6 z => ?_) _ rfl
 show wpAny (md C) A (PySem.assign (.Name y py) env (.ref D)) _ _ _
 have S1 := S.ext a5
 refine wpAny_assign_Name ((S1.storeRaw (A := A) (v := .ref D) (bQ G y k)).use ?_)
 rintro _ h2 tk2 ⟨a, hs, nc, ma, wa, fa, f0, ex, hns, bx, by', cl⟩
 have aL : Lc ≠ a := fun q => by
  have := S.wOld a wa
  rw [<- q, a2] at this; exact this rfl
 refine ⟨m, a6.sameBut hs aL, fun h3 hs3 => wpAny_pure (qK _ h3 _ ⟨.next, (y, .own D) :: ρ, (D, d) :: own, p D, ?_, trivial, ?_, fun b q => ?_⟩)⟩
 ·have kk : Kp (fun b => C.Tb b ∨ b = a) h h3 := fun b o q n => hs3.extBut b o (fun w => by rw [w, a2] at q; cases q) (hs.extBut b o (fun w => n (.inr w)) (a5.1 b o q fun w => n (.inl w)))
  have k23 : ∀ b o, b ≠ Lc -> h2.get? b = some o -> h3.get? b = some o := fun b o n q => hs3.extBut b o n q
  have I3 : Inv C h3 := (a5.2.extBut fa nc hs.extBut).extBut (S.inv.fresh_of_none a2) (mJ (a6.sameBut hs aL)) hs3.extBut
  have wa' : Wof W own a := .inl wa
  have hsS : ∀ c, (C.Tb c ∨ c = a) -> Wof W own c := fun c q => q.elim (S.tw c) fun q => q ▸ wa'
  have nsL : ∀ b, Seen env b -> b ≠ Lc := by
   rintro b (q | ⟨x, q⟩) w
   ·exact S.exists_loc (by rw [<- q, w]; exact a2)
   ·exact (S.seen x b q).1 (by rw [w]; exact a2)
  have kL : Kp (fun b => b = Lc) h2 h3 := fun b o q n => k23 b o n q
  have hw : ∀ b, Wof W ((D, d) :: own) b -> Wof W own b ∨ b = D := by
   rintro b (q | q)
   ·exact .inl (.inl q)
   ·rcases List.mem_cons.mp q with q | q
    ·exact .inr q
    ·exact .inl (.inr q)
  have hw2 : ∀ b, Wof W own b -> Wof W ((D, d) :: own) b := by
   rintro b (q | q)
   ·exact .inl q
   ·exact .inr (List.mem_cons_of_mem _ q)
  have hk : ∀ b o, h.get? b = some o -> Wof W ((D, d) :: own) b -> Wof W own b := fun b o e q => (hw b q).elim id fun q => by rw [q, a1] at e; cases e
  have nw : ¬ Wof W own D := fun q => S.wOld' D q a1
  have DnA : ¬ (D = a ∨ D = Lc) := fun q => q.elim (fun q => nw (q ▸ wa')) a3
  have S3 : St C W h₀ env O [] own h3 := by
   refine S.touch kk I3 fa f0 wa' ?_ rfl ?_ (fun x e hx => by cases hx) (fun x hx => ?_) (fun q hq => ?_)
   ·exact ex.keep fun o q => k23 a o (Ne.symm aL) q
   ·obtain ⟨m, n⟩ := hns
    exact ⟨m, jA kL (nsL _ (.inl rfl)) n⟩
   ·obtain ⟨c, v, l, ci⟩ := cl x hx
    exact ⟨c, v, l, bZ kL (nsL _ (.inr ⟨x, l⟩)) ci⟩
   ·obtain ⟨o1, nw, _⟩ := S.owns q hq
    exact o1.but kk wa' S.tw fun z => z.elim (fun z => nw (S.tbW _ z)) fun z => nw (z ▸ wa)
  refine { S3 with bound := fun x e hx => ?_, owns := fun q hq => ?_, nodup := ?_ }
  ·rw [ak] at hx
   by_cases q : x = y
   ·rw [if_pos q] at hx; cases hx; subst q
    exact ⟨.ref D, bx.kp' kL nsL, show VT C _ _ _ _ (.own D) from rfl⟩
   ·rw [if_neg q] at hx
    obtain ⟨u, b, zz⟩ := S.bound x e hx
    have b1 : Bound env H x u := b.kp a5.1 (fun m n => S.inv.ns_notTb n) (fun c v e => S.inv.cell_notTb e)
    exact ⟨u, (by' x u q b1).kp' kL nsL, zz.kp kk hsS hk fun b q => List.mem_cons_of_mem _ q⟩
  ·rcases List.mem_cons.mp hq with rfl | hq
   ·have kS : Kp (fun b => b = a ∨ b = Lc) H h3 := fun b o q n => k23 b o (fun w => n (.inr w)) (hs.extBut b o (fun w => n (.inl w)) q)
    refine ⟨z.kp2 (W' := Wof W ((D, d) :: own)) kS (fun b q => q.elim (fun q => .inl (q ▸ wa')) fun q => .inr (.inr q)) (fun b _ _ q => (hw b q).imp id .inl) DnA, fun q => nw (.inl q), S.inv.fresh_of_none a1, ?_⟩
    cases e : h₀.get? D with
    | none => rfl
    | some o' =>
     by_cases t : C.Tb D
     ·obtain ⟨vs, e'⟩ := C.tabHas h S.inv.2 D t; rw [a1] at e'; cases e'
     ·rw [S.keep D o' e t] at a1; cases a1
   ·obtain ⟨o1, w1, r1⟩ := S.owns q hq
    exact ⟨o1.kp kk hsS hk (fun b q => hw2 b q) (fun z => z.elim (fun z => w1 (S.tbW _ z)) fun z => w1 (z ▸ wa)), w1, r1⟩
  ·refine List.nodup_cons.mpr ⟨fun q => ?_, S.nodup⟩
   exact S.wOld' D (.inr q) a1
 ·exact fun b o q n => hs3.extBut b o (fun w => by rw [w, a2] at q; cases q) (hs.extBut b o (fun w => n (by rw [w]; exact lC.mut ma)) (a5.1 b o q fun w => n (.inl w)))
 ·rcases List.mem_cons.mp q with q | q
  ·exact .inr (q ▸ a1)
  ·exact .inl q
theorem X1.setDC {α : Type} {scope : Scope} {y : Str} {py spos pos : Pos} {iter kx vx : Expr} (g : α -> D) (inj : ∀ x y, g x = g y -> x = y) {tx : Str} {tp : Pos} {xs : List α} {f : α -> Str × D} (src : EvI C r sc ρ own (.Name tx tp) iter (xs.map g))
  (ek : ∀ x ∈ xs, Ev C r scope ((tx, g x) :: aK scope ρ) own kx (.str (f x).1)) (el : ∀ x ∈ xs, Ev C r scope ((tx, g x) :: aK scope ρ) own vx (f x).2) (len : xs.length <= 1048576)
  (pp : ∀ D, P .next ((y, .own D) :: ρ) ((D, .dict (jz (xs.map f))) :: own))
  (nt : autoParam ((aK scope ρ).lookup tx = none) tacR) (k : autoParam (Sto scope (aa scope) tx) tacS) (cap : autoParam (jC sc scope ρ = true) tacR) (hk : autoParam (scope.kind = .function) tacR) (hn : autoParam (dK scope.names = true) tacR)
  (hs : autoParam (∀ env x, foldedSetIterable iter env x = pure x) tacI2) (ky : autoParam (Sto sc (aa sc) y) tacS)
  (hsw : ∀ env line, env.scope = sc -> swapsWithSole [.Name y py] (.DictComp kx vx [⟨.Name tx tp, iter, [], 0⟩] scope pos) line env = pure true := by intro env line e; cases env; cases e; rfl) :
  X1 C r sc (aa sc) ρ own (.Assign [.Name y py] (.DictComp kx vx [⟨.Name tx tp, iter, [], 0⟩] scope pos) spos) P := by
 have X := lc_in g inj (fun x ρ => (tx, g x) :: ρ) (p := fun _ => true) src dM (fun x y e q => by rw [ak, if_neg fun w => by rw [w, nt] at q; cases q]; exact q) (fun x => Asg.name k) (fun _ _ => .nil) len cap hk hn hs
 refine X1.assignCompOwn (fun {A env W h₀ h tk Q E use} R G S cont u hu => ?_) ky hsw pp
 subst hu
 unfold evalThenUse
 refine wpAny_bind (wpAny_mono (Q := fun _ s' => Q .none s') (comp_dict (use := some u) (Q := fun _ s' => Q .none s') (f := back g f) X (fun d hd hp => ?_) (fun d hd hp => ?_) R G S fun D Lc H tkH m a1 a2 a3 a4 a5 a6 z => cont D Lc H tkH m a1 a2 a3 a4 a5 a6 ?_) (fun _ _ q => wpAny_pure q) fun _ _ q => q)
 ·obtain ⟨x, hx, rfl⟩ := List.mem_map.mp hd
  rw [cj g inj, cj g inj]
  exact ek x hx
 ·obtain ⟨x, hx, rfl⟩ := List.mem_map.mp hd
  rw [cj g inj, cj g inj]
  exact el x hx
 ·rw [lw g inj, List.filter_eq_self.mpr fun _ _ => rfl] at z; exact z
theorem dput_new {kvs : List (Str × D)} {k : Str} {d : D} (h : k ∉ kvs.map (·.1)) : dput kvs k d = kvs ++ [(k, d)] := by
 unfold dput
 rw [if_neg]
 intro q
 obtain ⟨p, hp, e⟩ := List.any_eq_true.mp q
 exact h (List.mem_map.mpr ⟨p, hp, by simpa using e⟩)
theorem dputs_nodup (l : List (Str × D)) (h : (l.map (·.1)).Nodup) : jz l = l := by
 have key : ∀ (r acc : List (Str × D)), ((acc ++ r).map (·.1)).Nodup -> r.foldl (fun acc kv => dput acc kv.1 kv.2) acc = acc ++ r := by
  intro r
  induction r with
  | nil => intro acc _; simp
  | cons p r ih =>
   intro acc nd
   have np : p.1 ∉ acc.map (·.1) := by
    rw [List.map_append, List.nodup_append] at nd
    intro q
    exact nd.2.2 _ q p.1 (by simp) rfl
   rw [List.foldl_cons, dput_new np, ih _ (by simpa using nd)]
   simp
 exact (key l [] h).trans (List.nil_append l)
noncomputable def cG (nr : aH) (o : Int) (dr : Nat) : List Row := gk (fsN nr o 5).left (fsN nr o 5).folds.reverse (dr / 32) (fsN nr o 5).folds.length
noncomputable def cA (dr : Nat) (x : Row) : Str := x.1 ++ ty dr x.2
noncomputable def wsF (nr : aH) (o : Int) (dr i : Nat) : Ws := fH (cA dr ((cG nr o dr).getD i bO))
noncomputable def uF (nr : aH) (o : Int) (dr i : Nat) : Nat := ((cG nr o dr).getD i bO).2
noncomputable def abF (nr : aH) (o : Int) (dr k : Nat) : List Nat := (List.range k).filter fun j => (wsF nr o dr j).less (wsF nr o dr k)
noncomputable abbrev fR (nr : aH) (o : Int) : List (Nat × Nat) := (fsN nr o 5).folds.reverse
noncomputable def kvT (π : Nat -> Str) (l : List Nat) : List (Str × Str) := l.map fun u => (tn u, π u)
structure gY (nr : aH) (o : Int) (dr : Nat) (π : Nat -> Str) : Prop where
 own : ∀ k, k < (fsN nr o 5).folds.length -> ((fR nr o).getD k (0, 0)).2 ∈ (fsN nr o 5).left ∨ ∃ j, j < k /\ ((fR nr o).getD j (0, 0)).1 = ((fR nr o).getD k (0, 0)).2
 rlen : (cG nr o dr).length = 5
 row : ∀ x ∈ cG nr o dr, x.2 < 5 /\ x.1.length <= 15 /\ (ty dr x.2).length <= 20 /\ jd (cA dr x) (tn x.2)
 rnd : ((cG nr o dr).map (·.2)).Nodup
 rall : ∀ u, u < 5 -> u ∈ (cG nr o dr).map (·.2)
 trail : ∀ k, k < 5 -> (abF nr o dr k = [] /\ π (uF nr o dr k) = ("/" ++ tn (uF nr o dr k)) ++ "/") ∨ ∃ j, j < k /\ (abF nr o dr k).getLast? = some j /\ π (uF nr o dr k) = (π (uF nr o dr j) ++ tn (uF nr o dr k)) ++ "/"
 dueL : ∀ u ∈ (fsN nr o 5).left, π u = ("/" ++ tn u) ++ "/"
 dueF : ∀ k, k < (fsN nr o 5).folds.length -> π ((fR nr o).getD k (0, 0)).1 = (π ((fR nr o).getD k (0, 0)).2 ++ tn ((fR nr o).getD k (0, 0)).1) ++ "/"
 keys : ((fsN nr o 5).left ++ (fR nr o).map (·.1)).Nodup
 kall : ∀ u, u < 5 -> u ∈ (fsN nr o 5).left ++ (fR nr o).map (·.1)
 klt : ∀ u ∈ (fsN nr o 5).left ++ (fR nr o).map (·.1), u < 5
 klen : (fsN nr o 5).left.length + (fsN nr o 5).folds.length = 5
 plen : ∀ u, u < 5 -> (π u).length <= 100
theorem ws_small {s : Str} (hl : s.length <= 40) : (fH s).small := by
 have hb := mD s.cps.toList 0 0 [] 0
 have : s.cps.toList.length = s.length := by simp [Str.length]
 unfold Ws.small fH
 dsimp only at hb ⊢
 simp only [List.length_nil] at hb
 lia
theorem place_last (n : Nat) : place (n + 1) (-1) = n := by unfold place; rw [if_pos (by decide)]; lia
theorem tn_inj {a b : Nat} (ha : a < 5) (hb : b < 5) (e : tn a = tn b) : a = b := by
 have := tn_beq a ha b hb
 rw [e, beq_self_eq_true] at this
 exact eq_of_beq this.symm
theorem kv_nodup {π : Nat -> Str} {l : List Nat} (nd : l.Nodup) (lt : ∀ u ∈ l, u < 5) : ((aY (kvT π l)).map (·.1)).Nodup := by
 unfold aY kvT
 rw [List.map_map, List.map_map]
 exact List.Pairwise.map _ (fun _ _ q => q) (nd.imp_of_mem fun {a b} ha hb q e => q (tn_inj (lt a ha) (lt b hb) e))
theorem kv_get {π : Nat -> Str} {u : Nat} (hu : u < 5) : ∀ {l : List Nat}, u ∈ l -> (∀ v ∈ l, v < 5) -> (aY (kvT π l)).lookup (tn u) = some (.str (π u))
 | v :: l, h, lt => by
  show List.lookup (tn u) ((tn v, .str (π v)) :: aY (kvT π l)) = _
  rw [ak]
  by_cases e : tn u = tn v
  ·rw [if_pos e, tn_inj hu (lt v (.head _)) e]
  ·rw [if_neg e]
   refine kv_get hu ((List.mem_cons.mp h).resolve_left fun q => e (by rw [q])) fun w hw => lt w (.tail _ hw)
noncomputable def uL (nr : aH) (o : Int) (dr : Nat) : List Nat := (cG nr o dr).map (·.2)
noncomputable def trL (nr : aH) (o : Int) (dr : Nat) (π : Nat -> Str) (k : Nat) : List Str := (List.range k).map fun i => π (uF nr o dr i)
noncomputable abbrev shL (nr : aH) (o : Int) (dr : Nat) : List Str := (cG nr o dr).map (cA dr)
noncomputable def rhoG (T : gF C) (nm : Nat) (o : Int) (dr : Nat) (cs : List Nat) (aA aT aW : Addr) : Rho :=
 ("way", .own aW) :: ("trail", .own aT) :: ("leads", .list ((shL (aq nm) o dr).map fun s => (fH s).d T.Wh)) :: ("sheets", .list (au (shL (aq nm) o dr))) :: rhoD T.En nm o dr cs aA
noncomputable def ownG (nr : aH) (o : Int) (dr : Nat) (π : Nat -> Str) (aA aT aW : Addr) (ds : List D) (k : Nat) : Own := [(aW, .dict (aY (kvT π ((uL nr o dr).take k)))), (aT, .list (au (trL nr o dr π k))), (aA, .list ds)]
theorem sheet_len {nr : aH} {o : Int} {dr : Nat} {π : Nat -> Str} (F : gY nr o dr π) {s : Str} (h : s ∈ shL nr o dr) : s.length <= 40 := by
 obtain ⟨x, hx, rfl⟩ := List.mem_map.mp h
 obtain ⟨_, h2, h3, _⟩ := F.row x hx
 unfold cA
 rw [cL]; lia
theorem phG {r : Nat} {P : aZ} (T : gF C) (nm : Nat) (o : Int) (dr : Nat) (cs : List Nat) (aA : Addr) (ds : List D) (π : Nat -> Str) (F : gY (aq nm) o dr π) (h1 : -10000 <= o) (h2 : o <= 10000)
  (k : ∀ aT aW, X C (r + 20) aQ (aa aQ) (rhoG T nm o dr cs aA aT aW) (ownG (aq nm) o dr π aA aT aW ds 0) (cU 17) P) :
  X C (r + 20) aQ (aa aQ) (rhoD T.En nm o dr cs aA) [(aA, .list ds)] (cU 15) P := by
 have z5 := jO (nr := aq nm) h1 h2 5
 have ho := outline_ok (r := r + 19) T.out (fsN (aq nm) o 5).left (fsN (aq nm) o 5).folds (dr / 32) z5.len z5.f5 F.own
 have l5 := F.rlen
 refine X.cons (X1.setLC2 (fun x : Row => .str x.1) (fun x => .int x.2) rowInj (xs := cG (aq nm) o dr) (p := fun _ => true) (f := fun x => .str (cA dr x)) (EvI.list (.call T.out.gf (.cons .name (.cons .name (.cons (.divN .name) .nil))) ho)) (fun _ _ => .nil) (fun x hx _ => ?_) (by lia) ?_)
 ·obtain ⟨h1, h2, h3, _⟩ := F.row x hx
  exact .bin .name (.atL (k := x.2) (d := .str (ty dr x.2)) .name .name (by unfold au lK; rw [List.getElem?_map, List.getElem?_map, List.getElem?_range h1]; rfl)) (.cat (by show _ <= sizeLine; unfold sizeLine; lia))
 rw [List.filter_eq_self.mpr fun _ _ => rfl]
 have es : (cG (aq nm) o dr).map (fun x => D.str (cA dr x)) = au (shL (aq nm) o dr) := by unfold au shL; rw [List.map_map]; rfl
 rw [es]
 refine X.cons (X1.tup (Q := fun ds2 own' => ∃ aT aW, ds2 = [.list ((shL (aq nm) o dr).map fun s => (fH s).d T.Wh), .own aT, .own aW] /\ own' = ownG (aq nm) o dr π aA aT aW ds 0) (EvM.val (EvF.one (.lcA D.str lM (xs := shL (aq nm) o dr) (f := fun s => (fH s).d T.Wh) (.list .name) (fun s hs => ?_) (by rw [List.length_map]; lia))) (EvM.new (.lst .nil) fun aT => EvM.new .dict0 fun aW => EvM.nil ⟨aT, aW, rfl, rfl⟩)) ?_)
 ·have := sheet_len F hs
  exact .new T.wname T.les.cl (.cons .name .nil) (winit_ok T.les.cl T.wname T.hS T.hT T.wini.at_ T.wini.d _ (by lia))
 rintro ds2 own' ⟨aT, aW, rfl, rfl⟩
 exact X.weaken (by unfold rhoG rhoD rhoC; (repeat (first | exact Sub.nil | refine Sub.cons (by rfl) ?_))) (k aT aW)
noncomputable def rhoH (En : Addr) (nm : Nat) (o : Int) (dr : Nat) (π : Nat -> Str) (cs : List Nat) (aA : Addr) : Rho := ("way", .dict (aY (kvT π (uL (aq nm) o dr)))) :: rhoD En nm o dr cs aA
theorem uL_lt {nr : aH} {o : Int} {dr : Nat} {π : Nat -> Str} (F : gY nr o dr π) : ∀ u ∈ uL nr o dr, u < 5 := fun u hu => by
 obtain ⟨x, hx, rfl⟩ := List.mem_map.mp hu
 exact (F.row x hx).1
theorem uL_nd {nr : aH} {o : Int} {dr : Nat} {π : Nat -> Str} (F : gY nr o dr π) : (uL nr o dr).Nodup := by unfold uL; exact F.rnd
theorem row_in {nr : aH} {o : Int} {dr : Nat} {π : Nat -> Str} (F : gY nr o dr π) {k : Nat} (h : k < 5) : (cG nr o dr).getD k bO ∈ cG nr o dr := getD_mem (by rw [F.rlen]; exact h)
theorem kv_keys (π : Nat -> Str) (l : List Nat) : (aY (kvT π l)).map (·.1) = l.map tn := by
 unfold aY kvT; rw [List.map_map, List.map_map]; rfl
theorem fresh_key {π : Nat -> Str} {l : List Nat} {k u : Nat} (nd : l.Nodup) (lt : ∀ v ∈ l, v < 5) (e : l.take (k + 1) = l.take k ++ [u]) : tn u ∉ (aY (kvT π (l.take k))).map (·.1) := fun q => by
 rw [kv_keys] at q
 obtain ⟨v, hv, q⟩ := List.mem_map.mp q
 have hu : u ∈ l := List.mem_of_mem_take (i := k + 1) (by rw [e]; exact List.mem_append_right _ (List.mem_singleton.mpr rfl))
 have := tn_inj (lt v (List.mem_of_mem_take hv)) (lt u hu) q
 have n2 : (l.take (k + 1)).Nodup := (List.take_sublist ..).nodup nd
 rw [e, List.nodup_append] at n2
 exact n2.2.2 v hv u (List.mem_singleton.mpr rfl) this
noncomputable def jG (aA : Addr) (left folds pages titles typed near number order drawn cells : D) : Rho := [("left", left), ("folds", folds), ("pages", pages), ("asked", .own aA), ("titles", titles), ("typed", typed), ("near", near), ("number", number), ("order", order), ("drawn", drawn), ("cells", cells)]
noncomputable def rhoW (Wh : Addr) (aT aW : Addr) (w : Nat -> Ws) (sh : Nat -> Str) (ρ : Rho) : Rho := ("way", .own aW) :: ("trail", .own aT) :: ("leads", .list ((List.range 5).map fun i => (w i).d Wh)) :: ("sheets", .list ((List.range 5).map fun i => .str (sh i))) :: ρ
noncomputable def ownW (u : Nat -> Nat) (π : Nat -> Str) (aA aT aW : Addr) (ds : List D) (k : Nat) : Own := [(aW, .dict (aY (kvT π ((List.range k).map u)))), (aT, .list ((List.range k).map fun i => .str (π (u i)))), (aA, .list ds)]
theorem rg_at {g : Nat -> D} {n k : Nat} (h : k < n) : ((List.range n).map g)[k]? = some (g k) := by rw [List.getElem?_map, List.getElem?_range h]; rfl
theorem last_get (l : List D) (d : D) : (l ++ [d])[place (l ++ [d]).length (-1)]? = some d := by
 rw [List.length_append, show ([d] : List D).length = 1 from rfl, place_last, List.getElem?_append_right (Nat.le_refl _), Nat.sub_self]; rfl
theorem way_turn {r : Nat} {P : aZ} (T : gF C) (aA aT aW : Addr) (ds : List D) (π : Nat -> Str) (u : Nat -> Nat) (w : Nat -> Ws) (sh : Nat -> Str) (b1 b2 b3 b4 b5 b6 b7 b8 b9 b10 : D) {k : Nat} (hk : k < 5) (sm : ∀ j, j < 5 -> (w j).small)
  (cap : jd (sh k) (tn (u k))) (hu : u k < 5) (pl : ∀ j, j < 5 -> (π (u j)).length <= 100) (fresh : tn (u k) ∉ (aY (kvT π ((List.range k).map u))).map (·.1))
  (tr : let ab := (List.range k).filter fun j => (w j).less (w k); (ab = [] /\ π (u k) = ("/" ++ tn (u k)) ++ "/") ∨ ∃ j, j < k /\ ab.getLast? = some j /\ π (u k) = (π (u j) ++ tn (u k)) ++ "/")
  (nx : ∀ ρ2, Sub (rhoW T.Wh aT aW w sh (jG aA b1 b2 b3 b4 b5 b6 b7 b8 b9 b10)) ρ2 -> P .next ρ2 (ownW u π aA aT aW ds (k + 1))) :
  X C (r + 20) aQ (aa aQ) (("k", .int (k : Nat)) :: rhoW T.Wh aT aW w sh (jG aA b1 b2 b3 b4 b5 b6 b7 b8 b9 b10)) (ownW u π aA aT aW ds k) (nR ((parts (aP 24)).2.1.getD 17 iJ)) P := by
 have tl := (bC _ hu).2.2.2.1
 have htr : ((List.range (k + 1)).map fun i => D.str (π (u i))) = ((List.range k).map fun i => .str (π (u i))) ++ [.str (π (u k))] := by
  rw [List.range_succ, List.map_append]; rfl
 have hkv : aY (kvT π ((List.range (k + 1)).map u)) = aY (kvT π ((List.range k).map u)) ++ [(tn (u k), .str (π (u k)))] := by
  rw [List.range_succ, List.map_append]; unfold aY kvT; rw [List.map_append, List.map_append]; rfl
 have hkl : (aY (kvT π ((List.range k).map u))).length <= 5 := by unfold aY kvT; rw [List.length_map, List.length_map, List.length_map, List.length_range]; lia
 have hta : ∀ j, j < k -> ((List.range k).map fun i => D.str (π (u i)))[j]? = some (.str (π (u j))) := fun j hj => rg_at hj
 have htl : ((List.range k).map fun i => D.str (π (u i))).length = k := by rw [List.length_map, List.length_range]
 have hld : ∀ j, j < 5 -> ((List.range 5).map fun i => (w i).d T.Wh)[j]? = some ((w j).d T.Wh) := fun j h => rg_at h
 have hsh : ((List.range 5).map fun i => D.str (sh i))[k]? = some (.str (sh k)) := rg_at hk
 unfold ownW at nx ⊢
 rw [hkv, htr] at nx
 generalize aY (kvT π ((List.range k).map u)) = kvs at nx fresh hkl ⊢
 generalize ((List.range k).map fun i => D.str (π (u i))) = trs at nx hta htl ⊢
 refine X.cons (X1.setLC (fun n : Nat => D.int n) bB (xs := List.range k) (p := fun j => (w j).less (w k)) (f := fun n : Nat => D.int n) (.rangeN .name (by lia)) (fun j hj => ?_) (fun _ _ _ => .name) (by rw [List.length_range]; lia) ?_)
 ·have hj := List.mem_range.mp hj
  exact .one (.of (.callM T.les.cl T.les.les.m (.atL (k := j) .name .name (hld j (by lia)) (by lia)) (.cons (.atL (k := k) .name .name (hld k hk) (by lia)) .nil) (less_fn T.les _ _ (sm j (by lia)) (sm k hk))) rfl)
 dsimp only at tr
 generalize hab : (List.range k).filter (fun j => (w j).less (w k)) = ab at tr ⊢
 have hp1 := pl k hk
 refine X.cons (X1.append (i := 1) (d := .str (π (u k))) (.name rfl) rfl (Ev.peek (x := "trail") (i := 1) rfl rfl trivial ?_ rfl) (by rw [htl]; lia) ?_)
 ·rcases tr with ⟨e, q⟩ | ⟨j, hj, e, q⟩
  ·subst e
   rw [q] at hp1 ⊢
   have c1 : (("/" : Str) ++ tn (u k)).length = 1 + (tn (u k)).length := cL _ _
   exact .bin (.bin (.ifexp (c := false) (.of .name rfl) (fun t => by cases t) fun _ => .str) (.call T.cap.gf (.cons (.atL .name .name hsh (by lia)) .nil) (cap.fn T.cap)) (.cat (by show 1 + _ <= sizeLine; unfold sizeLine; lia))) .str (.cat (by show _ + 1 <= sizeLine; rw [c1]; unfold sizeLine; lia))
  ·obtain ⟨l, rfl⟩ : ∃ l, ab = l ++ [j] := by
    refine ⟨ab.dropLast, ?_⟩
    have hne : ab ≠ [] := fun q => by rw [q] at e; cases e
    rw [List.getLast?_eq_some_getLast hne] at e
    rw [<- Option.some.inj e]
    exact (List.dropLast_concat_getLast hne).symm
   have hll : (l ++ [j]).length <= 5 := by
    rw [<- hab]
    exact Nat.le_trans (List.length_filter_le _ _) (by rw [List.length_range]; lia)
   have hpj := pl j (by lia)
   have c1 : (π (u j) ++ tn (u k)).length = (π (u j)).length + (tn (u k)).length := cL _ _
   have hneg : (iD (l ++ [j]))[place (iD (l ++ [j])).length (-1)]? = some (.int (j : Nat)) := by
    unfold iD
    rw [List.map_append]
    exact last_get _ _
   rw [q]
   refine .bin (.bin (.ifexp (c := true) (.of (d := .list (iD (l ++ [j]))) .name ?_) (fun _ => .atL (k := j) .name (.sub (d := .int (j : Nat)) (.name (d := .list (iD (l ++ [j])))) (.un .int .neg) (.list (k := -1) hneg (by rw [dB, List.length_append]; show -(((l.length + 1 : Nat)) : Int) <= -1; lia) (by decide)) rfl cO) (hta j hj) (by lia)) fun t => by cases t) (.call T.cap.gf (.cons (.atL .name .name hsh (by lia)) .nil) (cap.fn T.cap)) (.cat (by show _ <= sizeLine; unfold sizeLine; lia))) .str (.cat (by show _ + 1 <= sizeLine; rw [c1]; unfold sizeLine; lia))
   show some (!(iD (l ++ [j])).isEmpty) = some true
   cases l <;> rfl
 have hneg : (trs ++ [D.str (π (u k))])[place (trs ++ [D.str (π (u k))]).length (-1)]? = some (.str (π (u k))) := last_get _ _
 refine X.cons (X1.setD (j := 0) (k := tn (u k)) (d := .str (π (u k))) rfl rfl (Ev.peek (x := "trail") (i := 1) rfl rfl trivial (.sub (d := .str (π (u k))) (.name (d := .list (trs ++ [D.str (π (u k))]))) (.un .int .neg) (.list (k := -1) hneg (by rw [List.length_append, htl]; show -(((k + 1 : Nat)) : Int) <= -1; lia) (by decide)) rfl cO) rfl) (.call T.cap.gf (.cons (.atL .name .name hsh (by lia)) .nil) (cap.fn T.cap)) (by lia) ?_)
 rw [dput_new fresh]
 exact X.nil (nx _ (by unfold rhoW jG; (repeat (first | exact Sub.nil | refine Sub.cons (by rfl) ?_))))
theorem way_loop {r : Nat} {P : aZ} (T : gF C) (aA aT aW : Addr) (ds : List D) (π : Nat -> Str) (u : Nat -> Nat) (w : Nat -> Ws) (sh : Nat -> Str) (b1 b2 b3 b4 b5 b6 b7 b8 b9 b10 : D) (sm : ∀ j, j < 5 -> (w j).small)
  (cap : ∀ k, k < 5 -> jd (sh k) (tn (u k))) (hu : ∀ k, k < 5 -> u k < 5) (pl : ∀ j, j < 5 -> (π (u j)).length <= 100) (nd : ((List.range 5).map u).Nodup)
  (tr : ∀ k, k < 5 -> let ab := (List.range k).filter fun j => (w j).less (w k); (ab = [] /\ π (u k) = ("/" ++ tn (u k)) ++ "/") ∨ ∃ j, j < k /\ ab.getLast? = some j /\ π (u k) = (π (u j) ++ tn (u k)) ++ "/")
  (k : X C (r + 20) aQ (aa aQ) (("way", .dict (aY (kvT π ((List.range 5).map u)))) :: jG aA b1 b2 b3 b4 b5 b6 b7 b8 b9 b10) [(aA, .list ds)] (cU 18) P) :
  X C (r + 20) aQ (aa aQ) (rhoW T.Wh aT aW w sh (jG aA b1 b2 b3 b4 b5 b6 b7 b8 b9 b10)) (ownW u π aA aT aW ds 0) (cU 17) P := by
 let R : Rho := rhoW T.Wh aT aW w sh (jG aA b1 b2 b3 b4 b5 b6 b7 b8 b9 b10)
 refine X.loopR (σ := Unit) (fun k : Nat => D.int (k : Nat)) (fun _ _ => True) (fun _ _ => R) (fun i _ => ownW u π aA aT aW ds i) () (.rangeN (n := 5) .int (by decide)) (fun _ _ e => e) trivial (fun k _ hk _ => ?_) fun _ _ => ?_
 ·refine way_turn T aA aT aW ds π u w sh b1 b2 b3 b4 b5 b6 b7 b8 b9 b10 hk sm (cap k hk) (hu k hk) pl ?_ (tr k hk) fun ρ2 s => .mk () trivial s
  have e : ((List.range 5).map u).take k = (List.range k).map u := by rw [<- List.map_take, List.take_range, Nat.min_eq_left (by lia)]
  have e1 : ((List.range 5).map u).take (k + 1) = (List.range (k + 1)).map u := by rw [<- List.map_take, List.take_range, Nat.min_eq_left (by lia)]
  have := fresh_key (π := π) (l := (List.range 5).map u) (k := k) (u := u k) nd (fun v hv => by
   obtain ⟨j, hj, rfl⟩ := List.mem_map.mp hv
   exact hu j (List.mem_range.mp hj)) (by rw [e, e1, List.range_succ, List.map_append]; rfl)
  rwa [e] at this
 ·refine X.freeze (i := 0) (x := "way") rfl rfl trivial (X.drop 0 (X.weaken ?_ k))
  show Sub (("way", .dict (aY (kvT π ((List.range 5).map u)))) :: jG aA b1 b2 b3 b4 b5 b6 b7 b8 b9 b10) (("way", .dict (aY (kvT π ((List.range 5).map u)))) :: R)
  unfold R rhoW jG; (repeat (first | exact Sub.nil | refine Sub.cons (by rfl) ?_))
theorem row5 {α : Type} {β : Type} (f : α -> β) (d : α) {l : List α} (h : l.length = 5) : l.map f = (List.range 5).map fun i => f (l.getD i d) := by
 refine List.ext_getElem (by rw [List.length_map, List.length_map, h, List.length_range]) fun c hc hc2 => ?_
 rw [List.length_map] at hc
 rw [List.getElem_map, List.getElem_map, List.getElem_range, List.getD_eq_getElem?_getD, List.getElem?_eq_getElem hc, Option.getD_some]
theorem phH {r : Nat} {P : aZ} (T : gF C) (nm : Nat) (o : Int) (dr : Nat) (cs : List Nat) (aA aT aW : Addr) (ds : List D) (π : Nat -> Str) (F : gY (aq nm) o dr π)
  (k : X C (r + 20) aQ (aa aQ) (rhoH T.En nm o dr π cs aA) [(aA, .list ds)] (cU 18) P) :
  X C (r + 20) aQ (aa aQ) (rhoG T nm o dr cs aA aT aW) (ownG (aq nm) o dr π aA aT aW ds 0) (cU 17) P := by
 have eu : uL (aq nm) o dr = (List.range 5).map (uF (aq nm) o dr) := by
  have h := F.rlen
  unfold uL
  show _ = (List.range 5).map fun i => ((cG (aq nm) o dr).getD i bO).2
  generalize cG (aq nm) o dr = rs at h ⊢
  exact row5 (fun x : Row => x.2) bO h
 have el : ((shL (aq nm) o dr).map fun s => (fH s).d T.Wh) = (List.range 5).map fun i => (wsF (aq nm) o dr i).d T.Wh := by
  have h := F.rlen
  unfold wsF
  rw [List.map_map]
  generalize cG (aq nm) o dr = rs at h ⊢
  exact row5 (fun x : Row => (fH (cA dr x)).d T.Wh) bO h
 have es : au (shL (aq nm) o dr) = (List.range 5).map fun i => .str (cA dr ((cG (aq nm) o dr).getD i bO)) := by
  have h := F.rlen
  unfold au
  rw [List.map_map]
  generalize cG (aq nm) o dr = rs at h ⊢
  exact row5 (fun x : Row => D.str (cA dr x)) bO h
 unfold rhoG
 rw [el, es]
 unfold rhoH at k
 rw [eu] at k
 exact way_loop T aA aT aW ds π (uF (aq nm) o dr) (wsF (aq nm) o dr) (fun i => cA dr ((cG (aq nm) o dr).getD i bO)) _ _ _ _ _ _ _ _ _ _ (fun j hj => ws_small (sheet_len F (List.mem_map_of_mem (row_in F hj)))) (fun k hk => (F.row _ (row_in F hk)).2.2.2) (fun k hk => (F.row _ (row_in F hk)).1) (fun j hj => F.plen _ (F.row _ (row_in F hj)).1) (by rw [<- eu]; exact uL_nd F) F.trail k
theorem due_loop {r : Nat} {P : aZ} (aA : Addr) (ds : List D) (hl : ds.length <= 31) (ad : bA C ds) (π : Nat -> Str) (left us : List Nat) (fl : List (Nat × Nat)) (b3 b6 b7 b8 b9 b10 b11 : D) (l5 : left.length <= 5) (f5 : fl.length <= 5)
  (dl : ∀ u ∈ left, π u = ("/" ++ tn u) ++ "/") (own : ∀ k, k < fl.length -> (fl.reverse.getD k (0, 0)).2 ∈ left ∨ ∃ j, j < k /\ (fl.reverse.getD j (0, 0)).1 = (fl.reverse.getD k (0, 0)).2)
  (df : ∀ k, k < fl.length -> π (fl.reverse.getD k (0, 0)).1 = (π (fl.reverse.getD k (0, 0)).2 ++ tn (fl.reverse.getD k (0, 0)).1) ++ "/")
  (nd : (left ++ fl.reverse.map (·.1)).Nodup) (all : ∀ u, u < 5 -> u ∈ left ++ fl.reverse.map (·.1)) (lt : ∀ u ∈ left ++ fl.reverse.map (·.1), u < 5) (le : left.length + fl.length = 5) (ul : us.length = 5) (ut : ∀ u ∈ us, u < 5) (pl : ∀ u, u < 5 -> (π u).length <= 100)
  (k : ∀ ds', bA C ds' -> ds'.length <= 32 -> X C r aQ (aa aQ) (("way", .dict (aY (kvT π us))) :: jG aA (.list (iD left)) (.list (bY fl)) b3 (.list (au aG)) b6 b7 b8 b9 b10 b11) [(aA, .list ds')] (cU 21) P) :
  X C r aQ (aa aQ) (("way", .dict (aY (kvT π us))) :: jG aA (.list (iD left)) (.list (bY fl)) b3 (.list (au aG)) b6 b7 b8 b9 b10 b11) [(aA, .list ds)] (cU 18) P := by
 let R0 : Rho := ("way", .dict (aY (kvT π us))) :: jG aA (.list (iD left)) (.list (bY fl)) b3 (.list (au aG)) b6 b7 b8 b9 b10 b11
 have hlt : ∀ u ∈ left, u < 5 := fun u hu => lt u (List.mem_append_left _ hu)
 refine X.cons (X1.setDC (fun n : Nat => D.int n) bB (xs := left) (f := fun u => (tn u, .str (("/" ++ tn u) ++ "/"))) (.list .name) (fun u hu => .atL .name .name (bF (hlt u hu)) (by have := hlt u hu; lia)) (fun u hu => ?_) (by lia) fun aD => ?_)
 ·have h9 := (bC u (hlt u hu)).2.2.2.1
  have c1 : (("/" : Str) ++ tn u).length = 1 + (tn u).length := cL _ _
  exact .bin (.bin .str (.atL (d := .str (tn u)) .name .name (bF (hlt u hu)) (by have := hlt u hu; lia)) (.cat (by show 1 + _ <= sizeLine; unfold sizeLine; lia))) .str (.cat (by show _ + 1 <= sizeLine; rw [c1]; unfold sizeLine; lia))
 ·have e : left.map (fun u => (tn u, D.str (("/" ++ tn u) ++ "/"))) = aY (kvT π left) := by
   unfold aY kvT
   rw [List.map_map]
   exact List.map_congr_left fun u hu => by show (_, D.str _) = (_, D.str (π u)); rw [dl u hu]
  rw [e, dputs_nodup _ (kv_nodup ((List.sublist_append_left ..).nodup nd) hlt)]
  clear e
  let fs := fl.reverse
  let ks : Nat -> List Nat := fun i => left ++ (fs.take i).map (·.1)
  let R : Rho := ("due", .own aD) :: R0
  have hR : (aD, D.dict (aY (kvT π left))) = (aD, .dict (aY (kvT π (ks 0)))) := by show _ = (aD, D.dict (aY (kvT π (left ++ [])))); rw [List.append_nil]
  rw [hR]
  refine X.loop2 (σ := Unit) (xs := fl.reverse) (fun _ _ => True) (fun _ _ => R) (fun i _ => [(aD, .dict (aY (kvT π (ks i)))), (aA, .list ds)]) () (.list (.as (.revL (ds := bY fl) .name (.un .int .neg) ?_) ?_)) (fun _ _ e => e) trivial (fun k f _ hk _ => ?_) fun _ _ => ?_
  ·rw [List.length_map]; lia
  ·unfold bY; rw [List.map_reverse]
  ·have nx : ∀ ρ2, Sub R ρ2 -> cT (fun _ _ => True) (fun _ (_ : Unit) => R) (fun i _ => [(aD, .dict (aY (kvT π (ks i)))), (aA, .list ds)]) (k + 1) ρ2 [(aD, .dict (aY (kvT π (ks (k + 1))))), (aA, .list ds)] := fun ρ2 s => .mk () trivial s
   generalize cT (fun _ _ => True) (fun _ (_ : Unit) => R) (fun i _ => [(aD, D.dict (aY (kvT π (ks i)))), (aA, D.list ds)]) (k + 1) = LI at nx ⊢
   have hkl : k < fl.length := by have := (List.getElem?_eq_some_iff.mp hk).1; rwa [List.length_reverse] at this
   have hfk : fl.reverse.getD k (0, 0) = f := by rw [List.getD_eq_getElem?_getD, hk]; rfl
   have ow := own k hkl
   have dk := df k hkl
   rw [hfk] at ow dk
   have ek : ks (k + 1) = ks k ++ [f.1] := by
    show left ++ (fl.reverse.take (k + 1)).map (·.1) = (left ++ (fl.reverse.take k).map (·.1)) ++ [f.1]
    rw [List.take_add_one, hk, List.map_append, List.append_assoc]; rfl
   have sb : (ks (k + 1)).Sublist (left ++ fl.reverse.map (·.1)) := (List.Sublist.refl left).append ((List.take_sublist _ _).map _)
   have fu : f.1 < 5 := lt _ (sb.subset (by rw [ek]; exact List.mem_append_right _ (List.mem_singleton.mpr rfl)))
   have kl : ∀ v ∈ ks k, v < 5 := fun v hv => lt v (sb.subset (by rw [ek]; exact List.mem_append_left _ hv))
   have fv : f.2 ∈ ks k := by
    rcases ow with q | ⟨j, hj, q⟩
    ·exact List.mem_append_left _ q
    ·refine List.mem_append_right _ (List.mem_map.mpr ⟨fl.reverse.getD j (0, 0), ?_, q⟩)
     have hj2 : j < fl.reverse.length := by rw [List.length_reverse]; lia
     rw [List.getD_eq_getElem?_getD, List.getElem?_eq_getElem hj2, Option.getD_some]
     exact List.mem_iff_getElem.mpr ⟨j, by rw [List.length_take]; exact Nat.lt_min.mpr ⟨hj, hj2⟩, by rw [List.getElem_take]⟩
   have fv5 := kl _ fv
   have hg := kv_get (π := π) fv5 fv kl
   have fresh := fresh_key (π := π) (l := ks (k + 1)) (k := (ks k).length) (u := f.1) (sb.nodup nd) (fun v hv => lt v (sb.subset hv)) (by rw [ek, List.take_of_length_le (by rw [List.length_append]; exact Nat.le_refl _), List.take_left' rfl])
   have tk : (ks (k + 1)).take (ks k).length = ks k := by rw [ek]; exact List.take_left' rfl
   rw [tk] at fresh
   have hkv : aY (kvT π (ks (k + 1))) = aY (kvT π (ks k)) ++ [(tn f.1, .str (π f.1))] := by
    rw [ek]; unfold aY kvT; rw [List.map_append, List.map_append]; rfl
   have hln : (aY (kvT π (ks k))).length <= 10 := by
    unfold aY kvT
    rw [List.length_map, List.length_map]
    show (left ++ (fl.reverse.take k).map (·.1)).length <= 10
    rw [List.length_append, List.length_map, List.length_take]; lia
   rw [hkv] at nx
   generalize aY (kvT π (ks k)) = kvs at nx fresh hg hln ⊢
   have h9 := (bC f.1 fu).2.2.2.1
   have hpv := pl f.2 fv5
   have c1 : (π f.2 ++ tn f.1).length = (π f.2).length + (tn f.1).length := cL _ _
   refine X.cons (X1.setD (j := 0) (k := tn f.1) (d := .str (π f.1)) rfl rfl ?_ (.atL .name .name (bF fu) (by lia)) (by lia) ?_)
   ·rw [dk]
    exact .bin (.bin (.ownItem (j := 0) (k := tn f.2) rfl rfl (.atL .name .name (bF fv5) (by lia)) hg) (.atL (d := .str (tn f.1)) .name .name (bF fu) (by lia)) (.cat (by show _ <= sizeLine; unfold sizeLine; lia))) .str (.cat (by show _ + 1 <= sizeLine; rw [c1]; unfold sizeLine; lia))
   ·rw [dput_new fresh]
    exact X.nil (nx _ (by unfold R R0 jG; (repeat (first | exact Sub.nil | refine Sub.cons (by rfl) ?_))))
  ·refine X.freeze (i := 0) (x := "due") rfl rfl trivial ?_
   have ef : ks fl.reverse.length = left ++ fl.reverse.map (·.1) := by show left ++ (fl.reverse.take _).map _ = _; rw [List.take_length]
   rw [ef]
   have ag : Agr C (.tup [.dict (aY (kvT π us)), .dict (aY (kvT π (left ++ fl.reverse.map (·.1))))]) := ⟨_, _, rfl, aB.nePerm (by unfold kvT; rw [List.length_map, List.length_map, List.length_append, List.length_map, List.length_reverse]; lia) (fun k x hx => by
    obtain ⟨u, hu, e⟩ := List.mem_map.mp hx
    cases e
    exact kv_get (ut u hu) (all u (ut u hu)) lt), rfl, rfl⟩
   refine X.cons (X1.append (i := 0) (.name rfl) rfl (.tp (.cons .name (.cons .name .nil))) (by lia) ?_)
   exact X.weaken (by unfold R R0 jG; (repeat (first | exact Sub.nil | refine Sub.cons (by rfl) ?_))) (k _ (ad.add (.one ag)) (by rw [List.length_append]; show _ + 1 <= _; lia))
theorem phI {r : Nat} {P : aZ} (En : Addr) (nm : Nat) (o : Int) (dr : Nat) (cs : List Nat) (aA : Addr) (ds : List D) (π : Nat -> Str) (F : gY (aq nm) o dr π) (h1 : -10000 <= o) (h2 : o <= 10000) (hl : ds.length <= 31) (ad : bA C ds)
  (k : ∀ ds', bA C ds' -> ds'.length <= 32 -> X C r aQ (aa aQ) (rhoH En nm o dr π cs aA) [(aA, .list ds')] (cU 21) P) :
  X C r aQ (aa aQ) (rhoH En nm o dr π cs aA) [(aA, .list ds)] (cU 18) P := by
 have z5 := jO (nr := aq nm) h1 h2 5
 exact due_loop aA ds hl ad π (fsN (aq nm) o 5).left (uL (aq nm) o dr) (fsN (aq nm) o 5).folds _ _ _ _ _ _ _ z5.len z5.f5 F.dueL F.own F.dueF F.keys F.kall F.klt F.klen (by unfold uL; rw [List.length_map]; exact F.rlen) (uL_lt F) F.plen k
structure Mv where
 rules : List Rl
 rate : Str
 vd : List Str
 cop : Nat
 crawler : Nat
 drawn : Nat
noncomputable abbrev bookD (En : Addr) (m : Mv) : D := enG En (au ["Cop"]) (m.rules.map rlD) .none (.str m.rate)
noncomputable def my (π : Nat -> Str) (m : Mv) : Option Str := cF (iH (π m.crawler)) (fun x : Rl => x.2) m.rules (-1) none
noncomputable def mv0 (π : Nat -> Str) (left : List Nat) (c3 c0 : Nat) : Mv := ⟨left.map fun u => (π u, tn u), "Cop", left.map tn, c0, c3 % 5, c3 / 5⟩
noncomputable def dI (En : Addr) (aA : Addr) (π : Nat -> Str) (us left : List Nat) (fl : List (Nat × Nat)) (o : Int) (pages near b6 b8 b11 : D) (m : Mv) : Rho :=
 [("cop", .int (m.cop : Nat)), ("verdicts", .list (au m.vd)), ("drawn", .int (m.drawn : Nat)), ("crawler", .int (m.crawler : Nat)), ("rate", .str m.rate), ("book", bookD En m), ("way", .dict (aY (kvT π us))), ("left", .list (iD left)), ("folds", .list (bY fl)), ("pages", pages), ("asked", .own aA), ("titles", .list (au aG)), ("typed", b6), ("near", near), ("number", b8), ("order", .int o), ("cells", b11)]
theorem tn_index {r : Nat} {u : Nat} (h : u < 5) : Fn C r (.builtin "list.index") [.list (au aG), .str (tn u)] (.int (u : Nat)) := by
 refine Fn.index (by decide) ?_ fun i hi e => ?_
 ·rw [getD_at (d := ("" : Str)) (l := aG) h]; rfl
 ·rw [getD_at (d := ("" : Str)) (l := aG) (Nat.lt_trans hi h)] at e
  exact Nat.ne_of_lt hi (tn_inj (Nat.lt_trans hi h) h (Option.some.inj e))
theorem way_at {π : Nat -> Str} {us : List Nat} (all : ∀ u, u < 5 -> u ∈ us) (lt : ∀ u ∈ us, u < 5) {u : Nat} (h : u < 5) : (aY (kvT π us)).lookup (tn u) = some (.str (π u)) := kv_get h (all u h) lt
theorem phJ {r : Nat} {P : aZ} (T : gF C) (aA : Addr) (π : Nat -> Str) (us left : List Nat) (fl : List (Nat × Nat)) (o : Int) (pages near b6 b8 b10 : D) (cs : List Nat) (hc : cs.length = 4) (own : Own) (all : ∀ u, u < 5 -> u ∈ us) (lt : ∀ u ∈ us, u < 5) (pl : ∀ u, u < 5 -> (π u).length <= 100)
  (l5 : left.length <= 5) (l5t : ∀ u ∈ left, u < 5) (c0 : Nat) (hc0 : c0 < 5) (told : my π (mv0 π left (cs.getD 3 0) c0) = some (tn c0))
  (k : X C (r + 20) aQ (aa aQ) (dI T.En aA π us left fl o pages near b6 b8 (.list (iD cs)) (mv0 π left (cs.getD 3 0) c0)) own (cU 24) P) :
  X C (r + 20) aQ (aa aQ) (("way", .dict (aY (kvT π us))) :: jG aA (.list (iD left)) (.list (bY fl)) pages (.list (au aG)) b6 near b8 (.int o) b10 (.list (iD cs))) own (cU 21) P := by
 refine X.cons (X1.assignSwap (Q := fun ds own' => ds = [recD T.En ["Cop"] ((left.map fun u => (π u, tn u)).map rlD) .none, .str "Cop"] /\ own' = own) (EvM.val (.call T.fold.ent.rec_.gf (.cons (d := .list (au ["Cop"])) (.lst (.cons .str .nil)) (.cons (d := .list ((left.map fun u => (π u, tn u)).map rlD)) (.as (EvF.one (.lcA (fun n : Nat => D.int n) bB (xs := left) (f := fun u => rlD (π u, tn u)) (.list .name) (fun u hu => ?_) (by lia))) ?_) (.cons .none .nil))) (dJ (r := r + 17) T.fold.ent.cl T.fold.ent.name T.fold.ent.ini.at_ T.fold.ent.ini.d T.fold.ent.rec_.d (by decide) (by decide) (by rw [List.length_map, List.length_map]; lia) rfl)) (EvM.val .str (EvM.nil ⟨rfl, rfl⟩))) ?_ (by first | exact Or.inl rfl | exact Or.inr ⟨rfl, rfl⟩) (by first | exact Or.inl rfl | exact Or.inr ⟨rfl, rfl⟩))
 ·have hu := l5t u hu
  exact .call T.rule.gf (.cons (.sub (d := .str (π u)) .name (.atL .name .name (bF hu) (by lia)) (.dict (way_at all lt hu)) rfl fB) (.cons (.atL .name .name (bF hu) (by lia)) .nil)) (rule1_ok T.l0 T.rule (π u, tn u))
 ·rw [List.map_map]; rfl
 rintro d1 d2 own' ⟨e, rfl⟩
 cases e
 refine X.cons (X1.tup (Q := fun ds own'' => ds = [.int (cs.getD 3 0 % 5 : Nat), .int (cs.getD 3 0 / 5 : Nat), .list (au (left.map tn))] /\ own'' = own') (EvM.val (.modN (.atL (k := 3) .name .int (jN (by lia)))) (EvM.val (.divN (.atL (k := 3) .name .int (jN (by lia)))) (EvM.val (.as (EvF.one (.lcA (fun n : Nat => D.int n) bB (xs := left) (f := fun u => .str (tn u)) (.list .name) (fun u hu => ?_) (by lia))) ?_) (EvM.nil ⟨rfl, rfl⟩)))) ?_)
 ·have hu := l5t u hu
  exact .atL .name .name (bF (l := aG) hu) (by lia)
 ·unfold au; rw [List.map_map]; rfl
 rintro ds own'' ⟨rfl, rfl⟩
 have hcr : cs.getD 3 0 % 5 < 5 := Nat.mod_lt _ (by decide)
 have ha := allow1_ok (r := r + 18) T.l0 T.fold.ent.cl T.fold.ent.alw.d (au ["Cop"]) .none (.str "Cop") (left.map fun u => (π u, tn u)) (π (cs.getD 3 0 % 5)) (fun x hx => by
   obtain ⟨u, hu, rfl⟩ := List.mem_map.mp hx
   exact Nat.le_trans (bC u (l5t u hu)).2.2.2.1 (by decide)) (fun x hx => by
   obtain ⟨u, hu, rfl⟩ := List.mem_map.mp hx
   exact Nat.le_trans (pl u (l5t u hu)) (by decide)) (by rw [List.length_map]; lia)
 unfold my mv0 at told
 dsimp only at told
 rw [told] at ha
 refine X.cons (X1.set (d := .int (c0 : Nat)) (.meth .name (.cons (.callM T.fold.ent.cl T.fold.ent.alw.m .name (.cons (.sub (d := .str (π (cs.getD 3 0 % 5))) .name (.atL .name .name (bF (l := aG) hcr) (by lia)) (.dict (way_at all lt hcr)) rfl fB) .nil) ha) .nil) rfl F.plainAttrs_list F.slot_list_index F.type_list_index (tn_index hc0)) ?_)
 exact X.weaken (by unfold dI jG mv0; (repeat (first | exact Sub.nil | refine Sub.cons (by rfl) ?_))) k
variable {C : Cfg} {r : Nat} {sc : Scope} {O : Str -> Prop} {ρ : Rho} {own : Own} {P : aZ}
theorem X1.assignSwap3 {x y w : Str} {px py pw : Pos} {e1 e2 e3 : Expr} {k k' : Nat} {tpos epos pos : Pos} {Q : List D -> Own -> Prop} (x' : EvM C r sc ρ own [e1, e2, e3] Q) (p : ∀ d1 d2 d3 own', Q [d1, d2, d3] own' -> P .next ((x, d1) :: (y, d2) :: (w, d3) :: ρ) own') (sx : Sto sc O x) (sy : Sto sc O y) (sw : Sto sc O w)
  (h1 : autoParam (∀ env line, env.scope = sc -> swapsWithSole [.Tuple [.Name x px, .Name y py, .Name w pw] k tpos] (.Tuple [e1, e2, e3] k' epos) line env = pure false) tacI3) (h2 : autoParam (∀ env, env.scope = sc -> swappedStores [.Tuple [.Name x px, .Name y py, .Name w pw] k tpos] (.Tuple [e1, e2, e3] k' epos) env = pure (some [x, y, w])) tacC) :
  X1 C r sc O ρ own (.Assign [.Tuple [.Name x px, .Name y py, .Name w pw] k tpos] (.Tuple [e1, e2, e3] k' epos) pos) P := by
 constructor; intro A env W h₀ h R G S tk qQ qE qK
 refine Assign_Tuple_swapped ((x'.tup (A := A) (Nat.le_of_lt_succ (by show 3 < 1001; decide)) R (az G) S).use ?_) (h1 env _ G) (h2 env G)
 rintro v h1 tk1 ⟨a, vs, ds, own', e, it, q, e1, S1, sb, g1, z, ln⟩
 subst e
 obtain ⟨v1, v2, v3, d1, d2, d3, rfl, rfl, z1, z2, z3⟩ : ∃ v1 v2 v3 d1 d2 d3, vs = [v1, v2, v3] /\ ds = [d1, d2, d3] /\ VT C (Wof W own') [] h1 v1 d1 /\ VT C (Wof W own') [] h1 v2 d2 /\ VT C (Wof W own') [] h1 v3 d3 := by
  cases z with
  | nil => cases ln
  | cons z1 r => cases r with
   | nil => cases ln
   | cons z2 r => cases r with
    | nil => cases ln
    | cons z3 r => cases r with
     | nil => exact ⟨_, _, _, _, _, _, rfl, rfl, z1, z2, z3⟩
     | cons _ _ => simp at ln
 refine wpAny_unpackItems_tuple (items := [v1, v2, v3].toArray) R.1 it fun h2 hx => ?_
 have e2 : Ext C h1 h2 := .all S1.inv fun b o q => hx b o (Nat.ne_of_lt (Heap.lt_size q)) q
 have S2 := S1.ext e2
 have z1' : VT C (Wof W own') own' h2 v1 d1 := (z1.kp e2.1 S1.tw (fun _ _ _ q => q) fun _ q => q).any
 have z2' : VT C (Wof W own') own' h2 v2 d2 := (z2.kp e2.1 S1.tw (fun _ _ _ q => q) fun _ q => q).any
 have z3' : VT C (Wof W own') own' h2 v3 d3 := (z3.kp e2.1 S1.tw (fun _ _ _ q => q) fun _ q => q).any
 show wpAny _ A (assignInOrder [bindName env w, bindName env y, bindName env x] [v3, v2, v1]) _ _ _
 refine wpAny_assignInOrder_more (bindName_ ((S2.store (A := A) (bQ G w sw) z3').use2 fun _ h3 tk3 S3 k3 => ?_))
 have k3' : Kp (aN C env O) h2 h3 := k3.mono fun _ q => .inr q
 have z2'' : VT C (Wof W own') own' h3 v2 d2 := z2'.kp k3' (fun a q => aN.sub S2 q) (fun _ _ _ q => q) fun _ q => q
 have z1'' : VT C (Wof W own') own' h3 v1 d1 := z1'.kp k3' (fun a q => aN.sub S2 q) (fun _ _ _ q => q) fun _ q => q
 refine wpAny_assignInOrder_more (bindName_ ((S3.store (A := A) (bQ G y sy) z2'').use2 fun _ h4 tk4 S4 k4 => ?_))
 have k4' : Kp (aN C env O) h3 h4 := k4.mono fun _ q => .inr q
 have z13 : VT C (Wof W own') own' h4 v1 d1 := z1''.kp k4' (fun a q => aN.sub S3 q) (fun _ _ _ q => q) fun _ q => q
 refine wpAny_assignInOrder_more (bindName_ ((S4.store (A := A) (bQ G x sx) z13).use2 fun _ h5 tk5 S5 k5 => ?_))
 have k5' : Kp (aN C env O) h4 h5 := k5.mono fun _ q => .inr q
 exact wpAny_assignInOrder_none (qK _ h5 tk5 ⟨.next, _, own', p d1 d2 d3 own' q, S5, trivial, grow_mut (own' := own') (e1.trans e2) (k3'.trans (k4'.trans k5')), g1⟩)
noncomputable abbrev moveB (i : Nat) : List Stmt := (nR ((parts (aP 24)).2.1.getD 24 iJ)).drop i
noncomputable def upB (o : Int) (u : Nat) : Bool := Builtin.bitAnd (o.fdiv (2 ^ u)) 1 != 0
noncomputable def pairOf (o : Int) (u : Nat) : List Str := if upB o u then [tn u, ""] else ["", tn u]
theorem Tst.up {r : Nat} {sc : Scope} {ρ : Rho} {own : Own} {a b : Expr} {kk : Nat} {p1 p2 p3 : Pos} {o : Int} {u : Nat} (x : Ev C r sc ρ own a (.int o)) (y : Ev C r sc ρ own b (.int (u : Nat))) : Tst C r sc ρ own (.BinOp (.BinOp a .RShift b p1) .BitAnd (.Constant (.int 1) kk p2) p3) (upB o u) := by
 have h := bh.rsh (C := C) (x := o) (y := (u : Int)) (by lia)
 rw [Int.toNat_natCast] at h
 exact .of (.bin (.bin x y h) .int .and) rfl
theorem move_a {r : Nat} {P : aZ} (T : gF C) (aA : Addr) (π : Nat -> Str) (us left : List Nat) (fl : List (Nat × Nat)) (o : Int) (pages near b6 b8 b11 : D) (own : Own) (m : Mv) (u v : Nat) (hu : u < 5)
  (k : X C r aQ (aa aQ) (("pair", .list (au (pairOf o u))) :: ("kept", .list (au m.vd)) :: ("old", bookD T.En m) :: ("v", .int (v : Nat)) :: ("u", .int (u : Nat)) :: dI T.En aA π us left fl o pages near b6 b8 b11 m) own (moveB 1) P) :
  X C r aQ (aa aQ) (("v", .int (v : Nat)) :: ("u", .int (u : Nat)) :: dI T.En aA π us left fl o pages near b6 b8 b11 m) own (moveB 0) P := by
 refine X.cons (X1.assignSwap3 (Q := fun ds own' => ds = [bookD T.En m, .list (au m.vd), .list (au (pairOf o u))] /\ own' = own) (EvM.val .name (EvM.val .name (EvM.val (.ifexp (.up .name .name) (fun t => ?_) fun t => ?_) (EvM.nil ⟨rfl, rfl⟩)))) ?_ (by first | exact Or.inl rfl | exact Or.inr ⟨rfl, rfl⟩) (by first | exact Or.inl rfl | exact Or.inr ⟨rfl, rfl⟩) (by first | exact Or.inl rfl | exact Or.inr ⟨rfl, rfl⟩))
 ·unfold pairOf; rw [if_pos t]
  exact .lst (ds := au [tn u, ""]) (.cons (.atL .name .name (bF (l := aG) hu) (by omega)) (.cons .str .nil))
 ·unfold pairOf; rw [if_neg (by rw [t]; decide)]
  exact .lst (ds := au ["", tn u]) (.cons .str (.cons (.atL .name .name (bF (l := aG) hu) (by omega)) .nil))
 rintro d1 d2 d3 own' ⟨e, rfl⟩
 cases e
 exact X.weaken (by unfold dI; (repeat (first | exact Sub.nil | refine Sub.cons (by rfl) ?_))) k
noncomputable def bD (π : Nat -> Str) (o : Int) (u : Nat) : List Rl := (pairOf o u).map fun s => (π u, s)
noncomputable def aX (π : Nat -> Str) (o : Int) (u : Nat) (m : Mv) : Mv := if m.drawn % 2 != 0 then { m with rules := m.rules ++ bD π o u, rate := tn u, vd := m.vd ++ pairOf o u } else { m with rules := bD π o u ++ m.rules, vd := pairOf o u ++ m.vd }
noncomputable abbrev foundD (En : Addr) (π : Nat -> Str) (o : Int) (u : Nat) : D := enG En (au ["Cop", tn u]) ((bD π o u).map rlD) .none (.str (tn u))
theorem pair_len (o : Int) (u : Nat) : (pairOf o u).length = 2 := by unfold pairOf; split <;> rfl
theorem cop_ag : ∀ u < 5, (["Cop"] : List Str).filter (fun x => (["Cop", tn u] : List Str).any (· == x)) = (["Cop"] : List Str) /\ (["Cop", tn u] : List Str).filter (fun x => (["Cop"] : List Str).any (· == x)) = (["Cop"] : List Str) := by decide +kernel
theorem move_b {r : Nat} {P : aZ} (T : gF C) (aA : Addr) (π : Nat -> Str) (us left : List Nat) (fl : List (Nat × Nat)) (o : Int) (pages near b6 b8 b11 : D) (own : Own) (m : Mv) (u v : Nat) (hu : u < 5) (all : ∀ u, u < 5 -> u ∈ us) (lt : ∀ u ∈ us, u < 5) (hr : m.rules.length <= 1000) (hv : m.vd.length <= 1000)
  (k : X C (r + 20) aQ (aa aQ) (("found", foundD T.En π o u) :: ("pair", .list (au (pairOf o u))) :: ("kept", .list (au m.vd)) :: ("old", bookD T.En m) :: ("v", .int (v : Nat)) :: ("u", .int (u : Nat)) :: dI T.En aA π us left fl o pages near b6 b8 b11 (aX π o u m)) own (moveB 3) P) :
  X C (r + 20) aQ (aa aQ) (("pair", .list (au (pairOf o u))) :: ("kept", .list (au m.vd)) :: ("old", bookD T.En m) :: ("v", .int (v : Nat)) :: ("u", .int (u : Nat)) :: dI T.En aA π us left fl o pages near b6 b8 b11 m) own (moveB 1) P := by
 have p2 := pair_len o u
 have f2 : (bD π o u).length = 2 := by unfold bD; rw [List.length_map, p2]
 have hro := dJ (r := r + 17) T.fold.ent.cl T.fold.ent.name T.fold.ent.ini.at_ T.fold.ent.ini.d T.fold.ent.rec_.d (as := ["Cop", tn u]) (rs := (bD π o u).map rlD) (d := .none) (show 2 <= 100000 by decide) (by nofun) (by rw [List.length_map, f2]; decide) rfl
 refine X.cons (X1.set (d := foundD T.En π o u) (.call T.fold.ent.rec_.gf (.cons (d := .list (au ["Cop", tn u])) (.lst (.cons .str (.cons (.atL .name .name (bF (l := aG) hu) (by lia)) .nil))) (.cons (d := .list ((bD π o u).map rlD)) (.as (EvF.one (.lcA D.str lM (xs := pairOf o u) (f := fun s => rlD (π u, s)) (.list .name) (fun s hs => ?_) (by lia))) ?_) (.cons .none .nil))) hro) ?_)
 ·exact .call T.rule.gf (.cons (.sub (d := .str (π u)) .name (.atL .name .name (bF (l := aG) hu) (by lia)) (.dict (way_at all lt hu)) rfl fB) (.cons .name .nil)) (rule1_ok T.l0 T.rule (π u, s))
 ·unfold bD; rw [List.map_map]; rfl
 have m1 := gm (r := r + 17) T.fold.ent.cl T.fold.ent.name T.fold.ent.ini.at_ T.fold.ent.ini.d T.fold.mer.d (as1 := ["Cop"]) (as2 := ["Cop", tn u]) (rs1 := m.rules.map rlD) (rs2 := (bD π o u).map rlD) (d1 := .none) (d2 := .none) (q1 := .str m.rate) (q2 := .str (tn u)) (show 2 <= 30 by decide) (by rw [List.length_map, List.length_map]; lia) rfl rfl rfl rfl
 have m2 := gm (r := r + 17) T.fold.ent.cl T.fold.ent.name T.fold.ent.ini.at_ T.fold.ent.ini.d T.fold.mer.d (as1 := ["Cop", tn u]) (as2 := ["Cop"]) (rs1 := (bD π o u).map rlD) (rs2 := m.rules.map rlD) (d1 := .none) (d2 := .none) (q1 := .str (tn u)) (q2 := .str m.rate) (by decide) (by rw [List.length_map, List.length_map]; lia) rfl rfl rfl rfl
 rw [(cop_ag u hu).1, <- List.map_append] at m1
 rw [(cop_ag u hu).2, <- List.map_append] at m2
 refine X.cons (X1.assign (d := .tup [bookD T.En (aX π o u m), .list (au (aX π o u m).vd), .str (aX π o u m).rate]) (.ifexp (c := m.drawn % 2 != 0) (.of (.modN .name) (lY _)) (fun t => ?_) (fun t => ?_)) .three ?_)
 ·have e : aX π o u m = { m with rules := m.rules ++ bD π o u, rate := tn u, vd := m.vd ++ pairOf o u } := if_pos t
  rw [e]
  refine .tp (.cons (.call T.fold.mer.gf (.cons .name (.cons .name .nil)) m1) (.cons (.as (.bin .name .name (.app ?_)) ?_) (.cons (.atL .name .name (bF (l := aG) hu) (by lia)) .nil)))
  ·unfold au; rw [List.length_map, List.length_map]; lia
  ·unfold au; rw [List.map_append]
 ·have e : aX π o u m = { m with rules := bD π o u ++ m.rules, vd := pairOf o u ++ m.vd } := if_neg (by rw [t]; decide)
  rw [e]
  refine .tp (.cons (.call T.fold.mer.gf (.cons .name (.cons .name .nil)) m2) (.cons (.as (.bin .name .name (.app ?_)) ?_) (.cons .name .nil)))
  ·unfold au; rw [List.length_map, List.length_map]; lia
  ·unfold au; rw [List.map_append]
 have ec : (aX π o u m).cop = m.cop /\ (aX π o u m).crawler = m.crawler /\ (aX π o u m).drawn = m.drawn := by unfold aX; split <;> exact ⟨rfl, rfl, rfl⟩
 refine X.weaken ?_ k
 unfold dI
 rw [ec.1, ec.2.1, ec.2.2]
 (repeat (first | exact Sub.nil | refine Sub.cons (by rfl) ?_))
theorem rlInj : ∀ x y : Rl, rlD x = rlD y -> x = y := fun x y e => by
 obtain ⟨a, b⟩ := x
 obtain ⟨c, d⟩ := y
 have e := D.rule.inj e
 have e1 : a = c := D.str.inj (Prod.mk.inj (List.cons.inj e.2.1).1).2
 have e2 : b = d := D.str.inj e.2.2
 rw [e1, e2]
noncomputable abbrev Rc := List Str × List Rl × Str
noncomputable abbrev rcD (En : Addr) (x : Rc) : D := enG En (au x.1) (x.2.1.map rlD) .none (.str x.2.2)
theorem rcInj {En : Addr} : ∀ x y : Rc, rcD En x = rcD En y -> x = y := fun x y e => by
 obtain ⟨a, b, c⟩ := x
 obtain ⟨a', b', c'⟩ := y
 have e := (D.obj.inj e).2
 have e1 := List.cons.inj e
 have e2 := List.cons.inj e1.2
 have e3 := List.cons.inj (List.cons.inj e2.2).2
 have h1 : au a = au a' := D.list.inj (Prod.mk.inj e1.1).2
 have h2 : b.map rlD = b'.map rlD := D.list.inj (Prod.mk.inj e2.1).2
 have h3 : c = c' := D.str.inj (Prod.mk.inj e3.1).2
 unfold au at h1
 rw [(List.map_inj_right lM).mp h1, (List.map_inj_right rlInj).mp h2, h3]
theorem merge_vd {π : Nat -> Str} {o : Int} {u : Nat} {m : Mv} (h : m.rules.map (·.2) = m.vd) : (bD π o u).map (·.2) = pairOf o u /\ (aX π o u m).rules.map (·.2) = (aX π o u m).vd := by
 have f : (bD π o u).map (·.2) = pairOf o u := by unfold bD; rw [List.map_map]; exact List.map_id _
 refine ⟨f, ?_⟩
 unfold aX
 split
 ·show (m.rules ++ _).map _ = _; rw [List.map_append, h, f]
 ·show (_ ++ m.rules).map _ = _; rw [List.map_append, h, f]
theorem move_c {r : Nat} {P : aZ} (T : gF C) (aA : Addr) (π : Nat -> Str) (us left : List Nat) (fl : List (Nat × Nat)) (o : Int) (pages near b6 b8 b11 : D) (m m2 : Mv) (ds : List D) (ad : bA C ds) (hl : ds.length <= 100) (u v : Nat) (hr : m.rules.length <= 1000) (hr2 : m2.rules.length <= 1000)
  (h1 : m.rules.map (·.2) = m.vd) (h2 : (bD π o u).map (·.2) = pairOf o u) (h3 : m2.rules.map (·.2) = m2.vd) (s1 : ∀ s ∈ m.vd, SeqAt.shaped (D.str s).py = true) (s2 : ∀ s ∈ pairOf o u, SeqAt.shaped (D.str s).py = true) (s3 : ∀ s ∈ m2.vd, SeqAt.shaped (D.str s).py = true)
  (k : ∀ d, Agr C d -> X C r aQ (aa aQ) (("v", .int (v : Nat)) :: ("u", .int (u : Nat)) :: dI T.En aA π us left fl o pages near b6 b8 b11 m2) [(aA, .list (ds ++ [d]))] (moveB 4) P) :
  X C r aQ (aa aQ) (("found", foundD T.En π o u) :: ("pair", .list (au (pairOf o u))) :: ("kept", .list (au m.vd)) :: ("old", bookD T.En m) :: ("v", .int (v : Nat)) :: ("u", .int (u : Nat)) :: dI T.En aA π us left fl o pages near b6 b8 b11 m2) [(aA, .list ds)] (moveB 3) P := by
 let x1 : Rc := (["Cop"], m.rules, m.rate)
 let x2 : Rc := (["Cop", tn u], bD π o u, tn u)
 let x3 : Rc := (["Cop"], m2.rules, m2.rate)
 let due : D := .list [.list (au m.vd), .list (au (pairOf o u)), .list (au m2.vd)]
 have f2 : (bD π o u).length = 2 := by unfold bD; rw [List.length_map, pair_len]
 have hle : ∀ x ∈ [x1, x2, x3], x.2.1.length <= 1000 := fun x hx => by
  rcases List.mem_cons.mp hx with q | hx
  ·rw [q]; exact hr
  rcases List.mem_cons.mp hx with q | hx
  ·rw [q]; show (bD π o u).length <= 1000; lia
  ·rw [List.mem_singleton.mp hx]; exact hr2
 refine X.cons (X1.append (i := 0) (d := .tup [due, due]) (.name rfl) rfl (.tp (.cons (.as (EvF.one (.lcA (rcD T.En) rcInj (xs := [x1, x2, x3]) (f := fun x => .list (au (x.2.1.map (·.2)))) (.list (.lst (.cons .name (.cons .name (.cons .name .nil))))) (fun x hx => ?_) (show 3 <= 1048576 by decide))) ?_) (.cons (.lst (.cons .name (.cons .name (.cons .name .nil)))) .nil))) (by lia) ?_)
 ·refine .as (EvF.one (.lcA rlD rlInj (xs := x.2.1) (f := fun y => .str y.2) (.list (.attr T.fold.ent.cl .name)) (fun y hy => .attrRule .name) (by have := hle x hx; lia))) ?_
  unfold au; rw [List.map_map]; rfl
 ·show D.list [.list (au (m.rules.map (·.2))), .list (au ((bD π o u).map (·.2))), .list (au (m2.rules.map (·.2)))] = due
  rw [h1, h2, h3]
 ·refine X.weaken ?_ (k (.tup [due, due]) (.same (.list (k := 59) fun d hd => ?_)))
  ·unfold dI; (repeat (first | exact Sub.nil | refine Sub.cons (by rfl) ?_))
  ·rcases List.mem_cons.mp hd with q | hd
   ·rw [q]; exact .strs (k := 58) s1
   rcases List.mem_cons.mp hd with q | hd
   ·rw [q]; exact .strs (k := 58) s2
   ·rw [List.mem_singleton.mp hd]; exact .strs (k := 58) s3
noncomputable def askT (c : Nat) : Str := (("*" : Str) ++ dh (tn c)) ++ "/"
noncomputable def askHead (c : Nat) : Str := dh (iT (bH (askT c) slash))
theorem ask_split : ∀ c < 5, nU (askT c) slash /\ bH (askT c) slash ≠ [] /\ (askHead c).length <= 1048576 /\ (dh (tn c)).length <= 20 := by unfold nU; decide +kernel
theorem ask_has : ∀ c < 5, hasS (dh (tn c)) (askHead c) = true := by decide +kernel
theorem ask_yes {nr : aH} {u c : Nat} (hc : c < 5) (h : c ∈ nb nr u) : bV (bj nr u) (askT c) = true := by
 unfold bV bj
 refine List.any_eq_true.mpr ⟨tn c, .tail _ (List.mem_map_of_mem h), ?_⟩
 rw [(bC c hc).1]
 exact ask_has c hc
theorem ask_none (nr : aH) (u : Nat) : (bj nr u).any (· == star) = true := by
 unfold bj
 rw [List.any_cons, show (("*" : Str) == star) = true by decide]; rfl
theorem bool2 : gD [true, true] = "[True, True]" := by decide +kernel
noncomputable def d9 (nr : aH) (m : Mv) : Nat := (nb nr m.crawler).getD (m.drawn % (nb nr m.crawler).length) 0
noncomputable def iQ (nr : aH) (m : Mv) (c1 : Nat) : Mv := { m with crawler := d9 nr m, drawn := m.drawn / 5, cop := c1 }
theorem move_d {r : Nat} {P : aZ} (T : gF C) (aA : Addr) (π : Nat -> Str) (us left : List Nat) (fl : List (Nat × Nat)) (o : Int) (b6 b8 b11 : D) {nr : aH} (hn : bR nr) (m : Mv) (ds : List D) (ad : bA C ds) (hl : ds.length <= 100) (u v : Nat) (all : ∀ u, u < 5 -> u ∈ us) (lt : ∀ u ∈ us, u < 5)
  (hcop : m.cop < 5) (hcr : m.crawler < 5) (ne : nb nr m.crawler ≠ []) (c1 : Nat) (hc1 : c1 < 5) (told : my π (iQ nr m c1) = some (tn c1)) (hin : c1 ∈ nb nr m.cop) (hr : m.rules.length <= 1000) (hv : ∀ x ∈ m.rules, x.2.length <= 1048576) (hp : ∀ x ∈ m.rules, x.1.length <= 1048576)
  (k : ∀ ρ ds', Sub (dI T.En aA π us left fl o (.list (cB T.En nr)) (.list (nrD nr)) b6 b8 b11 (iQ nr m c1)) ρ -> bA C ds' -> ds'.length = ds.length + 1 -> P .next ρ [(aA, .list ds')]) :
  X C (r + 20) aQ (aa aQ) (("v", .int (v : Nat)) :: ("u", .int (u : Nat)) :: dI T.En aA π us left fl o (.list (cB T.En nr)) (.list (nrD nr)) b6 b8 b11 m) [(aA, .list ds)] (moveB 4) P := by
 have sb := bu _ (hn.sub _ hcr)
 have lp : 0 < (nb nr m.crawler).length := List.length_pos_iff.mpr ne
 have hk : m.drawn % (nb nr m.crawler).length < (nb nr m.crawler).length := Nat.mod_lt _ lp
 have hx : d9 nr m < 5 := sb.2 _ (getD_mem hk)
 refine X.cons (X1.tup (Q := fun ds2 own' => ds2 = [.int (d9 nr m : Nat), .int (m.drawn / 5 : Nat)] /\ own' = [(aA, .list ds)]) (EvM.val (.atL (k := m.drawn % (nb nr m.crawler).length) (.atL (k := m.crawler) .name .name (cZ hn.len hcr) (by lia)) (.bin .name (.lenL (.atL (k := m.crawler) .name .name (cZ hn.len hcr) (by lia)) (dB _)) (.modK (by lia))) (jN hk) (by lia)) (EvM.val (.divN .name) (EvM.nil ⟨rfl, rfl⟩))) ?_)
 rintro ds2 own' ⟨rfl, rfl⟩
 have ha := allow1_ok (r := r + 18) T.l0 T.fold.ent.cl T.fold.ent.alw.d (au ["Cop"]) .none (.str m.rate) m.rules (π (d9 nr m)) hv hp (by lia)
 unfold my iQ at told
 dsimp only at told
 rw [told] at ha
 refine X.cons (X1.set (d := .str (tn c1)) (.callM T.fold.ent.cl T.fold.ent.alw.m .name (.cons (.sub (d := .str (π (d9 nr m))) .name (.atL .name .name (bF (l := aG) hx) (by lia)) (.dict (way_at all lt hx)) rfl fB) .nil) ha) ?_)
 obtain ⟨a1, a2, a3, a4⟩ := ask_split c1 hc1
 have h1 := mV (r := r + 19) T.fold.ent (bj nr m.cop) [] (.int (m.cop : Nat)) .none (askT c1) a1 a2 a3 (low_ag (bu _ (hn.sub _ hcop)).2)
 have h2 := lz (r := r + 19) T.fold.ent (bj nr m.cop) [] (.int (m.cop : Nat)) .none
 rw [ask_yes hc1 hin] at h1
 rw [ask_none] at h2
 have c2 : (("*" : Str) ++ dh (tn c1)).length = 1 + (dh (tn c1)).length := cL _ _
 have ag : Agr C (.tup [.str (gD [true, true]), .str "[True, True]"]) := by rw [bool2]; exact .same (.str (by decide +kernel))
 refine X.cons (X1.append (i := 0) (d := .tup [.str (gD [true, true]), .str "[True, True]"]) (.name rfl) rfl (.tp (.cons (.callB .of (.cons (d := .list (([true, true] : List Bool).map .bool)) (.lst (.cons (.callM T.fold.ent.cl T.fold.ent.app.m (.atL .name .name (page_at hcop) (by lia)) (.cons (d := .str (askT c1)) (.bin (.bin .str (.meth .name .nil rfl F.plainAttrs_str F.slot_str_lower F.type_str_lower (Fn.lower (by lia))) (.cat (by show 1 + _ <= sizeLine; unfold sizeLine; lia))) .str (.cat (by show _ + 1 <= sizeLine; rw [c2]; unfold sizeLine; lia))) .nil) h1) (.cons (.callM T.fold.ent.cl T.fold.ent.app.m (.atL .name .name (page_at hcop) (by lia)) (.cons .none .nil) h2) .nil))) .nil) (Fn.repr (by decide +kernel))) (.cons .str .nil))) (by lia) ?_)
 refine X.cons (X1.set (d := .int (c1 : Nat)) (.meth .name (.cons .name .nil) rfl F.plainAttrs_list F.slot_list_index F.type_list_index (tn_index hc1)) (X.nil ?_))
 refine k _ _ ?_ (ad.add (.one ag)) (by rw [List.length_append]; rfl)
 unfold dI iQ; (repeat (first | exact Sub.nil | refine Sub.cons (by rfl) ?_))
structure MvOk (m : Mv) (k : Nat) : Prop where
 rl : m.rules.length <= 5 + 2 * k
 vl : m.vd = m.rules.map (·.2)
 sh : ∀ x ∈ m.rules, SeqAt.shaped (D.str x.2).py = true
 v1 : ∀ x ∈ m.rules, x.2.length <= 1048576
 v2 : ∀ x ∈ m.rules, x.1.length <= 1048576
 cop : m.cop < 5
 cr : m.crawler < 5
theorem pair_in {o : Int} {u : Nat} {s : Str} (hu : u < 5) (h : s ∈ pairOf o u) : SeqAt.shaped (D.str s).py = true /\ s.length <= 9 := by
 have : s = tn u ∨ s = "" := by
  unfold pairOf at h
  split at h
  ·rcases List.mem_cons.mp h with q | q
   ·exact .inl q
   ·exact .inr (List.mem_singleton.mp q)
  ·rcases List.mem_cons.mp h with q | q
   ·exact .inr q
   ·exact .inl (List.mem_singleton.mp q)
 rcases this with q | q
 ·rw [q]; exact ⟨(bC u hu).2.2.2.2, (bC u hu).2.2.2.1⟩
 ·rw [q]; exact ⟨by decide +kernel, by decide⟩
theorem found_in {π : Nat -> Str} {o : Int} {u : Nat} {x : Rl} (hu : u < 5) (pl : (π u).length <= 100) (h : x ∈ bD π o u) : SeqAt.shaped (D.str x.2).py = true /\ x.2.length <= 1048576 /\ x.1.length <= 1048576 := by
 obtain ⟨s, hs, rfl⟩ := List.mem_map.mp h
 have := pair_in hu hs
 exact ⟨this.1, Nat.le_trans this.2 (by decide), Nat.le_trans pl (by decide)⟩
theorem merge_in {π : Nat -> Str} {o : Int} {u : Nat} {m : Mv} {x : Rl} (h : x ∈ (aX π o u m).rules) : x ∈ m.rules ∨ x ∈ bD π o u := by
 unfold aX at h
 split at h
 ·exact List.mem_append.mp h
 ·exact (List.mem_append.mp h).symm
theorem merge_rl {π : Nat -> Str} {o : Int} {u : Nat} {m : Mv} : (aX π o u m).rules.length = m.rules.length + 2 := by
 have f2 : (bD π o u).length = 2 := by unfold bD; rw [List.length_map, pair_len]
 unfold aX
 split
 ·show (m.rules ++ _).length = _; rw [List.length_append, f2]
 ·show (_ ++ m.rules).length = _; rw [List.length_append, f2]; lia
theorem gQ {π : Nat -> Str} {o : Int} {u : Nat} {m : Mv} : (aX π o u m).cop = m.cop /\ (aX π o u m).crawler = m.crawler /\ (aX π o u m).drawn = m.drawn := by unfold aX; split <;> exact ⟨rfl, rfl, rfl⟩
theorem MvOk.merge {π : Nat -> Str} {o : Int} {u : Nat} {m : Mv} {k : Nat} (h : MvOk m k) (hu : u < 5) (pl : (π u).length <= 100) : MvOk (aX π o u m) (k + 1) := by
 have mk := gQ (π := π) (o := o) (u := u) (m := m)
 refine ⟨by rw [merge_rl]; have := h.rl; lia, (merge_vd h.vl.symm).2.symm, fun x hx => ?_, fun x hx => ?_, fun x hx => ?_, by rw [mk.1]; exact h.cop, by rw [mk.2.1]; exact h.cr⟩
 ·exact (merge_in hx).elim (h.sh x) fun q => (found_in hu pl q).1
 ·exact (merge_in hx).elim (h.v1 x) fun q => (found_in hu pl q).2.1
 ·exact (merge_in hx).elim (h.v2 x) fun q => (found_in hu pl q).2.2
structure nY (nr : aH) (π : Nat -> Str) (o : Int) (fs : List (Nat × Nat)) (m0 : Mv) (M : Nat -> Mv) : Prop where
 zero : M 0 = m0
 step : ∀ k, k < fs.length -> (fs.getD k (0, 0)).1 < 5 /\ ∃ c, c < 5 /\ M (k + 1) = iQ nr (aX π o (fs.getD k (0, 0)).1 (M k)) c /\ my π (M (k + 1)) = some (tn c) /\ c ∈ nb nr (M k).cop /\ nb nr (M k).crawler ≠ []
theorem chase_ok {nr : aH} (hn : bR nr) {π : Nat -> Str} {o : Int} {fs : List (Nat × Nat)} {m0 : Mv} {M : Nat -> Mv} (H : nY nr π o fs m0 M) (h0 : MvOk m0 0) (pl : ∀ u, u < 5 -> (π u).length <= 100) : ∀ k, k <= fs.length -> MvOk (M k) k
 | 0, _ => by rw [H.zero]; exact h0
 | k + 1, h => by
  obtain ⟨hu, c, hc, e, _, _, ne⟩ := H.step k (by lia)
  have ih := (chase_ok hn H h0 pl k (by lia)).merge (o := o) hu (pl _ hu)
  have mk := gQ (π := π) (o := o) (u := (fs.getD k (0, 0)).1) (m := M k)
  rw [e]
  refine ⟨ih.rl, ih.vl, ih.sh, ih.v1, ih.v2, hc, ?_⟩
  have hcr := ih.cr
  refine (bu _ (hn.sub _ hcr)).2 _ (getD_mem (Nat.mod_lt _ (List.length_pos_iff.mpr ?_)))
  rw [mk.2.1]; exact ne
theorem phK {r : Nat} {P : aZ} (T : gF C) (aA : Addr) (π : Nat -> Str) (us left : List Nat) (fl : List (Nat × Nat)) (o : Int) (b6 b8 b11 : D) {nr : aH} (hn : bR nr) (m0 : Mv) (M : Nat -> Mv) (H : nY nr π o fl.reverse m0 M) (h0 : MvOk m0 0) (all : ∀ u, u < 5 -> u ∈ us) (lt : ∀ u ∈ us, u < 5) (pl : ∀ u, u < 5 -> (π u).length <= 100) (f5 : fl.length <= 5)
  (ds : List D) (ad : bA C ds) (hl : ds.length <= 32)
  (k : ∀ ds', bA C ds' -> ds'.length <= 42 -> X C (r + 20) aQ (aa aQ) (dI T.En aA π us left fl o (.list (cB T.En nr)) (.list (nrD nr)) b6 b8 b11 (M fl.length)) [(aA, .list ds')] (cU 25) P) :
  X C (r + 20) aQ (aa aQ) (dI T.En aA π us left fl o (.list (cB T.En nr)) (.list (nrD nr)) b6 b8 b11 m0) [(aA, .list ds)] (cU 24) P := by
 let R : Nat -> Rho := fun i => dI T.En aA π us left fl o (.list (cB T.En nr)) (.list (nrD nr)) b6 b8 b11 (M i)
 have e0 := H.zero
 refine X.loop2 (σ := List D) (xs := fl.reverse) (fun i ds' => bA C ds' /\ ds'.length <= 32 + 2 * i) (fun i _ => R i) (fun _ ds' => [(aA, .list ds')]) ds (.list (.as (.revL (ds := bY fl) .name (.un .int .neg) ?_) ?_)) (fun _ _ e => ?_) ⟨ad, hl⟩ (fun i f d1 hi hJ => ?_) fun d1 hJ => ?_
 ·rw [List.length_map]; lia
 ·unfold bY; rw [List.map_reverse]
 ·show List.lookup _ (dI T.En aA π us left fl o (.list (cB T.En nr)) (.list (nrD nr)) b6 b8 b11 m0) = _
  rw [<- e0]; exact e
 ·have nx : ∀ ρ2 d2, Sub (R (i + 1)) ρ2 -> bA C d2 -> d2.length <= 32 + 2 * (i + 1) -> cT (fun i ds' => bA C ds' /\ ds'.length <= 32 + 2 * i) (fun i _ => R i) (fun _ ds' => [(aA, .list ds')]) (i + 1) ρ2 [(aA, .list d2)] := fun ρ2 d2 s a l => .mk d2 ⟨a, l⟩ s
  generalize cT (fun i ds' => bA C ds' /\ ds'.length <= 32 + 2 * i) (fun i _ => R i) (fun _ ds' => [(aA, .list ds')]) (i + 1) = LI at nx ⊢
  have hil : i < fl.reverse.length := (List.getElem?_eq_some_iff.mp hi).1
  have hfk : fl.reverse.getD i (0, 0) = f := by rw [List.getD_eq_getElem?_getD, hi]; rfl
  obtain ⟨hu, c, hc, e, told, hin, ne⟩ := H.step i hil
  rw [hfk] at hu e
  have ok := chase_ok hn H h0 pl i (by lia)
  have ok2 := ok.merge (o := o) hu (pl _ hu)
  have mk := gQ (π := π) (o := o) (u := f.1) (m := M i)
  have mv := merge_vd (π := π) (o := o) (u := f.1) ok.vl.symm
  rw [List.length_reverse] at hil
  have rl := ok.rl
  have rl2 := ok2.rl
  have hvl : (M i).vd.length <= 1000 := by rw [ok.vl, List.length_map]; lia
  have s1 : ∀ s ∈ (M i).vd, SeqAt.shaped (D.str s).py = true := fun s hs => by
   rw [ok.vl] at hs
   obtain ⟨x, hx, rfl⟩ := List.mem_map.mp hs
   exact ok.sh x hx
  have s3 : ∀ s ∈ (aX π o f.1 (M i)).vd, SeqAt.shaped (D.str s).py = true := fun s hs => by
   rw [ok2.vl] at hs
   obtain ⟨x, hx, rfl⟩ := List.mem_map.mp hs
   exact ok2.sh x hx
  refine move_a T aA π us left fl o _ _ b6 b8 b11 _ (M i) f.1 f.2 hu ?_
  refine move_b T aA π us left fl o _ _ b6 b8 b11 _ (M i) f.1 f.2 hu all lt (by lia) hvl ?_
  refine move_c T aA π us left fl o _ _ b6 b8 b11 (M i) (aX π o f.1 (M i)) d1 hJ.1 (by have := hJ.2; lia) f.1 f.2 (by lia) (by lia) ok.vl.symm mv.1 mv.2 s1 (fun s hs => (pair_in hu hs).1) s3 fun d ag => ?_
  refine move_d T aA π us left fl o b6 b8 b11 hn (aX π o f.1 (M i)) (d1 ++ [d]) (hJ.1.add (.one ag)) (by rw [List.length_append]; have := hJ.2; show _ + 1 <= _; lia) f.1 f.2 all lt ok2.cop ok2.cr (by rw [mk.2.1]; exact ne) c hc (by rw [<- e]; exact told) (by rw [mk.1]; exact hin) (by lia) ok2.v1 ok2.v2 fun ρ d2 s a l => ?_
  rw [<- e] at s
  exact nx ρ d2 s a (by rw [l, List.length_append]; have := hJ.2; show _ + 1 + 1 <= _; lia)
 ·rw [List.length_reverse] at hJ ⊢
  exact k d1 hJ.1 (by have := hJ.2; lia)
theorem pairInj : ∀ x y : D × D, D.tup [x.1, x.2] = .tup [y.1, y.2] -> x = y := fun x y e => by
 have e := D.tup.inj e
 exact Prod.ext (List.cons.inj e).1 (List.cons.inj (List.cons.inj e).2).1
noncomputable def unpair : D -> D × D
 | .tup [a, b] => (a, b)
 | _ => (.none, .none)
theorem ask_pairs {ds : List D} (h : bA C ds) : (ds.map unpair).map (fun x => D.tup [x.1, x.2]) = ds := by
 rw [List.map_map]
 refine (List.map_congr_left fun d hd => ?_).trans (List.map_id _)
 obtain ⟨a, b, rfl, _⟩ := h d hd
 rfl
theorem phZ {r : Nat} {P : aZ} (En : Addr) (aA : Addr) (π : Nat -> Str) (us left : List Nat) (fl : List (Nat × Nat)) (o : Int) (pages near b6 b8 b11 : D) (m : Mv) (ds : List D) (ad : bA C ds) (hl : ds.length <= 1000) (p : ∀ ρ own, P (.ret (.bool true)) ρ own) :
  X C r aQ (aa aQ) (dI En aA π us left fl o pages near b6 b8 b11 m) [(aA, .list ds)] (cU 29) P := by
 refine X.freeze (i := 0) (x := "asked") rfl rfl trivial ?_
 refine X.cons (X1.ret (.cmp (EvF.one (EvF.lc2 (α := D × D) Prod.fst Prod.snd pairInj (xs := ds.map unpair) (p := fun _ => false) (f := Prod.fst) (EvI.list (.as .name (by rw [ask_pairs ad]))) (fun x hx => ?_) (fun x _ h => by cases h) (by rw [List.length_map]; lia))) (.lst .nil) ?_) (p _ _))
 ·obtain ⟨d, hd, rfl⟩ := List.mem_map.mp hx
  obtain ⟨a, b, rfl, q, na, nb⟩ := ad d hd
  exact .one (.cmp (.name rfl na) (.name rfl nb) q)
 ·rw [List.filter_eq_nil_iff.mpr fun _ _ q => by cases q]
  exact aB.eqP (d1 := .list []) (d2 := .list []) rfl rfl rfl rfl
theorem rows_mem {nr : aH} (hn : bR nr) {row : List Nat} (h : row ∈ nr) : row ∈ dz := by
 obtain ⟨c, hc, e⟩ := List.mem_iff_getElem.mp h
 have := hn.sub c (by rw [<- hn.len]; exact hc)
 unfold nb at this
 rwa [List.getD_eq_getElem?_getD, List.getElem?_eq_getElem hc, Option.getD_some, e] at this
theorem pl_ag {nr : aH} {u : Nat} (h : ∀ v ∈ nb nr u, v < 5) : Pl 59 (.list (au (bj nr u))) := .strs (k := 58) fun s hs => by
 rcases List.mem_cons.mp hs with q | q
 ·rw [q]; decide +kernel
 ·obtain ⟨v, hv, rfl⟩ := List.mem_map.mp q
  exact (bC v (h v hv)).2.2.2.2
theorem phY {r : Nat} {P : aZ} (T : gF C) (aA : Addr) (π : Nat -> Str) (us left : List Nat) (fl : List (Nat × Nat)) (o : Int) (b6 b8 b11 : D) {nr : aH} (hn : bR nr) (m : Mv) (ds : List D) (ad : bA C ds) (hl : ds.length <= 100)
  (k : ∀ d, Agr C d -> X C r aQ (aa aQ) (dI T.En aA π us left fl o (.list (cB T.En nr)) (.list (nrD nr)) b6 b8 b11 m) [(aA, .list (ds ++ [d]))] (cU 29) P) :
  X C r aQ (aa aQ) (dI T.En aA π us left fl o (.list (cB T.En nr)) (.list (nrD nr)) b6 b8 b11 m) [(aA, .list ds)] (cU 28) P := by
 let dd : D := .list ((List.range 5).map fun u => .list (au (bj nr u)))
 refine X.cons (X1.append (i := 0) (d := .tup [dd, dd]) (.name rfl) rfl (.tp (.cons (EvF.one (.lcA (kE T.En nr) nH (xs := List.range 5) (f := fun u => .list (au (bj nr u))) (.list .name) (fun u hu => .attr T.fold.ent.cl .name) (by decide)))
  (.cons (.as (EvF.one (.lcA (fun l : List Nat => D.list (iD l)) kJ (xs := nr) (f := fun row => .list (au ("*" :: row.map tn))) (.list .name) (fun row hr => ?_) (by rw [hn.len]; decide))) ?_) .nil))) (by lia) ?_)
 ·have sb := bu _ (rows_mem hn hr)
  refine .as (.bin (.lst (.cons .str .nil)) (EvF.one (.lcA (fun n : Nat => D.int n) bB (xs := row) (f := fun v => .str (tn v)) (.list .name) (fun v hv => ?_) (by lia))) (.app ?_)) ?_
  ·have := sb.2 v hv
   exact .atL .name .name (bF (l := aG) this) (by lia)
  ·rw [List.length_map]; show 1 + _ <= _; lia
  ·unfold au; rw [List.map_cons, List.map_map]; rfl
 ·exact congrArg D.list (row5 (fun row : List Nat => D.list (au ("*" :: row.map tn))) [] hn.len)
 ·exact k _ (.same (.list (k := 59) fun d hd => by
   obtain ⟨u, hu, rfl⟩ := List.mem_map.mp hd
   exact pl_ag (bu _ (hn.sub u (List.mem_range.mp hu))).2))
noncomputable def upL : List Str := aG.map upS
theorem up_no : (upL.any (· == ("*" : Str))) = false /\ ∀ v < 5, upL.any (· == tn v) = false := by decide +kernel
theorem up_ag {nr : aH} {u : Nat} (h : ∀ v ∈ nb nr u, v < 5) : (bj nr u).filter (fun x => upL.any (· == x)) = [] := by
 refine List.filter_eq_nil_iff.mpr fun x hx => ?_
 rcases List.mem_cons.mp hx with q | q
 ·rw [q, up_no.1]; decide
 ·obtain ⟨v, hv, rfl⟩ := List.mem_map.mp q
  rw [up_no.2 v (h v hv)]; decide
theorem phX {r : Nat} {P : aZ} (T : gF C) (aA : Addr) (π : Nat -> Str) (us left : List Nat) (fl : List (Nat × Nat)) (o : Int) (b6 b8 b11 : D) {nr : aH} (hn : bR nr) (m : Mv) (ds : List D) (ad : bA C ds) (hl : ds.length <= 100)
  (k : ∀ d, Agr C d -> X C (r + 20) aQ (aa aQ) (dI T.En aA π us left fl o (.list (cB T.En nr)) (.list (nrD nr)) b6 b8 b11 m) [(aA, .list (ds ++ [d]))] (cU 28) P) :
  X C (r + 20) aQ (aa aQ) (dI T.En aA π us left fl o (.list (cB T.En nr)) (.list (nrD nr)) b6 b8 b11 m) [(aA, .list ds)] (cU 27) P := by
 let dd : D := .list (List.replicate 5 (.list []))
 have hro := dJ (r := r + 17) T.fold.ent.cl T.fold.ent.name T.fold.ent.ini.at_ T.fold.ent.ini.d T.fold.ent.rec_.d (as := upL) (rs := []) (d := .none) (show 5 <= 100000 by decide) (by unfold upL aG; nofun) (by decide) rfl
 refine X.cons (X1.append (i := 0) (d := .tup [dd, dd]) (.name rfl) rfl (.tp (.cons (.as (EvF.one (.lcA (kE T.En nr) nH (xs := List.range 5) (f := fun u => .list (au ((bj nr u).filter fun x => upL.any (· == x)))) (.list .name) (fun u hu => ?_) (by decide))) ?_)
  (.cons (.bin (.lst (.cons (.lst .nil) .nil)) .int (.rep (n := 5) (by decide) (by decide))) .nil))) (by lia) ?_)
 ·have h := gm (r := r + 17) T.fold.ent.cl T.fold.ent.name T.fold.ent.ini.at_ T.fold.ent.ini.d T.fold.mer.d (as1 := bj nr u) (as2 := upL) (rs1 := []) (rs2 := []) (d1 := .int (u : Nat)) (d2 := .none) (q1 := .none) (q2 := mF upL .none) (show 5 <= 30 by decide) (by decide) rfl rfl rfl rfl
  refine .attr T.fold.ent.cl (.call T.fold.mer.gf (.cons .name (.cons (.call T.fold.ent.rec_.gf (.cons (d := .list (au upL)) (.as (EvF.one (.lcA D.str lM (xs := aG) (f := fun s => .str (upS s)) (.list .name) (fun s hs => ?_) (by decide))) ?_) (.cons (.lst .nil) (.cons .none .nil))) hro) .nil)) h)
  ·rw [lO] at hs
   obtain ⟨v, hv, rfl⟩ := List.mem_map.mp hs
   exact .meth .name .nil rfl F.plainAttrs_str F.slot_str_upper F.type_str_upper (Fn.upper (Nat.le_trans (bC v (List.mem_range.mp hv)).2.2.1 (by decide)))
  ·unfold au upL; rw [List.map_map]; rfl
 ·refine congrArg D.list ?_
  rw [List.map_congr_left fun u hu => by rw [up_ag (bu _ (hn.sub u (List.mem_range.mp hu))).2]]
  rfl
 ·exact k _ (.same (.list (k := 59) fun d hd => by rw [List.eq_of_mem_replicate hd]; exact .list (k := 58) fun e he => by cases he))
noncomputable def revT : List Str := aG.reverse
theorem rev_is : revT = (List.range 5).reverse.map tn := by decide
theorem rev_ag {nr : aH} {u : Nat} (h : ∀ v ∈ nb nr u, v < 5) : (bj nr u).filter (fun x => revT.any (· == x)) = (nb nr u).map tn := by
 rw [rev_is, part_is h fun x hx => List.mem_range.mp hx]
 unfold dH
 rw [List.filter_eq_self.mpr fun v hv => by rw [List.contains_eq_mem]; exact decide_eq_true (List.mem_range.mpr (h v hv))]
theorem phW {r : Nat} {P : aZ} (T : gF C) (aA : Addr) (π : Nat -> Str) (us left : List Nat) (fl : List (Nat × Nat)) (o : Int) (b6 b8 b11 : D) {nr : aH} (hn : bR nr) (m : Mv) (ds : List D) (ad : bA C ds) (hl : ds.length <= 100)
  (k : ∀ d, Agr C d -> X C (r + 20) aQ (aa aQ) (dI T.En aA π us left fl o (.list (cB T.En nr)) (.list (nrD nr)) b6 b8 b11 m) [(aA, .list (ds ++ [d]))] (cU 27) P) :
  X C (r + 20) aQ (aa aQ) (dI T.En aA π us left fl o (.list (cB T.En nr)) (.list (nrD nr)) b6 b8 b11 m) [(aA, .list ds)] (cU 26) P := by
 let dd : D := .list ((List.range 5).map fun u => .list (au ((nb nr u).map tn)))
 have hro := dJ (r := r + 17) T.fold.ent.cl T.fold.ent.name T.fold.ent.ini.at_ T.fold.ent.ini.d T.fold.ent.rec_.d (as := revT) (rs := []) (d := .none) (show 5 <= 100000 by decide) (by rw [rev_is]; nofun) (by decide) rfl
 refine X.cons (X1.append (i := 0) (d := .tup [dd, dd]) (.name rfl) rfl (.tp (.cons (.as (EvF.one (.lcA (kE T.En nr) nH (xs := List.range 5) (f := fun u => .list (au ((bj nr u).filter fun x => revT.any (· == x)))) (.list .name) (fun u hu => ?_) (by decide))) ?_)
  (.cons (.as (EvF.one (.lcA (fun l : List Nat => D.list (iD l)) kJ (xs := nr) (f := fun row => .list (au (row.map tn))) (.list .name) (fun row hr => ?_) (by rw [hn.len]; decide))) ?_) .nil))) (by lia) ?_)
 ·have h := gm (r := r + 17) T.fold.ent.cl T.fold.ent.name T.fold.ent.ini.at_ T.fold.ent.ini.d T.fold.mer.d (as1 := bj nr u) (as2 := revT) (rs1 := []) (rs2 := []) (d1 := .int (u : Nat)) (d2 := .none) (q1 := .none) (q2 := mF revT .none) (show 5 <= 30 by decide) (by decide) rfl rfl rfl rfl
  refine .attr T.fold.ent.cl (.call T.fold.mer.gf (.cons .name (.cons (.call T.fold.ent.rec_.gf (.cons (d := .list (au revT)) (.as (.revL (ds := au aG) .name (.un .int .neg) (by decide)) ?_) (.cons (.lst .nil) (.cons .none .nil))) hro) .nil)) h)
  unfold au revT; rw [List.map_reverse]
 ·refine congrArg D.list (List.map_congr_left fun u hu => ?_)
  rw [rev_ag (bu _ (hn.sub u (List.mem_range.mp hu))).2]
 ·have sb := bu _ (rows_mem hn hr)
  refine .as (EvF.one (.lcA (fun n : Nat => D.int n) bB (xs := row) (f := fun v => .str (tn v)) (.list .name) (fun v hv => ?_) (by lia))) ?_
  ·have := sb.2 v hv
   exact .atL .name .name (bF (l := aG) this) (by lia)
  ·unfold au; rw [List.map_map]; rfl
 ·exact congrArg D.list (row5 (fun row : List Nat => D.list (au (row.map tn))) [] hn.len)
 ·exact k _ (.same (.list (k := 59) fun d hd => by
   obtain ⟨u, hu, rfl⟩ := List.mem_map.mp hd
   exact .strs (k := 58) fun s hs => by
    obtain ⟨v, hv, rfl⟩ := List.mem_map.mp hs
    exact (bC v ((bu _ (hn.sub u (List.mem_range.mp hu))).2 v hv)).2.2.2.2))
noncomputable def endL (s : Str) : List D := [.none, .str s, .bool false]
noncomputable def jJ : List Str := "Cop" :: aG
theorem end_show : ∀ s ∈ jJ, plainAll (endL s) = true /\ PyData.showableAll (cH (endL s)) = true /\ PyData.hasDictAll (cH (endL s)) = false /\ PyData.depthAll (cH (endL s)) <= 1 /\ (showD (endL s)).length <= 1048576 /\ SeqAt.shaped (D.str (showD (endL s))).py = true := by decide +kernel
theorem phV {r : Nat} {P : aZ} (T : gF C) (aA : Addr) (π : Nat -> Str) (us left : List Nat) (fl : List (Nat × Nat)) (o : Int) (pages near b6 b8 b11 : D) (m : Mv) (ds : List D) (ad : bA C ds) (hl : ds.length <= 42) (hc : m.cop = m.crawler) (hrt : m.rate ∈ jJ)
  (k : ∀ ds', bA C ds' -> ds'.length <= 45 -> X C (r + 20) aQ (aa aQ) (dI T.En aA π us left fl o pages near b6 b8 b11 m) [(aA, .list ds')] (cU 26) P) :
  X C (r + 20) aQ (aa aQ) (dI T.En aA π us left fl o pages near b6 b8 b11 m) [(aA, .list ds)] (cU 25) P := by
 obtain ⟨e1, e2, e3, e4, e5, e6⟩ := end_show _ hrt
 have hn := lz (r := r + 19) T.fold.ent ["Cop"] (m.rules.map rlD) .none (.str m.rate)
 rw [show (["Cop"] : List Str).any (· == star) = false from by decide] at hn
 let t1 : D := .tup [.int (m.crawler : Nat), .int (m.crawler : Nat)]
 let t2 : D := .tup [.list (au ["Cop"]), .list (au ["Cop"])]
 let t3 : D := .tup [.str (showD (endL m.rate)), .str (showD (endL m.rate))]
 refine X.cons (X1.extend (i := 0) (es := [t1, t2, t3]) (.name rfl) rfl (.lst (.cons (.tp (.cons (.name (by show some (D.int (m.cop : Nat)) = _; rw [hc])) (.cons .name .nil))) (.cons (.tp (.cons (.attr T.fold.ent.cl .name) (.cons (.lst (.cons .str .nil)) .nil))) (.cons (.tp (.cons (.callB .of (.cons (d := .list (endL m.rate)) (.lst (.cons (.attr T.fold.ent.cl .name) (.cons (.attr T.fold.ent.cl .name) (.cons (.callM T.fold.ent.cl T.fold.ent.app.m .name (.cons .none .nil) hn) .nil)))) .nil) (Fn.reprP e1 e2 e3 e4 e5)) (.cons (.callB .of (.cons (d := .list (endL m.rate)) (.lst (.cons .none (.cons .name (.cons .bool .nil)))) .nil) (Fn.reprP e1 e2 e3 e4 e5)) .nil))) .nil)))) (by show _ + 3 <= _; lia) ?_)
 refine k _ (ad.add (.cons (.same .int) (.cons (.same (.list (k := 59) fun d hd => ?_)) (.one (.same (.str e6)))))) (by rw [List.length_append]; show _ + 3 <= _; lia)
 rw [List.mem_singleton.mp hd]
 exact .str (by decide +kernel)
structure PlainC (nr : aH) (o : Int) (c3 : Nat) (π : Nat -> Str) (M : Nat -> Mv) (c0 : Nat) : Prop where
 clt : c0 < 5
 told : my π (mv0 π (fsN nr o 5).left c3 c0) = some (tn c0)
 chase : nY nr π o (fR nr o) (mv0 π (fsN nr o 5).left c3 c0) M
 fin : (M (fsN nr o 5).folds.length).cop = (M (fsN nr o 5).folds.length).crawler
 rate : (M (fsN nr o 5).folds.length).rate ∈ jJ
noncomputable def PlainOk (nm : Nat) (o : Int) (dr c3 : Nat) : Prop := TypOk dr /\ PlainP (aq nm) o /\ ∃ π, gY (aq nm) o dr π /\ ∃ M c0, PlainC (aq nm) o c3 π M c0
theorem mv0_ok {π : Nat -> Str} {left : List Nat} {c3 c0 : Nat} (l5 : left.length <= 5) (lt : ∀ u ∈ left, u < 5) (hc : c0 < 5) (pl : ∀ u, u < 5 -> (π u).length <= 100) : MvOk (mv0 π left c3 c0) 0 := by
 have inn : ∀ x ∈ (mv0 π left c3 c0).rules, ∃ u, u < 5 /\ x = (π u, tn u) := fun x hx => by
  obtain ⟨u, hu, rfl⟩ := List.mem_map.mp hx
  exact ⟨u, lt u hu, rfl⟩
 refine ⟨by show (left.map _).length <= _; rw [List.length_map]; omega, by show left.map tn = (left.map _).map _; rw [List.map_map]; rfl, fun x hx => ?_, fun x hx => ?_, fun x hx => ?_, hc, Nat.mod_lt _ (by decide)⟩
 ·obtain ⟨u, hu, rfl⟩ := inn x hx; exact (bC u hu).2.2.2.2
 ·obtain ⟨u, hu, rfl⟩ := inn x hx; exact Nat.le_trans (bC u hu).2.2.2.1 (by decide)
 ·obtain ⟨u, hu, rfl⟩ := inn x hx; exact Nat.le_trans (pl u hu) (by decide)
theorem law_ok {r : Nat} (T : gF C) (L : FnT C "law" (aP 24)) (script : List Int) (hl : script.length <= 1000)
  (pl : ∀ (nm : Nat) (o : Int) (dr c3 : Nat), 1024 <= nm -> nm < 2048 -> -10000 <= o -> o <= 10000 -> PlainOk nm o dr c3) :
  Fn C (r + 21) (.ref L.a) [.list (bK script)] (.bool true) := by
 refine L.d.fn (r := r + 20) (ns := ["script"]) (X.c ?_)
 refine phA script hl fun nm o dr cs n1 n2 o1 o2 hcs => ?_
 obtain ⟨tyo, pp, π, F, M, c0, Q⟩ := pl nm o dr (cs.getD 3 0) n1 n2 o1 o2
 have z5 := jO (nr := aq nm) o1 o2 5
 refine phB (r := r + 8) T.fold.div nm o dr cs n1 n2 ?_
 refine phC (r := r + 8) T nm o dr cs n1 n2 tyo fun aA ds ad l3 => ?_
 refine phD (r := r + 4) T nm o dr cs o1 o2 aA ds ad l3 pp fun ds ad l6 => ?_
 refine phE T.En nm o dr cs aA ds ad l6 pp fun ds ad l31 => ?_
 refine phG T nm o dr cs aA ds π F o1 o2 fun aT aW => ?_
 refine phH T nm o dr cs aA aT aW ds π F ?_
 refine phI T.En nm o dr cs aA ds π F o1 o2 l31 ad fun ds ad l32 => ?_
 have ul := uL_lt F
 have all : ∀ u, u < 5 -> u ∈ uL (aq nm) o dr := by unfold uL; exact F.rall
 refine phJ T aA π (uL (aq nm) o dr) (fsN (aq nm) o 5).left (fsN (aq nm) o 5).folds o _ _ _ _ _ cs hcs _ all ul F.plen z5.len z5.lt c0 Q.clt Q.told ?_
 refine phK T aA π _ _ _ o _ _ _ (eN nm) _ M Q.chase (mv0_ok z5.len z5.lt Q.clt F.plen) all ul F.plen z5.f5 ds ad l32 fun ds ad l42 => ?_
 refine phV T aA π _ _ _ o _ _ _ _ _ _ ds ad l42 Q.fin Q.rate fun ds ad l45 => ?_
 refine phW T aA π _ _ _ o _ _ _ (eN nm) _ ds ad (by lia) fun d ag => ?_
 refine phX T aA π _ _ _ o _ _ _ (eN nm) _ (ds ++ [d]) (ad.add (.one ag)) (by rw [List.length_append]; show _ + 1 <= _; lia) fun d2 ag2 => ?_
 refine phY T aA π _ _ _ o _ _ _ (eN nm) _ ((ds ++ [d]) ++ [d2]) ((ad.add (.one ag)).add (.one ag2)) (by rw [List.length_append, List.length_append]; show _ + 1 + 1 <= _; lia) fun d3 ag3 => ?_
 exact phZ T.En aA π _ _ _ o _ _ _ _ _ _ (((ds ++ [d]) ++ [d2]) ++ [d3]) (((ad.add (.one ag)).add (.one ag2)).add (.one ag3)) (by rw [List.length_append, List.length_append, List.length_append]; show _ + 1 + 1 + 1 <= _; lia) fun _ _ => .inl rfl
structure Gr (nr : aH) : Prop where
 refl : ∀ u, u < 5 -> u ∈ nb nr u
 symm : ∀ u v, v ∈ nb nr u -> u ∈ nb nr v
 lt : ∀ u v, v ∈ nb nr u -> v < 5
 nd : ∀ u, (nb nr u).Nodup
inductive Dm (nr : aH) : List (Nat × Nat) -> List Nat -> Prop
 | nil : Dm nr [] (List.range 5)
 | cons {fs L u v} (h : Dm nr fs L) (hu : u ∈ L) (hv : v ∈ L) (ne : u ≠ v) (dom : ∀ x ∈ L, x ∈ nb nr u -> x ∈ nb nr v) : Dm nr ((u, v) :: fs) (L.filter fun x => x != u)
noncomputable def shN : List (Nat × Nat) -> Nat -> Nat
 | [], x => x
 | f :: fs, x => if shN fs x = f.1 then f.2 else shN fs x
noncomputable def Stiff (nr : aH) (L : List Nat) : Prop := ∀ u ∈ L, ∀ v ∈ L, u ≠ v -> ∃ x ∈ L, x ∈ nb nr u /\ x ∉ nb nr v
section
variable {nr : aH} {fs fs2 : List (Nat × Nat)} {L L2 : List Nat}
theorem mem_ne {x u : Nat} (h : x ∈ L) (n : x ≠ u) : x ∈ L.filter fun x => x != u := List.mem_filter.mpr ⟨h, by simpa using n⟩
theorem jM {x u : Nat} (h : x ∈ L.filter fun x => x != u) : x ∈ L /\ x ≠ u := ⟨(List.mem_filter.mp h).1, by simpa using (List.mem_filter.mp h).2⟩
theorem Dm.lt (h : Dm nr fs L) : (∀ x ∈ L, x < 5) /\ L.Nodup := by
 induction h with
 | nil => exact ⟨fun x hx => List.mem_range.mp hx, List.nodup_range⟩
 | cons h hu hv ne dom ih => exact ⟨fun x hx => ih.1 x (jM hx).1, ih.2.filter _⟩
theorem Dm.mem (h : Dm nr fs L) {x : Nat} (hx : x < 5) : shN fs x ∈ L := by
 induction h with
 | nil => exact List.mem_range.mpr hx
 | @cons fs L u v h hu hv ne dom ih =>
  show (if shN fs x = u then v else shN fs x) ∈ _
  split
  ·exact mem_ne hv fun e => ne e.symm
  ·exact mem_ne ih ‹_›
theorem Dm.fix (h : Dm nr fs L) {x : Nat} (hx : x ∈ L) : shN fs x = x := by
 induction h with
 | nil => rfl
 | @cons fs L u v h hu hv ne dom ih =>
  have q := jM hx
  show (if shN fs x = u then v else shN fs x) = x
  rw [ih q.1, if_neg q.2]
theorem Dm.step {f : Nat × Nat} (hom : ∀ x y, x < 5 -> y ∈ nb nr x -> shN fs y ∈ nb nr (shN fs x)) (G : Gr nr) (h : Dm nr (f :: fs) L) {x y : Nat} (hx : x < 5) (hy : y ∈ nb nr x) : shN fs y ∈ nb nr (shN (f :: fs) x) := by
 cases h with
 | @cons _ L u v h hu hv ne dom =>
  have a := hom x y hx hy
  show shN fs y ∈ nb nr (if shN fs x = u then v else shN fs x)
  by_cases e : shN fs x = u
  ·rw [e] at a
   rw [if_pos e]; exact dom _ (h.mem (G.lt _ _ hy)) a
  ·rw [if_neg e]; exact a
theorem Dm.hom (G : Gr nr) (h : Dm nr fs L) : ∀ x y, x < 5 -> y ∈ nb nr x -> shN fs y ∈ nb nr (shN fs x) := by
 induction h with
 | nil => exact fun x y _ h => h
 | @cons fs L u v h hu hv ne dom ih =>
  intro x y hx hy
  have d : Dm nr ((u, v) :: fs) _ := .cons h hu hv ne dom
  have a := d.step ih G hx hy
  have m := (jM (d.mem hx)).1
  generalize shN ((u, v) :: fs) x = a' at a m
  show (if shN fs y = u then v else shN fs y) ∈ _
  by_cases e : shN fs y = u
  ·rw [if_pos e]
   rw [e] at a
   exact G.symm _ _ (dom _ m (G.symm _ _ a))
  ·rw [if_neg e]; exact a
theorem Dm.step' {f : Nat × Nat} (G : Gr nr) (h : Dm nr (f :: fs) L) {x y : Nat} (hx : x < 5) (hy : y ∈ nb nr x) : shN fs y ∈ nb nr (shN (f :: fs) x) := by
 have h' := h
 cases h' with
 | cons h' _ _ _ _ => exact h.step (h'.hom G) G hx hy
theorem Dm.back (G : Gr nr) (h : Dm nr fs L) (st : Stiff nr L) (h2 : Dm nr fs2 L2) : ∀ x ∈ L, shN fs (shN fs2 x) = x := by
 induction h2 with
 | nil => exact fun x hx => h.fix hx
 | @cons fs2 L2 u v h2 hu hv ne dom ih =>
  intro x hx
  have d : Dm nr ((u, v) :: fs2) _ := .cons h2 hu hv ne dom
  have x5 := h.lt.1 x hx
  have z5 := d.lt.1 _ (d.mem x5)
  refine Decidable.byContradiction fun q => ?_
  obtain ⟨y, y1, y2, y3⟩ := st x hx _ (h.mem z5) fun e => q e.symm
  have a := h.hom G _ _ z5 (d.step' G x5 y2)
  rw [ih y y1] at a
  exact y3 a
theorem nQ {α β : Type} [DecidableEq β] (f : α -> β) : ∀ {l : List α} {m : List β}, l.Nodup -> (∀ x ∈ l, f x ∈ m) -> (∀ x ∈ l, ∀ y ∈ l, f x = f y -> x = y) -> l.length <= m.length := by
 intro l
 induction l with
 | nil => exact fun _ _ _ => Nat.zero_le _
 | cons a l ih =>
  intro m nd hm inj
  rw [List.nodup_cons] at nd
  have ha := hm a (.head _)
  have := ih (m := m.erase (f a)) nd.2 (fun x hx => (List.mem_erase_of_ne fun e => nd.1 (inj x (.tail _ hx) a (.head _) e ▸ hx)).mpr (hm x (.tail _ hx))) fun x hx y hy => inj x (.tail _ hx) y (.tail _ hy)
  rw [List.length_erase_of_mem ha] at this
  have := List.length_pos_of_mem ha
  rw [List.length_cons]; omega
theorem pairs_nd (g : Nat -> List Nat) : ∀ {M : List Nat}, M.Nodup -> (∀ u, (g u).Nodup) -> (M.flatMap fun u => (g u).map fun v => (u, v)).Nodup := by
 intro M
 induction M with
 | nil => exact fun _ _ => .nil
 | cons a M ih =>
  intro nd hg
  rw [List.nodup_cons] at nd
  rw [List.flatMap_cons, List.nodup_append]
  refine ⟨List.Pairwise.map _ (fun x y n e => n (Prod.mk.inj e).2) (hg a), ih nd.2 hg, fun p hp q hq e => ?_⟩
  obtain ⟨v, _, rfl⟩ := List.mem_map.mp hp
  obtain ⟨u, hu, hq⟩ := List.mem_flatMap.mp hq
  obtain ⟨w, _, rfl⟩ := List.mem_map.mp hq
  exact nd.1 ((Prod.mk.inj e).1 ▸ hu)
theorem Dm.le (G : Gr nr) (h : Dm nr fs L) (st : Stiff nr L) (h2 : Dm nr fs2 L2) : L.length <= L2.length /\ iR nr L <= iR nr L2 := by
 have inj : ∀ x ∈ L, ∀ y ∈ L, shN fs2 x = shN fs2 y -> x = y := fun x hx y hy e => by
  rw [<- h.back G st h2 x hx, e, h.back G st h2 y hy]
 have to : ∀ x ∈ L, shN fs2 x ∈ L2 := fun x hx => h2.mem (h.lt.1 x hx)
 refine ⟨nQ _ h.lt.2 to inj, ?_⟩
 have e : ∀ M : List Nat, iR nr M = (M.flatMap fun u => ((nb nr u).filter M.contains).map fun v => (u, v)).length := fun M => by
  unfold iR
  rw [List.length_flatMap, List.length_flatMap]
  refine congrArg List.sum (List.map_congr_left fun u _ => ?_)
  rw [List.length_map]
 have mem : ∀ (M : List Nat) (p : Nat × Nat), p ∈ (M.flatMap fun u => ((nb nr u).filter M.contains).map fun v => (u, v)) ↔ p.1 ∈ M /\ p.2 ∈ M /\ p.2 ∈ nb nr p.1 := fun M p => by
  rw [List.mem_flatMap]
  constructor
  ·rintro ⟨u, hu, q⟩
   obtain ⟨v, hv, rfl⟩ := List.mem_map.mp q
   obtain ⟨a, b⟩ := List.mem_filter.mp hv
   exact ⟨hu, by simpa using b, a⟩
  ·rintro ⟨a, b, c⟩
   exact ⟨p.1, a, List.mem_map.mpr ⟨p.2, List.mem_filter.mpr ⟨c, by simpa using b⟩, rfl⟩⟩
 rw [e, e]
 refine nQ (fun p => (shN fs2 p.1, shN fs2 p.2)) ?_ (fun p hp => ?_) fun p hp q hq e => ?_
 ·exact pairs_nd (fun u => (nb nr u).filter L.contains) h.lt.2 fun u => (G.nd u).filter _
 ·obtain ⟨a, b, c⟩ := (mem L p).mp hp
  exact (mem L2 _).mpr ⟨to _ a, to _ b, h2.hom G _ _ (h.lt.1 _ a) c⟩
 ·obtain ⟨a, b, _⟩ := (mem L p).mp hp
  obtain ⟨c, d, _⟩ := (mem L q).mp hq
  obtain ⟨e1, e2⟩ := Prod.mk.inj e
  exact Prod.ext (inj _ a _ c e1) (inj _ b _ d e2)
theorem Dm.perm (h : Dm nr fs L) : (L ++ fs.map (·.1)).Perm (List.range 5) := by
 induction h with
 | nil => rw [List.map_nil, List.append_nil]
 | @cons fs L u v h hu hv ne dom ih =>
  refine List.Perm.trans ?_ ih
  have p : L.Perm (u :: L.filter fun x => x != u) := by
   rw [<- h.lt.2.erase_eq_filter]
   exact List.perm_cons_erase hu
  exact (List.perm_middle.trans (by rw [<- List.cons_append]; exact List.Perm.append_right _ p.symm))
theorem Dm.ow (h : Dm nr fs L) : ∀ k, k < fs.length -> (fs.getD k (0, 0)).2 ∈ L ∨ ∃ j, j < k /\ (fs.getD j (0, 0)).1 = (fs.getD k (0, 0)).2 := by
 induction h with
 | nil => exact fun k h => absurd h (Nat.not_lt_zero _)
 | @cons fs L u v h hu hv ne dom ih =>
  intro k hk
  cases k with
  | zero => exact .inl (mem_ne hv fun e => ne e.symm)
  | succ k =>
   rcases ih k (Nat.lt_of_succ_lt_succ hk) with q | ⟨j, hj, e⟩
   ·by_cases e : (fs.getD k (0, 0)).2 = u
    ·exact .inr ⟨0, Nat.succ_pos _, e.symm⟩
    ·exact .inl (mem_ne q e)
   ·exact .inr ⟨j + 1, Nat.succ_lt_succ hj, e⟩
end
theorem near_gr (nm : Nat) : Gr (aq nm) := by
 have at' : ∀ u, nb (aq nm) u = if u < 5 then (List.range 5).filter fun v => kO nm u v else [] := fun u => by
  unfold nb aq
  rw [List.getD_eq_getElem?_getD, List.getElem?_map]
  by_cases q : u < 5
  ·rw [List.getElem?_range q, if_pos q]; rfl
  ·rw [if_neg q, List.getElem?_eq_none (by rw [List.length_range]; lia)]; rfl
 have mem : ∀ u v, v ∈ nb (aq nm) u ↔ u < 5 /\ v < 5 /\ kO nm u v = true := fun u v => by
  rw [at' u]
  by_cases q : u < 5
  ·rw [if_pos q, List.mem_filter, List.mem_range]
   exact ⟨fun h => ⟨q, h⟩, fun h => h.2⟩
  ·rw [if_neg q]
   exact ⟨nofun, fun h => absurd h.1 q⟩
 refine ⟨fun u h => (mem u u).mpr ⟨h, h, ?_⟩, fun u v h => ?_, fun u v h => ((mem u v).mp h).2.1, fun u => ?_⟩
 ·unfold kO; rw [beq_self_eq_true]; rfl
 ·obtain ⟨a, b, c⟩ := (mem u v).mp h
  refine (mem v u).mpr ⟨b, a, ?_⟩
  unfold kO at c ⊢
  rw [BEq.comm, Bool.or_assoc, Bool.or_comm (List.any _ _), <- Bool.or_assoc]
  exact c
 ·rw [at' u]
  split
  ·exact List.nodup_range.filter _
  ·exact .nil
section
variable {nr : aH} {o : Int}
theorem dom_of {L : List Nat} {u v : Nat} (h : ((nb nr u).filter fun x => L.contains x && !(nb nr v).contains x).isEmpty = true) : ∀ x ∈ L, x ∈ nb nr u -> x ∈ nb nr v := fun x hx hu => by
 have q := List.filter_eq_nil_iff.mp (List.isEmpty_iff.mp h) x hu
 refine Decidable.byContradiction fun n => q ?_
 rw [Bool.and_eq_true, List.contains_eq_mem, List.contains_eq_mem]
 exact ⟨decide_eq_true hx, by rw [decide_eq_false n]; rfl⟩
theorem dom_no {L : List Nat} {u v : Nat} (h : ((nb nr u).filter fun x => L.contains x && !(nb nr v).contains x).isEmpty ≠ true) : ∃ x ∈ L, x ∈ nb nr u /\ x ∉ nb nr v := by
 have q : ((nb nr u).filter fun x => L.contains x && !(nb nr v).contains x) ≠ [] := fun e => h (List.isEmpty_iff.mpr e)
 obtain ⟨x, hx⟩ := List.exists_mem_of_ne_nil _ q
 obtain ⟨a, b⟩ := List.mem_filter.mp hx
 rw [Bool.and_eq_true, List.contains_eq_mem, List.contains_eq_mem] at b
 refine ⟨x, of_decide_eq_true b.1, a, fun n => ?_⟩
 have c := b.2
 rw [decide_eq_true n] at c
 cases c
theorem Dm.len {fs : List (Nat × Nat)} {L : List Nat} (h : Dm nr fs L) : L.length + fs.length = 5 := by
 have := h.perm.length_eq
 rwa [List.length_append, List.length_map, List.length_range] at this
theorem stiff_corn {L : List Nat} (h : (bG nr L).isEmpty = true) : Stiff nr L := fun u hu v hv ne => by
 refine dom_no fun q => ?_
 have m : (u, v) ∈ bG nr L := List.mem_filter.mpr ⟨List.mem_flatMap.mpr ⟨u, hu, List.mem_map.mpr ⟨v, List.mem_filter.mpr ⟨hv, by simpa using ne⟩, rfl⟩⟩, q⟩
 rw [List.isEmpty_iff.mp h] at m
 cases m
theorem fold_dm (o : Int) : ∀ k, Dm nr (fsN nr o k).folds.reverse (fsN nr o k).left /\ ((bG nr (fsN nr o k).left).isEmpty = true ∨ (fsN nr o k).folds.length = k) /\ backN (fsN nr o k).steps (fsN nr o k).order = o
 | 0 => ⟨.nil, .inr rfl, rfl⟩
 | k + 1 => by
  have ih := fold_dm o k
  show Dm nr (Fs.folds (if _ then _ else _)).reverse (Fs.left (if _ then _ else _)) /\ _
  have e : fsN nr o (k + 1) = if (bG nr (fsN nr o k).left).isEmpty then fsN nr o k else gR nr (fsN nr o k) := rfl
  rw [e]
  generalize fsN nr o k = s at ih ⊢
  obtain ⟨d, l, b⟩ := ih
  by_cases q : (bG nr s.left).isEmpty = true
  ·rw [if_pos q]; exact ⟨d, .inl q, b⟩
  ·rw [if_neg q]
   have hc : 0 < (bG nr s.left).length := List.length_pos_iff.mpr fun e => q (List.isEmpty_iff.mpr e)
   have hm := getD_mem (d := ((0, 0) : Nat × Nat)) (pick_lt (s := s) hc)
   obtain ⟨m1, m2, m3⟩ := corn_mem hm
   refine ⟨?_, .inr ?_, ?_⟩
   ·show Dm nr (s.folds ++ [_]).reverse _
    rw [List.reverse_append]
    exact .cons d m1 m2 m3 (dom_of (List.mem_filter.mp hm).2)
   ·show (s.folds ++ [_]).length = _
    rw [List.length_append, l.resolve_left q]; rfl
   ·show backN (s.steps ++ [_]) (s.order.fdiv _) = o
    unfold backN at b ⊢
    rw [List.reverse_append]
    show s.steps.reverse.foldl _ (s.order.fdiv (bG nr s.left).length * (bG nr s.left).length + ((km s (bG nr s.left).length : Nat) : Int).fmod (bG nr s.left).length) = o
    have e1 : ((km s (bG nr s.left).length : Nat) : Int) = s.order.fmod (bG nr s.left).length := Int.toNat_of_nonneg (Int.fmod_nonneg_of_pos _ (by lia))
    rw [e1, Int.fmod_fmod, Int.mul_comm, Int.mul_fdiv_add_fmod]
    exact b
theorem last_one (l : List Nat) : l = [] ∨ ∃ w ∈ l, ig l = [w] := by
 cases e : l.getLast? with
 | none => exact .inl (List.getLast?_eq_none_iff.mp e)
 | some w =>
  obtain ⟨m, rfl⟩ := List.getLast?_eq_some_iff.mp e
  refine .inr ⟨w, List.mem_append_right _ (.head _), ?_⟩
  unfold ig
  rw [List.length_append, show m.length + [w].length - 1 = m.length from rfl, List.drop_left]
theorem core_dm : ∀ k, ∃ fs, Dm nr fs (cD nr k) /\ (cornU nr (cD nr k) = [] ∨ fs.length = k)
 | 0 => ⟨[], .nil, .inr rfl⟩
 | k + 1 => by
  obtain ⟨fs, d, l⟩ := core_dm k
  show ∃ fs, Dm nr fs (dC nr (cD nr k)) /\ (cornU nr (dC nr (cD nr k)) = [] ∨ _)
  generalize cD nr k = L at d l ⊢
  rcases last_one (cornU nr L) with q | ⟨w, hw, q⟩
  ·have e : dC nr L = L := by
    unfold dC
    rw [q]
    exact List.filter_eq_self.mpr fun _ _ => rfl
   rw [e]
   exact ⟨fs, d, .inl q⟩
  ·have e : dC nr L = L.filter fun x => x != w := by
    unfold dC
    rw [q]
    refine List.filter_congr fun x _ => ?_
    rw [List.contains_cons, List.contains_nil, Bool.or_false]; rfl
   rw [e]
   have hn : cornU nr L ≠ [] := fun z => by rw [z] at hw; cases hw
   obtain ⟨u, hu, h⟩ := List.mem_flatMap.mp hw
   obtain ⟨v, hv, rfl⟩ := List.mem_map.mp h
   obtain ⟨h1, h2⟩ := List.mem_filter.mp hv
   unfold domB at h2
   rw [Bool.and_eq_true] at h2
   exact ⟨(u, v) :: fs, .cons d hu h1 (by simpa using h2.1) (dom_of h2.2), .inr (congrArg Nat.succ (l.resolve_left hn))⟩
theorem fold_end (o : Int) : Dm nr (fR nr o) (fsN nr o 5).left /\ Stiff nr (fsN nr o 5).left /\ backN (fsN nr o 5).steps (fsN nr o 5).order = o := by
 unfold fR
 obtain ⟨d, l, b⟩ := fold_dm (nr := nr) o 5
 generalize fsN nr o 5 = s at d l b ⊢
 refine ⟨d, ?_, b⟩
 rcases l with q | q
 ·exact stiff_corn q
 ·have := d.len
  rw [List.length_reverse, q] at this
  have z : s.left = [] := List.length_eq_zero_iff.mp (by lia)
  rw [z]; exact fun u hu => by cases hu
theorem core_end : ∃ fs, Dm nr fs (cD nr 5) /\ Stiff nr (cD nr 5) := by
 obtain ⟨fs, d, l⟩ := core_dm (nr := nr) 5
 generalize cD nr 5 = L at d l ⊢
 refine ⟨fs, d, ?_⟩
 rcases l with q | q
 ·intro u hu v hv ne
  refine dom_no fun z => ?_
  have m : u ∈ cornU nr L := List.mem_flatMap.mpr ⟨u, hu, List.mem_map.mpr ⟨v, List.mem_filter.mpr ⟨hv, by unfold domB; rw [Bool.and_eq_true]; exact ⟨by simpa using ne, z⟩⟩, rfl⟩⟩
  rw [q] at m
  cases m
 ·have := d.len
  rw [q] at this
  have z : L = [] := List.length_eq_zero_iff.mp (by lia)
  rw [z]; exact fun u hu => by cases hu
end
theorem nb_map {f : Nat -> List Nat} {c : Nat} (h : c < 5) : nb ((List.range 5).map f) c = f c := by
 unfold nb
 rw [List.getD_eq_getElem?_getD, List.getElem?_map, List.getElem?_range h]; rfl
theorem mem5 {p : Nat -> Bool} {r : Nat} : r ∈ (List.range 5).filter p ↔ r < 5 /\ p r = true := by rw [List.mem_filter, List.mem_range]
theorem lL : ∀ l ∈ dz, (List.range 5).filter l.contains = l := by decide
theorem sub5_ext {l m : List Nat} (hl : l ∈ dz) (hm : m ∈ dz) (h : ∀ x, x ∈ l ↔ x ∈ m) : l = m := by
 rw [<- lL l hl, <- lL m hm]
 refine List.filter_congr fun x _ => ?_
 rw [List.contains_eq_mem, List.contains_eq_mem]
 exact decide_eq_decide.mpr (h x)
theorem sub5_nd {l : List Nat} (hl : l ∈ dz) : l.Nodup := by
 rw [<- lL l hl]; exact List.nodup_range.filter _
section
variable {nr : aH} (G : Gr nr) (N : bR nr)
include G N
theorem meets {S : List Nat} (hS : S ∈ dz) {r : Nat} (hr : r < 5) : (S.contains r || bV (bj nr r) (bT S)) = true ↔ ∃ x ∈ nb nr r, x ∈ S := by
 have e : bV (bj nr r) (bT S) = true ↔ ∃ x ∈ nb nr r, x ∈ S := by
  unfold bV bj
  rw [List.any_cons, show (("*" : Str) != star) = false by decide, Bool.false_and, Bool.false_or, List.any_eq_true]
  constructor
  ·rintro ⟨a, ha, h⟩
   obtain ⟨x, hx, rfl⟩ := List.mem_map.mp ha
   rw [Bool.and_eq_true] at h
   have q := row_has S hS x (G.lt _ _ hx)
   unfold kj at q
   rw [q, List.contains_eq_mem] at h
   exact ⟨x, hx, of_decide_eq_true h.2⟩
  ·rintro ⟨x, hx, h⟩
   refine ⟨tn x, List.mem_map_of_mem hx, ?_⟩
   have q := row_has S hS x (G.lt _ _ hx)
   unfold kj at q
   rw [Bool.and_eq_true, q, List.contains_eq_mem]
   exact ⟨(bC x (G.lt _ _ hx)).1, decide_eq_true h⟩
 rw [Bool.or_eq_true, e, List.contains_eq_mem, decide_eq_true_iff]
 exact ⟨fun h => h.elim (fun q => ⟨r, G.refl r hr, q⟩) id, .inr⟩
theorem held_mem {s : Sf} (h : ∀ c, c < 5 -> nb s.safe c ∈ dz) (lt : ∀ c, c < 5 -> ∀ r ∈ nb s.held c, r < 5) {c : Nat} (hc : c < 5) (r : Nat) : r ∈ nb (heldOf nr s) c ↔ r ∈ nb s.held c /\ ∃ x ∈ nb nr r, x ∈ nb s.safe c := by
 unfold heldOf
 rw [nb_map hc, List.mem_filter]
 exact and_congr_right fun q => meets G N (h c hc) (lt c hc r q)
omit N in
theorem kh {held : aH} {d : Nat} (hd : d < 5) (r : Nat) : r ∈ nb (fW nr held) d ↔ r < 5 /\ ∀ c ∈ nb nr d, r ∈ nb held c := by
 unfold fW
 rw [nb_map hd, mem5, List.isEmpty_iff, List.filter_eq_nil_iff]
 refine and_congr_right fun _ => forall_congr' fun c => forall_congr' fun _ => ?_
 rw [List.contains_eq_mem]
 by_cases q : r ∈ nb held c
 ·rw [decide_eq_true q]; exact ⟨fun _ => q, fun _ => Bool.false_ne_true⟩
 ·rw [decide_eq_false q]; exact ⟨fun h => absurd rfl h, fun h => absurd h q⟩
omit G N in
theorem j6 {c : Nat} (hc : c < 5) (r : Nat) : (r ∈ nb sf0.safe c ↔ r < 5 /\ r ≠ c) /\ (r ∈ nb sf0.held c ↔ r < 5 /\ r ≠ c) := by
 have : r ∈ nb ((List.range 5).map fun c => (List.range 5).filter fun r => r != c) c ↔ r < 5 /\ r ≠ c := by
  rw [nb_map hc, mem5]; simp
 exact ⟨this, this⟩
structure SfI (nr : aH) (s : Sf) : Prop where
 held : ∀ c, c < 5 -> ∀ r ∈ nb s.held c, r < 5 /\ r ≠ c
 sub : ∀ d, d < 5 -> ∀ r, r < 5 -> (∀ c ∈ nb nr d, r ∈ nb s.held c) -> r ∈ nb s.safe d
 last : s.last = [] ∨ (∀ d, d < 5 -> ∀ r ∈ nb s.safe d, ∀ c ∈ nb nr d, r ∈ nb s.held c) /\ (∀ c, c < 5 -> ∀ r ∈ nb s.held c, ∃ x ∈ nb nr r, x ∈ nb s.last c)
noncomputable def sizeS (l : aH) : Nat := ((List.range 5).flatMap fun c => (nb l c).map fun r => (c, r)).length
omit G N in
theorem size_lt {a b : aH} (ha : bR a) (hb : bR b) (sub : ∀ c, c < 5 -> ∀ r ∈ nb a c, r ∈ nb b c) (ne : a ≠ b) : sizeS a < sizeS b := by
 have ex : ∃ c, c < 5 /\ ∃ r ∈ nb b c, r ∉ nb a c := by
  refine Decidable.byContradiction fun q => ne ?_
  have row : ∀ c, c < 5 -> nb a c = nb b c := fun c hc => sub5_ext (ha.sub c hc) (hb.sub c hc) fun x => ⟨sub c hc x, fun h => Decidable.byContradiction fun n => q ⟨c, hc, x, h, n⟩⟩
  refine List.ext_getElem (by rw [ha.len, hb.len]) fun c h1 h2 => ?_
  have := row c (by rw [<- ha.len]; exact h1)
  unfold nb at this
  rwa [List.getD_eq_getElem?_getD, List.getD_eq_getElem?_getD, List.getElem?_eq_getElem h1, List.getElem?_eq_getElem h2] at this
 obtain ⟨c, hc, r, h1, h2⟩ := ex
 have nd : ∀ l, bR l -> ((List.range 5).flatMap fun c => (nb l c).map fun r => (c, r)).Nodup := fun l h => by
  refine pairs_nd (nb l) List.nodup_range fun u => ?_
  rcases Nat.lt_or_ge u 5 with q | q
  ·exact sub5_nd (h.sub u q)
  ·unfold nb
   rw [List.getD_eq_getElem?_getD, List.getElem?_eq_none (by rw [h.len]; exact q)]
   exact .nil
 have mem : ∀ (l : aH) (p : Nat × Nat), p ∈ ((List.range 5).flatMap fun c => (nb l c).map fun r => (c, r)) ↔ p.1 < 5 /\ p.2 ∈ nb l p.1 := fun l p => by
  rw [List.mem_flatMap]
  constructor
  ·rintro ⟨u, hu, q⟩
   obtain ⟨v, hv, rfl⟩ := List.mem_map.mp q
   exact ⟨List.mem_range.mp hu, hv⟩
  ·rintro ⟨a, b⟩
   exact ⟨p.1, List.mem_range.mpr a, List.mem_map.mpr ⟨p.2, b, rfl⟩⟩
 exact nQ (l := (c, r) :: _) id (List.nodup_cons.mpr ⟨fun q => h2 ((mem a _).mp q).2, nd a ha⟩) (fun p hp => by
  rcases List.mem_cons.mp hp with q | q
  ·rw [q]; exact (mem b _).mpr ⟨hc, h1⟩
  ·have := (mem a p).mp q
   exact (mem b p).mpr ⟨this.1, sub _ this.1 _ this.2⟩) fun _ _ _ _ e => e
theorem sf_all : ∀ k, SfI nr (sfN nr k) /\ (((sfN nr k).safe != (sfN nr k).last) = false ∨ sizeS (sfN nr k).safe + k <= 20)
 | 0 => by
  refine ⟨⟨fun c hc r h => (j6 hc r).2.mp h, fun d hd r hr h => (j6 hd r).1.mpr ((j6 hd r).2.mp (h d (G.refl d hd))), .inl rfl⟩, .inr (show sizeS sf0.safe <= 20 by decide)⟩
 | k + 1 => by
  have ih := sf_all k
  have ok := jF nr k
  show SfI nr (cN nr (sfN nr k)) /\ (((cN nr (sfN nr k)).safe != (cN nr (sfN nr k)).last) = false ∨ sizeS (cN nr (sfN nr k)).safe + (k + 1) <= 20)
  generalize sfN nr k = s at ih ok ⊢
  obtain ⟨I, z⟩ := ih
  by_cases q : (s.safe != s.last) = true
  ·have e : cN nr s = ⟨fW nr (heldOf nr s), s.safe, heldOf nr s⟩ := if_pos q
   rw [e]
   have hm : ∀ c, c < 5 -> ∀ r, r ∈ nb (heldOf nr s) c ↔ r ∈ nb s.held c /\ ∃ x ∈ nb nr r, x ∈ nb s.safe c := fun c hc r => held_mem G N ok.1.sub (fun c hc r h => (I.held c hc r h).1) hc r
   have z := z.resolve_left fun w => by rw [w] at q; cases q
   refine ⟨⟨fun c hc r h => I.held c hc r ((hm c hc r).mp h).1, fun d hd r hr h => (kh G hd r).mpr ⟨hr, h⟩, .inr ⟨fun d hd r h => ((kh G hd r).mp h).2, fun c hc r h => ((hm c hc r).mp h).2⟩⟩, ?_⟩
   by_cases w : fW nr (heldOf nr s) = s.safe
   ·exact .inl (by show (fW nr (heldOf nr s) != s.safe) = false; rw [w]; exact bne_self_eq_false _)
   ·refine .inr ?_
    have l := size_lt (a := fW nr (heldOf nr s)) (eZ (f := fun d => (List.range 5).filter fun r => ((nb nr d).filter fun c => !(nb (heldOf nr s) c).contains r).isEmpty) fun c _ => dm _) ok.1 (fun d hd r h => by
     obtain ⟨a, b⟩ := (kh G hd r).mp h
     exact I.sub d hd r a fun c hc => ((hm c (G.lt _ _ hc) r).mp (b c hc)).1) w
    show sizeS (fW nr (heldOf nr s)) + (k + 1) <= 20
    lia
  ·have e : cN nr s = s := if_neg q
   rw [e]
   exact ⟨I, .inl (by simpa using q)⟩
theorem j9 {d r : Nat} (hd : d < 5) (h : r ∈ nb (dG nr) d) : r < 5 /\ ∀ c ∈ nb nr d, c ≠ r /\ ∃ x ∈ nb nr r, x ∈ nb (dG nr) c := by
 unfold dG at h ⊢
 obtain ⟨I, z⟩ := sf_all G N 22
 have ok := (jF nr 22).1
 generalize sfN nr 22 = s at I z h ok ⊢
 have z := z.resolve_right (by lia)
 have z : s.safe = s.last := by simpa using z
 rcases I.last with q | ⟨a, b⟩
 ·have := ok.len
  rw [z, q] at this
  cases this
 ·refine ⟨(bu _ (ok.sub d hd)).2 r h, fun c hc => ?_⟩
  have hh := a d hd r h c hc
  obtain ⟨x, x1, x2⟩ := b c (G.lt _ _ hc) r hh
  exact ⟨fun e => (I.held c (G.lt _ _ hc) r hh).2 e.symm, x, x1, by rw [z]; exact x2⟩
theorem safe_all (Z : Nat -> Nat -> Prop) (lt : ∀ d r, Z d r -> r < 5) (go : ∀ d r, Z d r -> ∀ c ∈ nb nr d, c ≠ r /\ ∃ x ∈ nb nr r, Z c x) : ∀ k, (∀ d r, d < 5 -> Z d r -> r ∈ nb (sfN nr k).safe d) /\ ∀ c r, c < 5 -> r < 5 -> c ≠ r -> (∃ x ∈ nb nr r, Z c x) -> r ∈ nb (sfN nr k).held c
 | 0 => ⟨fun d r hd h => (j6 hd r).1.mpr ⟨lt d r h, fun e => (go d r h d (G.refl d hd)).1 e.symm⟩, fun c r hc hr ne _ => (j6 hc r).2.mpr ⟨hr, fun e => ne e.symm⟩⟩
 | k + 1 => by
  have ih := safe_all Z lt go k
  have ok := (jF nr k).1
  have I := (sf_all G N k).1
  show (∀ d r, d < 5 -> Z d r -> r ∈ nb (cN nr (sfN nr k)).safe d) /\ ∀ c r, c < 5 -> r < 5 -> c ≠ r -> (∃ x ∈ nb nr r, Z c x) -> r ∈ nb (cN nr (sfN nr k)).held c
  generalize sfN nr k = s at ih ok I ⊢
  by_cases q : (s.safe != s.last) = true
  ·have e : cN nr s = ⟨fW nr (heldOf nr s), s.safe, heldOf nr s⟩ := if_pos q
   rw [e]
   have h2 : ∀ c r, c < 5 -> r < 5 -> c ≠ r -> (∃ x ∈ nb nr r, Z c x) -> r ∈ nb (heldOf nr s) c := fun c r hc hr ne ⟨x, x1, x2⟩ => (held_mem G N ok.sub (fun c hc r h => (I.held c hc r h).1) hc r).mpr ⟨ih.2 c r hc hr ne ⟨x, x1, x2⟩, x, x1, ih.1 c x hc x2⟩
   exact ⟨fun d r hd h => (kh G hd r).mpr ⟨lt d r h, fun c hc => have g := go d r h c hc; h2 c r (G.lt _ _ hc) (lt d r h) g.1 g.2⟩, h2⟩
  ·have e : cN nr s = s := if_neg q
   rw [e]; exact ih
theorem safe_emp {fs : List (Nat × Nat)} {L : List Nat} (d : Dm nr fs L) (st : Stiff nr L) {c : Nat} (hc : c < 5) : (nb (dG nr) c).isEmpty = (L.length == 1) := by
 by_cases q : L.length = 1
 ·rw [beq_iff_eq.mpr q, List.isEmpty_iff]
  refine List.eq_nil_iff_forall_not_mem.mpr fun r hr => ?_
  have walk : ∀ {fs L}, Dm nr fs L -> ∃ r, r ∈ nb (dG nr) (shN fs c) := fun d => by
   induction d with
   | nil => exact ⟨r, hr⟩
   | cons h hu hv ne dom ih =>
    obtain ⟨r, hr⟩ := ih
    have t := (Dm.cons h hu hv ne dom).step' G hc (G.refl c hc)
    obtain ⟨_, x, _, hx⟩ := (j9 G N (h.lt.1 _ (h.mem hc)) hr).2 _ (G.symm _ _ t)
    exact ⟨x, hx⟩
  have none : ∀ {fs L}, Dm nr fs L -> ∀ r x, r < 5 -> x ∈ nb nr r -> x ∉ nb (dG nr) (shN fs r) := fun d => by
   induction d with
   | nil => exact fun r x hr hx h => ((j9 G N hr h).2 x hx).1 rfl
   | cons h hu hv ne dom ih =>
    intro r x hr hx q
    have d := Dm.cons h hu hv ne dom
    obtain ⟨_, y, y1, y2⟩ := (j9 G N (d.lt.1 _ (d.mem hr)) q).2 _ (d.step' G hr hx)
    exact ih x y (G.lt _ _ hx) y1 y2
  obtain ⟨r, hr⟩ := walk d
  obtain ⟨w, e⟩ := List.length_eq_one_iff.mp q
  have h5 := (j9 G N (d.lt.1 _ (d.mem hc)) hr).1
  have a := d.mem hc
  have b := d.mem h5
  rw [e, List.mem_singleton] at a b
  rw [a, <- b] at hr
  exact none d r r h5 (G.refl r h5) hr
 ·rw [beq_eq_false_iff_ne.mpr q, List.isEmpty_eq_false_iff]
  have a := d.mem hc
  have ex : ∃ u ∈ L, u ≠ shN fs c := by
   refine Decidable.byContradiction fun n => q ?_
   have l1 : L.length <= 1 := nQ (m := [shN fs c]) id d.lt.2 (fun x hx => List.mem_singleton.mpr (Decidable.byContradiction fun w => n ⟨x, hx, w⟩)) fun _ _ _ _ e => e
   have := List.length_pos_of_mem a
   lia
  obtain ⟨u, hu, ne⟩ := ex
  obtain ⟨x, x1, _, x3⟩ := st u hu _ a ne
  have := (safe_all G N (fun d r => d < 5 /\ r ∈ L /\ r ∉ nb nr (shN fs d)) (fun e r h => d.lt.1 r h.2.1) (fun e r h y hy => by
   obtain ⟨h1, h2, h3⟩ := h
   have y5 := G.lt _ _ hy
   have t := d.hom G e y h1 hy
   have ne : r ≠ shN fs y := fun z => h3 (z ▸ t)
   obtain ⟨z, z1, z2, z3⟩ := st r h2 _ (d.mem y5) ne
   exact ⟨fun w => ne (by rw [w, d.fix h2]), z, z2, y5, z1, z3⟩) 22).1 c x hc ⟨hc, x1, x3⟩
  exact fun z => by rw [show nb (sfN nr 22).safe c = [] from z] at this; cases this
theorem plain_p (o : Int) : PlainP nr o := by
 obtain ⟨d, st, b⟩ := fold_end (nr := nr) o
 obtain ⟨fs, d2, st2⟩ := core_end (nr := nr)
 have l1 := d.le G st d2
 have l2 := d2.le G st2 d
 refine ⟨b, Nat.le_antisymm l1.1 l2.1, Nat.le_antisymm l1.2 l2.2, fun c hc => safe_emp G N d st hc, fun e he r hr => ?_⟩
 unfold badN
 refine List.filter_eq_nil_iff.mpr fun c hc => ?_
 obtain ⟨n, x, x1, x2⟩ := (j9 G N he hr).2 c hc
 rw [Bool.or_eq_true, beq_iff_eq]
 rintro (q | q)
 ·exact n q
 ·have := List.filter_eq_nil_iff.mp (List.isEmpty_iff.mp q) x x1
  exact this (by rw [List.contains_eq_mem]; exact decide_eq_true x2)
end
theorem starts_iff {x y : Str} : Txt.startswith x y = true ↔ ls y <+: ls x := by
 unfold Txt.startswith
 rw [Bool.and_eq_true, decide_eq_true_eq, StrLaws.subAt_eq, List.drop_zero, Nat.zero_add, len_list, len_list, beq_iff_eq, List.prefix_iff_eq_take]
 exact ⟨fun h => h.2.symm, fun h => ⟨by rw [h]; exact List.length_take_le' .., h.symm⟩⟩
noncomputable def chN : List (Nat × Nat) -> Nat -> List Nat
 | [], x => [x]
 | f :: fs, x => if shN fs x = f.1 then f.2 :: chN fs x else chN fs x
noncomputable def pth (l : List Nat) : Str := l.foldl (fun s a => (s ++ tn a) ++ "/") "/"
theorem pth_snoc (l : List Nat) (u : Nat) : pth (l ++ [u]) = (pth l ++ tn u) ++ "/" := by
 unfold pth; rw [List.foldl_append]; rfl
noncomputable def cod (a : Nat) : List Nat := ls (tn a) ++ [47]
theorem pth_ls (l : List Nat) : ls (pth l) = 47 :: l.flatMap cod := by
 have key : ∀ (l : List Nat) (s : Str), ls (l.foldl (fun s a => (s ++ tn a) ++ "/") s) = ls s ++ l.flatMap cod := by
  intro l
  induction l with
  | nil => exact fun s => (List.append_nil _).symm
  | cons a l ih =>
   intro s
   rw [List.foldl_cons, ih, app_list, app_list, List.flatMap_cons, List.append_assoc, List.append_assoc, <- List.append_assoc (ls (tn a))]; rfl
 exact key l "/"
theorem cod_free : ∀ a < 5, ∀ b < 5, (cod a).isPrefixOf (cod b) = (a == b) := by decide +kernel
theorem cod_pre : ∀ {l m : List Nat}, (∀ a ∈ l, a < 5) -> (∀ a ∈ m, a < 5) -> l.flatMap cod <+: m.flatMap cod -> l <+: m := by
 intro l
 induction l with
 | nil => exact fun _ _ _ => List.nil_prefix
 | cons a l ih =>
  intro m hl hm h
  have a5 := hl a (.head _)
  cases m with
  | nil =>
   have h := List.prefix_nil.mp h
   rw [List.flatMap_cons] at h
   have h := (List.append_eq_nil_iff.mp (List.append_eq_nil_iff.mp h).1).2
   cases h
  | cons b m =>
   have b5 := hm b (.head _)
   rw [List.flatMap_cons, List.flatMap_cons] at h
   have e : a = b := by
    have p1 : cod a <+: cod b ++ m.flatMap cod := (List.prefix_append _ _).trans h
    rcases List.prefix_or_prefix_of_prefix p1 (List.prefix_append _ _) with q | q
    ·have := cod_free a a5 b b5
     rw [List.isPrefixOf_iff_prefix.mpr q] at this
     exact eq_of_beq this.symm
    ·have := cod_free b b5 a a5
     rw [List.isPrefixOf_iff_prefix.mpr q] at this
     exact (eq_of_beq this.symm).symm
   subst e
   rw [List.prefix_append_right_inj] at h
   exact (List.prefix_cons_inj a).mpr (ih (fun x hx => hl x (.tail _ hx)) (fun x hx => hm x (.tail _ hx)) h)
theorem pth_pre {l m : List Nat} (hl : ∀ a ∈ l, a < 5) (hm : ∀ a ∈ m, a < 5) : Txt.startswith (pth m) (pth l) = true ↔ l <+: m := by
 rw [starts_iff, pth_ls, pth_ls, List.prefix_cons_inj]
 refine ⟨cod_pre hl hm, ?_⟩
 rintro ⟨r, rfl⟩
 rw [List.flatMap_append]
 exact List.prefix_append _ _
theorem pth_len {l m : List Nat} (h : l <+: m) : (pth l).length <= (pth m).length /\ ((pth l).length = (pth m).length -> l = m) := by
 obtain ⟨r, rfl⟩ := h
 rw [len_list, len_list, pth_ls, pth_ls, List.flatMap_append, List.length_cons, List.length_cons, List.length_append]
 refine ⟨by lia, fun e => ?_⟩
 cases r with
 | nil => exact (List.append_nil l).symm
 | cons a r =>
  rw [List.flatMap_cons, List.length_append] at e
  unfold cod at e
  rw [List.length_append, List.length_cons] at e
  lia
section
variable {nr : aH} {fs : List (Nat × Nat)} {L : List Nat}
theorem Dm.pair (h : Dm nr fs L) : ∀ f ∈ fs, shN fs f.1 = shN fs f.2 /\ f.1 < 5 /\ f.2 < 5 := by
 induction h with
 | nil => exact nofun
 | @cons fs L u v h hu hv ne dom ih =>
  intro f hf
  show (if shN fs f.1 = u then v else shN fs f.1) = (if shN fs f.2 = u then v else shN fs f.2) /\ _
  rcases List.mem_cons.mp hf with q | q
  ·rw [q, h.fix hu, h.fix hv, if_pos rfl, if_neg fun e => ne e.symm]
   exact ⟨rfl, h.lt.1 u hu, h.lt.1 v hv⟩
  ·obtain ⟨a, b⟩ := ih f q
   rw [a]; exact ⟨rfl, b⟩
theorem Dm.one (h : Dm nr fs L) {x : Nat} (hx : x ∈ L) : chN fs x = [x] := by
 induction h with
 | nil => rfl
 | @cons fs L u v h hu hv ne dom ih =>
  have q := jM hx
  show (if shN fs x = u then v :: chN fs x else chN fs x) = [x]
  rw [h.fix q.1, if_neg q.2]; exact ih q.1
theorem Dm.chain (h : Dm nr fs L) : ∀ f ∈ fs, chN fs f.1 = chN fs f.2 ++ [f.1] := by
 induction h with
 | nil => exact nofun
 | @cons fs L u v h hu hv ne dom ih =>
  intro f hf
  show (if shN fs f.1 = u then v :: chN fs f.1 else chN fs f.1) = (if shN fs f.2 = u then v :: chN fs f.2 else chN fs f.2) ++ [f.1]
  rcases List.mem_cons.mp hf with q | q
  ·rw [q, h.fix hu, h.fix hv, if_pos rfl, if_neg fun e => ne e.symm, h.one hu, h.one hv]; rfl
  ·rw [ih f q, (h.pair f q).1]
   split <;> rfl
theorem Dm.ends (h : Dm nr fs L) (x : Nat) (hx : x < 5) : (∀ a ∈ chN fs x, a < 5) /\ (∃ l, chN fs x = l ++ [x]) /\ (chN fs x).length <= fs.length + 1 := by
 induction h with
 | nil => exact ⟨fun a ha => by rw [List.mem_singleton.mp ha]; exact hx, ⟨[], rfl⟩, Nat.le_refl _⟩
 | @cons fs L u v h hu hv ne dom ih =>
  obtain ⟨a, ⟨l, e⟩, n⟩ := ih
  show (∀ a ∈ (if shN fs x = u then v :: chN fs x else chN fs x), a < 5) /\ (∃ l, (if shN fs x = u then v :: chN fs x else chN fs x) = l ++ [x]) /\ (if shN fs x = u then v :: chN fs x else chN fs x).length <= fs.length + 1 + 1
  split
  ·refine ⟨fun y hy => ?_, ⟨v :: l, by rw [e]; rfl⟩, Nat.succ_le_succ n⟩
   rcases List.mem_cons.mp hy with q | q
   ·rw [q]; exact h.lt.1 v hv
   ·exact a y q
  ·exact ⟨a, ⟨l, e⟩, Nat.le_succ_of_le n⟩
theorem Dm.near (h : Dm nr fs L) {A : Nat -> List Nat} (hA : ∀ f ∈ fs, A f.1 = A f.2 ++ [f.1]) (hE : ∀ x, x < 5 -> ∃ l, A x = l ++ [x]) {x : Nat} (hx : x < 5) : A (shN fs x) <+: A x /\ ∀ p ∈ L, A p <+: A x -> A p <+: A (shN fs x) := by
 induction h with
 | nil => exact ⟨List.prefix_refl _, fun p _ h => h⟩
 | @cons fs L u v h hu hv ne dom ih =>
  obtain ⟨a, b⟩ := ih fun f hf => hA f (.tail _ hf)
  have e := hA (u, v) (.head _)
  show A (if shN fs x = u then v else shN fs x) <+: A x /\ ∀ p ∈ _, A p <+: A x -> A p <+: A (if shN fs x = u then v else shN fs x)
  by_cases q : shN fs x = u
  ·rw [if_pos q]
   rw [q, e] at a b
   refine ⟨(List.prefix_append _ _).trans a, fun p hp hq => ?_⟩
   obtain ⟨hp, np⟩ := jM hp
   rcases List.prefix_concat_iff.mp (b p hp hq) with w | w
   ·obtain ⟨l, z⟩ := hE p (h.lt.1 p hp)
    rw [z] at w
    exact absurd (List.append_inj' w rfl).2 (by simpa using np)
   ·exact w
  ·rw [if_neg q]
   exact ⟨a, fun p hp => b p (jM hp).1⟩
theorem Dm.drop (h : Dm nr fs L) : ∀ k, k <= fs.length -> ∃ M, Dm nr (fs.drop k) M := by
 induction h with
 | nil => exact fun k _ => ⟨_, by rw [List.drop_nil]; exact .nil⟩
 | cons h hu hv ne dom ih =>
  intro k hk
  cases k with
  | zero => exact ⟨_, .cons h hu hv ne dom⟩
  | succ k => exact ih k (Nat.le_of_succ_le_succ hk)
end
theorem allow_best {α : Type} (m : α -> Int) (v : α -> Str) (B : Int) (t : Str) (ht : (t.length != 0) = true) (hB : B ≠ 0) : ∀ (l : List α) (b : Int) (al : Option Str), (∀ x ∈ l, m x <= B /\ (m x = B -> v x = t ∨ v x = "")) ->
  (b = B /\ al = some t) ∨ ((b < B ∨ b = B /\ alT al = false) /\ ∃ x ∈ l, m x = B /\ v x = t) -> cF m v l b al = some t := by
 have ha : alT (some t) = true := ht
 have he : alT (some ("" : Str)) = false := rfl
 have hn : t ≠ "" := fun e => by rw [e] at ht; cases ht
 intro l
 induction l with
 | nil =>
  rintro b al _ (h | ⟨_, x, hx, _⟩)
  ·exact h.2
  ·cases hx
 | cons x r ih =>
  intro b al hm h
  obtain ⟨x1, x2⟩ := hm x (.head _)
  have hm := fun y hy => hm y (.tail _ hy)
  have rest : (∃ y ∈ x :: r, m y = B /\ v y = t) -> ¬(m x = B /\ v x = t) -> ∃ y ∈ r, m y = B /\ v y = t := fun ⟨y, hy, w⟩ n => by
   rcases List.mem_cons.mp hy with q | q
   ·rw [q] at w; exact absurd w n
   ·exact ⟨y, q, w⟩
  rw [mX]
  by_cases c0 : m x = 0
  ·rw [if_pos c0]
   exact ih _ _ hm (h.imp id fun w => ⟨w.1, rest w.2 fun q => hB (by rw [<- q.1, c0])⟩)
  ·rw [if_neg c0]
   by_cases c1 : b < m x
   ·rw [if_pos c1]
    refine ih _ _ hm ?_
    rcases h with ⟨q, _⟩ | ⟨q, w⟩
    ·lia
    ·by_cases e : m x = B
     ·rcases x2 e with z | z
      ·exact .inl ⟨e, congrArg some z⟩
      ·exact .inr ⟨.inr ⟨e, by rw [z]; rfl⟩, rest w fun p => hn (by rw [<- p.2, z])⟩
     ·exact .inr ⟨.inl (by lia), rest w fun p => e p.1⟩
   ·rw [if_neg c1]
    by_cases c2 : m x = b /\ alT al = false
    ·rw [if_pos c2]
     refine ih _ _ hm ?_
     rcases h with ⟨q, z⟩ | ⟨q, w⟩
     ·rw [z, ha] at c2; cases c2.2
     ·by_cases e : m x = B
      ·rcases x2 e with z | z
       ·exact .inl ⟨by rw [<- c2.1, e], congrArg some z⟩
       ·exact .inr ⟨.inr ⟨by rw [<- c2.1, e], by rw [z]; rfl⟩, rest w fun p => hn (by rw [<- p.2, z])⟩
      ·exact .inr ⟨.inl (by lia), rest w fun p => e p.1⟩
    ·rw [if_neg c2]
     refine ih _ _ hm (h.imp id fun w => ⟨w.1, rest w.2 fun p => ?_⟩)
     rcases w.1 with q | q
     ·lia
     ·exact c2 ⟨by lia, q.2⟩
section
variable {nr : aH} {fs : List (Nat × Nat)} {L : List Nat}
noncomputable def piN (fs : List (Nat × Nat)) (x : Nat) : Str := pth (chN fs x)
structure RulOk (π : Nat -> Str) (M : List Nat) (rs : List Rl) : Prop where
 of : ∀ x ∈ rs, ∃ p ∈ M, x.1 = π p /\ (x.2 = tn p ∨ x.2 = "")
 to : ∀ p ∈ M, (π p, tn p) ∈ rs
theorem tn_ne : ∀ p < 5, ((tn p).length != 0) = true := by decide
theorem told_ok (h : Dm nr fs L) {k : Nat} {M : List Nat} (d : Dm nr (fs.drop k) M) {rs : List Rl} (R : RulOk (piN fs) M rs) {x : Nat} (hx : x < 5) :
  cF (iH (piN fs x)) (fun x : Rl => x.2) rs (-1) none = some (tn (shN (fs.drop k) x)) := by
 have hE : ∀ y, y < 5 -> ∃ l, chN fs y = l ++ [y] := fun y hy => (h.ends y hy).2.1
 obtain ⟨n1, n2⟩ := d.near (fun f hf => h.chain f (List.mem_of_mem_drop hf)) hE hx
 have cM := d.mem hx
 generalize shN (fs.drop k) x = c at n1 n2 cM
 have c5 := d.lt.1 c cM
 have five : ∀ y, y < 5 -> ∀ a ∈ chN fs y, a < 5 := fun y hy => (h.ends y hy).1
 have inj : ∀ p, p < 5 -> chN fs p = chN fs c -> p = c := fun p hp e => by
  obtain ⟨a, ea⟩ := hE p hp
  obtain ⟨b, eb⟩ := hE c c5
  rw [ea, eb] at e
  simpa using (List.append_inj' e rfl).2
 have rc : ∀ p, p < 5 -> ∀ v, iH (piN fs x) (piN fs p, v) = if chN fs p <+: chN fs x then ((piN fs p).length + 1 : Nat) else 0 := fun p hp v => by
  unfold iH piN
  by_cases q : chN fs p <+: chN fs x
  ·rw [if_pos q, if_pos ((pth_pre (five p hp) (five x hx)).mpr q)]
  ·rw [if_neg q, if_neg fun w => q ((pth_pre (five p hp) (five x hx)).mp w)]; rfl
 refine allow_best _ _ ((piN fs c).length + 1 : Nat) _ (tn_ne c c5) (by lia) rs (-1) none (fun y hy => ?_) (.inr ⟨.inl (by lia), (piN fs c, tn c), R.to c cM, ?_, rfl⟩)
 ·obtain ⟨p, hp, e1, e2⟩ := R.of y hy
  obtain ⟨y1, y2⟩ := y
  have e1 : y1 = piN fs p := e1
  subst e1
  have p5 := d.lt.1 p hp
  rw [rc p p5]
  by_cases q : chN fs p <+: chN fs x
  ·rw [if_pos q]
   have w := pth_len (n2 p hp q)
   change (piN fs p).length <= (piN fs c).length /\ ((piN fs p).length = (piN fs c).length -> _) at w
   refine ⟨by have := w.1; lia, fun e => ?_⟩
   rw [<- inj p p5 (w.2 (by lia))]
   exact e2
  ·rw [if_neg q]
   exact ⟨by lia, fun e => by lia⟩
 ·rw [rc c c5, if_pos n1]
variable (nr) (o : Int) (fs) (c3 : Nat) (L)
noncomputable def mvN : Nat -> Mv
 | 0 => mv0 (piN fs) L c3 (shN fs (c3 % 5))
 | k + 1 => iQ nr (aX (piN fs) o (fs.getD k (0, 0)).1 (mvN k)) (shN (fs.drop (k + 1)) (d9 nr (mvN k)))
variable {nr} {o} {fs} {c3} {L}
theorem found_mem {π : Nat -> Str} {u : Nat} {x : Rl} : x ∈ bD π o u ↔ x.1 = π u /\ (x.2 = tn u ∨ x.2 = "") := by
 have e : ∀ s, s ∈ pairOf o u ↔ s = tn u ∨ s = "" := fun s => by
  unfold pairOf
  split
  ·rw [List.mem_cons, List.mem_singleton]
  ·rw [List.mem_cons, List.mem_singleton]; exact or_comm
 unfold bD
 rw [List.mem_map]
 constructor
 ·rintro ⟨s, hs, rfl⟩; exact ⟨rfl, (e s).mp hs⟩
 ·rintro ⟨h1, h2⟩; exact ⟨x.2, (e _).mpr h2, Prod.ext h1.symm rfl⟩
theorem merge_mem {π : Nat -> Str} {u : Nat} {m : Mv} {x : Rl} : x ∈ (aX π o u m).rules ↔ x ∈ m.rules ∨ x ∈ bD π o u := by
 unfold aX
 split
 ·exact List.mem_append
 ·exact List.mem_append.trans or_comm
theorem rate_in {u : Nat} (h : u < 5) : tn u ∈ jJ := .tail _ (getD_mem (l := aG) h)
theorem mvN_ok (G : Gr nr) (h : Dm nr fs L) : ∀ k, k <= fs.length -> (mvN nr fs L o c3 k).cop = shN (fs.drop k) (mvN nr fs L o c3 k).crawler /\ (mvN nr fs L o c3 k).crawler < 5 /\ (mvN nr fs L o c3 k).rate ∈ jJ /\ ∃ M, Dm nr (fs.drop k) M /\ RulOk (piN fs) M (mvN nr fs L o c3 k).rules
 | 0, _ => by
  refine ⟨rfl, Nat.mod_lt _ (by decide), .head _, L, h, fun x hx => ?_, fun p hp => List.mem_map.mpr ⟨p, hp, rfl⟩⟩
  obtain ⟨p, hp, rfl⟩ := List.mem_map.mp hx
  exact ⟨p, hp, rfl, .inl rfl⟩
 | k + 1, hk => by
  have ih := mvN_ok G h k (Nat.le_of_succ_le hk)
  show (iQ nr (aX (piN fs) o (fs.getD k (0, 0)).1 (mvN nr fs L o c3 k)) (shN (fs.drop (k + 1)) (d9 nr (mvN nr fs L o c3 k)))).cop = shN (fs.drop (k + 1)) (iQ nr (aX (piN fs) o (fs.getD k (0, 0)).1 (mvN nr fs L o c3 k)) (shN (fs.drop (k + 1)) (d9 nr (mvN nr fs L o c3 k)))).crawler /\ d9 nr (aX (piN fs) o (fs.getD k (0, 0)).1 (mvN nr fs L o c3 k)) < 5 /\ (aX (piN fs) o (fs.getD k (0, 0)).1 (mvN nr fs L o c3 k)).rate ∈ jJ /\ ∃ M, Dm nr (fs.drop (k + 1)) M /\ RulOk (piN fs) M (aX (piN fs) o (fs.getD k (0, 0)).1 (mvN nr fs L o c3 k)).rules
  have ed : fs.drop k = fs.getD k (0, 0) :: fs.drop (k + 1) := by
   rw [List.getD_eq_getElem?_getD, List.getElem?_eq_getElem hk]
   exact List.drop_eq_getElem_cons hk
  generalize mvN nr fs L o c3 k = m at ih ⊢
  generalize fs.getD k (0, 0) = f at ed ⊢
  obtain ⟨_, cr, rt, M, d, R⟩ := ih
  rw [ed] at d
  have mk := gQ (π := piN fs) (o := o) (u := f.1) (m := m)
  have nx : d9 nr (aX (piN fs) o f.1 m) = d9 nr m := by unfold d9; rw [mk.2.1, mk.2.2]
  cases d with
  | @cons _ M u v d hu hv ne dom =>
  have u5 := d.lt.1 u hu
  refine ⟨?_, ?_, ?_, M, d, fun x hx => ?_, fun p hp => merge_mem.mpr ?_⟩
  ·show shN _ _ = shN _ (d9 nr _)
   rw [nx]
  ·rw [nx]
   unfold d9
   exact G.lt m.crawler _ (getD_mem (Nat.mod_lt _ (List.length_pos_of_mem (G.refl _ cr))))
  ·unfold aX
   split
   ·exact rate_in u5
   ·exact rt
  ·rcases merge_mem.mp hx with q | q
   ·obtain ⟨p, hp, w⟩ := R.of x q
    exact ⟨p, (jM hp).1, w⟩
   ·exact ⟨u, hu, found_mem.mp q⟩
  ·by_cases q : p = u
   ·exact .inr (found_mem.mpr ⟨by rw [q], .inl (by rw [q])⟩)
   ·exact .inl (R.to p (mem_ne hp q))
theorem chase_g (G : Gr nr) (h : Dm nr fs L) (o : Int) (c3 : Nat) : shN fs (c3 % 5) < 5 /\ my (piN fs) (mv0 (piN fs) L c3 (shN fs (c3 % 5))) = some (tn (shN fs (c3 % 5))) /\ nY nr (piN fs) o fs (mv0 (piN fs) L c3 (shN fs (c3 % 5))) (mvN nr fs L o c3) /\
  (mvN nr fs L o c3 fs.length).cop = (mvN nr fs L o c3 fs.length).crawler /\ (mvN nr fs L o c3 fs.length).rate ∈ jJ := by
 have ok := fun k hk => mvN_ok (o := o) (c3 := c3) G h k hk
 have t0 : ∀ k hk, my (piN fs) (mvN nr fs L o c3 k) = some (tn (shN (fs.drop k) (mvN nr fs L o c3 k).crawler)) := fun k hk => by
  obtain ⟨_, b, _, M, d, R⟩ := ok k hk
  exact told_ok h d R b
 have e := ok fs.length (Nat.le_refl _)
 rw [List.drop_length] at e
 refine ⟨h.lt.1 _ (h.mem (Nat.mod_lt _ (by decide))), t0 0 (Nat.zero_le _), ⟨rfl, fun k hk => ?_⟩, e.1, e.2.2.1⟩
 obtain ⟨a, b, _⟩ := ok k (Nat.le_of_lt hk)
 obtain ⟨a', b', _⟩ := ok (k + 1) hk
 have t := t0 (k + 1) hk
 obtain ⟨M0, d0⟩ := h.drop k (Nat.le_of_lt hk)
 obtain ⟨M1, d1⟩ := h.drop (k + 1) hk
 have ed : fs.drop k = fs.getD k (0, 0) :: fs.drop (k + 1) := by
  rw [List.getD_eq_getElem?_getD, List.getElem?_eq_getElem hk]
  exact List.drop_eq_getElem_cons hk
 have nin : d9 nr (mvN nr fs L o c3 k) ∈ nb nr (mvN nr fs L o c3 k).crawler := getD_mem (Nat.mod_lt _ (List.length_pos_of_mem (G.refl _ b)))
 rw [<- a'] at t
 refine ⟨(h.pair _ (getD_mem hk)).2.1, shN (fs.drop (k + 1)) (d9 nr (mvN nr fs L o c3 k)), d1.lt.1 _ (d1.mem (G.lt _ _ nin)), rfl, t, ?_, List.ne_nil_of_mem (G.refl _ b)⟩
 rw [a, ed]
 rw [ed] at d0
 exact d0.step' G b nin
theorem plain_c (G : Gr nr) (o : Int) (c3 : Nat) : PlainC nr o c3 (piN (fR nr o)) (mvN nr (fR nr o) (fsN nr o 5).left o c3) (shN (fR nr o) (c3 % 5)) := by
 have c := chase_g G (fold_end (nr := nr) o).1 o c3
 have hl : (fsN nr o 5).folds.length = (fR nr o).length := List.length_reverse.symm
 obtain ⟨a, b, c, d, e⟩ := c
 rw [<- hl] at d e
 exact ⟨a, b, c, d, e⟩
end
noncomputable def jl (sep : List Nat) : List (List Nat) -> List Nat
 | [] => []
 | p :: r => p ++ r.flatMap fun q => sep ++ q
theorem join_list (sep : Str) (l : List Str) : ls (Txt.join sep l) = jl (ls sep) (l.map ls) := by
 unfold Txt.join Builtin.Str.glued
 cases l with
 | nil => rfl
 | cons p r =>
  have key : ∀ (r : List Str) (acc : Array Nat), (r.foldl (fun acc q => acc ++ sep.cps ++ q.cps) acc).toList = acc.toList ++ (r.map ls).flatMap fun q => ls sep ++ q := by
   intro r
   induction r with
   | nil => intro acc; exact (List.append_nil _).symm
   | cons a r ih => intro acc; rw [List.foldl_cons, ih, Array.toList_append, Array.toList_append, List.append_assoc, List.append_assoc, List.map_cons, List.flatMap_cons, List.append_assoc]
  exact key r p.cps
theorem jl_one {α : Type} (g : α -> Nat) : ∀ l : List α, jl [] (l.map fun j => [g j]) = l.map g
 | [] => rfl
 | a :: l => by
  show g a :: (l.map fun j => [g j]).flatMap (fun q => [] ++ q) = g a :: l.map g
  refine congrArg (g a :: ·) ?_
  induction l with
  | nil => rfl
  | cons a l ih => rw [List.map_cons, List.flatMap_cons, ih]; rfl
noncomputable def up1 (c : Nat) : Nat := if 97 <= c /\ c <= 122 then c - 32 else c
noncomputable def pat (b c : Nat) : Nat := if b != 0 then up1 c else c
noncomputable def jE (dr : Nat) (l : List Nat) (s : Nat) : List Nat := l.mapIdx fun j c => pat (bit dr (s + j)) c
theorem iB (dr : Nat) (a b : List Nat) (s : Nat) : jE dr (a ++ b) s = jE dr a s ++ jE dr b (s + a.length) := by
 unfold jE
 rw [List.mapIdx_append]
 refine congrArg (_ ++ ·) (congrArg (fun f => List.mapIdx f b) (funext fun j => funext fun c => ?_))
 rw [show s + (j + a.length) = s + a.length + j by lia]
noncomputable def allP : List Nat -> List (List Nat)
 | [] => [[]]
 | c :: l => (allP l).flatMap fun t => [up1 c :: t, c :: t]
theorem typL_cons (dr c : Nat) (l : List Nat) (s : Nat) : jE dr (c :: l) s = pat (bit dr s) c :: jE dr l (s + 1) := iB dr [c] l s
theorem typL_mem (dr : Nat) : ∀ (l : List Nat) (s : Nat), jE dr l s ∈ allP l
 | [], s => .head _
 | c :: l, s => by
  rw [typL_cons]
  refine List.mem_flatMap.mpr ⟨_, typL_mem dr l (s + 1), ?_⟩
  unfold pat
  split
  ·exact .head _
  ·exact .tail _ (.head _)
theorem typL_white (dr : Nat) : ∀ (l : List Nat) (s : Nat), (∀ c ∈ l, up1 c = c) -> jE dr l s = l
 | [], s, _ => rfl
 | c :: l, s, h => by
  rw [typL_cons, typL_white dr l _ fun c hc => h c (.tail _ hc)]
  unfold pat
  rw [h c (.head _), ite_self]
noncomputable def sgns : List Nat := [9, 10, 11, 13, 32, 97, 98, 100, 101, 102, 103, 105, 107, 108, 109, 111, 112, 114, 115, 116, 117, 119]
theorem sgn_up : ∀ c ∈ sgns, ls (upS ⟨#[c]⟩) = [up1 c] := by decide +kernel
theorem txt_sgn : ∀ ws ∈ eX, ∀ d < 4, (∀ c ∈ ls (dO ws d), c ∈ sgns) /\ ls (dO ws d) = ws.flatMap fun w => ls w ++ ls (lH.getD d "") := by decide +kernel
theorem white_sgn : ∀ d < 4, ls (lH.getD d "") ≠ [] /\ ∀ c ∈ ls (lH.getD d ""), Unicode.isSpace c = true /\ up1 c = c := by decide +kernel
noncomputable def wOk (w t : List Nat) : Bool := decide (gV ⟨t.toArray⟩ = gV ⟨w.toArray⟩) && (!t.isEmpty && t.all fun c => !Unicode.isSpace c)
theorem word_all : ∀ ws ∈ eX, ∀ w ∈ ws, ∀ t ∈ allP (ls w), wOk (ls w) t = true := by decide +kernel
theorem word_cap : ∀ u < 5, wd u ∈ eX /\ Txt.join " " ((wd u).map gV) = tn u /\ JoinOk " " ((wd u).map gV) = true /\ (∀ y ∈ (wd u).map gV, y.length <= 9) /\ wd u ≠ [] := by decide +kernel
theorem nO : Unicode.isSpace 9 = true /\ Unicode.isSpace 32 = true := by decide +kernel
theorem ty_ls {ws : List Str} (hw : ws ∈ eX) (dr : Nat) : ls (typ ws dr) = jE dr (ws.flatMap fun w => ls w ++ ls (du dr)) 0 := by
 obtain ⟨a, b⟩ := txt_sgn ws hw (dr % 4) (Nat.mod_lt _ (by decide))
 rw [je] at a b
 change ls (dO ws dr) = ws.flatMap fun w => ls w ++ ls (du dr) at b
 rw [<- b]
 unfold typ typ1
 generalize dO ws dr = t at a
 rw [join_list, show ls (("" : Str)) = [] from rfl, List.map_map]
 have : (List.range t.length).map (ls ∘ fun i => if bit dr i != 0 then upS (chr t i) else chr t i) = (List.range t.length).map fun i => [pat (bit dr i) ((ls t).getD i 0)] := by
  refine List.map_congr_left fun i hi => ?_
  have hi : i < (ls t).length := by rw [<- len_list]; exact List.mem_range.mp hi
  have e : chr t i = ⟨#[(ls t).getD i 0]⟩ := by
   unfold chr
   rw [Array.getD_eq_getD_getElem?, List.getD_eq_getElem?_getD, Array.getElem?_toList]
  have u := sgn_up _ (a _ (getD_mem (d := 0) hi))
  show ls (if bit dr i != 0 then upS (chr t i) else chr t i) = _
  rw [e]
  unfold pat
  by_cases h : (bit dr i != 0) = true
  ·rw [if_pos h, if_pos h, u]
  ·rw [if_neg h, if_neg h]
 rw [this, jl_one, len_list]
 refine List.ext_getElem (by simp [jE]) fun k h1 h2 => ?_
 rw [List.length_map, List.length_range] at h1
 have h3 : k < (List.mapIdx (fun j c => pat (bit dr (0 + j)) c) (ls t)).length := h2
 show _ = (List.mapIdx (fun j c => pat (bit dr (0 + j)) c) (ls t))[k]'h3
 rw [List.getElem_map, List.getElem_range, List.getElem_mapIdx, Nat.zero_add, List.getD_eq_getElem?_getD, List.getElem?_eq_getElem h1]; rfl
theorem scan_sp : ∀ (l : List Nat) (ws : List Str), (∀ c ∈ l, Unicode.isSpace c = true) -> l.foldl KWd.step (ws, Str.empty) = (ws, Str.empty)
 | [], ws, _ => rfl
 | c :: l, ws, h => by
  have e : KWd.step (ws, Str.empty) c = (ws, Str.empty) := by
   unfold KWd.step
   rw [if_pos (h c (.head _))]
   exact if_pos rfl
  rw [List.foldl_cons, e]
  exact scan_sp l ws fun c hc => h c (.tail _ hc)
theorem scan_bl : ∀ (l : List Nat) (ws : List Str) (r : Str), (∀ c ∈ l, Unicode.isSpace c = false) -> l.foldl KWd.step (ws, r) = (ws, r ++ ⟨l.toArray⟩)
 | [], ws, r, _ => congrArg (Prod.mk ws) (nG (by rw [app_list]; exact (List.append_nil _).symm))
 | c :: l, ws, r, h => by
  rw [List.foldl_cons]
  have e : KWd.step (ws, r) c = (ws, r ++ ⟨#[c]⟩) := by
   unfold KWd.step
   rw [if_neg (by rw [h c (.head _)]; exact Bool.false_ne_true)]
  rw [e, scan_bl l ws _ fun c hc => h c (.tail _ hc)]
  exact congrArg (Prod.mk ws) (nG (by rw [app_list, app_list, app_list, List.append_assoc]; rfl))
theorem scan_words {wh : List Nat} (hn : wh ≠ []) (hw : ∀ c ∈ wh, Unicode.isSpace c = true /\ up1 c = c) (dr : Nat) : ∀ (ws : List Str) (s : Nat) (acc : List Str), (∀ w ∈ ws, ∀ t ∈ allP (ls w), wOk (ls w) t = true) ->
  ∃ ts : List Str, (jE dr (ws.flatMap fun w => ls w ++ wh) s).foldl KWd.step (acc, Str.empty) = (acc ++ ts, Str.empty) /\ ts.map gV = ws.map gV
 | [], s, acc, _ => ⟨[], congrArg (Prod.mk · _) (List.append_nil _).symm, rfl⟩
 | w :: ws, s, acc, h => by
  have q := h w (.head _) _ (typL_mem dr (ls w) s)
  unfold wOk at q
  rw [Bool.and_eq_true, Bool.and_eq_true, decide_eq_true_eq, List.all_eq_true] at q
  obtain ⟨q1, q2, q3⟩ := q
  rw [List.flatMap_cons, iB, iB, typL_white dr wh _ fun c hc => (hw c hc).2]
  generalize jE dr (ls w) s = t at q1 q2 q3
  obtain ⟨ts, e1, e2⟩ := scan_words hn hw dr ws (s + (ls w ++ wh).length) (acc ++ [⟨t.toArray⟩]) fun w hw => h w (.tail _ hw)
  refine ⟨⟨t.toArray⟩ :: ts, ?_, by rw [List.map_cons, List.map_cons, e2, q1]⟩
  rw [List.foldl_append, List.foldl_append, scan_bl t acc _ fun c hc => by simpa using q3 c hc]
  have e0 : Str.empty ++ ⟨t.toArray⟩ = (⟨t.toArray⟩ : Str) := nG (by rw [app_list]; rfl)
  rw [e0]
  cases wh with
  | nil => exact absurd rfl hn
  | cons c wh =>
   have e : KWd.step (acc, ⟨t.toArray⟩) c = (acc ++ [⟨t.toArray⟩], Str.empty) := by
    unfold KWd.step
    rw [if_pos (hw c (.head _)).1, if_neg]
    show t.toArray.size ≠ 0
    intro z
    have : t = [] := List.length_eq_zero_iff.mp (by rw [List.size_toArray] at z; exact z)
    rw [this] at q2
    cases q2
   rw [List.foldl_cons, e, scan_sp wh _ fun c hc => (hw c (.tail _ hc)).1, e1, List.append_assoc]; rfl
noncomputable def White (c : Nat) : Prop := c = 9 ∨ c = 32
theorem cap_sheet {dr u : Nat} (hu : u < 5) {s : Str} {l : List Nat} (hs : ls s = l ++ ls (ty dr u)) (hl : ∀ c ∈ l, White c) (n : l.length <= 15) : jd s (tn u) := by
 obtain ⟨wm, c1, c2, c3, c4⟩ := word_cap u hu
 have ht := (txt_ok wm (dr / 2 ^ u)).1
 have wh := white_sgn (dr / 2 ^ u % 4) (Nat.mod_lt _ (by decide))
 have e := ty_ls wm (dr / 2 ^ u)
 change ls (ty dr u) = _ at e
 rw [e] at hs
 obtain ⟨ts, e1, e2⟩ := scan_words wh.1 wh.2 (dr / 2 ^ u) (wd u) 0 [] (word_all _ wm)
 have ew : iz s = ts := by
  have := KWd.words_scan s
  unfold KWd.scan at this
  rw [show s.cps.toList = _ from hs, List.foldl_append, scan_sp l [] fun c hc => (hl c hc).elim (fun q => q ▸ nO.1) fun q => q ▸ nO.2] at this
  exact this.trans ((congrArg KWd.fin e1).trans rfl)
 have len : s.length <= 40 := by
  have l2 : (ls (dO (wd u) (dr / 2 ^ u))).length <= 15 := by rw [<- len_list]; exact ht
  have b := (txt_sgn (wd u) wm (dr / 2 ^ u % 4) (Nat.mod_lt _ (by decide))).2
  rw [je] at b
  rw [b] at l2
  rw [len_list, hs, List.length_append]
  unfold jE
  rw [List.length_mapIdx]
  change (List.flatMap (fun w => ls w ++ ls (du (dr / 2 ^ u))) (wd u)).length <= 15 at l2
  lia
 constructor
 ·lia
 ·have a := StrLaws.len_le_wsum (Builtin.Str.spaceWords s (s.length + 1))
  have b := (StrLaws.sw_weight s).1
  lia
 ·intro x hx
  rw [ew] at hx
  exact Nat.le_trans (c3 _ (e2 ▸ List.mem_map_of_mem hx)) (by decide)
 ·rw [ew, e2]; exact c2
 ·unfold capW
  rw [ew, e2]; exact c1
theorem typ_ok (dr : Nat) : TypOk dr := fun u hu => cap_sheet (l := []) hu rfl nofun (Nat.zero_le _)
theorem ty_head {dr u : Nat} (hu : u < 5) : ∀ c l, ls (ty dr u) = c :: l -> c ≠ 9 /\ c ≠ 32 := by
 intro c l h
 obtain ⟨wm, _, _, _, ne⟩ := word_cap u hu
 have e := ty_ls wm (dr / 2 ^ u)
 change ls (ty dr u) = _ at e
 rw [h] at e
 have wa := word_all _ wm
 cases hw : wd u with
 | nil => exact absurd hw ne
 | cons w ws =>
  rw [hw] at e wa
  have q := wa w (.head _) _ (typL_mem (dr / 2 ^ u) (ls w) 0)
  rw [List.flatMap_cons, iB, iB] at e
  unfold wOk at q
  rw [Bool.and_eq_true, Bool.and_eq_true, List.all_eq_true] at q
  obtain ⟨_, q2, q3⟩ := q
  generalize jE (dr / 2 ^ u) (ls w) 0 = t at e q2 q3
  cases t with
  | nil => cases q2
  | cons d t =>
   have e := (List.cons.inj e).1
   have := q3 d (.head _)
   rw [<- e] at this
   exact ⟨fun z => (by rw [z, nO.1] at this; cases this), fun z => (by rw [z, nO.2] at this; cases this)⟩
theorem ty_len {dr u : Nat} (hu : u < 5) : (ty dr u).length <= 20 := by
 obtain ⟨wm, _⟩ := word_cap u hu
 have l2 := (txt_ok wm (dr / 2 ^ u)).1
 have e := ty_ls wm (dr / 2 ^ u)
 have b := (txt_sgn (wd u) wm (dr / 2 ^ u % 4) (Nat.mod_lt _ (by decide))).2
 rw [je] at b
 change ls (dO (wd u) (dr / 2 ^ u)) = (wd u).flatMap fun w => ls w ++ ls (du (dr / 2 ^ u)) at b
 rw [<- b] at e
 rw [len_list] at l2 ⊢
 unfold ty
 rw [e]
 unfold jE
 rw [List.length_mapIdx]; lia
noncomputable def ldS (kd : Nat) (w : List Nat) : Str := w.foldl (fun s b => if kd = 2 then (pcs kd).getD b "" ++ s else s ++ (pcs kd).getD b "") ""
noncomputable def pcL (kd b : Nat) : List Nat := ls ((pcs kd).getD b "")
noncomputable def ldL (kd : Nat) (w : List Nat) : List Nat := w.foldl (fun s b => if kd = 2 then pcL kd b ++ s else s ++ pcL kd b) []
theorem ld_ls (kd : Nat) (w : List Nat) : ls (ldS kd w) = ldL kd w := by
 have key : ∀ (w : List Nat) (s : Str) (l : List Nat), ls s = l -> ls (w.foldl (fun s b => if kd = 2 then (pcs kd).getD b "" ++ s else s ++ (pcs kd).getD b "") s) = w.foldl (fun s b => if kd = 2 then pcL kd b ++ s else s ++ pcL kd b) l := by
  intro w
  induction w with
  | nil => exact fun _ _ h => h
  | cons b w ih =>
   intro s l h
   refine ih _ _ ?_
   split
   ·rw [app_list, h]; rfl
   ·rw [app_list, h]; rfl
 exact key w "" [] rfl
theorem pc_white : ∀ kd < 3, ∀ b < 2, ∀ c ∈ pcL kd b, c = 9 ∨ c = 32 := by decide +kernel
theorem ld_white {kd : Nat} (hk : kd < 3) {w : List Nat} (hw : ∀ b ∈ w, b < 2) : ∀ c ∈ ldL kd w, White c := by
 have key : ∀ (w l : List Nat), (∀ b ∈ w, b < 2) -> (∀ c ∈ l, White c) -> ∀ c ∈ w.foldl (fun s b => if kd = 2 then pcL kd b ++ s else s ++ pcL kd b) l, White c := by
  intro w
  induction w with
  | nil => exact fun _ _ h => h
  | cons b w ih =>
   intro l hw h
   refine ih _ (fun b hb => hw b (.tail _ hb)) fun c hc => ?_
   have p := pc_white kd hk b (hw b (.head _))
   split at hc
   ·exact (List.mem_append.mp hc).elim (p c) (h c)
   ·exact (List.mem_append.mp hc).elim (h c) (p c)
 exact key w [] hw nofun
noncomputable def wsL (l : List Nat) : Ws := let q := scan l 0 0 [] 0; ⟨"", q.1, q.2.1, q.2.2.1, q.2.2.2⟩
noncomputable def words : Nat -> List (List Nat)
 | 0 => [[]]
 | n + 1 => (words n).flatMap fun w => [0 :: w, 1 :: w]
theorem lG : ∀ {w : List Nat}, (∀ b ∈ w, b < 2) -> w ∈ words w.length := by
 intro w
 induction w with
 | nil => exact fun _ => .head _
 | cons b w ih =>
  intro h
  refine List.mem_flatMap.mpr ⟨w, ih fun b hb => h b (.tail _ hb), ?_⟩
  have b2 := h b (.head _)
  have : b = 0 ∨ b = 1 := by lia
  rcases this with rfl | rfl
  ·exact .head _
  ·exact .tail _ (.head _)
noncomputable def wdsL (kd n : Nat) : List Ws := (words n).map fun w => wsL (ldL kd w)
theorem chk_no : ∀ kd < 3, ∀ n < 5, ∀ x ∈ wdsL kd n, ∀ m < n + 1, ∀ y ∈ wdsL kd m, x.less y = false := by decide +kernel
theorem chk_yes : ∀ kd < 3, ∀ n < 4, ∀ w ∈ words n, ∀ b < 2, (wsL (ldL kd w)).less (wsL (ldL kd (w ++ [b]))) = true := by decide +kernel
theorem less_no {kd : Nat} (hk : kd < 3) {v w : List Nat} (hv : ∀ b ∈ v, b < 2) (hw : ∀ b ∈ w, b < 2) (l : w.length <= v.length) (l5 : v.length < 5) : (wsL (ldL kd v)).less (wsL (ldL kd w)) = false :=
 chk_no kd hk _ l5 _ (List.mem_map_of_mem (lG hv)) _ (by lia) _ (List.mem_map_of_mem (lG hw))
theorem jf {r : List Nat} (hr : ∀ c l, r = c :: l -> c ≠ 9 /\ c ≠ 32) : ∀ (l : List Nat) (n nt : Nat) (c : List Int) (b : Nat), (∀ x ∈ l, White x) -> scan (l ++ r) n nt c b = scan l n nt c b
 | [], n, nt, c, b, _ => by
  cases r with
  | nil => rfl
  | cons x r =>
   obtain ⟨h1, h2⟩ := hr x r rfl
   show (if x = 32 then _ else if x = 9 then _ else (n, nt, c, b)) = _
   rw [if_neg h2, if_neg h1]; rfl
 | x :: l, n, nt, c, b, h => by
  have h' := fun y hy => h y (.tail _ hy)
  show (if x = 32 then scan (l ++ r) (n + 1) nt c (b + 1) else if x = 9 then scan (l ++ r) (n + 1) (nt + 1) (bump c b) 0 else (n, nt, c, b)) = (if x = 32 then scan l (n + 1) nt c (b + 1) else if x = 9 then scan l (n + 1) (nt + 1) (bump c b) 0 else (n, nt, c, b))
  rw [jf hr l _ _ _ _ h', jf hr l _ _ _ _ h']
theorem ws_less {s t : Str} {l l' r r' : List Nat} (hs : ls s = l ++ r) (ht : ls t = l' ++ r') (h1 : ∀ c ∈ l, White c) (h2 : ∀ c ∈ l', White c) (n1 : ∀ c a, r = c :: a -> c ≠ 9 /\ c ≠ 32) (n2 : ∀ c a, r' = c :: a -> c ≠ 9 /\ c ≠ 32) :
  (fH s).less (fH t) = (wsL l).less (wsL l') := by
 have e1 : scan s.cps.toList 0 0 [] 0 = scan l 0 0 [] 0 := by rw [show s.cps.toList = l ++ r from hs]; exact jf n1 l 0 0 [] 0 h1
 have e2 : scan t.cps.toList 0 0 [] 0 = scan l' 0 0 [] 0 := by rw [show t.cps.toList = l' ++ r' from ht]; exact jf n2 l' 0 0 [] 0 h2
 have a : fH s = { wsL l with raw := s } := by unfold fH wsL; rw [e1]
 have b : fH t = { wsL l' with raw := t } := by unfold fH wsL; rw [e2]
 rw [a, b]; rfl
noncomputable def insA (l : List Nat) (f : Nat × Nat) : List Nat := let q := l.idxOf f.2 + 1; l.take q ++ [f.1] ++ l.drop q
theorem ins_get {l : List Nat} {q u : Nat} (h : q <= l.length) (i : Nat) : (l.take q ++ [u] ++ l.drop q).getD i 0 = if i < q then l.getD i 0 else if i = q then u else l.getD (i - 1) 0 := by
 have tl : (l.take q).length = q := by rw [List.length_take]; exact Nat.min_eq_left h
 rw [List.getD_eq_getElem?_getD, List.append_assoc]
 by_cases c : i < q
 ·rw [if_pos c, List.getElem?_append_left (by rw [tl]; exact c), List.getElem?_take_of_lt c, List.getD_eq_getElem?_getD]
 ·rw [if_neg c, List.getElem?_append_right (by rw [tl]; lia), tl]
  by_cases e : i = q
  ·rw [if_pos e, e, Nat.sub_self]; rfl
  ·rw [if_neg e, show i - q = (i - 1 - q) + 1 by lia]
   show ((l.drop q)[i - 1 - q]?).getD 0 = _
   rw [List.getElem?_drop, show q + (i - 1 - q) = i - 1 by lia, List.getD_eq_getElem?_getD]
noncomputable def jr (L : List Nat) (fs : List (Nat × Nat)) : Nat -> List Nat
 | 0 => L
 | k + 1 => insA (jr L fs k) (fs.getD k (0, 0))
structure OrdOk (A : Nat -> List Nat) (L l : List Nat) : Prop where
 at_ : ∀ p, p < l.length -> l.getD p 0 ∈ L ∨ ∃ j, j < p /\ A (l.getD p 0) = A (l.getD j 0) ++ [l.getD p 0] /\ ∀ i, j < i -> i < p -> (A (l.getD p 0)).length <= (A (l.getD i 0)).length
theorem ord_ins {A : Nat -> List Nat} {L l : List Nat} {u v : Nat} (h : OrdOk A L l) (hv : v ∈ l) (e : A u = A v ++ [u]) : OrdOk A L (insA l (u, v)) := by
 have hq := List.idxOf_lt_length_iff.mpr hv
 have at' := ins_get (u := u) (show l.idxOf v + 1 <= l.length from hq)
 have gv : l.getD (l.idxOf v) 0 = v := by rw [List.getD_eq_getElem?_getD, List.getElem?_eq_getElem hq]; exact List.getElem_idxOf hq
 have ln : (insA l (u, v)).length = l.length + 1 := by
  show (l.take (l.idxOf v + 1) ++ [u] ++ l.drop (l.idxOf v + 1)).length = _
  rw [List.length_append, List.length_append, List.length_take, List.length_drop, List.length_singleton]; lia
 constructor
 rw [ln]
 show ∀ p, p < l.length + 1 -> (l.take (l.idxOf v + 1) ++ [u] ++ l.drop (l.idxOf v + 1)).getD p 0 ∈ L ∨ ∃ j, j < p /\ A ((l.take (l.idxOf v + 1) ++ [u] ++ l.drop (l.idxOf v + 1)).getD p 0) = A ((l.take (l.idxOf v + 1) ++ [u] ++ l.drop (l.idxOf v + 1)).getD j 0) ++ [(l.take (l.idxOf v + 1) ++ [u] ++ l.drop (l.idxOf v + 1)).getD p 0] /\
  ∀ i, j < i -> i < p -> (A ((l.take (l.idxOf v + 1) ++ [u] ++ l.drop (l.idxOf v + 1)).getD p 0)).length <= (A ((l.take (l.idxOf v + 1) ++ [u] ++ l.drop (l.idxOf v + 1)).getD i 0)).length
 generalize l.take (l.idxOf v + 1) ++ [u] ++ l.drop (l.idxOf v + 1) = l' at at'
 generalize hx : l.idxOf v = q at at' gv hq
 have lo : ∀ i, i <= q -> l'.getD i 0 = l.getD i 0 := fun i hi => by rw [at', if_pos (by lia)]
 have mid : l'.getD (q + 1) 0 = u := by rw [at', if_neg (by lia), if_pos rfl]
 have hi : ∀ i, q < i -> l'.getD (i + 1) 0 = l.getD i 0 := fun i hi => by rw [at', if_neg (by lia), if_neg (by lia)]; rfl
 have lu : (A u).length = (A v).length + 1 := by rw [e, List.length_append]; rfl
 intro p hp
 rcases Nat.lt_trichotomy p (q + 1) with c | c | c
 ·rw [lo p (by lia)]
  refine (h.at_ p (by lia)).imp id ?_
  rintro ⟨j, j1, j2, j3⟩
  refine ⟨j, j1, by rw [lo j (by lia)]; exact j2, fun i i1 i2 => by rw [lo i (by lia)]; exact j3 i i1 i2⟩
 ·refine .inr ⟨q, by lia, ?_, fun i i1 i2 => by lia⟩
  rw [c, mid, lo q (Nat.le_refl _), gv]; exact e
 ·obtain ⟨p, rfl⟩ : ∃ r, p = r + 1 := ⟨p - 1, by lia⟩
  rw [hi p (by lia)]
  refine (h.at_ p (by lia)).imp id ?_
  rintro ⟨j, j1, j2, j3⟩
  have ju : (A (l.getD p 0)).length = (A (l.getD j 0)).length + 1 := by rw [j2, List.length_append]; rfl
  have um : j <= q -> (A (l.getD p 0)).length <= (A u).length := fun hj => by
   rcases Nat.lt_or_ge j q with w | w
   ·have := j3 q w (by lia)
    rw [gv] at this
    lia
   ·rw [show j = q by lia, gv] at ju
    lia
  have bet : ∀ i, j < i -> i < p -> (A (l.getD p 0)).length <= (A (l.getD i 0)).length := j3
  rcases Nat.lt_or_ge q j with w | w
  ·refine ⟨j + 1, by lia, by rw [hi j w]; exact j2, fun i i1 i2 => ?_⟩
   obtain ⟨i, rfl⟩ : ∃ r, i = r + 1 := ⟨i - 1, by lia⟩
   rw [hi i (by lia)]; exact j3 i (by lia) (by lia)
  ·refine ⟨j, by lia, by rw [lo j w]; exact j2, fun i i1 i2 => ?_⟩
   rcases Nat.lt_trichotomy i (q + 1) with z | z | z
   ·rw [lo i (by lia)]; exact j3 i i1 (by lia)
   ·rw [z, mid]; exact um w
   ·obtain ⟨i, rfl⟩ : ∃ r, i = r + 1 := ⟨i - 1, by lia⟩
    rw [hi i (by lia)]; exact j3 i (by lia) (by lia)
noncomputable def btN (fs : List (Nat × Nat)) (dw u : Nat) : Nat := dw / 2 ^ (fs.findIdx (fun f => f.1 == u) + 1) % 2
noncomputable def wdN (fs : List (Nat × Nat)) (dw u : Nat) : List Nat := (chN fs u).tail.map (btN fs dw)
noncomputable def gj (fs : List (Nat × Nat)) (dw u : Nat) : Row := (ldS (dw % 3) (wdN fs dw u), u)
section
variable {nr : aH} {fs : List (Nat × Nat)} {L : List Nat}
theorem lJ (dw u : Nat) : ∀ b ∈ wdN fs dw u, b < 2 := fun b hb => by
 obtain ⟨x, _, rfl⟩ := List.mem_map.mp hb
 exact Nat.mod_lt _ (by decide)
theorem Dm.nd (h : Dm nr fs L) : (L ++ fs.map (·.1)).Nodup := h.perm.nodup_iff.mpr List.nodup_range
theorem ins_perm {l : List Nat} (f : Nat × Nat) : (insA l f).Perm (l ++ [f.1]) := by
 unfold insA
 dsimp only
 refine List.Perm.trans ?_ (List.perm_append_singleton f.1 l).symm
 rw [List.append_assoc]
 refine List.perm_middle.trans ?_
 show (f.1 :: (l.take (l.idxOf f.2 + 1) ++ l.drop (l.idxOf f.2 + 1))).Perm _
 rw [List.take_append_drop]
theorem take_snoc {k : Nat} (hk : k < fs.length) : (fs.take (k + 1)).map (·.1) = (fs.take k).map (·.1) ++ [(fs.getD k (0, 0)).1] := by
 rw [List.take_add_one, List.getElem?_eq_getElem hk, List.map_append, List.getD_eq_getElem?_getD, List.getElem?_eq_getElem hk]; rfl
theorem ord_perm : ∀ k, k <= fs.length -> (jr L fs k).Perm (L ++ (fs.take k).map (·.1))
 | 0, _ => by
  show L.Perm (L ++ [])
  rw [List.append_nil]
 | k + 1, hk => by
  rw [take_snoc hk, <- List.append_assoc]
  exact (ins_perm _).trans ((ord_perm k (Nat.le_of_succ_le hk)).append_right _)
theorem Dm.owner (h : Dm nr fs L) {k : Nat} (hk : k < fs.length) : (fs.getD k (0, 0)).2 ∈ jr L fs k := by
 refine (ord_perm k (Nat.le_of_lt hk)).mem_iff.mpr (List.mem_append.mpr ((h.ow k hk).imp id ?_))
 rintro ⟨j, hj, e⟩
 have hj2 : j < fs.length := Nat.lt_trans hj hk
 refine List.mem_map.mpr ⟨fs.getD j (0, 0), ?_, e⟩
 rw [List.getD_eq_getElem?_getD, List.getElem?_eq_getElem hj2]
 exact List.mem_iff_getElem.mpr ⟨j, by rw [List.length_take]; exact Nat.lt_min.mpr ⟨hj, hj2⟩, List.getElem_take⟩
theorem Dm.at_ (h : Dm nr fs L) {k : Nat} (hk : k < fs.length) : fs.findIdx (fun f => f.1 == (fs.getD k (0, 0)).1) = k := by
 have nd := (List.nodup_append.mp h.nd).2.1
 rw [List.getD_eq_getElem?_getD, List.getElem?_eq_getElem hk, Option.getD_some, List.findIdx_eq hk]
 refine ⟨beq_self_eq_true _, fun j hj => beq_eq_false_iff_ne.mpr fun e => ?_⟩
 have := List.pairwise_iff_getElem.mp nd j k (by rw [List.length_map]; lia) (by rw [List.length_map]; exact hk) hj
 rw [List.getElem_map, List.getElem_map] at this
 exact this e
theorem ord_ok (h : Dm nr fs L) : ∀ k, k <= fs.length -> OrdOk (chN fs) L (jr L fs k)
 | 0, _ => ⟨fun p hp => .inl (getD_mem hp)⟩
 | k + 1, hk => ord_ins (ord_ok h k (Nat.le_of_succ_le hk)) (h.owner hk) (h.chain _ (getD_mem hk))
theorem wd_snoc (h : Dm nr fs L) (dw : Nat) {k : Nat} (hk : k < fs.length) : wdN fs dw (fs.getD k (0, 0)).1 = wdN fs dw (fs.getD k (0, 0)).2 ++ [dw / 2 ^ (k + 1) % 2] := by
 have hm := getD_mem (d := ((0, 0) : Nat × Nat)) hk
 obtain ⟨l, e⟩ := (h.ends _ (h.pair _ hm).2.2).2.1
 unfold wdN
 rw [h.chain _ hm, List.tail_append_of_ne_nil (by rw [e]; exact List.append_ne_nil_of_right_ne_nil _ (List.cons_ne_nil _ _)), List.map_append]
 show _ ++ [btN fs dw (fs.getD k (0, 0)).1] = _
 rw [show btN fs dw (fs.getD k (0, 0)).1 = dw / 2 ^ (k + 1) % 2 by unfold btN; rw [h.at_ hk]]
theorem out_is (h : Dm nr fs L) (dw : Nat) : ∀ k, k <= fs.length -> gk L fs dw k = (jr L fs k).map (gj fs dw)
 | 0, _ => by
  refine List.map_congr_left fun u hu => ?_
  unfold gj wdN
  rw [h.one hu]; rfl
 | k + 1, hk => by
  have ih := out_is h dw k (Nat.le_of_succ_le hk)
  have ow := h.owner hk
  have ws := wd_snoc h dw hk
  show cI (dw % 3) (dw / 2 ^ (k + 1)) (gk L fs dw k) (fs.getD k (0, 0)) = (insA (jr L fs k) (fs.getD k (0, 0))).map _
  rw [ih]
  generalize jr L fs k = l at ow
  generalize fs.getD k (0, 0) = f at ow ws
  have pl : placeOf (l.map (gj fs dw)) f.2 = l.idxOf f.2 := by
   unfold placeOf
   rw [List.findIdx_map]; rfl
  have ql := List.idxOf_lt_length_iff.mpr ow
  have gt : (l.map (gj fs dw)).getD (l.idxOf f.2) bO = gj fs dw f.2 := by
   rw [List.getD_eq_getElem?_getD, List.getElem?_map, List.getElem?_eq_getElem ql, List.getElem_idxOf ql]; rfl
  have nw : iI (dw % 3) (dw / 2 ^ (k + 1)) (l.map (gj fs dw)) f = gj fs dw f.1 := by
   unfold iI
   rw [pl, gt]
   unfold gj ldS
   rw [ws, List.foldl_append]; rfl
  unfold cI insA
  rw [nw, pl]
  dsimp only
  rw [List.map_append, List.map_append, List.map_take, List.map_drop]; rfl
theorem Dm.small (h : Dm nr fs L) : fs.length <= 4 := by
 have := h.len
 have := List.length_pos_of_mem (h.mem (x := 0) (by decide))
 lia
theorem lN (dr dw u : Nat) : ls (cA dr (gj fs dw u)) = ldL (dw % 3) (wdN fs dw u) ++ ls (ty dr u) := by
 unfold cA
 rw [app_list]
 show ls (ldS _ _) ++ _ = _
 rw [ld_ls]; rfl
theorem row_less (dr dw : Nat) {u v : Nat} (hu : u < 5) (hv : v < 5) : (fH (cA dr (gj fs dw u))).less (fH (cA dr (gj fs dw v))) = (wsL (ldL (dw % 3) (wdN fs dw u))).less (wsL (ldL (dw % 3) (wdN fs dw v))) := by
 have k3 : dw % 3 < 3 := Nat.mod_lt _ (by decide)
 exact ws_less (lN dr dw u) (lN dr dw v) (ld_white k3 (lJ dw u)) (ld_white k3 (lJ dw v)) (ty_head hu) (ty_head hv)
theorem wd_len (h : Dm nr fs L) (dw : Nat) {u : Nat} (hu : u < 5) : (wdN fs dw u).length + 1 = (chN fs u).length /\ (wdN fs dw u).length <= 4 := by
 obtain ⟨_, ⟨l, e⟩, n⟩ := h.ends u hu
 have := h.small
 have p : 0 < (chN fs u).length := by rw [e, List.length_append]; exact Nat.succ_pos _
 unfold wdN
 rw [List.length_map, List.length_tail]
 lia
theorem last_is {n p : Nat} {q : Nat -> Bool} (h : q p = true) (hp : p < n) (ha : ∀ j, p < j -> j < n -> q j = false) : ((List.range n).filter q).getLast? = some p := by
 induction n with
 | zero => lia
 | succ m ih =>
  rw [List.range_succ, List.filter_append]
  by_cases e : m = p
  ·subst e
   rw [List.filter_cons_of_pos h]
   exact List.getLast?_concat
  ·rw [List.filter_cons_of_neg (by rw [ha m (by lia) (by lia)]; decide)]
   show (_ ++ []).getLast? = _
   rw [List.append_nil]
   exact ih (by lia) fun j h1 h2 => ha j h1 (by lia)
theorem trail_g (h : Dm nr fs L) (dr dw : Nat) {R : List Row} (hR : R = (jr L fs fs.length).map (gj fs dw)) (lt : ∀ u ∈ jr L fs fs.length, u < 5) (hl : (jr L fs fs.length).length = 5) {k : Nat} (hk : k < 5) :
  let ab := (List.range k).filter fun j => (fH (cA dr (R.getD j bO))).less (fH (cA dr (R.getD k bO)))
  (ab = [] /\ piN fs (R.getD k bO).2 = ("/" ++ tn (R.getD k bO).2) ++ "/") ∨ ∃ j, j < k /\ ab.getLast? = some j /\ piN fs (R.getD k bO).2 = (piN fs (R.getD j bO).2 ++ tn (R.getD k bO).2) ++ "/" := by
 have O := (ord_ok h fs.length (Nat.le_refl _)).at_
 generalize jr L fs fs.length = l at hR lt hl O
 have gt : ∀ j, j < 5 -> R.getD j bO = gj fs dw (l.getD j 0) := fun j hj => by
  rw [hR, List.getD_eq_getElem?_getD, List.getElem?_map, List.getD_eq_getElem?_getD, List.getElem?_eq_getElem (by rw [hl]; exact hj)]; rfl
 have l5 : ∀ j, j < 5 -> l.getD j 0 < 5 := fun j hj => lt _ (getD_mem (by rw [hl]; exact hj))
 have k3 : dw % 3 < 3 := Nat.mod_lt _ (by decide)
 have no : ∀ j, j < k -> (chN fs (l.getD k 0)).length <= (chN fs (l.getD j 0)).length -> (fH (cA dr (R.getD j bO))).less (fH (cA dr (R.getD k bO))) = false := fun j hj hn => by
  have j5 := l5 j (by lia)
  have k5 := l5 k hk
  have a := wd_len h dw j5
  have b := wd_len h dw k5
  rw [gt j (by lia), gt k hk, row_less dr dw j5 k5]
  exact less_no k3 (lJ dw _) (lJ dw _) (by lia) (by lia)
 dsimp only
 rw [show (R.getD k bO).2 = l.getD k 0 by rw [gt k hk]; rfl]
 rcases O k (by rw [hl]; exact hk) with q | ⟨j, hj, e, bet⟩
 ·refine .inl ⟨List.filter_eq_nil_iff.mpr fun j hj => ?_, by unfold piN; rw [h.one q]; rfl⟩
  have hj := List.mem_range.mp hj
  rw [no j hj (by rw [h.one q]; exact Nat.le_of_lt_succ (Nat.succ_lt_succ (by have := (wd_len h dw (l5 j (by lia))).1; show 0 < _; lia)))]
  exact Bool.false_ne_true
 ·refine .inr ⟨j, hj, last_is ?_ hj fun i i1 i2 => no i i2 (bet i i1 i2), ?_⟩
  ·have j5 := l5 j (by lia)
   have k5 := l5 k hk
   rw [gt j (by lia), gt k hk, row_less dr dw j5 k5]
   have a := wd_len h dw j5
   have b := wd_len h dw k5
   rw [e, List.length_append, List.length_singleton] at b
   have w : wdN fs dw (l.getD k 0) = wdN fs dw (l.getD j 0) ++ [btN fs dw (l.getD k 0)] := by
    unfold wdN
    rw [e, List.tail_append_of_ne_nil (fun z => by rw [z] at a; exact absurd a.1 (Nat.succ_ne_zero _)), List.map_append]; rfl
   rw [w]
   exact chk_yes _ k3 _ (by lia) _ (lG (lJ dw _)) _ (Nat.mod_lt _ (by decide))
  ·rw [show (R.getD j bO).2 = l.getD j 0 by rw [gt j (by lia)]; rfl]
   unfold piN
   rw [e, pth_snoc]
theorem pi_len (h : Dm nr fs L) {u : Nat} (hu : u < 5) : (piN fs u).length <= 100 := by
 obtain ⟨a, _, n⟩ := h.ends u hu
 have := h.small
 unfold piN
 rw [len_list, pth_ls]
 have key : ∀ l : List Nat, (∀ a ∈ l, a < 5) -> (l.flatMap cod).length <= 10 * l.length := by
  intro l
  induction l with
  | nil => exact fun _ => Nat.le_refl _
  | cons a l ih =>
   intro h
   have := ih fun b hb => h b (.tail _ hb)
   have t := (bC a (h a (.head _))).2.2.2.1
   rw [len_list] at t
   have c : (cod a).length = (ls (tn a)).length + 1 := List.length_append
   rw [List.flatMap_cons, List.length_append, List.length_cons]
   lia
 have := key _ a
 rw [List.length_cons]; lia
theorem row_g {dr dw u : Nat} (hu : u < 5) (s : (gj fs dw u).1.length <= 15) : (gj fs dw u).2 < 5 /\ (gj fs dw u).1.length <= 15 /\ (ty dr (gj fs dw u).2).length <= 20 /\ jd (cA dr (gj fs dw u)) (tn (gj fs dw u).2) := by
 refine ⟨hu, s, ty_len hu, cap_sheet hu (lN dr dw u) (ld_white (Nat.mod_lt _ (by decide)) (lJ dw u)) ?_⟩
 rw [<- ld_ls, <- len_list]; exact s
end
theorem plain_o (nr : aH) (o : Int) (dr : Nat) : gY nr o dr (piN (fR nr o)) := by
 have h := (fold_end (nr := nr) o).1
 have hl : (fsN nr o 5).folds.length = (fR nr o).length := List.length_reverse.symm
 have e : cG nr o dr = (jr (fsN nr o 5).left (fR nr o) (fR nr o).length).map (gj (fR nr o) (dr / 32)) := by
  unfold cG
  rw [hl]
  exact out_is h _ _ (Nat.le_refl _)
 have pm : (jr (fsN nr o 5).left (fR nr o) (fR nr o).length).Perm (List.range 5) := (ord_perm (L := (fsN nr o 5).left) (fR nr o).length (Nat.le_refl _)).trans (by rw [List.take_length]; exact h.perm)
 have lt : ∀ u ∈ jr (fsN nr o 5).left (fR nr o) (fR nr o).length, u < 5 := fun u hu => List.mem_range.mp (pm.mem_iff.mp hu)
 have le : (jr (fsN nr o 5).left (fR nr o) (fR nr o).length).length = 5 := by rw [pm.length_eq, List.length_range]
 have m2 : (cG nr o dr).map (·.2) = jr (fsN nr o 5).left (fR nr o) (fR nr o).length := by
  rw [e, List.map_map]
  exact List.map_id _
 have sh := h.small
 have ch : ∀ f ∈ fR nr o, piN (fR nr o) f.1 = (piN (fR nr o) f.2 ++ tn f.1) ++ "/" := fun f hf => by
  unfold piN
  rw [h.chain f hf, pth_snoc]
 have ll := h.len
 have sx0 : ∀ x ∈ cG nr o dr, x.1.length <= 3 * (fR nr o).length := by
  unfold cG
  rw [hl]
  exact jL _ _ _ _
 exact {
  own := by rw [hl]; exact h.ow
  rlen := by rw [e, List.length_map]; exact le
  row := fun x hx => by
   have sx := sx0 x hx
   rw [e] at hx
   obtain ⟨u, hu, rfl⟩ := List.mem_map.mp hx
   have u5 := lt u hu
   exact row_g (fs := fR nr o) (dw := dr / 32) u5 (Nat.le_trans sx (Nat.le_trans (Nat.mul_le_mul_left 3 sh) (by decide)))
  rnd := by rw [m2]; exact pm.nodup_iff.mpr List.nodup_range
  rall := fun u hu => by rw [m2]; exact pm.mem_iff.mpr (List.mem_range.mpr hu)
  trail := fun k hk => trail_g h dr (dr / 32) (R := cG nr o dr) e lt le hk
  dueL := fun u hu => by unfold piN; rw [h.one hu]; rfl
  dueF := fun k hk => ch _ (getD_mem (by rw [<- hl]; exact hk))
  keys := h.nd
  kall := fun u hu => h.perm.mem_iff.mpr (List.mem_range.mpr hu)
  klt := fun u hu => List.mem_range.mp (h.perm.mem_iff.mp hu)
  klen := by rw [hl]; exact ll
  plen := fun u hu => pi_len h hu }
theorem plain_ok (nm : Nat) (o : Int) (dr c3 : Nat) : PlainOk nm o dr c3 :=
 ⟨typ_ok dr, plain_p (near_gr nm) (eN nm) o, piN (fR (aq nm) o), plain_o _ o dr, _, _, plain_c (near_gr nm) o c3⟩
theorem noK {h : Heap} : Frag.In ([] : Frag) h := fun _ _ e => nomatch e
theorem cls_str {Cl N : Addr} {mN mc : Str -> Option Value} {name x : Str} {tk : Tok} (at_ : ClsAt C.hB Cl N mN) (hv : mN name = some (.str x tk)) (hs : C.hB.Ns cStatics mc) (hm : mc "thirdparty.any" = none)
  (n1 : typeLookup (.type "type") name = pure none) (n2 : ∃ y, typeLookup (.type "object") name = pure y) : jV C Cl name (.str x) := by
 intro A W h I tk0 qQ qE qK
 have at' : ClsAt h Cl N mN := at_.keeps I.1
 have hs' : h.Ns cStatics mc := hs.keeps I.1
 obtain ⟨nm, q, bs, sn, sub, col, dd, k0, k1, k2, k3, k5, hC⟩ := at'.obj
 obtain ⟨y, n2⟩ := n2
 have ht : Looks (md C) h (typeOf (.ref Cl)) (.type "type") := fun A Q E s k q => by unfold typeOf; first | exact wpAny_bind (wpAny_loadPart (k _ _ hC) (wpAny_pure q)) | exact wpAny_loadPart (k _ _ hC) q
 have ho : Looks (md C) h (opaqueClassAbove (.ref Cl)) none := fun A Q E s k q => by
  unfold opaqueClassAbove anyOpaqueLoaded
  refine wpAny_bind (wpAny_bind (wpAny_nsGet (hs'.keeps k) ?_))
  rw [hm]
  exact wpAny_pure (wpAny_pure q)
 have hl : Looks (md C) h (typeLookup (.ref Cl) name) (some (.str x tk)) := fun A Q E s k q => by
  obtain ⟨hh, g, d, t, os⟩ := s
  refine wpAny_typeLookup_exc (k _ _ hC) (at'.ns.keeps k) F.mro_object n2 ?_
  rw [hv]; exact q
 have key : ∀ (A : Around) (tk1 tk2 : Tok) (Q : Fin -> Shared -> Prop) (E : Value -> Shared -> Prop), Q (.done (.ret (.str x tk))) (sh C h tk2) -> wpAny (md C) A (Builtin.«type.__getattribute__» ⟨[.ref Cl, .str name tk1], []⟩) Q E (sh C h tk2) := fun A tk1 tk2 Q E q => by
  have same : ∀ b o, h.get? b = some o -> (sh C h tk2).heap.get? b = some o := fun b o e => e
  unfold Builtin.«type.__getattribute__»
  refine wpAny_bind (wpAny_pure (wpAny_bind (ho _ _ _ _ same (wpAny_bind (ht _ _ _ _ same (wpAny_bind ?_))))))
  rw [n1]
  refine wpAny_pure (wpAny_bind (wpAny_pure (wpAny_bind (hl _ _ _ _ same ?_))))
  dsimp only
  rw [if_neg (show ¬ Builtin.heldUnderItsOwnName name (.str x tk) = true from Bool.false_ne_true)]
  refine wpAny_bind (wpAny_pure ?_)
  rw [if_neg (by decide)]
  refine wpAny_bind (wpAny_of_eq noGet_str ?_)
  exact wpAny_bind (wpAny_pure (wpAny_pure q))
 unfold getAttr getAttrBy
 refine wpAny_bind (wpAny_mkText (wpAny_holding (wpAny_bind (ht _ _ _ _ (fun _ _ e => e) (wpAny_bind (looks_findIn (K := []) noK (t := .type "type") (name := "__getattribute__") (r := some (.builtin "type.__getattribute__")) (by kernel_rfl) _ _ _ _ (fun _ _ e => e) ?_))))))
 dsimp only
 rw [show (onTheHeap (.type "type") && Value.builtin "type.__getattribute__" == Value.builtin "object.__getattribute__") = false from rfl, if_neg (by decide)]
 refine wpAny_bind (looks_hook (K := []) noK (mc := .type "type") (r := none) (by kernel_rfl) _ _ _ _ (fun _ _ e => e) (wpAny_bind (wpAny_attempt (wpAny_holding ?_))))
 unfold callGetattribute
 rw [show (true && onTheHeap (Value.builtin "type.__getattribute__")) = false from rfl, if_neg (by decide)]
 unfold boundAndCalled
 rw [KF.slot_tga.bind]
 refine wpAny_bind (wpAny_pure ?_)
 show wpAny _ _ (call (.builtin "type.__getattribute__") [.ref Cl, .str name _]) _ _ _
 refine wpAny_call ?_
 refine codeAny_call_builtin KF.slot_tga.plain KF.entry_tga ?_
 refine @check_slot (md C) _ _ (sh C h (tk0 + 1)) "type.__getattribute__" "type" "__getattribute__" (.ref Cl) [.str name tk0] [] _ (by decide +kernel) (by decide +kernel) (ht.andThen (looks_subIn (K := []) noK (by kernel_rfl))) (KF.args_tga _ _) ?_
 refine key _ tk0 (tk0 + 1) _ _ ?_
 exact wpAny_pure (qK _ h (tk0 + 1) ⟨rfl, .str x tk⟩)
structure lD where
 a : Addr
 st : Stmt
 c : Addr
 q : Str
noncomputable def funD (d : Data) : Option FuncData := Data.casesOn d none (fun a => none) (fun a b => none) (fun a b => none) (fun a b c => none) (fun a b => none) (fun a => none) (fun f => some f) (fun a => none) (fun a => none) none
noncomputable def clsD (d : Data) : Option ClassData := Data.casesOn d none (fun a => none) (fun a b => none) (fun a b => none) (fun a b c => none) (fun a b => none) (fun a => none) (fun f => none) (fun a => some a) (fun a => none) none
noncomputable def fldD (d : Data) : Option (Array Value) := Data.casesOn d none (fun a => none) (fun a b => none) (fun a b => none) (fun a b c => none) (fun a b => none) (fun a => none) (fun f => none) (fun a => none) (fun a => some a) none
noncomputable def strD (v : Value) : Option Str := Value.casesOn v none none none (fun a => none) (fun a b => none) (fun a b => none) (fun a b => some a) (fun a b => none) (fun a => none) (fun a => none) (fun a => none)
noncomputable def intD (v : Value) : Option Int := Value.casesOn v none none none (fun a => none) (fun a b => some a) (fun a b => none) (fun a b => none) (fun a b => none) (fun a => none) (fun a => none) (fun a => none)
noncomputable def refD (v : Value) : Option Addr := Value.casesOn v none none none (fun a => none) (fun a b => none) (fun a b => none) (fun a b => none) (fun a b => none) (fun a => none) (fun a => none) (fun a => some a)
theorem funD_of {d : Data} {f : FuncData} (e : funD d = some f) : d = .func f := by cases d <;> first | exact eG e | exact congrArg _ (Option.some.inj e)
theorem clsD_of {d : Data} {f : ClassData} (e : clsD d = some f) : d = .cls f := by cases d <;> first | exact eG e | exact congrArg _ (Option.some.inj e)
theorem fldD_of {d : Data} {f : Array Value} (e : fldD d = some f) : d = .fields f := by cases d <;> first | exact eG e | exact congrArg _ (Option.some.inj e)
theorem strD_of {v : Value} {s : Str} (e : strD v = some s) : ∃ t, v = .str s t := by cases v <;> first | exact eG e | exact ⟨_, congrArg (Value.str · _) (Option.some.inj e)⟩
theorem intD_of {v : Value} {s : Int} (e : intD v = some s) : ∃ t, v = .int s t := by cases v <;> first | exact eG e | exact ⟨_, congrArg (Value.int · _) (Option.some.inj e)⟩
theorem refD_of {v : Value} {s : Addr} (e : refD v = some s) : v = .ref s := by cases v <;> first | exact eG e | exact congrArg _ (Option.some.inj e)
theorem off {n m : Nat} {G : Prop} (e : Nat.beq n m = true) (h : Nat.beq n m = false) : G := (Bool.false_ne_true (h.symm.trans e)).elim
theorem ix_bool {v : Value} (e : Nat.beq v.ctorIdx 3 = true) : ∃ b, v = .bool b := by cases v <;> first | exact ⟨_, rfl⟩ | exact off e rfl
theorem ix_int {v : Value} (e : Nat.beq v.ctorIdx 4 = true) : ∃ i t, v = .int i t := by cases v <;> first | exact ⟨_, _, rfl⟩ | exact off e rfl
theorem ix_str {v : Value} (e : Nat.beq v.ctorIdx 6 = true) : ∃ s t, v = .str s t := by cases v <;> first | exact ⟨_, _, rfl⟩ | exact off e rfl
theorem ix_seq {d : Data} (e : Nat.beq d.ctorIdx 2 = true) : ∃ s t, d = .seq s t := by cases d <;> first | exact ⟨_, _, rfl⟩ | exact off e rfl
theorem jQ {α : Type} {p : α -> Bool} {o : Option α} (e : o.any p = true) : ∃ x, o = some x /\ p x = true := by
 cases o with
 | none => exact (Bool.false_ne_true e).elim
 | some x => exact ⟨x, rfl, e⟩
theorem and2 {a b : Bool} (e : (a && b) = true) : a = true /\ b = true := Bool.and_eq_true_iff.mp e
theorem aL {a b : Bool} (e : (a && b) = true) : a = true := (and2 e).1
theorem aR {a b : Bool} (e : (a && b) = true) : b = true := (and2 e).2
theorem ik {α β : Type} {f : α -> Option β} {o : Option α} {y : β} (e : o.bind f = some y) : ∃ x, o = some x /\ f x = some y := Option.bind_eq_some_iff.mp e
noncomputable def dflSeen (h : Heap) (v : Value) : Bool := v == .none || ((refD v).bind h.get?).any fun o => Nat.beq o.data.ctorIdx 2
theorem dfl_of {h : Heap} {v : Value} (e : dflSeen h v = true) : v = .none ∨ ∃ t o its n, v = .ref t /\ h.get? t = some o /\ o.data = .seq its n := by
 rcases Bool.or_eq_true_iff.mp e with e | e
 ·exact .inl (eq_of_beq e)
 ·obtain ⟨o, e, d⟩ := jQ e
  obtain ⟨t, e, ho⟩ := ik e
  obtain ⟨its, n, d⟩ := ix_seq d
  exact .inr ⟨t, o, its, n, refD_of e, ho, d⟩
noncomputable abbrev FnV := Arguments × FuncBody × Scope × Addr × Addr × List (Str × Addr) × Value × Str × Bool
noncomputable abbrev FnV8 := Arguments × FuncBody × Scope × Addr × Addr × List (Str × Addr) × Value × Str
noncomputable def fnSeen (h : Heap) (a : Addr) : Option FnV := (h.get? a).bind fun o => (funD o.data).bind fun fd => some (fd.params, fd.body, fd.scope, fd.globals, fd.builtins, fd.closure, fd.code, fd.qualname, o.cls == .type "function" && dflSeen h fd.defaults)
noncomputable def fnWant (r : lD) : Option FnV := some ((parts r.st).1, .stmts (parts r.st).2.1, (parts r.st).2.2, mainGlobals, builtinsNs, [], .ref r.c, r.q, true)
noncomputable def cdSeen (h : Heap) (c : Addr) : Option Str := (h.get? c).bind fun o => (fldD o.data).bind fun vs => (vs[1]? : Option Value).bind strD
noncomputable def ixSeen (vs : Array Value) (i k : Nat) : Bool := (vs[i]? : Option Value).any fun v => Nat.beq v.ctorIdx k
noncomputable def hdSeen (h : Heap) (c P : Addr) : Bool :=
 ((h.get? c).any fun o => o.cls == .type "code" && (fldD o.data).any fun vs => (vs[11]? : Option Value) == some (.ref P) && (ixSeen vs 18 6 && (ixSeen vs 7 4 && (ixSeen vs 9 3 && ixSeen vs 10 4)))) &&
 (h.get? P).any fun o => o.cls == .none && (o.dict == none && ((fldD o.data == some #[]) && o.slots == #[]))
noncomputable def jP (h : Heap) (C N : Addr) : Bool := (h.get? C).any fun o => (clsD o.data).any fun cd =>
 o.cls == .type "type" && (cd.mro == [.ref C, .type "object"] && (cd.ns == N && (cd.hasDict && (cd.abstract == false && (cd.hasDel == false && (Nat.beq o.slots.toList.length 6 && o.slots.toList[4]? == some (some (.builtin "object.__new__"))))))))
noncomputable def gO (h : Heap) (N : Addr) (fs : List (Str × Addr)) (ss : List (Str × Str)) (ab : List Str) : Bool :=
 h.isNs N && (fs.all (fun x => h.nsMap N x.1 == some (.ref x.2)) && (ss.all (fun x => (h.nsMap N x.1).bind strD == some x.2) && ab.all fun x => (h.nsMap N x).isNone))
inductive FnIs (h : Heap) (r : lD) : Prop
 | mk (o : Obj) (fd : FuncData) (ho : h.get? r.a = some o) (hc : o.cls = .type "function") (hd : o.data = .func fd) (e : ((fd.params, fd.body, fd.scope, fd.globals, fd.builtins, fd.closure, fd.code, fd.qualname) : FnV8) = ((parts r.st).1, FuncBody.stmts (parts r.st).2.1, (parts r.st).2.2, mainGlobals, builtinsNs, [], .ref r.c, r.q))
   (e8 : fd.defaults = .none ∨ ∃ t o its n, fd.defaults = .ref t /\ h.get? t = some o /\ o.data = .seq its n) : FnIs h r
inductive CdIs (h : Heap) (c : Addr) (q : Str) : Prop
 | mk (o : Obj) (vs : Array Value) (t : Tok) (ho : h.get? c = some o) (hd : o.data = .fields vs) (e : vs[1]? = some (.str q t)) : CdIs h c q
theorem fn_of {h : Heap} {r : lD} (e : fnSeen h r.a = fnWant r) : FnIs h r := by
 obtain ⟨o, ho, e⟩ := ik e
 obtain ⟨fd, hd, e⟩ := ik e
 have e := Option.some.inj e
 obtain ⟨hc, hf⟩ := and2 (congrArg (fun x : FnV => x.2.2.2.2.2.2.2.2) e)
 exact ⟨o, fd, ho, eq_of_beq hc, funD_of hd, congrArg (fun x : FnV => (x.1, x.2.1, x.2.2.1, x.2.2.2.1, x.2.2.2.2.1, x.2.2.2.2.2.1, x.2.2.2.2.2.2.1, x.2.2.2.2.2.2.2.1)) e, dfl_of hf⟩
theorem cd_of {h : Heap} {c : Addr} {q : Str} (e : cdSeen h c = some q) : CdIs h c q := by
 obtain ⟨o, ho, e⟩ := ik e
 obtain ⟨vs, hd, e⟩ := ik e
 obtain ⟨v, hv, e⟩ := ik e
 obtain ⟨t, rfl⟩ := strD_of e
 exact ⟨o, vs, t, ho, fldD_of hd, hv⟩
theorem code_q {h : Heap} {c : Addr} {q q' : Str} (x : CdIs h c q) (r : h.CodeRec (.ref c) q') : q' = q := by
 obtain ⟨o', vs', t', e2', e3', e4'⟩ := x
 obtain ⟨c', o, vs, t, e1, e2, e3, e4⟩ := r
 have e1 := Value.ref.inj e1
 subst e1
 have e := Option.some.inj (e2'.symm.trans e2)
 subst e
 have e := Data.fields.inj (e3'.symm.trans e3)
 subst e
 exact (Value.str.inj (Option.some.inj (e4.symm.trans e4'))).1
theorem ob_eta {o : Obj} {c : Value} {d : Option Addr} {a : Data} {s : Array (Option Value)} (e1 : o.cls = c) (e2 : o.dict = d) (e3 : o.data = a) (e4 : o.slots = s) : o = ⟨c, d, a, s⟩ := by
 cases e1; cases e2; cases e3; cases e4; rfl
theorem ixs {vs : Array Value} {i k : Nat} {P : Value -> Prop} (g : ∀ {v : Value}, Nat.beq v.ctorIdx k = true -> P v) (e : ixSeen vs i k = true) : P (vs.getD i .none) := by
 obtain ⟨v, hv, e⟩ := jQ e
 rw [Array.getD_eq_getD_getElem?, hv]
 exact g e
theorem hd_of {h : Heap} {c P : Addr} (ne : c ≠ P) (e : hdSeen h c P = true) : CodeHd h c P /\ h.get? P = some (tabObj #[]) := by
 refine ⟨?_, ?_⟩
 ·obtain ⟨o, ho, e⟩ := jQ (aL e)
  obtain ⟨vs, hv, f⟩ := jQ (aR e)
  obtain ⟨fl, tf, g2⟩ := ixs ix_str (aL (aR f))
  obtain ⟨i3, t3, g3⟩ := ixs ix_int (aL (aR (aR f)))
  obtain ⟨b4, g4⟩ := ixs ix_bool (aL (aR (aR (aR f))))
  obtain ⟨i5, t5, g5⟩ := ixs ix_int (aR (aR (aR (aR f))))
  exact ⟨o, vs, fl, tf, i3, t3, b4, i5, t5, ho, eq_of_beq (aL e), fldD_of hv, eq_of_beq (aL f), by rw [Array.getD_eq_getD_getElem?, eq_of_beq (aL f)]; rfl, g2, g3, g4, g5, ne⟩
 ·obtain ⟨o, ho, e⟩ := jQ (aR e)
  exact ho.trans (congrArg some (ob_eta (eq_of_beq (aL e)) (eq_of_beq (aL (aR e))) (fldD_of (eq_of_beq (aL (aR (aR e))))) (eq_of_beq (aR (aR (aR e))))))
theorem cd_eta {d : ClassData} {m : List Value} {n : Addr} {t f g : Bool} (e1 : d.mro = m) (e2 : d.ns = n) (e3 : d.hasDict = t) (e4 : d.abstract = f) (e5 : d.hasDel = g) :
  d = { name := d.name, bases := d.bases, mro := m, ns := n, qualname := d.qualname, hasDict := t, slotNames := d.slotNames, subclasses := d.subclasses, abstract := f, collection := d.collection, hasDel := g } := by
 cases e1; cases e2; cases e3; cases e4; cases e5; rfl
theorem cl_of {h : Heap} {C N : Addr} {fs : List (Str × Addr)} {ss : List (Str × Str)} {ab : List Str} (e : jP h C N = true) (e2 : gO h N fs ss ab = true) : ClsAt h C N (h.nsMap N) := by
 refine ⟨?_, .of_isNs (and2 e2).1⟩
 obtain ⟨o, ho, e⟩ := jQ e
 obtain ⟨cd, hd, e⟩ := jQ e
 obtain ⟨k0, k1, k2, k3, k5, e7⟩ := six_places (Nat.eq_of_beq_eq_true (aL (aR (aR (aR (aR (aR (aR e)))))))) (eq_of_beq (aR (aR (aR (aR (aR (aR (aR e))))))))
 exact ⟨cd.name, cd.qualname, cd.bases, cd.slotNames, cd.subclasses, cd.collection, o.dict, k0, k1, k2, k3, k5,
  ho.trans (congrArg some (ob_eta (eq_of_beq (aL e)) rfl ((clsD_of hd).trans (congrArg Data.cls (cd_eta (eq_of_beq (aL (aR e))) (eq_of_beq (aL (aR (aR e)))) (aL (aR (aR (aR e)))) (eq_of_beq (aL (aR (aR (aR (aR e)))))) (eq_of_beq (aL (aR (aR (aR (aR (aR e)))))))))) (congrArg Array.mk e7)))⟩
theorem ns_of {h : Heap} {N : Addr} {fs : List (Str × Addr)} {ss : List (Str × Str)} {ab : List Str} (e : gO h N fs ss ab = true) :
  (∀ x ∈ fs, h.nsMap N x.1 = some (.ref x.2)) /\ (∀ x ∈ ss, ∃ t, h.nsMap N x.1 = some (.str x.2 t)) /\ ∀ x ∈ ab, h.nsMap N x = none := by
 refine ⟨fun x hx => eq_of_beq (List.all_eq_true.mp (aL (aR e)) x hx), fun x hx => ?_, fun x hx => Option.isNone_iff_eq_none.mp (List.all_eq_true.mp (aR (aR (aR e))) x hx)⟩
 obtain ⟨v, hv, e⟩ := ik (eq_of_beq (List.all_eq_true.mp (aL (aR (aR e))) x hx))
 obtain ⟨t, rfl⟩ := strD_of e
 exact ⟨t, hv⟩
noncomputable def jZ : List (Str × Addr) := [("Entry", 59), ("merge_entries", 70), ("_div2n1n", 77), ("_int2digits", 91), ("_digits2int", 98), ("_divmod_pos", 105), ("int_divmod", 112), ("capwords", 120), ("Whitespace", 182), ("_law_record", 193), ("_law_rule", 200), ("_law_typed", 205), ("_law_folds", 210), ("_law_core", 215), ("_law_safe", 220), ("_law_outline", 225), ("law", 230)]
noncomputable def noGl : List Str := ["range", "len", "list", "filter", "set", "map", "str", "max", "reversed", "divmod", "enumerate", "zip", "sum", "abs", "repr", "sorted", "tuple"]
noncomputable def mgOk (m : Str -> Option Value) : Bool := jZ.all (fun x => m x.1 == some (.ref x.2)) && ((m "_DIV_LIMIT").bind intD == some 4000 && noGl.all fun x => (m x).isNone)
noncomputable def jx : List lD :=
 [⟨35, inner (aP 2) 0, 34, "Entry.__init__"⟩, ⟨49, inner (aP 2) 2, 48, "Entry.applies_to"⟩, ⟨56, inner (aP 2) 3, 55, "Entry.allowance"⟩, ⟨70, aP 3, 69, "merge_entries"⟩, ⟨77, aP 6, 76, "_div2n1n"⟩, ⟨91, aP 8, 90, "_int2digits"⟩, ⟨98, aP 9, 97, "_digits2int"⟩,
  ⟨105, aP 10, 104, "_divmod_pos"⟩, ⟨112, aP 11, 111, "int_divmod"⟩, ⟨120, aP 13, 119, "capwords"⟩, ⟨137, inner (aP 15) 1, 136, "Whitespace.__init__"⟩, ⟨144, inner (aP 15) 2, 143, "Whitespace.longest_run_of_spaces"⟩, ⟨151, inner (aP 15) 3, 150, "Whitespace.indent_level"⟩,
  ⟨172, inner (aP 15) 6, 171, "Whitespace.less"⟩, ⟨193, aP 17, 192, "_law_record"⟩, ⟨200, aP 18, 199, "_law_rule"⟩, ⟨205, aP 19, 204, "_law_typed"⟩, ⟨210, aP 20, 209, "_law_folds"⟩, ⟨215, aP 21, 214, "_law_core"⟩, ⟨220, aP 22, 219, "_law_safe"⟩, ⟨225, aP 23, 224, "_law_outline"⟩, ⟨230, aP 24, 229, "law"⟩]
noncomputable def jo : List (Addr × Addr) := [(199, 195), (90, 86), (97, 93)]
noncomputable def jh : List Str := ["__getattribute__", "__getattr__", "__setattr__"]
noncomputable def enMs : List (Str × Addr) := [("__init__", 35), ("applies_to", 49), ("allowance", 56)]
noncomputable def wsMs : List (Str × Addr) := [("__init__", 137), ("longest_run_of_spaces", 144), ("indent_level", 151), ("less", 172)]
noncomputable def wsSs : List (Str × Str) := [("S", " "), ("T", "\t")]
noncomputable def seqD (d : Data) : Option (Array Value) := Data.casesOn d none (fun a => none) (fun a b => some a) (fun a b => none) (fun a b c => none) (fun a b => none) (fun a => none) (fun f => none) (fun a => none) (fun a => none) none
theorem seqD_of {d : Data} {f : Array Value} (e : seqD d = some f) : ∃ n, d = .seq f n := by cases d <;> first | exact eG e | exact ⟨_, congrArg (Data.seq · _) (Option.some.inj e)⟩
noncomputable def cpSeen (h : Heap) : Bool := ((h.get? 120).bind fun o => (funD o.data).bind fun fd => (refD fd.defaults).bind fun t => (h.get? t).bind fun o => seqD o.data) == some #[.none]
noncomputable abbrev SeenV := List (Option FnV × Option Str) × Bool
noncomputable def j8 (h : Heap) : SeenV :=
 (jx.map fun r => (fnSeen h r.a, cdSeen h r.c),
  jo.all (fun x => hdSeen h x.1 x.2) && (jP h 59 58 && (gO h 58 enMs [] (fP ++ jh) && (jP h 182 181 && (gO h 181 wsMs wsSs (gG ++ jh) && (h.isNs cStatics && ((h.nsMap cStatics "thirdparty.any").isNone && cpSeen h)))))))
noncomputable def nj : SeenV := (jx.map fun r => (fnWant r, some r.q), true)
noncomputable def Says (h : Heap) : Prop := ∃ h₀, j8 h₀ = nj /\ ∀ b o, h₀.get? b = some o -> h.get? b = some o
structure SeenT (h₀ : Heap) : Prop where
 fn : ∀ r ∈ jx, fnSeen h₀ r.a = fnWant r /\ cdSeen h₀ r.c = some r.q
 hd : ∀ x ∈ jo, hdSeen h₀ x.1 x.2 = true
 en : jP h₀ 59 58 = true
 enN : gO h₀ 58 enMs [] (fP ++ jh) = true
 ws : jP h₀ 182 181 = true
 wsN : gO h₀ 181 wsMs wsSs (gG ++ jh) = true
 st : h₀.isNs cStatics = true
 tp : h₀.nsMap cStatics "thirdparty.any" = none
 cp : cpSeen h₀ = true
theorem seenT {h₀ : Heap} (e : j8 h₀ = nj) : SeenT h₀ := by
 have e1 : (jx.map fun r => (fnSeen h₀ r.a, cdSeen h₀ r.c)) = jx.map fun r => (fnWant r, some r.q) := congrArg Prod.fst e
 have e2 : (j8 h₀).2 = true := congrArg Prod.snd e
 exact ⟨fun r hr => Prod.mk.inj (List.map_inj_left.mp e1 r hr), List.all_eq_true.mp (aL e2), aL (aR e2), aL (aR (aR e2)), aL (aR (aR (aR e2))), aL (aR (aR (aR (aR e2)))), aL (aR (aR (aR (aR (aR e2))))), Option.isNone_iff_eq_none.mp (aL (aR (aR (aR (aR (aR (aR e2))))))), aR (aR (aR (aR (aR (aR (aR e2))))))⟩
theorem tabs_at {h₀ h : Heap} (S : SeenT h₀) (k : ∀ b o, h₀.get? b = some o -> h.get? b = some o) : TabsAt jo h := fun q hq => by
 have ne : ∀ x ∈ jo, x.1 ≠ x.2 := by decide
 obtain ⟨a, b⟩ := hd_of (ne q hq) (S.hd q hq)
 exact ⟨a.keeps k, k _ _ b⟩
noncomputable abbrev loT : List Str := looseW (view pw [0, 2, 3, 5, 6, 7, 8, 9, 10, 11, 15, 17, 18, 19, 20, 21, 22, 23, 24]) ["capwords", "Whitespace"]
noncomputable abbrev vw : Program := view pw [0, 2, 3, 5, 6, 7, 8, 9, 10, 11, 15, 17, 18, 19, 20, 21, 22, 23, 24]
theorem mg_noGl {mg : Str -> Option Value} (e : mgOk mg = true) : ∀ x ∈ noGl, mg x = none := fun x hx => Option.isNone_iff_eq_none.mp (List.all_eq_true.mp (aR (aR e)) x hx)
theorem lV {mg : Str -> Option Value} (e : mgOk mg = true) : ∀ x ∈ jZ, mg x.1 = some (.ref x.2) := fun x hx => eq_of_beq (List.all_eq_true.mp (aL e) x hx)
theorem mg_lim {mg : Str -> Option Value} (e : mgOk mg = true) : ∃ tk, mg "_DIV_LIMIT" = some (.int 4000 tk) := by
 obtain ⟨v, hv, e⟩ := ik (eq_of_beq (aL (aR e)))
 obtain ⟨t, rfl⟩ := intD_of e
 exact ⟨t, hv⟩
section
variable {w : World} {s : Shared} {mean : ExcName -> Option Value} {mg mb : Str -> Option Value} {h₀ : Heap}
theorem bmain_at (T : Top vw loT mean mg mb s.heap) (X : TabsAt jo s.heap) : ∀ q ∈ jo, (ghostOf s.heap jo).BuiltinsAt mg q.2 := fun q hq => by
 obtain ⟨bm, ob, h1, h2, h3, h4, h5, h6⟩ := T.bmain
 refine ⟨bm, ob, h1, h2, fun e => ?_, fun e => ?_, ghost_get X h3 (fun q => by rw [q] at h4; cases h4), h4, h5, h6⟩
 ·obtain ⟨o, es, ep, e1, e2, _⟩ := T.g
  rw [<- e, h3] at e1; cases e1
  rw [h6] at e2; cases e2
 ·have := (X q hq).2
  rw [<- e, h3] at this; cases this; cases h4
noncomputable def cfgOf (w : World) (s : Shared) (mg mb : Str -> Option Value) (T : Top vw loT mean mg mb s.heap) (X : TabsAt jo s.heap) (M : mgOk mg = true) : Cfg where
 prog := pw
 w := w
 σ := s
 hB := ghostOf s.heap jo
 tabs := jo
 qn := fun P _ _ => if P = 195 then ("_law_rule" : Str) ++ (".<locals>." : Str) ++ "<lambda>" else if P = 86 then ("_int2digits" : Str) ++ (".<locals>." : Str) ++ "inner" else ("_digits2int" : Str) ++ (".<locals>." : Str) ++ "inner"
 tabCode := fun q hq => by
  obtain ⟨o, vs, file, tf, flags, tg, inF, text, tt, e1, r1, r⟩ := (X q hq).1
  exact ⟨o, vs, file, tf, flags, tg, inF, text, tt, ghost_get X e1 (fun q => by rw [q] at r1; cases r1), r1, r⟩
 tabHid := fun q hq => hideAll_none _ (List.mem_map_of_mem hq)
 mg := mg
 mb := mb
 bmain := bmain_at T X
 g := ghost_ns X T.g
 b := ghost_ns X T.b
 nolimit := by obtain ⟨mc, a, r⟩ := T.nolimit; exact ⟨mc, ghost_ns X a, r⟩
 builtins := T.builtins
 lam := fun _ => lam1
 clo := fun | 0 => parts in2d | _ => parts inD2
 noGlob := mg_noGl M
variable (T : Top vw loT mean mg mb s.heap) (X : TabsAt jo s.heap) (M : mgOk mg = true) (S : SeenT h₀) (k : ∀ b o, h₀.get? b = some o -> s.heap.get? b = some o)
include S k
theorem mz {b : Addr} {o : Obj} (e : h₀.get? b = some o) (n : o ≠ tabObj #[]) : (cfgOf w s mg mb T X M).hB.get? b = some o := ghost_get X (k _ _ e) n
theorem def_of (i : Nat) {r : lD} (hr : jx[i]? = some r) : cY (cfgOf w s mg mb T X M) r.a r.st (.ref r.c) := by
 obtain ⟨e1, e2⟩ := S.fn r (List.mem_of_getElem? hr)
 obtain ⟨o, fd, ho, hc, hd, e, hdf⟩ := fn_of e1
 obtain ⟨oc, vs, t, g2, g3, g4⟩ := cd_of e2
 have hcd : fd.code = .ref r.c := congrArg (fun x : FnV8 => x.2.2.2.2.2.2.1) e
 have hq : fd.qualname = r.q := congrArg (fun x : FnV8 => x.2.2.2.2.2.2.2) e
 refine ⟨o, fd, mz T X M S k ho (fun q => Value.noConfusion ((congrArg Obj.cls q).symm.trans hc)), hc, hd, ⟨r.c, oc, vs, t, hcd, mz T X M S k g2 (fun q => by rw [q] at g3; cases g3; cases g4), g3, hq ▸ g4⟩, hcd, congrArg (fun x : FnV8 => x.1) e, congrArg (fun x : FnV8 => x.2.1) e, congrArg (fun x : FnV8 => x.2.2.1) e,
  congrArg (fun x : FnV8 => x.2.2.2.1) e, congrArg (fun x : FnV8 => x.2.2.2.2.1) e, congrArg (fun x : FnV8 => x.2.2.2.2.2.1) e, hdf.imp id ?_⟩
 rintro ⟨t, o, its, n, a, b, c⟩
 exact ⟨t, o, its, n, a, mz T X M S k b (fun q => Data.noConfusion ((congrArg Obj.data q).symm.trans c)), c⟩
noncomputable def fnT (i j : Nat) {x : Str} {r : lD} (hr : jx[i]? = some r) (hx : jZ[j]? = some (x, r.a)) : FnT (cfgOf w s mg mb T X M) x r.st :=
 ⟨r.a, lV M _ (List.mem_of_getElem? hx), _, def_of T X M S k i hr⟩
theorem code_of (i : Nat) {r : lD} (hr : jx[i]? = some r) {q : Str} (e : (cfgOf w s mg mb T X M).hB.CodeRec (.ref r.c) q) : q = r.q := by
 have x := cd_of (S.fn r (List.mem_of_getElem? hr)).2
 obtain ⟨c', oc, vs, t, g1, g2, g3, g4⟩ := e
 have g1 := Value.ref.inj g1
 subst g1
 refine code_q x ⟨_, oc, vs, t, rfl, ?_, g3, g4⟩
 obtain ⟨o, _, _, ho, _, _⟩ := x
 exact ho.trans ((k _ _ ho).symm.trans (of_hideAll _ g2))
noncomputable def fnM (i j : Nat) {x nm : Str} {r : lD} (P : Addr) (hr : jx[i]? = some r) (hx : jZ[j]? = some (x, r.a)) (hm : (r.c, P) ∈ jo) (hq : ∀ l k, (cfgOf w s mg mb T X M).qn P l k = r.q ++ (".<locals>." : Str) ++ nm) : FnM (cfgOf w s mg mb T X M) x r.st nm :=
 ⟨r.a, lV M _ (List.mem_of_getElem? hx), r.c, P, def_of T X M S k i hr, hm, fun q l c e => by rw [code_of T X M S k i hr e]; exact hq l c⟩
theorem cls_at {Cl N : Addr} {fs : List (Str × Addr)} {ss : List (Str × Str)} {ab : List Str} (e : jP h₀ Cl N = true) (e2 : gO h₀ N fs ss ab = true) : ClsAt (cfgOf w s mg mb T X M).hB Cl N (h₀.nsMap N) := by
 have c := cl_of e e2
 obtain ⟨nm, q, bs, sn, sub, col, dd, k0, k1, k2, k3, k5, hC⟩ := c.obj
 obtain ⟨o, es, ep, e, hd, r⟩ := c.ns
 exact ⟨⟨nm, q, bs, sn, sub, col, dd, k0, k1, k2, k3, k5, mz T X M S k hC (fun q => by cases q)⟩, o, es, ep, mz T X M S k e (fun q => by rw [q] at hd; cases hd), hd, r⟩
theorem cls_of {Cl N : Addr} {fs : List (Str × Addr)} {ss : List (Str × Str)} {ab : List Str} (e : jP h₀ Cl N = true) (e2 : gO h₀ N fs ss (ab ++ jh) = true) : Cls (cfgOf w s mg mb T X M) Cl ab (h₀.nsMap N) := by
 obtain ⟨_, _, q⟩ := ns_of e2
 have q3 : ∀ x ∈ jh, h₀.nsMap N x = none := fun x hx => q x (List.mem_append_right _ hx)
 exact ⟨fun x hx => q x (List.mem_append_left _ hx), ⟨N, cls_at T X M S k e e2⟩, q3 _ (.head _), q3 _ (.tail _ (.head _)), q3 _ (.tail _ (.tail _ (.head _)))⟩
theorem cls_txt (j : Nat) {x v : Str} (hx : wsSs[j]? = some (x, v)) (n1 : typeLookup (.type "type") x = pure none) (n2 : ∃ y, typeLookup (.type "object") x = pure y) : jV (cfgOf w s mg mb T X M) 182 x (.str v) := by
 obtain ⟨_, q, _⟩ := ns_of S.wsN
 obtain ⟨t, ht⟩ := q _ (List.mem_of_getElem? hx)
 obtain ⟨o, es, ep, e, hd, r⟩ := Heap.Ns.of_isNs S.st
 exact cls_str (cls_at T X M S k S.ws S.wsN) ht (mc := h₀.nsMap cStatics) ⟨o, es, ep, mz T X M S k e (fun q => by rw [q] at hd; cases hd), hd, r⟩ S.tp n1 n2
noncomputable def methT (i j : Nat) {x : Str} {r : lD} {N : Addr} {fs : List (Str × Addr)} {ss : List (Str × Str)} {ab : List Str} (Cl : Addr) (e2 : gO h₀ N fs ss ab = true) (hr : jx[i]? = some r) (hx : fs[j]? = some (x, r.a)) : jB (cfgOf w s mg mb T X M) Cl (h₀.nsMap N) x r.st :=
 ⟨r.a, (ns_of e2).1 _ (List.mem_of_getElem? hx), _, def_of T X M S k i hr⟩
theorem cap_of : CapT (cfgOf w s mg mb T X M) 120 := by
 obtain ⟨o, fd, ho, hc, hd, hr, hcd, e2, e3, e4, e5, e6, e7, _⟩ := def_of (w := w) T X M S k 9 (r := ⟨120, aP 13, 119, "capwords"⟩) rfl
 obtain ⟨o', ho', e⟩ := ik (eq_of_beq S.cp)
 obtain ⟨fd', hd', e⟩ := ik e
 obtain ⟨t, ht, e⟩ := ik e
 obtain ⟨ot, hot, e⟩ := ik e
 obtain ⟨n, hn⟩ := seqD_of e
 have hd' := funD_of hd'
 have h2 := mz (w := w) T X M S k ho' fun q => by rw [q] at hd'; cases hd'
 have eo := Option.some.inj (ho.symm.trans h2)
 subst eo
 have ef := Data.func.inj (hd.symm.trans hd')
 subst ef
 exact ⟨lV M ("capwords", 120) (by decide), o, fd, ho, hd, hr, e2, e3, e4, e5, e6, e7, t, ot, n, refD_of ht, mz T X M S k hot (fun q => by rw [q] at hn; cases hn), hn⟩
noncomputable def lawT (tk : Tok) (ht : mg "_DIV_LIMIT" = some (.int 4000 tk)) : gF (cfgOf w s mg mb T X M) where
 En := 59
 mE := h₀.nsMap 58
 fold := ⟨⟨cls_of T X M S k S.en S.enN, lV M ("Entry", 59) (by decide), methT T X M S k 0 0 59 S.enN rfl rfl, methT T X M S k 1 1 59 S.enN rfl rfl, methT T X M S k 2 2 59 S.enN rfl rfl, fnT T X M S k 14 9 rfl rfl⟩, fnT T X M S k 3 1 rfl rfl,
  ⟨rfl, rfl, tk, ht, fnT T X M S k 4 2 rfl rfl, fnM T X M S k 5 3 86 rfl rfl (by decide) (fun _ _ => rfl), fnM T X M S k 6 4 93 rfl rfl (by decide) (fun _ _ => rfl), fnT T X M S k 7 5 rfl rfl, fnT T X M S k 8 6 rfl rfl⟩, fnT T X M S k 17 12 rfl rfl⟩
 Wh := 182
 mW := h₀.nsMap 181
 les := ⟨cls_of T X M S k S.ws S.wsN, methT T X M S k 11 1 182 S.wsN rfl rfl, methT T X M S k 12 2 182 S.wsN rfl rfl, methT T X M S k 13 3 182 S.wsN rfl rfl⟩
 wname := lV M ("Whitespace", 182) (by decide)
 hS := cls_txt T X M S k 0 rfl (by rw [typeLookup_type, builtinLookup_eq_fast]; kernel_rfl) ⟨none, by rw [typeLookup_type, builtinLookup_eq_fast]; kernel_rfl⟩
 hT := cls_txt T X M S k 1 rfl (by rw [typeLookup_type, builtinLookup_eq_fast]; kernel_rfl) ⟨none, by rw [typeLookup_type, builtinLookup_eq_fast]; kernel_rfl⟩
 wini := methT T X M S k 10 0 182 S.wsN rfl rfl
 capA := 120
 cap := cap_of T X M S k
 rule := fnM T X M S k 15 10 195 rfl rfl (by decide) (fun _ _ => rfl)
 l0 := rfl
 typ := fnT T X M S k 16 11 rfl rfl
 core := fnT T X M S k 18 13 rfl rfl
 safe := fnT T X M S k 19 14 rfl rfl
 out := fnT T X M S k 20 15 rfl rfl
end
theorem law_script {script : List Int} (C : Cfg) (T : gF C) (L : FnT C "law" (aP 24)) (h : script.length <= 1000) : Fn C 21 (.ref L.a) [.list (bK script)] (.bool true) :=
 law_ok (r := 0) T L script h fun nm o dr c3 _ _ _ _ => plain_ok nm o dr c3
theorem well_int {P : Params} {h : Heap} {v : Value} {n : Int} (a : Well P h v (.int n)) : ∃ t, v = .int n t := by cases a; exact ⟨_, rfl⟩
theorem vals_ints {C : Cfg} {W : Addr -> Prop} {h : Heap} {P : Params} {ns : List Int} : ∀ {vs : List Value}, WellAll P h vs (ns.map WData.int) -> ao C W h vs (bK ns) := by
 induction ns with
 | nil => intro vs x; cases x; exact .nil
 | cons n ns ih =>
  intro vs x
  cases x with
  | cons a b =>
   obtain ⟨t, rfl⟩ := well_int a
   exact .cons (.int _ _) (ih b)
noncomputable abbrev row1 : OpenRow := (PySem.Challenge.rw_wy0041_01).row
noncomputable def notD (o : Option WData) : Option WData := match o with | some (.bool b) => some (WData.bool (!b)) | _ => none
noncomputable def andD (o p : Option WData) : Option WData := match o with | some (.bool false) => some (.bool false) | some (.bool true) => (match p with | some (.bool x) => some (.bool x) | _ => none) | _ => none
noncomputable def isT (o : Option WData) : Bool := match o with | some (.bool true) => true | _ => false
theorem pre_len {ns : List Int} (h : row1.pre.holds row1.records { args := [.list (ns.map WData.int)] } = true) : ns.length <= 63 := by
 refine Decidable.byContradiction fun q => ?_
 have e : WTm.value row1.records (.lt (.lit (.int 63)) (.len (.arg 0))) { args := [.list (ns.map WData.int)] } = some (.bool true) :=
  congrArg (fun b => some (WData.bool b)) (decide_eq_true (by rw [List.length_map]; omega) : decide ((63 : Int) < ((ns.map WData.int).length : Int)) = true)
 have h : isT (andD (notD (WTm.value row1.records (.lt (.lit (.int 63)) (.len (.arg 0))) { args := [.list (ns.map WData.int)] })) (some (.bool true))) = true := h
 rw [e] at h
 cases h
theorem walk_core {C : Cfg} {w : World} {s₀ : Shared} {ns : List Int} {a : Addr} {us : List Value} {P : Params} (F : Fn C 21 (.ref 230) [.list (bK ns)] (.bool true)) (X : TabsAt jo C.σ.heap) (hB : C.hB = ghostOf C.σ.heap jo) (ht : C.tabs = jo) (hg : C.σ.gens = #[])
  (len : ns.length <= 63) (ha : C.σ.heap.get? a = some (aM us 0)) (hus : WellAll P C.σ.heap us (ns.map WData.int)) :
  wpAny (md C) callerA (PySem.call (.ref 230) [.ref a]) (fun v s' => GoodWG row1.toRowW.claim (classAt s₀.heap) (ExcName.means s₀.heap) [.list (ns.map WData.int)] C.σ (.ok (.ret v)) s')
   (fun e s' => GoodWG row1.toRowW.claim (classAt s₀.heap) (ExcName.means s₀.heap) [.list (ns.map WData.int)] C.σ (.error e) s') C.σ := by
 have X' : ∀ q ∈ C.tabs, CodeHd C.σ.heap q.1 q.2 /\ C.σ.heap.get? q.2 = some (tabObj #[]) := fun q hq => X q (ht ▸ hq)
 have I : Inv C C.σ.heap := ⟨fun b o e => of_hideAll _ (hB ▸ e), fun q hq => ⟨#[], (X' q hq).2, trivial, fun pos cv q => by cases q⟩⟩
 have na : ¬ C.Tb a := by
  rintro ⟨q, hq, e⟩
  have := (X' q hq).2
  rw [e, ha] at this; cases this
 refine F callerA _ C.σ.heap [.ref a] ⟨rfl, by decide, by decide, rfl⟩ I (fun _ q => q) (.of I fun a q => .inl q) (.cons (.list (n := 0) ha na (by unfold bK; rw [List.length_map]; lia) (vals_ints hus)) .nil) C.σ.toks _ _ fun v h' tk' z => ?_
 obtain ⟨⟨kp, I'⟩, zv⟩ := z
 refine zv.boolE ?_
 have grown : ∀ b o, C.Tb b -> C.σ.heap.get? b = some o -> isCodeTable C.σ.heap b /\ o = tabObj #[] /\ ∃ ps, h'.get? b = some (tabObj ps) := by
  rintro b o ⟨q, hq, e2⟩ e
  subst e2
  have e3 := (X' q hq).2
  rw [e] at e3
  obtain ⟨ps, hP, _⟩ := I'.2 q hq
  exact ⟨((X' q hq).1.tab (X' q hq).2).isCodeTable, Option.some.inj e3, ps, hP⟩
 refine ⟨.inl ⟨.bool true, .bool true, [], rfl, fun _ => rfl, .bool true, ?_, fun _ => ⟨.nil, fun _ h => cR h⟩⟩, ⟨fun b o e => ?_, fun b o e => ?_⟩, rfl, .of_eq hg⟩
 ·exact postW_of (r := row1.toRowW) (X := true) (by rfl) (congrArg (fun b => some (WData.bool b)) (PySem.W.same_self _)) rfl
 ·by_cases hb : C.Tb b
  ·obtain ⟨ht, rfl, ps, hP⟩ := grown b o hb e
   exact .inr (.inl ⟨ht, rfl, #[], ps, rfl, by rw [Array.empty_append]; exact hP⟩)
  ·exact .inl (kp b o e hb)
 ·by_cases hb : C.Tb b
  ·obtain ⟨_, _, ps, hP⟩ := grown b o hb e
   exact ⟨_, hP⟩
  ·exact ⟨o, kp b o e hb⟩
theorem walk1 {w : World} {s₀ s₁ : Shared} {mg mb : Str -> Option Value} (G : Ground vw ["capwords", "Whitespace"] [] (fun mg _ => mgOk mg = true) w s₀ mg mb s₁.heap) (Y : Says s₁.heap) (hm : mg "law" = some (.ref 230)) (hg : s₁.gens = #[])
  {args : List WData} {vals : List Value} (hpre : row1.toRowW.claim.pre args = true) (hwl : WellAll w.params s₁.heap vals args) :
  wpAny (model pw w) callerA (PySem.call (.ref 230) vals) (fun v s' => GoodWG row1.toRowW.claim (classAt s₀.heap) (ExcName.means s₀.heap) args s₁ (.ok (.ret v)) s')
   (fun e s' => GoodWG row1.toRowW.claim (classAt s₀.heap) (ExcName.means s₀.heap) args s₁ (.error e) s') s₁ := by
 obtain ⟨hsh, hcond⟩ := pre_splitW hpre
 obtain ⟨d, r, rfl, h1, h2⟩ := hasAllW_cons hsh
 obtain rfl := hasAllW_nil h2
 obtain ⟨xs, rfl, h3⟩ := hasW_list h1
 obtain ⟨ns, rfl⟩ := items_int h3
 have len := pre_len hcond
 obtain ⟨h₀, e, k⟩ := Y
 have S := seenT e
 have X : TabsAt jo s₁.heap := tabs_at S k
 have M : mgOk mg = true := G.X
 obtain ⟨tk, htk⟩ := mg_lim M
 have T := G.T
 have lt := lawT (w := w) T X M S k tk htk
 have L : FnT (cfgOf w s₁ mg mb T X M) "law" (aP 24) := fnT T X M S k 21 16 (r := ⟨230, aP 24, 229, "law"⟩) rfl rfl
 have La : L.a = 230 := by have := L.g.symm.trans hm; exact Value.ref.inj (Option.some.inj this)
 have F := law_script (script := ns) _ lt L (by lia)
 rw [La] at F
 cases hwl with
 | @cons v vs d ds hl hr =>
 cases hr
 cases hl with
 | @list a us _ ha hus =>
 exact walk_core (C := cfgOf w s₁ mg mb T X M) (w := w) F X rfl rfl hg len ha hus
end Mine
open PySem PySem.W PyProof.Rows
namespace Mine
theorem left1 : LeftO pw vw ["capwords", "Whitespace"] (fun s => mgOk (s.heap.nsMap mainGlobals)) (fun s => j8 s.heap) (fun _ => nj) 2814 := by
 refine LeftO.of_split "special-get-raises" ?_
 intro w
 kernel_rfl
theorem said1 : (PySem.Challenge.rw_wy0041_01).wellSaid = true := by
 kernel_rfl
end Mine
set_option tactic.hygienic true in
theorem PySem.Challenge.cw_wy0041_01_holds : PySem.Challenge.rw_wy0041_01.Holds := by
 refine holds_law Mine.said1 fun said => ?_
 refine holds_open (q := Mine.vw) (loose := ["capwords", "Whitespace"]) (Xt := fun s => Mine.mgOk (s.heap.nsMap mainGlobals)) (XP := fun mg _ => Mine.mgOk mg = true) (Yf := fun s => Mine.j8 s.heap) (Ya := fun _ => Mine.nj) (YP := fun _ h => Mine.Says h) (N := 2814)
  Mine.left1 (fun _ s e => ⟨s.heap, e, fun _ _ q => q⟩) (by rintro _ h h' ⟨h₀, e, k⟩ q; exact ⟨h₀, e, fun b o z => q _ _ (k _ _ z)⟩) (fun _ e => e) (fun _ _ _ e _ => e) (by rfl) (by rfl) (by rfl) (fun _ _ => recFacts_nil rfl) (by rfl) (by first | assumption | decide +kernel) (by decide +kernel) ⟨rfl, rfl, rfl, rfl, rfl, by decide +kernel⟩ ?hw ?hc
 case hw => w_witness2
 case hc =>
  intro w s₀ s₁ mg mb G Y a o pm cd doc dV kV ho hd hcd hD hmg hg args vals as hpre hlay hrd hwl hlo
  have ha : a = 230 := Value.ref.inj (Option.some.inj (hmg.symm.trans (Mine.lV G.X ("law", 230) (by decide))))
  subst ha
  exact Mine.walk1 G Y hmg hg hpre hwl
