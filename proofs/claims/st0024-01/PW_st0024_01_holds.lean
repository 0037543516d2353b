import PyProof.Rows.All
import Wide.All
import OpenK.AllK
import Wide.FinOn
import PySem.Challenge.RW_st0024_01
set_option Elab.async false
set_option maxRecDepth 100000
set_option linter.unusedVariables false
set_option linter.unusedSectionVars false
set_option linter.defProp false
set_option maxHeartbeats 4000000
open PySem PySem.W PyProof.Rows
noncomputable section
namespace Mine
end Mine
open Mine
section Cls
local macro_rules | `(tactic| walk_at $s:str) => `(tactic| k_extra $s)
local macro_rules | `(tactic| k_all) => `(tactic| k_extra "k_all")
local macro_rules | `(tactic| k_enter) => `(tactic| k_extra "k_enter")
local macro_rules | `(tactic| k_in) => `(tactic| k_extra "k_in")
local macro_rules | `(tactic| k_mem) => `(tactic| k_extra "k_mem")
local macro_rules | `(tactic| k_ne) => `(tactic| k_extra "k_ne")
local macro_rules | `(tactic| k_room) => `(tactic| k_extra "k_room")
local macro_rules | `(tactic| keq_hits) => `(tactic| k_extra "keq_hits")
local macro_rules | `(tactic| keq_rows) => `(tactic| k_extra "keq_rows")
local macro_rules | `(tactic| kl_room) => `(tactic| k_extra "kl_room")
local macro_rules | `(tactic| kla_enter) => `(tactic| k_extra "kla_enter")
local macro_rules | `(tactic| lcg_off) => `(tactic| k_extra "lcg_off")
local macro_rules | `(tactic| lcg_sub) => `(tactic| k_extra "lcg_sub")
local macro_rules | `(tactic| omega) => `(tactic| k_extra "omega")
namespace Mine
set_option maxHeartbeats 8000000 in
open_top hd for PySem.Challenge.rw_st0024_01
theorem wOff : True := by
  w_top off
  trivial
end Mine

namespace Mine
noncomputable abbrev E0 : Str := Str.ofString ""
/-- the signs of a text, each a text of one sign -/
noncomputable def chs (x : Str) : List Str := x.cps.toList.map fun c => ⟨#[c]⟩
/-- the model's bit test -/
noncomputable def bitOn (mask : Int) (y : Nat) : Bool := decide (Builtin.bitAnd (mask.fdiv (2 ^ ((0 : Int) + (y : Int)).toNat)) 1 ≠ 0)
noncomputable def bitsTo (mask : Int) : Nat → List Nat
  | 0 => []
  | i + 1 => if bitOn mask i = true then bitsTo mask i ++ [i] else bitsTo mask i
theorem bitsTo_lt (mask : Int) : ∀ (i : Nat), ∀ y ∈ bitsTo mask i, y < i
  | 0, _, h => nomatch h
  | i + 1, y, h => by
    unfold bitsTo at h
    split at h
    · rcases List.mem_append.mp h with h | h
      · exact Nat.lt_succ_of_lt (bitsTo_lt mask i y h)
      · rw [List.mem_singleton.mp h]; exact Nat.lt_succ_self _
    · exact Nat.lt_succ_of_lt (bitsTo_lt mask i y h)
theorem bitsTo_len (mask : Int) : ∀ (i : Nat), (bitsTo mask i).length ≤ i
  | 0 => Nat.le_refl _
  | i + 1 => by
    have h := bitsTo_len mask i
    unfold bitsTo
    split
    · rw [List.length_append, List.length_singleton]; omega
    · omega
noncomputable def castL (l : List Nat) : List Int := l.map fun (k : Nat) => (k : Int)
noncomputable def gotN (V : Nat → List Int) (ws : List Nat) (x : Int) : Int := (ws.map fun y => ((V y).count x : Int)).sum
noncomputable def outOk (V : Nat → List Int) (need : List Int) (ws : List Nat) (x : Nat) : Bool := !((castL ws).any (· == (x : Int))) && decide (need.getD x 0 ≤ gotN V ws (x : Int))
noncomputable def outs (V : Nat → List Int) (need : List Int) (ws : List Nat) : Nat → List Nat
  | 0 => []
  | i + 1 => if outOk V need ws i = true then outs V need ws i ++ [i] else outs V need ws i
noncomputable def least1 (V : Nat → List Int) (need : List Int) : Nat → Int
  | 0 => 31
  | i + 1 => if outs V need (bitsTo (i : Int) 5) 5 = [] then Builtin.bitAnd (least1 V need i) (i : Int) else least1 V need i
/-- the five names, and blanks -/
noncomputable def nm : Nat → Str
  | 0 => Str.ofString "a"
  | 1 => Str.ofString "B c"
  | 2 => Str.ofString "\""
  | 3 => Str.ofString "\\"
  | _ => Str.ofString "#"
noncomputable def sp : Nat → Str
  | 0 => Str.ofString ""
  | 1 => Str.ofString " "
  | _ => Str.ofString "  "
noncomputable def padW (a k b : Nat) : Str := sp a ++ nm k ++ sp b
noncomputable def swN (k : Nat) : Str := Txt.swapcase (nm k)
noncomputable def lwN (k : Nat) : Str := Txt.lower (nm k)
section
variable (Vn : Nat → List Nat) (A Bh : Nat → Nat)
noncomputable def got (ws : List Nat) (x : Nat) : Nat := (ws.map fun y => (Vn y).count x).sum
noncomputable def dueW (ups : List Nat) (k : Nat) : Str := padW (A k - got Vn ups k) k (Bh k - (got Vn ups k - A k))
noncomputable def rnd : List Nat → List Nat → List Nat → List Nat × List Nat
  | [], ups, done => (ups, done)
  | k :: t, ups, done => if A k + Bh k ≤ got Vn ups k then rnd t (ups ++ [k]) done else rnd t ups (done ++ [k])
noncomputable def rnds : Nat → List Nat → List Nat → List Nat × List Nat
  | 0, ups, qu => (ups, qu)
  | n + 1, ups, qu => rnds n (rnd Vn A Bh qu ups []).1 (rnd Vn A Bh qu ups []).2
end
/-- nobody twice, and nobody but the five -/
noncomputable def Five (ups qu : List Nat) : Prop := (ups ++ qu).Nodup ∧ ∀ k ∈ ups ++ qu, k < 5
noncomputable def escB (c : Nat) : Str := Str.ofString "\\" ++ ⟨#[c]⟩
noncomputable def escQ (c : Nat) : Str := if (Builtin.Str.occurrences (Str.ofString "\"\\") ⟨#[c]⟩ 0 (Str.ofString "\"\\").length 1).isEmpty = true then ⟨#[c]⟩ else Str.ofString "\\" ++ ⟨#[c]⟩
noncomputable def wordT (b : Bool) (x wh : Str) : Str := if b = true then Txt.join (Str.ofString "") (x.cps.toList.map escB) ++ wh else Str.ofString "\"" ++ Txt.join (Str.ofString "") (x.cps.toList.map escQ) ++ Str.ofString "\"" ++ wh
noncomputable abbrev qt : Str := Str.ofString "\""
noncomputable abbrev bs : Str := Str.ofString "\\"
noncomputable abbrev wsp : Str := Str.ofString "\n\t\x0d "
noncomputable abbrev wsE (c : Str) : Bool := (Builtin.Str.occurrences (Str.ofString "\n\t\x0d ") c 0 (Str.ofString "\n\t\x0d ").length 1).isEmpty
noncomputable def bump (c : Str) (ln : Int) : Int := if (c == Str.ofString "\n") = true then ln + 1 else ln
noncomputable abbrev LexR := Str × List Str × Int
noncomputable def lexQ : List Str → Str → Int → Option LexR
  | [], tok, ln => some (tok, [], ln)
  | c :: r, tok, ln => if (c == qt) = true then some (tok, r, bump c ln) else if (c == bs) = true then (match r with | [] => none | d :: r' => lexQ r' (tok ++ d) (bump d (bump c ln))) else lexQ r (tok ++ c) (bump c ln)
noncomputable def lexB : List Str → Str → Int → Option LexR
  | [], tok, ln => some (tok, [], ln)
  | c :: r, tok, ln => if wsE c = false then some (tok, r, bump c ln) else if (c == bs) = true then (match r with | [] => none | d :: r' => lexB r' (tok ++ d) (bump d (bump c ln))) else lexB r (tok ++ c) (bump c ln)
noncomputable def lexT : List Str → Int → Option LexR
  | [], ln => some (E0, [], ln)
  | c :: r, ln => if wsE c = false then lexT r (bump c ln) else if (c == qt) = true then lexQ r E0 (bump c ln) else if (c == bs) = true then (match r with | [] => none | d :: r' => lexB r' (E0 ++ d) (bump d (bump c ln))) else lexB r (E0 ++ c) (bump c ln)
/-- what the script decides: blanks ahead and behind, pushes, the words' case, the way they are written -/
structure Par where
  Aa : Nat → Nat
  Bh : Nat → Nat
  Vn : Nat → List Nat
  cs : Nat → Bool
  bs : Nat → Bool
structure ParOk (P : Par) : Prop where
  ab : ∀ k, P.Aa k < 3 ∧ P.Bh k < 3
  v5 : ∀ k, ∀ y ∈ P.Vn k, y < 5
  v3 : ∀ k, (P.Vn k).length = 3
noncomputable def caseN (b : Bool) (x : Nat) : Str := if b = true then Txt.upper (nm x) else lwN x
noncomputable def wOf (P : Par) (k : Nat) : List Str := padW (P.Aa k) k (P.Bh k) :: (P.Vn k).map (caseN (P.cs k))
noncomputable def wTo (P : Par) : Nat → List Str
  | 0 => []
  | k + 1 => wTo P k ++ wOf P k
noncomputable def whN (n : Nat) : Str := Txt.item (Str.ofString "\n\t\x0d ") ((n % 4 : Nat) : Int)
noncomputable def pc (P : Par) (k j : Nat) : Str := wordT (P.bs k) ((wOf P k).getD j E0) (whN (k + j))
noncomputable def tRow (P : Par) (k : Nat) (t : Str) : Nat → Str
  | 0 => t
  | j + 1 => tRow P k t j ++ pc P k j
noncomputable def tTo (P : Par) : Nat → Str
  | 0 => E0
  | k + 1 => tRow P k (tTo P k) 4
end Mine

namespace Mine
noncomputable def isSp (x : Str) (i : Int) : Prop := (Txt.item x i == Str.ofString " ") = true
theorem fr_deeper {A : Around} {e env : Env} {outer : List Env} (h : A.frames = some (env :: outer)) : (A.deeper e).frames = some (e :: env :: outer) := by
  show A.frames.map (e :: ·) = _; rw [h]; rfl
theorem fr_under {A : Around} {c : Code} {l : List Env} (h : A.frames = some l) (hc : c.envs = []) : (A.under c).frames = some l := by
  show pushEnvs c.envs A.frames = _; rw [hc]; exact h
theorem fr_in1 {A : Around} {l : List Env} (h : A.frames = some l) : A.in1.frames = some l := h
theorem chs_length (x : Str) : (chs x).length = x.length := by simp [chs, Str.length]
theorem strsAre_of {x : Str} {acc : Array Value} (h : ItemsOf (SignAt x) acc x.cps.size) : StrsAre acc.toList (chs x) := by
  obtain ⟨hs, hv⟩ := h
  have key : ∀ (l : List Value) (cs : List Nat), l.length = cs.length → (∀ (j : Nat) (v : Value), l[j]? = some v → ∃ (c : Nat) (u : Tok), cs[j]? = some c ∧ v = Value.str ⟨#[c]⟩ u) → StrsAre l (cs.map fun c => (⟨#[c]⟩ : Str)) := by
    intro l
    induction l with
    | nil => intro cs hl _; cases cs with
      | nil => exact .nil
      | cons c cs => simp at hl
    | cons v l ih => intro cs hl hc; cases cs with
      | nil => simp at hl
      | cons c cs =>
        obtain ⟨c', u, e, rfl⟩ := hc 0 v (by simp)
        simp at e; subst e
        exact .cons _ _ (ih cs (by simpa using hl) fun j v hj => by
          obtain ⟨c'', u', e', r⟩ := hc (j + 1) v (by simpa using hj)
          exact ⟨c'', u', by simpa using e', r⟩)
  refine key _ _ (by simp [hs]) fun j v hj => ?_
  obtain ⟨c, u, e, r⟩ := hv j v (by simpa using hj)
  exact ⟨c, u, by simpa using e, r⟩
theorem revArr (vs : List Value) : vs.toArray.toList.reverse = vs.reverse := by simp
theorem last_snoc (p : List Value) (y : Value) : kl_last (p ++ [y]) = some (p, y) := by
  induction p with
  | nil => rfl
  | cons x r ih => show (match kl_last (r ++ [y]) with | some (p, y) => some (x :: p, y) | none => some ([], x)) = _; rw [ih]
theorem lastArr {vs p : List Value} {y : Value} (h : vs = p ++ [y]) : kl_last vs.toArray.toList = some (p, y) := by
  subst h; rw [show (p ++ [y]).toArray.toList = p ++ [y] by simp]; exact last_snoc p y
section
variable {prog : Program} {w : World} {A : Around} {E : Value → Shared → Prop} {s : Shared} {h₀ : Heap} {L : Addr} {m : Str → Option Value} {news : List (Addr × Obj)}
theorem pop0_K {D : Addr} {v : Value} {r : List Value} {n : Nat} {news' : List (Addr × Obj)} {u : Tok} {Q : Value → Shared → Prop} (F : Fr h₀ L s.heap m) (N : News h₀ L s.heap news) (U : Upd D (W.listOf (v :: r).toArray n) (W.listOf r.toArray (n + 1)) news news')
    (hz : r.length < 1000000) (h : ∀ h', Fr h₀ L h' m → News h₀ L h' news' → Q v { s with heap := h' }) : wpAny (model prog w) A (call (.builtin "list.pop") [.ref D, .int 0 u]) Q E s :=
  kl_popAt (k := 0) (p := []) (q := r) F N (by decide) (by simp [seqIndex?]) (by simp [kl_cut]) U (by rw [sizeLine_eq]; simp; omega) h
theorem truthySnoc_K {l : Addr} {p : List Value} {y : Value} {n : Nat} {Q : Bool → Shared → Prop} (N : News h₀ L s.heap news) (hm : (l, W.listOf (p ++ [y]).toArray n) ∈ news) (hz : p.length < 1000000) (h : ∀ tk, Q true { s with toks := tk }) : wpAny (model prog w) A (truthy (.ref l)) Q E s :=
  wpAny_truthy_list (N.isList hm) (by simp; omega) (by have e : (!(p ++ [y]).toArray.isEmpty) = true := by simp
                                                       rw [e]; exact h _)
theorem truthyCons_K {l : Addr} {p : List Value} {y : Value} {n : Nat} {Q : Bool → Shared → Prop} (N : News h₀ L s.heap news) (hm : (l, W.listOf (y :: p).toArray n) ∈ news) (hz : p.length < 1000000) (h : ∀ tk, Q true { s with toks := tk }) : wpAny (model prog w) A (truthy (.ref l)) Q E s :=
  wpAny_truthy_list (N.isList hm) (by simp; omega) (by have e : (!(y :: p).toArray.isEmpty) = true := by simp
                                                       rw [e]; exact h _)
theorem truthyNil_K {l : Addr} {n : Nat} {its : Array Value} {Q : Bool → Shared → Prop} (N : News h₀ L s.heap news) (hm : (l, W.listOf its n) ∈ news) (hz : its = #[]) (h : ∀ tk, Q false { s with toks := tk }) : wpAny (model prog w) A (truthy (.ref l)) Q E s := by
  subst hz
  exact wpAny_truthy_list (N.isList hm) (by simp) (h _)
theorem listStr_K {x : Str} {t : Tok} {Q : Value → Shared → Prop} (hh : A.handled = none) (F : Fr h₀ L s.heap m) (N : News h₀ L s.heap news) (hx : x.length ≤ sizeLine)
    (h : ∀ D vs c h' tk, StrsAre vs (chs x) → Fr h₀ L h' m → News h₀ L h' ((D, listOf vs.toArray c) :: news) → (∀ q ∈ news, q.1 < D) → Q (.ref D) { s with heap := h', toks := tk }) :
    wpAny (model prog w) A (call (.type "list") [.str x t]) Q E s :=
  call_list_str (hn := hx) hh x t fun h' tk acc c hk hD hi => by
    have e : acc = acc.toList.toArray := by simp
    rw [e] at hD
    exact h _ acc.toList c h' tk (strsAre_of hi) (F.keeps hk) (news_pushed F N hk hD rfl) fun q hq => Heap.lt_size (N q hq).1
end
end Mine

namespace Mine
noncomputable def sc0 : Scope := { kind := .module, names := [], isGenerator := false, isCoroutine := false, more := [] }
/-- a statement's parts: its body, its other branch, its scope, its value -/
noncomputable def stP (s : Stmt) : List Stmt × List Stmt × Scope × PySem.Expr := match s with
  | .FunctionDef _ _ b _ _ _ s _ _ _ => (b, [], s, .Constant .none 0 ⟨0, 0, 0, 0⟩)
  | .For _ _ b _ _ => (b, [], sc0, .Constant .none 0 ⟨0, 0, 0, 0⟩)
  | .If _ b c _ => (b, c, sc0, .Constant .none 0 ⟨0, 0, 0, 0⟩)
  | .Assign _ v _ => ([], [], sc0, v)
  | _ => ([], [], sc0, .Constant .none 0 ⟨0, 0, 0, 0⟩)
noncomputable def stN (l : List Stmt) (n : Nat) : List Stmt × List Stmt × Scope × PySem.Expr := stP ((l.drop n).headD (.Pass ⟨0, 0, 0, 0⟩))
/-- the text's lambda, taken out of the row -/
noncomputable def lamE : PySem.Expr := (stN (stN Challenge.pw_st0024_01.main.body 11).1 3).2.2.2
noncomputable def exP (e : PySem.Expr) : Arguments × PySem.Expr × Scope := match e with
  | .Lambda a b s _ => (a, b, s)
  | e => ({ posonlyargs := [], args := [], vararg := none, kwonlyargs := [], kw_defaults := [], kwarg := none, defaults := [] }, e, sc0)
noncomputable def lamP0 : Arguments := (exP lamE).1
noncomputable def lamB0 : PySem.Expr := (exP lamE).2.1
noncomputable def lamS0 : Scope := (exP lamE).2.2
@[reducible] noncomputable def lamPs : { x : Arguments // lamP0 = x } := by
  refine ⟨?x, ?h⟩
  case h =>
    conv => lhs; whnf
@[reducible] noncomputable def lamBs : { x : PySem.Expr // lamB0 = x } := by
  refine ⟨?x, ?h⟩
  case h =>
    conv => lhs; whnf
@[reducible] noncomputable def lamSs : { x : Scope // lamS0 = x } := by
  refine ⟨?x, ?h⟩
  case h =>
    conv => lhs; whnf
noncomputable abbrev lamP : Arguments := lamPs.1
noncomputable abbrev lamB : PySem.Expr := lamBs.1
noncomputable abbrev lamS : Scope := lamSs.1
structure LexP where
  x2 : Addr
  d2 : Addr
  pb : Addr
  f : Addr
  c' : Addr
  x1 : Addr
  d1 : Addr
  g : Addr
  c : Addr
  pb1 : Value
  oc : Obj
  oC : Obj
  qual : Str
  pm : Value
  ct : Value
  t : Nat → Tok
/-- what must hold of the lexer's parts -/
structure LexF (q : LexP) : Prop where
  code : ∃ vs t, q.oc.data = .fields vs ∧ vs[1]? = some (.str q.qual t)
  cell : q.oC.data = .cell (some (.ref q.g))
  ord : @LT.lt Nat _ q.c q.g ∧ @LT.lt Nat _ q.g q.d1 ∧ @LT.lt Nat _ q.d1 q.x1 ∧ @LT.lt Nat _ q.x1 q.c' ∧ @LT.lt Nat _ q.c' q.f ∧ @LT.lt Nat _ q.f q.d2 ∧ @LT.lt Nat _ q.d2 q.x2 ∧ @LT.lt Nat _ q.x2 q.pb
noncomputable abbrev ky (w : World) (n : String) (t : Tok) (v : Value) : DictEntry := ⟨PyData.keyHash w.params (Str.ofString n), .str (Str.ofString n) t, v⟩
/-- the ledger's part that is the lexer: its line, its pushed words, the signs to come -/
noncomputable abbrev lexNews (w : World) (q : LexP) (ln : Int) (u : Tok) (pbs : List Value) (pn : Nat) (vs : List Value) (gn : Nat) : List (Addr × Obj) :=
  [(q.pb, W.listOf pbs.toArray pn), (q.x2, instObj 83 q.d2),
   (q.d2, dictOf [ky w "lineno" (q.t 0) (.int ln u), ky w "instream" (q.t 1) (.ref q.x1), ky w "whitespace" (q.t 2) (.str (Str.ofString "\n\t\x0d ") (q.t 3)), ky w "pushback" (q.t 4) (.ref q.pb)] 4),
   (q.f, kla_obj (Str.ofString "<lambda>") q.qual lamP lamB lamS [(Str.ofString "signs", q.c)] q.pm q.c' q.ct), (q.c', q.oc), (q.x1, instObj 83 q.d1),
   (q.d1, dictOf [ky w "lineno" (q.t 5) (.int 1 (q.t 6)), ky w "instream" (q.t 7) .none, ky w "whitespace" (q.t 8) (.str (Str.ofString "\n\t\x0d ") (q.t 9)), ky w "pushback" (q.t 10) q.pb1, ky w "read" (q.t 11) (.ref q.f)] 5),
   (q.g, W.listOf vs.reverse.toArray gn), (q.c, q.oC)]
noncomputable def tokF (a0 a1 a2 a3 a4 a5 a6 a7 a8 a9 a10 a11 : Tok) : Nat → Tok := fun n => [a0, a1, a2, a3, a4, a5, a6, a7, a8, a9, a10, a11].getD n 0
end Mine

namespace Mine
open PySem.Calls
theorem ownerC : Manifest.owners.lookup (String.ofList ['r','o','t','a','r','e','t','i','_','e','l','b','a','l','l','a','c'].reverse) = some Manifest.sig_callable_iterator := by kernel_rfl
theorem slotCN : Slot "callable_iterator" "__next__" "callable_iterator.__next__" :=
  .of (owner := "callable_iterator") (n := "__next__") (by rw [typeLookup_type, builtinLookup_eq_fast]; kernel_rfl) (by decide +kernel) (by decide +kernel) (by decide +kernel)
    (by first | exact .inl (by decide +kernel) | exact .inr (by decide +kernel)) (by rw [isSubtype_type]; kernel_rfl)
theorem slotCI : Slot "callable_iterator" "__iter__" "callable_iterator.__iter__" :=
  .of (owner := "callable_iterator") (n := "__iter__") (by rw [typeLookup_type, builtinLookup_eq_fast]; kernel_rfl) (by decide +kernel) (by decide +kernel) (by decide +kernel)
    (by first | exact .inl (by decide +kernel) | exact .inr (by decide +kernel)) (by rw [isSubtype_type]; kernel_rfl)
theorem entryCN : entryFor table "callable_iterator.__next__" = some Builtin.«callable_iterator.__next__» := entryFor_of_tree (by kernel_rfl)
theorem entryCI : entryFor table "callable_iterator.__iter__" = some Builtin.«dict_keyiterator.__iter__» :=
  entryFor_alias (id' := "dict_keyiterator.__iter__") (by rw [fastTable_eq_tree]; kernel_rfl) rfl (by decide +kernel) (by rw [fastTable_eq_tree]; kernel_rfl)
theorem argsCN (a : Value) : argsOk "callable_iterator.__next__" ⟨[a], []⟩ := by
  unfold argsOk; rw [signature?_of (id := "callable_iterator.__next__") (n := ['_', '_', 't', 'x', 'e', 'n', '_', '_']) (o := ['r','o','t','a','r','e','t','i','_','e','l','b','a','l','l','a','c']) (by kernel_rfl) ownerC]; kernel_rfl
theorem argsCI (a : Value) : argsOk "callable_iterator.__iter__" ⟨[a], []⟩ := by
  unfold argsOk; rw [signature?_of (id := "callable_iterator.__iter__") (n := ['_', '_', 'r', 'e', 't', 'i', '_', '_']) (o := ['r','o','t','a','r','e','t','i','_','e','l','b','a','l','l','a','c']) (by kernel_rfl) ownerC]; kernel_rfl

noncomputable abbrev citObj (b : Addr) (e : Str) (t : Tok) : Obj := { cls := .type "callable_iterator", data := .fields #[.ref b, .str e t, .bool false] }
noncomputable abbrev citEnd : Obj := { cls := .type "callable_iterator", data := .fields #[.none, .none, .bool true] }
section
variable {prog : Program} {w : World} {A : Around} {E : Value → Shared → Prop} {s : Shared}
theorem callBorrowed_any {M : Model} {f : Value} {pos : List Value} {Q : Value → Shared → Prop}
    (hc : codeAny M A (.call f ⟨pos, []⟩) (fun r s' => match r with | .ok (.ret v) => Q v s' | .ok _ => False | .error e => E e s') s) : wpAny M A (callBorrowed f pos) Q E s := fun Γ p hΓ => by
  unfold callBorrowed
  rw [Sem.wp_call]
  refine wpCode_mono (fun r s' h => ?_) (hc _ p rfl (hΓ.enter _ none p (by intro x; cases x)))
  cases r with
  | error e => exact h
  | ok f => cases f <;> first | exact h | exact h.elim
theorem borrows_meth {M : Model} {a fa : Addr} {self : Value} {of : Obj} {fd : FuncData} {Q : Bool → Shared → Prop} (ho : s.heap.get? a = some (methodObj (.ref fa) self)) (hf : s.heap.get? fa = some of) (hd : of.data = .func fd) (h : Q true s) : wpAny M A (borrowsExactly (.ref a)) Q E s := by
  unfold borrowsExactly
  dsimp only
  refine wpAny_bind (wpAny_load ho ?_)
  dsimp only [methodObj]
  simp only [if_true, beq_self_eq_true]
  refine wpAny_bind (wpAny_load hf ?_)
  rw [hd]
  exact wpAny_pure h

theorem cit_stop {α : Type} {P : α → Shared → Prop} {Q : Option Value → Shared → Prop} (hh : A.handled = none)
    (hQ : ∀ h', (∀ b o, s.heap.get? b = some o → h'.get? b = some o) → s.heap.objs.size ≤ h'.objs.size → Q none { s with heap := h' }) :
    wpAny (model prog w) A.in1 (Builtin.SmallTypes.stopIteration : Sem α) P
      (fun e s' => wpAny (model prog w) A (do if ← isInstance e (.type "StopIteration") then pure none else throw e) Q E s') s := by
  show wpAny _ _ (newExc (.type "StopIteration") [] >>= _) _ _ _
  refine wpAny_bind ?_
  simp only [newExc, newTuple]
  refine wpAny_bind (wpAny_newObj_type ?_ (by size_fits))
  refine wpAny_bind (m := firstArgMember _ _) (wpAny_of_eq (a := Value.none) (by first | rfl | (simp only [firstArgMember]; rfl)) ?_)
  refine wpAny_newObj_type ?_ (by size_fits)
  simp only [raiseNew]
  refine wpAny_bind (wpAny_handled ?_)
  rw [show A.in1.handled = none from hh]
  refine wpAny_bind (wpAny_pure (wpAny_throw ?_))
  refine wpAny_bind (wpAny_isInstance (T := "StopIteration") (b := true) ⟨_, Heap.get?_push_size _ rfl, rfl⟩ isSubtype_stop ?_)
  exact wpAny_pure (hQ _ (fun b o e => Heap.get?_push_of_some _ (Heap.get?_push_of_some _ e)) (by simp only [Heap.size_push]; omega))
theorem cit_next {I b fa : Addr} {self : Value} {e : Str} {t : Tok} {of : Obj} {fd : FuncData} {Q : Option Value → Shared → Prop} (hI : s.heap.get? I = some (citObj b e t))
    (hb : s.heap.get? b = some (methodObj (.ref fa) self)) (hf : s.heap.get? fa = some of) (hd : of.data = .func fd) (hh : A.handled = none)
    (hc : codeAny (model prog w) A.in1 (.call (.ref b) ⟨[], []⟩) (fun r s' => ∃ c tk, r = .ok (.ret (.str c tk)) ∧ s'.heap.get? I = some (citObj b e t) ∧ s'.heap.get? b = some (methodObj (.ref fa) self) ∧ s'.heap.get? fa = some of ∧
      (c ≠ e → Q (some (.str c tk)) s') ∧
      (c = e → ∀ h', h'.get? I = some citEnd → (∀ a o, a ≠ I → s'.heap.get? a = some o → h'.get? a = some o) → s'.heap.objs.size ≤ h'.objs.size → Q none { s' with heap := h' })) s) :
    wpAny (model prog w) A (pyNext (.ref I)) Q E s := by
  unfold pyNext
  have hT : s.TypeIs (.ref I) "callable_iterator" := ⟨_, hI, rfl⟩
  refine wpAny_bind (wpAny_attempt (wpAny_callSpecial?_slot (name := Str.ofString "__next__") hT slotCN (wpAny_call_entry slotCN hT entryCN ?_ (argsCN _))))
  show wpAny _ _ (field (.ref I) 2 >>= _) _ _ s
  refine wpAny_bind (wpAny_field hI rfl (x := .bool false) rfl ?_)
  rw [if_neg (by decide)]
  show wpAny _ _ (field (.ref I) 0 >>= _) _ _ s
  refine wpAny_bind (wpAny_field hI rfl (x := .ref b) rfl ?_)
  refine wpAny_bind (wpAny_attempt ?_)
  unfold callOutOfASlot
  refine wpAny_bind (borrows_meth hb hf hd ?_)
  rw [if_pos rfl]
  refine callBorrowed_any (codeAny_mono hc fun r s' h => ?_)
  obtain ⟨c, tk, rfl, hI', hb', hf', h1, h2⟩ := h
  dsimp only
  refine wpAny_bind (wpAny_field hI' rfl (x := .bool false) rfl ?_)
  rw [if_neg (by decide)]
  refine wpAny_bind (wpAny_field hI' rfl (x := .str e t) rfl ?_)
  refine wpAny_bind (wpAny_holding (wpAny_eqBool_str ?_))
  by_cases hce : c = e
  · have e1 : decide (e = c) = true := decide_eq_true hce.symm
    rw [e1, if_neg (by decide)]
    refine wpAny_bind (wpAny_rule (wpAny_bind ?_))
    show wpAny _ _ (do slotLetsGo "callable_iterator.__next__" (← field (.ref I) 0) _; setField (.ref I) 0 .none; setField (.ref I) 1 .none; setField (.ref I) 2 (.bool true)) _ _ _
    refine wpAny_bind (wpAny_field hI' rfl (x := .ref b) rfl (wpAny_bind ?_))
    unfold slotLetsGo
    dsimp only
    refine wpAny_bind (borrows_meth hb' hf' hd ?_)
    rw [if_pos rfl]
    refine wpAny_pure ?_
    refine wpAny_bind (wpAny_setField_rec hI' (by simp) fun g1 k1 m1 => ?_)
    refine wpAny_bind (wpAny_setField_rec k1 (by simp) fun g2 k2 m2 => ?_)
    refine wpAny_setField_rec k2 (by simp) fun g3 k3 m3 => ?_
    refine cit_stop hh fun h' hk hz => ?_
    have hk' : ∀ (a : Addr) (o : Obj), a ≠ I → s'.heap.get? a = some o → h'.get? a = some o := fun a o na ea =>
      hk _ _ ((m3.2 a na).trans ((m2.2 a na).trans ((m1.2 a na).trans ea)))
    exact h2 hce h' (hk _ _ k3) hk' (by have := m1.1; have := m2.1; have := m3.1; dsimp only at *; omega)
  · have e1 : decide (e = c) = false := decide_eq_false fun q => hce q.symm
    rw [e1]
    rw [if_pos (by decide)]
    exact wpAny_pure ⟨_, rfl, wpAny_pure (h1 hce)⟩

theorem cit_ended {I : Addr} {Q : Option Value → Shared → Prop} (hI : s.heap.get? I = some citEnd) (hh : A.handled = none)
    (hQ : ∀ h', (∀ b o, s.heap.get? b = some o → h'.get? b = some o) → s.heap.objs.size ≤ h'.objs.size → Q none { s with heap := h' }) :
    wpAny (model prog w) A (pyNext (.ref I)) Q E s := by
  unfold pyNext
  have hT : s.TypeIs (.ref I) "callable_iterator" := ⟨_, hI, rfl⟩
  refine wpAny_bind (wpAny_attempt (wpAny_callSpecial?_slot (name := Str.ofString "__next__") hT slotCN (wpAny_call_entry slotCN hT entryCN ?_ (argsCN _))))
  show wpAny _ _ (field (.ref I) 2 >>= _) _ _ s
  refine wpAny_bind (wpAny_field hI rfl (x := .bool true) rfl ?_)
  rw [if_pos (by decide)]
  refine wpAny_bind (wpAny_rule ?_)
  exact wpAny_bind (cit_stop hh hQ)
theorem cit_self {I : Addr} {o : Obj} {Q : Value → Shared → Prop} (hI : s.heap.get? I = some o) (hc : o.cls = .type "callable_iterator") (h : Q (.ref I) s) :
    wpAny (model prog w) A (pyIter (.ref I)) Q E s := by
  have hT : s.TypeIs (.ref I) "callable_iterator" := ⟨_, hI, hc⟩
  refine wpAny_pyIter_slot hT slotCI (wpAny_call_entry slotCI hT entryCI ?_ (argsCI _))
  show wpAny _ _ (ret (.ref I)) _ _ s
  exact wpAny_pure ⟨_, rfl, "callable_iterator", _, hT, slotCN.lookup, h⟩
theorem kind_iter : builtinKind "iter" = none := by decide +kernel
theorem plain_iter : plainId "iter" = true := by decide +kernel
theorem args_iter2 (a b : Value) : argsOk "iter" ⟨[a, b], []⟩ := by unfold argsOk; kernel_rfl
theorem call_iter2 {b : Addr} {fa : Value} {self : Value} {e : Str} {t : Tok} {Q : Value → Shared → Prop} (hb : s.heap.get? b = some (methodObj fa self))
    (h : Q (.ref s.heap.objs.size) { s with heap := s.heap.push (citObj b e t) }) : wpAny (model prog w) A (call (.builtin "iter") [.ref b, .str e t]) Q E s := by
  refine call_function_entry kind_iter plain_iter kdk_entry_iter (args_iter2 _ _) ?_
  have hT : s.TypeIs (.ref b) "method" := ⟨_, hb, rfl⟩
  unfold Builtin.«iter»
  refine wpAny_bind (wpAny_of_eq (a := [Value.ref b, Value.str e t]) rfl ?_)
  dsimp only
  refine wpAny_bind (wpAny_specialOf hT (r := some (.builtin "method.__call__")) (by rw [typeLookup_type, builtinLookup_eq_fast]; kernel_rfl) ?_)
  rw [if_neg (by decide)]
  refine wpAny_bind (wpAny_rule (wpAny_bind ?_))
  exact wpAny_newObj_type (wpAny_pure ⟨_, rfl, h⟩) (by size_fits)
end
end Mine

namespace Mine
open PySem.Calls
/-- over the ground g stands the heap h, and own are the objects that may turn -/
structure GS (g h : Heap) (own : List (Addr × Obj)) : Prop where
  stays : g.StaysIn h
  size : g.objs.size ≤ h.objs.size
  news : ∀ p ∈ own, h.get? p.1 = some p.2 ∧ g.get? p.1 = none
noncomputable def LeaveG (g : Heap) (R : Result → Shared → Prop) (v : Value) (s' : Shared) : Prop :=
  ∃ L' m' own', Fr g L' s'.heap m' ∧ News g L' s'.heap own' ∧ (GS g s'.heap own' → R (.ok (.ret v)) s')
theorem leaveG_ {g : Heap} {L' : Addr} {m' : Str → Option Value} {own' : List (Addr × Obj)} {R : Result → Shared → Prop} {v : Value} {s' : Shared} (F' : Fr g L' s'.heap m') (N' : News g L' s'.heap own')
    (k : GS g s'.heap own' → R (.ok (.ret v)) s') : LeaveG g R v s' := ⟨L', m', own', F', N', k⟩
theorem GS.leave {g : Heap} {R : Result → Shared → Prop} {v : Value} {s' : Shared} (h : LeaveG g R v s') : R (.ok (.ret v)) s' := by
  obtain ⟨L', m', own', F', N', k⟩ := h
  exact k ⟨F'.keep, Nat.le_trans F'.above (Nat.le_of_lt F'.ns.lt), fun p hp => ⟨(N' p hp).1, (N' p hp).2.2⟩⟩
theorem GS.sub {g h : Heap} {own own' : List (Addr × Obj)} (G : GS g h own) (hs : ∀ p ∈ own', p ∈ own) : GS g h own' := ⟨G.stays, G.size, fun p hp => G.news p (hs p hp)⟩
theorem Below.in1 {A : Around} {base g : Heap} {fr : List Env} (B : Below A base fr g) : Below A.in1 base fr g := ⟨B.stack, B.stays, B.frames⟩
section
variable {prog : Program} {w : World} {A₀ A : Around} {s : Shared} {base g h₀ : Heap} {fr outer : List Env} {own rest news : List (Addr × Obj)} {K : Frag} {p : Program} {loose : List Str} {mean : ExcName → Option Value} {m mg mb : Str → Option Value} {L : Addr} {env : Env}
  {R : Result → Shared → Prop} {name qual : Str} {params : Arguments} {body : List Stmt} {scope : Scope} {dV kV doc pm cdv ct oc : Value} {an od : Option Addr} {osl : Array (Option Value)} {f : Addr} {args : Args} {binds : List (Str × Value)}
theorem defG (B : Below A base fr g) (X : K.In g) (G : GS g s.heap own) (T : Top p loose mean mg mb g)
    (ho : K.lookup f = some ⟨oc, od, .func (fnOf name qual params body scope dV kV doc pm an cdv ct), osl⟩) (hcd : codeIn K cdv qual = true) (hroom : A.depth < recursionLimit)
    (hbind : BindsTo s (fnOf name qual params body scope dV kV doc pm an cdv ct) args binds) (hloc : ∀ y ∈ binds, scope.names.lookup y.1 = some .local)
    (h : ∀ L' h₁, Fr g L' h₁ (fun y => binds.reverse.lookup y) → News g L' h₁ own → (∀ p ∈ own, p.1 < L') →
      wpAny (model prog w) (A.deeper (envOf qual scope L' f cdv)) (execs body (envOf qual scope L' f cdv))
        (fun fl s' => LeaveG g R (match fl with | .ret v => v | _ => .none) s')
        (fun e s' => wpAny (model prog w) (A.deeper (envOf qual scope L' f cdv)) (leaving (envOf qual scope L' f cdv) e) (fun _ s'' => R (.error e) s'') (fun e' s'' => R (.error e') s'') s')
        { s with heap := h₁, toks := s.toks + binds.length })
    (hco : scope.isCoroutine = false) (hgen : scope.isGenerator = false) (hk : scope.kind = .function)
    (hcell : ∀ x ∈ scope.names, x.2 ≠ .cell) : codeAny (model prog w) A (.call (.ref f) args) R s := by
  have Xs := X.keeps G.stays
  refine codeAny_call_def (fd := fnOf name qual params body scope dV kV doc pm an cdv ct) (body := body) (binds := binds) hroom (Xs _ _ ho) rfl (T.nolimit.keeps G.stays) (codeRec_of Xs hcd) rfl hbind hcell hloc (fun h₁ hns hk₁ => ?_) hco hgen hk
  exact wpAny_mono (h s.heap.objs.size h₁ ⟨hns, fun b o e => hk₁ b o (G.stays b o e), G.size⟩ (fun p hp => ⟨hk₁ _ _ (G.news p hp).1, Nat.ne_of_lt (Heap.lt_size (G.news p hp).1), (G.news p hp).2⟩) fun p hp => Heap.lt_size (G.news p hp).1)
    (fun fl s' hl => GS.leave hl) fun _ _ y => y
theorem defGC (B : Below A base fr g) (X : K.In g) (G : GS g s.heap own) (T : Top p loose mean mg mb g)
    (ho : K.lookup f = some ⟨oc, od, .func (fnOf name qual params body scope dV kV doc pm an cdv ct), osl⟩) (hcd : codeIn K cdv qual = true) (hroom : A.depth < recursionLimit)
    (hbind : BindsTo s (fnOf name qual params body scope dV kV doc pm an cdv ct) args binds) (hkind : (binds.all fun y => scope.names.lookup y.1 == some .local || scope.names.lookup y.1 == some .cell) = true)
    (hnd : ((cellsFrom 0 scope.names []).map (·.1)).Nodup)
    (h : ∀ L' h₁ tk cells, Fr g L' h₁ (bindL (envOfC qual scope L' f cdv).kindOf binds fun _ => none) → News g L' h₁ (cells ++ own) →
      CellsAre (bindC (envOfC qual scope L' f cdv).kindOf binds fun _ => none) (cellsFrom (L' + 1) scope.names []) cells → (∀ p ∈ own, p.1 < L') →
      wpAny (model prog w) (A.deeper (envOfC qual scope L' f cdv)) (execs body (envOfC qual scope L' f cdv))
        (fun fl s' => LeaveG g R (match fl with | .ret v => v | _ => .none) s')
        (fun e s' => wpAny (model prog w) (A.deeper (envOfC qual scope L' f cdv)) (leaving (envOfC qual scope L' f cdv) e) (fun _ s'' => R (.error e) s'') (fun e' s'' => R (.error e') s'') s')
        { s with heap := h₁, toks := tk })
    (hco : scope.isCoroutine = false) (hgen : scope.isGenerator = false) (hk : scope.kind = .function) : codeAny (model prog w) A (.call (.ref f) args) R s := by
  have Xs := X.keeps G.stays
  refine codeAny_call_function (fd := fnOf name qual params body scope dV kV doc pm an cdv ct) hroom (Xs _ _ ho) rfl hco hgen rfl (codeRec_of Xs hcd) (hbind _ _ _ _ ?_)
  refine wpAny_newFunctionEnv_cells hk (kindsX hkind _) fun env' he s' x => ?_
  subst he
  refine ⟨(T.nolimit.keeps G.stays).keeps x.toInCall.keep, codeAny_func ?_⟩
  obtain ⟨h₁, tk, rfl, _⟩ := x.done
  have hk₁ := x.toInCall.keep
  obtain ⟨cells, NC, Y⟩ := Cl.news (h₀ := s.heap) (Nat.le_refl _) fun n c hm => ⟨x.cell n c (lookup_of_mem_nodup (cellsFrom_names scope.names 0 (s.heap.objs.size + 1) [] [] rfl ▸ hnd) hm), x.above n c hm⟩
  refine wpAny_mono (h s.heap.objs.size h₁ tk cells ⟨x.toInCall.ns, fun b o e => hk₁ b o (G.stays b o e), G.size⟩ (fun p hp => ?_) Y (fun p hp => Heap.lt_size (G.news p hp).1)) (fun fl s' hl => GS.leave hl) fun _ _ y => y
  rcases List.mem_append.mp hp with hp | hp
  · refine ⟨(NC p hp).1, (NC p hp).2.1, ?_⟩
    cases q : g.get? p.1 with
    | none => rfl
    | some o => have := G.stays _ _ q; rw [(NC p hp).2.2] at this; cases this
  · exact ⟨hk₁ _ _ (G.news p hp).1, Nat.ne_of_lt (Heap.lt_size (G.news p hp).1), (G.news p hp).2⟩
/-- from a frame's own view to the ground that a called def gets: own may turn, the rest lies still -/
theorem GS.of (B : Below A₀ base outer h₀) (F : Fr h₀ L s.heap m) (X : K.In h₀) (N : News h₀ L s.heap news) (T : Top p loose mean mg mb h₀) (hA : A.frames = some (env :: outer)) (hf : env.frame = some L) (hke : env.scope.kind = .function)
    (h1 : ∀ p ∈ own, p ∈ news) (h2 : ∀ p ∈ rest, p ∈ news) (hd : ∀ p ∈ rest, ∀ q ∈ own, p.1 ≠ q.1) :
    ∃ g, Below A base (env :: outer) g ∧ K.In g ∧ Top p loose mean mg mb g ∧ GS g s.heap own ∧ ∀ h' own', GS g h' own' → Fr h₀ L h' m ∧ News h₀ L h' (own' ++ rest) := by
  have No : News h₀ L s.heap own := fun p hp => N p (h1 p hp)
  have nm : ∀ b o, h₀.get? b = some o → b ∉ own.map (·.1) := fun b o e q => by
    obtain ⟨p, hp, rfl⟩ := List.mem_map.mp q
    rw [(No p hp).2.2] at e; cases e
  have st : h₀.StaysIn (hideAll s.heap (own.map (·.1))) := fun b o e => hideAll_get _ (F.keep b o e) (nm b o e)
  obtain ⟨oL, es, ep, hL, hLd, hLk, hLf⟩ := F.ns
  have nL : L ∉ own.map (·.1) := fun q => by
    obtain ⟨p, hp, e⟩ := List.mem_map.mp q
    exact (No p hp).2.1 e
  have hLg := hideAll_get (own.map (·.1)) hL nL
  have B₁ := pushX B F hf hke
  have XK := X.keeps st
  have TK := T.keeps st
  refine ⟨hideAll s.heap (own.map (·.1)), ⟨hA, fun b o e => st b o (B.stays b o e), funFrames_hideAll B₁.frames fun env' he b hb hf' => ?_⟩, XK, TK,
    ⟨fun b o e => of_hideAll _ e, Nat.le_of_eq (hideAll_size _ _), fun p hp => ⟨(No p hp).1, hideAll_none _ (List.mem_map_of_mem hp)⟩⟩, fun h' own' G => ⟨⟨⟨oL, es, ep, G.stays L oL hLg, hLd, hLk, hLf⟩, fun b o e => G.stays b o (st b o e), F.above⟩, fun p hp => ?_⟩⟩
  · cases he with
    | head => exact nL ((Option.some.inj (hf.symm.trans hf') : L = b) ▸ hb)
    | tail _ he =>
      obtain ⟨L₁, o₁, hf₁, ho₁⟩ := funFrames_in B.frames env' he
      rw [hf₁] at hf'
      exact nm L₁ o₁ ho₁ ((Option.some.inj hf' : L₁ = b) ▸ hb)
  · rcases List.mem_append.mp hp with hp | hp
    · refine ⟨(G.news p hp).1, fun q => ?_, ?_⟩
      · have := (G.news p hp).2; rw [q, hLg] at this; cases this
      · cases q : h₀.get? p.1 with
        | none => rfl
        | some o => have := (G.news p hp).2; rw [st _ _ q] at this; cases this
    · have n := N p (h2 p hp)
      have hr := hideAll_get (own.map (·.1)) n.1 fun q => by
        obtain ⟨q', hq, e⟩ := List.mem_map.mp q
        exact hd p hp q' hq e.symm
      exact ⟨G.stays _ _ hr, n.2⟩
end
theorem lex_of {w : World} {g h' : Heap} {x2 d2 pb f c' x1 d1 gg c l1 P : Addr} {oc oC o1 oP : Obj} {qual : Str} {pm ct : Value} {a0 a1 a2 a3 a4 a5 a6 a7 a8 a9 a10 a11 u : Tok} {vs : List Value} {gn : Nat}
    (N : GS g h' [(pb, W.listOf #[] 0), (x2, instObj 83 d2),
      (d2, dictOf [ky w "lineno" a0 (.int 1 u), ky w "instream" a1 (.ref x1), ky w "whitespace" a2 (.str (Str.ofString "\n\t\x0d ") a3), ky w "pushback" a4 (.ref pb)] 4),
      (f, kla_obj (Str.ofString "<lambda>") qual lamP lamB lamS [(Str.ofString "signs", c)] pm c' ct), (c', oc), (l1, o1), (x1, instObj 83 d1),
      (d1, dictOf [ky w "lineno" a5 (.int 1 a6), ky w "instream" a7 .none, ky w "whitespace" a8 (.str (Str.ofString "\n\t\x0d ") a9), ky w "pushback" a10 (.ref l1), ky w "read" a11 (.ref f)] 5),
      (gg, W.listOf vs.reverse.toArray gn), (c, oC), (P, oP)]) :
    GS g h' (lexNews w ⟨x2, d2, pb, f, c', x1, d1, gg, c, .ref l1, oc, oC, qual, pm, ct, tokF a0 a1 a2 a3 a4 a5 a6 a7 a8 a9 a10 a11⟩ 1 u [] 0 vs gn) := by
  refine N.sub fun p hp => ?_
  simp only [lexNews, List.mem_cons, List.not_mem_nil, or_false] at hp ⊢
  rcases hp with h | h | h | h | h | h | h | h | h
  · exact .inl h
  · exact .inr (.inl h)
  · exact .inr (.inr (.inl h))
  · exact .inr (.inr (.inr (.inl h)))
  · exact .inr (.inr (.inr (.inr (.inl h))))
  · exact .inr (.inr (.inr (.inr (.inr (.inr (.inl h))))))
  · exact .inr (.inr (.inr (.inr (.inr (.inr (.inr (.inl h)))))))
  · exact .inr (.inr (.inr (.inr (.inr (.inr (.inr (.inr (.inl h))))))))
  · exact .inr (.inr (.inr (.inr (.inr (.inr (.inr (.inr (.inr (.inl h)))))))))
end Mine

namespace Mine
open PySem.Calls
section
variable {prog : Program} {w : World} {A : Around} {E : Value → Shared → Prop} {s : Shared} {env : Env}
/-- a for over what is its own iterator: some number of turns is enough -/
noncomputable def FiAt (prog : Program) (w : World) (A : Around) (E : Value → Shared → Prop) (env : Env) (v : Str) (body : List Stmt) (Q : Flow → Shared → Prop) (it : Value) (s₂ : Shared) : Prop :=
  ∃ I n, it = .ref I ∧ OwitRest prog w A E env v body Q I n s₂
theorem fi_for {v : Str} {px pos : Pos} {iter : Expr} {body : List Stmt} {Q : Flow → Shared → Prop}
    (h : wpAny (model prog w) A (eval iter env) (fun xv s₁ => wpAny (model prog w) A (pyIter xv) (FiAt prog w A E env v body Q) E s₁) E s)
    (hs : ∀ x, foldedSetIterable iter env x = pure x := by intro _; rfl) (hE : PassesOwn (model prog w) A env E := by passes_own) :
    wpAny (model prog w) A (exec (.For (.Name v px) iter body [] pos) env) Q E s := by
  refine wpAny_For (wpAny_mono h (fun xv s₁ h₁ => wpAny_mono h₁ (fun it s₂ h₂ => ?_) fun _ _ z => z) fun _ _ z => z) hs
  obtain ⟨I, n, rfl, h₂⟩ := h₂
  refine codeAny_forLoop (R := fun r s' => match r with | .ok f => Q f s' | .error e => cameBackBy (model prog w) A env E e s') (fun k s' => OwitRest prog w A E env v body Q I k s') ?_ n h₂
  intro k s' hk
  cases k with
  | zero => exact hk.elim
  | succ k =>
    refine wpAny_passesOwn hE (wpAny_mono (hk : wpAny (model prog w) A (pyNext (.ref I)) _ E s') (fun r s₁ hr => ?_) fun _ _ z => z)
    cases r with
    | none => exact wpAny_execs_nil hr
    | some y =>
      refine wpAny_passesOwn hE (wpAny_assign_Name (wpAny_mono hr (fun _ s₂ h₂ => ?_) fun _ _ z => z))
      refine wpAny_passesOwn hE (wpAny_mono h₂ (fun f s₃ h₃ => ?_) fun _ _ z => z)
      cases f with
      | next => exact ⟨k, Nat.lt_succ_self k, h₃⟩
      | cont => exact ⟨k, Nat.lt_succ_self k, h₃⟩
      | brk => exact h₃
      | ret _ => exact h₃
theorem fi_inv {v : Str} {body : List Stmt} {Q : Flow → Shared → Prop} {I : Addr} (P : Nat → Shared → Prop)
    (turn : ∀ k s, P k s → ∃ j, k = j + 1 ∧ wpAny (model prog w) A (pyNext (.ref I)) (OwitTurn prog w A E env v body Q (P j)) E s) :
    ∀ n s, P n s → OwitRest prog w A E env v body Q I n s := by
  intro n
  induction n with
  | zero => intro s h; obtain ⟨j, e, _⟩ := turn _ _ h; cases e
  | succ n ih =>
    intro s h
    obtain ⟨j, e, hw⟩ := turn _ _ h
    have ej : j = n := by omega
    subst ej
    refine wpAny_mono hw (fun r s₁ hr => ?_) fun _ _ z => z
    cases r with
    | none => exact hr
    | some y =>
      refine wpAny_mono hr (fun _ s₂ h₂ => wpAny_mono h₂ (fun f s₃ h₃ => ?_) fun _ _ z => z) fun _ _ z => z
      cases f with
      | next => exact ih _ h₃
      | cont => exact ih _ h₃
      | brk => exact h₃
      | ret _ => exact h₃
theorem fi_at {v : Str} {body : List Stmt} {Q : Flow → Shared → Prop} {I : Addr} (n : Nat) (P : Nat → Shared → Prop) (h0 : P n s)
    (turn : ∀ k s, P k s → ∃ j, k = j + 1 ∧ wpAny (model prog w) A (pyNext (.ref I)) (OwitTurn prog w A E env v body Q (P j)) E s) :
    FiAt prog w A E env v body Q (.ref I) s := ⟨I, n, rfl, fi_inv P turn n s h0⟩
end
theorem Fr.expose {h₀ h : Heap} {L : Addr} {m : Str → Option Value} (ps : List (Str × Value)) (F : Fr h₀ L h m) (hp : ∀ p ∈ ps, m p.1 = some p.2) : Fr h₀ L h (kstB m ps) := by
  have e : kstB m ps = m := by funext z; exact kstB_eq hp fun _ => rfl
  rw [e]; exact F
section
variable {prog : Program} {w : World} {A : Around} {E : Value → Shared → Prop} {s : Shared} {h₀ : Heap} {L : Addr} {m : Str → Option Value} {news : List (Addr × Obj)}
theorem iter2_K {b : Addr} {fa self : Value} {e : Str} {t : Tok} {Q : Value → Shared → Prop} (F : Fr h₀ L s.heap m) (N : News h₀ L s.heap news) (hb : (b, methodObj fa self) ∈ news)
    (h : ∀ I h', Fr h₀ L h' m → News h₀ L h' ((I, citObj b e t) :: news) → (∀ q ∈ news, q.1 < I) → Q (.ref I) { s with heap := h' }) : wpAny (model prog w) A (call (.builtin "iter") [.ref b, .str e t]) Q E s :=
  call_iter2 (N.get hb) (h _ _ (F.push _) (News.push F N _ rfl) fun q hq => Heap.lt_size (N q hq).1)
end
end Mine

namespace Mine
theorem hilb {α : Type} (P : α → Prop) (Z : α) {i : Nonempty α} (e : Z = @Classical.epsilon α i fun z => ¬ P z) (h : P Z) : ∀ z, P z := fun z => Classical.byContradiction fun hz => by
  have h2 := @Classical.epsilon_spec_aux α i (fun z => ¬ P z) ⟨z, hz⟩
  rw [← e] at h2
  exact h2 h
noncomputable def w00 : World := ⟨fun _ _ => 0, { strHash := fun _ => 0, shareClass := fun _ => 0, mergeTok := fun t => t, idOf := fun _ => 0, idOfShared := fun _ _ => 0, followText := fun _ => false, idOfImm := fun _ => 0 }⟩
noncomputable def A00 : Around := ⟨none, 0, none, none, 0⟩
noncomputable def s00 : Shared := ⟨default, #[], {}, 0, {}⟩
noncomputable def lex00 : LexP := ⟨0, 0, 0, 0, 0, 0, 0, 0, 0, .none, default, default, default, .none, .none, fun _ => 0⟩
noncomputable def par00 : Par := ⟨fun _ => 0, fun _ => 0, fun _ => [], fun _ => false, fun _ => false⟩
end Mine

namespace Mine
/-- the walk stands still here: a step by hand follows -/
noncomputable def Stop (p : Prop) : Prop := p
theorem stop_in {p : Prop} (h : Stop p) : p := h
theorem in2 {α : Type} {a b : α} {l : List α} : ∀ p ∈ l, p ∈ a :: b :: l := fun p hp => List.mem_cons_of_mem _ (List.mem_cons_of_mem _ hp)
theorem in3 {α : Type} {a b c : α} {l : List α} : ∀ p ∈ l, p ∈ a :: b :: c :: l := fun p hp => List.mem_cons_of_mem _ (List.mem_cons_of_mem _ (List.mem_cons_of_mem _ hp))
theorem in4 {α : Type} {a b c d : α} {l : List α} : ∀ p ∈ l, p ∈ a :: b :: c :: d :: l := fun p hp => List.mem_cons_of_mem _ (in3 p hp)
theorem in_mid {α : Type} (x : List α) {a b c : α} {l : List α} : ∀ p ∈ x ++ l, p ∈ x ++ a :: b :: c :: l := fun p hp => (List.mem_append.mp hp).elim (List.mem_append_left _) fun h => List.mem_append_right _ (in3 p h)
end Mine
namespace Mine
theorem row1 : True := by
  k_with "eval Name" => (k_here; k_dflt (refine' nameX_L ?Fr1 ?vr1 ?_ ?ar1 ?br1; (case ar1 => rfl); (case Fr1 => k_asm); (case br1 => rfl); (case vr1 => rfl); k_whole))
  trivial
end Mine
namespace Mine
theorem row2 : True := by
  k_with "storeName" => (k_here; k_dflt (refine' storeX_L ?Fr2 ?Nr2 ?_ ?ar2 ?br2; (case ar2 => rfl); (case br2 => rfl); (case Fr2 => k_asm); (case Nr2 => k_asm); k_whole; ((first | tm_at "clo1" | refine fun h'q9 => ?_); refine fun F'q9 => ?_; refine fun N'q9 => ?_); (try k_sweep)))
  trivial
end Mine
namespace Mine
theorem row3 : True := by
  k_with "callWith ref" => (k_here; (with_reducible show wpAny _ _ (callWith _ (Value.ref _) _ (backTo _ (starEach (_ :: _) _)) (backToKw _ (keywordEach (_ :: _) _))) _ _ _); k_dflt (refine' callWith_KW ?k1r3 ?k2r3 ?k3r3 ?_; (case k1r3 => k_asm); (case k2r3 => k_is); (case k3r3 => exact rfl); k_whole))
  trivial
end Mine
namespace Mine
theorem row4 : True := by
  k_with "callWith ref" => (k_here; (with_reducible show wpAny _ _ (callWith _ (Value.ref _) _ (backTo _ (starEach [] _)) []) _ _ _); k_dflt (first
    | (refine' callWith_K0 ?k1r4 ?k2r4 ?_; (case k1r4 => exact Frag.In.keeps (by k_asm) (Fr.keep (by k_asm))); (case k2r4 => k_is); k_whole)
    | (refine' callWith_M0 ?k1r4 ?k2r4 ?_; (case k1r4 => k_meth); (case k2r4 => k_is); k_whole; try dsimp only [List.nil_append, List.cons_append])))
  trivial
end Mine
namespace Mine
theorem row5 : True := by
  k_with "callWith ref" => (k_here; (with_reducible show wpAny _ _ (callWith _ (Value.ref _) _ (backTo _ (starEach (_ :: _) _)) []) _ _ _); k_dflt (first
    | refine' callWith_K ?k1r5 ?k2r5 ?_; (case k1r5 => k_asm); (case k2r5 => k_is); k_whole
    | refine' callWith_M ?k1r5 ?k2r5 ?k3r5 ?k4r5 ?_; (case k1r5 => k_asm); (case k2r5 => k_asm); (case k3r5 => k_mem); (case k4r5 => k_is); k_whole))
  trivial
end Mine
namespace Mine
theorem row6 : True := by
  k_with "getMethod ref" => (k_here; (with_reducible show wpAny _ _ (getMethod (Value.ref _) (Str.ofString "read") _) _ _ _); k_dflt (refine' kmu_own ?k1r6 ?k2r6 ?k3r6 ?k4r6 ?k5r6 ?_; (case k1r6 => k_asm); (case k2r6 => k_asm); (case k3r6 => k_inst); (case k4r6 => k_is); (case k5r6 => k_is); k_whole))
  trivial
end Mine
namespace Mine
theorem row7 : True := by
  k_with "pyIter ref" => (k_here; refine stop_in ?_)
  trivial
end Mine
namespace Mine
theorem row8 : True := by
  k_with "CompEnd" => k_dflt (refine' LCg.CompEnd.intro ?kar8 ?kNr8 _ ?ksr8 ?kor8 ?krr8 ?_; (case kor8 => assumption); (case kar8 => assumption); (case kNr8 => assumption); (case ksr8 => first | exact fun _ hp => hp | exact fun _ hp => List.mem_cons_of_mem _ hp | exact in2 | exact in3); (case krr8 => lcg_src))
  trivial
end Mine
namespace Mine
theorem row9 : True := by
  k_with "callWith" => ((with_reducible show wpAny _ _ (callWith _ (Value.builtin _) (_ :: _) (backTo _ (starEach (_ :: _) _)) []) _ _ _); k_dflt (refine' PyProof.Rows.callWith_method1 ?_ ?her9 ?hpr9; (case her9 => exact rfl); (case hpr9 => exact rfl)))
  trivial
end Mine
namespace Mine
theorem row10 : True := by
  k_with "k_in" => first | k_in_fast | exact Frag.In.keeps (by k_asm) (Fr.keep (by k_asm))
  trivial
end Mine
namespace Mine
/-- a fact about addresses that the arithmetic does not see -/
structure Hid (p : Prop) : Prop where
  out : p
theorem hid_in {p : Prop} (h : p) : Hid p := ⟨h⟩
theorem allLt_mem {d : Addr} : ∀ {l : List (Addr × Obj)}, AllLt d l → ∀ p ∈ l, @LT.lt Nat _ p.1 d
  | [], _, _, h => nomatch h
  | _ :: _, x, p, h => by
    rcases List.mem_cons.mp h with rfl | h
    · exact x.1
    · exact allLt_mem x.2 p h
theorem hal {a d : Nat} {o : Obj} {l : List (Addr × Obj)} (h : Hid (AllLt d l)) (hm : (a, o) ∈ l) : @Ne Nat a d := Nat.ne_of_lt (allLt_mem h.out _ hm)
theorem hlt2 {a d : Nat} {o : Obj} {l : List (Addr × Obj)} (h : Hid (AllLt d l)) (hm : (a, o) ∈ l) : @LT.lt Nat _ a d := allLt_mem h.out _ hm
theorem rm1 {d a x L : Nat} (h : d + a < L) (e : x ≤ a) : d + x < L := Nat.lt_of_le_of_lt (Nat.add_le_add_left e d) h
theorem rm2 {d a x y L : Nat} (h : d + a < L) (e : x + y ≤ a) : d + x + y < L := by rw [Nat.add_assoc]; exact rm1 h e
theorem rm3 {d a x y z L : Nat} (h : d + a < L) (e : x + (y + z) ≤ a) : d + x + y + z < L := by rw [Nat.add_assoc]; exact rm2 h e
theorem rm4 {d a x y z v L : Nat} (h : d + a < L) (e : x + (y + (z + v)) ≤ a) : d + x + y + z + v < L := by rw [Nat.add_assoc]; exact rm3 h e
theorem ex_sub {n c : Nat} (h : c < n) : ∃ r, n - c = r + 1 := ⟨n - c - 1, (Nat.sub_add_cancel (Nat.sub_pos_of_lt h)).symm⟩
theorem ar_sub {n i r : Nat} (h : n - i = r + 1) : n - (i + 1) = r := by rw [Nat.sub_add_eq, h]; rfl
theorem ar_add {n i j : Nat} (h : i + (j + 1) = n) : i + 1 + j = n := by omega
theorem ar_pre {n i : Nat} (h : i < n + 1) : n + 1 - i = n - i + 1 := Nat.succ_sub (Nat.le_of_lt_succ h)
theorem ar_k {n i k : Nat} (h : i + k = n + 1) (h2 : i ≤ n) : k = k - 1 + 1 := by
  cases k with
  | zero => exact absurd h2 (by rw [show i = n + 1 from h]; exact Nat.not_succ_le_self n)
  | succ k => rfl
theorem ar_eq {n i : Nat} (h : ¬ i < n) (h2 : i ≤ n) : i = n := by omega
theorem hlt {a d : Nat} (h : Hid (@LT.lt Nat _ a d)) : @Ne Nat a d := Nat.ne_of_lt h.out
theorem allLt_3 {a : Addr} {p q r : Addr × Obj} {l : List (Addr × Obj)} (h : Hid (AllLt a (p :: q :: r :: l))) : AllLt a l := h.out.2.2.2
end Mine
local macro_rules | `(tactic| k_lt $h) => `(tactic| (replace $h := allLt_of $h; (try simp only [List.append_eq, List.nil_append, List.cons_append] at $h:ident); replace $h := hid_in $h))
local macro_rules | `(tactic| k_lt2 $h) => `(tactic| (replace $h := ltN $h; replace $h := hid_in $h))
namespace Mine
theorem row11 : True := by
  k_with "omega" => first | with_reducible assumption | (with_reducible refine And.intro ?_ ?_; all_goals omega) | exact hlt2 (by with_reducible assumption) (by k_mem) | exact hal (by with_reducible assumption) (by k_mem) | exact Ne.symm (hal (by with_reducible assumption) (by k_mem)) | ((first | (with_reducible show _ < PySem.recursionLimit) | (with_reducible show _ < PySem.cLine)); first | exact rm1 (by with_reducible assumption) (Nat.le_of_ble_eq_true rfl) | exact rm2 (by with_reducible assumption) (Nat.le_of_ble_eq_true rfl) | exact rm3 (by with_reducible assumption) (Nat.le_of_ble_eq_true rfl) | exact rm4 (by with_reducible assumption) (Nat.le_of_ble_eq_true rfl)) | exact Nat.succ_le_of_lt (by with_reducible assumption) | exact ar_sub (by with_reducible assumption) | exact ar_add (by with_reducible assumption) | exact ar_pre (by with_reducible assumption) | exact ar_k (by with_reducible assumption) (by with_reducible assumption) | exact ar_eq (by with_reducible assumption) (by with_reducible assumption) | ((try (with_reducible rename (_ + _ < PySem.recursionLimit) => h9q9; clear h9q9)); (try (with_reducible rename (_ + _ < PySem.cLine) => h9q9; clear h9q9)); lia) | (omega (config := {})) | (rename Hid _ => h9q9; have h8q9 := Hid.out h9q9; clear h9q9; (try simp only [AllLt, and_true] at h8q9); (repeat (rename Hid _ => h9q9; have h8q9 := Hid.out h9q9; clear h9q9; (try simp only [AllLt, and_true] at h8q9))); omega (config := {}))
  trivial
end Mine
namespace Mine
theorem row12 : True := by
  k_with "hid_pick" => first | with_reducible assumption | (refine Ne.symm ?_; with_reducible assumption) | exact hal (by with_reducible assumption) (by k_mem) | exact Ne.symm (hal (by with_reducible assumption) (by k_mem)) | exact hlt (by with_reducible assumption) | exact Ne.symm (hlt (by with_reducible assumption)) | fail "no fact"
  trivial
end Mine
namespace Mine
theorem row13 : True := by
  k_with "k_ne" => (refine neN ?_; (try dsimp only); first | k_extra "hid_pick" | omega | fail "k_ne")
  trivial
end Mine

namespace Mine
theorem row14 : True := by
  k_with "k_room" => ((try simp only [depth_under_make, depth_under_kw, depth_in1, depth_deeper, depth_caller] at *); omega)
  trivial
end Mine
namespace Mine
theorem row15 : True := by
  k_with "keq_hits" => first | assumption | exact Around.frames_deeper (Below.stack (by assumption)) | exact fr_deeper (by assumption) | exact fr_under (by assumption) rfl | exact fr_under (fr_deeper (by assumption)) rfl | exact fr_deeper (fr_under (by assumption) rfl) | exact fr_deeper (fr_deeper (by assumption)) | exact rfl
  trivial
end Mine
namespace Mine
theorem row16 : True := by
  k_with "k_enter" => (refine' code_def ?k1r16 ?k2r16 ?k3r16 ?k4r16 ?k5r16 ?kAr16 ?kFr16 ?kKr16 ?k6r16 ?k7r16 ?k8r16 ?k9r16 ?kBr16 ?_ ?c2r16 ?c3r16 ?c4r16 ?c5r16; (case kAr16 => keq_hits); (case kFr16 => first | assumption | exact rfl); (case kKr16 => first | assumption | exact rfl); (case k1r16 => k_asm); (case k2r16 => k_asm); (case k3r16 => k_asm); (case k4r16 => k_asm); (case k5r16 => k_asm); (case k6r16 => k_is); (case k7r16 => k_is); (case k8r16 => k_room); (case k9r16 => first | exact BindsTo.of_eq rfl | exact binds_K (by k_in) rfl (by k_is) rfl rfl rfl | fail "k_enter: no rule for these arguments"); (case c5r16 => decide); (case kBr16 => exact locs rfl); (case c2r16 => exact rfl); (case c3r16 => exact rfl); (case c4r16 => exact rfl); k_whole; ((first | tm_at "clo1" | refine fun g'q9 => ?_); (first | tm_at "clo1" | refine fun L'q9 => ?_); (first | tm_at "clo1" | refine fun h'q9 => ?_); refine fun FG'q9 => ?_; refine fun F'q9 => ?_; refine fun N'q9 => ?_; refine fun B'q9 => ?_; refine fun X'q9 => ?_; refine fun T'q9 => ?_); (try dsimp only); (try k_lift B'q9); (try k_fold))
  trivial
end Mine
namespace Mine
theorem row17 : True := by
  k_with "k_enter" => (refine' code_defC ?k1r17 ?k2r17 ?k3r17 ?k4r17 ?k5r17 ?kAr17 ?kFr17 ?kKr17 ?k6r17 ?k7r17 ?k8r17 ?k9r17 ?kBr17 ?kDr17 ?_ ?c2r17 ?c3r17 ?c4r17; (case kAr17 => keq_hits); (case kFr17 => first | assumption | exact rfl); (case kKr17 => first | assumption | exact rfl); (case k1r17 => k_asm); (case k2r17 => k_asm); (case k3r17 => k_asm); (case k4r17 => k_asm); (case k5r17 => k_asm); (case k6r17 => k_is); (case k7r17 => k_is); (case k8r17 => k_room); (case k9r17 => first | exact BindsTo.of_eq rfl | exact binds_K (by k_in) rfl (by k_is) rfl rfl rfl | fail "k_enter: no rule for these arguments"); (case kBr17 => exact rfl); (case kDr17 => decide +kernel); (case c2r17 => exact rfl); (case c3r17 => exact rfl); (case c4r17 => exact rfl); k_whole; ((first | tm_at "clo1" | refine fun g'q9 => ?_); (first | tm_at "clo1" | refine fun L'q9 => ?_); (first | tm_at "clo1" | refine fun h'q9 => ?_); (first | tm_at "clo1" | refine fun tk'q9 => ?_); refine fun cells'q9 => ?_; refine fun FG'q9 => ?_; refine fun F'q9 => ?_; refine fun N'q9 => ?_; refine fun Y'q9 => ?_; refine fun B'q9 => ?_; refine fun X'q9 => ?_; refine fun T'q9 => ?_; refine fun l1q9 => ?_); (try k_lt l1q9); k_cells Y'q9; (try simp only [List.cons_append, List.nil_append] at N'q9); (try dsimp only); (try k_lift B'q9); (try k_fold))
  trivial
end Mine
namespace Mine
theorem row18 : True := by
  k_with "call type:list" => (k_here; (with_reducible show wpAny _ _ (call (Value.type _) [Value.str _ _]) _ _ _); (with_unfolding_all (refine' listStr_K ?k0r18 ?k1r18 ?k2r18 ?zr18 ?_; (case k0r18 => first | assumption | exact rfl); (case k1r18 => k_asm); (case k2r18 => k_asm); (case zr18 => (first | assumption | (rw [sizeLine_eq]; omega))); k_whole)); ((first | tm_at "clo1" | refine fun D'q9 => ?_); (first | tm_at "clo1" | refine fun vs'q9 => ?_); (first | tm_at "clo1" | refine fun c'q9 => ?_); (first | tm_at "clo1" | refine fun h'q9 => ?_); (first | tm_at "clo1" | refine fun tk'q9 => ?_); refine fun sA'q9 => ?_; refine fun F'q9 => ?_; refine fun N'q9 => ?_; refine fun l1q9 => ?_); (have lnAq9 := StrsAre.length sA'q9; rw [chs_length] at lnAq9); (try k_lt l1q9); (try k_sweep))
  trivial
end Mine
namespace Mine
theorem row19 : True := by
  k_with "kl_room" => first | exact Nat.le_of_ble_eq_true rfl | (rw [sizeLine_eq]; (try simp only [List.size_toArray, List.toList_toArray, List.length_reverse, List.length_append, List.length_cons, List.length_nil]); omega)
  trivial
end Mine
namespace Mine
theorem row20 : True := by
  k_with "call builtin:list.reverse" => (k_here; (with_reducible show wpAny _ _ (call (Value.builtin _) _) _ _ _); k_dflt (refine' kl_reverse ?Fr20 ?Nr20 ?er20 ?Ur20 ?zr20 ?_; (case Fr20 => k_asm); (case Nr20 => k_asm); (case Ur20 => k_upd); (case er20 => exact revArr _); (case zr20 => kl_room)); kl_rest)
  trivial
end Mine
namespace Mine
theorem row21 : True := by
  k_with "kla_enter" => (refine' kla_code ?k1r21 ?k2r21 ?k3r21 ?k4r21 ?k5r21 ?kAr21 ?kFr21 ?kKr21 ?k6r21 ?k7r21 ?k8r21 ?k9r21 ?kBr21 ?_ ?c2r21 ?c3r21 ?c4r21 ?c5r21; (case kAr21 => keq_hits); (case kFr21 => first | assumption | exact rfl); (case kKr21 => first | assumption | exact rfl); (case k1r21 => k_asm); (case k2r21 => k_asm); (case k3r21 => k_asm); (case k4r21 => k_asm); (case k5r21 => k_asm); (case k6r21 => k_mem); (case k7r21 => exact codeRec_news (by k_asm) (by k_mem) (by assumption) (by assumption)); (case k8r21 => k_room); (case k9r21 => exact rfl); (case c5r21 => decide); (case kBr21 => exact locs rfl); (case c2r21 => exact rfl); (case c3r21 => exact rfl); (case c4r21 => exact rfl); k_whole; ((first | tm_at "clo1" | refine fun g'q9 => ?_); (first | tm_at "clo1" | refine fun L'q9 => ?_); (first | tm_at "clo1" | refine fun h'q9 => ?_); refine fun FG'q9 => ?_; refine fun F'q9 => ?_; refine fun N'q9 => ?_; refine fun B'q9 => ?_; refine fun X'q9 => ?_; refine fun T'q9 => ?_); (try dsimp only); (try k_lift B'q9); (try k_fold))
  trivial
end Mine
namespace Mine
theorem row22 : True := by
  k_with "truthy ref" => (k_here; (with_reducible show wpAny _ _ (truthy (Value.ref _)) _ _ _); k_dflt (first | (refine' truthySnoc_K ?Nr22 ?mr22 ?zr22 ?_; (case Nr22 => k_asm); (case mr22 => k_mem); (case zr22 => first | omega | (simp only [List.length_reverse, List.length_append]; omega)); k_whole) | (refine' truthyCons_K ?Nr22 ?mr22 ?zr22 ?_; (case Nr22 => k_asm); (case mr22 => k_mem); (case zr22 => first | omega | (simp only [List.length_reverse, List.length_append]; omega)); k_whole) | (refine' truthyNil_K ?Nr22 ?mr22 ?zr22 ?_; (case Nr22 => k_asm); (case mr22 => k_mem); (case zr22 => exact rfl); k_whole)); ((first | tm_at "clo1" | refine fun tkTq9 => ?_)))
  trivial
end Mine
namespace Mine
theorem row23 : True := by
  k_with "call builtin:list.pop" => (k_here; (with_reducible show wpAny _ _ (call (Value.builtin _) [Value.ref _]) _ _ _); k_dflt (refine' kl_pop ?Fr23 ?Nr23 ?er23 ?Ur23 ?zr23 ?_; (case Fr23 => k_asm); (case Nr23 => k_asm); (case Ur23 => k_upd); (case er23 => exact lastArr rfl); (case zr23 => kl_room)); kl_rest)
  trivial
end Mine
namespace Mine
theorem row24 : True := by
  k_with "keq_rows" => (refine' defG ?k1r24 ?k2r24 ?k3r24 ?k4r24 ?k6r24 ?k7r24 ?k8r24 ?k9r24 ?kBr24 ?_ ?c2r24 ?c3r24 ?c4r24 ?c5r24; (case k1r24 => assumption); (case k2r24 => assumption); (case k3r24 => assumption); (case k4r24 => assumption); (case k6r24 => k_is); (case k7r24 => k_is); (case k8r24 => k_room); (case k9r24 => first | exact BindsTo.of_eq rfl | exact binds_K (by k_in) rfl (by k_is) rfl rfl rfl | fail "keq_rows: no rule for these arguments"); (case c5r24 => decide); (case kBr24 => exact locs rfl); (case c2r24 => exact rfl); (case c3r24 => exact rfl); (case c4r24 => exact rfl); k_whole; ((first | tm_at "clo1" | refine fun L'q9 => ?_); (first | tm_at "clo1" | refine fun h'q9 => ?_); refine fun F'q9 => ?_; refine fun N'q9 => ?_; refine fun l1q9 => ?_); (try k_lt l1q9); (try dsimp only); (try k_fold))
  trivial
end Mine
namespace Mine
theorem row25 : True := by
  k_with "keq_rows" => (refine' defGC ?k1r25 ?k2r25 ?k3r25 ?k4r25 ?k6r25 ?k7r25 ?k8r25 ?k9r25 ?kBr25 ?kDr25 ?_ ?c2r25 ?c3r25 ?c4r25; (case k1r25 => assumption); (case k2r25 => assumption); (case k3r25 => assumption); (case k4r25 => assumption); (case k6r25 => k_is); (case k7r25 => k_is); (case k8r25 => k_room); (case k9r25 => first | exact BindsTo.of_eq rfl | exact binds_K (by k_in) rfl (by k_is) rfl rfl rfl | fail "keq_rows: no rule for these arguments"); (case kBr25 => exact rfl); (case kDr25 => decide +kernel); (case c2r25 => exact rfl); (case c3r25 => exact rfl); (case c4r25 => exact rfl); k_whole; ((first | tm_at "clo1" | refine fun L'q9 => ?_); (first | tm_at "clo1" | refine fun h'q9 => ?_); (first | tm_at "clo1" | refine fun tk'q9 => ?_); refine fun cells'q9 => ?_; refine fun F'q9 => ?_; refine fun N'q9 => ?_; refine fun Y'q9 => ?_; refine fun l1q9 => ?_); (try k_lt l1q9); k_cells Y'q9; (try simp only [List.cons_append, List.nil_append] at N'q9); (try dsimp only); (try k_fold))
  trivial
end Mine
local macro_rules | `(tactic| walk_at "LeaveG") => `(tactic| (k_dflt (refine' leaveG_ ?k1 ?k2 ?_; (case k1 => k_asm); (case k2 => k_asm); k_whole); intro kG; (try dsimp only)))
namespace Mine
theorem row26 : True := by
  k_with "call builtin:list.pop" => (k_here; (with_reducible show wpAny _ _ (call (Value.builtin _) [Value.ref _, Value.int _ _]) _ _ _); k_dflt (refine' pop0_K ?Fr26 ?Nr26 ?Ur26 ?zr26 ?_; (case Fr26 => k_asm); (case Nr26 => k_asm); (case Ur26 => k_upd); (case zr26 => (try simp only [List.length_append, List.length_cons, List.length_nil]); omega)); kl_rest)
  trivial
end Mine
namespace Mine
theorem row27 : True := by
  k_with "call builtin:iter" => (k_here; (with_reducible show wpAny _ _ (call (Value.builtin _) [Value.ref _, Value.str _ _]) _ _ _); k_dflt (refine' iter2_K ?Fr27 ?Nr27 ?br27 ?_; (case Fr27 => k_asm); (case Nr27 => k_asm); (case br27 => k_mem); k_whole); ((first | tm_at "clo1" | refine fun I'q9 => ?_); (first | tm_at "clo1" | refine fun h'q9 => ?_); refine fun F'q9 => ?_; refine fun N'q9 => ?_; refine fun l1q9 => ?_); (try k_lt l1q9))
  trivial
end Mine
namespace Mine
theorem row28 : True := by
  k_with "exec For Name Name cons nil" => (k_here; (with_reducible show wpAny _ _ (exec (Stmt.For (Expr.Name _ _) (Expr.Name (Str.ofString "fiter") _) _ _ _) _) _ _ _); k_dflt (refine fi_for ?_))
  trivial
end Mine
namespace Mine
theorem row29 : True := by
  k_with "pyIter ref" => ((with_reducible show wpAny _ _ (pyIter (Value.ref _)) (FiAt _ _ _ _ _ _ _ _) _ _); k_here; k_dflt (refine' cit_self (News.get ?Nr29 ?mr29) ?cr29 ?_; (case Nr29 => k_asm); (case mr29 => k_mem); (case cr29 => exact rfl); k_whole))
  trivial
end Mine

namespace Mine
/-- the same type by another name: inferInstanceAs names a value of it (a constant of its own) -/
def Al (α : Type) : Type := α
structure Box (α : Type) where
  val : α
@[irreducible] def unb {α : Type} (b : Box α) : α := b.val
@[irreducible] def fstB {α β : Type} (b : Box (α × β)) : Box α := ⟨b.val.1⟩
@[irreducible] def sndB {α β : Type} (b : Box (α × β)) : Box β := ⟨b.val.2⟩
/-- a name for a closed value -/
inductive Nm {α : Type} (x : α) : Prop
  | mk
instance nmCoe {α : Type} {x : α} {n : Nm x} : CoeT (Nm x) n α := ⟨x⟩
theorem unb_mk {α : Type} (x : α) : unb ⟨x⟩ = x := by unfold unb; rfl
theorem fstB_mk {α β : Type} (x : α) (y : β) : fstB ⟨(x, y)⟩ = ⟨x⟩ := by unfold fstB; rfl
theorem sndB_mk {α β : Type} (x : α) (y : β) : sndB ⟨(x, y)⟩ = ⟨y⟩ := by unfold sndB; rfl
/-- a statement that the elaborator does not look into -/
structure Shut (p : Prop) : Prop where
  out : p
theorem eps_box {α : Type} (ne : Nonempty α) (P : Box α → Prop) (h : P (@Classical.epsilon (Box α) (ne.elim fun x => ⟨⟨x⟩⟩) fun b => ¬ P b)) (x : α) : P ⟨x⟩ := Classical.byContradiction fun hz =>
  @Classical.epsilon_spec_aux (Box α) (ne.elim fun x => ⟨⟨x⟩⟩) (fun z => ¬ P z) ⟨⟨x⟩, hz⟩ h
@[irreducible] noncomputable def pick1 {t1 : Type} [ne : Nonempty (t1)] (n : Nat) (P : t1 → Prop) : Al (Box (t1)) := @Classical.epsilon (Box (t1)) (ne.elim fun x => ⟨⟨x⟩⟩) fun c => ¬ P (unb c)
theorem closeK1 {t1 : Type} [ne : Nonempty (t1)] {P : t1 → Prop} (n : Nat) {c : Box (t1)} (i : CoeT (Al (Box (t1))) (pick1 n P) (Box (t1))) (e : i = CoeT.mk c) (e2 : c = pick1 n P) (h : P (unb c)) : Shut (∀ x0, P x0) := Shut.mk fun x0 => by
  have h3 := eps_box ne (fun c => P (unb c)) (by rw [e2, pick1] at h; exact h) x0
  with_unfolding_all exact h3
theorem nameK1 {t1 : Type} [ne : Nonempty (t1)] {P : t1 → Prop} (n : Nat) {c : Box (t1)} (i : CoeT (Al (Box (t1))) (pick1 n P) (Box (t1))) (e : i = CoeT.mk c) (e2 : c = pick1 n P) (h : Nm (unb c) → P (unb c)) : Shut (∀ x0, P x0) := closeK1 n i e e2 (h .mk)
theorem grd1 {t1 : Type} {P : t1 → Prop} (h : ∀ x0, P x0) : ∀ x0, P x0 := h
@[irreducible] noncomputable def pick2 {t1 t2 : Type} [ne : Nonempty (t1 × t2)] (n : Nat) (P : t1 → t2 → Prop) : Al (Box (t1 × t2)) := @Classical.epsilon (Box (t1 × t2)) (ne.elim fun x => ⟨⟨x⟩⟩) fun c => ¬ P (unb (fstB c)) (unb (sndB c))
theorem closeK2 {t1 t2 : Type} [ne : Nonempty (t1 × t2)] {P : t1 → t2 → Prop} (n : Nat) {c : Box (t1 × t2)} (i : CoeT (Al (Box (t1 × t2))) (pick2 n P) (Box (t1 × t2))) (e : i = CoeT.mk c) (e2 : c = pick2 n P) (h : P (unb (fstB c)) (unb (sndB c))) : Shut (∀ x0 x1, P x0 x1) := Shut.mk fun x0 x1 => by
  have h3 := eps_box ne (fun c => P (unb (fstB c)) (unb (sndB c))) (by rw [e2, pick2] at h; exact h) (x0, x1)
  with_unfolding_all exact h3
theorem nameK2 {t1 t2 : Type} [ne : Nonempty (t1 × t2)] {P : t1 → t2 → Prop} (n : Nat) {c : Box (t1 × t2)} (i : CoeT (Al (Box (t1 × t2))) (pick2 n P) (Box (t1 × t2))) (e : i = CoeT.mk c) (e2 : c = pick2 n P) (h : Nm (unb (fstB c)) → Nm (unb (sndB c)) → P (unb (fstB c)) (unb (sndB c))) : Shut (∀ x0 x1, P x0 x1) := closeK2 n i e e2 (h .mk .mk)
theorem grd2 {t1 t2 : Type} {P : t1 → t2 → Prop} (h : ∀ x0 x1, P x0 x1) : ∀ x0 x1, P x0 x1 := h
@[irreducible] noncomputable def pick3 {t1 t2 t3 : Type} [ne : Nonempty (t1 × t2 × t3)] (n : Nat) (P : t1 → t2 → t3 → Prop) : Al (Box (t1 × t2 × t3)) := @Classical.epsilon (Box (t1 × t2 × t3)) (ne.elim fun x => ⟨⟨x⟩⟩) fun c => ¬ P (unb (fstB c)) (unb (fstB (sndB c))) (unb (sndB (sndB c)))
theorem closeK3 {t1 t2 t3 : Type} [ne : Nonempty (t1 × t2 × t3)] {P : t1 → t2 → t3 → Prop} (n : Nat) {c : Box (t1 × t2 × t3)} (i : CoeT (Al (Box (t1 × t2 × t3))) (pick3 n P) (Box (t1 × t2 × t3))) (e : i = CoeT.mk c) (e2 : c = pick3 n P) (h : P (unb (fstB c)) (unb (fstB (sndB c))) (unb (sndB (sndB c)))) : Shut (∀ x0 x1 x2, P x0 x1 x2) := Shut.mk fun x0 x1 x2 => by
  have h3 := eps_box ne (fun c => P (unb (fstB c)) (unb (fstB (sndB c))) (unb (sndB (sndB c)))) (by rw [e2, pick3] at h; exact h) (x0, x1, x2)
  with_unfolding_all exact h3
theorem nameK3 {t1 t2 t3 : Type} [ne : Nonempty (t1 × t2 × t3)] {P : t1 → t2 → t3 → Prop} (n : Nat) {c : Box (t1 × t2 × t3)} (i : CoeT (Al (Box (t1 × t2 × t3))) (pick3 n P) (Box (t1 × t2 × t3))) (e : i = CoeT.mk c) (e2 : c = pick3 n P) (h : Nm (unb (fstB c)) → Nm (unb (fstB (sndB c))) → Nm (unb (sndB (sndB c))) → P (unb (fstB c)) (unb (fstB (sndB c))) (unb (sndB (sndB c)))) : Shut (∀ x0 x1 x2, P x0 x1 x2) := closeK3 n i e e2 (h .mk .mk .mk)
theorem grd3 {t1 t2 t3 : Type} {P : t1 → t2 → t3 → Prop} (h : ∀ x0 x1 x2, P x0 x1 x2) : ∀ x0 x1 x2, P x0 x1 x2 := h
@[irreducible] noncomputable def pick4 {t1 t2 t3 t4 : Type} [ne : Nonempty (t1 × t2 × t3 × t4)] (n : Nat) (P : t1 → t2 → t3 → t4 → Prop) : Al (Box (t1 × t2 × t3 × t4)) := @Classical.epsilon (Box (t1 × t2 × t3 × t4)) (ne.elim fun x => ⟨⟨x⟩⟩) fun c => ¬ P (unb (fstB c)) (unb (fstB (sndB c))) (unb (fstB (sndB (sndB c)))) (unb (sndB (sndB (sndB c))))
theorem closeK4 {t1 t2 t3 t4 : Type} [ne : Nonempty (t1 × t2 × t3 × t4)] {P : t1 → t2 → t3 → t4 → Prop} (n : Nat) {c : Box (t1 × t2 × t3 × t4)} (i : CoeT (Al (Box (t1 × t2 × t3 × t4))) (pick4 n P) (Box (t1 × t2 × t3 × t4))) (e : i = CoeT.mk c) (e2 : c = pick4 n P) (h : P (unb (fstB c)) (unb (fstB (sndB c))) (unb (fstB (sndB (sndB c)))) (unb (sndB (sndB (sndB c))))) : Shut (∀ x0 x1 x2 x3, P x0 x1 x2 x3) := Shut.mk fun x0 x1 x2 x3 => by
  have h3 := eps_box ne (fun c => P (unb (fstB c)) (unb (fstB (sndB c))) (unb (fstB (sndB (sndB c)))) (unb (sndB (sndB (sndB c))))) (by rw [e2, pick4] at h; exact h) (x0, x1, x2, x3)
  with_unfolding_all exact h3
theorem nameK4 {t1 t2 t3 t4 : Type} [ne : Nonempty (t1 × t2 × t3 × t4)] {P : t1 → t2 → t3 → t4 → Prop} (n : Nat) {c : Box (t1 × t2 × t3 × t4)} (i : CoeT (Al (Box (t1 × t2 × t3 × t4))) (pick4 n P) (Box (t1 × t2 × t3 × t4))) (e : i = CoeT.mk c) (e2 : c = pick4 n P) (h : Nm (unb (fstB c)) → Nm (unb (fstB (sndB c))) → Nm (unb (fstB (sndB (sndB c)))) → Nm (unb (sndB (sndB (sndB c)))) → P (unb (fstB c)) (unb (fstB (sndB c))) (unb (fstB (sndB (sndB c)))) (unb (sndB (sndB (sndB c))))) : Shut (∀ x0 x1 x2 x3, P x0 x1 x2 x3) := closeK4 n i e e2 (h .mk .mk .mk .mk)
theorem grd4 {t1 t2 t3 t4 : Type} {P : t1 → t2 → t3 → t4 → Prop} (h : ∀ x0 x1 x2 x3, P x0 x1 x2 x3) : ∀ x0 x1 x2 x3, P x0 x1 x2 x3 := h
@[irreducible] noncomputable def pick5 {t1 t2 t3 t4 t5 : Type} [ne : Nonempty (t1 × t2 × t3 × t4 × t5)] (n : Nat) (P : t1 → t2 → t3 → t4 → t5 → Prop) : Al (Box (t1 × t2 × t3 × t4 × t5)) := @Classical.epsilon (Box (t1 × t2 × t3 × t4 × t5)) (ne.elim fun x => ⟨⟨x⟩⟩) fun c => ¬ P (unb (fstB c)) (unb (fstB (sndB c))) (unb (fstB (sndB (sndB c)))) (unb (fstB (sndB (sndB (sndB c))))) (unb (sndB (sndB (sndB (sndB c)))))
theorem closeK5 {t1 t2 t3 t4 t5 : Type} [ne : Nonempty (t1 × t2 × t3 × t4 × t5)] {P : t1 → t2 → t3 → t4 → t5 → Prop} (n : Nat) {c : Box (t1 × t2 × t3 × t4 × t5)} (i : CoeT (Al (Box (t1 × t2 × t3 × t4 × t5))) (pick5 n P) (Box (t1 × t2 × t3 × t4 × t5))) (e : i = CoeT.mk c) (e2 : c = pick5 n P) (h : P (unb (fstB c)) (unb (fstB (sndB c))) (unb (fstB (sndB (sndB c)))) (unb (fstB (sndB (sndB (sndB c))))) (unb (sndB (sndB (sndB (sndB c)))))) : Shut (∀ x0 x1 x2 x3 x4, P x0 x1 x2 x3 x4) := Shut.mk fun x0 x1 x2 x3 x4 => by
  have h3 := eps_box ne (fun c => P (unb (fstB c)) (unb (fstB (sndB c))) (unb (fstB (sndB (sndB c)))) (unb (fstB (sndB (sndB (sndB c))))) (unb (sndB (sndB (sndB (sndB c)))))) (by rw [e2, pick5] at h; exact h) (x0, x1, x2, x3, x4)
  with_unfolding_all exact h3
theorem nameK5 {t1 t2 t3 t4 t5 : Type} [ne : Nonempty (t1 × t2 × t3 × t4 × t5)] {P : t1 → t2 → t3 → t4 → t5 → Prop} (n : Nat) {c : Box (t1 × t2 × t3 × t4 × t5)} (i : CoeT (Al (Box (t1 × t2 × t3 × t4 × t5))) (pick5 n P) (Box (t1 × t2 × t3 × t4 × t5))) (e : i = CoeT.mk c) (e2 : c = pick5 n P) (h : Nm (unb (fstB c)) → Nm (unb (fstB (sndB c))) → Nm (unb (fstB (sndB (sndB c)))) → Nm (unb (fstB (sndB (sndB (sndB c))))) → Nm (unb (sndB (sndB (sndB (sndB c))))) → P (unb (fstB c)) (unb (fstB (sndB c))) (unb (fstB (sndB (sndB c)))) (unb (fstB (sndB (sndB (sndB c))))) (unb (sndB (sndB (sndB (sndB c)))))) : Shut (∀ x0 x1 x2 x3 x4, P x0 x1 x2 x3 x4) := closeK5 n i e e2 (h .mk .mk .mk .mk .mk)
theorem grd5 {t1 t2 t3 t4 t5 : Type} {P : t1 → t2 → t3 → t4 → t5 → Prop} (h : ∀ x0 x1 x2 x3 x4, P x0 x1 x2 x3 x4) : ∀ x0 x1 x2 x3 x4, P x0 x1 x2 x3 x4 := h
@[irreducible] noncomputable def pick6 {t1 t2 t3 t4 t5 t6 : Type} [ne : Nonempty (t1 × t2 × t3 × t4 × t5 × t6)] (n : Nat) (P : t1 → t2 → t3 → t4 → t5 → t6 → Prop) : Al (Box (t1 × t2 × t3 × t4 × t5 × t6)) := @Classical.epsilon (Box (t1 × t2 × t3 × t4 × t5 × t6)) (ne.elim fun x => ⟨⟨x⟩⟩) fun c => ¬ P (unb (fstB c)) (unb (fstB (sndB c))) (unb (fstB (sndB (sndB c)))) (unb (fstB (sndB (sndB (sndB c))))) (unb (fstB (sndB (sndB (sndB (sndB c)))))) (unb (sndB (sndB (sndB (sndB (sndB c))))))
theorem closeK6 {t1 t2 t3 t4 t5 t6 : Type} [ne : Nonempty (t1 × t2 × t3 × t4 × t5 × t6)] {P : t1 → t2 → t3 → t4 → t5 → t6 → Prop} (n : Nat) {c : Box (t1 × t2 × t3 × t4 × t5 × t6)} (i : CoeT (Al (Box (t1 × t2 × t3 × t4 × t5 × t6))) (pick6 n P) (Box (t1 × t2 × t3 × t4 × t5 × t6))) (e : i = CoeT.mk c) (e2 : c = pick6 n P) (h : P (unb (fstB c)) (unb (fstB (sndB c))) (unb (fstB (sndB (sndB c)))) (unb (fstB (sndB (sndB (sndB c))))) (unb (fstB (sndB (sndB (sndB (sndB c)))))) (unb (sndB (sndB (sndB (sndB (sndB c))))))) : Shut (∀ x0 x1 x2 x3 x4 x5, P x0 x1 x2 x3 x4 x5) := Shut.mk fun x0 x1 x2 x3 x4 x5 => by
  have h3 := eps_box ne (fun c => P (unb (fstB c)) (unb (fstB (sndB c))) (unb (fstB (sndB (sndB c)))) (unb (fstB (sndB (sndB (sndB c))))) (unb (fstB (sndB (sndB (sndB (sndB c)))))) (unb (sndB (sndB (sndB (sndB (sndB c))))))) (by rw [e2, pick6] at h; exact h) (x0, x1, x2, x3, x4, x5)
  with_unfolding_all exact h3
theorem nameK6 {t1 t2 t3 t4 t5 t6 : Type} [ne : Nonempty (t1 × t2 × t3 × t4 × t5 × t6)] {P : t1 → t2 → t3 → t4 → t5 → t6 → Prop} (n : Nat) {c : Box (t1 × t2 × t3 × t4 × t5 × t6)} (i : CoeT (Al (Box (t1 × t2 × t3 × t4 × t5 × t6))) (pick6 n P) (Box (t1 × t2 × t3 × t4 × t5 × t6))) (e : i = CoeT.mk c) (e2 : c = pick6 n P) (h : Nm (unb (fstB c)) → Nm (unb (fstB (sndB c))) → Nm (unb (fstB (sndB (sndB c)))) → Nm (unb (fstB (sndB (sndB (sndB c))))) → Nm (unb (fstB (sndB (sndB (sndB (sndB c)))))) → Nm (unb (sndB (sndB (sndB (sndB (sndB c)))))) → P (unb (fstB c)) (unb (fstB (sndB c))) (unb (fstB (sndB (sndB c)))) (unb (fstB (sndB (sndB (sndB c))))) (unb (fstB (sndB (sndB (sndB (sndB c)))))) (unb (sndB (sndB (sndB (sndB (sndB c))))))) : Shut (∀ x0 x1 x2 x3 x4 x5, P x0 x1 x2 x3 x4 x5) := closeK6 n i e e2 (h .mk .mk .mk .mk .mk .mk)
theorem grd6 {t1 t2 t3 t4 t5 t6 : Type} {P : t1 → t2 → t3 → t4 → t5 → t6 → Prop} (h : ∀ x0 x1 x2 x3 x4 x5, P x0 x1 x2 x3 x4 x5) : ∀ x0 x1 x2 x3 x4 x5, P x0 x1 x2 x3 x4 x5 := h
@[irreducible] noncomputable def pick7 {t1 t2 t3 t4 t5 t6 t7 : Type} [ne : Nonempty (t1 × t2 × t3 × t4 × t5 × t6 × t7)] (n : Nat) (P : t1 → t2 → t3 → t4 → t5 → t6 → t7 → Prop) : Al (Box (t1 × t2 × t3 × t4 × t5 × t6 × t7)) := @Classical.epsilon (Box (t1 × t2 × t3 × t4 × t5 × t6 × t7)) (ne.elim fun x => ⟨⟨x⟩⟩) fun c => ¬ P (unb (fstB c)) (unb (fstB (sndB c))) (unb (fstB (sndB (sndB c)))) (unb (fstB (sndB (sndB (sndB c))))) (unb (fstB (sndB (sndB (sndB (sndB c)))))) (unb (fstB (sndB (sndB (sndB (sndB (sndB c))))))) (unb (sndB (sndB (sndB (sndB (sndB (sndB c)))))))
theorem closeK7 {t1 t2 t3 t4 t5 t6 t7 : Type} [ne : Nonempty (t1 × t2 × t3 × t4 × t5 × t6 × t7)] {P : t1 → t2 → t3 → t4 → t5 → t6 → t7 → Prop} (n : Nat) {c : Box (t1 × t2 × t3 × t4 × t5 × t6 × t7)} (i : CoeT (Al (Box (t1 × t2 × t3 × t4 × t5 × t6 × t7))) (pick7 n P) (Box (t1 × t2 × t3 × t4 × t5 × t6 × t7))) (e : i = CoeT.mk c) (e2 : c = pick7 n P) (h : P (unb (fstB c)) (unb (fstB (sndB c))) (unb (fstB (sndB (sndB c)))) (unb (fstB (sndB (sndB (sndB c))))) (unb (fstB (sndB (sndB (sndB (sndB c)))))) (unb (fstB (sndB (sndB (sndB (sndB (sndB c))))))) (unb (sndB (sndB (sndB (sndB (sndB (sndB c)))))))) : Shut (∀ x0 x1 x2 x3 x4 x5 x6, P x0 x1 x2 x3 x4 x5 x6) := Shut.mk fun x0 x1 x2 x3 x4 x5 x6 => by
  have h3 := eps_box ne (fun c => P (unb (fstB c)) (unb (fstB (sndB c))) (unb (fstB (sndB (sndB c)))) (unb (fstB (sndB (sndB (sndB c))))) (unb (fstB (sndB (sndB (sndB (sndB c)))))) (unb (fstB (sndB (sndB (sndB (sndB (sndB c))))))) (unb (sndB (sndB (sndB (sndB (sndB (sndB c)))))))) (by rw [e2, pick7] at h; exact h) (x0, x1, x2, x3, x4, x5, x6)
  with_unfolding_all exact h3
theorem nameK7 {t1 t2 t3 t4 t5 t6 t7 : Type} [ne : Nonempty (t1 × t2 × t3 × t4 × t5 × t6 × t7)] {P : t1 → t2 → t3 → t4 → t5 → t6 → t7 → Prop} (n : Nat) {c : Box (t1 × t2 × t3 × t4 × t5 × t6 × t7)} (i : CoeT (Al (Box (t1 × t2 × t3 × t4 × t5 × t6 × t7))) (pick7 n P) (Box (t1 × t2 × t3 × t4 × t5 × t6 × t7))) (e : i = CoeT.mk c) (e2 : c = pick7 n P) (h : Nm (unb (fstB c)) → Nm (unb (fstB (sndB c))) → Nm (unb (fstB (sndB (sndB c)))) → Nm (unb (fstB (sndB (sndB (sndB c))))) → Nm (unb (fstB (sndB (sndB (sndB (sndB c)))))) → Nm (unb (fstB (sndB (sndB (sndB (sndB (sndB c))))))) → Nm (unb (sndB (sndB (sndB (sndB (sndB (sndB c))))))) → P (unb (fstB c)) (unb (fstB (sndB c))) (unb (fstB (sndB (sndB c)))) (unb (fstB (sndB (sndB (sndB c))))) (unb (fstB (sndB (sndB (sndB (sndB c)))))) (unb (fstB (sndB (sndB (sndB (sndB (sndB c))))))) (unb (sndB (sndB (sndB (sndB (sndB (sndB c)))))))) : Shut (∀ x0 x1 x2 x3 x4 x5 x6, P x0 x1 x2 x3 x4 x5 x6) := closeK7 n i e e2 (h .mk .mk .mk .mk .mk .mk .mk)
theorem grd7 {t1 t2 t3 t4 t5 t6 t7 : Type} {P : t1 → t2 → t3 → t4 → t5 → t6 → t7 → Prop} (h : ∀ x0 x1 x2 x3 x4 x5 x6, P x0 x1 x2 x3 x4 x5 x6) : ∀ x0 x1 x2 x3 x4 x5 x6, P x0 x1 x2 x3 x4 x5 x6 := h
@[irreducible] noncomputable def pick8 {t1 t2 t3 t4 t5 t6 t7 t8 : Type} [ne : Nonempty (t1 × t2 × t3 × t4 × t5 × t6 × t7 × t8)] (n : Nat) (P : t1 → t2 → t3 → t4 → t5 → t6 → t7 → t8 → Prop) : Al (Box (t1 × t2 × t3 × t4 × t5 × t6 × t7 × t8)) := @Classical.epsilon (Box (t1 × t2 × t3 × t4 × t5 × t6 × t7 × t8)) (ne.elim fun x => ⟨⟨x⟩⟩) fun c => ¬ P (unb (fstB c)) (unb (fstB (sndB c))) (unb (fstB (sndB (sndB c)))) (unb (fstB (sndB (sndB (sndB c))))) (unb (fstB (sndB (sndB (sndB (sndB c)))))) (unb (fstB (sndB (sndB (sndB (sndB (sndB c))))))) (unb (fstB (sndB (sndB (sndB (sndB (sndB (sndB c)))))))) (unb (sndB (sndB (sndB (sndB (sndB (sndB (sndB c))))))))
theorem closeK8 {t1 t2 t3 t4 t5 t6 t7 t8 : Type} [ne : Nonempty (t1 × t2 × t3 × t4 × t5 × t6 × t7 × t8)] {P : t1 → t2 → t3 → t4 → t5 → t6 → t7 → t8 → Prop} (n : Nat) {c : Box (t1 × t2 × t3 × t4 × t5 × t6 × t7 × t8)} (i : CoeT (Al (Box (t1 × t2 × t3 × t4 × t5 × t6 × t7 × t8))) (pick8 n P) (Box (t1 × t2 × t3 × t4 × t5 × t6 × t7 × t8))) (e : i = CoeT.mk c) (e2 : c = pick8 n P) (h : P (unb (fstB c)) (unb (fstB (sndB c))) (unb (fstB (sndB (sndB c)))) (unb (fstB (sndB (sndB (sndB c))))) (unb (fstB (sndB (sndB (sndB (sndB c)))))) (unb (fstB (sndB (sndB (sndB (sndB (sndB c))))))) (unb (fstB (sndB (sndB (sndB (sndB (sndB (sndB c)))))))) (unb (sndB (sndB (sndB (sndB (sndB (sndB (sndB c))))))))) : Shut (∀ x0 x1 x2 x3 x4 x5 x6 x7, P x0 x1 x2 x3 x4 x5 x6 x7) := Shut.mk fun x0 x1 x2 x3 x4 x5 x6 x7 => by
  have h3 := eps_box ne (fun c => P (unb (fstB c)) (unb (fstB (sndB c))) (unb (fstB (sndB (sndB c)))) (unb (fstB (sndB (sndB (sndB c))))) (unb (fstB (sndB (sndB (sndB (sndB c)))))) (unb (fstB (sndB (sndB (sndB (sndB (sndB c))))))) (unb (fstB (sndB (sndB (sndB (sndB (sndB (sndB c)))))))) (unb (sndB (sndB (sndB (sndB (sndB (sndB (sndB c))))))))) (by rw [e2, pick8] at h; exact h) (x0, x1, x2, x3, x4, x5, x6, x7)
  with_unfolding_all exact h3
theorem nameK8 {t1 t2 t3 t4 t5 t6 t7 t8 : Type} [ne : Nonempty (t1 × t2 × t3 × t4 × t5 × t6 × t7 × t8)] {P : t1 → t2 → t3 → t4 → t5 → t6 → t7 → t8 → Prop} (n : Nat) {c : Box (t1 × t2 × t3 × t4 × t5 × t6 × t7 × t8)} (i : CoeT (Al (Box (t1 × t2 × t3 × t4 × t5 × t6 × t7 × t8))) (pick8 n P) (Box (t1 × t2 × t3 × t4 × t5 × t6 × t7 × t8))) (e : i = CoeT.mk c) (e2 : c = pick8 n P) (h : Nm (unb (fstB c)) → Nm (unb (fstB (sndB c))) → Nm (unb (fstB (sndB (sndB c)))) → Nm (unb (fstB (sndB (sndB (sndB c))))) → Nm (unb (fstB (sndB (sndB (sndB (sndB c)))))) → Nm (unb (fstB (sndB (sndB (sndB (sndB (sndB c))))))) → Nm (unb (fstB (sndB (sndB (sndB (sndB (sndB (sndB c)))))))) → Nm (unb (sndB (sndB (sndB (sndB (sndB (sndB (sndB c)))))))) → P (unb (fstB c)) (unb (fstB (sndB c))) (unb (fstB (sndB (sndB c)))) (unb (fstB (sndB (sndB (sndB c))))) (unb (fstB (sndB (sndB (sndB (sndB c)))))) (unb (fstB (sndB (sndB (sndB (sndB (sndB c))))))) (unb (fstB (sndB (sndB (sndB (sndB (sndB (sndB c)))))))) (unb (sndB (sndB (sndB (sndB (sndB (sndB (sndB c))))))))) : Shut (∀ x0 x1 x2 x3 x4 x5 x6 x7, P x0 x1 x2 x3 x4 x5 x6 x7) := closeK8 n i e e2 (h .mk .mk .mk .mk .mk .mk .mk .mk)
theorem grd8 {t1 t2 t3 t4 t5 t6 t7 t8 : Type} {P : t1 → t2 → t3 → t4 → t5 → t6 → t7 → t8 → Prop} (h : ∀ x0 x1 x2 x3 x4 x5 x6 x7, P x0 x1 x2 x3 x4 x5 x6 x7) : ∀ x0 x1 x2 x3 x4 x5 x6 x7, P x0 x1 x2 x3 x4 x5 x6 x7 := h
@[irreducible] noncomputable def pick9 {t1 t2 t3 t4 t5 t6 t7 t8 t9 : Type} [ne : Nonempty (t1 × t2 × t3 × t4 × t5 × t6 × t7 × t8 × t9)] (n : Nat) (P : t1 → t2 → t3 → t4 → t5 → t6 → t7 → t8 → t9 → Prop) : Al (Box (t1 × t2 × t3 × t4 × t5 × t6 × t7 × t8 × t9)) := @Classical.epsilon (Box (t1 × t2 × t3 × t4 × t5 × t6 × t7 × t8 × t9)) (ne.elim fun x => ⟨⟨x⟩⟩) fun c => ¬ P (unb (fstB c)) (unb (fstB (sndB c))) (unb (fstB (sndB (sndB c)))) (unb (fstB (sndB (sndB (sndB c))))) (unb (fstB (sndB (sndB (sndB (sndB c)))))) (unb (fstB (sndB (sndB (sndB (sndB (sndB c))))))) (unb (fstB (sndB (sndB (sndB (sndB (sndB (sndB c)))))))) (unb (fstB (sndB (sndB (sndB (sndB (sndB (sndB (sndB c))))))))) (unb (sndB (sndB (sndB (sndB (sndB (sndB (sndB (sndB c)))))))))
theorem closeK9 {t1 t2 t3 t4 t5 t6 t7 t8 t9 : Type} [ne : Nonempty (t1 × t2 × t3 × t4 × t5 × t6 × t7 × t8 × t9)] {P : t1 → t2 → t3 → t4 → t5 → t6 → t7 → t8 → t9 → Prop} (n : Nat) {c : Box (t1 × t2 × t3 × t4 × t5 × t6 × t7 × t8 × t9)} (i : CoeT (Al (Box (t1 × t2 × t3 × t4 × t5 × t6 × t7 × t8 × t9))) (pick9 n P) (Box (t1 × t2 × t3 × t4 × t5 × t6 × t7 × t8 × t9))) (e : i = CoeT.mk c) (e2 : c = pick9 n P) (h : P (unb (fstB c)) (unb (fstB (sndB c))) (unb (fstB (sndB (sndB c)))) (unb (fstB (sndB (sndB (sndB c))))) (unb (fstB (sndB (sndB (sndB (sndB c)))))) (unb (fstB (sndB (sndB (sndB (sndB (sndB c))))))) (unb (fstB (sndB (sndB (sndB (sndB (sndB (sndB c)))))))) (unb (fstB (sndB (sndB (sndB (sndB (sndB (sndB (sndB c))))))))) (unb (sndB (sndB (sndB (sndB (sndB (sndB (sndB (sndB c)))))))))) : Shut (∀ x0 x1 x2 x3 x4 x5 x6 x7 x8, P x0 x1 x2 x3 x4 x5 x6 x7 x8) := Shut.mk fun x0 x1 x2 x3 x4 x5 x6 x7 x8 => by
  have h3 := eps_box ne (fun c => P (unb (fstB c)) (unb (fstB (sndB c))) (unb (fstB (sndB (sndB c)))) (unb (fstB (sndB (sndB (sndB c))))) (unb (fstB (sndB (sndB (sndB (sndB c)))))) (unb (fstB (sndB (sndB (sndB (sndB (sndB c))))))) (unb (fstB (sndB (sndB (sndB (sndB (sndB (sndB c)))))))) (unb (fstB (sndB (sndB (sndB (sndB (sndB (sndB (sndB c))))))))) (unb (sndB (sndB (sndB (sndB (sndB (sndB (sndB (sndB c)))))))))) (by rw [e2, pick9] at h; exact h) (x0, x1, x2, x3, x4, x5, x6, x7, x8)
  with_unfolding_all exact h3
theorem nameK9 {t1 t2 t3 t4 t5 t6 t7 t8 t9 : Type} [ne : Nonempty (t1 × t2 × t3 × t4 × t5 × t6 × t7 × t8 × t9)] {P : t1 → t2 → t3 → t4 → t5 → t6 → t7 → t8 → t9 → Prop} (n : Nat) {c : Box (t1 × t2 × t3 × t4 × t5 × t6 × t7 × t8 × t9)} (i : CoeT (Al (Box (t1 × t2 × t3 × t4 × t5 × t6 × t7 × t8 × t9))) (pick9 n P) (Box (t1 × t2 × t3 × t4 × t5 × t6 × t7 × t8 × t9))) (e : i = CoeT.mk c) (e2 : c = pick9 n P) (h : Nm (unb (fstB c)) → Nm (unb (fstB (sndB c))) → Nm (unb (fstB (sndB (sndB c)))) → Nm (unb (fstB (sndB (sndB (sndB c))))) → Nm (unb (fstB (sndB (sndB (sndB (sndB c)))))) → Nm (unb (fstB (sndB (sndB (sndB (sndB (sndB c))))))) → Nm (unb (fstB (sndB (sndB (sndB (sndB (sndB (sndB c)))))))) → Nm (unb (fstB (sndB (sndB (sndB (sndB (sndB (sndB (sndB c))))))))) → Nm (unb (sndB (sndB (sndB (sndB (sndB (sndB (sndB (sndB c))))))))) → P (unb (fstB c)) (unb (fstB (sndB c))) (unb (fstB (sndB (sndB c)))) (unb (fstB (sndB (sndB (sndB c))))) (unb (fstB (sndB (sndB (sndB (sndB c)))))) (unb (fstB (sndB (sndB (sndB (sndB (sndB c))))))) (unb (fstB (sndB (sndB (sndB (sndB (sndB (sndB c)))))))) (unb (fstB (sndB (sndB (sndB (sndB (sndB (sndB (sndB c))))))))) (unb (sndB (sndB (sndB (sndB (sndB (sndB (sndB (sndB c)))))))))) : Shut (∀ x0 x1 x2 x3 x4 x5 x6 x7 x8, P x0 x1 x2 x3 x4 x5 x6 x7 x8) := closeK9 n i e e2 (h .mk .mk .mk .mk .mk .mk .mk .mk .mk)
theorem grd9 {t1 t2 t3 t4 t5 t6 t7 t8 t9 : Type} {P : t1 → t2 → t3 → t4 → t5 → t6 → t7 → t8 → t9 → Prop} (h : ∀ x0 x1 x2 x3 x4 x5 x6 x7 x8, P x0 x1 x2 x3 x4 x5 x6 x7 x8) : ∀ x0 x1 x2 x3 x4 x5 x6 x7 x8, P x0 x1 x2 x3 x4 x5 x6 x7 x8 := h
@[irreducible] noncomputable def pick10 {t1 t2 t3 t4 t5 t6 t7 t8 t9 t10 : Type} [ne : Nonempty (t1 × t2 × t3 × t4 × t5 × t6 × t7 × t8 × t9 × t10)] (n : Nat) (P : t1 → t2 → t3 → t4 → t5 → t6 → t7 → t8 → t9 → t10 → Prop) : Al (Box (t1 × t2 × t3 × t4 × t5 × t6 × t7 × t8 × t9 × t10)) := @Classical.epsilon (Box (t1 × t2 × t3 × t4 × t5 × t6 × t7 × t8 × t9 × t10)) (ne.elim fun x => ⟨⟨x⟩⟩) fun c => ¬ P (unb (fstB c)) (unb (fstB (sndB c))) (unb (fstB (sndB (sndB c)))) (unb (fstB (sndB (sndB (sndB c))))) (unb (fstB (sndB (sndB (sndB (sndB c)))))) (unb (fstB (sndB (sndB (sndB (sndB (sndB c))))))) (unb (fstB (sndB (sndB (sndB (sndB (sndB (sndB c)))))))) (unb (fstB (sndB (sndB (sndB (sndB (sndB (sndB (sndB c))))))))) (unb (fstB (sndB (sndB (sndB (sndB (sndB (sndB (sndB (sndB c)))))))))) (unb (sndB (sndB (sndB (sndB (sndB (sndB (sndB (sndB (sndB c))))))))))
theorem closeK10 {t1 t2 t3 t4 t5 t6 t7 t8 t9 t10 : Type} [ne : Nonempty (t1 × t2 × t3 × t4 × t5 × t6 × t7 × t8 × t9 × t10)] {P : t1 → t2 → t3 → t4 → t5 → t6 → t7 → t8 → t9 → t10 → Prop} (n : Nat) {c : Box (t1 × t2 × t3 × t4 × t5 × t6 × t7 × t8 × t9 × t10)} (i : CoeT (Al (Box (t1 × t2 × t3 × t4 × t5 × t6 × t7 × t8 × t9 × t10))) (pick10 n P) (Box (t1 × t2 × t3 × t4 × t5 × t6 × t7 × t8 × t9 × t10))) (e : i = CoeT.mk c) (e2 : c = pick10 n P) (h : P (unb (fstB c)) (unb (fstB (sndB c))) (unb (fstB (sndB (sndB c)))) (unb (fstB (sndB (sndB (sndB c))))) (unb (fstB (sndB (sndB (sndB (sndB c)))))) (unb (fstB (sndB (sndB (sndB (sndB (sndB c))))))) (unb (fstB (sndB (sndB (sndB (sndB (sndB (sndB c)))))))) (unb (fstB (sndB (sndB (sndB (sndB (sndB (sndB (sndB c))))))))) (unb (fstB (sndB (sndB (sndB (sndB (sndB (sndB (sndB (sndB c)))))))))) (unb (sndB (sndB (sndB (sndB (sndB (sndB (sndB (sndB (sndB c))))))))))) : Shut (∀ x0 x1 x2 x3 x4 x5 x6 x7 x8 x9, P x0 x1 x2 x3 x4 x5 x6 x7 x8 x9) := Shut.mk fun x0 x1 x2 x3 x4 x5 x6 x7 x8 x9 => by
  have h3 := eps_box ne (fun c => P (unb (fstB c)) (unb (fstB (sndB c))) (unb (fstB (sndB (sndB c)))) (unb (fstB (sndB (sndB (sndB c))))) (unb (fstB (sndB (sndB (sndB (sndB c)))))) (unb (fstB (sndB (sndB (sndB (sndB (sndB c))))))) (unb (fstB (sndB (sndB (sndB (sndB (sndB (sndB c)))))))) (unb (fstB (sndB (sndB (sndB (sndB (sndB (sndB (sndB c))))))))) (unb (fstB (sndB (sndB (sndB (sndB (sndB (sndB (sndB (sndB c)))))))))) (unb (sndB (sndB (sndB (sndB (sndB (sndB (sndB (sndB (sndB c))))))))))) (by rw [e2, pick10] at h; exact h) (x0, x1, x2, x3, x4, x5, x6, x7, x8, x9)
  with_unfolding_all exact h3
theorem nameK10 {t1 t2 t3 t4 t5 t6 t7 t8 t9 t10 : Type} [ne : Nonempty (t1 × t2 × t3 × t4 × t5 × t6 × t7 × t8 × t9 × t10)] {P : t1 → t2 → t3 → t4 → t5 → t6 → t7 → t8 → t9 → t10 → Prop} (n : Nat) {c : Box (t1 × t2 × t3 × t4 × t5 × t6 × t7 × t8 × t9 × t10)} (i : CoeT (Al (Box (t1 × t2 × t3 × t4 × t5 × t6 × t7 × t8 × t9 × t10))) (pick10 n P) (Box (t1 × t2 × t3 × t4 × t5 × t6 × t7 × t8 × t9 × t10))) (e : i = CoeT.mk c) (e2 : c = pick10 n P) (h : Nm (unb (fstB c)) → Nm (unb (fstB (sndB c))) → Nm (unb (fstB (sndB (sndB c)))) → Nm (unb (fstB (sndB (sndB (sndB c))))) → Nm (unb (fstB (sndB (sndB (sndB (sndB c)))))) → Nm (unb (fstB (sndB (sndB (sndB (sndB (sndB c))))))) → Nm (unb (fstB (sndB (sndB (sndB (sndB (sndB (sndB c)))))))) → Nm (unb (fstB (sndB (sndB (sndB (sndB (sndB (sndB (sndB c))))))))) → Nm (unb (fstB (sndB (sndB (sndB (sndB (sndB (sndB (sndB (sndB c)))))))))) → Nm (unb (sndB (sndB (sndB (sndB (sndB (sndB (sndB (sndB (sndB c)))))))))) → P (unb (fstB c)) (unb (fstB (sndB c))) (unb (fstB (sndB (sndB c)))) (unb (fstB (sndB (sndB (sndB c))))) (unb (fstB (sndB (sndB (sndB (sndB c)))))) (unb (fstB (sndB (sndB (sndB (sndB (sndB c))))))) (unb (fstB (sndB (sndB (sndB (sndB (sndB (sndB c)))))))) (unb (fstB (sndB (sndB (sndB (sndB (sndB (sndB (sndB c))))))))) (unb (fstB (sndB (sndB (sndB (sndB (sndB (sndB (sndB (sndB c)))))))))) (unb (sndB (sndB (sndB (sndB (sndB (sndB (sndB (sndB (sndB c))))))))))) : Shut (∀ x0 x1 x2 x3 x4 x5 x6 x7 x8 x9, P x0 x1 x2 x3 x4 x5 x6 x7 x8 x9) := closeK10 n i e e2 (h .mk .mk .mk .mk .mk .mk .mk .mk .mk .mk)
theorem grd10 {t1 t2 t3 t4 t5 t6 t7 t8 t9 t10 : Type} {P : t1 → t2 → t3 → t4 → t5 → t6 → t7 → t8 → t9 → t10 → Prop} (h : ∀ x0 x1 x2 x3 x4 x5 x6 x7 x8 x9, P x0 x1 x2 x3 x4 x5 x6 x7 x8 x9) : ∀ x0 x1 x2 x3 x4 x5 x6 x7 x8 x9, P x0 x1 x2 x3 x4 x5 x6 x7 x8 x9 := h
@[irreducible] noncomputable def pick11 {t1 t2 t3 t4 t5 t6 t7 t8 t9 t10 t11 : Type} [ne : Nonempty (t1 × t2 × t3 × t4 × t5 × t6 × t7 × t8 × t9 × t10 × t11)] (n : Nat) (P : t1 → t2 → t3 → t4 → t5 → t6 → t7 → t8 → t9 → t10 → t11 → Prop) : Al (Box (t1 × t2 × t3 × t4 × t5 × t6 × t7 × t8 × t9 × t10 × t11)) := @Classical.epsilon (Box (t1 × t2 × t3 × t4 × t5 × t6 × t7 × t8 × t9 × t10 × t11)) (ne.elim fun x => ⟨⟨x⟩⟩) fun c => ¬ P (unb (fstB c)) (unb (fstB (sndB c))) (unb (fstB (sndB (sndB c)))) (unb (fstB (sndB (sndB (sndB c))))) (unb (fstB (sndB (sndB (sndB (sndB c)))))) (unb (fstB (sndB (sndB (sndB (sndB (sndB c))))))) (unb (fstB (sndB (sndB (sndB (sndB (sndB (sndB c)))))))) (unb (fstB (sndB (sndB (sndB (sndB (sndB (sndB (sndB c))))))))) (unb (fstB (sndB (sndB (sndB (sndB (sndB (sndB (sndB (sndB c)))))))))) (unb (fstB (sndB (sndB (sndB (sndB (sndB (sndB (sndB (sndB (sndB c))))))))))) (unb (sndB (sndB (sndB (sndB (sndB (sndB (sndB (sndB (sndB (sndB c)))))))))))
theorem closeK11 {t1 t2 t3 t4 t5 t6 t7 t8 t9 t10 t11 : Type} [ne : Nonempty (t1 × t2 × t3 × t4 × t5 × t6 × t7 × t8 × t9 × t10 × t11)] {P : t1 → t2 → t3 → t4 → t5 → t6 → t7 → t8 → t9 → t10 → t11 → Prop} (n : Nat) {c : Box (t1 × t2 × t3 × t4 × t5 × t6 × t7 × t8 × t9 × t10 × t11)} (i : CoeT (Al (Box (t1 × t2 × t3 × t4 × t5 × t6 × t7 × t8 × t9 × t10 × t11))) (pick11 n P) (Box (t1 × t2 × t3 × t4 × t5 × t6 × t7 × t8 × t9 × t10 × t11))) (e : i = CoeT.mk c) (e2 : c = pick11 n P) (h : P (unb (fstB c)) (unb (fstB (sndB c))) (unb (fstB (sndB (sndB c)))) (unb (fstB (sndB (sndB (sndB c))))) (unb (fstB (sndB (sndB (sndB (sndB c)))))) (unb (fstB (sndB (sndB (sndB (sndB (sndB c))))))) (unb (fstB (sndB (sndB (sndB (sndB (sndB (sndB c)))))))) (unb (fstB (sndB (sndB (sndB (sndB (sndB (sndB (sndB c))))))))) (unb (fstB (sndB (sndB (sndB (sndB (sndB (sndB (sndB (sndB c)))))))))) (unb (fstB (sndB (sndB (sndB (sndB (sndB (sndB (sndB (sndB (sndB c))))))))))) (unb (sndB (sndB (sndB (sndB (sndB (sndB (sndB (sndB (sndB (sndB c)))))))))))) : Shut (∀ x0 x1 x2 x3 x4 x5 x6 x7 x8 x9 x10, P x0 x1 x2 x3 x4 x5 x6 x7 x8 x9 x10) := Shut.mk fun x0 x1 x2 x3 x4 x5 x6 x7 x8 x9 x10 => by
  have h3 := eps_box ne (fun c => P (unb (fstB c)) (unb (fstB (sndB c))) (unb (fstB (sndB (sndB c)))) (unb (fstB (sndB (sndB (sndB c))))) (unb (fstB (sndB (sndB (sndB (sndB c)))))) (unb (fstB (sndB (sndB (sndB (sndB (sndB c))))))) (unb (fstB (sndB (sndB (sndB (sndB (sndB (sndB c)))))))) (unb (fstB (sndB (sndB (sndB (sndB (sndB (sndB (sndB c))))))))) (unb (fstB (sndB (sndB (sndB (sndB (sndB (sndB (sndB (sndB c)))))))))) (unb (fstB (sndB (sndB (sndB (sndB (sndB (sndB (sndB (sndB (sndB c))))))))))) (unb (sndB (sndB (sndB (sndB (sndB (sndB (sndB (sndB (sndB (sndB c)))))))))))) (by rw [e2, pick11] at h; exact h) (x0, x1, x2, x3, x4, x5, x6, x7, x8, x9, x10)
  with_unfolding_all exact h3
theorem nameK11 {t1 t2 t3 t4 t5 t6 t7 t8 t9 t10 t11 : Type} [ne : Nonempty (t1 × t2 × t3 × t4 × t5 × t6 × t7 × t8 × t9 × t10 × t11)] {P : t1 → t2 → t3 → t4 → t5 → t6 → t7 → t8 → t9 → t10 → t11 → Prop} (n : Nat) {c : Box (t1 × t2 × t3 × t4 × t5 × t6 × t7 × t8 × t9 × t10 × t11)} (i : CoeT (Al (Box (t1 × t2 × t3 × t4 × t5 × t6 × t7 × t8 × t9 × t10 × t11))) (pick11 n P) (Box (t1 × t2 × t3 × t4 × t5 × t6 × t7 × t8 × t9 × t10 × t11))) (e : i = CoeT.mk c) (e2 : c = pick11 n P) (h : Nm (unb (fstB c)) → Nm (unb (fstB (sndB c))) → Nm (unb (fstB (sndB (sndB c)))) → Nm (unb (fstB (sndB (sndB (sndB c))))) → Nm (unb (fstB (sndB (sndB (sndB (sndB c)))))) → Nm (unb (fstB (sndB (sndB (sndB (sndB (sndB c))))))) → Nm (unb (fstB (sndB (sndB (sndB (sndB (sndB (sndB c)))))))) → Nm (unb (fstB (sndB (sndB (sndB (sndB (sndB (sndB (sndB c))))))))) → Nm (unb (fstB (sndB (sndB (sndB (sndB (sndB (sndB (sndB (sndB c)))))))))) → Nm (unb (fstB (sndB (sndB (sndB (sndB (sndB (sndB (sndB (sndB (sndB c))))))))))) → Nm (unb (sndB (sndB (sndB (sndB (sndB (sndB (sndB (sndB (sndB (sndB c))))))))))) → P (unb (fstB c)) (unb (fstB (sndB c))) (unb (fstB (sndB (sndB c)))) (unb (fstB (sndB (sndB (sndB c))))) (unb (fstB (sndB (sndB (sndB (sndB c)))))) (unb (fstB (sndB (sndB (sndB (sndB (sndB c))))))) (unb (fstB (sndB (sndB (sndB (sndB (sndB (sndB c)))))))) (unb (fstB (sndB (sndB (sndB (sndB (sndB (sndB (sndB c))))))))) (unb (fstB (sndB (sndB (sndB (sndB (sndB (sndB (sndB (sndB c)))))))))) (unb (fstB (sndB (sndB (sndB (sndB (sndB (sndB (sndB (sndB (sndB c))))))))))) (unb (sndB (sndB (sndB (sndB (sndB (sndB (sndB (sndB (sndB (sndB c)))))))))))) : Shut (∀ x0 x1 x2 x3 x4 x5 x6 x7 x8 x9 x10, P x0 x1 x2 x3 x4 x5 x6 x7 x8 x9 x10) := closeK11 n i e e2 (h .mk .mk .mk .mk .mk .mk .mk .mk .mk .mk .mk)
theorem grd11 {t1 t2 t3 t4 t5 t6 t7 t8 t9 t10 t11 : Type} {P : t1 → t2 → t3 → t4 → t5 → t6 → t7 → t8 → t9 → t10 → t11 → Prop} (h : ∀ x0 x1 x2 x3 x4 x5 x6 x7 x8 x9 x10, P x0 x1 x2 x3 x4 x5 x6 x7 x8 x9 x10) : ∀ x0 x1 x2 x3 x4 x5 x6 x7 x8 x9 x10, P x0 x1 x2 x3 x4 x5 x6 x7 x8 x9 x10 := h
@[irreducible] noncomputable def pick12 {t1 t2 t3 t4 t5 t6 t7 t8 t9 t10 t11 t12 : Type} [ne : Nonempty (t1 × t2 × t3 × t4 × t5 × t6 × t7 × t8 × t9 × t10 × t11 × t12)] (n : Nat) (P : t1 → t2 → t3 → t4 → t5 → t6 → t7 → t8 → t9 → t10 → t11 → t12 → Prop) : Al (Box (t1 × t2 × t3 × t4 × t5 × t6 × t7 × t8 × t9 × t10 × t11 × t12)) := @Classical.epsilon (Box (t1 × t2 × t3 × t4 × t5 × t6 × t7 × t8 × t9 × t10 × t11 × t12)) (ne.elim fun x => ⟨⟨x⟩⟩) fun c => ¬ P (unb (fstB c)) (unb (fstB (sndB c))) (unb (fstB (sndB (sndB c)))) (unb (fstB (sndB (sndB (sndB c))))) (unb (fstB (sndB (sndB (sndB (sndB c)))))) (unb (fstB (sndB (sndB (sndB (sndB (sndB c))))))) (unb (fstB (sndB (sndB (sndB (sndB (sndB (sndB c)))))))) (unb (fstB (sndB (sndB (sndB (sndB (sndB (sndB (sndB c))))))))) (unb (fstB (sndB (sndB (sndB (sndB (sndB (sndB (sndB (sndB c)))))))))) (unb (fstB (sndB (sndB (sndB (sndB (sndB (sndB (sndB (sndB (sndB c))))))))))) (unb (fstB (sndB (sndB (sndB (sndB (sndB (sndB (sndB (sndB (sndB (sndB c)))))))))))) (unb (sndB (sndB (sndB (sndB (sndB (sndB (sndB (sndB (sndB (sndB (sndB c))))))))))))
theorem closeK12 {t1 t2 t3 t4 t5 t6 t7 t8 t9 t10 t11 t12 : Type} [ne : Nonempty (t1 × t2 × t3 × t4 × t5 × t6 × t7 × t8 × t9 × t10 × t11 × t12)] {P : t1 → t2 → t3 → t4 → t5 → t6 → t7 → t8 → t9 → t10 → t11 → t12 → Prop} (n : Nat) {c : Box (t1 × t2 × t3 × t4 × t5 × t6 × t7 × t8 × t9 × t10 × t11 × t12)} (i : CoeT (Al (Box (t1 × t2 × t3 × t4 × t5 × t6 × t7 × t8 × t9 × t10 × t11 × t12))) (pick12 n P) (Box (t1 × t2 × t3 × t4 × t5 × t6 × t7 × t8 × t9 × t10 × t11 × t12))) (e : i = CoeT.mk c) (e2 : c = pick12 n P) (h : P (unb (fstB c)) (unb (fstB (sndB c))) (unb (fstB (sndB (sndB c)))) (unb (fstB (sndB (sndB (sndB c))))) (unb (fstB (sndB (sndB (sndB (sndB c)))))) (unb (fstB (sndB (sndB (sndB (sndB (sndB c))))))) (unb (fstB (sndB (sndB (sndB (sndB (sndB (sndB c)))))))) (unb (fstB (sndB (sndB (sndB (sndB (sndB (sndB (sndB c))))))))) (unb (fstB (sndB (sndB (sndB (sndB (sndB (sndB (sndB (sndB c)))))))))) (unb (fstB (sndB (sndB (sndB (sndB (sndB (sndB (sndB (sndB (sndB c))))))))))) (unb (fstB (sndB (sndB (sndB (sndB (sndB (sndB (sndB (sndB (sndB (sndB c)))))))))))) (unb (sndB (sndB (sndB (sndB (sndB (sndB (sndB (sndB (sndB (sndB (sndB c))))))))))))) : Shut (∀ x0 x1 x2 x3 x4 x5 x6 x7 x8 x9 x10 x11, P x0 x1 x2 x3 x4 x5 x6 x7 x8 x9 x10 x11) := Shut.mk fun x0 x1 x2 x3 x4 x5 x6 x7 x8 x9 x10 x11 => by
  have h3 := eps_box ne (fun c => P (unb (fstB c)) (unb (fstB (sndB c))) (unb (fstB (sndB (sndB c)))) (unb (fstB (sndB (sndB (sndB c))))) (unb (fstB (sndB (sndB (sndB (sndB c)))))) (unb (fstB (sndB (sndB (sndB (sndB (sndB c))))))) (unb (fstB (sndB (sndB (sndB (sndB (sndB (sndB c)))))))) (unb (fstB (sndB (sndB (sndB (sndB (sndB (sndB (sndB c))))))))) (unb (fstB (sndB (sndB (sndB (sndB (sndB (sndB (sndB (sndB c)))))))))) (unb (fstB (sndB (sndB (sndB (sndB (sndB (sndB (sndB (sndB (sndB c))))))))))) (unb (fstB (sndB (sndB (sndB (sndB (sndB (sndB (sndB (sndB (sndB (sndB c)))))))))))) (unb (sndB (sndB (sndB (sndB (sndB (sndB (sndB (sndB (sndB (sndB (sndB c))))))))))))) (by rw [e2, pick12] at h; exact h) (x0, x1, x2, x3, x4, x5, x6, x7, x8, x9, x10, x11)
  with_unfolding_all exact h3
theorem nameK12 {t1 t2 t3 t4 t5 t6 t7 t8 t9 t10 t11 t12 : Type} [ne : Nonempty (t1 × t2 × t3 × t4 × t5 × t6 × t7 × t8 × t9 × t10 × t11 × t12)] {P : t1 → t2 → t3 → t4 → t5 → t6 → t7 → t8 → t9 → t10 → t11 → t12 → Prop} (n : Nat) {c : Box (t1 × t2 × t3 × t4 × t5 × t6 × t7 × t8 × t9 × t10 × t11 × t12)} (i : CoeT (Al (Box (t1 × t2 × t3 × t4 × t5 × t6 × t7 × t8 × t9 × t10 × t11 × t12))) (pick12 n P) (Box (t1 × t2 × t3 × t4 × t5 × t6 × t7 × t8 × t9 × t10 × t11 × t12))) (e : i = CoeT.mk c) (e2 : c = pick12 n P) (h : Nm (unb (fstB c)) → Nm (unb (fstB (sndB c))) → Nm (unb (fstB (sndB (sndB c)))) → Nm (unb (fstB (sndB (sndB (sndB c))))) → Nm (unb (fstB (sndB (sndB (sndB (sndB c)))))) → Nm (unb (fstB (sndB (sndB (sndB (sndB (sndB c))))))) → Nm (unb (fstB (sndB (sndB (sndB (sndB (sndB (sndB c)))))))) → Nm (unb (fstB (sndB (sndB (sndB (sndB (sndB (sndB (sndB c))))))))) → Nm (unb (fstB (sndB (sndB (sndB (sndB (sndB (sndB (sndB (sndB c)))))))))) → Nm (unb (fstB (sndB (sndB (sndB (sndB (sndB (sndB (sndB (sndB (sndB c))))))))))) → Nm (unb (fstB (sndB (sndB (sndB (sndB (sndB (sndB (sndB (sndB (sndB (sndB c)))))))))))) → Nm (unb (sndB (sndB (sndB (sndB (sndB (sndB (sndB (sndB (sndB (sndB (sndB c)))))))))))) → P (unb (fstB c)) (unb (fstB (sndB c))) (unb (fstB (sndB (sndB c)))) (unb (fstB (sndB (sndB (sndB c))))) (unb (fstB (sndB (sndB (sndB (sndB c)))))) (unb (fstB (sndB (sndB (sndB (sndB (sndB c))))))) (unb (fstB (sndB (sndB (sndB (sndB (sndB (sndB c)))))))) (unb (fstB (sndB (sndB (sndB (sndB (sndB (sndB (sndB c))))))))) (unb (fstB (sndB (sndB (sndB (sndB (sndB (sndB (sndB (sndB c)))))))))) (unb (fstB (sndB (sndB (sndB (sndB (sndB (sndB (sndB (sndB (sndB c))))))))))) (unb (fstB (sndB (sndB (sndB (sndB (sndB (sndB (sndB (sndB (sndB (sndB c)))))))))))) (unb (sndB (sndB (sndB (sndB (sndB (sndB (sndB (sndB (sndB (sndB (sndB c))))))))))))) : Shut (∀ x0 x1 x2 x3 x4 x5 x6 x7 x8 x9 x10 x11, P x0 x1 x2 x3 x4 x5 x6 x7 x8 x9 x10 x11) := closeK12 n i e e2 (h .mk .mk .mk .mk .mk .mk .mk .mk .mk .mk .mk .mk)
theorem grd12 {t1 t2 t3 t4 t5 t6 t7 t8 t9 t10 t11 t12 : Type} {P : t1 → t2 → t3 → t4 → t5 → t6 → t7 → t8 → t9 → t10 → t11 → t12 → Prop} (h : ∀ x0 x1 x2 x3 x4 x5 x6 x7 x8 x9 x10 x11, P x0 x1 x2 x3 x4 x5 x6 x7 x8 x9 x10 x11) : ∀ x0 x1 x2 x3 x4 x5 x6 x7 x8 x9 x10 x11, P x0 x1 x2 x3 x4 x5 x6 x7 x8 x9 x10 x11 := h
@[irreducible] noncomputable def pick13 {t1 t2 t3 t4 t5 t6 t7 t8 t9 t10 t11 t12 t13 : Type} [ne : Nonempty (t1 × t2 × t3 × t4 × t5 × t6 × t7 × t8 × t9 × t10 × t11 × t12 × t13)] (n : Nat) (P : t1 → t2 → t3 → t4 → t5 → t6 → t7 → t8 → t9 → t10 → t11 → t12 → t13 → Prop) : Al (Box (t1 × t2 × t3 × t4 × t5 × t6 × t7 × t8 × t9 × t10 × t11 × t12 × t13)) := @Classical.epsilon (Box (t1 × t2 × t3 × t4 × t5 × t6 × t7 × t8 × t9 × t10 × t11 × t12 × t13)) (ne.elim fun x => ⟨⟨x⟩⟩) fun c => ¬ P (unb (fstB c)) (unb (fstB (sndB c))) (unb (fstB (sndB (sndB c)))) (unb (fstB (sndB (sndB (sndB c))))) (unb (fstB (sndB (sndB (sndB (sndB c)))))) (unb (fstB (sndB (sndB (sndB (sndB (sndB c))))))) (unb (fstB (sndB (sndB (sndB (sndB (sndB (sndB c)))))))) (unb (fstB (sndB (sndB (sndB (sndB (sndB (sndB (sndB c))))))))) (unb (fstB (sndB (sndB (sndB (sndB (sndB (sndB (sndB (sndB c)))))))))) (unb (fstB (sndB (sndB (sndB (sndB (sndB (sndB (sndB (sndB (sndB c))))))))))) (unb (fstB (sndB (sndB (sndB (sndB (sndB (sndB (sndB (sndB (sndB (sndB c)))))))))))) (unb (fstB (sndB (sndB (sndB (sndB (sndB (sndB (sndB (sndB (sndB (sndB (sndB c))))))))))))) (unb (sndB (sndB (sndB (sndB (sndB (sndB (sndB (sndB (sndB (sndB (sndB (sndB c)))))))))))))
theorem closeK13 {t1 t2 t3 t4 t5 t6 t7 t8 t9 t10 t11 t12 t13 : Type} [ne : Nonempty (t1 × t2 × t3 × t4 × t5 × t6 × t7 × t8 × t9 × t10 × t11 × t12 × t13)] {P : t1 → t2 → t3 → t4 → t5 → t6 → t7 → t8 → t9 → t10 → t11 → t12 → t13 → Prop} (n : Nat) {c : Box (t1 × t2 × t3 × t4 × t5 × t6 × t7 × t8 × t9 × t10 × t11 × t12 × t13)} (i : CoeT (Al (Box (t1 × t2 × t3 × t4 × t5 × t6 × t7 × t8 × t9 × t10 × t11 × t12 × t13))) (pick13 n P) (Box (t1 × t2 × t3 × t4 × t5 × t6 × t7 × t8 × t9 × t10 × t11 × t12 × t13))) (e : i = CoeT.mk c) (e2 : c = pick13 n P) (h : P (unb (fstB c)) (unb (fstB (sndB c))) (unb (fstB (sndB (sndB c)))) (unb (fstB (sndB (sndB (sndB c))))) (unb (fstB (sndB (sndB (sndB (sndB c)))))) (unb (fstB (sndB (sndB (sndB (sndB (sndB c))))))) (unb (fstB (sndB (sndB (sndB (sndB (sndB (sndB c)))))))) (unb (fstB (sndB (sndB (sndB (sndB (sndB (sndB (sndB c))))))))) (unb (fstB (sndB (sndB (sndB (sndB (sndB (sndB (sndB (sndB c)))))))))) (unb (fstB (sndB (sndB (sndB (sndB (sndB (sndB (sndB (sndB (sndB c))))))))))) (unb (fstB (sndB (sndB (sndB (sndB (sndB (sndB (sndB (sndB (sndB (sndB c)))))))))))) (unb (fstB (sndB (sndB (sndB (sndB (sndB (sndB (sndB (sndB (sndB (sndB (sndB c))))))))))))) (unb (sndB (sndB (sndB (sndB (sndB (sndB (sndB (sndB (sndB (sndB (sndB (sndB c)))))))))))))) : Shut (∀ x0 x1 x2 x3 x4 x5 x6 x7 x8 x9 x10 x11 x12, P x0 x1 x2 x3 x4 x5 x6 x7 x8 x9 x10 x11 x12) := Shut.mk fun x0 x1 x2 x3 x4 x5 x6 x7 x8 x9 x10 x11 x12 => by
  have h3 := eps_box ne (fun c => P (unb (fstB c)) (unb (fstB (sndB c))) (unb (fstB (sndB (sndB c)))) (unb (fstB (sndB (sndB (sndB c))))) (unb (fstB (sndB (sndB (sndB (sndB c)))))) (unb (fstB (sndB (sndB (sndB (sndB (sndB c))))))) (unb (fstB (sndB (sndB (sndB (sndB (sndB (sndB c)))))))) (unb (fstB (sndB (sndB (sndB (sndB (sndB (sndB (sndB c))))))))) (unb (fstB (sndB (sndB (sndB (sndB (sndB (sndB (sndB (sndB c)))))))))) (unb (fstB (sndB (sndB (sndB (sndB (sndB (sndB (sndB (sndB (sndB c))))))))))) (unb (fstB (sndB (sndB (sndB (sndB (sndB (sndB (sndB (sndB (sndB (sndB c)))))))))))) (unb (fstB (sndB (sndB (sndB (sndB (sndB (sndB (sndB (sndB (sndB (sndB (sndB c))))))))))))) (unb (sndB (sndB (sndB (sndB (sndB (sndB (sndB (sndB (sndB (sndB (sndB (sndB c)))))))))))))) (by rw [e2, pick13] at h; exact h) (x0, x1, x2, x3, x4, x5, x6, x7, x8, x9, x10, x11, x12)
  with_unfolding_all exact h3
theorem nameK13 {t1 t2 t3 t4 t5 t6 t7 t8 t9 t10 t11 t12 t13 : Type} [ne : Nonempty (t1 × t2 × t3 × t4 × t5 × t6 × t7 × t8 × t9 × t10 × t11 × t12 × t13)] {P : t1 → t2 → t3 → t4 → t5 → t6 → t7 → t8 → t9 → t10 → t11 → t12 → t13 → Prop} (n : Nat) {c : Box (t1 × t2 × t3 × t4 × t5 × t6 × t7 × t8 × t9 × t10 × t11 × t12 × t13)} (i : CoeT (Al (Box (t1 × t2 × t3 × t4 × t5 × t6 × t7 × t8 × t9 × t10 × t11 × t12 × t13))) (pick13 n P) (Box (t1 × t2 × t3 × t4 × t5 × t6 × t7 × t8 × t9 × t10 × t11 × t12 × t13))) (e : i = CoeT.mk c) (e2 : c = pick13 n P) (h : Nm (unb (fstB c)) → Nm (unb (fstB (sndB c))) → Nm (unb (fstB (sndB (sndB c)))) → Nm (unb (fstB (sndB (sndB (sndB c))))) → Nm (unb (fstB (sndB (sndB (sndB (sndB c)))))) → Nm (unb (fstB (sndB (sndB (sndB (sndB (sndB c))))))) → Nm (unb (fstB (sndB (sndB (sndB (sndB (sndB (sndB c)))))))) → Nm (unb (fstB (sndB (sndB (sndB (sndB (sndB (sndB (sndB c))))))))) → Nm (unb (fstB (sndB (sndB (sndB (sndB (sndB (sndB (sndB (sndB c)))))))))) → Nm (unb (fstB (sndB (sndB (sndB (sndB (sndB (sndB (sndB (sndB (sndB c))))))))))) → Nm (unb (fstB (sndB (sndB (sndB (sndB (sndB (sndB (sndB (sndB (sndB (sndB c)))))))))))) → Nm (unb (fstB (sndB (sndB (sndB (sndB (sndB (sndB (sndB (sndB (sndB (sndB (sndB c))))))))))))) → Nm (unb (sndB (sndB (sndB (sndB (sndB (sndB (sndB (sndB (sndB (sndB (sndB (sndB c))))))))))))) → P (unb (fstB c)) (unb (fstB (sndB c))) (unb (fstB (sndB (sndB c)))) (unb (fstB (sndB (sndB (sndB c))))) (unb (fstB (sndB (sndB (sndB (sndB c)))))) (unb (fstB (sndB (sndB (sndB (sndB (sndB c))))))) (unb (fstB (sndB (sndB (sndB (sndB (sndB (sndB c)))))))) (unb (fstB (sndB (sndB (sndB (sndB (sndB (sndB (sndB c))))))))) (unb (fstB (sndB (sndB (sndB (sndB (sndB (sndB (sndB (sndB c)))))))))) (unb (fstB (sndB (sndB (sndB (sndB (sndB (sndB (sndB (sndB (sndB c))))))))))) (unb (fstB (sndB (sndB (sndB (sndB (sndB (sndB (sndB (sndB (sndB (sndB c)))))))))))) (unb (fstB (sndB (sndB (sndB (sndB (sndB (sndB (sndB (sndB (sndB (sndB (sndB c))))))))))))) (unb (sndB (sndB (sndB (sndB (sndB (sndB (sndB (sndB (sndB (sndB (sndB (sndB c)))))))))))))) : Shut (∀ x0 x1 x2 x3 x4 x5 x6 x7 x8 x9 x10 x11 x12, P x0 x1 x2 x3 x4 x5 x6 x7 x8 x9 x10 x11 x12) := closeK13 n i e e2 (h .mk .mk .mk .mk .mk .mk .mk .mk .mk .mk .mk .mk .mk)
theorem grd13 {t1 t2 t3 t4 t5 t6 t7 t8 t9 t10 t11 t12 t13 : Type} {P : t1 → t2 → t3 → t4 → t5 → t6 → t7 → t8 → t9 → t10 → t11 → t12 → t13 → Prop} (h : ∀ x0 x1 x2 x3 x4 x5 x6 x7 x8 x9 x10 x11 x12, P x0 x1 x2 x3 x4 x5 x6 x7 x8 x9 x10 x11 x12) : ∀ x0 x1 x2 x3 x4 x5 x6 x7 x8 x9 x10 x11 x12, P x0 x1 x2 x3 x4 x5 x6 x7 x8 x9 x10 x11 x12 := h

theorem toPi {p : Prop} {q : p → Prop} (h : ∀ x, q x) : ∀ x, q x := h
end Mine
open Lean in
local macro_rules
  | `(tactic| tm_at $s:str) => do
    let z := s.getString
    let k := (z.drop 3).toNat!
    let t := Syntax.mkNumLit (toString (← MonadQuotation.getCurrMacroScope))
    let b := mkIdent (`Mine ++ Name.mkSimple ("pick" ++ toString k))
    let p := z.take 3
    if p == "clo" || p == "nmx" then
      let a := mkIdent (`Mine ++ Name.mkSimple ((if p == "clo" then "closeK" else "nameK") ++ toString k))
      `(tactic| (with_reducible refine' no_implicit_lambda% (Mine.Shut.out ?_); with_unfolding_all refine' no_implicit_lambda% ($a $t (inferInstanceAs (CoeT (Mine.Al (Mine.Box _)) ($b _ _) (Mine.Al (Mine.Box _)))) ?e1 ?e2 ?_); (case e1 => exact rfl); (case e2 => exact rfl)))
    else Macro.throwUnsupported
open Lean in
local macro_rules
  | `(tactic| intro $xs:term*) => do
    let xs := xs.toList
    let ns := xs.map fun x => match x.raw with
      | .ident _ _ i _ => if i.hasMacroScopes then some i.eraseMacroScopes.toString else none
      | _ => if x.raw.isOfKind ``Parser.Term.hole then some "_" else none
    if xs.isEmpty || ns.contains none then Macro.throwUnsupported
    match xs with
    | [x] =>
      if (["B'", "E'", "F'", "FG'", "N'", "T'", "VS'", "X'", "Y'", "cells'", "gB", "gBack", "gG", "gG'", "gK", "gS", "gT", "gX", "hC'", "hE'", "hd'", "hx'", "l1", "l2", "news'", "rv'", "sA'"] : List String).contains (ns.map (·.get!)).head! then `(tactic| refine fun $x:term => ?_)
      else `(tactic| first | tm_at "clo1" | refine fun $x:term => ?_)
    | x :: rest =>
      let rest := rest.toArray
      let k := (ns.takeWhile fun n => !((["B'", "E'", "F'", "FG'", "N'", "T'", "VS'", "X'", "Y'", "cells'", "gB", "gBack", "gG", "gG'", "gK", "gS", "gT", "gX", "hC'", "hE'", "hd'", "hx'", "l1", "l2", "news'", "rv'", "sA'"] : List String).contains n.get!)).length
      if 99 ≤ k && k ≤ 6 then
        let lit := Syntax.mkStrLit ("clo" ++ toString k)
        let rk := (xs.drop k).toArray
        if rk.isEmpty then `(tactic| first | tm_at $lit:str | (intro $x:term; intro $rest:term*))
        else `(tactic| first | (tm_at $lit:str; intro $rk:term*) | (intro $x:term; intro $rest:term*))
      else `(tactic| (intro $x:term; intro $rest:term*))
    | [] => Macro.throwUnsupported
local macro_rules | `(tactic| k_fold) => `(tactic| skip)
local macro_rules | `(tactic| k_cells $Y:ident) => `(tactic| (revert $Y; k_extra "cells1"))
namespace Mine
theorem row30 : True := by
  k_with "kf" => repeat ((fail_if_success (fail_if_success (with_reducible refine no_implicit_lambda% (Mine.toPi ?_)))); set_option tactic.hygienic false in intro)
  trivial
end Mine
namespace Mine
theorem row31 : True := by
  k_with "kw" => repeat (first | ((fail_if_success (fail_if_success (with_reducible refine no_implicit_lambda% (Mine.toPi ?_)))); set_option tactic.hygienic false in intro) | ((fail_if_success (fail_if_success (with_reducible refine no_implicit_lambda% (Mine.grd1 ?_)))); first | ((fail_if_success (fail_if_success (with_reducible refine no_implicit_lambda% (Mine.grd13 ?_)))); tm_at "clo13") | ((fail_if_success (fail_if_success (with_reducible refine no_implicit_lambda% (Mine.grd12 ?_)))); tm_at "clo12") | ((fail_if_success (fail_if_success (with_reducible refine no_implicit_lambda% (Mine.grd11 ?_)))); tm_at "clo11") | ((fail_if_success (fail_if_success (with_reducible refine no_implicit_lambda% (Mine.grd10 ?_)))); tm_at "clo10") | ((fail_if_success (fail_if_success (with_reducible refine no_implicit_lambda% (Mine.grd9 ?_)))); tm_at "clo9") | ((fail_if_success (fail_if_success (with_reducible refine no_implicit_lambda% (Mine.grd8 ?_)))); tm_at "clo8") | ((fail_if_success (fail_if_success (with_reducible refine no_implicit_lambda% (Mine.grd7 ?_)))); tm_at "clo7") | ((fail_if_success (fail_if_success (with_reducible refine no_implicit_lambda% (Mine.grd6 ?_)))); tm_at "clo6") | ((fail_if_success (fail_if_success (with_reducible refine no_implicit_lambda% (Mine.grd5 ?_)))); tm_at "clo5") | ((fail_if_success (fail_if_success (with_reducible refine no_implicit_lambda% (Mine.grd4 ?_)))); tm_at "clo4") | ((fail_if_success (fail_if_success (with_reducible refine no_implicit_lambda% (Mine.grd3 ?_)))); tm_at "clo3") | ((fail_if_success (fail_if_success (with_reducible refine no_implicit_lambda% (Mine.grd2 ?_)))); tm_at "clo2") | tm_at "clo1"))
  trivial
end Mine
namespace Mine
theorem row32 : True := by
  k_with "kin" => set_option tactic.hygienic false in intros
  trivial
end Mine
namespace Mine
theorem row33 : True := by
  k_with "execs cons" => (k_here; k_gentoks; rename Nat => t9; revert t9; (first | tm_at "clo1" | refine fun t9 => ?_); fail_if_success k_gentoks)
  trivial
end Mine
namespace Mine
theorem row34 : True := by
  k_with "execs nil" => (k_here; k_gentoks; rename Nat => t9; revert t9; (first | tm_at "clo1" | refine fun t9 => ?_); fail_if_success k_gentoks)
  trivial
end Mine
namespace Mine
theorem row35 : True := by
  k_with "cells1" => (refine fun Yq8 => ?_; first
    | (have hYq8 := PyProof.Rows.CellsAre.one Yq8; obtain ⟨oq8, hEq8, d1q8⟩ := hYq8; subst hEq8; clear Yq8; revert oq8; k_extra "kw"; rename News _ _ _ _ => N7q8; try simp only [List.cons_append, List.nil_append] at N7q8)
    | (have hYq8 := PyProof.Rows.CellsAre.two Yq8; obtain ⟨oq8, o2q8, hEq8, d1q8, d2q8⟩ := hYq8; subst hEq8; clear Yq8; revert oq8 o2q8; k_extra "kw"; rename News _ _ _ _ => N7q8; try simp only [List.cons_append, List.nil_append] at N7q8)
    | (have hYq8 := PyProof.Rows.CellsAre.three Yq8; obtain ⟨oq8, o2q8, o3q8, hEq8, d1q8, d2q8, d3q8⟩ := hYq8; subst hEq8; clear Yq8; revert oq8 o2q8 o3q8; k_extra "kw"; rename News _ _ _ _ => N7q8; try simp only [List.cons_append, List.nil_append] at N7q8)
    | (have hYq8 := PyProof.Rows.CellsAre.four Yq8; obtain ⟨oq8, o2q8, o3q8, o4q8, hEq8, d1q8, d2q8, d3q8, d4q8⟩ := hYq8; subst hEq8; clear Yq8; revert oq8 o2q8 o3q8 o4q8; k_extra "kw"; rename News _ _ _ _ => N7q8; try simp only [List.cons_append, List.nil_append] at N7q8)
    | (have hYq8 := PyProof.Rows.kc_five Yq8; obtain ⟨oq8, o2q8, o3q8, o4q8, o5q8, hEq8, d1q8, d2q8, d3q8, d4q8, d5q8⟩ := hYq8; subst hEq8; clear Yq8; revert oq8 o2q8 o3q8 o4q8 o5q8; k_extra "kw"; rename News _ _ _ _ => N7q8; try simp only [List.cons_append, List.nil_append] at N7q8)
    | (have hYq8 := PyProof.Rows.kc_six Yq8; obtain ⟨oq8, o2q8, o3q8, o4q8, o5q8, o6q8, hEq8, d1q8, d2q8, d3q8, d4q8, d5q8, d6q8⟩ := hYq8; subst hEq8; clear Yq8; revert oq8 o2q8 o3q8 o4q8 o5q8 o6q8; k_extra "kw"; rename News _ _ _ _ => N7q8; try simp only [List.cons_append, List.nil_append] at N7q8))
  trivial
end Mine
namespace Mine
theorem st1 {x : Str} {a n l am : Int} (h2 : ¬ isSp x a) (e : (Txt.item x l == Str.ofString " ") = true) (h0 : am ≠ 0) (h3 : 0 ≤ l) (h4 : l ≤ a) (h5 : 0 ≤ am) (h6 : l + am = n) : 0 ≤ l + 1 ∧ l + 1 ≤ a ∧ 0 ≤ am - 1 ∧ l + 1 + (am - 1) = n := by
  have : l ≠ a := fun q => h2 (q ▸ e)
  omega
theorem st2 {x : Str} {len b n lp r am : Int} (h2 : ¬ isSp x (len - 1 - b)) (e : (Txt.item x r == Str.ofString " ") = true) (h0 : am ≠ 0) (h3 : len - 1 - b ≤ r) (h4 : r ≤ len - 1) (h5 : 0 ≤ am) (h6 : lp + (len - 1 - r) + am = n) : len - 1 - b ≤ r - 1 ∧ r - 1 ≤ len - 1 ∧ 0 ≤ am - 1 ∧ lp + (len - 1 - (r - 1)) + (am - 1) = n := by
  have : r ≠ len - 1 - b := fun q => h2 (q ▸ e)
  omega
theorem st3 {x : Str} {a b len i : Int} (h1 : ∀ i : Int, 0 ≤ i → i < a → isSp x i) (h3 : ∀ i : Int, i < len → len - 1 - b < i → isSp x i) (e : (Txt.item x i == Str.ofString " ") = false) : (i < 0 ∨ a ≤ i) ∧ (len ≤ i ∨ i ≤ len - 1 - b) := by
  have n1 : ¬ isSp x i := fun q => by unfold isSp at q; rw [e] at q; cases q
  refine ⟨?_, ?_⟩
  · by_cases h : 0 ≤ i ∧ i < a
    · exact absurd (h1 i h.1 h.2) n1
    · omega
  · by_cases h : i < len ∧ len - 1 - b < i
    · exact absurd (h3 i h.1 h.2) n1
    · omega
theorem fin1 {a n l am len b : Int} (h3 : l + am = n) (h0 : 0 ≤ l) (h1 : l ≤ a) (h2 : 0 ≤ am) (e : am = 0 ∨ (l < 0 ∨ a ≤ l) ∧ (len ≤ l ∨ l ≤ len - 1 - b)) : l = min a n := by
  subst h3
  rcases e with rfl | ⟨h | h, _⟩
  · rw [Int.add_zero, Int.min_eq_right h1]
  · exact absurd h0 (Int.not_le.mpr h)
  · have := Int.le_antisymm h1 h; subst this; rw [Int.min_eq_left (Int.le_add_of_nonneg_right h2)]
theorem fin2 {a b n lp r am len : Int} (h3 : lp + (len - 1 - r) + am = n) (hl : lp = min a n) (h0 : len - 1 - b ≤ r) (h1 : r ≤ len - 1) (h2 : 0 ≤ am) (ha : 0 ≤ a) (hab : a + b < len) (e : am = 0 ∨ r ≤ len - 1 - b) : r + 1 = len - min b (n - min a n) := by omega
theorem fin3 {a r len b : Int} (h : (r < 0 ∨ a ≤ r) ∧ (len ≤ r ∨ r ≤ len - 1 - b)) (h1 : r ≤ len - 1) : r ≤ len - 1 - b := by omega
section
variable {w : World} {A : Around} {base g : Heap} {fr : List Env} {mg mb : Str → Option Value} {p : Program} {loose : List Str} {mean : ExcName → Option Value} {s : Shared} {R : Result → Shared → Prop}
  (B : Below A base fr g) (X : Frag.In (hd.heap_39 w.params) g) (T : Top p loose mean mg mb g)
include B X T
end
namespace Cstrip_c
noncomputable def Stmt (w : World) (A : Around) (base g : Heap) (fr : List Env) (mg mb : Str → Option Value) (p : Program) (loose : List Str) (mean : ExcName → Option Value) (s : Shared) (R : Result → Shared → Prop) (x : Str) (n a b len : Int) (tx tn : Tok) : Prop := ∀ (B : Below A base fr g) (X : Frag.In (hd.heap_39 w.params) g) (T : Top p loose mean mg mb g) (G : GS g s.heap []) (hroom : A.depth + 1 < recursionLimit) (hu : A.units + 10 < cLine) (hx : (x.length : Int) = len) (hl : len ≤ 100) (ha : 0 ≤ a) (hb : 0 ≤ b) (hab : a + b < len) (h1 : ∀ i : Int, 0 ≤ i → i < a → isSp x i) (h2 : ¬ isSp x a) (h3 : ∀ i : Int, i < len → len - 1 - b < i → isSp x i) (h4 : ¬ isSp x (len - 1 - b)) (h0 : 0 ≤ n) (h : ∀ h' tk tk' lp rp, lp = min a n → rp = len - min b (n - min a n) → GS g h' [] → R (.ok (.ret (.str (Txt.slice x (some lp) (some rp)) tk))) { s with heap := h', toks := tk' }), codeAny (model Challenge.rw_st0024_01.row.prog w) A (.call (.ref 45) ⟨[.str x tx, .int n tn], []⟩) R s
noncomputable def P0 (z : World × Around × Heap × Heap × (List Env) × (Str → Option Value) × (Str → Option Value) × Program × (List Str) × (ExcName → Option Value) × Shared × (Result → Shared → Prop) × Str × Int × Int × Int × Int × Tok × Tok) : Prop := Stmt (z.1) (z.2.1) (z.2.2.1) (z.2.2.2.1) (z.2.2.2.2.1) (z.2.2.2.2.2.1) (z.2.2.2.2.2.2.1) (z.2.2.2.2.2.2.2.1) (z.2.2.2.2.2.2.2.2.1) (z.2.2.2.2.2.2.2.2.2.1) (z.2.2.2.2.2.2.2.2.2.2.1) (z.2.2.2.2.2.2.2.2.2.2.2.1) (z.2.2.2.2.2.2.2.2.2.2.2.2.1) (z.2.2.2.2.2.2.2.2.2.2.2.2.2.1) (z.2.2.2.2.2.2.2.2.2.2.2.2.2.2.1) (z.2.2.2.2.2.2.2.2.2.2.2.2.2.2.2.1) (z.2.2.2.2.2.2.2.2.2.2.2.2.2.2.2.2.1) (z.2.2.2.2.2.2.2.2.2.2.2.2.2.2.2.2.2.1) (z.2.2.2.2.2.2.2.2.2.2.2.2.2.2.2.2.2.2)
noncomputable def Z := @Classical.epsilon _ ⟨(w00, A00, default, default, [], (fun _ => none), (fun _ => none), default, [], (fun _ => none), s00, (fun _ _ => True), default, 0, 0, 0, 0, 0, 0)⟩ fun z => ¬ P0 z
@[irreducible] noncomputable def w := Z.1
@[irreducible] noncomputable def A := Z.2.1
@[irreducible] noncomputable def base := Z.2.2.1
@[irreducible] noncomputable def g := Z.2.2.2.1
@[irreducible] noncomputable def fr := Z.2.2.2.2.1
@[irreducible] noncomputable def mg := Z.2.2.2.2.2.1
@[irreducible] noncomputable def mb := Z.2.2.2.2.2.2.1
@[irreducible] noncomputable def p := Z.2.2.2.2.2.2.2.1
@[irreducible] noncomputable def loose := Z.2.2.2.2.2.2.2.2.1
@[irreducible] noncomputable def mean := Z.2.2.2.2.2.2.2.2.2.1
@[irreducible] noncomputable def s := Z.2.2.2.2.2.2.2.2.2.2.1
@[irreducible] noncomputable def R := Z.2.2.2.2.2.2.2.2.2.2.2.1
@[irreducible] noncomputable def x := Z.2.2.2.2.2.2.2.2.2.2.2.2.1
@[irreducible] noncomputable def n := Z.2.2.2.2.2.2.2.2.2.2.2.2.2.1
@[irreducible] noncomputable def a := Z.2.2.2.2.2.2.2.2.2.2.2.2.2.2.1
@[irreducible] noncomputable def b := Z.2.2.2.2.2.2.2.2.2.2.2.2.2.2.2.1
@[irreducible] noncomputable def len := Z.2.2.2.2.2.2.2.2.2.2.2.2.2.2.2.2.1
@[irreducible] noncomputable def tx := Z.2.2.2.2.2.2.2.2.2.2.2.2.2.2.2.2.2.1
@[irreducible] noncomputable def tn := Z.2.2.2.2.2.2.2.2.2.2.2.2.2.2.2.2.2.2
set_option maxHeartbeats 4000000 in
theorem key : Stmt w A base g fr mg mb p loose mean s R x n a b len tx tn := fun B X T G hroom hu hx hl ha hb hab h1 h2 h3 h4 h0 h => by
  revert X; k_fill; intro X
  keq_rows
  k_with "exec While BoolOp cons nil" => k_while (fun _ lpos amount => 0 ≤ lpos ∧ lpos ≤ a ∧ 0 ≤ amount ∧ lpos + amount = n) (fun _ _ amount => amount.toNat) "lpos" "amount"
  k_with "exec While BoolOp cons nil" => k_while_given ["lpos"] (fun lp _ rpos amount => len - 1 - b ≤ rpos ∧ rpos ≤ len - 1 ∧ 0 ≤ amount ∧ lp + (len - 1 - rpos) + amount = n) (fun _ _ _ amount => amount.toNat) "rpos" "amount"
  k_with "state" => k_dflt (exact st1 h2 (by assumption) (by assumption) (by assumption) (by assumption) (by assumption) (by assumption))
  k_with "state" => k_dflt (exact st2 h4 (by assumption) (by assumption) (by assumption) (by assumption) (by assumption) (by assumption))
  k_steps
  all_goals (try (rename ((Txt.item x _ == Str.ofString " ") = false) => e1; have q1 := st3 h1 h3 e1; clear e1))
  all_goals (try (rename ((Txt.item x _ == Str.ofString " ") = false) => e1; have q2 := st3 h1 h3 e1; clear e1))
  all_goals (refine h _ _ _ _ _ ?_ ?_ (by assumption); exact fin1 (len := len) (b := b) (by with_reducible assumption) (by with_reducible assumption) (by with_reducible assumption) (by with_reducible assumption) (by first | exact .inl (by with_reducible assumption) | exact .inr (by with_reducible assumption)); exact fin2 (by with_reducible assumption) (fin1 (len := len) (b := b) (by with_reducible assumption) (by with_reducible assumption) (by with_reducible assumption) (by with_reducible assumption) (by first | exact .inl (by with_reducible assumption) | exact .inr (by with_reducible assumption))) (by with_reducible assumption) (by with_reducible assumption) (by with_reducible assumption) ha hab (by first | exact .inl (by with_reducible assumption) | exact .inr (fin3 (by with_reducible assumption) (by with_reducible assumption)) | exact .inl (by omega)))
theorem zeq : (w, A, base, g, fr, mg, mb, p, loose, mean, s, R, x, n, a, b, len, tx, tn) = Z := by with_unfolding_all rfl
end Cstrip_c
set_option maxHeartbeats 4000000 in
theorem strip_c {w : World} {A : Around} {base g : Heap} {fr : List Env} {mg mb : Str → Option Value} {p : Program} {loose : List Str} {mean : ExcName → Option Value} {s : Shared} {R : Result → Shared → Prop} {x : Str} {n a b len : Int} {tx tn : Tok} : Cstrip_c.Stmt w A base g fr mg mb p loose mean s R x n a b len tx tn :=
  hilb Cstrip_c.P0 Cstrip_c.Z rfl (Eq.subst (motive := Cstrip_c.P0) Cstrip_c.zeq Cstrip_c.key) (w, A, base, g, fr, mg, mb, p, loose, mean, s, R, x, n, a, b, len, tx, tn)
section
end
end Mine

namespace Mine
theorem lex_of2 {w : World} {g h' : Heap} {x2 d2 pb f c' x1 d1 gg c l1 P : Addr} {oc oC o1 oP : Obj} {qual : Str} {pm ct : Value} {a0 a1 a2 a3 a4 a5 a6 a7 a8 a9 a10 a11 u : Tok} {vs : List Value} {gn : Nat}
    (N : GS g h' [(pb, W.listOf #[] 0), (x2, instObj 83 d2),
      (d2, dictOf [ky w "lineno" a0 (.int 1 u), ky w "instream" a1 (.ref x1), ky w "whitespace" a2 (.str (Str.ofString "\n\t\x0d ") a3), ky w "pushback" a4 (.ref pb)] 4),
      (f, kla_obj (Str.ofString "<lambda>") qual lamP lamB lamS [(Str.ofString "signs", c)] pm c' ct), (c', oc), (l1, o1), (x1, instObj 83 d1),
      (d1, dictOf [ky w "lineno" a5 (.int 1 a6), ky w "instream" a7 .none, ky w "whitespace" a8 (.str (Str.ofString "\n\t\x0d ") a9), ky w "pushback" a10 (.ref l1), ky w "read" a11 (.ref f)] 5),
      (gg, W.listOf vs.reverse.toArray gn), (c, oC), (P, oP)]) :
    GS g h' (lexNews w ⟨x2, d2, pb, f, c', x1, d1, gg, c, .ref l1, oc, oC, qual, pm, ct, tokF a0 a1 a2 a3 a4 a5 a6 a7 a8 a9 a10 a11⟩ 1 u [] 0 vs gn ++ [(P, oP)]) := by
  refine ⟨N.stays, N.size, fun p hp => ?_⟩
  rcases List.mem_append.mp hp with hp | hp
  · exact (lex_of N).news p hp
  · refine N.news p ?_
    rw [List.mem_singleton.mp hp]
    simp only [List.mem_cons, true_or, or_true]
section
variable {w : World} {A : Around} {base g : Heap} {fr : List Env} {mg mb : Str → Option Value} {p : Program} {loose : List Str} {mean : ExcName → Option Value} {s : Shared} {R : Result → Shared → Prop}
  (B : Below A base fr g) (X : Frag.In (hd.heap_39 w.params) g) (T : Top p loose mean mg mb g)
include B X T
end
namespace Clexer_c
noncomputable def Stmt (w : World) (A : Around) (base g : Heap) (fr : List Env) (mg mb : Str → Option Value) (p : Program) (loose : List Str) (mean : ExcName → Option Value) (s : Shared) (R : Result → Shared → Prop) (x : Str) (tx : Tok) : Prop := ∀ (B : Below A base fr g) (X : Frag.In (hd.heap_39 w.params) g) (T : Top p loose mean mg mb g) (G : GS g s.heap [(224, tabObj #[])]) (C : CodeHd base 228 224) (hh : A.handled = none) (hroom : A.depth + 3 < recursionLimit) (hu : A.units + 20 < cLine) (hx : x.length ≤ 1000) (h : ∀ q vs u gn ps h' tk, LexF q → (∀ a ∈ [q.pb, q.x2, q.d2, q.f, q.c', q.x1, q.d1, q.g, q.c], @LT.lt Nat _ 224 a) → StrsAre vs (chs x) → GS g h' (lexNews w q 1 u [] 0 vs gn ++ [(224, tabObj ps)]) → R (.ok (.ret (.ref q.x2))) { s with heap := h', toks := tk }), codeAny (model Challenge.rw_st0024_01.row.prog w) A (.call (.ref 229) ⟨[.str x tx], []⟩) R s
noncomputable def P0 (z : World × Around × Heap × Heap × (List Env) × (Str → Option Value) × (Str → Option Value) × Program × (List Str) × (ExcName → Option Value) × Shared × (Result → Shared → Prop) × Str × Tok) : Prop := Stmt (z.1) (z.2.1) (z.2.2.1) (z.2.2.2.1) (z.2.2.2.2.1) (z.2.2.2.2.2.1) (z.2.2.2.2.2.2.1) (z.2.2.2.2.2.2.2.1) (z.2.2.2.2.2.2.2.2.1) (z.2.2.2.2.2.2.2.2.2.1) (z.2.2.2.2.2.2.2.2.2.2.1) (z.2.2.2.2.2.2.2.2.2.2.2.1) (z.2.2.2.2.2.2.2.2.2.2.2.2.1) (z.2.2.2.2.2.2.2.2.2.2.2.2.2)
noncomputable def Z := @Classical.epsilon _ ⟨(w00, A00, default, default, [], (fun _ => none), (fun _ => none), default, [], (fun _ => none), s00, (fun _ _ => True), default, 0)⟩ fun z => ¬ P0 z
@[irreducible] noncomputable def w := Z.1
@[irreducible] noncomputable def A := Z.2.1
@[irreducible] noncomputable def base := Z.2.2.1
@[irreducible] noncomputable def g := Z.2.2.2.1
@[irreducible] noncomputable def fr := Z.2.2.2.2.1
@[irreducible] noncomputable def mg := Z.2.2.2.2.2.1
@[irreducible] noncomputable def mb := Z.2.2.2.2.2.2.1
@[irreducible] noncomputable def p := Z.2.2.2.2.2.2.2.1
@[irreducible] noncomputable def loose := Z.2.2.2.2.2.2.2.2.1
@[irreducible] noncomputable def mean := Z.2.2.2.2.2.2.2.2.2.1
@[irreducible] noncomputable def s := Z.2.2.2.2.2.2.2.2.2.2.1
@[irreducible] noncomputable def R := Z.2.2.2.2.2.2.2.2.2.2.2.1
@[irreducible] noncomputable def x := Z.2.2.2.2.2.2.2.2.2.2.2.2.1
@[irreducible] noncomputable def tx := Z.2.2.2.2.2.2.2.2.2.2.2.2.2
set_option maxHeartbeats 4000000 in
theorem key : Stmt w A base g fr mg mb p loose mean s R x tx := fun B X T G C hh hroom hu hx h => by
  revert X; k_fill; intro X
  keq_rows
  k_steps
  refine h _ _ _ _ _ _ _ ?_ ?_ (by assumption) (lex_of2 (by assumption))
  · refine ⟨⟨_, _, by assumption, by assumption⟩, by assumption, ?_⟩
    dsimp only
    omega
  · intro a ha
    simp only [List.mem_cons, List.not_mem_nil, or_false] at ha
    rcases ha with rfl | rfl | rfl | rfl | rfl | rfl | rfl | rfl | rfl <;> omega
theorem zeq : (w, A, base, g, fr, mg, mb, p, loose, mean, s, R, x, tx) = Z := by with_unfolding_all rfl
end Clexer_c
set_option maxHeartbeats 4000000 in
theorem lexer_c {w : World} {A : Around} {base g : Heap} {fr : List Env} {mg mb : Str → Option Value} {p : Program} {loose : List Str} {mean : ExcName → Option Value} {s : Shared} {R : Result → Shared → Prop} {x : Str} {tx : Tok} : Clexer_c.Stmt w A base g fr mg mb p loose mean s R x tx :=
  hilb Clexer_c.P0 Clexer_c.Z rfl (Eq.subst (motive := Clexer_c.P0) Clexer_c.zeq Clexer_c.key) (w, A, base, g, fr, mg, mb, p, loose, mean, s, R, x, tx)
section
end
end Mine

namespace Mine
section
variable {w : World} {A : Around} {base g : Heap} {fr : List Env} {mg mb : Str → Option Value} {p : Program} {loose : List Str} {mean : ExcName → Option Value} {s : Shared} {R : Result → Shared → Prop}
  (B : Below A base fr g) (X : Frag.In (hd.heap_39 w.params) g) (T : Top p loose mean mg mb g)
include B X T
end
namespace Creadc_c
noncomputable def Stmt (w : World) (A : Around) (base g : Heap) (fr : List Env) (mg mb : Str → Option Value) (p : Program) (loose : List Str) (mean : ExcName → Option Value) (s : Shared) (R : Result → Shared → Prop) (q : LexP) (ln : Int) (u : Tok) (pbs : List Value) (pn : Nat) (vs : List Value) (gn : Nat) (c : Str) (tc : Tok) : Prop := ∀ (B : Below A base fr g) (X : Frag.In (hd.heap_39 w.params) g) (T : Top p loose mean mg mb g) (G : GS g s.heap (lexNews w q ln u pbs pn (.str c tc :: vs) gn)) (C : CodeHd base 228 224) (I : LexF q) (hh : A.handled = none) (hroom : A.depth + 4 < recursionLimit) (hu : A.units + 20 < cLine) (hvs : vs.length ≤ 1000) (h : ∀ u' h' tk tk', GS g h' (lexNews w q (if (c == Str.ofString "\n") = true then ln + 1 else ln) u' pbs pn vs (gn + 1)) → R (.ok (.ret (.str c tk))) { s with heap := h', toks := tk' }), codeAny (model Challenge.rw_st0024_01.row.prog w) A (.call (.ref 66) ⟨[.ref q.x2], []⟩) R s
noncomputable def P0 (z : World × Around × Heap × Heap × (List Env) × (Str → Option Value) × (Str → Option Value) × Program × (List Str) × (ExcName → Option Value) × Shared × (Result → Shared → Prop) × LexP × Int × Tok × (List Value) × Nat × (List Value) × Nat × Str × Tok) : Prop := Stmt (z.1) (z.2.1) (z.2.2.1) (z.2.2.2.1) (z.2.2.2.2.1) (z.2.2.2.2.2.1) (z.2.2.2.2.2.2.1) (z.2.2.2.2.2.2.2.1) (z.2.2.2.2.2.2.2.2.1) (z.2.2.2.2.2.2.2.2.2.1) (z.2.2.2.2.2.2.2.2.2.2.1) (z.2.2.2.2.2.2.2.2.2.2.2.1) (z.2.2.2.2.2.2.2.2.2.2.2.2.1) (z.2.2.2.2.2.2.2.2.2.2.2.2.2.1) (z.2.2.2.2.2.2.2.2.2.2.2.2.2.2.1) (z.2.2.2.2.2.2.2.2.2.2.2.2.2.2.2.1) (z.2.2.2.2.2.2.2.2.2.2.2.2.2.2.2.2.1) (z.2.2.2.2.2.2.2.2.2.2.2.2.2.2.2.2.2.1) (z.2.2.2.2.2.2.2.2.2.2.2.2.2.2.2.2.2.2.1) (z.2.2.2.2.2.2.2.2.2.2.2.2.2.2.2.2.2.2.2.1) (z.2.2.2.2.2.2.2.2.2.2.2.2.2.2.2.2.2.2.2.2)
noncomputable def Z := @Classical.epsilon _ ⟨(w00, A00, default, default, [], (fun _ => none), (fun _ => none), default, [], (fun _ => none), s00, (fun _ _ => True), lex00, 0, 0, [], 0, [], 0, default, 0)⟩ fun z => ¬ P0 z
@[irreducible] noncomputable def w := Z.1
@[irreducible] noncomputable def A := Z.2.1
@[irreducible] noncomputable def base := Z.2.2.1
@[irreducible] noncomputable def g := Z.2.2.2.1
@[irreducible] noncomputable def fr := Z.2.2.2.2.1
@[irreducible] noncomputable def mg := Z.2.2.2.2.2.1
@[irreducible] noncomputable def mb := Z.2.2.2.2.2.2.1
@[irreducible] noncomputable def p := Z.2.2.2.2.2.2.2.1
@[irreducible] noncomputable def loose := Z.2.2.2.2.2.2.2.2.1
@[irreducible] noncomputable def mean := Z.2.2.2.2.2.2.2.2.2.1
@[irreducible] noncomputable def s := Z.2.2.2.2.2.2.2.2.2.2.1
@[irreducible] noncomputable def R := Z.2.2.2.2.2.2.2.2.2.2.2.1
@[irreducible] noncomputable def q := Z.2.2.2.2.2.2.2.2.2.2.2.2.1
@[irreducible] noncomputable def ln := Z.2.2.2.2.2.2.2.2.2.2.2.2.2.1
@[irreducible] noncomputable def u := Z.2.2.2.2.2.2.2.2.2.2.2.2.2.2.1
@[irreducible] noncomputable def pbs := Z.2.2.2.2.2.2.2.2.2.2.2.2.2.2.2.1
@[irreducible] noncomputable def pn := Z.2.2.2.2.2.2.2.2.2.2.2.2.2.2.2.2.1
@[irreducible] noncomputable def vs := Z.2.2.2.2.2.2.2.2.2.2.2.2.2.2.2.2.2.1
@[irreducible] noncomputable def gn := Z.2.2.2.2.2.2.2.2.2.2.2.2.2.2.2.2.2.2.1
@[irreducible] noncomputable def c := Z.2.2.2.2.2.2.2.2.2.2.2.2.2.2.2.2.2.2.2.1
@[irreducible] noncomputable def tc := Z.2.2.2.2.2.2.2.2.2.2.2.2.2.2.2.2.2.2.2.2
set_option maxHeartbeats 4000000 in
theorem key : Stmt w A base g fr mg mb p loose mean s R q ln u pbs pn vs gn c tc := fun B X T G C I hh hroom hu hvs h => by
  obtain ⟨⟨cvs, ct, hc1, hc2⟩, hcell, ho⟩ := I
  revert X; k_fill; intro X
  dsimp only [lexNews] at G; rw [List.reverse_cons] at G
  keq_rows
  k_steps
  · rw [if_pos (by assumption)] at h
    exact h _ _ _ _ (by assumption)
  · rw [if_neg (by rw [(by assumption : (c == Str.ofString "\n") = false)]; exact Bool.false_ne_true)] at h
    exact h _ _ _ _ (by assumption)
theorem zeq : (w, A, base, g, fr, mg, mb, p, loose, mean, s, R, q, ln, u, pbs, pn, vs, gn, c, tc) = Z := by with_unfolding_all rfl
end Creadc_c
set_option maxHeartbeats 4000000 in
theorem readc_c {w : World} {A : Around} {base g : Heap} {fr : List Env} {mg mb : Str → Option Value} {p : Program} {loose : List Str} {mean : ExcName → Option Value} {s : Shared} {R : Result → Shared → Prop} {q : LexP} {ln : Int} {u : Tok} {pbs : List Value} {pn : Nat} {vs : List Value} {gn : Nat} {c : Str} {tc : Tok} : Creadc_c.Stmt w A base g fr mg mb p loose mean s R q ln u pbs pn vs gn c tc :=
  hilb Creadc_c.P0 Creadc_c.Z rfl (Eq.subst (motive := Creadc_c.P0) Creadc_c.zeq Creadc_c.key) (w, A, base, g, fr, mg, mb, p, loose, mean, s, R, q, ln, u, pbs, pn, vs, gn, c, tc)
section
end
namespace Creadc_end
noncomputable def Stmt (w : World) (A : Around) (base g : Heap) (fr : List Env) (mg mb : Str → Option Value) (p : Program) (loose : List Str) (mean : ExcName → Option Value) (s : Shared) (R : Result → Shared → Prop) (q : LexP) (ln : Int) (u : Tok) (pbs : List Value) (pn gn : Nat) : Prop := ∀ (B : Below A base fr g) (X : Frag.In (hd.heap_39 w.params) g) (T : Top p loose mean mg mb g) (G : GS g s.heap (lexNews w q ln u pbs pn [] gn)) (C : CodeHd base 228 224) (I : LexF q) (hh : A.handled = none) (hroom : A.depth + 4 < recursionLimit) (hu : A.units + 20 < cLine) (h : ∀ h' tk tk', GS g h' (lexNews w q ln u pbs pn [] gn) → R (.ok (.ret (.str (Str.ofString "") tk))) { s with heap := h', toks := tk' }), codeAny (model Challenge.rw_st0024_01.row.prog w) A (.call (.ref 66) ⟨[.ref q.x2], []⟩) R s
noncomputable def P0 (z : World × Around × Heap × Heap × (List Env) × (Str → Option Value) × (Str → Option Value) × Program × (List Str) × (ExcName → Option Value) × Shared × (Result → Shared → Prop) × LexP × Int × Tok × (List Value) × Nat × Nat) : Prop := Stmt (z.1) (z.2.1) (z.2.2.1) (z.2.2.2.1) (z.2.2.2.2.1) (z.2.2.2.2.2.1) (z.2.2.2.2.2.2.1) (z.2.2.2.2.2.2.2.1) (z.2.2.2.2.2.2.2.2.1) (z.2.2.2.2.2.2.2.2.2.1) (z.2.2.2.2.2.2.2.2.2.2.1) (z.2.2.2.2.2.2.2.2.2.2.2.1) (z.2.2.2.2.2.2.2.2.2.2.2.2.1) (z.2.2.2.2.2.2.2.2.2.2.2.2.2.1) (z.2.2.2.2.2.2.2.2.2.2.2.2.2.2.1) (z.2.2.2.2.2.2.2.2.2.2.2.2.2.2.2.1) (z.2.2.2.2.2.2.2.2.2.2.2.2.2.2.2.2.1) (z.2.2.2.2.2.2.2.2.2.2.2.2.2.2.2.2.2)
noncomputable def Z := @Classical.epsilon _ ⟨(w00, A00, default, default, [], (fun _ => none), (fun _ => none), default, [], (fun _ => none), s00, (fun _ _ => True), lex00, 0, 0, [], 0, 0)⟩ fun z => ¬ P0 z
@[irreducible] noncomputable def w := Z.1
@[irreducible] noncomputable def A := Z.2.1
@[irreducible] noncomputable def base := Z.2.2.1
@[irreducible] noncomputable def g := Z.2.2.2.1
@[irreducible] noncomputable def fr := Z.2.2.2.2.1
@[irreducible] noncomputable def mg := Z.2.2.2.2.2.1
@[irreducible] noncomputable def mb := Z.2.2.2.2.2.2.1
@[irreducible] noncomputable def p := Z.2.2.2.2.2.2.2.1
@[irreducible] noncomputable def loose := Z.2.2.2.2.2.2.2.2.1
@[irreducible] noncomputable def mean := Z.2.2.2.2.2.2.2.2.2.1
@[irreducible] noncomputable def s := Z.2.2.2.2.2.2.2.2.2.2.1
@[irreducible] noncomputable def R := Z.2.2.2.2.2.2.2.2.2.2.2.1
@[irreducible] noncomputable def q := Z.2.2.2.2.2.2.2.2.2.2.2.2.1
@[irreducible] noncomputable def ln := Z.2.2.2.2.2.2.2.2.2.2.2.2.2.1
@[irreducible] noncomputable def u := Z.2.2.2.2.2.2.2.2.2.2.2.2.2.2.1
@[irreducible] noncomputable def pbs := Z.2.2.2.2.2.2.2.2.2.2.2.2.2.2.2.1
@[irreducible] noncomputable def pn := Z.2.2.2.2.2.2.2.2.2.2.2.2.2.2.2.2.1
@[irreducible] noncomputable def gn := Z.2.2.2.2.2.2.2.2.2.2.2.2.2.2.2.2.2
set_option maxHeartbeats 4000000 in
theorem key : Stmt w A base g fr mg mb p loose mean s R q ln u pbs pn gn := fun B X T G C I hh hroom hu h => by
  obtain ⟨⟨cvs, ct, hc1, hc2⟩, hcell, ho⟩ := I
  revert X; k_fill; intro X
  dsimp only [lexNews] at G
  keq_rows
  k_steps
  all_goals exact h _ _ _ (by assumption)
theorem zeq : (w, A, base, g, fr, mg, mb, p, loose, mean, s, R, q, ln, u, pbs, pn, gn) = Z := by with_unfolding_all rfl
end Creadc_end
set_option maxHeartbeats 4000000 in
theorem readc_end {w : World} {A : Around} {base g : Heap} {fr : List Env} {mg mb : Str → Option Value} {p : Program} {loose : List Str} {mean : ExcName → Option Value} {s : Shared} {R : Result → Shared → Prop} {q : LexP} {ln : Int} {u : Tok} {pbs : List Value} {pn gn : Nat} : Creadc_end.Stmt w A base g fr mg mb p loose mean s R q ln u pbs pn gn :=
  hilb Creadc_end.P0 Creadc_end.Z rfl (Eq.subst (motive := Creadc_end.P0) Creadc_end.zeq Creadc_end.key) (w, A, base, g, fr, mg, mb, p, loose, mean, s, R, q, ln, u, pbs, pn, gn)
section
end
end Mine

namespace Mine
theorem look66 (w : World) : ∃ of fd, (hd.heap_39 w.params).lookup 66 = some of ∧ of.data = .func fd := ⟨_, _, rfl, rfl⟩
noncomputable abbrev rdM (q : LexP) : Obj := methodObj (.ref 66) (.ref q.x2)
section
variable {prog : Program} {w : World} {A₀ A : Around} {base h₀ : Heap} {outer : List Env} {env : Env} {L : Addr} {m mg mb : Str → Option Value} {p : Program} {loose : List Str} {mean : ExcName → Option Value} {s : Shared} {E : Value → Shared → Prop} {Q : Option Value → Shared → Prop}
  {q : LexP} {ln : Int} {u : Tok} {pbs : List Value} {pn : Nat} {vs : List Value} {gn : Nat} {I b : Addr} {te : Tok} {rest : List (Addr × Obj)}
theorem off_lex (hI : @LT.lt Nat _ q.pb b ∧ @LT.lt Nat _ b I) (F : LexF q) (hr : ∀ p ∈ rest, ∀ a ∈ (lexNews w q ln u pbs pn vs gn).map (·.1), p.1 ≠ a) {o o' : Obj} :
    ∀ p ∈ (I, o) :: (b, o') :: rest, ∀ x ∈ lexNews w q ln u pbs pn vs gn, p.1 ≠ x.1 := by
  have ho := F.ord
  intro p hp x hx
  rcases List.mem_cons.mp hp with rfl | hp
  · simp only [lexNews, List.mem_cons, List.not_mem_nil, or_false] at hx
    show @Ne Nat I x.1
    rcases hx with rfl | rfl | rfl | rfl | rfl | rfl | rfl | rfl | rfl <;> (dsimp only; omega)
  · rcases List.mem_cons.mp hp with rfl | hp
    · simp only [lexNews, List.mem_cons, List.not_mem_nil, or_false] at hx
      show @Ne Nat b x.1
      rcases hx with rfl | rfl | rfl | rfl | rfl | rfl | rfl | rfl | rfl <;> (dsimp only; omega)
    · exact hr p hp _ (List.mem_map_of_mem hx)
theorem fr_but {I : Addr} {h h' : Heap} {o : Obj} {news : List (Addr × Obj)} (F : Fr h₀ L h m) (N : News h₀ L h news) (hm : (I, o) ∈ news) (hk : ∀ (a : Addr) (o : Obj), a ≠ I → h.get? a = some o → h'.get? a = some o) : Fr h₀ L h' m := by
  have n := N _ hm
  refine ⟨F.ns.extBut (fun a o na ea => hk a o na ea) n.2.1.symm, fun b o e => hk b o (fun z => ?_) (F.keep b o e), F.above⟩
  rw [z, n.2.2] at e; cases e
theorem next_item (B : Below A₀ base outer h₀) (F : Fr h₀ L s.heap m) (X : Frag.In (hd.heap_39 w.params) h₀)
    (N : News h₀ L s.heap (lexNews w q ln u pbs pn (.str c tc :: vs) gn ++ (I, citObj b E0 te) :: (b, rdM q) :: rest)) (T : Top p loose mean mg mb h₀) (hA : A.frames = some (env :: outer)) (hf : env.frame = some L) (hke : env.scope.kind = .function)
    (C : CodeHd base 228 224) (J : LexF q) (hI : @LT.lt Nat _ q.pb b ∧ @LT.lt Nat _ b I) (hr : ∀ p ∈ rest, ∀ a ∈ (lexNews w q ln u pbs pn (.str c tc :: vs) gn).map (·.1), p.1 ≠ a)
    (hh : A.handled = none) (hroom : A.depth + 4 < recursionLimit) (hu : A.units + 21 < cLine) (hvs : vs.length ≤ 1000) (hc : c ≠ E0)
    (h : ∀ u' h' tk tk', Fr h₀ L h' m → News h₀ L h' (lexNews w q (if (c == Str.ofString "\n") = true then ln + 1 else ln) u' pbs pn vs (gn + 1) ++ (I, citObj b E0 te) :: (b, rdM q) :: rest) → Q (some (.str c tk)) { s with heap := h', toks := tk' }) :
    wpAny (model Challenge.rw_st0024_01.row.prog w) A (pyNext (.ref I)) Q E s := by
  obtain ⟨g, Bg, Xg, Tg, Gg, back⟩ := GS.of (A := A.in1) (own := lexNews w q ln u pbs pn (.str c tc :: vs) gn) (rest := (I, citObj b E0 te) :: (b, rdM q) :: rest) B F X N T hA hf hke
    (fun p hp => List.mem_append_left _ hp) (fun p hp => List.mem_append_right _ hp) (off_lex hI J hr)
  obtain ⟨of, fd, e66, hd66⟩ : ∃ of fd, (hd.heap_39 w.params).lookup 66 = some of ∧ of.data = .func fd := by
    exact look66 w
  have N1 : News h₀ L s.heap ((I, citObj b E0 te) :: (b, rdM q) :: rest) := fun p hp => N p (List.mem_append_right _ hp)
  refine cit_next (N1.get (.head _)) (N1.get (.tail _ (.head _))) ((X.keeps F.keep) _ _ e66) hd66 hh ?_
  refine method_call (N1.get (.tail _ (.head _))) ?_
  refine readc_c Bg Xg Tg Gg C J hh hroom (by have : A.in1.units = A.units + 1 := rfl; omega) hvs fun u' h' tk tk' G' => ?_
  obtain ⟨F', N'⟩ := back h' _ G'
  have N2 : News h₀ L h' ((I, citObj b E0 te) :: (b, rdM q) :: rest) := fun p hp => N' p (List.mem_append_right _ hp)
  exact ⟨c, tk, rfl, N2.get (.head _), N2.get (.tail _ (.head _)), (X.keeps F'.keep) _ _ e66, fun _ => h u' h' tk tk' F' N', fun e => absurd e hc⟩
theorem next_end (B : Below A₀ base outer h₀) (F : Fr h₀ L s.heap m) (X : Frag.In (hd.heap_39 w.params) h₀)
    (N : News h₀ L s.heap (lexNews w q ln u pbs pn [] gn ++ (I, citObj b E0 te) :: (b, rdM q) :: rest)) (T : Top p loose mean mg mb h₀) (hA : A.frames = some (env :: outer)) (hf : env.frame = some L) (hke : env.scope.kind = .function)
    (C : CodeHd base 228 224) (J : LexF q) (hI : @LT.lt Nat _ q.pb b ∧ @LT.lt Nat _ b I) (hr : ∀ p ∈ rest, ∀ a ∈ (lexNews w q ln u pbs pn [] gn).map (·.1), p.1 ≠ a) (hr2 : ∀ p ∈ rest, p.1 ≠ I)
    (hh : A.handled = none) (hroom : A.depth + 4 < recursionLimit) (hu : A.units + 21 < cLine)
    (h : ∀ h' tk', Fr h₀ L h' m → News h₀ L h' (lexNews w q ln u pbs pn [] gn ++ (I, citEnd) :: (b, rdM q) :: rest) → Q none { s with heap := h', toks := tk' }) :
    wpAny (model Challenge.rw_st0024_01.row.prog w) A (pyNext (.ref I)) Q E s := by
  obtain ⟨g, Bg, Xg, Tg, Gg, back⟩ := GS.of (A := A.in1) (own := lexNews w q ln u pbs pn [] gn) (rest := (I, citObj b E0 te) :: (b, rdM q) :: rest) B F X N T hA hf hke
    (fun p hp => List.mem_append_left _ hp) (fun p hp => List.mem_append_right _ hp) (off_lex hI J hr)
  obtain ⟨of, fd, e66, hd66⟩ : ∃ of fd, (hd.heap_39 w.params).lookup 66 = some of ∧ of.data = .func fd := by
    exact look66 w
  have N1 : News h₀ L s.heap ((I, citObj b E0 te) :: (b, rdM q) :: rest) := fun p hp => N p (List.mem_append_right _ hp)
  refine cit_next (N1.get (.head _)) (N1.get (.tail _ (.head _))) ((X.keeps F.keep) _ _ e66) hd66 hh ?_
  refine method_call (N1.get (.tail _ (.head _))) ?_
  refine readc_end Bg Xg Tg Gg C J hh hroom (by have : A.in1.units = A.units + 1 := rfl; omega) fun h' tk tk' G' => ?_
  obtain ⟨F', N'⟩ := back h' _ G'
  have N2 : News h₀ L h' ((I, citObj b E0 te) :: (b, rdM q) :: rest) := fun p hp => N' p (List.mem_append_right _ hp)
  refine ⟨E0, tk, rfl, N2.get (.head _), N2.get (.tail _ (.head _)), (X.keeps F'.keep) _ _ e66, fun e => absurd rfl e, fun _ h2 hI2 hk2 _ => h h2 tk' (fr_but F' N2 (.head _) hk2) fun p hp => ?_⟩
  have nI : ∀ x : Addr × Obj, x.1 ≠ I → (h'.get? x.1 = some x.2 ∧ x.1 ≠ L ∧ h₀.get? x.1 = none) → h2.get? x.1 = some x.2 ∧ x.1 ≠ L ∧ h₀.get? x.1 = none := fun x hx n => ⟨hk2 _ _ hx n.1, n.2⟩
  rcases List.mem_append.mp hp with hp | hp
  · exact nI p (fun z => off_lex (o := citEnd) (o' := rdM q) hI J hr (I, citEnd) (.head _) p hp z.symm) (N' p (List.mem_append_left _ hp))
  · rcases List.mem_cons.mp hp with rfl | hp
    · exact ⟨hI2, (N2 _ (.head _)).2⟩
    · refine nI p (fun z => ?_) (N2 p (.tail _ hp))
      rcases List.mem_cons.mp hp with rfl | hp
      · have : @Eq Nat b I := z
        omega
      · exact hr2 p hp z
theorem next_ended (F : Fr h₀ L s.heap m) (N : News h₀ L s.heap rest) (hI : (I, citEnd) ∈ rest) (hh : A.handled = none)
    (h : ∀ h', Fr h₀ L h' m → News h₀ L h' rest → Q none { s with heap := h' }) : wpAny (model prog w) A (pyNext (.ref I)) Q E s :=
  cit_ended (N.get hI) hh fun h' hk _ => h h' (F.keeps hk) fun p hp => ⟨hk _ _ (N p hp).1, (N p hp).2⟩
theorem readc_K {c : Str} {tc : Tok} {Qv : Value → Shared → Prop} {o : Obj} (B : Below A₀ base outer h₀) (F : Fr h₀ L s.heap m) (X : Frag.In (hd.heap_39 w.params) h₀)
    (N : News h₀ L s.heap (lexNews w q ln u pbs pn (.str c tc :: vs) gn ++ (I, o) :: (b, rdM q) :: rest)) (T : Top p loose mean mg mb h₀) (hA : A.frames = some (env :: outer)) (hf : env.frame = some L) (hke : env.scope.kind = .function)
    (C : CodeHd base 228 224) (J : LexF q) (hI : @LT.lt Nat _ q.pb b ∧ @LT.lt Nat _ b I) (hr : ∀ p ∈ rest, ∀ a ∈ (lexNews w q ln u pbs pn (.str c tc :: vs) gn).map (·.1), p.1 ≠ a)
    (hh : A.handled = none) (hroom : A.depth + 4 < recursionLimit) (hu : A.units + 21 < cLine) (hvs : vs.length ≤ 1000)
    (h : ∀ u' h' tk tk', Fr h₀ L h' m → News h₀ L h' (lexNews w q (if (c == Str.ofString "\n") = true then ln + 1 else ln) u' pbs pn vs (gn + 1) ++ (I, o) :: (b, rdM q) :: rest) → Qv (.str c tk) { s with heap := h', toks := tk' }) :
    wpAny (model Challenge.rw_st0024_01.row.prog w) A (call (.ref 66) [.ref q.x2] []) Qv E s := by
  obtain ⟨g, Bg, Xg, Tg, Gg, back⟩ := GS.of (A := A) (own := lexNews w q ln u pbs pn (.str c tc :: vs) gn) (rest := (I, o) :: (b, rdM q) :: rest) B F X N T hA hf hke
    (fun p hp => List.mem_append_left _ hp) (fun p hp => List.mem_append_right _ hp) (off_lex hI J hr)
  refine wpAny_call (readc_c Bg Xg Tg Gg C J hh hroom (by omega) hvs fun u' h' tk tk' G' => ?_)
  obtain ⟨F', N'⟩ := back h' _ G'
  exact h u' h' tk tk' F' N'
end
end Mine

namespace Mine
/-- where the reading stands: the token so far, the signs to come, the line -/
inductive LoopSt (w : World) (q : LexP) (g : Heap) (L I b : Addr) (pn : Nat) (te : Tok) (s : Shared) (tok : Str) (ys : List Str) (ln : Int) (s' : Shared) : Prop
  | mk (h : Heap) (tk : Nat) (m : Str → Option Value) (vs : List Value) (t : Tok) (u : Tok) (gn : Nat) (_ : s' = { s with heap := h, toks := tk }) (_ : Fr g L h m) (_ : (∀ p ∈ [(Str.ofString "token", Value.str tok t), (Str.ofString "fiter", .ref I), (Str.ofString "self", .ref q.x2)], m p.1 = some p.2)) (_ : News g L h (lexNews w q ln u [] pn vs gn ++ [(I, citObj b E0 te), (b, rdM q)])) (_ : StrsAre vs ys) (_ : (∀ c ∈ ys, c.length = 1)) (_ : tok.length + ys.length ≤ 1000) : LoopSt w q g L I b pn te s tok ys ln s'
inductive EndSt (w : World) (q : LexP) (g : Heap) (L I b : Addr) (pn : Nat) (s : Shared) (tok : Str) (ln : Int) (s' : Shared) : Prop
  | mk (h : Heap) (tk : Nat) (m : Str → Option Value) (t : Tok) (u : Tok) (gn : Nat) (_ : s' = { s with heap := h, toks := tk }) (_ : Fr g L h m) (_ : (∀ p ∈ [(Str.ofString "token", Value.str tok t), (Str.ofString "fiter", .ref I), (Str.ofString "self", .ref q.x2)], m p.1 = some p.2)) (_ : News g L h (lexNews w q ln u [] pn [] gn ++ [(I, citEnd), (b, rdM q)])) : EndSt w q g L I b pn s tok ln s'
noncomputable def PQ (w : World) (q : LexP) (g : Heap) (L I b : Addr) (pn : Nat) (te : Tok) (s : Shared) (f : List Str → Str → Int → Option LexR) (res : LexR) (k : Nat) (s' : Shared) : Prop :=
  ∃ tok ys ln, LoopSt w q g L I b pn te s tok ys ln s' ∧ f ys tok ln = some res ∧ ys.length < k
noncomputable def PT (w : World) (q : LexP) (g : Heap) (L I b : Addr) (pn : Nat) (te : Tok) (s : Shared) (res : LexR) (k : Nat) (s' : Shared) : Prop :=
  (∃ ys ln, LoopSt w q g L I b pn te s E0 ys ln s' ∧ lexT ys ln = some res ∧ ys.length + 1 < k) ∨ (∃ tok ln, EndSt w q g L I b pn s tok ln s' ∧ res = (tok, [], ln) ∧ 0 < k)
end Mine

namespace Mine
theorem row36 : True := by
  k_with "call ref" => (k_here; (with_reducible show wpAny _ _ (call (Value.ref 66) _ _) _ _ _); k_dflt (refine' readc_K ?Br36 ?Fr36 ?Xr36 ?Nr36 ?Tr36 ?Ar36 ?fr36 ?kr36 ?Cr36 ?Jr36 ?Ir36 ?rr36 ?hhr36 ?hroomr36 ?hur36 ?hvr36 ?_; (case Br36 => assumption); (case Fr36 => k_asm); (case Xr36 => assumption); (case Nr36 => (rename News _ _ _ _ => rNq9; exact rNq9)); (case Tr36 => assumption); (case Ar36 => keq_hits); (case fr36 => exact rfl); (case kr36 => exact rfl); (case Cr36 => assumption); (case Jr36 => assumption); (case Ir36 => omega); (case rr36 => (((first | tm_at "clo1" | refine fun pq9 => ?_); (first | tm_at "clo1" | refine fun hpq9 => ?_)); cases hpq9)); (case hhr36 => assumption); (case hroomr36 => k_room); (case hur36 => (simp only [Around.deeper_units]; omega)); (case hvr36 => omega)); ((first | tm_at "clo1" | refine fun u'q9 => ?_); (first | tm_at "clo1" | refine fun h'q9 => ?_); (first | tm_at "clo1" | refine fun tkq9 => ?_); (first | tm_at "clo1" | refine fun tk'q9 => ?_); refine fun F'q9 => ?_; refine fun N'q9 => ?_); (try dsimp only [lexNews, List.cons_append, List.nil_append] at N'q9))
  trivial
end Mine

namespace Mine
section
variable {w : World} {A : Around} {base g : Heap} {fr : List Env} {mg mb : Str → Option Value} {p : Program} {loose : List Str} {mean : ExcName → Option Value} {s : Shared} {R : Result → Shared → Prop}
  (B : Below A base fr g) (X : Frag.In (hd.heap_39 w.params) g) (T : Top p loose mean mg mb g)
include B X T
end
namespace Cgt_pop
noncomputable def Stmt (w : World) (A : Around) (base g : Heap) (fr : List Env) (mg mb : Str → Option Value) (p : Program) (loose : List Str) (mean : ExcName → Option Value) (s : Shared) (R : Result → Shared → Prop) (q : LexP) (ln : Int) (u : Tok) (v : Value) (pbs : List Value) (pn : Nat) (vs : List Value) (gn : Nat) : Prop := ∀ (B : Below A base fr g) (X : Frag.In (hd.heap_39 w.params) g) (T : Top p loose mean mg mb g) (G : GS g s.heap (lexNews w q ln u (v :: pbs) pn vs gn)) (I : LexF q) (hh : A.handled = none) (hroom : A.depth + 4 < recursionLimit) (hu : A.units + 20 < cLine) (hz : pbs.length < 1000) (h : ∀ h' tk', GS g h' (lexNews w q ln u pbs (pn + 1) vs gn) → R (.ok (.ret v)) { s with heap := h', toks := tk' }), codeAny (model Challenge.rw_st0024_01.row.prog w) A (.call (.ref 73) ⟨[.ref q.x2], []⟩) R s
noncomputable def P0 (z : World × Around × Heap × Heap × (List Env) × (Str → Option Value) × (Str → Option Value) × Program × (List Str) × (ExcName → Option Value) × Shared × (Result → Shared → Prop) × LexP × Int × Tok × Value × (List Value) × Nat × (List Value) × Nat) : Prop := Stmt (z.1) (z.2.1) (z.2.2.1) (z.2.2.2.1) (z.2.2.2.2.1) (z.2.2.2.2.2.1) (z.2.2.2.2.2.2.1) (z.2.2.2.2.2.2.2.1) (z.2.2.2.2.2.2.2.2.1) (z.2.2.2.2.2.2.2.2.2.1) (z.2.2.2.2.2.2.2.2.2.2.1) (z.2.2.2.2.2.2.2.2.2.2.2.1) (z.2.2.2.2.2.2.2.2.2.2.2.2.1) (z.2.2.2.2.2.2.2.2.2.2.2.2.2.1) (z.2.2.2.2.2.2.2.2.2.2.2.2.2.2.1) (z.2.2.2.2.2.2.2.2.2.2.2.2.2.2.2.1) (z.2.2.2.2.2.2.2.2.2.2.2.2.2.2.2.2.1) (z.2.2.2.2.2.2.2.2.2.2.2.2.2.2.2.2.2.1) (z.2.2.2.2.2.2.2.2.2.2.2.2.2.2.2.2.2.2.1) (z.2.2.2.2.2.2.2.2.2.2.2.2.2.2.2.2.2.2.2)
noncomputable def Z := @Classical.epsilon _ ⟨(w00, A00, default, default, [], (fun _ => none), (fun _ => none), default, [], (fun _ => none), s00, (fun _ _ => True), lex00, 0, 0, .none, [], 0, [], 0)⟩ fun z => ¬ P0 z
@[irreducible] noncomputable def w := Z.1
@[irreducible] noncomputable def A := Z.2.1
@[irreducible] noncomputable def base := Z.2.2.1
@[irreducible] noncomputable def g := Z.2.2.2.1
@[irreducible] noncomputable def fr := Z.2.2.2.2.1
@[irreducible] noncomputable def mg := Z.2.2.2.2.2.1
@[irreducible] noncomputable def mb := Z.2.2.2.2.2.2.1
@[irreducible] noncomputable def p := Z.2.2.2.2.2.2.2.1
@[irreducible] noncomputable def loose := Z.2.2.2.2.2.2.2.2.1
@[irreducible] noncomputable def mean := Z.2.2.2.2.2.2.2.2.2.1
@[irreducible] noncomputable def s := Z.2.2.2.2.2.2.2.2.2.2.1
@[irreducible] noncomputable def R := Z.2.2.2.2.2.2.2.2.2.2.2.1
@[irreducible] noncomputable def q := Z.2.2.2.2.2.2.2.2.2.2.2.2.1
@[irreducible] noncomputable def ln := Z.2.2.2.2.2.2.2.2.2.2.2.2.2.1
@[irreducible] noncomputable def u := Z.2.2.2.2.2.2.2.2.2.2.2.2.2.2.1
@[irreducible] noncomputable def v := Z.2.2.2.2.2.2.2.2.2.2.2.2.2.2.2.1
@[irreducible] noncomputable def pbs := Z.2.2.2.2.2.2.2.2.2.2.2.2.2.2.2.2.1
@[irreducible] noncomputable def pn := Z.2.2.2.2.2.2.2.2.2.2.2.2.2.2.2.2.2.1
@[irreducible] noncomputable def vs := Z.2.2.2.2.2.2.2.2.2.2.2.2.2.2.2.2.2.2.1
@[irreducible] noncomputable def gn := Z.2.2.2.2.2.2.2.2.2.2.2.2.2.2.2.2.2.2.2
set_option maxHeartbeats 4000000 in
theorem key : Stmt w A base g fr mg mb p loose mean s R q ln u v pbs pn vs gn := fun B X T G I hh hroom hu hz h => by
  obtain ⟨⟨cvs, ct, hc1, hc2⟩, hcell, ho⟩ := I
  revert X; k_fill; intro X
  dsimp only [lexNews] at G
  keq_rows
  k_steps
  all_goals exact h _ _ (by assumption)
theorem zeq : (w, A, base, g, fr, mg, mb, p, loose, mean, s, R, q, ln, u, v, pbs, pn, vs, gn) = Z := by with_unfolding_all rfl
end Cgt_pop
set_option maxHeartbeats 4000000 in
theorem gt_pop {w : World} {A : Around} {base g : Heap} {fr : List Env} {mg mb : Str → Option Value} {p : Program} {loose : List Str} {mean : ExcName → Option Value} {s : Shared} {R : Result → Shared → Prop} {q : LexP} {ln : Int} {u : Tok} {v : Value} {pbs : List Value} {pn : Nat} {vs : List Value} {gn : Nat} : Cgt_pop.Stmt w A base g fr mg mb p loose mean s R q ln u v pbs pn vs gn :=
  hilb Cgt_pop.P0 Cgt_pop.Z rfl (Eq.subst (motive := Cgt_pop.P0) Cgt_pop.zeq Cgt_pop.key) (w, A, base, g, fr, mg, mb, p, loose, mean, s, R, q, ln, u, v, pbs, pn, vs, gn)
section
end
end Mine

namespace Mine
theorem row37 : True := by
  k_with "ite" => (k_here; first | refine ite_pos (by with_reducible assumption) ?_ | refine ite_neg (by with_reducible assumption) ?_ | refine ite_isFalse (by with_reducible assumption) ?_)
  trivial
theorem lex_front {w : World} {q : LexP} {g h : Heap} {L : Addr} {ln : Int} {u : Tok} {pbs vs : List Value} {pn gn : Nat} {a b : Addr × Obj} (N : News g L h (a :: b :: lexNews w q ln u pbs pn vs gn)) : News g L h (lexNews w q ln u pbs pn vs gn ++ [a, b]) := fun p hp => by
  rcases List.mem_append.mp hp with hp | hp
  · exact N p (.tail _ (.tail _ hp))
  · rcases List.mem_cons.mp hp with rfl | hp
    · exact N _ (.head _)
    · rw [List.mem_singleton.mp hp]; exact N _ (.tail _ (.head _))
theorem gs_lex {w : World} {q : LexP} {g h : Heap} {ln : Int} {u : Tok} {pbs vs : List Value} {pn gn : Nat} {rest : List (Addr × Obj)} (G : GS g h (lexNews w q ln u pbs pn vs gn ++ rest)) : GS g h (lexNews w q ln u pbs pn vs gn) := G.sub fun _ hp => List.mem_append_left _ hp
theorem bool_not {b : Bool} (h : ¬ b = true) : b = false := by simpa using h
theorem app_len (a b : Str) : (a ++ b).length = a.length + b.length := by show (a.cps ++ b.cps).size = _; simp [Str.length]
structure Kp (p : Prop) : Prop where
  out : p
theorem nm_pt {g h : Heap} {L I b : Addr} {te : Tok} {r l : List (Addr × Obj)} (N : News g L h (l ++ (I, citObj b E0 te) :: r)) : Nm L ∧ Nm I ∧ Nm b ∧ Nm te := ⟨.mk, .mk, .mk, .mk⟩
theorem strs_inv {vs : List Value} {ys : List Str} (h : StrsAre vs ys) : (vs = [] ∧ ys = []) ∨ ∃ d t vs2 ys2, vs = .str d t :: vs2 ∧ ys = d :: ys2 ∧ StrsAre vs2 ys2 := by
  cases h with
  | nil => exact .inl ⟨rfl, rfl⟩
  | cons _ _ h => exact .inr ⟨_, _, _, _, rfl, rfl, h⟩
section
variable {w : World} {A : Around} {base g : Heap} {fr : List Env} {mg mb : Str → Option Value} {p : Program} {loose : List Str} {mean : ExcName → Option Value} {s : Shared} {R : Result → Shared → Prop}
  (B : Below A base fr g) (X : Frag.In (hd.heap_39 w.params) g) (T : Top p loose mean mg mb g)
include B X T
end
namespace Cgt_read
noncomputable def Stmt (w : World) (A : Around) (base g : Heap) (fr : List Env) (mg mb : Str → Option Value) (p : Program) (loose : List Str) (mean : ExcName → Option Value) (s : Shared) (R : Result → Shared → Prop) (q : LexP) (ln : Int) (u : Tok) (pn : Nat) (vs : List Value) (gn : Nat) (ys : List Str) (res : LexR) : Prop := ∀ (B : Below A base fr g) (X : Frag.In (hd.heap_39 w.params) g) (T : Top p loose mean mg mb g) (G : GS g s.heap (lexNews w q ln u [] pn vs gn)) (C : CodeHd base 228 224) (I : LexF q) (hh : A.handled = none) (hroom : A.depth + 8 < recursionLimit) (hu : A.units + 60 < cLine) (hs : StrsAre vs ys) (hy : ∀ c ∈ ys, c.length = 1) (hl : ys.length ≤ 1000) (hx : lexT ys ln = some res) (h : ∀ vs' u' gn' h' tk tk', StrsAre vs' res.2.1 → GS g h' (lexNews w q res.2.2 u' [] pn vs' gn') → R (.ok (.ret (.str res.1 tk))) { s with heap := h', toks := tk' }), codeAny (model Challenge.rw_st0024_01.row.prog w) A (.call (.ref 73) ⟨[.ref q.x2], []⟩) R s
noncomputable def P0 (z : World × Around × Heap × Heap × (List Env) × (Str → Option Value) × (Str → Option Value) × Program × (List Str) × (ExcName → Option Value) × Shared × (Result → Shared → Prop) × LexP × Int × Tok × Nat × (List Value) × Nat × (List Str) × LexR) : Prop := Stmt (z.1) (z.2.1) (z.2.2.1) (z.2.2.2.1) (z.2.2.2.2.1) (z.2.2.2.2.2.1) (z.2.2.2.2.2.2.1) (z.2.2.2.2.2.2.2.1) (z.2.2.2.2.2.2.2.2.1) (z.2.2.2.2.2.2.2.2.2.1) (z.2.2.2.2.2.2.2.2.2.2.1) (z.2.2.2.2.2.2.2.2.2.2.2.1) (z.2.2.2.2.2.2.2.2.2.2.2.2.1) (z.2.2.2.2.2.2.2.2.2.2.2.2.2.1) (z.2.2.2.2.2.2.2.2.2.2.2.2.2.2.1) (z.2.2.2.2.2.2.2.2.2.2.2.2.2.2.2.1) (z.2.2.2.2.2.2.2.2.2.2.2.2.2.2.2.2.1) (z.2.2.2.2.2.2.2.2.2.2.2.2.2.2.2.2.2.1) (z.2.2.2.2.2.2.2.2.2.2.2.2.2.2.2.2.2.2.1) (z.2.2.2.2.2.2.2.2.2.2.2.2.2.2.2.2.2.2.2)
noncomputable def Z := @Classical.epsilon _ ⟨(w00, A00, default, default, [], (fun _ => none), (fun _ => none), default, [], (fun _ => none), s00, (fun _ _ => True), lex00, 0, 0, 0, [], 0, [], default)⟩ fun z => ¬ P0 z
@[irreducible] noncomputable def w := Z.1
@[irreducible] noncomputable def A := Z.2.1
@[irreducible] noncomputable def base := Z.2.2.1
@[irreducible] noncomputable def g := Z.2.2.2.1
@[irreducible] noncomputable def fr := Z.2.2.2.2.1
@[irreducible] noncomputable def mg := Z.2.2.2.2.2.1
@[irreducible] noncomputable def mb := Z.2.2.2.2.2.2.1
@[irreducible] noncomputable def p := Z.2.2.2.2.2.2.2.1
@[irreducible] noncomputable def loose := Z.2.2.2.2.2.2.2.2.1
@[irreducible] noncomputable def mean := Z.2.2.2.2.2.2.2.2.2.1
@[irreducible] noncomputable def s := Z.2.2.2.2.2.2.2.2.2.2.1
@[irreducible] noncomputable def R := Z.2.2.2.2.2.2.2.2.2.2.2.1
@[irreducible] noncomputable def q := Z.2.2.2.2.2.2.2.2.2.2.2.2.1
@[irreducible] noncomputable def ln := Z.2.2.2.2.2.2.2.2.2.2.2.2.2.1
@[irreducible] noncomputable def u := Z.2.2.2.2.2.2.2.2.2.2.2.2.2.2.1
@[irreducible] noncomputable def pn := Z.2.2.2.2.2.2.2.2.2.2.2.2.2.2.2.1
@[irreducible] noncomputable def vs := Z.2.2.2.2.2.2.2.2.2.2.2.2.2.2.2.2.1
@[irreducible] noncomputable def gn := Z.2.2.2.2.2.2.2.2.2.2.2.2.2.2.2.2.2.1
@[irreducible] noncomputable def ys := Z.2.2.2.2.2.2.2.2.2.2.2.2.2.2.2.2.2.2.1
@[irreducible] noncomputable def res := Z.2.2.2.2.2.2.2.2.2.2.2.2.2.2.2.2.2.2.2
set_option maxHeartbeats 4000000 in
noncomputable def run := fun (k1 : Kp (_ : Prop)) => ((fun B X T G C I hh hroom hu hs hy hl hx h => by
  have J := I
  obtain ⟨⟨cvs, ct, hc1, hc2⟩, hcell, ho⟩ := I
  (revert cvs ct; tm_at "nmx2"; refine fun cvs ct => ?_; k_extra "kw")
  revert X; k_fill; intro X
  dsimp only [lexNews] at G
  keq_rows
  k_steps
  (rename Fr _ _ _ _ => F1)
  (rename News _ _ _ _ => N1)
  obtain ⟨LL, I, b, te⟩ := nm_pt (lex_front N1)
  have hI : @LT.lt Nat _ q.pb b ∧ @LT.lt Nat _ b I := by omega
  refine fi_at (ys.length + 2) (PT w q g LL I b pn te s res) (.inl ⟨ys, ln, .mk _ _ _ _ _ _ _ rfl F1 (by kst_all) (lex_front N1) hs hy (by show 0 + ys.length ≤ 1000; omega), hx, by omega⟩) ?_
  clear F1 N1 hs hy hl hx
  intro k s' hP
  rcases hP with ⟨ys, ln, ⟨h', tk, m, vs, t, u, gn, rfl, F, hm, N, hs, h1, hl⟩, hlex, hk⟩ | ⟨tok, ln, ⟨h', tk, m, t, u, gn, rfl, F, hm, N⟩, hres, hk⟩
  · obtain ⟨j, rfl⟩ : ∃ j, k = j + 1 := ⟨k - 1, by omega⟩
    refine ⟨j, rfl, ?_⟩
    cases hs with
    | nil =>
      (revert ln h' tk m t u gn j; tm_at "nmx7"; refine fun ln h' tk m t u gn => ?_; k_extra "kf"; tm_at "nmx1"; refine fun j => ?_; k_extra "kw")
      refine next_end B F X N T (Around.frames_deeper B.stack) rfl rfl C J (by omega) (by intro p hp; cases hp) (by intro p hp; cases hp) hh (by show A.depth + 1 + 4 < _; omega) (by show A.units + 3 + 21 < _; omega) ?_
      (tm_at "nmx2"; refine fun h' tk' => ?_)
      intro F' N'
      have hres := Option.some.inj hlex
      have F1 := Fr.expose _ F' hm
      dsimp only [kstB] at F1
      dsimp only [lexNews, List.cons_append, List.nil_append] at N'
      dsimp only [OwitTurn]
      clear F N F'
      k_steps
      rw [← hres] at h
      exact h [] _ _ _ _ _ .nil (gs_lex (ln := ln) (u := u) (gn := gn) (pn := pn) (vs := []) (pbs := []) (rest := [_, _]) (by assumption))
    | @cons c t' vs' r hs' =>
      (revert ln h' tk m t u gn j c t' vs' r; tm_at "nmx7"; refine fun ln h' tk m t u gn => ?_; k_extra "kf"; tm_at "nmx1"; refine fun j => ?_; k_extra "kf"; tm_at "nmx4"; refine fun c t' vs' r => ?_; k_extra "kw")
      have hc1 : (c : Str).length = 1 := h1 c (.head _)
      have hr1 : ∀ d ∈ (r : List Str), d.length = 1 := fun d hd => h1 d (.tail _ hd)
      have hlv := StrsAre.length hs'
      have hl' : E0.length + (r : List Str).length + 1 ≤ 1000 := hl
      have hcE : (c : Str) ≠ E0 := fun e => by rw [e] at hc1; exact absurd hc1 (by decide)
      have hk' : (r : List Str).length + 1 + 1 < (j : Nat) + 1 := hk
      refine next_item B F X N T (Around.frames_deeper B.stack) rfl rfl C J (by omega) (by intro p hp; cases hp) hh (by show A.depth + 1 + 4 < _; omega) (by show A.units + 3 + 21 < _; omega) (by omega) hcE ?_
      (tm_at "nmx4"; refine fun u' h' tk tk' => ?_)
      intro F' N'
      have F1 := Fr.expose _ F' hm
      dsimp only [kstB] at F1
      dsimp only [OwitTurn]
      unfold lexT at hlex
      clear F N F'
      by_cases hw : wsE c = false
      · rw [if_pos hw] at hlex
        dsimp only [lexNews, List.cons_append, List.nil_append] at N'
        k_steps
        (rename News _ _ _ _ => N2)
        exact .inl ⟨r, bump c ln, .mk _ _ _ _ _ _ _ rfl (by assumption) (by kst_all) N2 hs' hr1 (by omega), hlex, by omega⟩
      · rw [if_neg hw] at hlex
        have hw : wsE c = true := by simpa using hw
        by_cases hq : ((c : Str) == qt) = true
        · rw [if_pos hq] at hlex
          dsimp only [lexNews, List.cons_append, List.nil_append] at N'
          k_steps
          (rename News _ _ _ _ => N2)
          refine fi_at ((r : List Str).length + 1) (PQ w q g LL I b pn te s lexQ res) ⟨E0, r, bump c ln, .mk _ _ _ _ _ _ _ rfl (by assumption) (by kst_all) N2 hs' hr1 (by omega), hlex, by omega⟩ ?_
          clear N2 hlex hl hk h1 hr1 hlv hs' hw hq hm
          intro k2 s2 hP
          rcases hP with ⟨tok, ys, ln, ⟨h', tk, m, vs, t, u, gn, rfl, F, hm, N, hs, h1, hl⟩, hlex, hk⟩
          obtain ⟨j2, rfl⟩ : ∃ j2, k2 = j2 + 1 := ⟨k2 - 1, by omega⟩
          refine ⟨j2, rfl, ?_⟩
          cases hs with
          | nil =>
            (revert tok ln h' tk m t u gn j2; tm_at "nmx8"; refine fun tok ln h' tk m t u gn => ?_; k_extra "kf"; tm_at "nmx1"; refine fun j2 => ?_; k_extra "kw")
            refine next_end B F X N T (Around.frames_deeper B.stack) rfl rfl C J (by omega) (by intro p hp; cases hp) (by intro p hp; cases hp) hh (by show A.depth + 1 + 4 < _; omega) (by show A.units + 3 + 21 < _; omega) ?_
            (tm_at "nmx2"; refine fun h' tk' => ?_)
            intro F' N'
            have hres := Option.some.inj hlex
            have F1 := Fr.expose _ F' hm
            dsimp only [kstB] at F1
            dsimp only [lexNews, List.cons_append, List.nil_append] at N'
            dsimp only [OwitTurn]
            clear F N F'
            k_steps
            (rename News _ _ _ _ => N2)
            exact .inr ⟨tok, ln, .mk _ _ _ _ _ _ rfl (by assumption) (by kst_all) N2, hres.symm, by omega⟩
          | @cons c t' vs' r hs' =>
            (revert tok ln h' tk m t u gn j2 c t' vs' r; tm_at "nmx8"; refine fun tok ln h' tk m t u gn => ?_; k_extra "kf"; tm_at "nmx1"; refine fun j2 => ?_; k_extra "kf"; tm_at "nmx4"; refine fun c t' vs' r => ?_; k_extra "kw")
            have hc1 : (c : Str).length = 1 := h1 c (.head _)
            have hr1 : ∀ d ∈ (r : List Str), d.length = 1 := fun d hd => h1 d (.tail _ hd)
            have hlv := StrsAre.length hs'
            have hl' : (tok : Str).length + ((r : List Str).length + 1) ≤ 1000 := hl
            have hcE : (c : Str) ≠ E0 := fun e => by rw [e] at hc1; exact absurd hc1 (by decide)
            have hk2 : (r : List Str).length + 1 < (j2 : Nat) + 1 := hk
            unfold lexQ at hlex
            by_cases hw : ((c : Str) == qt) = true
            · rw [if_pos hw] at hlex
              have hres := Option.some.inj hlex
              refine next_item B F X N T (Around.frames_deeper B.stack) rfl rfl C J (by omega) (by intro p hp; cases hp) hh (by show A.depth + 1 + 4 < _; omega) (by show A.units + 3 + 21 < _; omega) (by omega) hcE ?_
              (tm_at "nmx4"; refine fun u' h' tk tk' => ?_)
              intro F' N'
              have F1 := Fr.expose _ F' hm
              dsimp only [kstB] at F1
              dsimp only [OwitTurn]
              dsimp only [lexNews, List.cons_append, List.nil_append] at N'
              clear F N F'
              k_steps
              rw [← hres] at h
              exact h _ _ _ _ _ _ hs' (gs_lex (ln := bump c ln) (u := u') (gn := (gn : Nat) + 1) (pn := pn) (vs := vs') (pbs := []) (rest := [_, _]) (by assumption))
            · rw [if_neg hw] at hlex
              have hw := bool_not hw
              by_cases hb : ((c : Str) == bs) = true
              · rw [if_pos hb] at hlex
                obtain ⟨e1, e2⟩ | ⟨d, t'', vs'', r2, e1, e2, hs2⟩ := strs_inv hs'
                · rw [e2] at hlex; cases hlex
                · (revert d t'' vs'' r2; tm_at "nmx4"; refine fun d t'' vs'' r2 => ?_; k_extra "kw")
                  rw [e2] at hlex hr1 hl hk
                  rw [e1] at N
                  have hd1 : (d : Str).length = 1 := hr1 d (.head _)
                  have hr2 : ∀ d ∈ (r2 : List Str), d.length = 1 := fun d hd => hr1 d (.tail _ hd)
                  have hlv2 := StrsAre.length hs2
                  have hl2 : (tok : Str).length + ((r2 : List Str).length + 1 + 1) ≤ 1000 := hl
                  have hk3 : (r2 : List Str).length + 1 + 1 < (j2 : Nat) + 1 := hk
                  refine next_item B F X N T (Around.frames_deeper B.stack) rfl rfl C J (by omega) (by intro p hp; cases hp) hh (by show A.depth + 1 + 4 < _; omega) (by show A.units + 3 + 21 < _; omega) (by simp only [List.length_cons]; omega) hcE ?_
                  (tm_at "nmx4"; refine fun u' h' tk tk' => ?_)
                  intro F' N'
                  have F1 := Fr.expose _ F' hm
                  dsimp only [kstB] at F1
                  dsimp only [OwitTurn]
                  dsimp only [lexNews, List.cons_append, List.nil_append] at N'
                  clear F N F'
                  k_steps
                  (rename News _ _ _ _ => N2)
                  exact ⟨(tok : Str) ++ d, r2, bump d (bump c ln), .mk _ _ _ _ _ _ _ rfl (by assumption) (by kst_all) N2 hs2 hr2 (by rw [app_len]; omega), hlex, by omega⟩
              · rw [if_neg hb] at hlex
                have hb := bool_not hb
                refine next_item B F X N T (Around.frames_deeper B.stack) rfl rfl C J (by omega) (by intro p hp; cases hp) hh (by show A.depth + 1 + 4 < _; omega) (by show A.units + 3 + 21 < _; omega) (by omega) hcE ?_
                (tm_at "nmx4"; refine fun u' h' tk tk' => ?_)
                intro F' N'
                have F1 := Fr.expose _ F' hm
                dsimp only [kstB] at F1
                dsimp only [OwitTurn]
                dsimp only [lexNews, List.cons_append, List.nil_append] at N'
                clear F N F'
                k_steps
                (rename News _ _ _ _ => N2)
                exact ⟨(tok : Str) ++ c, r, bump c ln, .mk _ _ _ _ _ _ _ rfl (by assumption) (by kst_all) N2 hs' hr1 (by rw [app_len]; omega), hlex, by omega⟩
        · rw [if_neg hq] at hlex
          have hq := bool_not hq
          dsimp only [lexNews, List.cons_append, List.nil_append] at N'
          by_cases hb : ((c : Str) == bs) = true
          · rw [if_pos hb] at hlex
            obtain ⟨e1, e2⟩ | ⟨d, t'', vs'', r2, e1, e2, hs2⟩ := strs_inv hs'
            · rw [e2] at hlex; cases hlex
            · (revert d t'' vs'' r2; tm_at "nmx4"; refine fun d t'' vs'' r2 => ?_; k_extra "kw")
              rw [e2] at hlex hr1 hl hk
              rw [e1] at N'
              have hd1 : (d : Str).length = 1 := hr1 d (.head _)
              have hr2 : ∀ d ∈ (r2 : List Str), d.length = 1 := fun d hd => hr1 d (.tail _ hd)
              have hlv2 := StrsAre.length hs2
              have hl2 : E0.length + ((r2 : List Str).length + 1 + 1) ≤ 1000 := hl
              have hk3 : (r2 : List Str).length + 1 + 1 + 1 < (j : Nat) + 1 := hk
              k_steps
              (rename News _ _ _ _ => N2)
              refine fi_at ((r2 : List Str).length + 1) (fun k s' => PQ w q g LL I b pn te s lexB res k s' ∧ 0 < (j : Nat)) ⟨⟨E0 ++ d, r2, bump d (bump c ln), .mk _ _ _ _ _ _ _ rfl (by assumption) (by kst_all) N2 hs2 hr2 (by rw [app_len]; omega), hlex, by omega⟩, by omega⟩ ?_
              (revert G hI; exact k1.out)
          · rw [if_neg hb] at hlex
            have hb := bool_not hb
            k_steps
            (rename News _ _ _ _ => N2)
            refine fi_at ((r : List Str).length + 1) (fun k s' => PQ w q g LL I b pn te s lexB res k s' ∧ 0 < (j : Nat)) ⟨⟨E0 ++ c, r, bump c ln, .mk _ _ _ _ _ _ _ rfl (by assumption) (by kst_all) N2 hs' hr1 (by rw [app_len]; omega), hlex, by omega⟩, by omega⟩ ?_
            (revert G hI; exact k1.out)
  · obtain ⟨j, rfl⟩ : ∃ j, k = j + 1 := ⟨k - 1, by omega⟩
    refine ⟨j, rfl, ?_⟩
    (revert tok ln h' tk m t u gn j; tm_at "nmx8"; refine fun tok ln h' tk m t u gn => ?_; k_extra "kf"; tm_at "nmx1"; refine fun j => ?_; k_extra "kw")
    rw [hres] at h
    refine next_ended F N (by simp) hh ?_
    (tm_at "nmx1"; refine fun h' => ?_)
    intro F' N'
    have F1 := Fr.expose _ F' hm
    dsimp only [kstB] at F1
    dsimp only [OwitTurn]
    dsimp only [lexNews, List.cons_append, List.nil_append] at N'
    clear F N F'
    k_steps
    exact h [] _ _ _ _ _ .nil (gs_lex (ln := ln) (u := u) (gn := gn) (pn := pn) (vs := []) (pbs := []) (rest := [_, _]) (by assumption))
  ) : Stmt w A base g fr mg mb p loose mean s R q ln u pn vs gn ys res)
set_option maxHeartbeats 4000000 in
theorem key : Stmt w A base g fr mg mb p loose mean s R q ln u pn vs gn ys res := fun B X T G C I hh hroom hu hs hy hl hx h => by
  refine run ⟨?_⟩ B X T G C I hh hroom hu hs hy hl hx h
  intro G hI
  have J := I
  obtain ⟨⟨cvs, ct, hc1, hc2⟩, hcell, ho⟩ := I
  revert X; k_fill; intro X
  intro k2 s2 hP0
  obtain ⟨hP, hj0⟩ := hP0
  clear hs hy hl hx
  rcases hP with ⟨tok, ys, ln, ⟨h', tk, m, vs, t, u, gn, rfl, F, hm, N, hs, h1, hl⟩, hlex, hk⟩
  obtain ⟨j2, rfl⟩ : ∃ j2, k2 = j2 + 1 := ⟨k2 - 1, by omega⟩
  refine ⟨j2, rfl, ?_⟩
  cases hs with
  | nil =>
    (revert tok ln h' tk m t u gn j2; tm_at "nmx8"; refine fun tok ln h' tk m t u gn => ?_; k_extra "kf"; tm_at "nmx1"; refine fun j2 => ?_; k_extra "kw")
    refine next_end B F X N T (Around.frames_deeper B.stack) rfl rfl C J (by omega) (by intro p hp; cases hp) (by intro p hp; cases hp) hh (by show A.depth + 1 + 4 < _; omega) (by show A.units + 3 + 21 < _; omega) ?_
    (tm_at "nmx2"; refine fun h' tk' => ?_)
    intro F' N'
    have hres := Option.some.inj hlex
    have F1 := Fr.expose _ F' hm
    dsimp only [kstB] at F1
    dsimp only [lexNews, List.cons_append, List.nil_append] at N'
    dsimp only [OwitTurn]
    clear F N F'
    k_steps
    (rename News _ _ _ _ => N2)
    exact .inr ⟨tok, ln, .mk _ _ _ _ _ _ rfl (by assumption) (by kst_all) N2, hres.symm, hj0⟩
  | @cons c t' vs' r hs' =>
    (revert tok ln h' tk m t u gn j2 c t' vs' r; tm_at "nmx8"; refine fun tok ln h' tk m t u gn => ?_; k_extra "kf"; tm_at "nmx1"; refine fun j2 => ?_; k_extra "kf"; tm_at "nmx4"; refine fun c t' vs' r => ?_; k_extra "kw")
    have hc1 : (c : Str).length = 1 := h1 c (.head _)
    have hr1 : ∀ d ∈ (r : List Str), d.length = 1 := fun d hd => h1 d (.tail _ hd)
    have hlv := StrsAre.length hs'
    have hl' : (tok : Str).length + ((r : List Str).length + 1) ≤ 1000 := hl
    have hcE : (c : Str) ≠ E0 := fun e => by rw [e] at hc1; exact absurd hc1 (by decide)
    have hk2 : (r : List Str).length + 1 < (j2 : Nat) + 1 := hk
    unfold lexB at hlex
    by_cases hw : wsE c = false
    · rw [if_pos hw] at hlex
      have hres := Option.some.inj hlex
      refine next_item B F X N T (Around.frames_deeper B.stack) rfl rfl C J (by omega) (by intro p hp; cases hp) hh (by show A.depth + 1 + 4 < _; omega) (by show A.units + 3 + 21 < _; omega) (by omega) hcE ?_
      (tm_at "nmx4"; refine fun u' h' tk tk' => ?_)
      intro F' N'
      have F1 := Fr.expose _ F' hm
      dsimp only [kstB] at F1
      dsimp only [OwitTurn]
      dsimp only [lexNews, List.cons_append, List.nil_append] at N'
      clear F N F'
      k_steps
      rw [← hres] at h
      exact h _ _ _ _ _ _ hs' (gs_lex (ln := bump c ln) (u := u') (gn := (gn : Nat) + 1) (pn := pn) (vs := vs') (pbs := []) (rest := [_, _]) (by assumption))
    · rw [if_neg hw] at hlex
      have hw : wsE c = true := by simpa using hw
      by_cases hb : ((c : Str) == bs) = true
      · rw [if_pos hb] at hlex
        obtain ⟨e1, e2⟩ | ⟨d, t'', vs'', r2, e1, e2, hs2⟩ := strs_inv hs'
        · rw [e2] at hlex; cases hlex
        · (revert d t'' vs'' r2; tm_at "nmx4"; refine fun d t'' vs'' r2 => ?_; k_extra "kw")
          rw [e2] at hlex hr1 hl hk
          rw [e1] at N
          have hd1 : (d : Str).length = 1 := hr1 d (.head _)
          have hr2 : ∀ d ∈ (r2 : List Str), d.length = 1 := fun d hd => hr1 d (.tail _ hd)
          have hlv2 := StrsAre.length hs2
          have hl2 : (tok : Str).length + ((r2 : List Str).length + 1 + 1) ≤ 1000 := hl
          have hk3 : (r2 : List Str).length + 1 + 1 < (j2 : Nat) + 1 := hk
          refine next_item B F X N T (Around.frames_deeper B.stack) rfl rfl C J (by omega) (by intro p hp; cases hp) hh (by show A.depth + 1 + 4 < _; omega) (by show A.units + 3 + 21 < _; omega) (by simp only [List.length_cons]; omega) hcE ?_
          (tm_at "nmx4"; refine fun u' h' tk tk' => ?_)
          intro F' N'
          have F1 := Fr.expose _ F' hm
          dsimp only [kstB] at F1
          dsimp only [OwitTurn]
          dsimp only [lexNews, List.cons_append, List.nil_append] at N'
          clear F N F'
          k_steps
          (rename News _ _ _ _ => N2)
          exact ⟨(tok : Str) ++ d, r2, bump d (bump c ln), .mk _ _ _ _ _ _ _ rfl (by assumption) (by kst_all) N2 hs2 hr2 (by rw [app_len]; omega), hlex, by omega⟩
      · rw [if_neg hb] at hlex
        have hb := bool_not hb
        refine next_item B F X N T (Around.frames_deeper B.stack) rfl rfl C J (by omega) (by intro p hp; cases hp) hh (by show A.depth + 1 + 4 < _; omega) (by show A.units + 3 + 21 < _; omega) (by omega) hcE ?_
        (tm_at "nmx4"; refine fun u' h' tk tk' => ?_)
        intro F' N'
        have F1 := Fr.expose _ F' hm
        dsimp only [kstB] at F1
        dsimp only [OwitTurn]
        dsimp only [lexNews, List.cons_append, List.nil_append] at N'
        clear F N F'
        k_steps
        (rename News _ _ _ _ => N2)
        exact ⟨(tok : Str) ++ c, r, bump c ln, .mk _ _ _ _ _ _ _ rfl (by assumption) (by kst_all) N2 hs' hr1 (by rw [app_len]; omega), hlex, by omega⟩
theorem zeq : (w, A, base, g, fr, mg, mb, p, loose, mean, s, R, q, ln, u, pn, vs, gn, ys, res) = Z := by with_unfolding_all rfl
end Cgt_read
set_option maxHeartbeats 4000000 in
theorem gt_read {w : World} {A : Around} {base g : Heap} {fr : List Env} {mg mb : Str → Option Value} {p : Program} {loose : List Str} {mean : ExcName → Option Value} {s : Shared} {R : Result → Shared → Prop} {q : LexP} {ln : Int} {u : Tok} {pn : Nat} {vs : List Value} {gn : Nat} {ys : List Str} {res : LexR} : Cgt_read.Stmt w A base g fr mg mb p loose mean s R q ln u pn vs gn ys res :=
  hilb Cgt_read.P0 Cgt_read.Z rfl (Eq.subst (motive := Cgt_read.P0) Cgt_read.zeq Cgt_read.key) (w, A, base, g, fr, mg, mb, p, loose, mean, s, R, q, ln, u, pn, vs, gn, ys, res)
section
end
end Mine

namespace Mine
section
variable {w : World} {A : Around} {base g : Heap} {fr : List Env} {mg mb : Str → Option Value} {p : Program} {loose : List Str} {mean : ExcName → Option Value} {s : Shared} {R : Result → Shared → Prop}
  (B : Below A base fr g) (X : Frag.In (hd.heap_39 w.params) g) (T : Top p loose mean mg mb g)
include B X T
end
namespace Cpush_c
noncomputable def Stmt (w : World) (A : Around) (base g : Heap) (fr : List Env) (mg mb : Str → Option Value) (p : Program) (loose : List Str) (mean : ExcName → Option Value) (s : Shared) (R : Result → Shared → Prop) (q : LexP) (ln : Int) (u : Tok) (x : Str) (tx : Tok) (pbs : List Value) (pn : Nat) (vs : List Value) (gn : Nat) : Prop := ∀ (B : Below A base fr g) (X : Frag.In (hd.heap_39 w.params) g) (T : Top p loose mean mg mb g) (G : GS g s.heap (lexNews w q ln u pbs pn vs gn)) (I : LexF q) (hh : A.handled = none) (hroom : A.depth + 4 < recursionLimit) (hu : A.units + 20 < cLine) (hz : pbs.length < 1000) (h : ∀ h' tk', GS g h' (lexNews w q ln u (pbs ++ [.str x tx]) (pn + 1) vs gn) → R (.ok (.ret .none)) { s with heap := h', toks := tk' }), codeAny (model Challenge.rw_st0024_01.row.prog w) A (.call (.ref 80) ⟨[.ref q.x2, .str x tx], []⟩) R s
noncomputable def P0 (z : World × Around × Heap × Heap × (List Env) × (Str → Option Value) × (Str → Option Value) × Program × (List Str) × (ExcName → Option Value) × Shared × (Result → Shared → Prop) × LexP × Int × Tok × Str × Tok × (List Value) × Nat × (List Value) × Nat) : Prop := Stmt (z.1) (z.2.1) (z.2.2.1) (z.2.2.2.1) (z.2.2.2.2.1) (z.2.2.2.2.2.1) (z.2.2.2.2.2.2.1) (z.2.2.2.2.2.2.2.1) (z.2.2.2.2.2.2.2.2.1) (z.2.2.2.2.2.2.2.2.2.1) (z.2.2.2.2.2.2.2.2.2.2.1) (z.2.2.2.2.2.2.2.2.2.2.2.1) (z.2.2.2.2.2.2.2.2.2.2.2.2.1) (z.2.2.2.2.2.2.2.2.2.2.2.2.2.1) (z.2.2.2.2.2.2.2.2.2.2.2.2.2.2.1) (z.2.2.2.2.2.2.2.2.2.2.2.2.2.2.2.1) (z.2.2.2.2.2.2.2.2.2.2.2.2.2.2.2.2.1) (z.2.2.2.2.2.2.2.2.2.2.2.2.2.2.2.2.2.1) (z.2.2.2.2.2.2.2.2.2.2.2.2.2.2.2.2.2.2.1) (z.2.2.2.2.2.2.2.2.2.2.2.2.2.2.2.2.2.2.2.1) (z.2.2.2.2.2.2.2.2.2.2.2.2.2.2.2.2.2.2.2.2)
noncomputable def Z := @Classical.epsilon _ ⟨(w00, A00, default, default, [], (fun _ => none), (fun _ => none), default, [], (fun _ => none), s00, (fun _ _ => True), lex00, 0, 0, default, 0, [], 0, [], 0)⟩ fun z => ¬ P0 z
@[irreducible] noncomputable def w := Z.1
@[irreducible] noncomputable def A := Z.2.1
@[irreducible] noncomputable def base := Z.2.2.1
@[irreducible] noncomputable def g := Z.2.2.2.1
@[irreducible] noncomputable def fr := Z.2.2.2.2.1
@[irreducible] noncomputable def mg := Z.2.2.2.2.2.1
@[irreducible] noncomputable def mb := Z.2.2.2.2.2.2.1
@[irreducible] noncomputable def p := Z.2.2.2.2.2.2.2.1
@[irreducible] noncomputable def loose := Z.2.2.2.2.2.2.2.2.1
@[irreducible] noncomputable def mean := Z.2.2.2.2.2.2.2.2.2.1
@[irreducible] noncomputable def s := Z.2.2.2.2.2.2.2.2.2.2.1
@[irreducible] noncomputable def R := Z.2.2.2.2.2.2.2.2.2.2.2.1
@[irreducible] noncomputable def q := Z.2.2.2.2.2.2.2.2.2.2.2.2.1
@[irreducible] noncomputable def ln := Z.2.2.2.2.2.2.2.2.2.2.2.2.2.1
@[irreducible] noncomputable def u := Z.2.2.2.2.2.2.2.2.2.2.2.2.2.2.1
@[irreducible] noncomputable def x := Z.2.2.2.2.2.2.2.2.2.2.2.2.2.2.2.1
@[irreducible] noncomputable def tx := Z.2.2.2.2.2.2.2.2.2.2.2.2.2.2.2.2.1
@[irreducible] noncomputable def pbs := Z.2.2.2.2.2.2.2.2.2.2.2.2.2.2.2.2.2.1
@[irreducible] noncomputable def pn := Z.2.2.2.2.2.2.2.2.2.2.2.2.2.2.2.2.2.2.1
@[irreducible] noncomputable def vs := Z.2.2.2.2.2.2.2.2.2.2.2.2.2.2.2.2.2.2.2.1
@[irreducible] noncomputable def gn := Z.2.2.2.2.2.2.2.2.2.2.2.2.2.2.2.2.2.2.2.2
set_option maxHeartbeats 4000000 in
theorem key : Stmt w A base g fr mg mb p loose mean s R q ln u x tx pbs pn vs gn := fun B X T G I hh hroom hu hz h => by
  obtain ⟨⟨cvs, ct, hc1, hc2⟩, hcell, ho⟩ := I
  revert X; k_fill; intro X
  dsimp only [lexNews] at G
  keq_rows
  k_steps
  (rename GS _ _ _ => kG)
  simp only [List.push_toArray] at kG
  exact h _ _ kG
theorem zeq : (w, A, base, g, fr, mg, mb, p, loose, mean, s, R, q, ln, u, x, tx, pbs, pn, vs, gn) = Z := by with_unfolding_all rfl
end Cpush_c
set_option maxHeartbeats 4000000 in
theorem push_c {w : World} {A : Around} {base g : Heap} {fr : List Env} {mg mb : Str → Option Value} {p : Program} {loose : List Str} {mean : ExcName → Option Value} {s : Shared} {R : Result → Shared → Prop} {q : LexP} {ln : Int} {u : Tok} {x : Str} {tx : Tok} {pbs : List Value} {pn : Nat} {vs : List Value} {gn : Nat} : Cpush_c.Stmt w A base g fr mg mb p loose mean s R q ln u x tx pbs pn vs gn :=
  hilb Cpush_c.P0 Cpush_c.Z rfl (Eq.subst (motive := Cpush_c.P0) Cpush_c.zeq Cpush_c.key) (w, A, base, g, fr, mg, mb, p, loose, mean, s, R, q, ln, u, x, tx, pbs, pn, vs, gn)
section
end
end Mine

namespace Mine
open PySem.Calls
open PySem.Sre
/-- no sign that the two patterns seek -/
noncomputable def good (c : Nat) : Prop := 32 ≤ c ∧ c < 127
noncomputable def Refuses (code : Array Nat) : Prop := ∀ (c : Nat) (seen : Sre.Seen), good c → ∃ seen', inSet code c code.size 5 true seen = .ok (false, seen')
theorem inSet_range {code : Array Nat} {c n i : Nat} {yes : Bool} {seen : Sre.Seen} (h : ops[code.getD (i + 0) 0]? = some .RANGE) (hc : ¬ (code.getD (i + 1) 0 ≤ c ∧ c ≤ code.getD (i + 2) 0)) :
    inSet code c (n + 1) i yes seen = inSet code c n (i + 3) yes (seen.add (code.getD (i + 0) 0)) := by
  conv => lhs; whnf
  rw [h]
  exact if_neg (by simpa using hc)
theorem inSet_lit {code : Array Nat} {c n i : Nat} {yes : Bool} {seen : Sre.Seen} (h : ops[code.getD (i + 0) 0]? = some .LITERAL) (hc : c ≠ code.getD (i + 1) 0) :
    inSet code c (n + 1) i yes seen = inSet code c n (i + 2) yes (seen.add (code.getD (i + 0) 0)) := by
  conv => lhs; whnf
  rw [h]
  exact if_neg (by simpa using hc)
theorem inSet_set {code : Array Nat} {c n i : Nat} {yes : Bool} {seen : Sre.Seen} (h : ops[code.getD (i + 0) 0]? = some .CHARSET) (hc : (c < 256 && (code.getD (i + (1 + c / 32)) 0).testBit (c % 32)) = false) :
    inSet code c (n + 1) i yes seen = inSet code c n (i + 9) yes (seen.add (code.getD (i + 0) 0)) := by
  conv => lhs; whnf
  rw [h]
  exact if_neg (by rw [hc]; decide)
theorem inSet_fail {code : Array Nat} {c n i : Nat} {yes : Bool} {seen : Sre.Seen} (h : ops[code.getD (i + 0) 0]? = some .FAILURE) :
    inSet code c (n + 1) i yes seen = .ok (!yes, seen.add (code.getD (i + 0) 0)) := by
  conv => lhs; whnf
  rw [h]
theorem admitted_none {m : M} (hr : Refuses m.code) (ht : ∀ s, s < m.lim → good (m.text.getD s 0)) : ∀ fuel s seen, ∃ seen', m.admitted fuel s seen = .ok (none, seen')
  | 0, _, seen => ⟨seen, rfl⟩
  | fuel + 1, s, seen => by
    unfold M.admitted
    by_cases h : s ≥ m.lim
    · exact ⟨seen, if_pos h⟩
    · rw [if_neg h]
      obtain ⟨s1, e⟩ := hr (m.text.getD s 0) seen (ht s (Nat.lt_of_not_le h))
      rw [e]
      exact admitted_none hr ht fuel (s + 1) s1

structure SetCode (code : Array Nat) : Prop where
  info : ops[code.getD 0 0]? = some .INFO
  flag : code.getD 2 0 = 4
  ref : Refuses code
theorem search_fails {code text : Array Nat} {pos lim : Nat} (C : SetCode code) (ht : ∀ s, s < lim → good (text.getD s 0)) :
    (forSearch code text 0 pos lim false).answer = some false ∧ (forSearch code text 0 pos lim false).frames = [] ∧ (forSearch code text 0 pos lim false).outcome = none := by
  unfold forSearch
  dsimp only
  split
  · exact ⟨rfl, rfl, rfl⟩
  · have key : ∀ m : M, m.code = code → m.text = text → m.lim = lim → m.frames = [] → m.outcome = none → (m.attemptFrom pos true).answer = some false ∧ (m.attemptFrom pos true).frames = [] ∧ (m.attemptFrom pos true).outcome = none := by
      intro m h1 h2 h3 h4 h5
      unfold M.attemptFrom
      have hf : m.hasFirstSet = true := by
        unfold M.hasFirstSet
        rw [h1, C.info, C.flag]; rfl
      rw [hf]
      obtain ⟨s', e⟩ := admitted_none (m := m) (h1 ▸ C.ref) (by rw [h2, h3]; exact ht) (m.lim + 1 - pos) pos m.seen
      rw [e]
      exact ⟨rfl, h4, h5⟩
    exact key _ rfl rfl rfl rfl rfl
open PySem.Builtin.Re
theorem drive_fails (m : M) (ha : m.answer = some false) (hf : m.frames = []) (ho : m.outcome = none) : ∀ n, 0 < n → ∃ m', reDrive n m = pure m' ∧ m'.outcome = some .failed
  | n + 1, _ => by
    refine ⟨{ m with outcome := some .failed }, ?_, rfl⟩
    have e : m.runFor reTurnSteps = { m with outcome := some .failed } := by
      have e1 : m.step = { m with outcome := some .failed } := by
        unfold M.step
        rw [ho, ha, hf]
        rfl
      show m.runFor 4 = _
      unfold M.runFor
      rw [ho]
      show M.runFor 3 m.step = _
      rw [e1]; rfl
    unfold reDrive
    dsimp only
    rw [e]
    rfl
theorem says {M : Model} {A : Around} {E : Value → Shared → Prop} {s : Shared} (b : Nat → Bool) (n : Nat → String) : ∀ (l : List Nat) (Q : PUnit → Shared → Prop), Q ⟨⟩ s →
    wpAny M A (forIn l PUnit.unit fun i __s => if b i = true then do rule (n i); pure (ForInStep.yield PUnit.unit) else pure (ForInStep.yield PUnit.unit)) Q E s
  | [], Q, h => wpAny_pure h
  | i :: l, Q, h => by
    rw [List.forIn_cons]
    refine wpAny_bind ?_
    by_cases hb : b i = true
    · rw [if_pos hb]
      exact wpAny_bind (wpAny_rule (wpAny_pure (says b n l Q h)))
    · rw [if_neg hb]
      exact wpAny_pure (says b n l Q h)
theorem runEnd_none {M : Model} {A : Around} {E : Value → Shared → Prop} {s : Shared} {m : Sre.M} {Q : Option Sre.M → Shared → Prop} (ha : m.answer = some false) (hf : m.frames = []) (ho : m.outcome = none) (h : Q none s) : wpAny M A (reRunToEnd m) Q E s := by
  obtain ⟨m', e, hm⟩ := drive_fails m ha hf ho (2 ^ 64) (by decide)
  unfold reRunToEnd
  rw [e]
  refine wpAny_bind (wpAny_pure ?_)
  rw [hm]
  exact wpAny_bind (says _ _ _ _ (wpAny_pure h))
theorem ownerP : Manifest.owners.lookup (String.ofList ['n','r','e','t','t','a','P','.','e','r'].reverse) = some Manifest.sig_re_Pattern := by kernel_rfl
theorem plainP : PlainAttrs "re.Pattern" :=
  ⟨⟨"object.__getattribute__", by rw [typeLookup_type, builtinLookup_eq_fast]; kernel_rfl, by decide +kernel⟩, by rw [typeLookup_type, builtinLookup_eq_fast]; kernel_rfl⟩
theorem slotP : Slot "re.Pattern" "search" "re.Pattern.search" :=
  .of (owner := "re.Pattern") (n := "search") (by rw [typeLookup_type, builtinLookup_eq_fast]; kernel_rfl) (by decide +kernel) (by decide +kernel) (by decide +kernel)
    (by first | exact .inl (by decide +kernel) | exact .inr (by decide +kernel)) (by rw [isSubtype_type]; kernel_rfl)
theorem typeP : typeOf (.builtin "re.Pattern.search") = pure (.type "method_descriptor") := by show builtinType _ = _; rw [builtinType_eq_fast]; kernel_rfl
theorem entryP : entryFor table "re.Pattern.search" = some Builtin.«re.Pattern.search» := entryFor_of_tree (by kernel_rfl)
theorem argsP (a b : Value) : argsOk "re.Pattern.search" ⟨[a, b], []⟩ := by unfold argsOk; kernel_rfl
section
variable {prog : Program} {w : World} {A : Around} {E : Value → Shared → Prop} {s : Shared}
theorem search_none {a : Addr} {pv fl : Value} {pc : Addr} {oc : Obj} {cs : Array Value} {nc : Nat} {x : Str} {t : Tok} {Q : Value → Shared → Prop} {t0 t6 : Tok} {f4 f3 : Value}
    (ha : s.heap.get? a = some { cls := .type "re.Pattern", data := .fields #[pv, fl, .int 0 t0, f3, f4, .ref pc, .int 0 t6] }) (hc : s.heap.get? pc = some oc) (hd : oc.data = .seq cs nc)
    (C : SetCode ((cs.map reRawOf).map (·.toNat))) (hx : ∀ c ∈ x.cps.toList, good c) (h : Q .none s) :
    wpAny (model prog w) A (call (.builtin "re.Pattern.search") [.ref a, .str x t]) Q E s := by
  have hT : s.TypeIs (.ref a) "re.Pattern" := ⟨_, ha, rfl⟩
  refine wpAny_call_entry slotP hT entryP ?_ (argsP _ _)
  unfold Builtin.«re.Pattern.search» reTarget
  dsimp only
  refine wpAny_bind (wpAny_bind (wpAny_of_eq (a := [some (.str x t), none, none]) (by rfl) ?_))
  show wpAny _ _ (fieldsOf (Value.ref a) >>= _) _ _ _
  refine wpAny_bind (wpAny_fieldsOf ha rfl ?_)
  refine wpAny_bind (wpAny_of_eq (a := (x.cps, 0)) rfl ?_)
  rw [if_neg (by simp)]
  rw [if_neg (by simp [reRawNat])]
  refine wpAny_bind (wpAny_of_eq (a := ()) rfl ?_)
  refine wpAny_bind ?_
  show wpAny _ _ (reRawItems (.ref pc)) _ _ _
  unfold reRawItems seqItems?
  dsimp only
  refine wpAny_bind (wpAny_bind (wpAny_load hc ?_))
  rw [hd]
  refine wpAny_pure (wpAny_pure ?_)
  dsimp only [Option.getD]
  refine wpAny_pure ?_
  dsimp only
  unfold reAnswer
  refine wpAny_bind ?_
  have hg : ∀ i, i < min (2 ^ 63 - 1 : Int).toNat x.cps.size → good (x.cps.getD i 0) := fun i hi => by
    have hi' : i < x.cps.size := Nat.lt_of_lt_of_le hi (Nat.min_le_right _ _)
    have e : x.cps.getD i 0 = x.cps[i] := by simp [Array.getD, hi']
    rw [e]
    exact hx _ (by simp)
  obtain ⟨h1, h2, h3⟩ := search_fails (text := x.cps) (pos := min (0 : Int).toNat x.cps.size) (lim := min (2 ^ 63 - 1 : Int).toNat x.cps.size) C hg
  refine runEnd_none h1 h2 h3 ?_
  exact wpAny_pure ⟨_, rfl, h⟩
end
end Mine

namespace Mine
open PySem.Calls
open PySem.Sre
theorem refuse1 {code : Array Nat} (hs : code.size = 20) (e5 : code.getD 5 0 = 22) (e6 : code.getD 6 0 = 0) (e7 : code.getD 7 0 = 31) (e8 : code.getD 8 0 = 16) (e9 : code.getD 9 0 = 127) (e10 : code.getD 10 0 = 0) : Refuses code := by
  intro c seen hg
  rw [hs]
  have o1 : ops[22]? = some Op.RANGE := rfl
  have o2 : ops[16]? = some Op.LITERAL := rfl
  have o3 : ops[0]? = some Op.FAILURE := rfl
  rw [inSet_range (n := 19) (by rw [show code.getD (5 + 0) 0 = 22 from e5]; exact o1) (by rw [show code.getD (5 + 2) 0 = 31 from e7]; unfold good at hg; omega)]
  rw [inSet_lit (n := 18) (i := 5 + 3) (by rw [show code.getD (5 + 3 + 0) 0 = 16 from e8]; exact o2) (by rw [show code.getD (5 + 3 + 1) 0 = 127 from e9]; unfold good at hg; omega)]
  rw [inSet_fail (n := 17) (i := 5 + 3 + 2) (by rw [show code.getD (5 + 3 + 2 + 0) 0 = 0 from e10]; exact o3)]
  exact ⟨_, rfl⟩
theorem refuse2 {code : Array Nat} (hs : code.size = 28) (e5 : code.getD 5 0 = 9) (e7 : code.getD 7 0 = 0) (e8 : code.getD 8 0 = 0) (e9 : code.getD 9 0 = 2147483648) (e14 : code.getD 14 0 = 0) : Refuses code := by
  intro c seen hg
  rw [hs]
  have o1 : ops[9]? = some Op.CHARSET := rfl
  have o3 : ops[0]? = some Op.FAILURE := rfl
  unfold good at hg
  have key : (code.getD (5 + (1 + c / 32)) 0).testBit (c % 32) = false := by
    have h3 : c / 32 = 1 ∨ c / 32 = 2 ∨ c / 32 = 3 := by omega
    rcases h3 with h | h | h
    · rw [h, show code.getD (5 + (1 + 1)) 0 = 0 from e7]; simp
    · rw [h, show code.getD (5 + (1 + 2)) 0 = 0 from e8]; simp
    · rw [h, show code.getD (5 + (1 + 3)) 0 = 2147483648 from e9]
      have hlt : c % 32 < 31 := by omega
      have all : ∀ k : Fin 31, Nat.testBit 2147483648 k.1 = false := by decide
      exact all ⟨c % 32, hlt⟩
  rw [inSet_set (n := 27) (by rw [show code.getD (5 + 0) 0 = 9 from e5]; exact o1) (by rw [key]; simp)]
  rw [inSet_fail (n := 26) (i := 5 + 9) (by rw [show code.getD (5 + 9 + 0) 0 = 0 from e14]; exact o3)]
  exact ⟨_, rfl⟩
section
variable {prog : Program} {w : World} {A : Around} {E : Value → Shared → Prop} {s : Shared} {h₀ : Heap} {L : Addr} {m : Str → Option Value}
theorem search92 {x : Str} {t : Tok} {Q : Value → Shared → Prop} (F : Fr h₀ L s.heap m) (X : Frag.In (hd.heap_39 w.params) h₀) (hx : ∀ c ∈ x.cps.toList, good c) (h : Q .none s) :
    wpAny (model prog w) A (call (.builtin "re.Pattern.search") [.ref 92, .str x t]) Q E s := by
  have Xs := X.keeps F.keep
  exact search_none (Xs 92 _ rfl) (Xs 91 _ rfl) rfl ⟨by first | rfl | kernel_rfl, by decide +kernel, refuse1 (by decide +kernel) (by decide +kernel) (by decide +kernel) (by decide +kernel) (by decide +kernel) (by decide +kernel) (by decide +kernel)⟩ hx h
theorem search97 {x : Str} {t : Tok} {Q : Value → Shared → Prop} (F : Fr h₀ L s.heap m) (X : Frag.In (hd.heap_39 w.params) h₀) (hx : ∀ c ∈ x.cps.toList, good c) (h : Q .none s) :
    wpAny (model prog w) A (call (.builtin "re.Pattern.search") [.ref 97, .str x t]) Q E s := by
  have Xs := X.keeps F.keep
  exact search_none (Xs 97 _ rfl) (Xs 96 _ rfl) rfl ⟨by first | rfl | kernel_rfl, by decide +kernel, refuse2 (by decide +kernel) (by decide +kernel) (by decide +kernel) (by decide +kernel) (by decide +kernel) (by decide +kernel)⟩ hx h
theorem meth92 {Q : Value × List Value → Shared → Prop} {pl : Sem Bool} (F : Fr h₀ L s.heap m) (X : Frag.In (hd.heap_39 w.params) h₀) (h : Q (.builtin "re.Pattern.search", [.ref 92]) s) :
    wpAny (model prog w) A (getMethod (.ref 92) (Str.ofString "search") pl) Q E s := by
  have e := (X.keeps F.keep) 92 _ rfl
  exact getMethod_builtin ⟨_, e, rfl⟩ plainP slotP typeP (fun a ea => by cases ea; exact ⟨_, e, rfl⟩) h
theorem meth97 {Q : Value × List Value → Shared → Prop} {pl : Sem Bool} (F : Fr h₀ L s.heap m) (X : Frag.In (hd.heap_39 w.params) h₀) (h : Q (.builtin "re.Pattern.search", [.ref 97]) s) :
    wpAny (model prog w) A (getMethod (.ref 97) (Str.ofString "search") pl) Q E s := by
  have e := (X.keeps F.keep) 97 _ rfl
  exact getMethod_builtin ⟨_, e, rfl⟩ plainP slotP typeP (fun a ea => by cases ea; exact ⟨_, e, rfl⟩) h
end
end Mine

namespace Mine
theorem row38 : True := by
  k_with "getMethod ref" => (k_here; (with_reducible show wpAny _ _ (getMethod (Value.ref _) (Str.ofString "search") _) _ _ _); k_dflt (first | (refine' meth92 ?Fr38 ?Xr38 ?_; (case Fr38 => k_asm); (case Xr38 => assumption); k_whole) | (refine' meth97 ?Fr38 ?Xr38 ?_; (case Fr38 => k_asm); (case Xr38 => assumption); k_whole)))
  trivial
end Mine
namespace Mine
theorem row39 : True := by
  k_with "call builtin:re.Pattern.search" => (k_here; k_dflt (first | (refine' search92 ?Fr39 ?Xr39 ?gr39 ?_; (case Fr39 => k_asm); (case Xr39 => assumption); (case gr39 => assumption); k_whole) | (refine' search97 ?Fr39 ?Xr39 ?gr39 ?_; (case Fr39 => k_asm); (case Xr39 => assumption); (case gr39 => assumption); k_whole)))
  trivial
end Mine

namespace Mine
theorem gs_in {K : Frag} {g h : Heap} {own : List (Addr × Obj)} (X : K.In g) (G : GS g h own) : K.In h := X.keeps G.stays
end Mine
namespace Mine
theorem row40 : True := by
  k_with "keq_rows" => (refine' defG ?k1r40 ?k2r40 ?k3r40 ?k4r40 ?k6r40 ?k7r40 ?k8r40 ?k9r40 ?kBr40 ?_ ?c2r40 ?c3r40 ?c4r40 ?c5r40; (case k1r40 => assumption); (case k2r40 => assumption); (case k3r40 => assumption); (case k4r40 => assumption); (case k6r40 => k_is); (case k7r40 => k_is); (case k8r40 => k_room); (case k9r40 => first | exact BindsTo.of_eq rfl | exact binds_K (gs_in (by assumption) (by assumption)) rfl (by k_is) rfl rfl rfl | fail "keq_rows: no rule for these arguments"); (case c5r40 => decide); (case kBr40 => exact locs rfl); (case c2r40 => exact rfl); (case c3r40 => exact rfl); (case c4r40 => exact rfl); k_whole; ((first | tm_at "clo1" | refine fun L'q9 => ?_); (first | tm_at "clo1" | refine fun h'q9 => ?_); refine fun F'q9 => ?_; refine fun N'q9 => ?_; refine fun l1q9 => ?_); (try k_lt l1q9); (try dsimp only); (try k_fold))
  trivial
end Mine
namespace Mine
theorem row41 : True := by
  k_with "keq_rows" => (refine' defGC ?k1r41 ?k2r41 ?k3r41 ?k4r41 ?k6r41 ?k7r41 ?k8r41 ?k9r41 ?kBr41 ?kDr41 ?_ ?c2r41 ?c3r41 ?c4r41; (case k1r41 => assumption); (case k2r41 => assumption); (case k3r41 => assumption); (case k4r41 => assumption); (case k6r41 => k_is); (case k7r41 => k_is); (case k8r41 => k_room); (case k9r41 => first | exact BindsTo.of_eq rfl | exact binds_K (gs_in (by assumption) (by assumption)) rfl (by k_is) rfl rfl rfl | fail "keq_rows: no rule for these arguments"); (case kBr41 => exact rfl); (case kDr41 => decide +kernel); (case c2r41 => exact rfl); (case c3r41 => exact rfl); (case c4r41 => exact rfl); k_whole; ((first | tm_at "clo1" | refine fun L'q9 => ?_); (first | tm_at "clo1" | refine fun h'q9 => ?_); (first | tm_at "clo1" | refine fun tk'q9 => ?_); refine fun cells'q9 => ?_; refine fun F'q9 => ?_; refine fun N'q9 => ?_; refine fun Y'q9 => ?_; refine fun l1q9 => ?_); (try k_lt l1q9); k_cells Y'q9; (try simp only [List.cons_append, List.nil_append] at N'q9); (try dsimp only); (try k_fold))
  trivial
end Mine
namespace Mine
open PySem.Builtin PySem.Builtin.Str
section
variable {prog : Program} {w : World} {A : Around} {E : Value → Shared → Prop} {s : Shared} {x y : PySem.Str} {t : Tok} {Q : Value → Shared → Prop}
theorem low_K (hl : x.length ≤ 5592405) (e : Txt.lower x = y) (h : ∀ t' k, Q (.str y t') { s with toks := k }) : wpAny (model prog w) A (call (.builtin "str.lower") [.str x t]) Q E s := by
  subst e; exact SCL.lower hl fun _ => h _ _
theorem swap_K (hl : x.length ≤ 5592405) (e : Txt.swapcase x = y) (h : ∀ t' k, Q (.str y t') { s with toks := k }) : wpAny (model prog w) A (call (.builtin "str.swapcase") [.str x t]) Q E s := by
  subst e; exact SCL.swapcase hl fun _ => h _ _
theorem upp_K (hl : x.length ≤ 5592405) (e : Txt.upper x = y) (h : ∀ t' k, Q (.str y t') { s with toks := k }) : wpAny (model prog w) A (call (.builtin "str.upper") [.str x t]) Q E s := by
  subst e; exact SCL.upper hl fun _ => h _ _
theorem strip_K (hl : x.length ≤ 5592405) (e : Txt.strip x = y) (h : ∀ t' k, Q (.str y t') { s with toks := k }) : wpAny (model prog w) A (call (.builtin "str.strip") [.str x t]) Q E s := by
  subst e; exact SCL.strip (fun t' k _ => h t' k) (by rw [sizeLine_eq]; omega)
end
/-- the tuples of two texts that lie still on the ground -/
inductive TupsIn (g : Heap) : List Value → List (Str × Str) → Prop
  | nil : TupsIn g [] []
  | cons {a : Addr} {k v : Str} {t u : Tok} {rs : List Value} {kvs : List (Str × Str)} (h : IsTup g a #[.str k t, .str v u]) (r : TupsIn g rs kvs) : TupsIn g (.ref a :: rs) ((k, v) :: kvs)
end Mine
namespace Mine
theorem row42 : True := by
  k_with "call builtin:str.lower" => (k_here; (with_reducible show wpAny _ _ (call (Value.builtin "str.lower") [Value.str _ _]) _ _ _); (with_reducible refine' low_K ?lr42 ?er42 ?_); k_dflt ((case lr42 => first | assumption | omega); (case er42 => first | with_reducible assumption | assumption | exact rfl)); ((first | tm_at "clo1" | refine fun _ => ?_); (first | tm_at "clo1" | refine fun _ => ?_)))
  trivial
end Mine
namespace Mine
theorem row43 : True := by
  k_with "call builtin:str.swapcase" => (k_here; (with_reducible show wpAny _ _ (call (Value.builtin "str.swapcase") [Value.str _ _]) _ _ _); (with_reducible refine' swap_K ?lr43 ?er43 ?_); k_dflt ((case lr43 => first | assumption | omega); (case er43 => first | with_reducible assumption | assumption | exact rfl)); ((first | tm_at "clo1" | refine fun _ => ?_); (first | tm_at "clo1" | refine fun _ => ?_)))
  trivial
end Mine
namespace Mine
theorem row44 : True := by
  k_with "call builtin:str.upper" => (k_here; (with_reducible show wpAny _ _ (call (Value.builtin "str.upper") [Value.str _ _]) _ _ _); (with_reducible refine' upp_K ?lr44 ?er44 ?_); k_dflt ((case lr44 => first | assumption | omega); (case er44 => first | with_reducible assumption | assumption | exact rfl)); ((first | tm_at "clo1" | refine fun _ => ?_); (first | tm_at "clo1" | refine fun _ => ?_)))
  trivial
end Mine
namespace Mine
theorem row45 : True := by
  k_with "call builtin:str.strip" => (k_here; (with_reducible show wpAny _ _ (call (Value.builtin "str.strip") [Value.str _ _]) _ _ _); (with_reducible refine' strip_K ?lr45 ?er45 ?_); k_dflt ((case lr45 => first | assumption | omega); (case er45 => first | with_reducible assumption | assumption | exact rfl)); ((first | tm_at "clo1" | refine fun _ => ?_); (first | tm_at "clo1" | refine fun _ => ?_)))
  trivial
end Mine
namespace Mine
theorem row46 : True := by
  k_with "exec For Tuple Attribute cons nil" => (k_here; (rename Fr _ _ _ _ => lF'q9); k_dflt (refine For_turns lF'q9 ?_))
  trivial
end Mine
namespace Mine
section
variable {prog : Program} {w : World} {A : Around} {E : Value → Shared → Prop} {s : Shared} {env : Env} {h₀ : Heap} {target : PySem.Expr} {body : List Stmt} {Q : Flow → Shared → Prop} {ws : List (Addr × String)} {keep news : List (Addr × Obj)}
theorem itm_ind (P : List Value → (Str → Option Value) → Prop)
    (hz : ∀ m, P [] m → ItemsRest prog w A E h₀ env target body Q s ws keep [] m news)
    (hs : ∀ v r m, P (v :: r) m → (∀ m', P r m' → ItemsRest prog w A E h₀ env target body Q s ws keep (r.map .val) m' news) → ItemsRest prog w A E h₀ env target body Q s ws keep (.val v :: r.map .val) m news) :
    ∀ vs m, P vs m → ItemsRest prog w A E h₀ env target body Q s ws keep (vs.map .val) m news
  | [], m, h => hz m h
  | v :: r, m, h => hs v r m h (itm_ind P hz hs r)
end
end Mine
namespace Mine
theorem all3 {m : Str → Option Value} {a b c : Str} {x y z : Value} (h1 : m a = some x) (h2 : m b = some y) (h3 : m c = some z) : ∀ p ∈ [(a, x), (b, y), (c, z)], m p.1 = some p.2 := by
  intro p hp
  simp only [List.mem_cons, List.not_mem_nil, or_false] at hp
  rcases hp with rfl | rfl | rfl <;> assumption
end Mine
namespace Mine
theorem row47 : True := by
  k_with "assign Tuple" => (k_here; (with_reducible show wpAny _ _ (assign (Expr.Tuple _ _ _) _ (Value.ref _)) _ _ _); k_dflt (refine' unpackN_ ?Fr47 ?Nr47 ?Tr47 ?k1r47 ?k2r47 ?k3r47 ?_; (case Fr47 => k_asm); (case Nr47 => k_asm); (case Tr47 => first | with_reducible assumption | (refine News.isTup (by k_asm) (by k_mem))); (case k1r47 => first | exact rfl | assumption); (case k2r47 => first | exact rfl | assumption); (case k3r47 => first | exact rfl | assumption)); ((first | tm_at "clo1" | refine fun h'q9 => ?_); refine fun F'q9 => ?_; refine fun N'q9 => ?_); (try k_sweep))
  trivial
end Mine

namespace Mine
noncomputable abbrev hdrNews (w : World) (x d l : Addr) (t : Tok) (refs : List Value) (n : Nat) : List (Addr × Obj) :=
  [(x, instObj 218 d), (d, dictOf [ky w "_headers" t (.ref l)] 1), (l, W.listOf refs.toArray n)]
noncomputable def findV : List (Str × Str) → Str → Option Str
  | [], _ => none
  | (k, v) :: r, lw => if Txt.lower k = lw then some v else findV r lw
noncomputable def IsV : Option Str → Value → Prop
  | none, v => v = .none
  | some x, v => ∃ u, v = .str x u
section
variable {w : World} {A : Around} {base g : Heap} {fr : List Env} {mg mb : Str → Option Value} {p : Program} {loose : List Str} {mean : ExcName → Option Value} {s : Shared} {R : Result → Shared → Prop}
  (B : Below A base fr g) (X : Frag.In (hd.heap_39 w.params) g) (T : Top p loose mean mg mb g)
include B X T
end
namespace Cget_c
noncomputable def Stmt (w : World) (A : Around) (base g : Heap) (fr : List Env) (mg mb : Str → Option Value) (p : Program) (loose : List Str) (mean : ExcName → Option Value) (s : Shared) (R : Result → Shared → Prop) (x d l : Addr) (t : Tok) (refs : List Value) (kvs : List (Str × Str)) (n : Nat) (nm lw : Str) (tn : Tok) : Prop := ∀ (B : Below A base fr g) (X : Frag.In (hd.heap_39 w.params) g) (T : Top p loose mean mg mb g) (G : GS g s.heap (hdrNews w x d l t refs n)) (hh : A.handled = none) (hroom : A.depth + 4 < recursionLimit) (hu : A.units + 20 < cLine) (hk : TupsIn g refs kvs) (hkl : ∀ p ∈ kvs, p.1.length ≤ 1000) (hnl : nm.length ≤ 1000) (hlw : Txt.lower nm = lw) (hg : ∀ c ∈ lw.cps.toList, good c) (h : ∀ rv h' tk', IsV (findV kvs lw) rv → GS g h' (hdrNews w x d l t refs n) → R (.ok (.ret rv)) { s with heap := h', toks := tk' }), codeAny (model Challenge.rw_st0024_01.row.prog w) A (.call (.ref 165) ⟨[.ref x, .str nm tn], []⟩) R s
noncomputable def P0 (z : World × Around × Heap × Heap × (List Env) × (Str → Option Value) × (Str → Option Value) × Program × (List Str) × (ExcName → Option Value) × Shared × (Result → Shared → Prop) × Addr × Addr × Addr × Tok × (List Value) × (List (Str × Str)) × Nat × Str × Str × Tok) : Prop := Stmt (z.1) (z.2.1) (z.2.2.1) (z.2.2.2.1) (z.2.2.2.2.1) (z.2.2.2.2.2.1) (z.2.2.2.2.2.2.1) (z.2.2.2.2.2.2.2.1) (z.2.2.2.2.2.2.2.2.1) (z.2.2.2.2.2.2.2.2.2.1) (z.2.2.2.2.2.2.2.2.2.2.1) (z.2.2.2.2.2.2.2.2.2.2.2.1) (z.2.2.2.2.2.2.2.2.2.2.2.2.1) (z.2.2.2.2.2.2.2.2.2.2.2.2.2.1) (z.2.2.2.2.2.2.2.2.2.2.2.2.2.2.1) (z.2.2.2.2.2.2.2.2.2.2.2.2.2.2.2.1) (z.2.2.2.2.2.2.2.2.2.2.2.2.2.2.2.2.1) (z.2.2.2.2.2.2.2.2.2.2.2.2.2.2.2.2.2.1) (z.2.2.2.2.2.2.2.2.2.2.2.2.2.2.2.2.2.2.1) (z.2.2.2.2.2.2.2.2.2.2.2.2.2.2.2.2.2.2.2.1) (z.2.2.2.2.2.2.2.2.2.2.2.2.2.2.2.2.2.2.2.2.1) (z.2.2.2.2.2.2.2.2.2.2.2.2.2.2.2.2.2.2.2.2.2)
noncomputable def Z := @Classical.epsilon _ ⟨(w00, A00, default, default, [], (fun _ => none), (fun _ => none), default, [], (fun _ => none), s00, (fun _ _ => True), 0, 0, 0, 0, [], [], 0, default, default, 0)⟩ fun z => ¬ P0 z
@[irreducible] noncomputable def w := Z.1
@[irreducible] noncomputable def A := Z.2.1
@[irreducible] noncomputable def base := Z.2.2.1
@[irreducible] noncomputable def g := Z.2.2.2.1
@[irreducible] noncomputable def fr := Z.2.2.2.2.1
@[irreducible] noncomputable def mg := Z.2.2.2.2.2.1
@[irreducible] noncomputable def mb := Z.2.2.2.2.2.2.1
@[irreducible] noncomputable def p := Z.2.2.2.2.2.2.2.1
@[irreducible] noncomputable def loose := Z.2.2.2.2.2.2.2.2.1
@[irreducible] noncomputable def mean := Z.2.2.2.2.2.2.2.2.2.1
@[irreducible] noncomputable def s := Z.2.2.2.2.2.2.2.2.2.2.1
@[irreducible] noncomputable def R := Z.2.2.2.2.2.2.2.2.2.2.2.1
@[irreducible] noncomputable def x := Z.2.2.2.2.2.2.2.2.2.2.2.2.1
@[irreducible] noncomputable def d := Z.2.2.2.2.2.2.2.2.2.2.2.2.2.1
@[irreducible] noncomputable def l := Z.2.2.2.2.2.2.2.2.2.2.2.2.2.2.1
@[irreducible] noncomputable def t := Z.2.2.2.2.2.2.2.2.2.2.2.2.2.2.2.1
@[irreducible] noncomputable def refs := Z.2.2.2.2.2.2.2.2.2.2.2.2.2.2.2.2.1
@[irreducible] noncomputable def kvs := Z.2.2.2.2.2.2.2.2.2.2.2.2.2.2.2.2.2.1
@[irreducible] noncomputable def n := Z.2.2.2.2.2.2.2.2.2.2.2.2.2.2.2.2.2.2.1
@[irreducible] noncomputable def nm := Z.2.2.2.2.2.2.2.2.2.2.2.2.2.2.2.2.2.2.2.1
@[irreducible] noncomputable def lw := Z.2.2.2.2.2.2.2.2.2.2.2.2.2.2.2.2.2.2.2.2.1
@[irreducible] noncomputable def tn := Z.2.2.2.2.2.2.2.2.2.2.2.2.2.2.2.2.2.2.2.2.2
set_option maxHeartbeats 4000000 in
theorem key : Stmt w A base g fr mg mb p loose mean s R x d l t refs kvs n nm lw tn := fun B X T G hh hroom hu hk hkl hnl hlw hg h => by
  revert X; k_fill; intro X
  dsimp only [hdrNews] at G
  keq_rows
  k_steps
  (rename Fr _ _ _ _ => F1)
  (rename News _ _ _ _ => N1)
  refine iter_listTurns (lo := W.listOf refs.toArray n) (vs := refs) hh F1 N1 (by k_mem) rfl rfl ?_
  intro I' l1
  (try k_lt l1)
  refine itm_ind (fun vs m => ∃ (kvs' : List (Str × Str)) (tl : Tok), TupsIn g vs kvs' ∧ (∀ p ∈ kvs', p.1.length ≤ 1000) ∧ findV kvs' lw = findV kvs lw ∧
    m (Str.ofString "self") = some (Value.ref x) ∧ m (Str.ofString "name") = some (Value.str lw tl) ∧ m (Str.ofString "default") = some Value.none) ?_ ?_ refs _ ⟨kvs, _, hk, hkl, rfl, rfl, rfl, rfl⟩
  · rintro m ⟨kvs', tl, hT, hl', he, m1, m2, m3⟩
    cases hT
    refine ItemsRest.zero fun h' tk' F' N' => ?_
    replace F' := Fr.expose _ F' (all3 m1 m2 m3)
    dsimp only [kstB] at F'
    revert l1 he m1 m2 m3 F' N'; revert I' tl m h' tk'; tm_at "clo5"; k_extra "kin"
    k_steps
    exact h _ _ _ (by rw [← he]; rfl) (by assumption)
  · rintro v r m ⟨kvs', tl, hT, hl', he, m1, m2, m3⟩ IH
    obtain _ | ⟨ht, hr⟩ := hT
    rename_i a k' v' t' u' kvs'
    refine ItemsRest.val fun h' tk' F' => ?_
    replace F' := Fr.expose _ F' (all3 m1 m2 m3)
    dsimp only [kstB] at F'
    ktu_objs
    have hT := IsTup.keeps ht F'.keep
    have hkl1 := hl' _ List.mem_cons_self
    dsimp only at hkl1
    (rename News _ _ _ _ => N'; rename PySem.Obj.cls _ = _ => hc'; rename Obj => o')
    clear ht
    revert l1 m1 m2 m3 IH hr hl' he F' hc' N' hT hkl1; revert I' r m tl a k' v' t' u'; revert kvs' h' tk' o'; tm_at "clo4"; tm_at "clo9"; k_extra "kin"
    k_steps
    · rename_i hq kG
      have hq' := eq_of_beq hq
      exact h _ _ _ (by rw [← he]; simp only [findV, hq', if_true]; exact ⟨_, rfl⟩) (kG.sub fun p hp => List.mem_cons_of_mem _ hp)
    · rename_i hq
      have hq' := ne_of_beq_false hq
      exact IH _ ⟨_, _, hr, fun p hp => hl' p (List.mem_cons_of_mem _ hp), by rw [← he]; simp only [findV, hq', if_false], rfl, rfl, rfl⟩
theorem zeq : (w, A, base, g, fr, mg, mb, p, loose, mean, s, R, x, d, l, t, refs, kvs, n, nm, lw, tn) = Z := by with_unfolding_all rfl
end Cget_c
set_option maxHeartbeats 4000000 in
theorem get_c {w : World} {A : Around} {base g : Heap} {fr : List Env} {mg mb : Str → Option Value} {p : Program} {loose : List Str} {mean : ExcName → Option Value} {s : Shared} {R : Result → Shared → Prop} {x d l : Addr} {t : Tok} {refs : List Value} {kvs : List (Str × Str)} {n : Nat} {nm lw : Str} {tn : Tok} : Cget_c.Stmt w A base g fr mg mb p loose mean s R x d l t refs kvs n nm lw tn :=
  hilb Cget_c.P0 Cget_c.Z rfl (Eq.subst (motive := Cget_c.P0) Cget_c.zeq Cget_c.key) (w, A, base, g, fr, mg, mb, p, loose, mean, s, R, x, d, l, t, refs, kvs, n, nm, lw, tn)
section
end
end Mine

namespace Mine
open PySem.Calls
noncomputable def CNext (news : List (Addr × Obj)) (p : Prop) (news' : List (Addr × Obj)) : Prop := news' = news ∧ p
section
variable {prog : Program} {w : World} {A : Around} {h₀ : Heap} {L : Addr} {m : Str → Option Value} {env : Env} {ct elt : PySem.Expr} {x : Str} {scope : Scope} {cl : List (Str × Addr)} {s : Shared} {S : List (Addr × Obj) → Prop} {P : Nat → Value → Prop} {Fin : List Value → List (Addr × Obj) → Prop} {news : List (Addr × Obj)}
theorem crt_gen {n : Nat} (J : Nat → List Value → Prop) (h0 : J 0 [])
    (turn : ∀ i v ys I oI C oC D m₂ h tk (E' : Value → Shared → Prop), i < n → P i v → J i ys → LCg.NsObj oC m₂ → m₂ x = some v → Fr h₀ L h m → News h₀ L h ((I, oI) :: (C, oC) :: (D, LCg.lst ys) :: news) → LCg.Off3 I C D news → ((@Ne Nat I C) ∧ (@Ne Nat I D) ∧ (@Ne Nat C D)) →
      wpAny (model prog w) A (isTrue ct (compEnvC scope cl C env) (eval ct (compEnvC scope cl C env))) (fun b s' => if b = true then wpAny (model prog w) A (eval elt (compEnvC scope cl C env)) (LCg.CompEnd h₀ L m { s with heap := h, toks := tk } I oI C oC D (LCg.lst ys) S (fun y news' => CNext news (J (i + 1) (ys ++ [y])) news')) E' s'
        else LCg.CompEnd h₀ L m { s with heap := h, toks := tk } I oI C oC D (LCg.lst ys) S (fun _ news' => CNext news (J (i + 1) ys) news') Value.none s') E' { s with heap := h, toks := tk })
    (fin : ∀ ys, J n ys → Fin ys news) : LCt.CompRestT prog w A h₀ L m env ct elt x scope cl s S P Fin n 0 [] news := by
  have key : ∀ (j i : Nat) (ys : List Value), i + j = n → J i ys → LCt.CompRestT prog w A h₀ L m env ct elt x scope cl s S P Fin j i ys news := by
    intro j
    induction j with
    | zero =>
      intro i ys hi hy
      have e : i = n := by omega
      subst e
      exact LCt.CompRestT.zero (fin ys hy)
    | succ j ih =>
      intro i ys hi hy
      refine LCt.CompRestT.succ ?_
      intro v I oI C oC D m₂ h tk E' hv hC hx F N off ne
      refine wpAny_mono (turn i v ys I oI C oC D m₂ h tk E' (by omega) hv hy hC hx F N off ne) (fun b s₂ hq => ?_) fun _ _ e => e
      cases b with
      | true =>
        simp only [if_true] at hq ⊢
        refine wpAny_mono hq (fun y s₃ hr => ?_) fun _ _ e => e
        obtain ⟨h', tk', nw, e, F', N', off', hS, hn, hj⟩ := hr
        rw [hn] at N' off' hS
        exact ⟨h', tk', news, e, F', N', off', hS, ih (i + 1) _ (by omega) hj⟩
      | false =>
        simp only [Bool.false_eq_true, if_false] at hq ⊢
        obtain ⟨h', tk', nw, e, F', N', off', hS, hn, hj⟩ := hq
        rw [hn] at N' off' hS
        exact ⟨h', tk', news, e, F', N', off', hS, ih (i + 1) _ (by omega) hj⟩
  exact key n 0 [] (by omega) h0
theorem cr_gen {n : Nat} (J : Nat → List Value → Prop) (h0 : J 0 [])
    (turn : ∀ i v ys I oI C oC D m₂ h tk (E' : Value → Shared → Prop), i < n → P i v → J i ys → LCg.NsObj oC m₂ → m₂ x = some v → Fr h₀ L h m → News h₀ L h ((I, oI) :: (C, oC) :: (D, LCg.lst ys) :: news) → LCg.Off3 I C D news → ((@Ne Nat I C) ∧ (@Ne Nat I D) ∧ (@Ne Nat C D)) →
      wpAny (model prog w) A (eval elt (compEnvC scope cl C env)) (LCg.CompEnd h₀ L m { s with heap := h, toks := tk } I oI C oC D (LCg.lst ys) S (fun y news' => CNext news (J (i + 1) (ys ++ [y])) news')) E' { s with heap := h, toks := tk })
    (fin : ∀ ys, J n ys → Fin ys news) : LCg.CompRest prog w A h₀ L m env elt x scope cl s S P Fin n 0 [] news := by
  have key : ∀ (j i : Nat) (ys : List Value), i + j = n → J i ys → LCg.CompRest prog w A h₀ L m env elt x scope cl s S P Fin j i ys news := by
    intro j
    induction j with
    | zero =>
      intro i ys hi hy
      have e : i = n := by omega
      subst e
      exact LCg.CompRest.zero (fin ys hy)
    | succ j ih =>
      intro i ys hi hy
      refine LCg.CompRest.succ ?_
      intro v I oI C oC D m₂ h tk E' hv hC hx F N off ne
      refine wpAny_mono (turn i v ys I oI C oC D m₂ h tk E' (by omega) hv hy hC hx F N off ne) (fun y s₂ hr => ?_) fun _ _ e => e
      obtain ⟨h', tk', nw, e, F', N', off', hS, hn, hj⟩ := hr
      rw [hn] at N' off' hS
      exact ⟨h', tk', news, e, F', N', off', hS, ih (i + 1) _ (by omega) hj⟩
  exact key n 0 [] (by omega) h0
theorem drop_at {vs : List Value} {i : Nat} {v : Value} (h : vs.toArray[i]? = some v) : vs.drop i = v :: vs.drop (i + 1) := by
  have h' : vs[i]? = some v := by simpa using h
  obtain ⟨hlt, e⟩ := List.getElem?_eq_some_iff.mp h'
  rw [List.drop_eq_getElem_cons hlt, e]
/-- a comprehension with a test over a list: J of the items to come and of the values so far -/
theorem crt_list {vs : List Value} (J : List Value → List Value → Prop) (h0 : J vs [])
    (turn : ∀ v r ys I oI C oC D m₂ h tk (E' : Value → Shared → Prop), J (v :: r) ys → LCg.NsObj oC m₂ → m₂ x = some v → Fr h₀ L h m → News h₀ L h ((I, oI) :: (C, oC) :: (D, LCg.lst ys) :: news) → LCg.Off3 I C D news → ((@Ne Nat I C) ∧ (@Ne Nat I D) ∧ (@Ne Nat C D)) →
      wpAny (model prog w) A (isTrue ct (compEnvC scope cl C env) (eval ct (compEnvC scope cl C env))) (fun b s' => if b = true then wpAny (model prog w) A (eval elt (compEnvC scope cl C env)) (LCg.CompEnd h₀ L m { s with heap := h, toks := tk } I oI C oC D (LCg.lst ys) S (fun y news' => CNext news (J r (ys ++ [y])) news')) E' s'
        else LCg.CompEnd h₀ L m { s with heap := h, toks := tk } I oI C oC D (LCg.lst ys) S (fun _ news' => CNext news (J r ys) news') Value.none s') E' { s with heap := h, toks := tk })
    (fin : ∀ ys, J [] ys → Fin ys news) : LCt.CompRestT prog w A h₀ L m env ct elt x scope cl s S (fun i v => vs.toArray[i]? = some v) Fin vs.toArray.size 0 [] news := by
  refine crt_gen (fun i ys => J (vs.drop i) ys) h0 (fun i v ys I oI C oC D m₂ h tk E' hi hv hJ => ?_) fun ys hJ => fin ys ?_
  · rw [drop_at hv] at hJ
    exact turn v _ ys I oI C oC D m₂ h tk E' hJ
  · rw [List.size_toArray, List.drop_length] at hJ
    exact hJ
theorem cr_list {vs : List Value} (J : List Value → List Value → Prop) (h0 : J vs [])
    (turn : ∀ v r ys I oI C oC D m₂ h tk (E' : Value → Shared → Prop), J (v :: r) ys → LCg.NsObj oC m₂ → m₂ x = some v → Fr h₀ L h m → News h₀ L h ((I, oI) :: (C, oC) :: (D, LCg.lst ys) :: news) → LCg.Off3 I C D news → ((@Ne Nat I C) ∧ (@Ne Nat I D) ∧ (@Ne Nat C D)) →
      wpAny (model prog w) A (eval elt (compEnvC scope cl C env)) (LCg.CompEnd h₀ L m { s with heap := h, toks := tk } I oI C oC D (LCg.lst ys) S (fun y news' => CNext news (J r (ys ++ [y])) news')) E' { s with heap := h, toks := tk })
    (fin : ∀ ys, J [] ys → Fin ys news) : LCg.CompRest prog w A h₀ L m env elt x scope cl s S (fun i v => vs.toArray[i]? = some v) Fin vs.toArray.size 0 [] news := by
  refine cr_gen (fun i ys => J (vs.drop i) ys) h0 (fun i v ys I oI C oC D m₂ h tk E' hi hv hJ => ?_) fun ys hJ => fin ys ?_
  · rw [drop_at hv] at hJ
    exact turn v _ ys I oI C oC D m₂ h tk E' hJ
  · rw [List.size_toArray, List.drop_length] at hJ
    exact hJ
end
end Mine

namespace Mine
noncomputable def allV (lw : Str) : List (Str × Str) → List Str
  | [] => []
  | (k, v) :: r => if Txt.lower k = lw then v :: allV lw r else allV lw r
section
variable {w : World} {A : Around} {base g : Heap} {fr : List Env} {mg mb : Str → Option Value} {p : Program} {loose : List Str} {mean : ExcName → Option Value} {s : Shared} {R : Result → Shared → Prop}
  (B : Below A base fr g) (X : Frag.In (hd.heap_39 w.params) g) (T : Top p loose mean mg mb g)
include B X T
end
namespace Cget_all_c
noncomputable def Stmt (w : World) (A : Around) (base g : Heap) (fr : List Env) (mg mb : Str → Option Value) (p : Program) (loose : List Str) (mean : ExcName → Option Value) (s : Shared) (R : Result → Shared → Prop) (x d l : Addr) (t : Tok) (refs : List Value) (kvs : List (Str × Str)) (n : Nat) (nm lw : Str) (tn : Tok) : Prop := ∀ (B : Below A base fr g) (X : Frag.In (hd.heap_39 w.params) g) (T : Top p loose mean mg mb g) (G : GS g s.heap (hdrNews w x d l t refs n)) (hh : A.handled = none) (hroom : A.depth + 4 < recursionLimit) (hu : A.units + 20 < cLine) (hk : TupsIn g refs kvs) (hkl : ∀ p ∈ kvs, p.1.length ≤ 1000) (hnl : nm.length ≤ 1000) (hlw : Txt.lower nm = lw) (hg : ∀ c ∈ lw.cps.toList, good c) (hz : refs.length ≤ 1000) (h : ∀ D vs h' tk', StrsAre vs (allV lw kvs) → ((@Ne Nat x D) ∧ (@Ne Nat d D) ∧ (@Ne Nat l D)) → GS g h' ((D, W.listOf vs.toArray vs.length) :: hdrNews w x d l t refs n) → R (.ok (.ret (.ref D))) { s with heap := h', toks := tk' }), codeAny (model Challenge.rw_st0024_01.row.prog w) A (.call (.ref 157) ⟨[.ref x, .str nm tn], []⟩) R s
noncomputable def P0 (z : World × Around × Heap × Heap × (List Env) × (Str → Option Value) × (Str → Option Value) × Program × (List Str) × (ExcName → Option Value) × Shared × (Result → Shared → Prop) × Addr × Addr × Addr × Tok × (List Value) × (List (Str × Str)) × Nat × Str × Str × Tok) : Prop := Stmt (z.1) (z.2.1) (z.2.2.1) (z.2.2.2.1) (z.2.2.2.2.1) (z.2.2.2.2.2.1) (z.2.2.2.2.2.2.1) (z.2.2.2.2.2.2.2.1) (z.2.2.2.2.2.2.2.2.1) (z.2.2.2.2.2.2.2.2.2.1) (z.2.2.2.2.2.2.2.2.2.2.1) (z.2.2.2.2.2.2.2.2.2.2.2.1) (z.2.2.2.2.2.2.2.2.2.2.2.2.1) (z.2.2.2.2.2.2.2.2.2.2.2.2.2.1) (z.2.2.2.2.2.2.2.2.2.2.2.2.2.2.1) (z.2.2.2.2.2.2.2.2.2.2.2.2.2.2.2.1) (z.2.2.2.2.2.2.2.2.2.2.2.2.2.2.2.2.1) (z.2.2.2.2.2.2.2.2.2.2.2.2.2.2.2.2.2.1) (z.2.2.2.2.2.2.2.2.2.2.2.2.2.2.2.2.2.2.1) (z.2.2.2.2.2.2.2.2.2.2.2.2.2.2.2.2.2.2.2.1) (z.2.2.2.2.2.2.2.2.2.2.2.2.2.2.2.2.2.2.2.2.1) (z.2.2.2.2.2.2.2.2.2.2.2.2.2.2.2.2.2.2.2.2.2)
noncomputable def Z := @Classical.epsilon _ ⟨(w00, A00, default, default, [], (fun _ => none), (fun _ => none), default, [], (fun _ => none), s00, (fun _ _ => True), 0, 0, 0, 0, [], [], 0, default, default, 0)⟩ fun z => ¬ P0 z
@[irreducible] noncomputable def w := Z.1
@[irreducible] noncomputable def A := Z.2.1
@[irreducible] noncomputable def base := Z.2.2.1
@[irreducible] noncomputable def g := Z.2.2.2.1
@[irreducible] noncomputable def fr := Z.2.2.2.2.1
@[irreducible] noncomputable def mg := Z.2.2.2.2.2.1
@[irreducible] noncomputable def mb := Z.2.2.2.2.2.2.1
@[irreducible] noncomputable def p := Z.2.2.2.2.2.2.2.1
@[irreducible] noncomputable def loose := Z.2.2.2.2.2.2.2.2.1
@[irreducible] noncomputable def mean := Z.2.2.2.2.2.2.2.2.2.1
@[irreducible] noncomputable def s := Z.2.2.2.2.2.2.2.2.2.2.1
@[irreducible] noncomputable def R := Z.2.2.2.2.2.2.2.2.2.2.2.1
@[irreducible] noncomputable def x := Z.2.2.2.2.2.2.2.2.2.2.2.2.1
@[irreducible] noncomputable def d := Z.2.2.2.2.2.2.2.2.2.2.2.2.2.1
@[irreducible] noncomputable def l := Z.2.2.2.2.2.2.2.2.2.2.2.2.2.2.1
@[irreducible] noncomputable def t := Z.2.2.2.2.2.2.2.2.2.2.2.2.2.2.2.1
@[irreducible] noncomputable def refs := Z.2.2.2.2.2.2.2.2.2.2.2.2.2.2.2.2.1
@[irreducible] noncomputable def kvs := Z.2.2.2.2.2.2.2.2.2.2.2.2.2.2.2.2.2.1
@[irreducible] noncomputable def n := Z.2.2.2.2.2.2.2.2.2.2.2.2.2.2.2.2.2.2.1
@[irreducible] noncomputable def nm := Z.2.2.2.2.2.2.2.2.2.2.2.2.2.2.2.2.2.2.2.1
@[irreducible] noncomputable def lw := Z.2.2.2.2.2.2.2.2.2.2.2.2.2.2.2.2.2.2.2.2.1
@[irreducible] noncomputable def tn := Z.2.2.2.2.2.2.2.2.2.2.2.2.2.2.2.2.2.2.2.2.2
set_option maxHeartbeats 4000000 in
theorem key : Stmt w A base g fr mg mb p loose mean s R x d l t refs kvs n nm lw tn := fun B X T G hh hroom hu hk hkl hnl hlw hg hz h => by
  revert X; k_fill; intro X
  dsimp only [hdrNews] at G
  keq_rows
  k_steps
  (rename Fr _ _ _ _ => F1)
  refine LCt.ListComp_T (F₀ := F1) (by with_unfolding_all rfl) (by decide) (by rfl) (by decide) (by rfl) ?_
  k_steps
  (rename Fr _ _ _ _ => F2)
  (rename News _ _ _ _ => N2)
  refine LCt.CompSrcT.ledger hh F2 N2 (by k_mem) (by rw [sizeLine_eq]; simp only [List.size_toArray]; omega) ?_
  intro g'
  refine crt_list (fun r ys => ∃ kvs' k0, TupsIn g r kvs' ∧ (∀ p ∈ kvs', p.1.length ≤ 1000) ∧ StrsAre ys k0 ∧ allV lw kvs = k0 ++ allV lw kvs') ⟨kvs, [], hk, hkl, .nil, rfl⟩ ?_ ?_
  · rintro v r ys I' oI' C' oC' D' m' h' tk' E' ⟨kvs', k0, hT, hl', hs, he⟩ hC' hx' F' N' off' ne'
    obtain _ | ⟨ht, hr⟩ := hT
    rename_i a k' v' t' u' kvs'
    have hT := IsTup.keeps ht F'.keep
    have hkl1 := hl' _ List.mem_cons_self
    dsimp only at hkl1
    clear ht
    revert g' r ys I' oI' C' oC' D' m' h' tk' E' a k' v' t' u' kvs' k0; k_extra "kw"
    k_steps
    · rename_i hq
      have hq' := eq_of_beq hq
      refine ⟨rfl, _, _, hr, fun p hp => hl' p (List.mem_cons_of_mem _ hp), kct_snoc hs, ?_⟩
      rw [he]; simp only [allV, hq', if_true, List.append_assoc, List.singleton_append]
    · rename_i hq
      have hq' := ne_of_beq_false hq
      refine ⟨rfl, _, _, hr, fun p hp => hl' p (List.mem_cons_of_mem _ hp), hs, ?_⟩
      rw [he]; simp only [allV, hq', if_false]
  · rintro ys ⟨kvs', k0, hT, hl', hs, he⟩
    cases hT
    revert g' ys k0; k_extra "kw"
    k_steps
    (rename GS _ _ _ => kG)
    refine h _ _ _ _ (by rw [he]; simpa only [allV, List.append_nil] using hs) ⟨by omega, by omega, by omega⟩ (kG.sub fun p hp => ?_)
    simp only [List.mem_cons, List.not_mem_nil, or_false] at hp ⊢
    rcases hp with hp | hp | hp | hp <;> simp only [hp, true_or, or_true]
theorem zeq : (w, A, base, g, fr, mg, mb, p, loose, mean, s, R, x, d, l, t, refs, kvs, n, nm, lw, tn) = Z := by with_unfolding_all rfl
end Cget_all_c
set_option maxHeartbeats 4000000 in
theorem get_all_c {w : World} {A : Around} {base g : Heap} {fr : List Env} {mg mb : Str → Option Value} {p : Program} {loose : List Str} {mean : ExcName → Option Value} {s : Shared} {R : Result → Shared → Prop} {x d l : Addr} {t : Tok} {refs : List Value} {kvs : List (Str × Str)} {n : Nat} {nm lw : Str} {tn : Tok} : Cget_all_c.Stmt w A base g fr mg mb p loose mean s R x d l t refs kvs n nm lw tn :=
  hilb Cget_all_c.P0 Cget_all_c.Z rfl (Eq.subst (motive := Cget_all_c.P0) Cget_all_c.zeq Cget_all_c.key) (w, A, base, g, fr, mg, mb, p, loose, mean, s, R, x, d, l, t, refs, kvs, n, nm, lw, tn)
section
end
end Mine

namespace Mine
open PySem.Calls
section
variable {prog : Program} {w : World} {A₀ A : Around} {s : Shared} {base h₀ : Heap} {outer : List Env} {own rest news : List (Addr × Obj)} {K : Frag} {p : Program} {loose : List Str} {mean : ExcName → Option Value} {m mg mb : Str → Option Value} {L : Addr} {env : Env}
/-- as GS.of; and what may not turn lies on the ground -/
theorem GS.of' (B : Below A₀ base outer h₀) (F : Fr h₀ L s.heap m) (X : K.In h₀) (N : News h₀ L s.heap news) (T : Top p loose mean mg mb h₀) (hA : A.frames = some (env :: outer)) (hf : env.frame = some L) (hke : env.scope.kind = .function)
    (h1 : ∀ p ∈ own, p ∈ news) (h2 : ∀ p ∈ rest, p ∈ news) (hd : ∀ p ∈ rest, ∀ q ∈ own, p.1 ≠ q.1) :
    ∃ g, Below A base (env :: outer) g ∧ K.In g ∧ Top p loose mean mg mb g ∧ GS g s.heap own ∧ (∀ a o, s.heap.get? a = some o → a ∉ own.map (·.1) → g.get? a = some o) ∧ h₀.StaysIn g ∧ ∀ h' own', GS g h' own' → Fr h₀ L h' m ∧ News h₀ L h' (own' ++ rest) ∧ ∀ p ∈ rest, ∀ q ∈ own', p.1 ≠ q.1 := by
  have No : News h₀ L s.heap own := fun p hp => N p (h1 p hp)
  have nm : ∀ b o, h₀.get? b = some o → b ∉ own.map (·.1) := fun b o e q => by
    obtain ⟨p, hp, rfl⟩ := List.mem_map.mp q
    rw [(No p hp).2.2] at e; cases e
  have st : h₀.StaysIn (hideAll s.heap (own.map (·.1))) := fun b o e => hideAll_get _ (F.keep b o e) (nm b o e)
  obtain ⟨oL, es, ep, hL, hLd, hLk, hLf⟩ := F.ns
  have nL : L ∉ own.map (·.1) := fun q => by
    obtain ⟨p, hp, e⟩ := List.mem_map.mp q
    exact (No p hp).2.1 e
  have hLg := hideAll_get (own.map (·.1)) hL nL
  have B₁ := pushX B F hf hke
  have XK := X.keeps st
  have TK := T.keeps st
  refine ⟨hideAll s.heap (own.map (·.1)), ⟨hA, fun b o e => st b o (B.stays b o e), funFrames_hideAll B₁.frames fun env' he b hb hf' => ?_⟩, XK, TK,
    ⟨fun b o e => of_hideAll _ e, Nat.le_of_eq (hideAll_size _ _), fun p hp => ⟨(No p hp).1, hideAll_none _ (List.mem_map_of_mem hp)⟩⟩, fun a o e n => hideAll_get _ e n, st, fun h' own' G => ⟨⟨⟨oL, es, ep, G.stays L oL hLg, hLd, hLk, hLf⟩, fun b o e => G.stays b o (st b o e), F.above⟩, fun p hp => ?_, fun p hp q hq e => ?_⟩⟩
  · cases he with
    | head => exact nL ((Option.some.inj (hf.symm.trans hf') : L = b) ▸ hb)
    | tail _ he =>
      obtain ⟨L₁, o₁, hf₁, ho₁⟩ := funFrames_in B.frames env' he
      rw [hf₁] at hf'
      exact nm L₁ o₁ ho₁ ((Option.some.inj hf' : L₁ = b) ▸ hb)
  · rcases List.mem_append.mp hp with hp | hp
    · refine ⟨(G.news p hp).1, fun q => ?_, ?_⟩
      · have := (G.news p hp).2; rw [q, hLg] at this; cases this
      · cases q : h₀.get? p.1 with
        | none => rfl
        | some o => have := (G.news p hp).2; rw [st _ _ q] at this; cases this
    · have n := N p (h2 p hp)
      have hr := hideAll_get (own.map (·.1)) n.1 fun q => by
        obtain ⟨q', hq, e⟩ := List.mem_map.mp q
        exact hd p hp q' hq e.symm
      exact ⟨G.stays _ _ hr, n.2⟩
  · have hr := hideAll_get (own.map (·.1)) (N p (h2 p hp)).1 fun q => by
      obtain ⟨q', hq, e⟩ := List.mem_map.mp q
      exact hd p hp q' hq e.symm
    have := (G.news q hq).2
    rw [← e, hr] at this; cases this
end
noncomputable def AllGt (d : Addr) : List (Addr × Obj) → Prop
  | [] => True
  | p :: r => @LT.lt Nat _ d p.1 ∧ AllGt d r
theorem AllGt.mem {d : Addr} : ∀ {l : List (Addr × Obj)}, AllGt d l → ∀ p ∈ l, @LT.lt Nat _ d p.1
  | [], _, _, h => nomatch h
  | _ :: _, x, p, h => by
    rcases List.mem_cons.mp h with rfl | h
    · exact x.1
    · exact AllGt.mem x.2 p h
theorem allLt_ne {d a : Nat} {l : List (Addr × Obj)} (h : AllLt d l) (ha : d ≤ a) : ∀ q ∈ l, a ≠ q.1 := fun q hq e => by
  have h1 : @LT.lt Nat _ q.1 d := allLt_mem h q hq
  have h2 : @Eq Nat a q.1 := e
  omega
theorem allGt_ne {d a : Nat} {l : List (Addr × Obj)} (h : AllGt d l) (ha : a ≤ d) : ∀ q ∈ l, a ≠ q.1 := fun q hq e => by
  have h1 : @LT.lt Nat _ d q.1 := h.mem q hq
  have h2 : @Eq Nat a q.1 := e
  omega
/-- the tail lies off these addresses -/
noncomputable def Offs (as : List Addr) (l : List (Addr × Obj)) : Prop := ∀ p ∈ l, ∀ a ∈ as, a ≠ p.1
theorem offs_ne {as : List Addr} {l : List (Addr × Obj)} {a : Nat} (h : Offs as l) (ha : a ∈ as) : ∀ q ∈ l, a ≠ q.1 := fun q hq => h q hq a ha
theorem ne_all {l own : List (Addr × Obj)} (h : ∀ q ∈ own, ∀ p ∈ l, q.1 ≠ p.1) : ∀ p ∈ l, ∀ q ∈ own, p.1 ≠ q.1 := fun p hp q hq e => h q hq p hp e.symm
end Mine
namespace Mine
theorem row48 : True := by
  k_with "gs_tail" => first | exact offs_ne (by assumption) (by k_mem) | exact allLt_ne (by assumption) (by (try dsimp only); omega) | exact allGt_ne (by assumption) (by (try dsimp only); omega) | fail "no tail"
  trivial
end Mine
namespace Mine
theorem row49 : True := by
  k_with "k_all" => k_extra "gs_tail"
  trivial
end Mine
namespace Mine
theorem row50 : True := by
  k_with "gs_mem" => first | assumption | (refine List.mem_cons_of_mem _ ?_; k_extra "gs_mem")
  trivial
end Mine
namespace Mine
theorem row51 : True := by
  k_with "gs_sub" => first | exact List.forall_mem_nil _ | exact List.forall_mem_cons.mpr ⟨by k_mem, by k_extra "gs_sub"⟩ | (((first | tm_at "clo1" | refine fun p9q9 => ?_); (first | tm_at "clo1" | refine fun hp9q9 => ?_)); k_extra "gs_mem")
  trivial
end Mine
namespace Mine
theorem row52 : True := by
  k_with "gs_offT" => first | exact List.forall_mem_nil _ | exact List.forall_mem_cons.mpr ⟨by k_extra "gs_tail", by k_extra "gs_offT"⟩
  trivial
end Mine
namespace Mine
theorem row53 : True := by
  k_with "gs_off" => first | exact List.forall_mem_nil _ | exact List.forall_mem_cons.mpr ⟨by k_all, by k_extra "gs_off"⟩ | (refine ne_all ?_; k_extra "gs_offT")
  trivial
end Mine
namespace Mine
open PySem.Calls
theorem all2 {m : Str → Option Value} {a b : Str} {x y : Value} (h1 : m a = some x) (h2 : m b = some y) : ∀ p ∈ [(a, x), (b, y)], m p.1 = some p.2 := by
  intro p hp
  simp only [List.mem_cons, List.not_mem_nil, or_false] at hp
  rcases hp with rfl | rfl <;> assumption
end Mine

namespace Mine
theorem TupsIn.keeps {g g' : Heap} (k : g.StaysIn g') : ∀ {refs : List Value} {kvs : List (Str × Str)}, TupsIn g refs kvs → TupsIn g' refs kvs
  | _, _, .nil => .nil
  | _, _, .cons h r => .cons (h.keeps k) (r.keeps k)
section
variable {prog : Program} {w : World} {A₀ A : Around} {s : Shared} {base h₀ : Heap} {outer : List Env} {own rest news : List (Addr × Obj)} {K : Frag} {p : Program} {loose : List Str} {mean : ExcName → Option Value} {m mg mb : Str → Option Value} {L : Addr} {env : Env} {c : Code} {R : Result → Shared → Prop}
/-- a call that turns all of the ledger -/
theorem GS.callH (B : Below A₀ base outer h₀) (F : Fr h₀ L s.heap m) (X : K.In h₀) (N : News h₀ L s.heap news) (T : Top p loose mean mg mb h₀) (hA : A.frames = some (env :: outer)) (hf : env.frame = some L) (hke : env.scope.kind = .function)
    (k : ∀ g, Below A base (env :: outer) g → K.In g → Top p loose mean mg mb g → GS g s.heap news → h₀.StaysIn g → (∀ h' own', GS g h' own' → Fr h₀ L h' m ∧ News h₀ L h' (own' ++ [])) → codeAny (model prog w) A c R s) : codeAny (model prog w) A c R s := by
  obtain ⟨g, gB, gX, gT, gG, gK, gS, gb⟩ := GS.of' (s := s) (A := A) (own := news) (rest := []) B F X N T hA hf hke (fun p hp => hp) (fun p hp => nomatch hp) (fun p hp => nomatch hp)
  exact k g gB gX gT gG gS fun h' own' G => ⟨(gb h' own' G).1, (gb h' own' G).2.1⟩
end
theorem row54 : True := by
  k_with "k_enter" => ((with_reducible show codeAny _ _ (Code.call (Value.ref 165) _) _ _); (refine' GS.callH ?kBr54 ?kFr54 ?kXr54 ?kNr54 ?kTr54 ?kAr54 ?kfr54 ?kkr54 (fun ggq9 gBq9 gXq9 gTq9 gGq9 gSq9 gBackq9 => get_c gBq9 gXq9 gTq9 gGq9 ?i1r54 ?irr54 ?iur54 (TupsIn.keeps gSq9 ?i2r54) ?i3r54 ?i4r54 ?i5r54 ?i6r54 ?_); (case kBr54 => assumption); (case kFr54 => assumption); (case kXr54 => assumption); (case kNr54 => assumption); (case kTr54 => assumption); (case kAr54 => keq_hits); (case kfr54 => exact rfl); (case kkr54 => exact rfl); (case i1r54 => assumption); (case irr54 => k_room); (case iur54 => (try simp only [Around.deeper_units]); omega); (case i2r54 => assumption); (case i3r54 => assumption); (case i4r54 => assumption); (case i5r54 => assumption); (case i6r54 => assumption); (revert ggq9; ((first | tm_at "clo1" | refine fun ggq9 => ?_); refine fun gBq9 => ?_; refine fun gXq9 => ?_; refine fun gTq9 => ?_; refine fun gGq9 => ?_; refine fun gSq9 => ?_; refine fun gBackq9 => ?_); (refine fun rv'q9 => ?_; (first | tm_at "clo1" | refine fun h'q9 => ?_); (first | tm_at "clo1" | refine fun tk'q9 => ?_); (first | tm_at "clo1" | refine fun hrv'q9 => ?_); refine fun gG'q9 => ?_); (obtain ⟨F'q9, N'q9⟩ := gBackq9 _ _ gG'q9); (clear gBq9 gXq9 gTq9 gGq9 gSq9 gBackq9 gG'q9); (try simp only [List.cons_append, List.nil_append, List.append_nil] at N'q9); (try (have hrv2q9 := hrv'q9; rw [(by assumption : findV _ _ = none)] at hrv2q9; simp only [IsV] at hrv2q9; subst hrv2q9)))))
  trivial
noncomputable abbrev tupO (vs : Array Value) : Obj := { cls := .type "tuple", data := .seq vs }
section
variable {w : World} {A : Around} {base g : Heap} {fr : List Env} {mg mb : Str → Option Value} {p : Program} {loose : List Str} {mean : ExcName → Option Value} {s : Shared} {R : Result → Shared → Prop}
  (B : Below A base fr g) (X : Frag.In (hd.heap_39 w.params) g) (T : Top p loose mean mg mb g)
include B X T
end
namespace Csetd_c
noncomputable def Stmt (w : World) (A : Around) (base g : Heap) (fr : List Env) (mg mb : Str → Option Value) (p : Program) (loose : List Str) (mean : ExcName → Option Value) (s : Shared) (R : Result → Shared → Prop) (x d l : Addr) (t : Tok) (refs : List Value) (kvs : List (Str × Str)) (n : Nat) (nm lw vl : Str) (tn tv : Tok) : Prop := ∀ (B : Below A base fr g) (X : Frag.In (hd.heap_39 w.params) g) (T : Top p loose mean mg mb g) (G : GS g s.heap (hdrNews w x d l t refs n)) (ho : (@Ne Nat x d) ∧ (@Ne Nat x l) ∧ (@Ne Nat d l)) (hh : A.handled = none) (hroom : A.depth + 8 < recursionLimit) (hu : A.units + 40 < cLine) (hk : TupsIn g refs kvs) (hkl : ∀ p ∈ kvs, p.1.length ≤ 1000) (hnl : nm.length ≤ 1000) (hlw : Txt.lower nm = lw) (hg : ∀ c ∈ lw.cps.toList, good c) (hg1 : ∀ c ∈ nm.cps.toList, good c) (hg2 : ∀ c ∈ vl.cps.toList, good c) (hz : refs.length ≤ 1000) (hnew : findV kvs lw = none) (h : ∀ tp tk' h', (@LT.lt Nat _ x tp ∧ @LT.lt Nat _ d tp ∧ @LT.lt Nat _ l tp) → GS g h' ((tp, tupO #[.str nm tn, .str vl tv]) :: hdrNews w x d l t (refs ++ [.ref tp]) (n + 1)) → R (.ok (.ret (.str vl tv))) { s with heap := h', toks := tk' }), codeAny (model Challenge.rw_st0024_01.row.prog w) A (.call (.ref 208) ⟨[.ref x, .str nm tn, .str vl tv], []⟩) R s
noncomputable def P0 (z : World × Around × Heap × Heap × (List Env) × (Str → Option Value) × (Str → Option Value) × Program × (List Str) × (ExcName → Option Value) × Shared × (Result → Shared → Prop) × Addr × Addr × Addr × Tok × (List Value) × (List (Str × Str)) × Nat × Str × Str × Str × Tok × Tok) : Prop := Stmt (z.1) (z.2.1) (z.2.2.1) (z.2.2.2.1) (z.2.2.2.2.1) (z.2.2.2.2.2.1) (z.2.2.2.2.2.2.1) (z.2.2.2.2.2.2.2.1) (z.2.2.2.2.2.2.2.2.1) (z.2.2.2.2.2.2.2.2.2.1) (z.2.2.2.2.2.2.2.2.2.2.1) (z.2.2.2.2.2.2.2.2.2.2.2.1) (z.2.2.2.2.2.2.2.2.2.2.2.2.1) (z.2.2.2.2.2.2.2.2.2.2.2.2.2.1) (z.2.2.2.2.2.2.2.2.2.2.2.2.2.2.1) (z.2.2.2.2.2.2.2.2.2.2.2.2.2.2.2.1) (z.2.2.2.2.2.2.2.2.2.2.2.2.2.2.2.2.1) (z.2.2.2.2.2.2.2.2.2.2.2.2.2.2.2.2.2.1) (z.2.2.2.2.2.2.2.2.2.2.2.2.2.2.2.2.2.2.1) (z.2.2.2.2.2.2.2.2.2.2.2.2.2.2.2.2.2.2.2.1) (z.2.2.2.2.2.2.2.2.2.2.2.2.2.2.2.2.2.2.2.2.1) (z.2.2.2.2.2.2.2.2.2.2.2.2.2.2.2.2.2.2.2.2.2.1) (z.2.2.2.2.2.2.2.2.2.2.2.2.2.2.2.2.2.2.2.2.2.2.1) (z.2.2.2.2.2.2.2.2.2.2.2.2.2.2.2.2.2.2.2.2.2.2.2)
noncomputable def Z := @Classical.epsilon _ ⟨(w00, A00, default, default, [], (fun _ => none), (fun _ => none), default, [], (fun _ => none), s00, (fun _ _ => True), 0, 0, 0, 0, [], [], 0, default, default, default, 0, 0)⟩ fun z => ¬ P0 z
@[irreducible] noncomputable def w := Z.1
@[irreducible] noncomputable def A := Z.2.1
@[irreducible] noncomputable def base := Z.2.2.1
@[irreducible] noncomputable def g := Z.2.2.2.1
@[irreducible] noncomputable def fr := Z.2.2.2.2.1
@[irreducible] noncomputable def mg := Z.2.2.2.2.2.1
@[irreducible] noncomputable def mb := Z.2.2.2.2.2.2.1
@[irreducible] noncomputable def p := Z.2.2.2.2.2.2.2.1
@[irreducible] noncomputable def loose := Z.2.2.2.2.2.2.2.2.1
@[irreducible] noncomputable def mean := Z.2.2.2.2.2.2.2.2.2.1
@[irreducible] noncomputable def s := Z.2.2.2.2.2.2.2.2.2.2.1
@[irreducible] noncomputable def R := Z.2.2.2.2.2.2.2.2.2.2.2.1
@[irreducible] noncomputable def x := Z.2.2.2.2.2.2.2.2.2.2.2.2.1
@[irreducible] noncomputable def d := Z.2.2.2.2.2.2.2.2.2.2.2.2.2.1
@[irreducible] noncomputable def l := Z.2.2.2.2.2.2.2.2.2.2.2.2.2.2.1
@[irreducible] noncomputable def t := Z.2.2.2.2.2.2.2.2.2.2.2.2.2.2.2.1
@[irreducible] noncomputable def refs := Z.2.2.2.2.2.2.2.2.2.2.2.2.2.2.2.2.1
@[irreducible] noncomputable def kvs := Z.2.2.2.2.2.2.2.2.2.2.2.2.2.2.2.2.2.1
@[irreducible] noncomputable def n := Z.2.2.2.2.2.2.2.2.2.2.2.2.2.2.2.2.2.2.1
@[irreducible] noncomputable def nm := Z.2.2.2.2.2.2.2.2.2.2.2.2.2.2.2.2.2.2.2.1
@[irreducible] noncomputable def lw := Z.2.2.2.2.2.2.2.2.2.2.2.2.2.2.2.2.2.2.2.2.1
@[irreducible] noncomputable def vl := Z.2.2.2.2.2.2.2.2.2.2.2.2.2.2.2.2.2.2.2.2.2.1
@[irreducible] noncomputable def tn := Z.2.2.2.2.2.2.2.2.2.2.2.2.2.2.2.2.2.2.2.2.2.2.1
@[irreducible] noncomputable def tv := Z.2.2.2.2.2.2.2.2.2.2.2.2.2.2.2.2.2.2.2.2.2.2.2
set_option maxHeartbeats 4000000 in
theorem key : Stmt w A base g fr mg mb p loose mean s R x d l t refs kvs n nm lw vl tn tv := fun B X T G ho hh hroom hu hk hkl hnl hlw hg hg1 hg2 hz hnew h => by
  revert X; k_fill; intro X
  dsimp only [hdrNews] at G
  keq_rows
  k_steps
  (rename GS _ _ _ => kG)
  refine h _ _ _ ?_ (by simpa only [List.push_toArray] using kG)
  exact ⟨by omega, by omega, by omega⟩
theorem zeq : (w, A, base, g, fr, mg, mb, p, loose, mean, s, R, x, d, l, t, refs, kvs, n, nm, lw, vl, tn, tv) = Z := by with_unfolding_all rfl
end Csetd_c
set_option maxHeartbeats 4000000 in
theorem setd_c {w : World} {A : Around} {base g : Heap} {fr : List Env} {mg mb : Str → Option Value} {p : Program} {loose : List Str} {mean : ExcName → Option Value} {s : Shared} {R : Result → Shared → Prop} {x d l : Addr} {t : Tok} {refs : List Value} {kvs : List (Str × Str)} {n : Nat} {nm lw vl : Str} {tn tv : Tok} : Csetd_c.Stmt w A base g fr mg mb p loose mean s R x d l t refs kvs n nm lw vl tn tv :=
  hilb Csetd_c.P0 Csetd_c.Z rfl (Eq.subst (motive := Csetd_c.P0) Csetd_c.zeq Csetd_c.key) (w, A, base, g, fr, mg, mb, p, loose, mean, s, R, x, d, l, t, refs, kvs, n, nm, lw, vl, tn, tv)
section
end
end Mine

namespace Mine
theorem row55 : True := by
  k_with "exec For Tuple Name cons nil" => (k_here; (rename Fr _ _ _ _ => lF'q9); k_dflt (refine For_turns lF'q9 ?_))
  trivial
section
variable {w : World} {A : Around} {base g : Heap} {fr : List Env} {mg mb : Str → Option Value} {p : Program} {loose : List Str} {mean : ExcName → Option Value} {s : Shared} {R : Result → Shared → Prop}
  (B : Below A base fr g) (X : Frag.In (hd.heap_39 w.params) g) (T : Top p loose mean mg mb g)
include B X T
end
namespace Citems_c
noncomputable def Stmt (w : World) (A : Around) (base g : Heap) (fr : List Env) (mg mb : Str → Option Value) (p : Program) (loose : List Str) (mean : ExcName → Option Value) (s : Shared) (R : Result → Shared → Prop) (x d l : Addr) (t : Tok) (refs : List Value) (n : Nat) : Prop := ∀ (B : Below A base fr g) (X : Frag.In (hd.heap_39 w.params) g) (T : Top p loose mean mg mb g) (G : GS g s.heap (hdrNews w x d l t refs n)) (hz : refs.length ≤ 1000) (hh : A.handled = none) (hroom : A.depth + 8 < recursionLimit) (hu : A.units + 40 < cLine) (h : ∀ D n' tk' h', GS g h' ((D, W.listOf refs.toArray n') :: hdrNews w x d l t refs n) → R (.ok (.ret (.ref D))) { s with heap := h', toks := tk' }), codeAny (model Challenge.rw_st0024_01.row.prog w) A (.call (.ref 182) ⟨[.ref x], []⟩) R s
noncomputable def P0 (z : World × Around × Heap × Heap × (List Env) × (Str → Option Value) × (Str → Option Value) × Program × (List Str) × (ExcName → Option Value) × Shared × (Result → Shared → Prop) × Addr × Addr × Addr × Tok × (List Value) × Nat) : Prop := Stmt (z.1) (z.2.1) (z.2.2.1) (z.2.2.2.1) (z.2.2.2.2.1) (z.2.2.2.2.2.1) (z.2.2.2.2.2.2.1) (z.2.2.2.2.2.2.2.1) (z.2.2.2.2.2.2.2.2.1) (z.2.2.2.2.2.2.2.2.2.1) (z.2.2.2.2.2.2.2.2.2.2.1) (z.2.2.2.2.2.2.2.2.2.2.2.1) (z.2.2.2.2.2.2.2.2.2.2.2.2.1) (z.2.2.2.2.2.2.2.2.2.2.2.2.2.1) (z.2.2.2.2.2.2.2.2.2.2.2.2.2.2.1) (z.2.2.2.2.2.2.2.2.2.2.2.2.2.2.2.1) (z.2.2.2.2.2.2.2.2.2.2.2.2.2.2.2.2.1) (z.2.2.2.2.2.2.2.2.2.2.2.2.2.2.2.2.2)
noncomputable def Z := @Classical.epsilon _ ⟨(w00, A00, default, default, [], (fun _ => none), (fun _ => none), default, [], (fun _ => none), s00, (fun _ _ => True), 0, 0, 0, 0, [], 0)⟩ fun z => ¬ P0 z
@[irreducible] noncomputable def w := Z.1
@[irreducible] noncomputable def A := Z.2.1
@[irreducible] noncomputable def base := Z.2.2.1
@[irreducible] noncomputable def g := Z.2.2.2.1
@[irreducible] noncomputable def fr := Z.2.2.2.2.1
@[irreducible] noncomputable def mg := Z.2.2.2.2.2.1
@[irreducible] noncomputable def mb := Z.2.2.2.2.2.2.1
@[irreducible] noncomputable def p := Z.2.2.2.2.2.2.2.1
@[irreducible] noncomputable def loose := Z.2.2.2.2.2.2.2.2.1
@[irreducible] noncomputable def mean := Z.2.2.2.2.2.2.2.2.2.1
@[irreducible] noncomputable def s := Z.2.2.2.2.2.2.2.2.2.2.1
@[irreducible] noncomputable def R := Z.2.2.2.2.2.2.2.2.2.2.2.1
@[irreducible] noncomputable def x := Z.2.2.2.2.2.2.2.2.2.2.2.2.1
@[irreducible] noncomputable def d := Z.2.2.2.2.2.2.2.2.2.2.2.2.2.1
@[irreducible] noncomputable def l := Z.2.2.2.2.2.2.2.2.2.2.2.2.2.2.1
@[irreducible] noncomputable def t := Z.2.2.2.2.2.2.2.2.2.2.2.2.2.2.2.1
@[irreducible] noncomputable def refs := Z.2.2.2.2.2.2.2.2.2.2.2.2.2.2.2.2.1
@[irreducible] noncomputable def n := Z.2.2.2.2.2.2.2.2.2.2.2.2.2.2.2.2.2
set_option maxHeartbeats 4000000 in
theorem key : Stmt w A base g fr mg mb p loose mean s R x d l t refs n := fun B X T G hz hh hroom hu h => by
  revert X; k_fill; intro X
  dsimp only [hdrNews] at G
  keq_rows
  k_steps
  (rename GS _ _ _ => kG)
  dsimp only at kG
  rw [slicePick_all] at kG
  exact h _ _ _ _ kG
theorem zeq : (w, A, base, g, fr, mg, mb, p, loose, mean, s, R, x, d, l, t, refs, n) = Z := by with_unfolding_all rfl
end Citems_c
set_option maxHeartbeats 4000000 in
theorem items_c {w : World} {A : Around} {base g : Heap} {fr : List Env} {mg mb : Str → Option Value} {p : Program} {loose : List Str} {mean : ExcName → Option Value} {s : Shared} {R : Result → Shared → Prop} {x d l : Addr} {t : Tok} {refs : List Value} {n : Nat} : Citems_c.Stmt w A base g fr mg mb p loose mean s R x d l t refs n :=
  hilb Citems_c.P0 Citems_c.Z rfl (Eq.subst (motive := Citems_c.P0) Citems_c.zeq Citems_c.key) (w, A, base, g, fr, mg, mb, p, loose, mean, s, R, x, d, l, t, refs, n)
section
end
namespace Cinit_c
noncomputable def Stmt (w : World) (A : Around) (base g : Heap) (fr : List Env) (mg mb : Str → Option Value) (p : Program) (loose : List Str) (mean : ExcName → Option Value) (s : Shared) (R : Result → Shared → Prop) (x d l : Addr) (refs : List Value) (kvs : List (Str × Str)) (n : Nat) : Prop := ∀ (B : Below A base fr g) (X : Frag.In (hd.heap_39 w.params) g) (T : Top p loose mean mg mb g) (G : GS g s.heap [(x, instObj 218 d), (d, dictOf [] 0), (l, W.listOf refs.toArray n)]) (ho : (@Ne Nat x d) ∧ (@Ne Nat x l) ∧ (@Ne Nat d l)) (hh : A.handled = none) (hroom : A.depth + 8 < recursionLimit) (hu : A.units + 40 < cLine) (hk : TupsIn g refs kvs) (hkl : ∀ p ∈ kvs, (∀ c ∈ p.1.cps.toList, good c) ∧ (∀ c ∈ p.2.cps.toList, good c)) (hz : refs.length ≤ 1000) (h : ∀ t tk' h', GS g h' (hdrNews w x d l t refs n) → R (.ok (.ret .none)) { s with heap := h', toks := tk' }), codeAny (model Challenge.rw_st0024_01.row.prog w) A (.call (.ref 112) ⟨[.ref x, .ref l], []⟩) R s
noncomputable def P0 (z : World × Around × Heap × Heap × (List Env) × (Str → Option Value) × (Str → Option Value) × Program × (List Str) × (ExcName → Option Value) × Shared × (Result → Shared → Prop) × Addr × Addr × Addr × (List Value) × (List (Str × Str)) × Nat) : Prop := Stmt (z.1) (z.2.1) (z.2.2.1) (z.2.2.2.1) (z.2.2.2.2.1) (z.2.2.2.2.2.1) (z.2.2.2.2.2.2.1) (z.2.2.2.2.2.2.2.1) (z.2.2.2.2.2.2.2.2.1) (z.2.2.2.2.2.2.2.2.2.1) (z.2.2.2.2.2.2.2.2.2.2.1) (z.2.2.2.2.2.2.2.2.2.2.2.1) (z.2.2.2.2.2.2.2.2.2.2.2.2.1) (z.2.2.2.2.2.2.2.2.2.2.2.2.2.1) (z.2.2.2.2.2.2.2.2.2.2.2.2.2.2.1) (z.2.2.2.2.2.2.2.2.2.2.2.2.2.2.2.1) (z.2.2.2.2.2.2.2.2.2.2.2.2.2.2.2.2.1) (z.2.2.2.2.2.2.2.2.2.2.2.2.2.2.2.2.2)
noncomputable def Z := @Classical.epsilon _ ⟨(w00, A00, default, default, [], (fun _ => none), (fun _ => none), default, [], (fun _ => none), s00, (fun _ _ => True), 0, 0, 0, [], [], 0)⟩ fun z => ¬ P0 z
@[irreducible] noncomputable def w := Z.1
@[irreducible] noncomputable def A := Z.2.1
@[irreducible] noncomputable def base := Z.2.2.1
@[irreducible] noncomputable def g := Z.2.2.2.1
@[irreducible] noncomputable def fr := Z.2.2.2.2.1
@[irreducible] noncomputable def mg := Z.2.2.2.2.2.1
@[irreducible] noncomputable def mb := Z.2.2.2.2.2.2.1
@[irreducible] noncomputable def p := Z.2.2.2.2.2.2.2.1
@[irreducible] noncomputable def loose := Z.2.2.2.2.2.2.2.2.1
@[irreducible] noncomputable def mean := Z.2.2.2.2.2.2.2.2.2.1
@[irreducible] noncomputable def s := Z.2.2.2.2.2.2.2.2.2.2.1
@[irreducible] noncomputable def R := Z.2.2.2.2.2.2.2.2.2.2.2.1
@[irreducible] noncomputable def x := Z.2.2.2.2.2.2.2.2.2.2.2.2.1
@[irreducible] noncomputable def d := Z.2.2.2.2.2.2.2.2.2.2.2.2.2.1
@[irreducible] noncomputable def l := Z.2.2.2.2.2.2.2.2.2.2.2.2.2.2.1
@[irreducible] noncomputable def refs := Z.2.2.2.2.2.2.2.2.2.2.2.2.2.2.2.1
@[irreducible] noncomputable def kvs := Z.2.2.2.2.2.2.2.2.2.2.2.2.2.2.2.2.1
@[irreducible] noncomputable def n := Z.2.2.2.2.2.2.2.2.2.2.2.2.2.2.2.2.2
set_option maxHeartbeats 4000000 in
theorem key : Stmt w A base g fr mg mb p loose mean s R x d l refs kvs n := fun B X T G ho hh hroom hu hk hkl hz h => by
  revert X; k_fill; intro X
  keq_rows
  k_steps
  (rename Fr _ _ _ _ => F1)
  (rename News _ _ _ _ => N1)
  refine iter_listTurns (lo := W.listOf refs.toArray n) (vs := refs) hh F1 N1 (by k_mem) rfl rfl ?_
  (tm_at "nmx1"; refine fun I' => ?_)
  intro l1
  (try k_lt l1)
  refine itm_ind (fun vs m => ∃ (kvs' : List (Str × Str)), TupsIn g vs kvs' ∧ (∀ p ∈ kvs', (∀ c ∈ p.1.cps.toList, good c) ∧ (∀ c ∈ p.2.cps.toList, good c)) ∧
    m (Str.ofString "self") = some (Value.ref x) ∧ m (Str.ofString "headers") = some (Value.ref l)) ?_ ?_ refs _ ⟨kvs, hk, hkl, rfl, rfl⟩
  · rintro m ⟨kvs', hT, hl', m1, m2⟩
    cases hT
    (revert m; tm_at "nmx1"; refine fun m => ?_; k_extra "kw")
    refine ItemsRest.zero ?_
    (tm_at "nmx2"; refine fun h' tk' => ?_)
    intro F' N'
    replace F' := Fr.expose _ F' (all2 m1 m2)
    dsimp only [kstB] at F'
    k_steps
    exact h _ _ _ (by assumption)
  · rintro v r m ⟨kvs', hT, hl', m1, m2⟩ IH
    obtain _ | ⟨ht, hr⟩ := hT
    rename_i a k' v' t' u' kvs'
    (revert r m a k' v' t' u' kvs'; tm_at "nmx2"; refine fun r m => ?_; k_extra "kf"; tm_at "nmx6"; refine fun a k' v' t' u' kvs' => ?_; k_extra "kw")
    refine ItemsRest.val ?_
    (tm_at "nmx2"; refine fun h' tk' => ?_)
    intro F'
    replace F' := Fr.expose _ F' (all2 m1 m2)
    dsimp only [kstB] at F'
    ktu_objs
    have hT := IsTup.keeps ht F'.keep
    obtain ⟨hkl1, hkl2⟩ := hl' _ List.mem_cons_self
    dsimp only at hkl1 hkl2
    k_steps
    exact IH _ ⟨kvs', hr, fun p hp => hl' p (List.mem_cons_of_mem _ hp), rfl, rfl⟩
theorem zeq : (w, A, base, g, fr, mg, mb, p, loose, mean, s, R, x, d, l, refs, kvs, n) = Z := by with_unfolding_all rfl
end Cinit_c
set_option maxHeartbeats 4000000 in
theorem init_c {w : World} {A : Around} {base g : Heap} {fr : List Env} {mg mb : Str → Option Value} {p : Program} {loose : List Str} {mean : ExcName → Option Value} {s : Shared} {R : Result → Shared → Prop} {x d l : Addr} {refs : List Value} {kvs : List (Str × Str)} {n : Nat} : Cinit_c.Stmt w A base g fr mg mb p loose mean s R x d l refs kvs n :=
  hilb Cinit_c.P0 Cinit_c.Z rfl (Eq.subst (motive := Cinit_c.P0) Cinit_c.zeq Cinit_c.key) (w, A, base, g, fr, mg, mb, p, loose, mean, s, R, x, d, l, refs, kvs, n)
section
end
end Mine

namespace Mine
theorem news_ne {g h : Heap} {L a : Addr} {o : Obj} {l : List (Addr × Obj)} (N : News g L h l) (hm : (a, o) ∈ l) : @Ne Nat a (h.objs.size + 1) := Nat.ne_of_lt (Nat.lt_succ_of_lt (Heap.lt_size (N _ hm).1))
section
variable {w : World} {A : Around} {base g : Heap} {fr : List Env} {mg mb : Str → Option Value} {p : Program} {loose : List Str} {mean : ExcName → Option Value} {s : Shared} {R : Result → Shared → Prop}
  (B : Below A base fr g) (X : Frag.In (hd.heap_39 w.params) g) (T : Top p loose mean mg mb g)
include B X T
end
namespace Citems_d
noncomputable def Stmt (w : World) (A : Around) (base g : Heap) (fr : List Env) (mg mb : Str → Option Value) (p : Program) (loose : List Str) (mean : ExcName → Option Value) (s : Shared) (R : Result → Shared → Prop) (x d l : Addr) (t : Tok) (refs : List Value) (n : Nat) : Prop := ∀ (B : Below A base fr g) (X : Frag.In (hd.heap_39 w.params) g) (T : Top p loose mean mg mb g) (G : GS g s.heap (hdrNews w x d l t refs n)) (hz : refs.length ≤ 1000) (hh : A.handled = none) (hroom : A.depth + 8 < recursionLimit) (hu : A.units + 40 < cLine) (h : ∀ D n' tk' h', ((@Ne Nat x D) ∧ (@Ne Nat d D) ∧ (@Ne Nat l D)) → GS g h' ((D, W.listOf refs.toArray n') :: hdrNews w x d l t refs n) → R (.ok (.ret (.ref D))) { s with heap := h', toks := tk' }), codeAny (model Challenge.rw_st0024_01.row.prog w) A (.call (.ref 182) ⟨[.ref x], []⟩) R s
noncomputable def P0 (z : World × Around × Heap × Heap × (List Env) × (Str → Option Value) × (Str → Option Value) × Program × (List Str) × (ExcName → Option Value) × Shared × (Result → Shared → Prop) × Addr × Addr × Addr × Tok × (List Value) × Nat) : Prop := Stmt (z.1) (z.2.1) (z.2.2.1) (z.2.2.2.1) (z.2.2.2.2.1) (z.2.2.2.2.2.1) (z.2.2.2.2.2.2.1) (z.2.2.2.2.2.2.2.1) (z.2.2.2.2.2.2.2.2.1) (z.2.2.2.2.2.2.2.2.2.1) (z.2.2.2.2.2.2.2.2.2.2.1) (z.2.2.2.2.2.2.2.2.2.2.2.1) (z.2.2.2.2.2.2.2.2.2.2.2.2.1) (z.2.2.2.2.2.2.2.2.2.2.2.2.2.1) (z.2.2.2.2.2.2.2.2.2.2.2.2.2.2.1) (z.2.2.2.2.2.2.2.2.2.2.2.2.2.2.2.1) (z.2.2.2.2.2.2.2.2.2.2.2.2.2.2.2.2.1) (z.2.2.2.2.2.2.2.2.2.2.2.2.2.2.2.2.2)
noncomputable def Z := @Classical.epsilon _ ⟨(w00, A00, default, default, [], (fun _ => none), (fun _ => none), default, [], (fun _ => none), s00, (fun _ _ => True), 0, 0, 0, 0, [], 0)⟩ fun z => ¬ P0 z
@[irreducible] noncomputable def w := Z.1
@[irreducible] noncomputable def A := Z.2.1
@[irreducible] noncomputable def base := Z.2.2.1
@[irreducible] noncomputable def g := Z.2.2.2.1
@[irreducible] noncomputable def fr := Z.2.2.2.2.1
@[irreducible] noncomputable def mg := Z.2.2.2.2.2.1
@[irreducible] noncomputable def mb := Z.2.2.2.2.2.2.1
@[irreducible] noncomputable def p := Z.2.2.2.2.2.2.2.1
@[irreducible] noncomputable def loose := Z.2.2.2.2.2.2.2.2.1
@[irreducible] noncomputable def mean := Z.2.2.2.2.2.2.2.2.2.1
@[irreducible] noncomputable def s := Z.2.2.2.2.2.2.2.2.2.2.1
@[irreducible] noncomputable def R := Z.2.2.2.2.2.2.2.2.2.2.2.1
@[irreducible] noncomputable def x := Z.2.2.2.2.2.2.2.2.2.2.2.2.1
@[irreducible] noncomputable def d := Z.2.2.2.2.2.2.2.2.2.2.2.2.2.1
@[irreducible] noncomputable def l := Z.2.2.2.2.2.2.2.2.2.2.2.2.2.2.1
@[irreducible] noncomputable def t := Z.2.2.2.2.2.2.2.2.2.2.2.2.2.2.2.1
@[irreducible] noncomputable def refs := Z.2.2.2.2.2.2.2.2.2.2.2.2.2.2.2.2.1
@[irreducible] noncomputable def n := Z.2.2.2.2.2.2.2.2.2.2.2.2.2.2.2.2.2
set_option maxHeartbeats 4000000 in
theorem key : Stmt w A base g fr mg mb p loose mean s R x d l t refs n := fun B X T G hz hh hroom hu h => by
  revert X; k_fill; intro X
  dsimp only [hdrNews] at G
  keq_rows
  k_steps
  (rename GS _ _ _ => kG)
  dsimp only at kG
  rw [slicePick_all] at kG
  refine' h _ _ _ _ ⟨news_ne (l := [(x, instObj 218 d), (d, dictOf [ky w "_headers" t (Value.ref l)] 1), (l, W.listOf refs.toArray n)]) ?n1 ?m1, news_ne (l := [(x, instObj 218 d), (d, dictOf [ky w "_headers" t (Value.ref l)] 1), (l, W.listOf refs.toArray n)]) ?n2 ?m2, news_ne (l := [(x, instObj 218 d), (d, dictOf [ky w "_headers" t (Value.ref l)] 1), (l, W.listOf refs.toArray n)]) ?n3 ?m3⟩ kG
  case n1 => assumption
  case n2 => assumption
  case n3 => assumption
  case m1 => k_mem
  case m2 => k_mem
  case m3 => k_mem
theorem zeq : (w, A, base, g, fr, mg, mb, p, loose, mean, s, R, x, d, l, t, refs, n) = Z := by with_unfolding_all rfl
end Citems_d
set_option maxHeartbeats 4000000 in
theorem items_d {w : World} {A : Around} {base g : Heap} {fr : List Env} {mg mb : Str → Option Value} {p : Program} {loose : List Str} {mean : ExcName → Option Value} {s : Shared} {R : Result → Shared → Prop} {x d l : Addr} {t : Tok} {refs : List Value} {n : Nat} : Citems_d.Stmt w A base g fr mg mb p loose mean s R x d l t refs n :=
  hilb Citems_d.P0 Citems_d.Z rfl (Eq.subst (motive := Citems_d.P0) Citems_d.zeq Citems_d.key) (w, A, base, g, fr, mg, mb, p, loose, mean, s, R, x, d, l, t, refs, n)
section
end
end Mine

namespace Mine
section
variable {prog : Program} {w : World} {A : Around} {E : Value → Shared → Prop} {s : Shared} {h₀ : Heap} {L : Addr} {m : Str → Option Value} {news : List (Addr × Obj)}
theorem lst_N {l : Addr} {vs : List Value} {n : Nat} (N : News h₀ L s.heap news) (hm : (l, W.listOf vs.toArray n) ∈ news) : s.heap.IsList l vs.toArray := ⟨_, (N _ hm).1, rfl, _, rfl⟩
end
end Mine
namespace Mine
theorem row56 : True := by
  k_with "getMethod ref" => (k_here; (with_reducible show wpAny _ _ (getMethod (Value.ref _) (PySem.Str.ofString "count") _) _ _ _); k_dflt (refine' kl_method ?Nr56 ?mr56 PySem.F.slot_list_count PySem.F.type_list_count ?_; (case Nr56 => k_asm); (case mr56 => k_mem)))
  trivial
end Mine
namespace Mine
theorem row57 : True := by
  k_with "call builtin:list.count" => (k_here; (with_reducible show wpAny _ _ (call (Value.builtin _) [Value.ref _, Value.int _ _]) _ _ _); k_dflt (refine' count_list_ints (lst_N ?Nr57 ?mr57) ?ir57 ?_; (case Nr57 => k_asm); (case mr57 => k_mem); (case ir57 => assumption)))
  trivial
end Mine
namespace Mine
theorem row58 : True := by
  k_with "call builtin:list.count" => (k_here; (with_reducible show wpAny _ _ (call (Value.builtin _) [Value.ref _, Value.str _ _]) _ _ _); k_dflt (refine' count_list_strs (lst_N ?Nr58 ?mr58) ?ir58 ?_; (case Nr58 => k_asm); (case mr58 => k_mem); (case ir58 => assumption)))
  trivial
end Mine
namespace Mine
theorem row59 : True := by
  k_with "call builtin:sum" => (k_here; (with_reducible show wpAny _ _ (call (Value.builtin "sum") [Value.ref _]) _ _ _); k_dflt (refine' sumK ?k0r59 ?k1r59 ?k2r59 (lst_N ?k3r59 ?mr59) ?k4r59 ?_; (case k0r59 => first | exact rfl | assumption); (case k1r59 => k_asm); (case k2r59 => k_asm); (case k3r59 => k_asm); (case mr59 => k_mem); (case k4r59 => assumption)); ((first | tm_at "clo1" | refine fun h'q9 => ?_); (first | tm_at "clo1" | refine fun tk'q9 => ?_); (first | tm_at "clo1" | refine fun t'q9 => ?_); refine fun F'q9 => ?_; refine fun N'q9 => ?_))
  trivial
end Mine
namespace Mine
theorem row60 : True := by
  k_with "lcg_off" => assumption
  trivial
end Mine
namespace Mine
theorem row61 : True := by
  k_with "call builtin:str.join" => (k_here; (with_reducible show wpAny _ _ (call (Value.builtin "str.join") [Value.str _ _, Value.ref _]) _ _ _); k_dflt (refine' join_listW (lst_N ?Nr61 ?mr61) ?ir61 ?sr61 ?wr61 ?_; (case Nr61 => k_asm); (case mr61 => k_mem); (case ir61 => assumption); (case sr61 => exact Nat.le_of_ble_eq_true rfl); (case wr61 => assumption)); ((first | tm_at "clo1" | refine fun _ => ?_); (first | tm_at "clo1" | refine fun _ => ?_)))
  trivial
end Mine
namespace Mine
theorem row62 : True := by
  k_with "binaryOp Add str str" => (k_here; (with_reducible show wpAny _ _ (binaryOp Operator.Add (Value.str _ _) (Value.str _ _)) _ _ _); (with_reducible refine SBL.add (hsz := ?hszr62) ?_); (case hszr62 => rw [sizeLine_eq]; omega); ((first | tm_at "clo1" | refine fun _ => ?_); (first | tm_at "clo1" | refine fun _ => ?_); (first | tm_at "clo1" | refine fun _ => ?_)))
  trivial
end Mine

namespace Mine
/-- the five rows of told -/
structure ToldP where
  tl : Addr
  a0 : Addr
  a1 : Addr
  a2 : Addr
  a3 : Addr
  a4 : Addr
  v0 : List Value
  v1 : List Value
  v2 : List Value
  v3 : List Value
  v4 : List Value
  n : Nat
  n0 : Nat
  n1 : Nat
  n2 : Nat
  n3 : Nat
  n4 : Nat
noncomputable def told00 : ToldP := ⟨0, 0, 0, 0, 0, 0, [], [], [], [], [], 0, 0, 0, 0, 0, 0⟩
noncomputable abbrev toldNews (q : ToldP) : List (Addr × Obj) :=
  [(q.tl, W.listOf #[.ref q.a0, .ref q.a1, .ref q.a2, .ref q.a3, .ref q.a4] q.n), (q.a0, W.listOf q.v0.toArray q.n0), (q.a1, W.listOf q.v1.toArray q.n1), (q.a2, W.listOf q.v2.toArray q.n2), (q.a3, W.listOf q.v3.toArray q.n3), (q.a4, W.listOf q.v4.toArray q.n4)]
structure ToldF (q : ToldP) (T : Nat → List Int) : Prop where
  i0 : IntsAre q.v0 (T 0)
  i1 : IntsAre q.v1 (T 1)
  i2 : IntsAre q.v2 (T 2)
  i3 : IntsAre q.v3 (T 3)
  i4 : IntsAre q.v4 (T 4)
  z : ∀ k, (T k).length ≤ 3
section
variable {w : World} {A : Around} {base g : Heap} {fr : List Env} {mg mb : Str → Option Value} {p : Program} {loose : List Str} {mean : ExcName → Option Value} {s : Shared} {R : Result → Shared → Prop}
  (B : Below A base fr g) (X : Frag.In (hd.heap_39 w.params) g) (T : Top p loose mean mg mb g)
include B X T
end
namespace Cgot_c
noncomputable def Stmt (w : World) (A : Around) (base g : Heap) (fr : List Env) (mg mb : Str → Option Value) (p : Program) (loose : List Str) (mean : ExcName → Option Value) (s : Shared) (R : Result → Shared → Prop) (q : ToldP) (V : Nat → List Int) (wh : Addr) (ws : List Value) (ys : List Nat) (wn : Nat) (x : Int) (tx : Tok) : Prop := ∀ (B : Below A base fr g) (X : Frag.In (hd.heap_39 w.params) g) (T : Top p loose mean mg mb g) (G : GS g s.heap (toldNews q ++ [(wh, W.listOf ws.toArray wn)])) (I : ToldF q V) (C : CodeHd base 228 224) (hh : A.handled = none) (hroom : A.depth + 8 < recursionLimit) (hu : A.units + 40 < cLine) (hw : IntsAre ws (ys.map fun (k : Nat) => (k : Int))) (hy : ∀ y ∈ ys, y < 5) (hz : ys.length ≤ 1000) (h : ∀ u tk' h', GS g h' (toldNews q ++ [(wh, W.listOf ws.toArray wn)]) → R (.ok (.ret (.int ((ys.map fun y => ((V y).count x : Int)).sum) u))) { s with heap := h', toks := tk' }), codeAny (model Challenge.rw_st0024_01.row.prog w) A (.call (.ref 244) ⟨[.ref q.tl, .ref wh, .int x tx], []⟩) R s
noncomputable def P0 (z : World × Around × Heap × Heap × (List Env) × (Str → Option Value) × (Str → Option Value) × Program × (List Str) × (ExcName → Option Value) × Shared × (Result → Shared → Prop) × ToldP × (Nat → List Int) × Addr × (List Value) × (List Nat) × Nat × Int × Tok) : Prop := Stmt (z.1) (z.2.1) (z.2.2.1) (z.2.2.2.1) (z.2.2.2.2.1) (z.2.2.2.2.2.1) (z.2.2.2.2.2.2.1) (z.2.2.2.2.2.2.2.1) (z.2.2.2.2.2.2.2.2.1) (z.2.2.2.2.2.2.2.2.2.1) (z.2.2.2.2.2.2.2.2.2.2.1) (z.2.2.2.2.2.2.2.2.2.2.2.1) (z.2.2.2.2.2.2.2.2.2.2.2.2.1) (z.2.2.2.2.2.2.2.2.2.2.2.2.2.1) (z.2.2.2.2.2.2.2.2.2.2.2.2.2.2.1) (z.2.2.2.2.2.2.2.2.2.2.2.2.2.2.2.1) (z.2.2.2.2.2.2.2.2.2.2.2.2.2.2.2.2.1) (z.2.2.2.2.2.2.2.2.2.2.2.2.2.2.2.2.2.1) (z.2.2.2.2.2.2.2.2.2.2.2.2.2.2.2.2.2.2.1) (z.2.2.2.2.2.2.2.2.2.2.2.2.2.2.2.2.2.2.2)
noncomputable def Z := @Classical.epsilon _ ⟨(w00, A00, default, default, [], (fun _ => none), (fun _ => none), default, [], (fun _ => none), s00, (fun _ _ => True), told00, (fun _ => []), 0, [], [], 0, 0, 0)⟩ fun z => ¬ P0 z
@[irreducible] noncomputable def w := Z.1
@[irreducible] noncomputable def A := Z.2.1
@[irreducible] noncomputable def base := Z.2.2.1
@[irreducible] noncomputable def g := Z.2.2.2.1
@[irreducible] noncomputable def fr := Z.2.2.2.2.1
@[irreducible] noncomputable def mg := Z.2.2.2.2.2.1
@[irreducible] noncomputable def mb := Z.2.2.2.2.2.2.1
@[irreducible] noncomputable def p := Z.2.2.2.2.2.2.2.1
@[irreducible] noncomputable def loose := Z.2.2.2.2.2.2.2.2.1
@[irreducible] noncomputable def mean := Z.2.2.2.2.2.2.2.2.2.1
@[irreducible] noncomputable def s := Z.2.2.2.2.2.2.2.2.2.2.1
@[irreducible] noncomputable def R := Z.2.2.2.2.2.2.2.2.2.2.2.1
@[irreducible] noncomputable def q := Z.2.2.2.2.2.2.2.2.2.2.2.2.1
@[irreducible] noncomputable def V := Z.2.2.2.2.2.2.2.2.2.2.2.2.2.1
@[irreducible] noncomputable def wh := Z.2.2.2.2.2.2.2.2.2.2.2.2.2.2.1
@[irreducible] noncomputable def ws := Z.2.2.2.2.2.2.2.2.2.2.2.2.2.2.2.1
@[irreducible] noncomputable def ys := Z.2.2.2.2.2.2.2.2.2.2.2.2.2.2.2.2.1
@[irreducible] noncomputable def wn := Z.2.2.2.2.2.2.2.2.2.2.2.2.2.2.2.2.2.1
@[irreducible] noncomputable def x := Z.2.2.2.2.2.2.2.2.2.2.2.2.2.2.2.2.2.2.1
@[irreducible] noncomputable def tx := Z.2.2.2.2.2.2.2.2.2.2.2.2.2.2.2.2.2.2.2
set_option maxHeartbeats 4000000 in
theorem key : Stmt w A base g fr mg mb p loose mean s R q V wh ws ys wn x tx := fun B X T G I C hh hroom hu hw hy hz h => by
  revert X; k_fill; intro X
  dsimp only [toldNews, List.cons_append, List.nil_append] at G
  keq_rows
  k_steps
  (rename Fr _ _ _ _ => F2)
  (rename News _ _ _ _ => N2)
  refine LCg.CompSrc.ledger hh F2 N2 (by k_mem) (by rw [sizeLine_eq]; simp only [List.size_toArray]; have := hw.length; simp only [List.length_map] at this; omega) ?_
  intro g'
  refine cr_list (fun r zs => ∃ (dn rs : List Nat), IntsAre r (rs.map fun (k : Nat) => (k : Int)) ∧ IntsAre zs (dn.map fun y => ((V y).count x : Int)) ∧ ys = dn ++ rs) ⟨[], ys, hw, .nil, rfl⟩ ?_ ?_
  · rintro v r zs I' oI' C' oC' D' m' h' tk' E' ⟨dn, rs, hr, hs, he⟩ hC' hx' F' N' off' ne'
    cases rs with
    | nil => cases hr
    | cons y rs =>
    obtain _ | ⟨_, ty, hr⟩ := hr
    have hy5 : y < 5 := hy y (by rw [he]; simp)
    obtain ⟨j0, j1, j2, j3, j4, jz⟩ := I
    have e5 : y = 0 ∨ y = 1 ∨ y = 2 ∨ y = 3 ∨ y = 4 := by omega
    have fin : ∀ (u : Tok), IntsAre (zs ++ [Value.int (((V y).count x : Nat) : Int) u]) ((dn ++ [y]).map fun y => ((V y).count x : Int)) ∧ ys = (dn ++ [y]) ++ rs := fun u => by
      refine ⟨?_, by rw [he]; simp⟩
      rw [List.map_append]
      exact IntsAre.append hs (.cons _ u .nil)
    rcases e5 with rfl | rfl | rfl | rfl | rfl
    · have e0 : ((0 : Nat) : Int) = 0 := rfl
      (dsimp only at hx'; rw [e0] at hx')
      k_steps
      exact ⟨rfl, _, rs, hr, fin _⟩
    · have e0 : ((1 : Nat) : Int) = 1 := rfl
      (dsimp only at hx'; rw [e0] at hx')
      k_steps
      exact ⟨rfl, _, rs, hr, fin _⟩
    · have e0 : ((2 : Nat) : Int) = 2 := rfl
      (dsimp only at hx'; rw [e0] at hx')
      k_steps
      exact ⟨rfl, _, rs, hr, fin _⟩
    · have e0 : ((3 : Nat) : Int) = 3 := rfl
      (dsimp only at hx'; rw [e0] at hx')
      k_steps
      exact ⟨rfl, _, rs, hr, fin _⟩
    · have e0 : ((4 : Nat) : Int) = 4 := rfl
      (dsimp only at hx'; rw [e0] at hx')
      k_steps
      exact ⟨rfl, _, rs, hr, fin _⟩
  · rintro zs ⟨dn, rs, hr, hs, he⟩
    cases rs with
    | cons y rs => cases hr
    | nil =>
    rw [List.append_nil] at he
    subst he
    k_steps
    (rename GS _ _ _ => kG)
    refine h _ _ _ (kG.sub fun p hp => ?_)
    simp only [List.mem_cons, List.mem_append, toldNews, List.not_mem_nil, or_false] at hp ⊢
    rcases hp with (hp | hp | hp | hp | hp | hp) | hp <;> simp only [hp, true_or, or_true]
theorem zeq : (w, A, base, g, fr, mg, mb, p, loose, mean, s, R, q, V, wh, ws, ys, wn, x, tx) = Z := by with_unfolding_all rfl
end Cgot_c
set_option maxHeartbeats 4000000 in
theorem got_c {w : World} {A : Around} {base g : Heap} {fr : List Env} {mg mb : Str → Option Value} {p : Program} {loose : List Str} {mean : ExcName → Option Value} {s : Shared} {R : Result → Shared → Prop} {q : ToldP} {V : Nat → List Int} {wh : Addr} {ws : List Value} {ys : List Nat} {wn : Nat} {x : Int} {tx : Tok} : Cgot_c.Stmt w A base g fr mg mb p loose mean s R q V wh ws ys wn x tx :=
  hilb Cgot_c.P0 Cgot_c.Z rfl (Eq.subst (motive := Cgot_c.P0) Cgot_c.zeq Cgot_c.key) (w, A, base, g, fr, mg, mb, p, loose, mean, s, R, q, V, wh, ws, ys, wn, x, tx)
section
end
end Mine

namespace Mine
open PySem.Calls
/-- a comprehension over a text: what the text must be -/
noncomputable def StrSrc (prog : Program) (w : World) (A : Around) (h₀ : Heap) (L : Addr) (m : Str → Option Value) (env : Env) (elt : PySem.Expr) (x : Str) (scope : Scope) (cl : List (Str × Addr)) (Q : Value → Shared → Prop) (xv : Value) (s₁ : Shared) : Prop :=
  ∃ (y : Str) (t : Tok) (news : List (Addr × Obj)), xv = .str y t ∧ A.handled = none ∧ Fr h₀ L s₁.heap m ∧ News h₀ L s₁.heap news ∧ y.cps.size ≤ sizeLine ∧
    ∀ g, LCg.CompRest prog w A h₀ L m env elt x scope cl { s₁ with heap := g } (fun _ => True) (SignAt y) (LCg.FinE h₀ L m { s₁ with heap := g } Q) y.cps.size 0 [] news
section
variable {prog : Program} {w : World} {A : Around} {E : Value → Shared → Prop} {h₀ : Heap} {L : Addr} {m : Str → Option Value} {env : Env} {s : Shared}
theorem ListComp_S {elt iter : PySem.Expr} {x : Str} {px : Pos} {scope : Scope} {cl : List (Str × Addr)} {pos : Pos} {Q : Value → Shared → Prop} (F₀ : Fr h₀ L s.heap m)
    (hclos : closureFor scope env = pure cl) (hcell : ∀ y ∈ scope.names, y.2 ≠ .cell) (hkind : scope.kind = .function)
    (hnames : ∀ y ∈ scope.names, y.2 = .local → scope.names.lookup y.1 = some .local) (hx : scope.names.lookup x = some .local)
    (h : wpAny (model prog w) A (eval iter env) (StrSrc prog w A h₀ L m env elt x scope cl Q) E s)
    (hs : ∀ x, foldedSetIterable iter env x = pure x := by intro _; rfl) :
    wpAny (model prog w) A (eval (.ListComp elt [⟨.Name x px, iter, [], 0⟩] scope pos) env) Q E s := by
  rw [eval_ListComp]
  refine wpAny_comprehension_free (use := none) rfl hs hclos hkind hnames (wpAny_mono h (fun xv s₁ h₁ => ?_) fun _ _ e => e)
  obtain ⟨y, t, news, rfl, hh, F, N, hsz, R⟩ := h₁
  cases ha : y.cps.all (· < 128)
  · refine wpAny_pyIter_wide ha ?_
    refine LCg.block_U (Walks.strWide hh s₁.heap.objs.size y t) hsz (fun i h st => by obtain ⟨o, e, _⟩ := st; exact ⟨o, e⟩) (fun i h h' o nw st e e' _ _ _ => by obtain ⟨o', q, r⟩ := st; rw [e] at q; cases q; exact ⟨o, e', r⟩) hcell hkind hx ⟨_, Heap.get?_push_size _ rfl, rfl, rfl⟩ (fun b hb => ?_)
      (F.keeps fun _ _ e => Heap.get?_push_of_some _ e) (N.grown fun _ _ e => Heap.get?_push_of_some _ e) (Nat.ne_of_lt F.ns.lt) (next_is_new F) (fun p hp => Nat.ne_of_lt (Heap.lt_size (N p hp).1)) trivial (R _) ?_
    · rw [List.mem_singleton.mp hb]
      show s₁.heap.objs.size < (s₁.heap.push _).objs.size
      rw [Heap.size_push]; exact Nat.lt_succ_self _
    · intro D C h tk m' ys news' F' N' o1 hn hC₀ hD₀ hCL hDL hCD offC fin
      refine ⟨m', hn, fun h'' hs'' => fin D h'' tk (F'.change hs'' hCL hC₀) (fun p hp => ?_) o1⟩
      refine ⟨hs''.extBut _ _ ?_ (N' p hp).1, (N' p hp).2⟩
      rcases List.mem_cons.mp hp with rfl | hp
      · exact Ne.symm hCD
      · exact offC p hp
  · refine wpAny_pyIter_ascii ha ?_
    refine LCg.block_U (Walks.strAscii hh s₁.heap.objs.size y t) hsz (fun i h st => by obtain ⟨o, e, _⟩ := st; exact ⟨o, e⟩) (fun i h h' o nw st e e' _ _ _ => by obtain ⟨o', q, r⟩ := st; rw [e] at q; cases q; exact ⟨o, e', r⟩) hcell hkind hx ⟨_, Heap.get?_push_size _ rfl, rfl, rfl⟩ (fun b hb => ?_)
      (F.keeps fun _ _ e => Heap.get?_push_of_some _ e) (N.grown fun _ _ e => Heap.get?_push_of_some _ e) (Nat.ne_of_lt F.ns.lt) (next_is_new F) (fun p hp => Nat.ne_of_lt (Heap.lt_size (N p hp).1)) trivial (R _) ?_
    · rw [List.mem_singleton.mp hb]
      show s₁.heap.objs.size < (s₁.heap.push _).objs.size
      rw [Heap.size_push]; exact Nat.lt_succ_self _
    · intro D C h tk m' ys news' F' N' o1 hn hC₀ hD₀ hCL hDL hCD offC fin
      refine ⟨m', hn, fun h'' hs'' => fin D h'' tk (F'.change hs'' hCL hC₀) (fun p hp => ?_) o1⟩
      refine ⟨hs''.extBut _ _ ?_ (N' p hp).1, (N' p hp).2⟩
      rcases List.mem_cons.mp hp with rfl | hp
      · exact Ne.symm hCD
      · exact offC p hp
end
end Mine

namespace Mine
theorem take_snoc {x : Str} {i c : Nat} (f : Nat → Str) (h : x.cps[i]? = some c) : (x.cps.toList.take (i + 1)).map f = (x.cps.toList.take i).map f ++ [f c] := by
  have h' : x.cps.toList[i]? = some c := by simpa using h
  rw [List.take_add_one, h']; simp
theorem sumLen_le {f : Nat → Str} (hf : ∀ c, (f c).length ≤ 2) : ∀ l : List Nat, ((l.map f).map (·.length)).sum ≤ 2 * l.length
  | [] => Nat.le_refl _
  | c :: r => by
    have h1 := sumLen_le hf r
    have h2 := hf c
    simp only [List.map_cons, List.sum_cons, List.length_cons] at h1 ⊢
    omega
theorem escB_len (c : Nat) : (escB c).length ≤ 2 := Nat.le_refl _
theorem escQ_len (c : Nat) : (escQ c).length ≤ 2 := by
  unfold escQ
  split
  · exact Nat.le_succ _
  · exact Nat.le_refl _
theorem wt_ok {f : Nat → Str} {x : Str} (hf : ∀ c, (f c).length ≤ 2) (hz : x.cps.size ≤ 100) : (((x.cps.toList.take x.cps.size).map f).map (·.length)).sum + ((x.cps.toList.take x.cps.size).map f).length ≤ 1048576 := by
  have h1 := sumLen_le hf (x.cps.toList.take x.cps.size)
  have h2 : (x.cps.toList.take x.cps.size).length ≤ 100 := by rw [List.length_take]; omega
  rw [List.length_map]
  omega
theorem join_len0 : ∀ l : List Str, (Txt.join (Str.ofString "") l).length ≤ (l.map (·.length)).sum := fun l => by
  have h := StrLaws.join_length_le (Str.ofString "") l
  have e : (Str.ofString "").length = 0 := rfl
  rw [e, Nat.mul_zero, Nat.add_zero] at h
  rw [eq_of_beq (join_plain_closes (Str.ofString "") l)]
  exact h
theorem take_all (x : Str) : x.cps.toList.take x.cps.size = x.cps.toList := List.take_of_length_le (by simp)
local macro_rules | `(tactic| walk_at "eval ListComp") => `(tactic| ((rename Fr _ _ _ _ => F1); k_dflt (refine ListComp_S (F₀ := F1) (by with_unfolding_all rfl) (by decide) (by rfl) (by decide) (by rfl) ?_)))
section
variable {w : World} {A : Around} {base g : Heap} {fr : List Env} {mg mb : Str → Option Value} {p : Program} {loose : List Str} {mean : ExcName → Option Value} {s : Shared} {R : Result → Shared → Prop}
  (B : Below A base fr g) (X : Frag.In (hd.heap_39 w.params) g) (T : Top p loose mean mg mb g)
include B X T
end
namespace Cword_c
noncomputable def Stmt (w : World) (A : Around) (base g : Heap) (fr : List Env) (mg mb : Str → Option Value) (p : Program) (loose : List Str) (mean : ExcName → Option Value) (s : Shared) (R : Result → Shared → Prop) (x wh : Str) (tx tb tw : Tok) (b : Int) : Prop := ∀ (B : Below A base fr g) (X : Frag.In (hd.heap_39 w.params) g) (T : Top p loose mean mg mb g) (G : GS g s.heap []) (C : CodeHd base 228 224) (hh : A.handled = none) (hroom : A.depth + 8 < recursionLimit) (hu : A.units + 40 < cLine) (hz : x.cps.size ≤ 100) (hw : wh.length ≤ 100) (h : ∀ u tk' h', GS g h' [] → R (.ok (.ret (.str (wordT (decide (b ≠ 0)) x wh) u))) { s with heap := h', toks := tk' }), codeAny (model Challenge.rw_st0024_01.row.prog w) A (.call (.ref 234) ⟨[.str x tx, .int b tb, .str wh tw], []⟩) R s
noncomputable def P0 (z : World × Around × Heap × Heap × (List Env) × (Str → Option Value) × (Str → Option Value) × Program × (List Str) × (ExcName → Option Value) × Shared × (Result → Shared → Prop) × Str × Str × Tok × Tok × Tok × Int) : Prop := Stmt (z.1) (z.2.1) (z.2.2.1) (z.2.2.2.1) (z.2.2.2.2.1) (z.2.2.2.2.2.1) (z.2.2.2.2.2.2.1) (z.2.2.2.2.2.2.2.1) (z.2.2.2.2.2.2.2.2.1) (z.2.2.2.2.2.2.2.2.2.1) (z.2.2.2.2.2.2.2.2.2.2.1) (z.2.2.2.2.2.2.2.2.2.2.2.1) (z.2.2.2.2.2.2.2.2.2.2.2.2.1) (z.2.2.2.2.2.2.2.2.2.2.2.2.2.1) (z.2.2.2.2.2.2.2.2.2.2.2.2.2.2.1) (z.2.2.2.2.2.2.2.2.2.2.2.2.2.2.2.1) (z.2.2.2.2.2.2.2.2.2.2.2.2.2.2.2.2.1) (z.2.2.2.2.2.2.2.2.2.2.2.2.2.2.2.2.2)
noncomputable def Z := @Classical.epsilon _ ⟨(w00, A00, default, default, [], (fun _ => none), (fun _ => none), default, [], (fun _ => none), s00, (fun _ _ => True), default, default, 0, 0, 0, 0)⟩ fun z => ¬ P0 z
@[irreducible] noncomputable def w := Z.1
@[irreducible] noncomputable def A := Z.2.1
@[irreducible] noncomputable def base := Z.2.2.1
@[irreducible] noncomputable def g := Z.2.2.2.1
@[irreducible] noncomputable def fr := Z.2.2.2.2.1
@[irreducible] noncomputable def mg := Z.2.2.2.2.2.1
@[irreducible] noncomputable def mb := Z.2.2.2.2.2.2.1
@[irreducible] noncomputable def p := Z.2.2.2.2.2.2.2.1
@[irreducible] noncomputable def loose := Z.2.2.2.2.2.2.2.2.1
@[irreducible] noncomputable def mean := Z.2.2.2.2.2.2.2.2.2.1
@[irreducible] noncomputable def s := Z.2.2.2.2.2.2.2.2.2.2.1
@[irreducible] noncomputable def R := Z.2.2.2.2.2.2.2.2.2.2.2.1
@[irreducible] noncomputable def x := Z.2.2.2.2.2.2.2.2.2.2.2.2.1
@[irreducible] noncomputable def wh := Z.2.2.2.2.2.2.2.2.2.2.2.2.2.1
@[irreducible] noncomputable def tx := Z.2.2.2.2.2.2.2.2.2.2.2.2.2.2.1
@[irreducible] noncomputable def tb := Z.2.2.2.2.2.2.2.2.2.2.2.2.2.2.2.1
@[irreducible] noncomputable def tw := Z.2.2.2.2.2.2.2.2.2.2.2.2.2.2.2.2.1
@[irreducible] noncomputable def b := Z.2.2.2.2.2.2.2.2.2.2.2.2.2.2.2.2.2
set_option maxHeartbeats 4000000 in
theorem key : Stmt w A base g fr mg mb p loose mean s R x wh tx tb tw b := fun B X T G C hh hroom hu hz hw h => by
  revert X; k_fill; intro X
  keq_rows
  k_steps
  · (rename Fr _ _ _ _ => F2)
    (rename News _ _ _ _ => N2)
    refine ⟨x, tx, [], rfl, hh, F2, N2, (by rw [sizeLine_eq]; omega), fun g' => cr_gen (fun i ys => StrsAre ys ((x.cps.toList.take i).map escB)) .nil ?_ ?_⟩
    · rintro i v ys I' oI' C' oC' D' m' h' tk' E' hi ⟨c, u, hc, rfl⟩ hs hC' hx' F' N' off' ne'
      revert g' i ys I' oI' C' oC' D' m' h' tk' E' c u; k_extra "kw"
      k_steps
      all_goals exact ⟨rfl, by rw [take_snoc _ hc]; exact kct_snoc hs⟩
    · intro ys hs
      have hwt := wt_ok escB_len hz
      rw [take_all] at hs hwt
      have hjl := join_len0 (x.cps.toList.map escB)
      revert g' ys; k_extra "kw"
      k_steps
      (rename GS _ _ _ => kG)
      have e : wordT (decide (b ≠ 0)) x wh = Txt.join (Str.ofString "") (x.cps.toList.map escB) ++ wh := by
        have hb : b ≠ 0 := by assumption
        simp only [wordT, hb, ne_eq, not_false_eq_true, decide_true, if_true]
      rw [← e]
      exact h _ _ _ (kG.sub (fun p hp => nomatch hp))
  · (rename Fr _ _ _ _ => F2)
    (rename News _ _ _ _ => N2)
    refine ⟨x, tx, [], rfl, hh, F2, N2, (by rw [sizeLine_eq]; omega), fun g' => cr_gen (fun i ys => StrsAre ys ((x.cps.toList.take i).map escQ)) .nil ?_ ?_⟩
    · rintro i v ys I' oI' C' oC' D' m' h' tk' E' hi ⟨c, u, hc, rfl⟩ hs hC' hx' F' N' off' ne'
      revert g' i ys I' oI' C' oC' D' m' h' tk' E' c u; k_extra "kw"
      k_steps
      · rename_i hq
        exact ⟨rfl, by rw [take_snoc _ hc]; simp only [escQ, hq, if_true]; exact kct_snoc hs⟩
      · rename_i hq _
        exact ⟨rfl, by rw [take_snoc _ hc]; simp only [escQ, hq, Bool.false_eq_true, if_false]; exact kct_snoc hs⟩
    · intro ys hs
      have hwt := wt_ok escQ_len hz
      rw [take_all] at hs hwt
      have hjl := join_len0 (x.cps.toList.map escQ)
      have hq1 : (Str.ofString "\"").length = 1 := rfl
      revert g' ys; k_extra "kw"
      k_steps
      (rename GS _ _ _ => kG)
      have e : wordT (decide (b ≠ 0)) x wh = Str.ofString "\"" ++ Txt.join (Str.ofString "") (x.cps.toList.map escQ) ++ Str.ofString "\"" ++ wh := by
        have hb : b = 0 := by assumption
        simp only [wordT, hb, ne_eq, not_true_eq_false, decide_false, Bool.false_eq_true, if_false]
      rw [← e]
      exact h _ _ _ (kG.sub (fun p hp => nomatch hp))
theorem zeq : (w, A, base, g, fr, mg, mb, p, loose, mean, s, R, x, wh, tx, tb, tw, b) = Z := by with_unfolding_all rfl
end Cword_c
set_option maxHeartbeats 4000000 in
theorem word_c {w : World} {A : Around} {base g : Heap} {fr : List Env} {mg mb : Str → Option Value} {p : Program} {loose : List Str} {mean : ExcName → Option Value} {s : Shared} {R : Result → Shared → Prop} {x wh : Str} {tx tb tw : Tok} {b : Int} : Cword_c.Stmt w A base g fr mg mb p loose mean s R x wh tx tb tw b :=
  hilb Cword_c.P0 Cword_c.Z rfl (Eq.subst (motive := Cword_c.P0) Cword_c.zeq Cword_c.key) (w, A, base, g, fr, mg, mb, p, loose, mean, s, R, x, wh, tx, tb, tw, b)
section
end
end Mine
local macro_rules | `(tactic| walk_at "no key 1") => `(tactic| skip)
local macro_rules | `(tactic| walk_at "no key 2") => `(tactic| skip)

namespace Mine
open PySem.Calls
/-- an iterator over a range with step one: the next number, and how many are left -/
noncomputable abbrev rgO (x : Int) (k : Nat) : Obj := { cls := .type "range_iterator", data := .fields #[rawInt x, rawInt (k : Int), rawInt 1] }
section
variable {prog : Program} {w : World} {A : Around} {E : Value → Shared → Prop} {s : Shared} {h₀ : Heap} {L : Addr} {m : Str → Option Value} {news rest : List (Addr × Obj)}
theorem rg_iter {r : Addr} {a b : Int} {t u v : Tok} {n : Nat} {Q : Value → Shared → Prop} (F : Fr h₀ L s.heap m) (N : News h₀ L s.heap news) (hr : IsRange s.heap r a b 1 t u v) (hs : Builtin.Range.small a b 1 = true)
    (hn : Builtin.Range.rangeSize a b 1 = (n : Int))
    (h : ∀ I h', Fr h₀ L h' m → News h₀ L h' ((I, rgO a n) :: news) → (∀ q ∈ news, q.1 < I) → Q (.ref I) { s with heap := h' }) : wpAny (model prog w) A (pyIter (.ref r)) Q E s := by
  refine wpAny_pyIter_range hr hs ?_
  rw [hn]
  exact h _ _ (F.push _) (News.push F N _ rfl) fun q hq => Heap.lt_size (N q hq).1
theorem rg_next {I : Addr} {x : Int} {k : Nat} {Q : Option Value → Shared → Prop} (F : Fr h₀ L s.heap m) (N : News h₀ L s.heap ((I, rgO x (k + 1)) :: rest)) (off : ∀ q ∈ rest, I ≠ q.1)
    (h : ∀ t h' tk, Fr h₀ L h' m → News h₀ L h' ((I, rgO (x + 1) k) :: rest) → Q (some (.int x t)) { s with heap := h', toks := tk }) : wpAny (model prog w) A (pyNext (.ref I)) Q E s := by
  obtain ⟨e, hL, hI⟩ := N (I, rgO x (k + 1)) List.mem_cons_self
  have hit : IsRangeIter s.heap I x ((k + 1 : Nat) : Int) 1 := e
  refine wpAny_pyNext_range_item hit (by omega) fun h' hit' hs' => ?_
  have e' : h'.get? I = some (rgO (x + 1) k) := by
    have q : ((k + 1 : Nat) : Int) - 1 = (k : Int) := by omega
    rw [q] at hit'; exact hit'
  have hb := hs'.extBut
  refine h _ _ _ ⟨F.ns.at' fun o e => hb _ o (Ne.symm hL) e, fun b o e => hb b o (fun q => by rw [q, hI] at e; cases e) (F.keep b o e), F.above⟩ fun p hp => ?_
  rcases List.mem_cons.mp hp with rfl | hp
  · exact ⟨e', hL, hI⟩
  · have z := N p (List.mem_cons_of_mem _ hp)
    exact ⟨hb _ _ (Ne.symm (off p hp)) z.1, z.2⟩
theorem rg_done {I : Addr} {x : Int} {Q : Option Value → Shared → Prop} (hh : A.handled = none) (F : Fr h₀ L s.heap m) (N : News h₀ L s.heap ((I, rgO x 0) :: rest)) (off : ∀ q ∈ rest, I ≠ q.1)
    (h : ∀ h', Fr h₀ L h' m → News h₀ L h' rest → Q none { s with heap := h' }) : wpAny (model prog w) A (pyNext (.ref I)) Q E s := by
  obtain ⟨e, hL, hI⟩ := N (I, rgO x 0) List.mem_cons_self
  have hit : IsRangeIter s.heap I x ((0 : Nat) : Int) 1 := e
  refine wpAny_pyNext_range_end hh hit (by omega) fun h' hb => ?_
  refine h _ ⟨F.ns.at' fun o e => hb _ o (Ne.symm hL) e, fun b o e => hb b o (fun q => by rw [q, hI] at e; cases e) (F.keep b o e), F.above⟩ fun p hp => ?_
  have z := N p (List.mem_cons_of_mem _ hp)
  exact ⟨hb _ _ (Ne.symm (off p hp)) z.1, z.2⟩
end
end Mine

namespace Mine
theorem row63 : True := by
  k_with "compareOp NotIn int ref" => (k_here; k_dflt (refine' notin_list_ints (lst_N ?Nr63 ?mr63) ?ir63 ?_; (case Nr63 => k_asm); (case mr63 => k_mem); (case ir63 => assumption)))
  trivial
end Mine
namespace Mine
theorem row64 : True := by
  k_with "compareOp In int ref" => (k_here; k_dflt (refine' in_list_ints (lst_N ?Nr64 ?mr64) ?ir64 ?_; (case Nr64 => k_asm); (case mr64 => k_mem); (case ir64 => assumption)))
  trivial
end Mine
namespace Mine
end Mine
namespace Mine
theorem off3_i {I C D : Addr} {l own : List (Addr × Obj)} (h : LCg.Off3 I C D l) (hs : ∀ p ∈ own, p ∈ l) : ∀ q ∈ own, I ≠ q.1 := fun q hq => Ne.symm (h.mem q (hs q hq)).1
theorem off3_c {I C D : Addr} {l own : List (Addr × Obj)} (h : LCg.Off3 I C D l) (hs : ∀ p ∈ own, p ∈ l) : ∀ q ∈ own, C ≠ q.1 := fun q hq => Ne.symm (h.mem q (hs q hq)).2.1
theorem off3_d {I C D : Addr} {l own : List (Addr × Obj)} (h : LCg.Off3 I C D l) (hs : ∀ p ∈ own, p ∈ l) : ∀ q ∈ own, D ≠ q.1 := fun q hq => Ne.symm (h.mem q (hs q hq)).2.2
theorem off1_d {D : Addr} : ∀ {l : List (Addr × Obj)}, LCg.Off1 D l → ∀ p ∈ l, p.1 ≠ D
  | [], _, _, h => nomatch h
  | q :: l, x, p, h => (List.mem_cons.mp h).elim (fun e => e ▸ x.1) (fun h => off1_d (l := l) x.2 p h)
theorem off1_o {D : Addr} {l own : List (Addr × Obj)} (h : LCg.Off1 D l) (hs : ∀ p ∈ own, p ∈ l) : ∀ q ∈ own, D ≠ q.1 := fun q hq => Ne.symm (off1_d h q (hs q hq))
theorem row65 : True := by
  k_with "gs_off3" => first | (refine off3_i (by assumption) ?_; k_extra "gs_sub") | (refine off3_c (by assumption) ?_; k_extra "gs_sub") | (refine off3_d (by assumption) ?_; k_extra "gs_sub") | (refine off1_o (by assumption) ?_; k_extra "gs_sub")
  trivial
theorem row66 : True := by
  k_with "gs_off" => first | exact List.forall_mem_nil _ | exact List.forall_mem_cons.mpr ⟨by first | k_extra "gs_off3" | k_all, by k_extra "gs_off"⟩ | (refine ne_all ?_; k_extra "gs_offT")
  trivial
end Mine

namespace Mine
open PySem.Calls
noncomputable def Sub {α : Type} (l r : List α) : Prop := ∀ p ∈ l, p ∈ r
theorem Sub.nil {α : Type} {r : List α} : Sub [] r := fun _ h => nomatch h
theorem Sub.cons {α : Type} {a : α} {l r : List α} (h : a ∈ r) (t : Sub l r) : Sub (a :: l) r := fun p hp => (List.mem_cons.mp hp).elim (fun e => e ▸ h) (t p)
theorem Sub.tail {α : Type} {a : α} {l r : List α} (t : Sub l r) : Sub l (a :: r) := fun p hp => List.mem_cons_of_mem _ (t p hp)
theorem Sub.rfl' {α : Type} {l : List α} : Sub l l := fun _ h => h
theorem sub_sl {α : Type} {l r : List α} (h : List.Sublist l r) : Sub l r := fun p hp => h.subset hp
theorem Sub.mem {α : Type} {l r : List α} (h : Sub l r) : ∀ p ∈ l, p ∈ r := h
theorem News.sub' {g h : Heap} {L : Addr} {all l : List (Addr × Obj)} (N : News g L h all) (hs : Sub l all) : News g L h l := fun p hp => N p (hs p hp)
end Mine
namespace Mine
open PySem.Calls
section
variable {prog : Program} {w : World} {A₀ A : Around} {s : Shared} {base h₀ : Heap} {outer : List Env} {own rest news : List (Addr × Obj)} {K : Frag} {p : Program} {loose : List Str} {mean : ExcName → Option Value} {m mg mb : Str → Option Value} {L : Addr} {env : Env} {c : Code} {R : Result → Shared → Prop}
/-- a call that changes nothing of the ledger: own is what it reads -/
theorem GS.callS (B : Below A₀ base outer h₀) (F : Fr h₀ L s.heap m) (X : K.In h₀) (N : News h₀ L s.heap news) (T : Top p loose mean mg mb h₀) (hA : A.frames = some (env :: outer)) (hf : env.frame = some L) (hke : env.scope.kind = .function)
    (h1 : Sub own news)
    (k : ∀ g, Below A base (env :: outer) g → K.In g → Top p loose mean mg mb g → GS g s.heap own → h₀.StaysIn g → (∀ h' ex, GS g h' (ex ++ own) → (∀ p ∈ ex, ∀ q ∈ own, p.1 ≠ q.1) → Fr h₀ L h' m ∧ News h₀ L h' (ex ++ news) ∧ ∀ p ∈ ex, ∀ q ∈ news, p.1 ≠ q.1) → codeAny (model prog w) A c R s) : codeAny (model prog w) A c R s := by
  have No : News h₀ L s.heap own := fun p hp => N p (h1 p hp)
  have nm : ∀ b o, h₀.get? b = some o → b ∉ own.map (·.1) := fun b o e q => by
    obtain ⟨p, hp, rfl⟩ := List.mem_map.mp q
    rw [(No p hp).2.2] at e; cases e
  have st : h₀.StaysIn (hideAll s.heap (own.map (·.1))) := fun b o e => hideAll_get _ (F.keep b o e) (nm b o e)
  obtain ⟨oL, es, ep, hL, hLd, hLk, hLf⟩ := F.ns
  have nL : L ∉ own.map (·.1) := fun q => by
    obtain ⟨p, hp, e⟩ := List.mem_map.mp q
    exact (No p hp).2.1 e
  have hLg := hideAll_get (own.map (·.1)) hL nL
  have B₁ := pushX B F hf hke
  have XK := X.keeps st
  have TK := T.keeps st
  refine k (hideAll s.heap (own.map (·.1))) ⟨hA, fun b o e => st b o (B.stays b o e), funFrames_hideAll B₁.frames fun env' he b hb hf' => ?_⟩ XK TK
    ⟨fun b o e => of_hideAll _ e, Nat.le_of_eq (hideAll_size _ _), fun p hp => ⟨(No p hp).1, hideAll_none _ (List.mem_map_of_mem hp)⟩⟩ st
    fun h' ex G hx => ⟨⟨⟨oL, es, ep, G.stays L oL hLg, hLd, hLk, hLf⟩, fun b o e => G.stays b o (st b o e), F.above⟩, fun p hp => ?_, fun p hp q hq => ?_⟩
  · cases he with
    | head => exact nL ((Option.some.inj (hf.symm.trans hf') : L = b) ▸ hb)
    | tail _ he =>
      obtain ⟨L₁, o₁, hf₁, ho₁⟩ := funFrames_in B.frames env' he
      rw [hf₁] at hf'
      exact nm L₁ o₁ ho₁ ((Option.some.inj hf' : L₁ = b) ▸ hb)
  · rcases List.mem_append.mp hp with hp | hp
    · have gp := G.news p (List.mem_append_left _ hp)
      refine ⟨gp.1, fun q => ?_, ?_⟩
      · have := gp.2; rw [q, hLg] at this; cases this
      · cases q : h₀.get? p.1 with
        | none => rfl
        | some o => have := gp.2; rw [st _ _ q] at this; cases this
    · have n := N p hp
      refine ⟨?_, n.2⟩
      by_cases ho : p.1 ∈ own.map (·.1)
      · obtain ⟨q, hq, e⟩ := List.mem_map.mp ho
        have e1 := (No q hq).1
        rw [e, n.1] at e1
        have e2 := (G.news q (List.mem_append_right _ hq)).1
        rw [e] at e2
        rw [e2, ← e1]
      · exact G.stays _ _ (hideAll_get _ n.1 ho)
  · by_cases ho : q.1 ∈ own.map (·.1)
    · obtain ⟨r, hr, e⟩ := List.mem_map.mp ho
      rw [← e]
      exact hx p hp r hr
    · intro e
      have e1 := hideAll_get (own.map (·.1)) (N q hq).1 ho
      rw [← e, (G.news p (List.mem_append_left _ hp)).2] at e1
      cases e1
end
section
variable {prog : Program} {w : World} {A : Around} {E : Value → Shared → Prop} {s : Shared} {h₀ : Heap} {L : Addr} {news : List (Addr × Obj)}
theorem item_N {value slice : Expr} {l : Addr} {vs : List Value} {ns : List Int} {k : Int} {u : Tok} {n : Nat} {Q : Value → Shared → Prop} (N : News h₀ L s.heap news) (hm : (l, W.listOf vs.toArray n) ∈ news) (hi : IntsAre vs ns)
    (h0 : 0 ≤ k) (h1 : k < ns.length) (h2 : ns.length ≤ 1000) (h : ∀ t, Q (.int (ns.getD k.toNat 0) t) s)
    (hs : subscripted slice false (.ref l) (.int k u) = operate [.ref l, .int k u] (getItem (.ref l) (.int k u)) := by with_unfolding_all rfl) (hg : ∀ r, letTemporaryGo value (.ref l) r = pure () := by intro _; with_unfolding_all rfl) :
    wpAny (model prog w) A (subscriptTail value slice (.ref l) (.int k u)) Q E s :=
  item_list_ints (lst_N N hm) hi h0 h1 (by omega) h hs hg
end
end Mine
namespace Mine
open PySem.Calls
theorem off1_a {D a : Addr} {o : Obj} {l : List (Addr × Obj)} (h : LCg.Off1 D l) (hm : (a, o) ∈ l) : @Ne Nat a D := off1_d h (a, o) hm
theorem sub_nil {α : Type} {l : List α} : ∀ p ∈ ([] : List α), p ∈ l := fun _ h => nomatch h
theorem sub_cons {α : Type} {a : α} {l r : List α} (h : a ∈ r) (t : ∀ p ∈ l, p ∈ r) : ∀ p ∈ a :: l, p ∈ r := fun p hp => (List.mem_cons.mp hp).elim (fun e => e ▸ h) (t p)
theorem sub_tail {α : Type} {a : α} {l r : List α} (t : ∀ p ∈ l, p ∈ r) : ∀ p ∈ l, p ∈ a :: r := fun p hp => List.mem_cons_of_mem _ (t p hp)
theorem sub_self {α : Type} {l : List α} : ∀ p ∈ l, p ∈ l := fun _ h => h
end Mine
namespace Mine
theorem row67 : True := by
  k_with "gs_sub" => first | exact Sub.nil | (refine sub_sl ?_; (repeat (first | exact List.nil_sublist _ | exact List.Sublist.refl _ | refine List.Sublist.cons_cons _ ?_ | refine List.Sublist.cons _ ?_)); done) | (refine Sub.cons ?_ ?_; k_mem; k_extra "gs_sub") | exact Sub.rfl' | (refine Sub.tail ?_; k_extra "gs_sub")
  trivial
end Mine
namespace Mine
theorem row68 : True := by
  k_with "lcg_sub" => (refine Sub.mem ?_; k_extra "gs_sub")
  trivial
end Mine
namespace Mine
theorem row69 : True := by
  k_with "FinE" => ((unfold LCg.FinE); ((first | tm_at "clo1" | refine fun D'q9 => ?_); (first | tm_at "clo1" | refine fun h'q9 => ?_); (first | tm_at "clo1" | refine fun tk'q9 => ?_); refine fun F'q9 => ?_; refine fun N'q9 => ?_; (first | tm_at "clo1" | refine fun o1'q9 => ?_)); (try simp only [List.nil_append, List.cons_append] at N'q9); (try dsimp only))
  trivial
end Mine
namespace Mine
theorem row70 : True := by
  k_with "FinA" => ((unfold LCg.FinA); ((first | tm_at "clo1" | refine fun D'q9 => ?_); (first | tm_at "clo1" | refine fun h'q9 => ?_); (first | tm_at "clo1" | refine fun tk'q9 => ?_); refine fun F'q9 => ?_; refine fun N'q9 => ?_; (first | tm_at "clo1" | refine fun o1'q9 => ?_)); (try simp only [List.nil_append, List.cons_append] at N'q9); (try dsimp only))
  trivial
end Mine
namespace Mine
theorem row71 : True := by
  k_with "k_ne" => first | (refine neN ?_; (try dsimp only); k_extra "hid_pick") | exact off1_a (by with_reducible assumption) (by k_mem) | exact Ne.symm (off1_a (by with_reducible assumption) (by k_mem)) | (refine neN ?_; (try dsimp only); omega) | fail "k_ne"
  trivial
end Mine

namespace Mine
theorem row72 : True := by
  k_with "exec For Name Call cons nil" => (k_here; k_dflt (refine fi_for ?_))
  trivial
inductive LeastP (g : Heap) (LL : Addr) (q : ToldP) (V : Nat → List Int) (nd : Addr) (ns : List Value) (nn : Nat) (need : List Int) (I1 : Addr) (s : Shared) (k : Nat) (s' : Shared) : Prop
  | mk (i : Nat) (h : Heap) (tk : Nat) (m : Str → Option Value) (o1 o2 o3 o4 o5 : Obj) (t : Tok) (v1 v2 : Option Value) (_ : s' = { s with heap := h, toks := tk }) (_ : Fr g LL h m) (_ : News g LL h ((I1, rgO (i : Int) (32 - i)) :: (LL + 1 + 1 + 1 + 1 + 1, o1) :: (LL + 1 + 1 + 1 + 1, o2) :: (LL + 1 + 1 + 1, o3) :: (LL + 1 + 1, o4) :: (LL + 1, o5) :: (toldNews q ++ [(nd, W.listOf ns.toArray nn)]))) (_ : o1.data = .cell v1) (_ : o2.data = .cell v2) (_ : o3.data = .cell (some (.int (least1 V need i) t))) (_ : o4.data = .cell (some (.ref nd))) (_ : o5.data = .cell (some (.ref q.tl))) (_ : i + k = 33) (_ : i ≤ 32) : LeastP g LL q V nd ns nn need I1 s k s'
theorem row73 : True := by
  k_with "k_enter" => ((with_reducible show codeAny _ _ (Code.call (Value.ref 244) _) _ _); (refine' GS.callS (own := toldNews _ ++ [(_, W.listOf (List.toArray _) _)]) ?kBr73 ?kFr73 ?kXr73 ?kNr73 ?kTr73 ?kAr73 ?kfr73 ?kkr73 ?kor73 (fun ggq9 gBq9 gXq9 gTq9 gGq9 gKq9 gBackq9 => got_c gBq9 gXq9 gTq9 gGq9 ?i1r73 ?i2r73 ?i3r73 ?i4r73 ?i5r73 ?i6r73 ?i7r73 ?i8r73 ?_); (case kBr73 => assumption); (case kFr73 => assumption); (case kXr73 => assumption); (case kNr73 => assumption); (case kTr73 => assumption); (case kAr73 => keq_hits); (case kfr73 => exact rfl); (case kkr73 => exact rfl); (case kor73 => k_extra "gs_sub"); (case i1r73 => assumption); (case i2r73 => assumption); (case i3r73 => assumption); (case i4r73 => k_room); (case i5r73 => (try simp only [Around.deeper_units]); omega); (case i6r73 => assumption); (case i7r73 => exact bitsTo_lt _ _); (case i8r73 => exact Nat.le_trans (bitsTo_len _ _) (by decide)); (revert ggq9; ((first | tm_at "clo1" | refine fun ggq9 => ?_); refine fun gBq9 => ?_; refine fun gXq9 => ?_; refine fun gTq9 => ?_; refine fun gGq9 => ?_; refine fun gKq9 => ?_; refine fun gBackq9 => ?_); ((first | tm_at "clo1" | refine fun u'q9 => ?_); (first | tm_at "clo1" | refine fun tk'q9 => ?_); (first | tm_at "clo1" | refine fun h'q9 => ?_); refine fun gG'q9 => ?_); (obtain ⟨F'q9, N'q9, -⟩ := gBackq9 _ [] gG'q9 (fun p hp => (nomatch hp))); (clear gBq9 gXq9 gTq9 gGq9 gKq9 gBackq9 gG'q9); (try simp only [List.nil_append] at N'q9))))
  trivial
theorem row74 : True := by
  k_with "subscriptTail ref int" => (k_here; k_dflt (refine' item_N ?Nr74 ?mr74 ?ir74 ?h0r74 ?h1r74 ?h2r74 ?_; (case Nr74 => k_asm); (case mr74 => k_mem); (case ir74 => assumption); (case h0r74 => omega); (case h1r74 => omega); (case h2r74 => omega)); ((first | tm_at "clo1" | refine fun _ => ?_)))
  trivial
theorem outs_in {V : Nat → List Int} {need : List Int} {ws : List Nat} {i : Nat} {ys : List Value} {b : Bool} (hJ : IntsAre ys (castL (outs V need ws i))) (hb : b = true) (e : ((castL ws).any (· == (i : Int))) = b) : IntsAre ys (castL (outs V need ws (i + 1))) := by
  have : outOk V need ws i = false := by unfold outOk; rw [e, hb]; rfl
  simp only [outs, this, Bool.false_eq_true, if_false]; exact hJ
theorem outs_few {V : Nat → List Int} {need : List Int} {ws : List Nat} {i : Nat} {ys : List Value} {x y : Int} (hJ : IntsAre ys (castL (outs V need ws i))) (hb : ¬ x ≤ y) (ex : need.getD i 0 = x) (ey : gotN V ws (i : Int) = y) : IntsAre ys (castL (outs V need ws (i + 1))) := by
  have : outOk V need ws i = false := by unfold outOk; rw [ex, ey, decide_eq_false hb, Bool.and_false]
  simp only [outs, this, Bool.false_eq_true, if_false]; exact hJ
theorem outs_yes {V : Nat → List Int} {need : List Int} {ws : List Nat} {i : Nat} {ys : List Value} {x y : Int} {b : Bool} {u : Tok} (hJ : IntsAre ys (castL (outs V need ws i))) (ha : b = false) (e : ((castL ws).any (· == (i : Int))) = b) (hb : x ≤ y) (ex : need.getD i 0 = x) (ey : gotN V ws (i : Int) = y) : IntsAre (ys ++ [Value.int (i : Int) u]) (castL (outs V need ws (i + 1))) := by
  have : outOk V need ws i = true := by unfold outOk; rw [ex, ey, e, ha, decide_eq_true hb]; rfl
  simp only [outs, this, if_true, castL, List.map_append]; exact IntsAre.append hJ (.cons _ _ .nil)
theorem hkj_of {i j : Nat} (h : i + (j + 1) = 33) : i + 1 + j = 33 := by omega
section
variable {w : World} {A : Around} {base g : Heap} {fr : List Env} {mg mb : Str → Option Value} {p : Program} {loose : List Str} {mean : ExcName → Option Value} {s : Shared} {R : Result → Shared → Prop}
  (B : Below A base fr g) (X : Frag.In (hd.heap_39 w.params) g) (T : Top p loose mean mg mb g)
include B X T
end
namespace Cleast_c
noncomputable def Stmt (w : World) (A : Around) (base g : Heap) (fr : List Env) (mg mb : Str → Option Value) (p : Program) (loose : List Str) (mean : ExcName → Option Value) (s : Shared) (R : Result → Shared → Prop) (q : ToldP) (V : Nat → List Int) (nd : Addr) (ns : List Value) (need : List Int) (nn : Nat) : Prop := ∀ (B : Below A base fr g) (X : Frag.In (hd.heap_39 w.params) g) (T : Top p loose mean mg mb g) (G : GS g s.heap (toldNews q ++ [(nd, W.listOf ns.toArray nn)])) (I : ToldF q V) (C : CodeHd base 228 224) (hh : A.handled = none) (hroom : A.depth + 20 < recursionLimit) (hu : A.units + 100 < cLine) (hw : IntsAre ns need) (hz : need.length = 5) (h : ∀ D zs tk' h', IntsAre zs (castL (bitsTo (least1 V need 32) 5)) → (∀ p ∈ toldNews q ++ [(nd, W.listOf ns.toArray nn)], p.1 ≠ D) → GS g h' ((D, W.listOf zs.toArray zs.length) :: (toldNews q ++ [(nd, W.listOf ns.toArray nn)])) → R (.ok (.ret (.ref D))) { s with heap := h', toks := tk' }), codeAny (model Challenge.rw_st0024_01.row.prog w) A (.call (.ref 249) ⟨[.ref q.tl, .ref nd], []⟩) R s
noncomputable def P0 (z : World × Around × Heap × Heap × (List Env) × (Str → Option Value) × (Str → Option Value) × Program × (List Str) × (ExcName → Option Value) × Shared × (Result → Shared → Prop) × ToldP × (Nat → List Int) × Addr × (List Value) × (List Int) × Nat) : Prop := Stmt (z.1) (z.2.1) (z.2.2.1) (z.2.2.2.1) (z.2.2.2.2.1) (z.2.2.2.2.2.1) (z.2.2.2.2.2.2.1) (z.2.2.2.2.2.2.2.1) (z.2.2.2.2.2.2.2.2.1) (z.2.2.2.2.2.2.2.2.2.1) (z.2.2.2.2.2.2.2.2.2.2.1) (z.2.2.2.2.2.2.2.2.2.2.2.1) (z.2.2.2.2.2.2.2.2.2.2.2.2.1) (z.2.2.2.2.2.2.2.2.2.2.2.2.2.1) (z.2.2.2.2.2.2.2.2.2.2.2.2.2.2.1) (z.2.2.2.2.2.2.2.2.2.2.2.2.2.2.2.1) (z.2.2.2.2.2.2.2.2.2.2.2.2.2.2.2.2.1) (z.2.2.2.2.2.2.2.2.2.2.2.2.2.2.2.2.2)
noncomputable def Z := @Classical.epsilon _ ⟨(w00, A00, default, default, [], (fun _ => none), (fun _ => none), default, [], (fun _ => none), s00, (fun _ _ => True), told00, (fun _ => []), 0, [], [], 0)⟩ fun z => ¬ P0 z
@[irreducible] noncomputable def w := Z.1
@[irreducible] noncomputable def A := Z.2.1
@[irreducible] noncomputable def base := Z.2.2.1
@[irreducible] noncomputable def g := Z.2.2.2.1
@[irreducible] noncomputable def fr := Z.2.2.2.2.1
@[irreducible] noncomputable def mg := Z.2.2.2.2.2.1
@[irreducible] noncomputable def mb := Z.2.2.2.2.2.2.1
@[irreducible] noncomputable def p := Z.2.2.2.2.2.2.2.1
@[irreducible] noncomputable def loose := Z.2.2.2.2.2.2.2.2.1
@[irreducible] noncomputable def mean := Z.2.2.2.2.2.2.2.2.2.1
@[irreducible] noncomputable def s := Z.2.2.2.2.2.2.2.2.2.2.1
@[irreducible] noncomputable def R := Z.2.2.2.2.2.2.2.2.2.2.2.1
@[irreducible] noncomputable def q := Z.2.2.2.2.2.2.2.2.2.2.2.2.1
@[irreducible] noncomputable def V := Z.2.2.2.2.2.2.2.2.2.2.2.2.2.1
@[irreducible] noncomputable def nd := Z.2.2.2.2.2.2.2.2.2.2.2.2.2.2.1
@[irreducible] noncomputable def ns := Z.2.2.2.2.2.2.2.2.2.2.2.2.2.2.2.1
@[irreducible] noncomputable def need := Z.2.2.2.2.2.2.2.2.2.2.2.2.2.2.2.2.1
@[irreducible] noncomputable def nn := Z.2.2.2.2.2.2.2.2.2.2.2.2.2.2.2.2.2
set_option maxHeartbeats 4000000 in
theorem key : Stmt w A base g fr mg mb p loose mean s R q V nd ns need nn := fun B X T G I C hh hroom hu hw hz h => by
  revert X; k_fill; intro X
  dsimp only [toldNews, List.cons_append, List.nil_append] at G
  keq_rows
  k_steps
  (rename Fr _ _ _ _ => F1)
  (rename News _ _ _ _ => N1)
  refine rg_iter F1 N1 (by assumption) (by decide) (by rfl) ?_
  (tm_at "nmx2"; refine fun I1 h1 => ?_)
  intro F2 N2 lI
  k_lt lI
  refine fi_at 33 (LeastP g _ q V nd ns nn need I1 s) ⟨0, h1, _, _, _, _, _, _, _, _, _, _, rfl, F2, N2, by assumption, by assumption, by assumption, by assumption, by assumption, rfl, by omega⟩ ?_
  clear F1 N1 F2 N2
  rintro k s' ⟨i, h', tk, m, o1, o2, o3, o4, o5, t, v1, v2, rfl, F, N, e1, e2, e3, e4, e5, hk, hi⟩
  dsimp only [toldNews, List.cons_append, List.nil_append] at N
  have F1 := Fr.expose [] F (fun p hp => nomatch hp)
  by_cases h32 : i < 32
  · obtain ⟨j, rfl⟩ : ∃ j, k = j + 1 := ⟨k - 1, by omega⟩
    (revert i h' tk m o1 o2 o3 o4 o5 t v1 v2 j; tm_at "nmx12"; refine fun i h' tk m o1 o2 o3 o4 o5 t v1 v2 => ?_; k_extra "kf"; tm_at "nmx1"; refine fun j => ?_; k_extra "kw")
    refine ⟨j, rfl, ?_⟩
    have hr : 32 - i = 32 - (i + 1) + 1 := by omega
    rw [hr] at N
    refine rg_next F N (by k_all) fun t' h'' tk' F' N' => ?_
    clear F N F1
    dsimp only [OwitTurn]
    (revert t' h'' tk'; tm_at "nmx3"; refine fun t' h'' tk' => ?_; k_extra "kw")
    k_steps
    (rename Fr _ _ _ _ => F1)
    refine LCt.ListComp_T (F₀ := F1) (by with_unfolding_all rfl) (by decide) (by rfl) (by decide) (by rfl) ?_
    k_steps
    (rename Fr _ _ _ _ => F2)
    (rename News _ _ _ _ => N2)
    refine LCt.CompSrcT.range hh F2 N2 (by assumption) (by decide) (by rfl) (by rw [sizeLine_eq]; decide) ?_
    (tm_at "nmx1"; refine fun g' => ?_)
    refine crt_gen (fun i' ys => IntsAre ys (castL (bitsTo ((i : Nat) : Int) i'))) .nil ?_ ?_
    · rintro i' v ys I' oI' C' oC' D' m' h' tk' E' hi' ⟨ti, rfl⟩ hJ hC' hx' F' N' off' ne'
      (revert i' ys I' oI' C' oC' D' m' h' tk' E' ti; tm_at "nmx11"; refine fun i' ys I' oI' C' oC' D' m' h' tk' E' => ?_; k_extra "kf"; tm_at "nmx1"; refine fun ti => ?_; k_extra "kw")
      k_steps
      · rename_i hq
        refine ⟨rfl, ?_⟩
        have hb : bitOn ((i : Nat) : Int) i' = true := decide_eq_true hq
        simp only [bitsTo, hb, if_true, castL, List.map_append]
        have e : (0 : Int) + ((i' : Nat) : Int) = ((i' : Nat) : Int) := Int.zero_add _
        rw [e]
        exact IntsAre.append hJ (.cons _ _ .nil)
      · rename_i hq
        refine ⟨rfl, ?_⟩
        have hb : bitOn ((i : Nat) : Int) i' = false := decide_eq_false (fun h => h hq)
        simp only [bitsTo, hb, Bool.false_eq_true, if_false]
        exact hJ
    · rintro ys hJ
      (revert ys; tm_at "nmx1"; refine fun ys => ?_; k_extra "kw")
      k_steps
      (rename Fr _ _ _ _ => F1)
      refine LCt.ListComp_T (F₀ := F1) (by with_unfolding_all rfl) (by decide) (by rfl) (by decide) (by rfl) ?_
      k_steps
      (rename Fr _ _ _ _ => F2)
      (rename News _ _ _ _ => N2)
      refine LCt.CompSrcT.range hh F2 N2 (by assumption) (by decide) (by rfl) (by rw [sizeLine_eq]; decide) ?_
      (tm_at "nmx1"; refine fun g' => ?_)
      refine crt_gen (fun i' ys => IntsAre ys (castL (outs V need (bitsTo ((i : Nat) : Int) 5) i'))) .nil ?_ ?_
      · rintro i' v ys I' oI' C' oC' D' m' h' tk' E' hi' ⟨ti, rfl⟩ hJ' hC' hx' F' N' off' ne'
        have hi5 : i' < 5 := hi'
        have e0 : (0 : Int) + ((i' : Nat) : Int) = ((i' : Nat) : Int) := Int.zero_add _
        rw [e0] at hx'
        (revert i' ys I' oI' C' oC' D' m' h' tk' E' ti; tm_at "nmx11"; refine fun i' ys I' oI' C' oC' D' m' h' tk' E' => ?_; k_extra "kf"; tm_at "nmx1"; refine fun ti => ?_; k_extra "kw")
        k_steps
        · exact ⟨rfl, outs_in hJ' (by assumption) rfl⟩
        · exact ⟨rfl, outs_yes hJ' (by assumption) rfl (by assumption) rfl rfl⟩
        · exact ⟨rfl, outs_few hJ' (by assumption) rfl rfl⟩
      · rintro ys2 hJ2
        have hkj := hkj_of hk
        have hij : (i : Nat) + 1 ≤ 32 := h32
        (revert ys2; tm_at "nmx1"; refine fun ys2 => ?_; k_extra "kw")
        k_steps
        · (rename (decide (castL _ = []) = true) => hq)
          have key : least1 V need (i + 1) = Builtin.bitAnd (least1 V need i) ((i : Nat) : Int) := by
            have hq' := of_decide_eq_true hq
            have : outs V need (bitsTo ((i : Nat) : Int) 5) 5 = [] := List.map_eq_nil_iff.mp hq'
            simp only [least1, this, if_true]
          (rename News _ _ _ _ => N2)
          refine ⟨i + 1, _, _, _, _, _, _, _, _, _, _, _, rfl, by assumption, fun p hp => N2 p ((by dsimp only [toldNews, List.cons_append, List.nil_append]; k_extra "gs_sub" : ∀ p ∈ _, p ∈ _) p hp), by assumption, by assumption, by rw [key]; assumption, by assumption, by assumption, hkj, hij⟩
        · (rename (decide (castL _ = []) = false) => hq)
          have key : least1 V need (i + 1) = least1 V need i := by
            have hq' := of_decide_eq_false hq
            have : ¬ outs V need (bitsTo ((i : Nat) : Int) 5) 5 = [] := fun q => hq' (List.map_eq_nil_iff.mpr q)
            simp only [least1, this, if_false]
          (rename News _ _ _ _ => N2)
          refine ⟨i + 1, _, _, _, _, _, _, _, _, _, _, _, rfl, by assumption, fun p hp => N2 p ((by dsimp only [toldNews, List.cons_append, List.nil_append]; k_extra "gs_sub" : ∀ p ∈ _, p ∈ _) p hp), by assumption, by assumption, by rw [key]; assumption, by assumption, by assumption, hkj, hij⟩
  · obtain rfl : i = 32 := by omega
    obtain ⟨j, rfl⟩ : ∃ j, k = j + 1 := ⟨k - 1, by omega⟩
    generalize least1 V need 32 = lz at e3 h
    (revert h' tk m o1 o2 o3 o4 o5 t v1 v2 j lz; tm_at "nmx11"; refine fun h' tk m o1 o2 o3 o4 o5 t v1 v2 => ?_; k_extra "kf"; tm_at "nmx1"; refine fun j => ?_; k_extra "kf"; tm_at "nmx1"; refine fun lz => ?_; k_extra "kw")
    refine ⟨j, rfl, ?_⟩
    refine rg_done hh F N (by k_all) fun h'' F' N' => ?_
    (revert h''; tm_at "nmx1"; refine fun h'' => ?_; k_extra "kw")
    clear F N F1
    dsimp only [OwitTurn]
    k_steps
    (rename Fr _ _ _ _ => F1)
    refine LCt.ListComp_T (F₀ := F1) (by with_unfolding_all rfl) (by decide) (by rfl) (by decide) (by rfl) ?_
    k_steps
    (rename Fr _ _ _ _ => F2)
    (rename News _ _ _ _ => N2)
    refine LCt.CompSrcT.range hh F2 N2 (by assumption) (by decide) (by rfl) (by rw [sizeLine_eq]; decide) ?_
    (tm_at "nmx1"; refine fun g' => ?_)
    refine crt_gen (fun i' ys => IntsAre ys (castL (bitsTo (lz) i'))) .nil ?_ ?_
    · rintro i' v ys I' oI' C' oC' D' m' h' tk' E' hi' ⟨ti, rfl⟩ hJ hC' hx' F' N' off' ne'
      (revert i' ys I' oI' C' oC' D' m' h' tk' E' ti; tm_at "nmx11"; refine fun i' ys I' oI' C' oC' D' m' h' tk' E' => ?_; k_extra "kf"; tm_at "nmx1"; refine fun ti => ?_; k_extra "kw")
      k_steps
      · rename_i hq
        refine ⟨rfl, ?_⟩
        have hb : bitOn (lz) i' = true := decide_eq_true hq
        simp only [bitsTo, hb, if_true, castL, List.map_append]
        have e : (0 : Int) + ((i' : Nat) : Int) = ((i' : Nat) : Int) := Int.zero_add _
        rw [e]
        exact IntsAre.append hJ (.cons _ _ .nil)
      · rename_i hq
        refine ⟨rfl, ?_⟩
        have hb : bitOn (lz) i' = false := decide_eq_false (fun h => h hq)
        simp only [bitsTo, hb, Bool.false_eq_true, if_false]
        exact hJ
    · rintro ys hJ
      (revert ys; tm_at "nmx1"; refine fun ys => ?_; k_extra "kw")
      k_steps
      (rename GS _ _ _ => kG)
      (rename LCg.Off1 _ _ => o2)
      refine h _ _ _ _ hJ (fun p hp => off1_d o2 p ?_) (kG.sub (sub_cons (by k_mem) fun p hp => ?_))
      · dsimp only [toldNews, List.cons_append, List.nil_append] at hp
        exact (by k_extra "gs_sub" : ∀ p ∈ _, p ∈ _) p hp
      simp only [toldNews, List.cons_append, List.nil_append, List.mem_cons, List.not_mem_nil, or_false] at hp ⊢
      rcases hp with hp | hp | hp | hp | hp | hp | hp <;> simp only [hp, true_or, or_true]
theorem zeq : (w, A, base, g, fr, mg, mb, p, loose, mean, s, R, q, V, nd, ns, need, nn) = Z := by with_unfolding_all rfl
end Cleast_c
set_option maxHeartbeats 4000000 in
theorem least_c {w : World} {A : Around} {base g : Heap} {fr : List Env} {mg mb : Str → Option Value} {p : Program} {loose : List Str} {mean : ExcName → Option Value} {s : Shared} {R : Result → Shared → Prop} {q : ToldP} {V : Nat → List Int} {nd : Addr} {ns : List Value} {need : List Int} {nn : Nat} : Cleast_c.Stmt w A base g fr mg mb p loose mean s R q V nd ns need nn :=
  hilb Cleast_c.P0 Cleast_c.Z rfl (Eq.subst (motive := Cleast_c.P0) Cleast_c.zeq Cleast_c.key) (w, A, base, g, fr, mg, mb, p, loose, mean, s, R, q, V, nd, ns, need, nn)
section
end
end Mine

namespace Mine
open PySem.Calls
inductive Del {α : Type} : α → List α → List α → Prop
  | head {a l} : Del a (a :: l) l
  | tail {a b l l'} (h : Del a l l') : Del a (b :: l) (b :: l')
inductive Rem {α : Type} : List α → List α → List α → Prop
  | nil {l} : Rem [] l l
  | cons {a o l l' r} (d : Del a l l') (h : Rem o l' r) : Rem (a :: o) l r
theorem Del.mem {α : Type} {a : α} {l l' : List α} (d : Del a l l') : a ∈ l ∧ (∀ p ∈ l', p ∈ l) ∧ (∀ p ∈ l, p = a ∨ p ∈ l') := by
  induction d with
  | head => exact ⟨List.mem_cons_self, fun p hp => List.mem_cons_of_mem _ hp, fun p hp => List.mem_cons.mp hp⟩
  | @tail b l l' d ih =>
    refine ⟨List.mem_cons_of_mem _ ih.1, fun p hp => ?_, fun p hp => ?_⟩
    · rcases List.mem_cons.mp hp with rfl | hp
      · exact List.mem_cons_self
      · exact List.mem_cons_of_mem _ (ih.2.1 p hp)
    · rcases List.mem_cons.mp hp with rfl | hp
      · exact .inr List.mem_cons_self
      · exact (ih.2.2 p hp).imp id (List.mem_cons_of_mem _)
theorem Rem.mem {α : Type} {o l r : List α} (h : Rem o l r) : (∀ p ∈ o, p ∈ l) ∧ (∀ p ∈ r, p ∈ l) := by
  induction h with
  | nil => exact ⟨fun p hp => (nomatch hp), fun p hp => hp⟩
  | cons d h ih =>
    have dm := d.mem
    refine ⟨fun p hp => ?_, fun p hp => dm.2.1 p (ih.2 p hp)⟩
    rcases List.mem_cons.mp hp with rfl | hp
    · exact dm.1
    · exact dm.2.1 p (ih.1 p hp)
/-- addresses off addresses -/
noncomputable def OffA (a : Addr) (bs : List Addr) : Prop := ∀ b ∈ bs, @Ne Nat a b
noncomputable def OffL (as bs : List Addr) : Prop := ∀ a ∈ as, OffA a bs
theorem OffA.nil {a : Addr} : OffA a [] := fun _ h => nomatch h
theorem OffA.cons {a b : Addr} {bs : List Addr} (h : @Ne Nat a b) (t : OffA a bs) : OffA a (b :: bs) := fun p hp => (List.mem_cons.mp hp).elim (fun e => e ▸ h) (t p)
theorem OffL.nil {bs : List Addr} : OffL [] bs := fun _ h => nomatch h
theorem OffL.cons {a : Addr} {as bs : List Addr} (h : OffA a bs) (t : OffL as bs) : OffL (a :: as) bs := fun p hp => (List.mem_cons.mp hp).elim (fun e => e ▸ h) (t p)
theorem OffA.all {a : Addr} {l : List (Addr × Obj)} (h : OffA a (l.map (·.1))) : ∀ q ∈ l, a ≠ q.1 := fun q hq => h _ (List.mem_map_of_mem hq)
theorem OffL.all {l l' : List (Addr × Obj)} (h : OffL (l.map (·.1)) (l'.map (·.1))) : ∀ p ∈ l, ∀ q ∈ l', p.1 ≠ q.1 := fun p hp q hq => h _ (List.mem_map_of_mem hp) _ (List.mem_map_of_mem hq)
section
variable {prog : Program} {w : World} {A₀ A : Around} {s : Shared} {base h₀ : Heap} {outer : List Env} {own rest news : List (Addr × Obj)} {K : Frag} {p : Program} {loose : List Str} {mean : ExcName → Option Value} {m mg mb : Str → Option Value} {L : Addr} {env : Env} {c : Code} {R : Result → Shared → Prop}
/-- a call that turns own; the rest lies still -/
theorem GS.callM (B : Below A₀ base outer h₀) (F : Fr h₀ L s.heap m) (X : K.In h₀) (N : News h₀ L s.heap news) (T : Top p loose mean mg mb h₀) (hA : A.frames = some (env :: outer)) (hf : env.frame = some L) (hke : env.scope.kind = .function)
    (hr : Rem own news rest) (hd : OffL (rest.map (·.1)) (own.map (·.1)))
    (k : ∀ g, Below A base (env :: outer) g → K.In g → Top p loose mean mg mb g → GS g s.heap own → (∀ a o, s.heap.get? a = some o → a ∉ own.map (·.1) → g.get? a = some o) → h₀.StaysIn g → (∀ h' own', GS g h' own' → Fr h₀ L h' m ∧ News h₀ L h' (own' ++ rest) ∧ ∀ p ∈ rest, ∀ q ∈ own', p.1 ≠ q.1) → codeAny (model prog w) A c R s) : codeAny (model prog w) A c R s := by
  obtain ⟨g, gB, gX, gT, gG, gK, gS, gb⟩ := GS.of' (s := s) (A := A) (own := own) (rest := rest) B F X N T hA hf hke hr.mem.1 hr.mem.2 hd.all
  exact k g gB gX gT gG gK gS gb
end
/-- facts about addresses as lists: the arithmetic does not see them -/
noncomputable def LtA (d : Nat) (as : List Addr) : Prop := ∀ a ∈ as, @LT.lt Nat _ a d
noncomputable def FarA (as bs : List Addr) : Prop := ∀ a ∈ as, ∀ b ∈ bs, @Ne Nat a b
theorem ltA_ne {d a : Nat} {as : List Addr} (h : LtA d as) (ha : d ≤ a) : OffA a as := fun q hq e => by
  have h1 : @LT.lt Nat _ q d := h _ hq
  have h2 : @Eq Nat a q := e
  omega
theorem farA_ne {as bs : List Addr} {a : Addr} (h : FarA as bs) (ha : a ∈ as) : OffA a bs := h a ha
theorem farA_ne' {as bs : List Addr} {a : Addr} (h : FarA as bs) (ha : a ∈ bs) : OffA a as := fun b hb => Ne.symm (h b hb a ha)
theorem off1_own {D : Addr} {l : List (Addr × Obj)} {bs : List Addr} (h : LCg.Off1 D l) (hs : Sub bs (l.map (·.1))) : OffA D bs := fun b hb => by
  obtain ⟨q, hq, e⟩ := List.mem_map.mp (hs b hb)
  rw [← e]
  exact Ne.symm (off1_d h q hq)
theorem off3_own {I C D : Addr} {l : List (Addr × Obj)} {bs : List Addr} (h : LCg.Off3 I C D l) (hs : Sub bs (l.map (·.1))) : OffA I bs ∧ OffA C bs ∧ OffA D bs := by
  refine ⟨fun b hb => ?_, fun b hb => ?_, fun b hb => ?_⟩ <;> obtain ⟨q, hq, e⟩ := List.mem_map.mp (hs b hb) <;> rw [← e]
  · exact Ne.symm (h.mem q hq).1
  · exact Ne.symm (h.mem q hq).2.1
  · exact Ne.symm (h.mem q hq).2.2
theorem ltA_far {d : Nat} {as bs : List Addr} (h : LtA d as) (hb : ∀ b ∈ bs, @LE.le Nat _ d b) : FarA bs as := fun b h1 a h2 e => by
  have x := h a h2
  have y := hb b h1
  have z : @Eq Nat b a := e
  omega
/-- what is off the tail's addresses -/
noncomputable def OffT (a : Nat) (l : List (Addr × Obj)) : Prop := ∀ p ∈ l, @Ne Nat a p.1
theorem offT_all {own uts : List (Addr × Obj)} (h : ∀ q ∈ own, OffT q.1 uts) : ∀ p ∈ uts, ∀ q ∈ own, p.1 ≠ q.1 := fun p hp q hq => Ne.symm (h q hq p hp)
end Mine
namespace Mine
open PySem.Calls
noncomputable def FarE (as bs : List Addr) : Prop := ∀ a ∈ as, ∀ b ∈ bs, @Ne Nat a b
theorem farE_ne {as bs : List Addr} {a b : Nat} (h : FarE as bs) (ha : a ∈ as) (hb : b ∈ bs) : @Ne Nat a b := h a ha b hb
theorem farE_own {as bs os : List Addr} {b : Addr} (h : FarE as bs) (hm : Sub os as) (hb : b ∈ bs) : OffA b os := fun q hq => Ne.symm (h _ (hm _ hq) b hb)
theorem farE_add {as bs : List Addr} {D : Addr} {o : Obj} {ex news : List (Addr × Obj)} (h : FarE as bs) (hX : ∀ p ∈ ex, ∀ q ∈ news, p.1 ≠ q.1) (hD : (D, o) ∈ ex) (hs : Sub as (news.map (·.1))) : FarE as (D :: bs) := fun a ha b hb => by
  rcases List.mem_cons.mp hb with rfl | hb
  · obtain ⟨q, hq, e⟩ := List.mem_map.mp (hs a ha)
    rw [← e]
    exact Ne.symm (hX _ hD q hq)
  · exact h a ha b hb
theorem farE_sub {as as' bs bs' : List Addr} (h : FarE as bs) (h1 : ∀ a ∈ as', a ∈ as) (h2 : ∀ b ∈ bs', b ∈ bs) : FarE as' bs' := fun a ha b hb => h a (h1 a ha) b (h2 b hb)
theorem farE_lead {as bs : List Addr} {I : Addr} (h : FarE as bs) (hI : ∀ b ∈ bs, @LT.lt Nat _ b I) : FarE (I :: as) bs := fun a ha b hb => by
  rcases List.mem_cons.mp ha with rfl | ha
  · exact Nat.ne_of_gt (hI b hb)
  · exact h a ha b hb
theorem farE_tup {as bs : List Addr} {tp : Addr} (h : FarE as bs) (ht : ∀ a ∈ as, @Ne Nat a tp) : FarE as (tp :: bs) := fun a ha b hb => by
  rcases List.mem_cons.mp hb with rfl | hb
  · exact ht a ha
  · exact h a ha b hb
end Mine
namespace Mine
theorem row75 : True := by
  k_with "gs_del" => first | exact Del.head | exact Del.tail (by k_extra "gs_del")
  trivial
end Mine
namespace Mine
theorem row76 : True := by
  k_with "gs_rem" => first | exact Rem.nil | exact Rem.cons (by k_extra "gs_del") (by k_extra "gs_rem")
  trivial
end Mine
namespace Mine
theorem row77 : True := by
  k_with "gs_far" => first | (refine ltA_ne (by assumption) ?_; omega) | (refine farA_ne (by assumption) ?_; k_mem) | (refine farA_ne' (by assumption) ?_; k_mem) | (refine farE_own (by assumption) ?_ ?_; (k_extra "gs_sub"); k_mem) | (refine off1_own (by assumption) ?_; (try dsimp only [List.map]); k_extra "gs_sub") | k_extra "gs_offA"
  trivial
end Mine
namespace Mine
theorem row78 : True := by
  k_with "gs_offA" => first | exact OffA.nil | (refine OffA.cons ?_ ?_; k_ne; k_extra "gs_offA")
  trivial
end Mine
namespace Mine
theorem row79 : True := by
  k_with "gs_offR" => first | exact OffL.nil | (refine OffL.cons ?_ ?_; k_extra "gs_far"; k_extra "gs_offR")
  trivial
end Mine
namespace Mine
theorem row80 : True := by
  k_with "k_ne" => first | (refine neN ?_; (try dsimp only); k_extra "hid_pick") | exact off1_a (by with_reducible assumption) (by k_mem) | exact Ne.symm (off1_a (by with_reducible assumption) (by k_mem)) | exact farE_ne (by with_reducible assumption) (by k_mem) (by k_mem) | exact Ne.symm (farE_ne (by with_reducible assumption) (by k_mem) (by k_mem)) | (refine neN ?_; (try dsimp only); omega) | fail "k_ne"
  trivial
end Mine

namespace Mine
theorem row81 : True := by
  k_with "exec For Tuple Name cons nil" => (k_here; (rename Fr _ _ _ _ => lF'q9); k_dflt (refine For_turns lF'q9 ?_))
  trivial
section
variable {w : World} {A : Around} {base g : Heap} {fr : List Env} {mg mb : Str → Option Value} {p : Program} {loose : List Str} {mean : ExcName → Option Value} {s : Shared} {R : Result → Shared → Prop}
  (B : Below A base fr g) (X : Frag.In (hd.heap_39 w.params) g) (T : Top p loose mean mg mb g)
include B X T
end
namespace Cinit0_c
noncomputable def Stmt (w : World) (A : Around) (base g : Heap) (fr : List Env) (mg mb : Str → Option Value) (p : Program) (loose : List Str) (mean : ExcName → Option Value) (s : Shared) (R : Result → Shared → Prop) (x d : Addr) : Prop := ∀ (B : Below A base fr g) (X : Frag.In (hd.heap_39 w.params) g) (T : Top p loose mean mg mb g) (G : GS g s.heap [(x, instObj 218 d), (d, dictOf [] 0)]) (ho : (@Ne Nat x d)) (hh : A.handled = none) (hroom : A.depth + 8 < recursionLimit) (hu : A.units + 40 < cLine) (h : ∀ l t n tk' h', (@LT.lt Nat _ x l ∧ @LT.lt Nat _ d l) → GS g h' (hdrNews w x d l t [] n) → R (.ok (.ret .none)) { s with heap := h', toks := tk' }), codeAny (model Challenge.rw_st0024_01.row.prog w) A (.call (.ref 112) ⟨[.ref x], []⟩) R s
noncomputable def P0 (z : World × Around × Heap × Heap × (List Env) × (Str → Option Value) × (Str → Option Value) × Program × (List Str) × (ExcName → Option Value) × Shared × (Result → Shared → Prop) × Addr × Addr) : Prop := Stmt (z.1) (z.2.1) (z.2.2.1) (z.2.2.2.1) (z.2.2.2.2.1) (z.2.2.2.2.2.1) (z.2.2.2.2.2.2.1) (z.2.2.2.2.2.2.2.1) (z.2.2.2.2.2.2.2.2.1) (z.2.2.2.2.2.2.2.2.2.1) (z.2.2.2.2.2.2.2.2.2.2.1) (z.2.2.2.2.2.2.2.2.2.2.2.1) (z.2.2.2.2.2.2.2.2.2.2.2.2.1) (z.2.2.2.2.2.2.2.2.2.2.2.2.2)
noncomputable def Z := @Classical.epsilon _ ⟨(w00, A00, default, default, [], (fun _ => none), (fun _ => none), default, [], (fun _ => none), s00, (fun _ _ => True), 0, 0)⟩ fun z => ¬ P0 z
@[irreducible] noncomputable def w := Z.1
@[irreducible] noncomputable def A := Z.2.1
@[irreducible] noncomputable def base := Z.2.2.1
@[irreducible] noncomputable def g := Z.2.2.2.1
@[irreducible] noncomputable def fr := Z.2.2.2.2.1
@[irreducible] noncomputable def mg := Z.2.2.2.2.2.1
@[irreducible] noncomputable def mb := Z.2.2.2.2.2.2.1
@[irreducible] noncomputable def p := Z.2.2.2.2.2.2.2.1
@[irreducible] noncomputable def loose := Z.2.2.2.2.2.2.2.2.1
@[irreducible] noncomputable def mean := Z.2.2.2.2.2.2.2.2.2.1
@[irreducible] noncomputable def s := Z.2.2.2.2.2.2.2.2.2.2.1
@[irreducible] noncomputable def R := Z.2.2.2.2.2.2.2.2.2.2.2.1
@[irreducible] noncomputable def x := Z.2.2.2.2.2.2.2.2.2.2.2.2.1
@[irreducible] noncomputable def d := Z.2.2.2.2.2.2.2.2.2.2.2.2.2
set_option maxHeartbeats 4000000 in
theorem key : Stmt w A base g fr mg mb p loose mean s R x d := fun B X T G ho hh hroom hu h => by
  revert X; k_fill; intro X
  keq_rows
  k_steps
  (rename Fr _ _ _ _ => F1)
  (rename News _ _ _ _ => N1)
  refine iter_listTurns (lo := W.listOf #[] 0) (vs := []) hh F1 N1 (by k_mem) rfl rfl ?_
  intro I' l1
  (try k_lt l1)
  refine ItemsRest.zero fun h' tk' F' N' => ?_
  k_steps
  (rename GS _ _ _ => kG)
  refine' h _ _ _ _ _ ?hA (kG.sub ?hB)
  case hB => dsimp only [hdrNews]; k_extra "gs_sub"
  case hA => exact ⟨by omega, by omega⟩
theorem zeq : (w, A, base, g, fr, mg, mb, p, loose, mean, s, R, x, d) = Z := by with_unfolding_all rfl
end Cinit0_c
set_option maxHeartbeats 4000000 in
theorem init0_c {w : World} {A : Around} {base g : Heap} {fr : List Env} {mg mb : Str → Option Value} {p : Program} {loose : List Str} {mean : ExcName → Option Value} {s : Shared} {R : Result → Shared → Prop} {x d : Addr} : Cinit0_c.Stmt w A base g fr mg mb p loose mean s R x d :=
  hilb Cinit0_c.P0 Cinit0_c.Z rfl (Eq.subst (motive := Cinit0_c.P0) Cinit0_c.zeq Cinit0_c.key) (w, A, base, g, fr, mg, mb, p, loose, mean, s, R, x, d)
section
end
end Mine

namespace Mine
theorem strip_pad : ∀ k < 5, ∀ a < 3, ∀ b < 3, Txt.strip (padW a k b) = nm k := by decide +kernel
theorem pad_nm : ∀ k < 5, padW 0 k 0 = nm k := by decide +kernel
theorem pad_ne : ∀ k < 5, ∀ a < 3, ∀ b < 3, a + b ≠ 0 → padW a k b ≠ nm k := by decide +kernel
theorem pad_slice : ∀ k < 5, ∀ a < 3, ∀ b < 3, ∀ (i : Nat), i < a + 1 → ∀ (j : Nat), j < b + 1 → Txt.slice (padW a k b) (some (i : Int)) (some ((padW a k b).length - (j : Int))) = padW (a - i) k (b - j) := by decide +kernel
theorem pad_len : ∀ k < 5, ∀ a < 3, ∀ b < 3, (padW a k b).length ≤ 10 ∧ a + b < (padW a k b).length := by decide +kernel
theorem pad_sp : ∀ k < 5, ∀ a < 3, ∀ b < 3, (∀ i < a, isSp (padW a k b) (i : Int)) ∧ ¬ isSp (padW a k b) (a : Int) ∧ (∀ i < b, isSp (padW a k b) (((padW a k b).length : Int) - 1 - (i : Int))) ∧ ¬ isSp (padW a k b) (((padW a k b).length : Int) - 1 - (b : Int)) := by unfold isSp; decide +kernel
theorem lwN_sw : ∀ k < 5, Txt.lower (swN k) = lwN k := by decide +kernel
theorem lwN_inj : ∀ k < 5, ∀ j < 5, lwN k = lwN j → k = j := by decide +kernel
theorem swN_len : ∀ k < 5, (swN k).length ≤ 3 ∧ (nm k).length ≤ 3 := by decide +kernel
theorem nm_low : ∀ k < 5, Txt.lower (nm k) = lwN k ∧ Txt.lower (Txt.upper (nm k)) = lwN k ∧ Txt.lower (lwN k) = lwN k := by decide +kernel
end Mine
namespace Mine
/-- tuples of two texts in the ledger -/
inductive TupsN : List (Addr × Obj) → List Value → List (Str × Str) → Prop
  | nil : TupsN [] [] []
  | snoc {us : List (Addr × Obj)} {rs : List Value} {kvs : List (Str × Str)} {a : Addr} {k v : Str} {t u : Tok} (h : TupsN us rs kvs) : TupsN (us ++ [(a, tupO #[.str k t, .str v u])]) (rs ++ [.ref a]) (kvs ++ [(k, v)])
theorem TupsIn.snoc {g : Heap} {a : Addr} {k v : Str} {t u : Tok} (h : IsTup g a #[.str k t, .str v u]) : ∀ {rs : List Value} {kvs : List (Str × Str)}, TupsIn g rs kvs → TupsIn g (rs ++ [.ref a]) (kvs ++ [(k, v)])
  | _, _, .nil => .cons h .nil
  | _, _, .cons h' r => .cons h' (TupsIn.snoc h r)
theorem tupsIn_of {g : Heap} {us : List (Addr × Obj)} {rs : List Value} {kvs : List (Str × Str)} (T : TupsN us rs kvs) (h : ∀ p ∈ us, g.get? p.1 = some p.2) : TupsIn g rs kvs := by
  induction T with
  | nil => exact .nil
  | snoc T ih => exact TupsIn.snoc ⟨_, h _ (List.mem_append_right _ List.mem_cons_self), rfl, _, rfl⟩ (ih fun p hp => h p (List.mem_append_left _ hp))
theorem TupsN.len {us : List (Addr × Obj)} {rs : List Value} {kvs : List (Str × Str)} (T : TupsN us rs kvs) : rs.length = kvs.length ∧ us.length = kvs.length := by
  induction T with
  | nil => exact ⟨rfl, rfl⟩
  | snoc T ih => simp [ih.1, ih.2]
theorem findV_none {lw : Str} : ∀ {kvs : List (Str × Str)}, (∀ p ∈ kvs, Txt.lower p.1 ≠ lw) → findV kvs lw = none
  | [], _ => rfl
  | (k, v) :: r, h => by
    have h1 := h (k, v) List.mem_cons_self
    dsimp only at h1
    simp only [findV, h1, if_false]
    exact findV_none fun p hp => h p (List.mem_cons_of_mem _ hp)
end Mine
namespace Mine
theorem slots {α : Type} {e e0 e1 e2 e3 e4 : α} {c : Nat} (h : c ≤ 4) : ([e, e0, e1, e2, e3].take (c + 1)).reverse = ([e0, e1, e2, e3, e4].take c).reverse ++ [e] := by
  match c, h with
  | 0, _ => rfl
  | 1, _ => rfl
  | 2, _ => rfl
  | 3, _ => rfl
  | 4, _ => rfl
  | _ + 5, h => exact absurd h (by omega)
theorem Five.up {ups t d : List Nat} {k : Nat} (h : Five ups ((k :: t) ++ d)) : Five (ups ++ [k]) (t ++ d) := by
  have e : (ups ++ [k]) ++ (t ++ d) = ups ++ ((k :: t) ++ d) := by simp
  unfold Five; rw [e]; exact h
theorem Five.back {ups t d : List Nat} {k : Nat} (h : Five ups ((k :: t) ++ d)) : Five ups (t ++ (d ++ [k])) := by
  have e : (ups ++ (t ++ (d ++ [k]))).Perm (ups ++ ((k :: t) ++ d)) := by
    refine List.Perm.append_left _ ?_
    rw [← List.append_assoc]
    exact (List.perm_append_comm (l₁ := t ++ d) (l₂ := [k]))
  exact ⟨e.nodup_iff.mpr h.1, fun j hj => h.2 j (e.mem_iff.mp hj)⟩
theorem Five.lt {ups qu : List Nat} {k : Nat} (h : Five ups qu) (hk : k ∈ qu) : k < 5 := h.2 k (List.mem_append_right _ hk)
theorem Five.nin {ups qu : List Nat} {k : Nat} (h : Five ups qu) (hk : k ∈ qu) : k ∉ ups := fun hu => (List.nodup_append.mp h.1).2.2 k hu k hk rfl
theorem nodup_lt : ∀ (n : Nat) (l : List Nat), l.Nodup → (∀ k ∈ l, k < n) → l.length ≤ n
  | 0, l, _, h => by
    cases l with
    | nil => exact Nat.le_refl _
    | cons a l => exact absurd (h a List.mem_cons_self) (Nat.not_lt_zero _)
  | n + 1, l, hn, h => by
    have ih := nodup_lt n (l.erase n) (hn.erase n) fun k hk => by
      have := (List.Nodup.mem_erase_iff hn).mp hk
      have := h k this.2
      omega
    have := List.length_erase (a := n) (l := l)
    split at this <;> omega
theorem Five.card {ups qu : List Nat} (h : Five ups qu) : ups.length + qu.length ≤ 5 := by
  have h2 := nodup_lt 5 _ h.1 h.2
  rwa [List.length_append] at h2
noncomputable def kvU (jn : Nat → Str) (k : Nat) : Str × Str := (swN k, jn k)
theorem up_new {jn : Nat → Str} {ups qu : List Nat} {k : Nat} (h : Five ups qu) (hk : k ∈ qu) : findV (ups.map (kvU jn)) (lwN k) = none := by
  refine findV_none fun p hp => ?_
  obtain ⟨j, hj, rfl⟩ := List.mem_map.mp hp
  show Txt.lower (swN j) ≠ lwN k
  have hj5 : j < 5 := h.2 j (List.mem_append_left _ hj)
  rw [lwN_sw j hj5]
  intro e
  have := lwN_inj j hj5 k (h.lt hk) e
  exact h.nin hk (this ▸ hj)
theorem due_nat (A B g c : Nat) : A - (g + c) = A - g - c ∧ B - (g + c - A) = (B - (g - A)) - (c - (A - g)) := by
  refine ⟨(Nat.sub_sub A g c).symm, ?_⟩
  rw [Nat.sub_sub]
  congr 1
  rcases Nat.le_total g A with h | h
  · rw [Nat.sub_eq_zero_of_le h, Nat.zero_add]
    obtain ⟨d, rfl⟩ := Nat.le.dest h
    rw [Nat.add_sub_add_left, Nat.add_sub_cancel_left]
  · rw [Nat.sub_eq_zero_of_le h, Nat.sub_zero, ← Nat.sub_add_comm h]
theorem due_step {Vn : Nat → List Nat} {A Bh : Nat → Nat} {ups : List Nat} {j k : Nat} : dueW Vn A Bh (ups ++ [k]) j = padW ((A j - got Vn ups j) - (Vn k).count j) j ((Bh j - (got Vn ups j - A j)) - ((Vn k).count j - (A j - got Vn ups j))) := by
  have e : got Vn (ups ++ [k]) j = got Vn ups j + (Vn k).count j := by unfold got; simp
  unfold dueW
  rw [e]
  have e1 : A j - (got Vn ups j + List.count j (Vn k)) = A j - got Vn ups j - List.count j (Vn k) := (due_nat _ 0 _ _).1
  have e2 : Bh j - (got Vn ups j + List.count j (Vn k) - A j) = Bh j - (got Vn ups j - A j) - (List.count j (Vn k) - (A j - got Vn ups j)) := (due_nat _ _ _ _).2
  rw [e1, e2]
end Mine
namespace Mine
/-- up's tuples lie on the ground that a call gets -/
theorem tupsIn_up {gg h₀ : Heap} {s : Shared} {L : Addr} {e0 e1 e2 e3 e4 : Addr × Obj} {c : Nat} {rs : List Value} {kvs : List (Str × Str)} {own news : List (Addr × Obj)} {as : List Addr}
    (T : TupsN (([e0, e1, e2, e3, e4].take c).reverse) rs kvs) (N : News h₀ L s.heap news) (gK : ∀ a o, s.heap.get? a = some o → a ∉ own.map (·.1) → gg.get? a = some o)
    (F : FarE as [e0.1, e1.1, e2.1, e3.1, e4.1]) (ho : Sub (own.map (·.1)) as) (hs : Sub [e0, e1, e2, e3, e4] news) : TupsIn gg rs kvs := by
  refine tupsIn_of T fun p hp => ?_
  have hp' : p ∈ [e0, e1, e2, e3, e4] := List.mem_of_mem_take (List.mem_reverse.mp hp)
  refine gK _ _ (N p (hs p hp')).1 fun hm => ?_
  have : p.1 ∈ [e0.1, e1.1, e2.1, e3.1, e4.1] := List.mem_map_of_mem (f := fun (x : Addr × Obj) => x.1) hp'
  exact F _ (ho _ hm) _ this rfl
end Mine
namespace Mine
theorem rg_small {n : Nat} (h : n ≤ 1000) : Builtin.Range.small 0 (n : Int) 1 = true := small_one (by omega) (by omega) (by omega) (by omega)
theorem rg_size (n : Nat) : Builtin.Range.rangeSize 0 (n : Int) 1 = (n : Int) := by rw [rangeSize_nat]; omega
end Mine
namespace Mine
theorem strs_cons {vs : List Value} {y : Str} {ys : List Str} (h : StrsAre vs (y :: ys)) : ∃ t vs', vs = .str y t :: vs' ∧ StrsAre vs' ys := by
  cases h with
  | cons _ t h => exact ⟨t, _, rfl, h⟩
end Mine
namespace Mine
theorem nm_good : ∀ k < 5, (∀ c ∈ (lwN k).cps.toList, good c) ∧ (∀ c ∈ (swN k).cps.toList, good c) := by unfold good; decide +kernel
/-- what the table tells of one: whom he pushes -/
noncomputable def Told (kvs : List (Str × Str)) (Vn : Nat → List Nat) (k : Nat) : Prop :=
  (∀ c ∈ (Txt.join (Str.ofString "") (allV (lwN k) kvs)).cps.toList, good c) ∧ ((allV (lwN k) kvs).map (·.length)).sum + (allV (lwN k) kvs).length ≤ 1048576 ∧ (∀ o ∈ allV (lwN k) kvs, o.length ≤ 1000) ∧ (allV (lwN k) kvs).map Txt.lower = (Vn k).map lwN
end Mine
namespace Mine
theorem ex_hdr {w : World} {D x d l : Addr} {o : Obj} {t : Tok} {refs : List Value} {n : Nat} (h : (@Ne Nat x D) ∧ (@Ne Nat d D) ∧ (@Ne Nat l D)) : ∀ p ∈ [(D, o)], ∀ q ∈ hdrNews w x d l t refs n, p.1 ≠ q.1 := by
  intro p hp q hq
  rw [List.mem_singleton.mp hp]
  simp only [hdrNews, List.mem_cons, List.not_mem_nil, or_false] at hq
  rcases hq with rfl | rfl | rfl
  · exact Ne.symm h.1
  · exact Ne.symm h.2.1
  · exact Ne.symm h.2.2
end Mine
namespace Mine
theorem kvU_len {jn : Nat → Str} {ups qu : List Nat} (h : Five ups qu) : ∀ p ∈ ups.map (kvU jn), p.1.length ≤ 1000 := fun p hp => by
  obtain ⟨j, hj, rfl⟩ := List.mem_map.mp hp
  have := (swN_len j (h.2 j (List.mem_append_left _ hj))).1
  show (swN j).length ≤ 1000
  omega
theorem kvU_refs {jn : Nat → Str} {ups qu : List Nat} {us : List (Addr × Obj)} {rU : List Value} (h : Five ups qu) (T : TupsN us rU (ups.map (kvU jn))) : rU.length ≤ 1000 := by
  have := T.len.1
  rw [List.length_map] at this
  have := h.card
  omega
end Mine
namespace Mine
theorem count_lw {j : Nat} (hj : j < 5) : ∀ {l : List Nat}, (∀ y ∈ l, y < 5) → (l.map lwN).count (lwN j) = l.count j
  | [], _ => rfl
  | y :: l, h => by
    have ih := count_lw hj (l := l) fun z hz => h z (List.mem_cons_of_mem _ hz)
    have hy := h y List.mem_cons_self
    rw [List.map_cons, List.count_cons, List.count_cons, ih]
    by_cases e : y = j
    · subst e; simp
    · have : lwN y ≠ lwN j := fun q => e (lwN_inj y hy j hj q)
      simp [e, this]
theorem drop_cons {α : Type} {l : List α} {c : Nat} (h : c < l.length) : ∃ j, l[c]? = some j ∧ l.drop c = j :: l.drop (c + 1) ∧ l.take (c + 1) = l.take c ++ [j] ∧ j ∈ l := by
  refine ⟨l[c], List.getElem?_eq_getElem h, List.drop_eq_getElem_cons h, ?_, List.getElem_mem h⟩
  rw [List.take_succ, List.getElem?_eq_getElem h]; rfl
end Mine

namespace Mine
theorem subMin (a n : Nat) : a - min a n = a - n := by
  rw [Nat.min_def]; split
  · rename_i h; rw [Nat.sub_self, Nat.sub_eq_zero_of_le h]
  · rfl
theorem subMin2 (b m : Nat) : b - min b m = b - m := subMin b m
theorem castMin (a n : Nat) : min (a : Int) (n : Int) = ((min a n : Nat) : Int) := by
  rw [Int.min_def, Nat.min_def]; split <;> split
  · rfl
  · rename_i h h2; exact absurd (Int.ofNat_le.mp h) h2
  · rename_i h h2; exact absurd (Int.ofNat_le.mpr h2) h
  · rfl
theorem subMin3 (a n : Nat) : n - min a n = n - a := by
  rw [Nat.min_def]; split
  · rfl
  · rename_i h; rw [Nat.sub_self, Nat.sub_eq_zero_of_le (Nat.le_of_not_le h)]
theorem castMin2 (L : Int) (a b n : Nat) : L - min (b : Int) ((n : Int) - min (a : Int) (n : Int)) = L - ((min b (n - a) : Nat) : Int) := by
  rw [castMin, ← Int.ofNat_sub (Nat.min_le_right a n), subMin3, castMin]
theorem ab3 {A B g a b : Nat} (hA : A < 3) (hB : B < 3) (ea : a = A - g) (eb : b = B - (g - A)) : a < 3 ∧ b < 3 := ⟨ea ▸ Nat.lt_of_le_of_lt (Nat.sub_le _ _) hA, eb ▸ Nat.lt_of_le_of_lt (Nat.sub_le _ _) hB⟩
theorem ab_le {A B g a b : Nat} (ea : a = A - g) (eb : b = B - (g - A)) (h : a + b = 0) : A + B ≤ g := by
  have h1 : A ≤ g := Nat.le_of_sub_eq_zero (ea ▸ Nat.eq_zero_of_add_eq_zero_right h)
  have h2 : B ≤ g - A := Nat.le_of_sub_eq_zero (eb ▸ Nat.eq_zero_of_add_eq_zero_left h)
  have := Nat.add_le_add_left h2 A
  rwa [Nat.add_sub_cancel' h1] at this
theorem ab_lt {A B g a b : Nat} (ea : a = A - g) (eb : b = B - (g - A)) (h : ¬ a + b = 0) : ¬ A + B ≤ g := fun q => h (by
  rw [ea, eb, Nat.sub_eq_zero_of_le (Nat.le_trans (Nat.le_add_right _ _) q), Nat.sub_eq_zero_of_le (Nat.le_sub_of_add_le' q)])
section
variable {w : World} {A : Around} {base g : Heap} {fr : List Env} {mg mb : Str → Option Value} {p : Program} {loose : List Str} {mean : ExcName → Option Value} {s : Shared} {R : Result → Shared → Prop}
  (B : Below A base fr g) (X : Frag.In (hd.heap_39 w.params) g) (T : Top p loose mean mg mb g)
include B X T
theorem strip_p {a k b n : Nat} {tx tn : Tok} (hk : k < 5) (ha : a < 3) (hb : b < 3) (G : GS g s.heap []) (hroom : A.depth + 1 < recursionLimit) (hu : A.units + 10 < cLine)
  (h : ∀ tk tk' h', GS g h' [] → R (.ok (.ret (.str (padW (a - n) k (b - (n - a))) tk))) { s with heap := h', toks := tk' }) :
  codeAny (model Challenge.rw_st0024_01.row.prog w) A (.call (.ref 45) ⟨[.str (padW a k b) tx, .int (n : Int) tn], []⟩) R s := by
  obtain ⟨l1, l2⟩ := pad_len k hk a ha b hb
  obtain ⟨s1, s2, s3, s4⟩ := pad_sp k hk a ha b hb
  refine strip_c B X T (a := (a : Int)) (b := (b : Int)) (n := (n : Int)) G hroom hu rfl (by omega) (by omega) (by omega) (by omega) (fun i h0 h1 => ?_) s2 (fun i h0 h1 => ?_) s4 (by omega) (fun h' tk tk' lp rp e1 e2 G' => ?_)
  · have := s1 i.toNat (by omega)
    rwa [Int.toNat_of_nonneg h0] at this
  · have := s3 (((padW a k b).length : Int) - 1 - i).toNat (by omega)
    rw [Int.toNat_of_nonneg (by omega)] at this
    have e : ((padW a k b).length : Int) - 1 - (((padW a k b).length : Int) - 1 - i) = i := by omega
    rwa [e] at this
  · have e := pad_slice k hk a ha b hb (min a n) (by omega) (min b (n - a)) (by omega)
    have f1 : lp = ((min a n : Nat) : Int) := e1.trans (castMin a n)
    have f2 : rp = ((padW a k b).length : Int) - ((min b (n - a) : Nat) : Int) := e2.trans (castMin2 _ a b n)
    rw [f1, f2, e]
    have f3 := subMin a n
    have f4 := subMin2 b (n - a)
    rw [f3, f4]
    exact h _ _ _ G'
end
end Mine

namespace Mine
open PySem.Calls
/-- an iterator over a list that stands at place i -/
noncomputable def Lit (o : Obj) (l : Addr) (i : Nat) : Prop := o.cls = .type "list_iterator" ∧ o.data = .fields #[.ref l, .int i 0]
section
variable {prog : Program} {w : World} {A : Around} {E : Value → Shared → Prop} {s : Shared} {h₀ : Heap} {L : Addr} {m : Str → Option Value} {news rest : List (Addr × Obj)}
theorem li_iter {l : Addr} {vs : List Value} {n : Nat} {Q : Value → Shared → Prop} (F : Fr h₀ L s.heap m) (N : News h₀ L s.heap news) (hm : (l, W.listOf vs.toArray n) ∈ news)
    (h : ∀ I o h', Lit o l 0 → Fr h₀ L h' m → News h₀ L h' ((I, o) :: news) → (∀ q ∈ news, q.1 < I) → Q (.ref I) { s with heap := h' }) : wpAny (model prog w) A (pyIter (.ref l)) Q E s := by
  refine wpAny_pyIter_list (lst_N N hm) ?_
  exact h _ _ _ ⟨rfl, rfl⟩ (F.push _) (News.push F N _ rfl) fun q hq => Heap.lt_size (N q hq).1
theorem li_next {I l : Addr} {o : Obj} {vs : List Value} {i n : Nat} {x : Value} {Q : Option Value → Shared → Prop} (F : Fr h₀ L s.heap m) (N : News h₀ L s.heap ((I, o) :: rest)) (off' : OffA I (rest.map (·.1))) (ho : Lit o l i)
    (hm : (l, W.listOf vs.toArray n) ∈ rest) (hx : vs[i]? = some x)
    (h : ∀ o' h', Lit o' l (i + 1) → Fr h₀ L h' m → News h₀ L h' ((I, o') :: rest) → Q (some x) { s with heap := h' }) : wpAny (model prog w) A (pyNext (.ref I)) Q E s := by
  have off := off'.all
  obtain ⟨e, hL, hI⟩ := N (I, o) List.mem_cons_self
  have hit : s.heap.IsListIter I l i := ⟨o, e, ho⟩
  refine wpAny_pyNext_list_item hit (lst_N N (List.mem_cons_of_mem _ hm)) (by simpa using hx) fun h' hit' hs' => ?_
  have hb := hs'.extBut
  obtain ⟨o', e', ho'⟩ := hit'
  refine h o' _ ho' ⟨F.ns.at' fun o e => hb _ o (Ne.symm hL) e, fun b o e => hb b o (fun q => by rw [q, hI] at e; cases e) (F.keep b o e), F.above⟩ fun p hp => ?_
  rcases List.mem_cons.mp hp with rfl | hp
  · exact ⟨e', hL, hI⟩
  · have z := N p (List.mem_cons_of_mem _ hp)
    exact ⟨hb _ _ (Ne.symm (off p hp)) z.1, z.2⟩
theorem li_done {I l : Addr} {o : Obj} {vs : List Value} {i n : Nat} {Q : Option Value → Shared → Prop} (hh : A.handled = none) (F : Fr h₀ L s.heap m) (N : News h₀ L s.heap ((I, o) :: rest)) (off' : OffA I (rest.map (·.1))) (ho : Lit o l i)
    (hm : (l, W.listOf vs.toArray n) ∈ rest) (hx : vs[i]? = none)
    (h : ∀ h', Fr h₀ L h' m → News h₀ L h' rest → Q none { s with heap := h' }) : wpAny (model prog w) A (pyNext (.ref I)) Q E s := by
  have off := off'.all
  obtain ⟨e, hL, hI⟩ := N (I, o) List.mem_cons_self
  have hit : s.heap.IsListIter I l i := ⟨o, e, ho⟩
  refine wpAny_pyNext_list_end hh hit (lst_N N (List.mem_cons_of_mem _ hm)) (by simpa using hx) fun h' hb => ?_
  refine h _ ⟨F.ns.at' fun o e => hb _ o (Ne.symm hL) e, fun b o e => hb b o (fun q => by rw [q, hI] at e; cases e) (F.keep b o e), F.above⟩ fun p hp => ?_
  have z := N p (List.mem_cons_of_mem _ hp)
  exact ⟨hb _ _ (Ne.symm (off p hp)) z.1, z.2⟩
end
end Mine
namespace Mine
open PySem.Calls
theorem ltA_of_fr {g h : Heap} {L : Addr} {m : Str → Option Value} {as : List Addr} (F : Fr g L h m) (hs : ∀ a ∈ as, @LT.lt Nat _ a L) : LtA L as := hs
theorem strs_at {vs : List Value} {ys : List Str} (h : StrsAre vs ys) {i : Nat} (hi : i < vs.length) : ∃ y t, vs[i]? = some (.str y t) ∧ ys[i]? = some y := by
  have hl : i < ys.length := by rw [← StrsAre.length h]; exact hi
  obtain ⟨t, e⟩ := StrsAre.at h (List.getElem?_eq_getElem hl)
  exact ⟨_, t, e, List.getElem?_eq_getElem hl⟩
theorem take_push {α : Type} {l : List α} {i : Nat} {x : α} (h : l[i]? = some x) : l.take i ++ [x] = l.take (i + 1) := by
  rw [List.take_succ, h]; rfl
end Mine
namespace Mine
open PySem.Calls
section
variable {prog : Program} {w : World} {A : Around} {E : Value → Shared → Prop} {s : Shared} {h₀ : Heap} {L : Addr} {news : List (Addr × Obj)}
theorem len_N {l : Addr} {vs : List Value} {n : Nat} {z : Int} {Q : Value → Shared → Prop} (N : News h₀ L s.heap news) (hm : (l, W.listOf vs.toArray n) ∈ news) (hz : (vs.length : Int) = z) (hk : z ≤ 1000)
    (h : ∀ t tk, Q (.int z t) { s with toks := tk }) : wpAny (model prog w) A (call (.builtin "len") [.ref l]) Q E s := by
  subst hz
  refine len_list (lst_N N hm) (by rw [List.size_toArray]; omega) ?_
  rw [List.size_toArray]
  exact h _ _
end
end Mine
namespace Mine
theorem row82 : True := by
  k_with "call builtin:len" => (k_here; (with_reducible show wpAny _ _ (call (Value.builtin "len") [Value.ref _]) _ _ _); k_dflt (refine' len_N ?Nr82 ?mr82 ?zr82 ?kr82 ?_; (case Nr82 => k_asm); (case mr82 => k_mem); (case zr82 => assumption); (case kr82 => omega)); ((first | tm_at "clo1" | refine fun _ => ?_); (first | tm_at "clo1" | refine fun _ => ?_)))
  trivial
end Mine
namespace Mine
open PySem.Calls
section
variable {prog : Program} {w : World} {A : Around} {E : Value → Shared → Prop} {s : Shared} {h₀ : Heap} {L : Addr} {m : Str → Option Value} {news rest : List (Addr × Obj)}
theorem rg_nextA {I : Addr} {x : Int} {k : Nat} {Q : Option Value → Shared → Prop} (F : Fr h₀ L s.heap m) (N : News h₀ L s.heap ((I, rgO x (k + 1)) :: rest)) (off : OffA I (rest.map (·.1)))
    (h : ∀ t h' tk, Fr h₀ L h' m → News h₀ L h' ((I, rgO (x + 1) k) :: rest) → Q (some (.int x t)) { s with heap := h', toks := tk }) : wpAny (model prog w) A (pyNext (.ref I)) Q E s := rg_next F N off.all h
theorem rg_doneA {I : Addr} {x : Int} {Q : Option Value → Shared → Prop} (hh : A.handled = none) (F : Fr h₀ L s.heap m) (N : News h₀ L s.heap ((I, rgO x 0) :: rest)) (off : OffA I (rest.map (·.1)))
    (h : ∀ h', Fr h₀ L h' m → News h₀ L h' rest → Q none { s with heap := h' }) : wpAny (model prog w) A (pyNext (.ref I)) Q E s := rg_done hh F N off.all h
end
end Mine

namespace Mine
open PySem.Calls
section
variable {prog : Program} {w : World} {A : Around} {h₀ : Heap} {L : Addr} {m : Str → Option Value} {env : Env} {ct elt : PySem.Expr} {x : Str} {scope : Scope} {cl : List (Str × Addr)} {s : Shared} {S : List (Addr × Obj) → Prop} {P : Nat → Value → Prop} {Fin : List Value → List (Addr × Obj) → Prop} {news : List (Addr × Obj)}
/-- a comprehension whose turns may turn the ledger -/
theorem cr_led {n : Nat} (J : Nat → List Value → List (Addr × Obj) → Prop) (h0 : J 0 [] news)
    (turn : ∀ i v ys nw I oI C oC D m₂ h tk (E' : Value → Shared → Prop), i < n → P i v → J i ys nw → LCg.NsObj oC m₂ → m₂ x = some v → Fr h₀ L h m → News h₀ L h ((I, oI) :: (C, oC) :: (D, LCg.lst ys) :: nw) → LCg.Off3 I C D nw → ((@Ne Nat I C) ∧ (@Ne Nat I D) ∧ (@Ne Nat C D)) →
      wpAny (model prog w) A (eval elt (compEnvC scope cl C env)) (LCg.CompEnd h₀ L m { s with heap := h, toks := tk } I oI C oC D (LCg.lst ys) S (fun y news' => J (i + 1) (ys ++ [y]) news')) E' { s with heap := h, toks := tk })
    (fin : ∀ ys nw, J n ys nw → Fin ys nw) : LCg.CompRest prog w A h₀ L m env elt x scope cl s S P Fin n 0 [] news := by
  have key : ∀ (j i : Nat) (ys : List Value) (nw : List (Addr × Obj)), i + j = n → J i ys nw → LCg.CompRest prog w A h₀ L m env elt x scope cl s S P Fin j i ys nw := by
    intro j
    induction j with
    | zero =>
      intro i ys nw hi hy
      have e : i = n := by omega
      subst e
      exact LCg.CompRest.zero (fin ys nw hy)
    | succ j ih =>
      intro i ys nw hi hy
      refine LCg.CompRest.succ ?_
      intro v I oI C oC D m₂ h tk E' hv hC hx F N off ne
      refine wpAny_mono (turn i v ys nw I oI C oC D m₂ h tk E' (by omega) hv hy hC hx F N off ne) (fun y s₂ hr => ?_) fun _ _ e => e
      obtain ⟨h', tk', nw', e, F', N', off', hS, hj⟩ := hr
      exact ⟨h', tk', nw', e, F', N', off', hS, ih (i + 1) _ nw' (by omega) hj⟩
  exact key n 0 [] news (by omega) h0
theorem off3_addr {I C D : Addr} {l l' : List (Addr × Obj)} (h : LCg.Off3 I C D l) (hs : Sub (l'.map (·.1)) (l.map (·.1))) : LCg.Off3 I C D l' :=
  LCg.Off3.of fun p hp => by
    obtain ⟨q, hq, e⟩ := List.mem_map.mp (hs p.1 (List.mem_map_of_mem hp))
    rw [← e]
    exact h.mem q hq
end
theorem mid3 {α : Type} (x : List α) {a b c : α} {l : List α} : ∀ p ∈ a :: b :: c :: (x ++ l), p ∈ x ++ a :: b :: c :: l := fun p hp => by
  simp only [List.mem_append, List.mem_cons] at hp ⊢
  rcases hp with h | h | h | h | h
  · exact .inr (.inl h)
  · exact .inr (.inr (.inl h))
  · exact .inr (.inr (.inr (.inl h)))
  · exact .inl h
  · exact .inr (.inr (.inr (.inr h)))
end Mine
namespace Mine
theorem row83 : True := by
  k_with "lcg_off" => first | assumption | (refine off3_addr (by assumption) ?_; (dsimp only [List.map]); k_extra "gs_sub")
  trivial
end Mine
namespace Mine
theorem row84 : True := by
  k_with "gs_far" => first | (refine (off3_own (by assumption) ?_).1; (try dsimp only [List.map]); k_extra "gs_sub") | (refine (off3_own (by assumption) ?_).2.1; (try dsimp only [List.map]); k_extra "gs_sub") | (refine (off3_own (by assumption) ?_).2.2; (try dsimp only [List.map]); k_extra "gs_sub")
  trivial
end Mine
namespace Mine
theorem row85 : True := by
  k_with "CompEnd" => k_dflt (first
    | (refine' LCg.CompEnd.intro ?kar85 ?kNr85 _ ?ksr85 ?kor85 ?krr85 ?_; (case kor85 => assumption); (case kar85 => assumption); (case kNr85 => assumption); (case ksr85 => first | exact fun _ hp => hp | exact fun _ hp => List.mem_cons_of_mem _ hp | exact in2 | exact in3); (case krr85 => lcg_src))
    | (refine' LCg.CompEnd.intro ?kar85 ?kNr85 _ ?ksr85 ?kor85 ?krr85 ?_; (case kar85 => assumption); (case kNr85 => assumption); (case ksr85 => exact mid3 [_, _, _, _, _, _, _, _, _]); (case kor85 => exact off3_addr (by assumption) Sub.rfl'); (case krr85 => lcg_src)))
  trivial
end Mine
namespace Mine
theorem row86 : True := by
  k_with "gs_far" => first | (refine ltA_ne (by with_reducible assumption) ?_; omega) | (refine farA_ne (by with_reducible assumption) ?_; k_mem) | (refine farA_ne' (by with_reducible assumption) ?_; k_mem) | (refine farE_own (by with_reducible assumption) ?_ ?_; (k_extra "gs_sub"); k_mem) | (refine (off3_own (by with_reducible assumption) ?_).1; (try dsimp only [List.map]); k_extra "gs_sub") | (refine (off3_own (by with_reducible assumption) ?_).2.1; (try dsimp only [List.map]); k_extra "gs_sub") | (refine (off3_own (by with_reducible assumption) ?_).2.2; (try dsimp only [List.map]); k_extra "gs_sub") | (refine off1_own (by with_reducible assumption) ?_; (try dsimp only [List.map]); k_extra "gs_sub")
  trivial
end Mine

namespace Mine
noncomputable def fnOf0 (n : Nat) : List Stmt × Scope := ((stN Challenge.pw_st0024_01.main.body n).1, (stN Challenge.pw_st0024_01.main.body n).2.2.1)
noncomputable def forB (l : List Stmt) (n : Nat) : List Stmt := (stN l n).1
noncomputable def ifB (l : List Stmt) (n : Nat) : List Stmt := (stN l n).1
noncomputable def elseB (l : List Stmt) (n : Nat) : List Stmt := (stN l n).2.1
noncomputable def runS0 : Scope := (fnOf0 13).2
@[reducible] noncomputable def runSs : { x : Scope // runS0 = x } := by
  refine ⟨?x, ?h⟩
  case h =>
    conv => lhs; whnf
noncomputable abbrev runEnv (L : Addr) : Env := envOfC (Str.ofString "_law_run") runSs.1 L 239 (.ref 238)
noncomputable def stAt (l : List Stmt) (n : Nat) : Stmt := (l.drop n).headD (.Pass ⟨0, 0, 0, 0⟩)
noncomputable def placeB0 : List Stmt := forB (forB (fnOf0 13).1 3) 0
noncomputable def restB0 : List Stmt := forB (elseB placeB0 2) 4
noncomputable def rest0 : Stmt := stAt restB0 0
noncomputable def rest1 : Stmt := stAt restB0 1
noncomputable def run4 : Stmt := stAt (fnOf0 13).1 4
@[reducible] noncomputable def rest0s : { x : Stmt // rest0 = x } := by
  refine ⟨?x, ?h⟩
  case h =>
    conv => lhs; whnf
@[reducible] noncomputable def rest1s : { x : Stmt // rest1 = x } := by
  refine ⟨?x, ?h⟩
  case h =>
    conv => lhs; whnf
@[reducible] noncomputable def run4s : { x : Stmt // run4 = x } := by
  refine ⟨?x, ?h⟩
  case h =>
    conv => lhs; whnf
noncomputable abbrev restB : List Stmt := [rest0s.1, rest1s.1]
end Mine

namespace Mine
section
variable {prog : Program} {w : World} {A : Around} {E : Value → Shared → Prop} {s : Shared} {h₀ : Heap} {L : Addr} {news : List (Addr × Obj)}
theorem cnt_strsN (k : Str) : ∀ ns : List Str, Spec.countIn (.str k) (ns.map PyData.str) = ((ns.count k : Nat) : Int)
  | [] => rfl
  | y :: r => by simp only [List.map_cons, Spec.countIn, Spec.same, cnt_strsN k r, List.count_cons]; split <;> simp_all <;> omega
theorem cntS_K {l : Addr} {vs : List Value} {ys : List Str} {k : Str} {n c : Nat} {t : Tok} {Q : Value → Shared → Prop} (N : News h₀ L s.heap news) (hm : (l, W.listOf vs.toArray n) ∈ news) (hi : StrsAre vs ys) (hc : ys.count k = c)
    (h : ∀ t' tk, Q (.int (c : Int) t') { s with toks := tk }) : wpAny (model prog w) A (call (.builtin "list.count") [.ref l, .str k t]) Q E s := by
  subst hc
  refine count_list_strs (lst_N N hm) hi ?_
  rw [cnt_strsN]
  exact h _ _
end
theorem row87 : True := by
  k_with "ite" => (k_here; first | refine ite_pos (by with_reducible assumption) ?_ | refine ite_neg (by with_reducible assumption) ?_ | refine ite_isFalse (by with_reducible assumption) ?_)
  trivial
theorem row88 : True := by
  k_with "call builtin:list.count" => (k_here; (with_reducible show wpAny _ _ (call (Value.builtin _) [Value.ref _, Value.str _ _]) _ _ _); k_dflt (refine' cntS_K ?Nr88 ?mr88 ?ir88 ?cr88 ?_; (case Nr88 => k_asm); (case mr88 => k_mem); (case ir88 => assumption); (case cr88 => assumption)); ((first | tm_at "clo1" | refine fun _ => ?_); (first | tm_at "clo1" | refine fun _ => ?_)))
  trivial
/-- the lexer's addresses -/
noncomputable abbrev lexA (q : LexP) : List Addr := [q.pb, q.x2, q.d2, q.f, q.c', q.x1, q.d1, q.g, q.c]
theorem row89 : True := by
  k_with "exec For Name Name cons nil" => (k_here; (with_reducible show wpAny _ _ (exec (Stmt.For (Expr.Name _ _) (Expr.Name (Str.ofString "line") _) _ _ _) _) _ _ _); k_dflt (refine fi_for ?_))
  trivial
theorem row90 : True := by
  k_with "exec For Name Call cons nil" => (k_here; k_dflt (refine fi_for ?_))
  trivial
theorem row91 : True := by
  k_with "k_enter" => ((with_reducible show codeAny _ _ (Code.call (Value.ref 80) _) _ _); (refine' GS.callM ?kBr91 ?kFr91 ?kXr91 ?kNr91 ?kTr91 ?kAr91 ?kfr91 ?kkr91 ?krr91 ?kdr91 (fun ggq9 gBq9 gXq9 gTq9 gGq9 gKq9 gSq9 gBackq9 => push_c gBq9 gXq9 gTq9 gGq9 ?iIr91 ?ihr91 ?irr91 ?iur91 ?izr91 ?_); (case kBr91 => assumption); (case kFr91 => assumption); (case kXr91 => assumption); (case kNr91 => assumption); (case kTr91 => assumption); (case kAr91 => keq_hits); (case kfr91 => exact rfl); (case kkr91 => exact rfl); (case krr91 => k_extra "gs_rem"); (case kdr91 => (dsimp only [List.map]); k_extra "gs_offR"); (case iIr91 => assumption); (case ihr91 => assumption); (case irr91 => k_room); (case iur91 => (try simp only [units_under_make, Around.deeper_units]); omega); (case izr91 => (try simp only [List.length_append, List.length_cons, List.length_nil]); omega); (revert ggq9; ((first | tm_at "clo1" | refine fun ggq9 => ?_); refine fun gBq9 => ?_; refine fun gXq9 => ?_; refine fun gTq9 => ?_; refine fun gGq9 => ?_; refine fun gKq9 => ?_; refine fun gSq9 => ?_; refine fun gBackq9 => ?_); ((first | tm_at "clo1" | refine fun h'q9 => ?_); (first | tm_at "clo1" | refine fun tk'q9 => ?_); refine fun gG'q9 => ?_); (obtain ⟨F'q9, N'q9, -⟩ := gBackq9 _ _ gG'q9); (clear gBq9 gXq9 gTq9 gGq9 gKq9 gSq9 gBackq9 gG'q9); (try simp only [hdrNews, List.cons_append, List.nil_append] at N'q9))))
  trivial
theorem row92 : True := by
  k_with "k_enter" => ((with_reducible show codeAny _ _ (Code.call (Value.ref 73) _) _ _); (refine' GS.callM ?kBr92 ?kFr92 ?kXr92 ?kNr92 ?kTr92 ?kAr92 ?kfr92 ?kkr92 ?krr92 ?kdr92 (fun ggq9 gBq9 gXq9 gTq9 gGq9 gKq9 gSq9 gBackq9 => gt_pop gBq9 gXq9 gTq9 gGq9 ?iIr92 ?ihr92 ?irr92 ?iur92 ?izr92 ?_); (case kBr92 => assumption); (case kFr92 => assumption); (case kXr92 => assumption); (case kNr92 => assumption); (case kTr92 => assumption); (case kAr92 => keq_hits); (case kfr92 => exact rfl); (case kkr92 => exact rfl); (case krr92 => k_extra "gs_rem"); (case kdr92 => (dsimp only [List.map]); k_extra "gs_offR"); (case iIr92 => assumption); (case ihr92 => assumption); (case irr92 => k_room); (case iur92 => (try simp only [units_under_make, Around.deeper_units]); omega); (case izr92 => (try simp only [List.length_append, List.length_cons, List.length_nil]); omega); (revert ggq9; ((first | tm_at "clo1" | refine fun ggq9 => ?_); refine fun gBq9 => ?_; refine fun gXq9 => ?_; refine fun gTq9 => ?_; refine fun gGq9 => ?_; refine fun gKq9 => ?_; refine fun gSq9 => ?_; refine fun gBackq9 => ?_); ((first | tm_at "clo1" | refine fun h'q9 => ?_); (first | tm_at "clo1" | refine fun tk'q9 => ?_); refine fun gG'q9 => ?_); (obtain ⟨F'q9, N'q9, -⟩ := gBackq9 _ _ gG'q9); (clear gBq9 gXq9 gTq9 gGq9 gKq9 gSq9 gBackq9 gG'q9); (try simp only [hdrNews, List.cons_append, List.nil_append] at N'q9))))
  trivial
theorem row93 : True := by
  k_with "k_enter" => ((with_reducible show codeAny _ _ (Code.call (Value.ref 112) _) _ _); (refine' GS.callM ?kBr93 ?kFr93 ?kXr93 ?kNr93 ?kTr93 ?kAr93 ?kfr93 ?kkr93 ?krr93 ?kdr93 (fun ggq9 gBq9 gXq9 gTq9 gGq9 gKq9 gSq9 gBackq9 => init0_c gBq9 gXq9 gTq9 gGq9 ?i1r93 ?ihr93 ?irr93 ?iur93 ?_); (case kBr93 => assumption); (case kFr93 => assumption); (case kXr93 => assumption); (case kNr93 => assumption); (case kTr93 => assumption); (case kAr93 => keq_hits); (case kfr93 => exact rfl); (case kkr93 => exact rfl); (case krr93 => k_extra "gs_rem"); (case kdr93 => (dsimp only [List.map]); k_extra "gs_offR"); (case i1r93 => k_ne); (case ihr93 => assumption); (case irr93 => k_room); (case iur93 => (try simp only [units_under_make, Around.deeper_units]); omega); (revert ggq9; ((first | tm_at "clo1" | refine fun ggq9 => ?_); refine fun gBq9 => ?_; refine fun gXq9 => ?_; refine fun gTq9 => ?_; refine fun gGq9 => ?_; refine fun gKq9 => ?_; refine fun gSq9 => ?_; refine fun gBackq9 => ?_); ((first | tm_at "clo1" | refine fun l'q9 => ?_); (first | tm_at "clo1" | refine fun t'q9 => ?_); (first | tm_at "clo1" | refine fun n'q9 => ?_); (first | tm_at "clo1" | refine fun tk'q9 => ?_); (first | tm_at "clo1" | refine fun h'q9 => ?_); (first | tm_at "clo1" | refine fun l1'q9 => ?_); refine fun gG'q9 => ?_); (obtain ⟨F'q9, N'q9, -⟩ := gBackq9 _ _ gG'q9); (clear gBq9 gXq9 gTq9 gGq9 gKq9 gSq9 gBackq9 gG'q9); (try simp only [hdrNews, List.cons_append, List.nil_append] at N'q9); (try dsimp only [InitBack]); (try refine ⟨rfl, ?_⟩); (try dsimp only))))
  trivial
theorem row94 : True := by
  k_with "k_enter" => ((with_reducible show codeAny _ _ (Code.call (Value.ref 157) _) _ _); (refine' GS.callS ?kBr94 ?kFr94 ?kXr94 ?kNr94 ?kTr94 ?kAr94 ?kfr94 ?kkr94 ?kor94 (fun ggq9 gBq9 gXq9 gTq9 gGq9 gKq9 gBackq9 => get_all_c gBq9 gXq9 gTq9 gGq9 ?ihr94 ?irr94 ?iur94 ?ikr94 ?iklr94 ?inlr94 ?ilwr94 ?igr94 ?izr94 ?_); (case kBr94 => assumption); (case kFr94 => assumption); (case kXr94 => assumption); (case kNr94 => assumption); (case kTr94 => assumption); (case kAr94 => keq_hits); (case kfr94 => exact rfl); (case kkr94 => exact rfl); (case kor94 => k_extra "gs_sub"); (case ihr94 => assumption); (case irr94 => k_room); (case iur94 => (try simp only [units_under_make, Around.deeper_units]); omega); (case ikr94 => exact TupsIn.keeps gKq9 (by assumption)); (case iklr94 => assumption); (case inlr94 => omega); (case ilwr94 => assumption); (case igr94 => assumption); (case izr94 => assumption); (revert ggq9; ((first | tm_at "clo1" | refine fun ggq9 => ?_); refine fun gBq9 => ?_; refine fun gXq9 => ?_; refine fun gTq9 => ?_; refine fun gGq9 => ?_; refine fun gKq9 => ?_; refine fun gBackq9 => ?_); ((first | tm_at "clo1" | refine fun D'q9 => ?_); (first | tm_at "clo1" | refine fun vs'q9 => ?_); (first | tm_at "clo1" | refine fun h'q9 => ?_); (first | tm_at "clo1" | refine fun tk'q9 => ?_); (first | tm_at "clo1" | refine fun hv'q9 => ?_); refine fun hd'q9 => ?_; refine fun gG'q9 => ?_); (obtain ⟨F'q9, N'q9, X'q9⟩ := gBackq9 _ [(_, _)] gG'q9 (ex_hdr hd'q9)); (have E'q9 := farE_add (by assumption) X'q9 List.mem_cons_self (by (try dsimp only [List.map]); k_extra "gs_sub")); (clear gBq9 gXq9 gTq9 gGq9 gKq9 gBackq9 gG'q9 X'q9); (try simp only [hdrNews, List.cons_append, List.nil_append] at N'q9))))
  trivial
theorem row95 : True := by
  k_with "k_enter" => ((with_reducible show codeAny _ _ (Code.call (Value.ref 45) _) _ _); (refine' GS.callS (own := []) ?kBr95 ?kFr95 ?kXr95 ?kNr95 ?kTr95 ?kAr95 ?kfr95 ?kkr95 ?kor95 (fun ggq9 gBq9 gXq9 gTq9 gGq9 gKq9 gBackq9 => strip_p gBq9 gXq9 gTq9 ?ikr95 ?iar95 ?ibr95 gGq9 ?irr95 ?iur95 ?_); (case kBr95 => assumption); (case kFr95 => assumption); (case kXr95 => assumption); (case kNr95 => assumption); (case kTr95 => assumption); (case kAr95 => keq_hits); (case kfr95 => exact rfl); (case kkr95 => exact rfl); (case kor95 => k_extra "gs_sub"); (case ikr95 => omega); (case iar95 => omega); (case ibr95 => omega); (case irr95 => k_room); (case iur95 => (try simp only [units_under_make, Around.deeper_units]); omega); (revert ggq9; ((first | tm_at "clo1" | refine fun ggq9 => ?_); refine fun gBq9 => ?_; refine fun gXq9 => ?_; refine fun gTq9 => ?_; refine fun gGq9 => ?_; refine fun gKq9 => ?_; refine fun gBackq9 => ?_); ((first | tm_at "clo1" | refine fun tk1'q9 => ?_); (first | tm_at "clo1" | refine fun tk'q9 => ?_); (first | tm_at "clo1" | refine fun h'q9 => ?_); refine fun gG'q9 => ?_); (obtain ⟨F'q9, N'q9, -⟩ := gBackq9 _ [] gG'q9 (fun p hp => (nomatch hp))); (clear gBq9 gXq9 gTq9 gGq9 gKq9 gBackq9 gG'q9); (try simp only [hdrNews, List.cons_append, List.nil_append] at N'q9))))
  trivial
theorem row96 : True := by
  k_with "k_enter" => ((with_reducible show codeAny _ _ (Code.call (Value.ref 208) _) _ _); (refine' GS.callM ?kBr96 ?kFr96 ?kXr96 ?kNr96 ?kTr96 ?kAr96 ?kfr96 ?kkr96 ?krr96 ?kdr96 (fun ggq9 gBq9 gXq9 gTq9 gGq9 gKq9 gSq9 gBackq9 => setd_c gBq9 gXq9 gTq9 gGq9 ?ior96 ?ihr96 ?irr96 ?iur96 ?ikr96 ?iklr96 ?inlr96 ?ilwr96 ?igr96 ?ig1r96 ?ig2r96 ?izr96 ?inwr96 ?_); (case kBr96 => assumption); (case kFr96 => assumption); (case kXr96 => assumption); (case kNr96 => assumption); (case kTr96 => assumption); (case kAr96 => keq_hits); (case kfr96 => exact rfl); (case kkr96 => exact rfl); (case krr96 => k_extra "gs_rem"); (case kdr96 => (dsimp only [List.map]); k_extra "gs_offR"); (case ior96 => (refine ⟨?_, ?_, ?_⟩ <;> k_ne)); (case ihr96 => assumption); (case irr96 => k_room); (case iur96 => (try simp only [units_under_make, Around.deeper_units]); omega); (case ikr96 => exact tupsIn_up (by assumption) (by assumption) gKq9 (by assumption) (by (try dsimp only [List.map]); k_extra "gs_sub") (by k_extra "gs_sub")); (case iklr96 => assumption); (case inlr96 => assumption); (case ilwr96 => assumption); (case igr96 => assumption); (case ig1r96 => assumption); (case ig2r96 => assumption); (case izr96 => assumption); (case inwr96 => assumption); (revert ggq9; ((first | tm_at "clo1" | refine fun ggq9 => ?_); refine fun gBq9 => ?_; refine fun gXq9 => ?_; refine fun gTq9 => ?_; refine fun gGq9 => ?_; refine fun gKq9 => ?_; refine fun gSq9 => ?_; refine fun gBackq9 => ?_); ((first | tm_at "clo1" | refine fun tp'q9 => ?_); (first | tm_at "clo1" | refine fun tk'q9 => ?_); (first | tm_at "clo1" | refine fun h'q9 => ?_); (first | tm_at "clo1" | refine fun lt'q9 => ?_); refine fun gG'q9 => ?_); (obtain ⟨F'q9, N'q9, O'q9⟩ := gBackq9 _ _ gG'q9); (clear gBq9 gXq9 gTq9 gGq9 gKq9 gSq9 gBackq9 gG'q9); (try simp only [hdrNews, List.cons_append, List.nil_append] at N'q9))))
  trivial
theorem row97 : True := by
  k_with "exec Assign cons ListComp" => (k_here; k_dflt (refine LCg.Assign_ListComp_U (F₀ := by k_asm) (by rfl) (by with_unfolding_all rfl) (by with_unfolding_all rfl) (by decide) (by rfl) (by decide) (by rfl) (by rfl) (by rfl) ?_))
  trivial
/-- the words of the line are being pushed -/
inductive PushP (w : World) (q : LexP) (g : Heap) (LL : Addr) (ln : Int) (u : Tok) (vs : List Value) (gn : Nat) (x d l li : Addr) (t : Tok) (refs : List Value) (n nl : Nat) (vl : List Value) (I1 : Addr) (s : Shared) (k : Nat) (s' : Shared) : Prop
  | mk (i : Nat) (h : Heap) (tk pn : Nat) (m : Str → Option Value) (o oc : Obj) (_ : s' = { s with heap := h, toks := tk }) (_ : Fr g LL h m) (_ : Lit o li i) (_ : News g LL h ((I1, o) :: (LL + 1, oc) :: (lexNews w q ln u (vl.take i) pn vs gn ++ (hdrNews w x d l t refs n ++ [(li, W.listOf vl.toArray nl)])))) (_ : oc.data = .cell (some (.ref q.x2))) (_ : (∀ p ∈ [(Str.ofString "table", Value.ref x), (Str.ofString "line", Value.ref li)], m p.1 = some p.2)) (_ : i + k = 6) (_ : i ≤ 5) : PushP w q g LL ln u vs gn x d l li t refs n nl vl I1 s k s'
section
variable (w : World) (q : LexP) (g : Heap) (LL : Addr) (ln : Int) (u : Tok) (vs : List Value) (gn : Nat) (x d l : Addr) (t : Tok) (refs : List Value) (n : Nat) (ux ud ul : Addr) (tU : Tok) (oc : Obj) (jn : Nat → Str) (Vn : Nat → List Nat) (Aa Bh : Nat → Nat)
inductive RunSt (lead : List (Addr × Obj)) (as : List Addr) (qv : List Value) (ups : List Nat) (h : Heap) (m : Str → Option Value) : Prop
  | mk (pn nU : Nat) (rU : List Value) (u0 u1 u2 u3 u4 : Addr) (p0 p1 p2 p3 p4 : Obj) (_ : Fr g LL h m) (_ : News g LL h (lead ++ ((LL + 1, oc) :: (lexNews w q ln u qv pn vs gn ++ (hdrNews w x d l t refs n ++ (hdrNews w ux ud ul tU rU nU ++ [(u0, p0), (u1, p1), (u2, p2), (u3, p3), (u4, p4)])))))) (_ : TupsN (([(u0, p0), (u1, p1), (u2, p2), (u3, p3), (u4, p4)].take ups.length).reverse) rU (ups.map (kvU jn))) (_ : FarE (as ++ (ux :: ud :: ul :: lexA q)) [u0, u1, u2, u3, u4]) : RunSt lead as qv ups h m
noncomputable def WaitF (z : Int) (m : Str → Option Value) : Prop := ∃ tz, ∀ p ∈ [(Str.ofString "table", Value.ref x), (Str.ofString "up", Value.ref ux), (Str.ofString "waiting", Value.int z tz)], m p.1 = some p.2
inductive TurnP (I2 : Addr) (res : List Nat × List Nat) (s : Shared) (k : Nat) (s' : Shared) : Prop
  | mk (i : Nat) (h : Heap) (tk : Nat) (m : Str → Option Value) (qv : List Value) (ups qu : List Nat) (_ : s' = { s with heap := h, toks := tk }) (_ : RunSt w q g LL ln u vs gn x d l t refs n ux ud ul tU oc jn [(I2, rgO (i : Int) (5 - i))] [I2] qv ups h m) (_ : StrsAre qv (qu.map (dueW Vn Aa Bh ups))) (_ : WaitF x ux (qu.length : Int) m) (_ : Five ups qu) (_ : rnds Vn Aa Bh (5 - i) ups qu = res) (_ : i + k = 6) (_ : i ≤ 5) : TurnP I2 res s k s'
inductive PlaceP (I3 I2 : Addr) (o2 : Obj) (res : List Nat × List Nat) (s : Shared) (k : Nat) (s' : Shared) : Prop
  | mk (j : Int) (h : Heap) (tk : Nat) (m : Str → Option Value) (qv : List Value) (ups todo done : List Nat) (_ : s' = { s with heap := h, toks := tk }) (_ : RunSt w q g LL ln u vs gn x d l t refs n ux ud ul tU oc jn [(I3, rgO j todo.length), (I2, o2)] [I3, I2] qv ups h m) (_ : StrsAre qv ((todo ++ done).map (dueW Vn Aa Bh ups))) (_ : WaitF x ux ((todo ++ done).length : Int) m) (_ : Five ups (todo ++ done)) (_ : rnd Vn Aa Bh todo ups done = res) (_ : k = todo.length + 1) : PlaceP I3 I2 o2 res s k s'
noncomputable def WaitF2 (z : Int) (D2 : Addr) (m : Str → Option Value) : Prop := ∃ tz, ∀ p ∈ [(Str.ofString "table", Value.ref x), (Str.ofString "up", Value.ref ux), (Str.ofString "waiting", Value.int z tz), (Str.ofString "told", Value.ref D2)], m p.1 = some p.2
inductive RestP (I4 I3 I2 D2 : Addr) (o3 o2 : Obj) (L2 : List Value) (upsO upsN qu : List Nat) (s : Shared) (k : Nat) (s' : Shared) : Prop
  | mk (c : Nat) (h : Heap) (tk : Nat) (m : Str → Option Value) (qv : List Value) (_ : s' = { s with heap := h, toks := tk }) (_ : RunSt w q g LL ln u vs gn x d l t refs n ux ud ul tU oc jn [(I4, rgO (c : Int) (qu.length - c)), (D2, W.listOf L2.toArray L2.length), (I3, o3), (I2, o2)] [I4, I3, I2] qv upsN h m) (_ : StrsAre qv ((qu.drop c).map (dueW Vn Aa Bh upsO) ++ (qu.take c).map (dueW Vn Aa Bh upsN))) (_ : WaitF2 x ux (qu.length : Int) D2 m) (_ : c + k = qu.length + 1) (_ : c ≤ qu.length) : RestP I4 I3 I2 D2 o3 o2 L2 upsO upsN qu s k s'
end
theorem name_fr {g h : Heap} {L : Addr} {m : Str → Option Value} (F : Fr g L h m) : Nm L := .mk
theorem names_up {w : World} {g h : Heap} {LL : Addr} {I2 ux ud ul : Addr} {oI : Obj} {tU : Tok} {rest : List (Addr × Obj)} (N : News g LL h ((I2, oI) :: (ux, instObj 218 ud) :: (ud, dictOf [ky w "_headers" tU (Value.ref ul)] 1) :: rest)) :
    Nm ux ∧ Nm ud ∧ Nm ul ∧ Nm tU := ⟨.mk, .mk, .mk, .mk⟩
theorem turn_init {w : World} {q : LexP} {g h1 : Heap} {LL : Nat} {ln : Int} {u : Tok} {vs qv : List Value} {gn pn : Nat} {x d l li : Addr} {ol : Obj} {t : Tok} {refs : List Value} {n nU tk : Nat} {ux ud ul I2 : Nat} {tU : Tok} {oc : Obj} {jn : Nat → Str} {Vn : Nat → List Nat} {Aa Bh : Nat → Nat} {os : List Nat} {s : Shared} {m : Str → Option Value}
    (F2 : Fr g LL h1 m) (N2 : News g LL h1 ((I2, rgO 0 5) :: (ux, instObj 218 ud) :: (ud, dictOf [ky w "_headers" tU (Value.ref ul)] 1) :: (ul, W.listOf #[] nU) :: (LL + 1, oc) :: (lexNews w q ln u qv pn vs gn ++ (hdrNews w x d l t refs n ++ [(li, ol)]))))
    (hqv : StrsAre qv (os.map (dueW Vn Aa Bh []))) (hw : WaitF x ux (os.length : Int) m) (h5 : Five [] os) (i1 : LL + 1 < I2) (i2 : LL + 1 < ux) (i3 : LL + 1 < ud) (i4 : LL + 1 < ul) (hLL : LtA LL (lexA q)) :
    TurnP w q g LL ln u vs gn x d l t refs n ux ud ul tU oc jn Vn Aa Bh I2 (rnds Vn Aa Bh 5 [] os) s 6 { s with heap := h1, toks := tk } := by
  refine ⟨0, h1, tk, m, qv, [], os, rfl, ⟨pn, nU, [], LL + 1, LL + 1, LL + 1, LL + 1, LL + 1, oc, oc, oc, oc, oc, F2, News.sub' N2 (by dsimp only [lexNews, hdrNews, List.cons_append, List.nil_append]; k_extra "gs_sub"), .nil, ?_⟩, hqv, hw, h5, rfl, rfl, Nat.zero_le _⟩
  · intro a ha b hb
    have hb' : b = LL + 1 := by
      simp only [List.mem_cons, List.not_mem_nil, or_false, or_self] at hb
      exact hb
    subst hb'
    simp only [List.singleton_append, List.mem_cons] at ha
    rcases ha with rfl | rfl | rfl | rfl | ha
    · exact Nat.ne_of_gt i1
    · exact Nat.ne_of_gt i2
    · exact Nat.ne_of_gt i3
    · exact Nat.ne_of_gt i4
    · have := hLL a (by simpa only [List.mem_cons] using ha)
      have h' : @LT.lt Nat _ a LL := this
      show @Ne Nat a (LL + 1)
      omega
end Mine

namespace Mine
theorem row98 : True := by
  k_with "gs_far" => assumption
  trivial
theorem nm_tok {g h : Heap} {L a : Addr} {qv : List Value} {y : Str} {tk : Tok} {n : Nat} {r : List (Addr × Obj)} (N : News g L h ((a, W.listOf (qv ++ [Value.str y tk]).toArray n) :: r)) : Nm tk := .mk
section
variable {w : World} {A : Around} {base g : Heap} {fr : List Env} {mg mb : Str → Option Value} {p : Program} {loose : List Str} {mean : ExcName → Option Value} {s : Shared} {Qf : Flow → Shared → Prop} {E : Value → Shared → Prop}
  (B : Below A base fr g) (X : Frag.In (hd.heap_39 w.params) g) (T : Top p loose mean mg mb g)
include B X T
end
namespace Crest_c
noncomputable def Stmt (w : World) (A : Around) (base g : Heap) (fr : List Env) (mg mb : Str → Option Value) (p : Program) (loose : List Str) (mean : ExcName → Option Value) (s : Shared) (Qf : Flow → Shared → Prop) (E : Value → Shared → Prop) (q : LexP) (LL : Addr) (ln : Int) (u : Tok) (vs : List Value) (gn : Nat) (x d l : Addr) (t : Tok) (refs : List Value) (n : Nat) (ux ud ul : Addr) (tU : Tok) (oc : Obj) (jn : Nat → Str) (Vn : Nat → List Nat) (Aa Bh : Nat → Nat) (I4 I3 I2 D2 : Addr) (o3 o2 : Obj) (L2 : List Value) (ups qu : List Nat) (k0 kk : Nat) (s' : Shared) : Prop := ∀ (B : Below A base fr g) (X : Frag.In (hd.heap_39 w.params) g) (T : Top p loose mean mg mb g) (C : CodeHd base 228 224) (I : LexF q) (hLL : LtA LL (lexA q)) (hF : FarA ([x, d, l]) (lexA q)) (hh : A.handled = none) (hroom : A.depth + 40 < recursionLimit) (hu : A.units + 400 < cLine) (ec : oc.data = .cell (some (.ref q.x2))) (hL : (@LT.lt Nat _ (LL + 1) I2) ∧ (@LT.lt Nat _ (LL + 1) I3) ∧ (@LT.lt Nat _ (LL + 1) ux) ∧ (@LT.lt Nat _ (LL + 1) ud) ∧ (@LT.lt Nat _ (LL + 1) ul)) (hD : OffA D2 (lexA q)) (hI : (@LT.lt Nat _ I2 I4) ∧ (@LT.lt Nat _ I3 I4) ∧ (@LT.lt Nat _ D2 I4) ∧ (@LT.lt Nat _ ux I4) ∧ (@LT.lt Nat _ ud I4) ∧ (@LT.lt Nat _ ul I4) ∧ (@LT.lt Nat _ x I4) ∧ (@LT.lt Nat _ d I4) ∧ (@LT.lt Nat _ l I4) ∧ (@LT.lt Nat _ (LL + 1) I4)) (hQ : (@LT.lt Nat _ q.pb I4) ∧ (@LT.lt Nat _ q.x2 I4) ∧ (@LT.lt Nat _ q.d2 I4) ∧ (@LT.lt Nat _ q.f I4) ∧ (@LT.lt Nat _ q.c' I4) ∧ (@LT.lt Nat _ q.x1 I4) ∧ (@LT.lt Nat _ q.d1 I4) ∧ (@LT.lt Nat _ q.g I4) ∧ (@LT.lt Nat _ q.c I4)) (h2 : StrsAre L2 ((Vn k0).map lwN)) (hVk : ∀ y ∈ Vn k0, y < 5) (hVl : (Vn k0).length ≤ 1000) (hq : ∀ j ∈ qu, j < 5) (hq5 : qu.length ≤ 5) (hAB : ∀ k, Aa k < 3 ∧ Bh k < 3) (hst : RestP w q g LL ln u vs gn x d l t refs n ux ud ul tU oc jn Vn Aa Bh I4 I3 I2 D2 o3 o2 L2 ups (ups ++ [k0]) qu s kk s') (h : ∀ h' tk m qv, RunSt w q g LL ln u vs gn x d l t refs n ux ud ul tU oc jn [(D2, W.listOf L2.toArray L2.length), (I3, o3), (I2, o2)] [I3, I2] qv (ups ++ [k0]) h' m → StrsAre qv (qu.map (dueW Vn Aa Bh (ups ++ [k0]))) →
    WaitF2 x ux (qu.length : Int) D2 m → Qf .next { s with heap := h', toks := tk }), FiAt Challenge.rw_st0024_01.row.prog w (A.deeper (runEnv LL)) E (runEnv LL) (Str.ofString "rest") restB Qf (.ref I4) s'
noncomputable def P0 (z : World × Around × Heap × Heap × (List Env) × (Str → Option Value) × (Str → Option Value) × Program × (List Str) × (ExcName → Option Value) × Shared × (Flow → Shared → Prop) × (Value → Shared → Prop) × LexP × Addr × Int × Tok × (List Value) × Nat × Addr × Addr × Addr × Tok × (List Value) × Nat × Addr × Addr × Addr × Tok × Obj × (Nat → Str) × (Nat → List Nat) × (Nat → Nat) × (Nat → Nat) × Addr × Addr × Addr × Addr × Obj × Obj × (List Value) × (List Nat) × (List Nat) × Nat × Nat × Shared) : Prop := Stmt (z.1) (z.2.1) (z.2.2.1) (z.2.2.2.1) (z.2.2.2.2.1) (z.2.2.2.2.2.1) (z.2.2.2.2.2.2.1) (z.2.2.2.2.2.2.2.1) (z.2.2.2.2.2.2.2.2.1) (z.2.2.2.2.2.2.2.2.2.1) (z.2.2.2.2.2.2.2.2.2.2.1) (z.2.2.2.2.2.2.2.2.2.2.2.1) (z.2.2.2.2.2.2.2.2.2.2.2.2.1) (z.2.2.2.2.2.2.2.2.2.2.2.2.2.1) (z.2.2.2.2.2.2.2.2.2.2.2.2.2.2.1) (z.2.2.2.2.2.2.2.2.2.2.2.2.2.2.2.1) (z.2.2.2.2.2.2.2.2.2.2.2.2.2.2.2.2.1) (z.2.2.2.2.2.2.2.2.2.2.2.2.2.2.2.2.2.1) (z.2.2.2.2.2.2.2.2.2.2.2.2.2.2.2.2.2.2.1) (z.2.2.2.2.2.2.2.2.2.2.2.2.2.2.2.2.2.2.2.1) (z.2.2.2.2.2.2.2.2.2.2.2.2.2.2.2.2.2.2.2.2.1) (z.2.2.2.2.2.2.2.2.2.2.2.2.2.2.2.2.2.2.2.2.2.1) (z.2.2.2.2.2.2.2.2.2.2.2.2.2.2.2.2.2.2.2.2.2.2.1) (z.2.2.2.2.2.2.2.2.2.2.2.2.2.2.2.2.2.2.2.2.2.2.2.1) (z.2.2.2.2.2.2.2.2.2.2.2.2.2.2.2.2.2.2.2.2.2.2.2.2.1) (z.2.2.2.2.2.2.2.2.2.2.2.2.2.2.2.2.2.2.2.2.2.2.2.2.2.1) (z.2.2.2.2.2.2.2.2.2.2.2.2.2.2.2.2.2.2.2.2.2.2.2.2.2.2.1) (z.2.2.2.2.2.2.2.2.2.2.2.2.2.2.2.2.2.2.2.2.2.2.2.2.2.2.2.1) (z.2.2.2.2.2.2.2.2.2.2.2.2.2.2.2.2.2.2.2.2.2.2.2.2.2.2.2.2.1) (z.2.2.2.2.2.2.2.2.2.2.2.2.2.2.2.2.2.2.2.2.2.2.2.2.2.2.2.2.2.1) (z.2.2.2.2.2.2.2.2.2.2.2.2.2.2.2.2.2.2.2.2.2.2.2.2.2.2.2.2.2.2.1) (z.2.2.2.2.2.2.2.2.2.2.2.2.2.2.2.2.2.2.2.2.2.2.2.2.2.2.2.2.2.2.2.1) (z.2.2.2.2.2.2.2.2.2.2.2.2.2.2.2.2.2.2.2.2.2.2.2.2.2.2.2.2.2.2.2.2.1) (z.2.2.2.2.2.2.2.2.2.2.2.2.2.2.2.2.2.2.2.2.2.2.2.2.2.2.2.2.2.2.2.2.2.1) (z.2.2.2.2.2.2.2.2.2.2.2.2.2.2.2.2.2.2.2.2.2.2.2.2.2.2.2.2.2.2.2.2.2.2.1) (z.2.2.2.2.2.2.2.2.2.2.2.2.2.2.2.2.2.2.2.2.2.2.2.2.2.2.2.2.2.2.2.2.2.2.2.1) (z.2.2.2.2.2.2.2.2.2.2.2.2.2.2.2.2.2.2.2.2.2.2.2.2.2.2.2.2.2.2.2.2.2.2.2.2.1) (z.2.2.2.2.2.2.2.2.2.2.2.2.2.2.2.2.2.2.2.2.2.2.2.2.2.2.2.2.2.2.2.2.2.2.2.2.2.1) (z.2.2.2.2.2.2.2.2.2.2.2.2.2.2.2.2.2.2.2.2.2.2.2.2.2.2.2.2.2.2.2.2.2.2.2.2.2.2.1) (z.2.2.2.2.2.2.2.2.2.2.2.2.2.2.2.2.2.2.2.2.2.2.2.2.2.2.2.2.2.2.2.2.2.2.2.2.2.2.2.1) (z.2.2.2.2.2.2.2.2.2.2.2.2.2.2.2.2.2.2.2.2.2.2.2.2.2.2.2.2.2.2.2.2.2.2.2.2.2.2.2.2.1) (z.2.2.2.2.2.2.2.2.2.2.2.2.2.2.2.2.2.2.2.2.2.2.2.2.2.2.2.2.2.2.2.2.2.2.2.2.2.2.2.2.2.1) (z.2.2.2.2.2.2.2.2.2.2.2.2.2.2.2.2.2.2.2.2.2.2.2.2.2.2.2.2.2.2.2.2.2.2.2.2.2.2.2.2.2.2.1) (z.2.2.2.2.2.2.2.2.2.2.2.2.2.2.2.2.2.2.2.2.2.2.2.2.2.2.2.2.2.2.2.2.2.2.2.2.2.2.2.2.2.2.2.1) (z.2.2.2.2.2.2.2.2.2.2.2.2.2.2.2.2.2.2.2.2.2.2.2.2.2.2.2.2.2.2.2.2.2.2.2.2.2.2.2.2.2.2.2.2.1) (z.2.2.2.2.2.2.2.2.2.2.2.2.2.2.2.2.2.2.2.2.2.2.2.2.2.2.2.2.2.2.2.2.2.2.2.2.2.2.2.2.2.2.2.2.2)
noncomputable def Z := @Classical.epsilon _ ⟨(w00, A00, default, default, [], (fun _ => none), (fun _ => none), default, [], (fun _ => none), s00, (fun _ _ => True), (fun _ _ => True), lex00, 0, 0, 0, [], 0, 0, 0, 0, 0, [], 0, 0, 0, 0, 0, default, (fun _ => default), (fun _ => []), (fun _ => 0), (fun _ => 0), 0, 0, 0, 0, default, default, [], [], [], 0, 0, s00)⟩ fun z => ¬ P0 z
@[irreducible] noncomputable def w := Z.1
@[irreducible] noncomputable def A := Z.2.1
@[irreducible] noncomputable def base := Z.2.2.1
@[irreducible] noncomputable def g := Z.2.2.2.1
@[irreducible] noncomputable def fr := Z.2.2.2.2.1
@[irreducible] noncomputable def mg := Z.2.2.2.2.2.1
@[irreducible] noncomputable def mb := Z.2.2.2.2.2.2.1
@[irreducible] noncomputable def p := Z.2.2.2.2.2.2.2.1
@[irreducible] noncomputable def loose := Z.2.2.2.2.2.2.2.2.1
@[irreducible] noncomputable def mean := Z.2.2.2.2.2.2.2.2.2.1
@[irreducible] noncomputable def s := Z.2.2.2.2.2.2.2.2.2.2.1
@[irreducible] noncomputable def Qf := Z.2.2.2.2.2.2.2.2.2.2.2.1
@[irreducible] noncomputable def E := Z.2.2.2.2.2.2.2.2.2.2.2.2.1
@[irreducible] noncomputable def q := Z.2.2.2.2.2.2.2.2.2.2.2.2.2.1
@[irreducible] noncomputable def LL := Z.2.2.2.2.2.2.2.2.2.2.2.2.2.2.1
@[irreducible] noncomputable def ln := Z.2.2.2.2.2.2.2.2.2.2.2.2.2.2.2.1
@[irreducible] noncomputable def u := Z.2.2.2.2.2.2.2.2.2.2.2.2.2.2.2.2.1
@[irreducible] noncomputable def vs := Z.2.2.2.2.2.2.2.2.2.2.2.2.2.2.2.2.2.1
@[irreducible] noncomputable def gn := Z.2.2.2.2.2.2.2.2.2.2.2.2.2.2.2.2.2.2.1
@[irreducible] noncomputable def x := Z.2.2.2.2.2.2.2.2.2.2.2.2.2.2.2.2.2.2.2.1
@[irreducible] noncomputable def d := Z.2.2.2.2.2.2.2.2.2.2.2.2.2.2.2.2.2.2.2.2.1
@[irreducible] noncomputable def l := Z.2.2.2.2.2.2.2.2.2.2.2.2.2.2.2.2.2.2.2.2.2.1
@[irreducible] noncomputable def t := Z.2.2.2.2.2.2.2.2.2.2.2.2.2.2.2.2.2.2.2.2.2.2.1
@[irreducible] noncomputable def refs := Z.2.2.2.2.2.2.2.2.2.2.2.2.2.2.2.2.2.2.2.2.2.2.2.1
@[irreducible] noncomputable def n := Z.2.2.2.2.2.2.2.2.2.2.2.2.2.2.2.2.2.2.2.2.2.2.2.2.1
@[irreducible] noncomputable def ux := Z.2.2.2.2.2.2.2.2.2.2.2.2.2.2.2.2.2.2.2.2.2.2.2.2.2.1
@[irreducible] noncomputable def ud := Z.2.2.2.2.2.2.2.2.2.2.2.2.2.2.2.2.2.2.2.2.2.2.2.2.2.2.1
@[irreducible] noncomputable def ul := Z.2.2.2.2.2.2.2.2.2.2.2.2.2.2.2.2.2.2.2.2.2.2.2.2.2.2.2.1
@[irreducible] noncomputable def tU := Z.2.2.2.2.2.2.2.2.2.2.2.2.2.2.2.2.2.2.2.2.2.2.2.2.2.2.2.2.1
@[irreducible] noncomputable def oc := Z.2.2.2.2.2.2.2.2.2.2.2.2.2.2.2.2.2.2.2.2.2.2.2.2.2.2.2.2.2.1
@[irreducible] noncomputable def jn := Z.2.2.2.2.2.2.2.2.2.2.2.2.2.2.2.2.2.2.2.2.2.2.2.2.2.2.2.2.2.2.1
@[irreducible] noncomputable def Vn := Z.2.2.2.2.2.2.2.2.2.2.2.2.2.2.2.2.2.2.2.2.2.2.2.2.2.2.2.2.2.2.2.1
@[irreducible] noncomputable def Aa := Z.2.2.2.2.2.2.2.2.2.2.2.2.2.2.2.2.2.2.2.2.2.2.2.2.2.2.2.2.2.2.2.2.1
@[irreducible] noncomputable def Bh := Z.2.2.2.2.2.2.2.2.2.2.2.2.2.2.2.2.2.2.2.2.2.2.2.2.2.2.2.2.2.2.2.2.2.1
@[irreducible] noncomputable def I4 := Z.2.2.2.2.2.2.2.2.2.2.2.2.2.2.2.2.2.2.2.2.2.2.2.2.2.2.2.2.2.2.2.2.2.2.1
@[irreducible] noncomputable def I3 := Z.2.2.2.2.2.2.2.2.2.2.2.2.2.2.2.2.2.2.2.2.2.2.2.2.2.2.2.2.2.2.2.2.2.2.2.1
@[irreducible] noncomputable def I2 := Z.2.2.2.2.2.2.2.2.2.2.2.2.2.2.2.2.2.2.2.2.2.2.2.2.2.2.2.2.2.2.2.2.2.2.2.2.1
@[irreducible] noncomputable def D2 := Z.2.2.2.2.2.2.2.2.2.2.2.2.2.2.2.2.2.2.2.2.2.2.2.2.2.2.2.2.2.2.2.2.2.2.2.2.2.1
@[irreducible] noncomputable def o3 := Z.2.2.2.2.2.2.2.2.2.2.2.2.2.2.2.2.2.2.2.2.2.2.2.2.2.2.2.2.2.2.2.2.2.2.2.2.2.2.1
@[irreducible] noncomputable def o2 := Z.2.2.2.2.2.2.2.2.2.2.2.2.2.2.2.2.2.2.2.2.2.2.2.2.2.2.2.2.2.2.2.2.2.2.2.2.2.2.2.1
@[irreducible] noncomputable def L2 := Z.2.2.2.2.2.2.2.2.2.2.2.2.2.2.2.2.2.2.2.2.2.2.2.2.2.2.2.2.2.2.2.2.2.2.2.2.2.2.2.2.1
@[irreducible] noncomputable def ups := Z.2.2.2.2.2.2.2.2.2.2.2.2.2.2.2.2.2.2.2.2.2.2.2.2.2.2.2.2.2.2.2.2.2.2.2.2.2.2.2.2.2.1
@[irreducible] noncomputable def qu := Z.2.2.2.2.2.2.2.2.2.2.2.2.2.2.2.2.2.2.2.2.2.2.2.2.2.2.2.2.2.2.2.2.2.2.2.2.2.2.2.2.2.2.1
@[irreducible] noncomputable def k0 := Z.2.2.2.2.2.2.2.2.2.2.2.2.2.2.2.2.2.2.2.2.2.2.2.2.2.2.2.2.2.2.2.2.2.2.2.2.2.2.2.2.2.2.2.1
@[irreducible] noncomputable def kk := Z.2.2.2.2.2.2.2.2.2.2.2.2.2.2.2.2.2.2.2.2.2.2.2.2.2.2.2.2.2.2.2.2.2.2.2.2.2.2.2.2.2.2.2.2.1
@[irreducible] noncomputable def s' := Z.2.2.2.2.2.2.2.2.2.2.2.2.2.2.2.2.2.2.2.2.2.2.2.2.2.2.2.2.2.2.2.2.2.2.2.2.2.2.2.2.2.2.2.2.2
set_option maxHeartbeats 4000000 in
theorem key : Stmt w A base g fr mg mb p loose mean s Qf E q LL ln u vs gn x d l t refs n ux ud ul tU oc jn Vn Aa Bh I4 I3 I2 D2 o3 o2 L2 ups qu k0 kk s' := fun B X T C I hLL hF hh hroom hu ec hL hD hI hQ h2 hVk hVl hq hq5 hAB hst h => by
  revert X; k_fill; intro X
  refine fi_at kk (RestP w q g LL ln u vs gn x d l t refs n ux ud ul tU oc jn Vn Aa Bh I4 I3 I2 D2 o3 o2 L2 ups (ups ++ [k0]) qu s) hst ?_
  rintro k s' ⟨c, h', tk, m, qv, rfl, ⟨pn, nU, rU, u0, u1, u2, u3, u4, p0, p1, p2, p3, p4, F, N, TN, FE⟩, hqv, ⟨tz, hm⟩, hck, hc⟩
  dsimp only [lexNews, hdrNews, List.cons_append, List.nil_append] at N
  have F1 := Fr.expose _ F hm
  dsimp only [kstB] at F1
  obtain ⟨j, rfl⟩ : ∃ j, k = j + 1 := ⟨k - 1, by omega⟩
  refine ⟨j, rfl, ?_⟩
  by_cases hcq : c < qu.length
  · obtain ⟨r, hr⟩ : ∃ r, qu.length - c = r + 1 := ex_sub (by with_reducible assumption)
    rw [hr] at N
    obtain ⟨jj, hj1, hj2, hj3, hj4⟩ := drop_cons hcq
    have hjj : jj < 5 := hq jj hj4
    obtain ⟨ha0, hb0⟩ := hAB jj
    obtain ⟨a, b, ea, eb⟩ : ∃ a b, a = Aa jj - got Vn ups jj ∧ b = Bh jj - (got Vn ups jj - Aa jj) := ⟨_, _, rfl, rfl⟩
    have hd0 : dueW Vn Aa Bh ups jj = padW a jj b := by rw [ea, eb]; rfl
    obtain ⟨ha3, hb3⟩ := ab3 ha0 hb0 ea eb
    rw [hj2, List.map_cons, hd0, List.cons_append] at hqv
    obtain ⟨t0, qv', rfl, hqv2⟩ := strs_cons hqv
    clear hqv
    (revert c h' tk m pn nU rU u0 u1 u2 u3 u4 p0 p1 p2 p3 p4 tz j r jj a b t0 qv'; tm_at "nmx4"; refine fun c h' tk m => ?_; k_extra "kf"; tm_at "nmx13"; refine fun pn nU rU u0 u1 u2 u3 u4 p0 p1 p2 p3 p4 => ?_; k_extra "kf"; tm_at "nmx1"; refine fun tz => ?_; k_extra "kf"; tm_at "nmx1"; refine fun j => ?_; k_extra "kf"; tm_at "nmx1"; refine fun r => ?_; k_extra "kf"; tm_at "nmx1"; refine fun jj => ?_; k_extra "kf"; tm_at "nmx2"; refine fun a b => ?_; k_extra "kf"; tm_at "nmx2"; refine fun t0 qv' => ?_; k_extra "kw")
    refine rg_nextA F1 N ?_ ?_
    · (dsimp only [List.map]); k_extra "gs_offA"
    (tm_at "nmx3"; refine fun t' h'' tk' => ?_)
    intro F' N'
    clear F N F1
    dsimp only [OwitTurn]
    have hz5 : (qv' : List Value).length ≤ 5 := by
      have := StrsAre.length hqv2
      simp only [List.length_map, List.length_append, List.length_drop, List.length_take] at this
      omega
    have hst := strip_pad jj hjj a ha3 b hb3
    have hln := (pad_len jj hjj a ha3 b hb3).1
    have hln2 : (nm jj).length ≤ 5592405 := by have := (swN_len jj hjj).2; omega
    have hlw : Txt.lower (nm jj) = lwN jj := (nm_low jj hjj).1
    obtain ⟨cn, hcn⟩ : ∃ cn, ((Vn k0).map lwN).count (lwN jj) = cn := ⟨_, rfl⟩
    (revert cn; tm_at "nmx1"; refine fun cn => ?_; k_extra "kw")
    k_steps
    (rename News _ _ _ _ => N2)
    have ei : ((c + 1 : Nat) : Int) = ((c : Nat) : Int) + 1 := by omega
    have er : qu.length - (c + 1) = r := by omega
    have ec2 : (Vn k0).count jj = cn := by rw [← hcn, count_lw hjj hVk]
    rw [← ei, ← er] at N2
    have tkn := nm_tok N2
    refine ⟨c + 1, _, _, _, qv' ++ [.str (padW (a - cn) jj (b - (cn - a))) tkn], rfl, ⟨pn + 1 + 1, nU, rU, u0, u1, u2, u3, u4, p0, p1, p2, p3, p4, by assumption, News.sub' N2 ?_, TN, FE⟩, ?_, ⟨tz, by kst_all⟩, by omega, by omega⟩
    · dsimp only [lexNews, hdrNews, List.cons_append, List.nil_append]; k_extra "gs_sub"
    · have hd1 : dueW Vn Aa Bh (ups ++ [k0]) jj = padW (a - cn) jj (b - (cn - a)) := by rw [due_step, ← ea, ← eb, ec2]
      have hm2 : ∀ tk, StrsAre [Value.str (padW (a - cn) jj (b - (cn - a))) tk] [dueW Vn Aa Bh (ups ++ [k0]) jj] := fun tk => by rw [hd1]; exact .cons _ _ .nil
      have := StrsAre.append' hqv2 (hm2 tkn)
      rw [hj3, List.map_append, List.map_singleton, ← List.append_assoc]
      exact this
  · obtain rfl : c = qu.length := by omega
    rw [Nat.sub_self] at N
    (revert h' tk m qv pn nU rU u0 u1 u2 u3 u4 p0 p1 p2 p3 p4 tz j; tm_at "nmx4"; refine fun h' tk m qv => ?_; k_extra "kf"; tm_at "nmx13"; refine fun pn nU rU u0 u1 u2 u3 u4 p0 p1 p2 p3 p4 => ?_; k_extra "kf"; tm_at "nmx1"; refine fun tz => ?_; k_extra "kf"; tm_at "nmx1"; refine fun j => ?_; k_extra "kw")
    refine rg_doneA hh F1 N ?_ ?_
    · (dsimp only [List.map]); k_extra "gs_offA"
    intro h'' F' N'
    clear F N F1
    dsimp only [OwitTurn]
    rw [List.drop_length, List.take_length, List.map_nil, List.nil_append] at hqv
    refine h _ _ _ _ ⟨pn, nU, rU, u0, u1, u2, u3, u4, p0, p1, p2, p3, p4, F', News.sub' N' ?_, TN, farE_sub FE (fun a ha => List.mem_cons_of_mem _ ha) (fun b hb => hb)⟩ hqv ⟨tz, ?_⟩
    · dsimp only [lexNews, hdrNews, List.cons_append, List.nil_append]; k_extra "gs_sub"
    · kst_all
theorem zeq : (w, A, base, g, fr, mg, mb, p, loose, mean, s, Qf, E, q, LL, ln, u, vs, gn, x, d, l, t, refs, n, ux, ud, ul, tU, oc, jn, Vn, Aa, Bh, I4, I3, I2, D2, o3, o2, L2, ups, qu, k0, kk, s') = Z := by with_unfolding_all rfl
end Crest_c
set_option maxHeartbeats 4000000 in
theorem rest_c {w : World} {A : Around} {base g : Heap} {fr : List Env} {mg mb : Str → Option Value} {p : Program} {loose : List Str} {mean : ExcName → Option Value} {s : Shared} {Qf : Flow → Shared → Prop} {E : Value → Shared → Prop} {q : LexP} {LL : Addr} {ln : Int} {u : Tok} {vs : List Value} {gn : Nat} {x d l : Addr} {t : Tok} {refs : List Value} {n : Nat} {ux ud ul : Addr} {tU : Tok} {oc : Obj} {jn : Nat → Str} {Vn : Nat → List Nat} {Aa Bh : Nat → Nat} {I4 I3 I2 D2 : Addr} {o3 o2 : Obj} {L2 : List Value} {ups qu : List Nat} {k0 kk : Nat} {s' : Shared} : Crest_c.Stmt w A base g fr mg mb p loose mean s Qf E q LL ln u vs gn x d l t refs n ux ud ul tU oc jn Vn Aa Bh I4 I3 I2 D2 o3 o2 L2 ups qu k0 kk s' :=
  hilb Crest_c.P0 Crest_c.Z rfl (Eq.subst (motive := Crest_c.P0) Crest_c.zeq Crest_c.key) (w, A, base, g, fr, mg, mb, p, loose, mean, s, Qf, E, q, LL, ln, u, vs, gn, x, d, l, t, refs, n, ux, ud, ul, tU, oc, jn, Vn, Aa, Bh, I4, I3, I2, D2, o3, o2, L2, ups, qu, k0, kk, s')
section
end
end Mine

namespace Mine
theorem row99 : True := by
  k_with "k_enter" => ((with_reducible show codeAny _ _ (Code.call (Value.ref 182) _) _ _); (refine' GS.callS ?kBr99 ?kFr99 ?kXr99 ?kNr99 ?kTr99 ?kAr99 ?kfr99 ?kkr99 ?kor99 (fun ggq9 gBq9 gXq9 gTq9 gGq9 gKq9 gBackq9 => items_d gBq9 gXq9 gTq9 gGq9 ?izr99 ?ihr99 ?irr99 ?iur99 ?_); (case kBr99 => assumption); (case kFr99 => assumption); (case kXr99 => assumption); (case kNr99 => assumption); (case kTr99 => assumption); (case kAr99 => keq_hits); (case kfr99 => exact rfl); (case kkr99 => exact rfl); (case kor99 => k_extra "gs_sub"); (case izr99 => assumption); (case ihr99 => assumption); (case irr99 => k_room); (case iur99 => (try simp only [units_under_make, Around.deeper_units]); omega); (revert ggq9; ((first | tm_at "clo1" | refine fun ggq9 => ?_); refine fun gBq9 => ?_; refine fun gXq9 => ?_; refine fun gTq9 => ?_; refine fun gGq9 => ?_; refine fun gKq9 => ?_; refine fun gBackq9 => ?_); ((first | tm_at "clo1" | refine fun D'q9 => ?_); (first | tm_at "clo1" | refine fun n'q9 => ?_); (first | tm_at "clo1" | refine fun tk'q9 => ?_); (first | tm_at "clo1" | refine fun h'q9 => ?_); refine fun hd'q9 => ?_; refine fun gG'q9 => ?_); (obtain ⟨F'q9, N'q9, X'q9⟩ := gBackq9 _ [(_, _)] gG'q9 (ex_hdr hd'q9)); (have E'q9 := farE_add (by assumption) X'q9 List.mem_cons_self (by (try dsimp only [List.map]); k_extra "gs_sub")); (clear gBq9 gXq9 gTq9 gGq9 gKq9 gBackq9 gG'q9); (try simp only [hdrNews, List.cons_append, List.nil_append] at N'q9 X'q9))))
  trivial
end Mine
namespace Mine
theorem nm_two {g h : Heap} {L a b : Addr} {o o' : Obj} {r : List (Addr × Obj)} (N : News g L h ((a, o) :: (b, o') :: r)) : Nm a ∧ Nm b := ⟨.mk, .mk⟩
theorem nm_head {g h : Heap} {L a : Addr} {vs : List Value} {n : Nat} {r : List (Addr × Obj)} (N : News g L h ((a, W.listOf vs.toArray n) :: r)) : Nm a ∧ Nm n := ⟨.mk, .mk⟩
section
variable {w : World} {A : Around} {base g : Heap} {fr : List Env} {mg mb : Str → Option Value} {p : Program} {loose : List Str} {mean : ExcName → Option Value} {s : Shared} {Qf : Flow → Shared → Prop} {E : Value → Shared → Prop}
  (B : Below A base fr g) (X : Frag.In (hd.heap_39 w.params) g) (T : Top p loose mean mg mb g)
include B X T
end
namespace Crend_c
noncomputable def Stmt (w : World) (A : Around) (base g : Heap) (fr : List Env) (mg mb : Str → Option Value) (p : Program) (loose : List Str) (mean : ExcName → Option Value) (s : Shared) (Qf : Flow → Shared → Prop) (E : Value → Shared → Prop) (q : LexP) (LL : Addr) (ln : Int) (u : Tok) (vs : List Value) (gn : Nat) (x d l : Addr) (t : Tok) (refs : List Value) (n : Nat) (ux ud ul : Addr) (tU : Tok) (oc : Obj) (jn : Nat → Str) (Vn : Nat → List Nat) (Aa Bh : Nat → Nat) (ups qu : List Nat) (qv : List Value) (h1 : Heap) (m : Str → Option Value) (tk : Nat) : Prop := ∀ (B : Below A base fr g) (X : Frag.In (hd.heap_39 w.params) g) (T : Top p loose mean mg mb g) (C : CodeHd base 228 224) (I : LexF q) (hLL : LtA LL (lexA q)) (hF : FarA ([x, d, l]) (lexA q)) (hh : A.handled = none) (hroom : A.depth + 40 < recursionLimit) (hu : A.units + 400 < cLine) (ec : oc.data = .cell (some (.ref q.x2))) (hL : (@LT.lt Nat _ (LL + 1) ux) ∧ (@LT.lt Nat _ (LL + 1) ud) ∧ (@LT.lt Nat _ (LL + 1) ul)) (h5 : Five ups qu) (hst : RunSt w q g LL ln u vs gn x d l t refs n ux ud ul tU oc jn [] [] qv ups h1 m) (hqv : StrsAre qv (qu.map (dueW Vn Aa Bh ups))) (hw : WaitF x ux (qu.length : Int) m) (h : ∀ tp D1 D2 n1 rU pn u0 u1 u2 u3 u4 p0 p1 p2 p3 p4 vs2 h' tk' m', StrsAre vs2 (qu.map (dueW Vn Aa Bh ups)) → Fr g LL h' m' →
    News g LL h' ((tp, tupO #[.ref D1, .ref D2]) :: (D1, W.listOf rU.toArray n1) :: (D2, W.listOf vs2.toArray vs2.length) :: (lexNews w q ln u [] pn vs gn ++ (hdrNews w x d l t refs n ++ [(u0, p0), (u1, p1), (u2, p2), (u3, p3), (u4, p4)]))) →
    TupsN (([(u0, p0), (u1, p1), (u2, p2), (u3, p3), (u4, p4)].take ups.length).reverse) rU (ups.map (kvU jn)) → Qf (.ret (.ref tp)) { s with heap := h', toks := tk' }), wpAny (model Challenge.rw_st0024_01.row.prog w) (A.deeper (runEnv LL)) (execs [run4s.1] (runEnv LL)) Qf E { s with heap := h1, toks := tk }
noncomputable def P0 (z : World × Around × Heap × Heap × (List Env) × (Str → Option Value) × (Str → Option Value) × Program × (List Str) × (ExcName → Option Value) × Shared × (Flow → Shared → Prop) × (Value → Shared → Prop) × LexP × Addr × Int × Tok × (List Value) × Nat × Addr × Addr × Addr × Tok × (List Value) × Nat × Addr × Addr × Addr × Tok × Obj × (Nat → Str) × (Nat → List Nat) × (Nat → Nat) × (Nat → Nat) × (List Nat) × (List Nat) × (List Value) × Heap × (Str → Option Value) × Nat) : Prop := Stmt (z.1) (z.2.1) (z.2.2.1) (z.2.2.2.1) (z.2.2.2.2.1) (z.2.2.2.2.2.1) (z.2.2.2.2.2.2.1) (z.2.2.2.2.2.2.2.1) (z.2.2.2.2.2.2.2.2.1) (z.2.2.2.2.2.2.2.2.2.1) (z.2.2.2.2.2.2.2.2.2.2.1) (z.2.2.2.2.2.2.2.2.2.2.2.1) (z.2.2.2.2.2.2.2.2.2.2.2.2.1) (z.2.2.2.2.2.2.2.2.2.2.2.2.2.1) (z.2.2.2.2.2.2.2.2.2.2.2.2.2.2.1) (z.2.2.2.2.2.2.2.2.2.2.2.2.2.2.2.1) (z.2.2.2.2.2.2.2.2.2.2.2.2.2.2.2.2.1) (z.2.2.2.2.2.2.2.2.2.2.2.2.2.2.2.2.2.1) (z.2.2.2.2.2.2.2.2.2.2.2.2.2.2.2.2.2.2.1) (z.2.2.2.2.2.2.2.2.2.2.2.2.2.2.2.2.2.2.2.1) (z.2.2.2.2.2.2.2.2.2.2.2.2.2.2.2.2.2.2.2.2.1) (z.2.2.2.2.2.2.2.2.2.2.2.2.2.2.2.2.2.2.2.2.2.1) (z.2.2.2.2.2.2.2.2.2.2.2.2.2.2.2.2.2.2.2.2.2.2.1) (z.2.2.2.2.2.2.2.2.2.2.2.2.2.2.2.2.2.2.2.2.2.2.2.1) (z.2.2.2.2.2.2.2.2.2.2.2.2.2.2.2.2.2.2.2.2.2.2.2.2.1) (z.2.2.2.2.2.2.2.2.2.2.2.2.2.2.2.2.2.2.2.2.2.2.2.2.2.1) (z.2.2.2.2.2.2.2.2.2.2.2.2.2.2.2.2.2.2.2.2.2.2.2.2.2.2.1) (z.2.2.2.2.2.2.2.2.2.2.2.2.2.2.2.2.2.2.2.2.2.2.2.2.2.2.2.1) (z.2.2.2.2.2.2.2.2.2.2.2.2.2.2.2.2.2.2.2.2.2.2.2.2.2.2.2.2.1) (z.2.2.2.2.2.2.2.2.2.2.2.2.2.2.2.2.2.2.2.2.2.2.2.2.2.2.2.2.2.1) (z.2.2.2.2.2.2.2.2.2.2.2.2.2.2.2.2.2.2.2.2.2.2.2.2.2.2.2.2.2.2.1) (z.2.2.2.2.2.2.2.2.2.2.2.2.2.2.2.2.2.2.2.2.2.2.2.2.2.2.2.2.2.2.2.1) (z.2.2.2.2.2.2.2.2.2.2.2.2.2.2.2.2.2.2.2.2.2.2.2.2.2.2.2.2.2.2.2.2.1) (z.2.2.2.2.2.2.2.2.2.2.2.2.2.2.2.2.2.2.2.2.2.2.2.2.2.2.2.2.2.2.2.2.2.1) (z.2.2.2.2.2.2.2.2.2.2.2.2.2.2.2.2.2.2.2.2.2.2.2.2.2.2.2.2.2.2.2.2.2.2.1) (z.2.2.2.2.2.2.2.2.2.2.2.2.2.2.2.2.2.2.2.2.2.2.2.2.2.2.2.2.2.2.2.2.2.2.2.1) (z.2.2.2.2.2.2.2.2.2.2.2.2.2.2.2.2.2.2.2.2.2.2.2.2.2.2.2.2.2.2.2.2.2.2.2.2.1) (z.2.2.2.2.2.2.2.2.2.2.2.2.2.2.2.2.2.2.2.2.2.2.2.2.2.2.2.2.2.2.2.2.2.2.2.2.2.1) (z.2.2.2.2.2.2.2.2.2.2.2.2.2.2.2.2.2.2.2.2.2.2.2.2.2.2.2.2.2.2.2.2.2.2.2.2.2.2.1) (z.2.2.2.2.2.2.2.2.2.2.2.2.2.2.2.2.2.2.2.2.2.2.2.2.2.2.2.2.2.2.2.2.2.2.2.2.2.2.2)
noncomputable def Z := @Classical.epsilon _ ⟨(w00, A00, default, default, [], (fun _ => none), (fun _ => none), default, [], (fun _ => none), s00, (fun _ _ => True), (fun _ _ => True), lex00, 0, 0, 0, [], 0, 0, 0, 0, 0, [], 0, 0, 0, 0, 0, default, (fun _ => default), (fun _ => []), (fun _ => 0), (fun _ => 0), [], [], [], default, (fun _ => none), 0)⟩ fun z => ¬ P0 z
@[irreducible] noncomputable def w := Z.1
@[irreducible] noncomputable def A := Z.2.1
@[irreducible] noncomputable def base := Z.2.2.1
@[irreducible] noncomputable def g := Z.2.2.2.1
@[irreducible] noncomputable def fr := Z.2.2.2.2.1
@[irreducible] noncomputable def mg := Z.2.2.2.2.2.1
@[irreducible] noncomputable def mb := Z.2.2.2.2.2.2.1
@[irreducible] noncomputable def p := Z.2.2.2.2.2.2.2.1
@[irreducible] noncomputable def loose := Z.2.2.2.2.2.2.2.2.1
@[irreducible] noncomputable def mean := Z.2.2.2.2.2.2.2.2.2.1
@[irreducible] noncomputable def s := Z.2.2.2.2.2.2.2.2.2.2.1
@[irreducible] noncomputable def Qf := Z.2.2.2.2.2.2.2.2.2.2.2.1
@[irreducible] noncomputable def E := Z.2.2.2.2.2.2.2.2.2.2.2.2.1
@[irreducible] noncomputable def q := Z.2.2.2.2.2.2.2.2.2.2.2.2.2.1
@[irreducible] noncomputable def LL := Z.2.2.2.2.2.2.2.2.2.2.2.2.2.2.1
@[irreducible] noncomputable def ln := Z.2.2.2.2.2.2.2.2.2.2.2.2.2.2.2.1
@[irreducible] noncomputable def u := Z.2.2.2.2.2.2.2.2.2.2.2.2.2.2.2.2.1
@[irreducible] noncomputable def vs := Z.2.2.2.2.2.2.2.2.2.2.2.2.2.2.2.2.2.1
@[irreducible] noncomputable def gn := Z.2.2.2.2.2.2.2.2.2.2.2.2.2.2.2.2.2.2.1
@[irreducible] noncomputable def x := Z.2.2.2.2.2.2.2.2.2.2.2.2.2.2.2.2.2.2.2.1
@[irreducible] noncomputable def d := Z.2.2.2.2.2.2.2.2.2.2.2.2.2.2.2.2.2.2.2.2.1
@[irreducible] noncomputable def l := Z.2.2.2.2.2.2.2.2.2.2.2.2.2.2.2.2.2.2.2.2.2.1
@[irreducible] noncomputable def t := Z.2.2.2.2.2.2.2.2.2.2.2.2.2.2.2.2.2.2.2.2.2.2.1
@[irreducible] noncomputable def refs := Z.2.2.2.2.2.2.2.2.2.2.2.2.2.2.2.2.2.2.2.2.2.2.2.1
@[irreducible] noncomputable def n := Z.2.2.2.2.2.2.2.2.2.2.2.2.2.2.2.2.2.2.2.2.2.2.2.2.1
@[irreducible] noncomputable def ux := Z.2.2.2.2.2.2.2.2.2.2.2.2.2.2.2.2.2.2.2.2.2.2.2.2.2.1
@[irreducible] noncomputable def ud := Z.2.2.2.2.2.2.2.2.2.2.2.2.2.2.2.2.2.2.2.2.2.2.2.2.2.2.1
@[irreducible] noncomputable def ul := Z.2.2.2.2.2.2.2.2.2.2.2.2.2.2.2.2.2.2.2.2.2.2.2.2.2.2.2.1
@[irreducible] noncomputable def tU := Z.2.2.2.2.2.2.2.2.2.2.2.2.2.2.2.2.2.2.2.2.2.2.2.2.2.2.2.2.1
@[irreducible] noncomputable def oc := Z.2.2.2.2.2.2.2.2.2.2.2.2.2.2.2.2.2.2.2.2.2.2.2.2.2.2.2.2.2.1
@[irreducible] noncomputable def jn := Z.2.2.2.2.2.2.2.2.2.2.2.2.2.2.2.2.2.2.2.2.2.2.2.2.2.2.2.2.2.2.1
@[irreducible] noncomputable def Vn := Z.2.2.2.2.2.2.2.2.2.2.2.2.2.2.2.2.2.2.2.2.2.2.2.2.2.2.2.2.2.2.2.1
@[irreducible] noncomputable def Aa := Z.2.2.2.2.2.2.2.2.2.2.2.2.2.2.2.2.2.2.2.2.2.2.2.2.2.2.2.2.2.2.2.2.1
@[irreducible] noncomputable def Bh := Z.2.2.2.2.2.2.2.2.2.2.2.2.2.2.2.2.2.2.2.2.2.2.2.2.2.2.2.2.2.2.2.2.2.1
@[irreducible] noncomputable def ups := Z.2.2.2.2.2.2.2.2.2.2.2.2.2.2.2.2.2.2.2.2.2.2.2.2.2.2.2.2.2.2.2.2.2.2.1
@[irreducible] noncomputable def qu := Z.2.2.2.2.2.2.2.2.2.2.2.2.2.2.2.2.2.2.2.2.2.2.2.2.2.2.2.2.2.2.2.2.2.2.2.1
@[irreducible] noncomputable def qv := Z.2.2.2.2.2.2.2.2.2.2.2.2.2.2.2.2.2.2.2.2.2.2.2.2.2.2.2.2.2.2.2.2.2.2.2.2.1
@[irreducible] noncomputable def h1 := Z.2.2.2.2.2.2.2.2.2.2.2.2.2.2.2.2.2.2.2.2.2.2.2.2.2.2.2.2.2.2.2.2.2.2.2.2.2.1
@[irreducible] noncomputable def m := Z.2.2.2.2.2.2.2.2.2.2.2.2.2.2.2.2.2.2.2.2.2.2.2.2.2.2.2.2.2.2.2.2.2.2.2.2.2.2.1
@[irreducible] noncomputable def tk := Z.2.2.2.2.2.2.2.2.2.2.2.2.2.2.2.2.2.2.2.2.2.2.2.2.2.2.2.2.2.2.2.2.2.2.2.2.2.2.2
set_option maxHeartbeats 4000000 in
theorem key : Stmt w A base g fr mg mb p loose mean s Qf E q LL ln u vs gn x d l t refs n ux ud ul tU oc jn Vn Aa Bh ups qu qv h1 m tk := fun B X T C I hLL hF hh hroom hu ec hL h5 hst hqv hw h => by
  revert X; k_fill; intro X
  obtain ⟨pn, nU, rU, u0, u1, u2, u3, u4, p0, p1, p2, p3, p4, F, N, TN, FE⟩ := hst
  obtain ⟨tz, hm⟩ := hw
  (revert pn nU rU u0 u1 u2 u3 u4 p0 p1 p2 p3 p4 tz; tm_at "nmx13"; refine fun pn nU rU u0 u1 u2 u3 u4 p0 p1 p2 p3 p4 => ?_; k_extra "kf"; tm_at "nmx1"; refine fun tz => ?_; k_extra "kw")
  dsimp only [lexNews, hdrNews, List.cons_append, List.nil_append] at N
  have F1 := Fr.expose _ F hm
  dsimp only [kstB] at F1
  have hzU := kvU_refs h5 TN
  clear F
  dsimp only
  have hc5 := h5.card
  k_steps
  (rename Fr _ _ _ _ => F2)
  (rename News _ _ _ _ => N2)
  obtain ⟨D1, n1⟩ := nm_head N2
  have N3 := News.sub' (l := lexNews w q ln u qv pn vs gn ++ ((D1, W.listOf (rU : List Value).toArray n1) :: (LL + 1, oc) :: (hdrNews w x d l t refs n ++ [(u0, p0), (u1, p1), (u2, p2), (u3, p3), (u4, p4)]))) N2 (by dsimp only [lexNews, hdrNews, List.cons_append, List.nil_append]; k_extra "gs_sub")
  refine LCg.CompSrc.range hh F2 N3 (by assumption) (rg_small (by omega)) (n := qu.length) (rg_size _) (by rw [sizeLine_eq]; omega) ?_
  (tm_at "nmx1"; refine fun g' => ?_)
  refine cr_led (fun i ys nw => ∃ qv2 pn2, nw = lexNews w q ln u qv2 pn2 vs gn ++ ((D1, W.listOf (rU : List Value).toArray n1) :: (LL + 1, oc) :: (hdrNews w x d l t refs n ++ [(u0, p0), (u1, p1), (u2, p2), (u3, p3), (u4, p4)])) ∧ StrsAre ys ((qu.take i).map (dueW Vn Aa Bh ups)) ∧ StrsAre qv2 ((qu.drop i).map (dueW Vn Aa Bh ups))) ⟨qv, pn, rfl, .nil, hqv⟩ ?_ ?_
  · clear N2 N3 F2
    rintro i v ys nw I' oI' C' oC' D' m' h' tk' E' hi ⟨tv, rfl⟩ ⟨qv2, pn2, rfl, hy, hq2⟩ hC' hx' F' N' off' ne'
    dsimp only [lexNews, hdrNews, List.cons_append, List.nil_append] at N' off'
    obtain ⟨jj, hj1, hj2, hj3, hj4⟩ := drop_cons hi
    rw [hj2, List.map_cons] at hq2
    obtain ⟨t0, qv3, rfl, hq3⟩ := strs_cons hq2
    have hz5 : qv3.length ≤ 5 := by
      have := StrsAre.length hq3
      simp only [List.length_map, List.length_drop] at this
      omega
    (revert i ys I' oI' C' oC' D' m' h' tk' E' tv pn2 jj t0 qv3; tm_at "nmx11"; refine fun i ys I' oI' C' oC' D' m' h' tk' E' => ?_; k_extra "kf"; tm_at "nmx2"; refine fun tv pn2 => ?_; k_extra "kf"; tm_at "nmx1"; refine fun jj => ?_; k_extra "kf"; tm_at "nmx2"; refine fun t0 qv3 => ?_; k_extra "kw")
    have hm2 : StrsAre [Value.str (dueW Vn Aa Bh ups jj) t0] [dueW Vn Aa Bh ups jj] := .cons _ _ .nil
    k_steps
    · rw [hj3, List.map_append, List.map_singleton]
      exact StrsAre.append' hy hm2
    · exact hq3
  · rintro ys nw ⟨qv2, pn2, rfl, hy, hq2⟩
    rw [List.take_length] at hy
    rw [List.drop_length] at hq2
    cases hq2
    (revert ys pn2; tm_at "nmx2"; refine fun ys pn2 => ?_; k_extra "kw")
    k_steps
    (rename Fr _ _ _ _ => F5)
    (rename News _ _ _ _ => N5)
    obtain ⟨tp, D2⟩ := nm_two N5
    refine h tp D1 D2 n1 _ pn2 _ _ _ _ _ _ _ _ _ _ _ _ _ _ hy F5 (News.sub' N5 ?_) TN
    dsimp only [lexNews, hdrNews, List.cons_append, List.nil_append]; k_extra "gs_sub"
theorem zeq : (w, A, base, g, fr, mg, mb, p, loose, mean, s, Qf, E, q, LL, ln, u, vs, gn, x, d, l, t, refs, n, ux, ud, ul, tU, oc, jn, Vn, Aa, Bh, ups, qu, qv, h1, m, tk) = Z := by with_unfolding_all rfl
end Crend_c
set_option maxHeartbeats 4000000 in
theorem rend_c {w : World} {A : Around} {base g : Heap} {fr : List Env} {mg mb : Str → Option Value} {p : Program} {loose : List Str} {mean : ExcName → Option Value} {s : Shared} {Qf : Flow → Shared → Prop} {E : Value → Shared → Prop} {q : LexP} {LL : Addr} {ln : Int} {u : Tok} {vs : List Value} {gn : Nat} {x d l : Addr} {t : Tok} {refs : List Value} {n : Nat} {ux ud ul : Addr} {tU : Tok} {oc : Obj} {jn : Nat → Str} {Vn : Nat → List Nat} {Aa Bh : Nat → Nat} {ups qu : List Nat} {qv : List Value} {h1 : Heap} {m : Str → Option Value} {tk : Nat} : Crend_c.Stmt w A base g fr mg mb p loose mean s Qf E q LL ln u vs gn x d l t refs n ux ud ul tU oc jn Vn Aa Bh ups qu qv h1 m tk :=
  hilb Crend_c.P0 Crend_c.Z rfl (Eq.subst (motive := Crend_c.P0) Crend_c.zeq Crend_c.key) (w, A, base, g, fr, mg, mb, p, loose, mean, s, Qf, E, q, LL, ln, u, vs, gn, x, d, l, t, refs, n, ux, ud, ul, tU, oc, jn, Vn, Aa, Bh, ups, qu, qv, h1, m, tk)
section
end
end Mine

namespace Mine
theorem o_ne {rest own : List (Addr × Obj)} {a b : Addr} (O : ∀ p ∈ rest, ∀ q ∈ own, p.1 ≠ q.1) (ha : a ∈ rest.map (·.1)) (hb : b ∈ own.map (·.1)) : @Ne Nat a b := by
  obtain ⟨p, hp, rfl⟩ := List.mem_map.mp ha
  obtain ⟨q, hq, rfl⟩ := List.mem_map.mp hb
  exact O p hp q hq
theorem farA_sub {as as' bs : List Addr} (h : FarA as bs) (hs : Sub as' as) : FarA as' bs := fun a ha => h a (hs a ha)
theorem nm_tup4 {g h : Heap} {L a b c : Addr} {o o' : Obj} {k v : Str} {tk tv : Tok} {r : List (Addr × Obj)} (N : News g L h ((a, o) :: (b, o') :: (c, tupO #[.str k tk, .str v tv]) :: r)) : Nm b ∧ Nm c ∧ Nm tk ∧ Nm tv := ⟨.mk, .mk, .mk, .mk⟩
section
variable {w : World} {A : Around} {base g : Heap} {fr : List Env} {mg mb : Str → Option Value} {p : Program} {loose : List Str} {mean : ExcName → Option Value} {s : Shared} {R : Result → Shared → Prop}
  (B : Below A base fr g) (X : Frag.In (hd.heap_39 w.params) g) (T : Top p loose mean mg mb g)
include B X T
end
namespace Crun_c
noncomputable def Stmt (w : World) (A : Around) (base g : Heap) (fr : List Env) (mg mb : Str → Option Value) (p : Program) (loose : List Str) (mean : ExcName → Option Value) (s : Shared) (R : Result → Shared → Prop) (q : LexP) (ln : Int) (u : Tok) (vs : List Value) (gn pn : Nat) (x d l li : Addr) (t : Tok) (refs : List Value) (kvs : List (Str × Str)) (n nl : Nat) (vl : List Value) (os : List Nat) (Vn : Nat → List Nat) (Aa Bh : Nat → Nat) : Prop := ∀ (B : Below A base fr g) (X : Frag.In (hd.heap_39 w.params) g) (T : Top p loose mean mg mb g) (G : GS g s.heap (lexNews w q ln u [] pn vs gn ++ (hdrNews w x d l t refs n ++ [(li, W.listOf vl.toArray nl)]))) (C : CodeHd base 228 224) (I : LexF q) (hF : FarA ([x, d, l, li]) (lexA q)) (hh : A.handled = none) (hroom : A.depth + 40 < recursionLimit) (hu : A.units + 400 < cLine) (hk : TupsIn g refs kvs) (hkl : ∀ p ∈ kvs, p.1.length ≤ 1000) (hz : refs.length ≤ 1000) (hvl : StrsAre vl (os.map (dueW Vn Aa Bh []))) (hl5 : os.length = 5) (hos : Five [] os) (hAB : ∀ k, Aa k < 3 ∧ Bh k < 3) (hT : ∀ k < 5, Told kvs Vn k) (hVn : ∀ k < 5, ∀ y ∈ Vn k, y < 5) (hVl : ∀ k, (Vn k).length ≤ 1000) (h : ∀ tp D1 D2 n1 rU pn u0 u1 u2 u3 u4 p0 p1 p2 p3 p4 vs2 h' tk' ups qu, rnds Vn Aa Bh 5 [] os = (ups, qu) → Five ups qu → StrsAre vs2 (qu.map (dueW Vn Aa Bh ups)) →
    GS g h' ((tp, tupO #[.ref D1, .ref D2]) :: (D1, W.listOf rU.toArray n1) :: (D2, W.listOf vs2.toArray vs2.length) :: (lexNews w q ln u [] pn vs gn ++ (hdrNews w x d l t refs n ++ [(u0, p0), (u1, p1), (u2, p2), (u3, p3), (u4, p4)]))) →
    TupsN (([(u0, p0), (u1, p1), (u2, p2), (u3, p3), (u4, p4)].take ups.length).reverse) rU (ups.map (kvU fun k => Txt.join (Str.ofString "") (allV (lwN k) kvs))) → R (.ok (.ret (.ref tp))) { s with heap := h', toks := tk' }), codeAny (model Challenge.rw_st0024_01.row.prog w) A (.call (.ref 239) ⟨[.ref q.x2, .ref x, .ref li], []⟩) R s
noncomputable def P0 (z : World × Around × Heap × Heap × (List Env) × (Str → Option Value) × (Str → Option Value) × Program × (List Str) × (ExcName → Option Value) × Shared × (Result → Shared → Prop) × LexP × Int × Tok × (List Value) × Nat × Nat × Addr × Addr × Addr × Addr × Tok × (List Value) × (List (Str × Str)) × Nat × Nat × (List Value) × (List Nat) × (Nat → List Nat) × (Nat → Nat) × (Nat → Nat)) : Prop := Stmt (z.1) (z.2.1) (z.2.2.1) (z.2.2.2.1) (z.2.2.2.2.1) (z.2.2.2.2.2.1) (z.2.2.2.2.2.2.1) (z.2.2.2.2.2.2.2.1) (z.2.2.2.2.2.2.2.2.1) (z.2.2.2.2.2.2.2.2.2.1) (z.2.2.2.2.2.2.2.2.2.2.1) (z.2.2.2.2.2.2.2.2.2.2.2.1) (z.2.2.2.2.2.2.2.2.2.2.2.2.1) (z.2.2.2.2.2.2.2.2.2.2.2.2.2.1) (z.2.2.2.2.2.2.2.2.2.2.2.2.2.2.1) (z.2.2.2.2.2.2.2.2.2.2.2.2.2.2.2.1) (z.2.2.2.2.2.2.2.2.2.2.2.2.2.2.2.2.1) (z.2.2.2.2.2.2.2.2.2.2.2.2.2.2.2.2.2.1) (z.2.2.2.2.2.2.2.2.2.2.2.2.2.2.2.2.2.2.1) (z.2.2.2.2.2.2.2.2.2.2.2.2.2.2.2.2.2.2.2.1) (z.2.2.2.2.2.2.2.2.2.2.2.2.2.2.2.2.2.2.2.2.1) (z.2.2.2.2.2.2.2.2.2.2.2.2.2.2.2.2.2.2.2.2.2.1) (z.2.2.2.2.2.2.2.2.2.2.2.2.2.2.2.2.2.2.2.2.2.2.1) (z.2.2.2.2.2.2.2.2.2.2.2.2.2.2.2.2.2.2.2.2.2.2.2.1) (z.2.2.2.2.2.2.2.2.2.2.2.2.2.2.2.2.2.2.2.2.2.2.2.2.1) (z.2.2.2.2.2.2.2.2.2.2.2.2.2.2.2.2.2.2.2.2.2.2.2.2.2.1) (z.2.2.2.2.2.2.2.2.2.2.2.2.2.2.2.2.2.2.2.2.2.2.2.2.2.2.1) (z.2.2.2.2.2.2.2.2.2.2.2.2.2.2.2.2.2.2.2.2.2.2.2.2.2.2.2.1) (z.2.2.2.2.2.2.2.2.2.2.2.2.2.2.2.2.2.2.2.2.2.2.2.2.2.2.2.2.1) (z.2.2.2.2.2.2.2.2.2.2.2.2.2.2.2.2.2.2.2.2.2.2.2.2.2.2.2.2.2.1) (z.2.2.2.2.2.2.2.2.2.2.2.2.2.2.2.2.2.2.2.2.2.2.2.2.2.2.2.2.2.2.1) (z.2.2.2.2.2.2.2.2.2.2.2.2.2.2.2.2.2.2.2.2.2.2.2.2.2.2.2.2.2.2.2)
noncomputable def Z := @Classical.epsilon _ ⟨(w00, A00, default, default, [], (fun _ => none), (fun _ => none), default, [], (fun _ => none), s00, (fun _ _ => True), lex00, 0, 0, [], 0, 0, 0, 0, 0, 0, 0, [], [], 0, 0, [], [], (fun _ => []), (fun _ => 0), (fun _ => 0))⟩ fun z => ¬ P0 z
@[irreducible] noncomputable def w := Z.1
@[irreducible] noncomputable def A := Z.2.1
@[irreducible] noncomputable def base := Z.2.2.1
@[irreducible] noncomputable def g := Z.2.2.2.1
@[irreducible] noncomputable def fr := Z.2.2.2.2.1
@[irreducible] noncomputable def mg := Z.2.2.2.2.2.1
@[irreducible] noncomputable def mb := Z.2.2.2.2.2.2.1
@[irreducible] noncomputable def p := Z.2.2.2.2.2.2.2.1
@[irreducible] noncomputable def loose := Z.2.2.2.2.2.2.2.2.1
@[irreducible] noncomputable def mean := Z.2.2.2.2.2.2.2.2.2.1
@[irreducible] noncomputable def s := Z.2.2.2.2.2.2.2.2.2.2.1
@[irreducible] noncomputable def R := Z.2.2.2.2.2.2.2.2.2.2.2.1
@[irreducible] noncomputable def q := Z.2.2.2.2.2.2.2.2.2.2.2.2.1
@[irreducible] noncomputable def ln := Z.2.2.2.2.2.2.2.2.2.2.2.2.2.1
@[irreducible] noncomputable def u := Z.2.2.2.2.2.2.2.2.2.2.2.2.2.2.1
@[irreducible] noncomputable def vs := Z.2.2.2.2.2.2.2.2.2.2.2.2.2.2.2.1
@[irreducible] noncomputable def gn := Z.2.2.2.2.2.2.2.2.2.2.2.2.2.2.2.2.1
@[irreducible] noncomputable def pn := Z.2.2.2.2.2.2.2.2.2.2.2.2.2.2.2.2.2.1
@[irreducible] noncomputable def x := Z.2.2.2.2.2.2.2.2.2.2.2.2.2.2.2.2.2.2.1
@[irreducible] noncomputable def d := Z.2.2.2.2.2.2.2.2.2.2.2.2.2.2.2.2.2.2.2.1
@[irreducible] noncomputable def l := Z.2.2.2.2.2.2.2.2.2.2.2.2.2.2.2.2.2.2.2.2.1
@[irreducible] noncomputable def li := Z.2.2.2.2.2.2.2.2.2.2.2.2.2.2.2.2.2.2.2.2.2.1
@[irreducible] noncomputable def t := Z.2.2.2.2.2.2.2.2.2.2.2.2.2.2.2.2.2.2.2.2.2.2.1
@[irreducible] noncomputable def refs := Z.2.2.2.2.2.2.2.2.2.2.2.2.2.2.2.2.2.2.2.2.2.2.2.1
@[irreducible] noncomputable def kvs := Z.2.2.2.2.2.2.2.2.2.2.2.2.2.2.2.2.2.2.2.2.2.2.2.2.1
@[irreducible] noncomputable def n := Z.2.2.2.2.2.2.2.2.2.2.2.2.2.2.2.2.2.2.2.2.2.2.2.2.2.1
@[irreducible] noncomputable def nl := Z.2.2.2.2.2.2.2.2.2.2.2.2.2.2.2.2.2.2.2.2.2.2.2.2.2.2.1
@[irreducible] noncomputable def vl := Z.2.2.2.2.2.2.2.2.2.2.2.2.2.2.2.2.2.2.2.2.2.2.2.2.2.2.2.1
@[irreducible] noncomputable def os := Z.2.2.2.2.2.2.2.2.2.2.2.2.2.2.2.2.2.2.2.2.2.2.2.2.2.2.2.2.1
@[irreducible] noncomputable def Vn := Z.2.2.2.2.2.2.2.2.2.2.2.2.2.2.2.2.2.2.2.2.2.2.2.2.2.2.2.2.2.1
@[irreducible] noncomputable def Aa := Z.2.2.2.2.2.2.2.2.2.2.2.2.2.2.2.2.2.2.2.2.2.2.2.2.2.2.2.2.2.2.1
@[irreducible] noncomputable def Bh := Z.2.2.2.2.2.2.2.2.2.2.2.2.2.2.2.2.2.2.2.2.2.2.2.2.2.2.2.2.2.2.2
set_option maxHeartbeats 4000000 in
theorem key : Stmt w A base g fr mg mb p loose mean s R q ln u vs gn pn x d l li t refs kvs n nl vl os Vn Aa Bh := fun B X T G C I hF hh hroom hu hk hkl hz hvl hl5 hos hAB hT hVn hVl h => by
  revert X; k_fill; intro X
  dsimp only [lexNews, hdrNews, List.cons_append, List.nil_append] at G
  have hv5 : vl.length = 5 := by rw [StrsAre.length hvl, List.length_map, hl5]
  keq_rows
  (rename Fr _ _ _ _ => F0)
  have LL := name_fr F0
  have hLL := ltA_of_fr F0 (as := lexA q) (by intro a ha; simp only [lexA, List.mem_cons, List.not_mem_nil, or_false] at ha; rcases ha with rfl | rfl | rfl | rfl | rfl | rfl | rfl | rfl | rfl <;> omega)
  k_steps
  (rename Fr _ _ _ _ => F1)
  (rename News _ _ _ _ => N1)
  refine li_iter F1 N1 (by k_mem) ?_
  (tm_at "nmx3"; refine fun I1 o1 h1 => ?_)
  intro ho1 F2 N2 lI
  k_lt lI
  refine fi_at 6 (PushP w q g LL ln u vs gn x d l li t refs n nl vl I1 s) ⟨0, h1, _, _, _, _, _, rfl, F2, ho1, N2, by assumption, by kst_all, by omega, by omega⟩ ?_
  clear F1 N1 F2 N2 ho1
  rintro k s' ⟨i, h', tk, pn, m, o, oc, rfl, F, ho, N, ec, hm, hk', hi⟩
  dsimp only [lexNews, hdrNews, List.cons_append, List.nil_append] at N
  have F1 := Fr.expose _ F hm
  dsimp only [kstB] at F1
  obtain ⟨j, rfl⟩ : ∃ j, k = j + 1 := ⟨k - 1, by omega⟩
  refine ⟨j, rfl, ?_⟩
  by_cases hp5 : i < 5
  · obtain ⟨wi, ti, hx, hy⟩ := strs_at hvl (i := i) (by omega)
    (revert i h' tk pn m o oc j wi ti; tm_at "nmx7"; refine fun i h' tk pn m o oc => ?_; k_extra "kf"; tm_at "nmx1"; refine fun j => ?_; k_extra "kf"; tm_at "nmx2"; refine fun wi ti => ?_; k_extra "kw")
    refine li_next F1 N (by (dsimp only [List.map]); k_extra "gs_offA") ho (by k_mem) hx ?_
    (tm_at "nmx2"; refine fun o' h'' => ?_)
    intro ho' F' N'
    have hij : i + 1 + j = 6 := by omega
    have htl : (vl.take i).length ≤ 5 := by rw [List.length_take]; omega
    clear F N F1
    dsimp only [OwitTurn]
    k_steps
    (rename News _ _ _ _ => N2)
    rw [take_push hx] at N2
    exact ⟨i + 1, _, _, _, _, _, _, rfl, by assumption, ho', News.sub' N2 (by dsimp only [lexNews, hdrNews, List.cons_append, List.nil_append]; k_extra "gs_sub"), by assumption, by kst_all, hij, hp5⟩
  · obtain rfl : i = 5 := by omega
    (revert h' tk pn m o oc j; tm_at "nmx6"; refine fun h' tk pn m o oc => ?_; k_extra "kf"; tm_at "nmx1"; refine fun j => ?_; k_extra "kw")
    refine li_done hh F1 N (by (dsimp only [List.map]); k_extra "gs_offA") ho (by k_mem) (by rw [List.getElem?_eq_none_iff]; omega) ?_
    (tm_at "nmx1"; refine fun h'' => ?_)
    intro F' N'
    rw [show vl.take 5 = vl from by rw [← hv5, List.take_length]] at N'
    clear F N F1
    dsimp only [OwitTurn]
    have hl5' : (vl.length : Int) = 5 := by omega
    k_steps
    (rename Fr _ _ _ _ => F1)
    (rename News _ _ _ _ => N1)
    refine rg_iter F1 N1 (by assumption) (by decide) (by rfl) ?_
    (tm_at "nmx2"; refine fun I2 h1 => ?_)
    intro F2 N2 lI2
    k_lt lI2
    obtain ⟨ux, ud, ul, tU⟩ := names_up N2
    refine fi_at 6 (TurnP w q g LL ln u vs gn x d l t refs n ux ud ul tU oc (fun k => Txt.join (Str.ofString "") (allV (lwN k) kvs)) Vn Aa Bh I2 (rnds Vn Aa Bh 5 [] os) s) (turn_init F2 N2 hvl ⟨_, by rw [hl5]; kst_all⟩ hos (by omega) (by omega) (by omega) (by omega) hLL) ?_
    · clear F1 N1 F2 N2
      rintro k s' ⟨i, h', tk, m, qv, ups, qu, rfl, ⟨pn, nU, rU, u0, u1, u2, u3, u4, p0, p1, p2, p3, p4, F, N, TN, FE⟩, hqv, ⟨tz, hm⟩, h5, hres, hik, hi⟩
      dsimp only [lexNews, hdrNews, List.cons_append, List.nil_append] at N
      have F1 := Fr.expose _ F hm
      dsimp only [kstB] at F1
      obtain ⟨j, rfl⟩ : ∃ j, k = j + 1 := ⟨k - 1, by omega⟩
      refine ⟨j, rfl, ?_⟩
      by_cases hi5 : i < 5
      · obtain ⟨r, hr⟩ : ∃ r, 5 - i = r + 1 := ex_sub (by with_reducible assumption)
        rw [hr] at N hres
        (revert i h' tk m qv ups qu pn nU rU u0 u1 u2 u3 u4 p0 p1 p2 p3 p4 tz j r; tm_at "nmx7"; refine fun i h' tk m qv ups qu => ?_; k_extra "kf"; tm_at "nmx13"; refine fun pn nU rU u0 u1 u2 u3 u4 p0 p1 p2 p3 p4 => ?_; k_extra "kf"; tm_at "nmx1"; refine fun tz => ?_; k_extra "kf"; tm_at "nmx1"; refine fun j => ?_; k_extra "kf"; tm_at "nmx1"; refine fun r => ?_; k_extra "kw")
        refine rg_nextA F1 N ?_ ?_
        · (dsimp only [List.map]); k_extra "gs_offA"
        (tm_at "nmx3"; refine fun t' h'' tk' => ?_)
        intro F' N'
        clear F N F1
        dsimp only [OwitTurn]
        have hq5 : (qu : List Nat).length ≤ 5 := by have := h5.card; omega
        k_steps
        (rename Fr _ _ _ _ => F2)
        (rename News _ _ _ _ => N2)
        refine rg_iter F2 N2 (by assumption) (rg_small (by omega)) (rg_size _) ?_
        (tm_at "nmx2"; refine fun I3 h3 => ?_)
        intro F3 N3 lI3
        k_lt lI3
        refine fi_at ((qu : List Nat).length + 1) (PlaceP w q g LL ln u vs gn x d l t refs n ux ud ul tU oc (fun k => Txt.join (Str.ofString "") (allV (lwN k) kvs)) Vn Aa Bh I3 I2 (rgO (((i : Nat) : Int) + 1) r) (rnd Vn Aa Bh qu ups []) s)
          ?_ ?_
        · refine ⟨0, h3, _, _, qv, ups, qu, [], rfl, ⟨pn, nU, rU, u0, u1, u2, u3, u4, p0, p1, p2, p3, p4, F3, N3, TN, farE_lead FE ?_⟩, ?_, ⟨tz, ?_⟩, ?_, rfl, rfl⟩
          · simp only [List.forall_mem_cons, List.not_mem_nil, false_implies, implies_true, and_true]; omega
          · rw [List.append_nil]; exact hqv
          · rw [List.append_nil]; kst_all
          · rw [List.append_nil]; exact h5
        clear F2 N2 F3 N3 TN FE hm hqv
        rintro k s' ⟨jj, h', tk, m, qv, ups', todo, done, rfl, ⟨pn, nU, rU, u0, u1, u2, u3, u4, p0, p1, p2, p3, p4, F, N, TN, FE⟩, hqv, ⟨tz, hm⟩, h5', hrnd, rfl⟩
        dsimp only [lexNews, hdrNews, List.cons_append, List.nil_append] at N
        have F1 := Fr.expose _ F hm
        dsimp only [kstB] at F1
        refine ⟨todo.length, rfl, ?_⟩
        cases todo with
        | nil =>
          (revert jj h' tk m qv ups' done pn nU rU u0 u1 u2 u3 u4 p0 p1 p2 p3 p4 tz; tm_at "nmx7"; refine fun jj h' tk m qv ups' done => ?_; k_extra "kf"; tm_at "nmx13"; refine fun pn nU rU u0 u1 u2 u3 u4 p0 p1 p2 p3 p4 => ?_; k_extra "kf"; tm_at "nmx1"; refine fun tz => ?_; k_extra "kw")
          refine rg_doneA hh F1 N ?_ ?_
          · (dsimp only [List.map]); k_extra "gs_offA"
          (tm_at "nmx1"; refine fun h'' => ?_)
          intro F' N'
          clear F N F1
          dsimp only [OwitTurn]
          k_steps
          (rename News _ _ _ _ => N2)
          have ei : ((i + 1 : Nat) : Int) = ((i : Nat) : Int) + 1 := by omega
          have er : 5 - (i + 1) = r := by omega
          rw [← ei, ← er] at N2
          refine ⟨i + 1, _, _, _, qv, ups', done, rfl, ⟨pn, nU, rU, u0, u1, u2, u3, u4, p0, p1, p2, p3, p4, by assumption, News.sub' N2 ?_, TN, farE_sub FE (fun a ha => List.mem_cons_of_mem _ ha) (fun b hb => hb)⟩, hqv, ⟨tz, ?_⟩, h5', ?_, by omega, by omega⟩
          · dsimp only [lexNews, hdrNews, List.cons_append, List.nil_append]; k_extra "gs_sub"
          · kst_all
          · rw [er, ← hres]
            show _ = rnds Vn Aa Bh r (rnd Vn Aa Bh qu ups []).1 (rnd Vn Aa Bh qu ups []).2
            rw [← hrnd]
            rfl
        | cons k0 todo =>
          have hk0 : k0 < 5 := h5'.lt List.mem_cons_self
          have hc5 := h5'.card
          obtain ⟨ha0, hb0⟩ := hAB k0
          obtain ⟨a, b, ea, eb⟩ : ∃ a b, a = Aa k0 - got Vn ups' k0 ∧ b = Bh k0 - (got Vn ups' k0 - Aa k0) := ⟨_, _, rfl, rfl⟩
          have hd0 : dueW Vn Aa Bh ups' k0 = padW a k0 b := by rw [ea, eb]; rfl
          simp only [List.cons_append, List.map_cons, hd0] at hqv
          obtain ⟨t0, qv', rfl, hqv2⟩ := strs_cons hqv
          clear hqv
          (revert jj h' tk m ups' done pn nU rU u0 u1 u2 u3 u4 p0 p1 p2 p3 p4 tz k0 todo a b t0 qv'; tm_at "nmx6"; refine fun jj h' tk m ups' done => ?_; k_extra "kf"; tm_at "nmx13"; refine fun pn nU rU u0 u1 u2 u3 u4 p0 p1 p2 p3 p4 => ?_; k_extra "kf"; tm_at "nmx1"; refine fun tz => ?_; k_extra "kf"; tm_at "nmx2"; refine fun k0 todo => ?_; k_extra "kf"; tm_at "nmx2"; refine fun a b => ?_; k_extra "kf"; tm_at "nmx2"; refine fun t0 qv' => ?_; k_extra "kw")
          refine rg_nextA F1 N ?_ ?_
          · (dsimp only [List.map]); k_extra "gs_offA"
          (tm_at "nmx3"; refine fun t' h'' tk' => ?_)
          intro F' N'
          clear F N F1
          dsimp only [OwitTurn]
          have hz5 : (qv' : List Value).length ≤ 5 := by
            have := StrsAre.length hqv2
            simp only [List.length_map, List.length_append, List.cons_append, List.length_cons] at this hc5
            omega
          obtain ⟨ha3, hb3⟩ := ab3 ha0 hb0 ea eb
          have hst := strip_pad k0 hk0 a ha3 b hb3
          have hln := (pad_len k0 hk0 a ha3 b hb3).1
          by_cases h0 : a + b = 0
          · have hpn : padW a k0 b = nm k0 := by
              have e1 : (a : Nat) = 0 := by omega
              have e2 : (b : Nat) = 0 := by omega
              rw [e1, e2]; exact pad_nm k0 hk0
            rw [hpn] at hst hln N'
            have hw5 : (swN k0).length ≤ 1000 := by have := (swN_len k0 hk0).1; omega
            have hlw : Txt.lower (swN k0) = lwN k0 := lwN_sw k0 hk0
            have hsw : Txt.swapcase (nm k0) = swN k0 := rfl
            obtain ⟨g1, g2⟩ := nm_good k0 hk0
            have hqq : (nm k0 != nm k0) = false := by simp
            obtain ⟨hT1, hT2, hT3, hT4⟩ := hT k0 hk0
            have hkU := kvU_len (jn := fun k => Txt.join (Str.ofString "") (allV (lwN k) kvs)) h5'
            have hzU := kvU_refs h5' TN
            have hnU := up_new (jn := fun k => Txt.join (Str.ofString "") (allV (lwN k) kvs)) h5' List.mem_cons_self
            have hW : ((k0 :: ((todo : List Nat) ++ (done : List Nat))).length : Int) - 1 = (((todo : List Nat) ++ (done : List Nat)).length : Int) := by simp only [List.length_cons]; omega
            k_steps
            (rename Fr _ _ _ _ => F2)
            (rename News _ _ _ _ => N2)
            refine LCg.CompSrc.ledger hh F2 N2 (by k_mem) ?_ ?_
            · rw [sizeLine_eq, List.size_toArray, StrsAre.length (by assumption : StrsAre _ (allV (lwN k0) kvs))]; omega
            (tm_at "nmx1"; refine fun g' => ?_)
            refine cr_list (fun r ys => ∃ l0 l1, allV (lwN k0) kvs = l0 ++ l1 ∧ StrsAre r l1 ∧ StrsAre ys (l0.map Txt.lower)) ⟨[], _, rfl, by assumption, .nil⟩ ?_ ?_
            · rintro v rr ys I' oI' C' oC' D' m' h' tk' E' ⟨l0, l1, he, hrr, hy⟩ hC' hx' F' N' off' ne'
              cases l1 with
              | nil => cases hrr
              | cons one l1 =>
                obtain _ | ⟨_, t1, hrr⟩ := hrr
                have ho : one.length ≤ 1000 := hT3 one (by rw [he]; simp)
                (revert rr ys I' oI' C' oC' D' m' h' tk' E' l0 one l1 t1; tm_at "nmx12"; refine fun rr ys I' oI' C' oC' D' m' h' tk' E' l0 => ?_; k_extra "kf"; tm_at "nmx2"; refine fun one l1 => ?_; k_extra "kf"; tm_at "nmx1"; refine fun t1 => ?_; k_extra "kw")
                k_steps
                exact ⟨rfl, l0 ++ [one], l1, by rw [he]; simp, hrr, by rw [List.map_append]; exact StrsAre.append' hy (.cons _ _ .nil)⟩
            · rintro ys ⟨l0, l1, he, hrr, hy⟩
              cases hrr
              rw [List.append_nil] at he
              rw [← he, hT4] at hy
              (revert ys l0; tm_at "nmx2"; refine fun ys l0 => ?_; k_extra "kw")
              k_steps
              (rename Fr _ _ _ _ => F2)
              (rename News _ _ _ _ => N2)
              refine rg_iter F2 N2 (by assumption) (by rw [hW]; exact rg_small (by simp only [List.cons_append, List.length_cons] at hc5; omega)) (by rw [hW]; exact rg_size _) ?_
              (tm_at "nmx2"; refine fun I4 h4 => ?_)
              intro F4 N4 lI4
              k_lt lI4
              obtain ⟨D2, tp, tN, tV⟩ := nm_tup4 N4
              refine rest_c B X T C I hLL (farA_sub hF (by k_extra "gs_sub")) hh hroom hu (by assumption) ?_ ?_ ?_ ?_ (I4 := I4) (I3 := I3) (I2 := I2) (ux := ux) (ud := ud) (ul := ul) (LL := LL) (q := q) (ln := ln) (u := u) (vs := vs) (gn := gn) (d := d) (l := l) (t := t) (refs := refs) (n := n)
                (D2 := D2) (o3 := rgO ((jj : Int) + 1) (todo : List Nat).length) (o2 := rgO (((i : Nat) : Int) + 1) r) (L2 := ys) (ups := ups') (qu := (todo : List Nat) ++ (done : List Nat)) (k0 := k0) (kk := ((todo : List Nat) ++ (done : List Nat)).length + 1) (s := s) (x := x) (tU := tU) (oc := oc) (jn := fun k => Txt.join (Str.ofString "") (allV (lwN k) kvs)) hy (hVn k0 hk0) (hVl k0) (fun j hj => h5'.2 j (by simp only [List.mem_append, List.mem_cons] at hj ⊢; rcases hj with hj | hj <;> simp [hj])) (by simp only [List.cons_append, List.length_cons] at hc5; omega) hAB ?_ ?_
              · omega
              · refine off1_own (by assumption) ?_
                (try dsimp only [List.map]); k_extra "gs_sub"
              · omega
              · omega
              · have hW2 : ((k0 :: (todo : List Nat) ++ (done : List Nat)).length : Int) - 1 = (((todo : List Nat) ++ (done : List Nat)).length : Int) := hW
                first | rw [hW2] at F4 | simp only [hW2, hW] at F4
                refine ⟨0, h4, _, _, qv', rfl, ⟨pn + 1, nU + 1, rU ++ [.ref tp], tp, u0, u1, u2, u3, tupO #[.str (swN k0) tN, .str (Txt.join (Str.ofString "") (allV (lwN k0) kvs)) tV], p0, p1, p2, p3, F4, News.sub' N4 ?_, ?_, ?_⟩, ?_, ?_, by omega, Nat.zero_le _⟩
                · dsimp only [lexNews, hdrNews, List.cons_append, List.nil_append]; k_extra "gs_sub"
                · have TN' := TN.snoc (a := tp) (k := swN k0) (v := Txt.join (Str.ofString "") (allV (lwN k0) kvs)) (t := tN) (u := tV)
                  rw [List.length_append, List.length_singleton, slots (by simp only [List.cons_append, List.length_cons] at hc5; omega), List.map_append]
                  exact TN'
                · (rename ∀ (p : Addr × Obj), p ∈ _ → ∀ (q : Addr × Obj), q ∈ _ → p.1 ≠ q.1 => O1)
                  refine farE_lead (farE_tup (farE_sub FE (fun a ha => ha) (fun b hb => ?_)) (fun a ha => ?_)) (fun b hb => ?_)
                  · simp only [List.mem_cons, List.not_mem_nil, or_false] at hb ⊢
                    rcases hb with hb | hb | hb | hb <;> simp only [hb, true_or, or_true]
                  · refine Ne.symm ((?_ : OffA tp ([I3, I2] ++ (ux :: ud :: ul :: lexA q))) a ha)
                    clear ha
                    dsimp only [List.cons_append, List.nil_append, lexA]
                    repeat' (first | exact OffA.nil | refine OffA.cons ?_ ?_)
                    all_goals first | exact Ne.symm (o_ne O1 (by (dsimp only [List.map]); k_mem) (by (dsimp only [List.map]); k_mem)) | omega
                  · simp only [List.mem_cons, List.not_mem_nil, or_false] at hb
                    rcases hb with hb | hb | hb | hb | hb <;> rw [hb] <;> omega
                · rw [List.drop_zero, List.take_zero, List.map_nil, List.append_nil]; exact hqv2
                · refine' ⟨?tz9, ?h9⟩
                  case h9 => kst_all
              · (tm_at "nmx4"; refine fun h5 tk5 m5 qv5 => ?_)
                intro hst5 hqv5 hw5
                k_steps
                obtain ⟨pn5, nU5, rU5, w0, w1, w2, w3, w4, r0, r1, r2, r3, r4, F5, N5, TN5, FE5⟩ := hst5
                obtain ⟨tz5, hm5⟩ := hw5
                (revert pn5 nU5 rU5 w0 w1 w2 w3 w4 r0 r1 r2 r3 r4 tz5; tm_at "nmx13"; refine fun pn5 nU5 rU5 w0 w1 w2 w3 w4 r0 r1 r2 r3 r4 => ?_; k_extra "kf"; tm_at "nmx1"; refine fun tz5 => ?_; k_extra "kw")
                refine .mk (jj + 1) h5 tk5 m5 qv5 (ups' ++ [k0]) todo done rfl ⟨pn5, nU5, rU5, w0, w1, w2, w3, w4, r0, r1, r2, r3, r4, F5, News.sub' N5 ?_, TN5, FE5⟩ ?_ ?_ ?_ ?_ ?_
                rotate_left
                · exact hqv5
                · exact ⟨tz5, fun p hp => hm5 p (List.mem_append_left [_] hp)⟩
                · exact h5'.up
                rotate_left
                · rfl
                · dsimp only [lexNews, hdrNews, List.cons_append, List.nil_append]; k_extra "gs_sub"
                · rw [← hrnd]
                  have : Aa k0 + Bh k0 ≤ got Vn ups' k0 := ab_le ea eb h0
                  simp only [rnd, this, if_true]
          · have hne := pad_ne k0 hk0 a ha3 b hb3 h0
            have hqq : (padW a k0 b != nm k0) = true := by simpa using hne
            k_steps
            · (rename News _ _ _ _ => N2)
              refine ⟨jj + 1, _, _, _, qv' ++ [.str (padW a k0 b) t0], ups', todo, done ++ [k0], rfl, ⟨pn + 1 + 1, nU, rU, u0, u1, u2, u3, u4, p0, p1, p2, p3, p4, by assumption, News.sub' N2 ?_, TN, FE⟩, ?_, ⟨tz, ?_⟩, h5'.back, ?_, rfl⟩
              · dsimp only [lexNews, hdrNews, List.cons_append, List.nil_append]; k_extra "gs_sub"
              · have hm2 : StrsAre [Value.str (padW a k0 b) t0] [padW a k0 b] := .cons _ _ .nil
                have := StrsAre.append' hqv2 hm2
                rw [← hd0] at this ⊢
                simpa only [List.map_append, List.map_cons, List.map_nil, List.append_assoc] using this
              · have hl0 : ((todo : List Nat) ++ ((done : List Nat) ++ [k0])).length = (k0 :: (todo : List Nat) ++ (done : List Nat)).length := by simp only [List.length_append, List.length_cons, List.length_nil]; omega
                rw [hl0]; kst_all
              · rw [← hrnd]
                have : ¬ Aa k0 + Bh k0 ≤ got Vn ups' k0 := ab_lt ea eb h0
                simp only [rnd, this, if_false]
            all_goals ((rename ((padW a k0 b != nm k0) = false) => hx); exact absurd (by simpa using hx) hne)
      · obtain rfl : i = 5 := by omega
        (revert h' tk m qv ups qu pn nU rU u0 u1 u2 u3 u4 p0 p1 p2 p3 p4 tz j; tm_at "nmx6"; refine fun h' tk m qv ups qu => ?_; k_extra "kf"; tm_at "nmx13"; refine fun pn nU rU u0 u1 u2 u3 u4 p0 p1 p2 p3 p4 => ?_; k_extra "kf"; tm_at "nmx1"; refine fun tz => ?_; k_extra "kf"; tm_at "nmx1"; refine fun j => ?_; k_extra "kw")
        refine rg_doneA hh F1 N ?_ ?_
        · (dsimp only [List.map]); k_extra "gs_offA"
        (tm_at "nmx1"; refine fun h'' => ?_)
        intro F' N'
        clear F N F1
        dsimp only [OwitTurn]
        (try dsimp only)
        refine rend_c B X T C I hLL (farA_sub hF (by k_extra "gs_sub")) hh hroom hu (by assumption) ?_ h5 (qu := qu) (ups := ups) (jn := fun k => Txt.join (Str.ofString "") (allV (lwN k) kvs)) (Vn := Vn) (Aa := Aa) (Bh := Bh) (ln := ln) (u := u) (vs := vs) (gn := gn) (x := x) (d := d) (l := l) (t := t) (refs := refs) (n := n) (ux := ux) (ud := ud) (ul := ul) (tU := tU) (oc := oc) (qv := qv) ⟨pn, nU, rU, u0, u1, u2, u3, u4, p0, p1, p2, p3, p4, F', News.sub' N' ?_, TN, farE_sub FE (fun a ha => List.mem_cons_of_mem _ ha) (fun b hb => hb)⟩ hqv ⟨tz, ?_⟩ ?_
        · omega
        · dsimp only [lexNews, hdrNews, List.cons_append, List.nil_append]; k_extra "gs_sub"
        · kst_all
        · intro tp D1 D2 n1 rU pn u0 u1 u2 u3 u4 p0 p1 p2 p3 p4 vs2 h' tk' m' hv2 F5 N5 TN5
          exact leaveG_ F5 N5 (fun kG => h tp D1 D2 n1 rU pn u0 u1 u2 u3 u4 p0 p1 p2 p3 p4 vs2 h' tk' ups qu hres.symm h5 hv2 kG TN5)
theorem zeq : (w, A, base, g, fr, mg, mb, p, loose, mean, s, R, q, ln, u, vs, gn, pn, x, d, l, li, t, refs, kvs, n, nl, vl, os, Vn, Aa, Bh) = Z := by with_unfolding_all rfl
end Crun_c
set_option maxHeartbeats 4000000 in
theorem run_c {w : World} {A : Around} {base g : Heap} {fr : List Env} {mg mb : Str → Option Value} {p : Program} {loose : List Str} {mean : ExcName → Option Value} {s : Shared} {R : Result → Shared → Prop} {q : LexP} {ln : Int} {u : Tok} {vs : List Value} {gn pn : Nat} {x d l li : Addr} {t : Tok} {refs : List Value} {kvs : List (Str × Str)} {n nl : Nat} {vl : List Value} {os : List Nat} {Vn : Nat → List Nat} {Aa Bh : Nat → Nat} : Crun_c.Stmt w A base g fr mg mb p loose mean s R q ln u vs gn pn x d l li t refs kvs n nl vl os Vn Aa Bh :=
  hilb Crun_c.P0 Crun_c.Z rfl (Eq.subst (motive := Crun_c.P0) Crun_c.zeq Crun_c.key) (w, A, base, g, fr, mg, mb, p, loose, mean, s, R, q, ln, u, vs, gn, pn, x, d, l, li, t, refs, kvs, n, nl, vl, os, Vn, Aa, Bh)
section
end
end Mine

namespace Mine
noncomputable def lawFn0 : List Stmt × Scope := ((stN Challenge.pw_st0024_01.main.body.reverse 0).1, (stN Challenge.pw_st0024_01.main.body.reverse 0).2.2.1)
noncomputable def lawB0 : List Stmt := lawFn0.1
noncomputable def lawS0 : Scope := lawFn0.2
@[reducible] noncomputable def lawSs : { x : Scope // lawS0 = x } := by
  refine ⟨?x, ?h⟩
  case h =>
    conv => lhs; whnf
noncomputable abbrev lawS : Scope := lawSs.1
noncomputable abbrev lawEnv (L fa : Addr) (cd : Value) : Env := envOfC (Str.ofString "law") lawS L fa cd
noncomputable def st0 (n : Nat) : Stmt := (lawB0.drop n).headD (.Pass ⟨0, 0, 0, 0⟩)
@[reducible] noncomputable def st0s : { x : Stmt // st0 0 = x } := by
  refine ⟨?x, ?h⟩
  case h =>
    conv => lhs; whnf
@[reducible] noncomputable def st1s : { x : Stmt // st0 1 = x } := by
  refine ⟨?x, ?h⟩
  case h =>
    conv => lhs; whnf
@[reducible] noncomputable def st2s : { x : Stmt // st0 2 = x } := by
  refine ⟨?x, ?h⟩
  case h =>
    conv => lhs; whnf
@[reducible] noncomputable def st3s : { x : Stmt // st0 3 = x } := by
  refine ⟨?x, ?h⟩
  case h =>
    conv => lhs; whnf
@[reducible] noncomputable def st4s : { x : Stmt // st0 4 = x } := by
  refine ⟨?x, ?h⟩
  case h =>
    conv => lhs; whnf
@[reducible] noncomputable def st5s : { x : Stmt // st0 5 = x } := by
  refine ⟨?x, ?h⟩
  case h =>
    conv => lhs; whnf
@[reducible] noncomputable def st6s : { x : Stmt // st0 6 = x } := by
  refine ⟨?x, ?h⟩
  case h =>
    conv => lhs; whnf
@[reducible] noncomputable def st7s : { x : Stmt // st0 7 = x } := by
  refine ⟨?x, ?h⟩
  case h =>
    conv => lhs; whnf
@[reducible] noncomputable def st8s : { x : Stmt // st0 8 = x } := by
  refine ⟨?x, ?h⟩
  case h =>
    conv => lhs; whnf
@[reducible] noncomputable def st9s : { x : Stmt // st0 9 = x } := by
  refine ⟨?x, ?h⟩
  case h =>
    conv => lhs; whnf
@[reducible] noncomputable def st10s : { x : Stmt // st0 10 = x } := by
  refine ⟨?x, ?h⟩
  case h =>
    conv => lhs; whnf
@[reducible] noncomputable def st11s : { x : Stmt // st0 11 = x } := by
  refine ⟨?x, ?h⟩
  case h =>
    conv => lhs; whnf
@[reducible] noncomputable def st12s : { x : Stmt // st0 12 = x } := by
  refine ⟨?x, ?h⟩
  case h =>
    conv => lhs; whnf
@[reducible] noncomputable def st13s : { x : Stmt // st0 13 = x } := by
  refine ⟨?x, ?h⟩
  case h =>
    conv => lhs; whnf
@[reducible] noncomputable def st14s : { x : Stmt // st0 14 = x } := by
  refine ⟨?x, ?h⟩
  case h =>
    conv => lhs; whnf
@[reducible] noncomputable def st15s : { x : Stmt // st0 15 = x } := by
  refine ⟨?x, ?h⟩
  case h =>
    conv => lhs; whnf
@[reducible] noncomputable def st16s : { x : Stmt // st0 16 = x } := by
  refine ⟨?x, ?h⟩
  case h =>
    conv => lhs; whnf
end Mine

namespace Mine
open PySem.Calls
theorem compEnd_mono {h₀ : Heap} {L : Addr} {m : Str → Option Value} {s₁ : Shared} {I : Addr} {oI : Obj} {C : Addr} {oC : Obj} {D : Addr} {oD : Obj} {S : List (Addr × Obj) → Prop} {rest rest' : Value → List (Addr × Obj) → Prop} {y : Value} {s₂ : Shared}
    (h : LCg.CompEnd h₀ L m s₁ I oI C oC D oD S rest y s₂) (k : ∀ n, rest y n → rest' y n) : LCg.CompEnd h₀ L m s₁ I oI C oC D oD S rest' y s₂ := by
  obtain ⟨h', tk, news', e, F, N, off, hS, r⟩ := h
  exact ⟨h', tk, news', e, F, N, off, hS, k _ r⟩
theorem ints_at {vs : List Value} {ns : List Int} (h : IntsAre vs ns) {i : Nat} {v : Value} (e : vs.toArray[i]? = some v) : ∃ t, v = .int (ns.getD i 0) t := by
  have e' : vs[i]? = some v := by simpa using e
  clear e
  induction h generalizing i with
  | nil => cases e'
  | cons n t h ih =>
    cases i with
    | zero => simp only [List.getElem?_cons_zero, Option.some.injEq] at e'; exact ⟨t, e'.symm⟩
    | succ i => exact ih (by simpa using e')
theorem compEnd_new {h₀ : Heap} {L : Addr} {m : Str → Option Value} {s₁ : Shared} {I : Addr} {oI : Obj} {C : Addr} {oC : Obj} {D : Addr} {oD : Obj} {S : List (Addr × Obj) → Prop} {rest : Value → List (Addr × Obj) → Prop} {y : Value} {h' : Heap} {tk : Nat} {a : Addr} {o : Obj} {nw : List (Addr × Obj)}
    (F : Fr h₀ L h' m) (N : News h₀ L h' ((a, o) :: (I, oI) :: (C, oC) :: (D, oD) :: nw)) (off : LCg.Off3 I C D nw) (l : Hid (AllLt a ((I, oI) :: (C, oC) :: (D, oD) :: nw))) (hS : S ((a, o) :: nw)) (r : rest y ((a, o) :: nw)) :
    LCg.CompEnd h₀ L m s₁ I oI C oC D oD S rest y { s₁ with heap := h', toks := tk } := by
  refine LCg.CompEnd.intro F N ((a, o) :: nw) (fun p hp => ?_) ⟨⟨Nat.ne_of_gt l.out.1, Nat.ne_of_gt l.out.2.1, Nat.ne_of_gt l.out.2.2.1⟩, off⟩ hS r
  simp only [List.mem_cons] at hp ⊢
  rcases hp with h | h | h | h | h
  · exact .inr (.inl h)
  · exact .inr (.inr (.inl h))
  · exact .inr (.inr (.inr (.inl h)))
  · exact .inl h
  · exact .inr (.inr (.inr (.inr h)))
theorem five_of {α : Type} {l : List α} (h : l.length = 5) : ∃ a b c d e, l = [a, b, c, d, e] := by
  match l, h with
  | [a, b, c, d, e], _ => exact ⟨a, b, c, d, e, rfl⟩
theorem allLt_ne' {d : Nat} {l : List (Addr × Obj)} {as : List Addr} (h : AllLt d l) (hs : Sub as (l.map (·.1))) : ∀ a ∈ as, @Ne Nat a d := fun a ha => by
  obtain ⟨p, hp, e⟩ := List.mem_map.mp (hs a ha)
  rw [← e]
  exact Nat.ne_of_lt (allLt_mem h p hp)
theorem off1_ne' {D : Addr} {l : List (Addr × Obj)} {as : List Addr} (h : LCg.Off1 D l) (hs : Sub as (l.map (·.1))) : ∀ a ∈ as, @Ne Nat a D := fun a ha => Ne.symm (off1_own h hs a ha)
theorem farE_nil {as : List Addr} : FarE as [] := fun _ _ _ h => nomatch h
section
variable {prog : Program} {w : World} {A : Around} {h₀ : Heap} {L : Addr} {m : Str → Option Value} {env : Env} {ct elt : PySem.Expr} {x : Str} {scope : Scope} {cl : List (Str × Addr)} {s : Shared} {S : List (Addr × Obj) → Prop} {P : Nat → Value → Prop} {Fin : List Value → List (Addr × Obj) → Prop} {news : List (Addr × Obj)}
/-- ints of ints -/
theorem cr_ints {vs : List Value} {ns : List Int} (hi : IntsAre vs ns) (f : Int → Int)
    (turn : ∀ k t ys I oI C oC D m₂ h tk (E' : Value → Shared → Prop), k ∈ ns → LCg.NsObj oC m₂ → m₂ x = some (.int k t) → Fr h₀ L h m → News h₀ L h ((I, oI) :: (C, oC) :: (D, LCg.lst ys) :: news) → LCg.Off3 I C D news → ((@Ne Nat I C) ∧ (@Ne Nat I D) ∧ (@Ne Nat C D)) →
      wpAny (model prog w) A (eval elt (compEnvC scope cl C env)) (LCg.CompEnd h₀ L m { s with heap := h, toks := tk } I oI C oC D (LCg.lst ys) S (fun y news' => CNext news (∃ u, y = .int (f k) u) news')) E' { s with heap := h, toks := tk })
    (fin : ∀ ys, IntsAre ys (ns.map f) → Fin ys news) : LCg.CompRest prog w A h₀ L m env elt x scope cl s S (fun i v => vs.toArray[i]? = some v) Fin vs.toArray.size 0 [] news := by
  refine cr_list (fun r ys => ∃ d e, ns = d ++ e ∧ IntsAre r e ∧ IntsAre ys (d.map f)) ⟨[], ns, rfl, hi, .nil⟩ ?_ ?_
  · rintro v r ys I oI C oC D m₂ h tk E' ⟨d, e, he, hr, hy⟩ hC hx F N off ne
    cases e with
    | nil => cases hr
    | cons k e =>
      obtain _ | ⟨_, t, hr⟩ := hr
      refine wpAny_mono (turn k t ys I oI C oC D m₂ h tk E' (by rw [he]; simp) hC hx F N off ne) (fun y s₂ hq => compEnd_mono hq fun n hn => ?_) fun _ _ e => e
      obtain ⟨e1, u, rfl⟩ := hn
      refine ⟨e1, d ++ [k], e, by rw [he]; simp, hr, ?_⟩
      rw [List.map_append]
      exact IntsAre.append hy (.cons _ _ .nil)
  · rintro ys ⟨d, e, he, hr, hy⟩
    cases hr
    rw [List.append_nil] at he
    subst he
    exact fin ys hy
/-- ints of a range -/
theorem cr_rng {n : Nat} {a : Int} (f : Nat → Int)
    (turn : ∀ i t ys I oI C oC D m₂ h tk (E' : Value → Shared → Prop), i < n → LCg.NsObj oC m₂ → m₂ x = some (.int (a + (i : Int)) t) → Fr h₀ L h m → News h₀ L h ((I, oI) :: (C, oC) :: (D, LCg.lst ys) :: news) → LCg.Off3 I C D news → ((@Ne Nat I C) ∧ (@Ne Nat I D) ∧ (@Ne Nat C D)) →
      wpAny (model prog w) A (eval elt (compEnvC scope cl C env)) (LCg.CompEnd h₀ L m { s with heap := h, toks := tk } I oI C oC D (LCg.lst ys) S (fun y news' => CNext news (∃ u, y = .int (f i) u) news')) E' { s with heap := h, toks := tk })
    (fin : ∀ ys, IntsAre ys ((List.range n).map f) → Fin ys news) : LCg.CompRest prog w A h₀ L m env elt x scope cl s S (fun i v => ∃ t, v = .int (a + (i : Int)) t) Fin n 0 [] news := by
  refine cr_gen (fun i ys => IntsAre ys ((List.range i).map f)) .nil ?_ fin
  rintro i v ys I oI C oC D m₂ h tk E' hi ⟨t, rfl⟩ hy hC hx F N off ne
  refine wpAny_mono (turn i t ys I oI C oC D m₂ h tk E' hi hC hx F N off ne) (fun y s₂ hq => compEnd_mono hq fun n hn => ?_) fun _ _ e => e
  obtain ⟨e1, u, rfl⟩ := hn
  refine ⟨e1, ?_⟩
  rw [List.range_succ, List.map_append, List.map_singleton]
  exact IntsAre.append hy (.cons _ _ .nil)
/-- rows of ints: each turn makes a list -/
theorem cr_rows {vs : List Value} {ns : List Int} (hi : IntsAre vs ns) (f : Int → List Int) (hS0 : S news) (hSm : ∀ p nw, S nw → S (p :: nw))
    (turn : ∀ k t ys nw I oI C oC D m₂ h tk (E' : Value → Shared → Prop), S nw → LCg.NsObj oC m₂ → m₂ x = some (.int k t) → Fr h₀ L h m → News h₀ L h ((I, oI) :: (C, oC) :: (D, LCg.lst ys) :: nw) → LCg.Off3 I C D nw → ((@Ne Nat I C) ∧ (@Ne Nat I D) ∧ (@Ne Nat C D)) →
      wpAny (model prog w) A (eval elt (compEnvC scope cl C env)) (LCg.CompEnd h₀ L m { s with heap := h, toks := tk } I oI C oC D (LCg.lst ys) S (fun y news' => ∃ a ws, y = .ref a ∧ news' = (a, W.listOf ws.toArray 0) :: nw ∧ IntsAre ws (f k) ∧ AllLt a nw)) E' { s with heap := h, toks := tk })
    (fin : ∀ rs : List (Addr × List Value), rs.length = ns.length → (∀ k r, rs[k]? = some r → IntsAre r.2 (f (ns.getD k 0)) ∧ AllLt r.1 news) → Fin (rs.map fun r => .ref r.1) ((rs.map fun r => (r.1, W.listOf r.2.toArray 0)).reverse ++ news)) :
    LCg.CompRest prog w A h₀ L m env elt x scope cl s S (fun i v => vs.toArray[i]? = some v) Fin vs.toArray.size 0 [] news := by
  refine cr_led (fun i ys nw => ∃ rs : List (Addr × List Value), rs.length = i ∧ ys = rs.map (fun r => .ref r.1) ∧ nw = (rs.map fun r => (r.1, W.listOf r.2.toArray 0)).reverse ++ news ∧ S nw ∧ ∀ k r, rs[k]? = some r → IntsAre r.2 (f (ns.getD k 0)) ∧ AllLt r.1 news) ⟨[], rfl, rfl, rfl, hS0, fun _ _ h => by simp at h⟩ ?_ ?_
  · rintro i v ys nw I oI C oC D m₂ h tk E' hin hv ⟨rs, hl, hys, hnw, hSn, hr⟩ hC hx F N off ne
    obtain ⟨t, rfl⟩ := ints_at hi hv
    refine wpAny_mono (turn _ t ys nw I oI C oC D m₂ h tk E' hSn hC hx F N off ne) (fun y s₂ hq => ?_) fun _ _ e => e
    obtain ⟨h', tk', news', e, F', N', off', hS', a, ws, rfl, rfl, hw, hlt⟩ := hq
    refine ⟨h', tk', _, e, F', N', off', hS', rs ++ [(a, ws)], by simp [hl], by simp [hys], by simp [hnw], hS', fun k r hk => ?_⟩
    by_cases hkl : k < rs.length
    · rw [List.getElem?_append_left hkl] at hk
      exact hr k r hk
    · have hk' : k = i := by
        have := (List.getElem?_eq_some_iff.mp hk).1
        simp at this; omega
      subst hk'
      rw [← hl, List.getElem?_append_right (Nat.le_refl _), Nat.sub_self] at hk
      simp only [List.getElem?_cons_zero, Option.some.injEq] at hk
      subst hk
      refine ⟨hw, ?_⟩
      have hall := allLt_mem hlt
      subst hnw
      exact allLt_of fun p hp => hall p (List.mem_append_right _ hp)
  · rintro ys nw ⟨rs, hl, hys, hnw, hSn, hr⟩
    subst hys hnw
    exact fin rs (by rw [hl]; have := hi.length; simpa using this) hr
end
end Mine

namespace Mine
local macro_rules | `(tactic| walk_at "CompEnd") => `(tactic| (refine stop_in ?_))
theorem farE_off1 {D : Addr} {l : List (Addr × Obj)} {as : List Addr} (h : LCg.Off1 D l) (hs : Sub as (l.map (·.1))) : FarE as [D] := fun a ha b hb => by
  rw [List.mem_singleton.mp hb]
  exact Ne.symm (off1_own h hs a ha)
theorem nm_a {g h : Heap} {L a b c d e f i j k l : Addr} {oa ob oc od oe of oi oj ok ol : Obj} {r : List (Addr × Obj)} (N : News g L h ((a, oa) :: (b, ob) :: (c, oc) :: (d, od) :: (e, oe) :: (f, of) :: (i, oi) :: (j, oj) :: (k, ok) :: (l, ol) :: r)) : Nm c ∧ Nm ol := ⟨.mk, .mk⟩
noncomputable def givenOf (ns : List Int) (k : Nat) : Int := ([1629, 2407, 1109, 3596, 728].getD (0 + (k : Int)).toNat 0 + (pickNums ns (some (0 + (k : Int))) none (some 5)).sum).fmod 4500
theorem givenOf_bd (ns : List Int) (k : Nat) : 0 ≤ givenOf ns k ∧ givenOf ns k < 4500 := ⟨Int.fmod_nonneg_of_pos _ (by decide), Int.fmod_lt_of_pos _ (by decide)⟩
section
variable {prog : Program} {w : World} {A : Around} {E : Value → Shared → Prop} {s : Shared} {h₀ : Heap} {L : Addr} {m : Str → Option Value} {news : List (Addr × Obj)}
theorem sumA_K {l : Addr} {its : Array Value} {ns : List Int} {n : Nat} {Q : Value → Shared → Prop} (hh : A.handled = none) (F : Fr h₀ L s.heap m) (N : News h₀ L s.heap news) (hm : (l, W.listOf its n) ∈ news) (hi : IntsAre its.toList ns)
    (h : ∀ h' tk t, Fr h₀ L h' m → News h₀ L h' news → Q (.int ns.sum t) { s with heap := h', toks := tk }) : wpAny (model prog w) A (call (.builtin "sum") [.ref l]) Q E s := by
  have e : its = its.toList.toArray := by simp
  exact sumK hh F N (by rw [e] at hm; exact lst_N N hm) hi h
end
theorem row100 : True := by
  k_with "call builtin:sum" => (k_here; (with_reducible show wpAny _ _ (call (Value.builtin "sum") [Value.ref _]) _ _ _); k_dflt (refine' sumA_K ?k0r100 ?k1r100 ?k2r100 ?mr100 ?k4r100 ?_; (case k0r100 => first | exact rfl | assumption); (case k1r100 => k_asm); (case k2r100 => k_asm); (case mr100 => k_mem); (case k4r100 => exact IntsAre.pick (by assumption) _ _ _)); ((first | tm_at "clo1" | refine fun h'q9 => ?_); (first | tm_at "clo1" | refine fun tk'q9 => ?_); (first | tm_at "clo1" | refine fun t'q9 => ?_); refine fun F'q9 => ?_; refine fun N'q9 => ?_))
  trivial
section
variable {w : World} {A : Around} {base g : Heap} {fr : List Env} {mg mb : Str → Option Value} {p : Program} {loose : List Str} {mean : ExcName → Option Value} {s : Shared} {L fa : Addr} {cd : Value} {m : Str → Option Value} {Q : Flow → Shared → Prop} {E : Value → Shared → Prop} {rest : List Stmt}
  (B : Below A base fr g) (X : Frag.In (hd.heap_39 w.params) g) (T : Top p loose mean mg mb g)
include B X T
end
namespace Cseg_a
noncomputable def Sta (w : World) (A : Around) (base g : Heap) (fr : List Env) (mg mb : Str → Option Value) (p : Program) (loose : List Str) (mean : ExcName → Option Value) (s : Shared) (L fa : Addr) (cd : Value) (m : Str → Option Value) (Q : Flow → Shared → Prop) (E : Value → Shared → Prop) (rest : List Stmt) (scr : Addr) (sv : List Value) (ns : List Int) (c1 c2 c3 c4 c5 c6 c7 c8 : Obj) (v2 v3 v4 v5 v6 v7 v8 : Option Value) : Prop := ∀ (sl : List Stmt) (B : Below A base fr g) (X : Frag.In (hd.heap_39 w.params) g) (T : Top p loose mean mg mb g) (hsl : sl = st0s.1 :: st1s.1 :: st2s.1 :: rest) (F : Fr g L s.heap m) (hh : A.handled = none) (hroom : A.depth + 60 < recursionLimit) (hu : A.units + 600 < cLine) (N : News g L s.heap [(L + 1 + 1 + 1 + 1 + 1 + 1 + 1 + 1, c8), (L + 1 + 1 + 1 + 1 + 1 + 1 + 1, c7), (L + 1 + 1 + 1 + 1 + 1 + 1, c6), (L + 1 + 1 + 1 + 1 + 1, c5), (L + 1 + 1 + 1 + 1, c4), (L + 1 + 1 + 1, c3), (L + 1 + 1, c2), (L + 1, c1), (224, tabObj #[])]) (e1 : c1.data = .cell (some (.ref scr))) (e2 : c2.data = .cell v2) (e3 : c3.data = .cell v3) (e4 : c4.data = .cell v4) (e5 : c5.data = .cell v5) (e6 : c6.data = .cell v6) (e7 : c7.data = .cell v7) (e8 : c8.data = .cell v8) (l0 : @LT.lt Nat _ 224 L) (C : CodeHd base 228 224) (hs : g.IsList scr sv.toArray) (hi : IntsAre sv ns) (hl : ns.length ≤ 63) (h : ∀ h' tk nD (nv : List Value) gD (gv : List Value) d2, StrsAre nv [Str.ofString "a", Str.ofString "B c", Str.ofString "\"", Str.ofString "\\", Str.ofString "#"] → IntsAre gv [givenOf ns 0, givenOf ns 1, givenOf ns 2, givenOf ns 3, givenOf ns 4] →
    d2.data = .cell (some (.ref nD)) →
    (@LT.lt Nat _ (L + 1 + 1 + 1 + 1 + 1 + 1 + 1 + 1) nD) → FarE [nD, L + 1 + 1 + 1 + 1 + 1 + 1 + 1 + 1, L + 1 + 1 + 1 + 1 + 1 + 1 + 1, L + 1 + 1 + 1 + 1 + 1 + 1, L + 1 + 1 + 1 + 1 + 1, L + 1 + 1 + 1 + 1, L + 1 + 1, 224] [gD] →
    Fr g L h' (fun z => if z = Str.ofString "given" then some (.ref gD) else m z) →
    News g L h' [(gD, W.listOf gv.toArray gv.length), (nD, W.listOf nv.toArray 0), (L + 1 + 1 + 1 + 1 + 1 + 1 + 1 + 1, c8), (L + 1 + 1 + 1 + 1 + 1 + 1 + 1, c7), (L + 1 + 1 + 1 + 1 + 1 + 1, c6), (L + 1 + 1 + 1 + 1 + 1, c5), (L + 1 + 1 + 1 + 1, c4), (L + 1 + 1, d2), (224, tabObj #[])] →
    wpAny (model Challenge.rw_st0024_01.row.prog w) (A.deeper (lawEnv L fa cd)) (execs rest (lawEnv L fa cd)) Q E { s with heap := h', toks := tk }), wpAny (model Challenge.rw_st0024_01.row.prog w) (A.deeper (lawEnv L fa cd)) (execs sl (lawEnv L fa cd)) Q E s
noncomputable def P0 (z : World × Around × Heap × Heap × (List Env) × (Str → Option Value) × (Str → Option Value) × Program × (List Str) × (ExcName → Option Value) × Shared × Addr × Addr × Value × (Str → Option Value) × (Flow → Shared → Prop) × (Value → Shared → Prop) × (List Stmt) × Addr × (List Value) × (List Int) × Obj × Obj × Obj × Obj × Obj × Obj × Obj × Obj × (Option Value) × (Option Value) × (Option Value) × (Option Value) × (Option Value) × (Option Value) × (Option Value)) : Prop := Sta (z.1) (z.2.1) (z.2.2.1) (z.2.2.2.1) (z.2.2.2.2.1) (z.2.2.2.2.2.1) (z.2.2.2.2.2.2.1) (z.2.2.2.2.2.2.2.1) (z.2.2.2.2.2.2.2.2.1) (z.2.2.2.2.2.2.2.2.2.1) (z.2.2.2.2.2.2.2.2.2.2.1) (z.2.2.2.2.2.2.2.2.2.2.2.1) (z.2.2.2.2.2.2.2.2.2.2.2.2.1) (z.2.2.2.2.2.2.2.2.2.2.2.2.2.1) (z.2.2.2.2.2.2.2.2.2.2.2.2.2.2.1) (z.2.2.2.2.2.2.2.2.2.2.2.2.2.2.2.1) (z.2.2.2.2.2.2.2.2.2.2.2.2.2.2.2.2.1) (z.2.2.2.2.2.2.2.2.2.2.2.2.2.2.2.2.2.1) (z.2.2.2.2.2.2.2.2.2.2.2.2.2.2.2.2.2.2.1) (z.2.2.2.2.2.2.2.2.2.2.2.2.2.2.2.2.2.2.2.1) (z.2.2.2.2.2.2.2.2.2.2.2.2.2.2.2.2.2.2.2.2.1) (z.2.2.2.2.2.2.2.2.2.2.2.2.2.2.2.2.2.2.2.2.2.1) (z.2.2.2.2.2.2.2.2.2.2.2.2.2.2.2.2.2.2.2.2.2.2.1) (z.2.2.2.2.2.2.2.2.2.2.2.2.2.2.2.2.2.2.2.2.2.2.2.1) (z.2.2.2.2.2.2.2.2.2.2.2.2.2.2.2.2.2.2.2.2.2.2.2.2.1) (z.2.2.2.2.2.2.2.2.2.2.2.2.2.2.2.2.2.2.2.2.2.2.2.2.2.1) (z.2.2.2.2.2.2.2.2.2.2.2.2.2.2.2.2.2.2.2.2.2.2.2.2.2.2.1) (z.2.2.2.2.2.2.2.2.2.2.2.2.2.2.2.2.2.2.2.2.2.2.2.2.2.2.2.1) (z.2.2.2.2.2.2.2.2.2.2.2.2.2.2.2.2.2.2.2.2.2.2.2.2.2.2.2.2.1) (z.2.2.2.2.2.2.2.2.2.2.2.2.2.2.2.2.2.2.2.2.2.2.2.2.2.2.2.2.2.1) (z.2.2.2.2.2.2.2.2.2.2.2.2.2.2.2.2.2.2.2.2.2.2.2.2.2.2.2.2.2.2.1) (z.2.2.2.2.2.2.2.2.2.2.2.2.2.2.2.2.2.2.2.2.2.2.2.2.2.2.2.2.2.2.2.1) (z.2.2.2.2.2.2.2.2.2.2.2.2.2.2.2.2.2.2.2.2.2.2.2.2.2.2.2.2.2.2.2.2.1) (z.2.2.2.2.2.2.2.2.2.2.2.2.2.2.2.2.2.2.2.2.2.2.2.2.2.2.2.2.2.2.2.2.2.1) (z.2.2.2.2.2.2.2.2.2.2.2.2.2.2.2.2.2.2.2.2.2.2.2.2.2.2.2.2.2.2.2.2.2.2.1) (z.2.2.2.2.2.2.2.2.2.2.2.2.2.2.2.2.2.2.2.2.2.2.2.2.2.2.2.2.2.2.2.2.2.2.2)
noncomputable def Z := @Classical.epsilon _ ⟨(w00, A00, default, default, [], (fun _ => none), (fun _ => none), default, [], (fun _ => none), s00, 0, 0, .none, (fun _ => none), (fun _ _ => True), (fun _ _ => True), [], 0, [], [], default, default, default, default, default, default, default, default, none, none, none, none, none, none, none)⟩ fun z => ¬ P0 z
@[irreducible] noncomputable def w := Z.1
@[irreducible] noncomputable def A := Z.2.1
@[irreducible] noncomputable def base := Z.2.2.1
@[irreducible] noncomputable def g := Z.2.2.2.1
@[irreducible] noncomputable def fr := Z.2.2.2.2.1
@[irreducible] noncomputable def mg := Z.2.2.2.2.2.1
@[irreducible] noncomputable def mb := Z.2.2.2.2.2.2.1
@[irreducible] noncomputable def p := Z.2.2.2.2.2.2.2.1
@[irreducible] noncomputable def loose := Z.2.2.2.2.2.2.2.2.1
@[irreducible] noncomputable def mean := Z.2.2.2.2.2.2.2.2.2.1
@[irreducible] noncomputable def s := Z.2.2.2.2.2.2.2.2.2.2.1
@[irreducible] noncomputable def L := Z.2.2.2.2.2.2.2.2.2.2.2.1
@[irreducible] noncomputable def fa := Z.2.2.2.2.2.2.2.2.2.2.2.2.1
@[irreducible] noncomputable def cd := Z.2.2.2.2.2.2.2.2.2.2.2.2.2.1
@[irreducible] noncomputable def m := Z.2.2.2.2.2.2.2.2.2.2.2.2.2.2.1
@[irreducible] noncomputable def Q := Z.2.2.2.2.2.2.2.2.2.2.2.2.2.2.2.1
@[irreducible] noncomputable def E := Z.2.2.2.2.2.2.2.2.2.2.2.2.2.2.2.2.1
@[irreducible] noncomputable def rest := Z.2.2.2.2.2.2.2.2.2.2.2.2.2.2.2.2.2.1
@[irreducible] noncomputable def scr := Z.2.2.2.2.2.2.2.2.2.2.2.2.2.2.2.2.2.2.1
@[irreducible] noncomputable def sv := Z.2.2.2.2.2.2.2.2.2.2.2.2.2.2.2.2.2.2.2.1
@[irreducible] noncomputable def ns := Z.2.2.2.2.2.2.2.2.2.2.2.2.2.2.2.2.2.2.2.2.1
@[irreducible] noncomputable def c1 := Z.2.2.2.2.2.2.2.2.2.2.2.2.2.2.2.2.2.2.2.2.2.1
@[irreducible] noncomputable def c2 := Z.2.2.2.2.2.2.2.2.2.2.2.2.2.2.2.2.2.2.2.2.2.2.1
@[irreducible] noncomputable def c3 := Z.2.2.2.2.2.2.2.2.2.2.2.2.2.2.2.2.2.2.2.2.2.2.2.1
@[irreducible] noncomputable def c4 := Z.2.2.2.2.2.2.2.2.2.2.2.2.2.2.2.2.2.2.2.2.2.2.2.2.1
@[irreducible] noncomputable def c5 := Z.2.2.2.2.2.2.2.2.2.2.2.2.2.2.2.2.2.2.2.2.2.2.2.2.2.1
@[irreducible] noncomputable def c6 := Z.2.2.2.2.2.2.2.2.2.2.2.2.2.2.2.2.2.2.2.2.2.2.2.2.2.2.1
@[irreducible] noncomputable def c7 := Z.2.2.2.2.2.2.2.2.2.2.2.2.2.2.2.2.2.2.2.2.2.2.2.2.2.2.2.1
@[irreducible] noncomputable def c8 := Z.2.2.2.2.2.2.2.2.2.2.2.2.2.2.2.2.2.2.2.2.2.2.2.2.2.2.2.2.1
@[irreducible] noncomputable def v2 := Z.2.2.2.2.2.2.2.2.2.2.2.2.2.2.2.2.2.2.2.2.2.2.2.2.2.2.2.2.2.1
@[irreducible] noncomputable def v3 := Z.2.2.2.2.2.2.2.2.2.2.2.2.2.2.2.2.2.2.2.2.2.2.2.2.2.2.2.2.2.2.1
@[irreducible] noncomputable def v4 := Z.2.2.2.2.2.2.2.2.2.2.2.2.2.2.2.2.2.2.2.2.2.2.2.2.2.2.2.2.2.2.2.1
@[irreducible] noncomputable def v5 := Z.2.2.2.2.2.2.2.2.2.2.2.2.2.2.2.2.2.2.2.2.2.2.2.2.2.2.2.2.2.2.2.2.1
@[irreducible] noncomputable def v6 := Z.2.2.2.2.2.2.2.2.2.2.2.2.2.2.2.2.2.2.2.2.2.2.2.2.2.2.2.2.2.2.2.2.2.1
@[irreducible] noncomputable def v7 := Z.2.2.2.2.2.2.2.2.2.2.2.2.2.2.2.2.2.2.2.2.2.2.2.2.2.2.2.2.2.2.2.2.2.2.1
@[irreducible] noncomputable def v8 := Z.2.2.2.2.2.2.2.2.2.2.2.2.2.2.2.2.2.2.2.2.2.2.2.2.2.2.2.2.2.2.2.2.2.2.2
set_option maxHeartbeats 4000000 in
theorem key : Sta w A base g fr mg mb p loose mean s L fa cd m Q E rest scr sv ns c1 c2 c3 c4 c5 c6 c7 c8 v2 v3 v4 v5 v6 v7 v8 := fun sl B X T hsl F hh hroom hu N e1 e2 e3 e4 e5 e6 e7 e8 l0 C hs hi hl h => by
  subst hsl
  revert X; k_fill; intro X
  dsimp only
  k_steps
  (rename Fr _ _ _ _ => F2)
  (rename News _ _ _ _ => N2)
  refine LCg.CompSrc.range (by assumption) F2 N2 (by assumption) (by decide) (n := 5) (by rfl) (Nat.le_of_ble_eq_true rfl) ?_
  (tm_at "nmx1"; refine fun g' => ?_)
  refine cr_gen (fun i ys => IntsAre ys ((List.range i).map (givenOf ns))) .nil ?_ ?_
  · rintro i v ys I' oI' C' oC' D' m' h' tk' E' hi ⟨tv, rfl⟩ hy hC' hx' F' N' off' ne'
    (revert i ys I' oI' C' oC' D' m' h' tk' E' tv; tm_at "nmx11"; refine fun i ys I' oI' C' oC' D' m' h' tk' E' => ?_; k_extra "kf"; tm_at "nmx1"; refine fun tv => ?_; k_extra "kw")
    k_steps
    (rename News _ _ _ _ => N3)
    refine LCg.CompEnd.intro (by assumption) N3 _ (fun p hp => List.mem_cons_of_mem _ hp) off' trivial ⟨rfl, ?_⟩
    rw [List.range_succ, List.map_append, List.map_singleton]
    refine IntsAre.append hy ?_
    exact .cons _ _ .nil
  · (tm_at "nmx1"; refine fun ys => ?_)
    intro hy
    k_steps
    (rename Fr _ _ _ _ => F5)
    (rename News _ _ _ _ => N5)
    obtain ⟨nD, d2⟩ := nm_a N5
    refine' h _ _ nD [.str _ _, .str _ _, .str _ _, .str _ _, .str _ _] _ _ d2 ?e1 hy ?e2 ?e4 ?e5 F5 (News.sub' N5 ?e3)
    case e3 => k_extra "gs_sub"
    case e4 => omega
    case e5 => (refine farE_off1 (by assumption) ?_; (dsimp only [List.map]); k_extra "gs_sub")
    case e1 => exact .cons _ _ (.cons _ _ (.cons _ _ (.cons _ _ (.cons _ _ .nil))))
    case e2 => assumption
theorem zeq : (w, A, base, g, fr, mg, mb, p, loose, mean, s, L, fa, cd, m, Q, E, rest, scr, sv, ns, c1, c2, c3, c4, c5, c6, c7, c8, v2, v3, v4, v5, v6, v7, v8) = Z := by with_unfolding_all rfl
end Cseg_a
set_option maxHeartbeats 4000000 in
theorem seg_a {w : World} {A : Around} {base g : Heap} {fr : List Env} {mg mb : Str → Option Value} {p : Program} {loose : List Str} {mean : ExcName → Option Value} {s : Shared} {L fa : Addr} {cd : Value} {m : Str → Option Value} {Q : Flow → Shared → Prop} {E : Value → Shared → Prop} {rest : List Stmt} {scr : Addr} {sv : List Value} {ns : List Int} {c1 c2 c3 c4 c5 c6 c7 c8 : Obj} {v2 v3 v4 v5 v6 v7 v8 : Option Value} {sl : List Stmt} (B : Below A base fr g) (X : Frag.In (hd.heap_39 w.params) g) (T : Top p loose mean mg mb g) (hsl : sl = st0s.1 :: st1s.1 :: st2s.1 :: rest) (F : Fr g L s.heap m) (hh : A.handled = none) (hroom : A.depth + 60 < recursionLimit) (hu : A.units + 600 < cLine) (N : News g L s.heap [(L + 1 + 1 + 1 + 1 + 1 + 1 + 1 + 1, c8), (L + 1 + 1 + 1 + 1 + 1 + 1 + 1, c7), (L + 1 + 1 + 1 + 1 + 1 + 1, c6), (L + 1 + 1 + 1 + 1 + 1, c5), (L + 1 + 1 + 1 + 1, c4), (L + 1 + 1 + 1, c3), (L + 1 + 1, c2), (L + 1, c1), (224, tabObj #[])]) (e1 : c1.data = .cell (some (.ref scr))) (e2 : c2.data = .cell v2) (e3 : c3.data = .cell v3) (e4 : c4.data = .cell v4) (e5 : c5.data = .cell v5) (e6 : c6.data = .cell v6) (e7 : c7.data = .cell v7) (e8 : c8.data = .cell v8) (l0 : @LT.lt Nat _ 224 L) (C : CodeHd base 228 224) (hs : g.IsList scr sv.toArray) (hi : IntsAre sv ns) (hl : ns.length ≤ 63) (h : ∀ h' tk nD (nv : List Value) gD (gv : List Value) d2, StrsAre nv [Str.ofString "a", Str.ofString "B c", Str.ofString "\"", Str.ofString "\\", Str.ofString "#"] → IntsAre gv [givenOf ns 0, givenOf ns 1, givenOf ns 2, givenOf ns 3, givenOf ns 4] →
    d2.data = .cell (some (.ref nD)) →
    (@LT.lt Nat _ (L + 1 + 1 + 1 + 1 + 1 + 1 + 1 + 1) nD) → FarE [nD, L + 1 + 1 + 1 + 1 + 1 + 1 + 1 + 1, L + 1 + 1 + 1 + 1 + 1 + 1 + 1, L + 1 + 1 + 1 + 1 + 1 + 1, L + 1 + 1 + 1 + 1 + 1, L + 1 + 1 + 1 + 1, L + 1 + 1, 224] [gD] →
    Fr g L h' (fun z => if z = Str.ofString "given" then some (.ref gD) else m z) →
    News g L h' [(gD, W.listOf gv.toArray gv.length), (nD, W.listOf nv.toArray 0), (L + 1 + 1 + 1 + 1 + 1 + 1 + 1 + 1, c8), (L + 1 + 1 + 1 + 1 + 1 + 1 + 1, c7), (L + 1 + 1 + 1 + 1 + 1 + 1, c6), (L + 1 + 1 + 1 + 1 + 1, c5), (L + 1 + 1 + 1 + 1, c4), (L + 1 + 1, d2), (224, tabObj #[])] →
    wpAny (model Challenge.rw_st0024_01.row.prog w) (A.deeper (lawEnv L fa cd)) (execs rest (lawEnv L fa cd)) Q E { s with heap := h', toks := tk }) : wpAny (model Challenge.rw_st0024_01.row.prog w) (A.deeper (lawEnv L fa cd)) (execs sl (lawEnv L fa cd)) Q E s :=
  (show Cseg_a.Sta w A base g fr mg mb p loose mean s L fa cd m Q E rest scr sv ns c1 c2 c3 c4 c5 c6 c7 c8 v2 v3 v4 v5 v6 v7 v8 from hilb Cseg_a.P0 Cseg_a.Z rfl (Eq.subst (motive := Cseg_a.P0) Cseg_a.zeq Cseg_a.key) (w, A, base, g, fr, mg, mb, p, loose, mean, s, L, fa, cd, m, Q, E, rest, scr, sv, ns, c1, c2, c3, c4, c5, c6, c7, c8, v2, v3, v4, v5, v6, v7, v8)) sl B X T hsl F hh hroom hu N e1 e2 e3 e4 e5 e6 e7 e8 l0 C hs hi hl h
section
end
end Mine
local macro_rules | `(tactic| walk_at "no key 3") => `(tactic| skip)
local macro_rules | `(tactic| walk_at "no key 4") => `(tactic| skip)

namespace Mine
theorem nm_b {g h : Heap} {L b b1 b2 b3 a a1 a2 a3 gd nd x8 x7 x6 x5 x4 : Addr} {bv av : List Value} {n m : Nat} {ob1 ob2 ob3 oa1 oa2 oa3 og on o8 o7 o6 o5 o4 : Obj} {r : List (Addr × Obj)}
    (N : News g L h ((b, W.listOf bv.toArray n) :: (b1, ob1) :: (b2, ob2) :: (b3, ob3) :: (a, W.listOf av.toArray m) :: (a1, oa1) :: (a2, oa2) :: (a3, oa3) :: (gd, og) :: (nd, on) :: (x8, o8) :: (x7, o7) :: (x6, o6) :: (x5, o5) :: (x4, o4) :: r)) :
    Nm b ∧ Nm a ∧ Nm bv ∧ Nm av ∧ Nm o5 ∧ Nm o4 := ⟨.mk, .mk, .mk, .mk, .mk, .mk⟩
local macro_rules | `(tactic| walk_at "eval ListComp") => `(tactic| ((rename Fr _ _ _ _ => F1); k_dflt (refine LCg.ListComp_U (F₀ := F1) (by with_unfolding_all rfl) (by decide) (by rfl) (by decide) (by rfl) ?_)))
section
variable {w : World} {A : Around} {base g : Heap} {fr : List Env} {mg mb : Str → Option Value} {p : Program} {loose : List Str} {mean : ExcName → Option Value} {s : Shared} {L fa : Addr} {cd : Value} {m : Str → Option Value} {Q : Flow → Shared → Prop} {E : Value → Shared → Prop} {rest : List Stmt}
  (B : Below A base fr g) (X : Frag.In (hd.heap_39 w.params) g) (T : Top p loose mean mg mb g)
include B X T
end
namespace Cseg_b
noncomputable def Sta (w : World) (A : Around) (base g : Heap) (fr : List Env) (mg mb : Str → Option Value) (p : Program) (loose : List Str) (mean : ExcName → Option Value) (s : Shared) (L fa : Addr) (cd : Value) (m : Str → Option Value) (Q : Flow → Shared → Prop) (E : Value → Shared → Prop) (rest : List Stmt) (gD nD : Addr) (nv : List Value) (t0 t1 t2 t3 t4 : Tok) (g0 g1 g2 g3 g4 : Int) (d2 c4 c5 c6 c7 c8 : Obj) (v4 v5 : Option Value) : Prop := ∀ (B : Below A base fr g) (X : Frag.In (hd.heap_39 w.params) g) (T : Top p loose mean mg mb g) (hh : A.handled = none) (hroom : A.depth + 60 < recursionLimit) (hu : A.units + 600 < cLine) (q0 : 0 ≤ g0 ∧ g0 < 4500) (q1 : 0 ≤ g1 ∧ g1 < 4500) (q2 : 0 ≤ g2 ∧ g2 < 4500) (q3 : 0 ≤ g3 ∧ g3 < 4500) (q4 : 0 ≤ g4 ∧ g4 < 4500) (e4 : c4.data = .cell v4) (e5 : c5.data = .cell v5) (l0 : @LT.lt Nat _ 224 L) (l1 : @LT.lt Nat _ (L + 1 + 1 + 1 + 1 + 1 + 1 + 1 + 1) nD) (l2 : FarE [nD, L + 1 + 1 + 1 + 1 + 1 + 1 + 1 + 1, L + 1 + 1 + 1 + 1 + 1 + 1 + 1, L + 1 + 1 + 1 + 1 + 1 + 1, L + 1 + 1 + 1 + 1 + 1, L + 1 + 1 + 1 + 1, L + 1 + 1, 224] [gD]) (F : Fr g L s.heap (fun z => if z = Str.ofString "given" then some (.ref gD) else m z)) (N : News g L s.heap [(gD, W.listOf [Value.int g0 t0, .int g1 t1, .int g2 t2, .int g3 t3, .int g4 t4].toArray 5), (nD, W.listOf nv.toArray 0), (L + 1 + 1 + 1 + 1 + 1 + 1 + 1 + 1, c8), (L + 1 + 1 + 1 + 1 + 1 + 1 + 1, c7), (L + 1 + 1 + 1 + 1 + 1 + 1, c6), (L + 1 + 1 + 1 + 1 + 1, c5), (L + 1 + 1 + 1 + 1, c4), (L + 1 + 1, d2), (224, tabObj #[])]) (h : ∀ h' tk aD (av : List Value) bD (bv : List Value) d4 d5, IntsAre av ([0] ++ [g1, g2, g3, g4].map fun g => g.fmod 3) → IntsAre bv ([0] ++ [g1, g2, g3, g4].map fun g => (g.fdiv 3).fmod 3) →
    d4.data = .cell (some (.ref aD)) → d5.data = .cell (some (.ref bD)) → (@LT.lt Nat _ (L + 1 + 1 + 1 + 1 + 1 + 1 + 1 + 1) aD) → (@LT.lt Nat _ (L + 1 + 1 + 1 + 1 + 1 + 1 + 1 + 1) bD) →
    Fr g L h' (fun z => if z = Str.ofString "given" then some (.ref gD) else m z) →
    News g L h' [(bD, W.listOf bv.toArray 0), (aD, W.listOf av.toArray 0), (gD, W.listOf [Value.int g0 t0, .int g1 t1, .int g2 t2, .int g3 t3, .int g4 t4].toArray 5), (nD, W.listOf nv.toArray 0), (L + 1 + 1 + 1 + 1 + 1 + 1 + 1 + 1, c8), (L + 1 + 1 + 1 + 1 + 1 + 1 + 1, c7), (L + 1 + 1 + 1 + 1 + 1 + 1, c6), (L + 1 + 1 + 1 + 1 + 1, d5), (L + 1 + 1 + 1 + 1, d4), (L + 1 + 1, d2), (224, tabObj #[])] →
    wpAny (model Challenge.rw_st0024_01.row.prog w) (A.deeper (lawEnv L fa cd)) (execs rest (lawEnv L fa cd)) Q E { s with heap := h', toks := tk }), wpAny (model Challenge.rw_st0024_01.row.prog w) (A.deeper (lawEnv L fa cd)) (execs (st3s.1 :: st4s.1 :: rest) (lawEnv L fa cd)) Q E s
noncomputable def P0 (z : World × Around × Heap × Heap × (List Env) × (Str → Option Value) × (Str → Option Value) × Program × (List Str) × (ExcName → Option Value) × Shared × Addr × Addr × Value × (Str → Option Value) × (Flow → Shared → Prop) × (Value → Shared → Prop) × (List Stmt) × Addr × Addr × (List Value) × Tok × Tok × Tok × Tok × Tok × Int × Int × Int × Int × Int × Obj × Obj × Obj × Obj × Obj × Obj × (Option Value) × (Option Value)) : Prop := Sta (z.1) (z.2.1) (z.2.2.1) (z.2.2.2.1) (z.2.2.2.2.1) (z.2.2.2.2.2.1) (z.2.2.2.2.2.2.1) (z.2.2.2.2.2.2.2.1) (z.2.2.2.2.2.2.2.2.1) (z.2.2.2.2.2.2.2.2.2.1) (z.2.2.2.2.2.2.2.2.2.2.1) (z.2.2.2.2.2.2.2.2.2.2.2.1) (z.2.2.2.2.2.2.2.2.2.2.2.2.1) (z.2.2.2.2.2.2.2.2.2.2.2.2.2.1) (z.2.2.2.2.2.2.2.2.2.2.2.2.2.2.1) (z.2.2.2.2.2.2.2.2.2.2.2.2.2.2.2.1) (z.2.2.2.2.2.2.2.2.2.2.2.2.2.2.2.2.1) (z.2.2.2.2.2.2.2.2.2.2.2.2.2.2.2.2.2.1) (z.2.2.2.2.2.2.2.2.2.2.2.2.2.2.2.2.2.2.1) (z.2.2.2.2.2.2.2.2.2.2.2.2.2.2.2.2.2.2.2.1) (z.2.2.2.2.2.2.2.2.2.2.2.2.2.2.2.2.2.2.2.2.1) (z.2.2.2.2.2.2.2.2.2.2.2.2.2.2.2.2.2.2.2.2.2.1) (z.2.2.2.2.2.2.2.2.2.2.2.2.2.2.2.2.2.2.2.2.2.2.1) (z.2.2.2.2.2.2.2.2.2.2.2.2.2.2.2.2.2.2.2.2.2.2.2.1) (z.2.2.2.2.2.2.2.2.2.2.2.2.2.2.2.2.2.2.2.2.2.2.2.2.1) (z.2.2.2.2.2.2.2.2.2.2.2.2.2.2.2.2.2.2.2.2.2.2.2.2.2.1) (z.2.2.2.2.2.2.2.2.2.2.2.2.2.2.2.2.2.2.2.2.2.2.2.2.2.2.1) (z.2.2.2.2.2.2.2.2.2.2.2.2.2.2.2.2.2.2.2.2.2.2.2.2.2.2.2.1) (z.2.2.2.2.2.2.2.2.2.2.2.2.2.2.2.2.2.2.2.2.2.2.2.2.2.2.2.2.1) (z.2.2.2.2.2.2.2.2.2.2.2.2.2.2.2.2.2.2.2.2.2.2.2.2.2.2.2.2.2.1) (z.2.2.2.2.2.2.2.2.2.2.2.2.2.2.2.2.2.2.2.2.2.2.2.2.2.2.2.2.2.2.1) (z.2.2.2.2.2.2.2.2.2.2.2.2.2.2.2.2.2.2.2.2.2.2.2.2.2.2.2.2.2.2.2.1) (z.2.2.2.2.2.2.2.2.2.2.2.2.2.2.2.2.2.2.2.2.2.2.2.2.2.2.2.2.2.2.2.2.1) (z.2.2.2.2.2.2.2.2.2.2.2.2.2.2.2.2.2.2.2.2.2.2.2.2.2.2.2.2.2.2.2.2.2.1) (z.2.2.2.2.2.2.2.2.2.2.2.2.2.2.2.2.2.2.2.2.2.2.2.2.2.2.2.2.2.2.2.2.2.2.1) (z.2.2.2.2.2.2.2.2.2.2.2.2.2.2.2.2.2.2.2.2.2.2.2.2.2.2.2.2.2.2.2.2.2.2.2.1) (z.2.2.2.2.2.2.2.2.2.2.2.2.2.2.2.2.2.2.2.2.2.2.2.2.2.2.2.2.2.2.2.2.2.2.2.2.1) (z.2.2.2.2.2.2.2.2.2.2.2.2.2.2.2.2.2.2.2.2.2.2.2.2.2.2.2.2.2.2.2.2.2.2.2.2.2.1) (z.2.2.2.2.2.2.2.2.2.2.2.2.2.2.2.2.2.2.2.2.2.2.2.2.2.2.2.2.2.2.2.2.2.2.2.2.2.2)
noncomputable def Z := @Classical.epsilon _ ⟨(w00, A00, default, default, [], (fun _ => none), (fun _ => none), default, [], (fun _ => none), s00, 0, 0, .none, (fun _ => none), (fun _ _ => True), (fun _ _ => True), [], 0, 0, [], 0, 0, 0, 0, 0, 0, 0, 0, 0, 0, default, default, default, default, default, default, none, none)⟩ fun z => ¬ P0 z
@[irreducible] noncomputable def w := Z.1
@[irreducible] noncomputable def A := Z.2.1
@[irreducible] noncomputable def base := Z.2.2.1
@[irreducible] noncomputable def g := Z.2.2.2.1
@[irreducible] noncomputable def fr := Z.2.2.2.2.1
@[irreducible] noncomputable def mg := Z.2.2.2.2.2.1
@[irreducible] noncomputable def mb := Z.2.2.2.2.2.2.1
@[irreducible] noncomputable def p := Z.2.2.2.2.2.2.2.1
@[irreducible] noncomputable def loose := Z.2.2.2.2.2.2.2.2.1
@[irreducible] noncomputable def mean := Z.2.2.2.2.2.2.2.2.2.1
@[irreducible] noncomputable def s := Z.2.2.2.2.2.2.2.2.2.2.1
@[irreducible] noncomputable def L := Z.2.2.2.2.2.2.2.2.2.2.2.1
@[irreducible] noncomputable def fa := Z.2.2.2.2.2.2.2.2.2.2.2.2.1
@[irreducible] noncomputable def cd := Z.2.2.2.2.2.2.2.2.2.2.2.2.2.1
@[irreducible] noncomputable def m := Z.2.2.2.2.2.2.2.2.2.2.2.2.2.2.1
@[irreducible] noncomputable def Q := Z.2.2.2.2.2.2.2.2.2.2.2.2.2.2.2.1
@[irreducible] noncomputable def E := Z.2.2.2.2.2.2.2.2.2.2.2.2.2.2.2.2.1
@[irreducible] noncomputable def rest := Z.2.2.2.2.2.2.2.2.2.2.2.2.2.2.2.2.2.1
@[irreducible] noncomputable def gD := Z.2.2.2.2.2.2.2.2.2.2.2.2.2.2.2.2.2.2.1
@[irreducible] noncomputable def nD := Z.2.2.2.2.2.2.2.2.2.2.2.2.2.2.2.2.2.2.2.1
@[irreducible] noncomputable def nv := Z.2.2.2.2.2.2.2.2.2.2.2.2.2.2.2.2.2.2.2.2.1
@[irreducible] noncomputable def t0 := Z.2.2.2.2.2.2.2.2.2.2.2.2.2.2.2.2.2.2.2.2.2.1
@[irreducible] noncomputable def t1 := Z.2.2.2.2.2.2.2.2.2.2.2.2.2.2.2.2.2.2.2.2.2.2.1
@[irreducible] noncomputable def t2 := Z.2.2.2.2.2.2.2.2.2.2.2.2.2.2.2.2.2.2.2.2.2.2.2.1
@[irreducible] noncomputable def t3 := Z.2.2.2.2.2.2.2.2.2.2.2.2.2.2.2.2.2.2.2.2.2.2.2.2.1
@[irreducible] noncomputable def t4 := Z.2.2.2.2.2.2.2.2.2.2.2.2.2.2.2.2.2.2.2.2.2.2.2.2.2.1
@[irreducible] noncomputable def g0 := Z.2.2.2.2.2.2.2.2.2.2.2.2.2.2.2.2.2.2.2.2.2.2.2.2.2.2.1
@[irreducible] noncomputable def g1 := Z.2.2.2.2.2.2.2.2.2.2.2.2.2.2.2.2.2.2.2.2.2.2.2.2.2.2.2.1
@[irreducible] noncomputable def g2 := Z.2.2.2.2.2.2.2.2.2.2.2.2.2.2.2.2.2.2.2.2.2.2.2.2.2.2.2.2.1
@[irreducible] noncomputable def g3 := Z.2.2.2.2.2.2.2.2.2.2.2.2.2.2.2.2.2.2.2.2.2.2.2.2.2.2.2.2.2.1
@[irreducible] noncomputable def g4 := Z.2.2.2.2.2.2.2.2.2.2.2.2.2.2.2.2.2.2.2.2.2.2.2.2.2.2.2.2.2.2.1
@[irreducible] noncomputable def d2 := Z.2.2.2.2.2.2.2.2.2.2.2.2.2.2.2.2.2.2.2.2.2.2.2.2.2.2.2.2.2.2.2.1
@[irreducible] noncomputable def c4 := Z.2.2.2.2.2.2.2.2.2.2.2.2.2.2.2.2.2.2.2.2.2.2.2.2.2.2.2.2.2.2.2.2.1
@[irreducible] noncomputable def c5 := Z.2.2.2.2.2.2.2.2.2.2.2.2.2.2.2.2.2.2.2.2.2.2.2.2.2.2.2.2.2.2.2.2.2.1
@[irreducible] noncomputable def c6 := Z.2.2.2.2.2.2.2.2.2.2.2.2.2.2.2.2.2.2.2.2.2.2.2.2.2.2.2.2.2.2.2.2.2.2.1
@[irreducible] noncomputable def c7 := Z.2.2.2.2.2.2.2.2.2.2.2.2.2.2.2.2.2.2.2.2.2.2.2.2.2.2.2.2.2.2.2.2.2.2.2.1
@[irreducible] noncomputable def c8 := Z.2.2.2.2.2.2.2.2.2.2.2.2.2.2.2.2.2.2.2.2.2.2.2.2.2.2.2.2.2.2.2.2.2.2.2.2.1
@[irreducible] noncomputable def v4 := Z.2.2.2.2.2.2.2.2.2.2.2.2.2.2.2.2.2.2.2.2.2.2.2.2.2.2.2.2.2.2.2.2.2.2.2.2.2.1
@[irreducible] noncomputable def v5 := Z.2.2.2.2.2.2.2.2.2.2.2.2.2.2.2.2.2.2.2.2.2.2.2.2.2.2.2.2.2.2.2.2.2.2.2.2.2.2
set_option maxHeartbeats 4000000 in
theorem key : Sta w A base g fr mg mb p loose mean s L fa cd m Q E rest gD nD nv t0 t1 t2 t3 t4 g0 g1 g2 g3 g4 d2 c4 c5 c6 c7 c8 v4 v5 := fun B X T hh hroom hu q0 q1 q2 q3 q4 e4 e5 l0 l1 l2 F N h => by
  revert X; k_fill; intro X
  dsimp only
  k_steps
  (rename Fr _ _ _ _ => F2)
  (rename News _ _ _ _ => N2)
  refine LCg.CompSrc.ledger hh F2 N2 (by k_mem) (Nat.le_of_ble_eq_true rfl) ?_
  (tm_at "nmx1"; refine fun g' => ?_)
  refine cr_ints (vs := [.int g1 t1, .int g2 t2, .int g3 t3, .int g4 t4]) (ns := [g1, g2, g3, g4]) (.cons _ _ (.cons _ _ (.cons _ _ (.cons _ _ .nil)))) (fun g => g.fmod 3) ?_ ?_
  · rintro k t ys I' oI' C' oC' D' m' h' tk' E' hk hC' hx' F' N' off' ne'
    (revert k t ys I' oI' C' oC' D' m' h' tk' E'; tm_at "nmx12"; refine fun k t ys I' oI' C' oC' D' m' h' tk' E' => ?_; k_extra "kw")
    k_steps
    all_goals exact ⟨rfl, _, rfl⟩
  (tm_at "nmx1"; refine fun ys => ?_)
  intro hy
  k_steps
  (rename Fr _ _ _ _ => F2)
  (rename News _ _ _ _ => N2)
  refine LCg.CompSrc.ledger hh F2 N2 (by k_mem) (Nat.le_of_ble_eq_true rfl) ?_
  (tm_at "nmx1"; refine fun g' => ?_)
  refine cr_ints (vs := [.int g1 t1, .int g2 t2, .int g3 t3, .int g4 t4]) (ns := [g1, g2, g3, g4]) (.cons _ _ (.cons _ _ (.cons _ _ (.cons _ _ .nil)))) (fun g => (g.fdiv 3).fmod 3) ?_ ?_
  · rintro k t ys I' oI' C' oC' D' m' h' tk' E' hk hC' hx' F' N' off' ne'
    (revert k t ys I' oI' C' oC' D' m' h' tk' E'; tm_at "nmx12"; refine fun k t ys I' oI' C' oC' D' m' h' tk' E' => ?_; k_extra "kw")
    k_steps
    all_goals exact ⟨rfl, _, rfl⟩
  (tm_at "nmx1"; refine fun ys2 => ?_)
  intro hy2
  k_steps
  (rename Fr _ _ _ _ => F5)
  (rename News _ _ _ _ => N5)
  obtain ⟨bD, aD, bv, av, d5, d4⟩ := nm_b N5
  refine h _ _ aD av bD bv d4 d5 (by assumption) (by assumption) (by assumption) (by assumption) (by omega) (by omega) F5 (News.sub' N5 ?_)
  k_extra "gs_sub"
theorem zeq : (w, A, base, g, fr, mg, mb, p, loose, mean, s, L, fa, cd, m, Q, E, rest, gD, nD, nv, t0, t1, t2, t3, t4, g0, g1, g2, g3, g4, d2, c4, c5, c6, c7, c8, v4, v5) = Z := by with_unfolding_all rfl
end Cseg_b
set_option maxHeartbeats 4000000 in
theorem seg_b {w : World} {A : Around} {base g : Heap} {fr : List Env} {mg mb : Str → Option Value} {p : Program} {loose : List Str} {mean : ExcName → Option Value} {s : Shared} {L fa : Addr} {cd : Value} {m : Str → Option Value} {Q : Flow → Shared → Prop} {E : Value → Shared → Prop} {rest : List Stmt} {gD nD : Addr} {nv : List Value} {t0 t1 t2 t3 t4 : Tok} {g0 g1 g2 g3 g4 : Int} {d2 c4 c5 c6 c7 c8 : Obj} {v4 v5 : Option Value} : Cseg_b.Sta w A base g fr mg mb p loose mean s L fa cd m Q E rest gD nD nv t0 t1 t2 t3 t4 g0 g1 g2 g3 g4 d2 c4 c5 c6 c7 c8 v4 v5 :=
  hilb Cseg_b.P0 Cseg_b.Z rfl (Eq.subst (motive := Cseg_b.P0) Cseg_b.zeq Cseg_b.key) (w, A, base, g, fr, mg, mb, p, loose, mean, s, L, fa, cd, m, Q, E, rest, gD, nD, nv, t0, t1, t2, t3, t4, g0, g1, g2, g3, g4, d2, c4, c5, c6, c7, c8, v4, v5)
section
end
end Mine
local macro_rules | `(tactic| walk_at "no key 5") => `(tactic| skip)
local macro_rules | `(tactic| walk_at "no key 6") => `(tactic| skip)

namespace Mine
local macro_rules | `(tactic| walk_at "CompEnd") => `(tactic| ((with_reducible show LCg.CompEnd _ _ _ _ _ _ _ _ _ _ _ _ (Value.ref _) _); refine stop_in ?_))
noncomputable def rowOf (g : Int) : List Int := [(g.fdiv 9).fmod 5, (g.fdiv 45).fmod 5, (g.fdiv 225).fmod 5]
theorem nm_c {g h : Heap} {L a : Addr} {b : Addr} {o ob : Obj} {l r : List (Addr × Obj)} (N : News g L h ((a, o) :: (l ++ (b, ob) :: r))) : Nm a ∧ Nm b := ⟨.mk, .mk⟩
theorem row101 : True := by
  k_with "subscriptTail ref int" => (k_here; k_dflt (refine' item_N ?Nr101 ?mr101 ?ir101 ?h0r101 ?h1r101 ?h2r101 ?_; (case Nr101 => k_asm); (case mr101 => k_mem); (case ir101 => assumption); (case h0r101 => omega); (case h1r101 => omega); (case h2r101 => omega)); ((first | tm_at "clo1" | refine fun _ => ?_)))
  trivial
section
variable {w : World} {A : Around} {base g : Heap} {fr : List Env} {mg mb : Str → Option Value} {p : Program} {loose : List Str} {mean : ExcName → Option Value} {s : Shared} {L fa : Addr} {cd : Value} {m : Str → Option Value} {Q : Flow → Shared → Prop} {E : Value → Shared → Prop} {rest : List Stmt}
  (B : Below A base fr g) (X : Frag.In (hd.heap_39 w.params) g) (T : Top p loose mean mg mb g)
include B X T
end
namespace Cseg_c
noncomputable def Sta (w : World) (A : Around) (base g : Heap) (fr : List Env) (mg mb : Str → Option Value) (p : Program) (loose : List Str) (mean : ExcName → Option Value) (s : Shared) (L fa : Addr) (cd : Value) (m : Str → Option Value) (Q : Flow → Shared → Prop) (E : Value → Shared → Prop) (rest : List Stmt) (gD nD aD bD : Addr) (nv av bv : List Value) (as bs : List Int) (t0 t1 t2 t3 t4 : Tok) (g0 g1 g2 g3 g4 : Int) (c2 c4 c5 c6 c7 c8 : Obj) : Prop := ∀ (B : Below A base fr g) (X : Frag.In (hd.heap_39 w.params) g) (T : Top p loose mean mg mb g) (hh : A.handled = none) (hroom : A.depth + 60 < recursionLimit) (hu : A.units + 600 < cLine) (ha : IntsAre av as) (hb : IntsAre bv bs) (ha5 : as.length = 5) (hb5 : bs.length = 5) (e4 : c4.data = .cell (some (.ref aD))) (e5 : c5.data = .cell (some (.ref bD))) (l0 : @LT.lt Nat _ 224 L) (l1 : @LT.lt Nat _ (L + 1 + 1 + 1 + 1 + 1 + 1 + 1 + 1) nD) (l2 : FarE [nD, L + 1 + 1 + 1 + 1 + 1 + 1 + 1 + 1, L + 1 + 1 + 1 + 1 + 1 + 1 + 1, L + 1 + 1 + 1 + 1 + 1 + 1, L + 1 + 1 + 1 + 1 + 1, L + 1 + 1 + 1 + 1, L + 1 + 1, 224] [gD]) (l3 : @LT.lt Nat _ (L + 1 + 1 + 1 + 1 + 1 + 1 + 1 + 1) aD) (l4 : @LT.lt Nat _ (L + 1 + 1 + 1 + 1 + 1 + 1 + 1 + 1) bD) (F : Fr g L s.heap (fun z => if z = Str.ofString "given" then some (.ref gD) else m z)) (N : News g L s.heap [(bD, W.listOf bv.toArray 0), (aD, W.listOf av.toArray 0), (gD, W.listOf [Value.int g0 t0, .int g1 t1, .int g2 t2, .int g3 t3, .int g4 t4].toArray 5), (nD, W.listOf nv.toArray 0), (L + 1 + 1 + 1 + 1 + 1 + 1 + 1 + 1, c8), (L + 1 + 1 + 1 + 1 + 1 + 1 + 1, c7), (L + 1 + 1 + 1 + 1 + 1 + 1, c6), (L + 1 + 1 + 1 + 1 + 1, c5), (L + 1 + 1 + 1 + 1, c4), (L + 1 + 1, c2), (224, tabObj #[])]) (h : ∀ h' tk (q : ToldP) nd (ndv : List Value), IntsAre ndv ((List.range 5).map fun (i : Nat) => as.getD (0 + (i : Int)).toNat 0 + bs.getD (0 + (i : Int)).toNat 0) → IntsAre q.v0 (rowOf g0) → IntsAre q.v1 (rowOf g1) → IntsAre q.v2 (rowOf g2) → IntsAre q.v3 (rowOf g3) → IntsAre q.v4 (rowOf g4) →
    FarE [L + 1 + 1 + 1 + 1 + 1 + 1 + 1 + 1, L + 1 + 1 + 1 + 1 + 1 + 1 + 1, L + 1 + 1 + 1 + 1 + 1 + 1, L + 1 + 1 + 1 + 1 + 1, L + 1 + 1 + 1 + 1, L + 1 + 1, 224] [nd, q.tl, q.a0, q.a1, q.a2, q.a3, q.a4] →
    Fr g L h' (fun z => if z = Str.ofString "told" then some (.ref q.tl) else if z = Str.ofString "need" then some (.ref nd) else if z = Str.ofString "given" then some (.ref gD) else m z) →
    News g L h' ((nd, W.listOf ndv.toArray ndv.length) :: (toldNews q ++ [(bD, W.listOf bv.toArray 0), (aD, W.listOf av.toArray 0), (gD, W.listOf [Value.int g0 t0, .int g1 t1, .int g2 t2, .int g3 t3, .int g4 t4].toArray 5), (nD, W.listOf nv.toArray 0), (L + 1 + 1 + 1 + 1 + 1 + 1 + 1 + 1, c8), (L + 1 + 1 + 1 + 1 + 1 + 1 + 1, c7), (L + 1 + 1 + 1 + 1 + 1 + 1, c6), (L + 1 + 1 + 1 + 1 + 1, c5), (L + 1 + 1 + 1 + 1, c4), (L + 1 + 1, c2), (224, tabObj #[])])) →
    wpAny (model Challenge.rw_st0024_01.row.prog w) (A.deeper (lawEnv L fa cd)) (execs rest (lawEnv L fa cd)) Q E { s with heap := h', toks := tk }), wpAny (model Challenge.rw_st0024_01.row.prog w) (A.deeper (lawEnv L fa cd)) (execs (st5s.1 :: st6s.1 :: rest) (lawEnv L fa cd)) Q E s
noncomputable def P0 (z : World × Around × Heap × Heap × (List Env) × (Str → Option Value) × (Str → Option Value) × Program × (List Str) × (ExcName → Option Value) × Shared × Addr × Addr × Value × (Str → Option Value) × (Flow → Shared → Prop) × (Value → Shared → Prop) × (List Stmt) × Addr × Addr × Addr × Addr × (List Value) × (List Value) × (List Value) × (List Int) × (List Int) × Tok × Tok × Tok × Tok × Tok × Int × Int × Int × Int × Int × Obj × Obj × Obj × Obj × Obj × Obj) : Prop := Sta (z.1) (z.2.1) (z.2.2.1) (z.2.2.2.1) (z.2.2.2.2.1) (z.2.2.2.2.2.1) (z.2.2.2.2.2.2.1) (z.2.2.2.2.2.2.2.1) (z.2.2.2.2.2.2.2.2.1) (z.2.2.2.2.2.2.2.2.2.1) (z.2.2.2.2.2.2.2.2.2.2.1) (z.2.2.2.2.2.2.2.2.2.2.2.1) (z.2.2.2.2.2.2.2.2.2.2.2.2.1) (z.2.2.2.2.2.2.2.2.2.2.2.2.2.1) (z.2.2.2.2.2.2.2.2.2.2.2.2.2.2.1) (z.2.2.2.2.2.2.2.2.2.2.2.2.2.2.2.1) (z.2.2.2.2.2.2.2.2.2.2.2.2.2.2.2.2.1) (z.2.2.2.2.2.2.2.2.2.2.2.2.2.2.2.2.2.1) (z.2.2.2.2.2.2.2.2.2.2.2.2.2.2.2.2.2.2.1) (z.2.2.2.2.2.2.2.2.2.2.2.2.2.2.2.2.2.2.2.1) (z.2.2.2.2.2.2.2.2.2.2.2.2.2.2.2.2.2.2.2.2.1) (z.2.2.2.2.2.2.2.2.2.2.2.2.2.2.2.2.2.2.2.2.2.1) (z.2.2.2.2.2.2.2.2.2.2.2.2.2.2.2.2.2.2.2.2.2.2.1) (z.2.2.2.2.2.2.2.2.2.2.2.2.2.2.2.2.2.2.2.2.2.2.2.1) (z.2.2.2.2.2.2.2.2.2.2.2.2.2.2.2.2.2.2.2.2.2.2.2.2.1) (z.2.2.2.2.2.2.2.2.2.2.2.2.2.2.2.2.2.2.2.2.2.2.2.2.2.1) (z.2.2.2.2.2.2.2.2.2.2.2.2.2.2.2.2.2.2.2.2.2.2.2.2.2.2.1) (z.2.2.2.2.2.2.2.2.2.2.2.2.2.2.2.2.2.2.2.2.2.2.2.2.2.2.2.1) (z.2.2.2.2.2.2.2.2.2.2.2.2.2.2.2.2.2.2.2.2.2.2.2.2.2.2.2.2.1) (z.2.2.2.2.2.2.2.2.2.2.2.2.2.2.2.2.2.2.2.2.2.2.2.2.2.2.2.2.2.1) (z.2.2.2.2.2.2.2.2.2.2.2.2.2.2.2.2.2.2.2.2.2.2.2.2.2.2.2.2.2.2.1) (z.2.2.2.2.2.2.2.2.2.2.2.2.2.2.2.2.2.2.2.2.2.2.2.2.2.2.2.2.2.2.2.1) (z.2.2.2.2.2.2.2.2.2.2.2.2.2.2.2.2.2.2.2.2.2.2.2.2.2.2.2.2.2.2.2.2.1) (z.2.2.2.2.2.2.2.2.2.2.2.2.2.2.2.2.2.2.2.2.2.2.2.2.2.2.2.2.2.2.2.2.2.1) (z.2.2.2.2.2.2.2.2.2.2.2.2.2.2.2.2.2.2.2.2.2.2.2.2.2.2.2.2.2.2.2.2.2.2.1) (z.2.2.2.2.2.2.2.2.2.2.2.2.2.2.2.2.2.2.2.2.2.2.2.2.2.2.2.2.2.2.2.2.2.2.2.1) (z.2.2.2.2.2.2.2.2.2.2.2.2.2.2.2.2.2.2.2.2.2.2.2.2.2.2.2.2.2.2.2.2.2.2.2.2.1) (z.2.2.2.2.2.2.2.2.2.2.2.2.2.2.2.2.2.2.2.2.2.2.2.2.2.2.2.2.2.2.2.2.2.2.2.2.2.1) (z.2.2.2.2.2.2.2.2.2.2.2.2.2.2.2.2.2.2.2.2.2.2.2.2.2.2.2.2.2.2.2.2.2.2.2.2.2.2.1) (z.2.2.2.2.2.2.2.2.2.2.2.2.2.2.2.2.2.2.2.2.2.2.2.2.2.2.2.2.2.2.2.2.2.2.2.2.2.2.2.1) (z.2.2.2.2.2.2.2.2.2.2.2.2.2.2.2.2.2.2.2.2.2.2.2.2.2.2.2.2.2.2.2.2.2.2.2.2.2.2.2.2.1) (z.2.2.2.2.2.2.2.2.2.2.2.2.2.2.2.2.2.2.2.2.2.2.2.2.2.2.2.2.2.2.2.2.2.2.2.2.2.2.2.2.2.1) (z.2.2.2.2.2.2.2.2.2.2.2.2.2.2.2.2.2.2.2.2.2.2.2.2.2.2.2.2.2.2.2.2.2.2.2.2.2.2.2.2.2.2)
noncomputable def Z := @Classical.epsilon _ ⟨(w00, A00, default, default, [], (fun _ => none), (fun _ => none), default, [], (fun _ => none), s00, 0, 0, .none, (fun _ => none), (fun _ _ => True), (fun _ _ => True), [], 0, 0, 0, 0, [], [], [], [], [], 0, 0, 0, 0, 0, 0, 0, 0, 0, 0, default, default, default, default, default, default)⟩ fun z => ¬ P0 z
@[irreducible] noncomputable def w := Z.1
@[irreducible] noncomputable def A := Z.2.1
@[irreducible] noncomputable def base := Z.2.2.1
@[irreducible] noncomputable def g := Z.2.2.2.1
@[irreducible] noncomputable def fr := Z.2.2.2.2.1
@[irreducible] noncomputable def mg := Z.2.2.2.2.2.1
@[irreducible] noncomputable def mb := Z.2.2.2.2.2.2.1
@[irreducible] noncomputable def p := Z.2.2.2.2.2.2.2.1
@[irreducible] noncomputable def loose := Z.2.2.2.2.2.2.2.2.1
@[irreducible] noncomputable def mean := Z.2.2.2.2.2.2.2.2.2.1
@[irreducible] noncomputable def s := Z.2.2.2.2.2.2.2.2.2.2.1
@[irreducible] noncomputable def L := Z.2.2.2.2.2.2.2.2.2.2.2.1
@[irreducible] noncomputable def fa := Z.2.2.2.2.2.2.2.2.2.2.2.2.1
@[irreducible] noncomputable def cd := Z.2.2.2.2.2.2.2.2.2.2.2.2.2.1
@[irreducible] noncomputable def m := Z.2.2.2.2.2.2.2.2.2.2.2.2.2.2.1
@[irreducible] noncomputable def Q := Z.2.2.2.2.2.2.2.2.2.2.2.2.2.2.2.1
@[irreducible] noncomputable def E := Z.2.2.2.2.2.2.2.2.2.2.2.2.2.2.2.2.1
@[irreducible] noncomputable def rest := Z.2.2.2.2.2.2.2.2.2.2.2.2.2.2.2.2.2.1
@[irreducible] noncomputable def gD := Z.2.2.2.2.2.2.2.2.2.2.2.2.2.2.2.2.2.2.1
@[irreducible] noncomputable def nD := Z.2.2.2.2.2.2.2.2.2.2.2.2.2.2.2.2.2.2.2.1
@[irreducible] noncomputable def aD := Z.2.2.2.2.2.2.2.2.2.2.2.2.2.2.2.2.2.2.2.2.1
@[irreducible] noncomputable def bD := Z.2.2.2.2.2.2.2.2.2.2.2.2.2.2.2.2.2.2.2.2.2.1
@[irreducible] noncomputable def nv := Z.2.2.2.2.2.2.2.2.2.2.2.2.2.2.2.2.2.2.2.2.2.2.1
@[irreducible] noncomputable def av := Z.2.2.2.2.2.2.2.2.2.2.2.2.2.2.2.2.2.2.2.2.2.2.2.1
@[irreducible] noncomputable def bv := Z.2.2.2.2.2.2.2.2.2.2.2.2.2.2.2.2.2.2.2.2.2.2.2.2.1
@[irreducible] noncomputable def as := Z.2.2.2.2.2.2.2.2.2.2.2.2.2.2.2.2.2.2.2.2.2.2.2.2.2.1
@[irreducible] noncomputable def bs := Z.2.2.2.2.2.2.2.2.2.2.2.2.2.2.2.2.2.2.2.2.2.2.2.2.2.2.1
@[irreducible] noncomputable def t0 := Z.2.2.2.2.2.2.2.2.2.2.2.2.2.2.2.2.2.2.2.2.2.2.2.2.2.2.2.1
@[irreducible] noncomputable def t1 := Z.2.2.2.2.2.2.2.2.2.2.2.2.2.2.2.2.2.2.2.2.2.2.2.2.2.2.2.2.1
@[irreducible] noncomputable def t2 := Z.2.2.2.2.2.2.2.2.2.2.2.2.2.2.2.2.2.2.2.2.2.2.2.2.2.2.2.2.2.1
@[irreducible] noncomputable def t3 := Z.2.2.2.2.2.2.2.2.2.2.2.2.2.2.2.2.2.2.2.2.2.2.2.2.2.2.2.2.2.2.1
@[irreducible] noncomputable def t4 := Z.2.2.2.2.2.2.2.2.2.2.2.2.2.2.2.2.2.2.2.2.2.2.2.2.2.2.2.2.2.2.2.1
@[irreducible] noncomputable def g0 := Z.2.2.2.2.2.2.2.2.2.2.2.2.2.2.2.2.2.2.2.2.2.2.2.2.2.2.2.2.2.2.2.2.1
@[irreducible] noncomputable def g1 := Z.2.2.2.2.2.2.2.2.2.2.2.2.2.2.2.2.2.2.2.2.2.2.2.2.2.2.2.2.2.2.2.2.2.1
@[irreducible] noncomputable def g2 := Z.2.2.2.2.2.2.2.2.2.2.2.2.2.2.2.2.2.2.2.2.2.2.2.2.2.2.2.2.2.2.2.2.2.2.1
@[irreducible] noncomputable def g3 := Z.2.2.2.2.2.2.2.2.2.2.2.2.2.2.2.2.2.2.2.2.2.2.2.2.2.2.2.2.2.2.2.2.2.2.2.1
@[irreducible] noncomputable def g4 := Z.2.2.2.2.2.2.2.2.2.2.2.2.2.2.2.2.2.2.2.2.2.2.2.2.2.2.2.2.2.2.2.2.2.2.2.2.1
@[irreducible] noncomputable def c2 := Z.2.2.2.2.2.2.2.2.2.2.2.2.2.2.2.2.2.2.2.2.2.2.2.2.2.2.2.2.2.2.2.2.2.2.2.2.2.1
@[irreducible] noncomputable def c4 := Z.2.2.2.2.2.2.2.2.2.2.2.2.2.2.2.2.2.2.2.2.2.2.2.2.2.2.2.2.2.2.2.2.2.2.2.2.2.2.1
@[irreducible] noncomputable def c5 := Z.2.2.2.2.2.2.2.2.2.2.2.2.2.2.2.2.2.2.2.2.2.2.2.2.2.2.2.2.2.2.2.2.2.2.2.2.2.2.2.1
@[irreducible] noncomputable def c6 := Z.2.2.2.2.2.2.2.2.2.2.2.2.2.2.2.2.2.2.2.2.2.2.2.2.2.2.2.2.2.2.2.2.2.2.2.2.2.2.2.2.1
@[irreducible] noncomputable def c7 := Z.2.2.2.2.2.2.2.2.2.2.2.2.2.2.2.2.2.2.2.2.2.2.2.2.2.2.2.2.2.2.2.2.2.2.2.2.2.2.2.2.2.1
@[irreducible] noncomputable def c8 := Z.2.2.2.2.2.2.2.2.2.2.2.2.2.2.2.2.2.2.2.2.2.2.2.2.2.2.2.2.2.2.2.2.2.2.2.2.2.2.2.2.2.2
set_option maxHeartbeats 4000000 in
theorem key : Sta w A base g fr mg mb p loose mean s L fa cd m Q E rest gD nD aD bD nv av bv as bs t0 t1 t2 t3 t4 g0 g1 g2 g3 g4 c2 c4 c5 c6 c7 c8 := fun B X T hh hroom hu ha hb ha5 hb5 e4 e5 l0 l1 l2 l3 l4 F N h => by
  revert X; k_fill; intro X
  dsimp only
  k_steps
  (rename Fr _ _ _ _ => F2)
  (rename News _ _ _ _ => N2)
  refine LCg.CompSrc.range hh F2 N2 (by assumption) (by decide) (n := 5) (by rfl) (Nat.le_of_ble_eq_true rfl) ?_
  (tm_at "nmx1"; refine fun g' => ?_)
  refine cr_rng (fun i => as.getD (0 + (i : Int)).toNat 0 + bs.getD (0 + (i : Int)).toNat 0) ?_ ?_
  · rintro i t ys I' oI' C' oC' D' m' h' tk' E' hi hC' hx' F' N' off' ne'
    (revert i t ys I' oI' C' oC' D' m' h' tk' E'; tm_at "nmx12"; refine fun i t ys I' oI' C' oC' D' m' h' tk' E' => ?_; k_extra "kw")
    k_steps
    all_goals exact ⟨rfl, _, rfl⟩
  (tm_at "nmx1"; refine fun ys => ?_)
  intro hy
  k_steps
  (rename Fr _ _ _ _ => F2)
  (rename News _ _ _ _ => N2)
  refine LCg.CompSrc.ledger hh F2 N2 (by k_mem) (Nat.le_of_ble_eq_true rfl) ?_
  (tm_at "nmx1"; refine fun g' => ?_)
  refine cr_rows (vs := [.int g0 t0, .int g1 t1, .int g2 t2, .int g3 t3, .int g4 t4]) (ns := [g0, g1, g2, g3, g4]) (.cons _ _ (.cons _ _ (.cons _ _ (.cons _ _ (.cons _ _ .nil))))) rowOf (.inr ⟨_, by k_mem, rfl, _, rfl⟩) ?_ ?_ ?_
  · rintro p nw (h | ⟨o, hm, h⟩)
    · exact .inl h
    · exact .inr ⟨o, List.mem_cons_of_mem _ hm, h⟩
  · clear F2 N2
    rintro k t ys nw I' oI' C' oC' D' m' h' tk' E' hS hC' hx' F' N' off' ne'
    (revert k t ys nw I' oI' C' oC' D' m' h' tk' E'; tm_at "nmx13"; refine fun k t ys nw I' oI' C' oC' D' m' h' tk' E' => ?_; k_extra "kw")
    k_steps
    (rename Fr _ _ _ _ => F3)
    (rename News _ _ _ _ => N3)
    refine compEnd_new F3 N3 off' (by assumption) ?_ ⟨_, [_, _, _], rfl, rfl, .cons _ _ (.cons _ _ (.cons _ _ .nil)), ?_⟩
    · rcases hS with h | ⟨o, hm, h⟩
      · exact .inl h
      · exact .inr ⟨o, List.mem_cons_of_mem _ hm, h⟩
    · (rename Hid _ => l9)
      exact allLt_3 l9
  · clear F2 N2
    (tm_at "nmx1"; refine fun rs => ?_)
    intro hl hr
    (rename LCg.Off1 _ _ => o2)
    k_steps
    (rename Fr _ _ _ _ => F3)
    (rename News _ _ _ _ => N3)
    (rename LCg.Off1 _ _ => o3)
    obtain ⟨tl, nd⟩ := nm_c N3
    obtain ⟨⟨r0, w0⟩, ⟨r1, w1⟩, ⟨r2, w2⟩, ⟨r3, w3⟩, ⟨r4, w4⟩, e5⟩ := five_of hl
    rw [e5] at hr N3 o3
    (revert r0 w0 r1 w1 r2 w2 r3 w3 r4 w4; tm_at "nmx10"; refine fun r0 w0 r1 w1 r2 w2 r3 w3 r4 w4 => ?_; k_extra "kw")
    have h0 := hr 0 (r0, w0) rfl
    have h1 := hr 1 (r1, w1) rfl
    have h2 := hr 2 (r2, w2) rfl
    have h3 := hr 3 (r3, w3) rfl
    have h4 := hr 4 (r4, w4) rfl
    clear hr
    dsimp only [List.map, List.reverse, List.reverseAux, List.cons_append, List.nil_append] at h0 h1 h2 h3 h4 N3 o3
    refine h _ _ ⟨tl, r0, r1, r2, r3, r4, w0, w1, w2, w3, w4, [Value.ref r0, .ref r1, .ref r2, .ref r3, .ref r4].length, 0, 0, 0, 0, 0⟩ nd ys hy h0.1 h1.1 h2.1 h3.1 h4.1 ?_ F3 (News.sub' N3 ?_)
    · refine farE_tup (farE_tup (farE_tup (farE_tup (farE_tup (farE_tup (farE_tup farE_nil (allLt_ne' h4.2 ?_)) (allLt_ne' h3.2 ?_)) (allLt_ne' h2.2 ?_)) (allLt_ne' h1.2 ?_)) (allLt_ne' h0.2 ?_)) (off1_ne' o3 ?_)) (off1_ne' o2 ?_) <;> (dsimp only [List.map]; (iterate 7 (refine Sub.cons ?_ ?_; k_mem)); exact Sub.nil)
    · dsimp only [toldNews, List.map, List.reverse, List.reverseAux, List.cons_append, List.nil_append]; k_extra "gs_sub"
theorem zeq : (w, A, base, g, fr, mg, mb, p, loose, mean, s, L, fa, cd, m, Q, E, rest, gD, nD, aD, bD, nv, av, bv, as, bs, t0, t1, t2, t3, t4, g0, g1, g2, g3, g4, c2, c4, c5, c6, c7, c8) = Z := by with_unfolding_all rfl
end Cseg_c
set_option maxHeartbeats 4000000 in
theorem seg_c {w : World} {A : Around} {base g : Heap} {fr : List Env} {mg mb : Str → Option Value} {p : Program} {loose : List Str} {mean : ExcName → Option Value} {s : Shared} {L fa : Addr} {cd : Value} {m : Str → Option Value} {Q : Flow → Shared → Prop} {E : Value → Shared → Prop} {rest : List Stmt} {gD nD aD bD : Addr} {nv av bv : List Value} {as bs : List Int} {t0 t1 t2 t3 t4 : Tok} {g0 g1 g2 g3 g4 : Int} {c2 c4 c5 c6 c7 c8 : Obj} : Cseg_c.Sta w A base g fr mg mb p loose mean s L fa cd m Q E rest gD nD aD bD nv av bv as bs t0 t1 t2 t3 t4 g0 g1 g2 g3 g4 c2 c4 c5 c6 c7 c8 :=
  hilb Cseg_c.P0 Cseg_c.Z rfl (Eq.subst (motive := Cseg_c.P0) Cseg_c.zeq Cseg_c.key) (w, A, base, g, fr, mg, mb, p, loose, mean, s, L, fa, cd, m, Q, E, rest, gD, nD, aD, bD, nv, av, bv, as, bs, t0, t1, t2, t3, t4, g0, g1, g2, g3, g4, c2, c4, c5, c6, c7, c8)
section
end
end Mine
local macro_rules | `(tactic| walk_at "no key 7") => `(tactic| skip)
local macro_rules | `(tactic| walk_at "no key 8") => `(tactic| skip)

namespace Mine
section
variable {prog : Program} {w : World} {A : Around} {E : Value → Shared → Prop} {s : Shared} {h₀ : Heap} {L : Addr} {m : Str → Option Value} {news : List (Addr × Obj)}
theorem item_VE {value slice : Expr} {l : Addr} {vs : List Value} {k : Int} {u : Tok} {n : Nat} {x : Value} {Q : Value → Shared → Prop} (N : News h₀ L s.heap news) (hm : (l, W.listOf vs.toArray n) ∈ news)
    (hx : vs[k.toNat]? = some x) (h0 : 0 ≤ k) (h1 : k < 1000) (h : Q x s)
    (hs : subscripted slice false (.ref l) (.int k u) = operate [.ref l, .int k u] (getItem (.ref l) (.int k u)) := by with_unfolding_all rfl) (hg : ∀ r, letTemporaryGo value (.ref l) r = pure () := by intro _; with_unfolding_all rfl) :
    wpAny (model prog w) A (subscriptTail value slice (.ref l) (.int k u)) Q E s :=
  item_listL (lst_N N hm) h0 (by omega) hx h hs hg
theorem item_NE {value slice : Expr} {l : Addr} {vs : List Value} {ns : List Int} {k z : Int} {u : Tok} {n : Nat} {Q : Value → Shared → Prop} (N : News h₀ L s.heap news) (hm : (l, W.listOf vs.toArray n) ∈ news) (hi : IntsAre vs ns)
    (hx : ns[k.toNat]? = some z) (h0 : 0 ≤ k) (h1 : k < 1000) (h : ∀ t, Q (.int z t) s)
    (hs : subscripted slice false (.ref l) (.int k u) = operate [.ref l, .int k u] (getItem (.ref l) (.int k u)) := by with_unfolding_all rfl) (hg : ∀ r, letTemporaryGo value (.ref l) r = pure () := by intro _; with_unfolding_all rfl) :
    wpAny (model prog w) A (subscriptTail value slice (.ref l) (.int k u)) Q E s := by
  have hlt : k.toNat < ns.length := (List.getElem?_eq_some_iff.mp hx).1
  refine item_list_ints (lst_N N hm) hi h0 (by omega) (by omega) (fun t => ?_) hs hg
  have e : ns.getD k.toNat 0 = z := by rw [List.getD_eq_getElem?_getD, hx]; rfl
  rw [e]; exact h t
theorem item_SE {value slice : Expr} {l : Addr} {vs : List Value} {ns : List Str} {k : Int} {z : Str} {u : Tok} {n : Nat} {Q : Value → Shared → Prop} (N : News h₀ L s.heap news) (hm : (l, W.listOf vs.toArray n) ∈ news) (hi : StrsAre vs ns)
    (hx : ns[k.toNat]? = some z) (h0 : 0 ≤ k) (h1 : k < 1000) (h : ∀ t, Q (.str z t) s)
    (hs : subscripted slice false (.ref l) (.int k u) = operate [.ref l, .int k u] (getItem (.ref l) (.int k u)) := by with_unfolding_all rfl) (hg : ∀ r, letTemporaryGo value (.ref l) r = pure () := by intro _; with_unfolding_all rfl) :
    wpAny (model prog w) A (subscriptTail value slice (.ref l) (.int k u)) Q E s := by
  obtain ⟨t, e⟩ := StrsAre.at hi hx
  exact item_listL (lst_N N hm) h0 (by omega) e (h t) hs hg
theorem item_TE {value slice : Expr} {x y : Str} {t : Tok} {i : Int} {u : Tok} {Q : Value → Shared → Prop} (h0 : 0 ≤ i) (h2 : i < x.length) (hz : x.length ≤ 1000) (e : Txt.item x i = y)
    (h : ∀ t k, Q (.str y t) { s with toks := k })
    (hs : subscripted slice false (.str x t) (.int i u) = operate [.str x t, .int i u] (getItem (.str x t) (.int i u)) := by with_unfolding_all rfl)
    (ht : ∀ r, letTemporaryGo value (.str x t) r = pure () := by intro _; with_unfolding_all rfl) :
    wpAny (model prog w) A (subscriptTail value slice (.str x t) (.int i u)) Q E s := by
  subst e
  exact item_str (fitsSsize_of (N := 1000) (by omega) (by omega) (by omega)) (by omega) h2 (fun _ => h _ _) hs ht
theorem sp_K {n : Int} {t u : Tok} {a : Nat} {Q : Value → Shared → Prop} (e : n = (a : Int)) (ha : a < 3) (h : ∀ t' k, Q (.str (sp a) t') { s with toks := k }) : wpAny (model prog w) A (binaryOp .Mult (.str (Str.ofString " ") t) (.int n u)) Q E s := by
  subst e
  have e : Txt.mul (Str.ofString " ") (a : Int) = sp a := by
    have : a = 0 ∨ a = 1 ∨ a = 2 := by omega
    rcases this with rfl | rfl | rfl <;> decide
  refine SB.mul (mulOk_of 16 1048576 (by decide) (by omega) (by omega) (by decide) (by decide)) ?_
  rw [e]
  exact h
end
end Mine

namespace Mine
theorem caseN_len (b : Bool) : ∀ x < 5, (caseN b x).length ≤ 3 := by cases b <;> decide +kernel
theorem wOf_len {P : Par} (O : ParOk P) (k : Nat) : (wOf P k).length = 4 := by unfold wOf; rw [List.length_cons, List.length_map, O.v3]
theorem wTo_len {P : Par} (O : ParOk P) : ∀ k, (wTo P k).length = 4 * k
  | 0 => rfl
  | k + 1 => by unfold wTo; rw [List.length_append, wTo_len O k, wOf_len O]; omega
theorem wTo_at {P : Par} (O : ParOk P) {k j : Nat} (hj : j < 4) : (wTo P (k + 1))[4 * k + j]? = some ((wOf P k).getD j E0) := by
  unfold wTo
  rw [List.getElem?_append_right (by rw [wTo_len O]; omega), wTo_len O, show 4 * k + j - 4 * k = j by omega]
  rw [List.getD_eq_getElem?_getD, List.getElem?_eq_getElem (by rw [wOf_len O]; exact hj)]; rfl
theorem wOf_le {P : Par} (O : ParOk P) {k : Nat} (hk : k < 5) : ∀ x ∈ wOf P k, x.cps.size ≤ 10 := by
  intro x hx
  rcases List.mem_cons.mp hx with rfl | hx
  · exact (pad_len k hk _ (O.ab k).1 _ (O.ab k).2).1
  · obtain ⟨y, hy, rfl⟩ := List.mem_map.mp hx
    exact Nat.le_trans (caseN_len _ y (O.v5 k y hy)) (by decide)
theorem wOf_getD {P : Par} (O : ParOk P) {k j : Nat} (hk : k < 5) (hj : j < 4) : ((wOf P k).getD j E0).cps.size ≤ 10 := by
  refine wOf_le O hk _ ?_
  rw [List.getD_eq_getElem?_getD, List.getElem?_eq_getElem (by rw [wOf_len O]; exact hj)]
  exact List.getElem_mem _
theorem str_app_len (a b : Str) : (a ++ b).length = a.length + b.length := by show (a.cps ++ b.cps).size = _; simp [Str.length]
theorem wordT_len {b : Bool} {x wh : Str} (hx : x.cps.size ≤ 10) (hw : wh.length ≤ 1) : (wordT b x wh).length ≤ 30 := by
  have h1 := sumLen_le escB_len x.cps.toList
  have h2 := sumLen_le escQ_len x.cps.toList
  have h3 := join_len0 (x.cps.toList.map escB)
  have h4 := join_len0 (x.cps.toList.map escQ)
  have hl : x.cps.toList.length = x.cps.size := by simp
  have hq : (Str.ofString "\"").length = 1 := rfl
  unfold wordT
  split
  · rw [str_app_len]; omega
  · rw [str_app_len, str_app_len, str_app_len]; omega
theorem whN_len (n : Nat) : (whN n).length = 1 := by
  have : n % 4 < 4 := Nat.mod_lt _ (by decide)
  unfold whN
  generalize n % 4 = r at this
  have : r = 0 ∨ r = 1 ∨ r = 2 ∨ r = 3 := by omega
  rcases this with rfl | rfl | rfl | rfl <;> decide +kernel
theorem pc_len {P : Par} (O : ParOk P) {k j : Nat} (hk : k < 5) (hj : j < 4) : (pc P k j).length ≤ 30 := wordT_len (wOf_getD O hk hj) (Nat.le_of_eq (whN_len _))
theorem tRow_len {P : Par} (O : ParOk P) {k : Nat} (hk : k < 5) (t : Str) : ∀ j ≤ 4, (tRow P k t j).length ≤ t.length + 30 * j
  | 0, _ => Nat.le_refl _
  | j + 1, h => by
    have := tRow_len O hk t j (by omega)
    have := pc_len O hk (j := j) (by omega)
    unfold tRow
    rw [str_app_len]; omega
theorem tTo_len {P : Par} (O : ParOk P) : ∀ k ≤ 5, (tTo P k).length ≤ 120 * k
  | 0, _ => Nat.le_refl _
  | k + 1, h => by
    have h1 := tTo_len O k (by omega)
    have h2 := tRow_len O (k := k) (by omega) (tTo P k) 4 (by omega)
    unfold tTo; omega
theorem fmod4 (i j : Nat) : Txt.item (Str.ofString "\n\t\x0d ") (((i : Int) + (j : Int)).fmod 4) = whN (i + j) := by
  unfold whN
  have e : ((i : Int) + (j : Int)).fmod 4 = (((i + j) % 4 : Nat) : Int) := by
    rw [← Int.natCast_add, Int.fmod_eq_emod_of_nonneg _ (by decide)]; rfl
  rw [e]
theorem castL_at {l : List Nat} {c x : Nat} (h : l[c]? = some x) : (castL l)[c]? = some (x : Int) := by unfold castL; rw [List.getElem?_map, h]; rfl
end Mine

namespace Mine
theorem nm_d {g h : Heap} {L a b : Addr} {o o' : Obj} {r : List (Addr × Obj)} (N : News g L h ((a, o) :: (b, o') :: r)) : Nm a ∧ Nm o' := ⟨.mk, .mk⟩
theorem LtA.nil {d : Nat} : LtA d [] := fun _ h => nomatch h
theorem LtA.cons {d : Nat} {a : Addr} {as : List Addr} (h : @LT.lt Nat _ a d) (t : LtA d as) : LtA d (a :: as) := fun p hp => (List.mem_cons.mp hp).elim (fun e => e ▸ h) (t p)
theorem sp_len : ∀ a, (sp a).length ≤ 2
  | 0 => by decide
  | 1 => by decide
  | _ + 2 => Nat.le_refl _
theorem row102 : True := by
  k_with "subscriptTail Name Name ref int" => (k_here; k_dflt (first | (refine' item_NE ?Nr102 ?mr102 ?ir102 ?xr102 ?h0r102 ?h1r102 ?_; (case Nr102 => k_asm); (case mr102 => k_mem); (case ir102 => assumption); (case xr102 => assumption); (case h0r102 => omega); (case h1r102 => omega); ((first | tm_at "clo1" | refine fun _ => ?_))) | (refine' item_SE ?Nr102 ?mr102 ?ir102 ?xr102 ?h0r102 ?h1r102 ?_; (case Nr102 => k_asm); (case mr102 => k_mem); (case ir102 => assumption); (case xr102 => assumption); (case h0r102 => omega); (case h1r102 => omega); ((first | tm_at "clo1" | refine fun _ => ?_))) | (refine' item_VE ?Nr102 ?mr102 ?xr102 ?h0r102 ?h1r102 ?_; (case Nr102 => k_asm); (case mr102 => k_mem); (case xr102 => assumption); (case h0r102 => omega); (case h1r102 => omega))))
  trivial
theorem row103 : True := by
  k_with "subscriptTail Name BinOp ref int" => (k_here; k_dflt (first | (refine' item_NE ?Nr103 ?mr103 ?ir103 ?xr103 ?h0r103 ?h1r103 ?_; (case Nr103 => k_asm); (case mr103 => k_mem); (case ir103 => assumption); (case xr103 => assumption); (case h0r103 => omega); (case h1r103 => omega); ((first | tm_at "clo1" | refine fun _ => ?_))) | (refine' item_SE ?Nr103 ?mr103 ?ir103 ?xr103 ?h0r103 ?h1r103 ?_; (case Nr103 => k_asm); (case mr103 => k_mem); (case ir103 => assumption); (case xr103 => assumption); (case h0r103 => omega); (case h1r103 => omega); ((first | tm_at "clo1" | refine fun _ => ?_))) | (refine' item_VE ?Nr103 ?mr103 ?xr103 ?h0r103 ?h1r103 ?_; (case Nr103 => k_asm); (case mr103 => k_mem); (case xr103 => assumption); (case h0r103 => omega); (case h1r103 => omega))))
  trivial
theorem row104 : True := by
  k_with "subscriptTail Constant BinOp str int" => (k_here; k_dflt (refine' item_TE ?h0r104 ?h2r104 ?hzr104 ?er104 ?_; (case h0r104 => omega); (case h2r104 => first | assumption | omega); (case hzr104 => exact Nat.le_of_ble_eq_true rfl); (case er104 => assumption)); ((first | tm_at "clo1" | refine fun _ => ?_); (first | tm_at "clo1" | refine fun _ => ?_)))
  trivial
theorem row105 : True := by
  k_with "binaryOp Mult str int" => (k_here; k_dflt (refine' sp_K ?er105 ?ar105 ?_; (case er105 => exact rfl); (case ar105 => assumption)); ((first | tm_at "clo1" | refine fun _ => ?_); (first | tm_at "clo1" | refine fun _ => ?_)))
  trivial
theorem row106 : True := by
  k_with "exec For Name Subscript cons nil" => (k_here; k_dflt (refine fi_for (hE := by assumption) ?_))
  trivial
theorem row107 : True := by
  k_with "exec For Name Call cons nil" => (k_here; k_dflt (refine fi_for (hE := by assumption) ?_))
  trivial
theorem row108 : True := by
  k_with "k_enter" => ((with_reducible show codeAny _ _ (Code.call (Value.ref 234) _) _ _); (refine' GS.callS (own := []) ?kBr108 ?kFr108 ?kXr108 ?kNr108 ?kTr108 ?kAr108 ?kfr108 ?kkr108 ?kor108 (fun ggq9 gBq9 gXq9 gTq9 gGq9 gKq9 gBackq9 => word_c gBq9 gXq9 gTq9 gGq9 ?i1r108 ?i2r108 ?i3r108 ?i4r108 ?i5r108 ?i6r108 ?_); (case kBr108 => assumption); (case kFr108 => assumption); (case kXr108 => assumption); (case kNr108 => assumption); (case kTr108 => assumption); (case kAr108 => keq_hits); (case kfr108 => exact rfl); (case kkr108 => exact rfl); (case kor108 => k_extra "gs_sub"); (case i1r108 => assumption); (case i2r108 => assumption); (case i3r108 => k_room); (case i4r108 => (try simp only [units_under_make, Around.deeper_units]); omega); (case i5r108 => omega); (case i6r108 => omega); (revert ggq9; ((first | tm_at "clo1" | refine fun ggq9 => ?_); refine fun gBq9 => ?_; refine fun gXq9 => ?_; refine fun gTq9 => ?_; refine fun gGq9 => ?_; refine fun gKq9 => ?_; refine fun gBackq9 => ?_); ((first | tm_at "clo1" | refine fun u'q9 => ?_); (first | tm_at "clo1" | refine fun tk'q9 => ?_); (first | tm_at "clo1" | refine fun h'q9 => ?_); refine fun gG'q9 => ?_); (obtain ⟨F'q9, N'q9, -⟩ := gBackq9 _ [] gG'q9 (fun p hp => (nomatch hp))); (clear gBq9 gXq9 gTq9 gGq9 gKq9 gBackq9 gG'q9); (try simp only [List.nil_append] at N'q9); (try dsimp only))))
  trivial
noncomputable abbrev dTail (q : ToldP) (L nd bD aD gD nD : Addr) (ndv bv av gv nv : List Value) (c8 c7 c5 c4 c2 : Obj) : List (Addr × Obj) :=
  (nd, W.listOf ndv.toArray ndv.length) :: (toldNews q ++ [(bD, W.listOf bv.toArray 0), (aD, W.listOf av.toArray 0), (gD, W.listOf gv.toArray 5), (nD, W.listOf nv.toArray 0), (L + 1 + 1 + 1 + 1 + 1 + 1 + 1 + 1, c8), (L + 1 + 1 + 1 + 1 + 1 + 1 + 1, c7), (L + 1 + 1 + 1 + 1 + 1, c5), (L + 1 + 1 + 1 + 1, c4), (L + 1 + 1, c2), (224, tabObj #[])])
noncomputable abbrev dFs (q : ToldP) (nd gD : Addr) : List (Str × Value) := [(Str.ofString "told", Value.ref q.tl), (Str.ofString "need", Value.ref nd), (Str.ofString "given", Value.ref gD)]
inductive DP (P : Par) (g : Heap) (L wD : Addr) (tl : List (Addr × Obj)) (fs : List (Str × Value)) (I1 : Addr) (s : Shared) (k : Nat) (s' : Shared) : Prop
  | mk (i : Nat) (h : Heap) (tk : Nat) (m : Str → Option Value) (wv : List Value) (wn : Nat) (tT : Tok) (_ : s' = { s with heap := h, toks := tk }) (_ : Fr g L h m) (_ : News g L h ((I1, rgO (i : Int) (5 - i)) :: (wD, W.listOf wv.toArray wn) :: tl)) (_ : StrsAre wv (wTo P i)) (_ : (∀ p ∈ (Str.ofString "text", Value.str (tTo P i) tT) :: fs, m p.1 = some p.2)) (_ : i + k = 6) (_ : i ≤ 5) : DP P g L wD tl fs I1 s k s'
inductive DX (P : Par) (g : Heap) (L wD : Addr) (tl : List (Addr × Obj)) (fs : List (Str × Value)) (I1 I2 a : Addr) (r i : Nat) (s : Shared) (k : Nat) (s' : Shared) : Prop
  | mk (c : Nat) (h : Heap) (tk : Nat) (m : Str → Option Value) (wv : List Value) (wn : Nat) (o : Obj) (_ : s' = { s with heap := h, toks := tk }) (_ : Fr g L h m) (_ : Lit o a c) (_ : News g L h ((I2, o) :: (I1, rgO ((i : Int) + 1) r) :: (wD, W.listOf wv.toArray wn) :: tl)) (_ : StrsAre wv (wTo P i ++ (wOf P i).take (c + 1))) (_ : (∀ p ∈ fs, m p.1 = some p.2)) (_ : c + k = 4) (_ : c ≤ 3) : DX P g L wD tl fs I1 I2 a r i s k s'
inductive DJ (P : Par) (g : Heap) (L wD : Addr) (tl : List (Addr × Obj)) (fs : List (Str × Value)) (I1 I3 : Addr) (r i : Nat) (wv : List Value) (wn : Nat) (s : Shared) (k : Nat) (s' : Shared) : Prop
  | mk (j : Nat) (h : Heap) (tk : Nat) (m : Str → Option Value) (tT : Tok) (_ : s' = { s with heap := h, toks := tk }) (_ : Fr g L h m) (_ : News g L h ((I3, rgO (j : Int) (4 - j)) :: (I1, rgO ((i : Int) + 1) r) :: (wD, W.listOf wv.toArray wn) :: tl)) (_ : (∀ p ∈ (Str.ofString "text", Value.str (tRow P i (tTo P i) j) tT) :: fs, m p.1 = some p.2)) (_ : j + k = 5) (_ : j ≤ 4) : DJ P g L wD tl fs I1 I3 r i wv wn s k s'
theorem wOf_step {P : Par} {i c x : Nat} (h : (P.Vn i)[c]? = some x) : (wOf P i).take (c + 1 + 1) = (wOf P i).take (c + 1) ++ [caseN (P.cs i) x] := by
  have : (wOf P i)[c + 1]? = some (caseN (P.cs i) x) := by unfold wOf; rw [List.getElem?_cons_succ, List.getElem?_map, h]; rfl
  rw [List.take_add_one, this]; rfl
theorem nm_at : ∀ k < 5, [Str.ofString "a", Str.ofString "B c", Str.ofString "\"", Str.ofString "\\", Str.ofString "#"][k]? = some (nm k) := by decide
theorem lo_K {prog : Program} {w : World} {A : Around} {E : Value → Shared → Prop} {s : Shared} {x : Nat} {t : Tok} {Q : Value → Shared → Prop} (hx : x < 5) (h : ∀ t' k, Q (.str (lwN x) t') { s with toks := k }) : wpAny (model prog w) A (call (.builtin "str.lower") [.str (nm x) t]) Q E s :=
  low_K (by have := (swN_len x hx).2; omega) rfl h
theorem up_K {prog : Program} {w : World} {A : Around} {E : Value → Shared → Prop} {s : Shared} {x : Nat} {t : Tok} {Q : Value → Shared → Prop} (hx : x < 5) (h : ∀ t' k, Q (.str (Txt.upper (nm x)) t') { s with toks := k }) : wpAny (model prog w) A (call (.builtin "str.upper") [.str (nm x) t]) Q E s :=
  upp_K (by have := (swN_len x hx).2; omega) rfl h
theorem IntsAre.at' {vs : List Value} {ns : List Int} (h : IntsAre vs ns) {i : Nat} {z : Int} (e : ns[i]? = some z) : ∃ t, vs[i]? = some (.int z t) := by
  induction h generalizing i with
  | nil => simp at e
  | cons n t h ih =>
    cases i with
    | zero => simp only [List.getElem?_cons_zero, Option.some.injEq] at e; subst e; exact ⟨t, rfl⟩
    | succ i => exact ih (by simpa using e)
section
variable {w : World} {A : Around} {base g : Heap} {fr : List Env} {mg mb : Str → Option Value} {p : Program} {loose : List Str} {mean : ExcName → Option Value} {s : Shared} {L fa : Addr} {cd : Value} {m : Str → Option Value} {Q : Flow → Shared → Prop} {E : Value → Shared → Prop} {rest : List Stmt}
  (B : Below A base fr g) (X : Frag.In (hd.heap_39 w.params) g) (T : Top p loose mean mg mb g)
include B X T
end
namespace Cseg_d
noncomputable def Sta (w : World) (A : Around) (base g : Heap) (fr : List Env) (mg mb : Str → Option Value) (p : Program) (loose : List Str) (mean : ExcName → Option Value) (s : Shared) (L fa : Addr) (cd : Value) (m : Str → Option Value) (Q : Flow → Shared → Prop) (E : Value → Shared → Prop) (rest : List Stmt) (q : ToldP) (P : Par) (gD nD aD bD nd : Addr) (ndv nv av bv gv : List Value) (as bs gs : List Int) (c2 c4 c5 c6 c7 c8 : Obj) (v6 : Option Value) : Prop := ∀ (B : Below A base fr g) (X : Frag.In (hd.heap_39 w.params) g) (T : Top p loose mean mg mb g) (O : ParOk P) (hE : PassesOwn (model Challenge.rw_st0024_01.row.prog w) (A.deeper (lawEnv L fa cd)) (lawEnv L fa cd) E) (hh : A.handled = none) (hroom : A.depth + 60 < recursionLimit) (hu : A.units + 600 < cLine) (C : CodeHd base 228 224) (hnv : StrsAre nv [Str.ofString "a", Str.ofString "B c", Str.ofString "\"", Str.ofString "\\", Str.ofString "#"]) (ha : IntsAre av as) (hb : IntsAre bv bs) (hg : IntsAre gv gs) (hA : ∀ k < 5, as[k]? = some (P.Aa k : Int)) (hB : ∀ k < 5, bs[k]? = some (P.Bh k : Int)) (hG : ∀ k < 5, ∃ z, gs[k]? = some z ∧ P.cs k = decide (z.fdiv 2250 ≠ 0) ∧ P.bs k = decide ((z.fdiv 1125).fmod 2 ≠ 0) ∧ 0 ≤ z ∧ z < 4500) (hT : ∀ k < 5, ∃ a v n, [Value.ref q.a0, .ref q.a1, .ref q.a2, .ref q.a3, .ref q.a4][k]? = some (.ref a) ∧ (a, W.listOf v.toArray n) ∈ toldNews q ∧ IntsAre v (castL (P.Vn k))) (e2 : c2.data = .cell (some (.ref nD))) (e4 : c4.data = .cell (some (.ref aD))) (e5 : c5.data = .cell (some (.ref bD))) (e6 : c6.data = .cell v6) (l0 : @LT.lt Nat _ 224 L) (l2 : FarE [L + 1 + 1 + 1 + 1 + 1 + 1 + 1 + 1, L + 1 + 1 + 1 + 1 + 1 + 1 + 1, L + 1 + 1 + 1 + 1 + 1 + 1, L + 1 + 1 + 1 + 1 + 1, L + 1 + 1 + 1 + 1, L + 1 + 1, 224] [bD, aD, gD, nD, nd, q.tl, q.a0, q.a1, q.a2, q.a3, q.a4]) (F0 : Fr g L s.heap m) (hm : ∀ p ∈ [(Str.ofString "told", Value.ref q.tl), (Str.ofString "need", Value.ref nd), (Str.ofString "given", Value.ref gD)], m p.1 = some p.2) (N : News g L s.heap ((L + 1 + 1 + 1 + 1 + 1 + 1, c6) :: dTail q L nd bD aD gD nD ndv bv av gv nv c8 c7 c5 c4 c2)) (h : ∀ h' tk wD wv wn c6' m' tT, StrsAre wv (wTo P 5) → c6'.data = .cell (some (.ref wD)) → LtA wD ([nd, q.tl, q.a0, q.a1, q.a2, q.a3, q.a4, bD, aD, gD, nD, L + 1 + 1 + 1 + 1 + 1 + 1 + 1 + 1, L + 1 + 1 + 1 + 1 + 1 + 1 + 1, L + 1 + 1 + 1 + 1 + 1 + 1, L + 1 + 1 + 1 + 1 + 1, L + 1 + 1 + 1 + 1, L + 1 + 1, 224]) →
    Fr g L h' m' → (∀ p ∈ [(Str.ofString "told", Value.ref q.tl), (Str.ofString "need", Value.ref nd), (Str.ofString "given", Value.ref gD), (Str.ofString "text", .str (tTo P 5) tT)], m' p.1 = some p.2) →
    News g L h' ((wD, W.listOf wv.toArray wn) :: (L + 1 + 1 + 1 + 1 + 1 + 1, c6') :: dTail q L nd bD aD gD nD ndv bv av gv nv c8 c7 c5 c4 c2) →
    wpAny (model Challenge.rw_st0024_01.row.prog w) (A.deeper (lawEnv L fa cd)) (execs rest (lawEnv L fa cd)) Q E { s with heap := h', toks := tk }), wpAny (model Challenge.rw_st0024_01.row.prog w) (A.deeper (lawEnv L fa cd)) (execs (st7s.1 :: st8s.1 :: st9s.1 :: rest) (lawEnv L fa cd)) Q E s
noncomputable def P0 (z : World × Around × Heap × Heap × (List Env) × (Str → Option Value) × (Str → Option Value) × Program × (List Str) × (ExcName → Option Value) × Shared × Addr × Addr × Value × (Str → Option Value) × (Flow → Shared → Prop) × (Value → Shared → Prop) × (List Stmt) × ToldP × Par × Addr × Addr × Addr × Addr × Addr × (List Value) × (List Value) × (List Value) × (List Value) × (List Value) × (List Int) × (List Int) × (List Int) × Obj × Obj × Obj × Obj × Obj × Obj × (Option Value)) : Prop := Sta (z.1) (z.2.1) (z.2.2.1) (z.2.2.2.1) (z.2.2.2.2.1) (z.2.2.2.2.2.1) (z.2.2.2.2.2.2.1) (z.2.2.2.2.2.2.2.1) (z.2.2.2.2.2.2.2.2.1) (z.2.2.2.2.2.2.2.2.2.1) (z.2.2.2.2.2.2.2.2.2.2.1) (z.2.2.2.2.2.2.2.2.2.2.2.1) (z.2.2.2.2.2.2.2.2.2.2.2.2.1) (z.2.2.2.2.2.2.2.2.2.2.2.2.2.1) (z.2.2.2.2.2.2.2.2.2.2.2.2.2.2.1) (z.2.2.2.2.2.2.2.2.2.2.2.2.2.2.2.1) (z.2.2.2.2.2.2.2.2.2.2.2.2.2.2.2.2.1) (z.2.2.2.2.2.2.2.2.2.2.2.2.2.2.2.2.2.1) (z.2.2.2.2.2.2.2.2.2.2.2.2.2.2.2.2.2.2.1) (z.2.2.2.2.2.2.2.2.2.2.2.2.2.2.2.2.2.2.2.1) (z.2.2.2.2.2.2.2.2.2.2.2.2.2.2.2.2.2.2.2.2.1) (z.2.2.2.2.2.2.2.2.2.2.2.2.2.2.2.2.2.2.2.2.2.1) (z.2.2.2.2.2.2.2.2.2.2.2.2.2.2.2.2.2.2.2.2.2.2.1) (z.2.2.2.2.2.2.2.2.2.2.2.2.2.2.2.2.2.2.2.2.2.2.2.1) (z.2.2.2.2.2.2.2.2.2.2.2.2.2.2.2.2.2.2.2.2.2.2.2.2.1) (z.2.2.2.2.2.2.2.2.2.2.2.2.2.2.2.2.2.2.2.2.2.2.2.2.2.1) (z.2.2.2.2.2.2.2.2.2.2.2.2.2.2.2.2.2.2.2.2.2.2.2.2.2.2.1) (z.2.2.2.2.2.2.2.2.2.2.2.2.2.2.2.2.2.2.2.2.2.2.2.2.2.2.2.1) (z.2.2.2.2.2.2.2.2.2.2.2.2.2.2.2.2.2.2.2.2.2.2.2.2.2.2.2.2.1) (z.2.2.2.2.2.2.2.2.2.2.2.2.2.2.2.2.2.2.2.2.2.2.2.2.2.2.2.2.2.1) (z.2.2.2.2.2.2.2.2.2.2.2.2.2.2.2.2.2.2.2.2.2.2.2.2.2.2.2.2.2.2.1) (z.2.2.2.2.2.2.2.2.2.2.2.2.2.2.2.2.2.2.2.2.2.2.2.2.2.2.2.2.2.2.2.1) (z.2.2.2.2.2.2.2.2.2.2.2.2.2.2.2.2.2.2.2.2.2.2.2.2.2.2.2.2.2.2.2.2.1) (z.2.2.2.2.2.2.2.2.2.2.2.2.2.2.2.2.2.2.2.2.2.2.2.2.2.2.2.2.2.2.2.2.2.1) (z.2.2.2.2.2.2.2.2.2.2.2.2.2.2.2.2.2.2.2.2.2.2.2.2.2.2.2.2.2.2.2.2.2.2.1) (z.2.2.2.2.2.2.2.2.2.2.2.2.2.2.2.2.2.2.2.2.2.2.2.2.2.2.2.2.2.2.2.2.2.2.2.1) (z.2.2.2.2.2.2.2.2.2.2.2.2.2.2.2.2.2.2.2.2.2.2.2.2.2.2.2.2.2.2.2.2.2.2.2.2.1) (z.2.2.2.2.2.2.2.2.2.2.2.2.2.2.2.2.2.2.2.2.2.2.2.2.2.2.2.2.2.2.2.2.2.2.2.2.2.1) (z.2.2.2.2.2.2.2.2.2.2.2.2.2.2.2.2.2.2.2.2.2.2.2.2.2.2.2.2.2.2.2.2.2.2.2.2.2.2.1) (z.2.2.2.2.2.2.2.2.2.2.2.2.2.2.2.2.2.2.2.2.2.2.2.2.2.2.2.2.2.2.2.2.2.2.2.2.2.2.2)
noncomputable def Z := @Classical.epsilon _ ⟨(w00, A00, default, default, [], (fun _ => none), (fun _ => none), default, [], (fun _ => none), s00, 0, 0, .none, (fun _ => none), (fun _ _ => True), (fun _ _ => True), [], told00, par00, 0, 0, 0, 0, 0, [], [], [], [], [], [], [], [], default, default, default, default, default, default, none)⟩ fun z => ¬ P0 z
@[irreducible] noncomputable def w := Z.1
@[irreducible] noncomputable def A := Z.2.1
@[irreducible] noncomputable def base := Z.2.2.1
@[irreducible] noncomputable def g := Z.2.2.2.1
@[irreducible] noncomputable def fr := Z.2.2.2.2.1
@[irreducible] noncomputable def mg := Z.2.2.2.2.2.1
@[irreducible] noncomputable def mb := Z.2.2.2.2.2.2.1
@[irreducible] noncomputable def p := Z.2.2.2.2.2.2.2.1
@[irreducible] noncomputable def loose := Z.2.2.2.2.2.2.2.2.1
@[irreducible] noncomputable def mean := Z.2.2.2.2.2.2.2.2.2.1
@[irreducible] noncomputable def s := Z.2.2.2.2.2.2.2.2.2.2.1
@[irreducible] noncomputable def L := Z.2.2.2.2.2.2.2.2.2.2.2.1
@[irreducible] noncomputable def fa := Z.2.2.2.2.2.2.2.2.2.2.2.2.1
@[irreducible] noncomputable def cd := Z.2.2.2.2.2.2.2.2.2.2.2.2.2.1
@[irreducible] noncomputable def m := Z.2.2.2.2.2.2.2.2.2.2.2.2.2.2.1
@[irreducible] noncomputable def Q := Z.2.2.2.2.2.2.2.2.2.2.2.2.2.2.2.1
@[irreducible] noncomputable def E := Z.2.2.2.2.2.2.2.2.2.2.2.2.2.2.2.2.1
@[irreducible] noncomputable def rest := Z.2.2.2.2.2.2.2.2.2.2.2.2.2.2.2.2.2.1
@[irreducible] noncomputable def q := Z.2.2.2.2.2.2.2.2.2.2.2.2.2.2.2.2.2.2.1
@[irreducible] noncomputable def P := Z.2.2.2.2.2.2.2.2.2.2.2.2.2.2.2.2.2.2.2.1
@[irreducible] noncomputable def gD := Z.2.2.2.2.2.2.2.2.2.2.2.2.2.2.2.2.2.2.2.2.1
@[irreducible] noncomputable def nD := Z.2.2.2.2.2.2.2.2.2.2.2.2.2.2.2.2.2.2.2.2.2.1
@[irreducible] noncomputable def aD := Z.2.2.2.2.2.2.2.2.2.2.2.2.2.2.2.2.2.2.2.2.2.2.1
@[irreducible] noncomputable def bD := Z.2.2.2.2.2.2.2.2.2.2.2.2.2.2.2.2.2.2.2.2.2.2.2.1
@[irreducible] noncomputable def nd := Z.2.2.2.2.2.2.2.2.2.2.2.2.2.2.2.2.2.2.2.2.2.2.2.2.1
@[irreducible] noncomputable def ndv := Z.2.2.2.2.2.2.2.2.2.2.2.2.2.2.2.2.2.2.2.2.2.2.2.2.2.1
@[irreducible] noncomputable def nv := Z.2.2.2.2.2.2.2.2.2.2.2.2.2.2.2.2.2.2.2.2.2.2.2.2.2.2.1
@[irreducible] noncomputable def av := Z.2.2.2.2.2.2.2.2.2.2.2.2.2.2.2.2.2.2.2.2.2.2.2.2.2.2.2.1
@[irreducible] noncomputable def bv := Z.2.2.2.2.2.2.2.2.2.2.2.2.2.2.2.2.2.2.2.2.2.2.2.2.2.2.2.2.1
@[irreducible] noncomputable def gv := Z.2.2.2.2.2.2.2.2.2.2.2.2.2.2.2.2.2.2.2.2.2.2.2.2.2.2.2.2.2.1
@[irreducible] noncomputable def as := Z.2.2.2.2.2.2.2.2.2.2.2.2.2.2.2.2.2.2.2.2.2.2.2.2.2.2.2.2.2.2.1
@[irreducible] noncomputable def bs := Z.2.2.2.2.2.2.2.2.2.2.2.2.2.2.2.2.2.2.2.2.2.2.2.2.2.2.2.2.2.2.2.1
@[irreducible] noncomputable def gs := Z.2.2.2.2.2.2.2.2.2.2.2.2.2.2.2.2.2.2.2.2.2.2.2.2.2.2.2.2.2.2.2.2.1
@[irreducible] noncomputable def c2 := Z.2.2.2.2.2.2.2.2.2.2.2.2.2.2.2.2.2.2.2.2.2.2.2.2.2.2.2.2.2.2.2.2.2.1
@[irreducible] noncomputable def c4 := Z.2.2.2.2.2.2.2.2.2.2.2.2.2.2.2.2.2.2.2.2.2.2.2.2.2.2.2.2.2.2.2.2.2.2.1
@[irreducible] noncomputable def c5 := Z.2.2.2.2.2.2.2.2.2.2.2.2.2.2.2.2.2.2.2.2.2.2.2.2.2.2.2.2.2.2.2.2.2.2.2.1
@[irreducible] noncomputable def c6 := Z.2.2.2.2.2.2.2.2.2.2.2.2.2.2.2.2.2.2.2.2.2.2.2.2.2.2.2.2.2.2.2.2.2.2.2.2.1
@[irreducible] noncomputable def c7 := Z.2.2.2.2.2.2.2.2.2.2.2.2.2.2.2.2.2.2.2.2.2.2.2.2.2.2.2.2.2.2.2.2.2.2.2.2.2.1
@[irreducible] noncomputable def c8 := Z.2.2.2.2.2.2.2.2.2.2.2.2.2.2.2.2.2.2.2.2.2.2.2.2.2.2.2.2.2.2.2.2.2.2.2.2.2.2.1
@[irreducible] noncomputable def v6 := Z.2.2.2.2.2.2.2.2.2.2.2.2.2.2.2.2.2.2.2.2.2.2.2.2.2.2.2.2.2.2.2.2.2.2.2.2.2.2.2
set_option maxHeartbeats 4000000 in
theorem key : Sta w A base g fr mg mb p loose mean s L fa cd m Q E rest q P gD nD aD bD nd ndv nv av bv gv as bs gs c2 c4 c5 c6 c7 c8 v6 := fun B X T O hE hh hroom hu C hnv ha hb hg hA hB hG hT e2 e4 e5 e6 l0 l2 F0 hm N h => by
  revert X; k_fill; intro X
  have F1 := Fr.expose _ F0 hm
  dsimp only [kstB] at F1
  clear F0
  dsimp only [dTail, toldNews, List.cons_append, List.nil_append] at N
  dsimp only
  k_steps
  (rename Fr _ _ _ _ => F2)
  (rename News _ _ _ _ => N2)
  obtain ⟨wD, c6'⟩ := nm_d N2
  refine rg_iter F2 N2 (by assumption) (by decide) (by rfl) ?_
  (tm_at "nmx2"; refine fun I1 h1 => ?_)
  intro F3 N3 lI
  k_lt lI
  refine fi_at 6 (DP P g L wD ((L + 1 + 1 + 1 + 1 + 1 + 1, c6') :: dTail q L nd bD aD gD nD ndv bv av gv nv c8 c7 c5 c4 c2) (dFs q nd gD) I1 s) ⟨0, h1, _, _, [], 0, _, rfl, F3, N3, .nil, by kst_all, by omega, by omega⟩ ?_
  clear F2 N2 F3 N3
  rintro k s' ⟨i, h', tk, m, wv, wn, tT, rfl, F, N, hw, hm, hk, hi⟩
  dsimp only [dTail, toldNews, List.cons_append, List.nil_append] at N
  have F1 := Fr.expose _ F hm
  dsimp only [kstB] at F1
  obtain ⟨j, rfl⟩ : ∃ j, k = j + 1 := ⟨k - 1, by omega⟩
  refine ⟨j, rfl, ?_⟩
  by_cases h5 : i < 5
  · obtain ⟨r, hr⟩ : ∃ r, 5 - i = r + 1 := ex_sub (by with_reducible assumption)
    rw [hr] at N
    (revert i h' tk m wv wn tT j r; tm_at "nmx7"; refine fun i h' tk m wv wn tT => ?_; k_extra "kf"; tm_at "nmx1"; refine fun j => ?_; k_extra "kf"; tm_at "nmx1"; refine fun r => ?_; k_extra "kw")
    refine rg_nextA F1 N ?_ ?_
    · (dsimp only [List.map]); k_extra "gs_offA"
    (tm_at "nmx3"; refine fun t' h'' tk' => ?_)
    intro F' N'
    clear F N F1
    dsimp only [OwitTurn]
    have xA : as[((i : Nat) : Int).toNat]? = some (P.Aa i : Int) := hA i h5
    have xB : bs[((i : Nat) : Int).toNat]? = some (P.Bh i : Int) := hB i h5
    have xN : [Str.ofString "a", Str.ofString "B c", Str.ofString "\"", Str.ofString "\\", Str.ofString "#"][((i : Nat) : Int).toNat]? = some (nm i) := nm_at i h5
    obtain ⟨z, xG, ecs, ebs, hz0, hz1⟩ := hG i h5
    obtain ⟨a, av', an, xT, hma, hv⟩ := hT i h5
    replace xG : gs[((i : Nat) : Int).toNat]? = some z := xG
    replace xT : [Value.ref q.a0, .ref q.a1, .ref q.a2, .ref q.a3, .ref q.a4][((i : Nat) : Int).toNat]? = some (.ref a) := xT
    (revert z a av' an; tm_at "nmx1"; refine fun z => ?_; k_extra "kf"; tm_at "nmx3"; refine fun a av' an => ?_; k_extra "kw")
    obtain ⟨a3, b3⟩ := O.ab i
    have v3 := O.v3 i
    have v5 := O.v5 i
    have l1 : (sp (P.Aa i)).length ≤ 2 := sp_len _
    have l2 : (nm i).length ≤ 3 := (swN_len i h5).2
    have l3 : (sp (P.Aa i) ++ nm i).length ≤ 5 := by rw [str_app_len]; omega
    have l4 : (sp (P.Bh i)).length ≤ 2 := sp_len _
    have l5 : (wv : List Value).length ≤ 20 := by rw [StrsAre.length hw, wTo_len O]; omega
    k_steps
    (rename Fr _ _ _ _ => F2)
    (rename News _ _ _ _ => N2)
    (try simp only [List.push_toArray] at N2)
    have hma' : (a, W.listOf (av' : List Value).toArray an) ∈ (L + 1 + 1 + 1 + 1 + 1 + 1, c6') :: dTail q L nd bD aD gD nD ndv bv av gv nv c8 c7 c5 c4 c2 := List.mem_cons_of_mem _ (List.mem_cons_of_mem _ (List.mem_append_left _ hma))
    refine li_iter F2 N2 (List.mem_cons_of_mem _ (List.mem_cons_of_mem _ hma')) ?_
    (tm_at "nmx3"; refine fun I2 o2 h2 => ?_)
    intro ho2 F3 N3 lI2
    k_lt lI2
    refine fi_at 4 (DX P g L wD ((L + 1 + 1 + 1 + 1 + 1 + 1, c6') :: dTail q L nd bD aD gD nD ndv bv av gv nv c8 c7 c5 c4 c2) ((Str.ofString "text", Value.str (tTo P i) tT) :: (Str.ofString "k", Value.int ((i : Nat) : Int) t') :: dFs q nd gD) I1 I2 a r i s)
      ⟨0, h2, _, _, _, _, o2, rfl, F3, ho2, N3, ?_, by kst_all, by omega, by omega⟩ ?_
    · refine StrsAre.append' hw ?_
      exact .cons _ _ .nil
    clear F2 N2 F3 N3 ho2 o2 hw hm
    rintro k s' ⟨c, h', tk, m, wv, wn, o, rfl, F, ho, N, hw, hm, hkx, hc⟩
    dsimp only [dTail, toldNews, List.cons_append, List.nil_append] at N
    have F1 := Fr.expose _ F hm
    dsimp only [kstB] at F1
    obtain ⟨jx, rfl⟩ : ∃ j, k = j + 1 := ⟨k - 1, by omega⟩
    refine ⟨jx, rfl, ?_⟩
    have lav := IntsAre.length hv
    simp only [castL, List.length_map, v3] at lav
    have l5 : (wv : List Value).length ≤ 24 := by rw [StrsAre.length hw, List.length_append, wTo_len O, List.length_take, wOf_len O]; omega
    by_cases h3 : c < 3
    · obtain ⟨x, hx⟩ : ∃ x, (P.Vn i)[c]? = some x := ⟨_, List.getElem?_eq_getElem (by rw [v3]; exact h3)⟩
      have hx5 : x < 5 := v5 x (List.mem_of_getElem? hx)
      obtain ⟨tx, hxv⟩ := IntsAre.at' hv (castL_at hx)
      (revert c h' tk m wv wn o jx x tx; tm_at "nmx7"; refine fun c h' tk m wv wn o => ?_; k_extra "kf"; tm_at "nmx1"; refine fun jx => ?_; k_extra "kf"; tm_at "nmx1"; refine fun x => ?_; k_extra "kf"; tm_at "nmx1"; refine fun tx => ?_; k_extra "kw")
      refine li_next F1 N ?_ ho (List.mem_cons_of_mem _ (List.mem_cons_of_mem _ hma')) hxv ?_
      · (dsimp only [List.map]); k_extra "gs_offA"
      (tm_at "nmx2"; refine fun o' h'' => ?_)
      intro ho' F' N'
      clear F N F1
      dsimp only [OwitTurn]
      have xX : [Str.ofString "a", Str.ofString "B c", Str.ofString "\"", Str.ofString "\\", Str.ofString "#"][((x : Nat) : Int).toNat]? = some (nm x) := nm_at x hx5
      have lnx : (nm x).length ≤ 3 := (swN_len x hx5).2
      k_steps
      · (rename News _ _ _ _ => N2)
        simp only [List.push_toArray] at N2
        refine ⟨c + 1, _, _, _, _, _, _, rfl, by assumption, ho', N2, ?_, by kst_all, by omega, by omega⟩
        rw [wOf_step hx, ecs, ← List.append_assoc]
        refine StrsAre.append' hw ?_
        have hcz : caseN (decide ((z : Int).fdiv 2250 ≠ 0)) x = Txt.upper (nm x) := by
          have hz : (z : Int).fdiv 2250 ≠ 0 := by assumption
          simp only [caseN, hz, ne_eq, not_false_eq_true, decide_true, if_true]
        rw [hcz]
        exact .cons _ _ .nil
      · (rename News _ _ _ _ => N2)
        simp only [List.push_toArray] at N2
        refine ⟨c + 1, _, _, _, _, _, _, rfl, by assumption, ho', N2, ?_, by kst_all, by omega, by omega⟩
        rw [wOf_step hx, ecs, ← List.append_assoc]
        refine StrsAre.append' hw ?_
        have hcz : caseN (decide ((z : Int).fdiv 2250 ≠ 0)) x = lwN x := by
          have hz : (z : Int).fdiv 2250 = 0 := by assumption
          simp only [caseN, hz, ne_eq, not_true_eq_false, decide_false, Bool.false_eq_true, if_false]
        rw [hcz]
        exact .cons _ _ .nil
    · (revert c h' tk m wv wn o jx; tm_at "nmx7"; refine fun c h' tk m wv wn o => ?_; k_extra "kf"; tm_at "nmx1"; refine fun jx => ?_; k_extra "kw")
      refine li_done hh F1 N ?_ ho (List.mem_cons_of_mem _ (List.mem_cons_of_mem _ hma')) (by rw [List.getElem?_eq_none_iff]; omega) ?_
      · (dsimp only [List.map]); k_extra "gs_offA"
      (tm_at "nmx1"; refine fun h'' => ?_)
      intro F' N'
      clear F N F1
      dsimp only [OwitTurn]
      k_steps
      (rename Fr _ _ _ _ => F2)
      (rename News _ _ _ _ => N2)
      refine rg_iter F2 N2 (by assumption) (by decide) (n := 4) (by rfl) ?_
      (tm_at "nmx2"; refine fun I3 h3 => ?_)
      intro F3 N3 lI3
      k_lt lI3
      have hw4 : StrsAre wv (wTo P (i + 1)) := by
        have e3 : (c : Nat) = 3 := by omega
        have e4 : (wOf P i).take 4 = wOf P i := List.take_of_length_le (Nat.le_of_eq (wOf_len O i))
        rw [e3, e4] at hw
        exact hw
      refine fi_at 5 (DJ P g L wD ((L + 1 + 1 + 1 + 1 + 1 + 1, c6') :: dTail q L nd bD aD gD nD ndv bv av gv nv c8 c7 c5 c4 c2) ((Str.ofString "k", Value.int ((i : Nat) : Int) t') :: dFs q nd gD) I1 I3 r i wv wn s)
        ⟨0, h3, _, _, tT, rfl, F3, N3, by kst_all, by omega, by omega⟩ ?_
      clear F2 N2 F3 N3 ho o hm
      rintro k s' ⟨jj, h', tk, m, tT, rfl, F, N, hm, hky, hjj⟩
      dsimp only [dTail, toldNews, List.cons_append, List.nil_append] at N
      have F1 := Fr.expose _ F hm
      dsimp only [kstB] at F1
      obtain ⟨jy, rfl⟩ : ∃ j, k = j + 1 := ⟨k - 1, by omega⟩
      refine ⟨jy, rfl, ?_⟩
      by_cases h4 : jj < 4
      · obtain ⟨r4, hr4⟩ : ∃ r, 4 - jj = r + 1 := ex_sub (by with_reducible assumption)
        rw [hr4] at N
        (revert jj h' tk m tT jy r4; tm_at "nmx5"; refine fun jj h' tk m tT => ?_; k_extra "kf"; tm_at "nmx1"; refine fun jy => ?_; k_extra "kf"; tm_at "nmx1"; refine fun r4 => ?_; k_extra "kw")
        refine rg_nextA F1 N ?_ ?_
        · (dsimp only [List.map]); k_extra "gs_offA"
        (tm_at "nmx3"; refine fun t' h'' tk' => ?_)
        intro F' N'
        clear F N F1
        dsimp only [OwitTurn]
        have xW : (wTo P (i + 1))[(4 * ((i : Nat) : Int) + ((jj : Nat) : Int)).toNat]? = some ((wOf P i).getD jj E0) := wTo_at O h4
        have xf := fmod4 i jj
        have xf0 := Int.fmod_nonneg_of_pos (((i : Nat) : Int) + ((jj : Nat) : Int)) (b := 4) (by decide)
        have xf4 := Int.fmod_lt_of_pos (((i : Nat) : Int) + ((jj : Nat) : Int)) (b := 4) (by decide)
        have lw := wOf_getD O h5 h4
        have lt := tRow_len O h5 (tTo P i) jj (by omega)
        have lt2 := tTo_len O i (by omega)
        have hpc : pc P i jj = wordT (decide (((z : Int).fdiv 1125).fmod 2 ≠ 0)) ((wOf P i).getD jj E0) (Txt.item (Str.ofString "\n\t\x0d ") ((((i : Nat) : Int) + ((jj : Nat) : Int)).fmod 4)) := by unfold pc; rw [ebs, xf]
        have lp := pc_len O h5 h4
        rw [hpc] at lp
        have he : tRow P i (tTo P i) (jj + 1) = tRow P i (tTo P i) jj ++ wordT (decide (((z : Int).fdiv 1125).fmod 2 ≠ 0)) ((wOf P i).getD jj E0) (Txt.item (Str.ofString "\n\t\x0d ") ((((i : Nat) : Int) + ((jj : Nat) : Int)).fmod 4)) := by rw [← hpc]; rfl
        clear xf
        k_steps
        (rename News _ _ _ _ => N2)
        refine ⟨jj + 1, _, _, _, _, rfl, by assumption, ?_, by rw [he]; kst_all, by omega, by omega⟩
        have er : 4 - (jj + 1) = r4 := by omega
        rw [er]
        exact N2
      · obtain rfl : jj = 4 := by omega
        (revert h' tk m tT jy; tm_at "nmx4"; refine fun h' tk m tT => ?_; k_extra "kf"; tm_at "nmx1"; refine fun jy => ?_; k_extra "kw")
        refine rg_doneA hh F1 N ?_ ?_
        · (dsimp only [List.map]); k_extra "gs_offA"
        (tm_at "nmx1"; refine fun h'' => ?_)
        intro F' N'
        clear F N F1
        dsimp only [OwitTurn]
        k_steps
        (rename News _ _ _ _ => N2)
        refine ⟨i + 1, _, _, _, wv, wn, _, rfl, by assumption, ?_, hw4, by (show ∀ p ∈ (Str.ofString "text", Value.str (tRow P i (tTo P i) 4) tT) :: dFs q nd gD, _); kst_all, by omega, by omega⟩
        have er : 5 - (i + 1) = r := by omega
        rw [er]
        exact N2
  · obtain rfl : i = 5 := by omega
    (revert h' tk m wv wn tT j; tm_at "nmx6"; refine fun h' tk m wv wn tT => ?_; k_extra "kf"; tm_at "nmx1"; refine fun j => ?_; k_extra "kw")
    refine rg_doneA hh F1 N ?_ ?_
    · (dsimp only [List.map]); k_extra "gs_offA"
    (tm_at "nmx1"; refine fun h'' => ?_)
    intro F' N'
    clear F N F1
    dsimp only [OwitTurn]
    k_steps
    (rename News _ _ _ _ => N2)
    refine h _ _ wD wv wn c6' _ tT hw (by assumption) ?_ (by assumption) (by kst_all) N2
    repeat' (first | exact LtA.nil | refine LtA.cons ?_ ?_)
    all_goals omega
theorem zeq : (w, A, base, g, fr, mg, mb, p, loose, mean, s, L, fa, cd, m, Q, E, rest, q, P, gD, nD, aD, bD, nd, ndv, nv, av, bv, gv, as, bs, gs, c2, c4, c5, c6, c7, c8, v6) = Z := by with_unfolding_all rfl
end Cseg_d
set_option maxHeartbeats 4000000 in
theorem seg_d {w : World} {A : Around} {base g : Heap} {fr : List Env} {mg mb : Str → Option Value} {p : Program} {loose : List Str} {mean : ExcName → Option Value} {s : Shared} {L fa : Addr} {cd : Value} {m : Str → Option Value} {Q : Flow → Shared → Prop} {E : Value → Shared → Prop} {rest : List Stmt} {q : ToldP} {P : Par} {gD nD aD bD nd : Addr} {ndv nv av bv gv : List Value} {as bs gs : List Int} {c2 c4 c5 c6 c7 c8 : Obj} {v6 : Option Value} : Cseg_d.Sta w A base g fr mg mb p loose mean s L fa cd m Q E rest q P gD nD aD bD nd ndv nv av bv gv as bs gs c2 c4 c5 c6 c7 c8 v6 :=
  hilb Cseg_d.P0 Cseg_d.Z rfl (Eq.subst (motive := Cseg_d.P0) Cseg_d.zeq Cseg_d.key) (w, A, base, g, fr, mg, mb, p, loose, mean, s, L, fa, cd, m, Q, E, rest, q, P, gD, nD, aD, bD, nd, ndv, nv, av, bv, gv, as, bs, gs, c2, c4, c5, c6, c7, c8, v6)
section
end
end Mine

namespace Mine
open PyProof.V PySem.SeqAt
theorem sd_can : ∀ ns : List Str, (∀ x ∈ ns, PyData.strOk x = true) → PyData.canLayAll0 (ns.map PyData.str) = true
  | [], _ => by simp [PyData.canLayAll0]
  | n :: r, h => by simp [PyData.canLayAll0, PyData.canLay0, sd_can r fun x hx => h x (List.mem_cons_of_mem _ hx), h n List.mem_cons_self]
theorem sd_dep : ∀ ns : List Str, PyData.depthAll (ns.map PyData.str) ≤ 1
  | [] => by simp [PyData.depthAll]
  | n :: r => by
    have := sd_dep r
    simp only [List.map_cons, PyData.depthAll, PyData.depth]
    omega
theorem sd_shaped (ns : List Str) (hk : ∀ x ∈ ns, PyData.strOk x = true) : shaped (.list (ns.map PyData.str)) = true := by
  have h1 := sd_dep ns
  have h2 : PyData.depth (.list (ns.map PyData.str)) ≤ 64 := by simp only [PyData.depth]; omega
  show (PyData.canLay0 (.list (ns.map PyData.str)) && decide (PyData.depth (.list (ns.map PyData.str)) ≤ 64)) = true
  rw [Bool.and_eq_true]
  exact ⟨by simp only [PyData.canLay0]; exact sd_can ns hk, decide_eq_true h2⟩
theorem sd_eqv : ∀ ns : List Str, PyData.eqvAll (ns.map PyData.str) (ns.map PyData.str) = true
  | [] => by simp [PyData.eqvAll]
  | n :: r => by simp [PyData.eqvAll, PyData.eqv, sd_eqv r]
theorem sd_reads {h : Heap} : ∀ {vs : List Value} {ns : List Str}, StrsAre vs ns → ReadsAll h vs (ns.map PyData.str) []
  | _, _, .nil => .nil
  | _, _, .cons x t r => by
    have := ReadsAll.cons (Reads.str (h := h) x t) (sd_reads (h := h) r)
    simpa using this
/-- pairs of two texts as data -/
noncomputable def tpD (p : Str × Str) : PyData := .tuple [.str p.1, .str p.2]
theorem td_can : ∀ ns : List (Str × Str), (∀ p ∈ ns, PyData.strOk p.1 = true ∧ PyData.strOk p.2 = true) → PyData.canLayAll0 (ns.map tpD) = true
  | [], _ => by simp [PyData.canLayAll0]
  | n :: r, h => by
    have h1 := h n List.mem_cons_self
    simp [PyData.canLayAll0, PyData.canLay0, td_can r fun x hx => h x (List.mem_cons_of_mem _ hx), tpD, h1.1, h1.2]
theorem td_dep : ∀ ns : List (Str × Str), PyData.depthAll (ns.map tpD) ≤ 3
  | [] => by simp [PyData.depthAll]
  | n :: r => by
    have := td_dep r
    simp only [List.map_cons, PyData.depthAll, PyData.depth, tpD]
    omega
theorem td_shaped (ns : List (Str × Str)) (hk : ∀ p ∈ ns, PyData.strOk p.1 = true ∧ PyData.strOk p.2 = true) : shaped (.list (ns.map tpD)) = true := by
  have h1 := td_dep ns
  have h2 : PyData.depth (.list (ns.map tpD)) ≤ 64 := by simp only [PyData.depth]; omega
  show (PyData.canLay0 (.list (ns.map tpD)) && decide (PyData.depth (.list (ns.map tpD)) ≤ 64)) = true
  rw [Bool.and_eq_true]
  exact ⟨by simp only [PyData.canLay0]; exact td_can ns hk, decide_eq_true h2⟩
theorem td_eqv : ∀ ns : List (Str × Str), PyData.eqvAll (ns.map tpD) (ns.map tpD) = true
  | [] => by simp [PyData.eqvAll]
  | n :: r => by simp [PyData.eqvAll, PyData.eqv, td_eqv r, tpD]
theorem td_reads {h : Heap} {vs : List Value} {kvs : List (Str × Str)} (T : TupsIn h vs kvs) : ReadsAll h vs (kvs.map tpD) [] := by
  induction T with
  | nil => exact .nil
  | @cons a k v t u rs kvs ht r ih =>
    obtain ⟨o, ho, hc, n, hd⟩ := ht
    have h1 := ReadsAll.cons (Reads.str (h := h) k t) (ReadsAll.cons (Reads.str (h := h) v u) ReadsAll.nil)
    exact ReadsAll.cons (Reads.tuple ho hc hd h1) ih
section
variable {prog : Program} {w : World} {A : Around} {E : Value → Shared → Prop} {s : Shared} {h₀ : Heap} {L : Addr} {m : Str → Option Value} {news : List (Addr × Obj)}
theorem neS_K {a b : Addr} {vs us : List Value} {ns : List Str} {n k : Nat} {Q : Value → Shared → Prop} (N : News h₀ L s.heap news) (ma : (a, W.listOf vs.toArray n) ∈ news) (mb : (b, W.listOf us.toArray k) ∈ news) (hi : StrsAre vs ns) (hj : StrsAre us ns) (hk : ∀ x ∈ ns, PyData.strOk x = true) (hu : A.units + 64 < cLine)
    (h : Q (.bool false) s) : wpAny (model prog w) A (compareOp .NotEq (.ref a) (.ref b)) Q E s := by
  refine ne_dataH (reads_list_at (N.get ma) rfl rfl (by simpa using sd_reads hi)) (reads_list_at (N.get mb) rfl rfl (by simpa using sd_reads hj)) (sd_shaped ns hk) (sd_shaped ns hk) hu ?_
  simp only [PyData.eqv, sd_eqv, Bool.not_true]
  exact h
theorem neT_K {a b : Addr} {vs us : List Value} {ns : List (Str × Str)} {n k : Nat} {Q : Value → Shared → Prop} (N : News h₀ L s.heap news) (ma : (a, W.listOf vs.toArray n) ∈ news) (mb : (b, W.listOf us.toArray k) ∈ news) (hi : TupsIn s.heap vs ns) (hj : TupsIn s.heap us ns) (hk : ∀ p ∈ ns, PyData.strOk p.1 = true ∧ PyData.strOk p.2 = true) (hu : A.units + 64 < cLine)
    (h : Q (.bool false) s) : wpAny (model prog w) A (compareOp .NotEq (.ref a) (.ref b)) Q E s := by
  refine ne_dataH (reads_list_at (N.get ma) rfl rfl (by simpa using td_reads hi)) (reads_list_at (N.get mb) rfl rfl (by simpa using td_reads hj)) (td_shaped ns hk) (td_shaped ns hk) hu ?_
  simp only [PyData.eqv, td_eqv, Bool.not_true]
  exact h
theorem neI_K {a b : Addr} {vs us : List Value} {ns : List Int} {n k : Nat} {Q : Value → Shared → Prop} (N : News h₀ L s.heap news) (ma : (a, W.listOf vs.toArray n) ∈ news) (mb : (b, W.listOf us.toArray k) ∈ news) (hi : IntsAre vs ns) (hj : IntsAre us ns) (hu : A.units + 64 < cLine)
    (h : Q (.bool false) s) : wpAny (model prog w) A (compareOp .NotEq (.ref a) (.ref b)) Q E s := by
  refine ne_intsK (lst_N N ma) hi (lst_N N mb) hj hu ?_
  simp only [decide_true, Bool.not_true]
  exact h
end
end Mine

namespace Mine
theorem nm_o {o : Obj} {v : Data} (e : o.data = v) : Nm o := .mk
theorem nm_h {g h : Heap} {L a : Addr} {o : Obj} {r : List (Addr × Obj)} (N : News g L h ((a, o) :: r)) : Nm a := .mk
theorem farA_cons {a : Addr} {as bs : List Addr} (h : OffA a bs) (t : FarA as bs) : FarA (a :: as) bs := fun x hx => (List.mem_cons.mp hx).elim (fun e => e ▸ h) (t x)
theorem nm_l {w : World} {lx : LexP} {g h : Heap} {L : Addr} {ln : Int} {u : Tok} {vs : List Value} {gn : Nat} {k2 k3 k4 : DictEntry} {o1 o2 : Obj} {p4 p5 p6 p7 p8 : Addr × Obj} {ps : Array Value} {P : Addr} {r : List (Addr × Obj)} (J : LexF lx)
    (N : News g L h ((lx.pb, o1) :: (lx.x2, o2) :: (lx.d2, dictOf [ky w "lineno" (lx.t 0) (.int ln u), k2, k3, k4] 4) :: p4 :: p5 :: p6 :: p7 :: (lx.g, W.listOf vs.reverse.toArray gn) :: p8 :: (P, tabObj ps) :: r)) :
    Nm lx ∧ Nm u ∧ Nm vs ∧ Nm gn ∧ Nm ps := ⟨.mk, .mk, .mk, .mk, .mk⟩
theorem far_224 {as bs : List Addr} {P : Addr} (h : FarA as (bs ++ [P])) (l : ∀ a ∈ bs, @LT.lt Nat _ P a) : FarA (P :: as) bs := fun a ha b hb => by
  rcases List.mem_cons.mp ha with rfl | ha
  · exact Nat.ne_of_lt (l b hb)
  · exact h a ha b (List.mem_append_left _ hb)
/-- the reading: what is left and the line, ahead of each word -/
structure ReadOk (P : Par) (rem : Nat → List Str) (lin : Nat → Int) : Prop where
  r0 : rem 0 = chs (tTo P 5 ++ Str.ofString ".")
  l0 : lin 0 = 1
  one : ∀ i, ∀ c ∈ rem i, c.length = 1
  len : ∀ i, (rem i).length ≤ 1000
  step : ∀ i < 20, ∃ y, (wTo P 5)[i]? = some y ∧ lexT (rem i) (lin i) = some (y, rem (i + 1), lin (i + 1))
  dot : lexT (rem 20) (lin 20) = some (Str.ofString ".", [], 6)
theorem farA_one {as bs : List Addr} {a b : Nat} (h : FarA as bs) (ha : a ∈ as) (hb : b ∈ bs) : @Ne Nat a b := h a ha b hb
theorem far_of {rest own : List (Addr × Obj)} (O : ∀ p ∈ rest, ∀ q ∈ own, p.1 ≠ q.1) : FarA (rest.map (·.1)) (own.map (·.1)) := fun a ha b hb => by
  obtain ⟨p, hp, rfl⟩ := List.mem_map.mp ha
  obtain ⟨q, hq, rfl⟩ := List.mem_map.mp hb
  exact O p hp q hq
theorem row109 : True := by
  k_with "compareOp NotEq ref ref" => (k_here; k_dflt (refine' neS_K ?Nr109 ?ar109 ?br109 ?ir109 ?jr109 ?kr109 ?ur109 ?_; (case Nr109 => k_asm); (case ar109 => k_mem); (case br109 => k_mem); (case ir109 => assumption); (case jr109 => assumption); (case kr109 => assumption); (case ur109 => (try simp only [units_under_make, Around.deeper_units]); omega)))
  trivial
theorem padW_ok : ∀ k < 5, ∀ a < 3, ∀ b < 3, PyData.strOk (padW a k b) = true := by decide +kernel
theorem caseN_ok (b : Bool) : ∀ x < 5, PyData.strOk (caseN b x) = true := by cases b <;> decide +kernel
theorem wOf_ok {P : Par} (O : ParOk P) {k : Nat} (hk : k < 5) : ∀ x ∈ wOf P k, PyData.strOk x = true := by
  intro x hx
  rcases List.mem_cons.mp hx with rfl | hx
  · exact padW_ok k hk _ (O.ab k).1 _ (O.ab k).2
  · obtain ⟨y, hy, rfl⟩ := List.mem_map.mp hx
    exact caseN_ok _ y (O.v5 k y hy)
theorem wTo_mem {P : Par} : ∀ (n : Nat), ∀ x ∈ wTo P n, ∃ k < n, x ∈ wOf P k
  | 0, _, h => nomatch h
  | n + 1, x, h => by
    rcases List.mem_append.mp h with h | h
    · obtain ⟨k, hk, hx⟩ := wTo_mem n x h
      exact ⟨k, Nat.lt_succ_of_lt hk, hx⟩
    · exact ⟨n, Nat.lt_succ_self n, h⟩
theorem wTo_ok {P : Par} (O : ParOk P) : ∀ x ∈ wTo P 5, PyData.strOk x = true := fun x hx => by
  obtain ⟨k, hk, h⟩ := wTo_mem 5 x hx
  exact wOf_ok O hk x h
theorem row110 : True := by
  k_with "k_ne" => first | (refine neN ?_; (try dsimp only); k_extra "hid_pick") | exact off1_a (by with_reducible assumption) (by k_mem) | exact Ne.symm (off1_a (by with_reducible assumption) (by k_mem)) | exact farE_ne (by with_reducible assumption) (by k_mem) (by k_mem) | exact Ne.symm (farE_ne (by with_reducible assumption) (by k_mem) (by k_mem)) | exact farA_one (by with_reducible assumption) (by k_mem) (by k_mem) | exact Ne.symm (farA_one (by with_reducible assumption) (by k_mem) (by k_mem)) | (refine neN ?_; (try dsimp only); omega) | fail "k_ne"
  trivial
theorem row111 : True := by
  k_with "k_enter" => ((with_reducible show codeAny _ _ (Code.call (Value.ref 229) _) _ _); (refine' GS.callM (own := [(224, tabObj #[])]) ?kBr111 ?kFr111 ?kXr111 ?kNr111 ?kTr111 ?kAr111 ?kfr111 ?kkr111 ?krr111 ?kdr111 (fun ggq9 gBq9 gXq9 gTq9 gGq9 gKq9 gSq9 gBackq9 => lexer_c gBq9 gXq9 gTq9 gGq9 ?i1r111 ?i2r111 ?i3r111 ?i4r111 ?i5r111 ?_); (case kBr111 => assumption); (case kFr111 => assumption); (case kXr111 => assumption); (case kNr111 => assumption); (case kTr111 => assumption); (case kAr111 => keq_hits); (case kfr111 => exact rfl); (case kkr111 => exact rfl); (case krr111 => k_extra "gs_rem"); (case kdr111 => (dsimp only [List.map]); k_extra "gs_offR"); (case i1r111 => assumption); (case i2r111 => assumption); (case i3r111 => k_room); (case i4r111 => (try simp only [units_under_make, Around.deeper_units]); omega); (case i5r111 => (rw [str_app_len]; omega)); (revert ggq9; ((first | tm_at "clo1" | refine fun ggq9 => ?_); refine fun gBq9 => ?_; refine fun gXq9 => ?_; refine fun gTq9 => ?_; refine fun gGq9 => ?_; refine fun gKq9 => ?_; refine fun gSq9 => ?_; refine fun gBackq9 => ?_); ((first | tm_at "clo1" | refine fun lx'q9 => ?_); (first | tm_at "clo1" | refine fun vs'q9 => ?_); (first | tm_at "clo1" | refine fun u'q9 => ?_); (first | tm_at "clo1" | refine fun gn'q9 => ?_); (first | tm_at "clo1" | refine fun ps'q9 => ?_); (first | tm_at "clo1" | refine fun h'q9 => ?_); (first | tm_at "clo1" | refine fun tk'q9 => ?_); (first | tm_at "clo1" | refine fun LF'q9 => ?_); (first | tm_at "clo1" | refine fun L24'q9 => ?_); refine fun VS'q9 => ?_; refine fun gG'q9 => ?_); (obtain ⟨F'q9, N'q9, O'q9⟩ := gBackq9 _ _ gG'q9); (clear gBq9 gXq9 gTq9 gGq9 gKq9 gSq9 gBackq9 gG'q9); (replace O'q9 := far_224 (bs := lexA lx'q9) (far_of O'q9) L24'q9); (clear L24'q9); (dsimp only [lexNews, lexA, List.map, List.cons_append, List.nil_append] at N'q9 O'q9); (try dsimp only))))
  trivial
theorem row112 : True := by
  k_with "k_enter" => ((with_reducible show codeAny _ _ (Code.call (Value.ref 73) _) _ _); (refine' GS.callM ?kBr112 ?kFr112 ?kXr112 ?kNr112 ?kTr112 ?kAr112 ?kfr112 ?kkr112 ?krr112 ?kdr112 (fun ggq9 gBq9 gXq9 gTq9 gGq9 gKq9 gSq9 gBackq9 => gt_read gBq9 gXq9 gTq9 gGq9 ?i1r112 ?i2r112 ?i3r112 ?i4r112 ?i5r112 ?i6r112 ?i7r112 ?i8r112 ?i9r112 ?_); (case kBr112 => assumption); (case kFr112 => assumption); (case kXr112 => assumption); (case kNr112 => assumption); (case kTr112 => assumption); (case kAr112 => keq_hits); (case kfr112 => exact rfl); (case kkr112 => exact rfl); (case krr112 => k_extra "gs_rem"); (case kdr112 => (dsimp only [List.map]); k_extra "gs_offR"); (case i1r112 => assumption); (case i2r112 => assumption); (case i3r112 => assumption); (case i4r112 => k_room); (case i5r112 => (try simp only [units_under_make, Around.deeper_units]); omega); (case i6r112 => assumption); (case i7r112 => assumption); (case i8r112 => assumption); (case i9r112 => assumption); (revert ggq9; ((first | tm_at "clo1" | refine fun ggq9 => ?_); refine fun gBq9 => ?_; refine fun gXq9 => ?_; refine fun gTq9 => ?_; refine fun gGq9 => ?_; refine fun gKq9 => ?_; refine fun gSq9 => ?_; refine fun gBackq9 => ?_); ((first | tm_at "clo1" | refine fun vs'q9 => ?_); (first | tm_at "clo1" | refine fun u'q9 => ?_); (first | tm_at "clo1" | refine fun gn'q9 => ?_); (first | tm_at "clo1" | refine fun h'q9 => ?_); (first | tm_at "clo1" | refine fun tk1'q9 => ?_); (first | tm_at "clo1" | refine fun tk'q9 => ?_); refine fun VS'q9 => ?_; refine fun gG'q9 => ?_); (obtain ⟨F'q9, N'q9, -⟩ := gBackq9 _ _ gG'q9); (clear gBq9 gXq9 gTq9 gGq9 gKq9 gSq9 gBackq9 gG'q9); (try simp only [List.cons_append, List.nil_append] at N'q9); (try dsimp only))))
  trivial
noncomputable abbrev eTail (q : ToldP) (L wD nd bD aD gD nD : Addr) (wv ndv bv av gv nv : List Value) (wn : Nat) (c7 c6 c5 c4 c2 : Obj) (ps : Array Value) : List (Addr × Obj) :=
  (L + 1 + 1 + 1 + 1 + 1 + 1 + 1, c7) :: (wD, W.listOf wv.toArray wn) :: (L + 1 + 1 + 1 + 1 + 1 + 1, c6) :: (nd, W.listOf ndv.toArray ndv.length) :: (toldNews q ++ [(bD, W.listOf bv.toArray 0), (aD, W.listOf av.toArray 0), (gD, W.listOf gv.toArray 5), (nD, W.listOf nv.toArray 0), (L + 1 + 1 + 1 + 1 + 1, c5), (L + 1 + 1 + 1 + 1, c4), (L + 1 + 1, c2), (224, tabObj ps)])
section
variable {w : World} {A : Around} {base g : Heap} {fr : List Env} {mg mb : Str → Option Value} {p : Program} {loose : List Str} {mean : ExcName → Option Value} {s : Shared} {L fa : Addr} {cd : Value} {m : Str → Option Value} {Q : Flow → Shared → Prop} {E : Value → Shared → Prop} {rest : List Stmt}
  (B : Below A base fr g) (X : Frag.In (hd.heap_39 w.params) g) (T : Top p loose mean mg mb g)
include B X T
end
namespace Cseg_e
noncomputable def Sta (w : World) (A : Around) (base g : Heap) (fr : List Env) (mg mb : Str → Option Value) (p : Program) (loose : List Str) (mean : ExcName → Option Value) (s : Shared) (L fa : Addr) (cd : Value) (m : Str → Option Value) (Q : Flow → Shared → Prop) (E : Value → Shared → Prop) (rest : List Stmt) (q : ToldP) (P : Par) (rem : Nat → List Str) (lin : Nat → Int) (wD gD nD aD bD nd : Addr) (wv ndv nv av bv gv : List Value) (wn : Nat) (tT : Tok) (c2 c4 c5 c6 c7 c8 : Obj) (v7 v8 : Option Value) : Prop := ∀ (B : Below A base fr g) (X : Frag.In (hd.heap_39 w.params) g) (T : Top p loose mean mg mb g) (O : ParOk P) (R : ReadOk P rem lin) (hE : PassesOwn (model Challenge.rw_st0024_01.row.prog w) (A.deeper (lawEnv L fa cd)) (lawEnv L fa cd) E) (hh : A.handled = none) (hroom : A.depth + 60 < recursionLimit) (hu : A.units + 600 < cLine) (C : CodeHd base 228 224) (hwv : StrsAre wv (wTo P 5)) (e6 : c6.data = .cell (some (.ref wD))) (e7 : c7.data = .cell v7) (e8 : c8.data = .cell v8) (l0 : @LT.lt Nat _ 224 L) (l2 : FarE [L + 1 + 1 + 1 + 1 + 1 + 1 + 1 + 1, L + 1 + 1 + 1 + 1 + 1 + 1 + 1, L + 1 + 1 + 1 + 1 + 1 + 1, L + 1 + 1 + 1 + 1 + 1, L + 1 + 1 + 1 + 1, L + 1 + 1, 224] [wD, bD, aD, gD, nD, nd, q.tl, q.a0, q.a1, q.a2, q.a3, q.a4]) (F0 : Fr g L s.heap m) (hm : ∀ p ∈ [(Str.ofString "told", Value.ref q.tl), (Str.ofString "need", Value.ref nd), (Str.ofString "given", Value.ref gD), (Str.ofString "text", .str (tTo P 5) tT)], m p.1 = some p.2) (N : News g L s.heap ((wD, W.listOf wv.toArray wn) :: (L + 1 + 1 + 1 + 1 + 1 + 1, c6) :: dTail q L nd bD aD gD nD ndv bv av gv nv c8 c7 c5 c4 c2)) (h : ∀ h' tk lx u rD rv vs gn c7' c8' ps m', LexF lx → StrsAre vs (rem 20) → StrsAre rv (wTo P 5) → c7'.data = .cell (some (.ref lx.x2)) → c8'.data = .cell (some (.ref rD)) →
    FarA (rD :: [L + 1 + 1 + 1 + 1 + 1 + 1 + 1 + 1, L + 1 + 1 + 1 + 1 + 1 + 1 + 1, wD, L + 1 + 1 + 1 + 1 + 1 + 1, nd, q.tl, q.a0, q.a1, q.a2, q.a3, q.a4, bD, aD, gD, nD, L + 1 + 1 + 1 + 1 + 1, L + 1 + 1 + 1 + 1, L + 1 + 1, 224]) (lexA lx) →
    Fr g L h' m' → (∀ p ∈ [(Str.ofString "told", Value.ref q.tl), (Str.ofString "need", Value.ref nd), (Str.ofString "given", Value.ref gD)], m' p.1 = some p.2) →
    News g L h' ((rD, W.listOf rv.toArray rv.length) :: (lexNews w lx (lin 20) u [] 0 vs gn ++ (L + 1 + 1 + 1 + 1 + 1 + 1 + 1 + 1, c8') :: eTail q L wD nd bD aD gD nD wv ndv bv av gv nv wn c7' c6 c5 c4 c2 ps)) →
    wpAny (model Challenge.rw_st0024_01.row.prog w) (A.deeper (lawEnv L fa cd)) (execs rest (lawEnv L fa cd)) Q E { s with heap := h', toks := tk }), wpAny (model Challenge.rw_st0024_01.row.prog w) (A.deeper (lawEnv L fa cd)) (execs (st10s.1 :: st11s.1 :: st12s.1 :: rest) (lawEnv L fa cd)) Q E s
noncomputable def P0 (z : World × Around × Heap × Heap × (List Env) × (Str → Option Value) × (Str → Option Value) × Program × (List Str) × (ExcName → Option Value) × Shared × Addr × Addr × Value × (Str → Option Value) × (Flow → Shared → Prop) × (Value → Shared → Prop) × (List Stmt) × ToldP × Par × (Nat → List Str) × (Nat → Int) × Addr × Addr × Addr × Addr × Addr × Addr × (List Value) × (List Value) × (List Value) × (List Value) × (List Value) × (List Value) × Nat × Tok × Obj × Obj × Obj × Obj × Obj × Obj × (Option Value) × (Option Value)) : Prop := Sta (z.1) (z.2.1) (z.2.2.1) (z.2.2.2.1) (z.2.2.2.2.1) (z.2.2.2.2.2.1) (z.2.2.2.2.2.2.1) (z.2.2.2.2.2.2.2.1) (z.2.2.2.2.2.2.2.2.1) (z.2.2.2.2.2.2.2.2.2.1) (z.2.2.2.2.2.2.2.2.2.2.1) (z.2.2.2.2.2.2.2.2.2.2.2.1) (z.2.2.2.2.2.2.2.2.2.2.2.2.1) (z.2.2.2.2.2.2.2.2.2.2.2.2.2.1) (z.2.2.2.2.2.2.2.2.2.2.2.2.2.2.1) (z.2.2.2.2.2.2.2.2.2.2.2.2.2.2.2.1) (z.2.2.2.2.2.2.2.2.2.2.2.2.2.2.2.2.1) (z.2.2.2.2.2.2.2.2.2.2.2.2.2.2.2.2.2.1) (z.2.2.2.2.2.2.2.2.2.2.2.2.2.2.2.2.2.2.1) (z.2.2.2.2.2.2.2.2.2.2.2.2.2.2.2.2.2.2.2.1) (z.2.2.2.2.2.2.2.2.2.2.2.2.2.2.2.2.2.2.2.2.1) (z.2.2.2.2.2.2.2.2.2.2.2.2.2.2.2.2.2.2.2.2.2.1) (z.2.2.2.2.2.2.2.2.2.2.2.2.2.2.2.2.2.2.2.2.2.2.1) (z.2.2.2.2.2.2.2.2.2.2.2.2.2.2.2.2.2.2.2.2.2.2.2.1) (z.2.2.2.2.2.2.2.2.2.2.2.2.2.2.2.2.2.2.2.2.2.2.2.2.1) (z.2.2.2.2.2.2.2.2.2.2.2.2.2.2.2.2.2.2.2.2.2.2.2.2.2.1) (z.2.2.2.2.2.2.2.2.2.2.2.2.2.2.2.2.2.2.2.2.2.2.2.2.2.2.1) (z.2.2.2.2.2.2.2.2.2.2.2.2.2.2.2.2.2.2.2.2.2.2.2.2.2.2.2.1) (z.2.2.2.2.2.2.2.2.2.2.2.2.2.2.2.2.2.2.2.2.2.2.2.2.2.2.2.2.1) (z.2.2.2.2.2.2.2.2.2.2.2.2.2.2.2.2.2.2.2.2.2.2.2.2.2.2.2.2.2.1) (z.2.2.2.2.2.2.2.2.2.2.2.2.2.2.2.2.2.2.2.2.2.2.2.2.2.2.2.2.2.2.1) (z.2.2.2.2.2.2.2.2.2.2.2.2.2.2.2.2.2.2.2.2.2.2.2.2.2.2.2.2.2.2.2.1) (z.2.2.2.2.2.2.2.2.2.2.2.2.2.2.2.2.2.2.2.2.2.2.2.2.2.2.2.2.2.2.2.2.1) (z.2.2.2.2.2.2.2.2.2.2.2.2.2.2.2.2.2.2.2.2.2.2.2.2.2.2.2.2.2.2.2.2.2.1) (z.2.2.2.2.2.2.2.2.2.2.2.2.2.2.2.2.2.2.2.2.2.2.2.2.2.2.2.2.2.2.2.2.2.2.1) (z.2.2.2.2.2.2.2.2.2.2.2.2.2.2.2.2.2.2.2.2.2.2.2.2.2.2.2.2.2.2.2.2.2.2.2.1) (z.2.2.2.2.2.2.2.2.2.2.2.2.2.2.2.2.2.2.2.2.2.2.2.2.2.2.2.2.2.2.2.2.2.2.2.2.1) (z.2.2.2.2.2.2.2.2.2.2.2.2.2.2.2.2.2.2.2.2.2.2.2.2.2.2.2.2.2.2.2.2.2.2.2.2.2.1) (z.2.2.2.2.2.2.2.2.2.2.2.2.2.2.2.2.2.2.2.2.2.2.2.2.2.2.2.2.2.2.2.2.2.2.2.2.2.2.1) (z.2.2.2.2.2.2.2.2.2.2.2.2.2.2.2.2.2.2.2.2.2.2.2.2.2.2.2.2.2.2.2.2.2.2.2.2.2.2.2.1) (z.2.2.2.2.2.2.2.2.2.2.2.2.2.2.2.2.2.2.2.2.2.2.2.2.2.2.2.2.2.2.2.2.2.2.2.2.2.2.2.2.1) (z.2.2.2.2.2.2.2.2.2.2.2.2.2.2.2.2.2.2.2.2.2.2.2.2.2.2.2.2.2.2.2.2.2.2.2.2.2.2.2.2.2.1) (z.2.2.2.2.2.2.2.2.2.2.2.2.2.2.2.2.2.2.2.2.2.2.2.2.2.2.2.2.2.2.2.2.2.2.2.2.2.2.2.2.2.2.1) (z.2.2.2.2.2.2.2.2.2.2.2.2.2.2.2.2.2.2.2.2.2.2.2.2.2.2.2.2.2.2.2.2.2.2.2.2.2.2.2.2.2.2.2)
noncomputable def Z := @Classical.epsilon _ ⟨(w00, A00, default, default, [], (fun _ => none), (fun _ => none), default, [], (fun _ => none), s00, 0, 0, .none, (fun _ => none), (fun _ _ => True), (fun _ _ => True), [], told00, par00, (fun _ => []), (fun _ => 0), 0, 0, 0, 0, 0, 0, [], [], [], [], [], [], 0, 0, default, default, default, default, default, default, none, none)⟩ fun z => ¬ P0 z
@[irreducible] noncomputable def w := Z.1
@[irreducible] noncomputable def A := Z.2.1
@[irreducible] noncomputable def base := Z.2.2.1
@[irreducible] noncomputable def g := Z.2.2.2.1
@[irreducible] noncomputable def fr := Z.2.2.2.2.1
@[irreducible] noncomputable def mg := Z.2.2.2.2.2.1
@[irreducible] noncomputable def mb := Z.2.2.2.2.2.2.1
@[irreducible] noncomputable def p := Z.2.2.2.2.2.2.2.1
@[irreducible] noncomputable def loose := Z.2.2.2.2.2.2.2.2.1
@[irreducible] noncomputable def mean := Z.2.2.2.2.2.2.2.2.2.1
@[irreducible] noncomputable def s := Z.2.2.2.2.2.2.2.2.2.2.1
@[irreducible] noncomputable def L := Z.2.2.2.2.2.2.2.2.2.2.2.1
@[irreducible] noncomputable def fa := Z.2.2.2.2.2.2.2.2.2.2.2.2.1
@[irreducible] noncomputable def cd := Z.2.2.2.2.2.2.2.2.2.2.2.2.2.1
@[irreducible] noncomputable def m := Z.2.2.2.2.2.2.2.2.2.2.2.2.2.2.1
@[irreducible] noncomputable def Q := Z.2.2.2.2.2.2.2.2.2.2.2.2.2.2.2.1
@[irreducible] noncomputable def E := Z.2.2.2.2.2.2.2.2.2.2.2.2.2.2.2.2.1
@[irreducible] noncomputable def rest := Z.2.2.2.2.2.2.2.2.2.2.2.2.2.2.2.2.2.1
@[irreducible] noncomputable def q := Z.2.2.2.2.2.2.2.2.2.2.2.2.2.2.2.2.2.2.1
@[irreducible] noncomputable def P := Z.2.2.2.2.2.2.2.2.2.2.2.2.2.2.2.2.2.2.2.1
@[irreducible] noncomputable def rem := Z.2.2.2.2.2.2.2.2.2.2.2.2.2.2.2.2.2.2.2.2.1
@[irreducible] noncomputable def lin := Z.2.2.2.2.2.2.2.2.2.2.2.2.2.2.2.2.2.2.2.2.2.1
@[irreducible] noncomputable def wD := Z.2.2.2.2.2.2.2.2.2.2.2.2.2.2.2.2.2.2.2.2.2.2.1
@[irreducible] noncomputable def gD := Z.2.2.2.2.2.2.2.2.2.2.2.2.2.2.2.2.2.2.2.2.2.2.2.1
@[irreducible] noncomputable def nD := Z.2.2.2.2.2.2.2.2.2.2.2.2.2.2.2.2.2.2.2.2.2.2.2.2.1
@[irreducible] noncomputable def aD := Z.2.2.2.2.2.2.2.2.2.2.2.2.2.2.2.2.2.2.2.2.2.2.2.2.2.1
@[irreducible] noncomputable def bD := Z.2.2.2.2.2.2.2.2.2.2.2.2.2.2.2.2.2.2.2.2.2.2.2.2.2.2.1
@[irreducible] noncomputable def nd := Z.2.2.2.2.2.2.2.2.2.2.2.2.2.2.2.2.2.2.2.2.2.2.2.2.2.2.2.1
@[irreducible] noncomputable def wv := Z.2.2.2.2.2.2.2.2.2.2.2.2.2.2.2.2.2.2.2.2.2.2.2.2.2.2.2.2.1
@[irreducible] noncomputable def ndv := Z.2.2.2.2.2.2.2.2.2.2.2.2.2.2.2.2.2.2.2.2.2.2.2.2.2.2.2.2.2.1
@[irreducible] noncomputable def nv := Z.2.2.2.2.2.2.2.2.2.2.2.2.2.2.2.2.2.2.2.2.2.2.2.2.2.2.2.2.2.2.1
@[irreducible] noncomputable def av := Z.2.2.2.2.2.2.2.2.2.2.2.2.2.2.2.2.2.2.2.2.2.2.2.2.2.2.2.2.2.2.2.1
@[irreducible] noncomputable def bv := Z.2.2.2.2.2.2.2.2.2.2.2.2.2.2.2.2.2.2.2.2.2.2.2.2.2.2.2.2.2.2.2.2.1
@[irreducible] noncomputable def gv := Z.2.2.2.2.2.2.2.2.2.2.2.2.2.2.2.2.2.2.2.2.2.2.2.2.2.2.2.2.2.2.2.2.2.1
@[irreducible] noncomputable def wn := Z.2.2.2.2.2.2.2.2.2.2.2.2.2.2.2.2.2.2.2.2.2.2.2.2.2.2.2.2.2.2.2.2.2.2.1
@[irreducible] noncomputable def tT := Z.2.2.2.2.2.2.2.2.2.2.2.2.2.2.2.2.2.2.2.2.2.2.2.2.2.2.2.2.2.2.2.2.2.2.2.1
@[irreducible] noncomputable def c2 := Z.2.2.2.2.2.2.2.2.2.2.2.2.2.2.2.2.2.2.2.2.2.2.2.2.2.2.2.2.2.2.2.2.2.2.2.2.1
@[irreducible] noncomputable def c4 := Z.2.2.2.2.2.2.2.2.2.2.2.2.2.2.2.2.2.2.2.2.2.2.2.2.2.2.2.2.2.2.2.2.2.2.2.2.2.1
@[irreducible] noncomputable def c5 := Z.2.2.2.2.2.2.2.2.2.2.2.2.2.2.2.2.2.2.2.2.2.2.2.2.2.2.2.2.2.2.2.2.2.2.2.2.2.2.1
@[irreducible] noncomputable def c6 := Z.2.2.2.2.2.2.2.2.2.2.2.2.2.2.2.2.2.2.2.2.2.2.2.2.2.2.2.2.2.2.2.2.2.2.2.2.2.2.2.1
@[irreducible] noncomputable def c7 := Z.2.2.2.2.2.2.2.2.2.2.2.2.2.2.2.2.2.2.2.2.2.2.2.2.2.2.2.2.2.2.2.2.2.2.2.2.2.2.2.2.1
@[irreducible] noncomputable def c8 := Z.2.2.2.2.2.2.2.2.2.2.2.2.2.2.2.2.2.2.2.2.2.2.2.2.2.2.2.2.2.2.2.2.2.2.2.2.2.2.2.2.2.1
@[irreducible] noncomputable def v7 := Z.2.2.2.2.2.2.2.2.2.2.2.2.2.2.2.2.2.2.2.2.2.2.2.2.2.2.2.2.2.2.2.2.2.2.2.2.2.2.2.2.2.2.1
@[irreducible] noncomputable def v8 := Z.2.2.2.2.2.2.2.2.2.2.2.2.2.2.2.2.2.2.2.2.2.2.2.2.2.2.2.2.2.2.2.2.2.2.2.2.2.2.2.2.2.2.2
set_option maxHeartbeats 4000000 in
theorem key : Sta w A base g fr mg mb p loose mean s L fa cd m Q E rest q P rem lin wD gD nD aD bD nd wv ndv nv av bv gv wn tT c2 c4 c5 c6 c7 c8 v7 v8 := fun B X T O R hE hh hroom hu C hwv e6 e7 e8 l0 l2 F0 hm N h => by
  revert X; k_fill; intro X
  have F1 := Fr.expose _ F0 hm
  dsimp only [kstB] at F1
  clear F0
  dsimp only [dTail, toldNews, List.cons_append, List.nil_append] at N
  dsimp only
  have lT := tTo_len O 5 (Nat.le_refl _)
  have l1 : (Str.ofString ".").length = 1 := rfl
  k_steps
  (rename LexF _ => J)
  (rename Fr _ _ _ _ => F2)
  (rename News _ _ _ _ => N2)
  obtain ⟨lx, u0, vs0, gn0, ps0⟩ := nm_l J N2
  (rename FarA _ _ => O1)
  (rename (Obj.data _ = Data.cell (some (Value.ref (lx : LexP).x2))) => e7')
  have c7' := nm_o e7'
  have N3 := News.sub' (l := lexNews w lx (lin 0) u0 [] 0 vs0 gn0 ++ (L + 1 + 1 + 1 + 1 + 1 + 1 + 1 + 1, c8) :: eTail q L wD nd bD aD gD nD wv ndv bv av gv nv wn c7' c6 c5 c4 c2 ps0) N2 (by rw [R.l0]; dsimp only [lexNews, eTail, toldNews, List.cons_append, List.nil_append]; k_extra "gs_sub")
  refine LCg.CompSrc.range (by assumption) F2 N3 (by assumption) (by decide) (n := 20) (by rfl) (Nat.le_of_ble_eq_true rfl) ?_
  (tm_at "nmx1"; refine fun g' => ?_)
  refine cr_led (fun i ys nw => ∃ vs gn u, nw = lexNews w lx (lin i) u [] 0 vs gn ++ (L + 1 + 1 + 1 + 1 + 1 + 1 + 1 + 1, c8) :: eTail q L wD nd bD aD gD nD wv ndv bv av gv nv wn c7' c6 c5 c4 c2 ps0 ∧ StrsAre ys ((wTo P 5).take i) ∧ StrsAre vs (rem i)) ⟨vs0, gn0, u0, rfl, .nil, by rw [R.r0]; assumption⟩ ?_ ?_
  · clear N2 N3 F2
    rintro i v ys nw I' oI' C' oC' D' m' h' tk' E' hi ⟨tv, rfl⟩ ⟨vs, gn, u, rfl, hy, hv⟩ hC' hx' F' N' off' ne'
    dsimp only [lexNews, eTail, toldNews, List.cons_append, List.nil_append] at N' off'
    obtain ⟨y, hy1, hy2⟩ := R.step i hi
    (revert i ys I' oI' C' oC' D' m' h' tk' E' tv vs gn u y; tm_at "nmx11"; refine fun i ys I' oI' C' oC' D' m' h' tk' E' => ?_; k_extra "kf"; tm_at "nmx4"; refine fun tv vs gn u => ?_; k_extra "kf"; tm_at "nmx1"; refine fun y => ?_; k_extra "kw")
    have ro := R.one i
    have rl := R.len i
    k_steps
    · rw [List.take_add_one, hy1]
      exact StrsAre.append' hy (.cons _ _ .nil)
    · assumption
  · rintro ys nw ⟨vs, gn, u, rfl, hy, hv⟩
    have hwl : (wTo P 5).length = 20 := wTo_len O 5
    rw [show (wTo P 5).take 20 = wTo P 5 from List.take_of_length_le (Nat.le_of_eq hwl)] at hy
    clear N2 N3 F2
    (revert ys vs gn u; tm_at "nmx4"; refine fun ys vs gn u => ?_; k_extra "kw")
    have hok := wTo_ok O
    k_steps
    (rename News _ _ _ _ => N5)
    (rename (Obj.data _ = Data.cell (some (Value.ref _))) => e8')
    have rD := nm_h N5
    dsimp only
    refine h _ _ lx u rD ys vs gn c7' _ ps0 _ J hv hy e7' e8' ?_ (by assumption) (by kst_all) (News.sub' N5 ?_)
    · refine farA_cons (off1_own (by assumption) ?_) (fun a ha b hb => O1 a ((?_ : Sub _ _) a ha) b hb)
      · (try dsimp only [List.map]); k_extra "gs_sub"
      · k_extra "gs_sub"
    · dsimp only [lexNews, eTail, toldNews, List.cons_append, List.nil_append]; k_extra "gs_sub"
theorem zeq : (w, A, base, g, fr, mg, mb, p, loose, mean, s, L, fa, cd, m, Q, E, rest, q, P, rem, lin, wD, gD, nD, aD, bD, nd, wv, ndv, nv, av, bv, gv, wn, tT, c2, c4, c5, c6, c7, c8, v7, v8) = Z := by with_unfolding_all rfl
end Cseg_e
set_option maxHeartbeats 4000000 in
theorem seg_e {w : World} {A : Around} {base g : Heap} {fr : List Env} {mg mb : Str → Option Value} {p : Program} {loose : List Str} {mean : ExcName → Option Value} {s : Shared} {L fa : Addr} {cd : Value} {m : Str → Option Value} {Q : Flow → Shared → Prop} {E : Value → Shared → Prop} {rest : List Stmt} {q : ToldP} {P : Par} {rem : Nat → List Str} {lin : Nat → Int} {wD gD nD aD bD nd : Addr} {wv ndv nv av bv gv : List Value} {wn : Nat} {tT : Tok} {c2 c4 c5 c6 c7 c8 : Obj} {v7 v8 : Option Value} : Cseg_e.Sta w A base g fr mg mb p loose mean s L fa cd m Q E rest q P rem lin wD gD nD aD bD nd wv ndv nv av bv gv wn tT c2 c4 c5 c6 c7 c8 v7 v8 :=
  hilb Cseg_e.P0 Cseg_e.Z rfl (Eq.subst (motive := Cseg_e.P0) Cseg_e.zeq Cseg_e.key) (w, A, base, g, fr, mg, mb, p, loose, mean, s, L, fa, cd, m, Q, E, rest, q, P, rem, lin, wD, gD, nD, aD, bD, nd, wv, ndv, nv, av, bv, gv, wn, tT, c2, c4, c5, c6, c7, c8, v7, v8)
section
end
end Mine

namespace Mine
open PySem.Spec PySem.Calls
section
variable {prog : Program} {w : World} {A : Around} {E : Value → Shared → Prop} {R : Result → Shared → Prop} {s : Shared}
noncomputable abbrev c2E (elt t1 i1 t2 i2 : PySem.Expr) (ifs : List PySem.Expr) (scope : Scope) (pos : Pos) : PySem.Expr := .ListComp elt [⟨t1, i1, [], 0⟩, ⟨t2, i2, ifs, 0⟩] scope pos
theorem compTurn2_0 (elt t1 i1 t2 i2 : PySem.Expr) (ifs : List PySem.Expr) (scope : Scope) (pos : Pos) (it acc : Value) (env : Env) :
    compTurn (c2E elt t1 i1 t2 i2 ifs scope pos) 0 it acc env = (do
      standAt i1.pos
      match ← pyNext it with
      | none => pure (.done .next)
      | some v =>
        letOwnedTupleGo t1 it v
        assign t1 env v
        let x ← eval i2 env
        standAt i2.pos
        let x ← foldedSetIterable i2 env x
        let _ ← runOwn (.compStart (c2E elt t1 i1 t2 i2 ifs scope pos) 1 (← holding [x] (pyIter x)) acc env) env
        again (.compLoop (c2E elt t1 i1 t2 i2 ifs scope pos) 0 it acc env)) := by rfl
theorem compTurn2_1 (elt t1 i1 t2 i2 : PySem.Expr) (ifs : List PySem.Expr) (scope : Scope) (pos : Pos) (it acc : Value) (env : Env) :
    compTurn (c2E elt t1 i1 t2 i2 ifs scope pos) 1 it acc env = (do
      standAt i2.pos
      match ← pyNext it with
      | none => pure (.done .next)
      | some v =>
        letOwnedTupleGo t2 it v
        assign t2 env v
        let mut ok := true
        for c in ifs do
          if ok then ok ← isTrue c env (eval c env)
        if ok then
          (do let _ ← call (.builtin "list.append") [acc, ← eval elt env])
        again (.compLoop (c2E elt t1 i1 t2 i2 ifs scope pos) 1 it acc env)) := by rfl
noncomputable abbrev nE (prog : Program) (w : World) (A : Around) (env : Env) (R : Result → Shared → Prop) : Value → Shared → Prop := notedBy (model prog w) A env fun e s' => R (.error e) s'
noncomputable abbrev cE (prog : Program) (w : World) (A : Around) (env : Env) (E : Value → Shared → Prop) : Value → Shared → Prop := cameBackBy (model prog w) A env E
theorem cl2_outer {elt t1 i1 t2 i2 : PySem.Expr} {ifs : List PySem.Expr} {scope : Scope} {pos : Pos} {it acc : Value} {env : Env} (I : Nat → Shared → Prop)
    (turn : ∀ n s, I n s → wpAny (model prog w) A (pyNext it) (fun r s₁ => match r with
      | none => R (.ok .next) s₁
      | some v => wpAny (model prog w) A (letOwnedTupleGo t1 it v) (fun _ s₂ => wpAny (model prog w) A (assign t1 env v) (fun _ s₃ => wpAny (model prog w) A (eval i2 env) (fun x s₄ => wpAny (model prog w) A (pyIter x) (fun it2 s₅ =>
          codeAny (model prog w) A (.compStart (c2E elt t1 i1 t2 i2 ifs scope pos) 1 it2 acc env) (fun r s₆ => match r with | .ok _ => ∃ m, m < n ∧ I m s₆ | .error e => cE prog w A env (nE prog w A env R) e s₆) s₅)
          (nE prog w A env R) s₄) (nE prog w A env R) s₃) (nE prog w A env R) s₂) (nE prog w A env R) s₁) (nE prog w A env R) s)
    (n : Nat) (h : I n s) (hs : ∀ x, foldedSetIterable i2 env x = pure x := by intro _; rfl) :
    codeAny (model prog w) A (.compLoop (c2E elt t1 i1 t2 i2 ifs scope pos) 0 it acc env) R s := by
  refine codeAny_loop rfl I (fun n s hI => ?_) n h
  show wpAny _ A ((compTurn (c2E elt t1 i1 t2 i2 ifs scope pos) 0 it acc env).onRaise (fun x => do noteFrame x env; theTreesLotGoes x)) _ _ s
  refine wpAny_noted ?_
  rw [compTurn2_0]
  refine wpAny_bind (wpAny_standAt (wpAny_bind (wpAny_mono (turn n s hI) (fun r s₁ h₁ => ?_) fun _ _ h' => h')))
  cases r with
  | none => exact wpAny_pure h₁
  | some v =>
    refine wpAny_bind (wpAny_mono h₁ (fun _ s₂ h₂ => wpAny_bind (wpAny_mono h₂ (fun _ s₃ h₃ => wpAny_bind (wpAny_mono h₃ (fun x s₄ h₄ => ?_) fun _ _ h' => h')) fun _ _ h' => h')) fun _ _ h' => h')
    refine wpAny_bind (wpAny_standAt (wpAny_bind (wpAny_of_eq (hs x) (wpAny_bind (wpAny_holding (wpAny_mono h₄ (fun it2 s₅ h₅ => ?_) fun _ _ h' => h'))))))
    have em : A.mark none = A := rfl
    refine wpAny_bind (wpAny_runOwn (em.symm ▸ codeAny_mono h₅ fun r s₆ h₆ => ?_))
    cases r with
    | ok f => exact wpAny_pure ⟨rfl, h₆⟩
    | error e => exact h₆
theorem cl2_start {elt t1 i1 t2 i2 : PySem.Expr} {ifs : List PySem.Expr} {scope : Scope} {pos : Pos} {it acc : Value} {env : Env}
    (h0 : codeAny (model prog w) A (.compLoop (c2E elt t1 i1 t2 i2 ifs scope pos) 1 it acc env) R s)
    (h : wpAny (model prog w) A (pyIter it) (fun it' s' => codeAny (model prog w) A (.compLoop (c2E elt t1 i1 t2 i2 ifs scope pos) 1 it' acc env) R s') (nE prog w A env R) s) :
    codeAny (model prog w) A (.compStart (c2E elt t1 i1 t2 i2 ifs scope pos) 1 it acc env) R s := by
  refine codeAny_of_tree ?_
  show wpAny _ _ ((compStart (c2E elt t1 i1 t2 i2 ifs scope pos) 1 it acc env).onRaise (fun x => do noteFrame x env; standAt theWindowsPlace)) _ _ s
  refine wpAny_notedAt ?_
  unfold compStart
  show wpAny _ _ (ask >>= _) _ _ s
  refine wpAny_bind (wpAny_askSetting (wpAny_ite ?_))
  split
  · first
      | exact wpAny_bind (wpAny_pure (wpAny_pure (And.intro rfl h0)))
      | exact wpAny_pure (And.intro rfl h0)
  · first
      | exact wpAny_bind (wpAny_rule (wpAny_bind (wpAny_standAt (wpAny_bind (wpAny_mono h (fun it' s' h' => wpAny_pure (And.intro rfl h')) fun _ _ x => x)))))
      | (refine wpAny_bind (wpAny_rule ?_); show wpAny _ _ (standAt i2.pos >>= _) _ _ s; exact wpAny_bind (wpAny_standAt (wpAny_bind (wpAny_mono h (fun it' s' h' => wpAny_pure (And.intro rfl h')) fun _ _ x => x))))
/-- one turn of the inner loop -/
theorem cl2_step {elt t1 i1 t2 i2 : PySem.Expr} {ifs : List PySem.Expr} {scope : Scope} {pos : Pos} {it acc : Value} {env : Env}
    (turn : wpAny (model prog w) A (pyNext it) (fun r s₁ => match r with
      | none => R (.ok .next) s₁
      | some v => wpAny (model prog w) A (assign t2 env v) (fun _ s₂ =>
          wpAny (model prog w) A (forIn ifs true fun c r => if r = true then do let ok ← isTrue c env (eval c env); pure (ForInStep.yield ok) else pure (ForInStep.yield r)) (fun ok s₃ =>
            if ok = true then wpAny (model prog w) A (eval elt env) (fun x s₄ =>
              wpAny (model prog w) A (call (.builtin "list.append") [acc, x]) (fun _ s₅ => codeAny (model prog w) A (.compLoop (c2E elt t1 i1 t2 i2 ifs scope pos) 1 it acc env) R s₅) (nE prog w A env R) s₄) (nE prog w A env R) s₃
            else codeAny (model prog w) A (.compLoop (c2E elt t1 i1 t2 i2 ifs scope pos) 1 it acc env) R s₃) (nE prog w A env R) s₂) (nE prog w A env R) s₁) (nE prog w A env R) s)
    (ht : ∀ v, letOwnedTupleGo t2 it v = pure () := by intro _; rfl) :
    codeAny (model prog w) A (.compLoop (c2E elt t1 i1 t2 i2 ifs scope pos) 1 it acc env) R s := by
  refine codeAny_of_tree ?_
  show wpAny _ A ((compTurn (c2E elt t1 i1 t2 i2 ifs scope pos) 1 it acc env).onRaise (fun x => do noteFrame x env; theTreesLotGoes x)) _ _ s
  refine wpAny_noted ?_
  rw [compTurn2_1]
  refine wpAny_bind (wpAny_standAt (wpAny_bind (wpAny_mono turn (fun r s₁ h₁ => ?_) fun _ _ h' => h')))
  cases r with
  | none => exact wpAny_pure h₁
  | some v =>
    refine wpAny_bind (wpAny_of_eq (ht v) ?_)
    refine wpAny_bind (wpAny_mono h₁ (fun _ s₂ h₂ => wpAny_bind (wpAny_mono h₂ (fun ok s₃ h₃ => ?_) fun _ _ h' => h')) fun _ _ h' => h')
    cases ok with
    | false => exact wpAny_pure ⟨rfl, h₃⟩
    | true =>
      exact wpAny_bind (wpAny_bind (wpAny_mono h₃ (fun x s₄ h₄ => wpAny_bind (wpAny_mono h₄ (fun _ s₅ h₅ => wpAny_pure (wpAny_pure ⟨rfl, h₅⟩)) fun _ _ h' => h')) fun _ _ h' => h'))
theorem cl2_inner {elt t1 i1 t2 i2 : PySem.Expr} {ifs : List PySem.Expr} {scope : Scope} {pos : Pos} {it acc : Value} {env : Env} (I : Nat → Shared → Prop)
    (turn : ∀ n s, I n s → wpAny (model prog w) A (pyNext it) (fun r s₁ => match r with
      | none => R (.ok .next) s₁
      | some v => wpAny (model prog w) A (assign t2 env v) (fun _ s₂ =>
          wpAny (model prog w) A (forIn ifs true fun c r => if r = true then do let ok ← isTrue c env (eval c env); pure (ForInStep.yield ok) else pure (ForInStep.yield r)) (fun ok s₃ =>
            if ok = true then wpAny (model prog w) A (eval elt env) (fun x s₄ =>
              wpAny (model prog w) A (call (.builtin "list.append") [acc, x]) (fun _ s₅ => ∃ m, m < n ∧ I m s₅) (nE prog w A env R) s₄) (nE prog w A env R) s₃
            else ∃ m, m < n ∧ I m s₃) (nE prog w A env R) s₂) (nE prog w A env R) s₁) (nE prog w A env R) s)
    (n : Nat) (h : I n s) (ht : ∀ v, letOwnedTupleGo t2 it v = pure () := by intro _; rfl) :
    codeAny (model prog w) A (.compLoop (c2E elt t1 i1 t2 i2 ifs scope pos) 1 it acc env) R s := by
  refine codeAny_loop rfl I (fun n s hI => ?_) n h
  show wpAny _ A ((compTurn (c2E elt t1 i1 t2 i2 ifs scope pos) 1 it acc env).onRaise (fun x => do noteFrame x env; theTreesLotGoes x)) _ _ s
  refine wpAny_noted ?_
  rw [compTurn2_1]
  refine wpAny_bind (wpAny_standAt (wpAny_bind (wpAny_mono (turn n s hI) (fun r s₁ h₁ => ?_) fun _ _ h' => h')))
  cases r with
  | none => exact wpAny_pure h₁
  | some v =>
    refine wpAny_bind (wpAny_of_eq (ht v) ?_)
    refine wpAny_bind (wpAny_mono h₁ (fun _ s₂ h₂ => wpAny_bind (wpAny_mono h₂ (fun ok s₃ h₃ => ?_) fun _ _ h' => h')) fun _ _ h' => h')
    cases ok with
    | false => exact wpAny_pure ⟨rfl, h₃⟩
    | true =>
      exact wpAny_bind (wpAny_bind (wpAny_mono h₃ (fun x s₄ h₄ => wpAny_bind (wpAny_mono h₄ (fun _ s₅ h₅ => wpAny_pure (wpAny_pure ⟨rfl, h₅⟩)) fun _ _ h' => h')) fun _ _ h' => h'))

/-- what iterates over itself -/
noncomputable def IterSelf (prog : Program) (w : World) (A : Around) (I : Addr) (oI : Obj) : Prop := ∀ (s : Shared) (Q : Value → Shared → Prop) (E : Value → Shared → Prop), s.heap.get? I = some oI → Q (.ref I) s → wpAny (model prog w) A (pyIter (.ref I)) Q E s
theorem self_lit {I l : Addr} {oI : Obj} {i : Nat} (h : Lit oI l i) : IterSelf prog w A I oI := fun s Q E e q => wpAny_pyIter_listiter ⟨oI, e, h⟩ q
theorem self_rg {I : Addr} {x : Int} {k : Nat} : IterSelf prog w A I (rgO x k) := fun s Q E e q => wpAny_pyIter_rangeiter (it := I) (x := x) (left := (k : Int)) (step := 1) e q
variable {h₀ : Heap} {L : Addr} {m : Str → Option Value} {env : Env} {cl : List (Str × Addr)} {news : List (Addr × Obj)}
/-- the end of the outer loop -/
noncomputable def C2Fin (h₀ : Heap) (L : Addr) (m : Str → Option Value) (C D : Addr) (Q : Value → Shared → Prop) (R : Result → Shared → Prop) (s₂ : Shared) : Prop :=
  ∀ oC' m' (ys : List Value) n news' h' tk', LCg.NsObj oC' m' → Fr h₀ L h' m → News h₀ L h' ((C, oC') :: (D, W.listOf ys.toArray n) :: news') → OffA C (D :: news'.map (·.1)) →
    (∀ h'', Fr h₀ L h'' m → News h₀ L h'' ((D, W.listOf ys.toArray n) :: news') → Q (.ref D) { s₂ with heap := h'', toks := tk' }) → R (.ok .next) { s₂ with heap := h', toks := tk' }
noncomputable def C2Pre (prog : Program) (w : World) (A : Around) (h₀ : Heap) (L : Addr) (env : Env) (elt t1 i1 t2 i2 : PySem.Expr) (ifs : List PySem.Expr) (scope : Scope) (pos : Pos) (cl : List (Str × Addr)) (Q : Value → Shared → Prop) (it : Value) (s₂ : Shared) : Prop :=
  ∃ I oI m news, it = .ref I ∧ Fr h₀ L s₂.heap m ∧ News h₀ L s₂.heap ((I, oI) :: news) ∧ IterSelf prog w A I oI ∧ ∀ C D oC m₂ h tk R, C2Fin h₀ L m C D Q R s₂ → LCg.NsObj oC m₂ → Fr h₀ L h m →
    News h₀ L h ((C, oC) :: (D, W.listOf #[] 0) :: (I, oI) :: news) → (∀ q ∈ (I, oI) :: news, q.1 < D) → (@LT.lt Nat _ D C) →
      codeAny (model prog w) A (.compLoop (c2E elt t1 i1 t2 i2 ifs scope pos) 0 (.ref I) (.ref D) (compEnvC scope cl C env)) R { s₂ with heap := h, toks := tk }
theorem comp2_K {elt t1 i1 t2 i2 : PySem.Expr} {ifs : List PySem.Expr} {scope : Scope} {pos : Pos} {Q : Value → Shared → Prop}
    (hclos : closureFor scope env = pure cl) (hcell : ∀ y ∈ scope.names, y.2 ≠ .cell) (hkind : scope.kind = .function) (hnames : ∀ y ∈ scope.names, y.2 = .local → scope.names.lookup y.1 = some .local)
    (h : wpAny (model prog w) A (eval i1 env) (fun xv s₁ => wpAny (model prog w) A (pyIter xv) (C2Pre prog w A h₀ L env elt t1 i1 t2 i2 ifs scope pos cl Q) E s₁) E s)
    (hs : ∀ x, foldedSetIterable i1 env x = pure x := by intro _; rfl) : wpAny (model prog w) A (eval (c2E elt t1 i1 t2 i2 ifs scope pos) env) Q E s := by
  rw [eval_ListComp]
  refine wpAny_comprehension_free (use := none) rfl hs hclos hkind hnames (wpAny_mono h (fun xv s₁ h₁ => wpAny_mono h₁ (fun it s₂ h₂ => ?_) fun _ _ e => e) fun _ _ e => e)
  obtain ⟨I, oI, m, news, rfl, F, N, hself, hl⟩ := h₂
  refine wpAny_newObj_type (wpAny_newFunctionEnv hcell (by intro y hy; simp at hy) (fun h₁ hns₁ hsb₁ => ?_) hkind)
  dsimp only at hns₁ hsb₁ ⊢
  generalize hH2 : s₂.heap.push { cls := .type "list", dict := none, data := .seq ([] : List Value).toArray } = H2 at hns₁ hsb₁ ⊢
  have hC : H2.objs.size = s₂.heap.objs.size + 1 := by rw [← hH2, Heap.size_push]
  have hDC : s₂.heap.objs.size ≠ H2.objs.size := by rw [hC]; exact Nat.ne_of_lt (Nat.lt_succ_self _)
  have below : ∀ b, b < s₂.heap.objs.size → b ≠ H2.objs.size ∧ b ≠ s₂.heap.objs.size := fun b hb => ⟨by rw [hC]; exact Nat.ne_of_lt (Nat.lt_succ_of_lt hb), Nat.ne_of_lt hb⟩
  have old : ∀ b o, s₂.heap.get? b = some o → h₁.get? b = some o := fun b o e => hsb₁.extBut b o (below b (Heap.lt_size e)).1 (Heap.get?_push_of_some _ (hH2 ▸ Heap.get?_push_of_some _ e))
  have hacc : h₁.get? s₂.heap.objs.size = some (W.listOf #[] 0) := hsb₁.extBut _ _ hDC (Heap.get?_push_of_some _ (hH2 ▸ Heap.get?_push_size _ rfl))
  have fresh : ∀ a, s₂.heap.objs.size ≤ a → s₂.heap.get? a = none := fun a ha => by
    cases e : s₂.heap.get? a with
    | none => rfl
    | some o' => exact absurd (Heap.lt_size e) (Nat.not_lt.mpr ha)
  have fresh₀ : ∀ a, s₂.heap.objs.size ≤ a → h₀.get? a = none := fun a ha => by
    cases e : h₀.get? a with
    | none => rfl
    | some o' => have := F.keep a o' e; rw [fresh a ha] at this; cases this
  have hD₀ : h₀.get? s₂.heap.objs.size = none := fresh₀ _ (Nat.le_refl _)
  have hC₀ : h₀.get? H2.objs.size = none := fresh₀ _ (by rw [hC]; exact Nat.le_succ _)
  have hLlt : L < s₂.heap.objs.size := F.ns.lt
  have hDL : s₂.heap.objs.size ≠ L := Ne.symm (below L hLlt).2
  have hCL : H2.objs.size ≠ L := Ne.symm (below L hLlt).1
  obtain ⟨oC, heC, hoC⟩ := LCg.ns_obj hns₁
  have loop : codeAny (model prog w) A (.compLoop (c2E elt t1 i1 t2 i2 ifs scope pos) 0 (.ref I) (.ref s₂.heap.objs.size) (compEnvC scope cl H2.objs.size env)) (compPost (model prog w) A E none Q (.ref s₂.heap.objs.size) H2.objs.size)
      { s₂ with heap := h₁, toks := s₂.toks + ([] : List (Str × Value)).length } := by
    refine hl H2.objs.size s₂.heap.objs.size oC _ h₁ _ _ ?_ hoC (F.keeps old) (fun p hp => ?_) (fun q hq => Heap.lt_size (N q hq).1) (by show s₂.heap.objs.size < H2.objs.size; rw [hC]; exact Nat.lt_succ_self _)
    · intro oC' m' ys n news' h' tk' hns' F' N' off hq
      refine ⟨m', hns'.ns (N' _ List.mem_cons_self).1, fun h'' hs'' => hq h'' (F'.change hs'' hCL hC₀) fun p hp => ?_⟩
      refine ⟨hs''.extBut _ _ ?_ (N' p (List.mem_cons_of_mem _ hp)).1, (N' p (List.mem_cons_of_mem _ hp)).2⟩
      rcases List.mem_cons.mp hp with rfl | hp
      · exact Ne.symm (off _ List.mem_cons_self)
      · exact Ne.symm (off _ (List.mem_cons_of_mem _ (List.mem_map_of_mem hp)))
    · rcases List.mem_cons.mp hp with rfl | hp
      · exact ⟨heC, hCL, hC₀⟩
      · rcases List.mem_cons.mp hp with rfl | hp
        · exact ⟨hacc, hDL, hD₀⟩
        · exact ⟨old _ _ (N p hp).1, (N p hp).2⟩
  exact codeAny_compStart_list loop (hself _ _ _ (old _ _ (N _ List.mem_cons_self).1) loop)
/-- a name of the comprehension's own is bound -/
theorem assignC {x : Str} {px : Pos} {scope : Scope} {C : Addr} {oC : Obj} {m₂ : Str → Option Value} {v : Value} {g : Obj → List (Addr × Obj)} {Q : Unit → Shared → Prop} (F : Fr h₀ L s.heap m) (N : News h₀ L s.heap news) (hC : LCg.NsObj oC m₂) (U : UpdF C oC news g)
    (h : ∀ h' oC' m₃ tk, Fr h₀ L h' m → News h₀ L h' (g oC') → LCg.NsObj oC' m₃ → m₃ x = some v → (∀ z, z ≠ x → m₃ z = m₂ z) → Q () { s with heap := h', toks := tk })
    (hx : scope.names.lookup x = some .local := by rfl) (hkind : scope.kind = .function := by rfl) : wpAny (model prog w) A (assign (.Name x px) (compEnvC scope cl C env) v) Q E s := by
  obtain ⟨own, rest, rfl, hg, h1, h2⟩ := U.split
  have hmem := N (C, oC) (List.mem_append_right _ (.head _))
  refine wpAny_assign_Name (wpAny_storeName_local (lookup_relabel_local hx) (hC.ns hmem.1) (fun h' hn' hs' => ?_) (by simp [compEnvC, relabel, hkind]))
  obtain ⟨oC', heC, hoC⟩ := LCg.ns_obj hn'
  refine h h' oC' _ _ (F.change hs' hmem.2.1 hmem.2.2) (hg oC' ▸ N.setAt h1 h2 ?_ heC) hoC (by simp) fun z hz => by simp [hz]
  exact hs'
end
end Mine

namespace Mine
section
variable (Vn : Nat → List Nat) (A Bh : Nat → Nat)
/-- one who does not get up here -/
noncomputable def skip (ups : List Nat) (k : Nat) : Bool := decide (k ∈ ups) || decide (got Vn ups k < A k + Bh k)
noncomputable def scan : List Nat → List Nat → List Nat
  | [], ups => ups
  | k :: t, ups => if skip Vn A Bh ups k = true then scan t ups else scan t (ups ++ [k])
noncomputable def scans (os : List Nat) : Nat → List Nat → List Nat
  | 0, ups => ups
  | n + 1, ups => scans os n (scan Vn A Bh os ups)
noncomputable def sc (os : List Nat) : Nat → List Nat
  | 0 => []
  | p + 1 => if skip Vn A Bh (sc os p) (os.getD (p % 5) 0) = true then sc os p else sc os p ++ [os.getD (p % 5) 0]
end
section
variable {Vn : Nat → List Nat} {A Bh : Nat → Nat}
theorem skip_of {ups : List Nat} {k : Nat} : skip Vn A Bh ups k = true ↔ (k ∈ ups ∨ got Vn ups k < A k + Bh k) := by unfold skip; simp
theorem skip_no {ups : List Nat} {k : Nat} : skip Vn A Bh ups k = false ↔ (k ∉ ups ∧ A k + Bh k ≤ got Vn ups k) := by unfold skip; simp
theorem scan_mem {k : Nat} : ∀ (t ups : List Nat), k ∈ ups → k ∈ scan Vn A Bh t ups
  | [], _, h => h
  | j :: t, ups, h => by
    unfold scan; split
    · exact scan_mem t ups h
    · exact scan_mem t _ (List.mem_append_left _ h)
theorem scan_sub {k : Nat} : ∀ (t ups : List Nat), k ∈ scan Vn A Bh t ups → k ∈ ups ∨ k ∈ t
  | [], _, h => .inl h
  | j :: t, ups, h => by
    unfold scan at h; split at h
    · exact (scan_sub t ups h).elim .inl fun h => .inr (List.mem_cons_of_mem _ h)
    · rcases scan_sub t _ h with h | h
      · rcases List.mem_append.mp h with h | h
        · exact .inl h
        · rw [List.mem_singleton.mp h]; exact .inr List.mem_cons_self
      · exact .inr (List.mem_cons_of_mem _ h)
theorem rnd_scan : ∀ (t ups done : List Nat), t.Nodup → rnd Vn A Bh (t.filter fun k => decide (k ∉ ups)) ups done = (scan Vn A Bh t ups, done ++ t.filter fun k => decide (k ∉ scan Vn A Bh t ups))
  | [], ups, done, _ => by simp [rnd, scan]
  | k :: t, ups, done, hn => by
    have hn' := (List.nodup_cons.mp hn)
    by_cases hk : k ∈ ups
    · have hs : skip Vn A Bh ups k = true := skip_of.mpr (.inl hk)
      have e : scan Vn A Bh (k :: t) ups = scan Vn A Bh t ups := by rw [scan, if_pos hs]
      have hm := scan_mem (Vn := Vn) (A := A) (Bh := Bh) t ups hk
      rw [e, List.filter_cons_of_neg (by simp [hk]), List.filter_cons_of_neg (by simp [hm]), rnd_scan t ups done hn'.2]
    · rw [List.filter_cons_of_pos (by simp [hk])]
      by_cases hg : A k + Bh k ≤ got Vn ups k
      · have hs : ¬ skip Vn A Bh ups k = true := fun h => (skip_of.mp h).elim hk (by omega)
        have e : scan Vn A Bh (k :: t) ups = scan Vn A Bh t (ups ++ [k]) := by rw [scan, if_neg hs]
        have hm : k ∈ scan Vn A Bh t (ups ++ [k]) := scan_mem t _ (by simp)
        have ef : (t.filter fun j => decide (j ∉ ups)) = t.filter fun j => decide (j ∉ ups ++ [k]) := by
          refine List.filter_congr fun j hj => ?_
          have : j ≠ k := fun h => hn'.1 (h ▸ hj)
          simp [this]
        rw [e, rnd, if_pos hg, ef, rnd_scan t (ups ++ [k]) done hn'.2, List.filter_cons_of_neg (by simpa using hm)]
      · have hs : skip Vn A Bh ups k = true := skip_of.mpr (.inr (by omega))
        have e : scan Vn A Bh (k :: t) ups = scan Vn A Bh t ups := by rw [scan, if_pos hs]
        have hm : k ∉ scan Vn A Bh t ups := fun h => (scan_sub t ups h).elim hk hn'.1
        rw [e, rnd, if_neg hg, rnd_scan t ups (done ++ [k]) hn'.2, List.filter_cons_of_pos (by simpa using hm), List.append_assoc]; rfl
theorem rnds_scan {os : List Nat} (hn : os.Nodup) : ∀ (n : Nat) (ups : List Nat), rnds Vn A Bh n ups (os.filter fun k => decide (k ∉ ups)) = (scans Vn A Bh os n ups, os.filter fun k => decide (k ∉ scans Vn A Bh os n ups))
  | 0, ups => rfl
  | n + 1, ups => by
    unfold rnds
    rw [rnd_scan os ups [] hn]
    simp only [List.nil_append]
    exact rnds_scan hn n _
theorem sc_scan {os : List Nat} (h5 : os.length = 5) (r : Nat) : scan Vn A Bh os (sc Vn A Bh os (5 * r)) = sc Vn A Bh os (5 * r + 5) := by
  obtain ⟨o0, o1, o2, o3, o4, rfl⟩ : ∃ a b c d e, os = [a, b, c, d, e] := by
    match os, h5 with
    | [a, b, c, d, e], _ => exact ⟨a, b, c, d, e, rfl⟩
  have one : ∀ (i k : Nat) (t : List Nat), [o0, o1, o2, o3, o4].getD ((5 * r + i) % 5) 0 = k → scan Vn A Bh (k :: t) (sc Vn A Bh [o0, o1, o2, o3, o4] (5 * r + i)) = scan Vn A Bh t (sc Vn A Bh [o0, o1, o2, o3, o4] (5 * r + i + 1)) := by
    intro i k t e
    rw [scan, sc, e]
    split <;> rfl
  refine (one 0 o0 _ (by rw [show (5 * r + 0) % 5 = 0 by omega]; rfl)).trans ?_
  rw [one 1 o1 _ (by rw [show (5 * r + 1) % 5 = 1 by omega]; rfl), one 2 o2 _ (by rw [show (5 * r + 2) % 5 = 2 by omega]; rfl),
    one 3 o3 _ (by rw [show (5 * r + 3) % 5 = 3 by omega]; rfl), one 4 o4 _ (by rw [show (5 * r + 4) % 5 = 4 by omega]; rfl)]
  rfl
theorem sc_scans {os : List Nat} (h5 : os.length = 5) : ∀ (n r : Nat), scans Vn A Bh os n (sc Vn A Bh os (5 * r)) = sc Vn A Bh os (5 * (r + n))
  | 0, r => rfl
  | n + 1, r => by
    unfold scans
    rw [sc_scan h5, show 5 * r + 5 = 5 * (r + 1) by omega, sc_scans h5 n (r + 1), show r + 1 + n = r + (n + 1) by omega]
theorem rnds_sc {os : List Nat} (h5 : os.length = 5) (hn : os.Nodup) : rnds Vn A Bh 5 [] os = (sc Vn A Bh os 25, os.filter fun k => decide (k ∉ sc Vn A Bh os 25)) := by
  have h := rnds_scan (Vn := Vn) (A := A) (Bh := Bh) hn 5 []
  have e : (os.filter fun k => decide (k ∉ ([] : List Nat))) = os := by simp
  rw [e] at h
  have e2 := sc_scans (Vn := Vn) (A := A) (Bh := Bh) h5 5 0
  rw [h]
  rw [show sc Vn A Bh os (5 * 0) = [] from rfl] at e2
  rw [e2]
/-- the places where they got up -/
structure Cert (Vn : Nat → List Nat) (A Bh : Nat → Nat) (os ups : List Nat) (pl : Nat → Nat) : Prop where
  z : pl 0 = 0
  up : ∀ n < ups.length, pl n ≤ pl (n + 1) ∧ pl (n + 1) < 25
  sk : ∀ n < ups.length, ∀ r, pl n ≤ r → r < pl (n + 1) → skip Vn A Bh (ups.take n) (os.getD (r % 5) 0) = true
  at' : ∀ n < ups.length, ∃ k, ups[n]? = some k ∧ os.getD (pl (n + 1) % 5) 0 = k ∧ skip Vn A Bh (ups.take n) k = false
theorem cert_sc {os : List Nat} : ∀ P ≤ 25, ∃ pl, Cert Vn A Bh os (sc Vn A Bh os P) pl ∧ (∀ r, pl (sc Vn A Bh os P).length ≤ r → r < P → skip Vn A Bh (sc Vn A Bh os P) (os.getD (r % 5) 0) = true) ∧ pl (sc Vn A Bh os P).length ≤ P
  | 0, _ => ⟨fun _ => 0, ⟨rfl, fun n h => absurd h (Nat.not_lt_zero _), fun n h => absurd h (Nat.not_lt_zero _), fun n h => absurd h (Nat.not_lt_zero _)⟩, fun r _ h => absurd h (Nat.not_lt_zero _), Nat.le_refl _⟩
  | P + 1, hP => by
    obtain ⟨pl, C, hs, hl⟩ := cert_sc (os := os) P (by omega)
    by_cases hk : skip Vn A Bh (sc Vn A Bh os P) (os.getD (P % 5) 0) = true
    · have e : sc Vn A Bh os (P + 1) = sc Vn A Bh os P := by rw [sc, if_pos hk]
      rw [e]
      refine ⟨pl, C, fun r h1 h2 => ?_, by omega⟩
      by_cases h : r < P
      · exact hs r h1 h
      · obtain rfl : r = P := by omega
        exact hk
    · have e : sc Vn A Bh os (P + 1) = sc Vn A Bh os P ++ [os.getD (P % 5) 0] := by rw [sc, if_neg hk]
      rw [e]
      generalize hU : sc Vn A Bh os P = U at *
      generalize hz : os.getD (P % 5) 0 = z at *
      have hlen : (U ++ [z]).length = U.length + 1 := by simp
      refine ⟨fun n => if n ≤ U.length then pl n else P, ⟨?_, ?_, ?_, ?_⟩, ?_, ?_⟩
      · simp [C.z]
      · intro n hn
        rw [hlen] at hn
        by_cases h : n < U.length
        · have := C.up n h
          rw [if_pos (by omega), if_pos (by omega)]
          exact this
        · obtain rfl : n = U.length := by omega
          rw [if_pos (Nat.le_refl _), if_neg (by omega)]
          omega
      · intro n hn r h1 h2
        rw [hlen] at hn
        by_cases h : n < U.length
        · rw [if_pos (by omega)] at h1 h2
          rw [List.take_append_of_le_length (by omega)]
          exact C.sk n h r h1 h2
        · obtain rfl : n = U.length := by omega
          rw [if_pos (Nat.le_refl _)] at h1
          rw [if_neg (by omega)] at h2
          rw [List.take_append_of_le_length (Nat.le_refl _), List.take_length]
          exact hs r h1 h2
      · intro n hn
        rw [hlen] at hn
        by_cases h : n < U.length
        · obtain ⟨k, h1, h2, h3⟩ := C.at' n h
          refine ⟨k, ?_, ?_, ?_⟩
          · rw [List.getElem?_append_left h]; exact h1
          · rw [if_pos (by omega)]; exact h2
          · rw [List.take_append_of_le_length (by omega)]; exact h3
        · obtain rfl : n = U.length := by omega
          refine ⟨z, ?_, ?_, ?_⟩
          · simp
          · rw [if_neg (by omega)]; exact hz
          · rw [List.take_append_of_le_length (Nat.le_refl _), List.take_length]
            simpa using hk
      · intro r h1 h2
        replace h1 : (if (U ++ [z]).length ≤ U.length then pl (U ++ [z]).length else P) ≤ r := h1
        rw [hlen, if_neg (by omega)] at h1
        obtain rfl : r = P := by omega
        rw [hz]
        exact skip_of.mpr (.inl (by simp))
      · show (if (U ++ [z]).length ≤ U.length then pl (U ++ [z]).length else P) ≤ P + 1
        rw [hlen, if_neg (by omega)]; omega
/-- nobody twice -/
theorem sc_nodup {os : List Nat} : ∀ P, (sc Vn A Bh os P).Nodup
  | 0 => List.nodup_nil
  | P + 1 => by
    have ih := sc_nodup (os := os) P
    unfold sc; split
    · exact ih
    · next h =>
      have h' := (skip_no.mp (by simpa using h)).1
      rw [List.nodup_append]
      refine ⟨ih, by simp, ?_⟩
      intro a ha b hb
      rw [List.mem_singleton.mp hb]
      exact fun e => h' (by rw [e] at ha; simpa using ha)
theorem sc_lt {os : List Nat} (h5 : os.length = 5) (ho : ∀ k ∈ os, k < 5) : ∀ P, ∀ k ∈ sc Vn A Bh os P, k < 5
  | 0, _, h => nomatch h
  | P + 1, k, h => by
    unfold sc at h; split at h
    · exact sc_lt h5 ho P k h
    · rcases List.mem_append.mp h with h | h
      · exact sc_lt h5 ho P k h
      · rw [List.mem_singleton.mp h]
        have hp : P % 5 < os.length := by omega
        rw [List.getD_eq_getElem?_getD, List.getElem?_eq_getElem hp]
        exact ho _ (List.getElem_mem hp)
theorem got_mono {x : Nat} : ∀ (u W : List Nat), u.Nodup → (∀ k ∈ u, k ∈ W) → got Vn u x ≤ got Vn W x
  | [], _, _, _ => Nat.zero_le _
  | y :: u, W, hn, hs => by
    have hy : y ∈ W := hs y List.mem_cons_self
    have hn' := List.nodup_cons.mp hn
    have ih := got_mono (x := x) u (W.erase y) hn'.2 fun k hk => by
      have : k ≠ y := fun e => hn'.1 (e ▸ hk)
      exact (List.mem_erase_of_ne this).mpr (hs k (List.mem_cons_of_mem _ hk))
    have e : got Vn W x = (Vn y).count x + got Vn (W.erase y) x := by
      unfold got
      exact ((List.perm_cons_erase hy).map fun y => (Vn y).count x).sum_nat
    rw [e]
    show (Vn y).count x + got Vn u x ≤ _
    omega
theorem sc_least {os W : List Nat} (hW : ∀ x < 5, x ∉ W → got Vn W x < A x + Bh x) (h5 : os.length = 5) (ho : ∀ k ∈ os, k < 5) : ∀ P, ∀ k ∈ sc Vn A Bh os P, k ∈ W
  | 0, _, h => nomatch h
  | P + 1, k, h => by
    have hl := sc_lt (Vn := Vn) (A := A) (Bh := Bh) h5 ho (P + 1) k h
    unfold sc at h; split at h
    · exact sc_least hW h5 ho P k h
    · next hs =>
      rcases List.mem_append.mp h with h | h
      · exact sc_least hW h5 ho P k h
      · rw [← List.mem_singleton.mp h] at hs
        have h' := (skip_no.mp (by simpa using hs)).2
        refine Classical.byContradiction fun hk => ?_
        have h1 := hW k hl hk
        have h2 := got_mono (Vn := Vn) (x := k) (sc Vn A Bh os P) W (sc_nodup P) (sc_least hW h5 ho P)
        omega
theorem scan_grow : ∀ (t ups : List Nat), ups.length ≤ (scan Vn A Bh t ups).length
  | [], _ => Nat.le_refl _
  | k :: t, ups => by
    unfold scan; split
    · exact scan_grow t ups
    · have := scan_grow t (ups ++ [k])
      rw [List.length_append] at this
      omega
theorem scan_same : ∀ (t ups : List Nat), (scan Vn A Bh t ups).length ≤ ups.length → ∀ k ∈ t, skip Vn A Bh ups k = true
  | [], _, _, _, h => nomatch h
  | j :: t, ups, h, k, hk => by
    unfold scan at h; split at h
    · next hs =>
      rcases List.mem_cons.mp hk with rfl | hk
      · exact hs
      · exact scan_same t ups h k hk
    · have := scan_grow (Vn := Vn) (A := A) (Bh := Bh) t (ups ++ [j])
      simp only [List.length_append, List.length_singleton] at this
      omega
theorem scan_skip : ∀ (t ups : List Nat), (∀ k ∈ t, skip Vn A Bh ups k = true) → scan Vn A Bh t ups = ups
  | [], _, _ => rfl
  | j :: t, ups, h => by
    rw [scan, if_pos (h j List.mem_cons_self)]
    exact scan_skip t ups fun k hk => h k (List.mem_cons_of_mem _ hk)
theorem sc_closes {os : List Nat} (h5 : os.length = 5) : ∀ r, (∀ k ∈ os, skip Vn A Bh (sc Vn A Bh os (5 * r)) k = true) ∨ r ≤ (sc Vn A Bh os (5 * r)).length
  | 0 => .inr (Nat.zero_le _)
  | r + 1 => by
    have e : sc Vn A Bh os (5 * (r + 1)) = scan Vn A Bh os (sc Vn A Bh os (5 * r)) := by rw [sc_scan h5]; rfl
    rw [e]
    have key : (∀ k ∈ os, skip Vn A Bh (sc Vn A Bh os (5 * r)) k = true) → ∀ k ∈ os, skip Vn A Bh (scan Vn A Bh os (sc Vn A Bh os (5 * r))) k = true := fun h => by rw [scan_skip _ _ h]; exact h
    rcases sc_closes h5 r with h | h
    · exact .inl (key h)
    · by_cases hg : (scan Vn A Bh os (sc Vn A Bh os (5 * r))).length ≤ (sc Vn A Bh os (5 * r)).length
      · exact .inl (key (scan_same _ _ hg))
      · exact .inr (by omega)
theorem nodup_le : ∀ (n : Nat) (l : List Nat), l.Nodup → (∀ k ∈ l, k < n) → l.length ≤ n
  | 0, l, _, h => by
    cases l with
    | nil => exact Nat.le_refl _
    | cons a l => exact absurd (h a List.mem_cons_self) (Nat.not_lt_zero _)
  | n + 1, l, hn, h => by
    have ih := nodup_le n (l.erase n) (hn.erase n) fun k hk => by
      have := (List.Nodup.mem_erase_iff hn).mp hk
      have := h k this.2
      omega
    have := List.length_erase (a := n) (l := l)
    split at this <;> omega
/-- after five rounds the set is closed -/
theorem sc_closed {os : List Nat} (h5 : os.length = 5) (ho : ∀ k, k ∈ os ↔ k < 5) : ∀ x < 5, x ∉ sc Vn A Bh os 25 → got Vn (sc Vn A Bh os 25) x < A x + Bh x := by
  intro x hx hn
  rcases sc_closes (Vn := Vn) (A := A) (Bh := Bh) h5 5 with h | h
  · exact (skip_of.mp (h x ((ho x).mpr hx))).resolve_left hn
  · have hl := nodup_le 5 (x :: sc Vn A Bh os 25) (List.nodup_cons.mpr ⟨hn, sc_nodup 25⟩) fun k hk => by
      rcases List.mem_cons.mp hk with rfl | hk
      · exact hx
      · exact sc_lt h5 (fun k hk => (ho k).mp hk) 25 k hk
    simp only [List.length_cons] at hl
    have h' : 5 ≤ (sc Vn A Bh os 25).length := h
    omega
end
end Mine

namespace Mine
theorem bit_tb : ∀ m < 32, ∀ y < 5, bitOn ((m : Nat) : Int) y = m.testBit y := by decide +kernel
theorem bit_and : ∀ a < 32, ∀ b < 32, Builtin.bitAnd ((a : Nat) : Int) ((b : Nat) : Int) = ((a &&& b : Nat) : Int) := by decide +kernel
theorem tb31 : ∀ y < 5, (31 : Nat).testBit y = true := by decide
theorem mask_of : ∀ b0 b1 b2 b3 b4 : Bool, ∃ m < 32, Nat.testBit m 0 = b0 ∧ Nat.testBit m 1 = b1 ∧ Nat.testBit m 2 = b2 ∧ Nat.testBit m 3 = b3 ∧ Nat.testBit m 4 = b4 := by decide +kernel
theorem bits_mem {mask : Int} {y : Nat} : ∀ i, y ∈ bitsTo mask i ↔ (y < i ∧ bitOn mask y = true)
  | 0 => by simp [bitsTo]
  | i + 1 => by
    unfold bitsTo
    by_cases h : bitOn mask i = true
    · rw [if_pos h, List.mem_append, bits_mem i, List.mem_singleton]
      constructor
      · rintro (h' | rfl)
        · exact ⟨by omega, h'.2⟩
        · exact ⟨by omega, h⟩
      · rintro ⟨h1, h2⟩
        by_cases e : y = i
        · exact .inr e
        · exact .inl ⟨by omega, h2⟩
    · rw [if_neg h, bits_mem i]
      constructor
      · rintro ⟨h1, h2⟩; exact ⟨by omega, h2⟩
      · rintro ⟨h1, h2⟩
        refine ⟨?_, h2⟩
        have : y ≠ i := fun e => h (e ▸ h2)
        omega
theorem bits_nodup {mask : Int} : ∀ i, (bitsTo mask i).Nodup
  | 0 => List.nodup_nil
  | i + 1 => by
    unfold bitsTo; split
    · rw [List.nodup_append]
      refine ⟨bits_nodup i, by simp, ?_⟩
      intro a ha b hb e
      have := ((bits_mem i).mp ha).1
      rw [List.mem_singleton.mp hb] at e
      omega
    · exact bits_nodup i
theorem castL_count (x : Nat) : ∀ l : List Nat, (castL l).count (x : Int) = l.count x
  | [] => rfl
  | y :: l => by
    have : castL (y :: l) = (y : Int) :: castL l := rfl
    rw [this, List.count_cons, List.count_cons, castL_count x l]
    by_cases h : y = x
    · subst h; simp
    · have : ¬ ((y : Int) = (x : Int)) := by omega
      simp [this, h]
theorem got_castL {Vn : Nat → List Nat} {x : Nat} : ∀ ws : List Nat, gotN (fun k => castL (Vn k)) ws (x : Int) = ((got Vn ws x : Nat) : Int)
  | [] => rfl
  | y :: ws => by
    have ih := got_castL (Vn := Vn) (x := x) ws
    have e : (castL (Vn y)).count (x : Int) = (Vn y).count x := castL_count x _
    have e1 : gotN (fun k => castL (Vn k)) (y :: ws) (x : Int) = ((castL (Vn y)).count (x : Int) : Int) + gotN (fun k => castL (Vn k)) ws (x : Int) := rfl
    have e2 : got Vn (y :: ws) x = (Vn y).count x + got Vn ws x := rfl
    rw [e1, e2, ih, e]; omega
theorem castL_mem {x : Nat} {ws : List Nat} : (castL ws).any (· == (x : Int)) = decide (x ∈ ws) := by
  induction ws with
  | nil => rfl
  | cons y ws ih =>
    have : castL (y :: ws) = (y : Int) :: castL ws := rfl
    rw [this, List.any_cons, ih]
    by_cases h : y = x
    · subst h; simp
    · have : ¬ ((y : Int) = (x : Int)) := by omega
      have h' : x ≠ y := fun e => h e.symm
      simp [this, h']
section
variable {Vn : Nat → List Nat} {A Bh : Nat → Nat} {need : List Int}
noncomputable def Closed (Vn : Nat → List Nat) (A Bh : Nat → Nat) (W : List Nat) : Prop := ∀ x < 5, x ∉ W → got Vn W x < A x + Bh x
theorem outs_nil {V : Nat → List Int} {ws : List Nat} : ∀ i, outs V need ws i = [] ↔ ∀ x < i, outOk V need ws x = false
  | 0 => by simp [outs]
  | i + 1 => by
    unfold outs
    split
    · next h =>
      simp only [List.append_eq_nil_iff, List.cons_ne_nil, and_false, false_iff]
      intro hx
      rw [hx i (by omega)] at h
      cases h
    · next h =>
      rw [outs_nil i]
      constructor
      · intro hx x hi
        by_cases e : x = i
        · subst e; simpa using h
        · exact hx x (by omega)
      · exact fun hx x hi => hx x (by omega)
theorem outs_closed (hN : ∀ x < 5, need.getD x 0 = ((A x + Bh x : Nat) : Int)) {ws : List Nat} : outs (fun k => castL (Vn k)) need ws 5 = [] ↔ Closed Vn A Bh ws := by
  rw [outs_nil]
  have key : ∀ x < 5, outOk (fun k => castL (Vn k)) need ws x = false ↔ (x ∉ ws → got Vn ws x < A x + Bh x) := by
    intro x hx
    unfold outOk
    rw [castL_mem, got_castL, hN x hx]
    by_cases h : x ∈ ws
    · simp [h]
    · simp only [h, decide_false, Bool.not_false, Bool.true_and, decide_eq_false_iff_not, not_false_eq_true, true_implies]
      omega
  constructor
  · intro h x hx; exact (key x hx).mp (h x hx)
  · intro h x hx; exact (key x hx).mpr (h x hx)
theorem least_bits (hN : ∀ x < 5, need.getD x 0 = ((A x + Bh x : Nat) : Int)) : ∀ n ≤ 32, ∃ L < 32, least1 (fun k => castL (Vn k)) need n = ((L : Nat) : Int) ∧ ∀ y < 5, (L.testBit y = true ↔ ∀ m < n, Closed Vn A Bh (bitsTo ((m : Nat) : Int) 5) → m.testBit y = true)
  | 0, _ => ⟨31, by decide, rfl, fun y hy => by simp [tb31 y hy]⟩
  | n + 1, hn => by
    obtain ⟨L, hL, e, hb⟩ := least_bits hN n (by omega)
    unfold least1
    by_cases hc : Closed Vn A Bh (bitsTo ((n : Nat) : Int) 5)
    · rw [if_pos ((outs_closed hN).mpr hc), e, bit_and L hL n (by omega)]
      refine ⟨L &&& n, Nat.lt_of_le_of_lt Nat.and_le_left hL, rfl, fun y hy => ?_⟩
      rw [Nat.testBit_and, Bool.and_eq_true, hb y hy]
      constructor
      · rintro ⟨h1, h2⟩ m hm hc'
        by_cases em : m = n
        · subst em; exact h2
        · exact h1 m (by omega) hc'
      · intro h
        exact ⟨fun m hm => h m (by omega), h n (by omega) hc⟩
    · rw [if_neg fun h => hc ((outs_closed hN).mp h), e]
      refine ⟨L, hL, rfl, fun y hy => ?_⟩
      rw [hb y hy]
      constructor
      · intro h m hm hc'
        by_cases em : m = n
        · subst em; exact absurd hc' hc
        · exact h m (by omega) hc'
      · exact fun h m hm => h m (by omega)
theorem closed_congr {W U : List Nat} (hW : W.Nodup) (hU : U.Nodup) (h : ∀ k, k ∈ W ↔ k ∈ U) (c : Closed Vn A Bh W) : Closed Vn A Bh U := by
  intro x hx hn
  have h1 := c x hx fun hm => hn ((h x).mp hm)
  have h2 := got_mono (Vn := Vn) (x := x) U W hU fun k hk => (h k).mpr hk
  omega
/-- the bits of the least mask are the ones who got up -/
theorem least_ups (hN : ∀ x < 5, need.getD x 0 = ((A x + Bh x : Nat) : Int)) {os : List Nat} (h5 : os.length = 5) (ho : ∀ k, k ∈ os ↔ k < 5) : ∀ y, y ∈ bitsTo (least1 (fun k => castL (Vn k)) need 32) 5 ↔ y ∈ sc Vn A Bh os 25 := by
  obtain ⟨L, hL, e, hb⟩ := least_bits (Vn := Vn) hN 32 (Nat.le_refl _)
  have hlt := sc_lt (Vn := Vn) (A := A) (Bh := Bh) h5 (fun k hk => (ho k).mp hk) 25
  have hcl : Closed Vn A Bh (sc Vn A Bh os 25) := sc_closed h5 ho
  intro y
  rw [bits_mem, e]
  constructor
  · rintro ⟨hy, hbit⟩
    rw [bit_tb L hL y hy, hb y hy] at hbit
    obtain ⟨m, hm, m0, m1, m2, m3, m4⟩ := mask_of (decide (0 ∈ sc Vn A Bh os 25)) (decide (1 ∈ sc Vn A Bh os 25)) (decide (2 ∈ sc Vn A Bh os 25)) (decide (3 ∈ sc Vn A Bh os 25)) (decide (4 ∈ sc Vn A Bh os 25))
    have mt : ∀ z < 5, m.testBit z = decide (z ∈ sc Vn A Bh os 25) := by
      intro z hz
      have : z = 0 ∨ z = 1 ∨ z = 2 ∨ z = 3 ∨ z = 4 := by omega
      rcases this with rfl | rfl | rfl | rfl | rfl <;> assumption
    have hm' : ∀ k, k ∈ sc Vn A Bh os 25 ↔ k ∈ bitsTo ((m : Nat) : Int) 5 := by
      intro k
      rw [bits_mem]
      constructor
      · intro hk
        have h5 := hlt k hk
        exact ⟨h5, by rw [bit_tb m hm k h5, mt k h5]; simpa using hk⟩
      · rintro ⟨h5, hk⟩
        rw [bit_tb m hm k h5, mt k h5] at hk
        simpa using hk
    have := hbit m hm (closed_congr (sc_nodup 25) (bits_nodup 5) hm' hcl)
    rw [mt y hy] at this
    simpa using this
  · intro hy
    have h5' := hlt y hy
    refine ⟨h5', ?_⟩
    rw [bit_tb L hL y h5', hb y h5']
    intro m hm hc
    have := sc_least (Vn := Vn) (A := A) (Bh := Bh) hc h5 (fun k hk => (ho k).mp hk) 25 y hy
    rw [bits_mem, bit_tb m hm y h5'] at this
    exact this.2
end
end Mine

namespace Mine
noncomputable abbrev one (c : Nat) : Str := ⟨#[c]⟩
noncomputable def okC (c : Nat) : Bool := [97, 65, 32, 66, 98, 99, 67, 34, 92, 35].contains c
theorem okC_all : ∀ c ∈ [97, 65, 32, 66, 98, 99, 67, 34, 92, 35], (chs (escQ c) = [bs, one c] ∨ (chs (escQ c) = [one c] ∧ (one c == qt) = false ∧ (one c == bs) = false)) ∧ (one c == Str.ofString "\n") = false := by decide +kernel
theorem okC_mem {c : Nat} (h : okC c = true) : c ∈ [97, 65, 32, 66, 98, 99, 67, 34, 92, 35] := by unfold okC at h; simpa using h
theorem okC_nl {c : Nat} (h : okC c = true) (ln : Int) : bump (one c) ln = ln := by unfold bump; rw [(okC_all c (okC_mem h)).2]; rfl
theorem bs_nl (ln : Int) : bump bs ln = ln := by unfold bump; rw [show (bs == Str.ofString "\n") = false by decide]; rfl
theorem qt_nl (ln : Int) : bump qt ln = ln := by unfold bump; rw [show (qt == Str.ofString "\n") = false by decide]; rfl
theorem bs_ws : wsE bs = true := by decide +kernel
theorem qt_ws : wsE qt = true := by decide +kernel
theorem bs_bs : (bs == bs) = true := by decide
theorem qt_qt : (qt == qt) = true := by decide
theorem bs_qt : (bs == qt) = false := by decide
theorem chs_app (a b : Str) : chs (a ++ b) = chs a ++ chs b := by
  show (a.cps ++ b.cps).toList.map _ = _
  rw [Array.toList_append, List.map_append]; rfl
theorem chs_escB (c : Nat) : chs (escB c) = [bs, one c] := by unfold escB; rw [chs_app]; rfl
theorem chs_join0 : ∀ l : List Str, chs (Str.join (Str.ofString "") l) = l.flatMap chs
  | [] => rfl
  | [x] => by rw [join_one]; simp
  | x :: y :: r => by
    rw [join_cons_cons, chs_app, chs_app, chs_join0 (y :: r)]
    show chs x ++ [] ++ _ = _
    rw [List.append_nil]; rfl
theorem chs_join (l : List Str) : chs (Txt.join (Str.ofString "") l) = l.flatMap chs := by rw [eq_of_beq (join_plain_closes (Str.ofString "") l), chs_join0]
theorem lexQ_char {c : Str} {r : List Str} {tok : Str} {ln : Int} (h1 : (c == qt) = false) (h2 : (c == bs) = false) : lexQ (c :: r) tok ln = lexQ r (tok ++ c) (bump c ln) := by
  cases r <;> simp only [lexQ, h1, h2, Bool.false_eq_true, if_false]
theorem lexQ_end {r : List Str} {tok : Str} {ln : Int} : lexQ (qt :: r) tok ln = some (tok, r, bump qt ln) := by
  cases r <;> simp only [lexQ, qt_qt, if_true]
theorem lexB_end {c : Str} {r : List Str} {tok : Str} {ln : Int} (h : wsE c = false) : lexB (c :: r) tok ln = some (tok, r, bump c ln) := by
  cases r <;> simp only [lexB, h, if_true]
theorem lexT_ws {c : Str} {r : List Str} {ln : Int} (h : wsE c = false) : lexT (c :: r) ln = lexT r (bump c ln) := by
  cases r <;> simp only [lexT, h, if_true]
theorem lexT_q {r : List Str} {ln : Int} : lexT (qt :: r) ln = lexQ r E0 (bump qt ln) := by
  cases r <;> simp only [lexT, qt_ws, qt_qt, Bool.true_eq_false, if_false, if_true]
theorem lexB_run (r : List Str) (ln : Int) : ∀ (l : List Nat) (tok : Str), (∀ c ∈ l, okC c = true) → lexB (l.flatMap (fun c => [bs, one c]) ++ r) tok ln = lexB r ⟨tok.cps ++ l.toArray⟩ ln
  | [], tok, _ => by simp
  | c :: l, tok, h => by
    have e : (c :: l).flatMap (fun c => [bs, one c]) ++ r = bs :: one c :: (l.flatMap (fun c => [bs, one c]) ++ r) := by simp
    rw [e, lexB, bs_ws, bs_bs]
    simp only [Bool.true_eq_false, if_false, if_true]
    rw [bs_nl, okC_nl (h c List.mem_cons_self), lexB_run r ln l _ fun c hc => h c (List.mem_cons_of_mem _ hc)]
    have : (tok ++ one c).cps ++ l.toArray = tok.cps ++ (c :: l).toArray := by
      show (tok.cps ++ #[c]) ++ l.toArray = _
      rw [Array.append_assoc]; simp
    rw [this]
theorem lexQ_run (r : List Str) (ln : Int) : ∀ (l : List Nat) (tok : Str), (∀ c ∈ l, okC c = true) → lexQ (l.flatMap (fun c => chs (escQ c)) ++ r) tok ln = lexQ r ⟨tok.cps ++ l.toArray⟩ ln
  | [], tok, _ => by simp
  | c :: l, tok, h => by
    have ih := lexQ_run r ln l (tok ++ one c) fun c hc => h c (List.mem_cons_of_mem _ hc)
    have et : (tok ++ one c).cps ++ l.toArray = tok.cps ++ (c :: l).toArray := by
      show (tok.cps ++ #[c]) ++ l.toArray = _
      rw [Array.append_assoc]; simp
    rw [et] at ih
    have hc := h c List.mem_cons_self
    rw [List.flatMap_cons]
    rcases (okC_all c (okC_mem hc)).1 with e | ⟨e, h1, h2⟩
    · rw [e]
      show lexQ (bs :: one c :: (l.flatMap (fun c => chs (escQ c)) ++ r)) tok ln = _
      rw [lexQ, bs_qt, bs_bs]
      simp only [Bool.false_eq_true, if_false, if_true]
      rw [bs_nl, okC_nl hc, ih]
    · rw [e]
      show lexQ (one c :: (l.flatMap (fun c => chs (escQ c)) ++ r)) tok ln = _
      rw [lexQ_char h1 h2, okC_nl hc, ih]
theorem wh_all : ∀ n < 4, wsE (Txt.item (Str.ofString "\n\t\x0d ") ((n : Nat) : Int)) = false ∧ chs (Txt.item (Str.ofString "\n\t\x0d ") ((n : Nat) : Int)) = [Txt.item (Str.ofString "\n\t\x0d ") ((n : Nat) : Int)] := by decide +kernel
theorem whN_ws (n : Nat) : wsE (whN n) = false := (wh_all _ (Nat.mod_lt _ (by decide))).1
theorem whN_chs (n : Nat) : chs (whN n) = [whN n] := (wh_all _ (Nat.mod_lt _ (by decide))).2
theorem lexT_white (n : Nat) (r : List Str) (ln : Int) : lexT (whN n :: r) ln = lexT r (bump (whN n) ln) := lexT_ws (whN_ws n)
/-- one word is read -/
theorem lexT_word {b : Bool} {x : Str} (hx : ∀ c ∈ x.cps.toList, okC c = true) (h0 : x.cps.toList ≠ []) (n : Nat) (r : List Str) (ln : Int) :
    lexT (chs (wordT b x (whN n)) ++ r) ln = some (x, (if b = true then [] else [whN n]) ++ r, if b = true then bump (whN n) ln else ln) := by
  cases b with
  | true =>
    unfold wordT
    simp only [if_true, List.nil_append]
    rw [chs_app, chs_join, whN_chs]
    have e : (x.cps.toList.map escB).flatMap chs = x.cps.toList.flatMap fun c => [bs, one c] := by
      rw [List.flatMap_map]
      exact congrArg (fun f => List.flatMap f x.cps.toList) (funext chs_escB)
    rw [e]
    obtain ⟨c, l, hl⟩ : ∃ c l, x.cps.toList = c :: l := by
      cases hh : x.cps.toList with
      | nil => exact absurd hh h0
      | cons c l => exact ⟨c, l, rfl⟩
    rw [hl] at hx ⊢
    have e2 : ((c :: l).flatMap (fun c => [bs, one c]) ++ [whN n]) ++ r = bs :: one c :: (l.flatMap (fun c => [bs, one c]) ++ (whN n :: r)) := by simp
    rw [e2, lexT, bs_ws, bs_qt, bs_bs]
    simp only [Bool.true_eq_false, Bool.false_eq_true, if_false, if_true]
    rw [bs_nl, okC_nl (hx c List.mem_cons_self), lexB_run _ _ l _ fun c hc => hx c (List.mem_cons_of_mem _ hc), lexB_end (whN_ws n)]
    have : (E0 ++ one c).cps ++ l.toArray = x.cps := by
      show ((#[] : Array Nat) ++ #[c]) ++ l.toArray = _
      have hx' : x.cps = (c :: l).toArray := by rw [← hl]
      rw [hx']; simp
    rw [this]
  | false =>
    unfold wordT
    simp only [Bool.false_eq_true, if_false]
    rw [chs_app, chs_app, chs_app, chs_join, whN_chs]
    have e : (x.cps.toList.map escQ).flatMap chs = x.cps.toList.flatMap fun c => chs (escQ c) := by rw [List.flatMap_map]
    have eq : chs (Str.ofString "\"") = [qt] := rfl
    rw [e, eq]
    have e2 : (([qt] ++ x.cps.toList.flatMap (fun c => chs (escQ c)) ++ [qt]) ++ [whN n]) ++ r = qt :: (x.cps.toList.flatMap (fun c => chs (escQ c)) ++ (qt :: whN n :: r)) := by simp
    rw [e2, lexT_q, qt_nl, lexQ_run _ _ _ _ hx, lexQ_end]
    have : E0.cps ++ x.cps.toList.toArray = x.cps := by
      show (#[] : Array Nat) ++ _ = _
      simp
    rw [this, qt_nl]
    rfl
theorem pad_okC : ∀ k < 5, ∀ a < 3, ∀ b < 3, (∀ c ∈ (padW a k b).cps.toList, okC c = true) ∧ (padW a k b).cps.toList ≠ [] := by decide +kernel
theorem case_okC (b : Bool) : ∀ x < 5, (∀ c ∈ (caseN b x).cps.toList, okC c = true) ∧ (caseN b x).cps.toList ≠ [] := by cases b <;> decide +kernel
end Mine

namespace Mine
open PySem.Calls
/-- addresses that lie off the ledger's tail -/
noncomputable def FarT (as : List Addr) (st : List (Addr × Obj)) : Prop := ∀ a ∈ as, OffT a st
theorem FarT.elim' {as : List Addr} {a : Addr} {st : List (Addr × Obj)} (h : FarT as st) (ha : a ∈ as) : OffT a st := h a ha
theorem farT_e {as : List Addr} : FarT as [] := fun _ _ _ h => nomatch h
theorem farT_nil {st : List (Addr × Obj)} : FarT [] st := fun _ h => nomatch h
theorem farT_cons {a : Addr} {as : List Addr} {st : List (Addr × Obj)} (h : OffT a st) (t : FarT as st) : FarT (a :: as) st := fun b hb => (List.mem_cons.mp hb).elim (fun e => e ▸ h) (t b)
theorem offT_lt {a : Nat} {st : List (Addr × Obj)} (h : AllLt a st) : OffT a st := fun p hp => Nat.ne_of_gt (allLt_mem h p hp)
theorem offT_1 {P : Prop} {a : Nat} {st : List (Addr × Obj)} (h : P ∧ AllLt a st) : OffT a st := offT_lt h.2
theorem offT_2 {P P1 : Prop} {a : Nat} {st : List (Addr × Obj)} (h : P ∧ P1 ∧ AllLt a st) : OffT a st := offT_lt h.2.2
theorem offT_3 {P P1 P2 : Prop} {a : Nat} {st : List (Addr × Obj)} (h : P ∧ P1 ∧ P2 ∧ AllLt a st) : OffT a st := offT_lt h.2.2.2
theorem offT_4 {P P1 P2 P3 : Prop} {a : Nat} {st : List (Addr × Obj)} (h : P ∧ P1 ∧ P2 ∧ P3 ∧ AllLt a st) : OffT a st := offT_lt h.2.2.2.2
theorem offT_5 {P P1 P2 P3 P4 : Prop} {a : Nat} {st : List (Addr × Obj)} (h : P ∧ P1 ∧ P2 ∧ P3 ∧ P4 ∧ AllLt a st) : OffT a st := offT_lt h.2.2.2.2.2
theorem allLt_up {d a : Nat} {st : List (Addr × Obj)} (l : @LT.lt Nat _ d a) (h : AllLt d st) : OffT a st := fun p hp => Nat.ne_of_gt (Nat.lt_trans (allLt_mem h p hp) l)
theorem offT_u1 {P : Prop} {d a : Nat} {st : List (Addr × Obj)} (l : @LT.lt Nat _ d a) (h : P ∧ AllLt d st) : OffT a st := allLt_up l h.2
theorem offT_u2 {P P1 : Prop} {d a : Nat} {st : List (Addr × Obj)} (l : @LT.lt Nat _ d a) (h : P ∧ P1 ∧ AllLt d st) : OffT a st := allLt_up l h.2.2
theorem offT_u3 {P P1 P2 : Prop} {d a : Nat} {st : List (Addr × Obj)} (l : @LT.lt Nat _ d a) (h : P ∧ P1 ∧ P2 ∧ AllLt d st) : OffT a st := allLt_up l h.2.2.2
theorem offT_h {a : Nat} {st l : List (Addr × Obj)} (h : Hid (AllLt a l)) (hs : Sub st l) : OffT a st := fun p hp => Nat.ne_of_gt (allLt_mem h.out p (hs p hp))
theorem offT_v {d a : Nat} {st l : List (Addr × Obj)} (g : Hid (@LT.lt Nat _ d a)) (h : Hid (AllLt d l)) (hs : Sub st l) : OffT a st := fun p hp => Nat.ne_of_gt (Nat.lt_trans (allLt_mem h.out p (hs p hp)) g.out)
theorem offT_off1 {a : Nat} {st l : List (Addr × Obj)} (h : LCg.Off1 a l) (hs : Sub st l) : OffT a st := fun p hp e => off1_d h p (hs p hp) (e : a = p.1).symm
theorem offT_ne {a : Nat} {st : List (Addr × Obj)} (h : OffT a st) : ∀ p ∈ st, p.1 ≠ a := fun p hp => Ne.symm (h p hp)
theorem offA_T {a : Nat} {st : List (Addr × Obj)} (h : OffT a st) : OffA a (st.map (·.1)) := fun b hb => by
  obtain ⟨p, hp, rfl⟩ := List.mem_map.mp hb
  exact h p hp
theorem offL_T {as : List Addr} {st : List (Addr × Obj)} (h : FarT as st) : OffL (st.map (·.1)) as := fun a ha b hb => by
  obtain ⟨p, hp, rfl⟩ := List.mem_map.mp ha
  exact Ne.symm (h b hb p hp)
theorem farT_sub {as as' : List Addr} {st st' : List (Addr × Obj)} (h : FarT as st) (h1 : Sub as' as) (h2 : Sub st' st) : FarT as' st' := fun a ha p hp => h a (h1 a ha) p (h2 p hp)
theorem offT_tup {a : Nat} {p : Addr × Obj} {st : List (Addr × Obj)} (h : @LT.lt Nat _ a p.1) (t : OffT a st) : OffT a (p :: st) := fun q hq => (List.mem_cons.mp hq).elim (fun e => e ▸ Nat.ne_of_lt h) (t q)
end Mine
namespace Mine
theorem row113 : True := by
  k_with "gs_ot" => first | with_reducible assumption | (refine FarT.elim' (by with_reducible assumption) ?_; k_mem) | (refine offT_h (by with_reducible assumption) ?_; k_extra "gs_sub") | (refine offT_v (by with_reducible assumption) (by with_reducible assumption) ?_; k_extra "gs_sub") | exact offT_lt (by assumption) | exact offT_1 (by assumption) | exact offT_2 (by assumption) | exact offT_3 (by assumption) | exact offT_4 (by assumption) | exact offT_5 (by assumption) | exact offT_u1 (by assumption) (by assumption) | exact offT_u2 (by assumption) (by assumption) | exact offT_u3 (by assumption) (by assumption) | (refine offT_off1 (by assumption) ?_; k_extra "gs_sub")
  trivial
end Mine
namespace Mine
theorem row114 : True := by
  k_with "k_mem" => ((show (_ : PySem.Addr × PySem.Obj) ∈ (_ : List (PySem.Addr × PySem.Obj))); with_reducible assumption)
  trivial
end Mine
namespace Mine
theorem row115 : True := by
  k_with "k_all" => (refine offT_ne ?_; k_extra "gs_ot")
  trivial
end Mine
namespace Mine
theorem row116 : True := by
  k_with "gs_offA" => (refine offA_T ?_; k_extra "gs_ot")
  trivial
end Mine
namespace Mine
open PySem.Calls
section
variable {prog : Program} {w : World} {A : Around} {R : Result → Shared → Prop} {s : Shared} {h₀ : Heap} {L : Addr}
theorem cl2_startS {elt t1 i1 t2 i2 : PySem.Expr} {ifs : List PySem.Expr} {scope : Scope} {pos : Pos} {acc : Value} {env : Env} {I : Addr} {oI : Obj} {news : List (Addr × Obj)} (hself : IterSelf prog w A I oI) (N : News h₀ L s.heap ((I, oI) :: news))
    (loop : codeAny (model prog w) A (.compLoop (c2E elt t1 i1 t2 i2 ifs scope pos) 1 (.ref I) acc env) R s) :
    codeAny (model prog w) A (.compStart (c2E elt t1 i1 t2 i2 ifs scope pos) 1 (.ref I) acc env) R s := cl2_start loop (hself _ _ _ (N _ List.mem_cons_self).1 loop)
theorem letGo_skip {t : PySem.Expr} {it v : Value} {Q : Unit → Shared → Prop} {E : Value → Shared → Prop} (h : Q () s) (he : letOwnedTupleGo t it v = pure () := by rfl) : wpAny (model prog w) A (letOwnedTupleGo t it v) Q E s := by
  rw [he]; exact wpAny_pure h
theorem noIfs {env : Env} {Q : Bool → Shared → Prop} {E : Value → Shared → Prop} (h : Q true s) : wpAny (model prog w) A (forIn ([] : List PySem.Expr) true fun c r => if r = true then do let ok ← isTrue c env (eval c env); pure (ForInStep.yield ok) else pure (ForInStep.yield r)) Q E s := by
  rw [List.forIn_nil]; exact wpAny_pure h
theorem oneIf {c : PySem.Expr} {env : Env} {Q : Bool → Shared → Prop} {E : Value → Shared → Prop} (h : wpAny (model prog w) A (isTrue c env (eval c env)) Q E s) : wpAny (model prog w) A (forIn [c] true fun c r => if r = true then do let ok ← isTrue c env (eval c env); pure (ForInStep.yield ok) else pure (ForInStep.yield r)) Q E s := by
  rw [List.forIn_cons]
  simp only [if_true, bind_assoc, pure_bind, List.forIn_nil]
  refine wpAny_bind (wpAny_mono h (fun b s₁ h₁ => wpAny_pure h₁) fun _ _ e => e)
end
/-- the tail grows -/
theorem tail_two {as : List Addr} {ts st : List (Addr × Obj)} (h1 : FarT as ts) (h2 : FarT as st) : FarT as (ts ++ st) := fun a ha p hp => (List.mem_append.mp hp).elim (h1 a ha p) (h2 a ha p)
theorem nm_U (ts st : List (Addr × Obj)) : ∃ U, U = ts ++ st ∧ Sub st U ∧ Sub ts U := ⟨_, rfl, fun _ h => List.mem_append_right _ h, fun _ h => List.mem_append_left _ h⟩
end Mine
namespace Mine
open PySem.Calls
noncomputable def Down (n : Nat) (I : Nat → Shared → Prop) (s : Shared) : Prop := ∃ m, m < n ∧ I m s
section
variable {prog : Program} {w : World} {A : Around} {R : Result → Shared → Prop} {s : Shared}
theorem cl2_innerD {elt t1 i1 t2 i2 : PySem.Expr} {ifs : List PySem.Expr} {scope : Scope} {pos : Pos} {it acc : Value} {env : Env} (I : Nat → Shared → Prop)
    (turn : ∀ n s, I n s → wpAny (model prog w) A (pyNext it) (fun r s₁ => match r with
      | none => R (.ok .next) s₁
      | some v => wpAny (model prog w) A (assign t2 env v) (fun _ s₂ =>
          wpAny (model prog w) A (forIn ifs true fun c r => if r = true then do let ok ← isTrue c env (eval c env); pure (ForInStep.yield ok) else pure (ForInStep.yield r)) (fun ok s₃ =>
            if ok = true then wpAny (model prog w) A (eval elt env) (fun x s₄ =>
              wpAny (model prog w) A (call (.builtin "list.append") [acc, x]) (fun _ s₅ => Down n I s₅) (nE prog w A env R) s₄) (nE prog w A env R) s₃
            else Down n I s₃) (nE prog w A env R) s₂) (nE prog w A env R) s₁) (nE prog w A env R) s)
    (n : Nat) (h : I n s) (ht : ∀ v, letOwnedTupleGo t2 it v = pure () := by intro _; rfl) :
    codeAny (model prog w) A (.compLoop (c2E elt t1 i1 t2 i2 ifs scope pos) 1 it acc env) R s := cl2_inner I turn n h ht
end
end Mine

namespace Mine
open PySem.Calls
/-- the table's pairs -/
noncomputable def kvRow (P : Par) (k : Nat) : List (Str × Str) := (P.Vn k).map fun y => (nm k, caseN (P.cs k) y)
noncomputable def kvTo (P : Par) : Nat → List (Str × Str)
  | 0 => []
  | k + 1 => kvTo P k ++ kvRow P k
theorem kvRow_len {P : Par} (O : ParOk P) (k : Nat) : (kvRow P k).length = 3 := by unfold kvRow; rw [List.length_map, O.v3]
theorem kvRow_take {P : Par} {k j x : Nat} (hx : (P.Vn k)[j]? = some x) : (kvRow P k).take (j + 1) = (kvRow P k).take j ++ [(nm k, caseN (P.cs k) x)] := by
  have : (kvRow P k)[j]? = some (nm k, caseN (P.cs k) x) := by unfold kvRow; rw [List.getElem?_map, hx]; rfl
  rw [List.take_add_one, this]; rfl
theorem nm_tp {g h : Heap} {L a : Addr} {k v : Str} {t u : Tok} {r : List (Addr × Obj)} (N : News g L h ((a, tupO #[.str k t, .str v u]) :: r)) : Nm a ∧ Nm t ∧ Nm u := ⟨.mk, .mk, .mk⟩
theorem nm_hd {w : World} {g h : Heap} {L x d l : Addr} {t : Tok} {o : Obj} {r : List (Addr × Obj)} (N : News g L h ((x, instObj 218 d) :: (d, dictOf [ky w "_headers" t (Value.ref l)] 1) :: (l, o) :: r)) : Nm x ∧ Nm d ∧ Nm t := ⟨.mk, .mk, .mk⟩
theorem offT_e {a : Addr} : OffT a [] := fun _ h => nomatch h
theorem sub_tup {p p1 p2 p3 p4 : Addr × Obj} {ts st : List (Addr × Obj)} : Sub (ts ++ ([p] ++ st)) (p :: p1 :: p2 :: p3 :: p4 :: (ts ++ st)) := fun q hq => by
  simp only [List.mem_append, List.mem_cons, List.not_mem_nil, or_false] at hq ⊢
  rcases hq with h | h | h
  · exact .inr (.inr (.inr (.inr (.inr (.inl h)))))
  · exact .inl h
  · exact .inr (.inr (.inr (.inr (.inr (.inr h)))))
theorem wTo_pre {P : Par} (O : ParOk P) {k j : Nat} (hj : j < 4) : ∀ d, (wTo P (k + 1 + d))[4 * k + j]? = some ((wOf P k).getD j E0)
  | 0 => wTo_at O hj
  | d + 1 => by
    have h := wTo_len O (k + 1 + d)
    show (wTo P (k + 1 + d) ++ wOf P (k + 1 + d))[4 * k + j]? = _
    rw [List.getElem?_append_left (by rw [h]; omega)]
    exact wTo_pre O hj d
theorem wTo_get {P : Par} (O : ParOk P) {k j x : Nat} (hk : k < 5) (hx : (P.Vn k)[j]? = some x) : (wTo P 5)[(4 * (k : Int) + (1 + (j : Int))).toNat]? = some (caseN (P.cs k) x) := by
  have hj : j < 3 := by
    have := (List.getElem?_eq_some_iff.mp hx).1
    rwa [O.v3] at this
  have h := wTo_pre O (k := k) (j := j + 1) (by omega) (4 - k)
  rw [show k + 1 + (4 - k) = 5 by omega] at h
  rw [show (4 * (k : Int) + (1 + (j : Int))).toNat = 4 * k + (j + 1) by omega, h]
  unfold wOf
  rw [List.getD_cons_succ, List.getD_eq_getElem?_getD, List.getElem?_map, hx]; rfl
theorem kvTo_len {P : Par} (O : ParOk P) : ∀ k, (kvTo P k).length = 3 * k
  | 0 => rfl
  | k + 1 => by unfold kvTo; rw [List.length_append, kvTo_len O k, kvRow_len O]; omega
theorem tupsIn_T {gg h₀ : Heap} {s : Shared} {L : Addr} {ts own news : List (Addr × Obj)} {refs : List Value} {kvs : List (Str × Str)} (T : TupsN ts refs kvs) (N : News h₀ L s.heap news)
    (gK : ∀ a o, s.heap.get? a = some o → a ∉ own.map (·.1) → gg.get? a = some o) (O : FarT (own.map (·.1)) ts) (hs : Sub ts news) : TupsIn gg refs kvs :=
  tupsIn_of T fun p hp => gK _ _ (N p (hs p hp)).1 fun hm => O _ hm p hp rfl
theorem case_good (b : Bool) : ∀ x < 5, (∀ c ∈ (caseN b x).cps.toList, good c) ∧ ∀ c ∈ (nm x).cps.toList, good c := by unfold good; cases b <;> decide +kernel
theorem kvTo_good {P : Par} (O : ParOk P) : ∀ n ≤ 5, ∀ p ∈ kvTo P n, (∀ c ∈ p.1.cps.toList, good c) ∧ (∀ c ∈ p.2.cps.toList, good c)
  | 0, _, _, h => nomatch h
  | n + 1, hn, p, h => by
    rcases List.mem_append.mp h with h | h
    · exact kvTo_good O n (by omega) p h
    · obtain ⟨y, hy, rfl⟩ := List.mem_map.mp h
      exact ⟨(case_good false n (by omega)).2, (case_good _ y (O.v5 n y hy)).1⟩
theorem row117 : True := by
  k_with "k_enter" => ((with_reducible show codeAny _ _ (Code.call (Value.ref 112) _) _ _); (refine' GS.callM ?kBr117 ?kFr117 ?kXr117 ?kNr117 ?kTr117 ?kAr117 ?kfr117 ?kkr117 ?krr117 ?kdr117 (fun ggq9 gBq9 gXq9 gTq9 gGq9 gKq9 gSq9 gBackq9 => init_c gBq9 gXq9 gTq9 gGq9 ?i1r117 ?ihr117 ?irr117 ?iur117 ?ikr117 ?igr117 ?izr117 ?_); (case kBr117 => assumption); (case kFr117 => assumption); (case kXr117 => assumption); (case kNr117 => assumption); (case kTr117 => assumption); (case kAr117 => keq_hits); (case kfr117 => exact rfl); (case kkr117 => exact rfl); (case krr117 => k_extra "gs_rem"); (case kdr117 => (dsimp only [List.map]); (refine offL_T ?_); (repeat' (first | exact farT_nil | refine farT_cons ?_ ?_)); all_goals k_extra "gs_ot"); (case i1r117 => (refine ⟨?_, ?_, ?_⟩ <;> k_ne)); (case ihr117 => assumption); (case irr117 => k_room); (case iur117 => (try simp only [units_under_make, Around.deeper_units]); omega); (case ikr117 => (refine tupsIn_T (by assumption) (by assumption) gKq9 ?_ (Sub.tail (Sub.tail (Sub.tail (by assumption)))); (dsimp only [List.map]); (refine farT_sub ?_ Sub.rfl' (by assumption)); (repeat' (first | exact farT_nil | refine farT_cons ?_ ?_)); all_goals k_extra "gs_ot")); (case igr117 => assumption); (case izr117 => assumption); (revert ggq9; ((first | tm_at "clo1" | refine fun ggq9 => ?_); refine fun gBq9 => ?_; refine fun gXq9 => ?_; refine fun gTq9 => ?_; refine fun gGq9 => ?_; refine fun gKq9 => ?_; refine fun gSq9 => ?_; refine fun gBackq9 => ?_); ((first | tm_at "clo1" | refine fun t'q9 => ?_); (first | tm_at "clo1" | refine fun tk'q9 => ?_); (first | tm_at "clo1" | refine fun h'q9 => ?_); refine fun gG'q9 => ?_); (obtain ⟨F'q9, N'q9, -⟩ := gBackq9 _ _ gG'q9); (clear gBq9 gXq9 gTq9 gGq9 gKq9 gSq9 gBackq9 gG'q9); (try simp only [hdrNews, List.cons_append, List.nil_append] at N'q9); (try dsimp only [InitBack]); (try refine ⟨rfl, ?_⟩); (try dsimp only))))
  trivial
/-- the new tuples lie off the rest -/
noncomputable def ApT (ts st : List (Addr × Obj)) : Prop := ∀ q ∈ st, OffT q.1 ts
theorem apT_e {st : List (Addr × Obj)} : ApT [] st := fun _ _ _ h => nomatch h
theorem apT_snoc {ts st U : List (Addr × Obj)} {p : Addr × Obj} (h : ApT ts st) (o : OffT p.1 U) (hs : Sub st U) : ApT (ts ++ [p]) st := fun q hq r hr => (List.mem_append.mp hr).elim (h q hq r) fun e => by
  rw [List.mem_singleton.mp e]
  exact Ne.symm (o q (hs q hq))
inductive FJ (P : Par) (g : Heap) (L D C I1 : Addr) (st : List (Addr × Obj)) (m : Str → Option Value) (s : Shared) (n : Nat) (s' : Shared) : Prop
  | mk (i : Nat) (h : Heap) (tk : Nat) (m₂ : Str → Option Value) (ys : List Value) (ts : List (Addr × Obj)) (oC : Obj) (dn : Nat) (_ : s' = { s with heap := h, toks := tk }) (_ : Fr g L h m) (_ : News g L h ((I1, rgO (i : Int) (5 - i)) :: (C, oC) :: (D, W.listOf ys.toArray dn) :: (ts ++ st))) (_ : LCg.NsObj oC m₂) (_ : TupsN ts ys (kvTo P i)) (_ : FarT [I1, C, D] ts) (_ : ApT ts st) (_ : i + n = 6) (_ : i ≤ 5) : FJ P g L D C I1 st m s n s'
inductive FI (P : Par) (g : Heap) (L D C I1 I2 : Addr) (i r : Nat) (st : List (Addr × Obj)) (m : Str → Option Value) (s : Shared) (n : Nat) (s' : Shared) : Prop
  | mk (j : Nat) (h : Heap) (tk : Nat) (m₂ : Str → Option Value) (ys : List Value) (ts : List (Addr × Obj)) (oC : Obj) (dn : Nat) (ti : Tok) (_ : s' = { s with heap := h, toks := tk }) (_ : Fr g L h m) (_ : News g L h ((I2, rgO ((1 : Int) + (j : Int)) (3 - j)) :: (I1, rgO ((i : Int) + 1) r) :: (C, oC) :: (D, W.listOf ys.toArray dn) :: (ts ++ st))) (_ : LCg.NsObj oC m₂) (_ : m₂ (Str.ofString "k") = some (.int (i : Int) ti)) (_ : TupsN ts ys (kvTo P i ++ (kvRow P i).take j)) (_ : FarT [I2, I1, C, D] ts) (_ : ApT ts st) (_ : j + n = 4) (_ : j ≤ 3) : FI P g L D C I1 I2 i r st m s n s'
theorem row118 : True := by
  k_with "subscriptTail Name Name ref int" => (k_here; k_dflt (first | (refine' item_NE ?Nr118 ?mr118 ?ir118 ?xr118 ?h0r118 ?h1r118 ?_; (case Nr118 => k_asm); (case mr118 => k_mem); (case ir118 => assumption); (case xr118 => assumption); (case h0r118 => omega); (case h1r118 => omega); ((first | tm_at "clo1" | refine fun _ => ?_))) | (refine' item_SE ?Nr118 ?mr118 ?ir118 ?xr118 ?h0r118 ?h1r118 ?_; (case Nr118 => k_asm); (case mr118 => k_mem); (case ir118 => assumption); (case xr118 => assumption); (case h0r118 => omega); (case h1r118 => omega); ((first | tm_at "clo1" | refine fun _ => ?_)))))
  trivial
theorem row119 : True := by
  k_with "subscriptTail Name BinOp ref int" => (k_here; k_dflt (first | (refine' item_NE ?Nr119 ?mr119 ?ir119 ?xr119 ?h0r119 ?h1r119 ?_; (case Nr119 => k_asm); (case mr119 => k_mem); (case ir119 => assumption); (case xr119 => assumption); (case h0r119 => omega); (case h1r119 => omega); ((first | tm_at "clo1" | refine fun _ => ?_))) | (refine' item_SE ?Nr119 ?mr119 ?ir119 ?xr119 ?h0r119 ?h1r119 ?_; (case Nr119 => k_asm); (case mr119 => k_mem); (case ir119 => assumption); (case xr119 => assumption); (case h0r119 => omega); (case h1r119 => omega); ((first | tm_at "clo1" | refine fun _ => ?_)))))
  trivial
section
variable {w : World} {A : Around} {base g : Heap} {fr : List Env} {mg mb : Str → Option Value} {p : Program} {loose : List Str} {mean : ExcName → Option Value} {s : Shared} {L fa : Addr} {cd : Value} {m : Str → Option Value} {Q : Flow → Shared → Prop} {E : Value → Shared → Prop} {rest : List Stmt}
  (B : Below A base fr g) (X : Frag.In (hd.heap_39 w.params) g) (T : Top p loose mean mg mb g)
include B X T
end
namespace Cseg_f
noncomputable def Sta (w : World) (A : Around) (base g : Heap) (fr : List Env) (mg mb : Str → Option Value) (p : Program) (loose : List Str) (mean : ExcName → Option Value) (s : Shared) (L fa : Addr) (cd : Value) (m : Str → Option Value) (Q : Flow → Shared → Prop) (E : Value → Shared → Prop) (rest : List Stmt) (P : Par) (rD nD : Addr) (rv nv : List Value) (rn nn : Nat) (c2 c8 : Obj) (st : List (Addr × Obj)) (fs : List (Str × Value)) : Prop := ∀ (B : Below A base fr g) (X : Frag.In (hd.heap_39 w.params) g) (T : Top p loose mean mg mb g) (O : ParOk P) (hE : PassesOwn (model Challenge.rw_st0024_01.row.prog w) (A.deeper (lawEnv L fa cd)) (lawEnv L fa cd) E) (hh : A.handled = none) (hroom : A.depth + 60 < recursionLimit) (hu : A.units + 600 < cLine) (C : CodeHd base 228 224) (hr : StrsAre rv (wTo P 5)) (hn : StrsAre nv [Str.ofString "a", Str.ofString "B c", Str.ofString "\"", Str.ofString "\\", Str.ofString "#"]) (e2 : c2.data = .cell (some (.ref nD))) (e8 : c8.data = .cell (some (.ref rD))) (m2 : (L + 1 + 1, c2) ∈ st) (m8 : (L + 1 + 1 + 1 + 1 + 1 + 1 + 1 + 1, c8) ∈ st) (mr : (rD, W.listOf rv.toArray rn) ∈ st) (mn : (nD, W.listOf nv.toArray nn) ∈ st) (l0 : @LT.lt Nat _ 224 L) (F0 : Fr g L s.heap m) (hm : ∀ p ∈ fs, m p.1 = some p.2) (hfs : ∀ p ∈ fs, p.1 ≠ Str.ofString "table") (N : News g L s.heap st) (h : ∀ h' tk x d l t n refs ts m', Fr g L h' m' → (∀ p ∈ (Str.ofString "table", Value.ref x) :: fs, m' p.1 = some p.2) → TupsN ts refs (kvTo P 5) → FarT [x, d, l] ts → FarT [x, d, l] st → ApT ts st → (@Ne Nat x d) ∧ (@Ne Nat x l) ∧ (@Ne Nat d l) →
    News g L h' (hdrNews w x d l t refs n ++ (ts ++ st)) →
    wpAny (model Challenge.rw_st0024_01.row.prog w) (A.deeper (lawEnv L fa cd)) (execs rest (lawEnv L fa cd)) Q E { s with heap := h', toks := tk }), wpAny (model Challenge.rw_st0024_01.row.prog w) (A.deeper (lawEnv L fa cd)) (execs (st13s.1 :: rest) (lawEnv L fa cd)) Q E s
noncomputable def P0 (z : World × Around × Heap × Heap × (List Env) × (Str → Option Value) × (Str → Option Value) × Program × (List Str) × (ExcName → Option Value) × Shared × Addr × Addr × Value × (Str → Option Value) × (Flow → Shared → Prop) × (Value → Shared → Prop) × (List Stmt) × Par × Addr × Addr × (List Value) × (List Value) × Nat × Nat × Obj × Obj × (List (Addr × Obj)) × (List (Str × Value))) : Prop := Sta (z.1) (z.2.1) (z.2.2.1) (z.2.2.2.1) (z.2.2.2.2.1) (z.2.2.2.2.2.1) (z.2.2.2.2.2.2.1) (z.2.2.2.2.2.2.2.1) (z.2.2.2.2.2.2.2.2.1) (z.2.2.2.2.2.2.2.2.2.1) (z.2.2.2.2.2.2.2.2.2.2.1) (z.2.2.2.2.2.2.2.2.2.2.2.1) (z.2.2.2.2.2.2.2.2.2.2.2.2.1) (z.2.2.2.2.2.2.2.2.2.2.2.2.2.1) (z.2.2.2.2.2.2.2.2.2.2.2.2.2.2.1) (z.2.2.2.2.2.2.2.2.2.2.2.2.2.2.2.1) (z.2.2.2.2.2.2.2.2.2.2.2.2.2.2.2.2.1) (z.2.2.2.2.2.2.2.2.2.2.2.2.2.2.2.2.2.1) (z.2.2.2.2.2.2.2.2.2.2.2.2.2.2.2.2.2.2.1) (z.2.2.2.2.2.2.2.2.2.2.2.2.2.2.2.2.2.2.2.1) (z.2.2.2.2.2.2.2.2.2.2.2.2.2.2.2.2.2.2.2.2.1) (z.2.2.2.2.2.2.2.2.2.2.2.2.2.2.2.2.2.2.2.2.2.1) (z.2.2.2.2.2.2.2.2.2.2.2.2.2.2.2.2.2.2.2.2.2.2.1) (z.2.2.2.2.2.2.2.2.2.2.2.2.2.2.2.2.2.2.2.2.2.2.2.1) (z.2.2.2.2.2.2.2.2.2.2.2.2.2.2.2.2.2.2.2.2.2.2.2.2.1) (z.2.2.2.2.2.2.2.2.2.2.2.2.2.2.2.2.2.2.2.2.2.2.2.2.2.1) (z.2.2.2.2.2.2.2.2.2.2.2.2.2.2.2.2.2.2.2.2.2.2.2.2.2.2.1) (z.2.2.2.2.2.2.2.2.2.2.2.2.2.2.2.2.2.2.2.2.2.2.2.2.2.2.2.1) (z.2.2.2.2.2.2.2.2.2.2.2.2.2.2.2.2.2.2.2.2.2.2.2.2.2.2.2.2)
noncomputable def Z := @Classical.epsilon _ ⟨(w00, A00, default, default, [], (fun _ => none), (fun _ => none), default, [], (fun _ => none), s00, 0, 0, .none, (fun _ => none), (fun _ _ => True), (fun _ _ => True), [], par00, 0, 0, [], [], 0, 0, default, default, [], [])⟩ fun z => ¬ P0 z
@[irreducible] noncomputable def w := Z.1
@[irreducible] noncomputable def A := Z.2.1
@[irreducible] noncomputable def base := Z.2.2.1
@[irreducible] noncomputable def g := Z.2.2.2.1
@[irreducible] noncomputable def fr := Z.2.2.2.2.1
@[irreducible] noncomputable def mg := Z.2.2.2.2.2.1
@[irreducible] noncomputable def mb := Z.2.2.2.2.2.2.1
@[irreducible] noncomputable def p := Z.2.2.2.2.2.2.2.1
@[irreducible] noncomputable def loose := Z.2.2.2.2.2.2.2.2.1
@[irreducible] noncomputable def mean := Z.2.2.2.2.2.2.2.2.2.1
@[irreducible] noncomputable def s := Z.2.2.2.2.2.2.2.2.2.2.1
@[irreducible] noncomputable def L := Z.2.2.2.2.2.2.2.2.2.2.2.1
@[irreducible] noncomputable def fa := Z.2.2.2.2.2.2.2.2.2.2.2.2.1
@[irreducible] noncomputable def cd := Z.2.2.2.2.2.2.2.2.2.2.2.2.2.1
@[irreducible] noncomputable def m := Z.2.2.2.2.2.2.2.2.2.2.2.2.2.2.1
@[irreducible] noncomputable def Q := Z.2.2.2.2.2.2.2.2.2.2.2.2.2.2.2.1
@[irreducible] noncomputable def E := Z.2.2.2.2.2.2.2.2.2.2.2.2.2.2.2.2.1
@[irreducible] noncomputable def rest := Z.2.2.2.2.2.2.2.2.2.2.2.2.2.2.2.2.2.1
@[irreducible] noncomputable def P := Z.2.2.2.2.2.2.2.2.2.2.2.2.2.2.2.2.2.2.1
@[irreducible] noncomputable def rD := Z.2.2.2.2.2.2.2.2.2.2.2.2.2.2.2.2.2.2.2.1
@[irreducible] noncomputable def nD := Z.2.2.2.2.2.2.2.2.2.2.2.2.2.2.2.2.2.2.2.2.1
@[irreducible] noncomputable def rv := Z.2.2.2.2.2.2.2.2.2.2.2.2.2.2.2.2.2.2.2.2.2.1
@[irreducible] noncomputable def nv := Z.2.2.2.2.2.2.2.2.2.2.2.2.2.2.2.2.2.2.2.2.2.2.1
@[irreducible] noncomputable def rn := Z.2.2.2.2.2.2.2.2.2.2.2.2.2.2.2.2.2.2.2.2.2.2.2.1
@[irreducible] noncomputable def nn := Z.2.2.2.2.2.2.2.2.2.2.2.2.2.2.2.2.2.2.2.2.2.2.2.2.1
@[irreducible] noncomputable def c2 := Z.2.2.2.2.2.2.2.2.2.2.2.2.2.2.2.2.2.2.2.2.2.2.2.2.2.1
@[irreducible] noncomputable def c8 := Z.2.2.2.2.2.2.2.2.2.2.2.2.2.2.2.2.2.2.2.2.2.2.2.2.2.2.1
@[irreducible] noncomputable def st := Z.2.2.2.2.2.2.2.2.2.2.2.2.2.2.2.2.2.2.2.2.2.2.2.2.2.2.2.1
@[irreducible] noncomputable def fs := Z.2.2.2.2.2.2.2.2.2.2.2.2.2.2.2.2.2.2.2.2.2.2.2.2.2.2.2.2
set_option maxHeartbeats 4000000 in
theorem key : Sta w A base g fr mg mb p loose mean s L fa cd m Q E rest P rD nD rv nv rn nn c2 c8 st fs := fun B X T O hE hh hroom hu C hr hn e2 e8 m2 m8 mr mn l0 F0 hm hfs N h => by
  revert X; k_fill; intro X
  dsimp only
  k_steps
  refine comp2_K (h₀ := g) (L := L) (by with_unfolding_all rfl) (by decide) (by rfl) (by decide) ?_
  k_steps
  (rename Fr _ _ _ _ => F2)
  (rename News _ _ _ _ => N2)
  refine rg_iter F2 N2 (by assumption) (by decide) (n := 5) (by rfl) ?_
  (tm_at "nmx2"; refine fun I1 h1 => ?_)
  intro F3 N3 lI
  have oI : OffT I1 st := fun q hq => Nat.ne_of_gt (lI q hq)
  clear lI
  refine ⟨I1, _, _, _, rfl, F3, N3, self_rg, ?_⟩
  (tm_at "nmx7"; refine fun C D oC m₂ h2 tk2 R => ?_)
  intro hfin hC F4 N4 l1 l2
  have oD : OffT D st := fun q hq => Nat.ne_of_gt (l1 q (List.mem_cons_of_mem _ hq))
  have lID : @LT.lt Nat _ I1 D := l1 (I1, _) List.mem_cons_self
  have oC' : OffT C st := fun q hq => Nat.ne_of_gt (Nat.lt_trans (l1 q (List.mem_cons_of_mem _ hq)) l2)
  clear l1
  have fS : FarT [I1, C, D] st := farT_cons oI (farT_cons oC' (farT_cons oD farT_nil))
  clear oI oC' oD F2 N2 F3 N3
  refine cl2_outer (FJ P g L D C I1 st m s) ?_ 6 ⟨0, h2, tk2, m₂, [], [], oC, 0, rfl, F4, News.sub' N4 (by k_extra "gs_sub"), hC, .nil, farT_e, apT_e, by omega, by omega⟩
  clear F4 N4 hC oC
  rintro n s' ⟨i, h', tk', m₂, ys, ts, oC, dn, rfl, F, N, hC, hT, oT, aT, hi, hi5⟩
  obtain ⟨U, hU, hs1, hs2⟩ := nm_U ts st
  rw [← hU] at N
  have fU : FarT [I1, C, D] U := hU ▸ tail_two oT fS
  have m2' := hs1 _ m2
  have m8' := hs1 _ m8
  have mr' := hs1 _ mr
  have mn' := hs1 _ mn
  by_cases h5 : i < 5
  · obtain ⟨r, hr5⟩ : ∃ r, 5 - i = r + 1 := ex_sub (by with_reducible assumption)
    rw [hr5] at N
    (revert n i h' tk' m₂ ys ts oC dn U r; tm_at "nmx9"; refine fun n i h' tk' m₂ ys ts oC dn => ?_; k_extra "kf"; tm_at "nmx1"; refine fun U => ?_; k_extra "kf"; tm_at "nmx1"; refine fun r => ?_; k_extra "kw")
    refine rg_nextA F N ?_ ?_
    · (dsimp only [List.map]); k_extra "gs_offA"
    (tm_at "nmx3"; refine fun t h'' tk'' => ?_)
    intro F' N'
    clear F N
    dsimp only
    refine letGo_skip ?_
    refine assignC F' N' hC (by k_updF) ?_
    (tm_at "nmx4"; refine fun h3 oC' m₃ tk3 => ?_)
    intro F3 N3 hC3 hk hz
    clear F' N' hC hz
    k_steps
    (rename Fr _ _ _ _ => F2)
    (rename News _ _ _ _ => N2)
    refine rg_iter F2 N2 (by assumption) (by decide) (n := 3) (by rfl) ?_
    (tm_at "nmx2"; refine fun I2 h4 => ?_)
    intro F4 N4 lI
    have oI2 : OffT I2 U := fun q hq => Nat.ne_of_gt (lI q (by k_extra "gs_mem"))
    have fU2 : FarT [I2, I1, C, D] U := farT_cons oI2 fU
    have fS2 : FarT [I2, I1, C, D] st := farT_sub fU2 Sub.rfl' hs1
    have oT2 : FarT [I2, I1, C, D] ts := farT_sub fU2 Sub.rfl' hs2
    k_lt lI
    clear oI2
    refine cl2_startS self_rg N4 ?_
    have N5 := News.sub' (l := (I2, rgO ((1 : Int) + ((0 : Nat) : Int)) 3) :: (I1, rgO (((i : Nat) : Int) + 1) r) :: (C, oC') :: (D, W.listOf (ys : List Value).toArray dn) :: (ts ++ st)) N4 (by rw [← hU]; k_extra "gs_sub")
    refine cl2_innerD (FI P g L D C I1 I2 i r st m s) ?_ 4 ⟨0, h4, _, m₃, ys, ts, oC', dn, t, rfl, F4, N5, hC3, hk, by rw [List.take_zero, List.append_nil]; exact hT, oT2, aT, by omega, by omega⟩
    clear F2 N2 F4 N4 N5 hC3 hk hT oT oT2 fU fU2 hs1 hs2 m2' m8' mr' mn' hU aT
    rintro nn2 s' ⟨j, h', tk', m₂, ys, ts, oC, dn, ti, rfl, F, N, hC, hk, hT, oT, aT, hj, hj3⟩
    obtain ⟨U, hU, hs1, hs2⟩ := nm_U ts st
    rw [← hU] at N
    have fU : FarT [I2, I1, C, D] U := hU ▸ tail_two oT fS2
    have m2' := hs1 _ m2
    have m8' := hs1 _ m8
    have mr' := hs1 _ mr
    have mn' := hs1 _ mn
    by_cases hj33 : j < 3
    · obtain ⟨r3, hr3⟩ : ∃ r, 3 - j = r + 1 := ex_sub (by with_reducible assumption)
      rw [hr3] at N
      (revert nn2 j h' tk' m₂ ys ts oC dn ti U r3; tm_at "nmx10"; refine fun nn2 j h' tk' m₂ ys ts oC dn ti => ?_; k_extra "kf"; tm_at "nmx1"; refine fun U => ?_; k_extra "kf"; tm_at "nmx1"; refine fun r3 => ?_; k_extra "kw")
      refine rg_nextA F N ?_ ?_
      · (dsimp only [List.map]); k_extra "gs_offA"
      (tm_at "nmx3"; refine fun t3 h'' tk'' => ?_)
      intro F' N'
      clear F N
      dsimp only
      refine assignC F' N' hC (by k_updF) ?_
      (tm_at "nmx4"; refine fun h4 oC' m₃ tk4 => ?_)
      intro F3 N3 hC3 hkj hz
      have hk3 : (m₃ : Str → Option Value) (Str.ofString "k") = some (.int ((i : Nat) : Int) ti) := by rw [hz _ (by decide)]; exact hk
      clear F' N' hC hz hk m₂
      refine noIfs ?_
      simp only [if_true]
      obtain ⟨x, hx⟩ : ∃ x, (P.Vn i)[(j : Nat)]? = some x := ⟨_, List.getElem?_eq_getElem (by rw [O.v3]; exact hj33)⟩
      (revert x; tm_at "nmx1"; refine fun x => ?_; k_extra "kw")
      have xN : [Str.ofString "a", Str.ofString "B c", Str.ofString "\"", Str.ofString "\\", Str.ofString "#"][((i : Nat) : Int).toNat]? = some (nm i) := nm_at i h5
      have xW : (wTo P 5)[(4 * ((i : Nat) : Int) + (1 + ((j : Nat) : Int))).toNat]? = some (caseN (P.cs i) x) := wTo_get O h5 hx
      have ly : (ys : List Value).length ≤ 1000 := by
        have h1 := kvTo_len O i
        have h2 := kvRow_len O i
        rw [hT.len.1, List.length_append, List.length_take, h1, h2]; omega
      k_steps
      (rename Fr _ _ _ _ => F4)
      (rename News _ _ _ _ => N4)
      simp only [List.push_toArray] at N4
      obtain ⟨tp, tk1, tk2⟩ := nm_tp N4
      have oTp : FarT [I2, I1, C, D] [(tp, tupO #[.str (nm i) tk1, .str (caseN (P.cs i) x) tk2])] := farT_cons (offT_tup (by omega) offT_e) (farT_cons (offT_tup (by omega) offT_e) (farT_cons (offT_tup (by omega) offT_e) (farT_cons (offT_tup (by omega) offT_e) farT_nil)))
      refine ⟨nn2 - 1, by omega, j + 1, _, _, m₃, (ys : List Value) ++ [.ref tp], (ts : List (Addr × Obj)) ++ [((tp : Addr), tupO #[.str (nm i) tk1, .str (caseN (P.cs i) x) tk2])], oC', dn + 1, ti, rfl, F4, News.sub' N4 ?_, hC3, hk3, ?_, ?_, apT_snoc aT (by k_extra "gs_ot") hs1, by omega, by omega⟩
      · rw [show 3 - (j + 1) = r3 by omega, show ((1 : Int) + ((j + 1 : Nat) : Int)) = 1 + ((j : Nat) : Int) + 1 by omega, List.append_assoc]
        rw [hU]
        refine Sub.cons (by k_mem) (Sub.cons (by k_mem) (Sub.cons (by k_mem) (Sub.cons (by k_mem) ?_)))
        exact sub_tup
      · rw [kvRow_take hx, ← List.append_assoc]
        exact .snoc hT
      · exact tail_two oT oTp
    · obtain rfl : j = 3 := by omega
      (revert nn2 h' tk' m₂ ys ts oC dn ti U; tm_at "nmx9"; refine fun nn2 h' tk' m₂ ys ts oC dn ti => ?_; k_extra "kf"; tm_at "nmx1"; refine fun U => ?_; k_extra "kw")
      refine rg_doneA (by assumption) F N ?_ ?_
      · (dsimp only [List.map]); k_extra "gs_offA"
      (tm_at "nmx1"; refine fun h'' => ?_)
      intro F' N'
      clear F N
      dsimp only
      refine ⟨n - 1, by omega, i + 1, _, _, m₂, ys, ts, oC, dn, rfl, F', News.sub' N' ?_, hC, ?_, farT_sub oT ?_ Sub.rfl', aT, by omega, by omega⟩
      · rw [show 5 - (i + 1) = r by omega, show ((i + 1 : Nat) : Int) = ((i : Nat) : Int) + 1 by omega, ← hU]; k_extra "gs_sub"
      · rw [show (kvRow P i).take 3 = kvRow P i from List.take_of_length_le (Nat.le_of_eq (kvRow_len O i))] at hT; exact hT
      · k_extra "gs_sub"
  · obtain rfl : i = 5 := by omega
    (revert n h' tk' m₂ ys ts oC dn U; tm_at "nmx8"; refine fun n h' tk' m₂ ys ts oC dn => ?_; k_extra "kf"; tm_at "nmx1"; refine fun U => ?_; k_extra "kw")
    refine rg_doneA (by assumption) F N ?_ ?_
    · (dsimp only [List.map]); k_extra "gs_offA"
    (tm_at "nmx1"; refine fun h'' => ?_)
    intro F' N'
    clear F N
    dsimp only
    refine hfin oC m₂ ys dn U h'' _ hC F' (News.sub' N' (by k_extra "gs_sub")) ?_ ?_
    · k_extra "gs_offA"
    · (tm_at "nmx1"; refine fun h3 => ?_)
      intro F3 N3
      clear F' N' hfin
      have hT' : TupsN ts ys (kvTo P 5) := hT
      have hgood := kvTo_good O 5 (Nat.le_refl _)
      have hlen : (ys : List Value).length ≤ 1000 := by rw [hT'.len.1, kvTo_len O]; decide
      k_steps
      (rename Fr _ _ _ _ => F5)
      (rename News _ _ _ _ => N5)
      obtain ⟨x, d, tt⟩ := nm_hd N5
      have oX : FarT [x, d, D] U := by
        refine farT_cons ?_ (farT_cons ?_ (farT_cons ?_ farT_nil))
        · k_extra "gs_ot"
        · k_extra "gs_ot"
        · k_extra "gs_ot"
      refine h _ _ x d D tt dn ys ts _ F5 ?_ hT' (farT_sub oX Sub.rfl' hs2) (farT_sub oX Sub.rfl' hs1) aT ⟨by omega, by omega, by omega⟩ (by rw [← hU]; exact N5)
      intro p hp
      rcases List.mem_cons.mp hp with rfl | hp
      · exact if_pos rfl
      · exact (if_neg (hfs p hp)).trans (hm p hp)
theorem zeq : (w, A, base, g, fr, mg, mb, p, loose, mean, s, L, fa, cd, m, Q, E, rest, P, rD, nD, rv, nv, rn, nn, c2, c8, st, fs) = Z := by with_unfolding_all rfl
end Cseg_f
set_option maxHeartbeats 4000000 in
theorem seg_f {w : World} {A : Around} {base g : Heap} {fr : List Env} {mg mb : Str → Option Value} {p : Program} {loose : List Str} {mean : ExcName → Option Value} {s : Shared} {L fa : Addr} {cd : Value} {m : Str → Option Value} {Q : Flow → Shared → Prop} {E : Value → Shared → Prop} {rest : List Stmt} {P : Par} {rD nD : Addr} {rv nv : List Value} {rn nn : Nat} {c2 c8 : Obj} {st : List (Addr × Obj)} {fs : List (Str × Value)} : Cseg_f.Sta w A base g fr mg mb p loose mean s L fa cd m Q E rest P rD nD rv nv rn nn c2 c8 st fs :=
  hilb Cseg_f.P0 Cseg_f.Z rfl (Eq.subst (motive := Cseg_f.P0) Cseg_f.zeq Cseg_f.key) (w, A, base, g, fr, mg, mb, p, loose, mean, s, L, fa, cd, m, Q, E, rest, P, rD, nD, rv, nv, rn, nn, c2, c8, st, fs)
section
end
end Mine

namespace Mine
theorem wOf_okC {P : Par} (O : ParOk P) {k : Nat} (hk : k < 5) : ∀ x ∈ wOf P k, (∀ c ∈ x.cps.toList, okC c = true) ∧ x.cps.toList ≠ [] := by
  intro x hx
  rcases List.mem_cons.mp hx with rfl | hx
  · exact pad_okC k hk _ (O.ab k).1 _ (O.ab k).2
  · obtain ⟨y, hy, rfl⟩ := List.mem_map.mp hx
    exact case_okC _ y (O.v5 k y hy)
theorem wOf_at_okC {P : Par} (O : ParOk P) {k j : Nat} (hk : k < 5) (hj : j < 4) : (∀ c ∈ ((wOf P k).getD j E0).cps.toList, okC c = true) ∧ ((wOf P k).getD j E0).cps.toList ≠ [] := by
  refine wOf_okC O hk _ ?_
  rw [List.getD_eq_getElem?_getD, List.getElem?_eq_getElem (by rw [wOf_len O]; exact hj)]
  exact List.getElem_mem _
/-- what is left of the text, i words from its end -/
noncomputable def sfx (P : Par) : Nat → List Str
  | 0 => [Str.ofString "."]
  | n + 1 => chs (pc P ((19 - n) / 4) ((19 - n) % 4)) ++ sfx P n
noncomputable def whI (i : Nat) : Str := whN (i / 4 + i % 4)
noncomputable def lnW : Nat → Int
  | 0 => 1
  | i + 1 => bump (whI i) (lnW i)
noncomputable def ldW (P : Par) : Nat → List Str
  | 0 => []
  | i + 1 => if P.bs (i / 4) = true then [] else [whI i]
noncomputable def remOf (P : Par) (i : Nat) : List Str := ldW P i ++ sfx P (20 - i)
noncomputable def linOf (P : Par) : Nat → Int
  | 0 => 1
  | i + 1 => if P.bs (i / 4) = true then lnW (i + 1) else lnW i
theorem dot_end : lexT [Str.ofString "."] 6 = some (Str.ofString ".", [], 6) := by decide +kernel
theorem lnW_end : lnW 20 = 6 := by decide +kernel
theorem chs_one : ∀ (x : Str), ∀ c ∈ chs x, c.length = 1 := fun x c hc => by
  obtain ⟨n, _, rfl⟩ := List.mem_map.mp hc; rfl
theorem sfx_one (P : Par) : ∀ n, ∀ c ∈ sfx P n, c.length = 1
  | 0, c, h => by rw [List.mem_singleton.mp h]; rfl
  | n + 1, c, h => (List.mem_append.mp h).elim (chs_one _ c) (sfx_one P n c)
theorem sfx_len {P : Par} (O : ParOk P) : ∀ n ≤ 20, (sfx P n).length ≤ 30 * n + 1
  | 0, _ => Nat.le_refl _
  | n + 1, h => by
    have h1 := sfx_len O n (by omega)
    have h2 := pc_len O (k := (19 - n) / 4) (j := (19 - n) % 4) (by omega) (by omega)
    unfold sfx
    rw [List.length_append, chs_length]
    omega
theorem lexT_ld (P : Par) (i : Nat) (r : List Str) : lexT (ldW P i ++ r) (linOf P i) = lexT r (lnW i) := by
  cases i with
  | zero => rfl
  | succ i =>
    show lexT ((if P.bs (i / 4) = true then [] else [whI i]) ++ r) (if P.bs (i / 4) = true then lnW (i + 1) else lnW i) = _
    by_cases h : P.bs (i / 4) = true
    · rw [if_pos h, if_pos h]; rfl
    · rw [if_neg h, if_neg h]
      exact lexT_white _ r _
theorem tTo_sfx (P : Par) : chs (tTo P 5 ++ Str.ofString ".") = sfx P 20 := by
  have e0 : chs (Str.ofString ".") = [Str.ofString "."] := rfl
  have e1 : chs (Str.ofString "") = [] := rfl
  simp only [tTo, tRow, sfx, chs_app, e0, e1, List.append_assoc, List.nil_append, Nat.reduceSub, Nat.reduceDiv, Nat.reduceMod]
theorem readOk {P : Par} (O : ParOk P) : ReadOk P (remOf P) (linOf P) where
  r0 := (tTo_sfx P).symm
  l0 := rfl
  one := fun i c hc => by
    rcases List.mem_append.mp hc with h | h
    · cases i with
      | zero => cases h
      | succ i =>
        replace h : c ∈ (if P.bs (i / 4) = true then [] else [whI i]) := h
        split at h
        · cases h
        · rw [List.mem_singleton.mp h]; exact whN_len _
    · exact sfx_one P _ c h
  len := fun i => by
    have h1 := sfx_len O (20 - i) (by omega)
    have h2 : (ldW P i).length ≤ 1 := by
      cases i with
      | zero => exact Nat.zero_le _
      | succ i =>
        show (if P.bs (i / 4) = true then [] else [whI i]).length ≤ 1
        split
        · exact Nat.zero_le _
        · exact Nat.le_refl _
    unfold remOf
    rw [List.length_append]; omega
  step := fun i hi => by
    have hk : i / 4 < 5 := by omega
    have hj : i % 4 < 4 := Nat.mod_lt _ (by decide)
    refine ⟨(wOf P (i / 4)).getD (i % 4) E0, ?_, ?_⟩
    · have h := wTo_pre O (k := i / 4) (j := i % 4) hj (4 - i / 4)
      rw [show i / 4 + 1 + (4 - i / 4) = 5 by omega, show 4 * (i / 4) + i % 4 = i by omega] at h
      exact h
    · unfold remOf
      have e : sfx P (19 - i + 1) = chs (pc P (i / 4) (i % 4)) ++ sfx P (19 - i) := by
        show chs (pc P ((19 - (19 - i)) / 4) ((19 - (19 - i)) % 4)) ++ _ = _
        rw [show 19 - (19 - i) = i by omega]
      rw [lexT_ld, show 20 - i = (19 - i) + 1 by omega, e]
      have ok := wOf_at_okC O hk hj
      have h := lexT_word (b := P.bs (i / 4)) ok.1 ok.2 (i / 4 + i % 4) (sfx P (19 - i)) (lnW i)
      rw [show 20 - (i + 1) = 19 - i by omega]
      exact h
  dot := by
    unfold remOf
    rw [lexT_ld, lnW_end]
    exact dot_end
end Mine

namespace Mine
open PySem.Calls
theorem kst_at {m : Str → Option Value} {ps all : List (Str × Value)} (hps : ∀ p ∈ ps, m p.1 = some p.2) (hall : ∀ p ∈ all, m p.1 = some p.2) : ∀ p ∈ all, kstB m ps p.1 = some p.2 := fun p hp => (kstB_eq hps fun _ => rfl).trans (hall p hp)
theorem kst_new {m : Str → Option Value} {ps all : List (Str × Value)} {y : Str} {v : Value} (hps : ∀ p ∈ ps, m p.1 = some p.2) (hall : ∀ p ∈ all, m p.1 = some p.2) (hne : ∀ p ∈ all, p.1 ≠ y) : ∀ p ∈ (y, v) :: all, (fun z => if z = y then some v else kstB m ps z) p.1 = some p.2 := fun p hp => by
  rcases List.mem_cons.mp hp with rfl | hp
  · exact if_pos rfl
  · exact (if_neg (hne p hp)).trans (kst_at hps hall p hp)
theorem ne_told : Str.ofString "told" ≠ Str.ofString "least" := by decide
theorem ne_need : Str.ofString "need" ≠ Str.ofString "least" := by decide
theorem nm_1 {g h : Heap} {L a : Addr} {o : Obj} {r : List (Addr × Obj)} (N : News g L h ((a, o) :: r)) : ∃ a', a' = a := ⟨_, rfl⟩
theorem offT_ex {a : Addr} {o : Obj} {st : List (Addr × Obj)} (X : ∀ p ∈ [(a, o)], ∀ q ∈ st, p.1 ≠ q.1) : OffT a st := fun q hq => X _ List.mem_cons_self q hq
theorem ex_one {a : Addr} {o : Obj} {st : List (Addr × Obj)} (h : ∀ q ∈ st, q.1 ≠ a) : ∀ p ∈ [(a, o)], ∀ q ∈ st, p.1 ≠ q.1 := fun p hp q hq => by
  rw [List.mem_singleton.mp hp]; exact Ne.symm (h q hq)
theorem row120 : True := by
  k_with "k_enter" => ((with_reducible show codeAny _ _ (Code.call (Value.ref 249) _) _ _); (refine' GS.callS (own := toldNews _ ++ [(_, W.listOf (List.toArray _) _)]) ?kBr120 ?kFr120 ?kXr120 ?kNr120 ?kTr120 ?kAr120 ?kfr120 ?kkr120 ?kor120 (fun ggq9 gBq9 gXq9 gTq9 gGq9 gKq9 gBackq9 => least_c gBq9 gXq9 gTq9 gGq9 ?i1r120 ?i2r120 ?i3r120 ?i4r120 ?i5r120 ?i6r120 ?i7r120 ?_); (case kBr120 => assumption); (case kFr120 => assumption); (case kXr120 => assumption); (case kNr120 => assumption); (case kTr120 => assumption); (case kAr120 => keq_hits); (case kfr120 => exact rfl); (case kkr120 => exact rfl); (case kor120 => assumption); (case i1r120 => assumption); (case i2r120 => assumption); (case i3r120 => assumption); (case i4r120 => k_room); (case i5r120 => (try simp only [units_under_make, Around.deeper_units]); omega); (case i6r120 => assumption); (case i7r120 => assumption); (revert ggq9; ((first | tm_at "clo1" | refine fun ggq9 => ?_); refine fun gBq9 => ?_; refine fun gXq9 => ?_; refine fun gTq9 => ?_; refine fun gGq9 => ?_; refine fun gKq9 => ?_; refine fun gBackq9 => ?_); ((first | tm_at "clo1" | refine fun D'q9 => ?_); (first | tm_at "clo1" | refine fun zs'q9 => ?_); (first | tm_at "clo1" | refine fun tk'q9 => ?_); (first | tm_at "clo1" | refine fun h'q9 => ?_); (first | tm_at "clo1" | refine fun hz'q9 => ?_); (first | tm_at "clo1" | refine fun hX'q9 => ?_); refine fun gG'q9 => ?_); (obtain ⟨F'q9, N'q9, X'q9⟩ := gBackq9 _ [(_, _)] gG'q9 (ex_one hX'q9)); (clear gBq9 gXq9 gTq9 gGq9 gKq9 gBackq9 gG'q9); (replace X'q9 := offT_ex X'q9); (try simp only [List.cons_append, List.nil_append] at N'q9); (try dsimp only))))
  trivial
section
variable {w : World} {A : Around} {base g : Heap} {fr : List Env} {mg mb : Str → Option Value} {p : Program} {loose : List Str} {mean : ExcName → Option Value} {s : Shared} {L fa : Addr} {cd : Value} {m : Str → Option Value} {Q : Flow → Shared → Prop} {E : Value → Shared → Prop} {rest : List Stmt}
  (B : Below A base fr g) (X : Frag.In (hd.heap_39 w.params) g) (T : Top p loose mean mg mb g)
include B X T
end
namespace Cseg_g
noncomputable def Sta (w : World) (A : Around) (base g : Heap) (fr : List Env) (mg mb : Str → Option Value) (p : Program) (loose : List Str) (mean : ExcName → Option Value) (s : Shared) (L fa : Addr) (cd : Value) (m : Str → Option Value) (Q : Flow → Shared → Prop) (E : Value → Shared → Prop) (rest : List Stmt) (q : ToldP) (V : Nat → List Int) (nd : Addr) (ndv : List Value) (need : List Int) (nn : Nat) (U : List (Addr × Obj)) (fs : List (Str × Value)) : Prop := ∀ (B : Below A base fr g) (X : Frag.In (hd.heap_39 w.params) g) (T : Top p loose mean mg mb g) (hE : PassesOwn (model Challenge.rw_st0024_01.row.prog w) (A.deeper (lawEnv L fa cd)) (lawEnv L fa cd) E) (hh : A.handled = none) (hroom : A.depth + 60 < recursionLimit) (hu : A.units + 600 < cLine) (C : CodeHd base 228 224) (I : ToldF q V) (hi : IntsAre ndv need) (hz : need.length = 5) (hU : Sub (toldNews q ++ [(nd, W.listOf ndv.toArray nn)]) U) (F0 : Fr g L s.heap m) (hm : ∀ p ∈ (Str.ofString "told", Value.ref q.tl) :: (Str.ofString "need", Value.ref nd) :: fs, m p.1 = some p.2) (hfs : ∀ p ∈ fs, p.1 ≠ Str.ofString "least") (N : News g L s.heap U) (h : ∀ h' tk D (zs : List Value) m', Fr g L h' m' → (∀ p ∈ (Str.ofString "least", Value.ref D) :: (Str.ofString "told", Value.ref q.tl) :: (Str.ofString "need", Value.ref nd) :: fs, m' p.1 = some p.2) → IntsAre zs (castL (bitsTo (least1 V need 32) 5)) → OffT D U →
    News g L h' ((D, W.listOf zs.toArray zs.length) :: U) →
    wpAny (model Challenge.rw_st0024_01.row.prog w) (A.deeper (lawEnv L fa cd)) (execs rest (lawEnv L fa cd)) Q E { s with heap := h', toks := tk }), wpAny (model Challenge.rw_st0024_01.row.prog w) (A.deeper (lawEnv L fa cd)) (execs (st14s.1 :: rest) (lawEnv L fa cd)) Q E s
noncomputable def P0 (z : World × Around × Heap × Heap × (List Env) × (Str → Option Value) × (Str → Option Value) × Program × (List Str) × (ExcName → Option Value) × Shared × Addr × Addr × Value × (Str → Option Value) × (Flow → Shared → Prop) × (Value → Shared → Prop) × (List Stmt) × ToldP × (Nat → List Int) × Addr × (List Value) × (List Int) × Nat × (List (Addr × Obj)) × (List (Str × Value))) : Prop := Sta (z.1) (z.2.1) (z.2.2.1) (z.2.2.2.1) (z.2.2.2.2.1) (z.2.2.2.2.2.1) (z.2.2.2.2.2.2.1) (z.2.2.2.2.2.2.2.1) (z.2.2.2.2.2.2.2.2.1) (z.2.2.2.2.2.2.2.2.2.1) (z.2.2.2.2.2.2.2.2.2.2.1) (z.2.2.2.2.2.2.2.2.2.2.2.1) (z.2.2.2.2.2.2.2.2.2.2.2.2.1) (z.2.2.2.2.2.2.2.2.2.2.2.2.2.1) (z.2.2.2.2.2.2.2.2.2.2.2.2.2.2.1) (z.2.2.2.2.2.2.2.2.2.2.2.2.2.2.2.1) (z.2.2.2.2.2.2.2.2.2.2.2.2.2.2.2.2.1) (z.2.2.2.2.2.2.2.2.2.2.2.2.2.2.2.2.2.1) (z.2.2.2.2.2.2.2.2.2.2.2.2.2.2.2.2.2.2.1) (z.2.2.2.2.2.2.2.2.2.2.2.2.2.2.2.2.2.2.2.1) (z.2.2.2.2.2.2.2.2.2.2.2.2.2.2.2.2.2.2.2.2.1) (z.2.2.2.2.2.2.2.2.2.2.2.2.2.2.2.2.2.2.2.2.2.1) (z.2.2.2.2.2.2.2.2.2.2.2.2.2.2.2.2.2.2.2.2.2.2.1) (z.2.2.2.2.2.2.2.2.2.2.2.2.2.2.2.2.2.2.2.2.2.2.2.1) (z.2.2.2.2.2.2.2.2.2.2.2.2.2.2.2.2.2.2.2.2.2.2.2.2.1) (z.2.2.2.2.2.2.2.2.2.2.2.2.2.2.2.2.2.2.2.2.2.2.2.2.2)
noncomputable def Z := @Classical.epsilon _ ⟨(w00, A00, default, default, [], (fun _ => none), (fun _ => none), default, [], (fun _ => none), s00, 0, 0, .none, (fun _ => none), (fun _ _ => True), (fun _ _ => True), [], told00, (fun _ => []), 0, [], [], 0, [], [])⟩ fun z => ¬ P0 z
@[irreducible] noncomputable def w := Z.1
@[irreducible] noncomputable def A := Z.2.1
@[irreducible] noncomputable def base := Z.2.2.1
@[irreducible] noncomputable def g := Z.2.2.2.1
@[irreducible] noncomputable def fr := Z.2.2.2.2.1
@[irreducible] noncomputable def mg := Z.2.2.2.2.2.1
@[irreducible] noncomputable def mb := Z.2.2.2.2.2.2.1
@[irreducible] noncomputable def p := Z.2.2.2.2.2.2.2.1
@[irreducible] noncomputable def loose := Z.2.2.2.2.2.2.2.2.1
@[irreducible] noncomputable def mean := Z.2.2.2.2.2.2.2.2.2.1
@[irreducible] noncomputable def s := Z.2.2.2.2.2.2.2.2.2.2.1
@[irreducible] noncomputable def L := Z.2.2.2.2.2.2.2.2.2.2.2.1
@[irreducible] noncomputable def fa := Z.2.2.2.2.2.2.2.2.2.2.2.2.1
@[irreducible] noncomputable def cd := Z.2.2.2.2.2.2.2.2.2.2.2.2.2.1
@[irreducible] noncomputable def m := Z.2.2.2.2.2.2.2.2.2.2.2.2.2.2.1
@[irreducible] noncomputable def Q := Z.2.2.2.2.2.2.2.2.2.2.2.2.2.2.2.1
@[irreducible] noncomputable def E := Z.2.2.2.2.2.2.2.2.2.2.2.2.2.2.2.2.1
@[irreducible] noncomputable def rest := Z.2.2.2.2.2.2.2.2.2.2.2.2.2.2.2.2.2.1
@[irreducible] noncomputable def q := Z.2.2.2.2.2.2.2.2.2.2.2.2.2.2.2.2.2.2.1
@[irreducible] noncomputable def V := Z.2.2.2.2.2.2.2.2.2.2.2.2.2.2.2.2.2.2.2.1
@[irreducible] noncomputable def nd := Z.2.2.2.2.2.2.2.2.2.2.2.2.2.2.2.2.2.2.2.2.1
@[irreducible] noncomputable def ndv := Z.2.2.2.2.2.2.2.2.2.2.2.2.2.2.2.2.2.2.2.2.2.1
@[irreducible] noncomputable def need := Z.2.2.2.2.2.2.2.2.2.2.2.2.2.2.2.2.2.2.2.2.2.2.1
@[irreducible] noncomputable def nn := Z.2.2.2.2.2.2.2.2.2.2.2.2.2.2.2.2.2.2.2.2.2.2.2.1
@[irreducible] noncomputable def U := Z.2.2.2.2.2.2.2.2.2.2.2.2.2.2.2.2.2.2.2.2.2.2.2.2.1
@[irreducible] noncomputable def fs := Z.2.2.2.2.2.2.2.2.2.2.2.2.2.2.2.2.2.2.2.2.2.2.2.2.2
set_option maxHeartbeats 4000000 in
theorem key : Sta w A base g fr mg mb p loose mean s L fa cd m Q E rest q V nd ndv need nn U fs := fun B X T hE hh hroom hu C I hi hz hU F0 hm hfs N h => by
  revert X; k_fill; intro X
  have F1 := Fr.expose [(Str.ofString "told", Value.ref q.tl), (Str.ofString "need", Value.ref nd)] F0 (all2 (hm _ List.mem_cons_self) (hm _ (List.mem_cons_of_mem _ List.mem_cons_self)))
  dsimp only [kstB] at F1
  clear F0
  dsimp only
  k_steps
  (rename Fr _ _ _ _ => F2)
  (rename News _ _ _ _ => N2)
  (rename OffT _ _ => o2)
  refine h _ _ _ _ _ F2 (kst_new (all2 (hm _ List.mem_cons_self) (hm _ (List.mem_cons_of_mem _ List.mem_cons_self))) hm ?_) (by assumption) o2 N2
  intro p hp
  rcases List.mem_cons.mp hp with rfl | hp
  · exact ne_told
  · rcases List.mem_cons.mp hp with rfl | hp
    · exact ne_need
    · exact hfs p hp
theorem zeq : (w, A, base, g, fr, mg, mb, p, loose, mean, s, L, fa, cd, m, Q, E, rest, q, V, nd, ndv, need, nn, U, fs) = Z := by with_unfolding_all rfl
end Cseg_g
set_option maxHeartbeats 4000000 in
theorem seg_g {w : World} {A : Around} {base g : Heap} {fr : List Env} {mg mb : Str → Option Value} {p : Program} {loose : List Str} {mean : ExcName → Option Value} {s : Shared} {L fa : Addr} {cd : Value} {m : Str → Option Value} {Q : Flow → Shared → Prop} {E : Value → Shared → Prop} {rest : List Stmt} {q : ToldP} {V : Nat → List Int} {nd : Addr} {ndv : List Value} {need : List Int} {nn : Nat} {U : List (Addr × Obj)} {fs : List (Str × Value)} : Cseg_g.Sta w A base g fr mg mb p loose mean s L fa cd m Q E rest q V nd ndv need nn U fs :=
  hilb Cseg_g.P0 Cseg_g.Z rfl (Eq.subst (motive := Cseg_g.P0) Cseg_g.zeq Cseg_g.key) (w, A, base, g, fr, mg, mb, p, loose, mean, s, L, fa, cd, m, Q, E, rest, q, V, nd, ndv, need, nn, U, fs)
section
end
end Mine

namespace Mine
theorem allV_app (lw : Str) : ∀ a b : List (Str × Str), allV lw (a ++ b) = allV lw a ++ allV lw b
  | [], b => rfl
  | (k, v) :: a, b => by
    show (if Txt.lower k = lw then v :: allV lw (a ++ b) else allV lw (a ++ b)) = (if Txt.lower k = lw then v :: allV lw a else allV lw a) ++ allV lw b
    rw [allV_app lw a b]
    split <;> rfl
theorem allV_row {lw k : Str} (h : Txt.lower k = lw) : ∀ (l : List Nat) (f : Nat → Str), allV lw (l.map fun y => (k, f y)) = l.map f
  | [], _ => rfl
  | y :: l, f => by
    show allV lw ((k, f y) :: l.map fun y => (k, f y)) = _
    unfold allV
    rw [if_pos h, allV_row h l f]; rfl
theorem allV_row' {lw k : Str} (h : Txt.lower k ≠ lw) : ∀ (l : List Nat) (f : Nat → Str), allV lw (l.map fun y => (k, f y)) = []
  | [], _ => rfl
  | y :: l, f => by
    show allV lw ((k, f y) :: l.map fun y => (k, f y)) = _
    unfold allV
    rw [if_neg h, allV_row' h l f]
theorem allV_kv (P : Par) {k : Nat} (hk : k < 5) : ∀ n ≤ 5, allV (lwN k) (kvTo P n) = if k < n then (P.Vn k).map (caseN (P.cs k)) else []
  | 0, _ => by rw [if_neg (Nat.not_lt_zero _)]; rfl
  | n + 1, hn => by
    unfold kvTo
    rw [allV_app, allV_kv P hk n (by omega)]
    unfold kvRow
    by_cases e : n = k
    · subst e
      rw [allV_row (show Txt.lower (nm n) = lwN n from rfl), if_neg (Nat.lt_irrefl _), if_pos (Nat.lt_succ_self _)]; rfl
    · have hne : Txt.lower (nm n) ≠ lwN k := fun h => e (lwN_inj n (by omega) k hk h)
      rw [allV_row' hne, List.append_nil]
      by_cases h : k < n
      · rw [if_pos h, if_pos (by omega)]
      · rw [if_neg h, if_neg (by omega)]
theorem allV_kv5 (P : Par) {k : Nat} (hk : k < 5) : allV (lwN k) (kvTo P 5) = (P.Vn k).map (caseN (P.cs k)) := by rw [allV_kv P hk 5 (Nat.le_refl _), if_pos hk]
theorem case_low (b : Bool) : ∀ x < 5, Txt.lower (caseN b x) = lwN x := by cases b <;> decide +kernel
theorem join_chars : ∀ l : List Str, (Str.join (Str.ofString "") l).cps.toList = l.flatMap (·.cps.toList)
  | [] => rfl
  | [x] => by rw [join_one]; simp
  | x :: y :: r => by
    rw [join_cons_cons]
    show ((x.cps ++ #[]) ++ (Str.join (Str.ofString "") (y :: r)).cps).toList = _
    rw [Array.toList_append, Array.toList_append, join_chars (y :: r)]
    simp
theorem told_kv {P : Par} (O : ParOk P) {k : Nat} (hk : k < 5) : Told (kvTo P 5) P.Vn k := by
  have h5 := O.v5 k
  have h3 := O.v3 k
  unfold Told
  rw [allV_kv5 P hk]
  have hl : ∀ o ∈ (P.Vn k).map (caseN (P.cs k)), o.length ≤ 3 := fun o ho => by
    obtain ⟨y, hy, rfl⟩ := List.mem_map.mp ho
    exact caseN_len _ y (h5 y hy)
  refine ⟨?_, ?_, fun o ho => Nat.le_trans (hl o ho) (by decide), ?_⟩
  · rw [eq_of_beq (join_plain_closes (Str.ofString "") _), join_chars]
    intro c hc
    obtain ⟨o, ho, hc⟩ := List.mem_flatMap.mp hc
    obtain ⟨y, hy, rfl⟩ := List.mem_map.mp ho
    exact (case_good _ y (h5 y hy)).1 c hc
  · obtain ⟨a, b, c, e⟩ : ∃ a b c, P.Vn k = [a, b, c] := by
      match h : P.Vn k, h3 with
      | [a, b, c], _ => exact ⟨a, b, c, rfl⟩
    rw [e] at hl ⊢
    have ha := hl (caseN (P.cs k) a) (by simp)
    have hb := hl (caseN (P.cs k) b) (by simp)
    have hc := hl (caseN (P.cs k) c) (by simp)
    simp only [List.map_cons, List.map_nil, List.sum_cons, List.sum_nil, List.length_cons, List.length_nil]
    omega
  · rw [List.map_map]
    exact List.map_congr_left fun y hy => case_low _ y (h5 y hy)
theorem kv_keys {P : Par} : ∀ n ≤ 5, ∀ p ∈ kvTo P n, p.1.length ≤ 1000
  | 0, _, _, h => nomatch h
  | n + 1, hn, p, h => by
    rcases List.mem_append.mp h with h | h
    · exact kv_keys n (by omega) p h
    · obtain ⟨y, hy, rfl⟩ := List.mem_map.mp h
      have := (swN_len n (by omega)).2
      show (nm n).length ≤ 1000
      omega
/-- the words of one, out of all -/
theorem words_of {P : Par} (O : ParOk P) {k : Nat} (hk : k < 5) : ((wTo P 5).drop (4 * k + 1)).take 3 = (P.Vn k).map (caseN (P.cs k)) := by
  refine List.ext_getElem? fun j => ?_
  rw [List.getElem?_take]
  by_cases hj : j < 3
  · rw [if_pos hj, List.getElem?_drop, List.getElem?_map]
    obtain ⟨x, hx⟩ : ∃ x, (P.Vn k)[j]? = some x := ⟨_, List.getElem?_eq_getElem (by rw [O.v3]; exact hj)⟩
    have h := wTo_get O hk hx
    rw [show (4 * (k : Int) + (1 + (j : Int))).toNat = 4 * k + 1 + j by omega] at h
    rw [h, hx]; rfl
  · rw [if_neg hj]
    exact (List.getElem?_eq_none (by rw [List.length_map, O.v3]; omega)).symm
end Mine

namespace Mine
noncomputable def ordB0 : List Stmt := forB lawB0 15
noncomputable def ob0 (n : Nat) : Stmt := stAt ordB0 n
@[reducible] noncomputable def ob0s : { x : Stmt // ob0 0 = x } := by
  refine ⟨?x, ?h⟩
  case h =>
    conv => lhs; whnf
@[reducible] noncomputable def ob1s : { x : Stmt // ob0 1 = x } := by
  refine ⟨?x, ?h⟩
  case h =>
    conv => lhs; whnf
@[reducible] noncomputable def ob2s : { x : Stmt // ob0 2 = x } := by
  refine ⟨?x, ?h⟩
  case h =>
    conv => lhs; whnf
@[reducible] noncomputable def ob3s : { x : Stmt // ob0 3 = x } := by
  refine ⟨?x, ?h⟩
  case h =>
    conv => lhs; whnf
@[reducible] noncomputable def ob4s : { x : Stmt // ob0 4 = x } := by
  refine ⟨?x, ?h⟩
  case h =>
    conv => lhs; whnf
@[reducible] noncomputable def ob5s : { x : Stmt // ob0 5 = x } := by
  refine ⟨?x, ?h⟩
  case h =>
    conv => lhs; whnf
@[reducible] noncomputable def ob6s : { x : Stmt // ob0 6 = x } := by
  refine ⟨?x, ?h⟩
  case h =>
    conv => lhs; whnf
@[reducible] noncomputable def ob7s : { x : Stmt // ob0 7 = x } := by
  refine ⟨?x, ?h⟩
  case h =>
    conv => lhs; whnf
@[reducible] noncomputable def ob8s : { x : Stmt // ob0 8 = x } := by
  refine ⟨?x, ?h⟩
  case h =>
    conv => lhs; whnf
end Mine

namespace Mine
open PySem.Spec PySem.Calls
section
variable {prog : Program} {w : World} {A : Around} {E : Value → Shared → Prop} {R : Result → Shared → Prop} {s : Shared}
variable {h₀ : Heap} {L : Addr} {m : Str → Option Value} {env : Env} {cl : List (Str × Addr)} {news : List (Addr × Obj)}
/-- the end of the outer loop -/
noncomputable def C2FinA (h₀ : Heap) (L : Addr) (m : Str → Option Value) (C D : Addr) (y : Str) (Q : Flow → Shared → Prop) (R : Result → Shared → Prop) (s₂ : Shared) : Prop :=
  ∀ oC' m' (ys : List Value) n news' h' tk', LCg.NsObj oC' m' → Fr h₀ L h' m → News h₀ L h' ((C, oC') :: (D, W.listOf ys.toArray n) :: news') → OffA C (D :: news'.map (·.1)) →
    (∀ h'' tk'', Fr h₀ L h'' (fun z => if z = y then some (.ref D) else m z) → News h₀ L h'' ((D, W.listOf ys.toArray n) :: news') → Q .next { s₂ with heap := h'', toks := tk'' }) → R (.ok .next) { s₂ with heap := h', toks := tk' }
noncomputable def C2PreA (prog : Program) (w : World) (A : Around) (h₀ : Heap) (L : Addr) (env : Env) (elt t1 i1 t2 i2 : PySem.Expr) (ifs : List PySem.Expr) (scope : Scope) (pos : Pos) (cl : List (Str × Addr)) (y : Str) (Q : Flow → Shared → Prop) (it : Value) (s₂ : Shared) : Prop :=
  ∃ I oI m news, it = .ref I ∧ Fr h₀ L s₂.heap m ∧ News h₀ L s₂.heap ((I, oI) :: news) ∧ IterSelf prog w A I oI ∧ ∀ C D oC m₂ h tk R, C2FinA h₀ L m C D y Q R s₂ → LCg.NsObj oC m₂ → Fr h₀ L h m →
    News h₀ L h ((C, oC) :: (D, W.listOf #[] 0) :: (I, oI) :: news) → (∀ q ∈ (I, oI) :: news, q.1 < D) → (@LT.lt Nat _ D C) →
      codeAny (model prog w) A (.compLoop (c2E elt t1 i1 t2 i2 ifs scope pos) 0 (.ref I) (.ref D) (compEnvC scope cl C env)) R { s₂ with heap := h, toks := tk }
theorem comp2_A {elt t1 i1 t2 i2 : PySem.Expr} {ifs : List PySem.Expr} {scope : Scope} {pos spos py : Pos} {y : Str} {Q : Flow → Shared → Prop} (hLe : env.locals = L) (hsw : swapsWith (c2E elt t1 i1 t2 i2 ifs scope pos) (some (.Name y py)) spos.line env = pure true)
    (hy : env.kindOf y = some .local) (hp : (env.scope.kind == .class || (env.scope.kind == .module && env.locals != env.globals)) = false) (hclos : closureFor scope env = pure cl) (hcell : ∀ y ∈ scope.names, y.2 ≠ .cell) (hkind : scope.kind = .function) (hnames : ∀ y ∈ scope.names, y.2 = .local → scope.names.lookup y.1 = some .local)
    (h : wpAny (model prog w) A (eval i1 env) (fun xv s₁ => wpAny (model prog w) A (pyIter xv) (C2PreA prog w A h₀ L env elt t1 i1 t2 i2 ifs scope pos cl y Q) E s₁) E s)
    (hs : ∀ x, foldedSetIterable i1 env x = pure x := by intro _; rfl) : wpAny (model prog w) A (exec (.Assign [.Name y py] (c2E elt t1 i1 t2 i2 ifs scope pos) spos) env) Q E s := by
  subst hLe
  rw [exec_Assign_Name_used _ _ _ _ hsw]
  refine wpAny_bind (wpAny_standAt (wpAny_bind ?_))
  show wpAny _ A (do let _ ← comprehension (c2E elt t1 i1 t2 i2 ifs scope pos) scope env _ (newList []) false (eval i1 env) (some (assign (.Name y py) env))) _ _ s
  refine wpAny_bind (wpAny_mono (wpAny_comprehension_free (use := some (assign (.Name y py) env)) (Q := fun _ s' => Q .next s') rfl hs hclos hkind hnames
    (wpAny_mono h (fun xv s₁ h₁ => wpAny_mono h₁ (fun it s₂ h₂ => ?_) fun _ _ e => e) fun _ _ e => e)) (fun _ s' hq => wpAny_pure (wpAny_pure hq)) fun _ _ e => e)
  obtain ⟨I, oI, m, news, rfl, F, N, hself, hl⟩ := h₂
  refine wpAny_newObj_type (wpAny_newFunctionEnv hcell (by intro y hy; simp at hy) (fun h₁ hns₁ hsb₁ => ?_) hkind)
  dsimp only at hns₁ hsb₁ ⊢
  generalize hH2 : s₂.heap.push { cls := .type "list", dict := none, data := .seq ([] : List Value).toArray } = H2 at hns₁ hsb₁ ⊢
  have hC : H2.objs.size = s₂.heap.objs.size + 1 := by rw [← hH2, Heap.size_push]
  have hDC : s₂.heap.objs.size ≠ H2.objs.size := by rw [hC]; exact Nat.ne_of_lt (Nat.lt_succ_self _)
  have below : ∀ b, b < s₂.heap.objs.size → b ≠ H2.objs.size ∧ b ≠ s₂.heap.objs.size := fun b hb => ⟨by rw [hC]; exact Nat.ne_of_lt (Nat.lt_succ_of_lt hb), Nat.ne_of_lt hb⟩
  have old : ∀ b o, s₂.heap.get? b = some o → h₁.get? b = some o := fun b o e => hsb₁.extBut b o (below b (Heap.lt_size e)).1 (Heap.get?_push_of_some _ (hH2 ▸ Heap.get?_push_of_some _ e))
  have hacc : h₁.get? s₂.heap.objs.size = some (W.listOf #[] 0) := hsb₁.extBut _ _ hDC (Heap.get?_push_of_some _ (hH2 ▸ Heap.get?_push_size _ rfl))
  have fresh : ∀ a, s₂.heap.objs.size ≤ a → s₂.heap.get? a = none := fun a ha => by
    cases e : s₂.heap.get? a with
    | none => rfl
    | some o' => exact absurd (Heap.lt_size e) (Nat.not_lt.mpr ha)
  have fresh₀ : ∀ a, s₂.heap.objs.size ≤ a → h₀.get? a = none := fun a ha => by
    cases e : h₀.get? a with
    | none => rfl
    | some o' => have := F.keep a o' e; rw [fresh a ha] at this; cases this
  have hD₀ : h₀.get? s₂.heap.objs.size = none := fresh₀ _ (Nat.le_refl _)
  have hC₀ : h₀.get? H2.objs.size = none := fresh₀ _ (by rw [hC]; exact Nat.le_succ _)
  have hLlt : env.locals < s₂.heap.objs.size := F.ns.lt
  have hDL : s₂.heap.objs.size ≠ env.locals := Ne.symm (below env.locals hLlt).2
  have hCL : H2.objs.size ≠ env.locals := Ne.symm (below env.locals hLlt).1
  obtain ⟨oC, heC, hoC⟩ := LCg.ns_obj hns₁
  have loop : codeAny (model prog w) A (.compLoop (c2E elt t1 i1 t2 i2 ifs scope pos) 0 (.ref I) (.ref s₂.heap.objs.size) (compEnvC scope cl H2.objs.size env)) (compPost (model prog w) A E (some (assign (.Name y py) env)) (fun _ s' => Q .next s') (.ref s₂.heap.objs.size) H2.objs.size)
      { s₂ with heap := h₁, toks := s₂.toks + ([] : List (Str × Value)).length } := by
    refine hl H2.objs.size s₂.heap.objs.size oC _ h₁ _ _ ?_ hoC (F.keeps old) (fun p hp => ?_) (fun q hq => Heap.lt_size (N q hq).1) (by show s₂.heap.objs.size < H2.objs.size; rw [hC]; exact Nat.lt_succ_self _)
    · intro oC' m' ys n news' h' tk' hns' F' N' off hq
      show wpAny _ A (assign (.Name y py) env (.ref s₂.heap.objs.size)) _ _ _
      refine wpAny_assign_Name (wpAny_storeName_local hy F'.ns (fun h₂ hn₂ hs₂ => ?_) hp)
      have hL₀ : h₀.get? env.locals = none := Heap.get?_none_of_le F'.above
      have F₂ : Fr h₀ env.locals h₂ (fun z => if z = y then some (.ref s₂.heap.objs.size) else m z) := ⟨hn₂, fun b o e => hs₂.extBut b o (fun q => by rw [q, hL₀] at e; cases e) (F'.keep b o e), F'.above⟩
      refine ⟨m', (hns'.ns (N' _ List.mem_cons_self).1).sameBut hs₂ hCL, fun h'' hs'' => hq h'' _ (F₂.change hs'' hCL hC₀) fun p hp => ?_⟩
      have z : h₂.get? p.1 = some p.2 := hs₂.extBut _ _ (N' p (List.mem_cons_of_mem _ hp)).2.1 (N' p (List.mem_cons_of_mem _ hp)).1
      refine ⟨hs''.extBut _ _ ?_ z, (N' p (List.mem_cons_of_mem _ hp)).2⟩
      rcases List.mem_cons.mp hp with rfl | hp
      · exact Ne.symm (off _ List.mem_cons_self)
      · exact Ne.symm (off _ (List.mem_cons_of_mem _ (List.mem_map_of_mem hp)))
    · rcases List.mem_cons.mp hp with rfl | hp
      · exact ⟨heC, hCL, hC₀⟩
      · rcases List.mem_cons.mp hp with rfl | hp
        · exact ⟨hacc, hDL, hD₀⟩
        · exact ⟨old _ _ (N p hp).1, (N p hp).2⟩
  exact codeAny_compStart_list loop (hself _ _ _ (old _ _ (N _ List.mem_cons_self).1) loop)
end
end Mine

namespace Mine
open PySem.Calls
local macro_rules | `(tactic| walk_at "CompEnd") => `(tactic| (refine stop_in ?_))
theorem due_nil {Vn : Nat → List Nat} {A Bh : Nat → Nat} {k : Nat} : dueW Vn A Bh [] k = padW (A k) k (Bh k) := by
  show padW (A k - 0) k (Bh k - (0 - A k)) = _
  rw [Nat.sub_zero, Nat.zero_sub, Nat.sub_zero]
theorem wTo_0 {P : Par} (O : ParOk P) {k : Nat} (hk : k < 5) : (wTo P 5)[(4 * (k : Int)).toNat]? = some (dueW P.Vn P.Aa P.Bh [] k) := by
  have h := wTo_pre O (k := k) (j := 0) (by decide) (4 - k)
  rw [show k + 1 + (4 - k) = 5 by omega] at h
  rw [show (4 * (k : Int)).toNat = 4 * k + 0 by omega, h, due_nil]; rfl
theorem castL_cons {r : List Value} {e : List Nat} {v : Value} (h : IntsAre (v :: r) (castL e)) : ∃ k e' t, e = k :: e' ∧ v = .int (k : Int) t ∧ IntsAre r (castL e') := by
  cases e with
  | nil => cases h
  | cons k e =>
    obtain _ | ⟨_, t, h⟩ := h
    exact ⟨k, e, t, rfl, rfl, h⟩
theorem castL_nil {e : List Nat} (h : IntsAre [] (castL e)) : e = [] := by
  cases e with
  | nil => rfl
  | cons k e => cases h
theorem row121 : True := by
  k_with "subscriptTail Name BinOp ref int" => (k_here; k_dflt (refine' item_SE ?Nr121 ?mr121 ?ir121 ?xr121 ?h0r121 ?h1r121 ?_; (case Nr121 => k_asm); (case mr121 => k_mem); (case ir121 => assumption); (case xr121 => assumption); (case h0r121 => omega); (case h1r121 => omega); ((first | tm_at "clo1" | refine fun _ => ?_))))
  trivial
theorem ne_ord : Str.ofString "order" ≠ Str.ofString "items" ∧ Str.ofString "order" ≠ Str.ofString "rest" := by decide
theorem ne_tab : Str.ofString "table" ≠ Str.ofString "items" ∧ Str.ofString "table" ≠ Str.ofString "rest" := by decide
theorem kst_new2 {m : Str → Option Value} {ps all : List (Str × Value)} {y z : Str} {v u : Value} (hps : ∀ p ∈ ps, m p.1 = some p.2) (hall : ∀ p ∈ all, m p.1 = some p.2) (hne : ∀ p ∈ all, p.1 ≠ y ∧ p.1 ≠ z) (hyz : y ≠ z) :
    ∀ p ∈ (y, v) :: (z, u) :: all, (fun a => if a = z then some u else if a = y then some v else kstB m ps a) p.1 = some p.2 := fun p hp => by
  rcases List.mem_cons.mp hp with rfl | hp
  · exact (if_neg hyz).trans (if_pos rfl)
  · rcases List.mem_cons.mp hp with rfl | hp
    · exact if_pos rfl
    · exact (if_neg (hne p hp).2).trans ((if_neg (hne p hp).1).trans (kst_at hps hall p hp))
theorem nm_run {g h : Heap} {L tp D1 D2 pb : Addr} {rU : List Value} {n1 pn : Nat} {o2 : Obj} {r : List (Addr × Obj)} (N : News g L h ((tp, tupO #[.ref D1, .ref D2]) :: (D1, W.listOf rU.toArray n1) :: (D2, o2) :: (pb, W.listOf #[] pn) :: r)) :
    Nm D1 ∧ Nm D2 ∧ Nm n1 ∧ Nm pn := ⟨.mk, .mk, .mk, .mk⟩
theorem sub_take {α : Type} {l V : List α} {n : Nat} (h : Sub l V) : Sub (l.take n).reverse V := fun p hp => h p (List.mem_of_mem_take (List.mem_reverse.mp hp))
theorem farA_snoc {as bs : List Addr} {a : Addr} (h : FarA as bs) (o : OffA a bs) : FarA (as ++ [a]) bs := fun b hb => (List.mem_append.mp hb).elim (h b) fun e => by
  rw [List.mem_singleton.mp e]; exact o
theorem row122 : True := by
  k_with "k_enter" => ((with_reducible show codeAny _ _ (Code.call (Value.ref 239) _) _ _); (refine' GS.callM ?kBr122 ?kFr122 ?kXr122 ?kNr122 ?kTr122 ?kAr122 ?kfr122 ?kkr122 ?krr122 ?kdr122 (fun ggq9 gBq9 gXq9 gTq9 gGq9 gKq9 gSq9 gBackq9 => run_c gBq9 gXq9 gTq9 gGq9 ?i1r122 ?i2r122 ?i3r122 ?i4r122 ?irr122 ?iur122 ?ikr122 ?i5r122 ?i6r122 ?i7r122 ?i8r122 ?i9r122 ?j1r122 ?j2r122 ?j3r122 ?j4r122 ?_); (case kBr122 => assumption); (case kFr122 => assumption); (case kXr122 => assumption); (case kNr122 => assumption); (case kTr122 => assumption); (case kAr122 => keq_hits); (case kfr122 => exact rfl); (case kkr122 => exact rfl); (case krr122 => k_extra "gs_rem"); (case kdr122 => (try dsimp only [List.map]); (refine offL_T ?_); (repeat' (first | exact farT_nil | refine farT_cons ?_ ?_)); all_goals k_extra "gs_ot"); (case i1r122 => assumption); (case i2r122 => assumption); (case i3r122 => (refine farA_snoc (as := [_, _, _]) (by assumption) ?_; (refine off1_own (by assumption) ?_; (try dsimp only [List.map]); k_extra "gs_sub"))); (case i4r122 => assumption); (case irr122 => k_room); (case iur122 => (try simp only [units_under_make, Around.deeper_units]); omega); (case ikr122 => (refine tupsIn_T (by assumption) (by assumption) gKq9 ?_ (by repeat (first | assumption | refine Sub.tail ?_)); (try dsimp only [List.map]); (refine farT_sub ?_ Sub.rfl' (by assumption)); (repeat' (first | exact farT_nil | refine farT_cons ?_ ?_)); all_goals k_extra "gs_ot")); (case i5r122 => assumption); (case i6r122 => assumption); (case i7r122 => assumption); (case i8r122 => assumption); (case i9r122 => assumption); (case j1r122 => assumption); (case j2r122 => assumption); (case j3r122 => assumption); (case j4r122 => assumption); (revert ggq9; ((first | tm_at "clo1" | refine fun ggq9 => ?_); refine fun gBq9 => ?_; refine fun gXq9 => ?_; refine fun gTq9 => ?_; refine fun gGq9 => ?_; refine fun gKq9 => ?_; refine fun gSq9 => ?_; refine fun gBackq9 => ?_); ((first | tm_at "clo1" | refine fun tp'q9 => ?_); (first | tm_at "clo1" | refine fun D1'q9 => ?_); (first | tm_at "clo1" | refine fun D2'q9 => ?_); (first | tm_at "clo1" | refine fun n1'q9 => ?_); (first | tm_at "clo1" | refine fun rU'q9 => ?_); (first | tm_at "clo1" | refine fun pn'q9 => ?_); (first | tm_at "clo1" | refine fun u0'q9 => ?_); (first | tm_at "clo1" | refine fun u1'q9 => ?_); (first | tm_at "clo1" | refine fun u2'q9 => ?_); (first | tm_at "clo1" | refine fun u3'q9 => ?_); (first | tm_at "clo1" | refine fun u4'q9 => ?_); (first | tm_at "clo1" | refine fun p0'q9 => ?_); (first | tm_at "clo1" | refine fun p1'q9 => ?_); (first | tm_at "clo1" | refine fun p2'q9 => ?_); (first | tm_at "clo1" | refine fun p3'q9 => ?_); (first | tm_at "clo1" | refine fun p4'q9 => ?_); (first | tm_at "clo1" | refine fun vs2'q9 => ?_); (first | tm_at "clo1" | refine fun h'q9 => ?_); (first | tm_at "clo1" | refine fun tk'q9 => ?_); (first | tm_at "clo1" | refine fun ups'q9 => ?_); (first | tm_at "clo1" | refine fun qu'q9 => ?_); (first | tm_at "clo1" | refine fun hR'q9 => ?_); (first | tm_at "clo1" | refine fun hF5'q9 => ?_); (first | tm_at "clo1" | refine fun hS'q9 => ?_); refine fun gG'q9 => ?_; (first | tm_at "clo1" | refine fun hTu'q9 => ?_)); (obtain ⟨F'q9, N'q9, O'q9⟩ := gBackq9 _ _ gG'q9); (clear gBq9 gXq9 gTq9 gGq9 gKq9 gSq9 gBackq9 gG'q9); (dsimp only [lexNews, hdrNews, List.cons_append, List.nil_append] at N'q9); (try dsimp only))))
  trivial
section
variable {w : World} {A : Around} {base g : Heap} {fr : List Env} {mg mb : Str → Option Value} {p : Program} {loose : List Str} {mean : ExcName → Option Value} {s : Shared} {L fa : Addr} {cd : Value} {m : Str → Option Value} {Q : Flow → Shared → Prop} {E : Value → Shared → Prop} {rest : List Stmt}
  (B : Below A base fr g) (X : Frag.In (hd.heap_39 w.params) g) (T : Top p loose mean mg mb g)
include B X T
end
namespace Cseg_h0
noncomputable def Sta (w : World) (A : Around) (base g : Heap) (fr : List Env) (mg mb : Str → Option Value) (p : Program) (loose : List Str) (mean : ExcName → Option Value) (s : Shared) (L fa : Addr) (cd : Value) (m : Str → Option Value) (Q : Flow → Shared → Prop) (E : Value → Shared → Prop) (rest : List Stmt) (P : Par) (lx : LexP) (ln : Int) (u : Tok) (vs : List Value) (gn pn : Nat) (x d l : Addr) (t : Tok) (refs : List Value) (n : Nat) (U ts : List (Addr × Obj)) (rD ol : Addr) (rv ov : List Value) (rn on : Nat) (c7 c8 : Obj) (os : List Nat) (fs : List (Str × Value)) : Prop := ∀ (B : Below A base fr g) (X : Frag.In (hd.heap_39 w.params) g) (T : Top p loose mean mg mb g) (O : ParOk P) (hE : PassesOwn (model Challenge.rw_st0024_01.row.prog w) (A.deeper (lawEnv L fa cd)) (lawEnv L fa cd) E) (hh : A.handled = none) (hroom : A.depth + 60 < recursionLimit) (hu : A.units + 600 < cLine) (C : CodeHd base 228 224) (J : LexF lx) (hr : StrsAre rv (wTo P 5)) (e7 : c7.data = .cell (some (.ref lx.x2))) (e8 : c8.data = .cell (some (.ref rD))) (m7 : (L + 1 + 1 + 1 + 1 + 1 + 1 + 1, c7) ∈ U) (m8 : (L + 1 + 1 + 1 + 1 + 1 + 1 + 1 + 1, c8) ∈ U) (mr : (rD, W.listOf rv.toArray rn) ∈ U) (mo : (ol, W.listOf ov.toArray on) ∈ U) (ho : IntsAre ov (castL os)) (ho5 : os.length = 5) (hos : Five [] os) (hTs : TupsN ts refs (kvTo P 5)) (hs : Sub ts U) (oT : FarT (x :: d :: l :: lexA lx) U) (oA : FarA [x, d, l] (lexA lx)) (F0 : Fr g L s.heap m) (hm : ∀ p ∈ (Str.ofString "order", Value.ref ol) :: (Str.ofString "table", Value.ref x) :: fs, m p.1 = some p.2) (hfs : ∀ p ∈ fs, p.1 ≠ Str.ofString "items" ∧ p.1 ≠ Str.ofString "rest") (N : News g L s.heap (lexNews w lx ln u [] pn vs gn ++ (hdrNews w x d l t refs n ++ U))) (h : ∀ h' tk D1 D2 V n1 pn' (rU vs2 : List Value) us m' ups qu, rnds P.Vn P.Aa P.Bh 5 [] os = (ups, qu) → Five ups qu → Fr g L h' m' →
    (∀ p ∈ (Str.ofString "items", Value.ref D1) :: (Str.ofString "rest", Value.ref D2) :: (Str.ofString "order", Value.ref ol) :: (Str.ofString "table", Value.ref x) :: fs, m' p.1 = some p.2) → News g L h' V →
    Sub (lexNews w lx ln u [] pn' vs gn ++ hdrNews w x d l t refs n) V → Sub U V → (D1, W.listOf rU.toArray n1) ∈ V → (D2, W.listOf vs2.toArray vs2.length) ∈ V → TupsN us rU (ups.map (kvU fun k => Txt.join (Str.ofString "") (allV (lwN k) (kvTo P 5)))) → Sub us V → StrsAre vs2 (qu.map (dueW P.Vn P.Aa P.Bh ups)) →
    wpAny (model Challenge.rw_st0024_01.row.prog w) (A.deeper (lawEnv L fa cd)) (execs rest (lawEnv L fa cd)) Q E { s with heap := h', toks := tk }), wpAny (model Challenge.rw_st0024_01.row.prog w) (A.deeper (lawEnv L fa cd)) (execs (ob0s.1 :: rest) (lawEnv L fa cd)) Q E s
noncomputable def P0 (z : World × Around × Heap × Heap × (List Env) × (Str → Option Value) × (Str → Option Value) × Program × (List Str) × (ExcName → Option Value) × Shared × Addr × Addr × Value × (Str → Option Value) × (Flow → Shared → Prop) × (Value → Shared → Prop) × (List Stmt) × Par × LexP × Int × Tok × (List Value) × Nat × Nat × Addr × Addr × Addr × Tok × (List Value) × Nat × (List (Addr × Obj)) × (List (Addr × Obj)) × Addr × Addr × (List Value) × (List Value) × Nat × Nat × Obj × Obj × (List Nat) × (List (Str × Value))) : Prop := Sta (z.1) (z.2.1) (z.2.2.1) (z.2.2.2.1) (z.2.2.2.2.1) (z.2.2.2.2.2.1) (z.2.2.2.2.2.2.1) (z.2.2.2.2.2.2.2.1) (z.2.2.2.2.2.2.2.2.1) (z.2.2.2.2.2.2.2.2.2.1) (z.2.2.2.2.2.2.2.2.2.2.1) (z.2.2.2.2.2.2.2.2.2.2.2.1) (z.2.2.2.2.2.2.2.2.2.2.2.2.1) (z.2.2.2.2.2.2.2.2.2.2.2.2.2.1) (z.2.2.2.2.2.2.2.2.2.2.2.2.2.2.1) (z.2.2.2.2.2.2.2.2.2.2.2.2.2.2.2.1) (z.2.2.2.2.2.2.2.2.2.2.2.2.2.2.2.2.1) (z.2.2.2.2.2.2.2.2.2.2.2.2.2.2.2.2.2.1) (z.2.2.2.2.2.2.2.2.2.2.2.2.2.2.2.2.2.2.1) (z.2.2.2.2.2.2.2.2.2.2.2.2.2.2.2.2.2.2.2.1) (z.2.2.2.2.2.2.2.2.2.2.2.2.2.2.2.2.2.2.2.2.1) (z.2.2.2.2.2.2.2.2.2.2.2.2.2.2.2.2.2.2.2.2.2.1) (z.2.2.2.2.2.2.2.2.2.2.2.2.2.2.2.2.2.2.2.2.2.2.1) (z.2.2.2.2.2.2.2.2.2.2.2.2.2.2.2.2.2.2.2.2.2.2.2.1) (z.2.2.2.2.2.2.2.2.2.2.2.2.2.2.2.2.2.2.2.2.2.2.2.2.1) (z.2.2.2.2.2.2.2.2.2.2.2.2.2.2.2.2.2.2.2.2.2.2.2.2.2.1) (z.2.2.2.2.2.2.2.2.2.2.2.2.2.2.2.2.2.2.2.2.2.2.2.2.2.2.1) (z.2.2.2.2.2.2.2.2.2.2.2.2.2.2.2.2.2.2.2.2.2.2.2.2.2.2.2.1) (z.2.2.2.2.2.2.2.2.2.2.2.2.2.2.2.2.2.2.2.2.2.2.2.2.2.2.2.2.1) (z.2.2.2.2.2.2.2.2.2.2.2.2.2.2.2.2.2.2.2.2.2.2.2.2.2.2.2.2.2.1) (z.2.2.2.2.2.2.2.2.2.2.2.2.2.2.2.2.2.2.2.2.2.2.2.2.2.2.2.2.2.2.1) (z.2.2.2.2.2.2.2.2.2.2.2.2.2.2.2.2.2.2.2.2.2.2.2.2.2.2.2.2.2.2.2.1) (z.2.2.2.2.2.2.2.2.2.2.2.2.2.2.2.2.2.2.2.2.2.2.2.2.2.2.2.2.2.2.2.2.1) (z.2.2.2.2.2.2.2.2.2.2.2.2.2.2.2.2.2.2.2.2.2.2.2.2.2.2.2.2.2.2.2.2.2.1) (z.2.2.2.2.2.2.2.2.2.2.2.2.2.2.2.2.2.2.2.2.2.2.2.2.2.2.2.2.2.2.2.2.2.2.1) (z.2.2.2.2.2.2.2.2.2.2.2.2.2.2.2.2.2.2.2.2.2.2.2.2.2.2.2.2.2.2.2.2.2.2.2.1) (z.2.2.2.2.2.2.2.2.2.2.2.2.2.2.2.2.2.2.2.2.2.2.2.2.2.2.2.2.2.2.2.2.2.2.2.2.1) (z.2.2.2.2.2.2.2.2.2.2.2.2.2.2.2.2.2.2.2.2.2.2.2.2.2.2.2.2.2.2.2.2.2.2.2.2.2.1) (z.2.2.2.2.2.2.2.2.2.2.2.2.2.2.2.2.2.2.2.2.2.2.2.2.2.2.2.2.2.2.2.2.2.2.2.2.2.2.1) (z.2.2.2.2.2.2.2.2.2.2.2.2.2.2.2.2.2.2.2.2.2.2.2.2.2.2.2.2.2.2.2.2.2.2.2.2.2.2.2.1) (z.2.2.2.2.2.2.2.2.2.2.2.2.2.2.2.2.2.2.2.2.2.2.2.2.2.2.2.2.2.2.2.2.2.2.2.2.2.2.2.2.1) (z.2.2.2.2.2.2.2.2.2.2.2.2.2.2.2.2.2.2.2.2.2.2.2.2.2.2.2.2.2.2.2.2.2.2.2.2.2.2.2.2.2.1) (z.2.2.2.2.2.2.2.2.2.2.2.2.2.2.2.2.2.2.2.2.2.2.2.2.2.2.2.2.2.2.2.2.2.2.2.2.2.2.2.2.2.2)
noncomputable def Z := @Classical.epsilon _ ⟨(w00, A00, default, default, [], (fun _ => none), (fun _ => none), default, [], (fun _ => none), s00, 0, 0, .none, (fun _ => none), (fun _ _ => True), (fun _ _ => True), [], par00, lex00, 0, 0, [], 0, 0, 0, 0, 0, 0, [], 0, [], [], 0, 0, [], [], 0, 0, default, default, [], [])⟩ fun z => ¬ P0 z
@[irreducible] noncomputable def w := Z.1
@[irreducible] noncomputable def A := Z.2.1
@[irreducible] noncomputable def base := Z.2.2.1
@[irreducible] noncomputable def g := Z.2.2.2.1
@[irreducible] noncomputable def fr := Z.2.2.2.2.1
@[irreducible] noncomputable def mg := Z.2.2.2.2.2.1
@[irreducible] noncomputable def mb := Z.2.2.2.2.2.2.1
@[irreducible] noncomputable def p := Z.2.2.2.2.2.2.2.1
@[irreducible] noncomputable def loose := Z.2.2.2.2.2.2.2.2.1
@[irreducible] noncomputable def mean := Z.2.2.2.2.2.2.2.2.2.1
@[irreducible] noncomputable def s := Z.2.2.2.2.2.2.2.2.2.2.1
@[irreducible] noncomputable def L := Z.2.2.2.2.2.2.2.2.2.2.2.1
@[irreducible] noncomputable def fa := Z.2.2.2.2.2.2.2.2.2.2.2.2.1
@[irreducible] noncomputable def cd := Z.2.2.2.2.2.2.2.2.2.2.2.2.2.1
@[irreducible] noncomputable def m := Z.2.2.2.2.2.2.2.2.2.2.2.2.2.2.1
@[irreducible] noncomputable def Q := Z.2.2.2.2.2.2.2.2.2.2.2.2.2.2.2.1
@[irreducible] noncomputable def E := Z.2.2.2.2.2.2.2.2.2.2.2.2.2.2.2.2.1
@[irreducible] noncomputable def rest := Z.2.2.2.2.2.2.2.2.2.2.2.2.2.2.2.2.2.1
@[irreducible] noncomputable def P := Z.2.2.2.2.2.2.2.2.2.2.2.2.2.2.2.2.2.2.1
@[irreducible] noncomputable def lx := Z.2.2.2.2.2.2.2.2.2.2.2.2.2.2.2.2.2.2.2.1
@[irreducible] noncomputable def ln := Z.2.2.2.2.2.2.2.2.2.2.2.2.2.2.2.2.2.2.2.2.1
@[irreducible] noncomputable def u := Z.2.2.2.2.2.2.2.2.2.2.2.2.2.2.2.2.2.2.2.2.2.1
@[irreducible] noncomputable def vs := Z.2.2.2.2.2.2.2.2.2.2.2.2.2.2.2.2.2.2.2.2.2.2.1
@[irreducible] noncomputable def gn := Z.2.2.2.2.2.2.2.2.2.2.2.2.2.2.2.2.2.2.2.2.2.2.2.1
@[irreducible] noncomputable def pn := Z.2.2.2.2.2.2.2.2.2.2.2.2.2.2.2.2.2.2.2.2.2.2.2.2.1
@[irreducible] noncomputable def x := Z.2.2.2.2.2.2.2.2.2.2.2.2.2.2.2.2.2.2.2.2.2.2.2.2.2.1
@[irreducible] noncomputable def d := Z.2.2.2.2.2.2.2.2.2.2.2.2.2.2.2.2.2.2.2.2.2.2.2.2.2.2.1
@[irreducible] noncomputable def l := Z.2.2.2.2.2.2.2.2.2.2.2.2.2.2.2.2.2.2.2.2.2.2.2.2.2.2.2.1
@[irreducible] noncomputable def t := Z.2.2.2.2.2.2.2.2.2.2.2.2.2.2.2.2.2.2.2.2.2.2.2.2.2.2.2.2.1
@[irreducible] noncomputable def refs := Z.2.2.2.2.2.2.2.2.2.2.2.2.2.2.2.2.2.2.2.2.2.2.2.2.2.2.2.2.2.1
@[irreducible] noncomputable def n := Z.2.2.2.2.2.2.2.2.2.2.2.2.2.2.2.2.2.2.2.2.2.2.2.2.2.2.2.2.2.2.1
@[irreducible] noncomputable def U := Z.2.2.2.2.2.2.2.2.2.2.2.2.2.2.2.2.2.2.2.2.2.2.2.2.2.2.2.2.2.2.2.1
@[irreducible] noncomputable def ts := Z.2.2.2.2.2.2.2.2.2.2.2.2.2.2.2.2.2.2.2.2.2.2.2.2.2.2.2.2.2.2.2.2.1
@[irreducible] noncomputable def rD := Z.2.2.2.2.2.2.2.2.2.2.2.2.2.2.2.2.2.2.2.2.2.2.2.2.2.2.2.2.2.2.2.2.2.1
@[irreducible] noncomputable def ol := Z.2.2.2.2.2.2.2.2.2.2.2.2.2.2.2.2.2.2.2.2.2.2.2.2.2.2.2.2.2.2.2.2.2.2.1
@[irreducible] noncomputable def rv := Z.2.2.2.2.2.2.2.2.2.2.2.2.2.2.2.2.2.2.2.2.2.2.2.2.2.2.2.2.2.2.2.2.2.2.2.1
@[irreducible] noncomputable def ov := Z.2.2.2.2.2.2.2.2.2.2.2.2.2.2.2.2.2.2.2.2.2.2.2.2.2.2.2.2.2.2.2.2.2.2.2.2.1
@[irreducible] noncomputable def rn := Z.2.2.2.2.2.2.2.2.2.2.2.2.2.2.2.2.2.2.2.2.2.2.2.2.2.2.2.2.2.2.2.2.2.2.2.2.2.1
@[irreducible] noncomputable def on := Z.2.2.2.2.2.2.2.2.2.2.2.2.2.2.2.2.2.2.2.2.2.2.2.2.2.2.2.2.2.2.2.2.2.2.2.2.2.2.1
@[irreducible] noncomputable def c7 := Z.2.2.2.2.2.2.2.2.2.2.2.2.2.2.2.2.2.2.2.2.2.2.2.2.2.2.2.2.2.2.2.2.2.2.2.2.2.2.2.1
@[irreducible] noncomputable def c8 := Z.2.2.2.2.2.2.2.2.2.2.2.2.2.2.2.2.2.2.2.2.2.2.2.2.2.2.2.2.2.2.2.2.2.2.2.2.2.2.2.2.1
@[irreducible] noncomputable def os := Z.2.2.2.2.2.2.2.2.2.2.2.2.2.2.2.2.2.2.2.2.2.2.2.2.2.2.2.2.2.2.2.2.2.2.2.2.2.2.2.2.2.1
@[irreducible] noncomputable def fs := Z.2.2.2.2.2.2.2.2.2.2.2.2.2.2.2.2.2.2.2.2.2.2.2.2.2.2.2.2.2.2.2.2.2.2.2.2.2.2.2.2.2.2
set_option maxHeartbeats 4000000 in
theorem key : Sta w A base g fr mg mb p loose mean s L fa cd m Q E rest P lx ln u vs gn pn x d l t refs n U ts rD ol rv ov rn on c7 c8 os fs := fun B X T O hE hh hroom hu C J hr e7 e8 m7 m8 mr mo ho ho5 hos hTs hs oT oA F0 hm hfs N h => by
  revert X; k_fill; intro X
  have F1 := Fr.expose [(Str.ofString "order", Value.ref ol), (Str.ofString "table", Value.ref x)] F0 (all2 (hm _ List.mem_cons_self) (hm _ (List.mem_cons_of_mem _ List.mem_cons_self)))
  dsimp only [kstB] at F1
  clear F0
  dsimp only [lexNews, hdrNews, List.cons_append, List.nil_append] at N
  dsimp only
  k_steps
  (rename Fr _ _ _ _ => F2)
  (rename News _ _ _ _ => N2)
  have lo : ov.length = 5 := by rw [IntsAre.length ho, castL, List.length_map, ho5]
  refine LCg.CompSrc.ledger (by assumption) F2 N2 (by k_mem) (by rw [sizeLine_eq]; simp only [List.size_toArray]; omega) ?_
  (tm_at "nmx1"; refine fun g' => ?_)
  refine cr_list (fun r ys => ∃ dn e, os = dn ++ e ∧ IntsAre r (castL e) ∧ StrsAre ys (dn.map (dueW P.Vn P.Aa P.Bh []))) ⟨[], os, rfl, ho, .nil⟩ ?_ ?_
  · rintro v r ys I' oI' C' oC' D' m' h' tk' E' ⟨dn, e, he, hr', hy⟩ hC' hx' F' N' off' ne'
    obtain ⟨k, e', tk1, rfl, rfl, hr2⟩ := castL_cons hr'
    have hk : k < 5 := hos.2 k (by rw [he]; simp)
    have xW := wTo_0 O hk
    clear F2 N2
    (revert ys I' oI' C' oC' D' m' h' tk' E' dn k e' tk1; tm_at "nmx11"; refine fun ys I' oI' C' oC' D' m' h' tk' E' dn => ?_; k_extra "kf"; tm_at "nmx3"; refine fun k e' tk1 => ?_; k_extra "kw")
    k_steps
    (rename Fr _ _ _ _ => F3)
    (rename News _ _ _ _ => N3)
    refine LCg.CompEnd.intro F3 N3 _ (fun p hp => hp) off' (.inr ⟨_, by k_mem, rfl, _, rfl⟩) ⟨rfl, dn ++ [k], e', by rw [he]; simp, hr2, ?_⟩
    rw [List.map_append]
    exact StrsAre.append' hy (.cons _ _ .nil)
  · rintro ys ⟨dn, e, he, hr', hy⟩
    obtain rfl := castL_nil hr'
    rw [List.append_nil] at he
    subst he
    (revert ys; tm_at "nmx1"; refine fun ys => ?_; k_extra "kw")
    have hkl := kv_keys (P := P) 5 (Nat.le_refl _)
    have hz : refs.length ≤ 1000 := by rw [hTs.len.1, kvTo_len O]; decide
    have hAB := O.ab
    have hTo : ∀ k < 5, Told (kvTo P 5) P.Vn k := fun k hk => told_kv O hk
    have hVn : ∀ k < 5, ∀ y ∈ P.Vn k, y < 5 := fun k _ => O.v5 k
    have hVl : ∀ k, (P.Vn k).length ≤ 1000 := fun k => by rw [O.v3]; decide
    k_steps
    (rename Fr _ _ _ _ => F3)
    (rename News _ _ _ _ => N3)
    (rename rnds _ _ _ _ _ _ = _ => hR)
    (rename Five _ _ => hF5)
    (rename TupsN _ _ _ => hTu)
    (rename StrsAre _ (List.map (dueW _ _ _ _) _) => hS)
    obtain ⟨D1, D2, n1, pn'⟩ := nm_run N3
    refine h _ _ D1 D2 _ n1 pn' _ _ _ _ _ _ hR hF5 F3 ?_ N3 ?_ ?_ ?_ ?_ hTu ?_ hS
    · refine kst_new2 (all2 (hm _ List.mem_cons_self) (hm _ (List.mem_cons_of_mem _ List.mem_cons_self))) hm ?_ (by decide)
      intro p hp
      rcases List.mem_cons.mp hp with rfl | hp
      · exact ne_ord
      · rcases List.mem_cons.mp hp with rfl | hp
        · exact ne_tab
        · exact hfs p hp
    · dsimp only [lexNews, hdrNews, List.cons_append, List.nil_append]; k_extra "gs_sub"
    · repeat (first | exact Sub.rfl' | refine Sub.tail ?_)
    · k_mem
    · k_mem
    · refine sub_take ?_
      k_extra "gs_sub"
theorem zeq : (w, A, base, g, fr, mg, mb, p, loose, mean, s, L, fa, cd, m, Q, E, rest, P, lx, ln, u, vs, gn, pn, x, d, l, t, refs, n, U, ts, rD, ol, rv, ov, rn, on, c7, c8, os, fs) = Z := by with_unfolding_all rfl
end Cseg_h0
set_option maxHeartbeats 4000000 in
theorem seg_h0 {w : World} {A : Around} {base g : Heap} {fr : List Env} {mg mb : Str → Option Value} {p : Program} {loose : List Str} {mean : ExcName → Option Value} {s : Shared} {L fa : Addr} {cd : Value} {m : Str → Option Value} {Q : Flow → Shared → Prop} {E : Value → Shared → Prop} {rest : List Stmt} {P : Par} {lx : LexP} {ln : Int} {u : Tok} {vs : List Value} {gn pn : Nat} {x d l : Addr} {t : Tok} {refs : List Value} {n : Nat} {U ts : List (Addr × Obj)} {rD ol : Addr} {rv ov : List Value} {rn on : Nat} {c7 c8 : Obj} {os : List Nat} {fs : List (Str × Value)} : Cseg_h0.Sta w A base g fr mg mb p loose mean s L fa cd m Q E rest P lx ln u vs gn pn x d l t refs n U ts rD ol rv ov rn on c7 c8 os fs :=
  hilb Cseg_h0.P0 Cseg_h0.Z rfl (Eq.subst (motive := Cseg_h0.P0) Cseg_h0.zeq Cseg_h0.key) (w, A, base, g, fr, mg, mb, p, loose, mean, s, L, fa, cd, m, Q, E, rest, P, lx, ln, u, vs, gn, pn, x, d, l, t, refs, n, U, ts, rD, ol, rv, ov, rn, on, c7, c8, os, fs)
section
end
end Mine
local macro_rules | `(tactic| walk_at "no key 9") => `(tactic| skip)
local macro_rules | `(tactic| walk_at "no key 10") => `(tactic| skip)

namespace Mine
open PySem.Calls
theorem all_one {m : Str → Option Value} {k : Str} {v : Value} (h : m k = some v) : ∀ p ∈ [(k, v)], m p.1 = some p.2 := fun p hp => by rw [List.mem_singleton.mp hp]; exact h
theorem ne_items : Str.ofString "items" ≠ Str.ofString "who" := by decide
theorem who_yes {ys : List Value} {pre : List Nat} {j k : Nat} {u : Tok} (e : j = k) (h : IntsAre ys (castL (pre ++ if k < j then [k] else []))) : IntsAre ((ys : List Value) ++ [.int ((0 : Int) + (j : Int)) u]) (castL (pre ++ if k < j + 1 then [k] else [])) := by
  subst e
  rw [if_neg (Nat.lt_irrefl _), List.append_nil] at h
  rw [if_pos (Nat.lt_succ_self _), Int.zero_add]
  unfold castL at h ⊢
  rw [List.map_append]
  exact IntsAre.append h (.cons _ _ .nil)
theorem who_no {ys : List Value} {pre : List Nat} {j k : Nat} (e : ¬ j = k) (h : IntsAre ys (castL (pre ++ if k < j then [k] else []))) : IntsAre ys (castL (pre ++ if k < j + 1 then [k] else [])) := by
  have : (k < j + 1) = (k < j) := propext ⟨fun h => by omega, fun h => by omega⟩
  simp only [this]
  exact h
theorem updF_again {d : Addr} {o o' : Obj} {l : List (Addr × Obj)} {gg : Obj → List (Addr × Obj)} (U : UpdF d o l gg) : UpdF d o' (gg o') gg := by
  induction U with
  | head h => exact UpdF.head h
  | tail h _ ih => exact UpdF.tail h ih
section
variable {prog : Program} {w : World} {A : Around} {E : Value → Shared → Prop} {s : Shared} {h₀ : Heap} {L : Addr} {m : Str → Option Value} {news : List (Addr × Obj)} {env : Env} {cl : List (Str × Addr)}
/-- two names of the comprehension's own are bound -/
theorem assignT2 {x y : Str} {px py tp : Pos} {kk : Nat} {scope : Scope} {C tu : Addr} {oC : Obj} {m₂ : Str → Option Value} {v u : Value} {gg : Obj → List (Addr × Obj)} {Q : Unit → Shared → Prop} (hh : A.handled = none) (F : Fr h₀ L s.heap m) (N : News h₀ L s.heap news) (hC : LCg.NsObj oC m₂) (U : UpdF C oC news gg)
    (ht : s.heap.IsTuple tu #[v, u])
    (h : ∀ h' oC' m₃ tk, Fr h₀ L h' m → News h₀ L h' (gg oC') → LCg.NsObj oC' m₃ → m₃ x = some v → m₃ y = some u → Q () { s with heap := h', toks := tk })
    (hxy : x ≠ y := by decide) (hx : scope.names.lookup x = some .local := by rfl) (hy : scope.names.lookup y = some .local := by rfl) (hkind : scope.kind = .function := by rfl) :
    wpAny (model prog w) A (assign (.Tuple [.Name x px, .Name y py] kk tp) (compEnvC scope cl C env) (.ref tu)) Q E s := by
  refine wpAny_assign_Tuple hh ht rfl rfl fun h₁ he₁ => ?_
  have up : ∀ b o, s.heap.get? b = some o → h₁.get? b = some o := fun b o e => he₁ b o (Nat.ne_of_lt (Heap.lt_size e)) e
  have F1 : Fr h₀ L h₁ m := F.keeps up
  have N1 : News h₀ L h₁ news := fun p hp => ⟨up _ _ (N p hp).1, (N p hp).2⟩
  show wpAny _ _ (assignInOrder [assign (.Name x px) (compEnvC scope cl C env), assign (.Name y py) (compEnvC scope cl C env)] [v, u]) _ _ _
  refine assignInOrder_cons ?_
  refine assignC F1 N1 hC U (fun h2 oC2 m3 tk2 F2 N2 hC2 hx2 _ => ?_) hx hkind
  refine assignInOrder_cons ?_
  refine assignC F2 N2 hC2 (updF_again U) (fun h3 oC3 m4 tk3 F3 N3 hC3 hy3 hz => ?_) hy hkind
  refine assignInOrder_nil ?_
  exact h h3 oC3 m4 tk3 F3 N3 hC3 ((hz x hxy).trans hx2) hy3
end
theorem tupsN_at {us : List (Addr × Obj)} {rU : List Value} {kvs : List (Str × Str)} (T : TupsN us rU kvs) {i : Nat} {k v : Str} (e : kvs[i]? = some (k, v)) : ∃ a t u, rU[i]? = some (.ref a) ∧ (a, tupO #[.str k t, .str v u]) ∈ us := by
  induction T with
  | nil => simp at e
  | @snoc us rs kvs a k' v' t u T ih =>
    have hl := T.len.1
    by_cases h : i < kvs.length
    · rw [List.getElem?_append_left h] at e
      obtain ⟨a', t', u', h1, h2⟩ := ih e
      exact ⟨a', t', u', by rw [List.getElem?_append_left (by rw [hl]; exact h)]; exact h1, List.mem_append_left _ h2⟩
    · have hi : i = kvs.length := by
        have := (List.getElem?_eq_some_iff.mp e).1
        simp only [List.length_append, List.length_cons, List.length_nil] at this
        omega
      subst hi
      rw [List.getElem?_append_right (Nat.le_refl _), Nat.sub_self, List.getElem?_cons_zero, Option.some.injEq, Prod.mk.injEq] at e
      obtain ⟨rfl, rfl⟩ := e
      refine ⟨a, t, u, ?_, List.mem_append_right _ List.mem_cons_self⟩
      rw [List.getElem?_append_right (Nat.le_of_eq hl), hl, Nat.sub_self, List.getElem?_cons_zero]
theorem swN_beq : ∀ j < 5, ∀ k < 5, (swN j == swN k) = decide (j = k) := by decide +kernel
inductive WJ (g : Heap) (L D C I1 D1 : Addr) (ups : List Nat) (V : List (Addr × Obj)) (m : Str → Option Value) (s : Shared) (n : Nat) (s' : Shared) : Prop
  | mk (i : Nat) (h : Heap) (tk : Nat) (m₂ : Str → Option Value) (ys : List Value) (o oC : Obj) (dn : Nat) (_ : s' = { s with heap := h, toks := tk }) (_ : Fr g L h m) (_ : Lit o D1 i) (_ : News g L h ((I1, o) :: (C, oC) :: (D, W.listOf ys.toArray dn) :: V)) (_ : LCg.NsObj oC m₂) (_ : IntsAre ys (castL (ups.take i))) (_ : i + n = ups.length + 1) (_ : i ≤ ups.length) : WJ g L D C I1 D1 ups V m s n s'
inductive WI (g : Heap) (L D C I1 I2 : Addr) (o1 : Obj) (ups : List Nat) (k : Nat) (pre : List Nat) (V : List (Addr × Obj)) (m : Str → Option Value) (s : Shared) (n : Nat) (s' : Shared) : Prop
  | mk (j : Nat) (h : Heap) (tk : Nat) (m₂ : Str → Option Value) (ys : List Value) (oC : Obj) (dn : Nat) (tn : Tok) (_ : s' = { s with heap := h, toks := tk }) (_ : Fr g L h m) (_ : News g L h ((I2, rgO (0 + (j : Int)) (5 - j)) :: (I1, o1) :: (C, oC) :: (D, W.listOf ys.toArray dn) :: V)) (_ : LCg.NsObj oC m₂) (_ : m₂ (Str.ofString "name") = some (.str (swN k) tn)) (_ : IntsAre ys (castL (pre ++ if k < j then [k] else []))) (_ : j + n = 6) (_ : j ≤ 5) : WI g L D C I1 I2 o1 ups k pre V m s n s'
theorem row123 : True := by
  k_with "subscriptTail Name Name ref int" => (k_here; k_dflt (refine' item_SE ?Nr123 ?mr123 ?ir123 ?xr123 ?h0r123 ?h1r123 ?_; (case Nr123 => k_asm); (case mr123 => k_mem); (case ir123 => assumption); (case xr123 => assumption); (case h0r123 => omega); (case h1r123 => omega); ((first | tm_at "clo1" | refine fun _ => ?_))))
  trivial
section
variable {w : World} {A : Around} {base g : Heap} {fr : List Env} {mg mb : Str → Option Value} {p : Program} {loose : List Str} {mean : ExcName → Option Value} {s : Shared} {L fa : Addr} {cd : Value} {m : Str → Option Value} {Q : Flow → Shared → Prop} {E : Value → Shared → Prop} {rest : List Stmt}
  (B : Below A base fr g) (X : Frag.In (hd.heap_39 w.params) g) (T : Top p loose mean mg mb g)
include B X T
end
namespace Cseg_h1
noncomputable def Sta (w : World) (A : Around) (base g : Heap) (fr : List Env) (mg mb : Str → Option Value) (p : Program) (loose : List Str) (mean : ExcName → Option Value) (s : Shared) (L fa : Addr) (cd : Value) (m : Str → Option Value) (Q : Flow → Shared → Prop) (E : Value → Shared → Prop) (rest : List Stmt) (D1 nD : Addr) (rU nv : List Value) (n1 nn : Nat) (us V : List (Addr × Obj)) (ups qu : List Nat) (jn : Nat → Str) (c2 : Obj) (fs : List (Str × Value)) : Prop := ∀ (B : Below A base fr g) (X : Frag.In (hd.heap_39 w.params) g) (T : Top p loose mean mg mb g) (hE : PassesOwn (model Challenge.rw_st0024_01.row.prog w) (A.deeper (lawEnv L fa cd)) (lawEnv L fa cd) E) (hh : A.handled = none) (hroom : A.depth + 60 < recursionLimit) (hu : A.units + 600 < cLine) (hn : StrsAre nv [Str.ofString "a", Str.ofString "B c", Str.ofString "\"", Str.ofString "\\", Str.ofString "#"]) (e2 : c2.data = .cell (some (.ref nD))) (m2 : (L + 1 + 1, c2) ∈ V) (mn : (nD, W.listOf nv.toArray nn) ∈ V) (m1 : (D1, W.listOf rU.toArray n1) ∈ V) (hT : TupsN us rU (ups.map (kvU jn))) (hs : Sub us V) (h5 : Five ups qu) (F0 : Fr g L s.heap m) (hm : ∀ p ∈ (Str.ofString "items", Value.ref D1) :: fs, m p.1 = some p.2) (hfs : ∀ p ∈ fs, p.1 ≠ Str.ofString "who") (N : News g L s.heap V) (h : ∀ h' tk WD (wv : List Value) wn m', Fr g L h' m' → (∀ p ∈ (Str.ofString "who", Value.ref WD) :: (Str.ofString "items", Value.ref D1) :: fs, m' p.1 = some p.2) → IntsAre wv (castL ups) → OffT WD V →
    News g L h' ((WD, W.listOf wv.toArray wn) :: V) →
    wpAny (model Challenge.rw_st0024_01.row.prog w) (A.deeper (lawEnv L fa cd)) (execs rest (lawEnv L fa cd)) Q E { s with heap := h', toks := tk }), wpAny (model Challenge.rw_st0024_01.row.prog w) (A.deeper (lawEnv L fa cd)) (execs (ob1s.1 :: rest) (lawEnv L fa cd)) Q E s
noncomputable def P0 (z : World × Around × Heap × Heap × (List Env) × (Str → Option Value) × (Str → Option Value) × Program × (List Str) × (ExcName → Option Value) × Shared × Addr × Addr × Value × (Str → Option Value) × (Flow → Shared → Prop) × (Value → Shared → Prop) × (List Stmt) × Addr × Addr × (List Value) × (List Value) × Nat × Nat × (List (Addr × Obj)) × (List (Addr × Obj)) × (List Nat) × (List Nat) × (Nat → Str) × Obj × (List (Str × Value))) : Prop := Sta (z.1) (z.2.1) (z.2.2.1) (z.2.2.2.1) (z.2.2.2.2.1) (z.2.2.2.2.2.1) (z.2.2.2.2.2.2.1) (z.2.2.2.2.2.2.2.1) (z.2.2.2.2.2.2.2.2.1) (z.2.2.2.2.2.2.2.2.2.1) (z.2.2.2.2.2.2.2.2.2.2.1) (z.2.2.2.2.2.2.2.2.2.2.2.1) (z.2.2.2.2.2.2.2.2.2.2.2.2.1) (z.2.2.2.2.2.2.2.2.2.2.2.2.2.1) (z.2.2.2.2.2.2.2.2.2.2.2.2.2.2.1) (z.2.2.2.2.2.2.2.2.2.2.2.2.2.2.2.1) (z.2.2.2.2.2.2.2.2.2.2.2.2.2.2.2.2.1) (z.2.2.2.2.2.2.2.2.2.2.2.2.2.2.2.2.2.1) (z.2.2.2.2.2.2.2.2.2.2.2.2.2.2.2.2.2.2.1) (z.2.2.2.2.2.2.2.2.2.2.2.2.2.2.2.2.2.2.2.1) (z.2.2.2.2.2.2.2.2.2.2.2.2.2.2.2.2.2.2.2.2.1) (z.2.2.2.2.2.2.2.2.2.2.2.2.2.2.2.2.2.2.2.2.2.1) (z.2.2.2.2.2.2.2.2.2.2.2.2.2.2.2.2.2.2.2.2.2.2.1) (z.2.2.2.2.2.2.2.2.2.2.2.2.2.2.2.2.2.2.2.2.2.2.2.1) (z.2.2.2.2.2.2.2.2.2.2.2.2.2.2.2.2.2.2.2.2.2.2.2.2.1) (z.2.2.2.2.2.2.2.2.2.2.2.2.2.2.2.2.2.2.2.2.2.2.2.2.2.1) (z.2.2.2.2.2.2.2.2.2.2.2.2.2.2.2.2.2.2.2.2.2.2.2.2.2.2.1) (z.2.2.2.2.2.2.2.2.2.2.2.2.2.2.2.2.2.2.2.2.2.2.2.2.2.2.2.1) (z.2.2.2.2.2.2.2.2.2.2.2.2.2.2.2.2.2.2.2.2.2.2.2.2.2.2.2.2.1) (z.2.2.2.2.2.2.2.2.2.2.2.2.2.2.2.2.2.2.2.2.2.2.2.2.2.2.2.2.2.1) (z.2.2.2.2.2.2.2.2.2.2.2.2.2.2.2.2.2.2.2.2.2.2.2.2.2.2.2.2.2.2)
noncomputable def Z := @Classical.epsilon _ ⟨(w00, A00, default, default, [], (fun _ => none), (fun _ => none), default, [], (fun _ => none), s00, 0, 0, .none, (fun _ => none), (fun _ _ => True), (fun _ _ => True), [], 0, 0, [], [], 0, 0, [], [], [], [], (fun _ => default), default, [])⟩ fun z => ¬ P0 z
@[irreducible] noncomputable def w := Z.1
@[irreducible] noncomputable def A := Z.2.1
@[irreducible] noncomputable def base := Z.2.2.1
@[irreducible] noncomputable def g := Z.2.2.2.1
@[irreducible] noncomputable def fr := Z.2.2.2.2.1
@[irreducible] noncomputable def mg := Z.2.2.2.2.2.1
@[irreducible] noncomputable def mb := Z.2.2.2.2.2.2.1
@[irreducible] noncomputable def p := Z.2.2.2.2.2.2.2.1
@[irreducible] noncomputable def loose := Z.2.2.2.2.2.2.2.2.1
@[irreducible] noncomputable def mean := Z.2.2.2.2.2.2.2.2.2.1
@[irreducible] noncomputable def s := Z.2.2.2.2.2.2.2.2.2.2.1
@[irreducible] noncomputable def L := Z.2.2.2.2.2.2.2.2.2.2.2.1
@[irreducible] noncomputable def fa := Z.2.2.2.2.2.2.2.2.2.2.2.2.1
@[irreducible] noncomputable def cd := Z.2.2.2.2.2.2.2.2.2.2.2.2.2.1
@[irreducible] noncomputable def m := Z.2.2.2.2.2.2.2.2.2.2.2.2.2.2.1
@[irreducible] noncomputable def Q := Z.2.2.2.2.2.2.2.2.2.2.2.2.2.2.2.1
@[irreducible] noncomputable def E := Z.2.2.2.2.2.2.2.2.2.2.2.2.2.2.2.2.1
@[irreducible] noncomputable def rest := Z.2.2.2.2.2.2.2.2.2.2.2.2.2.2.2.2.2.1
@[irreducible] noncomputable def D1 := Z.2.2.2.2.2.2.2.2.2.2.2.2.2.2.2.2.2.2.1
@[irreducible] noncomputable def nD := Z.2.2.2.2.2.2.2.2.2.2.2.2.2.2.2.2.2.2.2.1
@[irreducible] noncomputable def rU := Z.2.2.2.2.2.2.2.2.2.2.2.2.2.2.2.2.2.2.2.2.1
@[irreducible] noncomputable def nv := Z.2.2.2.2.2.2.2.2.2.2.2.2.2.2.2.2.2.2.2.2.2.1
@[irreducible] noncomputable def n1 := Z.2.2.2.2.2.2.2.2.2.2.2.2.2.2.2.2.2.2.2.2.2.2.1
@[irreducible] noncomputable def nn := Z.2.2.2.2.2.2.2.2.2.2.2.2.2.2.2.2.2.2.2.2.2.2.2.1
@[irreducible] noncomputable def us := Z.2.2.2.2.2.2.2.2.2.2.2.2.2.2.2.2.2.2.2.2.2.2.2.2.1
@[irreducible] noncomputable def V := Z.2.2.2.2.2.2.2.2.2.2.2.2.2.2.2.2.2.2.2.2.2.2.2.2.2.1
@[irreducible] noncomputable def ups := Z.2.2.2.2.2.2.2.2.2.2.2.2.2.2.2.2.2.2.2.2.2.2.2.2.2.2.1
@[irreducible] noncomputable def qu := Z.2.2.2.2.2.2.2.2.2.2.2.2.2.2.2.2.2.2.2.2.2.2.2.2.2.2.2.1
@[irreducible] noncomputable def jn := Z.2.2.2.2.2.2.2.2.2.2.2.2.2.2.2.2.2.2.2.2.2.2.2.2.2.2.2.2.1
@[irreducible] noncomputable def c2 := Z.2.2.2.2.2.2.2.2.2.2.2.2.2.2.2.2.2.2.2.2.2.2.2.2.2.2.2.2.2.1
@[irreducible] noncomputable def fs := Z.2.2.2.2.2.2.2.2.2.2.2.2.2.2.2.2.2.2.2.2.2.2.2.2.2.2.2.2.2.2
set_option maxHeartbeats 4000000 in
theorem key : Sta w A base g fr mg mb p loose mean s L fa cd m Q E rest D1 nD rU nv n1 nn us V ups qu jn c2 fs := fun B X T hE hh hroom hu hn e2 m2 mn m1 hT hs h5 F0 hm hfs N h => by
  revert X; k_fill; intro X
  have F1 := Fr.expose [(Str.ofString "items", Value.ref D1)] F0 (all_one (hm _ List.mem_cons_self))
  dsimp only [kstB] at F1
  clear F0
  dsimp only
  walk1
  refine comp2_A (h₀ := g) (L := L) (by rfl) (by with_unfolding_all rfl) (by rfl) (by rfl) (by with_unfolding_all rfl) (by decide) (by rfl) (by decide) ?_
  k_steps
  (rename Fr _ _ _ _ => F2)
  (rename News _ _ _ _ => N2)
  refine li_iter F2 N2 m1 ?_
  (tm_at "nmx3"; refine fun I1 o1 h1 => ?_)
  intro ho1 F3 N3 lI
  have oI : OffT I1 V := fun q hq => Nat.ne_of_gt (lI q hq)
  clear lI
  refine ⟨I1, _, _, _, rfl, F3, N3, self_lit ho1, ?_⟩
  (tm_at "nmx7"; refine fun C D oC m₂ h2 tk2 R => ?_)
  intro hfin hC F4 N4 l1 l2
  have oD : OffT D V := fun q hq => Nat.ne_of_gt (l1 q (List.mem_cons_of_mem _ hq))
  have lID : @LT.lt Nat _ I1 D := l1 (I1, _) List.mem_cons_self
  have oC' : OffT C V := fun q hq => Nat.ne_of_gt (Nat.lt_trans (l1 q (List.mem_cons_of_mem _ hq)) l2)
  clear l1
  have fS : FarT [I1, C, D] V := farT_cons oI (farT_cons oC' (farT_cons oD farT_nil))
  clear oI oC' oD F2 N2 F3 N3
  refine cl2_outer (WJ g L D C I1 D1 ups V _ s) ?_ (ups.length + 1) ⟨0, h2, tk2, m₂, [], o1, oC, 0, rfl, F4, ho1, News.sub' N4 (by k_extra "gs_sub"), hC, .nil, by omega, by omega⟩
  clear F4 N4 hC oC ho1 o1
  rintro n s' ⟨i, h', tk', m₂, ys, o, oC, dn, rfl, F, ho, N, hC, hy, hi, hi5⟩
  have lU := hT.len.1
  rw [List.length_map] at lU
  have lc := h5.card
  by_cases hlt : i < ups.length
  · obtain ⟨k, hk1, -, hk3, hk4⟩ := drop_cons hlt
    have hk5 : k < 5 := h5.2 k (List.mem_append_left _ hk4)
    obtain ⟨tu, tt, tv, hr1, hr2⟩ := tupsN_at hT (i := i) (k := swN k) (v := jn k) (by rw [List.getElem?_map, hk1]; rfl)
    (revert n i h' tk' m₂ ys o oC dn k tu tt tv; tm_at "nmx9"; refine fun n i h' tk' m₂ ys o oC dn => ?_; k_extra "kf"; tm_at "nmx1"; refine fun k => ?_; k_extra "kf"; tm_at "nmx3"; refine fun tu tt tv => ?_; k_extra "kw")
    refine li_next F N ?_ ho (List.mem_cons_of_mem _ (List.mem_cons_of_mem _ m1)) hr1 ?_
    · (dsimp only [List.map]); k_extra "gs_offA"
    (tm_at "nmx2"; refine fun o' h'' => ?_)
    intro ho' F' N'
    clear F N ho
    dsimp only
    refine wpAny_letOwnedTupleGo_listiter ⟨_, (N' _ List.mem_cons_self).1, ho'⟩ ?_
    refine assignT2 (by assumption) F' N' hC (by k_updF) ⟨_, (N' (tu, _) (List.mem_cons_of_mem _ (List.mem_cons_of_mem _ (List.mem_cons_of_mem _ (hs _ hr2))))).1, rfl, _, rfl⟩ ?_
    (tm_at "nmx4"; refine fun h3 oC' m₃ tk3 => ?_)
    intro F3 N3 hC3 hnm _
    clear F' N' hC
    k_steps
    (rename Fr _ _ _ _ => F2)
    (rename News _ _ _ _ => N2)
    refine rg_iter F2 N2 (by assumption) (by decide) (n := 5) (by rfl) ?_
    (tm_at "nmx2"; refine fun I2 h4 => ?_)
    intro F4 N4 lI
    have oI2 : OffT I2 V := fun q hq => Nat.ne_of_gt (lI q (by k_extra "gs_mem"))
    have fU2 : FarT [I2, I1, C, D] V := farT_cons oI2 fS
    k_lt lI
    clear oI2
    refine cl2_startS self_rg N4 ?_
    have N5 := News.sub' (l := (I2, rgO ((0 : Int) + ((0 : Nat) : Int)) 5) :: (I1, o') :: (C, oC') :: (D, W.listOf (ys : List Value).toArray dn) :: V) N4 (by k_extra "gs_sub")
    refine cl2_innerD (WI g L D C I1 I2 o' ups k (ups.take i) V _ s) ?_ 6 ⟨0, h4, _, m₃, ys, oC', dn, _, rfl, F4, N5, hC3, hnm, by rw [if_neg (Nat.not_lt_zero _), List.append_nil]; exact hy, by omega, by omega⟩
    clear F2 N2 F4 N4 N5 hC3 hnm hy
    rintro nn2 s' ⟨j, h', tk', m₂, ys, oC, dn, tn, rfl, F, N, hC, hnm, hy, hj, hj3⟩
    by_cases hj35 : j < 5
    · obtain ⟨r3, hr3⟩ : ∃ r, 5 - j = r + 1 := ex_sub (by with_reducible assumption)
      rw [hr3] at N
      (revert nn2 j h' tk' m₂ ys oC dn tn r3; tm_at "nmx9"; refine fun nn2 j h' tk' m₂ ys oC dn tn => ?_; k_extra "kf"; tm_at "nmx1"; refine fun r3 => ?_; k_extra "kw")
      refine rg_nextA F N ?_ ?_
      · (dsimp only [List.map]); k_extra "gs_offA"
      (tm_at "nmx3"; refine fun t3 h'' tk'' => ?_)
      intro F' N'
      clear F N
      dsimp only
      refine assignC F' N' hC (by k_updF) ?_
      (tm_at "nmx4"; refine fun h4 oC' m₃ tk4 => ?_)
      intro F3 N3 hC3 hkj hz
      have hk3 : (m₃ : Str → Option Value) (Str.ofString "name") = some (.str (swN k) tn) := by rw [hz _ (by decide)]; exact hnm
      clear F' N' hC hz hnm m₂
      refine oneIf ?_
      have xN : [Str.ofString "a", Str.ofString "B c", Str.ofString "\"", Str.ofString "\\", Str.ofString "#"][((0 : Int) + ((j : Nat) : Int)).toNat]? = some (nm j) := by rw [Int.zero_add]; exact nm_at j hj35
      have hsw : Txt.swapcase (nm j) = swN j := rfl
      have hln := (swN_len j hj35).2
      have ly : (ys : List Value).length ≤ 1000 := by
        have := hy.length
        simp only [castL, List.length_map, List.length_append, List.length_take] at this
        split at this <;> simp only [List.length_cons, List.length_nil] at this <;> omega
      by_cases hjk : (j : Nat) = k
      · have hb : (swN j == swN k) = true := by rw [swN_beq j hj35 k hk5]; simpa using hjk
        k_steps
        (rename Fr _ _ _ _ => F4)
        (rename News _ _ _ _ => N4)
        simp only [List.push_toArray] at N4
        refine ⟨nn2 - 1, by omega, j + 1, _, _, m₃, (ys : List Value) ++ [.int ((0 : Int) + ((j : Nat) : Int)) t3], oC', dn + 1, tn, rfl, F4, News.sub' N4 ?_, hC3, hk3, who_yes hjk hy, by omega, by omega⟩
        rw [show 5 - (j + 1) = r3 by omega, show ((0 : Int) + ((j + 1 : Nat) : Int)) = 0 + ((j : Nat) : Int) + 1 by omega]
        exact Sub.rfl'
      · have hb : (swN j == swN k) = false := by rw [swN_beq j hj35 k hk5]; simpa using hjk
        k_steps
        refine ⟨nn2 - 1, by omega, j + 1, _, _, m₃, ys, oC', dn, tn, rfl, F3, News.sub' N3 ?_, hC3, hk3, who_no hjk hy, by omega, by omega⟩
        rw [show 5 - (j + 1) = r3 by omega, show ((0 : Int) + ((j + 1 : Nat) : Int)) = 0 + ((j : Nat) : Int) + 1 by omega]
        exact Sub.rfl'
    · obtain rfl : j = 5 := by omega
      (revert nn2 h' tk' m₂ ys oC dn tn; tm_at "nmx8"; refine fun nn2 h' tk' m₂ ys oC dn tn => ?_; k_extra "kw")
      refine rg_doneA (by assumption) F N ?_ ?_
      · (dsimp only [List.map]); k_extra "gs_offA"
      (tm_at "nmx1"; refine fun h'' => ?_)
      intro F' N'
      clear F N
      dsimp only
      refine ⟨n - 1, by omega, i + 1, _, _, m₂, ys, o', oC, dn, rfl, F', ho', N', hC, ?_, by omega, by omega⟩
      rw [if_pos hk5] at hy
      rw [hk3]; exact hy
  · obtain rfl : i = ups.length := by omega
    (revert n h' tk' m₂ ys o oC dn; tm_at "nmx8"; refine fun n h' tk' m₂ ys o oC dn => ?_; k_extra "kw")
    refine li_done (by assumption) F N ?_ ho (List.mem_cons_of_mem _ (List.mem_cons_of_mem _ m1)) (by rw [List.getElem?_eq_none_iff]; omega) ?_
    · (dsimp only [List.map]); k_extra "gs_offA"
    (tm_at "nmx1"; refine fun h'' => ?_)
    intro F' N'
    clear F N
    dsimp only
    refine hfin oC m₂ ys dn V h'' _ hC F' N' ?_ ?_
    · k_extra "gs_offA"
    · (tm_at "nmx2"; refine fun h3 tk3 => ?_)
      intro F3 N3
      clear F' N' hfin
      rw [List.take_length] at hy
      dsimp only
      k_steps
      refine h h3 tk3 D ys dn _ F3 (kst_new (all_one (hm _ List.mem_cons_self)) hm ?_) hy (FarT.elim' fS (by simp)) N3
      intro p hp
      rcases List.mem_cons.mp hp with rfl | hp
      · exact ne_items
      · exact hfs p hp
theorem zeq : (w, A, base, g, fr, mg, mb, p, loose, mean, s, L, fa, cd, m, Q, E, rest, D1, nD, rU, nv, n1, nn, us, V, ups, qu, jn, c2, fs) = Z := by with_unfolding_all rfl
end Cseg_h1
set_option maxHeartbeats 4000000 in
theorem seg_h1 {w : World} {A : Around} {base g : Heap} {fr : List Env} {mg mb : Str → Option Value} {p : Program} {loose : List Str} {mean : ExcName → Option Value} {s : Shared} {L fa : Addr} {cd : Value} {m : Str → Option Value} {Q : Flow → Shared → Prop} {E : Value → Shared → Prop} {rest : List Stmt} {D1 nD : Addr} {rU nv : List Value} {n1 nn : Nat} {us V : List (Addr × Obj)} {ups qu : List Nat} {jn : Nat → Str} {c2 : Obj} {fs : List (Str × Value)} : Cseg_h1.Sta w A base g fr mg mb p loose mean s L fa cd m Q E rest D1 nD rU nv n1 nn us V ups qu jn c2 fs :=
  hilb Cseg_h1.P0 Cseg_h1.Z rfl (Eq.subst (motive := Cseg_h1.P0) Cseg_h1.zeq Cseg_h1.key) (w, A, base, g, fr, mg, mb, p, loose, mean, s, L, fa, cd, m, Q, E, rest, D1, nD, rU, nv, n1, nn, us, V, ups, qu, jn, c2, fs)
section
end
end Mine

namespace Mine
open PySem.Calls
local macro_rules | `(tactic| walk_at "CompEnd") => `(tactic| (refine stop_in ?_))
/-- what sorting makes of it -/
noncomputable def SortTo (a b : List Int) : Prop := ∀ ns' : List Int, ns'.Perm a → ns'.Pairwise (· ≤ ·) → ns' = b
theorem SortTo.go {a b ns' : List Int} (h : SortTo a b) (hp : ns'.Perm a) (hs : ns'.Pairwise (· ≤ ·)) : ns' = b := h ns' hp hs
noncomputable def kvsU (P : Par) (ups : List Nat) : List (Str × Str) := ups.map (kvU fun k => Txt.join (Str.ofString "") (allV (lwN k) (kvTo P 5)))
theorem tail_mid {as : List Addr} {ts st U : List (Addr × Obj)} {p : Addr × Obj} (hU : U = ts ++ st) (h : FarT as U) (o : FarT as [p]) : FarT as ((ts ++ [p]) ++ st) := fun a ha q hq => by
  simp only [List.mem_append, List.mem_singleton] at hq
  rcases hq with (h' | h') | h'
  · exact h a ha q (hU ▸ List.mem_append_left _ h')
  · exact o a ha q (by rw [h']; exact List.mem_cons_self)
  · exact h a ha q (hU ▸ List.mem_append_right _ h')
theorem sub_mid {p p1 p2 p3 p4 : Addr × Obj} {ts st : List (Addr × Obj)} : Sub ((ts ++ [p]) ++ st) (p :: p1 :: p2 :: p3 :: p4 :: (ts ++ st)) := fun q hq => by
  simp only [List.mem_append, List.mem_cons, List.not_mem_nil, or_false] at hq ⊢
  rcases hq with (h | h) | h
  · exact .inr (.inr (.inr (.inr (.inr (.inl h)))))
  · exact .inl h
  · exact .inr (.inr (.inr (.inr (.inr (.inr h)))))
theorem kvsU_take (P : Par) {ups : List Nat} {i k : Nat} (hk : ups[i]? = some k) (hk5 : k < 5) : kvsU P (ups.take (i + 1)) = kvsU P (ups.take i) ++ [(swN k, Txt.join (Str.ofString "") ((P.Vn k).map (caseN (P.cs k))))] := by
  unfold kvsU
  rw [List.take_add_one, hk, List.map_append]
  show _ = _
  rw [← allV_kv5 P hk5]; rfl
theorem sw_ok : ∀ k < 5, PyData.strOk (swN k) = true := by decide +kernel
theorem case_lt (b : Bool) : ∀ x < 5, ∀ c ∈ (caseN b x).cps.toList, c < 0x110000 := by cases b <;> decide +kernel
theorem join_ok {l : List Str} (h : ∀ x ∈ l, ∀ c ∈ x.cps.toList, c < 0x110000) : PyData.strOk (Txt.join (Str.ofString "") l) = true := by
  unfold PyData.strOk
  rw [Array.all_eq_true_iff_forall_mem]
  intro c hc
  have hc' : c ∈ (Txt.join (Str.ofString "") l).cps.toList := by simpa using hc
  rw [eq_of_beq (join_plain_closes (Str.ofString "") _), join_chars] at hc'
  obtain ⟨x, hx, hcx⟩ := List.mem_flatMap.mp hc'
  exact decide_eq_true (h x hx c hcx)
theorem kvsU_ok {P : Par} (O : ParOk P) {ups qu : List Nat} (h5 : Five ups qu) : ∀ p ∈ kvsU P ups, PyData.strOk p.1 = true ∧ PyData.strOk p.2 = true := fun p hp => by
  obtain ⟨k, hk, rfl⟩ := List.mem_map.mp hp
  have hk5 : k < 5 := h5.2 k (List.mem_append_left _ hk)
  refine ⟨sw_ok k hk5, ?_⟩
  show PyData.strOk (Txt.join (Str.ofString "") (allV (lwN k) (kvTo P 5))) = true
  rw [allV_kv5 P hk5]
  refine join_ok fun x hx c hc => ?_
  obtain ⟨y, hy, rfl⟩ := List.mem_map.mp hx
  exact case_lt _ y (O.v5 k y hy) c hc
theorem tups_in {g h : Heap} {L : Addr} {us news : List (Addr × Obj)} {rU : List Value} {kvs : List (Str × Str)} (T : TupsN us rU kvs) (N : News g L h news) (hs : Sub us news) : TupsIn h rU kvs := tupsIn_of T fun p hp => (N p (hs p hp)).1
theorem castL_val {vs : List Value} {l : List Nat} {i k : Nat} {v : Value} (h : IntsAre vs (castL l)) (e : vs.toArray[i]? = some v) (hk : l[i]? = some k) : ∃ t, v = .int (k : Int) t := by
  obtain ⟨t, h1⟩ := IntsAre.at' h (castL_at hk)
  have e' : vs[i]? = some v := by simpa using e
  rw [h1] at e'
  exact ⟨t, (Option.some.inj e').symm⟩
theorem farT_off3 {I C D : Addr} {l : List (Addr × Obj)} (h : LCg.Off3 I C D l) : FarT [I, C, D] l :=
  farT_cons (fun q hq => Ne.symm (h.mem q hq).1) (farT_cons (fun q hq => Ne.symm (h.mem q hq).2.1) (farT_cons (fun q hq => Ne.symm (h.mem q hq).2.2) farT_nil))
theorem off3_farT {I C D : Addr} {l : List (Addr × Obj)} (h : FarT [I, C, D] l) : LCg.Off3 I C D l :=
  LCg.Off3.of fun q hq => ⟨Ne.symm (h I (by simp) q hq), Ne.symm (h C (by simp) q hq), Ne.symm (h D (by simp) q hq)⟩
section
variable {prog : Program} {w : World} {A : Around} {E : Value → Shared → Prop} {s : Shared} {h₀ : Heap} {L : Addr} {m : Str → Option Value} {news : List (Addr × Obj)}
theorem strs_drop {vs : List Value} {ns : List Str} (h : StrsAre vs ns) : ∀ n, StrsAre (vs.drop n) (ns.drop n) := by
  induction h with
  | nil => intro n; rw [List.drop_nil, List.drop_nil]; exact .nil
  | cons x t h ih =>
    intro n
    cases n with
    | zero => exact .cons x t h
    | succ n => exact ih n
theorem strs_take {vs : List Value} {ns : List Str} (h : StrsAre vs ns) : ∀ n, StrsAre (vs.take n) (ns.take n) := by
  induction h with
  | nil => intro n; rw [List.take_nil, List.take_nil]; exact .nil
  | cons x t h ih =>
    intro n
    cases n with
    | zero => exact .nil
    | succ n => exact .cons x t (ih n)
theorem sliceS_K {value slice : PySem.Expr} {l : Addr} {vs : List Value} {ns zs : List Str} {n : Nat} {vl vu : Value} {a b : Int} {Q : Value → Shared → Prop} (F : Fr h₀ L s.heap m) (N : News h₀ L s.heap news) (hm : (l, W.listOf vs.toArray n) ∈ news) (hi : StrsAre vs ns) (pl : IsPart vl (some a)) (pu : IsPart vu (some b))
    (h0 : 0 ≤ a) (h2 : 0 ≤ b) (hb : b ≤ ns.length) (hn : ns.length ≤ 1000) (e : (ns.drop a.toNat).take (b - a).toNat = zs)
    (h : ∀ D ws h', StrsAre ws zs → Fr h₀ L h' m → News h₀ L h' ((D, W.listOf (List.toArray ws) 0) :: news) → (∀ p ∈ news, p.1 < D) → Q (.ref D) { s with heap := h' })
    (hs : subscripted slice false (.ref l) (.ref s.heap.objs.size) = operate [.ref s.heap.objs.size, .ref l] (getItem (.ref l) (.ref s.heap.objs.size))) (ht : ∀ r, letTemporaryGo value (.ref l) r = pure ()) :
    wpAny (model prog w) A (subscriptTail value slice (.ref l) (.ref s.heap.objs.size)) Q E { s with heap := s.heap.push { cls := .type "slice", data := .fields #[vl, vu, .none] } } := by
  have hl := StrsAre.length hi
  obtain ⟨a, rfl⟩ := Int.eq_ofNat_of_zero_le h0
  obtain ⟨b, rfl⟩ := Int.eq_ofNat_of_zero_le h2
  have hb' : b ≤ vs.length := hl ▸ Int.ofNat_le.mp hb
  rw [Int.toNat_natCast, Int.toNat_sub] at e
  refine kmk_slice F N (lst_N N hm) pl pu (fun D h' F' N' l1 => ?_) hs ht (by rw [sizeLine_eq, List.size_toArray]; omega)
  have eb : sliceBounds (some (a : Int)) (some (b : Int)) none vs.toArray.size = (((min a vs.toArray.size : Nat) : Int), ((b : Nat) : Int), 1) := by
    simp only [sliceBounds, Option.getD_none, show (1 : Int) > 0 by decide, if_true, if_neg (Int.not_lt.mpr (Int.natCast_nonneg a)), if_neg (Int.not_lt.mpr (Int.natCast_nonneg b)), List.size_toArray]
    rw [castMin, castMin, Nat.min_eq_left hb', Int.max_eq_right (Int.natCast_nonneg _), Int.max_eq_right (Int.natCast_nonneg _)]
  rw [kmk_pick_nat _ eb] at N'
  refine h D _ h' ?_ F' N' l1
  rw [← e, List.size_toArray]
  show StrsAre ((vs.drop (min a vs.length)).take (b - min a vs.length)) _
  rw [kmk_drop_min]
  by_cases ha : a ≤ vs.length
  · rw [Nat.min_eq_left ha]
    exact strs_take (strs_drop hi _) _
  · rw [List.drop_of_length_le (Nat.le_of_not_le ha), List.drop_of_length_le (hl ▸ Nat.le_of_not_le ha), List.take_nil, List.take_nil]; exact .nil
theorem sortT_K {l : Addr} {vs : List Value} {ns b : List Int} {n : Nat} {Q : Value → Shared → Prop} (F : Fr h₀ L s.heap m) (N : News h₀ L s.heap news) (hm : (l, W.listOf vs.toArray n) ∈ news) (hi : IntsAre vs ns) (h64 : vs.length < 64) (hS : SortTo ns b)
    (h : ∀ D e h' (vs' : List Value), IntsAre vs' b → Fr h₀ L h' m → News h₀ L h' ((D, W.listOf vs'.toArray e) :: news) → Q (.ref D) { s with heap := h' }) : wpAny (model prog w) A (call (.builtin "sorted") [.ref l]) Q E s := by
  refine sorted_N F N (lst_N N hm) hi h64 fun h' vs' ns' e F' N' hI' hp' hs' => ?_
  obtain rfl := hS.go hp' hs'
  exact h _ e h' vs' hI' F' N'
end
theorem row124 : True := by
  k_with "subscriptTail Name Slice ref ref" => (k_here; k_dflt (refine' sliceS_K ?Fr124 ?Nr124 ?mr124 ?ir124 ?pr124 ?qr124 ?h0r124 ?h2r124 ?hbr124 ?hnr124 ?er124 ?_ ?sr124 ?tr124; (case Fr124 => k_asm); (case Nr124 => k_asm); (case mr124 => k_mem); (case ir124 => assumption); (case pr124 => kmk_part); (case qr124 => kmk_part); (case h0r124 => omega); (case h2r124 => omega); (case hbr124 => omega); (case hnr124 => omega); (case er124 => assumption); (case sr124 => with_unfolding_all rfl); (case tr124 => kmk_pure)); ((first | tm_at "clo1" | refine fun D'q9 => ?_); (first | tm_at "clo1" | refine fun ws'q9 => ?_); (first | tm_at "clo1" | refine fun h'q9 => ?_); (first | tm_at "clo1" | refine fun sS'q9 => ?_); refine fun F'q9 => ?_; refine fun N'q9 => ?_; refine fun l1q9 => ?_); k_lt l1q9)
  trivial
theorem row125 : True := by
  k_with "call builtin:sorted" => (k_here; (with_reducible show wpAny _ _ (call (Value.builtin "sorted") [Value.ref _]) _ _ _); k_dflt (refine' sortT_K ?Fr125 ?Nr125 ?mr125 ?ir125 ?lr125 ?sr125 ?_; (case Fr125 => k_asm); (case Nr125 => k_asm); (case mr125 => k_mem); (case ir125 => assumption); (case lr125 => omega); (case sr125 => assumption)); ((first | tm_at "clo1" | refine fun D'q9 => ?_); (first | tm_at "clo1" | refine fun e'q9 => ?_); (first | tm_at "clo1" | refine fun h'q9 => ?_); (first | tm_at "clo1" | refine fun vs'q9 => ?_); (first | tm_at "clo1" | refine fun hI'q9 => ?_); refine fun F'q9 => ?_; refine fun N'q9 => ?_))
  trivial
theorem row126 : True := by
  k_with "compareOp NotEq ref ref" => (k_here; k_dflt (refine' neT_K ?Nr126 ?ar126 ?br126 ?ir126 ?jr126 ?kr126 ?ur126 ?_; (case Nr126 => k_asm); (case ar126 => k_mem); (case br126 => k_mem); (case ir126 => (refine tups_in (by assumption) (by assumption) ?_; (repeat (first | assumption | refine Sub.tail ?_)))); (case jr126 => (refine tups_in (by assumption) (by assumption) ?_; (repeat (first | assumption | refine Sub.tail ?_)))); (case kr126 => assumption); (case ur126 => (try simp only [units_under_make, Around.deeper_units]); omega)))
  trivial
theorem row127 : True := by
  k_with "compareOp NotEq ref ref" => (k_here; k_dflt (refine' neI_K ?Nr127 ?ar127 ?br127 ?ir127 ?jr127 ?ur127 ?_; (case Nr127 => k_asm); (case ar127 => k_mem); (case br127 => k_mem); (case ir127 => assumption); (case jr127 => assumption); (case ur127 => (try simp only [units_under_make, Around.deeper_units]); omega)))
  trivial
theorem row128 : True := by
  k_with "subscriptTail Name Name ref int" => (k_here; k_dflt (refine' item_SE ?Nr128 ?mr128 ?ir128 ?xr128 ?h0r128 ?h1r128 ?_; (case Nr128 => k_asm); (case mr128 => k_mem); (case ir128 => assumption); (case xr128 => assumption); (case h0r128 => omega); (case h1r128 => omega); ((first | tm_at "clo1" | refine fun _ => ?_))))
  trivial
section
variable {w : World} {A : Around} {base g : Heap} {fr : List Env} {mg mb : Str → Option Value} {p : Program} {loose : List Str} {mean : ExcName → Option Value} {s : Shared} {L fa : Addr} {cd : Value} {m : Str → Option Value} {Q : Flow → Shared → Prop} {E : Value → Shared → Prop} {rest : List Stmt}
  (B : Below A base fr g) (X : Frag.In (hd.heap_39 w.params) g) (T : Top p loose mean mg mb g)
include B X T
end
namespace Cseg_h2
noncomputable def Sta (w : World) (A : Around) (base g : Heap) (fr : List Env) (mg mb : Str → Option Value) (p : Program) (loose : List Str) (mean : ExcName → Option Value) (s : Shared) (L fa : Addr) (cd : Value) (m : Str → Option Value) (Q : Flow → Shared → Prop) (E : Value → Shared → Prop) (rest : List Stmt) (P : Par) (D1 nD WD wD lD : Addr) (rU nv wv wsv lv : List Value) (n1 nn wn wsn ln : Nat) (us V : List (Addr × Obj)) (ups qu bl : List Nat) (c2 c6 : Obj) (fs : List (Str × Value)) : Prop := ∀ (B : Below A base fr g) (X : Frag.In (hd.heap_39 w.params) g) (T : Top p loose mean mg mb g) (O : ParOk P) (hE : PassesOwn (model Challenge.rw_st0024_01.row.prog w) (A.deeper (lawEnv L fa cd)) (lawEnv L fa cd) E) (hh : A.handled = none) (hroom : A.depth + 60 < recursionLimit) (hu : A.units + 600 < cLine) (hn : StrsAre nv [Str.ofString "a", Str.ofString "B c", Str.ofString "\"", Str.ofString "\\", Str.ofString "#"]) (e2 : c2.data = .cell (some (.ref nD))) (m2 : (L + 1 + 1, c2) ∈ V) (mn : (nD, W.listOf nv.toArray nn) ∈ V) (hw : StrsAre wsv (wTo P 5)) (e6 : c6.data = .cell (some (.ref wD))) (m6 : (L + 1 + 1 + 1 + 1 + 1 + 1, c6) ∈ V) (mw : (wD, W.listOf wsv.toArray wsn) ∈ V) (m1 : (D1, W.listOf rU.toArray n1) ∈ V) (hT : TupsN us rU (kvsU P ups)) (hs : Sub us V) (h5 : Five ups qu) (mW : (WD, W.listOf wv.toArray wn) ∈ V) (hwv : IntsAre wv (castL ups)) (ml : (lD, W.listOf lv.toArray ln) ∈ V) (hl : IntsAre lv (castL bl)) (hS : SortTo (castL ups) (castL bl)) (F0 : Fr g L s.heap m) (hm : ∀ p ∈ (Str.ofString "items", Value.ref D1) :: (Str.ofString "who", Value.ref WD) :: (Str.ofString "least", Value.ref lD) :: fs, m p.1 = some p.2) (N : News g L s.heap V) (h : ∀ h' tk m', Fr g L h' m' → (∀ p ∈ (Str.ofString "items", Value.ref D1) :: (Str.ofString "who", Value.ref WD) :: (Str.ofString "least", Value.ref lD) :: fs, m' p.1 = some p.2) → News g L h' V →
    wpAny (model Challenge.rw_st0024_01.row.prog w) (A.deeper (lawEnv L fa cd)) (execs rest (lawEnv L fa cd)) Q E { s with heap := h', toks := tk }), wpAny (model Challenge.rw_st0024_01.row.prog w) (A.deeper (lawEnv L fa cd)) (execs (ob2s.1 :: ob3s.1 :: rest) (lawEnv L fa cd)) Q E s
noncomputable def P0 (z : World × Around × Heap × Heap × (List Env) × (Str → Option Value) × (Str → Option Value) × Program × (List Str) × (ExcName → Option Value) × Shared × Addr × Addr × Value × (Str → Option Value) × (Flow → Shared → Prop) × (Value → Shared → Prop) × (List Stmt) × Par × Addr × Addr × Addr × Addr × Addr × (List Value) × (List Value) × (List Value) × (List Value) × (List Value) × Nat × Nat × Nat × Nat × Nat × (List (Addr × Obj)) × (List (Addr × Obj)) × (List Nat) × (List Nat) × (List Nat) × Obj × Obj × (List (Str × Value))) : Prop := Sta (z.1) (z.2.1) (z.2.2.1) (z.2.2.2.1) (z.2.2.2.2.1) (z.2.2.2.2.2.1) (z.2.2.2.2.2.2.1) (z.2.2.2.2.2.2.2.1) (z.2.2.2.2.2.2.2.2.1) (z.2.2.2.2.2.2.2.2.2.1) (z.2.2.2.2.2.2.2.2.2.2.1) (z.2.2.2.2.2.2.2.2.2.2.2.1) (z.2.2.2.2.2.2.2.2.2.2.2.2.1) (z.2.2.2.2.2.2.2.2.2.2.2.2.2.1) (z.2.2.2.2.2.2.2.2.2.2.2.2.2.2.1) (z.2.2.2.2.2.2.2.2.2.2.2.2.2.2.2.1) (z.2.2.2.2.2.2.2.2.2.2.2.2.2.2.2.2.1) (z.2.2.2.2.2.2.2.2.2.2.2.2.2.2.2.2.2.1) (z.2.2.2.2.2.2.2.2.2.2.2.2.2.2.2.2.2.2.1) (z.2.2.2.2.2.2.2.2.2.2.2.2.2.2.2.2.2.2.2.1) (z.2.2.2.2.2.2.2.2.2.2.2.2.2.2.2.2.2.2.2.2.1) (z.2.2.2.2.2.2.2.2.2.2.2.2.2.2.2.2.2.2.2.2.2.1) (z.2.2.2.2.2.2.2.2.2.2.2.2.2.2.2.2.2.2.2.2.2.2.1) (z.2.2.2.2.2.2.2.2.2.2.2.2.2.2.2.2.2.2.2.2.2.2.2.1) (z.2.2.2.2.2.2.2.2.2.2.2.2.2.2.2.2.2.2.2.2.2.2.2.2.1) (z.2.2.2.2.2.2.2.2.2.2.2.2.2.2.2.2.2.2.2.2.2.2.2.2.2.1) (z.2.2.2.2.2.2.2.2.2.2.2.2.2.2.2.2.2.2.2.2.2.2.2.2.2.2.1) (z.2.2.2.2.2.2.2.2.2.2.2.2.2.2.2.2.2.2.2.2.2.2.2.2.2.2.2.1) (z.2.2.2.2.2.2.2.2.2.2.2.2.2.2.2.2.2.2.2.2.2.2.2.2.2.2.2.2.1) (z.2.2.2.2.2.2.2.2.2.2.2.2.2.2.2.2.2.2.2.2.2.2.2.2.2.2.2.2.2.1) (z.2.2.2.2.2.2.2.2.2.2.2.2.2.2.2.2.2.2.2.2.2.2.2.2.2.2.2.2.2.2.1) (z.2.2.2.2.2.2.2.2.2.2.2.2.2.2.2.2.2.2.2.2.2.2.2.2.2.2.2.2.2.2.2.1) (z.2.2.2.2.2.2.2.2.2.2.2.2.2.2.2.2.2.2.2.2.2.2.2.2.2.2.2.2.2.2.2.2.1) (z.2.2.2.2.2.2.2.2.2.2.2.2.2.2.2.2.2.2.2.2.2.2.2.2.2.2.2.2.2.2.2.2.2.1) (z.2.2.2.2.2.2.2.2.2.2.2.2.2.2.2.2.2.2.2.2.2.2.2.2.2.2.2.2.2.2.2.2.2.2.1) (z.2.2.2.2.2.2.2.2.2.2.2.2.2.2.2.2.2.2.2.2.2.2.2.2.2.2.2.2.2.2.2.2.2.2.2.1) (z.2.2.2.2.2.2.2.2.2.2.2.2.2.2.2.2.2.2.2.2.2.2.2.2.2.2.2.2.2.2.2.2.2.2.2.2.1) (z.2.2.2.2.2.2.2.2.2.2.2.2.2.2.2.2.2.2.2.2.2.2.2.2.2.2.2.2.2.2.2.2.2.2.2.2.2.1) (z.2.2.2.2.2.2.2.2.2.2.2.2.2.2.2.2.2.2.2.2.2.2.2.2.2.2.2.2.2.2.2.2.2.2.2.2.2.2.1) (z.2.2.2.2.2.2.2.2.2.2.2.2.2.2.2.2.2.2.2.2.2.2.2.2.2.2.2.2.2.2.2.2.2.2.2.2.2.2.2.1) (z.2.2.2.2.2.2.2.2.2.2.2.2.2.2.2.2.2.2.2.2.2.2.2.2.2.2.2.2.2.2.2.2.2.2.2.2.2.2.2.2.1) (z.2.2.2.2.2.2.2.2.2.2.2.2.2.2.2.2.2.2.2.2.2.2.2.2.2.2.2.2.2.2.2.2.2.2.2.2.2.2.2.2.2)
noncomputable def Z := @Classical.epsilon _ ⟨(w00, A00, default, default, [], (fun _ => none), (fun _ => none), default, [], (fun _ => none), s00, 0, 0, .none, (fun _ => none), (fun _ _ => True), (fun _ _ => True), [], par00, 0, 0, 0, 0, 0, [], [], [], [], [], 0, 0, 0, 0, 0, [], [], [], [], [], default, default, [])⟩ fun z => ¬ P0 z
@[irreducible] noncomputable def w := Z.1
@[irreducible] noncomputable def A := Z.2.1
@[irreducible] noncomputable def base := Z.2.2.1
@[irreducible] noncomputable def g := Z.2.2.2.1
@[irreducible] noncomputable def fr := Z.2.2.2.2.1
@[irreducible] noncomputable def mg := Z.2.2.2.2.2.1
@[irreducible] noncomputable def mb := Z.2.2.2.2.2.2.1
@[irreducible] noncomputable def p := Z.2.2.2.2.2.2.2.1
@[irreducible] noncomputable def loose := Z.2.2.2.2.2.2.2.2.1
@[irreducible] noncomputable def mean := Z.2.2.2.2.2.2.2.2.2.1
@[irreducible] noncomputable def s := Z.2.2.2.2.2.2.2.2.2.2.1
@[irreducible] noncomputable def L := Z.2.2.2.2.2.2.2.2.2.2.2.1
@[irreducible] noncomputable def fa := Z.2.2.2.2.2.2.2.2.2.2.2.2.1
@[irreducible] noncomputable def cd := Z.2.2.2.2.2.2.2.2.2.2.2.2.2.1
@[irreducible] noncomputable def m := Z.2.2.2.2.2.2.2.2.2.2.2.2.2.2.1
@[irreducible] noncomputable def Q := Z.2.2.2.2.2.2.2.2.2.2.2.2.2.2.2.1
@[irreducible] noncomputable def E := Z.2.2.2.2.2.2.2.2.2.2.2.2.2.2.2.2.1
@[irreducible] noncomputable def rest := Z.2.2.2.2.2.2.2.2.2.2.2.2.2.2.2.2.2.1
@[irreducible] noncomputable def P := Z.2.2.2.2.2.2.2.2.2.2.2.2.2.2.2.2.2.2.1
@[irreducible] noncomputable def D1 := Z.2.2.2.2.2.2.2.2.2.2.2.2.2.2.2.2.2.2.2.1
@[irreducible] noncomputable def nD := Z.2.2.2.2.2.2.2.2.2.2.2.2.2.2.2.2.2.2.2.2.1
@[irreducible] noncomputable def WD := Z.2.2.2.2.2.2.2.2.2.2.2.2.2.2.2.2.2.2.2.2.2.1
@[irreducible] noncomputable def wD := Z.2.2.2.2.2.2.2.2.2.2.2.2.2.2.2.2.2.2.2.2.2.2.1
@[irreducible] noncomputable def lD := Z.2.2.2.2.2.2.2.2.2.2.2.2.2.2.2.2.2.2.2.2.2.2.2.1
@[irreducible] noncomputable def rU := Z.2.2.2.2.2.2.2.2.2.2.2.2.2.2.2.2.2.2.2.2.2.2.2.2.1
@[irreducible] noncomputable def nv := Z.2.2.2.2.2.2.2.2.2.2.2.2.2.2.2.2.2.2.2.2.2.2.2.2.2.1
@[irreducible] noncomputable def wv := Z.2.2.2.2.2.2.2.2.2.2.2.2.2.2.2.2.2.2.2.2.2.2.2.2.2.2.1
@[irreducible] noncomputable def wsv := Z.2.2.2.2.2.2.2.2.2.2.2.2.2.2.2.2.2.2.2.2.2.2.2.2.2.2.2.1
@[irreducible] noncomputable def lv := Z.2.2.2.2.2.2.2.2.2.2.2.2.2.2.2.2.2.2.2.2.2.2.2.2.2.2.2.2.1
@[irreducible] noncomputable def n1 := Z.2.2.2.2.2.2.2.2.2.2.2.2.2.2.2.2.2.2.2.2.2.2.2.2.2.2.2.2.2.1
@[irreducible] noncomputable def nn := Z.2.2.2.2.2.2.2.2.2.2.2.2.2.2.2.2.2.2.2.2.2.2.2.2.2.2.2.2.2.2.1
@[irreducible] noncomputable def wn := Z.2.2.2.2.2.2.2.2.2.2.2.2.2.2.2.2.2.2.2.2.2.2.2.2.2.2.2.2.2.2.2.1
@[irreducible] noncomputable def wsn := Z.2.2.2.2.2.2.2.2.2.2.2.2.2.2.2.2.2.2.2.2.2.2.2.2.2.2.2.2.2.2.2.2.1
@[irreducible] noncomputable def ln := Z.2.2.2.2.2.2.2.2.2.2.2.2.2.2.2.2.2.2.2.2.2.2.2.2.2.2.2.2.2.2.2.2.2.1
@[irreducible] noncomputable def us := Z.2.2.2.2.2.2.2.2.2.2.2.2.2.2.2.2.2.2.2.2.2.2.2.2.2.2.2.2.2.2.2.2.2.2.1
@[irreducible] noncomputable def V := Z.2.2.2.2.2.2.2.2.2.2.2.2.2.2.2.2.2.2.2.2.2.2.2.2.2.2.2.2.2.2.2.2.2.2.2.1
@[irreducible] noncomputable def ups := Z.2.2.2.2.2.2.2.2.2.2.2.2.2.2.2.2.2.2.2.2.2.2.2.2.2.2.2.2.2.2.2.2.2.2.2.2.1
@[irreducible] noncomputable def qu := Z.2.2.2.2.2.2.2.2.2.2.2.2.2.2.2.2.2.2.2.2.2.2.2.2.2.2.2.2.2.2.2.2.2.2.2.2.2.1
@[irreducible] noncomputable def bl := Z.2.2.2.2.2.2.2.2.2.2.2.2.2.2.2.2.2.2.2.2.2.2.2.2.2.2.2.2.2.2.2.2.2.2.2.2.2.2.1
@[irreducible] noncomputable def c2 := Z.2.2.2.2.2.2.2.2.2.2.2.2.2.2.2.2.2.2.2.2.2.2.2.2.2.2.2.2.2.2.2.2.2.2.2.2.2.2.2.1
@[irreducible] noncomputable def c6 := Z.2.2.2.2.2.2.2.2.2.2.2.2.2.2.2.2.2.2.2.2.2.2.2.2.2.2.2.2.2.2.2.2.2.2.2.2.2.2.2.2.1
@[irreducible] noncomputable def fs := Z.2.2.2.2.2.2.2.2.2.2.2.2.2.2.2.2.2.2.2.2.2.2.2.2.2.2.2.2.2.2.2.2.2.2.2.2.2.2.2.2.2
set_option maxHeartbeats 4000000 in
theorem key : Sta w A base g fr mg mb p loose mean s L fa cd m Q E rest P D1 nD WD wD lD rU nv wv wsv lv n1 nn wn wsn ln us V ups qu bl c2 c6 fs := fun B X T O hE hh hroom hu hn e2 m2 mn hw e6 m6 mw m1 hT hs h5 mW hwv ml hl hS F0 hm N h => by
  revert X; k_fill; intro X
  have hm3 : ∀ p ∈ [(Str.ofString "items", Value.ref D1), (Str.ofString "who", Value.ref WD), (Str.ofString "least", Value.ref lD)], m p.1 = some p.2 := all3 (hm _ List.mem_cons_self) (hm _ (List.mem_cons_of_mem _ List.mem_cons_self)) (hm _ (List.mem_cons_of_mem _ (List.mem_cons_of_mem _ List.mem_cons_self)))
  have F1 := Fr.expose _ F0 hm3
  dsimp only [kstB] at F1
  clear F0
  have lc := h5.card
  have lw := hwv.length
  simp only [castL, List.length_map] at lw
  dsimp only
  k_steps
  (rename Fr _ _ _ _ => F2)
  (rename News _ _ _ _ => N2)
  have N3 := News.sub' (l := V) N2 (Sub.tail Sub.rfl')
  clear N2
  refine LCg.ListComp_U (F₀ := F2) (by with_unfolding_all rfl) (by decide) (by rfl) (by decide) (by rfl) ?_
  k_steps
  (rename Fr _ _ _ _ => F4)
  (rename News _ _ _ _ => N4)
  refine LCg.CompSrc.ledger (by assumption) F4 N4 mW (by rw [sizeLine_eq]; simp only [List.size_toArray]; omega) ?_
  (tm_at "nmx1"; refine fun g' => ?_)
  refine cr_led (fun i ys nw => ∃ ts, nw = ts ++ V ∧ TupsN ts ys (kvsU P (ups.take i))) ⟨[], rfl, .nil⟩ ?_ ?_
  · clear F4 N4
    rintro i v ys nw I' oI' C' oC' D' m' h' tk' E' hi hv ⟨ts, rfl, hT'⟩ hC' hx' F' N' off' ne'
    obtain ⟨U, hU, hs1, hs2⟩ := nm_U ts V
    rw [← hU] at N' off'
    have fU := farT_off3 off'
    have m2' := hs1 _ m2
    have mn' := hs1 _ mn
    have m6' := hs1 _ m6
    have mw' := hs1 _ mw
    have hi5 : i < ups.length := by simp only [List.size_toArray] at hi; omega
    obtain ⟨k, hk1, -, hk3, hk4⟩ := drop_cons hi5
    have hk5 : k < 5 := h5.2 k (List.mem_append_left _ hk4)
    obtain ⟨tv, rfl⟩ := castL_val hwv hv hk1
    (revert i ys I' oI' C' oC' D' m' h' tk' E' ts U k tv; tm_at "nmx11"; refine fun i ys I' oI' C' oC' D' m' h' tk' E' => ?_; k_extra "kf"; tm_at "nmx1"; refine fun ts => ?_; k_extra "kf"; tm_at "nmx1"; refine fun U => ?_; k_extra "kf"; tm_at "nmx1"; refine fun k => ?_; k_extra "kf"; tm_at "nmx1"; refine fun tv => ?_; k_extra "kw")
    have xN : [Str.ofString "a", Str.ofString "B c", Str.ofString "\"", Str.ofString "\\", Str.ofString "#"][((k : Nat) : Int).toNat]? = some (nm k) := nm_at k hk5
    have hsw : Txt.swapcase (nm k) = swN k := rfl
    have hln := (swN_len k hk5).2
    have hwl : (wTo P 5).length = 20 := wTo_len O 5
    have hsl : ((wTo P 5).drop (4 * ((k : Nat) : Int) + 1).toNat).take ((4 * ((k : Nat) : Int) + 4) - (4 * ((k : Nat) : Int) + 1)).toNat = (P.Vn k).map (caseN (P.cs k)) := by
      rw [show (4 * ((k : Nat) : Int) + 1).toNat = 4 * k + 1 by omega, show ((4 * ((k : Nat) : Int) + 4) - (4 * ((k : Nat) : Int) + 1)).toNat = 3 by omega]
      exact words_of O hk5
    have hsum := (told_kv O hk5).2.1
    rw [allV_kv5 P hk5] at hsum
    k_steps
    (rename Fr _ _ _ _ => F3)
    (rename News _ _ _ _ => N3)
    obtain ⟨tp, tk1, tk2⟩ := nm_tp N3
    have oTp : FarT [I', C', D'] [(tp, tupO #[.str (swN k) tk1, .str (Txt.join (Str.ofString "") ((P.Vn k).map (caseN (P.cs k)))) tk2])] := farT_cons (offT_tup (by omega) offT_e) (farT_cons (offT_tup (by omega) offT_e) (farT_cons (offT_tup (by omega) offT_e) farT_nil))
    unfold Stop
    refine LCg.CompEnd.intro F3 N3 (((ts : List (Addr × Obj)) ++ [((tp : Addr), tupO #[.str (swN k) tk1, .str (Txt.join (Str.ofString "") ((P.Vn k).map (caseN (P.cs k)))) tk2])]) ++ V) ?_ (off3_farT (tail_mid hU fU oTp)) (.inr ⟨_, List.mem_append_right _ mW, rfl, _, rfl⟩) ⟨_, rfl, ?_⟩
    · refine Sub.cons (by k_mem) (Sub.cons (by k_mem) (Sub.cons (by k_mem) ?_))
      rw [hU]
      exact sub_mid
    · rw [kvsU_take P hk1 hk5]
      exact .snoc hT'
  · rintro ys nw ⟨ts, rfl, hT'⟩
    rw [List.take_of_length_le (Nat.le_of_eq (by simpa using lw.symm))] at hT'
    have hok := kvsU_ok O h5
    obtain ⟨U, hU, hs1, hs2⟩ := nm_U ts V
    rw [← hU]
    (revert ys ts U; tm_at "nmx2"; refine fun ys ts => ?_; k_extra "kf"; tm_at "nmx1"; refine fun U => ?_; k_extra "kw")
    have hsU : Sub us U := fun p hp => hs1 p (hs p hp)
    have m1' := hs1 _ m1
    k_steps
    (rename Fr _ _ _ _ => F5)
    (rename News _ _ _ _ => N5)
    exact h _ _ _ F5 (kst_at hm3 hm) (News.sub' N5 (Sub.tail hs1))
theorem zeq : (w, A, base, g, fr, mg, mb, p, loose, mean, s, L, fa, cd, m, Q, E, rest, P, D1, nD, WD, wD, lD, rU, nv, wv, wsv, lv, n1, nn, wn, wsn, ln, us, V, ups, qu, bl, c2, c6, fs) = Z := by with_unfolding_all rfl
end Cseg_h2
set_option maxHeartbeats 4000000 in
theorem seg_h2 {w : World} {A : Around} {base g : Heap} {fr : List Env} {mg mb : Str → Option Value} {p : Program} {loose : List Str} {mean : ExcName → Option Value} {s : Shared} {L fa : Addr} {cd : Value} {m : Str → Option Value} {Q : Flow → Shared → Prop} {E : Value → Shared → Prop} {rest : List Stmt} {P : Par} {D1 nD WD wD lD : Addr} {rU nv wv wsv lv : List Value} {n1 nn wn wsn ln : Nat} {us V : List (Addr × Obj)} {ups qu bl : List Nat} {c2 c6 : Obj} {fs : List (Str × Value)} : Cseg_h2.Sta w A base g fr mg mb p loose mean s L fa cd m Q E rest P D1 nD WD wD lD rU nv wv wsv lv n1 nn wn wsn ln us V ups qu bl c2 c6 fs :=
  hilb Cseg_h2.P0 Cseg_h2.Z rfl (Eq.subst (motive := Cseg_h2.P0) Cseg_h2.zeq Cseg_h2.key) (w, A, base, g, fr, mg, mb, p, loose, mean, s, L, fa, cd, m, Q, E, rest, P, D1, nD, WD, wD, lD, rU, nv, wv, wsv, lv, n1, nn, wn, wsn, ln, us, V, ups, qu, bl, c2, c6, fs)
section
end
end Mine
local macro_rules | `(tactic| walk_at "no key 11") => `(tactic| skip)
local macro_rules | `(tactic| walk_at "no key 12") => `(tactic| skip)

namespace Mine
open PySem.Calls
section
variable {prog : Program} {w : World} {A : Around} {E : Value → Shared → Prop} {s : Shared} {h₀ : Heap} {L : Addr} {m : Str → Option Value} {news : List (Addr × Obj)} {env : Env}
/-- a while by an invariant that counts down -/
noncomputable def WhAt (prog : Program) (w : World) (A : Around) (E : Value → Shared → Prop) (env : Env) (test : PySem.Expr) (body : List Stmt) (Q : Flow → Shared → Prop) (s : Shared) : Prop :=
  ∃ (I : Nat → Shared → Prop) (n : Nat), I n s ∧ ∀ n s, I n s → wpAny (model prog w) A (isTrue test env (eval test env)) (fun b s₂ => if b = true then wpAny (model prog w) A (execs body env) (fun f s₃ => match f with | .next => Down n I s₃ | .cont => Down n I s₃ | .brk => Q .next s₃ | .ret v => Q (.ret v) s₃) E s₂ else Q .next s₂) E s
theorem wh_for {test : PySem.Expr} {body : List Stmt} {pos : Pos} {Q : Flow → Shared → Prop} (hE : PassesOwn (model prog w) A env E) (h : WhAt prog w A E env test body Q s) : wpAny (model prog w) A (exec (.While test body [] pos) env) Q E s := by
  obtain ⟨I, n, h0, turn⟩ := h
  refine wpAny_While (codeAny_whileLoop (R := fun r s' => match r with | .ok f => Q f s' | .error e => cameBackBy (model prog w) A env E e s') I (fun n s hI => ?_) n h0)
  refine wpAny_passesOwn hE (wpAny_mono (turn n s hI) (fun b s₂ hb => ?_) fun _ _ z => z)
  cases b with
  | true =>
    simp only [if_true] at hb ⊢
    refine wpAny_passesOwn hE (wpAny_mono hb (fun f s₃ h₃ => ?_) fun _ _ z => z)
    cases f with
    | next => exact h₃
    | cont => exact h₃
    | brk => exact h₃
    | ret v => exact h₃
  | false =>
    simp only [Bool.false_eq_true, if_false] at hb ⊢
    exact wpAny_execs_nil hb
theorem inI_K {l : Addr} {vs : List Value} {ns : List Int} {n : Nat} {k : Int} {t : Tok} {b : Bool} {Q : Value → Shared → Prop} (N : News h₀ L s.heap news) (hm : (l, W.listOf vs.toArray n) ∈ news) (hi : IntsAre vs ns) (e : (ns.any (· == k)) = b) (h : Q (.bool b) s) : wpAny (model prog w) A (compareOp .In (.int k t) (.ref l)) Q E s := by
  subst e
  exact in_list_ints (lst_N N hm) hi h
theorem notinI_K {l : Addr} {vs : List Value} {ns : List Int} {n : Nat} {k : Int} {t : Tok} {b : Bool} {Q : Value → Shared → Prop} (N : News h₀ L s.heap news) (hm : (l, W.listOf vs.toArray n) ∈ news) (hi : IntsAre vs ns) (e : (ns.any (· == k)) = b) (h : Q (.bool (!b)) s) : wpAny (model prog w) A (compareOp .NotIn (.int k t) (.ref l)) Q E s := by
  subst e
  exact notin_list_ints (lst_N N hm) hi h
theorem sliceI_K {value slice : PySem.Expr} {l : Addr} {vs : List Value} {ns zs : List Int} {n : Nat} {vu : Value} {b : Int} {Q : Value → Shared → Prop} (F : Fr h₀ L s.heap m) (N : News h₀ L s.heap news) (hm : (l, W.listOf vs.toArray n) ∈ news) (hi : IntsAre vs ns) (pu : IsPart vu (some b))
    (h2 : 0 ≤ b) (hn : ns.length ≤ 1000) (e : ns.take b.toNat = zs)
    (h : ∀ D ws h', IntsAre ws zs → Fr h₀ L h' m → News h₀ L h' ((D, W.listOf (List.toArray ws) 0) :: news) → (∀ p ∈ news, p.1 < D) → Q (.ref D) { s with heap := h' })
    (hs : subscripted slice false (.ref l) (.ref s.heap.objs.size) = operate [.ref s.heap.objs.size, .ref l] (getItem (.ref l) (.ref s.heap.objs.size))) (ht : ∀ r, letTemporaryGo value (.ref l) r = pure ()) :
    wpAny (model prog w) A (subscriptTail value slice (.ref l) (.ref s.heap.objs.size)) Q E { s with heap := s.heap.push { cls := .type "slice", data := .fields #[.none, vu, .none] } } := by
  have hl := hi.length
  refine kmk_slice F N (lst_N N hm) IsPart.none pu (fun D h' F' N' l1 => ?_) hs ht (by rw [sizeLine_eq, List.size_toArray]; omega)
  refine h D (slicePick vs.toArray none (some b) none).toList h' ?_ F' ?_ l1
  · rw [← e]
    exact kmk_upto hi h2
  · rw [Array.toArray_toList]; exact N'
end
theorem ne_pl : Str.ofString "place" ≠ Str.ofString "n" := by decide
theorem ne_n : Str.ofString "n" ≠ Str.ofString "place" := by decide
theorem fmod5 (z : Nat) : ((z : Int).fmod 5).toNat = z % 5 := by
  rw [Int.fmod_eq_emod_of_nonneg _ (by decide)]
  show ((z % 5 : Nat) : Int).toNat = _
  rw [Int.toNat_natCast]
theorem swap_all {φ : Str × Value → Prop} {a b : Str × Value} {l : List (Str × Value)} (h : ∀ p ∈ a :: b :: l, φ p) : ∀ p ∈ b :: a :: l, φ p := fun p hp => by
  rcases List.mem_cons.mp hp with rfl | hp
  · exact h _ (List.mem_cons_of_mem _ List.mem_cons_self)
  · rcases List.mem_cons.mp hp with rfl | hp
    · exact h _ List.mem_cons_self
    · exact h _ (List.mem_cons_of_mem _ (List.mem_cons_of_mem _ hp))
theorem drop2_all {φ : Str × Value → Prop} {a b : Str × Value} {l : List (Str × Value)} (h : ∀ p ∈ a :: b :: l, φ p) : ∀ p ∈ a :: l, φ p := fun p hp => by
  rcases List.mem_cons.mp hp with rfl | hp
  · exact h _ List.mem_cons_self
  · exact h _ (List.mem_cons_of_mem _ (List.mem_cons_of_mem _ hp))
theorem all_cons {φ : Str × Value → Prop} {a : Str × Value} {l : List (Str × Value)} (h1 : φ a) (h2 : ∀ p ∈ l, φ p) : ∀ p ∈ a :: l, φ p := fun p hp => (List.mem_cons.mp hp).elim (fun e => e ▸ h1) (h2 p)
theorem sub_app {α : Type} {a l : List α} {b : α} (h : Sub a l) (hb : b ∈ l) : Sub (a ++ [b]) l := fun p hp => (List.mem_append.mp hp).elim (h p) fun e => by rw [List.mem_singleton.mp e]; exact hb
noncomputable abbrev nP (z : Int) (t : Tok) : Str × Value := (Str.ofString "place", .int z t)
inductive NP (g : Heap) (L I1 : Addr) (pn : Nat → Nat) (V : List (Addr × Obj)) (fs : List (Str × Value)) (s : Shared) (k : Nat) (s' : Shared) : Prop
  | mk (i : Nat) (h : Heap) (tk : Nat) (m : Str → Option Value) (tz : Tok) (_ : s' = { s with heap := h, toks := tk }) (_ : Fr g L h m) (_ : News g L h ((I1, rgO (i : Int) (5 - i)) :: V)) (_ : (∀ p ∈ nP (pn i) tz :: fs, m p.1 = some p.2)) (_ : i + k = 6) (_ : i ≤ 5) : NP g L I1 pn V fs s k s'
inductive WP (g : Heap) (L I1 : Addr) (oI : Obj) (p0 q0 i : Nat) (ti : Tok) (V : List (Addr × Obj)) (fs : List (Str × Value)) (s : Shared) (k : Nat) (s' : Shared) : Prop
  | mk (z : Nat) (h : Heap) (tk : Nat) (m : Str → Option Value) (tz : Tok) (_ : s' = { s with heap := h, toks := tk }) (_ : Fr g L h m) (_ : News g L h ((I1, oI) :: V)) (_ : (∀ p ∈ nP z tz :: (Str.ofString "n", .int (i : Int) ti) :: fs, m p.1 = some p.2)) (_ : z + k = q0 + 1) (_ : p0 ≤ z) (_ : z ≤ q0) : WP g L I1 oI p0 q0 i ti V fs s k s'
theorem row129 : True := by
  k_with "exec For Name Call cons nil" => (k_here; k_dflt (refine fi_for (hE := by assumption) ?_))
  trivial
theorem row130 : True := by
  k_with "exec While BoolOp cons nil" => (k_here; k_dflt (refine wh_for (by assumption) ?_))
  trivial
theorem row131 : True := by
  k_with "compareOp In int ref" => (k_here; k_dflt (refine' inI_K ?Nr131 ?mr131 ?ir131 ?er131 ?_; (case Nr131 => k_asm); (case mr131 => k_mem); (case ir131 => assumption); (case er131 => assumption)))
  trivial
theorem row132 : True := by
  k_with "subscriptTail Name Slice ref ref" => (k_here; k_dflt (refine' sliceI_K ?Fr132 ?Nr132 ?mr132 ?ir132 ?qr132 ?h2r132 ?hnr132 ?er132 ?_ ?sr132 ?tr132; (case Fr132 => k_asm); (case Nr132 => k_asm); (case mr132 => k_mem); (case ir132 => assumption); (case qr132 => kmk_part); (case h2r132 => omega); (case hnr132 => assumption); (case er132 => assumption); (case sr132 => with_unfolding_all rfl); (case tr132 => kmk_pure)); ((first | tm_at "clo1" | refine fun D'q9 => ?_); (first | tm_at "clo1" | refine fun ws'q9 => ?_); (first | tm_at "clo1" | refine fun h'q9 => ?_); (first | tm_at "clo1" | refine fun sS'q9 => ?_); refine fun F'q9 => ?_; refine fun N'q9 => ?_; refine fun l1q9 => ?_); k_lt l1q9)
  trivial
theorem row133 : True := by
  k_with "subscriptTail Name BinOp ref int" => (k_here; k_dflt (refine' item_NE ?Nr133 ?mr133 ?ir133 ?xr133 ?h0r133 ?h1r133 ?_; (case Nr133 => k_asm); (case mr133 => k_mem); (case ir133 => assumption); (case xr133 => assumption); (case h0r133 => omega); (case h1r133 => omega); ((first | tm_at "clo1" | refine fun _ => ?_))))
  trivial
theorem row134 : True := by
  k_with "subscriptTail Name Subscript ref int" => (k_here; k_dflt (refine' item_NE ?Nr134 ?mr134 ?ir134 ?xr134 ?h0r134 ?h1r134 ?_; (case Nr134 => k_asm); (case mr134 => k_mem); (case ir134 => assumption); (case xr134 => assumption); (case h0r134 => omega); (case h1r134 => omega); ((first | tm_at "clo1" | refine fun _ => ?_))))
  trivial
theorem row135 : True := by
  k_with "subscriptTail Name Name ref int" => (k_here; k_dflt (refine' item_NE ?Nr135 ?mr135 ?ir135 ?xr135 ?h0r135 ?h1r135 ?_; (case Nr135 => k_asm); (case mr135 => k_mem); (case ir135 => assumption); (case xr135 => assumption); (case h0r135 => omega); (case h1r135 => omega); ((first | tm_at "clo1" | refine fun _ => ?_))))
  trivial
theorem row136 : True := by
  k_with "k_enter" => ((with_reducible show codeAny _ _ (Code.call (Value.ref 244) _) _ _); (refine' GS.callS (own := toldNews _ ++ [(_, W.listOf (List.toArray _) _)]) ?kBr136 ?kFr136 ?kXr136 ?kNr136 ?kTr136 ?kAr136 ?kfr136 ?kkr136 ?kor136 (fun ggq9 gBq9 gXq9 gTq9 gGq9 gKq9 gBackq9 => got_c gBq9 gXq9 gTq9 gGq9 ?i1r136 ?i2r136 ?i3r136 ?i4r136 ?i5r136 ?i6r136 ?i7r136 ?i8r136 ?_); (case kBr136 => assumption); (case kFr136 => assumption); (case kXr136 => assumption); (case kNr136 => assumption); (case kTr136 => assumption); (case kAr136 => keq_hits); (case kfr136 => exact rfl); (case kkr136 => exact rfl); (case kor136 => (refine sub_app ?_ ?_; (repeat (first | assumption | refine Sub.tail ?_)); k_mem)); (case i1r136 => assumption); (case i2r136 => assumption); (case i3r136 => assumption); (case i4r136 => k_room); (case i5r136 => (try simp only [units_under_make, Around.deeper_units]); omega); (case i6r136 => assumption); (case i7r136 => assumption); (case i8r136 => assumption); (revert ggq9; ((first | tm_at "clo1" | refine fun ggq9 => ?_); refine fun gBq9 => ?_; refine fun gXq9 => ?_; refine fun gTq9 => ?_; refine fun gGq9 => ?_; refine fun gKq9 => ?_; refine fun gBackq9 => ?_); ((first | tm_at "clo1" | refine fun u'q9 => ?_); (first | tm_at "clo1" | refine fun tk'q9 => ?_); (first | tm_at "clo1" | refine fun h'q9 => ?_); refine fun gG'q9 => ?_); (obtain ⟨F'q9, N'q9, -⟩ := gBackq9 _ [] gG'q9 (fun p hp => (nomatch hp))); (clear gBq9 gXq9 gTq9 gGq9 gKq9 gBackq9 gG'q9); (try simp only [List.nil_append] at N'q9); (try dsimp only))))
  trivial
theorem row137 : True := by
  k_with "ite" => (k_here; first | refine ite_pos (by with_reducible assumption) ?_ | refine ite_neg (by with_reducible assumption) ?_ | refine ite_isFalse (by with_reducible assumption) ?_ | refine ite_pos (by omega) ?_ | refine ite_neg (by omega) ?_ | refine ite_pos (by rw [decide_eq_true_eq]; omega) ?_ | refine ite_neg (by rw [decide_eq_true_eq]; omega) ?_)
  trivial
theorem got_int {Vn : Nat → List Nat} {ws : List Nat} {x : Nat} : (ws.map fun y => (((fun k => castL (Vn k)) y).count (x : Int) : Int)).sum = ((got Vn ws x : Nat) : Int) := got_castL ws
section
variable {w : World} {A : Around} {base g : Heap} {fr : List Env} {mg mb : Str → Option Value} {p : Program} {loose : List Str} {mean : ExcName → Option Value} {s : Shared} {L fa : Addr} {cd : Value} {m : Str → Option Value} {Q : Flow → Shared → Prop} {E : Value → Shared → Prop} {rest : List Stmt}
  (B : Below A base fr g) (X : Frag.In (hd.heap_39 w.params) g) (T : Top p loose mean mg mb g)
include B X T
end
namespace Cseg_h4
noncomputable def Sta (w : World) (A : Around) (base g : Heap) (fr : List Env) (mg mb : Str → Option Value) (p : Program) (loose : List Str) (mean : ExcName → Option Value) (s : Shared) (L fa : Addr) (cd : Value) (m : Str → Option Value) (Q : Flow → Shared → Prop) (E : Value → Shared → Prop) (rest : List Stmt) (P : Par) (q : ToldP) (nd ol WD : Addr) (ndv ov wv : List Value) (need : List Int) (nn on wn : Nat) (V : List (Addr × Obj)) (os ups qu : List Nat) (pl : Nat → Nat) (fs : List (Str × Value)) : Prop := ∀ (B : Below A base fr g) (X : Frag.In (hd.heap_39 w.params) g) (T : Top p loose mean mg mb g) (hE : PassesOwn (model Challenge.rw_st0024_01.row.prog w) (A.deeper (lawEnv L fa cd)) (lawEnv L fa cd) E) (hh : A.handled = none) (hroom : A.depth + 60 < recursionLimit) (hu : A.units + 600 < cLine) (C : CodeHd base 228 224) (I : ToldF q (fun k => castL (P.Vn k))) (hV : Sub (toldNews q) V) (mnd : (nd, W.listOf ndv.toArray nn) ∈ V) (hnd : IntsAre ndv need) (hneed : ∀ k < 5, need[k]? = some ((P.Aa k + P.Bh k : Nat) : Int)) (mo : (ol, W.listOf ov.toArray on) ∈ V) (ho : IntsAre ov (castL os)) (ho5 : os.length = 5) (hos : ∀ k ∈ os, k < 5) (mW : (WD, W.listOf wv.toArray wn) ∈ V) (hwv : IntsAre wv (castL ups)) (h5 : Five ups qu) (hC : Cert P.Vn P.Aa P.Bh os ups pl) (F0 : Fr g L s.heap m) (hm : ∀ p ∈ fs, m p.1 = some p.2) (hin : Sub [(Str.ofString "told", Value.ref q.tl), (Str.ofString "need", Value.ref nd), (Str.ofString "order", Value.ref ol), (Str.ofString "who", Value.ref WD)] fs) (hfs : ∀ p ∈ fs, p.1 ≠ Str.ofString "place" ∧ p.1 ≠ Str.ofString "n") (N : News g L s.heap V) (h : ∀ h' tk m', Fr g L h' m' → (∀ p ∈ fs, m' p.1 = some p.2) → News g L h' V →
    wpAny (model Challenge.rw_st0024_01.row.prog w) (A.deeper (lawEnv L fa cd)) (execs rest (lawEnv L fa cd)) Q E { s with heap := h', toks := tk }), wpAny (model Challenge.rw_st0024_01.row.prog w) (A.deeper (lawEnv L fa cd)) (execs (ob4s.1 :: ob5s.1 :: rest) (lawEnv L fa cd)) Q E s
noncomputable def P0 (z : World × Around × Heap × Heap × (List Env) × (Str → Option Value) × (Str → Option Value) × Program × (List Str) × (ExcName → Option Value) × Shared × Addr × Addr × Value × (Str → Option Value) × (Flow → Shared → Prop) × (Value → Shared → Prop) × (List Stmt) × Par × ToldP × Addr × Addr × Addr × (List Value) × (List Value) × (List Value) × (List Int) × Nat × Nat × Nat × (List (Addr × Obj)) × (List Nat) × (List Nat) × (List Nat) × (Nat → Nat) × (List (Str × Value))) : Prop := Sta (z.1) (z.2.1) (z.2.2.1) (z.2.2.2.1) (z.2.2.2.2.1) (z.2.2.2.2.2.1) (z.2.2.2.2.2.2.1) (z.2.2.2.2.2.2.2.1) (z.2.2.2.2.2.2.2.2.1) (z.2.2.2.2.2.2.2.2.2.1) (z.2.2.2.2.2.2.2.2.2.2.1) (z.2.2.2.2.2.2.2.2.2.2.2.1) (z.2.2.2.2.2.2.2.2.2.2.2.2.1) (z.2.2.2.2.2.2.2.2.2.2.2.2.2.1) (z.2.2.2.2.2.2.2.2.2.2.2.2.2.2.1) (z.2.2.2.2.2.2.2.2.2.2.2.2.2.2.2.1) (z.2.2.2.2.2.2.2.2.2.2.2.2.2.2.2.2.1) (z.2.2.2.2.2.2.2.2.2.2.2.2.2.2.2.2.2.1) (z.2.2.2.2.2.2.2.2.2.2.2.2.2.2.2.2.2.2.1) (z.2.2.2.2.2.2.2.2.2.2.2.2.2.2.2.2.2.2.2.1) (z.2.2.2.2.2.2.2.2.2.2.2.2.2.2.2.2.2.2.2.2.1) (z.2.2.2.2.2.2.2.2.2.2.2.2.2.2.2.2.2.2.2.2.2.1) (z.2.2.2.2.2.2.2.2.2.2.2.2.2.2.2.2.2.2.2.2.2.2.1) (z.2.2.2.2.2.2.2.2.2.2.2.2.2.2.2.2.2.2.2.2.2.2.2.1) (z.2.2.2.2.2.2.2.2.2.2.2.2.2.2.2.2.2.2.2.2.2.2.2.2.1) (z.2.2.2.2.2.2.2.2.2.2.2.2.2.2.2.2.2.2.2.2.2.2.2.2.2.1) (z.2.2.2.2.2.2.2.2.2.2.2.2.2.2.2.2.2.2.2.2.2.2.2.2.2.2.1) (z.2.2.2.2.2.2.2.2.2.2.2.2.2.2.2.2.2.2.2.2.2.2.2.2.2.2.2.1) (z.2.2.2.2.2.2.2.2.2.2.2.2.2.2.2.2.2.2.2.2.2.2.2.2.2.2.2.2.1) (z.2.2.2.2.2.2.2.2.2.2.2.2.2.2.2.2.2.2.2.2.2.2.2.2.2.2.2.2.2.1) (z.2.2.2.2.2.2.2.2.2.2.2.2.2.2.2.2.2.2.2.2.2.2.2.2.2.2.2.2.2.2.1) (z.2.2.2.2.2.2.2.2.2.2.2.2.2.2.2.2.2.2.2.2.2.2.2.2.2.2.2.2.2.2.2.1) (z.2.2.2.2.2.2.2.2.2.2.2.2.2.2.2.2.2.2.2.2.2.2.2.2.2.2.2.2.2.2.2.2.1) (z.2.2.2.2.2.2.2.2.2.2.2.2.2.2.2.2.2.2.2.2.2.2.2.2.2.2.2.2.2.2.2.2.2.1) (z.2.2.2.2.2.2.2.2.2.2.2.2.2.2.2.2.2.2.2.2.2.2.2.2.2.2.2.2.2.2.2.2.2.2.1) (z.2.2.2.2.2.2.2.2.2.2.2.2.2.2.2.2.2.2.2.2.2.2.2.2.2.2.2.2.2.2.2.2.2.2.2)
noncomputable def Z := @Classical.epsilon _ ⟨(w00, A00, default, default, [], (fun _ => none), (fun _ => none), default, [], (fun _ => none), s00, 0, 0, .none, (fun _ => none), (fun _ _ => True), (fun _ _ => True), [], par00, told00, 0, 0, 0, [], [], [], [], 0, 0, 0, [], [], [], [], (fun _ => 0), [])⟩ fun z => ¬ P0 z
@[irreducible] noncomputable def w := Z.1
@[irreducible] noncomputable def A := Z.2.1
@[irreducible] noncomputable def base := Z.2.2.1
@[irreducible] noncomputable def g := Z.2.2.2.1
@[irreducible] noncomputable def fr := Z.2.2.2.2.1
@[irreducible] noncomputable def mg := Z.2.2.2.2.2.1
@[irreducible] noncomputable def mb := Z.2.2.2.2.2.2.1
@[irreducible] noncomputable def p := Z.2.2.2.2.2.2.2.1
@[irreducible] noncomputable def loose := Z.2.2.2.2.2.2.2.2.1
@[irreducible] noncomputable def mean := Z.2.2.2.2.2.2.2.2.2.1
@[irreducible] noncomputable def s := Z.2.2.2.2.2.2.2.2.2.2.1
@[irreducible] noncomputable def L := Z.2.2.2.2.2.2.2.2.2.2.2.1
@[irreducible] noncomputable def fa := Z.2.2.2.2.2.2.2.2.2.2.2.2.1
@[irreducible] noncomputable def cd := Z.2.2.2.2.2.2.2.2.2.2.2.2.2.1
@[irreducible] noncomputable def m := Z.2.2.2.2.2.2.2.2.2.2.2.2.2.2.1
@[irreducible] noncomputable def Q := Z.2.2.2.2.2.2.2.2.2.2.2.2.2.2.2.1
@[irreducible] noncomputable def E := Z.2.2.2.2.2.2.2.2.2.2.2.2.2.2.2.2.1
@[irreducible] noncomputable def rest := Z.2.2.2.2.2.2.2.2.2.2.2.2.2.2.2.2.2.1
@[irreducible] noncomputable def P := Z.2.2.2.2.2.2.2.2.2.2.2.2.2.2.2.2.2.2.1
@[irreducible] noncomputable def q := Z.2.2.2.2.2.2.2.2.2.2.2.2.2.2.2.2.2.2.2.1
@[irreducible] noncomputable def nd := Z.2.2.2.2.2.2.2.2.2.2.2.2.2.2.2.2.2.2.2.2.1
@[irreducible] noncomputable def ol := Z.2.2.2.2.2.2.2.2.2.2.2.2.2.2.2.2.2.2.2.2.2.1
@[irreducible] noncomputable def WD := Z.2.2.2.2.2.2.2.2.2.2.2.2.2.2.2.2.2.2.2.2.2.2.1
@[irreducible] noncomputable def ndv := Z.2.2.2.2.2.2.2.2.2.2.2.2.2.2.2.2.2.2.2.2.2.2.2.1
@[irreducible] noncomputable def ov := Z.2.2.2.2.2.2.2.2.2.2.2.2.2.2.2.2.2.2.2.2.2.2.2.2.1
@[irreducible] noncomputable def wv := Z.2.2.2.2.2.2.2.2.2.2.2.2.2.2.2.2.2.2.2.2.2.2.2.2.2.1
@[irreducible] noncomputable def need := Z.2.2.2.2.2.2.2.2.2.2.2.2.2.2.2.2.2.2.2.2.2.2.2.2.2.2.1
@[irreducible] noncomputable def nn := Z.2.2.2.2.2.2.2.2.2.2.2.2.2.2.2.2.2.2.2.2.2.2.2.2.2.2.2.1
@[irreducible] noncomputable def on := Z.2.2.2.2.2.2.2.2.2.2.2.2.2.2.2.2.2.2.2.2.2.2.2.2.2.2.2.2.1
@[irreducible] noncomputable def wn := Z.2.2.2.2.2.2.2.2.2.2.2.2.2.2.2.2.2.2.2.2.2.2.2.2.2.2.2.2.2.1
@[irreducible] noncomputable def V := Z.2.2.2.2.2.2.2.2.2.2.2.2.2.2.2.2.2.2.2.2.2.2.2.2.2.2.2.2.2.2.1
@[irreducible] noncomputable def os := Z.2.2.2.2.2.2.2.2.2.2.2.2.2.2.2.2.2.2.2.2.2.2.2.2.2.2.2.2.2.2.2.1
@[irreducible] noncomputable def ups := Z.2.2.2.2.2.2.2.2.2.2.2.2.2.2.2.2.2.2.2.2.2.2.2.2.2.2.2.2.2.2.2.2.1
@[irreducible] noncomputable def qu := Z.2.2.2.2.2.2.2.2.2.2.2.2.2.2.2.2.2.2.2.2.2.2.2.2.2.2.2.2.2.2.2.2.2.1
@[irreducible] noncomputable def pl := Z.2.2.2.2.2.2.2.2.2.2.2.2.2.2.2.2.2.2.2.2.2.2.2.2.2.2.2.2.2.2.2.2.2.2.1
@[irreducible] noncomputable def fs := Z.2.2.2.2.2.2.2.2.2.2.2.2.2.2.2.2.2.2.2.2.2.2.2.2.2.2.2.2.2.2.2.2.2.2.2
set_option maxHeartbeats 4000000 in
theorem key : Sta w A base g fr mg mb p loose mean s L fa cd m Q E rest P q nd ol WD ndv ov wv need nn on wn V os ups qu pl fs := fun B X T hE hh hroom hu C I hV mnd hnd hneed mo ho ho5 hos mW hwv h5 hC F0 hm hin hfs N h => by
  revert X; k_fill; intro X
  have hps4 : ∀ p ∈ [(Str.ofString "told", Value.ref q.tl), (Str.ofString "need", Value.ref nd), (Str.ofString "order", Value.ref ol), (Str.ofString "who", Value.ref WD)], m p.1 = some p.2 := fun p hp => hm p (hin p hp)
  have F1 := Fr.expose _ F0 hps4
  dsimp only [kstB] at F1
  clear F0
  have lc := h5.card
  have lw := hwv.length
  simp only [castL, List.length_map] at lw
  have hlw : (wv.length : Int) = (ups.length : Int) := by rw [lw]
  have hcl : (castL ups).length ≤ 1000 := by simp only [castL, List.length_map]; omega
  dsimp only
  k_steps
  (rename Fr _ _ _ _ => F2)
  (rename News _ _ _ _ => N2)
  refine rg_iter F2 N2 (by assumption) (by decide) (n := 5) (by rfl) ?_
  (tm_at "nmx2"; refine fun I1 h1 => ?_)
  intro F3 N3 lI
  replace lI := allLt_of lI
  refine fi_at 6 (NP g L I1 (fun i => pl (min i ups.length)) V fs s) ⟨0, h1, _, _, s.toks, rfl, F3, N3, ?_, by omega, by omega⟩ ?_
  · (try dsimp only); rw [Nat.zero_min, hC.z]
    exact kst_new hps4 hm fun p hp => (hfs p hp).1
  clear F2 N2 F3 N3 hm
  rintro k s' ⟨i, h', tk, m, tz, rfl, F, N, hm, hk, hi⟩
  (try dsimp only at hm)
  have hps5 : ∀ p ∈ (nP (pl (min i ups.length)) tz :: [(Str.ofString "told", Value.ref q.tl), (Str.ofString "need", Value.ref nd), (Str.ofString "order", Value.ref ol), (Str.ofString "who", Value.ref WD)]), m p.1 = some p.2 := all_cons (φ := fun p => m p.1 = some p.2) (hm _ List.mem_cons_self) fun p hp => hm p (List.mem_cons_of_mem _ (hin p hp))
  have F1 := Fr.expose _ F hps5
  dsimp only [kstB] at F1
  obtain ⟨j, rfl⟩ : ∃ j, k = j + 1 := ⟨k - 1, by omega⟩
  refine ⟨j, rfl, ?_⟩
  by_cases h55 : i < 5
  · obtain ⟨r, hr⟩ : ∃ r, 5 - i = r + 1 := ex_sub (by with_reducible assumption)
    rw [hr] at N
    (revert i h' tk m tz j r; tm_at "nmx5"; refine fun i h' tk m tz => ?_; k_extra "kf"; tm_at "nmx1"; refine fun j => ?_; k_extra "kf"; tm_at "nmx1"; refine fun r => ?_; k_extra "kw")
    refine rg_nextA F1 N ?_ ?_
    · k_extra "gs_offA"
    (tm_at "nmx3"; refine fun t' h'' tk' => ?_)
    intro F' N'
    clear F N F1
    dsimp only [OwitTurn]
    by_cases hlt : (i : Nat) < ups.length
    · have hmin : min (i : Nat) ups.length = i := Nat.min_eq_left (by omega)
      rw [hmin] at F' hm hps5
      obtain ⟨c1, c2⟩ := hC.up i hlt
      have cs := hC.sk i hlt
      obtain ⟨k0, ck1, ck2, ck3⟩ := hC.at' i hlt
      have hne2 : ∀ p ∈ nP (pl i) tz :: fs, p.1 ≠ Str.ofString "n" := all_cons (φ := fun p => p.1 ≠ Str.ofString "n") ne_pl fun p hp => (hfs p hp).2
      have hne3 : ∀ p ∈ (Str.ofString "n", Value.int ((i : Nat) : Int) t') :: fs, p.1 ≠ Str.ofString "place" := all_cons (φ := fun p => p.1 ≠ Str.ofString "place") ne_n fun p hp => (hfs p hp).1
      k_steps
      (rename Fr _ _ _ _ => F2)
      (rename News _ _ _ _ => N2)
      refine ⟨WP g L I1 (rgO (((i : Nat) : Int) + 1) r) (pl i) (pl (i + 1)) i t' V fs s, pl (i + 1) + 1 - pl i, ⟨pl i, _, _, _, tz, rfl, F2, N2, swap_all (kst_new hps5 hm hne2), by omega, by omega, by omega⟩, ?_⟩
      clear F2 N2
      rintro n s' ⟨z, h', tk, m, tz', rfl, F, N, hm2, hz1, hz2, hz3⟩
      have hps6 : ∀ p ∈ (nP z tz' :: (Str.ofString "n", Value.int ((i : Nat) : Int) t') :: [(Str.ofString "told", Value.ref q.tl), (Str.ofString "need", Value.ref nd), (Str.ofString "order", Value.ref ol), (Str.ofString "who", Value.ref WD)]), m p.1 = some p.2 := all_cons (φ := fun p => m p.1 = some p.2) (hm2 _ List.mem_cons_self) (all_cons (φ := fun p => m p.1 = some p.2) (hm2 _ (List.mem_cons_of_mem _ List.mem_cons_self)) fun p hp => hm2 p (List.mem_cons_of_mem _ (List.mem_cons_of_mem _ (hin p hp))))
      have F1 := Fr.expose _ F hps6
      dsimp only [kstB] at F1
      clear F
      obtain ⟨kz, hkz⟩ : ∃ kz, kz = os.getD (z % 5) 0 := ⟨_, rfl⟩
      have hz5 : z % 5 < os.length := by omega
      have hkm : os[z % 5]? = some kz := by rw [hkz, List.getD_eq_getElem?_getD, List.getElem?_eq_getElem hz5]; rfl
      have hk5 : kz < 5 := hos kz (List.mem_of_getElem? hkm)
      have xf0 := Int.fmod_nonneg_of_pos ((z : Nat) : Int) (b := 5) (by decide)
      have xf5 := Int.fmod_lt_of_pos ((z : Nat) : Int) (b := 5) (by decide)
      have xO : (castL os)[(((z : Nat) : Int).fmod 5).toNat]? = some ((kz : Nat) : Int) := by rw [fmod5]; exact castL_at hkm
      have xNd : need[((kz : Nat) : Int).toNat]? = some ((P.Aa kz + P.Bh kz : Nat) : Int) := hneed kz hk5
      have hsl : (castL ups).take ((i : Nat) : Int).toNat = castL (ups.take i) := by unfold castL; rw [Int.toNat_natCast, List.map_take]
      have hy5 : ∀ y ∈ ups.take i, y < 5 := fun y hy => h5.2 y (List.mem_append_left _ (List.mem_of_mem_take hy))
      have hyl : (ups.take i).length ≤ 1000 := by rw [List.length_take]; omega
      have hgot : ((ups.take i).map fun y => ((castL (P.Vn y)).count ((kz : Nat) : Int) : Int)).sum = ((got P.Vn (ups.take i) kz : Nat) : Int) := got_castL _
      by_cases hzp : z < pl (i + 1)
      · have hsk := cs z hz2 hzp
        rw [← hkz] at hsk
        (revert n z h' tk m tz' kz; tm_at "nmx6"; refine fun n z h' tk m tz' => ?_; k_extra "kf"; tm_at "nmx1"; refine fun kz => ?_; k_extra "kw")
        by_cases hki : (kz : Nat) ∈ ups.take i
        · have hany : ((castL (ups.take i)).any (· == ((kz : Nat) : Int))) = true := by rw [castL_mem]; simpa using hki
          k_steps
          (rename Fr _ _ _ _ => F3)
          (rename News _ _ _ _ => N3)
          refine ⟨n - 1, by omega, z + 1, _, _, _, _, rfl, F3, News.sub' N3 (by repeat (first | exact Sub.rfl' | refine Sub.tail ?_)), kst_new hps6 (fun p hp => hm2 p (List.mem_cons_of_mem _ hp)) hne3, by omega, by omega, by omega⟩
        · have hany : ((castL (ups.take i)).any (· == ((kz : Nat) : Int))) = false := by rw [castL_mem]; simpa using hki
          have hlt2 := (skip_of.mp hsk).resolve_left hki
          k_steps
          (rename Fr _ _ _ _ => F3)
          (rename News _ _ _ _ => N3)
          refine ⟨n - 1, by omega, z + 1, _, _, _, _, rfl, F3, News.sub' N3 (by repeat (first | exact Sub.rfl' | refine Sub.tail ?_)), kst_new hps6 (fun p hp => hm2 p (List.mem_cons_of_mem _ hp)) hne3, by omega, by omega, by omega⟩
      · obtain rfl : z = pl (i + 1) := by omega
        rw [← hkz] at ck2
        obtain rfl := ck2
        (revert n h' tk m tz' kz; tm_at "nmx5"; refine fun n h' tk m tz' => ?_; k_extra "kf"; tm_at "nmx1"; refine fun kz => ?_; k_extra "kw")
        obtain ⟨hki, hge⟩ := skip_no.mp ck3
        have hany : ((castL (ups.take i)).any (· == ((kz : Nat) : Int))) = false := by rw [castL_mem]; simpa using hki
        have xW : (castL ups)[((i : Nat) : Int).toNat]? = some ((kz : Nat) : Int) := castL_at ck1
        k_steps
        all_goals (try ((first | (with_reducible show _ < _) | (with_reducible show _ ≤ _) | (with_reducible show _ = _) | (with_reducible show _ ∧ _) | (with_reducible show False)); omega))
        · (rename Fr _ _ _ _ => F3)
          (rename News _ _ _ _ => N3)
          have hmin2 : min ((i : Nat) + 1) ups.length = i + 1 := Nat.min_eq_left (by omega)
          refine ⟨i + 1, _, _, _, tz', rfl, F3, News.sub' N3 ?_, ?_, by omega, by omega⟩
          · rw [show 5 - (i + 1) = r by omega]
            repeat (first | exact Sub.rfl' | refine Sub.tail ?_)
          · (try dsimp only)
            rw [hmin2]
            exact drop2_all (kst_at hps6 hm2)
    · have hne2 : ∀ p ∈ nP (pl (min (i : Nat) ups.length)) tz :: fs, p.1 ≠ Str.ofString "n" := all_cons (φ := fun p => p.1 ≠ Str.ofString "n") ne_pl fun p hp => (hfs p hp).2
      k_steps
      (rename Fr _ _ _ _ => F3)
      (rename News _ _ _ _ => N3)
      refine ⟨i + 1, _, _, _, tz, rfl, F3, News.sub' N3 ?_, ?_, by omega, by omega⟩
      · rw [show 5 - (i + 1) = r by omega]
        repeat (first | exact Sub.rfl' | refine Sub.tail ?_)
      · (try dsimp only)
        rw [show min ((i : Nat) + 1) ups.length = min (i : Nat) ups.length by omega]
        exact fun p hp => kst_new hps5 hm hne2 p (List.mem_cons_of_mem _ hp)
  · obtain rfl : i = 5 := by omega
    (revert h' tk m tz j; tm_at "nmx4"; refine fun h' tk m tz => ?_; k_extra "kf"; tm_at "nmx1"; refine fun j => ?_; k_extra "kw")
    refine rg_doneA hh F1 N ?_ ?_
    · k_extra "gs_offA"
    (tm_at "nmx1"; refine fun h'' => ?_)
    intro F' N'
    clear F N F1
    dsimp only [OwitTurn]
    k_steps
    exact h _ _ _ F' (fun p hp => kst_at hps5 hm p (List.mem_cons_of_mem _ hp)) N'
theorem zeq : (w, A, base, g, fr, mg, mb, p, loose, mean, s, L, fa, cd, m, Q, E, rest, P, q, nd, ol, WD, ndv, ov, wv, need, nn, on, wn, V, os, ups, qu, pl, fs) = Z := by with_unfolding_all rfl
end Cseg_h4
set_option maxHeartbeats 4000000 in
theorem seg_h4 {w : World} {A : Around} {base g : Heap} {fr : List Env} {mg mb : Str → Option Value} {p : Program} {loose : List Str} {mean : ExcName → Option Value} {s : Shared} {L fa : Addr} {cd : Value} {m : Str → Option Value} {Q : Flow → Shared → Prop} {E : Value → Shared → Prop} {rest : List Stmt} {P : Par} {q : ToldP} {nd ol WD : Addr} {ndv ov wv : List Value} {need : List Int} {nn on wn : Nat} {V : List (Addr × Obj)} {os ups qu : List Nat} {pl : Nat → Nat} {fs : List (Str × Value)} : Cseg_h4.Sta w A base g fr mg mb p loose mean s L fa cd m Q E rest P q nd ol WD ndv ov wv need nn on wn V os ups qu pl fs :=
  hilb Cseg_h4.P0 Cseg_h4.Z rfl (Eq.subst (motive := Cseg_h4.P0) Cseg_h4.zeq Cseg_h4.key) (w, A, base, g, fr, mg, mb, p, loose, mean, s, L, fa, cd, m, Q, E, rest, P, q, nd, ol, WD, ndv, ov, wv, need, nn, on, wn, V, os, ups, qu, pl, fs)
section
end
end Mine

namespace Mine
open PySem.Calls
theorem offT_alL {a : Addr} {st : List (Addr × Obj)} (h : ∀ p ∈ st, p.1 < a) : OffT a st := fun p hp => Nat.ne_of_gt (h p hp)
theorem row138 : True := by
  k_with "gs_ot" => first | exact offT_alL (by assumption)
  trivial
theorem ne_kp : Str.ofString "k" ≠ Str.ofString "pushes" := by decide
theorem ne_due : Str.ofString "due" ≠ Str.ofString "k" ∧ Str.ofString "due" ≠ Str.ofString "pushes" := by decide
theorem due_ok {P : Par} (O : ParOk P) {ups qu : List Nat} (h5 : Five ups qu) : ∀ x ∈ qu.map (dueW P.Vn P.Aa P.Bh ups), PyData.strOk x = true := fun x hx => by
  obtain ⟨k, hk, rfl⟩ := List.mem_map.mp hx
  have hk5 := h5.lt hk
  obtain ⟨a3, b3⟩ := O.ab k
  exact padW_ok k hk5 _ (by omega) _ (by omega)
inductive DuP (P : Par) (g : Heap) (L I1 dD ol : Addr) (os ups : List Nat) (V : List (Addr × Obj)) (fs : List (Str × Value)) (s : Shared) (k : Nat) (s' : Shared) : Prop
  | mk (i : Nat) (h : Heap) (tk : Nat) (m : Str → Option Value) (o : Obj) (dv : List Value) (dn : Nat) (_ : s' = { s with heap := h, toks := tk }) (_ : Fr g L h m) (_ : Lit o ol i) (_ : News g L h ((I1, o) :: (dD, W.listOf dv.toArray dn) :: V)) (_ : StrsAre dv (((os.take i).filter fun k => decide (k ∉ ups)).map (dueW P.Vn P.Aa P.Bh ups))) (_ : (∀ p ∈ (Str.ofString "due", Value.ref dD) :: fs, m p.1 = some p.2)) (_ : i + k = 6) (_ : i ≤ 5) : DuP P g L I1 dD ol os ups V fs s k s'
theorem due_in {os ups : List Nat} {i k : Nat} {f : Nat → Str} (h : os.take (i + 1) = os.take i ++ [k]) (hk : k ∈ ups) : ((os.take (i + 1)).filter fun k => decide (k ∉ ups)).map f = ((os.take i).filter fun k => decide (k ∉ ups)).map f := by
  rw [h, List.filter_append, List.map_append]; simp [hk]
theorem due_out {os ups : List Nat} {i k : Nat} {f : Nat → Str} (h : os.take (i + 1) = os.take i ++ [k]) (hk : k ∉ ups) : ((os.take (i + 1)).filter fun k => decide (k ∉ ups)).map f = ((os.take i).filter fun k => decide (k ∉ ups)).map f ++ [f k] := by
  rw [h, List.filter_append, List.map_append]; simp [hk]
section
variable {prog : Program} {w : World} {A : Around} {E : Value → Shared → Prop} {s : Shared} {h₀ : Heap} {L : Addr} {m : Str → Option Value} {news : List (Addr × Obj)}
theorem maxI_K {a b z : Int} {t u : Tok} {Q : Value → Shared → Prop} (hh : A.handled = none) (F : Fr h₀ L s.heap m) (N : News h₀ L s.heap news) (e : max a b = z)
    (h : ∀ t' h' tk, Fr h₀ L h' m → News h₀ L h' news → Q (.int z t') { s with heap := h', toks := tk }) : wpAny (model prog w) A (call (.builtin "max") [.int a t, .int b u]) Q E s := by
  refine max_two_N hh F N fun h' tk F' N' => ?_
  have e' : (if b > a then b else a) = z := by rw [← e]; split <;> omega
  rw [e']
  exact h _ h' tk F' N'
end
theorem row139 : True := by
  k_with "call builtin:max" => (k_here; k_dflt (refine' maxI_K ?hr139 ?Fr139 ?Nr139 ?er139 ?_; (case hr139 => assumption); (case Fr139 => k_asm); (case Nr139 => k_asm); (case er139 => assumption)); ((first | tm_at "clo1" | refine fun t'q9 => ?_); (first | tm_at "clo1" | refine fun h'q9 => ?_); (first | tm_at "clo1" | refine fun tk'q9 => ?_); refine fun F'q9 => ?_; refine fun N'q9 => ?_))
  trivial
theorem row140 : True := by
  k_with "exec For Name Name cons nil" => (k_here; k_dflt (refine fi_for (hE := by assumption) ?_))
  trivial
theorem row141 : True := by
  k_with "compareOp NotIn int ref" => (k_here; k_dflt (refine' notinI_K ?Nr141 ?mr141 ?ir141 ?er141 ?_; (case Nr141 => k_asm); (case mr141 => k_mem); (case ir141 => assumption); (case er141 => assumption)))
  trivial
theorem row142 : True := by
  k_with "binaryOp Mult str int" => (k_here; k_dflt (refine' sp_K ?er142 ?ar142 ?_; (case er142 => first | assumption | exact rfl); (case ar142 => omega)); ((first | tm_at "clo1" | refine fun _ => ?_); (first | tm_at "clo1" | refine fun _ => ?_)))
  trivial
theorem row143 : True := by
  k_with "subscriptTail Name Name ref int" => (k_here; k_dflt (first | (refine' item_NE ?Nr143 ?mr143 ?ir143 ?xr143 ?h0r143 ?h1r143 ?_; (case Nr143 => k_asm); (case mr143 => k_mem); (case ir143 => assumption); (case xr143 => assumption); (case h0r143 => omega); (case h1r143 => omega); ((first | tm_at "clo1" | refine fun _ => ?_))) | (refine' item_SE ?Nr143 ?mr143 ?ir143 ?xr143 ?h0r143 ?h1r143 ?_; (case Nr143 => k_asm); (case mr143 => k_mem); (case ir143 => assumption); (case xr143 => assumption); (case h0r143 => omega); (case h1r143 => omega); ((first | tm_at "clo1" | refine fun _ => ?_)))))
  trivial
theorem row144 : True := by
  k_with "compareOp NotEq ref ref" => (k_here; k_dflt (refine' neS_K ?Nr144 ?ar144 ?br144 ?ir144 ?jr144 ?kr144 ?ur144 ?_; (case Nr144 => k_asm); (case ar144 => k_mem); (case br144 => k_mem); (case ir144 => assumption); (case jr144 => assumption); (case kr144 => assumption); (case ur144 => (try simp only [units_under_make, Around.deeper_units]); omega)))
  trivial
theorem row145 : True := by
  k_with "k_enter" => ((with_reducible show codeAny _ _ (Code.call (Value.ref 244) _) _ _); (refine' GS.callS (own := toldNews _ ++ [(_, W.listOf (List.toArray _) _)]) ?kBr145 ?kFr145 ?kXr145 ?kNr145 ?kTr145 ?kAr145 ?kfr145 ?kkr145 ?kor145 (fun ggq9 gBq9 gXq9 gTq9 gGq9 gKq9 gBackq9 => got_c gBq9 gXq9 gTq9 gGq9 ?i1r145 ?i2r145 ?i3r145 ?i4r145 ?i5r145 ?i6r145 ?i7r145 ?i8r145 ?_); (case kBr145 => assumption); (case kFr145 => assumption); (case kXr145 => assumption); (case kNr145 => assumption); (case kTr145 => assumption); (case kAr145 => keq_hits); (case kfr145 => exact rfl); (case kkr145 => exact rfl); (case kor145 => (refine sub_app ?_ ?_; (repeat (first | assumption | refine Sub.tail ?_)); k_mem)); (case i1r145 => assumption); (case i2r145 => assumption); (case i3r145 => assumption); (case i4r145 => k_room); (case i5r145 => (try simp only [units_under_make, Around.deeper_units]); omega); (case i6r145 => assumption); (case i7r145 => assumption); (case i8r145 => assumption); (revert ggq9; ((first | tm_at "clo1" | refine fun ggq9 => ?_); refine fun gBq9 => ?_; refine fun gXq9 => ?_; refine fun gTq9 => ?_; refine fun gGq9 => ?_; refine fun gKq9 => ?_; refine fun gBackq9 => ?_); ((first | tm_at "clo1" | refine fun u'q9 => ?_); (first | tm_at "clo1" | refine fun tk'q9 => ?_); (first | tm_at "clo1" | refine fun h'q9 => ?_); refine fun gG'q9 => ?_); (obtain ⟨F'q9, N'q9, -⟩ := gBackq9 _ [] gG'q9 (fun p hp => (nomatch hp))); (clear gBq9 gXq9 gTq9 gGq9 gKq9 gBackq9 gG'q9); (try simp only [List.nil_append] at N'q9); (try dsimp only))))
  trivial
section
variable {w : World} {A : Around} {base g : Heap} {fr : List Env} {mg mb : Str → Option Value} {p : Program} {loose : List Str} {mean : ExcName → Option Value} {s : Shared} {L fa : Addr} {cd : Value} {m : Str → Option Value} {Q : Flow → Shared → Prop} {E : Value → Shared → Prop} {rest : List Stmt}
  (B : Below A base fr g) (X : Frag.In (hd.heap_39 w.params) g) (T : Top p loose mean mg mb g)
include B X T
end
namespace Cseg_h5
noncomputable def Sta (w : World) (A : Around) (base g : Heap) (fr : List Env) (mg mb : Str → Option Value) (p : Program) (loose : List Str) (mean : ExcName → Option Value) (s : Shared) (L fa : Addr) (cd : Value) (m : Str → Option Value) (Q : Flow → Shared → Prop) (E : Value → Shared → Prop) (rest : List Stmt) (P : Par) (q : ToldP) (ol WD D2 nD aD bD : Addr) (ov wv vs2 nv av bv : List Value) (as bs : List Int) (on wn n2 nn an bn : Nat) (V : List (Addr × Obj)) (os ups qu : List Nat) (c2 c4 c5 : Obj) (fs : List (Str × Value)) : Prop := ∀ (B : Below A base fr g) (X : Frag.In (hd.heap_39 w.params) g) (T : Top p loose mean mg mb g) (O : ParOk P) (hE : PassesOwn (model Challenge.rw_st0024_01.row.prog w) (A.deeper (lawEnv L fa cd)) (lawEnv L fa cd) E) (hh : A.handled = none) (hroom : A.depth + 60 < recursionLimit) (hu : A.units + 600 < cLine) (C : CodeHd base 228 224) (I : ToldF q (fun k => castL (P.Vn k))) (hV : Sub (toldNews q) V) (hn : StrsAre nv [Str.ofString "a", Str.ofString "B c", Str.ofString "\"", Str.ofString "\\", Str.ofString "#"]) (e2 : c2.data = .cell (some (.ref nD))) (m2 : (L + 1 + 1, c2) ∈ V) (mn : (nD, W.listOf nv.toArray nn) ∈ V) (ha : IntsAre av as) (hA : ∀ k < 5, as[k]? = some (P.Aa k : Int)) (e4 : c4.data = .cell (some (.ref aD))) (m4 : (L + 1 + 1 + 1 + 1, c4) ∈ V) (ma : (aD, W.listOf av.toArray an) ∈ V) (hb : IntsAre bv bs) (hB : ∀ k < 5, bs[k]? = some (P.Bh k : Int)) (e5 : c5.data = .cell (some (.ref bD))) (m5 : (L + 1 + 1 + 1 + 1 + 1, c5) ∈ V) (mb' : (bD, W.listOf bv.toArray bn) ∈ V) (mo : (ol, W.listOf ov.toArray on) ∈ V) (ho : IntsAre ov (castL os)) (ho5 : os.length = 5) (hos : ∀ k ∈ os, k < 5) (mW : (WD, W.listOf wv.toArray wn) ∈ V) (hwv : IntsAre wv (castL ups)) (h5 : Five ups qu) (hqu : qu = os.filter fun k => decide (k ∉ ups)) (hcl : ∀ x < 5, x ∉ ups → got P.Vn ups x < P.Aa x + P.Bh x) (mR : (D2, W.listOf vs2.toArray n2) ∈ V) (hR : StrsAre vs2 (qu.map (dueW P.Vn P.Aa P.Bh ups))) (F0 : Fr g L s.heap m) (hm : ∀ p ∈ fs, m p.1 = some p.2) (hin : Sub [(Str.ofString "told", Value.ref q.tl), (Str.ofString "order", Value.ref ol), (Str.ofString "who", Value.ref WD), (Str.ofString "rest", Value.ref D2)] fs) (hfs : ∀ p ∈ fs, p.1 ≠ Str.ofString "due" ∧ p.1 ≠ Str.ofString "k" ∧ p.1 ≠ Str.ofString "pushes") (N : News g L s.heap V) (h : ∀ h' tk m', Fr g L h' m' → (∀ p ∈ fs, m' p.1 = some p.2) → News g L h' V →
    wpAny (model Challenge.rw_st0024_01.row.prog w) (A.deeper (lawEnv L fa cd)) (execs rest (lawEnv L fa cd)) Q E { s with heap := h', toks := tk }), wpAny (model Challenge.rw_st0024_01.row.prog w) (A.deeper (lawEnv L fa cd)) (execs (ob6s.1 :: ob7s.1 :: ob8s.1 :: rest) (lawEnv L fa cd)) Q E s
noncomputable def P0 (z : World × Around × Heap × Heap × (List Env) × (Str → Option Value) × (Str → Option Value) × Program × (List Str) × (ExcName → Option Value) × Shared × Addr × Addr × Value × (Str → Option Value) × (Flow → Shared → Prop) × (Value → Shared → Prop) × (List Stmt) × Par × ToldP × Addr × Addr × Addr × Addr × Addr × Addr × (List Value) × (List Value) × (List Value) × (List Value) × (List Value) × (List Value) × (List Int) × (List Int) × Nat × Nat × Nat × Nat × Nat × Nat × (List (Addr × Obj)) × (List Nat) × (List Nat) × (List Nat) × Obj × Obj × Obj × (List (Str × Value))) : Prop := Sta (z.1) (z.2.1) (z.2.2.1) (z.2.2.2.1) (z.2.2.2.2.1) (z.2.2.2.2.2.1) (z.2.2.2.2.2.2.1) (z.2.2.2.2.2.2.2.1) (z.2.2.2.2.2.2.2.2.1) (z.2.2.2.2.2.2.2.2.2.1) (z.2.2.2.2.2.2.2.2.2.2.1) (z.2.2.2.2.2.2.2.2.2.2.2.1) (z.2.2.2.2.2.2.2.2.2.2.2.2.1) (z.2.2.2.2.2.2.2.2.2.2.2.2.2.1) (z.2.2.2.2.2.2.2.2.2.2.2.2.2.2.1) (z.2.2.2.2.2.2.2.2.2.2.2.2.2.2.2.1) (z.2.2.2.2.2.2.2.2.2.2.2.2.2.2.2.2.1) (z.2.2.2.2.2.2.2.2.2.2.2.2.2.2.2.2.2.1) (z.2.2.2.2.2.2.2.2.2.2.2.2.2.2.2.2.2.2.1) (z.2.2.2.2.2.2.2.2.2.2.2.2.2.2.2.2.2.2.2.1) (z.2.2.2.2.2.2.2.2.2.2.2.2.2.2.2.2.2.2.2.2.1) (z.2.2.2.2.2.2.2.2.2.2.2.2.2.2.2.2.2.2.2.2.2.1) (z.2.2.2.2.2.2.2.2.2.2.2.2.2.2.2.2.2.2.2.2.2.2.1) (z.2.2.2.2.2.2.2.2.2.2.2.2.2.2.2.2.2.2.2.2.2.2.2.1) (z.2.2.2.2.2.2.2.2.2.2.2.2.2.2.2.2.2.2.2.2.2.2.2.2.1) (z.2.2.2.2.2.2.2.2.2.2.2.2.2.2.2.2.2.2.2.2.2.2.2.2.2.1) (z.2.2.2.2.2.2.2.2.2.2.2.2.2.2.2.2.2.2.2.2.2.2.2.2.2.2.1) (z.2.2.2.2.2.2.2.2.2.2.2.2.2.2.2.2.2.2.2.2.2.2.2.2.2.2.2.1) (z.2.2.2.2.2.2.2.2.2.2.2.2.2.2.2.2.2.2.2.2.2.2.2.2.2.2.2.2.1) (z.2.2.2.2.2.2.2.2.2.2.2.2.2.2.2.2.2.2.2.2.2.2.2.2.2.2.2.2.2.1) (z.2.2.2.2.2.2.2.2.2.2.2.2.2.2.2.2.2.2.2.2.2.2.2.2.2.2.2.2.2.2.1) (z.2.2.2.2.2.2.2.2.2.2.2.2.2.2.2.2.2.2.2.2.2.2.2.2.2.2.2.2.2.2.2.1) (z.2.2.2.2.2.2.2.2.2.2.2.2.2.2.2.2.2.2.2.2.2.2.2.2.2.2.2.2.2.2.2.2.1) (z.2.2.2.2.2.2.2.2.2.2.2.2.2.2.2.2.2.2.2.2.2.2.2.2.2.2.2.2.2.2.2.2.2.1) (z.2.2.2.2.2.2.2.2.2.2.2.2.2.2.2.2.2.2.2.2.2.2.2.2.2.2.2.2.2.2.2.2.2.2.1) (z.2.2.2.2.2.2.2.2.2.2.2.2.2.2.2.2.2.2.2.2.2.2.2.2.2.2.2.2.2.2.2.2.2.2.2.1) (z.2.2.2.2.2.2.2.2.2.2.2.2.2.2.2.2.2.2.2.2.2.2.2.2.2.2.2.2.2.2.2.2.2.2.2.2.1) (z.2.2.2.2.2.2.2.2.2.2.2.2.2.2.2.2.2.2.2.2.2.2.2.2.2.2.2.2.2.2.2.2.2.2.2.2.2.1) (z.2.2.2.2.2.2.2.2.2.2.2.2.2.2.2.2.2.2.2.2.2.2.2.2.2.2.2.2.2.2.2.2.2.2.2.2.2.2.1) (z.2.2.2.2.2.2.2.2.2.2.2.2.2.2.2.2.2.2.2.2.2.2.2.2.2.2.2.2.2.2.2.2.2.2.2.2.2.2.2.1) (z.2.2.2.2.2.2.2.2.2.2.2.2.2.2.2.2.2.2.2.2.2.2.2.2.2.2.2.2.2.2.2.2.2.2.2.2.2.2.2.2.1) (z.2.2.2.2.2.2.2.2.2.2.2.2.2.2.2.2.2.2.2.2.2.2.2.2.2.2.2.2.2.2.2.2.2.2.2.2.2.2.2.2.2.1) (z.2.2.2.2.2.2.2.2.2.2.2.2.2.2.2.2.2.2.2.2.2.2.2.2.2.2.2.2.2.2.2.2.2.2.2.2.2.2.2.2.2.2.1) (z.2.2.2.2.2.2.2.2.2.2.2.2.2.2.2.2.2.2.2.2.2.2.2.2.2.2.2.2.2.2.2.2.2.2.2.2.2.2.2.2.2.2.2.1) (z.2.2.2.2.2.2.2.2.2.2.2.2.2.2.2.2.2.2.2.2.2.2.2.2.2.2.2.2.2.2.2.2.2.2.2.2.2.2.2.2.2.2.2.2.1) (z.2.2.2.2.2.2.2.2.2.2.2.2.2.2.2.2.2.2.2.2.2.2.2.2.2.2.2.2.2.2.2.2.2.2.2.2.2.2.2.2.2.2.2.2.2.1) (z.2.2.2.2.2.2.2.2.2.2.2.2.2.2.2.2.2.2.2.2.2.2.2.2.2.2.2.2.2.2.2.2.2.2.2.2.2.2.2.2.2.2.2.2.2.2.1) (z.2.2.2.2.2.2.2.2.2.2.2.2.2.2.2.2.2.2.2.2.2.2.2.2.2.2.2.2.2.2.2.2.2.2.2.2.2.2.2.2.2.2.2.2.2.2.2)
noncomputable def Z := @Classical.epsilon _ ⟨(w00, A00, default, default, [], (fun _ => none), (fun _ => none), default, [], (fun _ => none), s00, 0, 0, .none, (fun _ => none), (fun _ _ => True), (fun _ _ => True), [], par00, told00, 0, 0, 0, 0, 0, 0, [], [], [], [], [], [], [], [], 0, 0, 0, 0, 0, 0, [], [], [], [], default, default, default, [])⟩ fun z => ¬ P0 z
@[irreducible] noncomputable def w := Z.1
@[irreducible] noncomputable def A := Z.2.1
@[irreducible] noncomputable def base := Z.2.2.1
@[irreducible] noncomputable def g := Z.2.2.2.1
@[irreducible] noncomputable def fr := Z.2.2.2.2.1
@[irreducible] noncomputable def mg := Z.2.2.2.2.2.1
@[irreducible] noncomputable def mb := Z.2.2.2.2.2.2.1
@[irreducible] noncomputable def p := Z.2.2.2.2.2.2.2.1
@[irreducible] noncomputable def loose := Z.2.2.2.2.2.2.2.2.1
@[irreducible] noncomputable def mean := Z.2.2.2.2.2.2.2.2.2.1
@[irreducible] noncomputable def s := Z.2.2.2.2.2.2.2.2.2.2.1
@[irreducible] noncomputable def L := Z.2.2.2.2.2.2.2.2.2.2.2.1
@[irreducible] noncomputable def fa := Z.2.2.2.2.2.2.2.2.2.2.2.2.1
@[irreducible] noncomputable def cd := Z.2.2.2.2.2.2.2.2.2.2.2.2.2.1
@[irreducible] noncomputable def m := Z.2.2.2.2.2.2.2.2.2.2.2.2.2.2.1
@[irreducible] noncomputable def Q := Z.2.2.2.2.2.2.2.2.2.2.2.2.2.2.2.1
@[irreducible] noncomputable def E := Z.2.2.2.2.2.2.2.2.2.2.2.2.2.2.2.2.1
@[irreducible] noncomputable def rest := Z.2.2.2.2.2.2.2.2.2.2.2.2.2.2.2.2.2.1
@[irreducible] noncomputable def P := Z.2.2.2.2.2.2.2.2.2.2.2.2.2.2.2.2.2.2.1
@[irreducible] noncomputable def q := Z.2.2.2.2.2.2.2.2.2.2.2.2.2.2.2.2.2.2.2.1
@[irreducible] noncomputable def ol := Z.2.2.2.2.2.2.2.2.2.2.2.2.2.2.2.2.2.2.2.2.1
@[irreducible] noncomputable def WD := Z.2.2.2.2.2.2.2.2.2.2.2.2.2.2.2.2.2.2.2.2.2.1
@[irreducible] noncomputable def D2 := Z.2.2.2.2.2.2.2.2.2.2.2.2.2.2.2.2.2.2.2.2.2.2.1
@[irreducible] noncomputable def nD := Z.2.2.2.2.2.2.2.2.2.2.2.2.2.2.2.2.2.2.2.2.2.2.2.1
@[irreducible] noncomputable def aD := Z.2.2.2.2.2.2.2.2.2.2.2.2.2.2.2.2.2.2.2.2.2.2.2.2.1
@[irreducible] noncomputable def bD := Z.2.2.2.2.2.2.2.2.2.2.2.2.2.2.2.2.2.2.2.2.2.2.2.2.2.1
@[irreducible] noncomputable def ov := Z.2.2.2.2.2.2.2.2.2.2.2.2.2.2.2.2.2.2.2.2.2.2.2.2.2.2.1
@[irreducible] noncomputable def wv := Z.2.2.2.2.2.2.2.2.2.2.2.2.2.2.2.2.2.2.2.2.2.2.2.2.2.2.2.1
@[irreducible] noncomputable def vs2 := Z.2.2.2.2.2.2.2.2.2.2.2.2.2.2.2.2.2.2.2.2.2.2.2.2.2.2.2.2.1
@[irreducible] noncomputable def nv := Z.2.2.2.2.2.2.2.2.2.2.2.2.2.2.2.2.2.2.2.2.2.2.2.2.2.2.2.2.2.1
@[irreducible] noncomputable def av := Z.2.2.2.2.2.2.2.2.2.2.2.2.2.2.2.2.2.2.2.2.2.2.2.2.2.2.2.2.2.2.1
@[irreducible] noncomputable def bv := Z.2.2.2.2.2.2.2.2.2.2.2.2.2.2.2.2.2.2.2.2.2.2.2.2.2.2.2.2.2.2.2.1
@[irreducible] noncomputable def as := Z.2.2.2.2.2.2.2.2.2.2.2.2.2.2.2.2.2.2.2.2.2.2.2.2.2.2.2.2.2.2.2.2.1
@[irreducible] noncomputable def bs := Z.2.2.2.2.2.2.2.2.2.2.2.2.2.2.2.2.2.2.2.2.2.2.2.2.2.2.2.2.2.2.2.2.2.1
@[irreducible] noncomputable def on := Z.2.2.2.2.2.2.2.2.2.2.2.2.2.2.2.2.2.2.2.2.2.2.2.2.2.2.2.2.2.2.2.2.2.2.1
@[irreducible] noncomputable def wn := Z.2.2.2.2.2.2.2.2.2.2.2.2.2.2.2.2.2.2.2.2.2.2.2.2.2.2.2.2.2.2.2.2.2.2.2.1
@[irreducible] noncomputable def n2 := Z.2.2.2.2.2.2.2.2.2.2.2.2.2.2.2.2.2.2.2.2.2.2.2.2.2.2.2.2.2.2.2.2.2.2.2.2.1
@[irreducible] noncomputable def nn := Z.2.2.2.2.2.2.2.2.2.2.2.2.2.2.2.2.2.2.2.2.2.2.2.2.2.2.2.2.2.2.2.2.2.2.2.2.2.1
@[irreducible] noncomputable def an := Z.2.2.2.2.2.2.2.2.2.2.2.2.2.2.2.2.2.2.2.2.2.2.2.2.2.2.2.2.2.2.2.2.2.2.2.2.2.2.1
@[irreducible] noncomputable def bn := Z.2.2.2.2.2.2.2.2.2.2.2.2.2.2.2.2.2.2.2.2.2.2.2.2.2.2.2.2.2.2.2.2.2.2.2.2.2.2.2.1
@[irreducible] noncomputable def V := Z.2.2.2.2.2.2.2.2.2.2.2.2.2.2.2.2.2.2.2.2.2.2.2.2.2.2.2.2.2.2.2.2.2.2.2.2.2.2.2.2.1
@[irreducible] noncomputable def os := Z.2.2.2.2.2.2.2.2.2.2.2.2.2.2.2.2.2.2.2.2.2.2.2.2.2.2.2.2.2.2.2.2.2.2.2.2.2.2.2.2.2.1
@[irreducible] noncomputable def ups := Z.2.2.2.2.2.2.2.2.2.2.2.2.2.2.2.2.2.2.2.2.2.2.2.2.2.2.2.2.2.2.2.2.2.2.2.2.2.2.2.2.2.2.1
@[irreducible] noncomputable def qu := Z.2.2.2.2.2.2.2.2.2.2.2.2.2.2.2.2.2.2.2.2.2.2.2.2.2.2.2.2.2.2.2.2.2.2.2.2.2.2.2.2.2.2.2.1
@[irreducible] noncomputable def c2 := Z.2.2.2.2.2.2.2.2.2.2.2.2.2.2.2.2.2.2.2.2.2.2.2.2.2.2.2.2.2.2.2.2.2.2.2.2.2.2.2.2.2.2.2.2.1
@[irreducible] noncomputable def c4 := Z.2.2.2.2.2.2.2.2.2.2.2.2.2.2.2.2.2.2.2.2.2.2.2.2.2.2.2.2.2.2.2.2.2.2.2.2.2.2.2.2.2.2.2.2.2.1
@[irreducible] noncomputable def c5 := Z.2.2.2.2.2.2.2.2.2.2.2.2.2.2.2.2.2.2.2.2.2.2.2.2.2.2.2.2.2.2.2.2.2.2.2.2.2.2.2.2.2.2.2.2.2.2.1
@[irreducible] noncomputable def fs := Z.2.2.2.2.2.2.2.2.2.2.2.2.2.2.2.2.2.2.2.2.2.2.2.2.2.2.2.2.2.2.2.2.2.2.2.2.2.2.2.2.2.2.2.2.2.2.2
set_option maxHeartbeats 4000000 in
theorem key : Sta w A base g fr mg mb p loose mean s L fa cd m Q E rest P q ol WD D2 nD aD bD ov wv vs2 nv av bv as bs on wn n2 nn an bn V os ups qu c2 c4 c5 fs := fun B X T O hE hh hroom hu C I hV hn e2 m2 mn ha hA e4 m4 ma hb hB e5 m5 mb' mo ho ho5 hos mW hwv h5 hqu hcl mR hR F0 hm hin hfs N h => by
  revert X; k_fill; intro X
  have hps4 : ∀ p ∈ [(Str.ofString "told", Value.ref q.tl), (Str.ofString "order", Value.ref ol), (Str.ofString "who", Value.ref WD), (Str.ofString "rest", Value.ref D2)], m p.1 = some p.2 := fun p hp => hm p (hin p hp)
  have F1 := Fr.expose _ F0 hps4
  dsimp only [kstB] at F1
  clear F0
  have lc := h5.card
  have lo := ho.length
  simp only [castL, List.length_map, ho5] at lo
  dsimp only
  k_steps
  (rename Fr _ _ _ _ => F2)
  (rename News _ _ _ _ => N2)
  have dD := nm_h N2
  refine li_iter F2 N2 (List.mem_cons_of_mem _ mo) ?_
  (tm_at "nmx3"; refine fun I1 o1 h1 => ?_)
  intro ho1 F3 N3 lI
  k_lt lI
  refine fi_at 6 (DuP P g L I1 dD ol os ups V fs s) ⟨0, h1, _, _, o1, [], 0, rfl, F3, ho1, News.sub' N3 (by k_extra "gs_sub"), .nil, kst_new hps4 hm fun p hp => (hfs p hp).1, by omega, by omega⟩ ?_
  clear F2 N2 F3 N3 ho1 o1 hm
  rintro k s' ⟨i, h', tk, m, o, dv, dn, rfl, F, hlo, N, hdv, hm, hk, hi⟩
  have hps5 : ∀ p ∈ ((Str.ofString "due", Value.ref dD) :: [(Str.ofString "told", Value.ref q.tl), (Str.ofString "order", Value.ref ol), (Str.ofString "who", Value.ref WD), (Str.ofString "rest", Value.ref D2)]), m p.1 = some p.2 := all_cons (φ := fun p => m p.1 = some p.2) (hm _ List.mem_cons_self) fun p hp => hm p (List.mem_cons_of_mem _ (hin p hp))
  have F1 := Fr.expose _ F hps5
  dsimp only [kstB] at F1
  obtain ⟨j, rfl⟩ : ∃ j, k = j + 1 := ⟨k - 1, by omega⟩
  refine ⟨j, rfl, ?_⟩
  by_cases h55 : i < 5
  · obtain ⟨k0, hk1, -, hk3, hk4⟩ := drop_cons (l := os) (c := i) (by omega)
    have hk5 := hos k0 hk4
    obtain ⟨tx, hxv⟩ := IntsAre.at' ho (castL_at hk1)
    (revert i h' tk m o dv dn j k0 tx; tm_at "nmx7"; refine fun i h' tk m o dv dn => ?_; k_extra "kf"; tm_at "nmx1"; refine fun j => ?_; k_extra "kf"; tm_at "nmx1"; refine fun k0 => ?_; k_extra "kf"; tm_at "nmx1"; refine fun tx => ?_; k_extra "kw")
    refine li_next F1 N ?_ hlo (List.mem_cons_of_mem _ mo) hxv ?_
    · exact OffA.cons (Nat.ne_of_gt lI.out.1) (offA_T (offT_lt lI.out.2))
    (tm_at "nmx2"; refine fun o' h'' => ?_)
    intro ho' F' N'
    clear F N F1
    dsimp only [OwitTurn]
    have hne5 : ∀ p ∈ (Str.ofString "due", Value.ref dD) :: fs, p.1 ≠ Str.ofString "k" ∧ p.1 ≠ Str.ofString "pushes" := all_cons (φ := fun p => p.1 ≠ Str.ofString "k" ∧ p.1 ≠ Str.ofString "pushes") ne_due fun p hp => (hfs p hp).2
    by_cases hki : (k0 : Nat) ∈ ups
    · have hany : ((castL ups).any (· == ((k0 : Nat) : Int))) = true := by rw [castL_mem]; simpa using hki
      k_steps
      (rename Fr _ _ _ _ => F3)
      (rename News _ _ _ _ => N3)
      refine ⟨i + 1, _, _, _, o', dv, dn, rfl, F3, ho', N3, by rw [due_in hk3 hki]; exact hdv, ?_, by omega, by omega⟩
      exact fun p hp => kst_new hps5 hm (fun p hp => (hne5 p hp).1) p (List.mem_cons_of_mem _ hp)
    · have hany : ((castL ups).any (· == ((k0 : Nat) : Int))) = false := by rw [castL_mem]; simpa using hki
      have hlt := hcl k0 hk5 hki
      obtain ⟨a3, b3⟩ := O.ab k0
      have hgot : (ups.map fun y => ((castL (P.Vn y)).count ((k0 : Nat) : Int) : Int)).sum = ((got P.Vn ups k0 : Nat) : Int) := got_castL _
      have hy5 : ∀ y ∈ ups, y < 5 := fun y hy => h5.2 y (List.mem_append_left _ hy)
      have hyl : ups.length ≤ 1000 := by omega
      have xA : as[((k0 : Nat) : Int).toNat]? = some (P.Aa k0 : Int) := hA k0 hk5
      have xB : bs[((k0 : Nat) : Int).toNat]? = some (P.Bh k0 : Int) := hB k0 hk5
      have xN : [Str.ofString "a", Str.ofString "B c", Str.ofString "\"", Str.ofString "\\", Str.ofString "#"][((k0 : Nat) : Int).toNat]? = some (nm k0) := nm_at k0 hk5
      have f1 : max 0 ((P.Aa k0 : Int) - (ups.map fun y => ((castL (P.Vn y)).count ((k0 : Nat) : Int) : Int)).sum) = ((P.Aa k0 - got P.Vn ups k0 : Nat) : Int) := by rw [hgot]; omega
      have f2 : max 0 ((ups.map fun y => ((castL (P.Vn y)).count ((k0 : Nat) : Int) : Int)).sum - (P.Aa k0 : Int)) = ((got P.Vn ups k0 - P.Aa k0 : Nat) : Int) := by rw [hgot]; omega
      have f3 : ((P.Bh k0 : Int) - ((got P.Vn ups k0 - P.Aa k0 : Nat) : Int)) = ((P.Bh k0 - (got P.Vn ups k0 - P.Aa k0) : Nat) : Int) := by omega
      have g1 : (sp (P.Aa k0 - got P.Vn ups k0)).length ≤ 2 := sp_len _
      have g2 : (nm k0).length ≤ 3 := (swN_len k0 hk5).2
      have g3 : (sp (P.Aa k0 - got P.Vn ups k0) ++ nm k0).length ≤ 5 := by rw [str_app_len]; omega
      have g4 : (sp (P.Bh k0 - (got P.Vn ups k0 - P.Aa k0))).length ≤ 2 := sp_len _
      have hdl : (dv : List Value).length ≤ 20 := by
        rw [StrsAre.length hdv, List.length_map]
        have := List.length_filter_le (fun k => decide (k ∉ ups)) (os.take i)
        have : (os.take i).length ≤ 5 := by rw [List.length_take]; omega
        omega
      k_steps
      (rename Fr _ _ _ _ => F3)
      (rename News _ _ _ _ => N3)
      simp only [List.push_toArray] at N3
      refine ⟨i + 1, _, _, _, o', _, dn + 1, rfl, F3, ho', N3, ?_, ?_, by omega, by omega⟩
      · rw [due_out hk3 hki]
        exact StrsAre.append' hdv (.cons _ _ .nil)
      · exact fun p hp => kst_new2 hps5 hm hne5 ne_kp p (List.mem_cons_of_mem _ (List.mem_cons_of_mem _ hp))
  · obtain rfl : i = 5 := by omega
    (revert h' tk m o dv dn j; tm_at "nmx6"; refine fun h' tk m o dv dn => ?_; k_extra "kf"; tm_at "nmx1"; refine fun j => ?_; k_extra "kw")
    refine li_done hh F1 N ?_ hlo (List.mem_cons_of_mem _ mo) (by rw [List.getElem?_eq_none_iff]; omega) ?_
    · exact OffA.cons (Nat.ne_of_gt lI.out.1) (offA_T (offT_lt lI.out.2))
    (tm_at "nmx1"; refine fun h'' => ?_)
    intro F' N'
    clear F N F1
    dsimp only [OwitTurn]
    have hok : ∀ x ∈ qu.map (dueW P.Vn P.Aa P.Bh ups), PyData.strOk x = true := due_ok O h5
    rw [List.take_of_length_le (Nat.le_of_eq ho5), ← hqu] at hdv
    k_steps
    exact h _ _ _ F' (fun p hp => kst_at hps5 hm p (List.mem_cons_of_mem _ hp)) (News.sub' N' (Sub.tail Sub.rfl'))
theorem zeq : (w, A, base, g, fr, mg, mb, p, loose, mean, s, L, fa, cd, m, Q, E, rest, P, q, ol, WD, D2, nD, aD, bD, ov, wv, vs2, nv, av, bv, as, bs, on, wn, n2, nn, an, bn, V, os, ups, qu, c2, c4, c5, fs) = Z := by with_unfolding_all rfl
end Cseg_h5
set_option maxHeartbeats 4000000 in
theorem seg_h5 {w : World} {A : Around} {base g : Heap} {fr : List Env} {mg mb : Str → Option Value} {p : Program} {loose : List Str} {mean : ExcName → Option Value} {s : Shared} {L fa : Addr} {cd : Value} {m : Str → Option Value} {Q : Flow → Shared → Prop} {E : Value → Shared → Prop} {rest : List Stmt} {P : Par} {q : ToldP} {ol WD D2 nD aD bD : Addr} {ov wv vs2 nv av bv : List Value} {as bs : List Int} {on wn n2 nn an bn : Nat} {V : List (Addr × Obj)} {os ups qu : List Nat} {c2 c4 c5 : Obj} {fs : List (Str × Value)} : Cseg_h5.Sta w A base g fr mg mb p loose mean s L fa cd m Q E rest P q ol WD D2 nD aD bD ov wv vs2 nv av bv as bs on wn n2 nn an bn V os ups qu c2 c4 c5 fs :=
  hilb Cseg_h5.P0 Cseg_h5.Z rfl (Eq.subst (motive := Cseg_h5.P0) Cseg_h5.zeq Cseg_h5.key) (w, A, base, g, fr, mg, mb, p, loose, mean, s, L, fa, cd, m, Q, E, rest, P, q, ol, WD, D2, nD, aD, bD, ov, wv, vs2, nv, av, bv, as, bs, on, wn, n2, nn, an, bn, V, os, ups, qu, c2, c4, c5, fs)
section
end
end Mine

namespace Mine
theorem bits_sorted {mask : Int} : ∀ i, (bitsTo mask i).Pairwise (· ≤ ·)
  | 0 => List.Pairwise.nil
  | i + 1 => by
    unfold bitsTo; split
    · rw [List.pairwise_append]
      refine ⟨bits_sorted i, by simp, ?_⟩
      intro a ha b hb
      have := ((bits_mem i).mp ha).1
      rw [List.mem_singleton.mp hb]
      omega
    · exact bits_sorted i
theorem castL_sorted {l : List Nat} (h : l.Pairwise (· ≤ ·)) : (castL l).Pairwise (· ≤ ·) := by
  unfold castL
  rw [List.pairwise_map]
  exact h.imp fun h => by omega
theorem sort_uniq : ∀ {a b : List Int}, a.Perm b → a.Pairwise (· ≤ ·) → b.Pairwise (· ≤ ·) → a = b := fun hp ha hb =>
  List.Perm.eq_of_pairwise (fun a b _ _ h1 h2 => Int.le_antisymm h1 h2) ha hb hp
theorem perm_of {a b : List Nat} (ha : a.Nodup) (hb : b.Nodup) (h : ∀ y, y ∈ a ↔ y ∈ b) : a.Perm b :=
  List.perm_iff_count.mpr fun y => by
    by_cases hy : y ∈ a
    · rw [ha.count, hb.count, if_pos hy, if_pos ((h y).mp hy)]
    · rw [ha.count, hb.count, if_neg hy, if_neg fun k => hy ((h y).mpr k)]
section
variable {Vn : Nat → List Nat} {A Bh : Nat → Nat} {need : List Int}
theorem sort_upsG {os U : List Nat} {msk : Int} (hn : U.Nodup) (h : ∀ y, y ∈ bitsTo msk 5 ↔ y ∈ U) : ∀ ns' : List Int, ns'.Perm (castL U) → ns'.Pairwise (· ≤ ·) → ns' = castL (bitsTo msk 5) := fun ns' hp hs =>
  sort_uniq (hp.trans ((perm_of hn (bits_nodup 5) fun y => (h y).symm).map _)) hs (castL_sorted (bits_sorted 5))
theorem ups_facts {os ups qu : List Nat} (hN : ∀ k < 5, need[k]? = some ((A k + Bh k : Nat) : Int)) (h5 : os.length = 5) (ho : ∀ k, k ∈ os ↔ k < 5) (hn : os.Nodup) (hR : rnds Vn A Bh 5 [] os = (ups, qu)) :
    (∃ pl, Cert Vn A Bh os ups pl) ∧ qu = os.filter (fun k => decide (k ∉ ups)) ∧ (∀ x < 5, x ∉ ups → got Vn ups x < A x + Bh x) ∧
    ∀ ns' : List Int, ns'.Perm (castL ups) → ns'.Pairwise (· ≤ ·) → ns' = castL (bitsTo (least1 (fun k => castL (Vn k)) need 32) 5) := by
  have hN' : ∀ x < 5, need.getD x 0 = ((A x + Bh x : Nat) : Int) := fun x hx => by rw [List.getD_eq_getElem?_getD, hN x hx]; rfl
  have e1 := rnds_sc (Vn := Vn) (A := A) (Bh := Bh) h5 hn
  have c1 := cert_sc (Vn := Vn) (A := A) (Bh := Bh) (os := os) 25 (Nat.le_refl _)
  have c2 := sc_closed (Vn := Vn) (A := A) (Bh := Bh) h5 ho
  have c3 := sc_nodup (Vn := Vn) (A := A) (Bh := Bh) (os := os) 25
  have c4 := least_ups (Vn := Vn) hN' h5 ho
  revert e1 c1 c2 c3 c4
  generalize sc Vn A Bh os 25 = U
  generalize least1 (fun k => castL (Vn k)) need 32 = msk
  intro e1 c1 c2 c3 c4
  have e2 : (ups, qu) = (U, os.filter fun k => decide (k ∉ U)) := hR.symm.trans e1
  obtain ⟨rfl, rfl⟩ := Prod.mk.inj e2
  obtain ⟨pl, c1, -⟩ := c1
  exact ⟨⟨pl, c1⟩, rfl, c2, sort_upsG (os := os) c3 c4⟩
end
end Mine

namespace Mine
open PySem.Calls
theorem names_ne {ns : List Str} {φ : Str → Bool} {fs : List (Str × Value)} (e : fs.map (·.1) = ns) (h : ns.all φ = true) : ∀ p ∈ fs, φ p.1 = true := fun p hp => by
  subst e
  exact List.all_eq_true.mp h p.1 (List.mem_map_of_mem hp)
theorem names_1 {ns : List Str} {x : Str} {fs : List (Str × Value)} (e : fs.map (·.1) = ns) (h : ns.all (fun z => decide (z ≠ x)) = true) : ∀ p ∈ fs, p.1 ≠ x := fun p hp => of_decide_eq_true (names_ne e h p hp)
theorem names_2 {ns : List Str} {x y : Str} {fs : List (Str × Value)} (e : fs.map (·.1) = ns) (h : ns.all (fun z => decide (z ≠ x ∧ z ≠ y)) = true) : ∀ p ∈ fs, p.1 ≠ x ∧ p.1 ≠ y := fun p hp => of_decide_eq_true (names_ne e h p hp)
theorem names_3 {ns : List Str} {x y z : Str} {fs : List (Str × Value)} (e : fs.map (·.1) = ns) (h : ns.all (fun a => decide (a ≠ x ∧ a ≠ y ∧ a ≠ z)) = true) : ∀ p ∈ fs, p.1 ≠ x ∧ p.1 ≠ y ∧ p.1 ≠ z := fun p hp => of_decide_eq_true (names_ne e h p hp)
theorem subAt {α : Type} {r l : List α} (is : List Nat) (e : is.map (fun i => l[i]?) = r.map some) : Sub r l := fun p hp => by
  have h : some p ∈ r.map some := List.mem_map_of_mem hp
  rw [← e] at h
  obtain ⟨i, -, h⟩ := List.mem_map.mp h
  exact List.mem_of_getElem? h
theorem hm_sub {m : Str → Option Value} {a b : List (Str × Value)} (h : ∀ p ∈ a, m p.1 = some p.2) (hs : Sub b a) : ∀ p ∈ b, m p.1 = some p.2 := fun p hp => h p (hs p hp)
theorem ex_app {α : Type} {a b c d V : List α} (h1 : Sub (a ++ b) V) (h2 : Sub c V) : Sub (a ++ (b ++ c)) V := fun p hp => by
  rcases List.mem_append.mp hp with h | h
  · exact h1 p (List.mem_append_left _ h)
  · rcases List.mem_append.mp h with h | h
    · exact h1 p (List.mem_append_right _ h)
    · exact h2 p h
noncomputable abbrev obAll : List Stmt := [ob0s.1, ob1s.1, ob2s.1, ob3s.1, ob4s.1, ob5s.1, ob6s.1, ob7s.1, ob8s.1]
section
variable {w : World} {A : Around} {base g : Heap} {fr : List Env} {mg mb : Str → Option Value} {p : Program} {loose : List Str} {mean : ExcName → Option Value} {s : Shared} {L fa : Addr} {cd : Value} {m : Str → Option Value} {Q : Flow → Shared → Prop} {E : Value → Shared → Prop}
  (B : Below A base fr g) (X : Frag.In (hd.heap_39 w.params) g) (T : Top p loose mean mg mb g)
include B X T
end
namespace Cbody_c
noncomputable def Stmt (w : World) (A : Around) (base g : Heap) (fr : List Env) (mg mb : Str → Option Value) (p : Program) (loose : List Str) (mean : ExcName → Option Value) (s : Shared) (L fa : Addr) (cd : Value) (m : Str → Option Value) (Q : Flow → Shared → Prop) (E : Value → Shared → Prop) (P : Par) (lx : LexP) (ln : Int) (u : Tok) (vs : List Value) (gn pn : Nat) (x d l : Addr) (t : Tok) (refs : List Value) (n : Nat) (U ts : List (Addr × Obj)) (rD ol : Addr) (rv ov : List Value) (rn on : Nat) (c7 c8 : Obj) (os : List Nat) (nD aD bD wD nd lD : Addr) (nv av bv wsv ndv lv : List Value) (as bs : List Int) (nn an bn wsn ndn ln' : Nat) (c2 c4 c5 c6 : Obj) (need : List Int) (q : ToldP) : Prop := ∀ (B : Below A base fr g) (X : Frag.In (hd.heap_39 w.params) g) (T : Top p loose mean mg mb g) (O : ParOk P) (hE : PassesOwn (model Challenge.rw_st0024_01.row.prog w) (A.deeper (lawEnv L fa cd)) (lawEnv L fa cd) E) (hh : A.handled = none) (hroom : A.depth + 60 < recursionLimit) (hu : A.units + 600 < cLine) (C : CodeHd base 228 224) (J : LexF lx) (hr : StrsAre rv (wTo P 5)) (e7 : c7.data = .cell (some (.ref lx.x2))) (e8 : c8.data = .cell (some (.ref rD))) (m7 : (L + 1 + 1 + 1 + 1 + 1 + 1 + 1, c7) ∈ U) (m8 : (L + 1 + 1 + 1 + 1 + 1 + 1 + 1 + 1, c8) ∈ U) (mr : (rD, W.listOf rv.toArray rn) ∈ U) (mo : (ol, W.listOf ov.toArray on) ∈ U) (ho : IntsAre ov (castL os)) (ho5 : os.length = 5) (hos : ∀ k, k ∈ os ↔ k < 5) (hnd : os.Nodup) (hTs : TupsN ts refs (kvTo P 5)) (hs : Sub ts U) (oT : FarT (x :: d :: l :: lexA lx) U) (oA : FarA [x, d, l] (lexA lx)) (hn : StrsAre nv [Str.ofString "a", Str.ofString "B c", Str.ofString "\"", Str.ofString "\\", Str.ofString "#"]) (e2 : c2.data = .cell (some (.ref nD))) (m2 : (L + 1 + 1, c2) ∈ U) (mn : (nD, W.listOf nv.toArray nn) ∈ U) (ha : IntsAre av as) (hA : ∀ k < 5, as[k]? = some (P.Aa k : Int)) (e4 : c4.data = .cell (some (.ref aD))) (m4 : (L + 1 + 1 + 1 + 1, c4) ∈ U) (ma : (aD, W.listOf av.toArray an) ∈ U) (hb : IntsAre bv bs) (hB : ∀ k < 5, bs[k]? = some (P.Bh k : Int)) (e5 : c5.data = .cell (some (.ref bD))) (m5 : (L + 1 + 1 + 1 + 1 + 1, c5) ∈ U) (mb' : (bD, W.listOf bv.toArray bn) ∈ U) (hw : StrsAre wsv (wTo P 5)) (e6 : c6.data = .cell (some (.ref wD))) (m6 : (L + 1 + 1 + 1 + 1 + 1 + 1, c6) ∈ U) (mw : (wD, W.listOf wsv.toArray wsn) ∈ U) (I : ToldF q (fun k => castL (P.Vn k))) (hV : Sub (toldNews q) U) (mnd : (nd, W.listOf ndv.toArray ndn) ∈ U) (hndI : IntsAre ndv need) (hneed : ∀ k < 5, need[k]? = some ((P.Aa k + P.Bh k : Nat) : Int)) (ml : (lD, W.listOf lv.toArray ln') ∈ U) (hl : IntsAre lv (castL (bitsTo (least1 (fun k => castL (P.Vn k)) need 32) 5))) (F0 : Fr g L s.heap m) (hm : ∀ p ∈ [(Str.ofString "order", Value.ref ol), (Str.ofString "table", Value.ref x), (Str.ofString "told", Value.ref q.tl), (Str.ofString "need", Value.ref nd), (Str.ofString "least", Value.ref lD)], m p.1 = some p.2) (N : News g L s.heap (lexNews w lx ln u [] pn vs gn ++ (hdrNews w x d l t refs n ++ U))) (h : ∀ h' tk m' pn', Fr g L h' m' → (∀ p ∈ [(Str.ofString "table", Value.ref x), (Str.ofString "told", Value.ref q.tl), (Str.ofString "need", Value.ref nd), (Str.ofString "least", Value.ref lD)], m' p.1 = some p.2) →
    News g L h' (lexNews w lx ln u [] pn' vs gn ++ (hdrNews w x d l t refs n ++ U)) → Q .next { s with heap := h', toks := tk }), wpAny (model Challenge.rw_st0024_01.row.prog w) (A.deeper (lawEnv L fa cd)) (execs obAll (lawEnv L fa cd)) Q E s
noncomputable def P0 (z : World × Around × Heap × Heap × (List Env) × (Str → Option Value) × (Str → Option Value) × Program × (List Str) × (ExcName → Option Value) × Shared × Addr × Addr × Value × (Str → Option Value) × (Flow → Shared → Prop) × (Value → Shared → Prop) × Par × LexP × Int × Tok × (List Value) × Nat × Nat × Addr × Addr × Addr × Tok × (List Value) × Nat × (List (Addr × Obj)) × (List (Addr × Obj)) × Addr × Addr × (List Value) × (List Value) × Nat × Nat × Obj × Obj × (List Nat) × Addr × Addr × Addr × Addr × Addr × Addr × (List Value) × (List Value) × (List Value) × (List Value) × (List Value) × (List Value) × (List Int) × (List Int) × Nat × Nat × Nat × Nat × Nat × Nat × Obj × Obj × Obj × Obj × (List Int) × ToldP) : Prop := Stmt (z.1) (z.2.1) (z.2.2.1) (z.2.2.2.1) (z.2.2.2.2.1) (z.2.2.2.2.2.1) (z.2.2.2.2.2.2.1) (z.2.2.2.2.2.2.2.1) (z.2.2.2.2.2.2.2.2.1) (z.2.2.2.2.2.2.2.2.2.1) (z.2.2.2.2.2.2.2.2.2.2.1) (z.2.2.2.2.2.2.2.2.2.2.2.1) (z.2.2.2.2.2.2.2.2.2.2.2.2.1) (z.2.2.2.2.2.2.2.2.2.2.2.2.2.1) (z.2.2.2.2.2.2.2.2.2.2.2.2.2.2.1) (z.2.2.2.2.2.2.2.2.2.2.2.2.2.2.2.1) (z.2.2.2.2.2.2.2.2.2.2.2.2.2.2.2.2.1) (z.2.2.2.2.2.2.2.2.2.2.2.2.2.2.2.2.2.1) (z.2.2.2.2.2.2.2.2.2.2.2.2.2.2.2.2.2.2.1) (z.2.2.2.2.2.2.2.2.2.2.2.2.2.2.2.2.2.2.2.1) (z.2.2.2.2.2.2.2.2.2.2.2.2.2.2.2.2.2.2.2.2.1) (z.2.2.2.2.2.2.2.2.2.2.2.2.2.2.2.2.2.2.2.2.2.1) (z.2.2.2.2.2.2.2.2.2.2.2.2.2.2.2.2.2.2.2.2.2.2.1) (z.2.2.2.2.2.2.2.2.2.2.2.2.2.2.2.2.2.2.2.2.2.2.2.1) (z.2.2.2.2.2.2.2.2.2.2.2.2.2.2.2.2.2.2.2.2.2.2.2.2.1) (z.2.2.2.2.2.2.2.2.2.2.2.2.2.2.2.2.2.2.2.2.2.2.2.2.2.1) (z.2.2.2.2.2.2.2.2.2.2.2.2.2.2.2.2.2.2.2.2.2.2.2.2.2.2.1) (z.2.2.2.2.2.2.2.2.2.2.2.2.2.2.2.2.2.2.2.2.2.2.2.2.2.2.2.1) (z.2.2.2.2.2.2.2.2.2.2.2.2.2.2.2.2.2.2.2.2.2.2.2.2.2.2.2.2.1) (z.2.2.2.2.2.2.2.2.2.2.2.2.2.2.2.2.2.2.2.2.2.2.2.2.2.2.2.2.2.1) (z.2.2.2.2.2.2.2.2.2.2.2.2.2.2.2.2.2.2.2.2.2.2.2.2.2.2.2.2.2.2.1) (z.2.2.2.2.2.2.2.2.2.2.2.2.2.2.2.2.2.2.2.2.2.2.2.2.2.2.2.2.2.2.2.1) (z.2.2.2.2.2.2.2.2.2.2.2.2.2.2.2.2.2.2.2.2.2.2.2.2.2.2.2.2.2.2.2.2.1) (z.2.2.2.2.2.2.2.2.2.2.2.2.2.2.2.2.2.2.2.2.2.2.2.2.2.2.2.2.2.2.2.2.2.1) (z.2.2.2.2.2.2.2.2.2.2.2.2.2.2.2.2.2.2.2.2.2.2.2.2.2.2.2.2.2.2.2.2.2.2.1) (z.2.2.2.2.2.2.2.2.2.2.2.2.2.2.2.2.2.2.2.2.2.2.2.2.2.2.2.2.2.2.2.2.2.2.2.1) (z.2.2.2.2.2.2.2.2.2.2.2.2.2.2.2.2.2.2.2.2.2.2.2.2.2.2.2.2.2.2.2.2.2.2.2.2.1) (z.2.2.2.2.2.2.2.2.2.2.2.2.2.2.2.2.2.2.2.2.2.2.2.2.2.2.2.2.2.2.2.2.2.2.2.2.2.1) (z.2.2.2.2.2.2.2.2.2.2.2.2.2.2.2.2.2.2.2.2.2.2.2.2.2.2.2.2.2.2.2.2.2.2.2.2.2.2.1) (z.2.2.2.2.2.2.2.2.2.2.2.2.2.2.2.2.2.2.2.2.2.2.2.2.2.2.2.2.2.2.2.2.2.2.2.2.2.2.2.1) (z.2.2.2.2.2.2.2.2.2.2.2.2.2.2.2.2.2.2.2.2.2.2.2.2.2.2.2.2.2.2.2.2.2.2.2.2.2.2.2.2.1) (z.2.2.2.2.2.2.2.2.2.2.2.2.2.2.2.2.2.2.2.2.2.2.2.2.2.2.2.2.2.2.2.2.2.2.2.2.2.2.2.2.2.1) (z.2.2.2.2.2.2.2.2.2.2.2.2.2.2.2.2.2.2.2.2.2.2.2.2.2.2.2.2.2.2.2.2.2.2.2.2.2.2.2.2.2.2.1) (z.2.2.2.2.2.2.2.2.2.2.2.2.2.2.2.2.2.2.2.2.2.2.2.2.2.2.2.2.2.2.2.2.2.2.2.2.2.2.2.2.2.2.2.1) (z.2.2.2.2.2.2.2.2.2.2.2.2.2.2.2.2.2.2.2.2.2.2.2.2.2.2.2.2.2.2.2.2.2.2.2.2.2.2.2.2.2.2.2.2.1) (z.2.2.2.2.2.2.2.2.2.2.2.2.2.2.2.2.2.2.2.2.2.2.2.2.2.2.2.2.2.2.2.2.2.2.2.2.2.2.2.2.2.2.2.2.2.1) (z.2.2.2.2.2.2.2.2.2.2.2.2.2.2.2.2.2.2.2.2.2.2.2.2.2.2.2.2.2.2.2.2.2.2.2.2.2.2.2.2.2.2.2.2.2.2.1) (z.2.2.2.2.2.2.2.2.2.2.2.2.2.2.2.2.2.2.2.2.2.2.2.2.2.2.2.2.2.2.2.2.2.2.2.2.2.2.2.2.2.2.2.2.2.2.2.1) (z.2.2.2.2.2.2.2.2.2.2.2.2.2.2.2.2.2.2.2.2.2.2.2.2.2.2.2.2.2.2.2.2.2.2.2.2.2.2.2.2.2.2.2.2.2.2.2.2.1) (z.2.2.2.2.2.2.2.2.2.2.2.2.2.2.2.2.2.2.2.2.2.2.2.2.2.2.2.2.2.2.2.2.2.2.2.2.2.2.2.2.2.2.2.2.2.2.2.2.2.1) (z.2.2.2.2.2.2.2.2.2.2.2.2.2.2.2.2.2.2.2.2.2.2.2.2.2.2.2.2.2.2.2.2.2.2.2.2.2.2.2.2.2.2.2.2.2.2.2.2.2.2.1) (z.2.2.2.2.2.2.2.2.2.2.2.2.2.2.2.2.2.2.2.2.2.2.2.2.2.2.2.2.2.2.2.2.2.2.2.2.2.2.2.2.2.2.2.2.2.2.2.2.2.2.2.1) (z.2.2.2.2.2.2.2.2.2.2.2.2.2.2.2.2.2.2.2.2.2.2.2.2.2.2.2.2.2.2.2.2.2.2.2.2.2.2.2.2.2.2.2.2.2.2.2.2.2.2.2.2.1) (z.2.2.2.2.2.2.2.2.2.2.2.2.2.2.2.2.2.2.2.2.2.2.2.2.2.2.2.2.2.2.2.2.2.2.2.2.2.2.2.2.2.2.2.2.2.2.2.2.2.2.2.2.2.1) (z.2.2.2.2.2.2.2.2.2.2.2.2.2.2.2.2.2.2.2.2.2.2.2.2.2.2.2.2.2.2.2.2.2.2.2.2.2.2.2.2.2.2.2.2.2.2.2.2.2.2.2.2.2.2.1) (z.2.2.2.2.2.2.2.2.2.2.2.2.2.2.2.2.2.2.2.2.2.2.2.2.2.2.2.2.2.2.2.2.2.2.2.2.2.2.2.2.2.2.2.2.2.2.2.2.2.2.2.2.2.2.2.1) (z.2.2.2.2.2.2.2.2.2.2.2.2.2.2.2.2.2.2.2.2.2.2.2.2.2.2.2.2.2.2.2.2.2.2.2.2.2.2.2.2.2.2.2.2.2.2.2.2.2.2.2.2.2.2.2.2.1) (z.2.2.2.2.2.2.2.2.2.2.2.2.2.2.2.2.2.2.2.2.2.2.2.2.2.2.2.2.2.2.2.2.2.2.2.2.2.2.2.2.2.2.2.2.2.2.2.2.2.2.2.2.2.2.2.2.2.1) (z.2.2.2.2.2.2.2.2.2.2.2.2.2.2.2.2.2.2.2.2.2.2.2.2.2.2.2.2.2.2.2.2.2.2.2.2.2.2.2.2.2.2.2.2.2.2.2.2.2.2.2.2.2.2.2.2.2.2.1) (z.2.2.2.2.2.2.2.2.2.2.2.2.2.2.2.2.2.2.2.2.2.2.2.2.2.2.2.2.2.2.2.2.2.2.2.2.2.2.2.2.2.2.2.2.2.2.2.2.2.2.2.2.2.2.2.2.2.2.2.1) (z.2.2.2.2.2.2.2.2.2.2.2.2.2.2.2.2.2.2.2.2.2.2.2.2.2.2.2.2.2.2.2.2.2.2.2.2.2.2.2.2.2.2.2.2.2.2.2.2.2.2.2.2.2.2.2.2.2.2.2.2.1) (z.2.2.2.2.2.2.2.2.2.2.2.2.2.2.2.2.2.2.2.2.2.2.2.2.2.2.2.2.2.2.2.2.2.2.2.2.2.2.2.2.2.2.2.2.2.2.2.2.2.2.2.2.2.2.2.2.2.2.2.2.2.1) (z.2.2.2.2.2.2.2.2.2.2.2.2.2.2.2.2.2.2.2.2.2.2.2.2.2.2.2.2.2.2.2.2.2.2.2.2.2.2.2.2.2.2.2.2.2.2.2.2.2.2.2.2.2.2.2.2.2.2.2.2.2.2.1) (z.2.2.2.2.2.2.2.2.2.2.2.2.2.2.2.2.2.2.2.2.2.2.2.2.2.2.2.2.2.2.2.2.2.2.2.2.2.2.2.2.2.2.2.2.2.2.2.2.2.2.2.2.2.2.2.2.2.2.2.2.2.2.2.1) (z.2.2.2.2.2.2.2.2.2.2.2.2.2.2.2.2.2.2.2.2.2.2.2.2.2.2.2.2.2.2.2.2.2.2.2.2.2.2.2.2.2.2.2.2.2.2.2.2.2.2.2.2.2.2.2.2.2.2.2.2.2.2.2.2.1) (z.2.2.2.2.2.2.2.2.2.2.2.2.2.2.2.2.2.2.2.2.2.2.2.2.2.2.2.2.2.2.2.2.2.2.2.2.2.2.2.2.2.2.2.2.2.2.2.2.2.2.2.2.2.2.2.2.2.2.2.2.2.2.2.2.2.1) (z.2.2.2.2.2.2.2.2.2.2.2.2.2.2.2.2.2.2.2.2.2.2.2.2.2.2.2.2.2.2.2.2.2.2.2.2.2.2.2.2.2.2.2.2.2.2.2.2.2.2.2.2.2.2.2.2.2.2.2.2.2.2.2.2.2.2)
noncomputable def Z := @Classical.epsilon _ ⟨(w00, A00, default, default, [], (fun _ => none), (fun _ => none), default, [], (fun _ => none), s00, 0, 0, .none, (fun _ => none), (fun _ _ => True), (fun _ _ => True), par00, lex00, 0, 0, [], 0, 0, 0, 0, 0, 0, [], 0, [], [], 0, 0, [], [], 0, 0, default, default, [], 0, 0, 0, 0, 0, 0, [], [], [], [], [], [], [], [], 0, 0, 0, 0, 0, 0, default, default, default, default, [], told00)⟩ fun z => ¬ P0 z
@[irreducible] noncomputable def w := Z.1
@[irreducible] noncomputable def A := Z.2.1
@[irreducible] noncomputable def base := Z.2.2.1
@[irreducible] noncomputable def g := Z.2.2.2.1
@[irreducible] noncomputable def fr := Z.2.2.2.2.1
@[irreducible] noncomputable def mg := Z.2.2.2.2.2.1
@[irreducible] noncomputable def mb := Z.2.2.2.2.2.2.1
@[irreducible] noncomputable def p := Z.2.2.2.2.2.2.2.1
@[irreducible] noncomputable def loose := Z.2.2.2.2.2.2.2.2.1
@[irreducible] noncomputable def mean := Z.2.2.2.2.2.2.2.2.2.1
@[irreducible] noncomputable def s := Z.2.2.2.2.2.2.2.2.2.2.1
@[irreducible] noncomputable def L := Z.2.2.2.2.2.2.2.2.2.2.2.1
@[irreducible] noncomputable def fa := Z.2.2.2.2.2.2.2.2.2.2.2.2.1
@[irreducible] noncomputable def cd := Z.2.2.2.2.2.2.2.2.2.2.2.2.2.1
@[irreducible] noncomputable def m := Z.2.2.2.2.2.2.2.2.2.2.2.2.2.2.1
@[irreducible] noncomputable def Q := Z.2.2.2.2.2.2.2.2.2.2.2.2.2.2.2.1
@[irreducible] noncomputable def E := Z.2.2.2.2.2.2.2.2.2.2.2.2.2.2.2.2.1
@[irreducible] noncomputable def P := Z.2.2.2.2.2.2.2.2.2.2.2.2.2.2.2.2.2.1
@[irreducible] noncomputable def lx := Z.2.2.2.2.2.2.2.2.2.2.2.2.2.2.2.2.2.2.1
@[irreducible] noncomputable def ln := Z.2.2.2.2.2.2.2.2.2.2.2.2.2.2.2.2.2.2.2.1
@[irreducible] noncomputable def u := Z.2.2.2.2.2.2.2.2.2.2.2.2.2.2.2.2.2.2.2.2.1
@[irreducible] noncomputable def vs := Z.2.2.2.2.2.2.2.2.2.2.2.2.2.2.2.2.2.2.2.2.2.1
@[irreducible] noncomputable def gn := Z.2.2.2.2.2.2.2.2.2.2.2.2.2.2.2.2.2.2.2.2.2.2.1
@[irreducible] noncomputable def pn := Z.2.2.2.2.2.2.2.2.2.2.2.2.2.2.2.2.2.2.2.2.2.2.2.1
@[irreducible] noncomputable def x := Z.2.2.2.2.2.2.2.2.2.2.2.2.2.2.2.2.2.2.2.2.2.2.2.2.1
@[irreducible] noncomputable def d := Z.2.2.2.2.2.2.2.2.2.2.2.2.2.2.2.2.2.2.2.2.2.2.2.2.2.1
@[irreducible] noncomputable def l := Z.2.2.2.2.2.2.2.2.2.2.2.2.2.2.2.2.2.2.2.2.2.2.2.2.2.2.1
@[irreducible] noncomputable def t := Z.2.2.2.2.2.2.2.2.2.2.2.2.2.2.2.2.2.2.2.2.2.2.2.2.2.2.2.1
@[irreducible] noncomputable def refs := Z.2.2.2.2.2.2.2.2.2.2.2.2.2.2.2.2.2.2.2.2.2.2.2.2.2.2.2.2.1
@[irreducible] noncomputable def n := Z.2.2.2.2.2.2.2.2.2.2.2.2.2.2.2.2.2.2.2.2.2.2.2.2.2.2.2.2.2.1
@[irreducible] noncomputable def U := Z.2.2.2.2.2.2.2.2.2.2.2.2.2.2.2.2.2.2.2.2.2.2.2.2.2.2.2.2.2.2.1
@[irreducible] noncomputable def ts := Z.2.2.2.2.2.2.2.2.2.2.2.2.2.2.2.2.2.2.2.2.2.2.2.2.2.2.2.2.2.2.2.1
@[irreducible] noncomputable def rD := Z.2.2.2.2.2.2.2.2.2.2.2.2.2.2.2.2.2.2.2.2.2.2.2.2.2.2.2.2.2.2.2.2.1
@[irreducible] noncomputable def ol := Z.2.2.2.2.2.2.2.2.2.2.2.2.2.2.2.2.2.2.2.2.2.2.2.2.2.2.2.2.2.2.2.2.2.1
@[irreducible] noncomputable def rv := Z.2.2.2.2.2.2.2.2.2.2.2.2.2.2.2.2.2.2.2.2.2.2.2.2.2.2.2.2.2.2.2.2.2.2.1
@[irreducible] noncomputable def ov := Z.2.2.2.2.2.2.2.2.2.2.2.2.2.2.2.2.2.2.2.2.2.2.2.2.2.2.2.2.2.2.2.2.2.2.2.1
@[irreducible] noncomputable def rn := Z.2.2.2.2.2.2.2.2.2.2.2.2.2.2.2.2.2.2.2.2.2.2.2.2.2.2.2.2.2.2.2.2.2.2.2.2.1
@[irreducible] noncomputable def on := Z.2.2.2.2.2.2.2.2.2.2.2.2.2.2.2.2.2.2.2.2.2.2.2.2.2.2.2.2.2.2.2.2.2.2.2.2.2.1
@[irreducible] noncomputable def c7 := Z.2.2.2.2.2.2.2.2.2.2.2.2.2.2.2.2.2.2.2.2.2.2.2.2.2.2.2.2.2.2.2.2.2.2.2.2.2.2.1
@[irreducible] noncomputable def c8 := Z.2.2.2.2.2.2.2.2.2.2.2.2.2.2.2.2.2.2.2.2.2.2.2.2.2.2.2.2.2.2.2.2.2.2.2.2.2.2.2.1
@[irreducible] noncomputable def os := Z.2.2.2.2.2.2.2.2.2.2.2.2.2.2.2.2.2.2.2.2.2.2.2.2.2.2.2.2.2.2.2.2.2.2.2.2.2.2.2.2.1
@[irreducible] noncomputable def nD := Z.2.2.2.2.2.2.2.2.2.2.2.2.2.2.2.2.2.2.2.2.2.2.2.2.2.2.2.2.2.2.2.2.2.2.2.2.2.2.2.2.2.1
@[irreducible] noncomputable def aD := Z.2.2.2.2.2.2.2.2.2.2.2.2.2.2.2.2.2.2.2.2.2.2.2.2.2.2.2.2.2.2.2.2.2.2.2.2.2.2.2.2.2.2.1
@[irreducible] noncomputable def bD := Z.2.2.2.2.2.2.2.2.2.2.2.2.2.2.2.2.2.2.2.2.2.2.2.2.2.2.2.2.2.2.2.2.2.2.2.2.2.2.2.2.2.2.2.1
@[irreducible] noncomputable def wD := Z.2.2.2.2.2.2.2.2.2.2.2.2.2.2.2.2.2.2.2.2.2.2.2.2.2.2.2.2.2.2.2.2.2.2.2.2.2.2.2.2.2.2.2.2.1
@[irreducible] noncomputable def nd := Z.2.2.2.2.2.2.2.2.2.2.2.2.2.2.2.2.2.2.2.2.2.2.2.2.2.2.2.2.2.2.2.2.2.2.2.2.2.2.2.2.2.2.2.2.2.1
@[irreducible] noncomputable def lD := Z.2.2.2.2.2.2.2.2.2.2.2.2.2.2.2.2.2.2.2.2.2.2.2.2.2.2.2.2.2.2.2.2.2.2.2.2.2.2.2.2.2.2.2.2.2.2.1
@[irreducible] noncomputable def nv := Z.2.2.2.2.2.2.2.2.2.2.2.2.2.2.2.2.2.2.2.2.2.2.2.2.2.2.2.2.2.2.2.2.2.2.2.2.2.2.2.2.2.2.2.2.2.2.2.1
@[irreducible] noncomputable def av := Z.2.2.2.2.2.2.2.2.2.2.2.2.2.2.2.2.2.2.2.2.2.2.2.2.2.2.2.2.2.2.2.2.2.2.2.2.2.2.2.2.2.2.2.2.2.2.2.2.1
@[irreducible] noncomputable def bv := Z.2.2.2.2.2.2.2.2.2.2.2.2.2.2.2.2.2.2.2.2.2.2.2.2.2.2.2.2.2.2.2.2.2.2.2.2.2.2.2.2.2.2.2.2.2.2.2.2.2.1
@[irreducible] noncomputable def wsv := Z.2.2.2.2.2.2.2.2.2.2.2.2.2.2.2.2.2.2.2.2.2.2.2.2.2.2.2.2.2.2.2.2.2.2.2.2.2.2.2.2.2.2.2.2.2.2.2.2.2.2.1
@[irreducible] noncomputable def ndv := Z.2.2.2.2.2.2.2.2.2.2.2.2.2.2.2.2.2.2.2.2.2.2.2.2.2.2.2.2.2.2.2.2.2.2.2.2.2.2.2.2.2.2.2.2.2.2.2.2.2.2.2.1
@[irreducible] noncomputable def lv := Z.2.2.2.2.2.2.2.2.2.2.2.2.2.2.2.2.2.2.2.2.2.2.2.2.2.2.2.2.2.2.2.2.2.2.2.2.2.2.2.2.2.2.2.2.2.2.2.2.2.2.2.2.1
@[irreducible] noncomputable def as := Z.2.2.2.2.2.2.2.2.2.2.2.2.2.2.2.2.2.2.2.2.2.2.2.2.2.2.2.2.2.2.2.2.2.2.2.2.2.2.2.2.2.2.2.2.2.2.2.2.2.2.2.2.2.1
@[irreducible] noncomputable def bs := Z.2.2.2.2.2.2.2.2.2.2.2.2.2.2.2.2.2.2.2.2.2.2.2.2.2.2.2.2.2.2.2.2.2.2.2.2.2.2.2.2.2.2.2.2.2.2.2.2.2.2.2.2.2.2.1
@[irreducible] noncomputable def nn := Z.2.2.2.2.2.2.2.2.2.2.2.2.2.2.2.2.2.2.2.2.2.2.2.2.2.2.2.2.2.2.2.2.2.2.2.2.2.2.2.2.2.2.2.2.2.2.2.2.2.2.2.2.2.2.2.1
@[irreducible] noncomputable def an := Z.2.2.2.2.2.2.2.2.2.2.2.2.2.2.2.2.2.2.2.2.2.2.2.2.2.2.2.2.2.2.2.2.2.2.2.2.2.2.2.2.2.2.2.2.2.2.2.2.2.2.2.2.2.2.2.2.1
@[irreducible] noncomputable def bn := Z.2.2.2.2.2.2.2.2.2.2.2.2.2.2.2.2.2.2.2.2.2.2.2.2.2.2.2.2.2.2.2.2.2.2.2.2.2.2.2.2.2.2.2.2.2.2.2.2.2.2.2.2.2.2.2.2.2.1
@[irreducible] noncomputable def wsn := Z.2.2.2.2.2.2.2.2.2.2.2.2.2.2.2.2.2.2.2.2.2.2.2.2.2.2.2.2.2.2.2.2.2.2.2.2.2.2.2.2.2.2.2.2.2.2.2.2.2.2.2.2.2.2.2.2.2.2.1
@[irreducible] noncomputable def ndn := Z.2.2.2.2.2.2.2.2.2.2.2.2.2.2.2.2.2.2.2.2.2.2.2.2.2.2.2.2.2.2.2.2.2.2.2.2.2.2.2.2.2.2.2.2.2.2.2.2.2.2.2.2.2.2.2.2.2.2.2.1
@[irreducible] noncomputable def ln' := Z.2.2.2.2.2.2.2.2.2.2.2.2.2.2.2.2.2.2.2.2.2.2.2.2.2.2.2.2.2.2.2.2.2.2.2.2.2.2.2.2.2.2.2.2.2.2.2.2.2.2.2.2.2.2.2.2.2.2.2.2.1
@[irreducible] noncomputable def c2 := Z.2.2.2.2.2.2.2.2.2.2.2.2.2.2.2.2.2.2.2.2.2.2.2.2.2.2.2.2.2.2.2.2.2.2.2.2.2.2.2.2.2.2.2.2.2.2.2.2.2.2.2.2.2.2.2.2.2.2.2.2.2.1
@[irreducible] noncomputable def c4 := Z.2.2.2.2.2.2.2.2.2.2.2.2.2.2.2.2.2.2.2.2.2.2.2.2.2.2.2.2.2.2.2.2.2.2.2.2.2.2.2.2.2.2.2.2.2.2.2.2.2.2.2.2.2.2.2.2.2.2.2.2.2.2.1
@[irreducible] noncomputable def c5 := Z.2.2.2.2.2.2.2.2.2.2.2.2.2.2.2.2.2.2.2.2.2.2.2.2.2.2.2.2.2.2.2.2.2.2.2.2.2.2.2.2.2.2.2.2.2.2.2.2.2.2.2.2.2.2.2.2.2.2.2.2.2.2.2.1
@[irreducible] noncomputable def c6 := Z.2.2.2.2.2.2.2.2.2.2.2.2.2.2.2.2.2.2.2.2.2.2.2.2.2.2.2.2.2.2.2.2.2.2.2.2.2.2.2.2.2.2.2.2.2.2.2.2.2.2.2.2.2.2.2.2.2.2.2.2.2.2.2.2.1
@[irreducible] noncomputable def need := Z.2.2.2.2.2.2.2.2.2.2.2.2.2.2.2.2.2.2.2.2.2.2.2.2.2.2.2.2.2.2.2.2.2.2.2.2.2.2.2.2.2.2.2.2.2.2.2.2.2.2.2.2.2.2.2.2.2.2.2.2.2.2.2.2.2.1
@[irreducible] noncomputable def q := Z.2.2.2.2.2.2.2.2.2.2.2.2.2.2.2.2.2.2.2.2.2.2.2.2.2.2.2.2.2.2.2.2.2.2.2.2.2.2.2.2.2.2.2.2.2.2.2.2.2.2.2.2.2.2.2.2.2.2.2.2.2.2.2.2.2.2
set_option maxHeartbeats 4000000 in
theorem key : Stmt w A base g fr mg mb p loose mean s L fa cd m Q E P lx ln u vs gn pn x d l t refs n U ts rD ol rv ov rn on c7 c8 os nD aD bD wD nd lD nv av bv wsv ndv lv as bs nn an bn wsn ndn ln' c2 c4 c5 c6 need q := fun B X T O hE hh hroom hu C J hr e7 e8 m7 m8 mr mo ho ho5 hos hnd hTs hs oT oA hn e2 m2 mn ha hA e4 m4 ma hb hB e5 m5 mb' hw e6 m6 mw I hV mnd hndI hneed ml hl F0 hm N h => by
  have h50 : Five [] os := ⟨hnd, fun k hk => (hos k).mp hk⟩
  refine seg_h0 B X T O hE hh hroom hu C J hr e7 e8 m7 m8 mr mo ho ho5 h50 hTs hs oT oA F0 hm (names_2 (ns := [Str.ofString "told", Str.ofString "need", Str.ofString "least"]) rfl (by decide +kernel)) N ?_
  clear N F0 hm
  (tm_at "nmx13"; refine fun h1 tk1 D1 D2 V n1 pn' rU vs2 us m1 ups qu => ?_)
  intro hR h5 F1 hm1 N1 sL sU i1 i2 hT hus hS
  obtain ⟨⟨pl, hC⟩, hqu, hcl, hSo⟩ := ups_facts hneed ho5 hos hnd hR
  (revert pl; tm_at "nmx1"; refine fun pl => ?_; k_extra "kw")
  clear hR
  refine seg_h1 B X T (jn := fun k => Txt.join (Str.ofString "") (allV (lwN k) (kvTo P 5))) (s := { s with heap := h1, toks := tk1 }) hE hh hroom hu hn e2 (sU _ m2) (sU _ mn) i1 hT hus h5 F1 hm1 (names_1 (ns := [Str.ofString "rest", Str.ofString "order", Str.ofString "table", Str.ofString "told", Str.ofString "need", Str.ofString "least"]) rfl (by decide +kernel)) N1 ?_
  clear F1 hm1 N1
  (tm_at "nmx6"; refine fun h2 tk2 WD wv wn m2' => ?_)
  intro F2 hm2 hwv oW N2
  have sU2 : Sub U ((WD, W.listOf (wv : List Value).toArray wn) :: V) := fun p hp => List.mem_cons_of_mem _ (sU p hp)
  refine seg_h2 B X T O (s := { s with heap := h2, toks := tk2 }) (fs := [(Str.ofString "rest", Value.ref D2), (Str.ofString "order", Value.ref ol), (Str.ofString "table", Value.ref x), (Str.ofString "told", Value.ref q.tl), (Str.ofString "need", Value.ref nd)]) hE hh hroom hu hn e2 (sU2 _ m2) (sU2 _ mn) hw e6 (sU2 _ m6) (sU2 _ mw) (List.mem_cons_of_mem _ i1) hT (fun p hp => List.mem_cons_of_mem _ (hus p hp)) h5 List.mem_cons_self hwv (sU2 _ ml) hl hSo F2 (hm_sub hm2 (subAt [1, 0, 7, 2, 3, 4, 5, 6] rfl)) N2 ?_
  clear F2 hm2 N2
  (tm_at "nmx3"; refine fun h3 tk3 m3 => ?_)
  intro F3 hm3 N3
  refine seg_h4 B X T (s := { s with heap := h3, toks := tk3 }) (fs := [(Str.ofString "who", Value.ref WD), (Str.ofString "least", Value.ref lD), (Str.ofString "rest", Value.ref D2), (Str.ofString "order", Value.ref ol), (Str.ofString "table", Value.ref x), (Str.ofString "told", Value.ref q.tl), (Str.ofString "need", Value.ref nd)]) hE hh hroom hu C I (fun p hp => sU2 p (hV p hp)) (sU2 _ mnd) hndI hneed (sU2 _ mo) ho ho5 (fun k hk => (hos k).mp hk) List.mem_cons_self hwv h5 hC F3 (hm_sub hm3 (subAt [1, 2, 3, 4, 5, 6, 7] rfl)) (subAt [5, 6, 3, 0] rfl) (names_2 (ns := [Str.ofString "who", Str.ofString "least", Str.ofString "rest", Str.ofString "order", Str.ofString "table", Str.ofString "told", Str.ofString "need"]) rfl (by decide +kernel)) N3 ?_
  clear F3 hm3 N3
  (tm_at "nmx3"; refine fun h4 tk4 m4' => ?_)
  intro F4 hm4 N4
  refine seg_h5 B X T O (s := { s with heap := h4, toks := tk4 }) (fs := [(Str.ofString "who", Value.ref WD), (Str.ofString "least", Value.ref lD), (Str.ofString "rest", Value.ref D2), (Str.ofString "order", Value.ref ol), (Str.ofString "table", Value.ref x), (Str.ofString "told", Value.ref q.tl), (Str.ofString "need", Value.ref nd)]) hE hh hroom hu C I (fun p hp => sU2 p (hV p hp)) hn e2 (sU2 _ m2) (sU2 _ mn) ha hA e4 (sU2 _ m4) (sU2 _ ma) hb hB e5 (sU2 _ m5) (sU2 _ mb') (sU2 _ mo) ho ho5 (fun k hk => (hos k).mp hk) List.mem_cons_self hwv h5 hqu hcl (List.mem_cons_of_mem _ i2) hS F4 hm4 (subAt [5, 3, 0, 2] rfl) (names_3 (ns := [Str.ofString "who", Str.ofString "least", Str.ofString "rest", Str.ofString "order", Str.ofString "table", Str.ofString "told", Str.ofString "need"]) rfl (by decide +kernel)) N4 ?_
  clear F4 hm4 N4
  (tm_at "nmx3"; refine fun h5' tk5 m5' => ?_)
  intro F5 hm5 N5
  refine wpAny_execs_nil ?_
  exact h h5' tk5 m5' pn' F5 (hm_sub hm5 (subAt [4, 5, 6, 1] rfl)) (News.sub' N5 fun p hp => List.mem_cons_of_mem _ (ex_app (d := V) sL sU p hp))
theorem zeq : (w, A, base, g, fr, mg, mb, p, loose, mean, s, L, fa, cd, m, Q, E, P, lx, ln, u, vs, gn, pn, x, d, l, t, refs, n, U, ts, rD, ol, rv, ov, rn, on, c7, c8, os, nD, aD, bD, wD, nd, lD, nv, av, bv, wsv, ndv, lv, as, bs, nn, an, bn, wsn, ndn, ln', c2, c4, c5, c6, need, q) = Z := by with_unfolding_all rfl
end Cbody_c
set_option maxHeartbeats 4000000 in
theorem body_c {w : World} {A : Around} {base g : Heap} {fr : List Env} {mg mb : Str → Option Value} {p : Program} {loose : List Str} {mean : ExcName → Option Value} {s : Shared} {L fa : Addr} {cd : Value} {m : Str → Option Value} {Q : Flow → Shared → Prop} {E : Value → Shared → Prop} {P : Par} {lx : LexP} {ln : Int} {u : Tok} {vs : List Value} {gn pn : Nat} {x d l : Addr} {t : Tok} {refs : List Value} {n : Nat} {U ts : List (Addr × Obj)} {rD ol : Addr} {rv ov : List Value} {rn on : Nat} {c7 c8 : Obj} {os : List Nat} {nD aD bD wD nd lD : Addr} {nv av bv wsv ndv lv : List Value} {as bs : List Int} {nn an bn wsn ndn ln' : Nat} {c2 c4 c5 c6 : Obj} {need : List Int} {q : ToldP} : Cbody_c.Stmt w A base g fr mg mb p loose mean s L fa cd m Q E P lx ln u vs gn pn x d l t refs n U ts rD ol rv ov rn on c7 c8 os nD aD bD wD nd lD nv av bv wsv ndv lv as bs nn an bn wsn ndn ln' c2 c4 c5 c6 need q :=
  hilb Cbody_c.P0 Cbody_c.Z rfl (Eq.subst (motive := Cbody_c.P0) Cbody_c.zeq Cbody_c.key) (w, A, base, g, fr, mg, mb, p, loose, mean, s, L, fa, cd, m, Q, E, P, lx, ln, u, vs, gn, pn, x, d, l, t, refs, n, U, ts, rD, ol, rv, ov, rn, on, c7, c8, os, nD, aD, bD, wD, nd, lD, nv, av, bv, wsv, ndv, lv, as, bs, nn, an, bn, wsn, ndn, ln', c2, c4, c5, c6, need, q)
section
end
end Mine

namespace Mine
open PySem.Calls
/-- an iterator over a tuple that stands at place i -/
noncomputable def Tit (o : Obj) (l : Addr) (i : Nat) : Prop := o.cls = .type "tuple_iterator" ∧ o.data = .fields #[.ref l, .int i 0]
section
variable {prog : Program} {w : World} {A : Around} {E : Value → Shared → Prop} {s : Shared} {h₀ : Heap} {L : Addr} {m : Str → Option Value} {news rest : List (Addr × Obj)}
theorem tu_N {l : Addr} {vs : List Value} (N : News h₀ L s.heap news) (hm : (l, tupO vs.toArray) ∈ news) : s.heap.IsTuple l vs.toArray := ⟨_, (N _ hm).1, rfl, _, rfl⟩
theorem ti_iter {l : Addr} {vs : List Value} {Q : Value → Shared → Prop} (F : Fr h₀ L s.heap m) (N : News h₀ L s.heap news) (hm : (l, tupO vs.toArray) ∈ news)
    (h : ∀ I o h', Tit o l 0 → Fr h₀ L h' m → News h₀ L h' ((I, o) :: news) → (∀ q ∈ news, q.1 < I) → Q (.ref I) { s with heap := h' }) : wpAny (model prog w) A (pyIter (.ref l)) Q E s := by
  refine wpAny_pyIter_tuple (tu_N N hm) ?_
  exact h _ _ _ ⟨rfl, rfl⟩ (F.push _) (News.push F N _ rfl) fun q hq => Heap.lt_size (N q hq).1
theorem ti_next {I l : Addr} {o : Obj} {vs : List Value} {i : Nat} {x : Value} {Q : Option Value → Shared → Prop} (F : Fr h₀ L s.heap m) (N : News h₀ L s.heap ((I, o) :: rest)) (off' : OffA I (rest.map (·.1))) (ho : Tit o l i)
    (hm : (l, tupO vs.toArray) ∈ rest) (hx : vs[i]? = some x)
    (h : ∀ o' h', Tit o' l (i + 1) → Fr h₀ L h' m → News h₀ L h' ((I, o') :: rest) → Q (some x) { s with heap := h' }) : wpAny (model prog w) A (pyNext (.ref I)) Q E s := by
  have off := off'.all
  obtain ⟨e, hL, hI⟩ := N (I, o) List.mem_cons_self
  have hit : s.heap.IsTupleIter I l i := ⟨o, e, ho⟩
  refine wpAny_pyNext_tuple_item hit (tu_N N (List.mem_cons_of_mem _ hm)) (by simpa using hx) fun h' hit' hs' => ?_
  have hb := hs'.extBut
  obtain ⟨o', e', ho'⟩ := hit'
  refine h o' _ ho' ⟨F.ns.at' fun o e => hb _ o (Ne.symm hL) e, fun b o e => hb b o (fun q => by rw [q, hI] at e; cases e) (F.keep b o e), F.above⟩ fun p hp => ?_
  rcases List.mem_cons.mp hp with rfl | hp
  · exact ⟨e', hL, hI⟩
  · have z := N p (List.mem_cons_of_mem _ hp)
    exact ⟨hb _ _ (Ne.symm (off p hp)) z.1, z.2⟩
theorem ti_done {I l : Addr} {o : Obj} {vs : List Value} {i : Nat} {Q : Option Value → Shared → Prop} (hh : A.handled = none) (F : Fr h₀ L s.heap m) (N : News h₀ L s.heap ((I, o) :: rest)) (off' : OffA I (rest.map (·.1))) (ho : Tit o l i)
    (hm : (l, tupO vs.toArray) ∈ rest) (hx : vs[i]? = none)
    (h : ∀ h', Fr h₀ L h' m → News h₀ L h' rest → Q none { s with heap := h' }) : wpAny (model prog w) A (pyNext (.ref I)) Q E s := by
  have off := off'.all
  obtain ⟨e, hL, hI⟩ := N (I, o) List.mem_cons_self
  have hit : s.heap.IsTupleIter I l i := ⟨o, e, ho⟩
  refine wpAny_pyNext_tuple_end hh hit (tu_N N (List.mem_cons_of_mem _ hm)) (by simpa using hx) fun h' hb => ?_
  refine h _ ⟨F.ns.at' fun o e => hb _ o (Ne.symm hL) e, fun b o e => hb b o (fun q => by rw [q, hI] at e; cases e) (F.keep b o e), F.above⟩ fun p hp => ?_
  have z := N p (List.mem_cons_of_mem _ hp)
  exact ⟨hb _ _ (Ne.symm (off p hp)) z.1, z.2⟩
end
end Mine

namespace Mine
open PySem.Calls
theorem sub_in {α : Type} {a b st c : List α} : Sub (a ++ (b ++ (st ++ c))) (st ++ (a ++ (b ++ c))) := fun p hp => by
  simp only [List.mem_append] at hp ⊢
  rcases hp with h | h | h | h
  · exact .inr (.inl h)
  · exact .inr (.inr (.inl h))
  · exact .inl h
  · exact .inr (.inr (.inr h))
theorem sub_out {α : Type} {a b st c : List α} : Sub (st ++ (a ++ (b ++ c))) (a ++ (b ++ (st ++ c))) := fun p hp => by
  simp only [List.mem_append] at hp ⊢
  rcases hp with h | h | h | h
  · exact .inr (.inr (.inl h))
  · exact .inl h
  · exact .inr (.inl h)
  · exact .inr (.inr (.inr h))
theorem far_add {as : List Addr} {V U : List (Addr × Obj)} {a : Addr} {o : Obj} (hs : Sub as (V.map (·.1))) (h : ∀ q ∈ V, @LT.lt Nat _ q.1 a) (t : FarT as U) : FarT as ((a, o) :: U) := fun b hb q hq => by
  rcases List.mem_cons.mp hq with rfl | hq
  · obtain ⟨r, hr, rfl⟩ := List.mem_map.mp (hs b hb)
    exact Nat.ne_of_lt (h r hr)
  · exact t b hb q hq
theorem ia5 (a b c d e : Nat) (ta tb tc td te : Tok) : IntsAre [.int a ta, .int b tb, .int c tc, .int d td, .int e te] (castL [a, b, c, d, e]) := .cons _ _ (.cons _ _ (.cons _ _ (.cons _ _ (.cons _ _ .nil))))
theorem lexhdr_in {w : World} {lx : LexP} {ln : Int} {u : Tok} {vs : List Value} {gn pn : Nat} {x d l : Addr} {t : Tok} {refs : List Value} {n : Nat} {U : List (Addr × Obj)} :
    Sub (x :: d :: l :: lexA lx) ((lexNews w lx ln u [] pn vs gn ++ (hdrNews w x d l t refs n ++ U)).map (·.1)) := subAt [9, 10, 11, 0, 1, 2, 3, 4, 5, 6, 7, 8] rfl
theorem m_new {m : Str → Option Value} {y : Str} {v : Value} {fs : List (Str × Value)} (hm : ∀ p ∈ fs, m p.1 = some p.2) (hne : ∀ p ∈ fs, p.1 ≠ y) : ∀ p ∈ (y, v) :: fs, (fun z => if z = y then some v else m z) p.1 = some p.2 := fun p hp => by
  rcases List.mem_cons.mp hp with rfl | hp
  · exact if_pos rfl
  · exact (if_neg (hne p hp)).trans (hm p hp)
noncomputable def osOf (i : Nat) : List Nat := if i = 0 then [0, 1, 2, 3, 4] else [4, 3, 2, 1, 0]
theorem osOf_f : ∀ i < 2, (osOf i).length = 5 ∧ (osOf i).Nodup := by decide
theorem osOf_m (i k : Nat) : k ∈ osOf i ↔ k < 5 := by
  unfold osOf
  split <;> simp only [List.mem_cons, List.not_mem_nil, or_false] <;> omega
theorem row146 : True := by
  k_with "exec For Name Tuple cons nil" => (k_here; k_dflt (refine fi_for (hE := by assumption) ?_))
  trivial
inductive OI (w : World) (lx : LexP) (ln : Int) (u : Tok) (vs : List Value) (gn : Nat) (x d l : Addr) (t : Tok) (refs : List Value) (n : Nat) (g : Heap) (L I1 tp ol1 ol2 : Addr) (ov1 ov2 : List Value) (U : List (Addr × Obj)) (fs : List (Str × Value)) (s : Shared) (k : Nat) (s' : Shared) : Prop
  | mk (i : Nat) (h : Heap) (tk : Nat) (m : Str → Option Value) (o : Obj) (pn : Nat) (_ : s' = { s with heap := h, toks := tk }) (_ : Fr g L h m) (_ : Tit o tp i) (_ : News g L h ([(I1, o), (tp, tupO #[.ref ol1, .ref ol2]), (ol2, W.listOf ov2.toArray 0), (ol1, W.listOf ov1.toArray 0)] ++ (lexNews w lx ln u [] pn vs gn ++ (hdrNews w x d l t refs n ++ U)))) (_ : (∀ p ∈ fs, m p.1 = some p.2)) (_ : i + k = 3) (_ : i ≤ 2) : OI w lx ln u vs gn x d l t refs n g L I1 tp ol1 ol2 ov1 ov2 U fs s k s'
theorem nm_j {g h : Heap} {L a b c : Addr} {oa ob oc : Obj} {r : List (Addr × Obj)} (N : News g L h ((a, oa) :: (b, ob) :: (c, oc) :: r)) : Nm a ∧ Nm b ∧ Nm c := ⟨.mk, .mk, .mk⟩
section
variable {w : World} {A : Around} {base g : Heap} {fr : List Env} {mg mb : Str → Option Value} {p : Program} {loose : List Str} {mean : ExcName → Option Value} {s : Shared} {L fa : Addr} {cd : Value} {m : Str → Option Value} {Q : Flow → Shared → Prop} {E : Value → Shared → Prop} {rest : List Stmt}
  (B : Below A base fr g) (X : Frag.In (hd.heap_39 w.params) g) (T : Top p loose mean mg mb g)
include B X T
end
namespace Cseg_i
noncomputable def Sta (w : World) (A : Around) (base g : Heap) (fr : List Env) (mg mb : Str → Option Value) (p : Program) (loose : List Str) (mean : ExcName → Option Value) (s : Shared) (L fa : Addr) (cd : Value) (m : Str → Option Value) (Q : Flow → Shared → Prop) (E : Value → Shared → Prop) (rest : List Stmt) (P : Par) (lx : LexP) (ln : Int) (u : Tok) (vs : List Value) (gn pn : Nat) (x d l : Addr) (t : Tok) (refs : List Value) (n : Nat) (U ts : List (Addr × Obj)) (rD : Addr) (rv : List Value) (rn : Nat) (c7 c8 : Obj) (nD aD bD wD nd lD : Addr) (nv av bv wsv ndv lv : List Value) (as bs : List Int) (nn an bn wsn ndn ln' : Nat) (c2 c4 c5 c6 : Obj) (need : List Int) (q : ToldP) : Prop := ∀ (sl : List Stmt) (B : Below A base fr g) (X : Frag.In (hd.heap_39 w.params) g) (T : Top p loose mean mg mb g) (O : ParOk P) (hsl : sl = st15s.1 :: rest) (hE : PassesOwn (model Challenge.rw_st0024_01.row.prog w) (A.deeper (lawEnv L fa cd)) (lawEnv L fa cd) E) (hh : A.handled = none) (hroom : A.depth + 60 < recursionLimit) (hu : A.units + 600 < cLine) (C : CodeHd base 228 224) (J : LexF lx) (hr : StrsAre rv (wTo P 5)) (e7 : c7.data = .cell (some (.ref lx.x2))) (e8 : c8.data = .cell (some (.ref rD))) (m7 : (L + 1 + 1 + 1 + 1 + 1 + 1 + 1, c7) ∈ U) (m8 : (L + 1 + 1 + 1 + 1 + 1 + 1 + 1 + 1, c8) ∈ U) (mr : (rD, W.listOf rv.toArray rn) ∈ U) (hTs : TupsN ts refs (kvTo P 5)) (hs : Sub ts U) (oT : FarT (x :: d :: l :: lexA lx) U) (oA : FarA [x, d, l] (lexA lx)) (hn : StrsAre nv [Str.ofString "a", Str.ofString "B c", Str.ofString "\"", Str.ofString "\\", Str.ofString "#"]) (e2 : c2.data = .cell (some (.ref nD))) (m2 : (L + 1 + 1, c2) ∈ U) (mn : (nD, W.listOf nv.toArray nn) ∈ U) (ha : IntsAre av as) (hA : ∀ k < 5, as[k]? = some (P.Aa k : Int)) (e4 : c4.data = .cell (some (.ref aD))) (m4 : (L + 1 + 1 + 1 + 1, c4) ∈ U) (ma : (aD, W.listOf av.toArray an) ∈ U) (hb : IntsAre bv bs) (hB : ∀ k < 5, bs[k]? = some (P.Bh k : Int)) (e5 : c5.data = .cell (some (.ref bD))) (m5 : (L + 1 + 1 + 1 + 1 + 1, c5) ∈ U) (mb' : (bD, W.listOf bv.toArray bn) ∈ U) (hw : StrsAre wsv (wTo P 5)) (e6 : c6.data = .cell (some (.ref wD))) (m6 : (L + 1 + 1 + 1 + 1 + 1 + 1, c6) ∈ U) (mw : (wD, W.listOf wsv.toArray wsn) ∈ U) (I : ToldF q (fun k => castL (P.Vn k))) (hV : Sub (toldNews q) U) (mnd : (nd, W.listOf ndv.toArray ndn) ∈ U) (hndI : IntsAre ndv need) (hneed : ∀ k < 5, need[k]? = some ((P.Aa k + P.Bh k : Nat) : Int)) (ml : (lD, W.listOf lv.toArray ln') ∈ U) (hl : IntsAre lv (castL (bitsTo (least1 (fun k => castL (P.Vn k)) need 32) 5))) (F0 : Fr g L s.heap m) (hm : ∀ p ∈ [(Str.ofString "table", Value.ref x), (Str.ofString "told", Value.ref q.tl), (Str.ofString "need", Value.ref nd), (Str.ofString "least", Value.ref lD)], m p.1 = some p.2) (N : News g L s.heap (lexNews w lx ln u [] pn vs gn ++ (hdrNews w x d l t refs n ++ U))) (h : ∀ h' tk m' pn', Fr g L h' m' → News g L h' (lexNews w lx ln u [] pn' vs gn ++ (hdrNews w x d l t refs n ++ U)) →
    wpAny (model Challenge.rw_st0024_01.row.prog w) (A.deeper (lawEnv L fa cd)) (execs rest (lawEnv L fa cd)) Q E { s with heap := h', toks := tk }), wpAny (model Challenge.rw_st0024_01.row.prog w) (A.deeper (lawEnv L fa cd)) (execs sl (lawEnv L fa cd)) Q E s
noncomputable def P0 (z : World × Around × Heap × Heap × (List Env) × (Str → Option Value) × (Str → Option Value) × Program × (List Str) × (ExcName → Option Value) × Shared × Addr × Addr × Value × (Str → Option Value) × (Flow → Shared → Prop) × (Value → Shared → Prop) × (List Stmt) × Par × LexP × Int × Tok × (List Value) × Nat × Nat × Addr × Addr × Addr × Tok × (List Value) × Nat × (List (Addr × Obj)) × (List (Addr × Obj)) × Addr × (List Value) × Nat × Obj × Obj × Addr × Addr × Addr × Addr × Addr × Addr × (List Value) × (List Value) × (List Value) × (List Value) × (List Value) × (List Value) × (List Int) × (List Int) × Nat × Nat × Nat × Nat × Nat × Nat × Obj × Obj × Obj × Obj × (List Int) × ToldP) : Prop := Sta (z.1) (z.2.1) (z.2.2.1) (z.2.2.2.1) (z.2.2.2.2.1) (z.2.2.2.2.2.1) (z.2.2.2.2.2.2.1) (z.2.2.2.2.2.2.2.1) (z.2.2.2.2.2.2.2.2.1) (z.2.2.2.2.2.2.2.2.2.1) (z.2.2.2.2.2.2.2.2.2.2.1) (z.2.2.2.2.2.2.2.2.2.2.2.1) (z.2.2.2.2.2.2.2.2.2.2.2.2.1) (z.2.2.2.2.2.2.2.2.2.2.2.2.2.1) (z.2.2.2.2.2.2.2.2.2.2.2.2.2.2.1) (z.2.2.2.2.2.2.2.2.2.2.2.2.2.2.2.1) (z.2.2.2.2.2.2.2.2.2.2.2.2.2.2.2.2.1) (z.2.2.2.2.2.2.2.2.2.2.2.2.2.2.2.2.2.1) (z.2.2.2.2.2.2.2.2.2.2.2.2.2.2.2.2.2.2.1) (z.2.2.2.2.2.2.2.2.2.2.2.2.2.2.2.2.2.2.2.1) (z.2.2.2.2.2.2.2.2.2.2.2.2.2.2.2.2.2.2.2.2.1) (z.2.2.2.2.2.2.2.2.2.2.2.2.2.2.2.2.2.2.2.2.2.1) (z.2.2.2.2.2.2.2.2.2.2.2.2.2.2.2.2.2.2.2.2.2.2.1) (z.2.2.2.2.2.2.2.2.2.2.2.2.2.2.2.2.2.2.2.2.2.2.2.1) (z.2.2.2.2.2.2.2.2.2.2.2.2.2.2.2.2.2.2.2.2.2.2.2.2.1) (z.2.2.2.2.2.2.2.2.2.2.2.2.2.2.2.2.2.2.2.2.2.2.2.2.2.1) (z.2.2.2.2.2.2.2.2.2.2.2.2.2.2.2.2.2.2.2.2.2.2.2.2.2.2.1) (z.2.2.2.2.2.2.2.2.2.2.2.2.2.2.2.2.2.2.2.2.2.2.2.2.2.2.2.1) (z.2.2.2.2.2.2.2.2.2.2.2.2.2.2.2.2.2.2.2.2.2.2.2.2.2.2.2.2.1) (z.2.2.2.2.2.2.2.2.2.2.2.2.2.2.2.2.2.2.2.2.2.2.2.2.2.2.2.2.2.1) (z.2.2.2.2.2.2.2.2.2.2.2.2.2.2.2.2.2.2.2.2.2.2.2.2.2.2.2.2.2.2.1) (z.2.2.2.2.2.2.2.2.2.2.2.2.2.2.2.2.2.2.2.2.2.2.2.2.2.2.2.2.2.2.2.1) (z.2.2.2.2.2.2.2.2.2.2.2.2.2.2.2.2.2.2.2.2.2.2.2.2.2.2.2.2.2.2.2.2.1) (z.2.2.2.2.2.2.2.2.2.2.2.2.2.2.2.2.2.2.2.2.2.2.2.2.2.2.2.2.2.2.2.2.2.1) (z.2.2.2.2.2.2.2.2.2.2.2.2.2.2.2.2.2.2.2.2.2.2.2.2.2.2.2.2.2.2.2.2.2.2.1) (z.2.2.2.2.2.2.2.2.2.2.2.2.2.2.2.2.2.2.2.2.2.2.2.2.2.2.2.2.2.2.2.2.2.2.2.1) (z.2.2.2.2.2.2.2.2.2.2.2.2.2.2.2.2.2.2.2.2.2.2.2.2.2.2.2.2.2.2.2.2.2.2.2.2.1) (z.2.2.2.2.2.2.2.2.2.2.2.2.2.2.2.2.2.2.2.2.2.2.2.2.2.2.2.2.2.2.2.2.2.2.2.2.2.1) (z.2.2.2.2.2.2.2.2.2.2.2.2.2.2.2.2.2.2.2.2.2.2.2.2.2.2.2.2.2.2.2.2.2.2.2.2.2.2.1) (z.2.2.2.2.2.2.2.2.2.2.2.2.2.2.2.2.2.2.2.2.2.2.2.2.2.2.2.2.2.2.2.2.2.2.2.2.2.2.2.1) (z.2.2.2.2.2.2.2.2.2.2.2.2.2.2.2.2.2.2.2.2.2.2.2.2.2.2.2.2.2.2.2.2.2.2.2.2.2.2.2.2.1) (z.2.2.2.2.2.2.2.2.2.2.2.2.2.2.2.2.2.2.2.2.2.2.2.2.2.2.2.2.2.2.2.2.2.2.2.2.2.2.2.2.2.1) (z.2.2.2.2.2.2.2.2.2.2.2.2.2.2.2.2.2.2.2.2.2.2.2.2.2.2.2.2.2.2.2.2.2.2.2.2.2.2.2.2.2.2.1) (z.2.2.2.2.2.2.2.2.2.2.2.2.2.2.2.2.2.2.2.2.2.2.2.2.2.2.2.2.2.2.2.2.2.2.2.2.2.2.2.2.2.2.2.1) (z.2.2.2.2.2.2.2.2.2.2.2.2.2.2.2.2.2.2.2.2.2.2.2.2.2.2.2.2.2.2.2.2.2.2.2.2.2.2.2.2.2.2.2.2.1) (z.2.2.2.2.2.2.2.2.2.2.2.2.2.2.2.2.2.2.2.2.2.2.2.2.2.2.2.2.2.2.2.2.2.2.2.2.2.2.2.2.2.2.2.2.2.1) (z.2.2.2.2.2.2.2.2.2.2.2.2.2.2.2.2.2.2.2.2.2.2.2.2.2.2.2.2.2.2.2.2.2.2.2.2.2.2.2.2.2.2.2.2.2.2.1) (z.2.2.2.2.2.2.2.2.2.2.2.2.2.2.2.2.2.2.2.2.2.2.2.2.2.2.2.2.2.2.2.2.2.2.2.2.2.2.2.2.2.2.2.2.2.2.2.1) (z.2.2.2.2.2.2.2.2.2.2.2.2.2.2.2.2.2.2.2.2.2.2.2.2.2.2.2.2.2.2.2.2.2.2.2.2.2.2.2.2.2.2.2.2.2.2.2.2.1) (z.2.2.2.2.2.2.2.2.2.2.2.2.2.2.2.2.2.2.2.2.2.2.2.2.2.2.2.2.2.2.2.2.2.2.2.2.2.2.2.2.2.2.2.2.2.2.2.2.2.1) (z.2.2.2.2.2.2.2.2.2.2.2.2.2.2.2.2.2.2.2.2.2.2.2.2.2.2.2.2.2.2.2.2.2.2.2.2.2.2.2.2.2.2.2.2.2.2.2.2.2.2.1) (z.2.2.2.2.2.2.2.2.2.2.2.2.2.2.2.2.2.2.2.2.2.2.2.2.2.2.2.2.2.2.2.2.2.2.2.2.2.2.2.2.2.2.2.2.2.2.2.2.2.2.2.1) (z.2.2.2.2.2.2.2.2.2.2.2.2.2.2.2.2.2.2.2.2.2.2.2.2.2.2.2.2.2.2.2.2.2.2.2.2.2.2.2.2.2.2.2.2.2.2.2.2.2.2.2.2.1) (z.2.2.2.2.2.2.2.2.2.2.2.2.2.2.2.2.2.2.2.2.2.2.2.2.2.2.2.2.2.2.2.2.2.2.2.2.2.2.2.2.2.2.2.2.2.2.2.2.2.2.2.2.2.1) (z.2.2.2.2.2.2.2.2.2.2.2.2.2.2.2.2.2.2.2.2.2.2.2.2.2.2.2.2.2.2.2.2.2.2.2.2.2.2.2.2.2.2.2.2.2.2.2.2.2.2.2.2.2.2.1) (z.2.2.2.2.2.2.2.2.2.2.2.2.2.2.2.2.2.2.2.2.2.2.2.2.2.2.2.2.2.2.2.2.2.2.2.2.2.2.2.2.2.2.2.2.2.2.2.2.2.2.2.2.2.2.2.1) (z.2.2.2.2.2.2.2.2.2.2.2.2.2.2.2.2.2.2.2.2.2.2.2.2.2.2.2.2.2.2.2.2.2.2.2.2.2.2.2.2.2.2.2.2.2.2.2.2.2.2.2.2.2.2.2.2.1) (z.2.2.2.2.2.2.2.2.2.2.2.2.2.2.2.2.2.2.2.2.2.2.2.2.2.2.2.2.2.2.2.2.2.2.2.2.2.2.2.2.2.2.2.2.2.2.2.2.2.2.2.2.2.2.2.2.2.1) (z.2.2.2.2.2.2.2.2.2.2.2.2.2.2.2.2.2.2.2.2.2.2.2.2.2.2.2.2.2.2.2.2.2.2.2.2.2.2.2.2.2.2.2.2.2.2.2.2.2.2.2.2.2.2.2.2.2.2.1) (z.2.2.2.2.2.2.2.2.2.2.2.2.2.2.2.2.2.2.2.2.2.2.2.2.2.2.2.2.2.2.2.2.2.2.2.2.2.2.2.2.2.2.2.2.2.2.2.2.2.2.2.2.2.2.2.2.2.2.2.1) (z.2.2.2.2.2.2.2.2.2.2.2.2.2.2.2.2.2.2.2.2.2.2.2.2.2.2.2.2.2.2.2.2.2.2.2.2.2.2.2.2.2.2.2.2.2.2.2.2.2.2.2.2.2.2.2.2.2.2.2.2.1) (z.2.2.2.2.2.2.2.2.2.2.2.2.2.2.2.2.2.2.2.2.2.2.2.2.2.2.2.2.2.2.2.2.2.2.2.2.2.2.2.2.2.2.2.2.2.2.2.2.2.2.2.2.2.2.2.2.2.2.2.2.2.1) (z.2.2.2.2.2.2.2.2.2.2.2.2.2.2.2.2.2.2.2.2.2.2.2.2.2.2.2.2.2.2.2.2.2.2.2.2.2.2.2.2.2.2.2.2.2.2.2.2.2.2.2.2.2.2.2.2.2.2.2.2.2.2.1) (z.2.2.2.2.2.2.2.2.2.2.2.2.2.2.2.2.2.2.2.2.2.2.2.2.2.2.2.2.2.2.2.2.2.2.2.2.2.2.2.2.2.2.2.2.2.2.2.2.2.2.2.2.2.2.2.2.2.2.2.2.2.2.2)
noncomputable def Z := @Classical.epsilon _ ⟨(w00, A00, default, default, [], (fun _ => none), (fun _ => none), default, [], (fun _ => none), s00, 0, 0, .none, (fun _ => none), (fun _ _ => True), (fun _ _ => True), [], par00, lex00, 0, 0, [], 0, 0, 0, 0, 0, 0, [], 0, [], [], 0, [], 0, default, default, 0, 0, 0, 0, 0, 0, [], [], [], [], [], [], [], [], 0, 0, 0, 0, 0, 0, default, default, default, default, [], told00)⟩ fun z => ¬ P0 z
@[irreducible] noncomputable def w := Z.1
@[irreducible] noncomputable def A := Z.2.1
@[irreducible] noncomputable def base := Z.2.2.1
@[irreducible] noncomputable def g := Z.2.2.2.1
@[irreducible] noncomputable def fr := Z.2.2.2.2.1
@[irreducible] noncomputable def mg := Z.2.2.2.2.2.1
@[irreducible] noncomputable def mb := Z.2.2.2.2.2.2.1
@[irreducible] noncomputable def p := Z.2.2.2.2.2.2.2.1
@[irreducible] noncomputable def loose := Z.2.2.2.2.2.2.2.2.1
@[irreducible] noncomputable def mean := Z.2.2.2.2.2.2.2.2.2.1
@[irreducible] noncomputable def s := Z.2.2.2.2.2.2.2.2.2.2.1
@[irreducible] noncomputable def L := Z.2.2.2.2.2.2.2.2.2.2.2.1
@[irreducible] noncomputable def fa := Z.2.2.2.2.2.2.2.2.2.2.2.2.1
@[irreducible] noncomputable def cd := Z.2.2.2.2.2.2.2.2.2.2.2.2.2.1
@[irreducible] noncomputable def m := Z.2.2.2.2.2.2.2.2.2.2.2.2.2.2.1
@[irreducible] noncomputable def Q := Z.2.2.2.2.2.2.2.2.2.2.2.2.2.2.2.1
@[irreducible] noncomputable def E := Z.2.2.2.2.2.2.2.2.2.2.2.2.2.2.2.2.1
@[irreducible] noncomputable def rest := Z.2.2.2.2.2.2.2.2.2.2.2.2.2.2.2.2.2.1
@[irreducible] noncomputable def P := Z.2.2.2.2.2.2.2.2.2.2.2.2.2.2.2.2.2.2.1
@[irreducible] noncomputable def lx := Z.2.2.2.2.2.2.2.2.2.2.2.2.2.2.2.2.2.2.2.1
@[irreducible] noncomputable def ln := Z.2.2.2.2.2.2.2.2.2.2.2.2.2.2.2.2.2.2.2.2.1
@[irreducible] noncomputable def u := Z.2.2.2.2.2.2.2.2.2.2.2.2.2.2.2.2.2.2.2.2.2.1
@[irreducible] noncomputable def vs := Z.2.2.2.2.2.2.2.2.2.2.2.2.2.2.2.2.2.2.2.2.2.2.1
@[irreducible] noncomputable def gn := Z.2.2.2.2.2.2.2.2.2.2.2.2.2.2.2.2.2.2.2.2.2.2.2.1
@[irreducible] noncomputable def pn := Z.2.2.2.2.2.2.2.2.2.2.2.2.2.2.2.2.2.2.2.2.2.2.2.2.1
@[irreducible] noncomputable def x := Z.2.2.2.2.2.2.2.2.2.2.2.2.2.2.2.2.2.2.2.2.2.2.2.2.2.1
@[irreducible] noncomputable def d := Z.2.2.2.2.2.2.2.2.2.2.2.2.2.2.2.2.2.2.2.2.2.2.2.2.2.2.1
@[irreducible] noncomputable def l := Z.2.2.2.2.2.2.2.2.2.2.2.2.2.2.2.2.2.2.2.2.2.2.2.2.2.2.2.1
@[irreducible] noncomputable def t := Z.2.2.2.2.2.2.2.2.2.2.2.2.2.2.2.2.2.2.2.2.2.2.2.2.2.2.2.2.1
@[irreducible] noncomputable def refs := Z.2.2.2.2.2.2.2.2.2.2.2.2.2.2.2.2.2.2.2.2.2.2.2.2.2.2.2.2.2.1
@[irreducible] noncomputable def n := Z.2.2.2.2.2.2.2.2.2.2.2.2.2.2.2.2.2.2.2.2.2.2.2.2.2.2.2.2.2.2.1
@[irreducible] noncomputable def U := Z.2.2.2.2.2.2.2.2.2.2.2.2.2.2.2.2.2.2.2.2.2.2.2.2.2.2.2.2.2.2.2.1
@[irreducible] noncomputable def ts := Z.2.2.2.2.2.2.2.2.2.2.2.2.2.2.2.2.2.2.2.2.2.2.2.2.2.2.2.2.2.2.2.2.1
@[irreducible] noncomputable def rD := Z.2.2.2.2.2.2.2.2.2.2.2.2.2.2.2.2.2.2.2.2.2.2.2.2.2.2.2.2.2.2.2.2.2.1
@[irreducible] noncomputable def rv := Z.2.2.2.2.2.2.2.2.2.2.2.2.2.2.2.2.2.2.2.2.2.2.2.2.2.2.2.2.2.2.2.2.2.2.1
@[irreducible] noncomputable def rn := Z.2.2.2.2.2.2.2.2.2.2.2.2.2.2.2.2.2.2.2.2.2.2.2.2.2.2.2.2.2.2.2.2.2.2.2.1
@[irreducible] noncomputable def c7 := Z.2.2.2.2.2.2.2.2.2.2.2.2.2.2.2.2.2.2.2.2.2.2.2.2.2.2.2.2.2.2.2.2.2.2.2.2.1
@[irreducible] noncomputable def c8 := Z.2.2.2.2.2.2.2.2.2.2.2.2.2.2.2.2.2.2.2.2.2.2.2.2.2.2.2.2.2.2.2.2.2.2.2.2.2.1
@[irreducible] noncomputable def nD := Z.2.2.2.2.2.2.2.2.2.2.2.2.2.2.2.2.2.2.2.2.2.2.2.2.2.2.2.2.2.2.2.2.2.2.2.2.2.2.1
@[irreducible] noncomputable def aD := Z.2.2.2.2.2.2.2.2.2.2.2.2.2.2.2.2.2.2.2.2.2.2.2.2.2.2.2.2.2.2.2.2.2.2.2.2.2.2.2.1
@[irreducible] noncomputable def bD := Z.2.2.2.2.2.2.2.2.2.2.2.2.2.2.2.2.2.2.2.2.2.2.2.2.2.2.2.2.2.2.2.2.2.2.2.2.2.2.2.2.1
@[irreducible] noncomputable def wD := Z.2.2.2.2.2.2.2.2.2.2.2.2.2.2.2.2.2.2.2.2.2.2.2.2.2.2.2.2.2.2.2.2.2.2.2.2.2.2.2.2.2.1
@[irreducible] noncomputable def nd := Z.2.2.2.2.2.2.2.2.2.2.2.2.2.2.2.2.2.2.2.2.2.2.2.2.2.2.2.2.2.2.2.2.2.2.2.2.2.2.2.2.2.2.1
@[irreducible] noncomputable def lD := Z.2.2.2.2.2.2.2.2.2.2.2.2.2.2.2.2.2.2.2.2.2.2.2.2.2.2.2.2.2.2.2.2.2.2.2.2.2.2.2.2.2.2.2.1
@[irreducible] noncomputable def nv := Z.2.2.2.2.2.2.2.2.2.2.2.2.2.2.2.2.2.2.2.2.2.2.2.2.2.2.2.2.2.2.2.2.2.2.2.2.2.2.2.2.2.2.2.2.1
@[irreducible] noncomputable def av := Z.2.2.2.2.2.2.2.2.2.2.2.2.2.2.2.2.2.2.2.2.2.2.2.2.2.2.2.2.2.2.2.2.2.2.2.2.2.2.2.2.2.2.2.2.2.1
@[irreducible] noncomputable def bv := Z.2.2.2.2.2.2.2.2.2.2.2.2.2.2.2.2.2.2.2.2.2.2.2.2.2.2.2.2.2.2.2.2.2.2.2.2.2.2.2.2.2.2.2.2.2.2.1
@[irreducible] noncomputable def wsv := Z.2.2.2.2.2.2.2.2.2.2.2.2.2.2.2.2.2.2.2.2.2.2.2.2.2.2.2.2.2.2.2.2.2.2.2.2.2.2.2.2.2.2.2.2.2.2.2.1
@[irreducible] noncomputable def ndv := Z.2.2.2.2.2.2.2.2.2.2.2.2.2.2.2.2.2.2.2.2.2.2.2.2.2.2.2.2.2.2.2.2.2.2.2.2.2.2.2.2.2.2.2.2.2.2.2.2.1
@[irreducible] noncomputable def lv := Z.2.2.2.2.2.2.2.2.2.2.2.2.2.2.2.2.2.2.2.2.2.2.2.2.2.2.2.2.2.2.2.2.2.2.2.2.2.2.2.2.2.2.2.2.2.2.2.2.2.1
@[irreducible] noncomputable def as := Z.2.2.2.2.2.2.2.2.2.2.2.2.2.2.2.2.2.2.2.2.2.2.2.2.2.2.2.2.2.2.2.2.2.2.2.2.2.2.2.2.2.2.2.2.2.2.2.2.2.2.1
@[irreducible] noncomputable def bs := Z.2.2.2.2.2.2.2.2.2.2.2.2.2.2.2.2.2.2.2.2.2.2.2.2.2.2.2.2.2.2.2.2.2.2.2.2.2.2.2.2.2.2.2.2.2.2.2.2.2.2.2.1
@[irreducible] noncomputable def nn := Z.2.2.2.2.2.2.2.2.2.2.2.2.2.2.2.2.2.2.2.2.2.2.2.2.2.2.2.2.2.2.2.2.2.2.2.2.2.2.2.2.2.2.2.2.2.2.2.2.2.2.2.2.1
@[irreducible] noncomputable def an := Z.2.2.2.2.2.2.2.2.2.2.2.2.2.2.2.2.2.2.2.2.2.2.2.2.2.2.2.2.2.2.2.2.2.2.2.2.2.2.2.2.2.2.2.2.2.2.2.2.2.2.2.2.2.1
@[irreducible] noncomputable def bn := Z.2.2.2.2.2.2.2.2.2.2.2.2.2.2.2.2.2.2.2.2.2.2.2.2.2.2.2.2.2.2.2.2.2.2.2.2.2.2.2.2.2.2.2.2.2.2.2.2.2.2.2.2.2.2.1
@[irreducible] noncomputable def wsn := Z.2.2.2.2.2.2.2.2.2.2.2.2.2.2.2.2.2.2.2.2.2.2.2.2.2.2.2.2.2.2.2.2.2.2.2.2.2.2.2.2.2.2.2.2.2.2.2.2.2.2.2.2.2.2.2.1
@[irreducible] noncomputable def ndn := Z.2.2.2.2.2.2.2.2.2.2.2.2.2.2.2.2.2.2.2.2.2.2.2.2.2.2.2.2.2.2.2.2.2.2.2.2.2.2.2.2.2.2.2.2.2.2.2.2.2.2.2.2.2.2.2.2.1
@[irreducible] noncomputable def ln' := Z.2.2.2.2.2.2.2.2.2.2.2.2.2.2.2.2.2.2.2.2.2.2.2.2.2.2.2.2.2.2.2.2.2.2.2.2.2.2.2.2.2.2.2.2.2.2.2.2.2.2.2.2.2.2.2.2.2.1
@[irreducible] noncomputable def c2 := Z.2.2.2.2.2.2.2.2.2.2.2.2.2.2.2.2.2.2.2.2.2.2.2.2.2.2.2.2.2.2.2.2.2.2.2.2.2.2.2.2.2.2.2.2.2.2.2.2.2.2.2.2.2.2.2.2.2.2.1
@[irreducible] noncomputable def c4 := Z.2.2.2.2.2.2.2.2.2.2.2.2.2.2.2.2.2.2.2.2.2.2.2.2.2.2.2.2.2.2.2.2.2.2.2.2.2.2.2.2.2.2.2.2.2.2.2.2.2.2.2.2.2.2.2.2.2.2.2.1
@[irreducible] noncomputable def c5 := Z.2.2.2.2.2.2.2.2.2.2.2.2.2.2.2.2.2.2.2.2.2.2.2.2.2.2.2.2.2.2.2.2.2.2.2.2.2.2.2.2.2.2.2.2.2.2.2.2.2.2.2.2.2.2.2.2.2.2.2.2.1
@[irreducible] noncomputable def c6 := Z.2.2.2.2.2.2.2.2.2.2.2.2.2.2.2.2.2.2.2.2.2.2.2.2.2.2.2.2.2.2.2.2.2.2.2.2.2.2.2.2.2.2.2.2.2.2.2.2.2.2.2.2.2.2.2.2.2.2.2.2.2.1
@[irreducible] noncomputable def need := Z.2.2.2.2.2.2.2.2.2.2.2.2.2.2.2.2.2.2.2.2.2.2.2.2.2.2.2.2.2.2.2.2.2.2.2.2.2.2.2.2.2.2.2.2.2.2.2.2.2.2.2.2.2.2.2.2.2.2.2.2.2.2.1
@[irreducible] noncomputable def q := Z.2.2.2.2.2.2.2.2.2.2.2.2.2.2.2.2.2.2.2.2.2.2.2.2.2.2.2.2.2.2.2.2.2.2.2.2.2.2.2.2.2.2.2.2.2.2.2.2.2.2.2.2.2.2.2.2.2.2.2.2.2.2.2
set_option maxHeartbeats 4000000 in
theorem key : Sta w A base g fr mg mb p loose mean s L fa cd m Q E rest P lx ln u vs gn pn x d l t refs n U ts rD rv rn c7 c8 nD aD bD wD nd lD nv av bv wsv ndv lv as bs nn an bn wsn ndn ln' c2 c4 c5 c6 need q := fun sl B X T O hsl hE hh hroom hu C J hr e7 e8 m7 m8 mr hTs hs oT oA hn e2 m2 mn ha hA e4 m4 ma hb hB e5 m5 mb' hw e6 m6 mw I hV mnd hndI hneed ml hl F0 hm N h => by
  subst hsl
  obtain ⟨V, hVe⟩ : ∃ V, V = lexNews w lx ln u [] pn vs gn ++ (hdrNews w x d l t refs n ++ U) := ⟨_, rfl⟩
  rw [← hVe] at N
  (revert V; tm_at "nmx1"; refine fun V => ?_; k_extra "kw")
  revert X; k_fill; intro X
  dsimp only
  k_steps
  (rename Fr _ _ _ _ => F2)
  (rename News _ _ _ _ => N2)
  obtain ⟨tp, ol2, ol1⟩ := nm_j N2
  (rename Hid (AllLt _ (_ :: _ :: V)) => l3)
  (rename Hid (AllLt _ (_ :: V)) => l2)
  (rename Hid (AllLt _ V) => l1)
  obtain ⟨ov1, ho1e⟩ : ∃ ov1, ov1 = [Value.int 0 s.toks, Value.int 1 (s.toks + 1), Value.int 2 (s.toks + 1 + 1), Value.int 3 (s.toks + 1 + 1 + 1), Value.int 4 (s.toks + 1 + 1 + 1 + 1)] := ⟨_, rfl⟩
  obtain ⟨ov2, ho2e⟩ : ∃ ov2, ov2 = [Value.int 4 (s.toks + 1 + 1 + 1 + 1 + 1), Value.int 3 (s.toks + 1 + 1 + 1 + 1 + 1 + 1), Value.int 2 (s.toks + 1 + 1 + 1 + 1 + 1 + 1 + 1), Value.int 1 (s.toks + 1 + 1 + 1 + 1 + 1 + 1 + 1 + 1), Value.int 0 (s.toks + 1 + 1 + 1 + 1 + 1 + 1 + 1 + 1 + 1)] := ⟨_, rfl⟩
  have ho1 : IntsAre ov1 (castL (osOf 0)) := by rw [ho1e]; exact ia5 0 1 2 3 4 _ _ _ _ _
  have ho2 : IntsAre ov2 (castL (osOf 1)) := by rw [ho2e]; exact ia5 4 3 2 1 0 _ _ _ _ _
  rw [← ho1e, ← ho2e] at N2
  clear ho1e ho2e
  (revert ov1 ov2; tm_at "nmx2"; refine fun ov1 ov2 => ?_; k_extra "kw")
  refine ti_iter (vs := [.ref ol1, .ref ol2]) F2 N2 List.mem_cons_self ?_
  (tm_at "nmx3"; refine fun I1 o1 h1 => ?_)
  intro hT1 F3 N3 l4
  have hsV : Sub (x :: d :: l :: lexA lx) ((V : List (Addr × Obj)).map (·.1)) := hVe ▸ lexhdr_in
  have oU : ∀ o : Obj, FarT (x :: d :: l :: lexA lx) (([(I1, o), (tp, tupO #[.ref ol1, .ref ol2]), (ol2, W.listOf (ov2 : List Value).toArray 0), (ol1, W.listOf (ov1 : List Value).toArray 0)] : List (Addr × Obj)) ++ U) := fun o =>
    far_add hsV (fun q hq => l4 q (List.mem_cons_of_mem _ (List.mem_cons_of_mem _ (List.mem_cons_of_mem _ hq)))) (far_add hsV (fun q hq => allLt_mem l3.out.2.2 q hq) (far_add hsV (fun q hq => allLt_mem l2.out.2 q hq) (far_add hsV (allLt_mem l1.out) oT)))
  have oI : ∀ pn', FarT [I1] (([(tp, tupO #[.ref ol1, .ref ol2]), (ol2, W.listOf (ov2 : List Value).toArray 0), (ol1, W.listOf (ov1 : List Value).toArray 0)] : List (Addr × Obj)) ++ (lexNews w lx ln u [] pn' vs gn ++ (hdrNews w x d l t refs n ++ U))) := fun pn' b hb q hq => by
    rw [List.mem_singleton.mp hb]
    have hq' : q.1 ∈ ((tp, tupO #[.ref ol1, .ref ol2]) :: (ol2, W.listOf (ov2 : List Value).toArray 0) :: (ol1, W.listOf (ov1 : List Value).toArray 0) :: V).map (·.1) := by rw [hVe]; exact List.mem_map_of_mem (f := (·.1)) hq
    obtain ⟨r, hr, e⟩ := List.mem_map.mp hq'
    rw [← e]
    exact Nat.ne_of_gt (l4 r hr)
  rw [hVe] at N3
  have hmU : ∀ {p : Addr × Obj} {o : Obj}, p ∈ U → p ∈ ([(I1, o), (tp, tupO #[.ref ol1, .ref ol2]), (ol2, W.listOf (ov2 : List Value).toArray 0), (ol1, W.listOf (ov1 : List Value).toArray 0)] : List (Addr × Obj)) ++ U := fun h => List.mem_append_right _ h
  refine fi_at 3 (OI w lx ln u vs gn x d l t refs n g L I1 tp ol1 ol2 ov1 ov2 U [(Str.ofString "table", Value.ref x), (Str.ofString "told", Value.ref q.tl), (Str.ofString "need", Value.ref nd), (Str.ofString "least", Value.ref lD)] s) ⟨0, h1, _, m, o1, pn, rfl, F3, hT1, N3, hm, rfl, by decide⟩ ?_
  clear F2 N2 F3 N3 hT1 o1 l1 l2 l3 l4 hVe hsV V oT h1 hm
  rintro k s' ⟨i, h', tk, m, o, pn, rfl, F, hT, N, hm, hk, hi⟩
  obtain ⟨j, rfl⟩ : ∃ j, k = j + 1 := ⟨k - 1, by omega⟩
  refine ⟨j, rfl, ?_⟩
  by_cases h2 : i < 2
  · obtain ⟨ol, ov, hx, mo, ho⟩ : ∃ ol ov, [Value.ref ol1, Value.ref ol2][i]? = some (.ref ol) ∧ (∀ o, (ol, W.listOf (ov : List Value).toArray 0) ∈ ([(I1, o), (tp, tupO #[.ref ol1, .ref ol2]), (ol2, W.listOf (ov2 : List Value).toArray 0), (ol1, W.listOf (ov1 : List Value).toArray 0)] : List (Addr × Obj)) ++ U) ∧ IntsAre ov (castL (osOf i)) := by
      have : i = 0 ∨ i = 1 := by omega
      rcases this with rfl | rfl
      · exact ⟨ol1, ov1, rfl, fun o => List.mem_append_left _ (List.mem_of_getElem? (i := 3) rfl), ho1⟩
      · exact ⟨ol2, ov2, rfl, fun o => List.mem_append_left _ (List.mem_of_getElem? (i := 2) rfl), ho2⟩
    (revert i h' tk m o pn j ol ov; tm_at "nmx6"; refine fun i h' tk m o pn => ?_; k_extra "kf"; tm_at "nmx1"; refine fun j => ?_; k_extra "kf"; tm_at "nmx2"; refine fun ol ov => ?_; k_extra "kw")
    refine ti_next (vs := [.ref ol1, .ref ol2]) F N (offA_T (oI pn I1 List.mem_cons_self)) hT (List.mem_append_left _ List.mem_cons_self) hx ?_
    (tm_at "nmx2"; refine fun o' h'' => ?_)
    intro hT' F' N'
    clear F N hT
    dsimp only [OwitTurn]
    walk1
    (rename Fr _ _ _ _ => F2)
    (rename News _ _ _ _ => N2)
    obtain ⟨hz1, hz2⟩ := osOf_f i h2
    refine body_c B X T O hE hh hroom hu C J hr e7 e8 (hmU m7) (hmU m8) (hmU mr) (mo o') ho hz1 (fun k => osOf_m i k) hz2 hTs (fun p hp => hmU (hs p hp)) (oU o') oA hn e2 (hmU m2) (hmU mn) ha hA e4 (hmU m4) (hmU ma) hb hB e5 (hmU m5) (hmU mb') hw e6 (hmU m6) (hmU mw) I (fun p hp => hmU (hV p hp)) (hmU mnd) hndI hneed (hmU ml) hl F2 (m_new hm (names_1 (ns := [Str.ofString "table", Str.ofString "told", Str.ofString "need", Str.ofString "least"]) rfl (by decide +kernel))) (News.sub' N2 sub_in) ?_
    (tm_at "nmx4"; refine fun h3 tk3 m3 pn3 => ?_)
    intro F3 hm3 N3
    exact ⟨i + 1, h3, tk3, m3, o', pn3, rfl, F3, hT', News.sub' N3 sub_out, hm3, by omega, by omega⟩
  · obtain rfl : i = 2 := by omega
    (revert h' tk m o pn j; tm_at "nmx5"; refine fun h' tk m o pn => ?_; k_extra "kf"; tm_at "nmx1"; refine fun j => ?_; k_extra "kw")
    refine ti_done (vs := [.ref ol1, .ref ol2]) hh F N (offA_T (oI pn I1 List.mem_cons_self)) hT (List.mem_append_left _ List.mem_cons_self) rfl ?_
    (tm_at "nmx1"; refine fun h'' => ?_)
    intro F' N'
    dsimp only [OwitTurn]
    refine h _ _ _ pn F' (News.sub' N' fun p hp => ?_)
    rcases List.mem_append.mp hp with hp | hp
    · exact List.mem_append_right _ (List.mem_append_left _ hp)
    · exact List.mem_append_right _ (List.mem_append_right _ hp)
theorem zeq : (w, A, base, g, fr, mg, mb, p, loose, mean, s, L, fa, cd, m, Q, E, rest, P, lx, ln, u, vs, gn, pn, x, d, l, t, refs, n, U, ts, rD, rv, rn, c7, c8, nD, aD, bD, wD, nd, lD, nv, av, bv, wsv, ndv, lv, as, bs, nn, an, bn, wsn, ndn, ln', c2, c4, c5, c6, need, q) = Z := by with_unfolding_all rfl
end Cseg_i
set_option maxHeartbeats 4000000 in
theorem seg_i {w : World} {A : Around} {base g : Heap} {fr : List Env} {mg mb : Str → Option Value} {p : Program} {loose : List Str} {mean : ExcName → Option Value} {s : Shared} {L fa : Addr} {cd : Value} {m : Str → Option Value} {Q : Flow → Shared → Prop} {E : Value → Shared → Prop} {rest : List Stmt} {P : Par} {lx : LexP} {ln : Int} {u : Tok} {vs : List Value} {gn pn : Nat} {x d l : Addr} {t : Tok} {refs : List Value} {n : Nat} {U ts : List (Addr × Obj)} {rD : Addr} {rv : List Value} {rn : Nat} {c7 c8 : Obj} {nD aD bD wD nd lD : Addr} {nv av bv wsv ndv lv : List Value} {as bs : List Int} {nn an bn wsn ndn ln' : Nat} {c2 c4 c5 c6 : Obj} {need : List Int} {q : ToldP} {sl : List Stmt} (B : Below A base fr g) (X : Frag.In (hd.heap_39 w.params) g) (T : Top p loose mean mg mb g) (O : ParOk P) (hsl : sl = st15s.1 :: rest) (hE : PassesOwn (model Challenge.rw_st0024_01.row.prog w) (A.deeper (lawEnv L fa cd)) (lawEnv L fa cd) E) (hh : A.handled = none) (hroom : A.depth + 60 < recursionLimit) (hu : A.units + 600 < cLine) (C : CodeHd base 228 224) (J : LexF lx) (hr : StrsAre rv (wTo P 5)) (e7 : c7.data = .cell (some (.ref lx.x2))) (e8 : c8.data = .cell (some (.ref rD))) (m7 : (L + 1 + 1 + 1 + 1 + 1 + 1 + 1, c7) ∈ U) (m8 : (L + 1 + 1 + 1 + 1 + 1 + 1 + 1 + 1, c8) ∈ U) (mr : (rD, W.listOf rv.toArray rn) ∈ U) (hTs : TupsN ts refs (kvTo P 5)) (hs : Sub ts U) (oT : FarT (x :: d :: l :: lexA lx) U) (oA : FarA [x, d, l] (lexA lx)) (hn : StrsAre nv [Str.ofString "a", Str.ofString "B c", Str.ofString "\"", Str.ofString "\\", Str.ofString "#"]) (e2 : c2.data = .cell (some (.ref nD))) (m2 : (L + 1 + 1, c2) ∈ U) (mn : (nD, W.listOf nv.toArray nn) ∈ U) (ha : IntsAre av as) (hA : ∀ k < 5, as[k]? = some (P.Aa k : Int)) (e4 : c4.data = .cell (some (.ref aD))) (m4 : (L + 1 + 1 + 1 + 1, c4) ∈ U) (ma : (aD, W.listOf av.toArray an) ∈ U) (hb : IntsAre bv bs) (hB : ∀ k < 5, bs[k]? = some (P.Bh k : Int)) (e5 : c5.data = .cell (some (.ref bD))) (m5 : (L + 1 + 1 + 1 + 1 + 1, c5) ∈ U) (mb' : (bD, W.listOf bv.toArray bn) ∈ U) (hw : StrsAre wsv (wTo P 5)) (e6 : c6.data = .cell (some (.ref wD))) (m6 : (L + 1 + 1 + 1 + 1 + 1 + 1, c6) ∈ U) (mw : (wD, W.listOf wsv.toArray wsn) ∈ U) (I : ToldF q (fun k => castL (P.Vn k))) (hV : Sub (toldNews q) U) (mnd : (nd, W.listOf ndv.toArray ndn) ∈ U) (hndI : IntsAre ndv need) (hneed : ∀ k < 5, need[k]? = some ((P.Aa k + P.Bh k : Nat) : Int)) (ml : (lD, W.listOf lv.toArray ln') ∈ U) (hl : IntsAre lv (castL (bitsTo (least1 (fun k => castL (P.Vn k)) need 32) 5))) (F0 : Fr g L s.heap m) (hm : ∀ p ∈ [(Str.ofString "table", Value.ref x), (Str.ofString "told", Value.ref q.tl), (Str.ofString "need", Value.ref nd), (Str.ofString "least", Value.ref lD)], m p.1 = some p.2) (N : News g L s.heap (lexNews w lx ln u [] pn vs gn ++ (hdrNews w x d l t refs n ++ U))) (h : ∀ h' tk m' pn', Fr g L h' m' → News g L h' (lexNews w lx ln u [] pn' vs gn ++ (hdrNews w x d l t refs n ++ U)) →
    wpAny (model Challenge.rw_st0024_01.row.prog w) (A.deeper (lawEnv L fa cd)) (execs rest (lawEnv L fa cd)) Q E { s with heap := h', toks := tk }) : wpAny (model Challenge.rw_st0024_01.row.prog w) (A.deeper (lawEnv L fa cd)) (execs sl (lawEnv L fa cd)) Q E s :=
  (show Cseg_i.Sta w A base g fr mg mb p loose mean s L fa cd m Q E rest P lx ln u vs gn pn x d l t refs n U ts rD rv rn c7 c8 nD aD bD wD nd lD nv av bv wsv ndv lv as bs nn an bn wsn ndn ln' c2 c4 c5 c6 need q from hilb Cseg_i.P0 Cseg_i.Z rfl (Eq.subst (motive := Cseg_i.P0) Cseg_i.zeq Cseg_i.key) (w, A, base, g, fr, mg, mb, p, loose, mean, s, L, fa, cd, m, Q, E, rest, P, lx, ln, u, vs, gn, pn, x, d, l, t, refs, n, U, ts, rD, rv, rn, c7, c8, nD, aD, bD, wD, nd, lD, nv, av, bv, wsv, ndv, lv, as, bs, nn, an, bn, wsn, ndn, ln', c2, c4, c5, c6, need, q)) sl B X T O hsl hE hh hroom hu C J hr e7 e8 m7 m8 mr hTs hs oT oA hn e2 m2 mn ha hA e4 m4 ma hb hB e5 m5 mb' hw e6 m6 mw I hV mnd hndI hneed ml hl F0 hm N h
section
end
end Mine

namespace Mine
open PySem.Calls
theorem row147 : True := by
  k_with "k_enter" => ((with_reducible show codeAny _ _ (Code.call (Value.ref 73) _) _ _); (refine' GS.callM ?kBr147 ?kFr147 ?kXr147 ?kNr147 ?kTr147 ?kAr147 ?kfr147 ?kkr147 ?krr147 ?kdr147 (fun ggq9 gBq9 gXq9 gTq9 gGq9 gKq9 gSq9 gBackq9 => gt_read gBq9 gXq9 gTq9 gGq9 ?i1r147 ?i2r147 ?i3r147 ?i4r147 ?i5r147 ?i6r147 ?i7r147 ?i8r147 ?i9r147 ?_); (case kBr147 => assumption); (case kFr147 => assumption); (case kXr147 => assumption); (case kNr147 => assumption); (case kTr147 => assumption); (case kAr147 => keq_hits); (case kfr147 => exact rfl); (case kkr147 => exact rfl); (case krr147 => k_extra "gs_rem"); (case kdr147 => (refine offL_T ?_); assumption); (case i1r147 => assumption); (case i2r147 => assumption); (case i3r147 => assumption); (case i4r147 => k_room); (case i5r147 => (try simp only [units_under_make, Around.deeper_units]); omega); (case i6r147 => assumption); (case i7r147 => assumption); (case i8r147 => assumption); (case i9r147 => assumption); (revert ggq9; ((first | tm_at "clo1" | refine fun ggq9 => ?_); refine fun gBq9 => ?_; refine fun gXq9 => ?_; refine fun gTq9 => ?_; refine fun gGq9 => ?_; refine fun gKq9 => ?_; refine fun gSq9 => ?_; refine fun gBackq9 => ?_); ((first | tm_at "clo1" | refine fun vs'q9 => ?_); (first | tm_at "clo1" | refine fun u'q9 => ?_); (first | tm_at "clo1" | refine fun gn'q9 => ?_); (first | tm_at "clo1" | refine fun h'q9 => ?_); (first | tm_at "clo1" | refine fun tk1'q9 => ?_); (first | tm_at "clo1" | refine fun tk'q9 => ?_); refine fun VS'q9 => ?_; refine fun gG'q9 => ?_); (obtain ⟨F'q9, N'q9, -⟩ := gBackq9 _ _ gG'q9); (clear gBq9 gXq9 gTq9 gGq9 gKq9 gSq9 gBackq9 gG'q9); (try simp only [List.cons_append, List.nil_append] at N'q9); (try dsimp only))))
  trivial
section
variable {w : World} {A : Around} {base g : Heap} {fr : List Env} {mg mb : Str → Option Value} {p : Program} {loose : List Str} {mean : ExcName → Option Value} {s : Shared} {L fa : Addr} {cd : Value} {m : Str → Option Value} {Q : Flow → Shared → Prop} {E : Value → Shared → Prop} {rest : List Stmt}
  (B : Below A base fr g) (X : Frag.In (hd.heap_39 w.params) g) (T : Top p loose mean mg mb g)
include B X T
end
namespace Cseg_k
noncomputable def Sta (w : World) (A : Around) (base g : Heap) (fr : List Env) (mg mb : Str → Option Value) (p : Program) (loose : List Str) (mean : ExcName → Option Value) (s : Shared) (L fa : Addr) (cd : Value) (m : Str → Option Value) (Q : Flow → Shared → Prop) (E : Value → Shared → Prop) (lx : LexP) (ln : Int) (u : Tok) (vs : List Value) (gn pn : Nat) (V : List (Addr × Obj)) (c7 : Obj) (ps : Array Value) (ys : List Str) : Prop := ∀ (sl : List Stmt) (B : Below A base fr g) (X : Frag.In (hd.heap_39 w.params) g) (T : Top p loose mean mg mb g) (hsl : sl = [st16s.1]) (hE : PassesOwn (model Challenge.rw_st0024_01.row.prog w) (A.deeper (lawEnv L fa cd)) (lawEnv L fa cd) E) (hh : A.handled = none) (hroom : A.depth + 60 < recursionLimit) (hu : A.units + 600 < cLine) (C : CodeHd base 228 224) (J : LexF lx) (e7 : c7.data = .cell (some (.ref lx.x2))) (m7 : (L + 1 + 1 + 1 + 1 + 1 + 1 + 1, c7) ∈ V) (m24 : (224, tabObj ps) ∈ V) (oT : FarT (lexA lx) V) (hs : StrsAre vs ys) (hy : ∀ c ∈ ys, c.length = 1) (hl : ys.length ≤ 1000) (hx : lexT ys ln = some (Str.ofString ".", [], 6)) (F : Fr g L s.heap m) (N : News g L s.heap (lexNews w lx ln u [] pn vs gn ++ V)) (h : ∀ h' tk m', Fr g L h' m' → News g L h' [(224, tabObj ps)] → Q (.ret (.bool true)) { s with heap := h', toks := tk }), wpAny (model Challenge.rw_st0024_01.row.prog w) (A.deeper (lawEnv L fa cd)) (execs sl (lawEnv L fa cd)) Q E s
noncomputable def P0 (z : World × Around × Heap × Heap × (List Env) × (Str → Option Value) × (Str → Option Value) × Program × (List Str) × (ExcName → Option Value) × Shared × Addr × Addr × Value × (Str → Option Value) × (Flow → Shared → Prop) × (Value → Shared → Prop) × LexP × Int × Tok × (List Value) × Nat × Nat × (List (Addr × Obj)) × Obj × (Array Value) × (List Str)) : Prop := Sta (z.1) (z.2.1) (z.2.2.1) (z.2.2.2.1) (z.2.2.2.2.1) (z.2.2.2.2.2.1) (z.2.2.2.2.2.2.1) (z.2.2.2.2.2.2.2.1) (z.2.2.2.2.2.2.2.2.1) (z.2.2.2.2.2.2.2.2.2.1) (z.2.2.2.2.2.2.2.2.2.2.1) (z.2.2.2.2.2.2.2.2.2.2.2.1) (z.2.2.2.2.2.2.2.2.2.2.2.2.1) (z.2.2.2.2.2.2.2.2.2.2.2.2.2.1) (z.2.2.2.2.2.2.2.2.2.2.2.2.2.2.1) (z.2.2.2.2.2.2.2.2.2.2.2.2.2.2.2.1) (z.2.2.2.2.2.2.2.2.2.2.2.2.2.2.2.2.1) (z.2.2.2.2.2.2.2.2.2.2.2.2.2.2.2.2.2.1) (z.2.2.2.2.2.2.2.2.2.2.2.2.2.2.2.2.2.2.1) (z.2.2.2.2.2.2.2.2.2.2.2.2.2.2.2.2.2.2.2.1) (z.2.2.2.2.2.2.2.2.2.2.2.2.2.2.2.2.2.2.2.2.1) (z.2.2.2.2.2.2.2.2.2.2.2.2.2.2.2.2.2.2.2.2.2.1) (z.2.2.2.2.2.2.2.2.2.2.2.2.2.2.2.2.2.2.2.2.2.2.1) (z.2.2.2.2.2.2.2.2.2.2.2.2.2.2.2.2.2.2.2.2.2.2.2.1) (z.2.2.2.2.2.2.2.2.2.2.2.2.2.2.2.2.2.2.2.2.2.2.2.2.1) (z.2.2.2.2.2.2.2.2.2.2.2.2.2.2.2.2.2.2.2.2.2.2.2.2.2.1) (z.2.2.2.2.2.2.2.2.2.2.2.2.2.2.2.2.2.2.2.2.2.2.2.2.2.2)
noncomputable def Z := @Classical.epsilon _ ⟨(w00, A00, default, default, [], (fun _ => none), (fun _ => none), default, [], (fun _ => none), s00, 0, 0, .none, (fun _ => none), (fun _ _ => True), (fun _ _ => True), lex00, 0, 0, [], 0, 0, [], default, #[], [])⟩ fun z => ¬ P0 z
@[irreducible] noncomputable def w := Z.1
@[irreducible] noncomputable def A := Z.2.1
@[irreducible] noncomputable def base := Z.2.2.1
@[irreducible] noncomputable def g := Z.2.2.2.1
@[irreducible] noncomputable def fr := Z.2.2.2.2.1
@[irreducible] noncomputable def mg := Z.2.2.2.2.2.1
@[irreducible] noncomputable def mb := Z.2.2.2.2.2.2.1
@[irreducible] noncomputable def p := Z.2.2.2.2.2.2.2.1
@[irreducible] noncomputable def loose := Z.2.2.2.2.2.2.2.2.1
@[irreducible] noncomputable def mean := Z.2.2.2.2.2.2.2.2.2.1
@[irreducible] noncomputable def s := Z.2.2.2.2.2.2.2.2.2.2.1
@[irreducible] noncomputable def L := Z.2.2.2.2.2.2.2.2.2.2.2.1
@[irreducible] noncomputable def fa := Z.2.2.2.2.2.2.2.2.2.2.2.2.1
@[irreducible] noncomputable def cd := Z.2.2.2.2.2.2.2.2.2.2.2.2.2.1
@[irreducible] noncomputable def m := Z.2.2.2.2.2.2.2.2.2.2.2.2.2.2.1
@[irreducible] noncomputable def Q := Z.2.2.2.2.2.2.2.2.2.2.2.2.2.2.2.1
@[irreducible] noncomputable def E := Z.2.2.2.2.2.2.2.2.2.2.2.2.2.2.2.2.1
@[irreducible] noncomputable def lx := Z.2.2.2.2.2.2.2.2.2.2.2.2.2.2.2.2.2.1
@[irreducible] noncomputable def ln := Z.2.2.2.2.2.2.2.2.2.2.2.2.2.2.2.2.2.2.1
@[irreducible] noncomputable def u := Z.2.2.2.2.2.2.2.2.2.2.2.2.2.2.2.2.2.2.2.1
@[irreducible] noncomputable def vs := Z.2.2.2.2.2.2.2.2.2.2.2.2.2.2.2.2.2.2.2.2.1
@[irreducible] noncomputable def gn := Z.2.2.2.2.2.2.2.2.2.2.2.2.2.2.2.2.2.2.2.2.2.1
@[irreducible] noncomputable def pn := Z.2.2.2.2.2.2.2.2.2.2.2.2.2.2.2.2.2.2.2.2.2.2.1
@[irreducible] noncomputable def V := Z.2.2.2.2.2.2.2.2.2.2.2.2.2.2.2.2.2.2.2.2.2.2.2.1
@[irreducible] noncomputable def c7 := Z.2.2.2.2.2.2.2.2.2.2.2.2.2.2.2.2.2.2.2.2.2.2.2.2.1
@[irreducible] noncomputable def ps := Z.2.2.2.2.2.2.2.2.2.2.2.2.2.2.2.2.2.2.2.2.2.2.2.2.2.1
@[irreducible] noncomputable def ys := Z.2.2.2.2.2.2.2.2.2.2.2.2.2.2.2.2.2.2.2.2.2.2.2.2.2.2
set_option maxHeartbeats 4000000 in
theorem key : Sta w A base g fr mg mb p loose mean s L fa cd m Q E lx ln u vs gn pn V c7 ps ys := fun sl B X T hsl hE hh hroom hu C J e7 m7 m24 oT hs hy hl hx F N h => by
  subst hsl
  revert X; k_fill; intro X
  have y2 : ∀ c ∈ ([] : List Str), c.length = 1 := fun _ h => nomatch h
  have l2 : ([] : List Str).length ≤ 1000 := by decide
  have x2 : lexT [] 6 = some (E0, [], 6) := rfl
  dsimp only [lexNews, List.cons_append, List.nil_append] at N
  dsimp only
  k_steps
  (rename Fr _ _ _ _ => F2)
  (rename News _ _ _ _ => N2)
  exact h _ _ _ F2 (News.sub' N2 (by k_extra "gs_sub"))
theorem zeq : (w, A, base, g, fr, mg, mb, p, loose, mean, s, L, fa, cd, m, Q, E, lx, ln, u, vs, gn, pn, V, c7, ps, ys) = Z := by with_unfolding_all rfl
end Cseg_k
set_option maxHeartbeats 4000000 in
theorem seg_k {w : World} {A : Around} {base g : Heap} {fr : List Env} {mg mb : Str → Option Value} {p : Program} {loose : List Str} {mean : ExcName → Option Value} {s : Shared} {L fa : Addr} {cd : Value} {m : Str → Option Value} {Q : Flow → Shared → Prop} {E : Value → Shared → Prop} {lx : LexP} {ln : Int} {u : Tok} {vs : List Value} {gn pn : Nat} {V : List (Addr × Obj)} {c7 : Obj} {ps : Array Value} {ys : List Str} {sl : List Stmt} (B : Below A base fr g) (X : Frag.In (hd.heap_39 w.params) g) (T : Top p loose mean mg mb g) (hsl : sl = [st16s.1]) (hE : PassesOwn (model Challenge.rw_st0024_01.row.prog w) (A.deeper (lawEnv L fa cd)) (lawEnv L fa cd) E) (hh : A.handled = none) (hroom : A.depth + 60 < recursionLimit) (hu : A.units + 600 < cLine) (C : CodeHd base 228 224) (J : LexF lx) (e7 : c7.data = .cell (some (.ref lx.x2))) (m7 : (L + 1 + 1 + 1 + 1 + 1 + 1 + 1, c7) ∈ V) (m24 : (224, tabObj ps) ∈ V) (oT : FarT (lexA lx) V) (hs : StrsAre vs ys) (hy : ∀ c ∈ ys, c.length = 1) (hl : ys.length ≤ 1000) (hx : lexT ys ln = some (Str.ofString ".", [], 6)) (F : Fr g L s.heap m) (N : News g L s.heap (lexNews w lx ln u [] pn vs gn ++ V)) (h : ∀ h' tk m', Fr g L h' m' → News g L h' [(224, tabObj ps)] → Q (.ret (.bool true)) { s with heap := h', toks := tk }) : wpAny (model Challenge.rw_st0024_01.row.prog w) (A.deeper (lawEnv L fa cd)) (execs sl (lawEnv L fa cd)) Q E s :=
  (show Cseg_k.Sta w A base g fr mg mb p loose mean s L fa cd m Q E lx ln u vs gn pn V c7 ps ys from hilb Cseg_k.P0 Cseg_k.Z rfl (Eq.subst (motive := Cseg_k.P0) Cseg_k.zeq Cseg_k.key) (w, A, base, g, fr, mg, mb, p, loose, mean, s, L, fa, cd, m, Q, E, lx, ln, u, vs, gn, pn, V, c7, ps, ys)) sl B X T hsl hE hh hroom hu C J e7 m7 m24 oT hs hy hl hx F N h
section
end
end Mine

namespace Mine
open PySem.Calls
instance : Nonempty LexP := ⟨lex00⟩
instance : Nonempty ToldP := ⟨told00⟩
/-- what the script decides -/
noncomputable def parOf (ns : List Int) : Par where
  Aa k := if k = 0 then 0 else ((givenOf ns k).fmod 3).toNat
  Bh k := if k = 0 then 0 else (((givenOf ns k).fdiv 3).fmod 3).toNat
  Vn k := (rowOf (givenOf ns k)).map Int.toNat
  cs k := decide ((givenOf ns k).fdiv 2250 ≠ 0)
  bs k := decide (((givenOf ns k).fdiv 1125).fmod 2 ≠ 0)
theorem row_bd (g : Int) : ∀ y ∈ rowOf g, 0 ≤ y ∧ y < 5 := by
  intro y hy
  unfold rowOf at hy
  simp only [List.mem_cons, List.not_mem_nil, or_false] at hy
  rcases hy with rfl | rfl | rfl <;> exact ⟨Int.fmod_nonneg_of_pos _ (by decide), Int.fmod_lt_of_pos _ (by decide)⟩
theorem toNat_lt {z : Int} {n : Nat} (h0 : 0 ≤ z) (h : z < n) : z.toNat < n := by omega
theorem parOf_ok (ns : List Int) : ParOk (parOf ns) where
  ab k := by
    have h1 : ((givenOf ns k).fmod 3).toNat < 3 := toNat_lt (Int.fmod_nonneg_of_pos _ (by decide)) (Int.fmod_lt_of_pos _ (by decide))
    have h2 : (((givenOf ns k).fdiv 3).fmod 3).toNat < 3 := toNat_lt (Int.fmod_nonneg_of_pos _ (by decide)) (Int.fmod_lt_of_pos _ (by decide))
    unfold parOf
    dsimp only
    constructor <;> split <;> first | decide | assumption
  v5 k y hy := by
    obtain ⟨z, hz, rfl⟩ := List.mem_map.mp hy
    have := row_bd _ z hz
    omega
  v3 k := rfl
theorem cast_row (g : Int) : castL ((rowOf g).map Int.toNat) = rowOf g := by
  unfold castL
  rw [List.map_map]
  refine (List.map_congr_left fun y hy => ?_).trans (List.map_id _)
  have := row_bd g y hy
  show ((y.toNat : Nat) : Int) = y
  omega
theorem lt5 {k : Nat} (h : k < 5) : k = 0 ∨ k = 1 ∨ k = 2 ∨ k = 3 ∨ k = 4 := by omega
theorem some_nat {z : Int} (h : 0 ≤ z) : some z = some ((z.toNat : Nat) : Int) := by rw [Int.toNat_of_nonneg h]
noncomputable abbrev aheadL (ns : List Int) : List Int := [0] ++ [givenOf ns 1, givenOf ns 2, givenOf ns 3, givenOf ns 4].map fun g => g.fmod 3
noncomputable abbrev behindL (ns : List Int) : List Int := [0] ++ [givenOf ns 1, givenOf ns 2, givenOf ns 3, givenOf ns 4].map fun g => (g.fdiv 3).fmod 3
theorem ahead_at (ns : List Int) : ∀ k < 5, (aheadL ns)[k]? = some ((parOf ns).Aa k : Int) := by
  intro k hk
  rcases lt5 hk with rfl | rfl | rfl | rfl | rfl <;> first | rfl | exact some_nat (Int.fmod_nonneg_of_pos _ (by decide))
theorem behind_at (ns : List Int) : ∀ k < 5, (behindL ns)[k]? = some ((parOf ns).Bh k : Int) := by
  intro k hk
  rcases lt5 hk with rfl | rfl | rfl | rfl | rfl <;> first | rfl | exact some_nat (Int.fmod_nonneg_of_pos _ (by decide))
noncomputable abbrev needL (as bs : List Int) : List Int := (List.range 5).map fun (i : Nat) => as.getD (0 + (i : Int)).toNat 0 + bs.getD (0 + (i : Int)).toNat 0
theorem need_at (ns : List Int) : ∀ k < 5, (needL (aheadL ns) (behindL ns))[k]? = some (((parOf ns).Aa k + (parOf ns).Bh k : Nat) : Int) := by
  intro k hk
  have e : (0 + (k : Int)).toNat = k := by omega
  rw [List.getElem?_map, List.getElem?_range hk]
  show some ((aheadL ns).getD (0 + (k : Int)).toNat 0 + (behindL ns).getD (0 + (k : Int)).toNat 0) = _
  rw [e, List.getD_eq_getElem?_getD, List.getD_eq_getElem?_getD, ahead_at ns k hk, behind_at ns k hk]
  show some (((parOf ns).Aa k : Int) + ((parOf ns).Bh k : Int)) = _
  rw [← Int.natCast_add]
theorem given_at (ns : List Int) : ∀ k < 5, ∃ z, [givenOf ns 0, givenOf ns 1, givenOf ns 2, givenOf ns 3, givenOf ns 4][k]? = some z ∧ (parOf ns).cs k = decide (z.fdiv 2250 ≠ 0) ∧ (parOf ns).bs k = decide ((z.fdiv 1125).fmod 2 ≠ 0) ∧ 0 ≤ z ∧ z < 4500 := by
  intro k hk
  rcases lt5 hk with rfl | rfl | rfl | rfl | rfl <;> exact ⟨_, rfl, rfl, rfl, givenOf_bd ns _⟩
theorem told_at {q : ToldP} {V : Nat → List Nat} (I : ToldF q (fun k => castL (V k))) : ∀ k < 5, ∃ a v n, [Value.ref q.a0, .ref q.a1, .ref q.a2, .ref q.a3, .ref q.a4][k]? = some (.ref a) ∧ (a, W.listOf v.toArray n) ∈ toldNews q ∧ IntsAre v (castL (V k)) := by
  intro k hk
  rcases lt5 hk with rfl | rfl | rfl | rfl | rfl
  · exact ⟨_, _, _, rfl, List.mem_of_getElem? (i := 1) rfl, I.i0⟩
  · exact ⟨_, _, _, rfl, List.mem_of_getElem? (i := 2) rfl, I.i1⟩
  · exact ⟨_, _, _, rfl, List.mem_of_getElem? (i := 3) rfl, I.i2⟩
  · exact ⟨_, _, _, rfl, List.mem_of_getElem? (i := 4) rfl, I.i3⟩
  · exact ⟨_, _, _, rfl, List.mem_of_getElem? (i := 5) rfl, I.i4⟩
theorem ints5 {v : List Value} {a b c d e : Int} (h : IntsAre v [a, b, c, d, e]) : ∃ t0 t1 t2 t3 t4, v = [.int a t0, .int b t1, .int c t2, .int d t3, .int e t4] := by
  obtain _ | ⟨_, t0, h⟩ := h
  obtain _ | ⟨_, t1, h⟩ := h
  obtain _ | ⟨_, t2, h⟩ := h
  obtain _ | ⟨_, t3, h⟩ := h
  obtain _ | ⟨_, t4, h⟩ := h
  obtain _ | _ := h
  exact ⟨t0, t1, t2, t3, t4, rfl⟩
/-- the law's own cells and the code's table -/
noncomputable abbrev cellsA (L : Addr) : List Addr := [L + 1 + 1 + 1 + 1 + 1 + 1 + 1 + 1, L + 1 + 1 + 1 + 1 + 1 + 1 + 1, L + 1 + 1 + 1 + 1 + 1 + 1, L + 1 + 1 + 1 + 1 + 1, L + 1 + 1 + 1 + 1, L + 1 + 1, 224]
theorem cells_lt {L d : Nat} (l0 : @LT.lt Nat _ 224 L) (h : @LT.lt Nat _ (L + 1 + 1 + 1 + 1 + 1 + 1 + 1 + 1) d) : ∀ a ∈ cellsA L, @Ne Nat a d := by
  intro a ha
  simp only [List.mem_cons, List.not_mem_nil, or_false] at ha
  rcases ha with rfl | rfl | rfl | rfl | rfl | rfl | rfl <;> omega
theorem cells_far {L : Nat} {d : Addr} {bs : List Addr} (l0 : @LT.lt Nat _ 224 L) (h : @LT.lt Nat _ (L + 1 + 1 + 1 + 1 + 1 + 1 + 1 + 1) d) (t : FarE (cellsA L) bs) : FarE (cellsA L) (d :: bs) := farE_tup t (cells_lt l0 h)
theorem cells_one {L : Nat} {x d : Addr} {bs : List Addr} (h : FarE (x :: cellsA L) [d]) (t : FarE (cellsA L) bs) : FarE (cellsA L) (d :: bs) := farE_tup t fun a ha => h a (List.mem_cons_of_mem _ ha) d List.mem_cons_self
theorem ltA_cells {L : Nat} {d : Addr} {as bs : List Addr} (h : LtA d as) (hs : Sub (cellsA L) as) (t : FarE (cellsA L) bs) : FarE (cellsA L) (d :: bs) := farE_tup t fun a ha => Nat.ne_of_lt (h a (hs a ha))
theorem farT_add {as : List Addr} {a : Addr} {o : Obj} {U : List (Addr × Obj)} (h : ∀ b ∈ as, @Ne Nat b a) (t : FarT as U) : FarT as ((a, o) :: U) := fun b hb q hq => by
  rcases List.mem_cons.mp hq with rfl | hq
  · exact h b hb
  · exact t b hb q hq
theorem farT_A {as : List Addr} {U : List (Addr × Obj)} {bs : List Addr} (h : FarA bs as) (hs : Sub (U.map (·.1)) bs) : FarT as U := fun a ha q hq => Ne.symm (h q.1 (hs _ (List.mem_map_of_mem hq)) a ha)
theorem farT_ap {as : List Addr} {ts st : List (Addr × Obj)} (h : ApT ts st) (hs : Sub as (st.map (·.1))) : FarT as ts := fun a ha => by
  obtain ⟨q, hq, rfl⟩ := List.mem_map.mp (hs a ha)
  exact h q hq
theorem off_all {D : Addr} {as : List Addr} {U : List (Addr × Obj)} (h : OffT D U) (hs : Sub as (U.map (·.1))) : ∀ b ∈ as, @Ne Nat b D := fun b hb => by
  obtain ⟨q, hq, rfl⟩ := List.mem_map.mp (hs b hb)
  exact Ne.symm (h q hq)
theorem farT_far {as : List Addr} {bs : List Addr} {st : List (Addr × Obj)} (h : FarT as st) (hs : Sub bs (st.map (·.1))) : FarA as bs := fun a ha b hb => by
  obtain ⟨q, hq, rfl⟩ := List.mem_map.mp (hs b hb)
  exact h a ha q hq
theorem farT_two {as bs : List Addr} {U : List (Addr × Obj)} (h1 : FarT as U) (h2 : FarT bs U) : FarT (as ++ bs) U := fun a ha => (List.mem_append.mp ha).elim (h1 a) (h2 a)
theorem map_app {a b : List (Addr × Obj)} : Sub (a.map (·.1)) ((a ++ b).map (·.1)) := fun p hp => by rw [List.map_append]; exact List.mem_append_left _ hp
theorem sub_appR {α : Type} {a b c : List α} (h : Sub a c) : Sub a (b ++ c) := fun p hp => List.mem_append_right _ (h p hp)
theorem sub_appL {α : Type} {a b c : List α} (h : Sub a b) : Sub a (b ++ c) := fun p hp => List.mem_append_left _ (h p hp)
theorem sub_map {a b : List (Addr × Obj)} (h : Sub a b) : Sub (a.map (·.1)) (b.map (·.1)) := fun p hp => by
  obtain ⟨q, hq, rfl⟩ := List.mem_map.mp hp
  exact List.mem_map_of_mem (h q hq)
theorem sub_last {l1 r1 : Addr × Obj} {hN ts lN e : List (Addr × Obj)} : Sub (lN ++ (hN ++ (l1 :: (ts ++ r1 :: e)))) (l1 :: (hN ++ (ts ++ (r1 :: (lN ++ e))))) := fun p hp => by
  simp only [List.mem_append, List.mem_cons] at hp ⊢
  rcases hp with h | h | h | h | h | h
  · exact .inr (.inr (.inr (.inr (.inl h))))
  · exact .inr (.inl h)
  · exact .inl h
  · exact .inr (.inr (.inl h))
  · exact .inr (.inr (.inr (.inl h)))
  · exact .inr (.inr (.inr (.inr (.inr h))))
section
variable {w : World} {A : Around} {base g : Heap} {fr : List Env} {mg mb : Str → Option Value} {p : Program} {loose : List Str} {mean : ExcName → Option Value} {s : Shared} {L fa : Addr} {cd : Value} {m : Str → Option Value} {Q : Flow → Shared → Prop} {E : Value → Shared → Prop} {rest : List Stmt}
  (B : Below A base fr g) (X : Frag.In (hd.heap_39 w.params) g) (T : Top p loose mean mg mb g)
include B X T
end
namespace Claw_d
noncomputable def Sta (w : World) (A : Around) (base g : Heap) (fr : List Env) (mg mb : Str → Option Value) (p : Program) (loose : List Str) (mean : ExcName → Option Value) (s : Shared) (L fa : Addr) (cd : Value) (m : Str → Option Value) (Q : Flow → Shared → Prop) (E : Value → Shared → Prop) (q : ToldP) (P : Par) (gD nD aD bD nd : Addr) (ndv nv av bv gv : List Value) (as bs gs need : List Int) (d2 d4 d5 c6 c7 c8 : Obj) (v6 v7 v8 : Option Value) : Prop := ∀ (B : Below A base fr g) (X : Frag.In (hd.heap_39 w.params) g) (T : Top p loose mean mg mb g) (O : ParOk P) (R : ReadOk P (remOf P) (linOf P)) (hE : PassesOwn (model Challenge.rw_st0024_01.row.prog w) (A.deeper (lawEnv L fa cd)) (lawEnv L fa cd) E) (hh : A.handled = none) (hroom : A.depth + 60 < recursionLimit) (hu : A.units + 600 < cLine) (C : CodeHd base 228 224) (hnv : StrsAre nv [Str.ofString "a", Str.ofString "B c", Str.ofString "\"", Str.ofString "\\", Str.ofString "#"]) (hav : IntsAre av as) (hbv : IntsAre bv bs) (hgv : IntsAre gv gs) (hndv : IntsAre ndv need) (hn5 : need.length = 5) (hAt : ∀ k < 5, as[k]? = some (P.Aa k : Int)) (hBt : ∀ k < 5, bs[k]? = some (P.Bh k : Int)) (hNt : ∀ k < 5, need[k]? = some ((P.Aa k + P.Bh k : Nat) : Int)) (hGt : ∀ k < 5, ∃ z, gs[k]? = some z ∧ P.cs k = decide (z.fdiv 2250 ≠ 0) ∧ P.bs k = decide ((z.fdiv 1125).fmod 2 ≠ 0) ∧ 0 ≤ z ∧ z < 4500) (I : ToldF q (fun k => castL (P.Vn k))) (ed2 : d2.data = .cell (some (.ref nD))) (ed4 : d4.data = .cell (some (.ref aD))) (ed5 : d5.data = .cell (some (.ref bD))) (e6 : c6.data = .cell v6) (e7 : c7.data = .cell v7) (e8 : c8.data = .cell v8) (l0 : @LT.lt Nat _ 224 L) (fd : FarE (cellsA L) [bD, aD, gD, nD, nd, q.tl, q.a0, q.a1, q.a2, q.a3, q.a4]) (F3 : Fr g L s.heap m) (hm3 : ∀ p ∈ [(Str.ofString "told", Value.ref q.tl), (Str.ofString "need", Value.ref nd), (Str.ofString "given", Value.ref gD)], m p.1 = some p.2) (N3 : News g L s.heap ((L + 1 + 1 + 1 + 1 + 1 + 1, c6) :: dTail q L nd bD aD gD nD ndv bv av gv nv c8 c7 d5 d4 d2)) (h : ∀ h' tk m' ps, Fr g L h' m' → News g L h' [(224, tabObj ps)] → Q (.ret (.bool true)) { s with heap := h', toks := tk }), wpAny (model Challenge.rw_st0024_01.row.prog w) (A.deeper (lawEnv L fa cd)) (execs [st7s.1, st8s.1, st9s.1, st10s.1, st11s.1, st12s.1, st13s.1, st14s.1, st15s.1, st16s.1] (lawEnv L fa cd)) Q E s
noncomputable def P0 (z : World × Around × Heap × Heap × (List Env) × (Str → Option Value) × (Str → Option Value) × Program × (List Str) × (ExcName → Option Value) × Shared × Addr × Addr × Value × (Str → Option Value) × (Flow → Shared → Prop) × (Value → Shared → Prop) × ToldP × Par × Addr × Addr × Addr × Addr × Addr × (List Value) × (List Value) × (List Value) × (List Value) × (List Value) × (List Int) × (List Int) × (List Int) × (List Int) × Obj × Obj × Obj × Obj × Obj × Obj × (Option Value) × (Option Value) × (Option Value)) : Prop := Sta (z.1) (z.2.1) (z.2.2.1) (z.2.2.2.1) (z.2.2.2.2.1) (z.2.2.2.2.2.1) (z.2.2.2.2.2.2.1) (z.2.2.2.2.2.2.2.1) (z.2.2.2.2.2.2.2.2.1) (z.2.2.2.2.2.2.2.2.2.1) (z.2.2.2.2.2.2.2.2.2.2.1) (z.2.2.2.2.2.2.2.2.2.2.2.1) (z.2.2.2.2.2.2.2.2.2.2.2.2.1) (z.2.2.2.2.2.2.2.2.2.2.2.2.2.1) (z.2.2.2.2.2.2.2.2.2.2.2.2.2.2.1) (z.2.2.2.2.2.2.2.2.2.2.2.2.2.2.2.1) (z.2.2.2.2.2.2.2.2.2.2.2.2.2.2.2.2.1) (z.2.2.2.2.2.2.2.2.2.2.2.2.2.2.2.2.2.1) (z.2.2.2.2.2.2.2.2.2.2.2.2.2.2.2.2.2.2.1) (z.2.2.2.2.2.2.2.2.2.2.2.2.2.2.2.2.2.2.2.1) (z.2.2.2.2.2.2.2.2.2.2.2.2.2.2.2.2.2.2.2.2.1) (z.2.2.2.2.2.2.2.2.2.2.2.2.2.2.2.2.2.2.2.2.2.1) (z.2.2.2.2.2.2.2.2.2.2.2.2.2.2.2.2.2.2.2.2.2.2.1) (z.2.2.2.2.2.2.2.2.2.2.2.2.2.2.2.2.2.2.2.2.2.2.2.1) (z.2.2.2.2.2.2.2.2.2.2.2.2.2.2.2.2.2.2.2.2.2.2.2.2.1) (z.2.2.2.2.2.2.2.2.2.2.2.2.2.2.2.2.2.2.2.2.2.2.2.2.2.1) (z.2.2.2.2.2.2.2.2.2.2.2.2.2.2.2.2.2.2.2.2.2.2.2.2.2.2.1) (z.2.2.2.2.2.2.2.2.2.2.2.2.2.2.2.2.2.2.2.2.2.2.2.2.2.2.2.1) (z.2.2.2.2.2.2.2.2.2.2.2.2.2.2.2.2.2.2.2.2.2.2.2.2.2.2.2.2.1) (z.2.2.2.2.2.2.2.2.2.2.2.2.2.2.2.2.2.2.2.2.2.2.2.2.2.2.2.2.2.1) (z.2.2.2.2.2.2.2.2.2.2.2.2.2.2.2.2.2.2.2.2.2.2.2.2.2.2.2.2.2.2.1) (z.2.2.2.2.2.2.2.2.2.2.2.2.2.2.2.2.2.2.2.2.2.2.2.2.2.2.2.2.2.2.2.1) (z.2.2.2.2.2.2.2.2.2.2.2.2.2.2.2.2.2.2.2.2.2.2.2.2.2.2.2.2.2.2.2.2.1) (z.2.2.2.2.2.2.2.2.2.2.2.2.2.2.2.2.2.2.2.2.2.2.2.2.2.2.2.2.2.2.2.2.2.1) (z.2.2.2.2.2.2.2.2.2.2.2.2.2.2.2.2.2.2.2.2.2.2.2.2.2.2.2.2.2.2.2.2.2.2.1) (z.2.2.2.2.2.2.2.2.2.2.2.2.2.2.2.2.2.2.2.2.2.2.2.2.2.2.2.2.2.2.2.2.2.2.2.1) (z.2.2.2.2.2.2.2.2.2.2.2.2.2.2.2.2.2.2.2.2.2.2.2.2.2.2.2.2.2.2.2.2.2.2.2.2.1) (z.2.2.2.2.2.2.2.2.2.2.2.2.2.2.2.2.2.2.2.2.2.2.2.2.2.2.2.2.2.2.2.2.2.2.2.2.2.1) (z.2.2.2.2.2.2.2.2.2.2.2.2.2.2.2.2.2.2.2.2.2.2.2.2.2.2.2.2.2.2.2.2.2.2.2.2.2.2.1) (z.2.2.2.2.2.2.2.2.2.2.2.2.2.2.2.2.2.2.2.2.2.2.2.2.2.2.2.2.2.2.2.2.2.2.2.2.2.2.2.1) (z.2.2.2.2.2.2.2.2.2.2.2.2.2.2.2.2.2.2.2.2.2.2.2.2.2.2.2.2.2.2.2.2.2.2.2.2.2.2.2.2.1) (z.2.2.2.2.2.2.2.2.2.2.2.2.2.2.2.2.2.2.2.2.2.2.2.2.2.2.2.2.2.2.2.2.2.2.2.2.2.2.2.2.2)
noncomputable def Z := @Classical.epsilon _ ⟨(w00, A00, default, default, [], (fun _ => none), (fun _ => none), default, [], (fun _ => none), s00, 0, 0, .none, (fun _ => none), (fun _ _ => True), (fun _ _ => True), told00, par00, 0, 0, 0, 0, 0, [], [], [], [], [], [], [], [], [], default, default, default, default, default, default, none, none, none)⟩ fun z => ¬ P0 z
@[irreducible] noncomputable def w := Z.1
@[irreducible] noncomputable def A := Z.2.1
@[irreducible] noncomputable def base := Z.2.2.1
@[irreducible] noncomputable def g := Z.2.2.2.1
@[irreducible] noncomputable def fr := Z.2.2.2.2.1
@[irreducible] noncomputable def mg := Z.2.2.2.2.2.1
@[irreducible] noncomputable def mb := Z.2.2.2.2.2.2.1
@[irreducible] noncomputable def p := Z.2.2.2.2.2.2.2.1
@[irreducible] noncomputable def loose := Z.2.2.2.2.2.2.2.2.1
@[irreducible] noncomputable def mean := Z.2.2.2.2.2.2.2.2.2.1
@[irreducible] noncomputable def s := Z.2.2.2.2.2.2.2.2.2.2.1
@[irreducible] noncomputable def L := Z.2.2.2.2.2.2.2.2.2.2.2.1
@[irreducible] noncomputable def fa := Z.2.2.2.2.2.2.2.2.2.2.2.2.1
@[irreducible] noncomputable def cd := Z.2.2.2.2.2.2.2.2.2.2.2.2.2.1
@[irreducible] noncomputable def m := Z.2.2.2.2.2.2.2.2.2.2.2.2.2.2.1
@[irreducible] noncomputable def Q := Z.2.2.2.2.2.2.2.2.2.2.2.2.2.2.2.1
@[irreducible] noncomputable def E := Z.2.2.2.2.2.2.2.2.2.2.2.2.2.2.2.2.1
@[irreducible] noncomputable def q := Z.2.2.2.2.2.2.2.2.2.2.2.2.2.2.2.2.2.1
@[irreducible] noncomputable def P := Z.2.2.2.2.2.2.2.2.2.2.2.2.2.2.2.2.2.2.1
@[irreducible] noncomputable def gD := Z.2.2.2.2.2.2.2.2.2.2.2.2.2.2.2.2.2.2.2.1
@[irreducible] noncomputable def nD := Z.2.2.2.2.2.2.2.2.2.2.2.2.2.2.2.2.2.2.2.2.1
@[irreducible] noncomputable def aD := Z.2.2.2.2.2.2.2.2.2.2.2.2.2.2.2.2.2.2.2.2.2.1
@[irreducible] noncomputable def bD := Z.2.2.2.2.2.2.2.2.2.2.2.2.2.2.2.2.2.2.2.2.2.2.1
@[irreducible] noncomputable def nd := Z.2.2.2.2.2.2.2.2.2.2.2.2.2.2.2.2.2.2.2.2.2.2.2.1
@[irreducible] noncomputable def ndv := Z.2.2.2.2.2.2.2.2.2.2.2.2.2.2.2.2.2.2.2.2.2.2.2.2.1
@[irreducible] noncomputable def nv := Z.2.2.2.2.2.2.2.2.2.2.2.2.2.2.2.2.2.2.2.2.2.2.2.2.2.1
@[irreducible] noncomputable def av := Z.2.2.2.2.2.2.2.2.2.2.2.2.2.2.2.2.2.2.2.2.2.2.2.2.2.2.1
@[irreducible] noncomputable def bv := Z.2.2.2.2.2.2.2.2.2.2.2.2.2.2.2.2.2.2.2.2.2.2.2.2.2.2.2.1
@[irreducible] noncomputable def gv := Z.2.2.2.2.2.2.2.2.2.2.2.2.2.2.2.2.2.2.2.2.2.2.2.2.2.2.2.2.1
@[irreducible] noncomputable def as := Z.2.2.2.2.2.2.2.2.2.2.2.2.2.2.2.2.2.2.2.2.2.2.2.2.2.2.2.2.2.1
@[irreducible] noncomputable def bs := Z.2.2.2.2.2.2.2.2.2.2.2.2.2.2.2.2.2.2.2.2.2.2.2.2.2.2.2.2.2.2.1
@[irreducible] noncomputable def gs := Z.2.2.2.2.2.2.2.2.2.2.2.2.2.2.2.2.2.2.2.2.2.2.2.2.2.2.2.2.2.2.2.1
@[irreducible] noncomputable def need := Z.2.2.2.2.2.2.2.2.2.2.2.2.2.2.2.2.2.2.2.2.2.2.2.2.2.2.2.2.2.2.2.2.1
@[irreducible] noncomputable def d2 := Z.2.2.2.2.2.2.2.2.2.2.2.2.2.2.2.2.2.2.2.2.2.2.2.2.2.2.2.2.2.2.2.2.2.1
@[irreducible] noncomputable def d4 := Z.2.2.2.2.2.2.2.2.2.2.2.2.2.2.2.2.2.2.2.2.2.2.2.2.2.2.2.2.2.2.2.2.2.2.1
@[irreducible] noncomputable def d5 := Z.2.2.2.2.2.2.2.2.2.2.2.2.2.2.2.2.2.2.2.2.2.2.2.2.2.2.2.2.2.2.2.2.2.2.2.1
@[irreducible] noncomputable def c6 := Z.2.2.2.2.2.2.2.2.2.2.2.2.2.2.2.2.2.2.2.2.2.2.2.2.2.2.2.2.2.2.2.2.2.2.2.2.1
@[irreducible] noncomputable def c7 := Z.2.2.2.2.2.2.2.2.2.2.2.2.2.2.2.2.2.2.2.2.2.2.2.2.2.2.2.2.2.2.2.2.2.2.2.2.2.1
@[irreducible] noncomputable def c8 := Z.2.2.2.2.2.2.2.2.2.2.2.2.2.2.2.2.2.2.2.2.2.2.2.2.2.2.2.2.2.2.2.2.2.2.2.2.2.2.1
@[irreducible] noncomputable def v6 := Z.2.2.2.2.2.2.2.2.2.2.2.2.2.2.2.2.2.2.2.2.2.2.2.2.2.2.2.2.2.2.2.2.2.2.2.2.2.2.2.1
@[irreducible] noncomputable def v7 := Z.2.2.2.2.2.2.2.2.2.2.2.2.2.2.2.2.2.2.2.2.2.2.2.2.2.2.2.2.2.2.2.2.2.2.2.2.2.2.2.2.1
@[irreducible] noncomputable def v8 := Z.2.2.2.2.2.2.2.2.2.2.2.2.2.2.2.2.2.2.2.2.2.2.2.2.2.2.2.2.2.2.2.2.2.2.2.2.2.2.2.2.2
set_option maxHeartbeats 4000000 in
theorem key : Sta w A base g fr mg mb p loose mean s L fa cd m Q E q P gD nD aD bD nd ndv nv av bv gv as bs gs need d2 d4 d5 c6 c7 c8 v6 v7 v8 := fun B X T O R hE hh hroom hu C hnv hav hbv hgv hndv hn5 hAt hBt hNt hGt I ed2 ed4 ed5 e6 e7 e8 l0 fd F3 hm3 N3 h => by
  have hTt := told_at I
  refine seg_d B X T O (c6 := c6) (c7 := c7) (c8 := c8) hE hh hroom hu C hnv hav hbv hgv hAt hBt hGt hTt ed2 ed4 ed5 e6 l0 fd F3 hm3 N3 ?_
  clear F3 N3 hm3 e6
  (tm_at "nmx8"; refine fun h4 tk4 wD wv wn d6 m4 tT => ?_)
  intro hwv ed6 lw F4 hm4 N4
  have fdw : FarE (cellsA L) [wD, bD, aD, gD, nD, nd, q.tl, q.a0, q.a1, q.a2, q.a3, q.a4] := ltA_cells lw (by k_extra "gs_sub") fd
  refine seg_e B X T O R (s := { s with heap := h4, toks := tk4 }) hE hh hroom hu C hwv ed6 e7 e8 l0 fdw F4 hm4 N4 ?_
  clear F4 N4 hm4 e7 e8 lw
  (tm_at "nmx12"; refine fun h5 tk5 lx u5 rD rv vs gn d7 d8 ps m5 => ?_)
  intro J hvs hrv ed7 ed8 fA F5 hm5 N5
  obtain ⟨eT, heT⟩ : ∃ eT, eT = eTail q L wD nd bD aD gD nD wv ndv bv av gv nv wn d7 d6 d5 d4 d2 ps := ⟨_, rfl⟩
  (revert eT; tm_at "nmx1"; refine fun eT => ?_; k_extra "kw")
  have k2 : (L + 1 + 1, d2) ∈ (eT : List (Addr × Obj)) := by rw [heT]; dsimp only [eTail, toldNews, List.cons_append, List.nil_append]; k_mem
  have k4 : (L + 1 + 1 + 1 + 1, d4) ∈ (eT : List (Addr × Obj)) := by rw [heT]; dsimp only [eTail, toldNews, List.cons_append, List.nil_append]; k_mem
  have k5 : (L + 1 + 1 + 1 + 1 + 1, d5) ∈ (eT : List (Addr × Obj)) := by rw [heT]; dsimp only [eTail, toldNews, List.cons_append, List.nil_append]; k_mem
  have k6 : (L + 1 + 1 + 1 + 1 + 1 + 1, (d6 : Obj)) ∈ (eT : List (Addr × Obj)) := by rw [heT]; dsimp only [eTail, toldNews, List.cons_append, List.nil_append]; k_mem
  have k7 : (L + 1 + 1 + 1 + 1 + 1 + 1 + 1, (d7 : Obj)) ∈ (eT : List (Addr × Obj)) := by rw [heT]; dsimp only [eTail, toldNews, List.cons_append, List.nil_append]; k_mem
  have kn : (nD, W.listOf nv.toArray 0) ∈ (eT : List (Addr × Obj)) := by rw [heT]; dsimp only [eTail, toldNews, List.cons_append, List.nil_append]; k_mem
  have ka : (aD, W.listOf av.toArray 0) ∈ (eT : List (Addr × Obj)) := by rw [heT]; dsimp only [eTail, toldNews, List.cons_append, List.nil_append]; k_mem
  have kb : (bD, W.listOf bv.toArray 0) ∈ (eT : List (Addr × Obj)) := by rw [heT]; dsimp only [eTail, toldNews, List.cons_append, List.nil_append]; k_mem
  have kww : ((wD : Addr), W.listOf (wv : List Value).toArray wn) ∈ (eT : List (Addr × Obj)) := by rw [heT]; dsimp only [eTail, toldNews, List.cons_append, List.nil_append]; k_mem
  have kd : (nd, W.listOf ndv.toArray ndv.length) ∈ (eT : List (Addr × Obj)) := by rw [heT]; dsimp only [eTail, toldNews, List.cons_append, List.nil_append]; k_mem
  have k24 : (224, tabObj (ps : Array Value)) ∈ (eT : List (Addr × Obj)) := by rw [heT]; dsimp only [eTail, toldNews, List.cons_append, List.nil_append]; k_mem
  have kV : Sub (toldNews q) eT := by rw [heT]; dsimp only [eTail, toldNews, List.cons_append, List.nil_append]; k_extra "gs_sub"
  have fT : FarT (lexA lx) (((rD : Addr), W.listOf (rv : List Value).toArray (rv : List Value).length) :: (L + 1 + 1 + 1 + 1 + 1 + 1 + 1 + 1, (d8 : Obj)) :: eT) := by
    refine farT_A fA ?_
    rw [heT]
    dsimp only [eTail, toldNews, List.cons_append, List.nil_append, List.map]; k_extra "gs_sub"
  rw [← heT] at N5
  clear heT fA fdw fd
  obtain ⟨st, hst⟩ : ∃ st, st = ((rD : Addr), W.listOf (rv : List Value).toArray (rv : List Value).length) :: (lexNews w lx (linOf P 20) u5 [] 0 vs gn ++ (L + 1 + 1 + 1 + 1 + 1 + 1 + 1 + 1, (d8 : Obj)) :: eT) := ⟨_, rfl⟩
  (revert st; tm_at "nmx1"; refine fun st => ?_; k_extra "kw")
  have sE : Sub (eT : List (Addr × Obj)) (st : List (Addr × Obj)) := by rw [hst]; exact Sub.tail (sub_appR (Sub.tail Sub.rfl'))
  have s8 : (L + 1 + 1 + 1 + 1 + 1 + 1 + 1 + 1, (d8 : Obj)) ∈ (st : List (Addr × Obj)) := by rw [hst]; exact List.mem_cons_of_mem _ (List.mem_append_right _ List.mem_cons_self)
  have sr : ((rD : Addr), W.listOf (rv : List Value).toArray (rv : List Value).length) ∈ (st : List (Addr × Obj)) := by rw [hst]; exact List.mem_cons_self
  have sX : Sub (lexA lx) ((st : List (Addr × Obj)).map (·.1)) := by rw [hst]; exact subAt [1, 2, 3, 4, 5, 6, 7, 8, 9] rfl
  rw [← hst] at N5
  refine seg_f B X T O (s := { s with heap := h5, toks := tk5 }) hE hh hroom hu C hrv hnv ed2 ed8 (sE _ k2) s8 sr (sE _ kn) l0 F5 hm5 (names_1 (ns := [Str.ofString "told", Str.ofString "need", Str.ofString "given"]) rfl (by decide +kernel)) N5 ?_
  clear F5 hm5 N5
  (tm_at "nmx10"; refine fun h6 tk6 x d l t n refs ts m6 => ?_)
  intro F6 hm6 hTs f1 f2 aT hne N6
  obtain ⟨U, hU⟩ : ∃ U, U = hdrNews w x d l t refs n ++ (ts ++ st) := ⟨_, rfl⟩
  (revert U; tm_at "nmx1"; refine fun U => ?_; k_extra "kw")
  have uS : Sub (st : List (Addr × Obj)) (U : List (Addr × Obj)) := by rw [hU]; exact sub_appR (sub_appR Sub.rfl')
  have uH : Sub [x, d, l] ((U : List (Addr × Obj)).map (·.1)) := by rw [hU]; exact subAt [0, 1, 2] rfl
  have uT : Sub (ts : List (Addr × Obj)) (U : List (Addr × Obj)) := by rw [hU]; exact sub_appR (sub_appL Sub.rfl')
  rw [← hU] at N6
  refine seg_g B X T (s := { s with heap := h6, toks := tk6 }) (U := U) (nn := ndv.length) (fs := [(Str.ofString "table", Value.ref x)]) hE hh hroom hu C I hndv hn5 ?_ F6 (hm_sub hm6 (subAt [1, 2, 0] rfl)) (names_1 (ns := [Str.ofString "table"]) rfl (by decide +kernel)) N6 ?_
  · intro p hp
    rcases List.mem_append.mp hp with hp | hp
    · exact uS _ (sE _ (kV _ hp))
    · rw [List.mem_singleton.mp hp]; exact uS _ (sE _ kd)
  clear F6 hm6 N6
  (tm_at "nmx5"; refine fun h7 tk7 lD lv m7 => ?_)
  intro F7 hm7 hlv oD N7
  have oA : FarA [x, d, l] (lexA lx) := farT_far f2 sX
  have oX : FarT [x, d, l] (((lD : Addr), W.listOf (lv : List Value).toArray (lv : List Value).length) :: (ts ++ (((rD : Addr), W.listOf (rv : List Value).toArray (rv : List Value).length) :: (L + 1 + 1 + 1 + 1 + 1 + 1 + 1 + 1, (d8 : Obj)) :: eT))) :=
    farT_add (off_all oD uH) (tail_two f1 (farT_sub f2 Sub.rfl' (by rw [hst]; exact Sub.cons List.mem_cons_self (Sub.tail (sub_appR Sub.rfl')))))
  have oL : FarT (lexA lx) (((lD : Addr), W.listOf (lv : List Value).toArray (lv : List Value).length) :: (ts ++ (((rD : Addr), W.listOf (rv : List Value).toArray (rv : List Value).length) :: (L + 1 + 1 + 1 + 1 + 1 + 1 + 1 + 1, (d8 : Obj)) :: eT))) :=
    farT_add (off_all oD (fun p hp => sub_map uS p (sX p hp))) (tail_two (farT_ap aT sX) fT)
  have N8 : News g L h7 (lexNews w lx (linOf P 20) u5 [] 0 vs gn ++ (hdrNews w x d l t refs n ++ (((lD : Addr), W.listOf (lv : List Value).toArray (lv : List Value).length) :: (ts ++ (((rD : Addr), W.listOf (rv : List Value).toArray (rv : List Value).length) :: (L + 1 + 1 + 1 + 1 + 1 + 1 + 1 + 1, (d8 : Obj)) :: eT))))) := News.sub' N7 (by rw [hU, hst]; exact sub_last)
  clear N7
  have hU' : ∃ U', U' = ((lD : Addr), W.listOf (lv : List Value).toArray (lv : List Value).length) :: (ts ++ (((rD : Addr), W.listOf (rv : List Value).toArray (rv : List Value).length) :: (L + 1 + 1 + 1 + 1 + 1 + 1 + 1 + 1, (d8 : Obj)) :: eT)) := ⟨_, rfl⟩
  obtain ⟨U', hU'⟩ := hU'
  (revert U'; tm_at "nmx1"; refine fun U' => ?_; k_extra "kw")
  have u1 : ((lD : Addr), W.listOf (lv : List Value).toArray (lv : List Value).length) ∈ (U' : List (Addr × Obj)) := by rw [hU']; exact List.mem_cons_self
  have u2 : Sub (ts : List (Addr × Obj)) (U' : List (Addr × Obj)) := by rw [hU']; exact Sub.tail (sub_appL Sub.rfl')
  have u3 : ((rD : Addr), W.listOf (rv : List Value).toArray (rv : List Value).length) ∈ (U' : List (Addr × Obj)) := by rw [hU']; exact List.mem_cons_of_mem _ (List.mem_append_right _ List.mem_cons_self)
  have u4 : (L + 1 + 1 + 1 + 1 + 1 + 1 + 1 + 1, (d8 : Obj)) ∈ (U' : List (Addr × Obj)) := by rw [hU']; exact List.mem_cons_of_mem _ (List.mem_append_right _ (List.mem_cons_of_mem _ List.mem_cons_self))
  have u5' : Sub (eT : List (Addr × Obj)) (U' : List (Addr × Obj)) := by rw [hU']; exact Sub.tail (sub_appR (Sub.tail (Sub.tail Sub.rfl')))
  rw [← hU'] at oX oL N8
  clear hU' hU hst uS uH uT sE s8 sr sX f1 f2 aT oD fT
  have q1 : FarT (x :: d :: l :: lexA lx) U' := farT_two oX oL
  have q2 : ∀ p ∈ [(Str.ofString "table", Value.ref x), (Str.ofString "told", Value.ref q.tl), (Str.ofString "need", Value.ref nd), (Str.ofString "least", Value.ref lD)], (m7 : Str → Option Value) p.1 = some p.2 := hm_sub hm7 (subAt [3, 1, 2, 0] rfl)
  have q3 := u5' _ k7
  have q4 := u5' _ k2
  have q5 := u5' _ kn
  have q6 := u5' _ k4
  have q7 := u5' _ ka
  have q8 := u5' _ k5
  have q9 := u5' _ kb
  have q10 := u5' _ k6
  have q11 := u5' _ kww
  have q12 : Sub (toldNews q) U' := fun p hp => u5' p (kV p hp)
  have q13 := u5' _ kd
  obtain ⟨ln0, hln⟩ : ∃ z, z = linOf P 20 := ⟨_, rfl⟩
  (revert ln0; tm_at "nmx1"; refine fun ln0 => ?_; k_extra "kw")
  have dot := R.dot
  rw [← hln] at N8 dot
  obtain ⟨sl, hsl⟩ : ∃ z, z = [st15s.1, st16s.1] := ⟨_, rfl⟩
  rw [← hsl]
  refine seg_i B X T O hsl (s := { s with heap := h7, toks := tk7 }) hE hh hroom hu C J hrv ed7 ed8 q3 u4 u3 hTs u2 q1 oA hnv ed2 q4 q5 hav hAt ed4 q6 q7 hbv hBt ed5 q8 q9 hwv ed6 q10 q11 I q12 q13 hndv hNt u1 hlv F7 q2 N8 ?_
  clear F7 hm7 N8
  (tm_at "nmx4"; refine fun h8 tk8 m8 pn => ?_)
  intro F8 N8
  clear hsl sl
  obtain ⟨sl, hsl⟩ : ∃ z, z = [st16s.1] := ⟨_, rfl⟩
  rw [← hsl]
  refine seg_k B X T hsl (s := { s with heap := h8, toks := tk8 }) (V := hdrNews w x d l t refs n ++ U') hE hh hroom hu C J ed7 (List.mem_append_right _ (u5' _ k7)) (List.mem_append_right _ (u5' _ k24)) ?_ hvs (R.one 20) (R.len 20) dot F8 N8 ?_
  · refine tail_two ?_ oL
    exact farT_A oA (by exact Sub.rfl')
  (tm_at "nmx3"; refine fun h9 tk9 m9 => ?_)
  intro F9 N9
  exact h h9 tk9 m9 ps F9 N9
theorem zeq : (w, A, base, g, fr, mg, mb, p, loose, mean, s, L, fa, cd, m, Q, E, q, P, gD, nD, aD, bD, nd, ndv, nv, av, bv, gv, as, bs, gs, need, d2, d4, d5, c6, c7, c8, v6, v7, v8) = Z := by with_unfolding_all rfl
end Claw_d
set_option maxHeartbeats 4000000 in
theorem law_d {w : World} {A : Around} {base g : Heap} {fr : List Env} {mg mb : Str → Option Value} {p : Program} {loose : List Str} {mean : ExcName → Option Value} {s : Shared} {L fa : Addr} {cd : Value} {m : Str → Option Value} {Q : Flow → Shared → Prop} {E : Value → Shared → Prop} {q : ToldP} {P : Par} {gD nD aD bD nd : Addr} {ndv nv av bv gv : List Value} {as bs gs need : List Int} {d2 d4 d5 c6 c7 c8 : Obj} {v6 v7 v8 : Option Value} : Claw_d.Sta w A base g fr mg mb p loose mean s L fa cd m Q E q P gD nD aD bD nd ndv nv av bv gv as bs gs need d2 d4 d5 c6 c7 c8 v6 v7 v8 :=
  hilb Claw_d.P0 Claw_d.Z rfl (Eq.subst (motive := Claw_d.P0) Claw_d.zeq Claw_d.key) (w, A, base, g, fr, mg, mb, p, loose, mean, s, L, fa, cd, m, Q, E, q, P, gD, nD, aD, bD, nd, ndv, nv, av, bv, gv, as, bs, gs, need, d2, d4, d5, c6, c7, c8, v6, v7, v8)
section
end
namespace Claw_c
noncomputable def Sta (w : World) (A : Around) (base g : Heap) (fr : List Env) (mg mb : Str → Option Value) (p : Program) (loose : List Str) (mean : ExcName → Option Value) (s : Shared) (L fa : Addr) (cd : Value) (m : Str → Option Value) (Q : Flow → Shared → Prop) (E : Value → Shared → Prop) (scr : Addr) (sv : List Value) (ns : List Int) (c1 c2 c3 c4 c5 c6 c7 c8 : Obj) (v2 v3 v4 v5 v6 v7 v8 : Option Value) : Prop := ∀ (B : Below A base fr g) (X : Frag.In (hd.heap_39 w.params) g) (T : Top p loose mean mg mb g) (F : Fr g L s.heap m) (hE : PassesOwn (model Challenge.rw_st0024_01.row.prog w) (A.deeper (lawEnv L fa cd)) (lawEnv L fa cd) E) (hh : A.handled = none) (hroom : A.depth + 60 < recursionLimit) (hu : A.units + 600 < cLine) (N : News g L s.heap [(L + 1 + 1 + 1 + 1 + 1 + 1 + 1 + 1, c8), (L + 1 + 1 + 1 + 1 + 1 + 1 + 1, c7), (L + 1 + 1 + 1 + 1 + 1 + 1, c6), (L + 1 + 1 + 1 + 1 + 1, c5), (L + 1 + 1 + 1 + 1, c4), (L + 1 + 1 + 1, c3), (L + 1 + 1, c2), (L + 1, c1), (224, tabObj #[])]) (e1 : c1.data = .cell (some (.ref scr))) (e2 : c2.data = .cell v2) (e3 : c3.data = .cell v3) (e4 : c4.data = .cell v4) (e5 : c5.data = .cell v5) (e6 : c6.data = .cell v6) (e7 : c7.data = .cell v7) (e8 : c8.data = .cell v8) (l0 : @LT.lt Nat _ 224 L) (C : CodeHd base 228 224) (hs : g.IsList scr sv.toArray) (hi : IntsAre sv ns) (hl : ns.length ≤ 63) (h : ∀ h' tk m' ps, Fr g L h' m' → News g L h' [(224, tabObj ps)] → Q (.ret (.bool true)) { s with heap := h', toks := tk }), wpAny (model Challenge.rw_st0024_01.row.prog w) (A.deeper (lawEnv L fa cd)) (execs [st0s.1, st1s.1, st2s.1, st3s.1, st4s.1, st5s.1, st6s.1, st7s.1, st8s.1, st9s.1, st10s.1, st11s.1, st12s.1, st13s.1, st14s.1, st15s.1, st16s.1] (lawEnv L fa cd)) Q E s
noncomputable def P0 (z : World × Around × Heap × Heap × (List Env) × (Str → Option Value) × (Str → Option Value) × Program × (List Str) × (ExcName → Option Value) × Shared × Addr × Addr × Value × (Str → Option Value) × (Flow → Shared → Prop) × (Value → Shared → Prop) × Addr × (List Value) × (List Int) × Obj × Obj × Obj × Obj × Obj × Obj × Obj × Obj × (Option Value) × (Option Value) × (Option Value) × (Option Value) × (Option Value) × (Option Value) × (Option Value)) : Prop := Sta (z.1) (z.2.1) (z.2.2.1) (z.2.2.2.1) (z.2.2.2.2.1) (z.2.2.2.2.2.1) (z.2.2.2.2.2.2.1) (z.2.2.2.2.2.2.2.1) (z.2.2.2.2.2.2.2.2.1) (z.2.2.2.2.2.2.2.2.2.1) (z.2.2.2.2.2.2.2.2.2.2.1) (z.2.2.2.2.2.2.2.2.2.2.2.1) (z.2.2.2.2.2.2.2.2.2.2.2.2.1) (z.2.2.2.2.2.2.2.2.2.2.2.2.2.1) (z.2.2.2.2.2.2.2.2.2.2.2.2.2.2.1) (z.2.2.2.2.2.2.2.2.2.2.2.2.2.2.2.1) (z.2.2.2.2.2.2.2.2.2.2.2.2.2.2.2.2.1) (z.2.2.2.2.2.2.2.2.2.2.2.2.2.2.2.2.2.1) (z.2.2.2.2.2.2.2.2.2.2.2.2.2.2.2.2.2.2.1) (z.2.2.2.2.2.2.2.2.2.2.2.2.2.2.2.2.2.2.2.1) (z.2.2.2.2.2.2.2.2.2.2.2.2.2.2.2.2.2.2.2.2.1) (z.2.2.2.2.2.2.2.2.2.2.2.2.2.2.2.2.2.2.2.2.2.1) (z.2.2.2.2.2.2.2.2.2.2.2.2.2.2.2.2.2.2.2.2.2.2.1) (z.2.2.2.2.2.2.2.2.2.2.2.2.2.2.2.2.2.2.2.2.2.2.2.1) (z.2.2.2.2.2.2.2.2.2.2.2.2.2.2.2.2.2.2.2.2.2.2.2.2.1) (z.2.2.2.2.2.2.2.2.2.2.2.2.2.2.2.2.2.2.2.2.2.2.2.2.2.1) (z.2.2.2.2.2.2.2.2.2.2.2.2.2.2.2.2.2.2.2.2.2.2.2.2.2.2.1) (z.2.2.2.2.2.2.2.2.2.2.2.2.2.2.2.2.2.2.2.2.2.2.2.2.2.2.2.1) (z.2.2.2.2.2.2.2.2.2.2.2.2.2.2.2.2.2.2.2.2.2.2.2.2.2.2.2.2.1) (z.2.2.2.2.2.2.2.2.2.2.2.2.2.2.2.2.2.2.2.2.2.2.2.2.2.2.2.2.2.1) (z.2.2.2.2.2.2.2.2.2.2.2.2.2.2.2.2.2.2.2.2.2.2.2.2.2.2.2.2.2.2.1) (z.2.2.2.2.2.2.2.2.2.2.2.2.2.2.2.2.2.2.2.2.2.2.2.2.2.2.2.2.2.2.2.1) (z.2.2.2.2.2.2.2.2.2.2.2.2.2.2.2.2.2.2.2.2.2.2.2.2.2.2.2.2.2.2.2.2.1) (z.2.2.2.2.2.2.2.2.2.2.2.2.2.2.2.2.2.2.2.2.2.2.2.2.2.2.2.2.2.2.2.2.2.1) (z.2.2.2.2.2.2.2.2.2.2.2.2.2.2.2.2.2.2.2.2.2.2.2.2.2.2.2.2.2.2.2.2.2.2)
noncomputable def Z := @Classical.epsilon _ ⟨(w00, A00, default, default, [], (fun _ => none), (fun _ => none), default, [], (fun _ => none), s00, 0, 0, .none, (fun _ => none), (fun _ _ => True), (fun _ _ => True), 0, [], [], default, default, default, default, default, default, default, default, none, none, none, none, none, none, none)⟩ fun z => ¬ P0 z
@[irreducible] noncomputable def w := Z.1
@[irreducible] noncomputable def A := Z.2.1
@[irreducible] noncomputable def base := Z.2.2.1
@[irreducible] noncomputable def g := Z.2.2.2.1
@[irreducible] noncomputable def fr := Z.2.2.2.2.1
@[irreducible] noncomputable def mg := Z.2.2.2.2.2.1
@[irreducible] noncomputable def mb := Z.2.2.2.2.2.2.1
@[irreducible] noncomputable def p := Z.2.2.2.2.2.2.2.1
@[irreducible] noncomputable def loose := Z.2.2.2.2.2.2.2.2.1
@[irreducible] noncomputable def mean := Z.2.2.2.2.2.2.2.2.2.1
@[irreducible] noncomputable def s := Z.2.2.2.2.2.2.2.2.2.2.1
@[irreducible] noncomputable def L := Z.2.2.2.2.2.2.2.2.2.2.2.1
@[irreducible] noncomputable def fa := Z.2.2.2.2.2.2.2.2.2.2.2.2.1
@[irreducible] noncomputable def cd := Z.2.2.2.2.2.2.2.2.2.2.2.2.2.1
@[irreducible] noncomputable def m := Z.2.2.2.2.2.2.2.2.2.2.2.2.2.2.1
@[irreducible] noncomputable def Q := Z.2.2.2.2.2.2.2.2.2.2.2.2.2.2.2.1
@[irreducible] noncomputable def E := Z.2.2.2.2.2.2.2.2.2.2.2.2.2.2.2.2.1
@[irreducible] noncomputable def scr := Z.2.2.2.2.2.2.2.2.2.2.2.2.2.2.2.2.2.1
@[irreducible] noncomputable def sv := Z.2.2.2.2.2.2.2.2.2.2.2.2.2.2.2.2.2.2.1
@[irreducible] noncomputable def ns := Z.2.2.2.2.2.2.2.2.2.2.2.2.2.2.2.2.2.2.2.1
@[irreducible] noncomputable def c1 := Z.2.2.2.2.2.2.2.2.2.2.2.2.2.2.2.2.2.2.2.2.1
@[irreducible] noncomputable def c2 := Z.2.2.2.2.2.2.2.2.2.2.2.2.2.2.2.2.2.2.2.2.2.1
@[irreducible] noncomputable def c3 := Z.2.2.2.2.2.2.2.2.2.2.2.2.2.2.2.2.2.2.2.2.2.2.1
@[irreducible] noncomputable def c4 := Z.2.2.2.2.2.2.2.2.2.2.2.2.2.2.2.2.2.2.2.2.2.2.2.1
@[irreducible] noncomputable def c5 := Z.2.2.2.2.2.2.2.2.2.2.2.2.2.2.2.2.2.2.2.2.2.2.2.2.1
@[irreducible] noncomputable def c6 := Z.2.2.2.2.2.2.2.2.2.2.2.2.2.2.2.2.2.2.2.2.2.2.2.2.2.1
@[irreducible] noncomputable def c7 := Z.2.2.2.2.2.2.2.2.2.2.2.2.2.2.2.2.2.2.2.2.2.2.2.2.2.2.1
@[irreducible] noncomputable def c8 := Z.2.2.2.2.2.2.2.2.2.2.2.2.2.2.2.2.2.2.2.2.2.2.2.2.2.2.2.1
@[irreducible] noncomputable def v2 := Z.2.2.2.2.2.2.2.2.2.2.2.2.2.2.2.2.2.2.2.2.2.2.2.2.2.2.2.2.1
@[irreducible] noncomputable def v3 := Z.2.2.2.2.2.2.2.2.2.2.2.2.2.2.2.2.2.2.2.2.2.2.2.2.2.2.2.2.2.1
@[irreducible] noncomputable def v4 := Z.2.2.2.2.2.2.2.2.2.2.2.2.2.2.2.2.2.2.2.2.2.2.2.2.2.2.2.2.2.2.1
@[irreducible] noncomputable def v5 := Z.2.2.2.2.2.2.2.2.2.2.2.2.2.2.2.2.2.2.2.2.2.2.2.2.2.2.2.2.2.2.2.1
@[irreducible] noncomputable def v6 := Z.2.2.2.2.2.2.2.2.2.2.2.2.2.2.2.2.2.2.2.2.2.2.2.2.2.2.2.2.2.2.2.2.1
@[irreducible] noncomputable def v7 := Z.2.2.2.2.2.2.2.2.2.2.2.2.2.2.2.2.2.2.2.2.2.2.2.2.2.2.2.2.2.2.2.2.2.1
@[irreducible] noncomputable def v8 := Z.2.2.2.2.2.2.2.2.2.2.2.2.2.2.2.2.2.2.2.2.2.2.2.2.2.2.2.2.2.2.2.2.2.2
set_option maxHeartbeats 4000000 in
theorem key : Sta w A base g fr mg mb p loose mean s L fa cd m Q E scr sv ns c1 c2 c3 c4 c5 c6 c7 c8 v2 v3 v4 v5 v6 v7 v8 := fun B X T F hE hh hroom hu N e1 e2 e3 e4 e5 e6 e7 e8 l0 C hs hi hl h => by
  have O := parOf_ok ns
  have hAt := ahead_at ns
  have hBt := behind_at ns
  have hGt := given_at ns
  have hNt := need_at ns
  have hR0 := cast_row (givenOf ns 0)
  have hR1 := cast_row (givenOf ns 1)
  have hR2 := cast_row (givenOf ns 2)
  have hR3 := cast_row (givenOf ns 3)
  have hR4 := cast_row (givenOf ns 4)
  obtain ⟨sl, hsl⟩ : ∃ z, z = [st0s.1, st1s.1, st2s.1, st3s.1, st4s.1, st5s.1, st6s.1, st7s.1, st8s.1, st9s.1, st10s.1, st11s.1, st12s.1, st13s.1, st14s.1, st15s.1, st16s.1] := ⟨_, rfl⟩
  rw [← hsl]
  refine seg_a B X T hsl F hh hroom hu N e1 e2 e3 e4 e5 e6 e7 e8 l0 C hs hi hl ?_
  clear F N e1 e2 e3 hs hi hl
  (tm_at "nmx5"; refine fun h1 tk1 nD nv gD => ?_)
  intro gv d2 hnv hgv ed2 l1 l2 F1 N1
  have hgv' := hgv
  obtain ⟨t0, t1, t2, t3, t4, rfl⟩ := ints5 hgv
  (revert d2 t0 t1 t2 t3 t4; tm_at "nmx1"; refine fun d2 => ?_; k_extra "kf"; tm_at "nmx5"; refine fun t0 t1 t2 t3 t4 => ?_; k_extra "kw")
  refine seg_b B X T (s := { s with heap := h1, toks := tk1 }) hh hroom hu (givenOf_bd ns 0) (givenOf_bd ns 1) (givenOf_bd ns 2) (givenOf_bd ns 3) (givenOf_bd ns 4) e4 e5 l0 l1 l2 F1 N1 ?_
  clear F1 N1 e4 e5
  (tm_at "nmx8"; refine fun h2 tk2 aD av bD bv d4 d5 => ?_)
  intro hav hbv ed4 ed5 la lb F2 N2
  refine seg_c B X T (s := { s with heap := h2, toks := tk2 }) hh hroom hu hav hbv rfl rfl ed4 ed5 l0 l1 l2 la lb F2 N2 ?_
  clear F2 N2
  (tm_at "nmx5"; refine fun h3 tk3 q nd ndv => ?_)
  intro hndv r0 r1 r2 r3 r4 fe F3 N3
  have I : ToldF q (fun k => castL ((parOf ns).Vn k)) := ⟨hR0 ▸ r0, hR1 ▸ r1, hR2 ▸ r2, hR3 ▸ r3, hR4 ▸ r4, fun k => Nat.le_of_eq (by rw [castL, List.length_map]; exact O.v3 k)⟩
  clear r0 r1 r2 r3 r4 hR0 hR1 hR2 hR3 hR4
  have fd : FarE (cellsA L) [bD, aD, gD, nD, nd, (q : ToldP).tl, (q : ToldP).a0, (q : ToldP).a1, (q : ToldP).a2, (q : ToldP).a3, (q : ToldP).a4] := cells_far l0 lb (cells_far l0 la (cells_one l2 (cells_far l0 l1 fe)))
  exact law_d B X T O (readOk O) (s := { s with heap := h3, toks := tk3 }) (c6 := c6) (c7 := c7) (c8 := c8) hE hh hroom hu C hnv hav hbv hgv' hndv rfl hAt hBt hNt hGt I ed2 ed4 ed5 e6 e7 e8 l0 fd F3 (by kst_all) (News.sub' N3 (by dsimp only [dTail, toldNews, List.cons_append, List.nil_append]; k_extra "gs_sub")) h
theorem zeq : (w, A, base, g, fr, mg, mb, p, loose, mean, s, L, fa, cd, m, Q, E, scr, sv, ns, c1, c2, c3, c4, c5, c6, c7, c8, v2, v3, v4, v5, v6, v7, v8) = Z := by with_unfolding_all rfl
end Claw_c
set_option maxHeartbeats 4000000 in
theorem law_c {w : World} {A : Around} {base g : Heap} {fr : List Env} {mg mb : Str → Option Value} {p : Program} {loose : List Str} {mean : ExcName → Option Value} {s : Shared} {L fa : Addr} {cd : Value} {m : Str → Option Value} {Q : Flow → Shared → Prop} {E : Value → Shared → Prop} {scr : Addr} {sv : List Value} {ns : List Int} {c1 c2 c3 c4 c5 c6 c7 c8 : Obj} {v2 v3 v4 v5 v6 v7 v8 : Option Value} : Claw_c.Sta w A base g fr mg mb p loose mean s L fa cd m Q E scr sv ns c1 c2 c3 c4 c5 c6 c7 c8 v2 v3 v4 v5 v6 v7 v8 :=
  hilb Claw_c.P0 Claw_c.Z rfl (Eq.subst (motive := Claw_c.P0) Claw_c.zeq Claw_c.key) (w, A, base, g, fr, mg, mb, p, loose, mean, s, L, fa, cd, m, Q, E, scr, sv, ns, c1, c2, c3, c4, c5, c6, c7, c8, v2, v3, v4, v5, v6, v7, v8)
section
end
end Mine

end Cls
set_option maxHeartbeats 8000000 in
theorem PySem.Challenge.cw_st0024_01_holds : PySem.Challenge.rw_st0024_01.Holds := by
  refine hd ?_
  k_go0
  all_goals (try k_fold)
  (rename Fr _ _ _ _ => F)
  (rename News _ _ _ _ => N)
  (rename Frag.In _ (ghostOf _ _) => X)
  (rename Top _ _ _ _ _ (ghostOf _ _) => T)
  (rename Below _ _ _ _ => B)
  (rename CellsAre _ _ _ => Y)
  refine' law_c B X T F ?hE rfl ?hr ?hu N ?e1 ?e2 ?e3 ?e4 ?e5 ?e6 ?e7 ?e8 ?l0 ?C ?hs ?hi ?hl ?h
  case hE => passes_own
  case hr => decide
  case hu => decide
  case e1 => assumption
  case e2 => assumption
  case e3 => assumption
  case e4 => assumption
  case e5 => assumption
  case e6 => assumption
  case e7 => assumption
  case e8 => assumption
  case l0 => omega
  case C => assumption
  case hs => assumption
  case hi => assumption
  case hl => omega
  case h =>
    intro h' tk' m' ps' F' N'
    k_steps

