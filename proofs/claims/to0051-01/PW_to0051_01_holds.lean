import PyProof.Rows.All
import KE.BitLaws
import Wide.All
import OpenK.AllK
import Wide.FinOn
import Lean
import PySem.Challenge.RW_to0051_01
set_option Elab.async false
set_option compiler.extract_closed false

section
open PySem PySem.W PyProof.Rows PySem.Calls
set_option maxRecDepth 100000
namespace Mine
abbrev pw : Program := PySem.Challenge.pw_to0051_01
def itemOf : Stmt → Option DefItem
  | .FunctionDef name params body _ _ _ scope _ _ pos => some ⟨name, params, body, scope, pos⟩
  | _ => none
def itemAt (k : Nat) : Option DefItem := (pw.main.body[k]?).bind itemOf

noncomputable def dB1 : DefItem := (⟨_, rfl⟩ : { d : DefItem // itemAt 2 = some d }).1
noncomputable def dB3 : DefItem := (⟨_, rfl⟩ : { d : DefItem // itemAt 4 = some d }).1
noncomputable def dC8 : DefItem := (⟨_, rfl⟩ : { d : DefItem // itemAt 6 = some d }).1
noncomputable def dC9 : DefItem := (⟨_, rfl⟩ : { d : DefItem // itemAt 8 = some d }).1
noncomputable def dEll : DefItem := (⟨_, rfl⟩ : { d : DefItem // itemAt 11 = some d }).1
noncomputable def dIter : DefItem := (⟨_, rfl⟩ : { d : DefItem // itemAt 13 = some d }).1
noncomputable def dStrip : DefItem := (⟨_, rfl⟩ : { d : DefItem // itemAt 14 = some d }).1
noncomputable def dSign : DefItem := (⟨_, rfl⟩ : { d : DefItem // itemAt 16 = some d }).1
noncomputable def dMark : DefItem := (⟨_, rfl⟩ : { d : DefItem // itemAt 17 = some d }).1
noncomputable def dMarks : DefItem := (⟨_, rfl⟩ : { d : DefItem // itemAt 18 = some d }).1
noncomputable def dLetter : DefItem := (⟨_, rfl⟩ : { d : DefItem // itemAt 19 = some d }).1
noncomputable def dItems : DefItem := (⟨_, rfl⟩ : { d : DefItem // itemAt 20 = some d }).1
noncomputable def dKnown : DefItem := (⟨_, rfl⟩ : { d : DefItem // itemAt 21 = some d }).1
noncomputable def dBegun : DefItem := (⟨_, rfl⟩ : { d : DefItem // itemAt 22 = some d }).1
noncomputable def dTold : DefItem := (⟨_, rfl⟩ : { d : DefItem // itemAt 23 = some d }).1
noncomputable def dLaw : DefItem := (⟨_, rfl⟩ : { d : DefItem // itemAt 24 = some d }).1
end Mine
end

section
open PySem PySem.W PyProof.Rows PySem.Calls
set_option maxRecDepth 100000
namespace Mine

/-- the heap has grown: all that stood stands as it was -/
def Ext (h h' : Heap) : Prop := ∀ b o, h.get? b = some o → h'.get? b = some o
theorem Ext.rfl' {h : Heap} : Ext h h := fun _ _ e => e
theorem Ext.trans {a b c : Heap} (x : Ext a b) (y : Ext b c) : Ext a c := fun p o e => y p o (x p o e)

/-- room for so many frames more -/
structure Room (A : Around) (k : Nat) : Prop where
  handled : A.handled = none
  depth : A.depth + k < recursionLimit
  units : A.units + 20 * k < cLine
theorem Room.lt {A : Around} {k : Nat} (R : Room A k) : A.depth < recursionLimit := by have := R.depth; omega
theorem Room.ult {A : Around} {k : Nat} (R : Room A k) : A.units < cLine := by have := R.units; omega
theorem Room.deeper {A : Around} {k : Nat} (R : Room A (k + 1)) (env : Env) : Room (A.deeper env) k :=
  ⟨R.handled, by have := R.depth; delta Around.deeper; dsimp only; omega, by have := R.units; delta Around.deeper; dsimp only; omega⟩
theorem Room.less {A : Around} {k j : Nat} (R : Room A k) (h : j ≤ k) : Room A j :=
  ⟨R.handled, by have := R.depth; omega, by have := R.units; omega⟩

/-- a def's function object -/
def Fn (d : DefItem) (h : Heap) (f : Addr) : Prop := ∃ o pm c' doc, h.get? f = some o ∧ o.data = .func (docDef d.name d.params d.body d.scope pm (.ref c') doc) ∧ h.CodeRec (.ref c') d.name
theorem Fn.ext {d : DefItem} {h h' : Heap} {f : Addr} (x : Fn d h f) (k : Ext h h') : Fn d h' f :=
  let ⟨o, pm, c', doc, a, b, c⟩ := x; ⟨o, pm, c', doc, k _ _ a, b, c.keeps k⟩

noncomputable def defs0 : List DefItem := [dB1, dB3, dC8, dC9, dEll, dIter, dStrip, dSign, dMark, dMarks, dLetter, dItems, dKnown, dBegun, dTold, dLaw]
def consts0 : List (Str × PyData) := [("ELLIPSIS_MARKER", .str "...")]
def names0 : List Str := ["law", "_law_told", "_law_begun", "_law_known", "_law_items", "_law_letter", "_law_marks", "_law_mark", "_law_sign", "_strip_quoted_realnames", "_iter_escaped_chars", "_ellipsis_match", "ELLIPSIS_MARKER", "in_table_c9", "c9_set", "in_table_c8", "c8_set", "map_table_b3", "b3_exceptions", "in_table_b1", "b1_set", "__name__"]

section
variable {prog : Program} {w : World} {M : Model} {A : Around} {E : Value → Shared → Prop} {s : Shared} {name : Str} {scope : Scope} {L a : Addr} {cd : Value}
  {N : Nat} {mg mb : Str → Option Value} {consts : List (Str × PyData)} {defs : List DefItem} {objs : List (Str × (Obj → Prop))} {names : List Str} {Q : Value → Shared → Prop}

theorem ldf {x : Str} {pos : Pos} {d : DefItem} (G : Glob N mg mb defs consts objs names s.heap) (hd' : d ∈ defs) (hn : d.name = x)
    (h : ∀ f, Fn d s.heap f → Q (.ref f) s)
    (hk : scope.kind = .function := by rfl) (hx : (envOf name scope L a cd).kindOf x = some .globalImplicit := by rfl)
    (hd : (x == ("__debug__" : Str)) = false := by decide) (hnd : d.params.defaults = [] := by rfl) : wpAny M A (eval (.Name x pos) (envOf name scope L a cd)) Q E s := by
  subst hn
  exact ld_def G hd' (fun f c' o pm doc h4 h5 h6 => h f ⟨o, pm, c', doc, h4, h5, h6⟩) hk hx hd hnd

theorem call_fn {d : DefItem} {f : Addr} {args : List Value} {binds : List (Str × Value)} {k : Nat} {Q E : Value → Shared → Prop} (R : Room A (k + 1)) (hf : Fn d s.heap f) (hlim : s.heap.NoLimit)
    (h : ∀ h₁ a cd, Fr s.heap s.heap.objs.size h₁ (fun x => binds.reverse.lookup x) → ∀ A' : Around, Room A' k →
      wpAny (model prog w) A' (execs d.body (envOf d.name d.scope s.heap.objs.size a cd))
        (fun fl s' => Q (match fl with | .ret v => v | _ => .none) s') (fun _ _ => False)
        { s with heap := h₁, toks := s.toks + binds.length })
    (hbind : ∀ pm cd doc, bindArgs (docDef d.name d.params d.body d.scope pm cd doc) ⟨args, []⟩ = pure binds)
    (hloc : ∀ x ∈ binds, d.scope.names.lookup x.1 = some .local)
    (hco : d.scope.isCoroutine = false := by rfl) (hgen : d.scope.isGenerator = false := by rfl) (hk : d.scope.kind = .function := by rfl)
    (hcell : ∀ x ∈ d.scope.names, x.2 ≠ .cell := by decide) :
    wpAny (model prog w) A (call (.ref f) args) Q E s := by
  obtain ⟨o, pm, c', doc, ho, hd, hc⟩ := hf
  refine wpAny_call (call_plain_ret R.lt ho hd hlim hc (hbind _ _ _) hloc (fun h₁ F => ?_) hco hgen hk hcell)
  exact wpAny_mono (h h₁ f _ F _ (R.deeper _)) (fun fl s' x => x) fun _ _ x => x.elim
end
end Mine
end

section
open PySem PySem.W PyProof.Rows PySem.Calls
set_option maxRecDepth 100000
namespace Mine

def retV : Flow → Value
  | .ret v => v
  | _ => .none

section
variable {prog : Program} {w : World} {M : Model} {A : Around} {E : Value → Shared → Prop} {env : Env}
  {h h₀ : Heap} {g : Array GenState} {d : Drawn} {tk : Nat} {o : OsState}
  {L a : Addr} {m : Str → Option Value} {news : List (Addr × Obj)} {name : Str} {scope : Scope} {cd : Value}

-- values
section
variable {Q : Value → Shared → Prop}
theorem cInt {i k pos} (H : ∀ t tk, Q (.int i t) ⟨h,g,d,tk,o⟩) : wpAny M A (eval (.Constant (.int i) k pos) env) Q E ⟨h,g,d,tk,o⟩ := wpAny_Constant_int (H _ _)
theorem cStr {x k pos} (H : ∀ t tk, Q (.str x t) ⟨h,g,d,tk,o⟩) : wpAny M A (eval (.Constant (.str x) k pos) env) Q E ⟨h,g,d,tk,o⟩ := wpAny_Constant_str (H _ _)
theorem cNone {k pos} (H : Q .none ⟨h,g,d,tk,o⟩) : wpAny M A (eval (.Constant .none k pos) env) Q E ⟨h,g,d,tk,o⟩ := wpAny_Constant_none H
theorem cBool {b k pos} (H : Q (.bool b) ⟨h,g,d,tk,o⟩) : wpAny M A (eval (.Constant (.bool b) k pos) env) Q E ⟨h,g,d,tk,o⟩ := wpAny_Constant_bool H

section
variable {i j : Int} {t u : Tok}
theorem aAdd (H : ∀ t tk, Q (.int (i + j) t) ⟨h,g,d,tk,o⟩) : wpAny (model prog w) A (binaryOp .Add (.int i t) (.int j u)) Q E ⟨h,g,d,tk,o⟩ := add_int (H _ _)
theorem aSub (H : ∀ t tk, Q (.int (i - j) t) ⟨h,g,d,tk,o⟩) : wpAny (model prog w) A (binaryOp .Sub (.int i t) (.int j u)) Q E ⟨h,g,d,tk,o⟩ := sub_int (H _ _)
theorem aMul (H : ∀ t tk, Q (.int (i * j) t) ⟨h,g,d,tk,o⟩) (hm : IntMulOk i j) : wpAny (model prog w) A (binaryOp .Mult (.int i t) (.int j u)) Q E ⟨h,g,d,tk,o⟩ := mul_int (H _ _) hm
theorem aMod (hb : j ≠ 0) (H : ∀ t tk, Q (.int (i.fmod j) t) ⟨h,g,d,tk,o⟩) : wpAny (model prog w) A (binaryOp .Mod (.int i t) (.int j u)) Q E ⟨h,g,d,tk,o⟩ := mod_int hb (H _ _)
theorem aDiv (hb : j ≠ 0) (hs : j.natAbs.log2 < 9000) (H : ∀ t tk, Q (.int (i.fdiv j) t) ⟨h,g,d,tk,o⟩) : wpAny (model prog w) A (binaryOp .FloorDiv (.int i t) (.int j u)) Q E ⟨h,g,d,tk,o⟩ := floordiv_int hb (H _ _) (.inl (PyProof.noPylong_of_log2 hs))
theorem aShr (hn : 0 ≤ j) (H : ∀ t tk, Q (.int (i.fdiv (2 ^ j.toNat)) t) ⟨h,g,d,tk,o⟩) : wpAny (model prog w) A (binaryOp .RShift (.int i t) (.int j u)) Q E ⟨h,g,d,tk,o⟩ := rshift_int hn (H _ _)
theorem aAnd (H : ∀ t tk, Q (.int (Builtin.bitAnd i j) t) ⟨h,g,d,tk,o⟩) : wpAny (model prog w) A (binaryOp .BitAnd (.int i t) (.int j u)) Q E ⟨h,g,d,tk,o⟩ := and_int (H _ _)
theorem aXor (H : ∀ t tk, Q (.int (Builtin.bitXor i j) t) ⟨h,g,d,tk,o⟩) : wpAny (model prog w) A (binaryOp .BitXor (.int i t) (.int j u)) Q E ⟨h,g,d,tk,o⟩ := xor_int (H _ _)
theorem aLt (H : Q (.bool (decide (i < j))) ⟨h,g,d,tk,o⟩) : wpAny (model prog w) A (compareOp .Lt (.int i t) (.int j u)) Q E ⟨h,g,d,tk,o⟩ := lt_int H
theorem aGt (H : Q (.bool (decide (j < i))) ⟨h,g,d,tk,o⟩) : wpAny (model prog w) A (compareOp .Gt (.int i t) (.int j u)) Q E ⟨h,g,d,tk,o⟩ := gt_int H
theorem aGe (H : Q (.bool (decide (j ≤ i))) ⟨h,g,d,tk,o⟩) : wpAny (model prog w) A (compareOp .GtE (.int i t) (.int j u)) Q E ⟨h,g,d,tk,o⟩ := ge_int H
theorem aEq (H : Q (.bool (i == j)) ⟨h,g,d,tk,o⟩) : wpAny (model prog w) A (compareOp .Eq (.int i t) (.int j u)) Q E ⟨h,g,d,tk,o⟩ := eq_int H
theorem aNe (H : Q (.bool (i != j)) ⟨h,g,d,tk,o⟩) : wpAny (model prog w) A (compareOp .NotEq (.int i t) (.int j u)) Q E ⟨h,g,d,tk,o⟩ := ne_int H
theorem iAdd (H : ∀ t tk, Q (.int (i + j) t) ⟨h,g,d,tk,o⟩) : wpAny (model prog w) A (inplaceOp .Add (.int i t) (.int j u)) Q E ⟨h,g,d,tk,o⟩ := iadd_int (H _ _)
theorem iSub (H : ∀ t tk, Q (.int (i - j) t) ⟨h,g,d,tk,o⟩) : wpAny (model prog w) A (inplaceOp .Sub (.int i t) (.int j u)) Q E ⟨h,g,d,tk,o⟩ := isub_int (H _ _)
theorem chrI (h0 : 0 ≤ i) (h1 : i ≤ 1114111) (H : ∀ t tk, Q (.str ⟨#[i.toNat]⟩ t) ⟨h,g,d,tk,o⟩) : wpAny (model prog w) A (call (.builtin "chr") [.int i t]) Q E ⟨h,g,d,tk,o⟩ := chr_of_range h0 h1 (H _ _)
end

section
variable {x y : Str} {t u : Tok}
theorem sAdd (H : ∀ t tk, Q (.str (x ++ y) t) ⟨h,g,d,tk,o⟩) (hsz : x.length + y.length ≤ sizeLine) : wpAny (model prog w) A (binaryOp .Add (.str x t) (.str y u)) Q E ⟨h,g,d,tk,o⟩ := PyProof.Rows.add_str H hsz
theorem sIAdd (H : ∀ t tk, Q (.str (x ++ y) t) ⟨h,g,d,tk,o⟩) (hsz : x.length + y.length ≤ sizeLine) : wpAny (model prog w) A (inplaceOp .Add (.str x t) (.str y u)) Q E ⟨h,g,d,tk,o⟩ := PyProof.Rows.iadd_str H hsz
theorem sEq (H : Q (.bool (x == y)) ⟨h,g,d,tk,o⟩) : wpAny (model prog w) A (compareOp .Eq (.str x t) (.str y u)) Q E ⟨h,g,d,tk,o⟩ := PyProof.Rows.eq_str H
theorem sNe (H : Q (.bool (x != y)) ⟨h,g,d,tk,o⟩) : wpAny (model prog w) A (compareOp .NotEq (.str x t) (.str y u)) Q E ⟨h,g,d,tk,o⟩ := PyProof.Rows.ne_str H
theorem ordI (h1 : x.length = 1) (H : ∀ t tk, Q (.int (x.cps.getD 0 0 : Nat) t) ⟨h,g,d,tk,o⟩) : wpAny (model prog w) A (call (.builtin "ord") [.str x t]) Q E ⟨h,g,d,tk,o⟩ := ord_of_one h1 (H _ _)
end

-- names
theorem nLoc {x : Str} {pos : Pos} {v : Value} (F : Fr h₀ env.locals h m) (hv : m x = some v) (H : Q v ⟨h,g,d,tk,o⟩)
    (hk : env.scope.kind = .function) (hl : env.kindOf x = some .local)
    (hd : (x == ("__debug__" : Str)) = false) :
    wpAny M A (eval (.Name x pos) env) Q E ⟨h,g,d,tk,o⟩ := wpAny_Name (wpAny_loadName_local (s := ⟨h,g,d,tk,o⟩) hk hl F.ns hv H) hd
theorem nCellN {x : Str} {pos : Pos} {v : Value} {c : Addr} {ob : Obj} (N : News h₀ L h news) (hc : env.cells.lookup x = some c) (hm : (c, ob) ∈ news) (hdd : ob.data = .cell (some v)) (H : Q v ⟨h,g,d,tk,o⟩)
    (hk : env.scope.kind = .function) (hl : env.kindOf x = some .cell)
    (hd : (x == ("__debug__" : Str)) = false) :
    wpAny M A (eval (.Name x pos) env) Q E ⟨h,g,d,tk,o⟩ := wpAny_Name (wpAny_loadName_cell (s := ⟨h,g,d,tk,o⟩) hk hl hc ⟨ob, N.get hm, hdd⟩ H) hd
theorem nCellI {x : Str} {pos : Pos} {v : Value} {c : Addr} (hc : env.cells.lookup x = some c) (hv : h.IsCell c (some v)) (H : Q v ⟨h,g,d,tk,o⟩)
    (hk : env.scope.kind = .function) (hl : env.kindOf x = some .cell)
    (hd : (x == ("__debug__" : Str)) = false) :
    wpAny M A (eval (.Name x pos) env) Q E ⟨h,g,d,tk,o⟩ := wpAny_Name (wpAny_loadName_cell (s := ⟨h,g,d,tk,o⟩) hk hl hc hv H) hd
theorem nBlt {N : Nat} {mg mb : Str → Option Value} {defs : List DefItem} {consts : List (Str × PyData)} {objs : List (Str × (Obj → Prop))} {x : Str} {pos : Pos} {v : Value}
    (F : Fr h₀ env.locals h m) (G : Glob N mg mb defs consts objs names0 h₀) (hv : bootBuiltins x = some v) (H : Q v ⟨h,g,d,tk,o⟩)
    (hfree : x ∉ names0) (hboot : x ∉ bootMainNames) (hn : x ≠ "__name__")
    (hg : env.globals = mainGlobals) (hb : env.builtins = builtinsNs)
    (hk : env.scope.kind = .function) (hx : env.kindOf x = some .globalImplicit)
    (hd : (x == ("__debug__" : Str)) = false) : wpAny M A (eval (.Name x pos) env) Q E ⟨h,g,d,tk,o⟩ :=
  let G' := G.keeps F.keep
  Name_function_global hk hx (loadGlobal_builtin (env := env) (s := ⟨h,g,d,tk,o⟩) (show h.Ns env.globals mg from hg ▸ G'.g) (G.free x hfree hboot) (show h.Ns env.builtins mb from hb ▸ G'.b) ((G.builtins x hn).trans hv) H) hd
theorem nFn {N : Nat} {mg mb : Str → Option Value} {consts : List (Str × PyData)} {objs : List (Str × (Obj → Prop))} {x : Str} {pos : Pos} {e : DefItem}
    (F : Fr h₀ env.locals h m) (G : Glob N mg mb defs0 consts objs names0 h₀) (hd' : e ∈ defs0) (hn : e.name = x)
    (H : ∀ f, Fn e h₀ f → Q (.ref f) ⟨h,g,d,tk,o⟩) (hnd : e.params.defaults = [])
    (hg : env.globals = mainGlobals)
    (hk : env.scope.kind = .function) (hx : env.kindOf x = some .globalImplicit)
    (hd : (x == ("__debug__" : Str)) = false) : wpAny M A (eval (.Name x pos) env) Q E ⟨h,g,d,tk,o⟩ := by
  subst hn
  obtain ⟨f, c', o', pm, doc, _, _, h3, h4, h5, h6⟩ := (G.made e hd').plain hnd
  exact Name_function_global hk hx (loadGlobal_global (env := env) (s := ⟨h,g,d,tk,o⟩) (show h.Ns env.globals mg from hg ▸ (G.keeps F.keep).g) h3 (H f ⟨o', pm, c', doc, h4, h5, h6⟩)) hd
theorem nObj {N : Nat} {mg mb : Str → Option Value} {defs : List DefItem} {consts : List (Str × PyData)} {objs : List (Str × (Obj → Prop))} {x : Str} {pos : Pos} {P : Obj → Prop}
    (F : Fr h₀ env.locals h m) (G : Glob N mg mb defs consts objs names0 h₀) (hp : (x, P) ∈ objs)
    (H : ∀ b ob, mainGlobals < b → h.get? b = some ob → P ob → Q (.ref b) ⟨h,g,d,tk,o⟩)
    (hg : env.globals = mainGlobals)
    (hk : env.scope.kind = .function) (hx : env.kindOf x = some .globalImplicit)
    (hd : (x == ("__debug__" : Str)) = false) : wpAny M A (eval (.Name x pos) env) Q E ⟨h,g,d,tk,o⟩ := by
  obtain ⟨b, ob, hN, hb, ho, hq⟩ := (G.keeps F.keep).held _ hp
  exact Name_function_global hk hx (loadGlobal_global (env := env) (s := ⟨h,g,d,tk,o⟩) (show h.Ns env.globals mg from hg ▸ (G.keeps F.keep).g) hb (H b ob hN ho hq)) hd
theorem nConst {N : Nat} {mg mb : Str → Option Value} {defs : List DefItem} {consts : List (Str × PyData)} {objs : List (Str × (Obj → Prop))} {x y : Str} {pos : Pos}
    (F : Fr h₀ env.locals h m) (G : Glob N mg mb defs consts objs names0 h₀) (hp : (x, PyData.str y) ∈ consts)
    (H : ∀ t, Q (.str y t) ⟨h,g,d,tk,o⟩)
    (hg : env.globals = mainGlobals)
    (hk : env.scope.kind = .function) (hx : env.kindOf x = some .globalImplicit)
    (hd : (x == ("__debug__" : Str)) = false) : wpAny M A (eval (.Name x pos) env) Q E ⟨h,g,d,tk,o⟩ := by
  obtain ⟨v, hv, hdat⟩ := (G.keeps F.keep).bound _ hp
  obtain ⟨t, rfl⟩ := hdat.str
  exact Name_function_global hk hx (loadGlobal_global (env := env) (s := ⟨h,g,d,tk,o⟩) (show h.Ns env.globals mg from hg ▸ (G.keeps F.keep).g) hv (H t)) hd
theorem boot_chr : bootBuiltins "chr" = some (.builtin "chr") := by rfl
theorem boot_ord : bootBuiltins "ord" = some (.builtin "ord") := by rfl
theorem boot_len : bootBuiltins "len" = some (.builtin "len") := by rfl
theorem boot_range : bootBuiltins "range" = some (.type "range") := by rfl
theorem boot_enumerate : bootBuiltins "enumerate" = some (.type "enumerate") := by rfl
theorem n_chr {N : Nat} {mg mb : Str → Option Value} {defs : List DefItem} {consts : List (Str × PyData)} {objs : List (Str × (Obj → Prop))} {pos : Pos}
    (F : Fr h₀ env.locals h m) (G : Glob N mg mb defs consts objs names0 h₀) (H : Q (.builtin "chr") ⟨h,g,d,tk,o⟩)
    (hg : env.globals = mainGlobals) (hb : env.builtins = builtinsNs) (hk : env.scope.kind = .function) (hx : env.kindOf "chr" = some .globalImplicit) :
    wpAny M A (eval (.Name "chr" pos) env) Q E ⟨h,g,d,tk,o⟩ := nBlt F G boot_chr H (by decide) (by decide) (by decide) hg hb hk hx (by decide)
theorem n_ord {N : Nat} {mg mb : Str → Option Value} {defs : List DefItem} {consts : List (Str × PyData)} {objs : List (Str × (Obj → Prop))} {pos : Pos}
    (F : Fr h₀ env.locals h m) (G : Glob N mg mb defs consts objs names0 h₀) (H : Q (.builtin "ord") ⟨h,g,d,tk,o⟩)
    (hg : env.globals = mainGlobals) (hb : env.builtins = builtinsNs) (hk : env.scope.kind = .function) (hx : env.kindOf "ord" = some .globalImplicit) :
    wpAny M A (eval (.Name "ord" pos) env) Q E ⟨h,g,d,tk,o⟩ := nBlt F G boot_ord H (by decide) (by decide) (by decide) hg hb hk hx (by decide)
theorem n_len {N : Nat} {mg mb : Str → Option Value} {defs : List DefItem} {consts : List (Str × PyData)} {objs : List (Str × (Obj → Prop))} {pos : Pos}
    (F : Fr h₀ env.locals h m) (G : Glob N mg mb defs consts objs names0 h₀) (H : Q (.builtin "len") ⟨h,g,d,tk,o⟩)
    (hg : env.globals = mainGlobals) (hb : env.builtins = builtinsNs) (hk : env.scope.kind = .function) (hx : env.kindOf "len" = some .globalImplicit) :
    wpAny M A (eval (.Name "len" pos) env) Q E ⟨h,g,d,tk,o⟩ := nBlt F G boot_len H (by decide) (by decide) (by decide) hg hb hk hx (by decide)
theorem n_range {N : Nat} {mg mb : Str → Option Value} {defs : List DefItem} {consts : List (Str × PyData)} {objs : List (Str × (Obj → Prop))} {pos : Pos}
    (F : Fr h₀ env.locals h m) (G : Glob N mg mb defs consts objs names0 h₀) (H : Q (.type "range") ⟨h,g,d,tk,o⟩)
    (hg : env.globals = mainGlobals) (hb : env.builtins = builtinsNs) (hk : env.scope.kind = .function) (hx : env.kindOf "range" = some .globalImplicit) :
    wpAny M A (eval (.Name "range" pos) env) Q E ⟨h,g,d,tk,o⟩ := nBlt F G boot_range H (by decide) (by decide) (by decide) hg hb hk hx (by decide)
theorem n_enumerate {N : Nat} {mg mb : Str → Option Value} {defs : List DefItem} {consts : List (Str × PyData)} {objs : List (Str × (Obj → Prop))} {pos : Pos}
    (F : Fr h₀ env.locals h m) (G : Glob N mg mb defs consts objs names0 h₀) (H : Q (.type "enumerate") ⟨h,g,d,tk,o⟩)
    (hg : env.globals = mainGlobals) (hb : env.builtins = builtinsNs) (hk : env.scope.kind = .function) (hx : env.kindOf "enumerate" = some .globalImplicit) :
    wpAny M A (eval (.Name "enumerate" pos) env) Q E ⟨h,g,d,tk,o⟩ := nBlt F G boot_enumerate H (by decide) (by decide) (by decide) hg hb hk hx (by decide)

-- displays
theorem lNew {vs : List Value} (F : Fr h₀ L h m) (N : News h₀ L h news) (hsz : vs.length ≤ sizeLine)
    (H : ∀ h' p, Fr h₀ L h' m → News h₀ L h' ((p, ({ cls := .type "list", data := .seq vs.toArray } : Obj)) :: news) → Ext h h' → Q (.ref p) ⟨h',g,d,tk,o⟩) :
    wpAny M A (newList vs) Q E ⟨h,g,d,tk,o⟩ :=
  wpAny_newObj_type (s := ⟨h,g,d,tk,o⟩) (H _ _ (F.push _) (N.push F _) fun _ _ e => Heap.get?_push_of_some _ e) (by show vs.toArray.size ≤ sizeLine; rw [List.size_toArray]; exact hsz)
end

-- items
section
variable {Q : Value → Shared → Prop} {value slice : Expr}
theorem gList {p : Addr} {l : List Value} {k : Int} {u : Tok} {x : Value} (hl : h.IsList p l.toArray)
    (h0 : 0 ≤ k) (hfit : k < 2 ^ 63) (hx : l[k.toNat]? = some x) (H : Q x ⟨h,g,d,tk,o⟩)
    (hs : subscripted slice false (.ref p) (.int k u) = operate [.ref p, .int k u] (getItem (.ref p) (.int k u)) := by with_unfolding_all rfl) :
    wpAny (model prog w) A (subscriptTail value slice (.ref p) (.int k u)) Q E ⟨h,g,d,tk,o⟩ := item_litK (s := ⟨h,g,d,tk,o⟩) hl h0 hfit hx H hs
theorem fmod_nat (a b : Nat) : Int.fmod (a : Int) (b : Int) = ((a % b : Nat) : Int) := by rw [Int.fmod_eq_emod_of_nonneg _ (Int.natCast_nonneg b)]; exact (Int.natCast_emod a b).symm
theorem fdiv_nat (a b : Nat) : Int.fdiv (a : Int) (b : Int) = ((a / b : Nat) : Int) := by rw [Int.fdiv_eq_ediv_of_nonneg _ (Int.natCast_nonneg b)]; exact (Int.natCast_ediv a b).symm
theorem gInts {p : Addr} {l : List Value} {ns : List Nat} {k : Int} {u : Tok} (hl : h.IsList p l.toArray) (hi : IntsAre l (ns.map fun n : Nat => (n : Int)))
    (h0 : 0 ≤ k) (hk : k < ns.length) (hfit : k < 2 ^ 63) (H : ∀ t, Q (.int (ns.getD k.toNat 0 : Nat) t) ⟨h,g,d,tk,o⟩)
    (hs : subscripted slice false (.ref p) (.int k u) = operate [.ref p, .int k u] (getItem (.ref p) (.int k u)) := by with_unfolding_all rfl) :
    wpAny (model prog w) A (subscriptTail value slice (.ref p) (.int k u)) Q E ⟨h,g,d,tk,o⟩ := by
  have hlen : l.length = ns.length := by rw [hi.length, List.length_map]
  have hlt : k.toNat < l.length := by omega
  obtain ⟨t, e⟩ := hi.int_at k.toNat _ (List.getElem?_eq_getElem hlt)
  refine gList hl h0 hfit (List.getElem?_eq_getElem hlt) ?_ hs
  rw [e]
  have : (ns.map fun n : Nat => (n : Int)).getD k.toNat 0 = ((ns.getD k.toNat 0 : Nat) : Int) := by
    have h2 : k.toNat < ns.length := by omega
    simp [List.getD_eq_getElem?_getD, h2]
  rw [this]
  exact H t
theorem gStr {x : Str} {t : Tok} {i : Int} {u : Tok} (hr : fitsSsize i = true) (h1 : -(x.length : Int) ≤ i) (h2 : i < x.length)
    (H : ∀ t tk, Q (.str (Txt.item x i) t) ⟨h,g,d,tk,o⟩)
    (hs : subscripted slice false (.str x t) (.int i u) = operate [.str x t, .int i u] (getItem (.str x t) (.int i u)) := by with_unfolding_all rfl)
    (ht : ∀ r, letTemporaryGo value (.str x t) r = pure () := by intro _; with_unfolding_all rfl) :
    wpAny (model prog w) A (subscriptTail value slice (.str x t) (.int i u)) Q E ⟨h,g,d,tk,o⟩ := item_str hr h1 h2 (fun _ => H _ _) hs ht
end

-- a call of a def
theorem call_def {Q : Value → Shared → Prop} {d' : DefItem} {f : Addr} {args : List Value} {binds : List (Str × Value)} {k : Nat} (R : Room A (k + 1)) (hf : Fn d' h f) (hlim : h.NoLimit)
    (H : ∀ h₁ L a cd tk, Fr h L h₁ (fun x => binds.reverse.lookup x) → News h L h₁ [] → ∀ A' : Around, Room A' k →
      wpAny (model prog w) A' (execs d'.body (envOf d'.name d'.scope L a cd)) (fun fl s' => Q (retV fl) s') (fun _ _ => False) ⟨h₁,g,d,tk,o⟩)
    (hbind : ∀ pm cd doc, bindArgs (docDef d'.name d'.params d'.body d'.scope pm cd doc) ⟨args, []⟩ = pure binds)
    (hloc : (binds.all fun x => decide (d'.scope.names.lookup x.1 = some .local)) = true)
    (hco : d'.scope.isCoroutine = false := by rfl) (hgen : d'.scope.isGenerator = false := by rfl) (hk : d'.scope.kind = .function := by rfl)
    (hcell : ∀ x ∈ d'.scope.names, x.2 ≠ .cell := by decide) :
    wpAny (model prog w) A (call (.ref f) args) Q E ⟨h,g,d,tk,o⟩ := by
  obtain ⟨o', pm, c', doc, ho, hd, hc⟩ := hf
  refine wpAny_call (call_plain_ret (s := ⟨h,g,d,tk,o⟩) R.lt ho hd hlim hc (hbind _ _ _) (locs hloc) (fun h₁ F => ?_) hco hgen hk hcell)
  refine wpAny_mono (H h₁ _ f _ _ F News.nil _ (R.deeper _)) (fun fl s' x => ?_) fun _ _ x => x.elim
  cases fl <;> exact x

-- statements
section
variable {Q : Flow → Shared → Prop} {s : Shared} {rest : List Stmt}
theorem execs_app_eq (r : List Stmt) : ∀ l : List Stmt, execs (l ++ r) env = (execs l env >>= fun f => match f with | .next => execs r env | f => pure f)
  | [] => by rw [List.nil_append, execs_nil, pure_bind]
  | st :: l => by
    rw [List.cons_append, execs_cons, execs_cons, bind_assoc]
    congr 1; funext f
    cases f with
    | next => exact execs_app_eq r l
    | _ => rfl
theorem xNil (H : Q .next s) : wpAny M A (execs [] env) Q E s := wpAny_execs_nil H
theorem xRet {e pos} (H : wpAny M A (eval e env) (fun v s' => Q (.ret v) s') E s) : wpAny M A (execs (.Return (some e) pos :: rest) env) Q E s :=
  wpAny_execs_cons (wpAny_Return_some H)
theorem xIf {test body orelse pos} (H : wpAny M A (isTrue test env (eval test env))
      (fun b s₂ => if b then wpAny M A (execs (body ++ rest) env) Q E s₂ else wpAny M A (execs (orelse ++ rest) env) Q E s₂) E s) :
    wpAny M A (execs (.If test body orelse pos :: rest) env) Q E s := by
  have e : execs (.If test body orelse pos :: rest) env = (standAt pos >>= fun _ => isTrue test env (eval test env) >>= fun b => if b then execs (body ++ rest) env else execs (orelse ++ rest) env) := by
    rw [execs_cons, exec_If, bind_assoc]
    congr 1; funext _
    rw [bind_assoc]
    congr 1; funext b
    cases b
    · rw [if_neg Bool.false_ne_true, if_neg Bool.false_ne_true, execs_app_eq]; congr 1
    · rw [if_pos rfl, if_pos rfl, execs_app_eq]; congr 1
  rw [e]
  refine wpAny_bind (wpAny_standAt (wpAny_bind (wpAny_mono H (fun b s₂ hb => ?_) fun _ _ x => x)))
  cases b
  · rw [if_neg Bool.false_ne_true] at hb ⊢; exact hb
  · rw [if_pos rfl] at hb ⊢; exact hb
theorem xAssign {x pos' value pos} (H : wpAny M A (eval value env) (fun v s₁ => wpAny M A (storeName env x v) (fun _ s₂ => wpAny M A (execs rest env) Q E s₂) E s₁) E s)
    (hs : swapsWith value (some (.Name x pos')) pos.line env = pure false := by rfl) : wpAny M A (execs (.Assign [.Name x pos'] value pos :: rest) env) Q E s :=
  wpAny_execs_cons (wpAny_Assign_Name H hs)
theorem xAug {x pos' op value pos} (H : wpAny M A (loadName env x) (fun old s₁ => wpAny M A (eval value env) (fun v s₂ => wpAny M A (inplaceOp op old v)
      (fun r s₃ => wpAny M A (storeName env x r) (fun _ s₄ => wpAny M A (execs rest env) Q E s₄) E s₃) E s₂) E s₁) E s) :
    wpAny M A (execs (.AugAssign (.Name x pos') op value pos :: rest) env) Q E s := wpAny_execs_cons (wpAny_AugAssign_Name H)
end
section
variable {Q : Flow → Shared → Prop} {s : Shared} {rest : List Stmt}
theorem xExpr {e pos} (H : wpAny (model prog w) A (eval e env) (fun _ s' => wpAny (model prog w) A (execs rest env) Q E s') E s)
    (hi : interactive env = false := by rfl) (hs : swapsWith e none pos.line env = pure false := by rfl) : wpAny (model prog w) A (execs (.Expr e pos :: rest) env) Q E s :=
  wpAny_execs_cons (wpAny_Expr_any H hi hs)
end
theorem stS {Q : Unit → Shared → Prop} {x : Str} {v : Value} (F : Fr h₀ env.locals h m) (N : News h₀ env.locals h news)
    (H : ∀ h' tk, Fr h₀ env.locals h' (fun y => if y = x then some v else m y) → News h₀ env.locals h' news → Heap.SameBut env.locals h h' → Q () ⟨h',g,d,tk,o⟩)
    (hk : env.scope.kind = .function) (hl : env.kindOf x = some .local) :
    wpAny M A (storeName env x v) Q E ⟨h,g,d,tk,o⟩ :=
  wpAny_storeName_local (s := ⟨h,g,d,tk,o⟩) hl F.ns (fun h' hn hs => H h' _ (F.set hn hs) (N.set hs) hs) (by rw [hk]; rfl)
theorem nLd {Q : Value → Shared → Prop} {x : Str} {v : Value} (F : Fr h₀ env.locals h m) (hv : m x = some v) (H : Q v ⟨h,g,d,tk,o⟩)
    (hk : env.scope.kind = .function) (hl : env.kindOf x = some .local) :
    wpAny M A (loadName env x) Q E ⟨h,g,d,tk,o⟩ := wpAny_loadName_local (s := ⟨h,g,d,tk,o⟩) hk hl F.ns hv H
end
end Mine
end

section
open PySem PySem.W PyProof.Rows PySem.Calls
set_option maxRecDepth 100000
set_option maxHeartbeats 1000000
namespace Mine

section
variable {prog : Program} {w : World} {M : Model} {A : Around} {E : Value → Shared → Prop} {env : Env}
  {h h₀ : Heap} {g : Array GenState} {d : Drawn} {tk : Nat} {o : OsState}
  {L a : Addr} {m : Str → Option Value} {news : List (Addr × Obj)} {name : Str} {scope : Scope} {cd : Value}

/-- a call of a def whose locals are captured -/
theorem call_defC {Q : Value → Shared → Prop} {d' : DefItem} {f : Addr} {args : List Value} {binds : List (Str × Value)} {k : Nat} (R : Room A (k + 1)) (hf : Fn d' h f) (hlim : h.NoLimit)
    (H : ∀ h₁ L a cd tk cells, Fr h L h₁ (bindL (envOfC d'.name d'.scope L a cd).kindOf binds fun _ => none) → News h L h₁ cells →
      CellsAre (bindC (envOfC d'.name d'.scope L a cd).kindOf binds fun _ => none) (cellsFrom (L + 1) d'.scope.names []) cells → ∀ A' : Around, Room A' k →
      wpAny (model prog w) A' (execs d'.body (envOfC d'.name d'.scope L a cd)) (fun fl s' => Q (retV fl) s') (fun _ _ => False) ⟨h₁,g,d,tk,o⟩)
    (hbind : ∀ pm cd doc, bindArgs (docDef d'.name d'.params d'.body d'.scope pm cd doc) ⟨args, []⟩ = pure binds)
    (hkind : (binds.all fun y => d'.scope.names.lookup y.1 == some .local || d'.scope.names.lookup y.1 == some .cell) = true)
    (hnd : ((cellsFrom 0 d'.scope.names []).map (·.1)).Nodup)
    (hco : d'.scope.isCoroutine = false := by rfl) (hgen : d'.scope.isGenerator = false := by rfl) (hk : d'.scope.kind = .function := by rfl) :
    wpAny (model prog w) A (call (.ref f) args) Q E ⟨h,g,d,tk,o⟩ := by
  obtain ⟨o', pm, c', doc, ho, hd, hc⟩ := hf
  refine wpAny_call (call_cellsN_ret (s := ⟨h,g,d,tk,o⟩) R.lt ho hd hlim hc (hbind _ _ _) (kindsX hkind _) hnd (fun h₁ tk cells F N X => ?_) hco hgen hk)
  refine wpAny_mono (H h₁ _ f _ tk cells F N X _ (R.deeper _)) (fun fl s' x => ?_) fun _ _ x => x.elim
  cases fl <;> exact x

def isIter (o : Obj) : Bool := match o.data with
  | .fields _ => (match o.cls with
    | .type t => t == "list_iterator" || t == "range_iterator" || t == "str_iterator" || t == "str_ascii_iterator"
    | _ => false)
  | _ => false
/-- an iterator that stands ready: n items, the i-th with P i; Z tells of the lists that it reads -/
def ReadyZ (prog : Program) (w : World) (h : Heap) (it : Value) (h₂ : Heap) (n : Nat) (P : Nat → Value → Prop) (Z : Addr → Prop) : Prop :=
  ∃ I fp St, it = .ref I ∧ h.get? I = none ∧ (∀ A' : Around, A'.handled = none → Walks prog w A' I fp [I] n P St) ∧ (∀ i h, St i h → ∃ o, h.get? I = some o ∧ isIter o = true) ∧ St 0 h₂ ∧ (∀ b ∈ fp, b < h₂.objs.size) ∧ Ext h h₂ ∧
    (∀ b ∈ fp, b = I ∨ ∃ o nn items, h.get? b = some o ∧ o.data = .seq items nn ∧ Z b) ∧ h.objs.size ≤ h₂.objs.size
abbrev Ready (prog : Program) (w : World) (h : Heap) (it : Value) (h₂ : Heap) (n : Nat) (P : Nat → Value → Prop) : Prop := ReadyZ prog w h it h₂ n P fun _ => True
theorem ReadyZ.ready {h : Heap} {it : Value} {h₂ : Heap} {n : Nat} {P : Nat → Value → Prop} {Z : Addr → Prop} (x : ReadyZ prog w h it h₂ n P Z) : Ready prog w h it h₂ n P :=
  let ⟨I, fp, St, a, b, c, d, e, f, g, k, l⟩ := x
  ⟨I, fp, St, a, b, c, d, e, f, g, fun q hq => (k q hq).imp id fun ⟨o, nn, items, h1, h2, _⟩ => ⟨o, nn, items, h1, h2, trivial⟩, l⟩

theorem fresh_of_le {h : Heap} {a : Addr} (x : h.objs.size ≤ a) : h.get? a = none := by
  cases e : h.get? a with
  | none => rfl
  | some o => exact absurd (Heap.lt_size e) (Nat.not_lt.mpr x)

theorem ready_listZ {h : Heap} {l : Addr} {items : Array Value} (hl : h.IsList l items) :
    ReadyZ prog w h (.ref h.objs.size) (h.push { cls := .type "list_iterator", data := .fields #[.ref l, .int 0 0] }) items.size (fun i v => items[i]? = some v) (· = l) := by
  obtain ⟨ol, hol, hc, nn, hd⟩ := id hl
  have hlt := Heap.lt_size hol
  refine ⟨h.objs.size, [h.objs.size, l], _, rfl, fresh_of_le (Nat.le_refl _), fun A' hA => Walks.list hA _ l (Nat.ne_of_lt hlt) items, fun i h st => let ⟨o, ho, hc, hd⟩ := st.1; ⟨o, ho, by simp [isIter, hc, hd]⟩, ⟨⟨_, Heap.get?_push_size _ rfl, rfl, rfl⟩, hl.push _⟩, ?_, fun b o e => Heap.get?_push_of_some _ e, ?_, by rw [Heap.size_push]; exact Nat.le_succ _⟩
  · intro b hb
    rw [Heap.size_push]
    rcases List.mem_cons.mp hb with rfl | hb
    · exact Nat.lt_succ_self _
    · rw [List.mem_singleton.mp hb]; exact Nat.lt_succ_of_lt hlt
  · intro b hb
    rcases List.mem_cons.mp hb with rfl | hb
    · exact .inl rfl
    · rw [List.mem_singleton.mp hb]; exact .inr ⟨ol, nn, items, hol, hd, rfl⟩

theorem ready_range {h h₁ : Heap} (hx : Ext h h₁) (hle : h.objs.size ≤ h₁.objs.size) (n : Nat) :
    Ready prog w h (.ref h₁.objs.size) (h₁.push { cls := .type "range_iterator", data := .fields #[rawInt 0, rawInt n, rawInt 1] }) n (fun i v => ∃ t, v = .int (i : Int) t) := by
  have e : (fun (i : Nat) (v : Value) => ∃ t, v = .int ((0 : Int) + (i : Int) * 1) t) = fun i v => ∃ t, v = .int (i : Int) t := by funext i v; simp
  refine ⟨h₁.objs.size, [h₁.objs.size], _, rfl, fresh_of_le hle, fun A' hA => e ▸ Walks.range hA h₁.objs.size 0 1 n, fun i h st => ⟨_, st, rfl⟩, ?_, ?_, fun b o q => Heap.get?_push_of_some _ (hx b o q), fun b hb => .inl (List.mem_singleton.mp hb), by rw [Heap.size_push]; omega⟩
  · show IsRangeIter _ _ _ _ _
    have := Heap.get?_push_size h₁ (o := { cls := .type "range_iterator", data := .fields #[rawInt 0, rawInt n, rawInt 1] }) rfl
    simpa using this
  · intro b hb
    rw [List.mem_singleton.mp hb, Heap.size_push]
    exact Nat.lt_succ_self _

theorem it_listZ {Q : Value → Shared → Prop} {l : Addr} {items : Array Value} (hl : h.IsList l items)
    (H : ∀ it h₂, ReadyZ prog w h it h₂ items.size (fun i v => items[i]? = some v) (· = l) → Q it ⟨h₂,g,d,tk,o⟩) :
    wpAny (model prog w) A (pyIter (.ref l)) Q E ⟨h,g,d,tk,o⟩ := wpAny_pyIter_list (s := ⟨h,g,d,tk,o⟩) hl (H _ _ (ready_listZ hl))
theorem it_list {Q : Value → Shared → Prop} {l : Addr} {items : Array Value} (hl : h.IsList l items)
    (H : ∀ it h₂, Ready prog w h it h₂ items.size (fun i v => items[i]? = some v) → Q it ⟨h₂,g,d,tk,o⟩) :
    wpAny (model prog w) A (pyIter (.ref l)) Q E ⟨h,g,d,tk,o⟩ := wpAny_pyIter_list (s := ⟨h,g,d,tk,o⟩) hl (H _ _ (ready_listZ hl).ready)

theorem it_range {Q : Value → Shared → Prop} {i : Int} {n : Nat} {t : Tok} (hi : i = n) (hn : n < 2 ^ 62)
    (H : ∀ it h₂ tk, Ready prog w h it h₂ n (fun i v => ∃ t, v = .int (i : Int) t) → Q it ⟨h₂,g,d,tk,o⟩) :
    wpAny (model prog w) A (call (.type "range") [.int i t]) (fun xv s₁ => wpAny (model prog w) A (pyIter xv) Q E s₁) E ⟨h,g,d,tk,o⟩ := by
  subst hi
  refine call_range_1 (s := ⟨h,g,d,tk,o⟩) ?_
  refine wpAny_pyIter_range (IsRange.new h 0 n 1 _ _ _) (small_one (by decide) (by decide) (by omega) (by omega)) ?_
  have e2 : Builtin.Range.rangeSize 0 n 1 = (n : Int) := by rw [rangeSize_one]; split <;> omega
  rw [e2]
  exact H _ _ _ (ready_range (fun b o q => Heap.get?_push_of_some _ q) (by rw [Heap.size_push]; exact Nat.le_succ _) n)

theorem it_str {Q : Value → Shared → Prop} {x : Str} {t : Tok}
    (H : ∀ it h₂, Ready prog w h it h₂ x.cps.size (SignAt x) → Q it ⟨h₂,g,d,tk,o⟩) :
    wpAny (model prog w) A (pyIter (.str x t)) Q E ⟨h,g,d,tk,o⟩ := by
  cases ha : x.cps.all (· < 128)
  · refine wpAny_pyIter_wide (s := ⟨h,g,d,tk,o⟩) ha (H _ _ ⟨h.objs.size, [h.objs.size], _, rfl, fresh_of_le (Nat.le_refl _), fun A' hA => Walks.strWide hA _ x t, fun i h st => let ⟨o, ho, hc, hd⟩ := st; ⟨o, ho, by simp [isIter, hc, hd]⟩, ⟨_, Heap.get?_push_size _ rfl, rfl, rfl⟩, ?_, fun b o e => Heap.get?_push_of_some _ e, fun b hb => .inl (List.mem_singleton.mp hb), by show _ ≤ (Heap.push _ _).objs.size; rw [Heap.size_push]; exact Nat.le_succ _⟩)
    intro b hb
    rw [List.mem_singleton.mp hb]
    show _ < (Heap.push _ _).objs.size
    rw [Heap.size_push]
    exact Nat.lt_succ_self _
  · refine wpAny_pyIter_ascii (s := ⟨h,g,d,tk,o⟩) ha (H _ _ ⟨h.objs.size, [h.objs.size], _, rfl, fresh_of_le (Nat.le_refl _), fun A' hA => Walks.strAscii hA _ x t, fun i h st => let ⟨o, ho, hc, hd⟩ := st; ⟨o, ho, by simp [isIter, hc, hd]⟩, ⟨_, Heap.get?_push_size _ rfl, rfl, rfl⟩, ?_, fun b o e => Heap.get?_push_of_some _ e, fun b hb => .inl (List.mem_singleton.mp hb), by show _ ≤ (Heap.push _ _).objs.size; rw [Heap.size_push]; exact Nat.le_succ _⟩)
    intro b hb
    rw [List.mem_singleton.mp hb]
    show _ < (Heap.push _ _).objs.size
    rw [Heap.size_push]
    exact Nat.lt_succ_self _

theorem walks_lt {A : Around} {I : Addr} {fp wr : List Addr} {n : Nat} {P : Nat → Value → Prop} {St : Nat → Heap → Prop} (W : Walks prog w A I fp wr n P St) : Walks prog w A I fp wr n (fun i v => i < n ∧ P i v) St where
  sub := W.sub
  frame := W.frame
  item := fun i s Q E hi st hQ => W.item i s Q E hi st fun v h' tk hP => hQ v h' tk ⟨hi, hP⟩
  done := W.done
  self := W.self

/-- the tests of a comprehension: none, or one -/
def TestIs (prog : Program) (w : World) (A : Around) (env : Env) (ifs : List Expr) (b : Bool) (E : Value → Shared → Prop) (s : Shared) : Prop :=
  match ifs with
  | [] => b = true
  | [c] => wpAny (model prog w) A (isTrue c env (eval c env)) (fun ok s' => ok = b ∧ ∃ h' tk', s' = ⟨h', s.gens, s.drawn, tk', s.os⟩ ∧ Ext s.heap h') E s
  | _ => False
theorem test_of {E : Value → Shared → Prop} {ifs : List Expr} {b : Bool} {s : Shared} (H : TestIs prog w A env ifs b E s) :
    wpAny (model prog w) A (forIn ifs true fun c r => if r = true then do let ok ← isTrue c env (eval c env); pure (ForInStep.yield ok) else pure (ForInStep.yield r))
      (fun ok s₄ => ok = b ∧ Keeps s s₄) E s := by
  match ifs, H with
  | [], H =>
    rw [List.forIn_nil]
    exact wpAny_pure ⟨H.symm, s.heap, s.toks, rfl, fun _ _ e => e⟩
  | [c], H =>
    rw [List.forIn_cons, if_pos rfl]
    refine wpAny_bind (wpAny_bind (wpAny_mono H (fun ok s' h' => ?_) fun _ _ x => x))
    obtain ⟨rfl, h', tk', rfl, hx⟩ := h'
    refine wpAny_pure ?_
    show wpAny _ _ (forIn [] ok _) _ _ _
    rw [List.forIn_nil]
    exact wpAny_pure ⟨rfl, h', tk', rfl, hx⟩

/-- what stood ahead of an iterator still stands -/
theorem ext_but {h h₂ h₃ : Heap} {I : Addr} (hf : h.get? I = none) (hx : Ext h h₂) (hk : ∀ b o, b ∉ [I] → h₂.get? b = some o → h₃.get? b = some o) : Ext h h₃ := fun b o e =>
  hk b o (fun hm => by rw [List.mem_singleton.mp hm, hf] at e; cases e) (hx b o e)

/-- a comprehension whose items are plain values -/
theorem comp_F {Q : Value → Shared → Prop} {elt iter : Expr} {x : Str} {px : Pos} {ifs : List Expr} {sc : Scope} {cl : List (Str × Addr)} {pos : Pos} (p : Value → Bool) (F : Value → Value → Prop)
    (hh : A.handled = none) (hclos : closureFor sc env = pure cl) (hcell : ∀ y ∈ sc.names, y.2 ≠ .cell) (hkind : sc.kind = .function)
    (hnames : ∀ y ∈ sc.names, y.2 = .local → sc.names.lookup y.1 = some .local) (hx : sc.names.lookup x = some .local) (hs : ∀ x, foldedSetIterable iter env x = pure x)
    {s : Shared} (H : wpAny (model prog w) A (eval iter env) (fun xv s₁ => wpAny (model prog w) A (pyIter xv) (fun it s₂ => ∃ (h : Heap) (n : Nat) (P : Nat → Value → Prop), Ready prog w h it s₂.heap n P ∧ n ≤ sizeLine ∧
      (∀ C i v h₃ g₃ d₃ tk₃ o₃ m₃ E', i < n → P i v → Fr h C h₃ m₃ → m₃ x = some v → TestIs prog w A (compEnvC sc cl C env) ifs (p v) E' ⟨h₃,g₃,d₃,tk₃,o₃⟩) ∧
      (∀ C i v h₃ g₃ d₃ tk₃ o₃ m₃ E', i < n → P i v → p v = true → Fr h C h₃ m₃ → m₃ x = some v →
        wpAny (model prog w) A (eval elt (compEnvC sc cl C env)) (fun y s₄ => F v y ∧ ∃ h' tk', s₄ = ⟨h',g₃,d₃,tk',o₃⟩ ∧ Ext h₃ h') E' ⟨h₃,g₃,d₃,tk₃,o₃⟩) ∧
      (∀ D h' tk ys (vs : List Value), h.get? D = none → h'.PlainList D ys → vs.length = n → (∀ j v, vs[j]? = some v → P j v) → Paired F (vs.filter p) ys.toList → Ext h h' → Q (.ref D) ⟨h', s₂.gens, s₂.drawn, tk, s₂.os⟩)) E s₁) E s) :
    wpAny (model prog w) A (eval (.ListComp elt [⟨.Name x px, iter, ifs, 0⟩] sc pos) env) Q E s := by
  refine wpAny_ListComp_free p F hclos hcell hkind hnames hx (wpAny_mono H (fun xv s₁ h₁ => wpAny_mono h₁ (fun it s₂ h₂ => ?_) fun _ _ e => e) fun _ _ e => e) hs
  obtain ⟨h, n, P, ⟨I, fp, St, rfl, hI, W, _, hst, hfp, hxt, _, hsz⟩, hn, ht, he, hf⟩ := h₂
  refine ⟨I, fp, [I], n, _, St, rfl, walks_lt (W A hh), hn, hst, hfp, ⟨fun C i v s₃ m₃ E' hC hP hns hm hk htk => ?_, fun C i v s₃ m₃ E' hC hP hp hns hm hk htk => ?_⟩, fun D h' tk ys vs hD hl hpl hlen hP hF hk => ?_⟩
  · obtain ⟨h₃, g₃, d₃, tk₃, o₃⟩ := s₃
    exact test_of (ht C i v h₃ g₃ d₃ tk₃ o₃ m₃ E' hP.1 hP.2 ⟨hns, ext_but hI hxt hk, Nat.le_trans hsz hC⟩ hm)
  · obtain ⟨h₃, g₃, d₃, tk₃, o₃⟩ := s₃
    refine wpAny_mono (he C i v h₃ g₃ d₃ tk₃ o₃ m₃ E' hP.1 hP.2 hp ⟨hns, ext_but hI hxt hk, Nat.le_trans hsz hC⟩ hm) (fun y s₄ h₄ => ?_) fun _ _ e => e
    obtain ⟨hF, h', tk', rfl, hx'⟩ := h₄
    exact ⟨hF, h', tk', rfl, hx'⟩
  · refine hf D h' tk ys vs ?_ hpl hlen (fun j v e => (hP j v e).2) hF (ext_but hI hxt hk)
    cases e : h.get? D with
    | none => rfl
    | some ob => rw [hxt D ob e] at hD; cases hD

/-- a comprehension whose items are lists of their own -/
theorem comp_O {Q : Value → Shared → Prop} {elt iter : Expr} {x : Str} {px : Pos} {ifs : List Expr} {sc : Scope} {cl : List (Str × Addr)} {pos : Pos} (p : Value → Bool) (G : Value → Array Value → Prop)
    (hh : A.handled = none) (hclos : closureFor sc env = pure cl) (hcell : ∀ y ∈ sc.names, y.2 ≠ .cell) (hkind : sc.kind = .function)
    (hnames : ∀ y ∈ sc.names, y.2 = .local → sc.names.lookup y.1 = some .local) (hx : sc.names.lookup x = some .local) (hs : ∀ x, foldedSetIterable iter env x = pure x)
    {s : Shared} (H : wpAny (model prog w) A (eval iter env) (fun xv s₁ => wpAny (model prog w) A (pyIter xv) (fun it s₂ => ∃ (h : Heap) (n : Nat) (P : Nat → Value → Prop), Ready prog w h it s₂.heap n P ∧ n ≤ sizeLine ∧
      (∀ C i v h₃ g₃ d₃ tk₃ o₃ m₃ E', i < n → P i v → Fr h C h₃ m₃ → m₃ x = some v → TestIs prog w A (compEnvC sc cl C env) ifs (p v) E' ⟨h₃,g₃,d₃,tk₃,o₃⟩) ∧
      (∀ C i v h₃ g₃ d₃ tk₃ o₃ m₃ E', i < n → P i v → p v = true → Fr h C h₃ m₃ → m₃ x = some v →
        wpAny (model prog w) A (eval elt (compEnvC sc cl C env)) (fun y s₄ => (∃ T its, y = .ref T ∧ h₃.get? T = none ∧ s₄.heap.IsList T its ∧ G v its) ∧ ∃ h' tk', s₄ = ⟨h',g₃,d₃,tk',o₃⟩ ∧ Ext h₃ h') E' ⟨h₃,g₃,d₃,tk₃,o₃⟩) ∧
      (∀ D h' tk ys (vs : List Value), h.get? D = none → h'.PlainList D ys → vs.length = n → (∀ j v, vs[j]? = some v → P j v) → Paired (LstIs h G h') (vs.filter p) ys.toList → (∀ y ∈ ys.toList, y ≠ .ref D) → Ext h h' → Q (.ref D) ⟨h', s₂.gens, s₂.drawn, tk, s₂.os⟩)) E s₁) E s) :
    wpAny (model prog w) A (eval (.ListComp elt [⟨.Name x px, iter, ifs, 0⟩] sc pos) env) Q E s := by
  refine wpAny_ListComp_freeO p G hclos hcell hkind hnames hx (wpAny_mono H (fun xv s₁ h₁ => wpAny_mono h₁ (fun it s₂ h₂ => ?_) fun _ _ e => e) fun _ _ e => e) hs
  obtain ⟨h, n, P, ⟨I, fp, St, rfl, hI, W, hlive, hst, hfp, hxt, _, hsz⟩, hn, ht, he, hf⟩ := h₂
  have up : ∀ D, s₂.heap.get? D = none → h.get? D = none := fun D hD => by
    cases e : h.get? D with
    | none => rfl
    | some ob => rw [hxt D ob e] at hD; cases hD
  refine ⟨I, fp, [I], n, _, St, rfl, walks_lt (W A hh), hn, fun i h st b hb => ?_, hst, hfp, ⟨fun C i v s₃ m₃ E' hC hP hns hm hk htk => ?_, fun C i v s₃ m₃ E' hC hP hp hns hm hk htk => ?_⟩, fun D h' tk ys vs hD hl hpl hlen hP hF hnd hne hk => ?_⟩
  · obtain ⟨o, ho, _⟩ := hlive i h st
    exact ⟨o, List.mem_singleton.mp hb ▸ ho⟩
  · obtain ⟨h₃, g₃, d₃, tk₃, o₃⟩ := s₃
    exact test_of (ht C i v h₃ g₃ d₃ tk₃ o₃ m₃ E' hP.1 hP.2 ⟨hns, ext_but hI hxt hk, Nat.le_trans hsz hC⟩ hm)
  · obtain ⟨h₃, g₃, d₃, tk₃, o₃⟩ := s₃
    refine wpAny_mono (he C i v h₃ g₃ d₃ tk₃ o₃ m₃ E' hP.1 hP.2 hp ⟨hns, ext_but hI hxt hk, Nat.le_trans hsz hC⟩ hm) (fun y s₄ h₄ => ?_) fun _ _ e => e
    obtain ⟨hF, h', tk', rfl, hx'⟩ := h₄
    exact ⟨hF, h', tk', rfl, hx'⟩
  · refine hf D h' tk ys vs (up D hD) hpl hlen (fun j v e => (hP j v e).2) (hF.mono fun a b y => ?_) hne (ext_but hI hxt hk)
    obtain ⟨T, its, rfl, h1, h2, h3⟩ := y
    exact ⟨T, its, rfl, up T h1, h2, h3⟩

/-- where a turn of a loop ends -/
def StepTo (h₀ : Heap) (L : Addr) (g : Array GenState) (d : Drawn) (o : OsState) (own K0 : List (Addr × Obj)) (J : (Str → Option Value) → List (Addr × Obj) → Prop) (R : Result → Shared → Prop) (f : Flow) (s : Shared) : Prop :=
  (∃ v, f = .ret v ∧ R (.ok (.ret v)) s) ∨ ((f = .next ∨ f = .cont) ∧ ∃ h' tk m news, s = ⟨h',g,d,tk,o⟩ ∧ Fr h₀ L h' m ∧ News h₀ L h' (own ++ K0 ++ news) ∧ (∀ p ∈ news, isIter p.2 = false) ∧ J m news)

theorem forLoopW (K0 : List (Addr × Obj)) {target : Expr} {body : List Stmt} {R : Result → Shared → Prop} {it : Value} {h₂ : Heap} {n : Nat} {P : Nat → Value → Prop} {Z : Addr → Prop} (X : ReadyZ prog w h it h₂ n P Z) (hh : A.handled = none)
    (F : Fr h₀ env.locals h m) (N : News h₀ env.locals h (K0 ++ news)) (hni : ∀ p ∈ news, isIter p.2 = false)
    (hgo : ∀ v I (h : Heap) tk Q E, (∃ ob, h.get? I = some ob ∧ isIter ob = true) → Q () ⟨h,g,d,tk,o⟩ → wpAny (model prog w) A (letOwnedTupleGo target (.ref I) v) Q E ⟨h,g,d,tk,o⟩)
    (J : Nat → (Str → Option Value) → List (Addr × Obj) → Prop) (j0 : J 0 m news)
    (step : ∀ i v m₁ news₁ own h₁ tk₁ E', i < n → P i v → J i m₁ news₁ → (∀ p ∈ news₁, isIter p.2 = false) → Fr h₀ env.locals h₁ m₁ → News h₀ env.locals h₁ (own ++ K0 ++ news₁) → (∀ p ∈ own, isIter p.2 = true ∨ ∃ items nn, p.2.data = .seq items nn ∧ h.get? p.1 = some p.2 ∧ Z p.1 ∧ h₀.get? p.1 = none) →
      wpAny (model prog w) A (assign target env v) (fun _ s₂ => wpAny (model prog w) A (execs body env) (StepTo h₀ env.locals g d o own K0 (J (i + 1)) R) E' s₂) E' ⟨h₁,g,d,tk₁,o⟩)
    (fin : ∀ h' tk m' news', Fr h₀ env.locals h' m' → News h₀ env.locals h' (K0 ++ news') → (∀ p ∈ news', isIter p.2 = false) → J n m' news' → R (.ok .next) ⟨h',g,d,tk,o⟩) :
    codeAny (model prog w) A (.forLoop target it body [] env) R ⟨h₂,g,d,tk,o⟩ := by
  obtain ⟨I, fp, St, rfl, hI, W, hlive, hst, hfp, hxt, hfpk, hsz⟩ := X
  have W := W A hh
  obtain ⟨oL, esL, epL, hLget, hLd, hLr⟩ := id F.ns
  have hI0 : h₀.get? I = none := by
    cases e : h₀.get? I with
    | none => rfl
    | some ob => rw [F.keep I ob e] at hI; cases hI
  have hLI : env.locals ≠ I := fun e => by rw [e, hI] at hLget; cases hLget
  have hLf : env.locals ∉ fp := fun hm => by
    rcases hfpk _ hm with e | ⟨ob, nn, items, e, hd, _⟩
    · exact hLI e
    · rw [hLget] at e; cases e; rw [hLd] at hd; cases hd
  have hIfp : I ∈ fp := W.sub I (List.mem_singleton.mpr rfl)
  have hK0 : ∀ p ∈ K0, p.1 ≠ I := fun p hp e => by
    have h1 := (N p (List.mem_append_left _ hp)).1
    rw [e, hI] at h1; cases h1
  have apart : ∀ {h' : Heap} {news' : List (Addr × Obj)}, News h₀ env.locals h' (K0 ++ news') → (∀ p ∈ news', isIter p.2 = false) → (∃ ob, h'.get? I = some ob ∧ isIter ob = true) → ∀ p ∈ K0 ++ news', p.1 ≠ I := fun {h' news'} N' hn' ⟨ob, ho, hi⟩ p hp e => by
    rcases List.mem_append.mp hp with hp' | hp'
    · exact hK0 p hp' e
    have h1 := (N' p hp).1
    rw [e, ho] at h1
    have := hn' p hp'
    rw [← Option.some.inj h1, hi] at this
    cases this
  refine codeAny_forLoop_any
    (fun k s' => ∃ h' tk m' news' i, s' = ⟨h',g,d,tk,o⟩ ∧ St i h' ∧ Fr h₀ env.locals h' m' ∧ News h₀ env.locals h' (K0 ++ news') ∧ (∀ p ∈ news', isIter p.2 = false) ∧ J i m' news' ∧ i ≤ n ∧ k = n + 1 - i ∧ (∀ b ∈ fp, b ≠ I → ∀ ob, h.get? b = some ob → h'.get? b = some ob)) ?_ (n + 1)
    ⟨h₂, tk, m, news, 0, rfl, hst, ⟨F.ns.keeps hxt, fun b ob e => hxt b ob (F.keep b ob e), F.above⟩, fun p hp => ⟨hxt _ _ (N p hp).1, (N p hp).2⟩, hni, j0, Nat.zero_le _, rfl, fun b _ _ ob e => hxt b ob e⟩
  rintro k s' ⟨h', tk', m', news', i, rfl, hst', F', N', hni', hJ, hi, rfl, hl'⟩
  have hap := apart N' hni' (hlive _ _ hst')
  have next : ∀ h₁ : Heap, (∀ b ob, b ∉ [I] → h'.get? b = some ob → h₁.get? b = some ob) → Fr h₀ env.locals h₁ m' ∧ News h₀ env.locals h₁ (K0 ++ news') := fun h₁ hk₁ =>
    ⟨⟨F'.ns.at' fun ob e => hk₁ _ ob (fun hm => hLI (List.mem_singleton.mp hm)) e, fun b ob e => hk₁ b ob (fun hm => by rw [List.mem_singleton.mp hm, hI0] at e; cases e) (F'.keep b ob e), F'.above⟩, fun p hp => ⟨hk₁ _ _ (fun hm => hap p hp (List.mem_singleton.mp hm)) (N' p hp).1, (N' p hp).2⟩⟩
  by_cases hlt : i < n
  · refine W.item i ⟨h',g,d,tk',o⟩ _ _ hlt hst' fun v h₁ tk₁ hP hst₁ hk₁ => ?_
    obtain ⟨F₁, N₁⟩ := next h₁ hk₁
    refine hgo v I h₁ tk₁ _ _ (hlive _ _ hst₁) ?_
    have Nown : News h₀ env.locals h₁ (ownOf h₀ fp h₁) := news_ownOf hLf
    refine wpAny_mono (step i v m' news' (ownOf h₀ fp h₁) h₁ tk₁ _ hlt hP hJ hni' F₁ (by rw [List.append_assoc]; exact Nown.append N₁) ?_) (fun _ s₂ h₂ => wpAny_mono h₂ (fun f s₃ h₃ => ?_) fun _ _ e => e) fun _ _ e => e
    · intro p hp
      obtain ⟨b, hb, e⟩ := List.mem_filterMap.mp hp
      have hn : h₀.get? b = none := by
        cases hn : h₀.get? b with
        | none => rfl
        | some ob => simp [hn] at e
      have hpb : p.1 = b ∧ h₁.get? b = some p.2 := by
        cases ho : h₁.get? b with
        | none => simp [hn, ho] at e
        | some ob => have : (b, ob) = p := by simpa [hn, ho] using e
                     subst this; exact ⟨rfl, rfl⟩
      rcases hfpk b hb with rfl | ⟨ob, nn, items, ho, hd, hZ⟩
      · obtain ⟨ob, ho, hi⟩ := hlive _ _ hst₁
        rw [hpb.2] at ho
        exact .inl (Option.some.inj ho ▸ hi)
      · by_cases hbI : b = I
        · subst hbI; rw [hI] at ho; cases ho
        · have e3 := hk₁ b ob (fun hm => hbI (List.mem_singleton.mp hm)) (hl' b hb hbI ob ho)
          rw [hpb.2] at e3
          refine .inr ⟨items, nn, ?_, ?_, ?_, ?_⟩
          · rw [Option.some.inj e3]; exact hd
          · rw [hpb.1, ho, ← e3]
          · rw [hpb.1]; exact hZ
          · rw [hpb.1]; exact hn
    · rcases h₃ with ⟨v, rfl, hr⟩ | ⟨hf, h₃', tk₃, m₂, news₂, rfl, F₃, N₃, hni₃, hJ₃⟩
      · exact hr
      · have keep : ∀ b ∈ fp, ∀ ob, h₁.get? b = some ob → h₃'.get? b = some ob := fun b hb ob e => by
          cases hn : h₀.get? b with
          | some o₀ =>
            have : o₀ = ob := by have := F₁.keep b o₀ hn; rw [e] at this; exact (Option.some.inj this).symm
            exact this ▸ F₃.keep b o₀ hn
          | none => exact (N₃ _ (List.mem_append_left _ (List.mem_append_left _ (mem_ownOf hb hn e)))).1
        have goal : ∃ mm, mm < n + 1 - i ∧ ∃ h' tk m' news' i, (⟨h₃',g,d,tk₃,o⟩ : Shared) = ⟨h',g,d,tk,o⟩ ∧ St i h' ∧ Fr h₀ env.locals h' m' ∧ News h₀ env.locals h' (K0 ++ news') ∧ (∀ p ∈ news', isIter p.2 = false) ∧ J i m' news' ∧ i ≤ n ∧ mm = n + 1 - i ∧ (∀ b ∈ fp, b ≠ I → ∀ ob, h.get? b = some ob → h'.get? b = some ob) :=
          ⟨n + 1 - (i + 1), by omega, h₃', tk₃, m₂, news₂, i + 1, rfl, W.frame _ _ _ hst₁ keep, F₃, fun p hp => N₃ p (by rw [List.append_assoc]; exact List.mem_append_right _ hp), hni₃, hJ₃, hlt, rfl, fun b hb hbI ob e => keep b hb ob (hk₁ b ob (fun hm => hbI (List.mem_singleton.mp hm)) (hl' b hb hbI ob e))⟩
        rcases hf with rfl | rfl <;> exact goal
  · have hin : i = n := by omega
    subst hin
    refine W.done ⟨h',g,d,tk',o⟩ _ _ hst' fun h₁ tk₁ hk₁ => wpAny_execs_nil ?_
    obtain ⟨F₁, N₁⟩ := next h₁ hk₁
    exact fin h₁ tk₁ m' news' F₁ N₁ hni' hJ
end
end Mine
end

section
open PySem PySem.W PyProof.Rows PySem.Calls
set_option maxRecDepth 100000
set_option maxHeartbeats 1000000
namespace Mine

abbrev sl (l : List Nat) : Str := ⟨l.toArray⟩
theorem sl_app (a b : List Nat) : sl a ++ sl b = sl (a ++ b) := by
  show (⟨a.toArray ++ b.toArray⟩ : Str) = _
  rw [List.append_toArray]
theorem sl_len (a : List Nat) : (sl a).length = a.length := by
  show (sl a).cps.size = _
  simp
theorem sl_inj {a b : List Nat} (e : sl a = sl b) : a = b := by
  have := congrArg (fun s : Str => s.cps.toList) e
  simpa using this
theorem sl_beq (a b : List Nat) : ((sl a : Str) == sl b) = (a == b) := by
  rw [Bool.eq_iff_iff, beq_iff_eq, beq_iff_eq]
  exact ⟨sl_inj, fun e => e ▸ rfl⟩
theorem join_sl : ∀ ls : List (List Nat), Str.join (sl []) (ls.map sl) = sl ls.flatten
  | [] => by rfl
  | [x] => by simp [Str.join]
  | x :: y :: r => by
    have ih := join_sl (y :: r)
    simp only [List.map_cons] at ih ⊢
    show (sl x ++ sl [] ++ Str.join (sl []) (sl y :: r.map sl)) = _
    rw [ih, sl_app, sl_app]
    simp

section
variable {prog : Program} {w : World} {M : Model} {A : Around} {E : Value → Shared → Prop} {env : Env}
  {h h₀ : Heap} {g : Array GenState} {d : Drawn} {tk : Nat} {o : OsState} {Q : Value → Shared → Prop}

theorem cLit {x : Str} {l : List Nat} {k pos} (hx : x = sl l) (H : ∀ t tk, Q (.str (sl l) t) ⟨h,g,d,tk,o⟩) : wpAny M A (eval (.Constant (.str x) k pos) env) Q E ⟨h,g,d,tk,o⟩ := by
  subst hx
  exact cStr H
theorem sAddL {a b : List Nat} {t u : Tok} (hsz : a.length + b.length ≤ 16777216) (H : ∀ t tk, Q (.str (sl (a ++ b)) t) ⟨h,g,d,tk,o⟩) : wpAny (model prog w) A (binaryOp .Add (.str (sl a) t) (.str (sl b) u)) Q E ⟨h,g,d,tk,o⟩ :=
  sAdd (fun t tk => by rw [sl_app]; exact H t tk) (by rw [sl_len, sl_len, sizeLine_eq]; exact hsz)
theorem sIAddL {a b : List Nat} {t u : Tok} (hsz : a.length + b.length ≤ 16777216) (H : ∀ t tk, Q (.str (sl (a ++ b)) t) ⟨h,g,d,tk,o⟩) : wpAny (model prog w) A (inplaceOp .Add (.str (sl a) t) (.str (sl b) u)) Q E ⟨h,g,d,tk,o⟩ :=
  sIAdd (fun t tk => by rw [sl_app]; exact H t tk) (by rw [sl_len, sl_len, sizeLine_eq]; exact hsz)
theorem sEqL {a b : List Nat} {t u : Tok} (H : Q (.bool (a == b)) ⟨h,g,d,tk,o⟩) : wpAny (model prog w) A (compareOp .Eq (.str (sl a) t) (.str (sl b) u)) Q E ⟨h,g,d,tk,o⟩ :=
  sEq (by rw [sl_beq]; exact H)
theorem sNeL {a b : List Nat} {t u : Tok} (H : Q (.bool (a != b)) ⟨h,g,d,tk,o⟩) : wpAny (model prog w) A (compareOp .NotEq (.str (sl a) t) (.str (sl b) u)) Q E ⟨h,g,d,tk,o⟩ :=
  sNe (by show Q (.bool (!(sl a == sl b))) _; rw [sl_beq]; exact H)
theorem tStrL {l : List Nat} {t : Tok} {Q : Bool → Shared → Prop} (hl : l.length ≤ 16777216) (H : ∀ tk, Q (l != []) ⟨h,g,d,tk,o⟩) : wpAny (model prog w) A (truthy (.str (sl l) t)) Q E ⟨h,g,d,tk,o⟩ := by
  refine KXt.truthy (s := ⟨h,g,d,tk,o⟩) ?_ (by rw [sl_len]; exact hl) H
  rw [sl_len]
  cases l <;> rfl
theorem joinS {D : Addr} {vs : List Value} {ls : List (List Nat)} {x : Str} {t : Tok} (hx : x = sl []) (hl : h.IsList D vs.toArray) (hi : StrsAre vs (ls.map sl)) (hsz : (ls.map List.length).sum ≤ sizeLine)
    (H : ∀ t tk, Q (.str (sl ls.flatten) t) ⟨h,g,d,tk,o⟩) : wpAny (model prog w) A (call (.builtin "str.join") [.str x t, .ref D]) Q E ⟨h,g,d,tk,o⟩ := by
  subst hx
  obtain ⟨l, rfl, ht⟩ := strsAre_values hi
  refine SC.join (s := ⟨h,g,d,tk,o⟩) hl ht ?_ fun t' k => ?_
  · unfold JoinOk
    rw [StrLaws.joinTotal]
    show (!Builtin.Str.tooLong _) = true
    have e1 : ((ls.map sl).map (·.length)).sum = (ls.map List.length).sum := by
      rw [List.map_map]; congr 1
    rw [e1, sl_len]
    simp only [Builtin.Str.tooLong, List.length_nil, Nat.mul_zero, Nat.add_zero, Bool.not_eq_true', decide_eq_false_iff_not]
    omega
  · show Q (.str (Builtin.Str.glued (sl []) (ls.map sl)) t') _
    rw [StrLaws.glued_eq_join, join_sl]
    exact H t' k
end

section
variable {prog : Program} {w : World} {M : Model} {A : Around} {E : Value → Shared → Prop} {env : Env} {s : Shared} {Q : Value → Shared → Prop}
/-- a method of a text -/
def StrMeth (nm : Str) (id : String) : Prop := ∀ (M : Model) (A : Around) (E : Value → Shared → Prop) (pl : Sem Bool) (x : Str) (t : Tok) (s : Shared) (Q : Value × List Value → Shared → Prop), Q (.builtin id, [.str x t]) s → wpAny M A (getMethod (.str x t) nm pl) Q E s
theorem gm_join : StrMeth "join" "str.join" := fun _ _ _ _ _ _ _ _ h => GM.join h
theorem gm_split : StrMeth "split" "str.split" := fun _ _ _ _ _ _ _ _ h => GM.split h
theorem gm_find : StrMeth "find" "str.find" := fun _ _ _ _ _ _ _ _ h => GM.find h
theorem gm_startswith : StrMeth "startswith" "str.startswith" := fun _ _ _ _ _ _ _ _ h => GM.startswith h
theorem gm_endswith : StrMeth "endswith" "str.endswith" := fun _ _ _ _ _ _ _ _ h => GM.endswith h
theorem gm_lower : StrMeth "lower" "str.lower" := fun _ _ _ _ _ _ _ _ h => GM.lower h
theorem mStr1 {ob : Expr} {nm : Str} {id : String} {apos pos : Pos} {e : Expr} {rest : List Expr} {pl : Sem Bool} (hg : StrMeth nm id)
    (H : wpAny M A (eval ob env) (fun ov s₁ => ∃ x t, ov = .str x t ∧ wpAny M A (spliced (backTo pos (starEach (e :: rest) env))) (fun vs s₂ => wpAny M A (call (.builtin id) (.str x t :: vs)) Q E s₂) E s₁) E s)
    (he : eval (.Call (.Attribute ob nm apos) (e :: rest) [] pos) env = (do
      let ov ← eval ob env
      standAt apos.atName
      let (f, first) ← holding [ov] (getMethod ov nm pl)
      callWith pos f first (backTo pos (starEach (e :: rest) env)) []))
    (hs : starEach (e :: rest) env = (false, eval e env) :: starEach rest env) (hp : (backTo pos (starEach rest env)).any (·.1) = false) :
    wpAny M A (eval (.Call (.Attribute ob nm apos) (e :: rest) [] pos) env) Q E s := by
  refine MethodCall_ (wpAny_mono H (fun ov s₁ h₁ => ?_) fun _ _ x => x) he
  obtain ⟨x, t, rfl, h₁⟩ := h₁
  exact hg _ _ _ _ _ _ _ _ (PyProof.Rows.callWith_method1 h₁ hs hp)
theorem mStr0 {ob : Expr} {nm : Str} {id : String} {apos pos : Pos} {pl : Sem Bool} (hg : StrMeth nm id)
    (H : wpAny M A (eval ob env) (fun ov s₁ => ∃ x t, ov = .str x t ∧ wpAny M A (call (.builtin id) [.str x t]) Q E s₁) E s)
    (he : eval (.Call (.Attribute ob nm apos) [] [] pos) env = (do
      let ov ← eval ob env
      standAt apos.atName
      let (f, first) ← holding [ov] (getMethod ov nm pl)
      callWith pos f first (backTo pos (starEach [] env)) [])) :
    wpAny M A (eval (.Call (.Attribute ob nm apos) [] [] pos) env) Q E s := by
  refine MethodCall_ (wpAny_mono H (fun ov s₁ h₁ => ?_) fun _ _ x => x) he
  obtain ⟨x, t, rfl, h₁⟩ := h₁
  exact hg _ _ _ _ _ _ _ _ (PyProof.Rows.callWith_method0 h₁)
end
theorem bitAnd_nat (a b : Nat) : Builtin.bitAnd (a : Int) (b : Int) = ((a &&& b : Nat) : Int) := by
  simp [Builtin.bitAnd]
theorem xor_and_nat (a : Nat) : ∀ b : Nat, (a ^^^ b) + 2 * (a &&& b) = a + b := by
  induction a using Nat.strongRecOn with
  | _ a ih =>
    intro b
    by_cases h0 : a = 0
    · subst h0; simp
    · have h := ih (a / 2) (by omega) (b / 2)
      have h1 : (a ^^^ b) / 2 = a / 2 ^^^ b / 2 := Nat.xor_div_two
      have h2 : (a &&& b) / 2 = a / 2 &&& b / 2 := Nat.and_div_two
      have h5 : (a ^^^ b) % 2 + 2 * ((a &&& b) % 2) = a % 2 + b % 2 := by
        clear h h1 h2 ih h0
        have h3 := @Nat.and_mod_two_eq_one a b
        have e := Nat.testBit_xor (x := a) (y := b) (i := 0)
        rw [Nat.testBit_zero, Nat.testBit_zero, Nat.testBit_zero] at e
        have h4 : (a ^^^ b) % 2 = 1 ↔ ¬ (a % 2 = 1 ↔ b % 2 = 1) := by
          by_cases ha : a % 2 = 1 <;> by_cases hb : b % 2 = 1 <;> simp [ha, hb] at e ⊢ <;> omega
        clear e
        have hx := Nat.mod_lt (a ^^^ b) (Nat.zero_lt_two)
        have hy := Nat.mod_lt (a &&& b) (Nat.zero_lt_two)
        generalize (a ^^^ b) % 2 = X at *
        generalize (a &&& b) % 2 = Y at *
        rcases Nat.mod_two_eq_zero_or_one a with ha | ha <;> rcases Nat.mod_two_eq_zero_or_one b with hb | hb <;> rw [ha, hb] at h3 h4 ⊢ <;> simp at h3 h4 <;> omega
      rw [← h1, ← h2] at h
      clear h1 h2 h0 ih
      omega
theorem bitXor_nat (a b : Nat) : Builtin.bitXor (a : Int) (b : Int) = ((a ^^^ b : Nat) : Int) := by
  rw [bitXor_and, bitAnd_nat]
  have := xor_and_nat a b
  omega
/-- the t-th bit -/
def bit (a t : Nat) : Bool := a.testBit t
theorem bit_test (a t : Nat) : (Builtin.bitAnd (Int.fdiv (a : Int) (2 ^ (t : Int).toNat)) 1 != 0) = bit a t := by
  have e : Int.fdiv (a : Int) (2 ^ (t : Int).toNat) = ((a >>> t : Nat) : Int) := by
    rw [Int.toNat_natCast, show (2 : Int) ^ t = ((2 ^ t : Nat) : Int) from by push_cast; rfl, fdiv_nat, Nat.shiftRight_eq_div_pow]
  rw [e, show (1 : Int) = ((1 : Nat) : Int) from rfl, bitAnd_nat, bit, Nat.testBit]
  rw [Nat.and_comm (a >>> t) 1]
  cases hz : (1 &&& a >>> t) with
  | zero => rfl
  | succ n => rfl
end Mine
end

section
open PySem PySem.W PyProof.Rows PySem.Calls
set_option maxRecDepth 100000
set_option maxHeartbeats 1000000
namespace Mine

def intP (p : Nat → Bool) : Value → Bool
  | .int i _ => p i.toNat
  | _ => false
def tokAt (vs : List Value) (j : Nat) : Tok := match vs[j]? with
  | some (.int _ t) => t
  | _ => 0
theorem ints_range {vs : List Value} {n : Nat} (hlen : vs.length = n) (hP : ∀ (j : Nat) v, vs[j]? = some v → ∃ t, v = .int (j : Int) t) :
    vs = (List.range n).map fun (j : Nat) => Value.int (j : Int) (tokAt vs j) := by
  subst hlen
  apply List.ext_getElem?
  intro j
  by_cases hj : j < vs.length
  · have e := List.getElem?_eq_getElem hj
    obtain ⟨t, ht⟩ := hP j _ e
    rw [List.getElem?_map, List.getElem?_range hj, Option.map_some, e, ht]
    have : tokAt vs j = t := by unfold tokAt; rw [e, ht]
    rw [this]
  · rw [List.getElem?_eq_none (by omega), List.getElem?_eq_none (by simp; omega)]
theorem paired_of_map {α β γ : Type} {F : β → γ → Prop} (f : α → β) : ∀ {l : List α} {ys : List γ}, Paired F (l.map f) ys → Paired (fun a y => F (f a) y) l ys
  | [], _, h => by cases h; exact .nil
  | a :: l, _, h => by cases h with | cons h1 h2 => exact .cons h1 (paired_of_map f h2)
theorem paired_range {F : Value → Value → Prop} {V : Nat → Value → Prop} {p : Nat → Bool} {vs ys : List Value} {n : Nat} (hlen : vs.length = n) (hP : ∀ (j : Nat) v, vs[j]? = some v → ∃ t, v = .int (j : Int) t)
    (hF : ∀ (j : Nat) t y, F (.int (j : Int) t) y → V j y) (h : Paired F (vs.filter (intP p)) ys) : Paired V ((List.range n).filter p) ys := by
  rw [ints_range hlen hP, List.filter_map] at h
  have e : (intP p ∘ fun (j : Nat) => Value.int (j : Int) (tokAt vs j)) = p := by funext j; rfl
  rw [e] at h
  exact (paired_of_map _ h).mono fun a y q => hF a _ y q
theorem paired_strs {α : Type} {f : α → List Nat} : ∀ {l : List α} {ys : List Value}, Paired (fun a y => ∃ t, y = .str (sl (f a)) t) l ys → StrsAre ys ((l.map f).map sl)
  | [], _, h => by cases h; exact .nil
  | a :: l, _, h => by cases h with | cons h1 h2 => obtain ⟨t, rfl⟩ := h1; exact .cons _ t (paired_strs h2)
theorem paired_ints {α : Type} {f : α → Int} : ∀ {l : List α} {ys : List Value}, Paired (fun a y => ∃ t, y = .int (f a) t) l ys → IntsAre ys (l.map f)
  | [], _, h => by cases h; exact .nil
  | a :: l, _, h => by cases h with | cons h1 h2 => obtain ⟨t, rfl⟩ := h1; exact .cons _ t (paired_ints h2)

section
variable {prog : Program} {w : World} {M : Model} {A : Around} {E : Value → Shared → Prop} {env : Env}
  {h h₀ : Heap} {g : Array GenState} {d : Drawn} {tk : Nat} {o : OsState} {m : Str → Option Value} {news : List (Addr × Obj)}

/-- plainList D ys as an object of the ledger -/
theorem plain_obj {h : Heap} {D : Addr} {ys : Array Value} (x : h.PlainList D ys) : ∃ nn, h.get? D = some { cls := .type "list", data := .seq ys nn } := by
  obtain ⟨ep, e⟩ := x
  exact ⟨ep, e⟩

/-- a comprehension over a written range, its items plain values -/
theorem compR {Q : Value → Shared → Prop} {elt : Expr} {rp rpos : Pos} {arg : List Expr} {x : Str} {px : Pos} {ifs : List Expr} {sc : Scope} {pos : Pos} (n : Nat) (p : Nat → Bool) (V : Nat → Value → Prop) (cl : List (Str × Addr))
    (F : Fr h₀ env.locals h m) (N : News h₀ env.locals h news)
    (hh : A.handled = none) (hclos : closureFor sc env = pure cl) (hcell : ∀ y ∈ sc.names, y.2 ≠ .cell) (hkind : sc.kind = .function)
    (hnames : ∀ y ∈ sc.names, y.2 = .local → sc.names.lookup y.1 = some .local) (hx : sc.names.lookup x = some .local)
    (hs : ∀ x, foldedSetIterable (.Call (.Name "range" rp) arg [] rpos) env x = pure x) (hn : n < 16777216)
    (hit : ∀ K : Value → Shared → Prop, (∀ t tk, wpAny (model prog w) A (call (.type "range") [.int (n : Int) t]) K E ⟨h,g,d,tk,o⟩) → wpAny (model prog w) A (eval (.Call (.Name "range" rp) arg [] rpos) env) K E ⟨h,g,d,tk,o⟩)
    (ht : ∀ C (i : Nat) t h₃ g₃ d₃ tk₃ o₃ m₃ E', i < n → Fr h C h₃ m₃ → m₃ x = some (.int (i : Int) t) → TestIs prog w A (compEnvC sc cl C env) ifs (p i) E' ⟨h₃,g₃,d₃,tk₃,o₃⟩)
    (he : ∀ C (i : Nat) t h₃ g₃ d₃ tk₃ o₃ m₃ E', i < n → p i = true → Fr h C h₃ m₃ → m₃ x = some (.int (i : Int) t) →
        wpAny (model prog w) A (eval elt (compEnvC sc cl C env)) (fun y s₄ => V i y ∧ ∃ h' tk', s₄ = ⟨h',g₃,d₃,tk',o₃⟩ ∧ Ext h₃ h') E' ⟨h₃,g₃,d₃,tk₃,o₃⟩)
    (H : ∀ D h' tk ys nn, Paired V ((List.range n).filter p) ys → Ext h h' → Fr h₀ env.locals h' m → News h₀ env.locals h' ((D, { cls := .type "list", data := .seq ys.toArray nn }) :: news) → h.get? D = none → Q (.ref D) ⟨h', g, d, tk, o⟩) :
    wpAny (model prog w) A (eval (.ListComp elt [⟨.Name x px, .Call (.Name "range" rp) arg [] rpos, ifs, 0⟩] sc pos) env) Q E ⟨h,g,d,tk,o⟩ := by
  refine comp_F (intP p) (fun v y => ∃ (i : Nat) (t : Tok), v = .int (i : Int) t ∧ V i y) hh hclos hcell hkind hnames hx hs (hit _ fun t tk => it_range rfl (by omega) fun it h₂ tk X => ?_)
  refine ⟨h, n, _, X, by rw [sizeLine_eq]; omega, ?_, ?_, ?_⟩
  · intro C i v h₃ g₃ d₃ tk₃ o₃ m₃ E' hi hP F₃ hm
    obtain ⟨t, rfl⟩ := hP
    exact ht C i t h₃ g₃ d₃ tk₃ o₃ m₃ E' hi F₃ hm
  · intro C i v h₃ g₃ d₃ tk₃ o₃ m₃ E' hi hP hp F₃ hm
    obtain ⟨t, rfl⟩ := hP
    exact wpAny_mono (he C i t h₃ g₃ d₃ tk₃ o₃ m₃ E' hi hp F₃ hm) (fun y s₄ q => ⟨⟨i, t, rfl, q.1⟩, q.2⟩) fun _ _ e => e
  · intro D h' tk' ys vs hD hpl hlen hP hF hxt
    obtain ⟨nn, ho⟩ := plain_obj hpl
    have hLD : D ≠ env.locals := fun e => by
      obtain ⟨oL, _, _, hL, _⟩ := F.ns
      rw [e, hL] at hD; cases hD
    have hD0 : h₀.get? D = none := by
      cases e : h₀.get? D with
      | none => rfl
      | some ob => rw [F.keep D ob e] at hD; cases hD
    refine H D h' tk' ys.toList nn (paired_range hlen hP (fun j t y q => ?_) hF) hxt ⟨F.ns.keeps hxt, fun b ob e => hxt b ob (F.keep b ob e), F.above⟩ (fun q hq => ?_) hD
    · obtain ⟨i, t', e, hv⟩ := q
      cases e
      exact hv
    · rcases List.mem_cons.mp hq with rfl | hq
      · exact ⟨by simpa using ho, hLD, hD0⟩
      · exact ⟨hxt _ _ (N q hq).1, (N q hq).2⟩
/-- a call of a def of the text -/
theorem cFn {e : DefItem} {f : Addr} {pos : Pos} {a : Expr} {rest : List Expr} {Q : Value → Shared → Prop} {s : Shared} (hf : Fn e h₀ f)
    (H : wpAny M A (spliced (backTo pos (starEach (a :: rest) env))) (fun vs s₁ => Ext h₀ s₁.heap ∧ wpAny M A (call (.ref f) vs) Q E s₁) E s)
    (he : starEach (a :: rest) env = (false, eval a env) :: starEach rest env) :
    wpAny M A (callWith pos (.ref f) [] (backTo pos (starEach (a :: rest) env)) []) Q E s := by
  obtain ⟨ob, pm, c', doc, ho, hd, hc⟩ := hf
  exact callWith_def hd (wpAny_mono H (fun vs s₁ h₁ => ⟨h₁.1 _ _ ho, h₁.2⟩) fun _ _ x => x) he
theorem mem_dB1 : dB1 ∈ defs0 := List.Mem.head _
theorem mem_dB3 : dB3 ∈ defs0 := List.Mem.tail _ (List.Mem.head _)
theorem mem_dC8 : dC8 ∈ defs0 := List.Mem.tail _ (List.Mem.tail _ (List.Mem.head _))
theorem mem_dC9 : dC9 ∈ defs0 := List.Mem.tail _ (List.Mem.tail _ (List.Mem.tail _ (List.Mem.head _)))
theorem mem_dEll : dEll ∈ defs0 := List.Mem.tail _ (List.Mem.tail _ (List.Mem.tail _ (List.Mem.tail _ (List.Mem.head _))))
theorem mem_dIter : dIter ∈ defs0 := List.Mem.tail _ (List.Mem.tail _ (List.Mem.tail _ (List.Mem.tail _ (List.Mem.tail _ (List.Mem.head _)))))
theorem mem_dStrip : dStrip ∈ defs0 := List.Mem.tail _ (List.Mem.tail _ (List.Mem.tail _ (List.Mem.tail _ (List.Mem.tail _ (List.Mem.tail _ (List.Mem.head _))))))
theorem mem_dSign : dSign ∈ defs0 := List.Mem.tail _ (List.Mem.tail _ (List.Mem.tail _ (List.Mem.tail _ (List.Mem.tail _ (List.Mem.tail _ (List.Mem.tail _ (List.Mem.head _)))))))
theorem mem_dMark : dMark ∈ defs0 := List.Mem.tail _ (List.Mem.tail _ (List.Mem.tail _ (List.Mem.tail _ (List.Mem.tail _ (List.Mem.tail _ (List.Mem.tail _ (List.Mem.tail _ (List.Mem.head _))))))))
theorem mem_dMarks : dMarks ∈ defs0 := List.Mem.tail _ (List.Mem.tail _ (List.Mem.tail _ (List.Mem.tail _ (List.Mem.tail _ (List.Mem.tail _ (List.Mem.tail _ (List.Mem.tail _ (List.Mem.tail _ (List.Mem.head _)))))))))
theorem mem_dLetter : dLetter ∈ defs0 := List.Mem.tail _ (List.Mem.tail _ (List.Mem.tail _ (List.Mem.tail _ (List.Mem.tail _ (List.Mem.tail _ (List.Mem.tail _ (List.Mem.tail _ (List.Mem.tail _ (List.Mem.tail _ (List.Mem.head _))))))))))
theorem mem_dItems : dItems ∈ defs0 := List.Mem.tail _ (List.Mem.tail _ (List.Mem.tail _ (List.Mem.tail _ (List.Mem.tail _ (List.Mem.tail _ (List.Mem.tail _ (List.Mem.tail _ (List.Mem.tail _ (List.Mem.tail _ (List.Mem.tail _ (List.Mem.head _)))))))))))
theorem mem_dKnown : dKnown ∈ defs0 := List.Mem.tail _ (List.Mem.tail _ (List.Mem.tail _ (List.Mem.tail _ (List.Mem.tail _ (List.Mem.tail _ (List.Mem.tail _ (List.Mem.tail _ (List.Mem.tail _ (List.Mem.tail _ (List.Mem.tail _ (List.Mem.tail _ (List.Mem.head _))))))))))))
theorem mem_dBegun : dBegun ∈ defs0 := List.Mem.tail _ (List.Mem.tail _ (List.Mem.tail _ (List.Mem.tail _ (List.Mem.tail _ (List.Mem.tail _ (List.Mem.tail _ (List.Mem.tail _ (List.Mem.tail _ (List.Mem.tail _ (List.Mem.tail _ (List.Mem.tail _ (List.Mem.tail _ (List.Mem.head _)))))))))))))
theorem mem_dTold : dTold ∈ defs0 := List.Mem.tail _ (List.Mem.tail _ (List.Mem.tail _ (List.Mem.tail _ (List.Mem.tail _ (List.Mem.tail _ (List.Mem.tail _ (List.Mem.tail _ (List.Mem.tail _ (List.Mem.tail _ (List.Mem.tail _ (List.Mem.tail _ (List.Mem.tail _ (List.Mem.tail _ (List.Mem.head _))))))))))))))
theorem mem_dLaw : dLaw ∈ defs0 := List.Mem.tail _ (List.Mem.tail _ (List.Mem.tail _ (List.Mem.tail _ (List.Mem.tail _ (List.Mem.tail _ (List.Mem.tail _ (List.Mem.tail _ (List.Mem.tail _ (List.Mem.tail _ (List.Mem.tail _ (List.Mem.tail _ (List.Mem.tail _ (List.Mem.tail _ (List.Mem.tail _ (List.Mem.head _)))))))))))))))
end
end Mine
end

section
open PySem PySem.W PyProof.Rows PySem.Calls
set_option maxRecDepth 100000
set_option maxHeartbeats 1000000
namespace Mine

theorem frExt {h₀ h : Heap} {L : Addr} {m : Str → Option Value} (F : Fr h₀ L h m) : Ext h₀ h := F.keep
theorem frGrow {h₀ h h' : Heap} {L : Addr} {m : Str → Option Value} (F : Fr h₀ L h m) (hx : Ext h h') : Fr h₀ L h' m := ⟨F.ns.keeps hx, fun b ob e => hx b ob (F.keep b ob e), F.above⟩
theorem newsGrow {h₀ h h' : Heap} {L : Addr} {news : List (Addr × Obj)} (N : News h₀ L h news) (hx : Ext h h') : News h₀ L h' news := fun p hp => ⟨hx _ _ (N p hp).1, (N p hp).2⟩
theorem newsAdd {h₀ h₁ h : Heap} {L D : Addr} {ob : Obj} {m : Str → Option Value} {news : List (Addr × Obj)} (F : Fr h₀ L h₁ m) (N : News h₀ L h news) (hn : h₁.get? D = none) (ho : h.get? D = some ob) : News h₀ L h ((D, ob) :: news) := fun q hq => by
  rcases List.mem_cons.mp hq with rfl | hq
  · refine ⟨ho, ?_, ?_⟩
    · rintro rfl
      obtain ⟨oL, _, _, hL, _⟩ := F.ns
      rw [hn] at hL; cases hL
    · cases e : h₀.get? D with
      | none => rfl
      | some ob' => rw [F.keep D ob' e] at hn; cases hn
  · exact N q hq
theorem News.one {h₀ h : Heap} {L : Addr} {p : Addr × Obj} (x : h.get? p.1 = some p.2 ∧ p.1 ≠ L ∧ h₀.get? p.1 = none) : News h₀ L h [p] := fun q hq => by
  rw [List.mem_singleton.mp hq]; exact x
theorem iteMono {α : Type} {M : Model} {A : Around} {c : Prop} [Decidable c] {X Y : Sem α} {Q Q' : α → Shared → Prop} {E : Value → Shared → Prop} {s : Shared} (h : if c then wpAny M A X Q' E s else wpAny M A Y Q' E s) (hq : ∀ v s, Q' v s → Q v s) :
    if c then wpAny M A X Q E s else wpAny M A Y Q E s := by
  by_cases hc : c
  · rw [if_pos hc] at h ⊢; exact wpAny_mono h hq fun _ _ x => x
  · rw [if_neg hc] at h ⊢; exact wpAny_mono h hq fun _ _ x => x
abbrev lst (vs : List Value) (n : Nat) : Obj := { cls := .type "list", data := .seq vs.toArray n }
theorem lst_is {h : Heap} {D : Addr} {vs : List Value} {n : Nat} (x : h.get? D = some (lst vs n)) : h.IsList D vs.toArray := ⟨_, x, rfl, n, rfl⟩

section
variable {prog : Program} {w : World} {M : Model} {A : Around} {E : Value → Shared → Prop} {env : Env}
  {h h₀ : Heap} {g : Array GenState} {d : Drawn} {tk : Nat} {o : OsState} {m : Str → Option Value} {news : List (Addr × Obj)} {L : Addr}

/-- x.append(e) -/
theorem mApp {Q : Value → Shared → Prop} {s : Shared} {ob : Expr} {apos pos : Pos} {e : Expr} {pl : Sem Bool}
    (H : wpAny (model prog w) A (eval ob env) (fun ov s₁ => ∃ D vs n, ov = .ref D ∧ s₁.heap.get? D = some (lst vs n) ∧ wpAny (model prog w) A (spliced (backTo pos (starEach [e] env))) (fun vs s₂ => wpAny (model prog w) A (call (.builtin "list.append") (.ref D :: vs)) Q E s₂) E s₁) E s)
    (he : eval (.Call (.Attribute ob "append" apos) [e] [] pos) env = (do
      let ov ← eval ob env
      standAt apos.atName
      let (f, first) ← holding [ov] (getMethod ov "append" pl)
      callWith pos f first (backTo pos (starEach [e] env)) []))
    (hs : starEach [e] env = (false, eval e env) :: starEach [] env) (hp : (backTo pos (starEach [] env)).any (·.1) = false) :
    wpAny (model prog w) A (eval (.Call (.Attribute ob "append" apos) [e] [] pos) env) Q E s := by
  refine MethodCall_ (wpAny_mono H (fun ov s₁ h₁ => ?_) fun _ _ x => x) he
  obtain ⟨D, vs, n, rfl, h₁, h₂⟩ := h₁
  exact getMethod_list_append h₁ rfl rfl (PyProof.Rows.callWith_method1 h₂ hs hp)

theorem lApp {Q : Value → Shared → Prop} {D : Addr} {ys : List Value} {n : Nat} {x : Value} {pre post : List (Addr × Obj)}
    (F : Fr h₀ L h m) (N : News h₀ L h (pre ++ (D, lst ys n) :: post)) (hsz : ys.length ≤ 16777216) (ha : ∀ p ∈ pre, p.1 ≠ D) (hb : ∀ p ∈ post, p.1 ≠ D)
    (H : ∀ h', Fr h₀ L h' m → News h₀ L h' (pre ++ (D, lst (ys ++ [x]) (n + 1)) :: post) → Heap.SameBut D h h' → Q .none ⟨h',g,d,tk,o⟩) :
    wpAny (model prog w) A (call (.builtin "list.append") [.ref D, x]) Q E ⟨h,g,d,tk,o⟩ := by
  have hm := N _ (List.mem_append_right pre (List.Mem.head post))
  refine append_at (s := ⟨h,g,d,tk,o⟩) (hsz := by rw [List.size_toArray, sizeLine_eq]; exact hsz) hm.1 fun h' hs ho' => ?_
  have e : ys.toArray.push x = (ys ++ [x]).toArray := by simp
  rw [e] at ho'
  exact H h' (F.change hs hm.2.1 hm.2.2) (N.setIn ha hb hs ho') hs

theorem seq_list_iadd : seqSlot? (.type "list") (dunderI "add") = pure (some (.builtin "list.__iadd__")) := PySem.seqSlot_of PySem.F.slot_list_iadd.lookup (by decide +kernel)
theorem inplaceOp_iconcat {a b : Value} {Q : Value → Shared → Prop} {s : Shared} (ha : s.TypeIs a "list") (hb : s.TypeIs b "list")
    (hc : wpAny M A (call (.builtin "list.__iadd__") [a, b]) Q E s) : wpAny M A (inplaceOp .Add a b) Q E s := by
  unfold inplaceOp
  refine wpAny_holding ?_
  have hfi : fillsInplaceSlot (.type "list") "add" (Operator.Add == .Add) = pure false := by
    unfold fillsInplaceSlot
    show (typeLookup (.type "list") (dunderI "add") >>= fun fi => pure (fi.isSome && !isSeqSlot fi)) = pure false
    rw [PySem.F.slot_list_iadd.lookup]; rfl
  refine wpAny_bind (wpAny_typeOf ha (wpAny_bind (wpAny_of_eq hfi ?_)))
  show wpAny M A (if false = true then _ else _) Q E s
  rw [if_neg Bool.false_ne_true]
  refine wpAny_bind (wpAny_binaryOp1_none (nm := "add") ha hb noFill_list_add ?_)
  refine wpAny_bind (wpAny_of_eq seq_list_iadd ?_)
  exact wpAny_bind (wpAny_rule hc)

theorem lIAdd {Q : Value → Shared → Prop} {D B : Addr} {ys zs : List Value} {n : Nat} {pre post : List (Addr × Obj)}
    (F : Fr h₀ L h m) (N : News h₀ L h (pre ++ (D, lst ys n) :: post)) {k : Nat} (hB : h.get? B = some (lst zs k)) (hsz : ys.length + zs.length ≤ 16777215) (ha : ∀ p ∈ pre, p.1 ≠ D) (hb : ∀ p ∈ post, p.1 ≠ D)
    (H : ∀ h', Fr h₀ L h' m → ∀ n', News h₀ L h' (pre ++ (D, lst (ys ++ zs) n') :: post) → Heap.SameBut D h h' → Q (.ref D) ⟨h',g,d,tk,o⟩) :
    wpAny (model prog w) A (inplaceOp .Add (.ref D) (.ref B)) Q E ⟨h,g,d,tk,o⟩ := by
  have hm := N _ (List.mem_append_right pre (List.Mem.head post))
  refine inplaceOp_iconcat ⟨_, hm.1, rfl⟩ ⟨_, hB, rfl⟩ ?_
  refine call_meets PySem.F.slot_list_iadd ⟨_, hm.1, rfl⟩ PySem.F.entry_list_iadd (PySem.F.args_list_iadd_2 _ _) (AutoSeq1.list___iadd___list_list_0 D ys.toArray n B zs.toArray k ?_ ?_ ?_) ⟨hm.1, hB, ?_⟩
  · simp only [Builtin.List.listTooLong, List.size_toArray, sizeLine_eq, Bool.and_eq_true, decide_eq_true_eq]; omega
  · rw [List.size_toArray, sizeLine_eq]; omega
  · rw [List.size_toArray, List.size_toArray, sizeLine_eq]; omega
  · have hs : Heap.SameBut D h (h.update D (Obj.mapSeq fun x => x ++ zs.toArray)) := Heap.SameBut.update ..
    obtain ⟨n', e⟩ : ∃ n', Obj.mapSeq (fun x => x ++ zs.toArray) (lst ys n) = lst (ys ++ zs) n' := by
      have e1 : ys.toArray ++ zs.toArray = (ys ++ zs).toArray := by simp
      exact ⟨_, by simp only [Obj.mapSeq, e1]; rfl⟩
    have ho' : (h.update D (Obj.mapSeq fun x => x ++ zs.toArray)).get? D = some (lst (ys ++ zs) n') := by
      rw [Heap.get?_update_self _ hm.1 (by show (Obj.mapSeq (fun x => x ++ zs.toArray) (lst ys n)).isFreed = false; rw [e]; rfl)]
      exact congrArg some e
    exact H _ (F.change hs hm.2.1 hm.2.2) n' (N.setIn ha hb hs ho') hs

theorem lAdd {Q : Value → Shared → Prop} {l b : Addr} {vs ws : List Value} (F : Fr h₀ L h m) (N : News h₀ L h news) (hl : h.IsList l vs.toArray) (hb : h.IsList b ws.toArray) (hsz : vs.length + ws.length ≤ 16777216)
    (H : ∀ h' p, Fr h₀ L h' m → News h₀ L h' ((p, lst (vs ++ ws) 0) :: news) → Ext h h' → Q (.ref p) ⟨h',g,d,tk,o⟩) :
    wpAny (model prog w) A (binaryOp .Add (.ref l) (.ref b)) Q E ⟨h,g,d,tk,o⟩ := by
  obtain ⟨⟨cls, dd, data, sl⟩, ho, hc, n, hd⟩ := id hl
  obtain ⟨⟨cls2, dd2, data2, sl2⟩, ho2, hc2, n2, hd2⟩ := id hb
  simp only at hc hd hc2 hd2
  subst hc hd hc2 hd2
  have e : vs.toArray ++ ws.toArray = (vs ++ ws).toArray := by simp
  refine concat_meets ⟨_, ho, rfl⟩ ⟨_, ho2, rfl⟩ noFill_list_add seq_list_add PySem.F.slot_list_add PySem.F.entry_list_add (PySem.F.args_list_add_2 _ _) (list_addW l b vs.toArray ws.toArray n n2 dd dd2 sl sl2 (by rw [sizeLine_eq]; simpa using hsz)) ⟨ho, ho2, ?_⟩
  rw [e]
  exact H _ _ (F.push _) (News.push F N _) fun _ _ e => Heap.get?_push_of_some _ e
end

/-- the items: a bit word, the signs, what they mean -/
abbrev Item := Nat × List Nat × List Nat
def ItemAt (h : Heap) (it : Item) (v : Value) : Prop := ∃ q u₁ u₂ u₃, v = .ref q ∧ h.IsList q #[.int it.1 u₁, .str (sl it.2.1) u₂, .str (sl it.2.2) u₃]
theorem IsList.ext {h h' : Heap} {q : Addr} {its : Array Value} (x : h.IsList q its) (k : Ext h h') : h'.IsList q its :=
  let ⟨o, a, b⟩ := x; ⟨o, k _ _ a, b⟩
theorem ItemAt.ext {h h' : Heap} {it : Item} {v : Value} (x : ItemAt h it v) (k : Ext h h') : ItemAt h' it v :=
  let ⟨q, u, u', u'', e, y⟩ := x; ⟨q, u, u', u'', e, IsList.ext y k⟩
theorem Paired.app {α β : Type} {F : α → β → Prop} {l' : List α} {m' : List β} : ∀ {l : List α} {m : List β}, Paired F l m → Paired F l' m' → Paired F (l ++ l') (m ++ m')
  | _, _, .nil, h => h
  | _, _, .cons a t, h => .cons a (Paired.app t h)
def Items (h : Heap) (its : List Item) (vs : List Value) : Prop := Paired (ItemAt h) its vs
theorem Items.ext {h h' : Heap} {its : List Item} {vs : List Value} (x : Items h its vs) (k : Ext h h') : Items h' its vs := Paired.mono (F := ItemAt h) (fun _ _ y => y.ext k) x
/-- no item is the list of them -/
def Refs (vs : List Value) : Prop := ∀ v ∈ vs, ∃ q, v = .ref q
theorem Items.refs {h : Heap} : ∀ {its : List Item} {vs : List Value}, Items h its vs → Refs vs
  | _, _, .nil => fun _ hv => nomatch hv
  | _, _, .cons ⟨q, _, _, _, e, _⟩ t => fun v hv => by
    rcases List.mem_cons.mp hv with rfl | hv
    · exact ⟨q, e⟩
    · exact Items.refs t v hv
theorem item_ne {h : Heap} {q D : Addr} {u₁ u₂ u₃ : Tok} {a : Int} {b c : Str} {vs : List Value} {n : Nat} (x : h.IsList q #[.int a u₁, .str b u₂, .str c u₃]) (y : h.get? D = some (lst vs n)) (hr : Refs vs) : q ≠ D := by
  rintro rfl
  obtain ⟨o, ho, _, k, hd⟩ := x
  rw [y] at ho
  cases Option.some.inj ho
  have e : vs.toArray = #[.int a u₁, .str b u₂, .str c u₃] := by
    have := hd
    injection this
  have e2 : vs = [.int a u₁, .str b u₂, .str c u₃] := by simpa using congrArg Array.toList e
  obtain ⟨q, e3⟩ := hr (.int a u₁) (by rw [e2]; exact .head _)
  cases e3
theorem ItemAt.same {h h' : Heap} {D : Addr} {vs : List Value} {n : Nat} {it : Item} {v : Value} (x : ItemAt h it v) (hs : Heap.SameBut D h h') (y : h.get? D = some (lst vs n)) (hr : Refs vs) : ItemAt h' it v := by
  obtain ⟨q, u, u', u'', e, z⟩ := x
  have hne := item_ne z y hr
  obtain ⟨ob, ho, hc⟩ := z
  exact ⟨q, u, u', u'', e, ob, (hs.2 q hne).trans ho, hc⟩
theorem Items.same {h h' : Heap} {D : Addr} {vs ws : List Value} {n : Nat} {its : List Item} (x : Items h its ws) (hs : Heap.SameBut D h h') (y : h.get? D = some (lst vs n)) (hr : Refs vs) : Items h' its ws :=
  Paired.mono (F := ItemAt h) (fun _ _ z => z.same hs y hr) x
theorem ItemAt.sameL {h₀ h h' : Heap} {L : Addr} {m : Str → Option Value} {it : Item} {v : Value} (x : ItemAt h it v) (F : Fr h₀ L h m) (hs : Heap.SameBut L h h') : ItemAt h' it v := by
  obtain ⟨q, u, u', u'', e, ob, ho, hc, k, hd⟩ := x
  have hne : q ≠ L := by
    rintro rfl
    obtain ⟨oL, _, _, hL, hdL, _⟩ := F.ns
    rw [ho] at hL
    cases Option.some.inj hL
    rw [hd] at hdL; cases hdL
  exact ⟨q, u, u', u'', e, ob, (hs.2 q hne).trans ho, hc, k, hd⟩
theorem Items.sameL {h₀ h h' : Heap} {L : Addr} {m : Str → Option Value} {its : List Item} {vs : List Value} (x : Items h its vs) (F : Fr h₀ L h m) (hs : Heap.SameBut L h h') : Items h' its vs :=
  Paired.mono (F := ItemAt h) (fun _ _ z => z.sameL F hs) x
theorem Items.app {h : Heap} {a b : List Item} {vs ws : List Value} (x : Items h a vs) (y : Items h b ws) : Items h (a ++ b) (vs ++ ws) := Paired.app x y
theorem Items.one {h : Heap} {a : Item} {v : Value} (x : ItemAt h a v) : Items h [a] [v] := .cons x .nil
theorem paired_map_left {α β γ : Type} {F : γ → β → Prop} (f : α → γ) : ∀ {l : List α} {ys : List β}, Paired (fun a y => F (f a) y) l ys → Paired F (l.map f) ys
  | [], _, h => by cases h; exact .nil
  | a :: l, _, h => by cases h with | cons h1 h2 => exact .cons h1 (paired_map_left f h2)

section
variable {prog : Program} {w : World} {M : Model} {A : Around} {E : Value → Shared → Prop} {env : Env}
  {h h₀ : Heap} {g : Array GenState} {d : Drawn} {tk : Nat} {o : OsState} {m : Str → Option Value} {news : List (Addr × Obj)}
/-- a comprehension over a written range, its items lists of their own -/
theorem compRO {Q : Value → Shared → Prop} {elt : Expr} {rp rpos : Pos} {arg : List Expr} {x : Str} {px : Pos} {ifs : List Expr} {sc : Scope} {pos : Pos} (n : Nat) (p : Nat → Bool) (V : Nat → Item) (cl : List (Str × Addr))
    (F : Fr h₀ env.locals h m) (N : News h₀ env.locals h news)
    (hh : A.handled = none) (hclos : closureFor sc env = pure cl) (hcell : ∀ y ∈ sc.names, y.2 ≠ .cell) (hkind : sc.kind = .function)
    (hnames : ∀ y ∈ sc.names, y.2 = .local → sc.names.lookup y.1 = some .local) (hx : sc.names.lookup x = some .local)
    (hs : ∀ x, foldedSetIterable (.Call (.Name "range" rp) arg [] rpos) env x = pure x) (hn : n < 16777216)
    (hit : ∀ K : Value → Shared → Prop, (∀ t tk, wpAny (model prog w) A (call (.type "range") [.int (n : Int) t]) K E ⟨h,g,d,tk,o⟩) → wpAny (model prog w) A (eval (.Call (.Name "range" rp) arg [] rpos) env) K E ⟨h,g,d,tk,o⟩)
    (ht : ∀ C (i : Nat) t h₃ g₃ d₃ tk₃ o₃ m₃ E', i < n → Fr h C h₃ m₃ → m₃ x = some (.int (i : Int) t) → TestIs prog w A (compEnvC sc cl C env) ifs (p i) E' ⟨h₃,g₃,d₃,tk₃,o₃⟩)
    (he : ∀ C (i : Nat) t h₃ g₃ d₃ tk₃ o₃ m₃ E', i < n → p i = true → Fr h C h₃ m₃ → m₃ x = some (.int (i : Int) t) →
        wpAny (model prog w) A (eval elt (compEnvC sc cl C env)) (fun y s₄ => (∃ T u₁ u₂ u₃, y = .ref T ∧ h₃.get? T = none ∧ s₄.heap.IsList T #[.int (V i).1 u₁, .str (sl (V i).2.1) u₂, .str (sl (V i).2.2) u₃]) ∧ ∃ h' tk', s₄ = ⟨h',g₃,d₃,tk',o₃⟩ ∧ Ext h₃ h') E' ⟨h₃,g₃,d₃,tk₃,o₃⟩)
    (H : ∀ D h' tk ys nn, Items h' (((List.range n).filter p).map V) ys → Ext h h' → Fr h₀ env.locals h' m → News h₀ env.locals h' ((D, lst ys nn) :: news) → h.get? D = none → Q (.ref D) ⟨h', g, d, tk, o⟩) :
    wpAny (model prog w) A (eval (.ListComp elt [⟨.Name x px, .Call (.Name "range" rp) arg [] rpos, ifs, 0⟩] sc pos) env) Q E ⟨h,g,d,tk,o⟩ := by
  refine comp_O (intP p) (fun v its => ∃ (i : Nat) (t u₁ u₂ u₃ : Tok), v = .int (i : Int) t ∧ its = #[.int (V i).1 u₁, .str (sl (V i).2.1) u₂, .str (sl (V i).2.2) u₃]) hh hclos hcell hkind hnames hx hs (hit _ fun t tk => it_range rfl (by omega) fun it h₂ tk X => ?_)
  refine ⟨h, n, _, X, by rw [sizeLine_eq]; omega, ?_, ?_, ?_⟩
  · intro C i v h₃ g₃ d₃ tk₃ o₃ m₃ E' hi hP F₃ hm
    obtain ⟨t, rfl⟩ := hP
    exact ht C i t h₃ g₃ d₃ tk₃ o₃ m₃ E' hi F₃ hm
  · intro C i v h₃ g₃ d₃ tk₃ o₃ m₃ E' hi hP hp F₃ hm
    obtain ⟨t, rfl⟩ := hP
    exact wpAny_mono (he C i t h₃ g₃ d₃ tk₃ o₃ m₃ E' hi hp F₃ hm) (fun y s₄ q => let ⟨⟨T, u₁, u₂, u₃, e1, e2, e3⟩, e4⟩ := q; ⟨⟨T, _, e1, e2, e3, i, t, u₁, u₂, u₃, rfl, rfl⟩, e4⟩) fun _ _ e => e
  · intro D h' tk' ys vs hD hpl hlen hP hF hne hxt
    obtain ⟨nn, ho⟩ := plain_obj hpl
    have hLD : D ≠ env.locals := fun e => by
      obtain ⟨oL, _, _, hL, _⟩ := F.ns
      rw [e, hL] at hD; cases hD
    have hD0 : h₀.get? D = none := by
      cases e : h₀.get? D with
      | none => rfl
      | some ob => rw [F.keep D ob e] at hD; cases hD
    have hI : Paired (fun i y => ItemAt h' (V i) y) ((List.range n).filter p) ys.toList := paired_range hlen hP (fun j t y q => by
      obtain ⟨T, its, rfl, e1, e2, i, t', u₁, u₂, u₃, e3, rfl⟩ := q
      cases e3
      exact ⟨T, u₁, u₂, u₃, rfl, e2⟩) hF
    refine H D h' tk' ys.toList nn (paired_map_left V hI) hxt ⟨F.ns.keeps hxt, fun b ob e => hxt b ob (F.keep b ob e), F.above⟩ (fun q hq => ?_) hD
    rcases List.mem_cons.mp hq with rfl | hq
    · exact ⟨by simpa [lst] using ho, hLD, hD0⟩
    · exact ⟨hxt _ _ (N q hq).1, (N q hq).2⟩
end
section
variable {prog : Program} {w : World} {M : Model} {A : Around} {E : Value → Shared → Prop} {env : Env}
  {h h₀ : Heap} {g : Array GenState} {d : Drawn} {tk : Nat} {o : OsState} {Q : Value → Shared → Prop} {value slice : Expr}
theorem gIntsX {p : Addr} {l : List Value} {ns : List Nat} {i : Int} (j : Nat) {x : Nat} {u : Tok} (hij : i = (j : Int)) (hl : h.IsList p l.toArray) (hi : IntsAre l (ns.map fun n : Nat => (n : Int)))
    (hx : ns[j]? = some x) (hfit : j < 1000) (H : ∀ t, Q (.int (x : Nat) t) ⟨h,g,d,tk,o⟩)
    (hs : subscripted slice false (.ref p) (.int i u) = operate [.ref p, .int i u] (getItem (.ref p) (.int i u))) :
    wpAny (model prog w) A (subscriptTail value slice (.ref p) (.int i u)) Q E ⟨h,g,d,tk,o⟩ := by
  subst hij
  have hlt : j < ns.length := by
    by_cases hh : j < ns.length
    · exact hh
    · rw [List.getElem?_eq_none (by omega)] at hx; cases hx
  refine gInts hl hi (Int.natCast_nonneg _) (by omega) (by omega) (fun t => ?_) hs
  have : ns.getD (j : Int).toNat 0 = x := by rw [Int.toNat_natCast, List.getD_eq_getElem?_getD, hx]; rfl
  rw [this]
  exact H t
end
theorem Refs.app {a b : List Value} (x : Refs a) (y : Refs b) : Refs (a ++ b) := fun v hv => (List.mem_append.mp hv).elim (x v) (y v)
end Mine
end

section
open PySem PySem.W PyProof.Rows PySem.Calls
set_option maxRecDepth 100000
set_option maxHeartbeats 1000000
namespace Mine

def litInt : Expr → Int
  | .Constant (.int i) _ _ => i
  | _ => 0
def litStr : Expr → Str
  | .Constant (.str x) _ _ => x
  | _ => ⟨#[]⟩
def dictPairs : Stmt → List (Int × Str)
  | .Assign _ (.Dict ks vs _) _ => (ks.map fun k => match k with | some e => litInt e | none => 0).zip (vs.map litStr)
  | _ => []
def b3Pairs : List (Int × Str) := match pw.main.body[3]? with
  | some st => dictPairs st
  | none => []
def b3 (c : Nat) : Option Str := (b3Pairs.find? fun p => p.1 == (c : Int)).map (·.2)
/-- what folding makes of a sign that no table holds -/
def folded (c : Nat) : List Nat := ((b3 c).getD (Txt.lower (sl [c]))).cps.toList

def inB1 (c : Nat) : Bool := [173, 847, 6150, 6155, 6156, 6157, 8203, 8204, 8205, 8288, 65279].contains c || (decide (65024 ≤ c) && decide (c < 65040))
def inC8 (c : Nat) : Bool := [832, 833, 8206, 8207].contains c || (decide (8234 ≤ c) && decide (c < 8239)) || (decide (8298 ≤ c) && decide (c < 8304))
def inC9 (c : Nat) : Bool := c == 917505 || (decide (917536 ≤ c) && decide (c < 917632))

def SetIs (f : Nat → Bool) (o : Obj) : Prop := ∃ S n, n < scanBound ∧ o.IntSetOf S n ∧ ∀ c : Nat, S (c : Int) = f c
def MapObj {prog : Program} {w : World} {K : Type} [DecidableEq K] (knd : KeyKind prog w K) (o : Obj) (F : K → Option Value) : Prop :=
  ∃ es ep, o.ExactDict ∧ o.data = .dict es ep ∧ KeysOf knd es ∧ ∀ k, findBy knd.is es k = F k
theorem MapObj.mapOf {prog : Program} {w : World} {K : Type} [DecidableEq K] {knd : KeyKind prog w K} {o : Obj} {F : K → Option Value} {h : Heap} {a : Addr} (x : MapObj knd o F) (ho : h.get? a = some o) : h.MapOf knd a F :=
  let ⟨es, ep, r⟩ := x; ⟨o, es, ep, ho, r⟩
theorem MapObj.of {prog : Program} {w : World} {K : Type} [DecidableEq K] {knd : KeyKind prog w K} {F : K → Option Value} {h : Heap} {a : Addr} (x : h.MapOf knd a F) : ∃ o, h.get? a = some o ∧ MapObj knd o F :=
  let ⟨o, es, ep, ho, r⟩ := x; ⟨o, ho, es, ep, r⟩
def B3Is (o : Obj) : Prop := ∃ F : Int → Option Value, (∀ prog w, MapObj (intKind prog w) o F) ∧ ∀ c : Nat, match b3 c with
  | none => F c = none
  | some x => ∃ t, F c = some (.str x t)
def objs0 : List (Str × (Obj → Prop)) := [("b1_set", SetIs inB1), ("c8_set", SetIs inC8), ("c9_set", SetIs inC9), ("b3_exceptions", B3Is)]

section
variable {prog : Program} {w : World} {M : Model} {A : Around} {E : Value → Shared → Prop} {env : Env}
  {h h₀ : Heap} {g : Array GenState} {d : Drawn} {tk : Nat} {o : OsState} {m : Str → Option Value} {news : List (Addr × Obj)} {L : Addr} {Q : Value → Shared → Prop}

theorem inSet {a : Addr} {ob : Obj} {f : Nat → Bool} {c : Nat} {t : Tok} (ho : h.get? a = some ob) (hs : SetIs f ob) (H : ∀ tk, Q (.bool (f c)) ⟨h,g,d,tk,o⟩) :
    wpAny (model prog w) A (compareOp .In (.int (c : Int) t) (.ref a)) Q E ⟨h,g,d,tk,o⟩ := by
  obtain ⟨S, n, hn, hS, hf⟩ := hs
  refine wpAny_inSet_of (s := ⟨h,g,d,tk,o⟩) (knd := intKind prog w) (k := (c : Int)) (by show Value.isInt (c : Int) (.int (c : Int) t) = true; simp [Value.isInt]) rfl ((hS.kind prog w).setOf ho hn) ?_
  rw [hf]
  exact H _

theorem isInt_self {prog : Program} {w : World} {k : Int} {t : Tok} : (intKind prog w).is k (.int k t) = true := by simp [intKind, Value.isInt]
theorem isStr_self {prog : Program} {w : World} {k : Str} {t : Tok} : (PySem.strKind prog w).is k (.str k t) = true := by simp [PySem.strKind, Value.isStrOf]
/-- d.get(e) -/
theorem mGet {s : Shared} {ob : Expr} {apos pos : Pos} {e : Expr} {pl : Sem Bool} {K : Type} [DecidableEq K] {knd : KeyKind prog w K}
    (H : wpAny (model prog w) A (eval ob env) (fun ov s₁ => ∃ D oD f, ov = .ref D ∧ s₁.heap.get? D = some oD ∧ MapObj knd oD f ∧ (D == sysModules) = false ∧
      wpAny (model prog w) A (eval e env) (fun key s₂ => ∃ k, knd.is k key = true ∧ s₂.heap.get? D = some oD ∧ Q ((f k).getD .none) { s₂ with toks := s₂.toks + 1 }) E s₁) E s)
    (he : eval (.Call (.Attribute ob "get" apos) [e] [] pos) env = (do
      let ov ← eval ob env
      standAt apos.atName
      let (f, first) ← holding [ov] (getMethod ov "get" pl)
      callWith pos f first (backTo pos (starEach [e] env)) []))
    (hs : backTo pos (starEach [e] env) = [(false, eval e env)]) :
    wpAny (model prog w) A (eval (.Call (.Attribute ob "get" apos) [e] [] pos) env) Q E s := by
  refine MethodCall_ (wpAny_mono H (fun ov s₁ h₁ => ?_) fun _ _ x => x) he
  obtain ⟨D, oD, f, rfl, h1, h2, h3, h4⟩ := h₁
  have hm := h2.mapOf h1
  refine getMethod_builtin hm.typeIs PySem.F.plainAttrs_dict PySem.F.slot_dict_get PySem.F.type_dict_get hm.noDict ?_
  rw [hs]
  refine wpAny_dict_get1 (knd := knd) h3 ?_
  refine wpAny_mono h4 (fun key s₂ q => ?_) fun _ _ x => x
  obtain ⟨k, hk, h5, h6⟩ := q
  exact ⟨k, f, hk, h2.mapOf h5, h6⟩
end
end Mine
end

section
open PySem PySem.W PyProof.Rows PySem.Calls
set_option maxRecDepth 100000
set_option maxHeartbeats 1000000
namespace Mine

section
variable {prog : Program} {w : World} {M : Model} {A : Around} {E : Value → Shared → Prop} {env : Env}
  {h h₀ : Heap} {g : Array GenState} {d : Drawn} {tk : Nat} {o : OsState} {m : Str → Option Value} {news : List (Addr × Obj)} {L : Addr}

theorem goName {x : Str} {px : Pos} : ∀ (v : Value) (I : Addr) (h : Heap) (tk : Nat) (Q : Unit → Shared → Prop) (E : Value → Shared → Prop), (∃ ob, h.get? I = some ob ∧ isIter ob = true) → Q () ⟨h,g,d,tk,o⟩ → wpAny M A (letOwnedTupleGo (.Name x px) (.ref I) v) Q E ⟨h,g,d,tk,o⟩ :=
  fun _ _ _ _ _ _ _ hQ => wpAny_pure hQ
theorem goTuple {elts : List Expr} {k} {pos : Pos} : ∀ (v : Value) (I : Addr) (h : Heap) (tk : Nat) (Q : Unit → Shared → Prop) (E : Value → Shared → Prop), (∃ ob, h.get? I = some ob ∧ isIter ob = true) → Q () ⟨h,g,d,tk,o⟩ → wpAny (model prog w) A (letOwnedTupleGo (.Tuple elts k pos) (.ref I) v) Q E ⟨h,g,d,tk,o⟩ := by
  intro v I h tk Q E ⟨ob, ho, hi⟩ hQ
  cases v with
  | ref T =>
    unfold letOwnedTupleGo
    refine wpAny_bind (wpAny_load ho ?_)
    unfold isIter at hi
    split at hi
    · rename_i hd
      split at hi
      · rename_i t hc
        rw [hc, hd]
        dsimp only
        have e : (["enumerate", "zip", "dict_itemiterator", "dict_reverseitemiterator", "odict_iterator", "itertools.zip_longest", "itertools.pairwise"].contains t) = false := by
          simp only [Bool.or_eq_true, beq_iff_eq] at hi
          rcases hi with ((rfl | rfl) | rfl) | rfl <;> decide
        rw [e, Bool.false_and, if_neg Bool.false_ne_true]
        exact wpAny_pure hQ
      · cases hi
    · cases hi
  | _ => exact wpAny_pure hQ

theorem xFor {target iter : Expr} {body : List Stmt} {pos : Pos} {rest : List Stmt} {Q : Flow → Shared → Prop} {s : Shared}
    (H : wpAny M A (eval iter env) (fun x s₁ => wpAny M A (pyIter x) (fun it s₂ =>
      codeAny M A (.forLoop target it body [] env) (fun r s' => match r with
        | .ok f => (match f with
          | .next => wpAny M A (execs rest env) Q E s'
          | f => Q f s')
        | .error e => cameBackBy M A env E e s') s₂) E s₁) E s)
    (hs : ∀ x, foldedSetIterable iter env x = pure x := by intro _; rfl) :
    wpAny M A (execs (.For target iter body [] pos :: rest) env) Q E s := by
  refine wpAny_execs_cons (wpAny_For (wpAny_mono H (fun x s₁ h₁ => wpAny_mono h₁ (fun it s₂ h₂ => ?_) fun _ _ e => e) fun _ _ e => e) hs)
  refine codeAny_mono h₂ fun r s' h' => ?_
  cases r with
  | ok f => cases f <;> exact h'
  | error e => exact h'

-- unpacking a list
theorem draw_W {I : Addr} {fp : List Addr} {n : Nat} {P : Nat → Value → Prop} {St : Nat → Heap → Prop} (W : Walks prog w A I fp [I] n P St) :
    ∀ (k i : Nat) (h : Heap) (tk : Nat) (Q : List Value → Shared → Prop), i + k ≤ n → St i h →
      (∀ h' tk' vs, vs.length = k → (∀ j v, vs[j]? = some v → P (i + j) v) → St (i + k) h' → (∀ b ob, b ∉ [I] → h.get? b = some ob → h'.get? b = some ob) → Q vs ⟨h',g,d,tk',o⟩) →
      wpAny (model prog w) A (draw (.ref I) k) Q E ⟨h,g,d,tk,o⟩
  | 0, i, h, tk, Q, _, st, H => wpAny_pure (H h tk [] rfl (fun j v e => by simp at e) st fun _ _ _ e => e)
  | k + 1, i, h, tk, Q, hle, st, H => by
    show wpAny _ _ (pyNext (.ref I) >>= _) Q E _
    refine wpAny_bind (W.item i ⟨h,g,d,tk,o⟩ _ _ (by omega) st fun v h₁ tk₁ hP st₁ hk₁ => ?_)
    refine wpAny_bind (wpAny_holding (draw_W W k (i + 1) h₁ tk₁ _ (by omega) st₁ fun h₂ tk₂ vs hlen hPs st₂ hk₂ => wpAny_pure ?_))
    refine H h₂ tk₂ (v :: vs) (by simp [hlen]) (fun j v' e => ?_) (by rw [show i + (k + 1) = i + 1 + k by omega]; exact st₂) fun b ob hb e => hk₂ b ob hb (hk₁ b ob hb e)
    cases j with
    | zero => simp at e; rw [← e]; exact hP
    | succ j => rw [show i + (j + 1) = i + 1 + j by omega]; exact hPs j v' (by simpa using e)
theorem list_of_at {vs : List Value} {items : Array Value} (hlen : vs.length = items.size) (h : ∀ (j : Nat) v, vs[j]? = some v → items[0 + j]? = some v) : vs = items.toList := by
  apply List.ext_getElem?
  intro j
  by_cases hj : j < vs.length
  · have e := List.getElem?_eq_getElem hj
    have := h j _ e
    rw [Nat.zero_add] at this
    rw [e, ← this]; simp
  · rw [List.getElem?_eq_none (by omega), List.getElem?_eq_none (by simp; omega)]
theorem unpackItems_list {l : Addr} {items : Array Value} {Q : List Value → Shared → Prop} (hh : A.handled = none) (hl : h.IsList l items)
    (H : ∀ h' tk, Ext h h' → Q items.toList ⟨h',g,d,tk,o⟩) : wpAny (model prog w) A (unpackItems (.ref l) items.size none) Q E ⟨h,g,d,tk,o⟩ := by
  have hlt : l ≠ h.objs.size := by obtain ⟨o, ho, _⟩ := hl; exact Nat.ne_of_lt (Heap.lt_size ho)
  have W := Walks.list (prog := prog) (w := w) (A := A) hh h.objs.size l hlt items
  have keep : ∀ {h' h'' : Heap}, Ext h h' → (∀ b ob, b ∉ [h.objs.size] → h'.get? b = some ob → h''.get? b = some ob) → Ext h h'' := fun hx hk => ext_but (fresh_of_le (Nat.le_refl _)) hx hk
  unfold unpackItems
  refine wpAny_bind ?_
  · unfold notIterableAtAll
    refine wpAny_bind (wpAny_specialOf hl.typeIs slot_list_iter.lookup ?_)
    refine wpAny_pure ?_
    simp only [Bool.false_eq_true, if_false]
    refine wpAny_bind (wpAny_holding (wpAny_pyIter_list hl ?_))
    refine wpAny_bind (wpAny_holding (draw_W W items.size 0 _ tk _ (by omega) ⟨⟨_, Heap.get?_push_size _ rfl, rfl, rfl⟩, hl.push _⟩ fun h₁ tk₁ vs hlen hP st hk => ?_))
    have e := list_of_at hlen hP
    subst e
    rw [if_neg (by simp)]
    refine wpAny_bind (wpAny_holding (W.done ⟨h₁,g,d,tk₁,o⟩ _ _ (by rw [Nat.zero_add] at st; exact st) fun h₂ tk₂ hk₂ => ?_))
    simp only [Option.isSome_none, Bool.false_eq_true, if_false]
    exact wpAny_pure (H h₂ tk₂ (keep (keep (fun b o e => Heap.get?_push_of_some _ e) hk) hk₂))
theorem assign_list {elts : List Expr} {k} {pos : Pos} {t : Addr} {items : Array Value} {Q : Unit → Shared → Prop} (hh : A.handled = none) (ht : h.IsList t items)
    (hn : (assignEach elts env).length = items.size) (hstar : (assignEach elts env).findIdx? (·.1) = none)
    (H : ∀ h' tk, Ext h h' → wpAny (model prog w) A (assignInOrder ((assignEach elts env).map (·.2)) items.toList) Q E ⟨h',g,d,tk,o⟩) :
    wpAny (model prog w) A (assign (.Tuple elts k pos) env (.ref t)) Q E ⟨h,g,d,tk,o⟩ := by
  rw [arm_assign_Tuple]
  refine wpAny_bind (wpAny_standAt ?_)
  unfold unpack
  rw [hn, hstar]
  exact wpAny_bind (wpAny_holding (unpackItems_list hh ht H))
theorem assign_name {x : Str} {px : Pos} {v : Value} {Q : Unit → Shared → Prop} {s : Shared} (h : wpAny M A (storeName env x v) Q E s) : wpAny M A (assign (.Name x px) env v) Q E s := wpAny_assign_Name h
theorem unpack2 {x y : Str} {px py pos : Pos} {k} {q : Addr} {a b : Value} {Q : Unit → Shared → Prop} (hh : A.handled = none) (F : Fr h₀ env.locals h m) (N : News h₀ env.locals h news) (hl : h.IsList q #[a, b])
    (H : ∀ h' tk, Fr h₀ env.locals h' (fun z => if z = y then some b else if z = x then some a else m z) → News h₀ env.locals h' news → (∀ p ob, p ≠ env.locals → h.get? p = some ob → h'.get? p = some ob) → Q () ⟨h',g,d,tk,o⟩)
    (hk : env.scope.kind = .function) (hx : env.kindOf x = some .local) (hy : env.kindOf y = some .local) :
    wpAny (model prog w) A (assign (.Tuple [.Name x px, .Name y py] k pos) env (.ref q)) Q E ⟨h,g,d,tk,o⟩ := by
  refine assign_list hh hl rfl rfl fun h1 tk1 hx1 => ?_
  refine assignInOrder_cons (assign_name (stS (frGrow F hx1) (newsGrow N hx1) (fun h2 tk2 F2 N2 s2 => ?_) hk hx))
  refine assignInOrder_cons (assign_name (stS F2 N2 (fun h3 tk3 F3 N3 s3 => ?_) hk hy))
  exact assignInOrder_nil (H h3 tk3 F3 N3 fun p ob hp e => by rw [s3.2 p hp, s2.2 p hp]; exact hx1 p ob e)
theorem unpack3 {x y z : Str} {px py pz pos : Pos} {k} {q : Addr} {a b c : Value} {Q : Unit → Shared → Prop} (hh : A.handled = none) (F : Fr h₀ env.locals h m) (N : News h₀ env.locals h news) (hl : h.IsList q #[a, b, c])
    (H : ∀ h' tk, Fr h₀ env.locals h' (fun u => if u = z then some c else if u = y then some b else if u = x then some a else m u) → News h₀ env.locals h' news → (∀ p ob, p ≠ env.locals → h.get? p = some ob → h'.get? p = some ob) → Q () ⟨h',g,d,tk,o⟩)
    (hk : env.scope.kind = .function) (hx : env.kindOf x = some .local) (hy : env.kindOf y = some .local) (hz : env.kindOf z = some .local) :
    wpAny (model prog w) A (assign (.Tuple [.Name x px, .Name y py, .Name z pz] k pos) env (.ref q)) Q E ⟨h,g,d,tk,o⟩ := by
  refine assign_list hh hl rfl rfl fun h1 tk1 hx1 => ?_
  refine assignInOrder_cons (assign_name (stS (frGrow F hx1) (newsGrow N hx1) (fun h2 tk2 F2 N2 s2 => ?_) hk hx))
  refine assignInOrder_cons (assign_name (stS F2 N2 (fun h3 tk3 F3 N3 s3 => ?_) hk hy))
  refine assignInOrder_cons (assign_name (stS F3 N3 (fun h4 tk4 F4 N4 s4 => ?_) hk hz))
  exact assignInOrder_nil (H h4 tk4 F4 N4 fun p ob hp e => by rw [s4.2 p hp, s3.2 p hp, s2.2 p hp]; exact hx1 p ob e)

-- dicts of the ledger
section
variable {K : Type} [DecidableEq K] {knd : KeyKind prog w K} {D : Addr} {oD : Obj} {kvs : List (K × Value)} {k : K} {key v : Value} {pre post : List (Addr × Obj)}
theorem dict_noIter (x : oD.IsDictOf knd kvs) : isIter oD = false := by
  obtain ⟨es, ep, _, hd, _⟩ := x
  unfold isIter
  rw [hd]
theorem dNew {pos : Pos} {Q : Value → Shared → Prop} (knd : KeyKind prog w K) (hlim : h₀.NoLimit) (F : Fr h₀ L h m) (N : News h₀ L h news)
    (H : ∀ h' D oD, Fr h₀ L h' m → News h₀ L h' ((D, oD) :: news) → Ext h h' → oD.IsDictOf knd [] → (D == sysModules) = false → Q (.ref D) ⟨h',g,d,tk,o⟩) :
    wpAny (model prog w) A (eval (.Dict [] [] pos) env) Q E ⟨h,g,d,tk,o⟩ := by
  refine wpAny_Dict_empty (H _ _ { cls := .type "dict", data := .dict #[] } (F.push _) (N.push F _) (fun _ _ e => Heap.get?_push_of_some _ e) ?_ (F.notModules (modules_low hlim)))
  exact ⟨#[], _, ⟨rfl, rfl, rfl⟩, rfl, (by intro e he; simp at he), .nil, by simp⟩
theorem dSet {Q : Unit → Shared → Prop} (hkey : knd.is k key = true) (F : Fr h₀ L h m) (N : News h₀ L h (pre ++ (D, oD) :: post)) (hd : oD.IsDictOf knd kvs) (ha : ∀ p ∈ pre, p.1 ≠ D) (hb : ∀ p ∈ post, p.1 ≠ D) (hsz : kvs.length ≤ sizeLine)
    (H : ∀ h' oD' tk, Fr h₀ L h' m → News h₀ L h' (pre ++ (D, oD') :: post) → oD'.IsDictOf knd (stored kvs k v) → Heap.SameBut D h h' → Q () ⟨h',g,d,tk,o⟩) :
    wpAny (model prog w) A (setItem (.ref D) key v) Q E ⟨h,g,d,tk,o⟩ := by
  have hm := N _ (List.mem_append_right pre (List.Mem.head post))
  refine wpAny_setItem_pairs (s := ⟨h,g,d,tk,o⟩) (hsz := hsz) hkey (Heap.dictOf_iff.mpr ⟨oD, hm.1, hd⟩) fun h' hmm hs => ?_
  obtain ⟨o', ho', hd'⟩ := Heap.dictOf_iff.mp hmm
  exact H h' o' _ (F.change hs hm.2.1 hm.2.2) (N.setIn ha hb hs ho') hd' hs
theorem dNotIn {Q : Value → Shared → Prop} (hkey : knd.is k key = true) (ho : h.get? D = some oD) (hd : oD.IsDictOf knd kvs) (hm : (D == sysModules) = false)
    (H : ∀ tk, Q (.bool (!(valueAt kvs k).isSome)) ⟨h,g,d,tk,o⟩) : wpAny (model prog w) A (compareOp .NotIn key (.ref D)) Q E ⟨h,g,d,tk,o⟩ :=
  wpAny_notIn_of (s := ⟨h,g,d,tk,o⟩) hkey hm (Heap.DictOf.mapOf (Heap.dictOf_iff.mpr ⟨oD, ho, hd⟩)) (H _)
theorem dItem {value slice : Expr} {Q : Value → Shared → Prop} (hkey : knd.is k key = true) (ho : h.get? D = some oD) (hd : oD.IsDictOf knd kvs) (hv : valueAt kvs k = some v)
    (H : ∀ tk, Q v ⟨h,g,d,tk,o⟩)
    (hs : subscripted slice false (.ref D) key = operate [.ref D, key] (getItem (.ref D) key)) : wpAny (model prog w) A (subscriptTail value slice (.ref D) key) Q E ⟨h,g,d,tk,o⟩ := by
  have hD : h.DictOf knd D kvs := Heap.dictOf_iff.mpr ⟨oD, ho, hd⟩
  unfold subscriptTail
  refine wpAny_bind ?_
  have hT : (⟨h,g,d,tk,o⟩ : Shared).TypeIs (.ref D) "dict" := Heap.DictOf.typeIs (s := ⟨h,g,d,tk,o⟩) hD
  rw [getitemInPython_of_ne hT.not_modules]
  refine wpAny_bind (wpAny_specialOf (s := ⟨h,g,d,tk,o⟩) hT slot_dict_getitem.lookup ?_)
  have fin : wpAny (model prog w) A (subscripted slice false (.ref D) key) (fun r s₃ => wpAny (model prog w) A (letTemporaryGo value (.ref D) r >>= fun _ => pure r) Q E s₃) E ⟨h,g,d,tk,o⟩ := by
    rw [hs]
    exact wpAny_operating (wpAny_getItem_of (s := ⟨h,g,d,tk,o⟩) hkey hD.mapOf hv (wpAny_bind (wpAny_letTemporaryGo (wpAny_pure (H _)))))
  first
    | exact wpAny_pure (wpAny_bind fin)
    | exact wpAny_bind (wpAny_pure (wpAny_bind fin))
    | exact wpAny_bind fin
theorem dTrue {Q : Bool → Shared → Prop} (ho : h.get? D = some oD) (hd : oD.IsDictOf knd kvs) (hm : (D == sysModules) = false) (hfit : (kvs.length : Int) < 2 ^ 63)
    (H : ∀ tk, Q (!kvs.isEmpty) ⟨h,g,d,tk,o⟩) : wpAny (model prog w) A (truthy (.ref D)) Q E ⟨h,g,d,tk,o⟩ :=
  wpAny_truthy_dict (s := ⟨h,g,d,tk,o⟩) hm (Heap.dictOf_iff.mpr ⟨oD, ho, hd⟩) hfit (H _)
end
theorem stCell {x : Str} {v : Value} {v₀ : Option Value} {c : Addr} {oc : Obj} {pre post : List (Addr × Obj)} {Q : Unit → Shared → Prop} (F : Fr h₀ L h m) (N : News h₀ L h (pre ++ (c, oc) :: post)) (hc : env.cells.lookup x = some c) (hd : oc.data = .cell v₀)
    (ha : ∀ p ∈ pre, p.1 ≠ c) (hb : ∀ p ∈ post, p.1 ≠ c)
    (H : ∀ h' oc', Fr h₀ L h' m → News h₀ L h' (pre ++ (c, oc') :: post) → oc'.data = .cell (some v) → Heap.SameBut c h h' → Q () ⟨h',g,d,tk,o⟩)
    (hk : env.scope.kind = .function) (hl : env.kindOf x = some .cell) : wpAny M A (storeName env x v) Q E ⟨h,g,d,tk,o⟩ := by
  have hm := N _ (List.mem_append_right pre (List.Mem.head post))
  refine wpAny_storeName_cell (s := ⟨h,g,d,tk,o⟩) hk hl hc ⟨oc, hm.1, hd⟩ fun h' hv' hs => ?_
  obtain ⟨oc', ho', hd'⟩ := hv'
  exact H h' oc' (F.change hs hm.2.1 hm.2.2) (N.setIn ha hb hs ho') hd' hs
theorem xSetItem {ob i value : Expr} {pos' pos : Pos} {rest : List Stmt} {Q : Flow → Shared → Prop} {s : Shared}
    (H : wpAny M A (eval value env) (fun v s₁ => wpAny M A (eval ob env) (fun ov s₂ => wpAny M A (eval i env) (fun iv s₃ =>
      wpAny M A (setItem ov iv v) (fun _ s₄ => wpAny M A (execs rest env) Q E s₄) E s₃) E s₂) E s₁) E s)
    (hs : swapsWith value (some (.Subscript ob i pos')) pos.line env = pure false) : wpAny M A (execs (.Assign [.Subscript ob i pos'] value pos :: rest) env) Q E s :=
  wpAny_execs_cons (wpAny_Assign_Subscript H hs)
theorem lTrue {vs : List Value} {D : Addr} {Q : Bool → Shared → Prop} (hl : h.IsList D vs.toArray) (hsz : vs.length ≤ 16777216) (H : ∀ tk, Q (!vs.isEmpty) ⟨h,g,d,tk,o⟩) : wpAny (model prog w) A (truthy (.ref D)) Q E ⟨h,g,d,tk,o⟩ := by
  refine wpAny_truthy_list (s := ⟨h,g,d,tk,o⟩) hl (by rw [List.size_toArray]; omega) ?_
  rw [show (!vs.toArray.isEmpty) = !vs.isEmpty from by simp]
  exact H _
theorem toNat_ite (b : Bool) : (if b = true then (1 : Int) else 0) = (b.toNat : Int) := by cases b <;> rfl
theorem aMulB {a : Int} {t : Tok} {b : Bool} {Q : Value → Shared → Prop} (H : ∀ t tk, Q (.int (a * (b.toNat : Int)) t) ⟨h,g,d,tk,o⟩) : wpAny (model prog w) A (binaryOp .Mult (.int a t) (.bool b)) Q E ⟨h,g,d,tk,o⟩ :=
  IntBool.mul_int_bool (s := ⟨h,g,d,tk,o⟩) (by rw [toNat_ite]; exact H _ _)
theorem aAddB {a : Bool} {b : Int} {u : Tok} {Q : Value → Shared → Prop} (H : ∀ t tk, Q (.int ((a.toNat : Int) + b) t) ⟨h,g,d,tk,o⟩) : wpAny (model prog w) A (binaryOp .Add (.bool a) (.int b u)) Q E ⟨h,g,d,tk,o⟩ :=
  IntBool.add_bool_int (s := ⟨h,g,d,tk,o⟩) (by rw [toNat_ite]; exact H _ _)
theorem aSubB {a : Int} {t : Tok} {b : Bool} {Q : Value → Shared → Prop} (H : ∀ t tk, Q (.int (a - (b.toNat : Int)) t) ⟨h,g,d,tk,o⟩) : wpAny (model prog w) A (binaryOp .Sub (.int a t) (.bool b)) Q E ⟨h,g,d,tk,o⟩ :=
  IntBool.sub_int_bool (s := ⟨h,g,d,tk,o⟩) (by rw [toNat_ite]; exact H _ _)
end
end Mine
end

section
open PySem PySem.W PyProof.Rows PySem.Calls
set_option maxRecDepth 100000
set_option maxHeartbeats 1000000
namespace Mine

/-- what kind of thing an object is -/
def tag (o : Obj) : Nat := match o.data with
  | .seq _ _ => 0
  | .dict _ _ => 1
  | .cell _ => 2
  | .fields _ => 3
  | _ => 4
theorem tag_dict {prog : Program} {w : World} {K : Type} [DecidableEq K] {knd : KeyKind prog w K} {kvs : List (K × Value)} {o : Obj} (x : o.IsDictOf knd kvs) : tag o = 1 := by
  obtain ⟨es, ep, _, hd, _⟩ := x
  unfold tag; rw [hd]
theorem tag_cell {o : Obj} {v : Option Value} (x : o.data = .cell v) : tag o = 2 := by unfold tag; rw [x]
theorem tag_iter {o : Obj} (x : isIter o = true) : tag o = 3 := by
  unfold isIter at x
  split at x
  · rename_i hd; unfold tag; rw [hd]
  · cases x
theorem noIter_tag {o : Obj} (x : tag o ≠ 3) : isIter o = false := by
  cases h : isIter o with
  | false => rfl
  | true => exact absurd (tag_iter h) x
theorem Own.tag {R : Addr × Obj → Array Value → Nat → Prop} {own : List (Addr × Obj)} (x : ∀ p ∈ own, isIter p.2 = true ∨ ∃ items nn, p.2.data = .seq items nn ∧ R p items nn) : ∀ p ∈ own, tag p.2 = 0 ∨ tag p.2 = 3 := fun p hp => by
  rcases x p hp with hi | ⟨items, nn, hd, _⟩
  · exact .inr (tag_iter hi)
  · left; unfold Mine.tag; rw [hd]
theorem newsApart {h₀ h : Heap} {L : Addr} {news : List (Addr × Obj)} (N : News h₀ L h news) {a b : Addr × Obj} (ha : a ∈ news) (hb : b ∈ news) (ht : tag a.2 ≠ tag b.2) : a.1 ≠ b.1 := fun e => by
  have h1 := (N a ha).1
  have h2 := (N b hb).1
  rw [e, h2] at h1
  exact ht (congrArg tag (Option.some.inj h1).symm)
/-- entries of a ledger that lie apart from one of another kind -/
theorem newsApartL {h₀ h : Heap} {L : Addr} {news l : List (Addr × Obj)} (N : News h₀ L h news) {b : Addr × Obj} (hb : b ∈ news) (hl : ∀ p ∈ l, p ∈ news ∧ tag p.2 ≠ tag b.2) : ∀ p ∈ l, p.1 ≠ b.1 := fun p hp => newsApart N (hl p hp).1 hb (hl p hp).2

def kBits (c : Nat) : Nat := (inB1 c).toNat + 2 * (inC8 c).toNat + 4 * (inC9 c).toNat
def kText (c : Nat) : List Nat := if kBits c = 0 then folded c else [c]
/-- a sign's entry: what is left of it, and its tables -/
def KV (vals : List (Addr × Obj)) (c : Nat) (v : Value) : Prop := ∃ q t u n, v = .ref q ∧ (q, lst [.str (sl (kText c)) t, .int (kBits c : Nat) u] n) ∈ vals
def KnownIs (vals : List (Addr × Obj)) (S : List Nat) (kvs : List (Str × Value)) : Prop := Paired (fun c kv => kv.1 = sl [c] ∧ KV vals c kv.2) S kvs
theorem KnownIs.more {vals vals' : List (Addr × Obj)} {S : List Nat} {kvs : List (Str × Value)} (x : KnownIs vals S kvs) (hs : ∀ p ∈ vals, p ∈ vals') : KnownIs vals' S kvs :=
  Paired.mono (F := fun (c : Nat) (kv : Str × Value) => kv.1 = sl [c] ∧ KV vals c kv.2) (fun _ _ ⟨e, q, t, u, n, e2, hm⟩ => ⟨e, q, t, u, n, e2, hs _ hm⟩) x
theorem sl_one_ne {a b : Nat} (h : a ≠ b) : (sl [a] : Str) ≠ sl [b] := fun e => h (List.singleton_inj.mp (sl_inj e))
theorem KnownIs.at {vals : List (Addr × Obj)} {c : Nat} : ∀ {S : List Nat} {kvs : List (Str × Value)}, KnownIs vals S kvs → c ∈ S → ∃ v, valueAt kvs (sl [c]) = some v ∧ KV vals c v
  | _, _, .cons (a := a) (b := kv) ⟨e, hv⟩ t, hc => by
    by_cases hca : a = c
    · subst hca
      exact ⟨kv.2, by simp [valueAt, e], hv⟩
    · obtain ⟨v, h1, h2⟩ := KnownIs.at t ((List.mem_cons.mp hc).resolve_left fun e => hca e.symm)
      refine ⟨v, ?_, h2⟩
      have : kv.1 ≠ sl [c] := by rw [e]; exact sl_one_ne hca
      simpa [valueAt, List.find?_cons, this] using h1
theorem KnownIs.not {vals : List (Addr × Obj)} {c : Nat} : ∀ {S : List Nat} {kvs : List (Str × Value)}, KnownIs vals S kvs → c ∉ S → valueAt kvs (sl [c]) = none
  | _, _, .nil, _ => rfl
  | _, _, .cons (a := a) (b := kv) ⟨e, hv⟩ t, hc => by
    have h1 := KnownIs.not t fun h => hc (List.mem_cons_of_mem _ h)
    have : kv.1 ≠ sl [c] := by rw [e]; exact sl_one_ne fun e => hc (e ▸ List.Mem.head _)
    simpa [valueAt, List.find?_cons, this] using h1
theorem KnownIs.snoc {vals : List (Addr × Obj)} {c : Nat} {v : Value} {S : List Nat} {kvs : List (Str × Value)} (x : KnownIs vals S kvs) (y : KV vals c v) : KnownIs vals (S ++ [c]) (kvs ++ [(sl [c], v)]) :=
  Paired.app x (.cons ⟨rfl, y⟩ .nil)
end Mine
namespace Mine
theorem paired_at {α β : Type} {F : α → β → Prop} : ∀ {l : List α} {ys : List β}, Paired F l ys → ∀ (i : Nat) v, ys[i]? = some v → ∃ a, l[i]? = some a ∧ F a v
  | _, _, .nil, i, v, e => by simp at e
  | _, _, .cons h t, 0, v, e => by simp at e; exact ⟨_, rfl, e ▸ h⟩
  | _, _, .cons h t, i + 1, v, e => by simpa using paired_at t i v (by simpa using e)
/-- the table as it stands on the way -/
def KnInv (w : World) (K c : Addr) (P : Nat → Prop) (b : Nat) (news : List (Addr × Obj)) : Prop :=
  ∃ oD oc kvs vals S, news = (K, oD) :: (c, oc) :: vals ∧ oD.IsDictOf (PySem.strKind pw w) kvs ∧ oc.data = .cell (some (.ref K)) ∧ KnownIs vals S kvs ∧ (∀ p ∈ vals, tag p.2 = 0) ∧ (∀ x, x ∈ S ↔ P x) ∧ S.length ≤ b
theorem KnInv.noIter {w : World} {K c : Addr} {P : Nat → Prop} {b : Nat} {news : List (Addr × Obj)} (x : KnInv w K c P b news) : ∀ p ∈ news, isIter p.2 = false := by
  obtain ⟨oD, oc, kvs, vals, S, rfl, hd, hc, _, ht, _⟩ := x
  intro p hp
  refine noIter_tag ?_
  rcases List.mem_cons.mp hp with rfl | hp
  · rw [tag_dict hd]; decide
  rcases List.mem_cons.mp hp with rfl | hp
  · rw [tag_cell hc]; decide
  · rw [ht p hp]; decide
theorem KnInv.imp {w : World} {K c : Addr} {P P' : Nat → Prop} {b b' : Nat} {news : List (Addr × Obj)} (x : KnInv w K c P b news) (hP : ∀ x, P x ↔ P' x) (hb : b ≤ b') : KnInv w K c P' b' news := by
  obtain ⟨oD, oc, kvs, vals, S, h1, h2, h3, h4, h5, h6, h7⟩ := x
  exact ⟨oD, oc, kvs, vals, S, h1, h2, h3, h4, h5, fun x => (h6 x).trans (hP x), Nat.le_trans h7 hb⟩
theorem take_succ_some {α : Type} {l : List α} {i : Nat} {a : α} (e : l[i]? = some a) : l.take (i + 1) = l.take i ++ [a] := by
  rw [List.take_succ, e]; rfl
theorem sum_take_le (l : List Nat) : ∀ i, (l.take i).sum ≤ l.sum := by
  induction l with
  | nil => intro i; simp
  | cons a l ih => intro i; cases i with
    | zero => simp
    | succ i => simpa using ih i
end Mine
namespace Mine
def strP (p : Nat → Bool) : Value → Bool
  | .str x _ => p (x.cps.getD 0 0)
  | _ => false
theorem paired_signs {F : Value → Value → Prop} {V : Nat → Value → Prop} {p : Nat → Bool} (hF : ∀ c u y, F (.str (sl [c]) u) y → V c y) :
    ∀ {signs : List Nat} {vs ys : List Value}, vs.length = signs.length → (∀ (j : Nat) v, vs[j]? = some v → ∃ c u, signs[j]? = some c ∧ v = .str (sl [c]) u) → Paired F (vs.filter (strP p)) ys → Paired V (signs.filter p) ys
  | [], [], _, _, _, h => by cases h; exact .nil
  | [], _ :: _, _, e, _, _ => by simp at e
  | _ :: _, [], _, e, _, _ => by simp at e
  | c :: cs, v :: vs, ys, e, hP, h => by
    obtain ⟨c', u, hc, hv⟩ := hP 0 v rfl
    simp at hc
    subst hc hv
    have ih := fun ys' => paired_signs (p := p) hF (signs := cs) (vs := vs) (ys := ys') (by simpa using e) (fun j v ej => by simpa using hP (j + 1) v (by simpa using ej))
    have hs : strP p (.str (sl [c]) u) = p c := rfl
    rw [List.filter_cons, hs] at h
    rw [List.filter_cons]
    cases hpc : p c
    · rw [hpc] at h; exact ih _ h
    · rw [hpc, if_pos rfl] at h
      rw [if_pos rfl]
      cases h with
      | cons h1 h2 => exact .cons (hF _ _ _ h1) (ih _ h2)

section
variable {prog : Program} {w : World} {M : Model} {A : Around} {E : Value → Shared → Prop} {env : Env}
  {h h₀ : Heap} {g : Array GenState} {d : Drawn} {tk : Nat} {o : OsState} {m : Str → Option Value} {news : List (Addr × Obj)}
/-- a comprehension over a text, its items plain values -/
theorem compS {Q : Value → Shared → Prop} {elt iter : Expr} {x : Str} {px : Pos} {ifs : List Expr} {sc : Scope} {pos : Pos} (signs : List Nat) (p : Nat → Bool) (V : Nat → Value → Prop) (cl : List (Str × Addr))
    (F : Fr h₀ env.locals h m) (N : News h₀ env.locals h news)
    (hh : A.handled = none) (hclos : closureFor sc env = pure cl) (hcell : ∀ y ∈ sc.names, y.2 ≠ .cell) (hkind : sc.kind = .function)
    (hnames : ∀ y ∈ sc.names, y.2 = .local → sc.names.lookup y.1 = some .local) (hx : sc.names.lookup x = some .local)
    (hs : ∀ x, foldedSetIterable iter env x = pure x) (hn : signs.length ≤ 16777216)
    (hit : ∀ K : Value → Shared → Prop, (∀ t tk, K (.str (sl signs) t) ⟨h,g,d,tk,o⟩) → wpAny (model prog w) A (eval iter env) K E ⟨h,g,d,tk,o⟩)
    (ht : ∀ C (c : Nat) t h₃ g₃ d₃ tk₃ o₃ m₃ E', c ∈ signs → Fr h C h₃ m₃ → m₃ x = some (.str (sl [c]) t) → TestIs prog w A (compEnvC sc cl C env) ifs (p c) E' ⟨h₃,g₃,d₃,tk₃,o₃⟩)
    (he : ∀ C (c : Nat) t h₃ g₃ d₃ tk₃ o₃ m₃ E', c ∈ signs → p c = true → Fr h C h₃ m₃ → m₃ x = some (.str (sl [c]) t) →
        wpAny (model prog w) A (eval elt (compEnvC sc cl C env)) (fun y s₄ => V c y ∧ ∃ h' tk', s₄ = ⟨h',g₃,d₃,tk',o₃⟩ ∧ Ext h₃ h') E' ⟨h₃,g₃,d₃,tk₃,o₃⟩)
    (H : ∀ D h' tk ys nn, Paired V (signs.filter p) ys → Ext h h' → Fr h₀ env.locals h' m → News h₀ env.locals h' ((D, lst ys nn) :: news) → h.get? D = none → Q (.ref D) ⟨h', g, d, tk, o⟩) :
    wpAny (model prog w) A (eval (.ListComp elt [⟨.Name x px, iter, ifs, 0⟩] sc pos) env) Q E ⟨h,g,d,tk,o⟩ := by
  have sign : ∀ {i : Nat} {v : Value}, SignAt (sl signs) i v → ∃ c u, signs[i]? = some c ∧ v = .str (sl [c]) u := fun hP => by
    obtain ⟨c, u, hc, rfl⟩ := hP
    exact ⟨c, u, by simpa using hc, rfl⟩
  refine comp_F (strP p) (fun v y => ∃ (c : Nat) (t : Tok), v = .str (sl [c]) t ∧ V c y) hh hclos hcell hkind hnames hx hs (hit _ fun t tk => it_str fun it h₂ X => ?_)
  refine ⟨h, _, _, X, by rw [sizeLine_eq]; simpa using hn, ?_, ?_, ?_⟩
  · intro C i v h₃ g₃ d₃ tk₃ o₃ m₃ E' hi hP F₃ hm
    obtain ⟨c, u, hc, rfl⟩ := sign hP
    exact ht C c u h₃ g₃ d₃ tk₃ o₃ m₃ E' (List.mem_of_getElem? hc) F₃ hm
  · intro C i v h₃ g₃ d₃ tk₃ o₃ m₃ E' hi hP hp F₃ hm
    obtain ⟨c, u, hc, rfl⟩ := sign hP
    exact wpAny_mono (he C c u h₃ g₃ d₃ tk₃ o₃ m₃ E' (List.mem_of_getElem? hc) hp F₃ hm) (fun y s₄ q => ⟨⟨c, u, rfl, q.1⟩, q.2⟩) fun _ _ e => e
  · intro D h' tk' ys vs hD hpl hlen hP hF hxt
    obtain ⟨nn, ho⟩ := plain_obj hpl
    have hLD : D ≠ env.locals := fun e => by
      obtain ⟨oL, _, _, hL, _⟩ := F.ns
      rw [e, hL] at hD; cases hD
    have hD0 : h₀.get? D = none := by
      cases e : h₀.get? D with
      | none => rfl
      | some ob => rw [F.keep D ob e] at hD; cases hD
    refine H D h' tk' ys.toList nn (paired_signs (fun c u y q => ?_) (by simpa using hlen) (fun j v e => sign (hP j v e)) hF) hxt (frGrow F hxt) (fun q hq => ?_) hD
    · obtain ⟨c', t', e, hv⟩ := q
      injection e with e1 e2
      have := List.singleton_inj.mp (sl_inj e1)
      subst this
      exact hv
    · rcases List.mem_cons.mp hq with rfl | hq
      · exact ⟨by simpa using ho, hLD, hD0⟩
      · exact ⟨hxt _ _ (N q hq).1, (N q hq).2⟩
end
end Mine
end

section
open PySem PySem.W PyProof.Rows PySem.Calls
set_option maxRecDepth 100000
set_option maxHeartbeats 1000000
namespace Mine

theorem slice_nat (l : List Nat) {a b : Nat} (hab : a ≤ b) (hb : b ≤ l.length) : Txt.slice (sl l) (some (a : Int)) (some (b : Int)) = sl ((l.drop a).take (b - a)) := by
  have e := StrLaws.sliceText_nat (sl l) hab (by rw [sl_len]; exact hb)
  exact e
theorem slice_from (l : List Nat) {a : Nat} (ha : a ≤ l.length) : Txt.slice (sl l) (some (a : Int)) none = sl (l.drop a) := by
  have e := slice_nat l ha (Nat.le_refl _)
  rw [List.take_of_length_le (by simp)] at e
  rw [← e]
  show StrLaws.sliceText _ _ _ = StrLaws.sliceText _ _ _
  unfold StrLaws.sliceText
  rw [StrLaws.sliceIdx_none_hi, sl_len]
theorem slice_init (l : List Nat) : Txt.slice (sl l) none (some (-1)) = sl l.dropLast := by
  rw [slice_to_neg (by decide), sl_len]
  have e := slice_nat l (a := 0) (b := l.length - 1) (Nat.zero_le _) (by omega)
  have h1 : (max 0 ((l.length : Int) + -1)) = ((l.length - 1 : Nat) : Int) := by omega
  rw [h1]
  have e2 : Txt.slice (sl l) none (some ((l.length - 1 : Nat) : Int)) = Txt.slice (sl l) (some ((0 : Nat) : Int)) (some ((l.length - 1 : Nat) : Int)) := by
    show StrLaws.sliceText _ _ _ = StrLaws.sliceText _ _ _
    unfold StrLaws.sliceText
    rw [StrLaws.sliceIdx_none_lo]
    rfl
  rw [e2, e, List.drop_zero, Nat.sub_zero, List.dropLast_eq_take]
theorem slice_last (l : List Nat) : Txt.slice (sl l) (some (-1)) none = sl (l.drop (l.length - 1)) := by
  rw [slice_from_neg (by decide), sl_len]
  have h1 : (max 0 ((l.length : Int) + -1)) = ((l.length - 1 : Nat) : Int) := by omega
  rw [h1, slice_from l (by omega)]

section
variable {prog : Program} {w : World} {M : Model} {A : Around} {E : Value → Shared → Prop} {env : Env}
  {h h₀ : Heap} {g : Array GenState} {d : Drawn} {tk : Nat} {o : OsState} {m : Str → Option Value} {news : List (Addr × Obj)} {L : Addr} {Q : Value → Shared → Prop}
/-- a piece of a text -/
theorem sSlice {value : Expr} {lower upper : Option Expr} {p pos : Pos} {s : Shared}
    (H : wpAny (model prog w) A (eval value env) (fun o s₁ => wpAny (model prog w) A (evalPart lower env) (fun vl s₂ => wpAny (model prog w) A (evalPart upper env) (fun vu s₃ =>
      ∃ x t l u, o = .str x t ∧ vl = partValue l ∧ vu = partValue u ∧ x.length ≤ sizeLine ∧ ∀ h' t' k, Ext s₃.heap h' → Q (.str (Txt.slice x (l.map (·.1)) (u.map (·.1))) t') { s₃ with heap := h', toks := k }) E s₂) E s₁) E s)
    (ht : ∀ o r, letTemporaryGo value o r = pure ()) :
    wpAny (model prog w) A (eval (.Subscript value (.Slice lower upper none p) pos) env) Q E s := by
  refine wpAny_Subscript_str_slice (wpAny_mono H (fun o s₁ h₁ => wpAny_mono h₁ (fun vl s₂ h₂ => wpAny_mono h₂ (fun vu s₃ h₃ => ?_) fun _ _ e => e) fun _ _ e => e) fun _ _ e => e) ht
  obtain ⟨x, t, l, u, rfl, rfl, rfl, hsz, hQ⟩ := h₃
  refine ⟨x, t, l, u, rfl, rfl, rfl, ?_⟩
  exact post_val_or_str ⟨Nat.le_trans (Txt.slice_le x (l.map (·.1)) (u.map (·.1))) hsz, fun t' k => hQ _ t' k fun b o e => Heap.get?_push_of_some _ e⟩
theorem eNot {x : Expr} {pos : Pos} {s : Shared} (H : wpAny (model prog w) A (eval x env) (fun v s₁ => ∃ b, v = .bool b ∧ Q (.bool (!b)) s₁) E s) : wpAny (model prog w) A (eval (.UnaryOp .Not x pos) env) Q E s := by
  refine wpAny_UnaryOp (wpAny_mono H (fun v s₁ h₁ => ?_) fun _ _ e => e)
  obtain ⟨b, rfl, hQ⟩ := h₁
  exact not_of (wpAny_truthy_bool hQ)
theorem eNeg {x : Expr} {pos : Pos} {s : Shared} (H : wpAny (model prog w) A (eval x env) (fun v s₁ => ∃ i t, v = .int i t ∧ ∀ t' k, Q (.int (-i) t') { s₁ with toks := k }) E s) : wpAny (model prog w) A (eval (.UnaryOp .USub x pos) env) Q E s := by
  refine wpAny_UnaryOp (wpAny_mono H (fun v s₁ h₁ => ?_) fun _ _ e => e)
  obtain ⟨b, t, rfl, hQ⟩ := h₁
  exact PyProof.Rows.neg_int (hQ _ _)
theorem sSliceInit {value : Expr} {n1 : Nat} {p0 p1 p pos : Pos} {s : Shared}
    (H : wpAny (model prog w) A (eval value env) (fun o s₁ => ∃ l t, o = .str (sl l) t ∧ l.length ≤ 16777216 ∧ ∀ h' t' k, Ext s₁.heap h' → Q (.str (sl l.dropLast) t') { s₁ with heap := h', toks := k }) E s)
    (ht : ∀ o r, letTemporaryGo value o r = pure ()) :
    wpAny (model prog w) A (eval (.Subscript value (.Slice none (some (.UnaryOp .USub (.Constant (.int 1) n1 p0) p1)) none p) pos) env) Q E s := by
  refine sSlice (wpAny_mono H (fun o s₁ h₁ => ?_) fun _ _ e => e) ht
  obtain ⟨l, t, rfl, hl, hQ⟩ := h₁
  refine evalPart_none_step (evalPart_some_step (eNeg ?_))
  refine wpAny_Constant_int ⟨_, _, rfl, fun t' k => ?_⟩
  refine ⟨_, _, none, some (-1, t'), rfl, rfl, rfl, by rw [sl_len, sizeLine_eq]; exact hl, fun h' t' k hx => ?_⟩
  have e := slice_init l
  show Q (.str (Txt.slice (sl l) none (some (-1))) t') _
  rw [e]
  exact hQ _ _ _ hx
theorem sSliceLast {value : Expr} {n1 : Nat} {p0 p1 p pos : Pos} {s : Shared}
    (H : wpAny (model prog w) A (eval value env) (fun o s₁ => ∃ l t, o = .str (sl l) t ∧ l.length ≤ 16777216 ∧ ∀ h' t' k, Ext s₁.heap h' → Q (.str (sl (l.drop (l.length - 1))) t') { s₁ with heap := h', toks := k }) E s)
    (ht : ∀ o r, letTemporaryGo value o r = pure ()) :
    wpAny (model prog w) A (eval (.Subscript value (.Slice (some (.UnaryOp .USub (.Constant (.int 1) n1 p0) p1)) none none p) pos) env) Q E s := by
  refine sSlice (wpAny_mono H (fun o s₁ h₁ => ?_) fun _ _ e => e) ht
  obtain ⟨l, t, rfl, hl, hQ⟩ := h₁
  refine evalPart_some_step (eNeg ?_)
  refine wpAny_Constant_int ⟨_, _, rfl, fun t' k => ?_⟩
  refine evalPart_none_step ?_
  refine ⟨_, _, some (-1, t'), none, rfl, rfl, rfl, by rw [sl_len, sizeLine_eq]; exact hl, fun h' t' k hx => ?_⟩
  have e := slice_last l
  show Q (.str (Txt.slice (sl l) (some (-1)) none) t') _
  rw [e]
  exact hQ _ _ _ hx
theorem lNewF {vs : List Value} (F : Fr h₀ L h m) (N : News h₀ L h news) (hsz : vs.length ≤ sizeLine)
    (H : ∀ h' p, Fr h₀ L h' m → News h₀ L h' ((p, lst vs 0) :: news) → Ext h h' → h.get? p = none → Q (.ref p) ⟨h',g,d,tk,o⟩) :
    wpAny M A (newList vs) Q E ⟨h,g,d,tk,o⟩ :=
  wpAny_newObj_type (s := ⟨h,g,d,tk,o⟩) (H _ _ (F.push _) (N.push F _) (fun _ _ e => Heap.get?_push_of_some _ e) (fresh_of_le (Nat.le_refl _))) (by show vs.toArray.size ≤ sizeLine; rw [List.size_toArray]; exact hsz)
/-- an if whose two ways meet again -/
theorem xIfJ {Q : Flow → Shared → Prop} {test : Expr} {body orelse rest : List Stmt} {pos : Pos} {s : Shared} (P : Shared → Prop)
    (H1 : wpAny M A (isTrue test env (eval test env)) (fun b s₂ => if b then wpAny M A (execs body env) (fun fl s' => fl = .next ∧ P s') E s₂ else wpAny M A (execs orelse env) (fun fl s' => fl = .next ∧ P s') E s₂) E s)
    (H2 : ∀ s', P s' → wpAny M A (execs rest env) Q E s') :
    wpAny M A (execs (.If test body orelse pos :: rest) env) Q E s := by
  refine xIf (wpAny_mono H1 (fun b s₂ h₂ => ?_) fun _ _ e => e)
  have go : ∀ l : List Stmt, wpAny M A (execs l env) (fun fl s' => fl = .next ∧ P s') E s₂ → wpAny M A (execs (l ++ rest) env) Q E s₂ := fun l hl => by
    rw [execs_app_eq]
    refine wpAny_bind (wpAny_mono hl (fun fl s' h' => ?_) fun _ _ e => e)
    obtain ⟨rfl, hP⟩ := h'
    exact H2 s' hP
  cases b
  · rw [if_neg Bool.false_ne_true] at h₂ ⊢; exact go _ h₂
  · rw [if_pos rfl] at h₂ ⊢; exact go _ h₂
theorem natBeq (a b : Nat) : ((a : Int) == (b : Int)) = (a == b) := by
  rw [Bool.eq_iff_iff, beq_iff_eq, beq_iff_eq]
  exact Int.ofNat_inj
end
end Mine
end

section
open PySem PySem.W PyProof.Rows PySem.Calls
open PySem.Builtin PySem.Builtin.Str
set_option maxRecDepth 100000
set_option maxHeartbeats 1000000
set_option linter.unusedVariables false
namespace Mine

theorem gives_find4 (x y : Str) (i j : Int) (t u v v' : Tok) : Gives («str.find» ⟨[.str x t, .str y u, .int i v, .int j v'], []⟩)
    (.int (match occurrences x y (fromIndex x.length i) (min (fromIndex x.length j) x.length) 1 with | k :: _ => (k : Int) | [] => -1)) := by
  show Gives (match occurrences x y (fromIndex x.length i) (min (fromIndex x.length j) x.length) 1 with | k :: _ => retInt k | [] => (do rule "str.find.not-found"; retInt (-1))) _
  cases occurrences x y (fromIndex x.length i) (min (fromIndex x.length j) x.length) 1 with
  | nil => exact .rule (.of_eq rfl)
  | cons k _ => exact .of_eq rfl

theorem occ_one (l : List Nat) (c lo hi : Nat) (hhi : hi ≤ l.length) : (occurrences (sl l) (sl [c]) lo hi 1).isEmpty = !((l.drop lo).take (hi - lo)).contains c := by
  rw [StrLaws.occ_eq]
  have key := StrLaws.occ_none (sl l) (sl [c]) hi (List.range' lo (hi + 1 - lo)) lo (fun i hi => (List.mem_range'_1.mp hi).1)
  have hsub : ∀ i, i + (sl [c]).length ≤ hi → (subAt (sl l) (sl [c]) i = true ↔ l[i]? = some c) := fun i hle => by
    have h1 : (sl [c]).length = 1 := rfl
    rw [h1] at hle
    have := StrLaws.subAt_one (sl l) c i
    constructor
    · intro h
      have := this.mp ⟨by show i + 1 ≤ _; rw [sl_len]; omega, h⟩
      simpa using this
    · intro h
      exact (this.mpr (by simpa using h)).2
  cases hc : ((l.drop lo).take (hi - lo)).contains c
  · have : (forIn (List.range' lo (hi + 1 - lo)) ((#[] : Array Nat), lo) (StrLaws.occBody (sl l) (sl [c]) hi 1)).run.fst = #[] := key.mpr fun i hm hh => by
      have h2 := (hsub i hh.1).mp hh.2
      have h1 : (sl [c]).length = 1 := rfl
      have hle := hh.1
      rw [h1] at hle
      have hlo := (List.mem_range'_1.mp hm).1
      have : c ∈ (l.drop lo).take (hi - lo) := by
        refine List.mem_iff_getElem?.mpr ⟨i - lo, ?_⟩
        rw [List.getElem?_take_of_lt (by omega), List.getElem?_drop, show lo + (i - lo) = i by omega]
        exact h2
      rw [List.contains_iff_mem.mpr this] at hc
      cases hc
    rw [this]
    rfl
  · have hm := List.contains_iff_mem.mp hc
    obtain ⟨k, hk⟩ := List.mem_iff_getElem?.mp hm
    have hkl : k < hi - lo := by
      obtain ⟨hlt, _⟩ := List.getElem?_eq_some_iff.mp hk
      simp at hlt
      omega
    rw [List.getElem?_take_of_lt hkl, List.getElem?_drop] at hk
    have hne : (forIn (List.range' lo (hi + 1 - lo)) ((#[] : Array Nat), lo) (StrLaws.occBody (sl l) (sl [c]) hi 1)).run.fst ≠ #[] := fun h0 =>
      key.mp h0 (lo + k) (List.mem_range'_1.mpr ⟨by omega, by omega⟩) ⟨by show lo + k + 1 ≤ hi; omega, (hsub _ (by show lo + k + 1 ≤ hi; omega)).mpr hk⟩
    simpa using hne
theorem fromIndex_nat (n i : Nat) : fromIndex n (i : Int) = i := by
  unfold fromIndex
  rw [if_neg (by omega)]
  omega
theorem starts_one (l : List Nat) (c : Nat) : Txt.startswith (sl l) (sl [c]) = decide (l.head? = some c) := by
  unfold Txt.startswith
  rw [StrLaws.subAt_eq]
  cases l with
  | nil => rfl
  | cons a l =>
    rw [Bool.eq_iff_iff]
    simp [sl_len]
theorem ends_one (l : List Nat) (c : Nat) : Txt.endswith (sl l) (sl [c]) = decide (l.getLast? = some c) := by
  unfold Txt.endswith
  rw [StrLaws.subAt_eq, sl_len, sl_len]
  rcases List.eq_nil_or_concat l with rfl | ⟨r, a, rfl⟩
  · rfl
  · rw [Bool.eq_iff_iff]
    simp

section
variable {prog : Program} {w : World} {M : Model} {A : Around} {E : Value → Shared → Prop} {env : Env}
  {h h₀ : Heap} {g : Array GenState} {d : Drawn} {tk : Nat} {o : OsState} {m : Str → Option Value} {news : List (Addr × Obj)} {L : Addr} {Q : Value → Shared → Prop}
theorem find4 {l : List Nat} {c : Nat} {i j : Nat} {t u v v' : Tok} (hj : j ≤ l.length)
    (H : ∀ (r : Int) t tk, (((l.drop i).take (j - i)).contains c = false → r = -1) → (((l.drop i).take (j - i)).contains c = true → 0 ≤ r) → Q (.int r t) ⟨h,g,d,tk,o⟩) :
    wpAny (model prog w) A (call (.builtin "str.find") [.str (sl l) t, .str (sl [c]) u, .int (i : Int) v, .int (j : Int) v']) Q E ⟨h,g,d,tk,o⟩ := by
  refine call_gives F.slot_str_find (typeIs_str _ _ _) F.entry_str_find (F.args_str_find_4 _ _ _ _) (gives_find4 (sl l) (sl [c]) i j t u v v') ?_
  have e := occ_one l c i j hj
  rw [fromIndex_nat, fromIndex_nat, sl_len, Nat.min_eq_left hj]
  refine H _ _ _ (fun h0 => ?_) (fun h1 => ?_)
  · rw [h0] at e
    have : occurrences (sl l) (sl [c]) i j 1 = [] := by simpa using e
    rw [this]
  · rw [h1] at e
    cases ho : occurrences (sl l) (sl [c]) i j 1 with
    | nil => rw [ho] at e; cases e
    | cons k r => exact Int.natCast_nonneg k
theorem xAssert {test : Expr} {msg : Option Expr} {pos : Pos} {rest : List Stmt} {Q : Flow → Shared → Prop} {s : Shared}
    (H : wpAny M A (isTrue test env (eval test env)) (fun b s₁ => b = true ∧ wpAny M A (execs rest env) Q E s₁) E s) : wpAny M A (execs (.Assert test msg pos :: rest) env) Q E s :=
  wpAny_execs_cons (wpAny_Assert_holds H)
theorem xDelItem {ob i : Expr} {p0 pos : Pos} {rest : List Stmt} {Q : Flow → Shared → Prop} {s : Shared}
    (H : wpAny M A (eval ob env) (fun ov s₁ => wpAny M A (eval i env) (fun iv s₂ => wpAny M A (delItem ov iv) (fun _ s₃ => wpAny M A (execs rest env) Q E s₃) E s₂) E s₁) E s) :
    wpAny M A (execs (.Delete [.Subscript ob i p0] pos :: rest) env) Q E s :=
  wpAny_execs_cons (wpAny_Delete (wpAny_deleteEach_cons (delete_Subscript (wpAny_mono H (fun ov s₁ h₁ => wpAny_mono h₁ (fun iv s₂ h₂ => wpAny_mono h₂ (fun _ s₃ h₃ => wpAny_deleteEach_nil h₃) fun _ _ e => e) fun _ _ e => e) fun _ _ e => e))))
theorem lDel {D : Addr} {ys : List Value} {n : Nat} {i : Int} {u : Tok} {k : Nat} {pre post : List (Addr × Obj)} {Q : Unit → Shared → Prop}
    (F : Fr h₀ L h m) (N : News h₀ L h (pre ++ (D, lst ys n) :: post)) (hfit : Builtin.List.listFitsIndex i = true) (hk : seqIndex? i ys.toArray.size = some k) (hsz : ys.length ≤ 16777216) (ha : ∀ p ∈ pre, p.1 ≠ D) (hb : ∀ p ∈ post, p.1 ≠ D)
    (H : ∀ h', Fr h₀ L h' m → News h₀ L h' (pre ++ (D, lst (ys.eraseIdx k) (n + 1)) :: post) → Heap.SameBut D h h' → Q () ⟨h',g,d,tk,o⟩) :
    wpAny (model prog w) A (delItem (.ref D) (.int i u)) Q E ⟨h,g,d,tk,o⟩ := by
  have hm := N _ (List.mem_append_right pre (List.Mem.head post))
  refine delItem_at (s := ⟨h,g,d,tk,o⟩) (hsz := by rw [List.size_toArray, sizeLine_eq]; exact hsz) hm.1 hfit hk fun h' hs ho' => ?_
  have e : ys.toArray.toList = ys := by simp
  rw [e] at ho'
  exact H h' (F.change hs hm.2.1 hm.2.2) (N.setIn ha hb hs ho') hs
def wantOf (c : Nat) : List Nat := [115, 46, 46, 46, c, 46, 46, 46, 115]
theorem split_want {c : Nat} (hc : c = 115 ∨ c = 116) {t u : Tok} (F : Fr h₀ L h m) (N : News h₀ L h news)
    (H : ∀ h' D t1 t2 t3 tk, Fr h₀ L h' m → News h₀ L h' ((D, lst [.str (sl [115]) t1, .str (sl [c]) t2, .str (sl [115]) t3] 0) :: news) → Ext h h' → Q (.ref D) ⟨h',g,d,tk,o⟩) :
    wpAny (model prog w) A (call (.builtin "str.split") [.str (sl (wantOf c)) t, .str "..." u]) Q E ⟨h,g,d,tk,o⟩ := by
  have e1 : (decide ((sl (wantOf c)).length < ("..." : Str).length) || decide (strKind (sl (wantOf c)) < strKind ("..." : Str))) = false := by rcases hc with rfl | rfl <;> decide +kernel
  have e2 : partsBetween (sl (wantOf c)) (occurrences (sl (wantOf c)) "..." 0 (sl (wantOf c)).length ((sl (wantOf c)).length + 1)) ("..." : Str).length = [sl [115], sl [c], sl [115]] := by rcases hc with rfl | rfl <;> decide +kernel
  have e3 : (occurrences (sl (wantOf c)) "..." 0 (sl (wantOf c)).length ((sl (wantOf c)).length + 1)).isEmpty = false := by rcases hc with rfl | rfl <;> decide +kernel
  refine call_meets (s := ⟨h,g,d,tk,o⟩) PySem.F.slot_str_split (typeIs_str _ _ _) PySem.F.entry_str_split (PySem.F.args_str_split_2 _ _) (meets_str_split_sep (sl (wantOf c)) "..." t u e1 (by decide) e3 (by rw [sl_len, sizeLine_eq]; exact Nat.le_of_ble_eq_true rfl) (by rw [e2, sizeLine_eq]; exact Nat.le_of_ble_eq_true rfl)) ?_
  rw [e2]
  exact H _ _ tk (tk + 1) (tk + 1 + 1) _ (F.push _) (N.push F _) (fun _ _ e => Heap.get?_push_of_some _ e)
theorem lLen {D : Addr} {ys : List Value} (hl : h.IsList D ys.toArray) (hsz : ys.length ≤ 16777216) (H : ∀ t tk, Q (.int (ys.length : Nat) t) ⟨h,g,d,tk,o⟩) : wpAny (model prog w) A (call (.builtin "len") [.ref D]) Q E ⟨h,g,d,tk,o⟩ := by
  refine call_len_list (s := ⟨h,g,d,tk,o⟩) hl (by rw [List.size_toArray]; omega) ?_
  rw [List.size_toArray]
  exact H _ _
theorem sLen {l : List Nat} {t : Tok} (hsz : l.length ≤ 16777216) (H : ∀ t tk, Q (.int (l.length : Nat) t) ⟨h,g,d,tk,o⟩) : wpAny (model prog w) A (call (.builtin "len") [.str (sl l) t]) Q E ⟨h,g,d,tk,o⟩ := by
  refine PyProof.Rows.len_str (s := ⟨h,g,d,tk,o⟩) (by rw [sl_len]; omega) ?_
  rw [sl_len]
  exact H _ _
theorem xTup {elts : List Expr} {k} {tpos : Pos} {value : Expr} {pos : Pos} {rest : List Stmt} {Q : Flow → Shared → Prop} {s : Shared}
    (H : wpAny M A (eval value env) (fun v s₁ => wpAny M A (assign (.Tuple elts k tpos) env v) (fun _ s₂ => wpAny M A (execs rest env) Q E s₂) E s₁) E s)
    (hs : swapsWithSole [.Tuple elts k tpos] value pos.line env = pure false) (hw : swappedStores [.Tuple elts k tpos] value env = pure none) :
    wpAny M A (execs (.Assign [.Tuple elts k tpos] value pos :: rest) env) Q E s := wpAny_execs_cons (Assign_Tuple H hs hw)
theorem xTupS {elts : List Expr} {k} {tpos : Pos} {value : Expr} {pos : Pos} {rest : List Stmt} {names : List Str} {Q : Flow → Shared → Prop} {s : Shared}
    (H : wpAny M A (eval value env) (fun v s₁ => wpAny M A (unpackItems v names.length none) (fun items s₂ =>
      wpAny M A (assignInOrder (names.reverse.map fun n => bindName env n) items.reverse) (fun _ s₃ => wpAny M A (execs rest env) Q E s₃) E s₂) E s₁) E s)
    (hs : swapsWithSole [.Tuple elts k tpos] value pos.line env = pure false) (hw : swappedStores [.Tuple elts k tpos] value env = pure (some names)) :
    wpAny M A (execs (.Assign [.Tuple elts k tpos] value pos :: rest) env) Q E s := wpAny_execs_cons (Assign_Tuple_swapped H hs hw)
theorem ext_of_but {h h' : Heap} (x : Heap.ExtBut h.objs.size h h') : Ext h h' := fun b o e => x b o (Nat.ne_of_lt (Heap.lt_size e)) e
theorem tNew {vs : List Value} (F : Fr h₀ L h m) (N : News h₀ L h news) (hsz : vs.length ≤ sizeLine)
    (H : ∀ h' p, Fr h₀ L h' m → News h₀ L h' ((p, ({ cls := .type "tuple", data := .seq vs.toArray } : Obj)) :: news) → Ext h h' → IsTup h' p vs.toArray → Q (.ref p) ⟨h',g,d,tk,o⟩) :
    wpAny M A (newTuple vs) Q E ⟨h,g,d,tk,o⟩ :=
  wpAny_newObj_type (s := ⟨h,g,d,tk,o⟩) (H _ _ (F.push _) (N.push F _) (fun _ _ e => Heap.get?_push_of_some _ e) ⟨_, Heap.get?_push_size _ rfl, rfl, _, rfl⟩) (by show vs.toArray.size ≤ sizeLine; rw [List.size_toArray]; exact hsz)
theorem unpackItems_T {t : Addr} {items : Array Value} {n : Nat} {Q : List Value → Shared → Prop} (hh : A.handled = none) (hn : n = items.size) (ht : IsTup h t items)
    (H : ∀ h', Ext h h' → Q items.toList ⟨h',g,d,tk,o⟩) : wpAny (model prog w) A (unpackItems (.ref t) n none) Q E ⟨h,g,d,tk,o⟩ := by
  subst hn
  exact unpackItems_tuple (s := ⟨h,g,d,tk,o⟩) hh ht fun h' hx => H h' (ext_of_but hx)
theorem unpackT2 {x y : Str} {px py pos : Pos} {k} {q : Addr} {a b : Value} {Q : Unit → Shared → Prop} (hh : A.handled = none) (F : Fr h₀ env.locals h m) (N : News h₀ env.locals h news) (hl : IsTup h q #[a, b])
    (H : ∀ h' tk, Fr h₀ env.locals h' (fun z => if z = y then some b else if z = x then some a else m z) → News h₀ env.locals h' news → (∀ p ob, p ≠ env.locals → h.get? p = some ob → h'.get? p = some ob) → Q () ⟨h',g,d,tk,o⟩)
    (hk : env.scope.kind = .function) (hx : env.kindOf x = some .local) (hy : env.kindOf y = some .local) :
    wpAny (model prog w) A (assign (.Tuple [.Name x px, .Name y py] k pos) env (.ref q)) Q E ⟨h,g,d,tk,o⟩ := by
  refine assign_Tuple_tuple (s := ⟨h,g,d,tk,o⟩) hh hl rfl rfl fun h1 hx1' => ?_
  have hx1 := ext_of_but hx1'
  refine assignInOrder_cons (assign_name (stS (frGrow F hx1) (newsGrow N hx1) (fun h2 tk2 F2 N2 s2 => ?_) hk hx))
  refine assignInOrder_cons (assign_name (stS F2 N2 (fun h3 tk3 F3 N3 s3 => ?_) hk hy))
  exact assignInOrder_nil (H h3 tk3 F3 N3 fun p ob hp e => by rw [s3.2 p hp, s2.2 p hp]; exact hx1 p ob e)
theorem gLast {value slice : Expr} {p : Addr} {l : List Value} {u : Tok} {x : Value} (hl : h.IsList p l.toArray) (hx : l.getLast? = some x) (H : Q x ⟨h,g,d,tk,o⟩)
    (hs : subscripted slice false (.ref p) (.int (-1) u) = operate [.ref p, .int (-1) u] (getItem (.ref p) (.int (-1) u))) :
    wpAny (model prog w) A (subscriptTail value slice (.ref p) (.int (-1) u)) Q E ⟨h,g,d,tk,o⟩ := by
  have hne : l ≠ [] := by rintro rfl; cases hx
  have hpos : 0 < l.length := List.length_pos_iff.mpr hne
  refine tail_any (s := ⟨h,g,d,tk,o⟩) hl.typeIs slot_list_getitem.lookup (wpAny_getItem_list_neg (s := ⟨h,g,d,tk,o⟩) hl (by decide) (by rw [List.size_toArray]; omega) (by decide) ?_ H) hs
  rw [List.size_toArray, show ((-1 : Int) + (l.length : Nat)).toNat = l.length - 1 by omega]
  rw [List.getLast?_eq_getElem?] at hx
  simpa using hx
end
end Mine
end

section
open PySem PySem.W PyProof.Rows PySem.Calls
set_option maxRecDepth 100000
set_option maxHeartbeats 1000000
set_option linter.unusedVariables false
namespace Mine

section
variable {M : Model} {A : Around} {R : GenEnd} {Y : Protocol} {n : Nat} {s₀ : Shared} {c : Code} {fs : List Frame} {s : Shared} {env : Env}
  {K : Flow → Sem Fin} {H : Value → Sem Fin} {gd : Bool → Bool} {lv : List Value → List Value}

theorem seg_If {test : Expr} {body orelse : List Stmt} {pos : Pos}
    (h : wpAny M (A.over c fs) (isTrue test env (eval test env)) (fun b s' => if b then Seg M A R Y n s₀ c ((execs body env).wrap K H gd lv) fs s' else Seg M A R Y n s₀ c ((execs orelse env).wrap K H gd lv) fs s')
      (fun x s' => Seg M A R Y n s₀ c (H x) fs s') s) :
    Seg M A R Y n s₀ c ((exec (.If test body orelse pos) env).wrap K H gd lv) fs s := by
  rw [exec_If]
  refine seg_bind_wrap (wpAny_standAt (seg_bind_wrap (wpAny_mono h (fun b s' hb => ?_) fun _ _ e => e)))
  cases b
  · rw [if_neg Bool.false_ne_true] at hb ⊢; exact hb
  · rw [if_pos rfl] at hb ⊢; exact hb
theorem seg_xAssign {x : Str} {pos' : Pos} {value : Expr} {pos : Pos} {rest : List Stmt}
    (h : wpAny M (A.over c fs) (eval value env) (fun v s₁ => wpAny M (A.over c fs) (storeName env x v) (fun _ s₂ => Seg M A R Y n s₀ c ((execs rest env).wrap K H gd lv) fs s₂) (fun x s' => Seg M A R Y n s₀ c (H x) fs s') s₁) (fun x s' => Seg M A R Y n s₀ c (H x) fs s') s)
    (hs : swapsWith value (some (.Name x pos')) pos.line env = pure false) :
    Seg M A R Y n s₀ c ((execs (.Assign [.Name x pos'] value pos :: rest) env).wrap K H gd lv) fs s :=
  seg_execs_cons (seg_wrap (wpAny_Assign_Name h hs))
/-- the frame that a for loop of a generator leaves behind -/
def forFrame (K : Flow → Sem Fin) (H : Value → Sem Fin) (gd : Bool → Bool) (lv : List Value → List Value) (env : Env) (c : Code) (p : Pos) : Frame :=
  .ret (fun r => ((match r with | .ok f => (.pure f : Sem Flow) | .error e => .raise e).onRaise fun (x : Value) => do
        if (← field x 1) == Value.none then unsupported "frame.own-activation:exception-without-traceback"
        setFlight x env.frame).wrap K H gd lv) none (gd false) (lv []) c p []
theorem seg_For {target iter : Expr} {body orelse : List Stmt} {pos : Pos}
    (h : wpAny M (A.over c fs) (eval iter env) (fun x s₁ => wpAny M (A.over c fs) (pyIter x) (fun it s₂ =>
      ∀ p, Seg M A R Y n s₀ (.forLoop target it body orelse env) (M.den (.forLoop target it body orelse env)) (forFrame K H gd lv env c p :: fs) s₂)
      (fun x s' => Seg M A R Y n s₀ c (H x) fs s') s₁) (fun x s' => Seg M A R Y n s₀ c (H x) fs s') s)
    (hs : ∀ x, foldedSetIterable iter env x = pure x) :
    Seg M A R Y n s₀ c ((exec (.For target iter body orelse pos) env).wrap K H gd lv) fs s := by
  rw [exec_For]
  refine seg_bind_wrap (wpAny_standAt (seg_bind_wrap (wpAny_mono h (fun x s₁ h₁ => ?_) fun _ _ e => e)))
  refine seg_bind_wrap (wpAny_of_eq (hs x) ?_)
  refine seg_bind_wrap (wpAny_standAt (seg_bind_wrap (wpAny_holding (wpAny_mono h₁ (fun it s₂ h₂ => ?_) fun _ _ e => e))))
  exact seg_call h₂
end

section
variable {prog : Program} {w : World} {A : Around} {R : GenEnd} {Y : Protocol} {n : Nat} {s₀ : Shared} {fs : List Frame} {s : Shared} {env : Env}
def loopK (c : Code) (f : Flow) : Sem Fin := match f with
  | .next | .cont => .pure (.again c)
  | .brk => .pure (.done .next)
  | .ret v => .pure (.done (.ret v))
def loopH (env : Env) (e : Value) : Sem Fin := (do noteFrame e env; theTreesLotGoes e : Sem Unit).wrap (fun _ => .raise e) .raise id id
theorem seg_forLoop {target : Expr} {it : Value} {body orelse : List Stmt}
    (h : wpAny (model prog w) (A.over (.forLoop target it body orelse env) fs) (pyNext it) (fun r s₁ => match r with
      | none => Seg (model prog w) A R Y n s₀ (.block orelse env) ((model prog w).den (.block orelse env)) fs s₁
      | some v => wpAny (model prog w) (A.over (.forLoop target it body orelse env) fs) (letOwnedTupleGo target it v) (fun _ s₂ => wpAny (model prog w) (A.over (.forLoop target it body orelse env) fs) (assign target env v)
          (fun _ s₃ => Seg (model prog w) A R Y n s₀ (.forLoop target it body orelse env) ((execs body env).wrap (loopK (.forLoop target it body orelse env)) (loopH env) id id) fs s₃)
          (fun x s' => Seg (model prog w) A R Y n s₀ (.forLoop target it body orelse env) (loopH env x) fs s') s₂) (fun x s' => Seg (model prog w) A R Y n s₀ (.forLoop target it body orelse env) (loopH env x) fs s') s₁)
      (fun x s' => Seg (model prog w) A R Y n s₀ (.forLoop target it body orelse env) (loopH env x) fs s') s) :
    Seg (model prog w) A R Y n s₀ (.forLoop target it body orelse env) ((model prog w).den (.forLoop target it body orelse env)) fs s := by
  show Seg _ A R Y n s₀ _ ((forTurn target it body orelse env).onRaise (fun x => do noteFrame x env; theTreesLotGoes x)) fs s
  unfold forTurn
  have eH : (fun e => ((do noteFrame e env; theTreesLotGoes e : Sem Unit).bind fun _ => .raise e : Sem Fin)) = loopH env := by
    funext e; unfold loopH; rw [Sem.bind_eq_wrap]
  rw [Sem.onRaise_eq_wrap]
  show Seg _ A R Y n s₀ _ (Sem.wrap _ (fun e => ((do noteFrame e env; theTreesLotGoes e : Sem Unit).bind fun _ => .raise e : Sem Fin)) _ _ _) fs s
  rw [eH]
  refine seg_bind_wrap (wpAny_standAt ?_)
  refine seg_bind_wrap (wpAny_onRaise (wpAny_mono h (fun r s₁ h₁ => ?_) fun _ _ e => wpAny_standAt e))
  cases r with
  | none => exact seg_again rfl h₁
  | some v =>
    refine seg_bind_wrap (wpAny_mono h₁ (fun _ s₂ h₂ => ?_) fun _ _ e => e)
    refine seg_bind_wrap (wpAny_mono h₂ (fun _ s₃ h₃ => ?_) fun _ _ e => e)
    rw [Sem.bind_eq_wrap', Sem.wrap_wrap]
    rw [Sem.wrap_congr (execs body env) _ _ (H := fun e => Sem.wrap Sem.pure (loopH env) id id (Sem.raise e)) (K' := loopK (.forLoop target it body orelse env)) (H' := loopH env) (fun f => by cases f <;> rfl) (fun e => rfl)]
    exact h₃
theorem seg_block {env : Env} {frame : Frame} (k : Result → Sem Fin) {hn g l c₁ p₁ kp} (hf : frame = .ret k hn g l c₁ p₁ kp)
    (h : Seg (model prog w) A R Y n s₀ c₁ (k (.ok .next)) fs s) : Seg (model prog w) A R Y n s₀ (.block [] env) ((model prog w).den (.block [] env)) (frame :: fs) s := by
  subst hf
  have e : (model prog w).den (.block [] env) = leafOf (.ok .next) := by rfl
  rw [e]
  exact seg_leaf (.ok .next) h
theorem seg_frame {M : Model} {K : Flow → Sem Fin} {H : Value → Sem Fin} {gd : Bool → Bool} {lv : List Value → List Value} {env env' : Env} {c : Code} {p : Pos} 
    (h : Seg (model prog w) A R Y n s₀ c (K .next) fs s) : Seg (model prog w) A R Y n s₀ (.block [] env') ((model prog w).den (.block [] env')) (forFrame K H gd lv env c p :: fs) s :=
  seg_block _ rfl h
end
end Mine
end

section
open PySem PySem.W PyProof.Rows PySem.Calls
set_option maxRecDepth 100000
set_option maxHeartbeats 1000000
set_option linter.unusedVariables false
namespace Mine

/-- a generator as its reader sees it -/
structure GW (prog : Program) (w : World) (A : Around) (h₀ : Heap) (a : Addr) (fp : List Addr) (N : Nat) (P : Nat → Value → Heap → Prop) (St : Nat → Shared → Prop) : Prop where
  item : ∀ i (s : Shared) (Q : Option Value → Shared → Prop) (E : Value → Shared → Prop), i < N → St i s → Ext h₀ s.heap →
    (∀ v h' g' tk, P i v h' → St (i + 1) ⟨h', g', s.drawn, tk, s.os⟩ → (∀ b ob, b ∉ fp → s.heap.get? b = some ob → h'.get? b = some ob) → Q (some v) ⟨h', g', s.drawn, tk, s.os⟩) →
    wpAny (model prog w) A (pyNext (.ref a)) Q E s
  done : ∀ (s : Shared) (Q : Option Value → Shared → Prop) (E : Value → Shared → Prop), St N s → Ext h₀ s.heap →
    (∀ h' g' tk, AllBare g' → (∀ b ob, b ∉ fp → s.heap.get? b = some ob → h'.get? b = some ob) → Q none ⟨h', g', s.drawn, tk, s.os⟩) → wpAny (model prog w) A (pyNext (.ref a)) Q E s
  frame : ∀ i (s : Shared) h' tk, i ≠ 0 → St i s → Ext h₀ h' → (∀ b ∈ a :: fp, ∀ ob, s.heap.get? b = some ob → h'.get? b = some ob) → St i ⟨h', s.gens, s.drawn, tk, s.os⟩
  gen : ∀ i (s : Shared), St i s → ∃ k, s.heap.IsGen a k

section
variable {prog : Program} {w : World} {A : Around} {env : Env} {h h₀ : Heap} {g : Array GenState} {d : Drawn} {tk : Nat} {o : OsState} {m : Str → Option Value} {news : List (Addr × Obj)}
theorem forLoopG {target : Expr} {body : List Stmt} {R : Result → Shared → Prop} {a : Addr} {fp : List Addr} {N : Nat} {P : Nat → Value → Heap → Prop} {St : Nat → Shared → Prop} (X : GW prog w A h₀ a fp N P St)
    (F : Fr h₀ env.locals h m) (Nw : News h₀ env.locals h news) (hL : env.locals ∉ a :: fp) (h0 : ∀ b ∈ a :: fp, h₀.get? b = none) (AD : List Addr) (hAD : ∀ x ∈ AD, x ∉ a :: fp)
    (st : St 0 ⟨h,g,d,tk,o⟩)
    (hgo : ∀ v (s : Shared) (Q : Unit → Shared → Prop) (E : Value → Shared → Prop), (∃ k, s.heap.IsGen a k) → Q () s → wpAny (model prog w) A (letOwnedTupleGo target (.ref a) v) Q E s)
    (J : Nat → (Str → Option Value) → List (Addr × Obj) → Prop) (j0 : J 0 m news) (hJt : ∀ i m news, J i m news → ∀ p ∈ news, p.1 ∈ AD)
    (step : ∀ i v m₁ news₁ own h₁ g₁ tk₁ E', i < N → P i v h₁ → J i m₁ news₁ → Fr h₀ env.locals h₁ m₁ → News h₀ env.locals h₁ (own ++ news₁) → (∀ p ∈ own, p.1 ∉ AD) →
      wpAny (model prog w) A (assign target env v) (fun _ s₂ => wpAny (model prog w) A (execs body env) (StepTo h₀ env.locals g₁ d o own [] (J (i + 1)) R) E' s₂) E' ⟨h₁,g₁,d,tk₁,o⟩)
    (fin : ∀ h' g' tk m' news', AllBare g' → Fr h₀ env.locals h' m' → News h₀ env.locals h' news' → J N m' news' → R (.ok .next) ⟨h',g',d,tk,o⟩) :
    codeAny (model prog w) A (.forLoop target (.ref a) body [] env) R ⟨h,g,d,tk,o⟩ := by
  have hLf : env.locals ∉ fp := fun hm => hL (List.mem_cons_of_mem _ hm)
  refine codeAny_forLoop_any
    (fun k s' => ∃ h' g' tk m' news' i, s' = ⟨h',g',d,tk,o⟩ ∧ St i ⟨h',g',d,tk,o⟩ ∧ Fr h₀ env.locals h' m' ∧ News h₀ env.locals h' news' ∧ J i m' news' ∧ i ≤ N ∧ k = N + 1 - i) ?_ (N + 1)
    ⟨h, g, tk, m, news, 0, rfl, st, F, Nw, j0, Nat.zero_le _, rfl⟩
  rintro k s' ⟨h', g', tk', m', news', i, rfl, hst, F', N', hJ, hi, rfl⟩
  have hap' : ∀ p ∈ news', p.1 ∉ fp := fun p hp hm => hAD _ (hJt _ _ _ hJ p hp) (List.mem_cons_of_mem _ hm)
  have next : ∀ h₁ : Heap, (∀ b ob, b ∉ fp → h'.get? b = some ob → h₁.get? b = some ob) → Fr h₀ env.locals h₁ m' ∧ News h₀ env.locals h₁ news' := fun h₁ hk₁ =>
    ⟨⟨F'.ns.at' fun ob e => hk₁ _ ob hLf e, fun b ob e => hk₁ b ob (fun hm => by rw [h0 b (List.mem_cons_of_mem _ hm)] at e; cases e) (F'.keep b ob e), F'.above⟩, fun p hp => ⟨hk₁ _ _ (hap' p hp) (N' p hp).1, (N' p hp).2⟩⟩
  by_cases hlt : i < N
  · refine X.item i ⟨h',g',d,tk',o⟩ _ _ hlt hst F'.keep fun v h₁ g₁ tk₁ hP hst₁ hk₁ => ?_
    obtain ⟨F₁, N₁⟩ := next h₁ hk₁
    refine hgo v _ _ _ (X.gen _ _ hst₁) ?_
    have ownmem : ∀ p ∈ (a :: fp).filterMap (fun b => (h₁.get? b).map fun ob => (b, ob)), p.1 ∈ a :: fp ∧ h₁.get? p.1 = some p.2 := fun p hp => by
      obtain ⟨b, hb, e⟩ := List.mem_filterMap.mp hp
      cases e2 : h₁.get? b with
      | none => rw [e2] at e; cases e
      | some ob =>
        rw [e2] at e
        have : (b, ob) = p := Option.some.inj e
        subst this
        exact ⟨hb, e2⟩
    have Nown : News h₀ env.locals h₁ ((a :: fp).filterMap (fun b => (h₁.get? b).map fun ob => (b, ob))) := fun p hp =>
      ⟨(ownmem p hp).2, fun e => hL (e ▸ (ownmem p hp).1), h0 _ (ownmem p hp).1⟩
    refine wpAny_mono (step i v m' news' _ h₁ g₁ tk₁ _ hlt hP hJ F₁ (Nown.append N₁) (fun p hp => ?_)) (fun _ s₂ h₂ => wpAny_mono h₂ (fun f s₃ h₃ => ?_) fun _ _ e => e) fun _ _ e => e
    · exact fun hm => hAD _ hm (ownmem p hp).1
    · rcases h₃ with ⟨v, rfl, hr⟩ | ⟨hf, h₃', tk₃, m₂, news₂, rfl, F₃, N₃, _, hJ₃⟩
      · exact hr
      · have keep : ∀ b ∈ a :: fp, ∀ ob, h₁.get? b = some ob → h₃'.get? b = some ob := fun b hb ob e => by
          refine (N₃ (b, ob) (List.mem_append_left _ (List.mem_append_left _ (List.mem_filterMap.mpr ⟨b, hb, ?_⟩)))).1
          rw [e]; rfl
        have N₃' : News h₀ env.locals h₃' news₂ := fun p hp => N₃ p (List.mem_append_right _ hp)
        have goal : ∃ mm, mm < N + 1 - i ∧ ∃ h' g' tk m' news' i, (⟨h₃',g₁,d,tk₃,o⟩ : Shared) = ⟨h',g',d,tk,o⟩ ∧ St i ⟨h',g',d,tk,o⟩ ∧ Fr h₀ env.locals h' m' ∧ News h₀ env.locals h' news' ∧ J i m' news' ∧ i ≤ N ∧ mm = N + 1 - i := by
          refine ⟨N + 1 - (i + 1), by omega, h₃', g₁, tk₃, m₂, news₂, i + 1, rfl, X.frame _ ⟨h₁,g₁,d,tk₁,o⟩ h₃' tk₃ (Nat.succ_ne_zero i) hst₁ F₃.keep keep, F₃, N₃', hJ₃, hlt, rfl⟩
        rcases hf with rfl | rfl <;> exact goal
  · have hin : i = N := by omega
    subst hin
    refine X.done ⟨h',g',d,tk',o⟩ _ _ hst F'.keep fun h₁ g₁ tk₁ hb₁ hk₁ => wpAny_execs_nil ?_
    obtain ⟨F₁, N₁⟩ := next h₁ hk₁
    exact fin h₁ g₁ tk₁ m' news' hb₁ F₁ N₁ hJ
theorem goGen {elts : List Expr} {k} {pos : Pos} {a : Addr} : ∀ (v : Value) (s : Shared) (Q : Unit → Shared → Prop) (E : Value → Shared → Prop), (∃ k, s.heap.IsGen a k) → Q () s → wpAny (model prog w) A (letOwnedTupleGo (.Tuple elts k pos) (.ref a) v) Q E s := by
  intro v s Q E ⟨gk, ob, nm, qn, ho, hc, hd, _⟩ hQ
  cases v with
  | ref T =>
    unfold letOwnedTupleGo
    refine wpAny_bind (wpAny_load ho ?_)
    rw [hc, hd]
    dsimp only
    have e : (["enumerate", "zip", "dict_itemiterator", "dict_reverseitemiterator", "odict_iterator", "itertools.zip_longest", "itertools.pairwise"].contains "generator") = false := by decide
    rw [e, Bool.false_and, if_neg Bool.false_ne_true]
    exact wpAny_pure hQ
  | _ => exact wpAny_pure hQ
end
end Mine
end

section
open PySem PySem.W PyProof.Rows PySem.Calls
set_option maxRecDepth 100000
set_option maxHeartbeats 1000000
set_option linter.unusedVariables false
namespace Mine

theorem slice_min (a b n : Nat) : Builtin.Str.strSliceIndices (some (a : Int)) (some (b : Int)) 1 n = Builtin.Str.strSliceIndices (some ((min a n : Nat) : Int)) (some ((min b n : Nat) : Int)) 1 n := by
  unfold Builtin.Str.strSliceIndices
  have e1 : ¬ ((a : Int) < 0) := by omega
  have e2 : ¬ ((b : Int) < 0) := by omega
  have e3 : ¬ (((min a n : Nat) : Int) < 0) := by omega
  have e4 : ¬ (((min b n : Nat) : Int) < 0) := by omega
  have e5 : max (0 : Int) (min (a : Int) n) = max (0 : Int) (min ((min a n : Nat) : Int) n) := by omega
  have e6 : max (0 : Int) (min (b : Int) n) = max (0 : Int) (min ((min b n : Nat) : Int) n) := by omega
  simp only [e1, e2, e3, e4, if_false, e5, e6, show ((1 : Int) > 0) = True from by simp, if_true]
theorem slice_empty (a b n : Nat) (h : b ≤ a) : Builtin.Str.strSliceIndices (some (a : Int)) (some (b : Int)) 1 n = [] := by
  unfold Builtin.Str.strSliceIndices PySem.sliceRange
  have e1 : ¬ ((a : Int) < 0) := by omega
  have e2 : ¬ ((b : Int) < 0) := by omega
  have e3 : ¬ (max (0 : Int) (min (a : Int) n) < max (0 : Int) (min (b : Int) n)) := by omega
  simp [e1, e2, e3]
theorem slice_any (l : List Nat) (a b : Nat) : Txt.slice (sl l) (some (a : Int)) (some (b : Int)) = sl ((l.drop a).take (b - a)) := by
  have e0 : Txt.slice (sl l) (some (a : Int)) (some (b : Int)) = Txt.slice (sl l) (some ((min a l.length : Nat) : Int)) (some ((min b l.length : Nat) : Int)) := by
    show StrLaws.sliceText _ _ _ = StrLaws.sliceText _ _ _
    unfold StrLaws.sliceText
    rw [slice_min, sl_len]
  by_cases h : a ≤ b
  · rw [e0, slice_nat l (a := min a l.length) (b := min b l.length) (by omega) (by omega)]
    congr 1
    by_cases h1 : a ≤ l.length
    · rw [Nat.min_eq_left h1]
      by_cases h2 : b ≤ l.length
      · rw [Nat.min_eq_left h2]
      · rw [Nat.min_eq_right (by omega), List.take_of_length_le (by simp), List.take_of_length_le (by simp; omega)]
    · rw [Nat.min_eq_right (show l.length ≤ a by omega), List.drop_of_length_le (Nat.le_refl _), List.drop_of_length_le (show l.length ≤ a by omega)]
      simp
  · have h0 : b - a = 0 := by omega
    rw [h0, List.take_zero]
    show StrLaws.sliceText _ _ _ = _
    unfold StrLaws.sliceText
    rw [slice_empty a b _ (by omega)]
    split
    · rename_i hh
      have this : 0 = (sl l).length := by simpa using hh
      rw [sl_len] at this
      have : l = [] := List.length_eq_zero_iff.mp this.symm
      rw [this]
    · rfl
theorem natBne (a b : Nat) : ((a : Int) != (b : Int)) = (a != b) := by
  show (!((a : Int) == (b : Int))) = (!(a == b))
  rw [natBeq]
theorem contains_one (l : List Nat) (c : Nat) : Txt.contains (sl l) (sl [c]) = l.contains c := by
  unfold Txt.contains
  rw [StrLaws.found_one, Bool.eq_iff_iff, decide_eq_true_eq, List.contains_iff_mem]
section
variable {prog : Program} {w : World} {M : Model} {A : Around} {E : Value → Shared → Prop} {env : Env}
  {h h₀ : Heap} {g : Array GenState} {d : Drawn} {tk : Nat} {o : OsState} {m : Str → Option Value} {news : List (Addr × Obj)} {L : Addr} {Q : Value → Shared → Prop}
/-- where a turn of a loop ends that may wake generators -/
def StepToV (h₀ : Heap) (L : Addr) (d : Drawn) (o : OsState) (own K0 : List (Addr × Obj)) (J : (Str → Option Value) → List (Addr × Obj) → Prop) (R : Result → Shared → Prop) (f : Flow) (s : Shared) : Prop :=
  (∃ v, f = .ret v ∧ R (.ok (.ret v)) s) ∨ ((f = .next ∨ f = .cont) ∧ ∃ h' g' tk m news, s = ⟨h',g',d,tk,o⟩ ∧ AllBare g' ∧ Fr h₀ L h' m ∧ News h₀ L h' (own ++ K0 ++ news) ∧ (∀ p ∈ news, isIter p.2 = false) ∧ J m news)
theorem forLoopV (K0 : List (Addr × Obj)) {target : Expr} {body : List Stmt} {R : Result → Shared → Prop} {it : Value} {h₂ : Heap} {n : Nat} {P : Nat → Value → Prop} {Z : Addr → Prop} (X : ReadyZ prog w h it h₂ n P Z) (hh : A.handled = none) (hbare : AllBare g)
    (F : Fr h₀ env.locals h m) (N : News h₀ env.locals h (K0 ++ news)) (hni : ∀ p ∈ news, isIter p.2 = false)
    (hgo : ∀ g v I (h : Heap) tk Q E, (∃ ob, h.get? I = some ob ∧ isIter ob = true) → Q () ⟨h,g,d,tk,o⟩ → wpAny (model prog w) A (letOwnedTupleGo target (.ref I) v) Q E ⟨h,g,d,tk,o⟩)
    (J : Nat → (Str → Option Value) → List (Addr × Obj) → Prop) (j0 : J 0 m news)
    (step : ∀ i v m₁ news₁ own h₁ g₁ tk₁ E', AllBare g₁ → i < n → P i v → J i m₁ news₁ → (∀ p ∈ news₁, isIter p.2 = false) → Fr h₀ env.locals h₁ m₁ → News h₀ env.locals h₁ (own ++ K0 ++ news₁) → (∀ p ∈ own, isIter p.2 = true ∨ ∃ items nn, p.2.data = .seq items nn ∧ h.get? p.1 = some p.2 ∧ Z p.1 ∧ h₀.get? p.1 = none) →
      wpAny (model prog w) A (assign target env v) (fun _ s₂ => wpAny (model prog w) A (execs body env) (StepToV h₀ env.locals d o own K0 (J (i + 1)) R) E' s₂) E' ⟨h₁,g₁,d,tk₁,o⟩)
    (fin : ∀ h' g' tk m' news', AllBare g' → Fr h₀ env.locals h' m' → News h₀ env.locals h' (K0 ++ news') → (∀ p ∈ news', isIter p.2 = false) → J n m' news' → R (.ok .next) ⟨h',g',d,tk,o⟩) :
    codeAny (model prog w) A (.forLoop target it body [] env) R ⟨h₂,g,d,tk,o⟩ := by
  obtain ⟨I, fp, St, rfl, hI, W, hlive, hst, hfp, hxt, hfpk, hsz⟩ := X
  have W := W A hh
  obtain ⟨oL, esL, epL, hLget, hLd, hLr⟩ := id F.ns
  have hI0 : h₀.get? I = none := by
    cases e : h₀.get? I with
    | none => rfl
    | some ob => rw [F.keep I ob e] at hI; cases hI
  have hLI : env.locals ≠ I := fun e => by rw [e, hI] at hLget; cases hLget
  have hLf : env.locals ∉ fp := fun hm => by
    rcases hfpk _ hm with e | ⟨ob, nn, items, e, hd, _⟩
    · exact hLI e
    · rw [hLget] at e; cases e; rw [hLd] at hd; cases hd
  have hIfp : I ∈ fp := W.sub I (List.mem_singleton.mpr rfl)
  have hK0 : ∀ p ∈ K0, p.1 ≠ I := fun p hp e => by
    have h1 := (N p (List.mem_append_left _ hp)).1
    rw [e, hI] at h1; cases h1
  have apart : ∀ {h' : Heap} {news' : List (Addr × Obj)}, News h₀ env.locals h' (K0 ++ news') → (∀ p ∈ news', isIter p.2 = false) → (∃ ob, h'.get? I = some ob ∧ isIter ob = true) → ∀ p ∈ K0 ++ news', p.1 ≠ I := fun {h' news'} N' hn' ⟨ob, ho, hi⟩ p hp e => by
    rcases List.mem_append.mp hp with hp' | hp'
    · exact hK0 p hp' e
    have h1 := (N' p hp).1
    rw [e, ho] at h1
    have := hn' p hp'
    rw [← Option.some.inj h1, hi] at this
    cases this
  refine codeAny_forLoop_any
    (fun k s' => ∃ h' g' tk m' news' i, s' = ⟨h',g',d,tk,o⟩ ∧ AllBare g' ∧ St i h' ∧ Fr h₀ env.locals h' m' ∧ News h₀ env.locals h' (K0 ++ news') ∧ (∀ p ∈ news', isIter p.2 = false) ∧ J i m' news' ∧ i ≤ n ∧ k = n + 1 - i ∧ (∀ b ∈ fp, b ≠ I → ∀ ob, h.get? b = some ob → h'.get? b = some ob)) ?_ (n + 1)
    ⟨h₂, g, tk, m, news, 0, rfl, hbare, hst, ⟨F.ns.keeps hxt, fun b ob e => hxt b ob (F.keep b ob e), F.above⟩, fun p hp => ⟨hxt _ _ (N p hp).1, (N p hp).2⟩, hni, j0, Nat.zero_le _, rfl, fun b _ _ ob e => hxt b ob e⟩
  rintro k s' ⟨h', g', tk', m', news', i, rfl, hb', hst', F', N', hni', hJ, hi, rfl, hl'⟩
  have hap := apart N' hni' (hlive _ _ hst')
  have next : ∀ h₁ : Heap, (∀ b ob, b ∉ [I] → h'.get? b = some ob → h₁.get? b = some ob) → Fr h₀ env.locals h₁ m' ∧ News h₀ env.locals h₁ (K0 ++ news') := fun h₁ hk₁ =>
    ⟨⟨F'.ns.at' fun ob e => hk₁ _ ob (fun hm => hLI (List.mem_singleton.mp hm)) e, fun b ob e => hk₁ b ob (fun hm => by rw [List.mem_singleton.mp hm, hI0] at e; cases e) (F'.keep b ob e), F'.above⟩, fun p hp => ⟨hk₁ _ _ (fun hm => hap p hp (List.mem_singleton.mp hm)) (N' p hp).1, (N' p hp).2⟩⟩
  by_cases hlt : i < n
  · refine W.item i ⟨h',g',d,tk',o⟩ _ _ hlt hst' fun v h₁ tk₁ hP hst₁ hk₁ => ?_
    obtain ⟨F₁, N₁⟩ := next h₁ hk₁
    refine hgo _ v I h₁ tk₁ _ _ (hlive _ _ hst₁) ?_
    have Nown : News h₀ env.locals h₁ (ownOf h₀ fp h₁) := news_ownOf hLf
    refine wpAny_mono (step i v m' news' (ownOf h₀ fp h₁) h₁ g' tk₁ _ hb' hlt hP hJ hni' F₁ (by rw [List.append_assoc]; exact Nown.append N₁) ?_) (fun _ s₂ h₂ => wpAny_mono h₂ (fun f s₃ h₃ => ?_) fun _ _ e => e) fun _ _ e => e
    · intro p hp
      obtain ⟨b, hb, e⟩ := List.mem_filterMap.mp hp
      have hn : h₀.get? b = none := by
        cases hn : h₀.get? b with
        | none => rfl
        | some ob => simp [hn] at e
      have hpb : p.1 = b ∧ h₁.get? b = some p.2 := by
        cases ho : h₁.get? b with
        | none => simp [hn, ho] at e
        | some ob => have : (b, ob) = p := by simpa [hn, ho] using e
                     subst this; exact ⟨rfl, rfl⟩
      rcases hfpk b hb with rfl | ⟨ob, nn, items, ho, hd, hZ⟩
      · obtain ⟨ob, ho, hi⟩ := hlive _ _ hst₁
        rw [hpb.2] at ho
        exact .inl (Option.some.inj ho ▸ hi)
      · by_cases hbI : b = I
        · subst hbI; rw [hI] at ho; cases ho
        · have e3 := hk₁ b ob (fun hm => hbI (List.mem_singleton.mp hm)) (hl' b hb hbI ob ho)
          rw [hpb.2] at e3
          refine .inr ⟨items, nn, ?_, ?_, ?_, ?_⟩
          · rw [Option.some.inj e3]; exact hd
          · rw [hpb.1, ho, ← e3]
          · rw [hpb.1]; exact hZ
          · rw [hpb.1]; exact hn
    · rcases h₃ with ⟨v, rfl, hr⟩ | ⟨hf, h₃', g₃, tk₃, m₂, news₂, rfl, hb₃, F₃, N₃, hni₃, hJ₃⟩
      · exact hr
      · have keep : ∀ b ∈ fp, ∀ ob, h₁.get? b = some ob → h₃'.get? b = some ob := fun b hb ob e => by
          cases hn : h₀.get? b with
          | some o₀ =>
            have : o₀ = ob := by have := F₁.keep b o₀ hn; rw [e] at this; exact (Option.some.inj this).symm
            exact this ▸ F₃.keep b o₀ hn
          | none => exact (N₃ _ (List.mem_append_left _ (List.mem_append_left _ (mem_ownOf hb hn e)))).1
        have goal : ∃ mm, mm < n + 1 - i ∧ ∃ h' g' tk m' news' i, (⟨h₃',g₃,d,tk₃,o⟩ : Shared) = ⟨h',g',d,tk,o⟩ ∧ AllBare g' ∧ St i h' ∧ Fr h₀ env.locals h' m' ∧ News h₀ env.locals h' (K0 ++ news') ∧ (∀ p ∈ news', isIter p.2 = false) ∧ J i m' news' ∧ i ≤ n ∧ mm = n + 1 - i ∧ (∀ b ∈ fp, b ≠ I → ∀ ob, h.get? b = some ob → h'.get? b = some ob) :=
          ⟨n + 1 - (i + 1), by omega, h₃', g₃, tk₃, m₂, news₂, i + 1, rfl, hb₃, W.frame _ _ _ hst₁ keep, F₃, fun p hp => N₃ p (by rw [List.append_assoc]; exact List.mem_append_right _ hp), hni₃, hJ₃, hlt, rfl, fun b hb hbI ob e => keep b hb ob (hk₁ b ob (fun hm => hbI (List.mem_singleton.mp hm)) (hl' b hb hbI ob e))⟩
        rcases hf with rfl | rfl <;> exact goal
  · have hin : i = n := by omega
    subst hin
    refine W.done ⟨h',g',d,tk',o⟩ _ _ hst' fun h₁ tk₁ hk₁ => wpAny_execs_nil ?_
    obtain ⟨F₁, N₁⟩ := next h₁ hk₁
    exact fin h₁ g' tk₁ m' news' hb' F₁ N₁ hni' hJ
theorem sSliceAB {value le ue : Expr} {p pos : Pos} {s : Shared}
    (H : wpAny (model prog w) A (eval value env) (fun o s₁ => wpAny (model prog w) A (eval le env) (fun vl s₂ => wpAny (model prog w) A (eval ue env) (fun vu s₃ =>
      ∃ (l : List Nat) (t : Tok) (a : Nat) (ta : Tok) (b : Nat) (tb : Tok), o = .str (sl l) t ∧ vl = .int (a : Int) ta ∧ vu = .int (b : Int) tb ∧ l.length ≤ 16777216 ∧ ∀ h' t' k, Ext s₃.heap h' → Q (.str (sl ((l.drop a).take (b - a))) t') { s₃ with heap := h', toks := k }) E s₂) E s₁) E s)
    (ht : ∀ o r, letTemporaryGo value o r = pure ()) :
    wpAny (model prog w) A (eval (.Subscript value (.Slice (some le) (some ue) none p) pos) env) Q E s := by
  refine sSlice (wpAny_mono H (fun o s₁ h₁ => evalPart_some_step (wpAny_mono h₁ (fun vl s₂ h₂ => evalPart_some_step (wpAny_mono h₂ (fun vu s₃ h₃ => ?_) fun _ _ e => e)) fun _ _ e => e)) fun _ _ e => e) ht
  obtain ⟨l, t, a, ta, b, tb, rfl, rfl, rfl, hl, hQ⟩ := h₃
  refine ⟨sl l, t, some ((a : Int), ta), some ((b : Int), tb), rfl, rfl, rfl, by rw [sl_len, sizeLine_eq]; exact hl, fun h' t' k hx => ?_⟩
  have e := slice_any l a b
  show Q (.str (Txt.slice (sl l) (some (a : Int)) (some (b : Int))) t') _
  rw [e]
  exact hQ h' t' k hx
theorem sSliceA {value le : Expr} {p pos : Pos} {s : Shared}
    (H : wpAny (model prog w) A (eval value env) (fun o s₁ => wpAny (model prog w) A (eval le env) (fun vl s₂ =>
      ∃ (l : List Nat) (t : Tok) (a : Nat) (ta : Tok), o = .str (sl l) t ∧ vl = .int (a : Int) ta ∧ a ≤ l.length ∧ l.length ≤ 16777216 ∧ ∀ h' t' k, Ext s₂.heap h' → Q (.str (sl (l.drop a)) t') { s₂ with heap := h', toks := k }) E s₁) E s)
    (ht : ∀ o r, letTemporaryGo value o r = pure ()) :
    wpAny (model prog w) A (eval (.Subscript value (.Slice (some le) none none p) pos) env) Q E s := by
  refine sSlice (wpAny_mono H (fun o s₁ h₁ => evalPart_some_step (wpAny_mono h₁ (fun vl s₂ h₂ => evalPart_none_step ?_) fun _ _ e => e)) fun _ _ e => e) ht
  obtain ⟨l, t, a, ta, rfl, rfl, ha, hl, hQ⟩ := h₂
  refine ⟨sl l, t, some ((a : Int), ta), none, rfl, rfl, rfl, by rw [sl_len, sizeLine_eq]; exact hl, fun h' t' k hx => ?_⟩
  have e := slice_from l ha
  show Q (.str (Txt.slice (sl l) (some (a : Int)) none) t') _
  rw [e]
  exact hQ h' t' k hx
end
end Mine
end

section
open PySem PySem.W PyProof.Rows PySem.Calls PySem.SeqAt
set_option maxRecDepth 100000
set_option maxHeartbeats 1000000
set_option linter.unusedVariables false
namespace Mine

section
variable {prog : Program} {w : World} {M : Model} {A : Around} {E : Value → Shared → Prop} {env : Env}
  {h h₀ : Heap} {g : Array GenState} {d : Drawn} {tk : Nat} {o : OsState} {m : Str → Option Value} {news : List (Addr × Obj)} {L : Addr} {Q : Value → Shared → Prop}
theorem lSlice {value : Expr} {lower upper : Option Expr} {p pos : Pos} {s : Shared}
    (H : wpAny (model prog w) A (eval value env) (fun ov s₁ => wpAny (model prog w) A (evalPart lower env) (fun vl s₂ => wpAny (model prog w) A (evalPart upper env) (fun vu s₃ =>
      ∃ (D : Addr) (vs : List Value) (lo hi : Option Int), ov = .ref D ∧ s₃.heap.IsList D vs.toArray ∧ IsPart vl lo ∧ IsPart vu hi ∧ vs.length ≤ 16777216 ∧
        ∀ h' q, Ext s₃.heap h' → s₃.heap.get? q = none → h'.get? q = some (lst (slicePick vs.toArray lo hi none).toList 0) → Q (.ref q) { s₃ with heap := h' }) E s₂) E s₁) E s)
    (hs : ∀ D q, ∃ ops, subscripted (.Slice lower upper none p) false (.ref D) (.ref q) = operate ops (getItem (.ref D) (.ref q))) :
    wpAny (model prog w) A (eval (.Subscript value (.Slice lower upper none p) pos) env) Q E s := by
  refine PyProof.Rows.Subscript_ (wpAny_mono H (fun ov s₁ h₁ => wpAny_Slice (wpAny_mono h₁ (fun vl s₂ h₂ => wpAny_mono h₂ (fun vu s₃ h₃ => ?_) fun _ _ e => e) fun _ _ e => e)) fun _ _ e => e)
  obtain ⟨D, vs, lo, hi, rfl, hl, hlo, hhi, hsz, hQ⟩ := h₃
  refine evalPart_none_step ?_
  have hx : ∀ o b ob, s₃.heap.get? b = some ob → (s₃.heap.push o).get? b = some ob := fun o b ob e => Heap.get?_push_of_some _ e
  have hl' : (s₃.heap.push { cls := .type "slice", data := .fields #[vl, vu, .none] }).IsList D vs.toArray := IsList.ext hl (hx _)
  obtain ⟨ops, hs'⟩ := hs D s₃.heap.objs.size
  refine tail_any (s := { s₃ with heap := s₃.heap.push { cls := .type "slice", data := .fields #[vl, vu, .none] } }) hl'.typeIs slot_list_getitem.lookup
    (wpAny_getItem_list_slice (s := { s₃ with heap := s₃.heap.push { cls := .type "slice", data := .fields #[vl, vu, .none] } }) (hsz := by rw [List.size_toArray, sizeLine_eq]; exact hsz) hl' (Heap.IsSliceOf.new _ _ _ _) hlo hhi .none (by decide) ?_) hs'
  refine hQ _ _ (fun b ob e => Heap.get?_push_of_some _ (Heap.get?_push_of_some _ e)) (fresh_of_le (by show _ ≤ (Heap.push _ _).objs.size; rw [Heap.size_push]; exact Nat.le_succ _)) ?_
  have := Heap.get?_push_size (s₃.heap.push { cls := .type "slice", data := .fields #[vl, vu, .none] }) (o := lst (slicePick vs.toArray lo hi none).toList 0) rfl
  simpa [lst] using this

theorem ints_at {ys zs : List Value} {ns : List Int} (hy : IntsAre ys ns) (hz : IntsAre zs ns) (A : Around) (s : Shared) : ∀ j (h1 : j < ys.toArray.size) (h2 : j < zs.toArray.size), EqAt A s ys.toArray[j] zs.toArray[j] true := fun j h1 h2 => by
  have h1' : j < ys.length := by simpa using h1
  have h2' : j < zs.length := by simpa using h2
  obtain ⟨t, e1⟩ := hy.int_at j _ (List.getElem?_eq_getElem h1')
  obtain ⟨u, e2⟩ := hz.int_at j _ (List.getElem?_eq_getElem h2')
  have e : EqAt A s (.int (ns.getD j 0) t) (.int (ns.getD j 0) u) (ns.getD j 0 == ns.getD j 0) := EqAt.int_int _ _ _ _
  rw [beq_self_eq_true] at e
  simpa [e1, e2] using e
theorem all_true (n : Nat) : ((List.range n).all fun _ => true) = true := by simp
theorem lEqI {l b : Addr} {ys zs : List Value} {ns : List Int} (hl : h.IsList l ys.toArray) (hb : h.IsList b zs.toArray) (hy : IntsAre ys ns) (hz : IntsAre zs ns) (hu : A.units < cLine)
    (H : Q (.bool true) ⟨h,g,d,tk,o⟩) : wpAny (model prog w) A (compareOp .Eq (.ref l) (.ref b)) Q E ⟨h,g,d,tk,o⟩ := by
  refine eq_listAt (s := ⟨h,g,d,tk,o⟩) (e := fun _ => true) hl hb (by simp [hy.length, hz.length]) hu (ints_at hy hz _ _) ?_
  rw [all_true]; exact H
theorem lNeI {l b : Addr} {ys zs : List Value} {ns : List Int} (hl : h.IsList l ys.toArray) (hb : h.IsList b zs.toArray) (hy : IntsAre ys ns) (hz : IntsAre zs ns) (hu : A.units < cLine)
    (H : Q (.bool false) ⟨h,g,d,tk,o⟩) : wpAny (model prog w) A (compareOp .NotEq (.ref l) (.ref b)) Q E ⟨h,g,d,tk,o⟩ := by
  refine RcNeAt.lists (s := ⟨h,g,d,tk,o⟩) (e := fun _ => true) hl hb (by simp [hy.length, hz.length]) hu (ints_at hy hz _ _) prog w E Q ?_
  rw [all_true]; exact H
/-- a comprehension whose list is given a name at once -/
theorem comp_A {elt iter : Expr} {x y : Str} {px py : Pos} {ifs : List Expr} {sc : Scope} {cl : List (Str × Addr)} {pos spos : Pos} {rest : List Stmt} {Q : Flow → Shared → Prop} (p : Value → Bool) (Fv : Value → Value → Prop)
    (hsw : swapsWith (.ListComp elt [⟨.Name x px, iter, ifs, 0⟩] sc pos) (some (.Name y py)) spos.line env = pure true)
    (hh : A.handled = none) (hclos : closureFor sc env = pure cl) (hcell : ∀ z ∈ sc.names, z.2 ≠ .cell) (hkind : sc.kind = .function)
    (hnames : ∀ z ∈ sc.names, z.2 = .local → sc.names.lookup z.1 = some .local) (hx : sc.names.lookup x = some .local) (hy : env.kindOf y = some .local) (hk : env.scope.kind = .function) (hs : ∀ x, foldedSetIterable iter env x = pure x)
    {s : Shared} (H : wpAny (model prog w) A (eval iter env) (fun xv s₁ => wpAny (model prog w) A (pyIter xv) (fun it s₂ => ∃ (h : Heap) (n : Nat) (P : Nat → Value → Prop) (m : Str → Option Value) (news : List (Addr × Obj)), Ready prog w h it s₂.heap n P ∧ n ≤ sizeLine ∧ Fr h₀ env.locals h m ∧ News h₀ env.locals h news ∧
      (∀ C i v h₃ g₃ d₃ tk₃ o₃ m₃ E', i < n → P i v → Fr h C h₃ m₃ → m₃ x = some v → TestIs prog w A (compEnvC sc cl C env) ifs (p v) E' ⟨h₃,g₃,d₃,tk₃,o₃⟩) ∧
      (∀ C i v h₃ g₃ d₃ tk₃ o₃ m₃ E', i < n → P i v → p v = true → Fr h C h₃ m₃ → m₃ x = some v →
        wpAny (model prog w) A (eval elt (compEnvC sc cl C env)) (fun y s₄ => Fv v y ∧ ∃ h' tk', s₄ = ⟨h',g₃,d₃,tk',o₃⟩ ∧ Ext h₃ h') E' ⟨h₃,g₃,d₃,tk₃,o₃⟩) ∧
      (∀ D h' tk ys nn (vs : List Value), h.get? D = none → vs.length = n → (∀ j v, vs[j]? = some v → P j v) → Paired Fv (vs.filter p) ys → Fr h₀ env.locals h' (fun z => if z = y then some (.ref D) else m z) → News h₀ env.locals h' ((D, lst ys nn) :: news) →
        wpAny (model prog w) A (execs rest env) Q E ⟨h', s₂.gens, s₂.drawn, tk, s₂.os⟩)) E s₁) E s) :
    wpAny (model prog w) A (execs (.Assign [.Name y py] (.ListComp elt [⟨.Name x px, iter, ifs, 0⟩] sc pos) spos :: rest) env) Q E s := by
  refine wpAny_execs_cons (wpAny_Assign_ListComp_free p Fv hsw hclos hcell hkind hnames hx hy (by rw [hk]; rfl) (wpAny_mono H (fun xv s₁ h₁ => wpAny_mono h₁ (fun it s₂ h₂ => ?_) fun _ _ e => e) fun _ _ e => e) hs)
  obtain ⟨h, n, P, m, news, ⟨I, fp, St, rfl, hI, W, _, hst, hfp, hxt, _, hsz⟩, hn, F, N, ht, he, hf⟩ := h₂
  obtain ⟨oL, esL, epL, hLget, hLd, hLr⟩ := id F.ns
  have hLI : env.locals ∉ [I] := fun e => by rw [List.mem_singleton.mp e, hI] at hLget; cases hLget
  refine ⟨I, fp, [I], n, _, St, m, rfl, walks_lt (W A hh), hn, hst, hfp, hLI, F.ns.keeps hxt, ⟨fun C i v s₃ m₃ E' hC hP hns hm hk htk => ?_, fun C i v s₃ m₃ E' hC hP hp hns hm hk htk => ?_⟩, fun D h' tk ys vs hD hl hpl hlen hP hF hns' hk' => ?_⟩
  · obtain ⟨h₃, g₃, d₃, tk₃, o₃⟩ := s₃
    exact test_of (ht C i v h₃ g₃ d₃ tk₃ o₃ m₃ E' hP.1 hP.2 ⟨hns, ext_but hI hxt hk, Nat.le_trans hsz hC⟩ hm)
  · obtain ⟨h₃, g₃, d₃, tk₃, o₃⟩ := s₃
    refine wpAny_mono (he C i v h₃ g₃ d₃ tk₃ o₃ m₃ E' hP.1 hP.2 hp ⟨hns, ext_but hI hxt hk, Nat.le_trans hsz hC⟩ hm) (fun y s₄ h₄ => ?_) fun _ _ e => e
    obtain ⟨hF, h', tk', rfl, hx'⟩ := h₄
    exact ⟨hF, h', tk', rfl, hx'⟩
  · obtain ⟨nn, ho⟩ := plain_obj hpl
    have hDh : h.get? D = none := by
      cases e : h.get? D with
      | none => rfl
      | some ob => rw [hxt D ob e] at hD; cases hD
    have up : ∀ b ob, b ≠ env.locals → h.get? b = some ob → h'.get? b = some ob := fun b ob hb e =>
      hk' b ob hb (fun hm => by rw [List.mem_singleton.mp hm, hI] at e; cases e) (hxt b ob e)
    have hL0 : h₀.get? env.locals = none := fresh_of_le F.above
    have F' : Fr h₀ env.locals h' (fun z => if z = y then some (.ref D) else m z) :=
      ⟨hns', fun b ob e => up b ob (fun q => by rw [q, hL0] at e; cases e) (F.keep b ob e), F.above⟩
    refine hf D h' tk ys.toList nn vs hDh hlen (fun j v e => (hP j v e).2) hF F' fun q hq => ?_
    rcases List.mem_cons.mp hq with rfl | hq
    · refine ⟨by simpa [lst] using ho, fun e => ?_, ?_⟩
      · rw [show D = env.locals from e, hLget] at hDh; cases hDh
      · cases e : h₀.get? D with
        | none => rfl
        | some ob => rw [F.keep D ob e] at hDh; cases hDh
    · exact ⟨up _ _ (N q hq).2.1 (N q hq).1, (N q hq).2⟩
theorem eSlice {lower upper : Option Expr} {p : Pos} {s : Shared}
    (H : wpAny (model prog w) A (evalPart lower env) (fun vl s₂ => wpAny (model prog w) A (evalPart upper env) (fun vu s₃ => ∀ h' q, Ext s₃.heap h' → h'.IsSliceOf q vl vu .none → Q (.ref q) { s₃ with heap := h' }) E s₂) E s) :
    wpAny (model prog w) A (eval (.Slice lower upper none p) env) Q E s := by
  refine wpAny_Slice (wpAny_mono H (fun vl s₂ h₂ => wpAny_mono h₂ (fun vu s₃ h₃ => evalPart_none_step ?_) fun _ _ e => e) fun _ _ e => e)
  exact h₃ _ _ (fun b ob e => Heap.get?_push_of_some _ e) (Heap.IsSliceOf.new _ _ _ _)
theorem lTail {value slice : Expr} {D q : Addr} {vs : List Value} {vl vu : Value} {lo hi : Option Int} (hl : h.IsList D vs.toArray) (hq : h.IsSliceOf q vl vu .none) (hlo : IsPart vl lo) (hhi : IsPart vu hi) (hsz : vs.length ≤ 16777216)
    (H : ∀ h' r, Ext h h' → h.get? r = none → h'.get? r = some (lst (slicePick vs.toArray lo hi none).toList 0) → Q (.ref r) ⟨h',g,d,tk,o⟩)
    (hs : ∃ ops, subscripted slice false (.ref D) (.ref q) = operate ops (getItem (.ref D) (.ref q))) :
    wpAny (model prog w) A (subscriptTail value slice (.ref D) (.ref q)) Q E ⟨h,g,d,tk,o⟩ := by
  obtain ⟨ops, hs'⟩ := hs
  refine tail_any (s := ⟨h,g,d,tk,o⟩) hl.typeIs slot_list_getitem.lookup
    (wpAny_getItem_list_slice (s := ⟨h,g,d,tk,o⟩) (hsz := by rw [List.size_toArray, sizeLine_eq]; exact hsz) hl hq hlo hhi .none (by decide) ?_) hs'
  refine H _ _ (fun b ob e => Heap.get?_push_of_some _ e) (fresh_of_le (Nat.le_refl _)) ?_
  have := Heap.get?_push_size h (o := lst (slicePick vs.toArray lo hi none).toList 0) rfl
  simpa [lst] using this
end
end Mine
end

section
open PySem PySem.W PyProof.Rows PySem.Calls
set_option maxRecDepth 100000
set_option maxHeartbeats 1000000
set_option linter.unusedVariables false
namespace Mine

theorem newsAddL {h₀ h₁ h : Heap} {L : Addr} {m : Str → Option Value} {news l : List (Addr × Obj)} (F : Fr h₀ L h₁ m) (N : News h₀ L h news) (hl : ∀ p ∈ l, h.get? p.1 = some p.2 ∧ h₁.get? p.1 = none) : News h₀ L h (l ++ news) := fun q hq => by
  rcases List.mem_append.mp hq with hq | hq
  · obtain ⟨a, b⟩ := hl q hq
    refine ⟨a, ?_, ?_⟩
    · intro e
      obtain ⟨oL, _, _, hL, _⟩ := F.ns
      rw [e, hL] at b; cases b
    · cases e : h₀.get? q.1 with
      | none => rfl
      | some ob' => rw [F.keep _ ob' e] at b; cases b
  · exact N q hq
def refsOf (vs : List Value) : List Addr := vs.filterMap fun v => match v with
  | .ref q => some q
  | _ => none
theorem mem_refsOf {q : Addr} {vs : List Value} (h : Value.ref q ∈ vs) : q ∈ refsOf vs := List.mem_filterMap.mpr ⟨_, h, rfl⟩
theorem items_keep {h h' : Heap} : ∀ {its : List Item} {vs : List Value}, Items h its vs → (∀ q ∈ refsOf vs, ∀ o, h.get? q = some o → h'.get? q = some o) → Items h' its vs
  | _, _, .nil, _ => .nil
  | _, _, .cons ⟨q, u, u', u'', e, o, ho, hr⟩ t, hk => by
    subst e
    exact .cons ⟨q, u, u', u'', rfl, o, hk q (mem_refsOf (.head _)) o ho, hr⟩ (items_keep t fun q hq o ho => hk q (by
      obtain ⟨v, hv, e⟩ := List.mem_filterMap.mp hq
      exact List.mem_filterMap.mpr ⟨v, .tail _ hv, e⟩) o ho)
theorem items_notL {h₀ h : Heap} {L : Addr} {m : Str → Option Value} (F : Fr h₀ L h m) : ∀ {its : List Item} {vs : List Value}, Items h its vs → L ∉ refsOf vs
  | _, _, .nil => by simp [refsOf]
  | _, _, .cons ⟨q, u, u', u'', e, o, ho, hc, k, hd⟩ t => by
    subst e
    intro hm
    obtain ⟨v, hv, e⟩ := List.mem_filterMap.mp hm
    rcases List.mem_cons.mp hv with rfl | hv
    · cases e
      obtain ⟨oL, _, _, hL, hdL, _⟩ := F.ns
      rw [ho] at hL
      cases Option.some.inj hL
      rw [hd] at hdL; cases hdL
    · exact items_notL F t (List.mem_filterMap.mpr ⟨v, hv, e⟩)
theorem items_ledger {h₀ h : Heap} {L : Addr} {m : Str → Option Value} {its : List Item} {vs : List Value} (F : Fr h₀ L h m) (hI : Items h its vs) : News h₀ L h (ownOf h₀ (refsOf vs) h) := news_ownOf (items_notL F hI)
theorem items_back {h₀ h h' : Heap} {its : List Item} {vs : List Value} (hI : Items h its vs) (hx0 : Ext h₀ h) (hx : Ext h₀ h') (hk : ∀ p ∈ ownOf h₀ (refsOf vs) h, h'.get? p.1 = some p.2) : Items h' its vs :=
  items_keep hI fun q hq o ho => by
    cases e : h₀.get? q with
    | some o0 =>
      have := hx0 q o0 e
      rw [ho] at this
      rw [Option.some.inj this]; exact hx q o0 e
    | none => exact hk (q, o) (List.mem_filterMap.mpr ⟨q, hq, by simp [e, ho]⟩)
theorem ownOf_tag {h₀ h : Heap} {its : List Item} {vs : List Value} (hI : Items h its vs) : ∀ p ∈ ownOf h₀ (refsOf vs) h, tag p.2 = 0 := by
  intro p hp
  obtain ⟨q, hq, e⟩ := List.mem_filterMap.mp hp
  have : ∃ o, h.get? q = some o ∧ tag o = 0 := by
    clear e hp
    induction hI with
    | nil => simp [refsOf] at hq
    | cons h1 t ih =>
      obtain ⟨q', u, u', u'', e, o, ho, hc, k, hd⟩ := h1
      subst e
      obtain ⟨v, hv, e⟩ := List.mem_filterMap.mp hq
      rcases List.mem_cons.mp hv with rfl | hv
      · cases e; exact ⟨o, ho, by unfold tag; rw [hd]⟩
      · exact ih (List.mem_filterMap.mpr ⟨v, hv, e⟩)
  obtain ⟨o, ho, ht⟩ := this
  rw [ho] at e
  split at e
  · have : (q, o) = p := Option.some.inj e
    rw [← this]; exact ht
  · cases e
theorem paired_at2 {α β : Type} {F : α → β → Prop} : ∀ {l : List α} {ys : List β}, Paired F l ys → ∀ (i : Nat) a, l[i]? = some a → ∃ y, ys[i]? = some y ∧ F a y
  | _, _, .nil, i, v, e => by simp at e
  | _, _, .cons h t, 0, v, e => by simp at e; exact ⟨_, rfl, e ▸ h⟩
  | _, _, .cons h t, i + 1, v, e => by simpa using paired_at2 t i v (by simpa using e)
section
variable {prog : Program} {w : World} {A : Around} {E : Value → Shared → Prop} {h : Heap} {g : Array GenState} {d : Drawn} {tk : Nat} {o : OsState}
theorem ready_rangeZ {h h₁ : Heap} (hx : Ext h h₁) (hle : h.objs.size ≤ h₁.objs.size) (n : Nat) :
    ReadyZ prog w h (.ref h₁.objs.size) (h₁.push { cls := .type "range_iterator", data := .fields #[rawInt 0, rawInt n, rawInt 1] }) n (fun i v => ∃ t, v = .int (i : Int) t) (fun _ => False) := by
  have e : (fun (i : Nat) (v : Value) => ∃ t, v = .int ((0 : Int) + (i : Int) * 1) t) = fun i v => ∃ t, v = .int (i : Int) t := by funext i v; simp
  refine ⟨h₁.objs.size, [h₁.objs.size], _, rfl, fresh_of_le hle, fun A' hA => e ▸ Walks.range hA h₁.objs.size 0 1 n, fun i h st => ⟨_, st, rfl⟩, ?_, ?_, fun b o q => Heap.get?_push_of_some _ (hx b o q), fun b hb => .inl (List.mem_singleton.mp hb), by rw [Heap.size_push]; omega⟩
  · show IsRangeIter _ _ _ _ _
    have := Heap.get?_push_size h₁ (o := { cls := .type "range_iterator", data := .fields #[rawInt 0, rawInt n, rawInt 1] }) rfl
    simpa using this
  · intro b hb
    rw [List.mem_singleton.mp hb, Heap.size_push]
    exact Nat.lt_succ_self _
theorem it_rangeZ {Q : Value → Shared → Prop} {i : Int} {n : Nat} {t : Tok} (hi : i = n) (hn : n < 2 ^ 62)
    (H : ∀ it h₂ tk, ReadyZ prog w h it h₂ n (fun i v => ∃ t, v = .int (i : Int) t) (fun _ => False) → Q it ⟨h₂,g,d,tk,o⟩) :
    wpAny (model prog w) A (call (.type "range") [.int i t]) (fun xv s₁ => wpAny (model prog w) A (pyIter xv) Q E s₁) E ⟨h,g,d,tk,o⟩ := by
  subst hi
  refine call_range_1 (s := ⟨h,g,d,tk,o⟩) ?_
  refine wpAny_pyIter_range (IsRange.new h 0 n 1 _ _ _) (small_one (by decide) (by decide) (by omega) (by omega)) ?_
  have e2 : Builtin.Range.rangeSize 0 n 1 = (n : Int) := by rw [rangeSize_one]; split <;> omega
  rw [e2]
  exact H _ _ _ (ready_rangeZ (fun b o q => Heap.get?_push_of_some _ q) (by rw [Heap.size_push]; exact Nat.le_succ _) n)
end
end Mine
end

section
open PySem PySem.W PyProof.Rows PySem.Calls
namespace Mine
local macro_rules | `(tactic| walk_at "mem") => `(tactic| first | exact List.Mem.head _ | (refine List.Mem.tail _ ?_; walk_at "mem") | (refine List.mem_append_right _ ?_; walk_at "mem") | (refine List.mem_append_left _ ?_; walk_at "mem"))
local macro_rules | `(tactic| walk_at "fit") => `(tactic| first | omega | ((try simp only [List.length_append, List.length_cons, List.length_nil, List.length_map] at *); omega))
local macro_rules | `(tactic| walk_at "w0") => `(tactic| first
  | ((with_reducible show wpAny _ _ (eval (Expr.Constant (Const.int _) _ _) _) _ _ _); with_reducible refine cInt ?_; intro _ _)
  | ((with_reducible show wpAny _ _ (eval (Expr.Constant (Const.str "\\") _ _) _) _ _ _); with_reducible refine cLit (l := [92]) (by k_dflt rfl) ?_; intro _ _)
  | ((with_reducible show wpAny _ _ (eval (Expr.Constant (Const.str "") _ _) _) _ _ _); with_reducible refine cLit (l := []) (by k_dflt rfl) ?_; intro _ _)
  | ((with_reducible show wpAny _ _ (eval (Expr.Constant (Const.str "\\\"") _ _) _) _ _ _); with_reducible refine cLit (l := [92, 34]) (by k_dflt rfl) ?_; intro _ _)
  | ((with_reducible show wpAny _ _ (eval (Expr.Constant (Const.str "\"") _ _) _) _ _ _); with_reducible refine cLit (l := [34]) (by k_dflt rfl) ?_; intro _ _)
  | ((with_reducible show wpAny _ _ (eval (Expr.Constant (Const.str "...") _ _) _) _ _ _); with_reducible refine cLit (l := [46, 46, 46]) (by k_dflt rfl) ?_; intro _ _)
  | ((with_reducible show wpAny _ _ (eval (Expr.Constant (Const.str "\"\"") _ _) _) _ _ _); with_reducible refine cLit (l := [34, 34]) (by k_dflt rfl) ?_; intro _ _)
  | ((with_reducible show wpAny _ _ (eval (Expr.Constant (Const.str "s") _ _) _) _ _ _); with_reducible refine cLit (l := [115]) (by k_dflt rfl) ?_; intro _ _)
  | ((with_reducible show wpAny _ _ (eval (Expr.Constant (Const.str "t") _ _) _) _ _ _); with_reducible refine cLit (l := [116]) (by k_dflt rfl) ?_; intro _ _)
  | ((with_reducible show wpAny _ _ (eval (Expr.Constant (Const.str "ss") _ _) _) _ _ _); with_reducible refine cLit (l := [115, 115]) (by k_dflt rfl) ?_; intro _ _)
  | ((with_reducible show wpAny _ _ (eval (Expr.Constant (Const.str "s...t...s") _ _) _) _ _ _); with_reducible refine cLit (l := [115, 46, 46, 46, 116, 46, 46, 46, 115]) (by k_dflt rfl) ?_; intro _ _)
  | ((with_reducible show wpAny _ _ (eval (Expr.Constant (Const.str "s...s...s") _ _) _) _ _ _); with_reducible refine cLit (l := [115, 46, 46, 46, 115, 46, 46, 46, 115]) (by k_dflt rfl) ?_; intro _ _)
  | ((with_reducible show wpAny _ _ (eval (Expr.Constant (Const.str _) _ _) _) _ _ _); with_reducible refine cStr ?_; intro _ _)
  | ((with_reducible show wpAny _ _ (eval (Expr.Constant (Const.bool _) _ _) _) _ _ _); with_reducible refine cBool ?_)
  | ((with_reducible show wpAny _ _ (eval (Expr.Constant Const.none _ _) _) _ _ _); with_reducible refine cNone ?_)
  | ((with_reducible show wpAny _ _ (eval (Expr.Name "chr" _) _) _ _ _); with_reducible refine n_chr (by k_dflt assumption) (by k_dflt assumption) ?_ (by k_dflt rfl) (by k_dflt rfl) (by k_dflt rfl) (by k_dflt rfl))
  | ((with_reducible show wpAny _ _ (eval (Expr.Name "ord" _) _) _ _ _); with_reducible refine n_ord (by k_dflt assumption) (by k_dflt assumption) ?_ (by k_dflt rfl) (by k_dflt rfl) (by k_dflt rfl) (by k_dflt rfl))
  | ((with_reducible show wpAny _ _ (eval (Expr.Name "len" _) _) _ _ _); with_reducible refine n_len (by k_dflt assumption) (by k_dflt assumption) ?_ (by k_dflt rfl) (by k_dflt rfl) (by k_dflt rfl) (by k_dflt rfl))
  | ((with_reducible show wpAny _ _ (eval (Expr.Name "range" _) _) _ _ _); with_reducible refine n_range (by k_dflt assumption) (by k_dflt assumption) ?_ (by k_dflt rfl) (by k_dflt rfl) (by k_dflt rfl) (by k_dflt rfl))
  | ((with_reducible show wpAny _ _ (eval (Expr.Name "enumerate" _) _) _ _ _); with_reducible refine n_enumerate (by k_dflt assumption) (by k_dflt assumption) ?_ (by k_dflt rfl) (by k_dflt rfl) (by k_dflt rfl) (by k_dflt rfl))
  | ((with_reducible show wpAny _ _ (eval (Expr.Name "in_table_b1" _) _) _ _ _); with_reducible refine nFn (e := dB1) (by k_dflt assumption) (by k_dflt assumption) mem_dB1 (by k_dflt rfl) ?_ (by k_dflt rfl) (by k_dflt rfl) (by k_dflt rfl) (by k_dflt rfl) (by decide); intro _ _)
  | ((with_reducible show wpAny _ _ (eval (Expr.Name "map_table_b3" _) _) _ _ _); with_reducible refine nFn (e := dB3) (by k_dflt assumption) (by k_dflt assumption) mem_dB3 (by k_dflt rfl) ?_ (by k_dflt rfl) (by k_dflt rfl) (by k_dflt rfl) (by k_dflt rfl) (by decide); intro _ _)
  | ((with_reducible show wpAny _ _ (eval (Expr.Name "in_table_c8" _) _) _ _ _); with_reducible refine nFn (e := dC8) (by k_dflt assumption) (by k_dflt assumption) mem_dC8 (by k_dflt rfl) ?_ (by k_dflt rfl) (by k_dflt rfl) (by k_dflt rfl) (by k_dflt rfl) (by decide); intro _ _)
  | ((with_reducible show wpAny _ _ (eval (Expr.Name "in_table_c9" _) _) _ _ _); with_reducible refine nFn (e := dC9) (by k_dflt assumption) (by k_dflt assumption) mem_dC9 (by k_dflt rfl) ?_ (by k_dflt rfl) (by k_dflt rfl) (by k_dflt rfl) (by k_dflt rfl) (by decide); intro _ _)
  | ((with_reducible show wpAny _ _ (eval (Expr.Name "_ellipsis_match" _) _) _ _ _); with_reducible refine nFn (e := dEll) (by k_dflt assumption) (by k_dflt assumption) mem_dEll (by k_dflt rfl) ?_ (by k_dflt rfl) (by k_dflt rfl) (by k_dflt rfl) (by k_dflt rfl) (by decide); intro _ _)
  | ((with_reducible show wpAny _ _ (eval (Expr.Name "_iter_escaped_chars" _) _) _ _ _); with_reducible refine nFn (e := dIter) (by k_dflt assumption) (by k_dflt assumption) mem_dIter (by k_dflt rfl) ?_ (by k_dflt rfl) (by k_dflt rfl) (by k_dflt rfl) (by k_dflt rfl) (by decide); intro _ _)
  | ((with_reducible show wpAny _ _ (eval (Expr.Name "_strip_quoted_realnames" _) _) _ _ _); with_reducible refine nFn (e := dStrip) (by k_dflt assumption) (by k_dflt assumption) mem_dStrip (by k_dflt rfl) ?_ (by k_dflt rfl) (by k_dflt rfl) (by k_dflt rfl) (by k_dflt rfl) (by decide); intro _ _)
  | ((with_reducible show wpAny _ _ (eval (Expr.Name "_law_sign" _) _) _ _ _); with_reducible refine nFn (e := dSign) (by k_dflt assumption) (by k_dflt assumption) mem_dSign (by k_dflt rfl) ?_ (by k_dflt rfl) (by k_dflt rfl) (by k_dflt rfl) (by k_dflt rfl) (by decide); intro _ _)
  | ((with_reducible show wpAny _ _ (eval (Expr.Name "_law_mark" _) _) _ _ _); with_reducible refine nFn (e := dMark) (by k_dflt assumption) (by k_dflt assumption) mem_dMark (by k_dflt rfl) ?_ (by k_dflt rfl) (by k_dflt rfl) (by k_dflt rfl) (by k_dflt rfl) (by decide); intro _ _)
  | ((with_reducible show wpAny _ _ (eval (Expr.Name "_law_marks" _) _) _ _ _); with_reducible refine nFn (e := dMarks) (by k_dflt assumption) (by k_dflt assumption) mem_dMarks (by k_dflt rfl) ?_ (by k_dflt rfl) (by k_dflt rfl) (by k_dflt rfl) (by k_dflt rfl) (by decide); intro _ _)
  | ((with_reducible show wpAny _ _ (eval (Expr.Name "_law_letter" _) _) _ _ _); with_reducible refine nFn (e := dLetter) (by k_dflt assumption) (by k_dflt assumption) mem_dLetter (by k_dflt rfl) ?_ (by k_dflt rfl) (by k_dflt rfl) (by k_dflt rfl) (by k_dflt rfl) (by decide); intro _ _)
  | ((with_reducible show wpAny _ _ (eval (Expr.Name "_law_items" _) _) _ _ _); with_reducible refine nFn (e := dItems) (by k_dflt assumption) (by k_dflt assumption) mem_dItems (by k_dflt rfl) ?_ (by k_dflt rfl) (by k_dflt rfl) (by k_dflt rfl) (by k_dflt rfl) (by decide); intro _ _)
  | ((with_reducible show wpAny _ _ (eval (Expr.Name "_law_known" _) _) _ _ _); with_reducible refine nFn (e := dKnown) (by k_dflt assumption) (by k_dflt assumption) mem_dKnown (by k_dflt rfl) ?_ (by k_dflt rfl) (by k_dflt rfl) (by k_dflt rfl) (by k_dflt rfl) (by decide); intro _ _)
  | ((with_reducible show wpAny _ _ (eval (Expr.Name "_law_begun" _) _) _ _ _); with_reducible refine nFn (e := dBegun) (by k_dflt assumption) (by k_dflt assumption) mem_dBegun (by k_dflt rfl) ?_ (by k_dflt rfl) (by k_dflt rfl) (by k_dflt rfl) (by k_dflt rfl) (by decide); intro _ _)
  | ((with_reducible show wpAny _ _ (eval (Expr.Name "_law_told" _) _) _ _ _); with_reducible refine nFn (e := dTold) (by k_dflt assumption) (by k_dflt assumption) mem_dTold (by k_dflt rfl) ?_ (by k_dflt rfl) (by k_dflt rfl) (by k_dflt rfl) (by k_dflt rfl) (by decide); intro _ _)
  | ((with_reducible show wpAny _ _ (eval (Expr.Name "law" _) _) _ _ _); with_reducible refine nFn (e := dLaw) (by k_dflt assumption) (by k_dflt assumption) mem_dLaw (by k_dflt rfl) ?_ (by k_dflt rfl) (by k_dflt rfl) (by k_dflt rfl) (by k_dflt rfl) (by decide); intro _ _)
  | ((with_reducible show wpAny _ _ (eval (Expr.Name _ _) _) _ _ _); with_reducible refine nLoc (by k_dflt assumption) (by k_dflt first | rfl | assumption) ?_ (by k_dflt rfl) (by k_dflt rfl) (by decide))
  | ((with_reducible show wpAny _ _ (eval (Expr.Name _ _) _) _ _ _); with_reducible refine nCellI (by k_dflt rfl) (by k_dflt assumption) ?_ (by k_dflt rfl) (by k_dflt rfl) (by decide))
  | ((with_reducible show wpAny _ _ (eval (Expr.Name _ _) _) _ _ _); with_reducible refine nCellN (by k_dflt assumption) (by k_dflt rfl) (by k_dflt walk_at "mem") (by k_dflt assumption) ?_ (by k_dflt rfl) (by k_dflt rfl) (by decide))
  | ((with_reducible show wpAny _ _ (eval (Expr.BinOp _ _ _ _) _) _ _ _); with_reducible refine wpAny_BinOp ?_)
  | ((with_reducible show wpAny _ _ (eval (Expr.Compare _ [_] [_] _) _) _ _ _); with_reducible refine wpAny_Compare1 ?_)
  | ((with_reducible show wpAny _ _ (eval (Expr.List _ _) _) _ _ _); with_reducible refine List_ ?_)
  | ((with_reducible show wpAny _ _ (eval (Expr.UnaryOp UnaryOp.Not _ _) _) _ _ _); with_reducible refine eNot ?_)
  | ((with_reducible show wpAny _ _ (eval (Expr.UnaryOp UnaryOp.USub _ _) _) _ _ _); with_reducible refine eNeg ?_)
  | ((with_reducible show wpAny _ _ (eval (Expr.Subscript _ _ _) _) _ _ _); with_reducible refine Subscript_ ?_)
  | ((with_reducible show wpAny _ _ (evalPart none _) _ _ _); with_reducible refine evalPart_none_step ?_)
  | ((with_reducible show wpAny _ _ (evalPart (some _) _) _ _ _); with_reducible refine evalPart_some_step ?_)
  | ((with_reducible show wpAny _ _ (eval (Expr.IfExp _ _ _ _) _) _ _ _); with_reducible refine wpAny_IfExp ?_)
  | ((with_reducible show wpAny _ _ (eval (Expr.Call (Expr.Name _ _) _ [] _) _) _ _ _); with_reducible refine Call_ ?_ (by k_dflt rfl))
  | ((with_reducible show wpAny _ _ (eval (Expr.Call (Expr.Attribute _ "join" _) (_ :: _) [] _) _) _ _ _); with_reducible refine mStr1 gm_join ?_ (by k_dflt rfl) (by k_dflt rfl) (by k_dflt rfl))
  | ((with_reducible show wpAny _ _ (eval (Expr.Call (Expr.Attribute _ "split" _) (_ :: _) [] _) _) _ _ _); with_reducible refine mStr1 gm_split ?_ (by k_dflt rfl) (by k_dflt rfl) (by k_dflt rfl))
  | ((with_reducible show wpAny _ _ (eval (Expr.Call (Expr.Attribute _ "find" _) (_ :: _) [] _) _) _ _ _); with_reducible refine mStr1 gm_find ?_ (by k_dflt rfl) (by k_dflt rfl) (by k_dflt rfl))
  | ((with_reducible show wpAny _ _ (eval (Expr.Call (Expr.Attribute _ "startswith" _) (_ :: _) [] _) _) _ _ _); with_reducible refine mStr1 gm_startswith ?_ (by k_dflt rfl) (by k_dflt rfl) (by k_dflt rfl))
  | ((with_reducible show wpAny _ _ (eval (Expr.Call (Expr.Attribute _ "endswith" _) (_ :: _) [] _) _) _ _ _); with_reducible refine mStr1 gm_endswith ?_ (by k_dflt rfl) (by k_dflt rfl) (by k_dflt rfl))
  | ((with_reducible show wpAny _ _ (eval (Expr.Call (Expr.Attribute _ "lower" _) [] [] _) _) _ _ _); with_reducible refine mStr0 gm_lower ?_ (by k_dflt rfl))
  | ((with_reducible show wpAny _ _ (isTrue (Expr.Compare _ [_] [_] _) _ _) _ _ _); with_reducible refine wpAny_isTrue_Compare1 ?_)
  | ((with_reducible show wpAny _ _ (isTrue (Expr.UnaryOp UnaryOp.Not _ _) _ _) _ _ _); with_reducible refine isTrue_not ?_)
  | ((with_reducible show wpAny _ _ (isTrue (Expr.BinOp _ _ _ _) _ _) _ _ _); with_reducible refine isTrue_plain ?_ (by k_dflt rfl))
  | ((with_reducible show wpAny _ _ (isTrue (Expr.Call _ _ _ _) _ _) _ _ _); with_reducible refine isTrue_plain ?_ (by k_dflt rfl))
  | ((with_reducible show wpAny _ _ (isTrue (Expr.ListComp _ _ _ _) _ _) _ _ _); with_reducible refine isTrue_plain ?_ (by k_dflt rfl))
  | ((with_reducible show wpAny _ _ (isTrue (Expr.Name _ _) _ _) _ _ _); with_reducible refine isTrue_plain ?_ (by k_dflt rfl))
  | ((with_reducible show wpAny _ _ (isTrue (Expr.BoolOp BoolOp.And [] _) _ _) _ _ _); with_reducible refine PyProof.Rows.isTrue_and_nil ?_)
  | ((with_reducible show wpAny _ _ (isTrue (Expr.BoolOp BoolOp.Or [] _) _ _) _ _ _); with_reducible refine PyProof.Rows.isTrue_or_nil ?_)
  | ((with_reducible show wpAny _ _ (isTrue (Expr.BoolOp BoolOp.And (_ :: _) _) _ _) _ _ _); with_reducible refine PyProof.Rows.isTrue_and ?_)
  | ((with_reducible show wpAny _ _ (isTrue (Expr.BoolOp BoolOp.Or (_ :: _) _) _ _) _ _ _); with_reducible refine PyProof.Rows.isTrue_or ?_)
  | ((with_reducible show wpAny _ _ (execs [] _) _ _ _); with_reducible refine xNil ?_)
  | ((with_reducible show wpAny _ _ (execs (Stmt.Return (some _) _ :: _) _) _ _ _); with_reducible refine xRet ?_)
  | ((with_reducible show wpAny _ _ (execs (Stmt.Assign [Expr.Name _ _] _ _ :: _) _) _ _ _); with_reducible refine xAssign ?_ (by k_dflt rfl))
  | ((with_reducible show wpAny _ _ (execs (Stmt.Assign [Expr.Subscript _ _ _] _ _ :: _) _) _ _ _); with_reducible refine xSetItem ?_ (by k_dflt rfl))
  | ((with_reducible show wpAny _ _ (execs (Stmt.Assert _ _ _ :: _) _) _ _ _); with_reducible refine xAssert ?_)
  | ((with_reducible show wpAny _ _ (execs (Stmt.Delete [Expr.Subscript _ _ _] _ :: _) _) _ _ _); with_reducible refine xDelItem ?_)
  | ((with_reducible show wpAny _ _ (eval (Expr.Tuple _ _ _) _) _ _ _); with_reducible refine Tuple_ ?_)
  | ((with_reducible show wpAny _ _ (call (Value.builtin "len") [Value.str (sl _) _]) _ _ _); with_reducible refine sLen (by k_dflt walk_at "fit") ?_; intro _ _)
  | ((with_reducible show wpAny _ _ (execs (Stmt.AugAssign (Expr.Name _ _) _ _ _ :: _) _) _ _ _); with_reducible refine xAug ?_)
  | ((with_reducible show wpAny _ _ (execs (Stmt.Expr _ _ :: _) _) _ _ _); with_reducible refine xExpr ?_ (by k_dflt rfl) (by k_dflt rfl))
  | ((with_reducible show wpAny _ _ (spliced (backTo _ (starEach [] _))) _ _ _); with_reducible refine args_nil ?_)
  | ((with_reducible show wpAny _ _ (spliced (backTo _ (starEach (_ :: _) _))) _ _ _); with_reducible refine args_cons ?_ (by k_dflt rfl))
  | ((with_reducible show wpAny _ _ (callWith _ (Value.builtin _) [] (backTo _ (starEach (_ :: _) _)) []) _ _ _); with_reducible refine PyProof.Rows.callWith_builtin1 ?_ (by k_dflt rfl) (by k_dflt rfl))
  | ((with_reducible show wpAny _ _ (callWith _ (Value.type _) [] (backTo _ (starEach (_ :: _) _)) []) _ _ _); with_reducible refine PyProof.Rows.callWith_type1 ?_ (by k_dflt rfl) (by k_dflt rfl))
  | ((with_reducible show wpAny _ _ (callWith _ (Value.ref _) [] (backTo _ (starEach (_ :: _) _)) []) _ _ _); with_reducible refine cFn (by k_dflt assumption) ?_ (by k_dflt rfl))
  | ((with_reducible show wpAny _ _ (truthy (Value.bool _)) _ _ _); with_reducible refine wpAny_truthy_bool ?_)
  | ((with_reducible show wpAny _ _ (truthy (Value.int _ _)) _ _ _); with_reducible refine PyProof.Rows.truthy_int ?_)
  | ((with_reducible show wpAny _ _ (compareOp CmpOp.Lt (Value.int _ _) (Value.int _ _)) _ _ _); with_reducible refine aLt ?_)
  | ((with_reducible show wpAny _ _ (compareOp CmpOp.Gt (Value.int _ _) (Value.int _ _)) _ _ _); with_reducible refine aGt ?_)
  | ((with_reducible show wpAny _ _ (compareOp CmpOp.GtE (Value.int _ _) (Value.int _ _)) _ _ _); with_reducible refine aGe ?_)
  | ((with_reducible show wpAny _ _ (compareOp CmpOp.Eq (Value.int _ _) (Value.int _ _)) _ _ _); with_reducible refine aEq ?_)
  | ((with_reducible show wpAny _ _ (compareOp CmpOp.NotEq (Value.int _ _) (Value.int _ _)) _ _ _); with_reducible refine aNe ?_)
  | ((with_reducible show wpAny _ _ (compareOp CmpOp.Eq (Value.str (sl _) _) (Value.str (sl _) _)) _ _ _); with_reducible refine sEqL ?_)
  | ((with_reducible show wpAny _ _ (compareOp CmpOp.NotEq (Value.str (sl _) _) (Value.str (sl _) _)) _ _ _); with_reducible refine sNeL ?_)
  | ((with_reducible show wpAny _ _ (binaryOp Operator.Add (Value.str (sl _) _) (Value.str (sl _) _)) _ _ _); with_reducible refine sAddL (by k_dflt walk_at "fit") ?_; intro _ _)
  | ((with_reducible show wpAny _ _ (inplaceOp Operator.Add (Value.str (sl _) _) (Value.str (sl _) _)) _ _ _); with_reducible refine sIAddL (by k_dflt walk_at "fit") ?_; intro _ _)
  | ((with_reducible show wpAny _ _ (truthy (Value.str (sl _) _)) _ _ _); with_reducible refine tStrL (by k_dflt walk_at "fit") ?_; intro _)
  | ((with_reducible show wpAny _ _ (compareOp CmpOp.Eq (Value.str _ _) (Value.str _ _)) _ _ _); with_reducible refine sEq ?_)
  | ((with_reducible show wpAny _ _ (compareOp CmpOp.NotEq (Value.str _ _) (Value.str _ _)) _ _ _); with_reducible refine sNe ?_)
  | ((with_reducible show wpAny _ _ (binaryOp Operator.Add (Value.int _ _) (Value.int _ _)) _ _ _); with_reducible refine aAdd ?_; intro _ _)
  | ((with_reducible show wpAny _ _ (binaryOp Operator.Sub (Value.int _ _) (Value.int _ _)) _ _ _); with_reducible refine aSub ?_; intro _ _)
  | ((with_reducible show wpAny _ _ (binaryOp Operator.Mult (Value.int _ _) (Value.int _ _)) _ _ _); with_reducible refine aMul ?_ (by k_dflt mul_fits); intro _ _)
  | ((with_reducible show wpAny _ _ (binaryOp Operator.Mod (Value.int _ _) (Value.int _ _)) _ _ _); with_reducible refine aMod (by decide) ?_; intro _ _)
  | ((with_reducible show wpAny _ _ (binaryOp Operator.FloorDiv (Value.int _ _) (Value.int _ _)) _ _ _); with_reducible refine aDiv (by decide) (by decide +kernel) ?_; intro _ _)
  | ((with_reducible show wpAny _ _ (binaryOp Operator.RShift (Value.int _ _) (Value.int _ _)) _ _ _); with_reducible refine aShr (by omega) ?_; intro _ _)
  | ((with_reducible show wpAny _ _ (binaryOp Operator.BitAnd (Value.int _ _) (Value.int _ _)) _ _ _); with_reducible refine aAnd ?_; intro _ _)
  | ((with_reducible show wpAny _ _ (binaryOp Operator.BitXor (Value.int _ _) (Value.int _ _)) _ _ _); with_reducible refine aXor ?_; intro _ _)
  | ((with_reducible show wpAny _ _ (binaryOp Operator.Mult (Value.int _ _) (Value.bool _)) _ _ _); with_reducible refine aMulB ?_; intro _ _)
  | ((with_reducible show wpAny _ _ (binaryOp Operator.Add (Value.bool _) (Value.int _ _)) _ _ _); with_reducible refine aAddB ?_; intro _ _)
  | ((with_reducible show wpAny _ _ (binaryOp Operator.Sub (Value.int _ _) (Value.bool _)) _ _ _); with_reducible refine aSubB ?_; intro _ _)
  | ((with_reducible show wpAny _ _ (inplaceOp Operator.Add (Value.int _ _) (Value.int _ _)) _ _ _); with_reducible refine iAdd ?_; intro _ _)
  | ((with_reducible show wpAny _ _ (inplaceOp Operator.Sub (Value.int _ _) (Value.int _ _)) _ _ _); with_reducible refine iSub ?_; intro _ _)
  | ((with_reducible show wpAny _ _ (subscriptTail _ _ (Value.ref _) (Value.int 0 _)) _ _ _); with_reducible refine gIntsX 0 (by k_dflt rfl) (IsList.ext (by k_dflt assumption) (frExt (by k_dflt assumption))) (by k_dflt assumption) (by k_dflt rfl) (by decide) ?_ (by k_dflt with_unfolding_all rfl); intro _)
  | ((with_reducible show wpAny _ _ (subscriptTail _ _ (Value.ref _) (Value.int 1 _)) _ _ _); with_reducible refine gIntsX 1 (by k_dflt rfl) (IsList.ext (by k_dflt assumption) (frExt (by k_dflt assumption))) (by k_dflt assumption) (by k_dflt rfl) (by decide) ?_ (by k_dflt with_unfolding_all rfl); intro _)
  | ((with_reducible show wpAny _ _ (subscriptTail _ _ (Value.ref _) (Value.int 2 _)) _ _ _); with_reducible refine gIntsX 2 (by k_dflt rfl) (IsList.ext (by k_dflt assumption) (frExt (by k_dflt assumption))) (by k_dflt assumption) (by k_dflt rfl) (by decide) ?_ (by k_dflt with_unfolding_all rfl); intro _)
  | ((with_reducible show wpAny _ _ (subscriptTail _ _ (Value.ref _) (Value.int 3 _)) _ _ _); with_reducible refine gIntsX 3 (by k_dflt rfl) (IsList.ext (by k_dflt assumption) (frExt (by k_dflt assumption))) (by k_dflt assumption) (by k_dflt rfl) (by decide) ?_ (by k_dflt with_unfolding_all rfl); intro _)
  | ((with_reducible show wpAny _ _ (subscriptTail _ _ (Value.ref _) (Value.int 4 _)) _ _ _); with_reducible refine gIntsX 4 (by k_dflt rfl) (IsList.ext (by k_dflt assumption) (frExt (by k_dflt assumption))) (by k_dflt assumption) (by k_dflt rfl) (by decide) ?_ (by k_dflt with_unfolding_all rfl); intro _)
  | ((with_reducible show wpAny _ _ (subscriptTail _ _ (Value.ref _) (Value.int 5 _)) _ _ _); with_reducible refine gIntsX 5 (by k_dflt rfl) (IsList.ext (by k_dflt assumption) (frExt (by k_dflt assumption))) (by k_dflt assumption) (by k_dflt rfl) (by decide) ?_ (by k_dflt with_unfolding_all rfl); intro _)
  | ((with_reducible show wpAny _ _ (subscriptTail _ _ (Value.ref _) (Value.int 6 _)) _ _ _); with_reducible refine gIntsX 6 (by k_dflt rfl) (IsList.ext (by k_dflt assumption) (frExt (by k_dflt assumption))) (by k_dflt assumption) (by k_dflt rfl) (by decide) ?_ (by k_dflt with_unfolding_all rfl); intro _)
  | ((with_reducible show wpAny _ _ (subscriptTail _ _ (Value.ref _) (Value.int 7 _)) _ _ _); with_reducible refine gIntsX 7 (by k_dflt rfl) (IsList.ext (by k_dflt assumption) (frExt (by k_dflt assumption))) (by k_dflt assumption) (by k_dflt rfl) (by decide) ?_ (by k_dflt with_unfolding_all rfl); intro _)
  | ((with_reducible show wpAny _ _ (eval (Expr.Call (Expr.Attribute _ "append" _) [_] [] _) _) _ _ _); with_reducible refine mApp ?_ (by k_dflt rfl) (by k_dflt rfl) (by k_dflt rfl))
  | ((with_reducible show wpAny _ _ (storeName _ _ _) _ _ _); with_reducible refine stS (by k_dflt assumption) (by k_dflt assumption) ?_ (by k_dflt rfl) (by k_dflt rfl); intro _ _ _ _ _)
  | ((with_reducible show wpAny _ _ (loadName _ _) _ _ _); with_reducible refine nLd (by k_dflt assumption) (by k_dflt first | rfl | assumption) ?_ (by k_dflt rfl) (by k_dflt rfl))
  | ((with_reducible show wpAny _ _ (compareOp CmpOp.Is Value.none Value.none) _ _ _); with_reducible refine PyProof.Rows.is_none_none ?_)
  | ((with_reducible show wpAny _ _ (compareOp CmpOp.IsNot Value.none Value.none) _ _ _); with_reducible refine PyProof.Rows.isnot_none_none ?_)
  | ((with_reducible show wpAny _ _ (compareOp CmpOp.Is (Value.int _ _) Value.none) _ _ _); with_reducible refine PyProof.Rows.is_int_none ?_)
  | ((with_reducible show wpAny _ _ (compareOp CmpOp.IsNot (Value.int _ _) Value.none) _ _ _); with_reducible refine PyProof.Rows.isnot_int_none ?_)
  | ((with_reducible show wpAny _ _ (compareOp CmpOp.Is (Value.str _ _) Value.none) _ _ _); with_reducible refine PyProof.Rows.is_str_none ?_)
  | ((with_reducible show wpAny _ _ (compareOp CmpOp.IsNot (Value.str _ _) Value.none) _ _ _); with_reducible refine PyProof.Rows.isnot_str_none ?_)
  | ((with_reducible show wpAny _ _ (compareOp CmpOp.IsNot (Value.bool _) (Value.bool _)) _ _ _); with_reducible refine PyProof.Rows.isnot_bool ?_)
  | ((with_reducible show wpAny _ _ (execs (_ ++ _) _) _ _ _); dsimp only [List.nil_append, List.cons_append])
  | ((with_reducible show Ext _ _ ∧ wpAny _ _ (call _ _) _ _ _); refine ⟨Fr.keep (by assumption), ?_⟩)
  | ((with_reducible show ∃ x t, Value.str _ _ = Value.str x t ∧ _); refine ⟨_, _, rfl, ?_⟩)
  | ((with_reducible show ∃ i t, Value.int _ _ = Value.int i t ∧ _); refine ⟨_, _, rfl, fun _ _ => ?_⟩)
  | ((with_reducible show if false = true then _ else _); rw [if_neg Bool.false_ne_true])
  | ((with_reducible show if true = true then _ else _); rw [if_pos rfl])
  | ((with_reducible show ∃ b, Value.bool _ = Value.bool b ∧ _); refine ⟨_, rfl, ?_⟩))
local macro_rules | `(tactic| walk_at "w1") => `(tactic| first | walk_at "w0" | ((with_reducible show wpAny _ _ (execs (Stmt.If _ _ _ _ :: _) _) _ _ _); with_reducible refine xIf ?_))
section
local macro_rules | `(tactic| walk_at "w0") => `(tactic| first
  | ((with_reducible show wpAny _ _ (eval (Expr.Subscript _ (Expr.Slice none (some (Expr.UnaryOp UnaryOp.USub (Expr.Constant (Const.int 1) _ _) _)) none _) _) _) _ _ _); with_reducible refine sSliceInit ?_ (by k_dflt intro _ _ <;> rfl))
  | ((with_reducible show wpAny _ _ (eval (Expr.Subscript _ (Expr.Slice (some (Expr.UnaryOp UnaryOp.USub (Expr.Constant (Const.int 1) _ _) _)) none none _) _) _) _ _ _); with_reducible refine sSliceLast ?_ (by k_dflt intro _ _ <;> rfl))
  | ((with_reducible show wpAny _ _ (eval (Expr.Subscript _ (Expr.Slice (some _) (some _) none _) _) _) _ _ _); with_reducible refine sSliceAB ?_ (by k_dflt intro _ _ <;> rfl))
  | ((with_reducible show wpAny _ _ (eval (Expr.Subscript _ (Expr.Slice (some _) none none _) _) _) _ _ _); with_reducible refine sSliceA ?_ (by k_dflt intro _ _ <;> rfl))
  | ((with_reducible show wpAny _ _ (eval (Expr.Subscript _ (Expr.Slice _ _ none _) _) _) _ _ _); with_reducible refine sSlice ?_ (by k_dflt intro _ _ <;> rfl)))

section
open PySem PySem.W PyProof.Rows PySem.Calls
set_option maxRecDepth 100000






variable {w : World} {A : Around} {E : Value → Shared → Prop} {h : Heap} {g : Array GenState} {dr : Drawn} {tk : Nat} {os : OsState}
  {N : Nat} {mg mb : Str → Option Value} {objs : List (Str × (Obj → Prop))} {Q : Value → Shared → Prop}

def letterCode (letter form : Int) : Nat :=
  if form < 2 then (if form = 0 then (if letter = 0 then 115 else 116) else if letter = 0 then 83 else 84)
  else if form < 8 then (120190 + 52 * (form - 2) + letter).toNat else 383

theorem call_letter {f : Addr} {k : Nat} {letter form : Int} {t u : Tok} (R : Room A (k + 1)) (hf : Fn dLetter h f) (G : Glob N mg mb defs0 consts0 objs names0 h)
    (h1 : letter = 0 ∨ letter = 1) (h2 : 0 ≤ form)
    (H : ∀ h' tk t', Ext h h' → Q (.str ⟨#[letterCode letter form]⟩ t') ⟨h',g,dr,tk,os⟩) :
    wpAny (model pw w) A (call (.ref f) [.int letter t, .int form u]) Q E ⟨h,g,dr,tk,os⟩ := by
  refine call_def (binds := [("letter", .int letter t), ("form", .int form u)]) R hf G.nolimit (fun h₁ L a cd tk F N0 A' R' => ?_) (fun _ _ _ => rfl) (by rfl)
  dsimp only [dLetter]
  repeat walk_at "w1"
  by_cases hlt : form < 2
  · rw [if_pos (decide_eq_true hlt), List.cons_append]
    repeat walk_at "w1"
    refine lNew F N0 (by rw [sizeLine_eq]; simp) (fun h₂ p F₂ N₂ X₂ => ?_)
    repeat walk_at "w1"
    have hf01 : form = 0 ∨ form = 1 := by omega
    rcases hf01 with rfl | rfl
    · refine gList (News.isList N₂ (.head _)) (by decide) (by decide) rfl ?_
      repeat walk_at "w1"
      rcases h1 with rfl | rfl
      · exact gStr (by decide) (by decide) (by decide) fun t tk => H _ _ _ F₂.keep
      · exact gStr (by decide) (by decide) (by decide) fun t tk => H _ _ _ F₂.keep
    · refine gList (News.isList N₂ (.head _)) (by decide) (by decide) rfl ?_
      repeat walk_at "w1"
      rcases h1 with rfl | rfl
      · exact gStr (by decide) (by decide) (by decide) fun t tk => H _ _ _ F₂.keep
      · exact gStr (by decide) (by decide) (by decide) fun t tk => H _ _ _ F₂.keep
  · rw [if_neg (by simpa using hlt), List.nil_append]
    repeat walk_at "w1"
    by_cases h8 : form < 8
    · rw [if_pos (decide_eq_true h8)]
      repeat walk_at "w1"
      refine chrI (by omega) (by omega) fun t tk => ?_
      have := H _ tk t F.keep
      rwa [letterCode, if_neg hlt, if_pos h8] at this
    · rw [if_neg (by simpa using h8)]
      repeat walk_at "w1"
      refine chrI (by omega) (by omega) fun t tk => ?_
      have := H _ tk t F.keep
      rwa [letterCode, if_neg hlt, if_neg h8] at this
end

section
open PySem PySem.W PyProof.Rows PySem.Calls
set_option maxRecDepth 100000
set_option maxHeartbeats 4000000
variable {w : World} {A : Around} {E : Value → Shared → Prop} {h : Heap} {g : Array GenState} {dr : Drawn} {tk : Nat} {os : OsState}
  {N : Nat} {mg mb : Str → Option Value} {objs : List (Str × (Obj → Prop))} {Q : Value → Shared → Prop}






def codes0 : List Nat := [173, 847, 6150, 6155, 6156, 6157, 8203, 8204, 8205, 8288, 65279]
def codes1 : List Nat := [832, 833, 8206, 8207, 8234, 8235, 8236, 8237, 8238, 8298, 8299, 8300, 8301, 8302, 8303]
def codes3 : List Nat := [172, 174, 831, 834, 846, 848, 6149, 6151, 6154, 6158, 8202, 8208, 8233, 8239, 8287, 8289, 8297, 8304, 65023, 65040, 65278, 65280, 917504]
def signCode (t n : Nat) : Nat :=
  if t = 0 then (if n % 27 < 16 then 65024 + n % 27 else codes0.getD (n % 27 - 16) 0)
  else if t = 1 then codes1.getD (n % 15) 0
  else if t = 2 then (if n % 97 = 0 then 917505 else 917535 + n % 97)
  else if n % 3 = 1 then 917632 + n / 3 % 640
  else if n % 3 = 2 then 917506 + n / 3 % 30
  else codes3.getD (n / 3 % 23) 0

theorem fm27 (a : Nat) : Int.fmod (a : Int) 27 = ((a % 27 : Nat) : Int) := fmod_nat a 27
theorem fm15 (a : Nat) : Int.fmod (a : Int) 15 = ((a % 15 : Nat) : Int) := fmod_nat a 15
theorem fm97 (a : Nat) : Int.fmod (a : Int) 97 = ((a % 97 : Nat) : Int) := fmod_nat a 97
theorem fm3 (a : Nat) : Int.fmod (a : Int) 3 = ((a % 3 : Nat) : Int) := fmod_nat a 3
theorem fd3 (a : Nat) : Int.fdiv (a : Int) 3 = ((a / 3 : Nat) : Int) := fdiv_nat a 3
theorem fm640 (a : Nat) : Int.fmod (a : Int) 640 = ((a % 640 : Nat) : Int) := fmod_nat a 640
theorem fm30 (a : Nat) : Int.fmod (a : Int) 30 = ((a % 30 : Nat) : Int) := fmod_nat a 30
theorem fm23 (a : Nat) : Int.fmod (a : Int) 23 = ((a % 23 : Nat) : Int) := fmod_nat a 23
theorem getD_le {l : List Nat} {b : Nat} (hl : ∀ x ∈ l, x ≤ b) (k : Nat) : l.getD k 0 ≤ b := by
  rw [List.getD_eq_getElem?_getD]
  cases hq : l[k]? with
  | none => exact Nat.zero_le _
  | some x => exact hl x (List.mem_of_getElem? hq)
theorem codes0_le (k : Nat) : codes0.getD k 0 ≤ 1114111 := getD_le (by decide) k
theorem codes1_le (k : Nat) : codes1.getD k 0 ≤ 1114111 := getD_le (by decide) k
theorem codes3_le (k : Nat) : codes3.getD k 0 ≤ 1114111 := getD_le (by decide) k

theorem call_sign {f : Addr} {k : Nat} {t n : Nat} {t₁ t₂ : Tok} (R : Room A (k + 1)) (hf : Fn dSign h f) (G : Glob N mg mb defs0 consts0 objs names0 h)
    (H : ∀ h' tk t', Ext h h' → Q (.str ⟨#[signCode t n]⟩ t') ⟨h',g,dr,tk,os⟩) :
    wpAny (model pw w) A (call (.ref f) [.int t t₁, .int n t₂]) Q E ⟨h,g,dr,tk,os⟩ := by
  refine call_def (binds := [("table", .int t t₁), ("number", .int n t₂)]) R hf G.nolimit (fun h₁ L a cd tk F N0 A' R' => ?_) (fun _ _ _ => rfl) (by rfl)
  dsimp only [dSign]
  repeat walk_at "w1"
  by_cases h0 : t = 0
  · subst h0
    rw [if_pos (by rfl)]
    dsimp only [List.cons_append, List.nil_append]
    repeat walk_at "w1"
    refine lNew F N0 (by rw [sizeLine_eq]; simp) (fun h₂ p F₂ N₂ X₂ => ?_)
    repeat walk_at "w1"
    rw [fm27]
    by_cases h1 : n % 27 < 16
    · rw [if_pos (by simp only [decide_eq_true_eq]; omega)]
      repeat walk_at "w1"
      rw [fm27]
      refine chrI (by omega) (by omega) fun t tk => ?_
      have := H _ tk t (Fr.keep (by assumption))
      rwa [signCode, if_pos rfl, if_pos h1, show 65024 + n % 27 = ((65024 : Int) + ((n % 27 : Nat) : Int)).toNat from by omega] at this
    · rw [if_neg (by simp only [decide_eq_true_eq]; omega)]
      repeat walk_at "w1"
      rw [fm27]
      refine gInts (ns := codes0) (News.isList (by assumption) (.head _)) (by repeat constructor) (by omega) (by simp only [codes0, List.length_cons, List.length_nil]; omega) (by omega) fun t => ?_
      have hc := codes0_le (((n % 27 : Nat) : Int) - 16).toNat
      repeat walk_at "w1"
      refine chrI (by omega) (by omega) fun t tk => ?_
      have := H _ tk t (Fr.keep (by assumption))
      rwa [signCode, if_pos rfl, if_neg h1, show n % 27 - 16 = (((n % 27 : Nat) : Int) - 16).toNat from by omega] at this
  rw [if_neg (by simpa using h0)]
  dsimp only [List.nil_append]
  repeat walk_at "w1"
  by_cases h1 : t = 1
  · subst h1
    rw [if_pos (by rfl)]
    dsimp only [List.cons_append, List.nil_append]
    repeat walk_at "w1"
    refine lNew F N0 (by rw [sizeLine_eq]; simp) (fun h₂ p F₂ N₂ X₂ => ?_)
    repeat walk_at "w1"
    rw [fm15]
    refine gInts (ns := codes1) (News.isList (by assumption) (.head _)) (by repeat constructor) (by omega) (by simp only [codes1, List.length_cons, List.length_nil]; omega) (by omega) fun t => ?_
    have hc := codes1_le ((n % 15 : Nat) : Int).toNat
    repeat walk_at "w1"
    refine chrI (by omega) (by omega) fun t tk => ?_
    have := H _ tk t (Fr.keep (by assumption))
    rwa [signCode, if_neg h0, if_pos rfl] at this
  rw [if_neg (by simp only [beq_iff_eq]; omega)]
  dsimp only [List.nil_append]
  repeat walk_at "w1"
  by_cases h2 : t = 2
  · subst h2
    rw [if_pos (by rfl)]
    dsimp only [List.cons_append, List.nil_append]
    repeat walk_at "w1"
    rw [fm97]
    by_cases h3 : n % 97 = 0
    · rw [if_neg (by simp [h3])]
      repeat walk_at "w1"
      refine chrI (by omega) (by omega) fun t tk => ?_
      have := H _ tk t (Fr.keep (by assumption))
      rwa [signCode, if_neg h0, if_neg h1, if_pos rfl, if_pos h3] at this
    · rw [if_pos (by simp only [bne_iff_ne]; omega)]
      repeat walk_at "w1"
      rw [fm97]
      refine chrI (by omega) (by omega) fun t tk => ?_
      have := H _ tk t (Fr.keep (by assumption))
      rwa [signCode, if_neg h0, if_neg h1, if_pos rfl, if_neg h3, show 917535 + n % 97 = ((917535 : Int) + ((n % 97 : Nat) : Int)).toNat from by omega] at this
  rw [if_neg (by simp only [beq_iff_eq]; omega)]
  dsimp only [List.nil_append]
  repeat walk_at "w1"
  rw [fm3]
  by_cases h3 : n % 3 = 1
  · rw [if_pos (by simp only [beq_iff_eq]; omega)]
    dsimp only [List.cons_append, List.nil_append]
    repeat walk_at "w1"
    rw [fd3, fm640]
    refine chrI (by omega) (by omega) fun t tk => ?_
    have := H _ tk t (Fr.keep (by assumption))
    rwa [signCode, if_neg h0, if_neg h1, if_neg h2, if_pos h3, show 917632 + n / 3 % 640 = ((917632 : Int) + ((n / 3 % 640 : Nat) : Int)).toNat from by omega] at this
  rw [if_neg (by simp only [beq_iff_eq]; omega)]
  dsimp only [List.nil_append]
  repeat walk_at "w1"
  rw [fm3]
  by_cases h4 : n % 3 = 2
  · rw [if_pos (by simp only [beq_iff_eq]; omega)]
    dsimp only [List.cons_append, List.nil_append]
    repeat walk_at "w1"
    rw [fd3, fm30]
    refine chrI (by omega) (by omega) fun t tk => ?_
    have := H _ tk t (Fr.keep (by assumption))
    rwa [signCode, if_neg h0, if_neg h1, if_neg h2, if_neg h3, if_pos h4, show 917506 + n / 3 % 30 = ((917506 : Int) + ((n / 3 % 30 : Nat) : Int)).toNat from by omega] at this
  rw [if_neg (by simp only [beq_iff_eq]; omega)]
  dsimp only [List.nil_append]
  repeat walk_at "w1"
  refine lNew F N0 (by rw [sizeLine_eq]; simp) (fun h₂ p F₂ N₂ X₂ => ?_)
  repeat walk_at "w1"
  rw [fd3, fm23]
  refine gInts (ns := codes3) (News.isList (by assumption) (.head _)) (by repeat constructor) (by omega) (by simp only [codes3, List.length_cons, List.length_nil]; omega) (by omega) fun t => ?_
  have hc := codes3_le ((n / 3 % 23 : Nat) : Int).toNat
  repeat walk_at "w1"
  refine chrI (by omega) (by omega) fun t tk => ?_
  have := H _ tk t (Fr.keep (by assumption))
  rwa [signCode, if_neg h0, if_neg h1, if_neg h2, if_neg h3, if_neg h4] at this
end

section
open PySem PySem.W PyProof.Rows PySem.Calls
set_option maxRecDepth 100000
set_option maxHeartbeats 4000000
variable {w : World} {A : Around} {E : Value → Shared → Prop} {h : Heap} {g : Array GenState} {dr : Drawn} {tk : Nat} {os : OsState}
  {N : Nat} {mg mb : Str → Option Value} {objs : List (Str × (Obj → Prop))} {Q : Value → Shared → Prop}






/-- a mark's signs -/
def markSigns (tables number : Nat) : List Nat := ((List.range 4).filter (bit tables)).map fun t => signCode t number
def markText (tables number : Nat) : List Nat := [92] ++ markSigns tables number ++ [92, 34]

theorem foldSet_call (f : Expr) (args : List Expr) (pos : Pos) (env : Env) (x : Value) : foldedSetIterable (.Call f args [] pos) env x = pure x := rfl

theorem flatten_single {α : Type} (f : α → Nat) (l : List α) : (l.map fun c => [f c]).flatten = l.map f := by
  induction l with
  | nil => rfl
  | cons a l ih => simp [ih]
theorem sum_single {α : Type} (f : α → Nat) (l : List α) : ((l.map fun c => [f c]).map List.length).sum = l.length := by
  induction l with
  | nil => rfl
  | cons a l ih => simp only [List.map_cons, List.sum_cons, ih, List.length_cons, List.length_nil]; omega

theorem call_mark {f : Addr} {k : Nat} {tables number : Nat} {t₁ t₂ : Tok} (R : Room A (k + 2)) (hf : Fn dMark h f) (G : Glob N mg mb defs0 consts0 objs names0 h)
    (H : ∀ h' tk p u₁ u₂ u₃ nn, Ext h h' → h.get? p = none → h'.get? p = some { cls := .type "list", data := .seq #[.int tables u₁, .str (sl (markText tables number)) u₂, .str (sl (markText tables number)) u₃] nn } → Q (.ref p) ⟨h',g,dr,tk,os⟩) :
    wpAny (model pw w) A (call (.ref f) [.int tables t₁, .int number t₂]) Q E ⟨h,g,dr,tk,os⟩ := by
  refine call_defC (binds := [("tables", .int tables t₁), ("number", .int number t₂)]) R hf G.nolimit (fun h₁ L a cd tk cells F N0 X A' R' => ?_) (fun _ _ _ => rfl) (by rfl) (by decide)
  obtain ⟨o₁, o₂, rfl, hc₁, hc₂⟩ := X.two
  replace hc₁ : o₁.data = .cell (some (.int number t₂)) := hc₁
  replace hc₂ : o₂.data = .cell (some (.int tables t₁)) := hc₂
  have hx1 : h₁.IsCell (L + 1 + 1) (some (.int number t₂)) := ⟨o₁, N0.get (.head _), hc₁⟩
  have hx2 : h₁.IsCell (L + 1) (some (.int tables t₁)) := ⟨o₂, N0.get (.tail _ (.head _)), hc₂⟩
  dsimp only [dMark] at F ⊢
  have G₁ := G.keeps F.keep
  repeat walk_at "w1"
  refine compR 4 (bit tables) (fun i y => ∃ t, y = .str (sl [signCode i number]) t) [("tables", L + 1), ("number", L + 1 + 1)] F N0 R'.handled (by rfl) (by decide) (by rfl) (by decide) (by rfl) (foldSet_call _ _ _ _) (by decide) (fun K hK => ?_) ?_ ?_ ?_
  · repeat walk_at "w1"
    exact hK _ _
  · intro C i t h₃ g₃ d₃ tk₃ o₃ m₃ E' hi F₃ hm
    have hy := hx2.keeps F₃.keep
    show wpAny _ _ (isTrue _ _ _) _ _ _
    repeat walk_at "w1"
    exact ⟨bit_test _ _, _, _, rfl, Ext.rfl'⟩
  · intro C i t h₃ g₃ d₃ tk₃ o₃ m₃ E' hi hp F₃ hm
    have hy := hx1.keeps F₃.keep
    repeat walk_at "w1"
    refine call_sign R' (Fn.ext (by assumption) F₃.keep) (G₁.keeps F₃.keep) fun h' tk t' hx => ?_
    exact ⟨⟨_, rfl⟩, _, _, rfl, hx⟩
  · intro D h' tk' ys nn hP hxt F' N' hD
    repeat walk_at "w1"
    have hfl : (List.filter (bit tables) (List.range 4)).length ≤ 4 := List.length_filter_le _ _
    refine joinS (by rfl) (News.isList N' (.head _)) (paired_strs hP) (by rw [sum_single, sizeLine_eq]; omega) fun t tk => ?_
    rw [flatten_single]
    repeat walk_at "w1"
    refine lNew (by assumption) (by assumption) (by rw [sizeLine_eq]; exact Nat.le_of_ble_eq_true rfl) fun h'' p F'' N'' hx'' => ?_
    exact H _ _ _ _ _ _ _ F''.keep (N'' _ (.head _)).2.2 (N'' _ (.head _)).1
end

section
open PySem PySem.W PyProof.Rows PySem.Calls
set_option maxRecDepth 100000
set_option maxHeartbeats 4000000
variable {w : World} {A : Around} {E : Value → Shared → Prop} {h : Heap} {g : Array GenState} {dr : Drawn} {tk : Nat} {os : OsState}
  {N : Nat} {mg mb : Str → Option Value} {objs : List (Str × (Obj → Prop))} {Q : Value → Shared → Prop}







def markItem (tables number : Nat) : Item := (tables, markText tables number, markText tables number)
def marksOf (chosen number : Nat) : List Item := ((List.range 8).filter (bit chosen)).map fun i => markItem i (number + 11 * i)

theorem call_marks {f : Addr} {k : Nat} {chosen number : Nat} {t₁ t₂ : Tok} (R : Room A (k + 3)) (hf : Fn dMarks h f) (G : Glob N mg mb defs0 consts0 objs names0 h)
    (H : ∀ h' tk p ys nn, Ext h h' → h.get? p = none → h'.get? p = some (lst ys nn) → Items h' (marksOf chosen number) ys → Q (.ref p) ⟨h',g,dr,tk,os⟩) :
    wpAny (model pw w) A (call (.ref f) [.int chosen t₁, .int number t₂]) Q E ⟨h,g,dr,tk,os⟩ := by
  refine call_defC (binds := [("chosen", .int chosen t₁), ("number", .int number t₂)]) R hf G.nolimit (fun h₁ L a cd tk cells F N0 X A' R' => ?_) (fun _ _ _ => rfl) (by rfl) (by decide)
  obtain ⟨o₁, o₂, rfl, hc₁, hc₂⟩ := X.two
  replace hc₁ : o₁.data = .cell (some (.int number t₂)) := hc₁
  replace hc₂ : o₂.data = .cell (some (.int chosen t₁)) := hc₂
  have hx1 : h₁.IsCell (L + 1 + 1) (some (.int number t₂)) := ⟨o₁, N0.get (.head _), hc₁⟩
  have hx2 : h₁.IsCell (L + 1) (some (.int chosen t₁)) := ⟨o₂, N0.get (.tail _ (.head _)), hc₂⟩
  dsimp only [dMarks] at F ⊢
  have G₁ := G.keeps F.keep
  repeat walk_at "w1"
  refine compRO 8 (bit chosen) (fun i => markItem i (number + 11 * i)) [("number", L + 1 + 1), ("chosen", L + 1)] F N0 R'.handled (by rfl) (by decide) (by rfl) (by decide) (by rfl) (foldSet_call _ _ _ _) (by decide) (fun K hK => ?_) ?_ ?_ ?_
  · repeat walk_at "w1"
    exact hK _ _
  · intro C i t h₃ g₃ d₃ tk₃ o₃ m₃ E' hi F₃ hm
    have hy := hx2.keeps F₃.keep
    show wpAny _ _ (isTrue _ _ _) _ _ _
    repeat walk_at "w1"
    exact ⟨bit_test _ _, _, _, rfl, Ext.rfl'⟩
  · intro C i t h₃ g₃ d₃ tk₃ o₃ m₃ E' hi hp F₃ hm
    have hy := hx1.keeps F₃.keep
    repeat walk_at "w1"
    rw [show (number : Int) + 11 * (i : Int) = ((number + 11 * i : Nat) : Int) from by push_cast; rfl]
    refine call_mark R' (Fn.ext (by assumption) F₃.keep) (G₁.keeps F₃.keep) fun h' tk p u₁ u₂ u₃ nn hx hn ho => ?_
    exact ⟨⟨p, u₁, u₂, u₃, rfl, hn, _, ho, rfl, nn, rfl⟩, _, _, rfl, hx⟩
  · intro D h' tk' ys nn hI hxt F' N' hD
    exact H h' tk' D ys nn F'.keep (N' _ (.head _)).2.2 (N' _ (.head _)).1 hI
end

section
open PySem PySem.W PyProof.Rows PySem.Calls
set_option maxRecDepth 100000
set_option maxHeartbeats 4000000
variable {w : World} {A : Around} {E : Value → Shared → Prop} {h : Heap} {g : Array GenState} {dr : Drawn} {tk : Nat} {os : OsState}
  {N : Nat} {mg mb : Str → Option Value} {objs : List (Str × (Obj → Prop))} {Q : Value → Shared → Prop}











def letterItem (letter form mean : Nat) : Item := (8, [letterCode letter form], [mean])
def thirdItem (form : Nat) : Item := if form / 72 % 10 = 9 then (8, [223], [115, 115]) else letterItem 0 (form / 72 % 10) 115
def itemsOf (first second g0 g1 g2 g3 : Nat) : List Item :=
  [letterItem 0 (g3 % 9) 115] ++ marksOf first g0 ++ [letterItem 1 (g3 / 9 % 8) 116] ++ [markItem (8 + g1 % 8) (g1 / 8)] ++ marksOf second g1
    ++ [thirdItem g3] ++ marksOf (first ^^^ second) g2 ++ [markItem (g3 / 6480 % 8) g2] ++ [letterItem 0 (g3 / 720 % 9) 115]

theorem marksOf_len (c n : Nat) : (marksOf c n).length ≤ 8 := by
  unfold marksOf
  rw [List.length_map]
  exact List.length_filter_le _ _

theorem fdm (a b c : Nat) : Int.fmod (Int.fdiv (a : Int) (b : Int)) (c : Int) = ((a / b % c : Nat) : Int) := by rw [fdiv_nat, fmod_nat]

theorem call_items {f gp : Addr} {k : Nat} {first second g0 g1 g2 g3 : Nat} {gs : List Value} {t₁ t₂ : Tok} (R : Room A (k + 4)) (hf : Fn dItems h f) (G : Glob N mg mb defs0 consts0 objs names0 h)
    (hl : h.IsList gp gs.toArray) (hi : IntsAre gs (([g0, g1, g2, g3] : List Nat).map fun n : Nat => (n : Int)))
    (H : ∀ h' tk p ys nn, Ext h h' → h.get? p = none → h'.get? p = some (lst ys nn) → Items h' (itemsOf first second g0 g1 g2 g3) ys → Q (.ref p) ⟨h',g,dr,tk,os⟩) :
    wpAny (model pw w) A (call (.ref f) [.int first t₁, .int second t₂, .ref gp]) Q E ⟨h,g,dr,tk,os⟩ := by
  refine call_def (binds := [("first", .int first t₁), ("second", .int second t₂), ("given", .ref gp)]) R hf G.nolimit (fun h₁ L a cd tk F N0 A' R' => ?_) (fun _ _ _ => rfl) (by rfl)
  dsimp only [dItems] at F ⊢
  repeat walk_at "w1"
  rw [show (g3 : Int).fmod 9 = ((g3 % 9 : Nat) : Int) from fmod_nat g3 9]
  refine call_letter (R'.less (Nat.le_add_left 1 (k + 2)) : Room _ (0 + 1)) (Fn.ext (by assumption) (frExt (by assumption))) (G.keeps (frExt (by assumption))) (.inl rfl) (Int.natCast_nonneg _) fun h' tk t' hx => ?_
  have F1 := frGrow (by assumption) hx
  have N1 := newsGrow (by assumption) hx
  repeat walk_at "w1"
  refine lNew F1 N1 (by rw [sizeLine_eq]; exact Nat.le_of_ble_eq_true rfl) fun h2 p2 F2 N2 hx2 => ?_
  have I2 : ItemAt h2 (letterItem 0 (g3 % 9) 115) (.ref p2) := ⟨p2, _, _, _, rfl, lst_is (N2.get (.head _))⟩
  repeat walk_at "w1"
  refine lNew F2 N2 (by rw [sizeLine_eq]; exact Nat.le_of_ble_eq_true rfl) fun h3 p3 F3 N3 hx3 => ?_
  have I3 := I2.ext hx3
  repeat walk_at "w1"
  refine call_marks R' (Fn.ext (by assumption) (frExt (by assumption))) (G.keeps (frExt (by assumption))) fun h4 tk4 p4 y4 n4 hx4 hn4 ho4 I4 => ?_
  have F4 := frGrow F3 hx4
  have N4 := newsAdd F3 (newsGrow (News.one (N3 _ (.head _))) hx4) hn4 ho4
  repeat walk_at "w1"
  refine lAdd (vs := [.ref p2]) (ws := y4) F4 N4 (IsList.ext (lst_is (N3.get (.head _))) hx4) (lst_is ho4) (by have := Paired.length I4; have := marksOf_len first g0; simp only [List.length_cons, List.length_nil]; omega) fun h5 p5 F5 N5 hx5 => ?_
  have I5 : Items h5 _ _ := Items.app (.one ((I3.ext hx4).ext hx5)) (I4.ext hx5)
  have N5' := News.one (N5 _ (.head _))
  repeat walk_at "w1"
  rename_i h6 tk6 F6 N6 hs6
  have I6 := I5.sameL F5 hs6
  refine ⟨p5, _, _, rfl, N6.get (.head _), ?_⟩
  repeat walk_at "w1"
  rw [show ((g3 : Int).fdiv 9).fmod 8 = ((g3 / 9 % 8 : Nat) : Int) from fdm g3 9 8]
  refine call_letter (R'.less (Nat.le_add_left 1 (k + 2)) : Room _ (0 + 1)) (Fn.ext (by assumption) (frExt (by assumption))) (G.keeps (frExt (by assumption))) (.inr rfl) (Int.natCast_nonneg _) fun h7 tk7 t7 hx7 => ?_
  have F7 := frGrow F6 hx7
  have N7 := newsGrow N6 hx7
  have I7 := I6.ext hx7
  repeat walk_at "w1"
  refine lNew F7 N7 (by rw [sizeLine_eq]; exact Nat.le_of_ble_eq_true rfl) fun h8 p8 F8 N8 hx8 => ?_
  have I8 := I7.ext hx8
  have J8 : ItemAt h8 (letterItem 1 (g3 / 9 % 8) 116) (.ref p8) := ⟨p8, _, _, _, rfl, lst_is (N8.get (.head _))⟩
  have N8' := News.one (N8 _ (.tail _ (.head _)))
  repeat walk_at "w1"
  refine lApp (pre := []) (post := []) F8 N8' ?_ (fun _ hp => nomatch hp) (fun _ hp => nomatch hp) fun h9 F9 N9 hs9 => ?_
  · have := Paired.length I8; have := marksOf_len first g0; simp only [List.length_cons, List.length_nil, List.length_append] at *; omega
  have I9 : Items h9 _ _ := (I8.app (.one J8)).same hs9 (N8'.get (.head _)) I8.refs
  repeat walk_at "w1"
  refine ⟨p5, _, _, rfl, N9.get (.head _), ?_⟩
  repeat walk_at "w1"
  rw [show (8 : Int) + (g1 : Int).fmod 8 = ((8 + g1 % 8 : Nat) : Int) from by rw [show (g1 : Int).fmod 8 = ((g1 % 8 : Nat) : Int) from fmod_nat g1 8]; push_cast; rfl,
    show (g1 : Int).fdiv 8 = ((g1 / 8 : Nat) : Int) from fdiv_nat g1 8]
  refine call_mark (R'.less (by omega : 0 + 2 ≤ k + 3)) (Fn.ext (by assumption) (frExt (by assumption))) (G.keeps (frExt (by assumption))) fun h10 tk10 p10 u10 u11 u12 n10 hx10 hn10 ho10 => ?_
  have F10 := frGrow F9 hx10
  have N10 := newsGrow N9 hx10
  have I10 := I9.ext hx10
  have J10 : ItemAt h10 (markItem (8 + g1 % 8) (g1 / 8)) (.ref p10) := ⟨p10, _, _, _, rfl, _, ho10, rfl, _, rfl⟩
  repeat walk_at "w1"
  refine lApp (pre := []) (post := []) F10 N10 ?_ (fun _ hp => nomatch hp) (fun _ hp => nomatch hp) fun h11 F11 N11 hs11 => ?_
  · have := Paired.length I10; have := marksOf_len first g0; simp only [List.length_cons, List.length_nil, List.length_append] at *; omega
  have I11 : Items h11 _ _ := (I10.app (.one J10)).same hs11 (N10.get (.head _)) I10.refs
  repeat walk_at "w1"
  refine call_marks R' (Fn.ext (by assumption) (frExt (by assumption))) (G.keeps (frExt (by assumption))) fun h12 tk12 p12 y12 n12 hx12 hn12 ho12 J12 => ?_
  have F12 := frGrow F11 hx12
  have N12 := newsGrow N11 hx12
  have I12 := I11.ext hx12
  repeat walk_at "w1"
  refine lIAdd (pre := []) (post := []) F12 N12 ho12 ?_ (fun _ hp => nomatch hp) (fun _ hp => nomatch hp) fun h13 F13 n13 N13 hs13 => ?_
  · have := Paired.length I12; have := Paired.length J12; have := marksOf_len first g0; have := marksOf_len second g1; simp only [List.length_cons, List.length_nil, List.length_append] at *; omega
  have I13 : Items h13 _ _ := (I12.app J12).same hs13 (N12.get (.head _)) I12.refs
  repeat walk_at "w1"
  rename_i h14 tk14 F14 N14 hs14
  have I14 := I13.sameL F13 hs14
  refine ⟨p5, _, _, rfl, N14.get (.head _), ?_⟩
  repeat walk_at "w1"
  refine iteMono (Q' := fun v s => ∃ h' p tk, v = .ref p ∧ s = ⟨h', g, dr, tk, os⟩ ∧ Ext h14 h' ∧ ItemAt h' (thirdItem g3) v) ?_ ?_
  · rw [show ((g3 : Int).fdiv 72).fmod 10 = ((g3 / 72 % 10 : Nat) : Int) from fdm g3 72 10]
    by_cases h9 : g3 / 72 % 10 = 9
    · rw [if_pos (by rw [h9]; rfl)]
      repeat walk_at "w1"
      refine chrI (by decide) (by decide) fun t tk => ?_
      repeat walk_at "w1"
      refine lNew F14 N14 (by rw [sizeLine_eq]; exact Nat.le_of_ble_eq_true rfl) fun h15 p15 F15 N15 hx15 => ?_
      refine ⟨h15, p15, _, rfl, rfl, hx15, ?_⟩
      rw [thirdItem, if_pos h9]
      exact ⟨p15, _, _, _, rfl, lst_is (N15.get (.head _))⟩
    · rw [if_neg (by simp; omega)]
      repeat walk_at "w1"
      rw [show ((g3 : Int).fdiv 72).fmod 10 = ((g3 / 72 % 10 : Nat) : Int) from fdm g3 72 10]
      refine call_letter (R'.less (Nat.le_add_left 1 (k + 2)) : Room _ (0 + 1)) (Fn.ext (by assumption) (frExt (by assumption))) (G.keeps (frExt (by assumption))) (.inl rfl) (Int.natCast_nonneg _) fun h15 tk15 t15 hx15 => ?_
      have F15 := frGrow F14 hx15
      have N15 := newsGrow N14 hx15
      repeat walk_at "w1"
      refine lNew F15 N15 (by rw [sizeLine_eq]; exact Nat.le_of_ble_eq_true rfl) fun h16 p16 F16 N16 hx16 => ?_
      refine ⟨h16, p16, _, rfl, rfl, Ext.trans hx15 hx16, ?_⟩
      rw [thirdItem, if_neg h9]
      exact ⟨p16, _, _, _, rfl, lst_is (N16.get (.head _))⟩
  · rintro v s ⟨h16, p16, tk16, rfl, rfl, hx16, J16⟩
    have F16 := frGrow F14 hx16
    have N16 := newsGrow N14 hx16
    have I16 := I14.ext hx16
    repeat walk_at "w1"
    refine lApp (pre := []) (post := []) F16 N16 ?_ (fun _ hp => nomatch hp) (fun _ hp => nomatch hp) fun h17 F17 N17 hs17 => ?_
    · have := Paired.length I16; have := marksOf_len first g0; have := marksOf_len second g1; simp only [List.length_cons, List.length_nil, List.length_append] at *; omega
    have I17 : Items h17 _ _ := (I16.app (.one J16)).same hs17 (N16.get (.head _)) I16.refs
    repeat walk_at "w1"
    rw [bitXor_nat]
    refine call_marks R' (Fn.ext (by assumption) (frExt (by assumption))) (G.keeps (frExt (by assumption))) fun h18 tk18 p18 y18 n18 hx18 hn18 ho18 J18 => ?_
    have F18 := frGrow F17 hx18
    have N18 := newsGrow N17 hx18
    have I18 := I17.ext hx18
    repeat walk_at "w1"
    refine lIAdd (pre := []) (post := []) F18 N18 ho18 ?_ (fun _ hp => nomatch hp) (fun _ hp => nomatch hp) fun h19 F19 n19 N19 hs19 => ?_
    · have := Paired.length I18; have := Paired.length J18; have := marksOf_len first g0; have := marksOf_len second g1; have := marksOf_len (first ^^^ second) g2; simp only [List.length_cons, List.length_nil, List.length_append] at *; omega
    have I19 : Items h19 _ _ := (I18.app J18).same hs19 (N18.get (.head _)) I18.refs
    repeat walk_at "w1"
    rename_i h20 tk20 F20 N20 hs20
    have I20 := I19.sameL F19 hs20
    refine ⟨p5, _, _, rfl, N20.get (.head _), ?_⟩
    repeat walk_at "w1"
    rw [show ((g3 : Int).fdiv 6480).fmod 8 = ((g3 / 6480 % 8 : Nat) : Int) from fdm g3 6480 8]
    refine call_mark (R'.less (by omega : 0 + 2 ≤ k + 3)) (Fn.ext (by assumption) (frExt (by assumption))) (G.keeps (frExt (by assumption))) fun h21 tk21 p21 u10 u11 u12 n21 hx21 hn21 ho21 => ?_
    have F21 := frGrow F20 hx21
    have N21 := newsGrow N20 hx21
    have I21 := I20.ext hx21
    have J21 : ItemAt h21 (markItem (g3 / 6480 % 8) g2) (.ref p21) := ⟨p21, _, _, _, rfl, _, ho21, rfl, _, rfl⟩
    repeat walk_at "w1"
    refine lApp (pre := []) (post := []) F21 N21 ?_ (fun _ hp => nomatch hp) (fun _ hp => nomatch hp) fun h22 F22 N22 hs22 => ?_
    · have := Paired.length I21; have := marksOf_len first g0; have := marksOf_len second g1; have := marksOf_len (first ^^^ second) g2; simp only [List.length_cons, List.length_nil, List.length_append] at *; omega
    have I22 : Items h22 _ _ := (I21.app (.one J21)).same hs22 (N21.get (.head _)) I21.refs
    repeat walk_at "w1"
    rw [show ((g3 : Int).fdiv 720).fmod 9 = ((g3 / 720 % 9 : Nat) : Int) from fdm g3 720 9]
    refine call_letter (R'.less (Nat.le_add_left 1 (k + 2)) : Room _ (0 + 1)) (Fn.ext (by assumption) (frExt (by assumption))) (G.keeps (frExt (by assumption))) (.inl rfl) (Int.natCast_nonneg _) fun h23 tk23 t23 hx23 => ?_
    have F23 := frGrow F22 hx23
    have N23 := newsGrow N22 hx23
    have I23 := I22.ext hx23
    repeat walk_at "w1"
    refine lNew F23 N23 (by rw [sizeLine_eq]; exact Nat.le_of_ble_eq_true rfl) fun h24 p24 F24 N24 hx24 => ?_
    have I24 := I23.ext hx24
    have J24 : ItemAt h24 (letterItem 0 (g3 / 720 % 9) 115) (.ref p24) := ⟨p24, _, _, _, rfl, lst_is (N24.get (.head _))⟩
    repeat walk_at "w1"
    refine lNew F24 N24 (by rw [sizeLine_eq]; exact Nat.le_of_ble_eq_true rfl) fun h25 p25 F25 N25 hx25 => ?_
    have I25 := (I24.app (.one J24)).ext hx25
    repeat walk_at "w1"
    refine lAdd (ws := [.ref p24]) F25 N25 (lst_is (N25.get (.tail _ (.tail _ (.head _))))) (lst_is (N25.get (.head _))) ?_ fun h26 p26 F26 N26 hx26 => ?_
    · have := Paired.length I25; have := marksOf_len first g0; have := marksOf_len second g1; have := marksOf_len (first ^^^ second) g2; simp only [List.length_cons, List.length_nil, List.length_append] at *; omega
    exact H _ _ _ _ _ F26.keep (N26 _ (.head _)).2.2 (N26 _ (.head _)).1 (I25.ext hx26)
end

section
open PySem PySem.W PyProof.Rows PySem.Calls
set_option maxRecDepth 100000
set_option maxHeartbeats 4000000
variable {w : World} {A : Around} {E : Value → Shared → Prop} {h : Heap} {g : Array GenState} {dr : Drawn} {tk : Nat} {os : OsState}
  {N : Nat} {mg mb : Str → Option Value} {Q : Value → Shared → Prop}








theorem call_b1 {f : Addr} {k : Nat} {c : Nat} {t : Tok} (R : Room A (k + 1)) (hf : Fn dB1 h f) (G : Glob N mg mb defs0 consts0 objs0 names0 h)
    (H : ∀ h' tk, Ext h h' → Q (.bool (inB1 c)) ⟨h',g,dr,tk,os⟩) :
    wpAny (model pw w) A (call (.ref f) [.str (sl [c]) t]) Q E ⟨h,g,dr,tk,os⟩ := by
  refine call_def (binds := [("code", .str (sl [c]) t)]) R hf G.nolimit (fun h₁ L a cd tk F N0 A' R' => ?_) (fun _ _ _ => rfl) (by rfl)
  dsimp only [dB1] at F ⊢
  repeat walk_at "w1"
  refine ordI (by rfl) fun t tk => ?_
  refine nObj (x := "b1_set") (by assumption) G (.head _) (fun b ob _ hb hP => ?_) (by rfl) (by rfl) (by rfl) (by decide)
  exact inSet hb hP fun tk => H _ _ F.keep

theorem call_c8 {f : Addr} {k : Nat} {c : Nat} {t : Tok} (R : Room A (k + 1)) (hf : Fn dC8 h f) (G : Glob N mg mb defs0 consts0 objs0 names0 h)
    (H : ∀ h' tk, Ext h h' → Q (.bool (inC8 c)) ⟨h',g,dr,tk,os⟩) :
    wpAny (model pw w) A (call (.ref f) [.str (sl [c]) t]) Q E ⟨h,g,dr,tk,os⟩ := by
  refine call_def (binds := [("code", .str (sl [c]) t)]) R hf G.nolimit (fun h₁ L a cd tk F N0 A' R' => ?_) (fun _ _ _ => rfl) (by rfl)
  dsimp only [dC8] at F ⊢
  repeat walk_at "w1"
  refine ordI (by rfl) fun t tk => ?_
  refine nObj (x := "c8_set") (by assumption) G (.tail _ (.head _)) (fun b ob _ hb hP => ?_) (by rfl) (by rfl) (by rfl) (by decide)
  exact inSet hb hP fun tk => H _ _ F.keep

theorem call_c9 {f : Addr} {k : Nat} {c : Nat} {t : Tok} (R : Room A (k + 1)) (hf : Fn dC9 h f) (G : Glob N mg mb defs0 consts0 objs0 names0 h)
    (H : ∀ h' tk, Ext h h' → Q (.bool (inC9 c)) ⟨h',g,dr,tk,os⟩) :
    wpAny (model pw w) A (call (.ref f) [.str (sl [c]) t]) Q E ⟨h,g,dr,tk,os⟩ := by
  refine call_def (binds := [("code", .str (sl [c]) t)]) R hf G.nolimit (fun h₁ L a cd tk F N0 A' R' => ?_) (fun _ _ _ => rfl) (by rfl)
  dsimp only [dC9] at F ⊢
  repeat walk_at "w1"
  refine ordI (by rfl) fun t tk => ?_
  refine nObj (x := "c9_set") (by assumption) G (.tail _ (.tail _ (.head _))) (fun b ob _ hb hP => ?_) (by rfl) (by rfl) (by rfl) (by decide)
  exact inSet hb hP fun tk => H _ _ F.keep

theorem call_b3 {f : Addr} {k : Nat} {c : Nat} {t : Tok} (R : Room A (k + 1)) (hf : Fn dB3 h f) (G : Glob N mg mb defs0 consts0 objs0 names0 h)
    (H : ∀ h' tk t, Ext h h' → Q (.str (sl (folded c)) t) ⟨h',g,dr,tk,os⟩) :
    wpAny (model pw w) A (call (.ref f) [.str (sl [c]) t]) Q E ⟨h,g,dr,tk,os⟩ := by
  refine call_def (binds := [("code", .str (sl [c]) t)]) R hf G.nolimit (fun h₁ L a cd tk F N0 A' R' => ?_) (fun _ _ _ => rfl) (by rfl)
  dsimp only [dB3] at F ⊢
  repeat walk_at "w1"
  refine mGet (knd := intKind pw w) ?_ (by rfl) (by rfl)
  refine nObj (x := "b3_exceptions") (by assumption) G (.tail _ (.tail _ (.tail _ (.head _)))) (fun b ob hgt hb hP => ?_) (by rfl) (by rfl) (by rfl) (by decide)
  obtain ⟨f', hm, hv⟩ := hP
  refine ⟨b, ob, f', rfl, hb, hm pw w, ?_, ?_⟩
  · rw [beq_eq_false_iff_ne]
    intro e
    have : mainGlobals < sysModules := e ▸ hgt
    revert this
    decide
  repeat walk_at "w1"
  refine ordI (by rfl) fun t tk => ?_
  refine ⟨(c : Int), isInt_self, hb, ?_⟩
  have hv := hv c
  dsimp only
  cases hb3 : b3 c with
  | none =>
    rw [hb3] at hv
    replace hv : f' (c : Int) = none := hv
    rw [hv, Option.getD_none]
    repeat walk_at "w1"
    refine SCL.lower (x := sl [c]) (by rw [sl_len]; exact Nat.le_of_ble_eq_true rfl) fun _ => ?_
    have e : Txt.lower (sl [c]) = sl (folded c) := by unfold folded; rw [hb3]; rfl
    rw [e]
    exact H _ _ _ (Fr.keep (by assumption))
  | some x =>
    rw [hb3] at hv
    obtain ⟨t', hv⟩ : ∃ t, f' (c : Int) = some (.str x t) := hv
    rw [hv, Option.getD_some]
    repeat walk_at "w1"
    have e : x = sl (folded c) := by unfold folded; rw [hb3]; rfl
    rw [e]
    exact H _ _ _ (Fr.keep (by assumption))
end

section
open PySem PySem.W PyProof.Rows PySem.Calls
set_option maxRecDepth 100000
set_option maxHeartbeats 4000000
variable {w : World} {A : Around} {E : Value → Shared → Prop} {h : Heap} {g : Array GenState} {dr : Drawn} {tk : Nat} {os : OsState}
  {N : Nat} {mg mb : Str → Option Value} {Q : Value → Shared → Prop}





theorem call_known {f ip : Addr} {k : Nat} {its : List Item} {vs : List Value} (R : Room A (k + 2)) (hf : Fn dKnown h f) (G : Glob N mg mb defs0 consts0 objs0 names0 h)
    (hl : h.IsList ip vs.toArray) (hI : Items h its vs) (htot : (its.map fun it => it.2.1.length + it.2.2.length).sum ≤ 1000000)
    (hgood : ∀ it ∈ its, (it.2.1.map kText).flatten = it.2.2)
    (H : ∀ h' tk K oD kvs vals S, Ext h h' → h.get? K = none → h'.get? K = some oD → oD.IsDictOf (PySem.strKind pw w) kvs → (K == sysModules) = false → KnownIs vals S kvs → (∀ p ∈ vals, h'.get? p.1 = some p.2 ∧ h.get? p.1 = none) →
      (∀ c, c ∈ S ↔ ∃ it ∈ its, c ∈ it.2.1) → S.length ≤ 1000000 → Q (.ref K) ⟨h',g,dr,tk,os⟩) :
    wpAny (model pw w) A (call (.ref f) [.ref ip]) Q E ⟨h,g,dr,tk,os⟩ := by
  refine call_defC (binds := [("items", .ref ip)]) R hf G.nolimit (fun h₁ L a cd tk cells F N0 X A' R' => ?_) (fun _ _ _ => rfl) (by rfl) (by decide)
  obtain ⟨oc, rfl, hoc⟩ := X.one
  replace hoc : oc.data = .cell none := hoc
  dsimp only [dKnown] at F ⊢
  have G₁ := G.keeps F.keep
  repeat walk_at "w1"
  refine dNew (PySem.strKind pw w) G.nolimit F N0 fun h₂ K oD F2 N2 hx2 hd2 hK => ?_
  refine stCell (pre := [_]) (post := []) F2 N2 (by rfl) hoc ?_ (fun _ hp => nomatch hp) (fun h3 oc3 F3 N3 hd3 hs3 => ?_) (by rfl) (by rfl)
  · exact newsApartL N2 (b := (L + 1, oc)) (.tail _ (.head _)) fun p hp => ⟨List.mem_singleton.mp hp ▸ .head _, by rw [List.mem_singleton.mp hp, tag_dict hd2, tag_cell hoc]; decide⟩
  have hn : vs.length = its.length := (Paired.length hI).symm
  refine xFor ?_ (by intro _; rfl)
  repeat walk_at "w1"
  refine it_list (IsList.ext hl F3.keep) fun it h4 X4 => ?_
  refine forLoopW [] X4 R'.handled F3 N3 (fun p hp => noIter_tag (by
      rcases List.mem_cons.mp hp with rfl | hp
      · rw [tag_dict hd2]; decide
      · rw [List.mem_singleton.mp hp, tag_cell hd3]; decide)) goTuple
    (fun i _ news => KnInv w K (L + 1) (fun c => ∃ it ∈ its.take i, c ∈ it.2.1) ((its.take i).map fun it => it.2.1.length + it.2.2.length).sum news)
    ⟨oD, oc3, [], [], [], rfl, hd2, hd3, .nil, (fun _ hp => nomatch hp), (by simp), (by simp)⟩ ?_ ?_
  · intro i v m₁ news₁ own h₁ tk₁ E' hi hP hJ hni F N hown
    obtain ⟨it, hit, q, u1, u2, u3, rfl, hq⟩ := paired_at hI i v (by simpa using hP)
    refine unpack3 R'.handled F N (IsList.ext hq F.keep) (fun h5 tk5 F5 N5 k5 => ?_) (by rfl) (by rfl) (by rfl) (by rfl)
    refine xFor ?_ (by intro _; rfl)
    repeat walk_at "w1"
    refine it_str fun it' h6 X6 => ?_
    have hmem : it ∈ its := List.mem_of_getElem? hit
    have htk : ((its.take (i + 1)).map fun it => it.2.1.length + it.2.2.length).sum = ((its.take i).map fun it => it.2.1.length + it.2.2.length).sum + (it.2.1.length + it.2.2.length) := by
      rw [take_succ_some hit]; simp
    have htle : ((its.take (i + 1)).map fun it => it.2.1.length + it.2.2.length).sum ≤ 1000000 := by
      refine Nat.le_trans ?_ htot
      rw [List.map_take]
      exact sum_take_le _ _
    refine forLoopW (own ++ []) X6 R'.handled F5 N5 hni goName
      (fun j m news => m "signs" = some (.str (sl it.2.1) u2) ∧ m "means" = some (.str (sl it.2.2) u3) ∧ KnInv w K (L + 1) (fun c => (∃ it ∈ its.take i, c ∈ it.2.1) ∨ c ∈ it.2.1.take j) (((its.take i).map fun it => it.2.1.length + it.2.2.length).sum + j) news)
      ⟨by rfl, by rfl, hJ.imp (fun x => by simp) (Nat.le_refl _)⟩ ?_ ?_
    · intro j v m₂ news₂ own₂ h7 tk7 E'' hj hP hJ2 hni2 F7 N7 hown2
      obtain ⟨hm1, hm2, oD', oc', kvs, vals, S, rfl, hd', hc', hkn, htag, hS, hlen⟩ := hJ2
      obtain ⟨c, u, hc, hv⟩ := hP
      replace hv : v = .str (sl [c]) u := hv
      subst hv
      replace hc : it.2.1[j]? = some c := by simpa using hc
      have htj : it.2.1.take (j + 1) = it.2.1.take j ++ [c] := take_succ_some hc
      refine assign_name ?_
      repeat walk_at "w1"
      rename_i h8 tk8 F8 N8 hs8
      repeat walk_at "w1"
      refine dNotIn isStr_self (N8.get (by walk_at "mem")) hd' hK fun tk9 => ?_
      by_cases hcS : c ∈ S
      · obtain ⟨v, hv, _⟩ := hkn.at hcS
        rw [hv]
        repeat walk_at "w1"
        rw [if_neg (by simp)]
        repeat walk_at "w1"
        refine .inr ⟨.inl rfl, _, _, _, _, rfl, F8, N8, hni2, hm1, hm2, oD', oc', kvs, vals, S, rfl, hd', hc', hkn, htag, fun x => ?_, by omega⟩
        dsimp only
        rw [hS, htj, List.mem_append, List.mem_singleton]
        refine ⟨fun h => h.elim .inl fun h => .inr (.inl h), fun h => ?_⟩
        rcases h with h | h | rfl
        · exact .inl h
        · exact .inr h
        · exact (hS _).mp hcS
      · rw [hkn.not hcS]
        repeat walk_at "w1"
        rw [if_pos (by rfl)]
        repeat walk_at "w1"
        refine call_b1 R' (Fn.ext (by assumption) (frExt (by assumption))) (G.keeps (frExt (by assumption))) fun h9 tk9 hx9 => ?_
        have F9 := frGrow F8 hx9
        have N9 := newsGrow N8 hx9
        repeat walk_at "w1"
        refine call_c8 R' (Fn.ext (by assumption) (frExt (by assumption))) (G.keeps (frExt (by assumption))) fun h10 tk10 hx10 => ?_
        have F10 := frGrow F9 hx10
        have N10 := newsGrow N9 hx10
        repeat walk_at "w1"
        refine call_c9 R' (Fn.ext (by assumption) (frExt (by assumption))) (G.keeps (frExt (by assumption))) fun h11 tk11 hx11 => ?_
        have F11 := frGrow F10 hx11
        have N11 := newsGrow N10 hx11
        repeat walk_at "w1"
        refine lNew F11 N11 (by rw [sizeLine_eq]; exact Nat.le_of_ble_eq_true rfl) fun h12 p12 F12 N12 hx12 => ?_
        repeat walk_at "w1"
        rename_i h13 tk13 F13 N13 hs13
        repeat walk_at "w1"
        refine comp_F (fun _ => false) (fun _ _ => True) R'.handled (by rfl) (by decide) (by rfl) (by decide) (by decide) (by intro _; rfl) ?_
        repeat walk_at "w1"
        refine it_list (lst_is (N13.get (.head _))) fun it'' h14 X14 => ?_
        refine ⟨_, _, _, X14, by rw [sizeLine_eq]; exact Nat.le_of_ble_eq_true rfl, ?_, ?_, ?_⟩
        · intro C i v h₃ g₃ d₃ tk₃ o₃ m₃ E' hi hP F₃ hm
          obtain ⟨b, rfl⟩ : ∃ b, v = .bool b := by
            have hi' : i < 3 := hi
            have : i = 0 ∨ i = 1 ∨ i = 2 := by omega
            rcases this with rfl | rfl | rfl <;> simp at hP <;> exact ⟨_, hP.symm⟩
          show wpAny _ _ (isTrue _ _ _) _ _ _
          repeat walk_at "w1"
          cases b
          · rw [if_pos (by rfl)]
            repeat walk_at "w1"
            rw [if_neg (by decide)]
            exact ⟨rfl, _, _, rfl, Ext.rfl'⟩
          · rw [if_neg (by decide)]
            exact ⟨rfl, _, _, rfl, Ext.rfl'⟩
        · intro C i v h₃ g₃ d₃ tk₃ o₃ m₃ E' hi hP hp
          cases hp
        · intro D h15 tk15 ys vs' hD hpl hlen' hP' hF hx15
          obtain ⟨nn, ho⟩ := plain_obj hpl
          have hys : ys.toList = [] := by
            have h0 : vs'.filter (fun _ => false) = [] := by simp
            rw [h0] at hF
            generalize ys.toList = l at hF
            cases hF; rfl
          have F15 := frGrow F13 hx15
          have N15 := newsGrow N13 hx15
          refine lTrue (vs := []) ⟨_, ho, rfl, nn, by rw [← hys]⟩ (Nat.zero_le _) fun tk16 => ?_
          rw [if_neg (by decide)]
          repeat walk_at "w1"
          refine gList (l := [.bool (inB1 c), .bool (inC8 c), .bool (inC9 c)]) (lst_is (N15.get (.head _))) (by decide) (by decide) (by rfl) ?_ (by with_unfolding_all rfl)
          repeat walk_at "w1"
          refine gList (l := [.bool (inB1 c), .bool (inC8 c), .bool (inC9 c)]) (lst_is (N15.get (.head _))) (by decide) (by decide) (by rfl) ?_ (by with_unfolding_all rfl)
          repeat walk_at "w1"
          refine gList (l := [.bool (inB1 c), .bool (inC8 c), .bool (inC9 c)]) (lst_is (N15.get (.head _))) (by decide) (by decide) (by rfl) ?_ (by with_unfolding_all rfl)
          repeat walk_at "w1"
          rename_i tb tkb h16 tk16 F16 N16 hs16
          have hb : ((inB1 c).toNat : Int) + 2 * ((inC8 c).toNat : Int) + 4 * ((inC9 c).toNat : Int) = ((kBits c : Nat) : Int) := by unfold kBits; push_cast; rfl
          rw [hb] at F16 ⊢
          repeat walk_at "w1"
          refine iteMono (Q' := fun v s => ∃ t h' tk, v = .str (sl (kText c)) t ∧ s = ⟨h', g, dr, tk, os⟩ ∧ Ext h16 h') ?_ ?_
          · by_cases hz : kBits c = 0
            · rw [if_neg (by rw [hz]; decide)]
              repeat walk_at "w1"
              refine call_b3 R' (Fn.ext (by assumption) (frExt (by assumption))) (G.keeps (frExt (by assumption))) fun h17 tk17 t17 hx17 => ?_
              exact ⟨t17, _, _, by rw [kText, if_pos hz], rfl, hx17⟩
            · rw [if_pos (by simpa using hz)]
              repeat walk_at "w1"
              exact ⟨u, _, _, by rw [kText, if_neg hz], rfl, Ext.rfl'⟩
          · rintro v s ⟨t17, h17, tk17, rfl, rfl, hx17⟩
            have F17 := frGrow F16 hx17
            have N17 := newsGrow N16 hx17
            repeat walk_at "w1"
            refine lNew F17 N17 (by rw [sizeLine_eq]; exact Nat.le_of_ble_eq_true rfl) fun h18 p18 F18 N18 hx18 => ?_
            repeat walk_at "w1"
            have hq1 : ∀ p ∈ own₂, tag p.2 = 0 ∨ tag p.2 = 3 := Own.tag hown2
            have hq2 : ∀ p ∈ own, tag p.2 = 0 ∨ tag p.2 = 3 := Own.tag hown
            refine dSet (pre := (p18, _) :: (p12, _) :: (own₂ ++ (own ++ []))) (k := sl [c]) isStr_self F18 N18 hd' ?_ ?_ ?_ fun h19 oD2 tk19 F19 N19 hd19 hs19 => ?_
            · refine newsApartL N18 (b := (K, oD')) (by walk_at "mem") fun p hp => ⟨List.mem_append_left (as := (p18, _) :: (p12, _) :: (own₂ ++ (own ++ []))) _ hp, ?_⟩
              rw [tag_dict hd']
              rcases List.mem_cons.mp hp with rfl | hp
              · show (0 : Nat) ≠ 1; decide
              rcases List.mem_cons.mp hp with rfl | hp
              · show (0 : Nat) ≠ 1; decide
              rcases List.mem_append.mp hp with hp | hp
              · rcases hq1 p hp with e | e <;> rw [e] <;> decide
              · rw [List.append_nil] at hp
                rcases hq2 p hp with e | e <;> rw [e] <;> decide
            · refine newsApartL N18 (b := (K, oD')) (by walk_at "mem") fun p hp => ⟨List.mem_append_right ((p18, _) :: (p12, _) :: (own₂ ++ (own ++ []))) (List.mem_cons_of_mem _ hp), ?_⟩
              rw [tag_dict hd']
              rcases List.mem_cons.mp hp with rfl | hp
              · rw [tag_cell hc']; decide
              · rw [htag p hp]; decide
            · have hj' : j < it.2.1.length := by simpa using hj
              rw [sizeLine_eq, ← Paired.length hkn]
              omega
            · rw [stored_absent (hkn.not hcS)] at hd19
              repeat walk_at "w1"
              refine .inr ⟨.inl rfl, _, _, _, (K, oD2) :: (L + 1, oc') :: (p18, lst [.str (sl (kText c)) t17, .int (kBits c : Nat) tb] 0) :: vals, rfl, F19, ?_, ?_, hm1, hm2, oD2, oc', _, _, S ++ [c], rfl, hd19, hc', (hkn.more fun p hp => List.mem_cons_of_mem _ hp).snoc ⟨p18, t17, tb, 0, rfl, .head _⟩, ?_, fun x => ?_, ?_⟩
              · intro p hp
                refine N19 p ?_
                simp only [List.mem_append, List.mem_cons, List.not_mem_nil, or_false] at hp ⊢
                grind
              · intro p hp
                refine noIter_tag ?_
                rcases List.mem_cons.mp hp with rfl | hp
                · rw [tag_dict hd19]; decide
                rcases List.mem_cons.mp hp with rfl | hp
                · rw [tag_cell hc']; decide
                rcases List.mem_cons.mp hp with rfl | hp
                · show (0 : Nat) ≠ 3; decide
                · rw [htag p hp]; decide
              · intro p hp
                rcases List.mem_cons.mp hp with rfl | hp
                · rfl
                · exact htag p hp
              · dsimp only
                rw [htj, List.mem_append, List.mem_append, List.mem_singleton, hS, or_assoc]
              · rw [List.length_append, List.length_singleton]; omega
    · intro h7 tk7 m7 news7 F7 N7 hni7 hJ7
      obtain ⟨hm1, hm2, oD', oc', kvs, vals, S, rfl, hd', hc', hkn, htag, hS, hlen⟩ := hJ7
      have hS' : ∀ c, c ∈ S ↔ (∃ it ∈ its.take i, c ∈ it.2.1) ∨ c ∈ it.2.1 := fun c => by
        have e : it.2.1.take (sl it.2.1).cps.size = it.2.1 := List.take_of_length_le (by simp)
        rw [hS c, e]
      have hcl : h7.IsCell (L + 1) (some (.ref K)) := ⟨oc', N7.get (by walk_at "mem"), hc'⟩
      have hKo : h7.get? K = some oD' := N7.get (by walk_at "mem")
      repeat walk_at "w1"
      refine compS it.2.1 (fun _ => true) (fun c y => ∃ t, y = .str (sl (kText c)) t) [("known", L + 1)] F7 N7 R'.handled (by rfl) (by decide) (by rfl) (by decide) (by decide) (by intro _; rfl) (by omega) (fun K hK => ?_) ?_ ?_ ?_
      · repeat walk_at "w1"
        exact hK _ _
      · intro C c t h₃ g₃ d₃ tk₃ o₃ m₃ E' hc F₃ hm
        exact rfl
      · intro C c t h₃ g₃ d₃ tk₃ o₃ m₃ E' hc _ F₃ hm
        have hcl3 := hcl.keeps F₃.keep
        obtain ⟨v, hv, q, t1, u1, n1, rfl, hq⟩ := hkn.at ((hS' c).mpr (.inr hc))
        have hq3 := F₃.keep _ _ (N7.get (List.mem_append_right (own ++ []) (List.Mem.tail _ (List.Mem.tail _ hq))))
        repeat walk_at "w1"
        refine dItem (k := sl [c]) isStr_self (F₃.keep _ _ hKo) hd' hv (fun tk9 => ?_) (by with_unfolding_all rfl)
        repeat walk_at "w1"
        refine gList (l := [.str (sl (kText c)) t1, .int (kBits c : Nat) u1]) (lst_is hq3) (by decide) (by decide) (by rfl) ?_ (by with_unfolding_all rfl)
        exact ⟨⟨t1, rfl⟩, _, _, rfl, Ext.rfl'⟩
      · intro D h8 tk8 ys nn hys hx8 F8 N8 hD
        rw [List.filter_eq_self.mpr (fun _ _ => rfl)] at hys
        have hg := hgood it hmem
        repeat walk_at "w1"
        refine joinS (x := sl []) (ls := it.2.1.map kText) rfl (lst_is (N8.get (.head _))) (paired_strs hys) ?_ fun t tk => ?_
        · have e := congrArg List.length hg
          rw [List.length_flatten] at e
          rw [e, sizeLine_eq]; omega
        rw [hg]
        repeat walk_at "w1"
        rw [if_neg (by simp)]
        repeat walk_at "w1"
        refine .inr ⟨.inl rfl, h8, _, _, (K, oD') :: (L + 1, oc') :: vals, rfl, F8, fun p hp => N8 p ?_, hni7, oD', oc', kvs, vals, S, rfl, hd', hc', hkn, htag, fun x => ?_, ?_⟩
        · refine List.mem_cons_of_mem _ ?_
          simpa using hp
        · dsimp only
          rw [hS', take_succ_some hit]
          constructor
          · rintro (⟨it', h1, h2⟩ | h)
            · exact ⟨it', List.mem_append_left _ h1, h2⟩
            · exact ⟨it, List.mem_append_right _ (.head _), h⟩
          · rintro ⟨it', h1, h2⟩
            rcases List.mem_append.mp h1 with h1 | h1
            · exact .inl ⟨it', h1, h2⟩
            · rw [List.mem_singleton.mp h1] at h2; exact .inr h2
        · have : (sl it.2.1).cps.size = it.2.1.length := by simp
          omega
  · intro h7 tk7 m7 news7 F7 N7 hni7 hJ7
    obtain ⟨oD', oc', kvs, vals, S, rfl, hd', hc', hkn, htag, hS, hlen⟩ := hJ7
    have htake : its.take (vs.toArray.size) = its := List.take_of_length_le (by rw [List.size_toArray, hn]; exact Nat.le_refl _)
    rw [htake] at hlen
    repeat walk_at "w1"
    refine H h7 tk7 K oD' kvs vals S F7.keep (N7 (K, oD') (by walk_at "mem")).2.2 (N7.get (by walk_at "mem")) hd' hK hkn (fun p hp => ⟨(N7 p (List.Mem.tail _ (List.Mem.tail _ hp))).1, (N7 p (List.Mem.tail _ (List.Mem.tail _ hp))).2.2⟩) (fun c => ?_) (by omega)
    rw [hS c, htake]
end

section
open PySem PySem.W PyProof.Rows PySem.Calls
set_option maxRecDepth 100000
set_option maxHeartbeats 4000000
variable {w : World} {A : Around} {E : Value → Shared → Prop} {h : Heap} {g : Array GenState} {dr : Drawn} {tk : Nat} {os : OsState}
  {N : Nat} {mg mb : Str → Option Value} {Q : Value → Shared → Prop}









def partOf (reader : Nat) (it : Item) : List Nat := ((it.2.1.filter fun c => kBits c &&& reader == 0).map kText).flatten
structure BSt where
  text : List Nat
  due : List Nat
  shut : List Nat
  inside : Bool
def bStep (reader : Nat) (st : BSt) (it : Item) : BSt :=
  let part := partOf reader it
  if it.1 &&& reader = it.1 then
    (if st.inside then ⟨st.text ++ part, st.due, [], false⟩ else ⟨st.text ++ part, st.due ++ part.dropLast, part.drop (part.length - 1), true⟩)
  else if st.inside then ⟨st.text ++ part, st.due, st.shut ++ part, true⟩
  else ⟨st.text ++ part, st.due ++ part, st.shut, false⟩
def bAt (reader : Nat) (its : List Item) (i : Nat) : BSt := (its.take i).foldl (bStep reader) ⟨[], [], [], false⟩
def bPair (st : BSt) : List Nat × List Nat := (st.text, st.due ++ st.shut)
def BegIs (prs : List (Addr × Obj)) (ab : List Nat × List Nat) (y : Value) : Prop := ∃ q t u n, y = .ref q ∧ (q, lst [.str (sl ab.1) t, .str (sl ab.2) u] n) ∈ prs

theorem bAt_succ {reader : Nat} {its : List Item} {i : Nat} {it : Item} (e : its[i]? = some it) : bAt reader its (i + 1) = bStep reader (bAt reader its i) it := by
  unfold bAt
  rw [take_succ_some e, List.foldl_append]; rfl
theorem part_le (reader : Nat) (it : Item) (hg : (it.2.1.map kText).flatten = it.2.2) : (partOf reader it).length ≤ it.2.2.length := by
  rw [← hg]
  unfold partOf
  generalize it.2.1 = l
  induction l with
  | nil => simp
  | cons c l ih =>
    rw [List.filter_cons]
    split
    · simpa using ih
    · simp only [List.map_cons, List.flatten_cons, List.length_append]; omega
theorem bStep_len (reader : Nat) (st : BSt) (it : Item) (hg : (it.2.1.map kText).flatten = it.2.2) (k : Nat) (h1 : st.text.length ≤ k) (h2 : st.due.length + st.shut.length ≤ k) :
    (bStep reader st it).text.length ≤ k + it.2.2.length ∧ (bStep reader st it).due.length + (bStep reader st it).shut.length ≤ k + it.2.2.length := by
  have hp := part_le reader it hg
  unfold bStep
  dsimp only
  split
  · split
    · simp only [List.length_append, List.length_nil]; omega
    · simp only [List.length_append, List.length_dropLast, List.length_drop]; omega
  · split <;> simp only [List.length_append] <;> omega
theorem bAt_len (reader : Nat) (its : List Item) (hg : ∀ it ∈ its, (it.2.1.map kText).flatten = it.2.2) : ∀ i, (bAt reader its i).text.length ≤ ((its.take i).map fun it => it.2.2.length).sum ∧ (bAt reader its i).due.length + (bAt reader its i).shut.length ≤ ((its.take i).map fun it => it.2.2.length).sum := by
  intro i
  induction i with
  | zero => simp [bAt]
  | succ i ih =>
    cases e : its[i]? with
    | none =>
      have hl : its.length ≤ i := List.getElem?_eq_none_iff.mp e
      have h1 : its.take (i + 1) = its.take i := by rw [List.take_of_length_le (by omega), List.take_of_length_le hl]
      have : bAt reader its (i + 1) = bAt reader its i := by unfold bAt; rw [h1]
      rw [this, h1]; exact ih
    | some it =>
      rw [bAt_succ e, take_succ_some e, List.map_append, List.sum_append]
      simpa using bStep_len reader _ it (hg it (List.mem_of_getElem? e)) _ ih.1 ih.2

theorem sum_snd_le (l : List Item) : (l.map fun it => it.2.2.length).sum ≤ (l.map fun it => it.2.1.length + it.2.2.length).sum := by
  induction l with
  | nil => simp
  | cons a l ih => simp only [List.map_cons, List.sum_cons]; omega
theorem mem_sum_le {α : Type} (f : α → Nat) : ∀ {l : List α} {a : α}, a ∈ l → f a ≤ (l.map f).sum
  | _ :: l, a, h => by
    simp only [List.map_cons, List.sum_cons]
    rcases List.mem_cons.mp h with rfl | h
    · omega
    · have := mem_sum_le f h; omega
theorem call_begun {f ip K : Addr} {k : Nat} {its : List Item} {vs : List Value} {oD : Obj} {kvs : List (Str × Value)} {vals : List (Addr × Obj)} {S : List Nat} {reader : Nat} {t₁ : Tok} (R : Room A (k + 2)) (hf : Fn dBegun h f) (G : Glob N mg mb defs0 consts0 objs0 names0 h)
    (hl : h.IsList ip vs.toArray) (hI : Items h its vs) (htot : (its.map fun it => it.2.1.length + it.2.2.length).sum ≤ 1000000)
    (hgood : ∀ it ∈ its, (it.2.1.map kText).flatten = it.2.2)
    (hK : h.get? K = some oD) (hD : oD.IsDictOf (PySem.strKind pw w) kvs) (hkn : KnownIs vals S kvs) (hvals : ∀ p ∈ vals, h.get? p.1 = some p.2) (hS : ∀ it ∈ its, ∀ c ∈ it.2.1, c ∈ S) (hlen : its.length ≤ 1000000)
    (H : ∀ h' tk B ys nn prs, Ext h h' → h.get? B = none → h'.get? B = some (lst ys nn) → (∀ p ∈ prs, h'.get? p.1 = some p.2 ∧ h.get? p.1 = none) → Paired (BegIs prs) ((List.range its.length).map fun j => bPair (bAt reader its (j + 1))) ys → Q (.ref B) ⟨h',g,dr,tk,os⟩) :
    wpAny (model pw w) A (call (.ref f) [.ref ip, .ref K, .int reader t₁]) Q E ⟨h,g,dr,tk,os⟩ := by
  refine call_defC (binds := [("items", .ref ip), ("known", .ref K), ("reader", .int reader t₁)]) R hf G.nolimit (fun h₁ L a cd tk cells F N0 X A' R' => ?_) (fun _ _ _ => rfl) (by rfl) (by decide)
  obtain ⟨o₁, o₂, rfl, hc₁, hc₂⟩ := X.two
  replace hc₁ : o₁.data = .cell (some (.int reader t₁)) := hc₁
  replace hc₂ : o₂.data = .cell (some (.ref K)) := hc₂
  dsimp only [dBegun] at F ⊢
  have G₁ := G.keeps F.keep
  repeat walk_at "w1"
  rename_i h2 tk2 F2 N2 hs2
  refine lNew F2 N2 (Nat.zero_le _) fun h3 B F3 N3 hx3 => ?_
  repeat walk_at "w1"
  rename_i h4 tk4 F4 N4 hs4
  have hn : vs.length = its.length := (Paired.length hI).symm
  refine xFor ?_ (by intro _; rfl)
  repeat walk_at "w1"
  refine it_listZ (IsList.ext hl F4.keep) fun it h5 X5 => ?_
  have hB0 : h.get? B = none := (N4.get (.head _) |> fun _ => (N4 _ (.head _)).2.2)
  refine forLoopW [(L + 1 + 1, o₁), (L + 1, o₂)] X5 R'.handled F4 (news := [(B, lst [] 0)]) (fun p hp => N4 p (by simp at hp ⊢; grind)) (fun p hp => noIter_tag (by
      rw [List.mem_singleton.mp hp]; show (0 : Nat) ≠ 3; decide)) goTuple
    (fun i m news => ∃ ys nn prs t1 t2 t3, news = (B, lst ys nn) :: prs ∧ (∀ p ∈ prs, tag p.2 = 0 ∧ p.1 ≠ B) ∧ Paired (BegIs prs) ((List.range i).map fun j => bPair (bAt reader its (j + 1))) ys ∧
      m "text" = some (.str (sl (bAt reader its i).text) t1) ∧ m "due" = some (.str (sl (bAt reader its i).due) t2) ∧ m "shut" = some (.str (sl (bAt reader its i).shut) t3) ∧ m "inside" = some (.bool (bAt reader its i).inside) ∧ m "begun" = some (.ref B))
    ⟨[], 0, [], _, _, _, rfl, (fun _ hp => nomatch hp), .nil, by rfl, by rfl, by rfl, by rfl, by rfl⟩ ?_ ?_
  · intro i v m₁ news₁ own h₁ tk₁ E' hi hP hJ hni F N hown
    obtain ⟨ys, nn, prs, t1, t2, t3, rfl, hprs, hys, hm1, hm2, hm3, hm4, hm5⟩ := hJ
    obtain ⟨it, hit, q, u1, u2, u3, rfl, hq⟩ := paired_at hI i v (by simpa using hP)
    refine unpack3 R'.handled F N (IsList.ext hq F.keep) (fun h6 tk6 F6 N6 k6 => ?_) (by rfl) (by rfl) (by rfl) (by rfl)
    have hmem : it ∈ its := List.mem_of_getElem? hit
    have hpt := part_le reader it (hgood it hmem)
    have hle : ((its.take i).map fun it => it.2.2.length).sum + it.2.2.length ≤ 1000000 := by
      have e1 : ((its.take (i + 1)).map fun it => it.2.2.length).sum = ((its.take i).map fun it => it.2.2.length).sum + it.2.2.length := by
        rw [take_succ_some hit]; simp
      rw [← e1]
      refine Nat.le_trans ?_ htot
      rw [List.map_take]
      exact Nat.le_trans (sum_take_le _ _) (sum_snd_le its)
    have hst := bAt_len reader its hgood i
    have hst' := bAt_len reader its hgood (i + 1)
    rw [take_succ_some hit, List.map_append, List.sum_append] at hst'
    simp only [List.map_cons, List.map_nil, List.sum_cons, List.sum_nil, Nat.add_zero] at hst'
    have hnext := bAt_succ (reader := reader) hit
    have hcl1 : h6.IsCell (L + 1 + 1) (some (.int reader t₁)) := ⟨o₁, N6.get (List.mem_append_left _ (List.mem_append_right _ (.head _))), hc₁⟩
    have hcl2 : h6.IsCell (L + 1) (some (.ref K)) := ⟨o₂, N6.get (List.mem_append_left _ (List.mem_append_right _ (.tail _ (.head _)))), hc₂⟩
    repeat walk_at "w1"
    refine compS it.2.1 (fun c => kBits c &&& reader == 0) (fun c y => ∃ t, y = .str (sl (kText c)) t) _ F6 N6 R'.handled (by rfl) (by decide) (by rfl) (by decide) (by decide) (by intro _; rfl) ?_ (fun K hK => ?_) ?_ ?_ ?_
    · have := mem_sum_le (fun it : Item => it.2.1.length + it.2.2.length) hmem
      omega
    · repeat walk_at "w1"
      exact hK _ _
    · intro C c t h₃ g₃ d₃ tk₃ o₃ m₃ E' hc F₃ hm
      have hy1 := hcl1.keeps F₃.keep
      have hy2 := hcl2.keeps F₃.keep
      obtain ⟨v, hv, q', tq, uq, nq, rfl, hq'⟩ := hkn.at (hS it hmem c hc)
      have hq3 := F₃.keep _ _ (F6.keep _ _ (hvals _ hq'))
      show wpAny _ _ (isTrue _ _ _) _ _ _
      repeat walk_at "w1"
      refine dItem (k := sl [c]) isStr_self (F₃.keep _ _ (F6.keep _ _ hK)) hD hv (fun tk9 => ?_) (by with_unfolding_all rfl)
      repeat walk_at "w1"
      refine gList (l := [.str (sl (kText c)) tq, .int (kBits c : Nat) uq]) (lst_is hq3) (by decide) (by decide) (by rfl) ?_ (by with_unfolding_all rfl)
      repeat walk_at "w1"
      exact ⟨by rw [bitAnd_nat]; exact natBeq _ 0, _, _, rfl, Ext.rfl'⟩
    · intro C c t h₃ g₃ d₃ tk₃ o₃ m₃ E' hc hpc F₃ hm
      have hy2 := hcl2.keeps F₃.keep
      obtain ⟨v, hv, q', tq, uq, nq, rfl, hq'⟩ := hkn.at (hS it hmem c hc)
      have hq3 := F₃.keep _ _ (F6.keep _ _ (hvals _ hq'))
      repeat walk_at "w1"
      refine dItem (k := sl [c]) isStr_self (F₃.keep _ _ (F6.keep _ _ hK)) hD hv (fun tk9 => ?_) (by with_unfolding_all rfl)
      repeat walk_at "w1"
      refine gList (l := [.str (sl (kText c)) tq, .int (kBits c : Nat) uq]) (lst_is hq3) (by decide) (by decide) (by rfl) ?_ (by with_unfolding_all rfl)
      exact ⟨⟨tq, rfl⟩, _, _, rfl, Ext.rfl'⟩
    · intro D h8 tk8 zs nn8 hzs hx8 F8 N8 hD8
      repeat walk_at "w1"
      have epart : ((it.2.1.filter fun c => kBits c &&& reader == 0).map kText).flatten = partOf reader it := rfl
      refine joinS (x := sl []) (ls := (it.2.1.filter fun c => kBits c &&& reader == 0).map kText) rfl (lst_is (N8.get (.head _))) (paired_strs hzs) ?_ fun t tk => ?_
      · rw [← List.length_flatten, epart, sizeLine_eq]
        omega
      rw [epart]
      repeat walk_at "w0"
      rename_i h9 tk9 F9 N9 hs9
      refine xIfJ (fun s' => ∃ h' tk' m' t1 t2 t3, s' = ⟨h',g,dr,tk',os⟩ ∧ Fr h L h' m' ∧ News h L h' (own ++ [(L + 1 + 1, o₁), (L + 1, o₂)] ++ (B, lst ys nn) :: prs) ∧
        m' "text" = some (.str (sl (bAt reader its (i + 1)).text) t1) ∧ m' "due" = some (.str (sl (bAt reader its (i + 1)).due) t2) ∧ m' "shut" = some (.str (sl (bAt reader its (i + 1)).shut) t3) ∧ m' "inside" = some (.bool (bAt reader its (i + 1)).inside) ∧ m' "begun" = some (.ref B)) ?_ ?_
      · repeat walk_at "w1"
        rw [bitAnd_nat, natBeq]
        by_cases hT : it.1 &&& reader = it.1
        · rw [if_pos (by simpa using hT)]
          cases hin : (bAt reader its i).inside
          · rw [hin] at hm4
            have e : bAt reader its (i + 1) = ⟨(bAt reader its i).text ++ partOf reader it, (bAt reader its i).due ++ (partOf reader it).dropLast, (partOf reader it).drop ((partOf reader it).length - 1), true⟩ := by
              rw [hnext]; unfold bStep; dsimp only; rw [if_pos hT, hin, if_neg (by decide)]
            rw [e] at hst' ⊢
            repeat walk_at "w1"
            refine ⟨_, _, rfl, by omega, fun h10 t10 tk10 hx10 => ?_⟩
            have F10 := frGrow (by assumption) hx10
            have N10 := newsGrow (by assumption) hx10
            have hdl := List.length_dropLast (xs := partOf reader it)
            repeat walk_at "w1"
            refine ⟨_, _, rfl, by omega, fun h11 t11 tk11 hx11 => ?_⟩
            have F11 := frGrow (by assumption) hx11
            have N11 := newsGrow (by assumption) hx11
            repeat walk_at "w1"
            rename_i hl tkl Fl Nl hsl
            exact ⟨rfl, _, _, _, _, _, _, rfl, Fl, fun p hp => Nl p (.tail _ hp), rfl, rfl, rfl, rfl, hm5⟩
          · rw [hin] at hm4
            have e : bAt reader its (i + 1) = ⟨(bAt reader its i).text ++ partOf reader it, (bAt reader its i).due ++ [], [], false⟩ := by
              rw [hnext]; unfold bStep; dsimp only; rw [if_pos hT, hin, if_pos rfl, List.append_nil]
            rw [e] at hst' ⊢
            repeat walk_at "w1"
            rename_i hl tkl Fl Nl hsl
            exact ⟨rfl, _, _, _, _, _, _, rfl, Fl, fun p hp => Nl p (.tail _ hp), rfl, rfl, rfl, rfl, hm5⟩
        · rw [if_neg (by simpa using hT)]
          repeat walk_at "w1"
          cases hin : (bAt reader its i).inside
          · rw [hin] at hm4
            have e : bAt reader its (i + 1) = ⟨(bAt reader its i).text ++ partOf reader it, (bAt reader its i).due ++ partOf reader it, (bAt reader its i).shut, false⟩ := by
              rw [hnext]; unfold bStep; dsimp only; rw [if_neg hT, hin, if_neg (by decide)]
            rw [e] at hst' ⊢
            repeat walk_at "w1"
            rename_i hl tkl Fl Nl hsl
            exact ⟨rfl, _, _, _, _, _, _, rfl, Fl, fun p hp => Nl p (.tail _ hp), rfl, rfl, hm3, hm4, hm5⟩
          · rw [hin] at hm4
            have e : bAt reader its (i + 1) = ⟨(bAt reader its i).text ++ partOf reader it, (bAt reader its i).due, (bAt reader its i).shut ++ partOf reader it, true⟩ := by
              rw [hnext]; unfold bStep; dsimp only; rw [if_neg hT, hin, if_pos rfl]
            rw [e] at hst' ⊢
            repeat walk_at "w1"
            rename_i hl tkl Fl Nl hsl
            exact ⟨rfl, _, _, _, _, _, _, rfl, Fl, fun p hp => Nl p (.tail _ hp), rfl, hm2, rfl, hm4, hm5⟩
      · rintro s' ⟨h10, tk10, m10, t4, t5, t6, rfl, F10, N10, hn1, hn2, hn3, hn4, hn5⟩
        repeat walk_at "w1"
        refine ⟨B, ys, nn, rfl, N10.get (by walk_at "mem"), ?_⟩
        repeat walk_at "w1"
        rename_i tS tkS
        refine lNewF F10 N10 (by rw [sizeLine_eq]; exact Nat.le_of_ble_eq_true rfl) fun h11 p11 F11 N11 hx11 hp11 => ?_
        repeat walk_at "w1"
        have hB10 := N10.get (a := B) (o := lst ys nn) (by walk_at "mem")
        have hown3 : ∀ p ∈ own, isIter p.2 = true := fun p hp => by
          rcases hown p hp with hi | ⟨items, _, _, _, e, e2⟩
          · exact hi
          · obtain ⟨o, ho, _⟩ := hl
            rw [e, ho] at e2; cases e2
        have hyl : ys.length = i := by rw [← Paired.length hys]; simp
        have hil : i < its.length := by rw [← hn]; simpa using hi
        have hpB : p11 ≠ B := fun e => by rw [e, hB10] at hp11; cases hp11
        refine lApp (pre := (p11, _) :: (own ++ [(L + 1 + 1, o₁), (L + 1, o₂)])) (post := prs) F11 N11 ?_ ?_ ?_ fun h12 F12 N12 hs12 => ?_
        · omega
        · intro p hp
          rcases List.mem_cons.mp hp with rfl | hp
          · exact hpB
          refine newsApart N11 (a := p) (b := (B, lst ys nn)) (List.mem_append_left (as := (p11, _) :: (own ++ [(L + 1 + 1, o₁), (L + 1, o₂)])) _ (List.mem_cons_of_mem _ hp)) (by walk_at "mem") ?_
          show tag p.2 ≠ 0
          rcases List.mem_append.mp hp with hp | hp
          · rw [tag_iter (hown3 p hp)]; decide
          · rcases List.mem_cons.mp hp with rfl | hp
            · rw [tag_cell hc₁]; decide
            · rw [List.mem_singleton.mp hp, tag_cell hc₂]; decide
        · exact fun p hp => (hprs p hp).2
        repeat walk_at "w1"
        refine .inr ⟨.inl rfl, _, _, _, (B, lst (ys ++ [.ref p11]) (nn + 1)) :: (p11, lst [.str (sl (bAt reader its (i + 1)).text) t4, .str (sl ((bAt reader its (i + 1)).due ++ (bAt reader its (i + 1)).shut)) tS] 0) :: prs, rfl, F12, ?_, ?_, ys ++ [.ref p11], nn + 1, (p11, lst [.str (sl (bAt reader its (i + 1)).text) t4, .str (sl ((bAt reader its (i + 1)).due ++ (bAt reader its (i + 1)).shut)) tS] 0) :: prs, t4, t5, t6, rfl, ?_, ?_, hn1, hn2, hn3, hn4, hn5⟩
        · intro p hp
          refine N12 p ?_
          simp only [List.mem_append, List.mem_cons, List.not_mem_nil, or_false] at hp ⊢
          grind
        · intro p hp
          refine noIter_tag ?_
          rcases List.mem_cons.mp hp with rfl | hp
          · show (0 : Nat) ≠ 3; decide
          rcases List.mem_cons.mp hp with rfl | hp
          · show (0 : Nat) ≠ 3; decide
          · rw [(hprs p hp).1]; decide
        · intro p hp
          rcases List.mem_cons.mp hp with rfl | hp
          · exact ⟨rfl, hpB⟩
          · exact hprs p hp
        · rw [List.range_succ, List.map_append]
          refine Paired.app (Paired.mono (F := BegIs prs) (fun ab y ⟨q, t, u, n, e, hm⟩ => ⟨q, t, u, n, e, .tail _ hm⟩) hys) (.cons ⟨p11, _, _, _, rfl, .head _⟩ .nil)
  · intro h7 tk7 m7 news7 F7 N7 hni7 hJ7
    obtain ⟨ys, nn, prs, t1, t2, t3, rfl, hprs, hys, hm1, hm2, hm3, hm4, hm5⟩ := hJ7
    repeat walk_at "w1"
    have e : vs.toArray.size = its.length := by rw [List.size_toArray, hn]
    rw [e] at hys
    exact H h7 _ B ys nn prs F7.keep hB0 (N7.get (by walk_at "mem")) (fun p hp => ⟨(N7 p (List.mem_append_right _ (.tail _ hp))).1, (N7 p (List.mem_append_right _ (.tail _ hp))).2.2⟩) hys
end

section
open PySem PySem.W PyProof.Rows PySem.Calls
set_option maxRecDepth 100000
set_option maxHeartbeats 4000000
variable {w : World} {A : Around} {E : Value → Shared → Prop} {h : Heap} {g : Array GenState} {dr : Drawn} {tk : Nat} {os : OsState}
  {N : Nat} {mg mb : Str → Option Value} {Q : Value → Shared → Prop}




def toldAt (half : Nat) (l : List Nat) (k : Nat) : Nat := if k &&& half = 0 then l.getD k 0 else l.getD k 0 ^^^ l.getD (k ^^^ half) 0
def toldStep (l : List Nat) (half : Nat) : List Nat := (List.range 8).map (toldAt half l)
def told (l : List Nat) : List Nat := [1, 2, 4].foldl toldStep l
theorem told_len : ∀ (hs : List Nat) (l : List Nat), l.length = 8 → (hs.foldl toldStep l).length = 8
  | [], l, h => h
  | x :: hs, l, _ => told_len hs _ (by simp [toldStep])

theorem call_told {f hp : Addr} {k : Nat} {l : List Nat} {vs : List Value} (R : Room A (k + 1)) (hf : Fn dTold h f) (G : Glob N mg mb defs0 consts0 objs0 names0 h)
    (hl : h.IsList hp vs.toArray) (hI : IntsAre vs (l.map fun n : Nat => (n : Int))) (hlen : l.length = 8)
    (H : ∀ h' tk p ys, Ext h h' → h'.IsList p ys.toArray → IntsAre ys ((told l).map fun n : Nat => (n : Int)) → Q (.ref p) ⟨h',g,dr,tk,os⟩) :
    wpAny (model pw w) A (call (.ref f) [.ref hp]) Q E ⟨h,g,dr,tk,os⟩ := by
  refine call_defC (binds := [("hidden", .ref hp)]) R hf G.nolimit (fun h₁ L a cd tk cells F N0 X A' R' => ?_) (fun _ _ _ => rfl) (by rfl) (by decide)
  obtain ⟨o₁, o₂, rfl, hc₁, hc₂⟩ := X.two
  replace hc₁ : o₁.data = .cell none := hc₁
  replace hc₂ : o₂.data = .cell (some (.ref hp)) := hc₂
  dsimp only [dTold] at F ⊢
  have G₁ := G.keeps F.keep
  refine xFor ?_ (by intro _; rfl)
  repeat walk_at "w1"
  refine lNew F N0 (by rw [sizeLine_eq]; exact Nat.le_of_ble_eq_true rfl) fun h2 p2 F2 N2 hx2 => ?_
  refine it_list (lst_is (N2.get (.head _))) fun it h5 X5 => ?_
  refine forLoopW [] X5 R'.handled F2 (news := [(L + 1 + 1, o₁), (L + 1, o₂)]) (fun p hp => N2 p (.tail _ hp)) (fun p hp => noIter_tag (by
      rcases List.mem_cons.mp hp with rfl | hp
      · rw [tag_cell hc₁]; decide
      · rw [List.mem_singleton.mp hp, tag_cell hc₂]; decide)) goName
    (fun i m news => ∃ oc1 oc2 v1 p ys rest, news = (L + 1 + 1, oc1) :: (L + 1, oc2) :: rest ∧ oc1.data = .cell v1 ∧ oc2.data = .cell (some (.ref p)) ∧ IntsAre ys (((([1, 2, 4] : List Nat).take i).foldl toldStep l).map fun n : Nat => (n : Int)) ∧
      (h.IsList p ys.toArray ∨ ∃ nn, (p, lst ys nn) ∈ rest) ∧ (∀ q ∈ rest, tag q.2 = 0))
    ⟨o₁, o₂, _, hp, vs, [], rfl, hc₁, hc₂, hI, .inl hl, fun _ hp => nomatch hp⟩ ?_ ?_
  · intro i v m₁ news₁ own h₁ tk₁ E' hi hP hJ hni F N hown
    obtain ⟨oc1, oc2, v1, p, ys, rest, rfl, hd1, hd2, hys, hpl, hrest⟩ := hJ
    obtain ⟨x, t, rfl, hx, hx8⟩ : ∃ (x : Nat) (t : Tok), v = .int (x : Int) t ∧ ([1, 2, 4] : List Nat)[i]? = some x ∧ x < 8 := by
      have hi' : i < 3 := hi
      have : i = 0 ∨ i = 1 ∨ i = 2 := by omega
      rcases this with rfl | rfl | rfl <;> simp at hP
      · exact ⟨1, _, hP.symm, rfl, by decide⟩
      · exact ⟨2, _, hP.symm, rfl, by decide⟩
      · exact ⟨4, _, hP.symm, rfl, by decide⟩
    have hq2 : ∀ p ∈ own, tag p.2 = 0 ∨ tag p.2 = 3 := Own.tag hown
    refine assign_name (stCell (pre := own ++ []) (post := (L + 1, oc2) :: rest) F N (by rfl) hd1 ?_ ?_ (fun h3 oc3 F3 N3 hd3 hs3 => ?_) (by rfl) (by rfl))
    · refine newsApartL N (b := (L + 1 + 1, oc1)) (by walk_at "mem") fun p hp => ⟨List.mem_append_left _ hp, ?_⟩
      rw [tag_cell hd1]
      rw [List.append_nil] at hp
      rcases hq2 p hp with e | e <;> rw [e] <;> decide
    · intro p hp
      rcases List.mem_cons.mp hp with rfl | hp
      · exact Nat.ne_of_lt (Nat.lt_succ_self _)
      · refine newsApart N (a := p) (b := (L + 1 + 1, oc1)) (List.mem_append_right _ (.tail _ (.tail _ hp))) (by walk_at "mem") ?_
        rw [tag_cell hd1, hrest p hp]; decide
    have hcl1 : h3.IsCell (L + 1 + 1) (some (.int x t)) := ⟨oc3, N3.get (by walk_at "mem"), hd3⟩
    have hcl2 : h3.IsCell (L + 1) (some (.ref p)) := ⟨oc2, N3.get (by walk_at "mem"), hd2⟩
    have hlist : h3.IsList p ys.toArray := by
      rcases hpl with hpl | ⟨nn, hpl⟩
      · exact IsList.ext hpl F3.keep
      · exact lst_is (N3.get (List.mem_append_right _ (.tail _ (.tail _ hpl))))
    generalize hcur : (([1, 2, 4] : List Nat).take i).foldl toldStep l = cur at hys
    have hclen : cur.length = 8 := by rw [← hcur]; exact told_len _ _ hlen
    repeat walk_at "w1"
    refine compR 8 (fun _ => true) (fun k y => ∃ t, y = .int (toldAt x cur k : Nat) t) _ F3 N3 R'.handled (by rfl) (by decide) (by rfl) (by decide) (by rfl) (foldSet_call _ _ _ _) (by decide) (fun K hK => ?_) ?_ ?_ ?_
    · repeat walk_at "w1"
      exact hK _ _
    · intro C i t h₃ g₃ d₃ tk₃ o₃ m₃ E' hi F₃ hm
      exact rfl
    · intro C j u h₃ g₃ d₃ tk₃ o₃ m₃ E' hj _ F₃ hm
      have hy1 := hcl1.keeps F₃.keep
      have hy2 := hcl2.keeps F₃.keep
      have hl3 := IsList.ext hlist F₃.keep
      repeat walk_at "w1"
      rw [bitAnd_nat]
      by_cases hb : j &&& x = 0
      · rw [if_neg (by rw [hb]; decide)]
        repeat walk_at "w1"
        refine gInts hl3 hys (Int.natCast_nonneg _) (by omega) (by omega) (fun t => ?_) (by with_unfolding_all rfl)
        exact ⟨⟨t, by unfold toldAt; rw [if_pos hb, Int.toNat_natCast]⟩, _, _, rfl, Ext.rfl'⟩
      · rw [if_pos (by simpa using hb)]
        repeat walk_at "w1"
        refine gInts hl3 hys (Int.natCast_nonneg _) (by omega) (by omega) (fun t => ?_) (by with_unfolding_all rfl)
        repeat walk_at "w1"
        rw [bitXor_nat]
        have hjx : j ^^^ x < 8 := Nat.xor_lt_two_pow (n := 3) hj hx8
        refine gInts hl3 hys (Int.natCast_nonneg _) (by omega) (by omega) (fun t => ?_) (by with_unfolding_all rfl)
        repeat walk_at "w1"
        rw [bitXor_nat]
        exact ⟨⟨_, by unfold toldAt; rw [if_neg hb, Int.toNat_natCast, Int.toNat_natCast]⟩, _, _, rfl, Ext.rfl'⟩
    · intro D h' tk' zs nn hz hxt F' N' hD
      rw [List.filter_eq_self.mpr (fun _ _ => rfl)] at hz
      have hz' := paired_ints (f := fun k => ((toldAt x cur k : Nat) : Int)) hz
      have N'' : News h L h' (((D, lst zs nn) :: (own ++ [] ++ [(L + 1 + 1, oc3)])) ++ (L + 1, oc2) :: rest) := by
        intro p hp
        refine N' p ?_
        simp only [List.mem_append, List.mem_cons, List.not_mem_nil, or_false] at hp ⊢
        grind
      refine stCell (pre := (D, lst zs nn) :: (own ++ [] ++ [(L + 1 + 1, oc3)])) (post := rest) F' N'' (by rfl) hd2 ?_ ?_ (fun h8 oc4 F8 N8 hd8 hs8 => ?_) (by rfl) (by rfl)
      · intro p hp
        rcases List.mem_cons.mp hp with rfl | hp'
        · refine newsApart N'' (a := (D, lst zs nn)) (b := (L + 1, oc2)) (List.mem_append_left _ hp) (by walk_at "mem") ?_
          rw [tag_cell hd2]
          show (0 : Nat) ≠ 2
          decide
        · rcases List.mem_append.mp hp' with hp2 | hp2
          · refine newsApart N'' (a := p) (b := (L + 1, oc2)) (List.mem_append_left _ hp) (by walk_at "mem") ?_
            rw [tag_cell hd2]
            rw [List.append_nil] at hp2
            rcases hq2 p hp2 with e | e <;> rw [e] <;> decide
          · rw [List.mem_singleton.mp hp2]
            exact Nat.ne_of_gt (Nat.lt_succ_self _)
      · intro p hp
        refine newsApart N'' (a := p) (b := (L + 1, oc2)) (List.mem_append_right _ (.tail _ hp)) (by walk_at "mem") ?_
        rw [tag_cell hd2, hrest p hp]; decide
      repeat walk_at "w1"
      refine .inr ⟨.inl rfl, _, _, _, (L + 1 + 1, oc3) :: (L + 1, oc4) :: (D, lst zs nn) :: rest, rfl, F8, ?_, ?_, oc3, oc4, _, D, zs, (D, lst zs nn) :: rest, rfl, hd3, hd8, ?_, .inr ⟨nn, .head _⟩, ?_⟩
      · intro p hp
        refine N8 p ?_
        simp only [List.mem_append, List.mem_cons, List.not_mem_nil, or_false] at hp ⊢
        grind
      · intro p hp
        refine noIter_tag ?_
        rcases List.mem_cons.mp hp with rfl | hp
        · rw [tag_cell hd3]; decide
        rcases List.mem_cons.mp hp with rfl | hp
        · rw [tag_cell hd8]; decide
        rcases List.mem_cons.mp hp with rfl | hp
        · show (0 : Nat) ≠ 3; decide
        · rw [hrest p hp]; decide
      · rw [take_succ_some hx, List.foldl_append, hcur]
        show IntsAre zs ((toldStep cur x).map _)
        rw [toldStep, List.map_map]
        exact hz'
      · intro p hp
        rcases List.mem_cons.mp hp with rfl | hp
        · rfl
        · exact hrest p hp
  · intro h7 tk7 m7 news7 F7 N7 hni7 hJ7
    obtain ⟨oc1, oc2, v1, p, ys, rest, rfl, hd1, hd2, hys, hpl, hrest⟩ := hJ7
    repeat walk_at "w1"
    refine H h7 _ p ys F7.keep ?_ hys
    rcases hpl with hpl | ⟨nn, hpl⟩
    · exact IsList.ext hpl F7.keep
    · exact lst_is (N7.get (List.mem_append_right _ (.tail _ (.tail _ hpl))))
end

section
open PySem PySem.W PyProof.Rows PySem.Calls
set_option maxRecDepth 100000
set_option maxHeartbeats 4000000
variable {w : World} {A : Around} {E : Value → Shared → Prop} {h : Heap} {g : Array GenState} {dr : Drawn} {tk : Nat} {os : OsState}
  {N : Nat} {mg mb : Str → Option Value} {Q : Value → Shared → Prop}






def ell (c : Nat) (l : List Nat) : Bool := decide (l.head? = some 115) && decide (l.getLast? = some 115) && decide (2 ≤ l.length) && ((l.drop 1).take (l.length - 1 - 1)).contains c

theorem call_ell {f : Addr} {k : Nat} {c : Nat} {l : List Nat} {t₁ t₂ : Tok} (hc : c = 115 ∨ c = 116) (R : Room A (k + 1)) (hf : Fn dEll h f) (G : Glob N mg mb defs0 consts0 objs0 names0 h)
    (hl : l.length ≤ 1000000)
    (H : ∀ h' tk, Ext h h' → Q (.bool (ell c l)) ⟨h',g,dr,tk,os⟩) :
    wpAny (model pw w) A (call (.ref f) [.str (sl (wantOf c)) t₁, .str (sl l) t₂]) Q E ⟨h,g,dr,tk,os⟩ := by
  refine call_def (binds := [("want", .str (sl (wantOf c)) t₁), ("got", .str (sl l) t₂)]) R hf G.nolimit (fun h₁ L a cd tk F N0 A' R' => ?_) (fun _ _ _ => rfl) (by rfl)
  dsimp only [dEll] at F ⊢
  have G₁ := G.keeps F.keep
  repeat walk_at "w1"
  refine nConst (x := "ELLIPSIS_MARKER") F G (.head _) (fun t => ?_) (by rfl) (by rfl) (by rfl) (by decide)
  repeat walk_at "w1"
  refine SB.notContains (y := "...") ?_
  have e1 : Txt.contains (sl (wantOf c)) "..." = true := by rcases hc with rfl | rfl <;> decide +kernel
  rw [e1]
  repeat walk_at "w1"
  rw [if_neg (by decide)]
  repeat walk_at "w1"
  refine nConst (x := "ELLIPSIS_MARKER") F G (.head _) (fun t => ?_) (by rfl) (by rfl) (by rfl) (by decide)
  repeat walk_at "w1"
  refine split_want hc F N0 fun h2 D t1 t2 t3 tk2 F2 N2 hx2 => ?_
  repeat walk_at "w1"
  rename_i h3 tk3 F3 N3 hs3
  refine lLen (ys := [.str (sl [115]) t1, .str (sl [c]) t2, .str (sl [115]) t3]) (lst_is (N3.get (.head _))) (by simp) fun t4 tk4 => ?_
  repeat walk_at "w1"
  refine ⟨by rfl, ?_⟩
  refine xTupS (names := ["startpos", "endpos"]) ?_ (by rfl) (by rfl)
  repeat walk_at "w1"
  refine tNew F3 N3 (by rw [sizeLine_eq]; exact Nat.le_of_ble_eq_true rfl) fun h5 p5 F5 N5 hx5 hT5 => ?_
  refine unpackItems_T R'.handled (by rfl) hT5 fun h6 hx6 => ?_
  have F6 := frGrow F5 hx6
  have N6 := News.one (newsGrow N5 hx6 _ (.tail _ (.head _)))
  refine assignInOrder_cons (bindName_ ?_)
  repeat walk_at "w1"
  refine assignInOrder_cons (bindName_ ?_)
  repeat walk_at "w1"
  refine assignInOrder_nil ?_
  repeat walk_at "w1"
  rename_i h7 tk7 F7 N7 hs7 t0 tk0
  refine gList (l := [.str (sl [115]) t1, .str (sl [c]) t2, .str (sl [115]) t3]) (lst_is (N7.get (.head _))) (by decide) (by decide) (by rfl) ?_ (by with_unfolding_all rfl)
  repeat walk_at "w1"
  rw [if_pos (by decide)]
  repeat walk_at "w1"
  refine PySem.SC.startswith ?_
  rw [starts_one]
  by_cases hs : l.head? = some 115
  · rw [decide_eq_true hs]
    repeat walk_at "w1"
    rename_i h8 tk8 F8 N8 hs8 t0 tk0
    refine lDel (pre := []) (post := []) (k := 0) F8 N8 (by decide) (by rfl) (by simp) (fun _ hp => nomatch hp) (fun _ hp => nomatch hp) fun h9 F9 N9 hs9 => ?_
    replace N9 : News h L h9 [(D, lst [.str (sl [c]) t2, .str (sl [115]) t3] (0 + 1))] := N9
    repeat walk_at "w1"
    refine gLast (l := [.str (sl [c]) t2, .str (sl [115]) t3]) (x := .str (sl [115]) t3) (lst_is (N9.get (.head _))) rfl ?_ (by with_unfolding_all rfl)
    repeat walk_at "w1"
    rw [if_pos (by decide)]
    repeat walk_at "w1"
    refine PySem.SC.endswith ?_
    rw [ends_one]
    by_cases he : l.getLast? = some 115
    · rw [decide_eq_true he]
      repeat walk_at "w1"
      rename_i h10 tk10 F10 N10 hs10 t0 tk0 t00 tk00
      refine lDel (pre := []) (post := []) (k := 1) F10 N10 (by decide) (by rfl) (by simp) (fun _ hp => nomatch hp) (fun _ hp => nomatch hp) fun h11 F11 N11 hs11 => ?_
      replace N11 : News h L h11 [(D, lst [.str (sl [c]) t2] (0 + 1 + 1))] := N11
      have hpos : 1 ≤ l.length := by
        cases l with
        | nil => cases hs
        | cons a l => simp
      have eend : (l.length : Int) - (([115] : List Nat).length : Int) = ((l.length - 1 : Nat) : Int) := by
        show (l.length : Int) - 1 = _
        omega
      rw [eend] at F11
      repeat walk_at "w1"
      by_cases h2 : 2 ≤ l.length
      · rw [if_neg (by show ¬ decide (((l.length - 1 : Nat) : Int) < (1 : Int)) = true; simp; omega)]
        repeat walk_at "w1"
        refine xFor ?_ (by intro _; rfl)
        repeat walk_at "w1"
        refine it_list (lst_is (N11.get (.head _))) fun it h12 X12 => ?_
        refine forLoopW [] X12 R'.handled F11 N11 (fun p hp => noIter_tag (by rw [List.mem_singleton.mp hp]; show (0 : Nat) ≠ 3; decide)) goName
          (fun i m news => news = [(D, lst [.str (sl [c]) t2] (0 + 1 + 1))] ∧ (i = 0 → ∃ t t' t'', m "startpos" = some (.int (1 : Nat) t) ∧ m "endpos" = some (.int (l.length - 1 : Nat) t') ∧ m "got" = some (.str (sl l) t'')) ∧ (i ≠ 0 → ((l.drop 1).take (l.length - 1 - 1)).contains c = true))
          ⟨rfl, fun _ => ⟨_, _, _, rfl, rfl, rfl⟩, fun h => absurd rfl h⟩ ?_ ?_
        · intro i v m₁ news₁ own h₁ tk₁ E' hi hP hJ hni F N hown
          have hi0 : i = 0 := by have : i < 1 := hi; omega
          subst hi0
          obtain ⟨rfl, hJ1, _⟩ := hJ
          obtain ⟨t6, t7, t8, hm1, hm2, hm3⟩ := hJ1 rfl
          have hv : v = .str (sl [c]) t2 := by simp at hP; exact hP.symm
          subst hv
          refine assign_name ?_
          repeat walk_at "w1"
          refine find4 (by omega) fun r t tk hr1 hr2 => ?_
          repeat walk_at "w1"
          cases hcon : ((l.drop 1).take (l.length - 1 - 1)).contains c
          · rw [if_pos (by rw [hr1 hcon]; rfl)]
            repeat walk_at "w1"
            have e : ell c l = false := by unfold ell; rw [hcon, Bool.and_false]
            refine .inl ⟨_, rfl, ?_⟩
            show Q (.bool false) _
            rw [← e]
            exact H _ _ (Fr.keep (by assumption))
          · rw [if_neg (by have := hr2 hcon; simpa using this)]
            repeat walk_at "w1"
            exact .inr ⟨.inl rfl, _, _, _, _, rfl, by assumption, by assumption, hni, rfl, fun h => absurd h (by show ¬ (1 : Nat) = 0; decide), fun _ => rfl⟩
        · intro h7 tk7 m7 news7 F7 N7 hni7 hJ7
          obtain ⟨_, _, hJ8⟩ := hJ7
          have e : ell c l = true := by unfold ell; rw [decide_eq_true hs, decide_eq_true he, decide_eq_true h2, hJ8 (by show (1 : Nat) ≠ 0; decide)]; rfl
          repeat walk_at "w1"
          rw [← e]
          exact H _ _ (Fr.keep (by assumption))
      · rw [if_pos (by show decide (((l.length - 1 : Nat) : Int) < (1 : Int)) = true; simp; omega)]
        repeat walk_at "w1"
        have e : ell c l = false := by unfold ell; rw [decide_eq_false h2, Bool.and_false]; rfl
        rw [← e]
        exact H _ _ (Fr.keep (by assumption))
    · rw [decide_eq_false he]
      repeat walk_at "w1"
      have e : ell c l = false := by unfold ell; rw [decide_eq_false he, Bool.and_false]; rfl
      rw [← e]
      exact H _ _ (Fr.keep (by assumption))
  · rw [decide_eq_false hs]
    repeat walk_at "w1"
    have e : ell c l = false := by unfold ell; rw [decide_eq_false hs]; rfl
    rw [← e]
    exact H _ _ (Fr.keep (by assumption))
end

section
open PySem PySem.W PyProof.Rows PySem.Calls
set_option maxRecDepth 100000
set_option maxHeartbeats 4000000
variable {w : World} {A : Around} {E : Value → Shared → Prop} {h : Heap} {g : Array GenState} {dr : Drawn} {tk : Nat} {os : OsState}
  {N : Nat} {mg mb : Str → Option Value} {Q : Value → Shared → Prop}





/-- what _iter_escaped_chars gives of a text from sign k on -/
noncomputable def escs : Nat → Bool → List Nat → List (Nat × List Nat)
  | k, esc, [] => if esc then [(k - 1, [92])] else []
  | k, true, c :: r => (k, [92, c]) :: escs (k + 1) false r
  | k, false, c :: r => if c = 92 then escs (k + 1) true r else (k, [c]) :: escs (k + 1) false r

def ItemG (h : Heap) (x : Nat × List Nat) (v : Value) : Prop := ∃ T t u, v = .ref T ∧ IsTup h T #[.int (x.1 : Nat) t, .str (sl x.2) u]
def YG (h₀ : Heap) (C e it : Addr) (all : List (Nat × List Nat)) : Protocol := fun m s₀ v s kap =>
  (∃ x, all[all.length - 1 - m]? = some x ∧ ItemG s.heap x v) ∧ GenSince C [e, it] s₀ s ∧
    ∀ s'' : Shared, Ext h₀ s''.heap → (∀ b ∈ [C, e, it], ∀ ob, s.heap.get? b = some ob → s''.heap.get? b = some ob) → kap (.send .none) s''
def RG (C e it : Addr) : GenEnd := fun n s₀ r s₁ => r = .ok (.ret .none) ∧ (n = 0 ∧ GenSince C [e, it] s₀ s₁)

/-- the parts of the generator's text -/
noncomputable def iterLoop : Expr × Expr × List Stmt × List Stmt := match dIter.body with
  | _ :: _ :: .For t i b _ _ :: r => (t, i, b, r)
  | _ => (.Constant .none 0 ⟨0, 0, 0, 0⟩, .Constant .none 0 ⟨0, 0, 0, 0⟩, [], [])

theorem frBut {h₀ h h1 : Heap} {C e it : Addr} {m : Str → Option Value} (F : Fr h₀ C h m) (hk : ∀ b ob, b ∉ [e, it] → h.get? b = some ob → h1.get? b = some ob) (hCe : C ≠ e) (hCi : C ≠ it) (h0e : h₀.get? e = none) (h0i : h₀.get? it = none) : Fr h₀ C h1 m :=
  ⟨F.ns.at' fun ob e => hk _ ob (by simp [hCe, hCi]) e, fun b ob x => hk b ob (fun hm => by
    rcases List.mem_cons.mp hm with rfl | hm
    · rw [h0e] at x; cases x
    · rw [List.mem_singleton.mp hm, h0i] at x; cases x) (F.keep b ob x), F.above⟩
theorem idx_at {α : Type} (pre q : List α) (x : α) : (pre ++ x :: q)[(pre ++ x :: q).length - 1 - q.length]? = some x := by
  have : (pre ++ x :: q).length - 1 - q.length = pre.length := by simp only [List.length_append, List.length_cons]; omega
  rw [this]; simp
theorem frKeep {h₀ h h1 : Heap} {C : Addr} {m : Str → Option Value} (F : Fr h₀ C h m) (hx : Ext h₀ h1) (hk : ∀ ob, h.get? C = some ob → h1.get? C = some ob) : Fr h₀ C h1 m :=
  ⟨F.ns.at' hk, hx, F.above⟩
theorem seg_iter {h₀ : Heap} {C e it f : Addr} {cd : Value} {l : List Nat} {all : List (Nat × List Nat)} {St : Nat → Heap → Prop} {Mid : Nat → Addr → Heap → Prop} {K : Flow → Sem Fin} {H : Value → Sem Fin}
    (hh : A.handled = none)
    (W : ∀ A' : Around, A'.handled = none → WalksU pw w A' e [e, it] [e, it] l.length (fun i vals => ∃ t x, SignAt (sl l) i x ∧ vals = #[.int (i : Nat) t, x]) St Mid)
    (hCe : C ≠ e) (hCi : C ≠ it) (h0e : h₀.get? e = none) (h0i : h₀.get? it = none)
    (hK : K .next = .pure (.done (.ret .none))) :
    ∀ (r : List Nat) (k : Nat) (esc : Bool) (s₀ s : Shared) (m : Str → Option Value) (p : Pos), k ≤ l.length → l.drop k = r → (∃ pre, all = pre ++ escs k esc r) → St k s.heap → Fr h₀ C s.heap m → m "escape" = some (.bool esc) → (∃ t, m "pos" = some (.int (k - 1 : Nat) t)) → GenSince C [e, it] s₀ s →
      Seg (model pw w) A (RG C e it) (YG h₀ C e it all) (escs k esc r).length s₀ (.forLoop iterLoop.1 (.ref e) iterLoop.2.2.1 [] (envOf dIter.name dIter.scope C f cd))
        ((model pw w).den (.forLoop iterLoop.1 (.ref e) iterLoop.2.2.1 [] (envOf dIter.name dIter.scope C f cd)))
        [forFrame (fun f' => match f' with | .next => (execs iterLoop.2.2.2 (envOf dIter.name dIter.scope C f cd)).wrap K H id id | f' => K f') H id id (envOf dIter.name dIter.scope C f cd) (.func dIter.body (envOf dIter.name dIter.scope C f cd)) p] s := by
  intro r
  induction r with
  | nil =>
    intro k esc s₀ s m p hkle hr hall hst F hm1 ⟨tp, hm2⟩ hsince
    have hk : l.length ≤ k := by simpa using hr
    obtain ⟨h, g, dr, tk, os⟩ := s
    have hkl : k = l.length := by omega
    subst hkl
    refine seg_forLoop ?_
    refine (W _ (by exact hh)).done ⟨h,g,dr,tk,os⟩ _ _ hst fun h1 tk1 hk1 => ?_
    dsimp only
    refine seg_frame (M := model pw w) ?_
    dsimp only
    have F1 : Fr h₀ C h1 m := frBut F hk1 hCe hCi h0e h0i
    have since1 : GenSince C [e, it] s₀ ⟨h1, g, dr, tk1, os⟩ := hsince.step fun b o _ hw x => hk1 b o hw x
    refine seg_execs_cons (seg_If ?_)
    repeat walk_at "w1"
    cases esc
    · rw [if_neg Bool.false_ne_true]
      refine seg_execs_nil ?_
      dsimp only
      refine seg_execs_nil ?_
      rw [hK]
      refine seg_end (.ok (.ret .none)) ⟨rfl, rfl, since1⟩
    · rw [if_pos rfl]
      refine seg_execs_cons (seg_Expr_Yield rfl rfl rfl ?_ (by rfl) (by rfl))
      repeat walk_at "w1"
      refine tNew F1 News.nil (by rw [sizeLine_eq]; exact Nat.le_of_ble_eq_true rfl) fun h2 T F2 N2 hx2 hT2 => ?_
      intro kap hkap
      obtain ⟨pre, hpre⟩ := hall
      refine ⟨⟨(l.length - 1, [92]), ?_, T, _, _, rfl, hT2⟩, since1.step fun b o _ _ x => hx2 b o x, fun s'' hx3 hk3 => hkap .none s'' ?_⟩
      · rw [hpre]
        exact idx_at pre [] _
      · dsimp only
        refine seg_execs_nil ?_
        dsimp only
        refine seg_execs_nil ?_
        rw [hK]
        exact seg_end (.ok (.ret .none)) ⟨rfl, rfl, GenSince.refl _ _ _⟩
  | cons c r ih =>
    intro k esc s₀ s m p hkle hr hall hst F hm1 ⟨tp, hm2⟩ hsince
    have hk : k < l.length := by
      rcases Nat.lt_or_ge k l.length with h | h
      · exact h
      · rw [List.drop_of_length_le h] at hr; cases hr
    have hkc : l[k]? = some c := by
      have := congrArg (fun q => q[0]?) hr
      simpa using this
    have hr' : l.drop (k + 1) = r := by
      have := congrArg (List.drop 1) hr
      simpa [List.drop_drop] using this
    obtain ⟨h, g, dr, tk, os⟩ := s
    refine seg_forLoop ?_
    refine (W _ (by exact hh)).item k ⟨h,g,dr,tk,os⟩ _ _ hk hst fun T vals h1 tk1 hP hT hmid hk1 => ?_
    dsimp only
    obtain ⟨t, x, ⟨c', u, hc', rfl⟩, rfl⟩ := hP
    obtain rfl : c' = c := by
      have : l[k]? = some c' := by simpa using hc'
      rw [hkc] at this; exact (Option.some.inj this).symm
    have F1 : Fr h₀ C h1 m := frBut F hk1 hCe hCi h0e h0i
    have since1 : GenSince C [e, it] s₀ ⟨h1, g, dr, tk1, os⟩ := hsince.step fun b o _ hw x => hk1 b o hw x
    refine (W _ (by exact hh)).go _ _ _ k T ⟨h1,g,dr,tk1,os⟩ _ _ hmid fun h2 hst2 hk2 => ?_
    have hTw := (W A hh).apart _ _ _ hmid
    have hT2 : IsTup h2 T #[.int (k : Nat) t, .str (sl [c']) u] := by
      obtain ⟨oT, hoT, r1⟩ := hT
      exact ⟨oT, hk2 _ _ hTw hoT, r1⟩
    have F2 : Fr h₀ C h2 m := frBut F1 hk2 hCe hCi h0e h0i
    have since2 : GenSince C [e, it] s₀ ⟨h2, g, dr, tk1, os⟩ := since1.step fun b o _ hw x => hk2 b o hw x
    show wpAny _ _ (assign (.Tuple [.Name "pos" _, .Name "ch" _] _ _) _ _) _ _ _
    refine unpackT2 (by exact hh) F2 News.nil hT2 (fun h3 tk3 F3 N3 k3 => ?_) (by rfl) (by rfl) (by rfl)
    have hst3 : St (k + 1) h3 := (W A hh).frame _ _ _ hst2 fun b hb o x => k3 b o (fun q => by
      rcases List.mem_cons.mp hb with hb | hb
      · exact hCe (q.symm.trans hb)
      · exact hCi (q.symm.trans (List.mem_singleton.mp hb))) x
    have since3 : GenSince C [e, it] s₀ ⟨h3, g, dr, tk3, os⟩ := since2.step fun b o hC _ x => k3 b o hC x
    have hklt : k + 1 ≤ l.length := hk
    have keepC : ∀ {h h' : Heap}, Heap.SameBut C h h' → ∀ b ∈ [e, it], ∀ o, h.get? b = some o → h'.get? b = some o := fun {h h'} hs b hb o x => (hs.2 b fun q => by
      rcases List.mem_cons.mp hb with hb | hb
      · exact hCe (q.symm.trans hb)
      · exact hCi (q.symm.trans (List.mem_singleton.mp hb))).trans x
    -- a turn that gives no item, or has given its item
    have again : ∀ (s₁ : Shared) (h4 : Heap) (g4 : Array GenState) (d4 : Drawn) (tk4 : Nat) (o4 : OsState) (m4 : Str → Option Value) (esc' : Bool), (∃ pre, all = pre ++ escs (k + 1) esc' r) → St (k + 1) h4 → Fr h₀ C h4 m4 → m4 "escape" = some (.bool esc') → (∃ t, m4 "pos" = some (.int (k : Nat) t)) → GenSince C [e, it] s₁ ⟨h4, g4, d4, tk4, o4⟩ →
        Seg (model pw w) A (RG C e it) (YG h₀ C e it all) (escs (k + 1) esc' r).length s₁ (.forLoop iterLoop.1 (.ref e) iterLoop.2.2.1 [] (envOf dIter.name dIter.scope C f cd))
        (.pure (.again (.forLoop iterLoop.1 (.ref e) iterLoop.2.2.1 [] (envOf dIter.name dIter.scope C f cd))))
        [forFrame (fun f' => match f' with | .next => (execs iterLoop.2.2.2 (envOf dIter.name dIter.scope C f cd)).wrap K H id id | f' => K f') H id id (envOf dIter.name dIter.scope C f cd) (.func dIter.body (envOf dIter.name dIter.scope C f cd)) p] ⟨h4, g4, d4, tk4, o4⟩ :=
      fun s₁ h4 g4 d4 tk4 o4 m4 esc' ha hst4 F4 e1 e2 hs4 => seg_again rfl (ih (k + 1) esc' s₁ _ m4 p hklt hr' ha hst4 F4 e1 e2 hs4)
    obtain ⟨pre, hpre⟩ := hall
    refine seg_execs_cons (seg_If ?_)
    repeat walk_at "w1"
    cases esc
    · rw [if_neg Bool.false_ne_true]
      refine seg_execs_cons (seg_If ?_)
      repeat walk_at "w1"
      by_cases hc : c' = 92
      · rw [if_pos (by rw [hc]; rfl)]
        have ee : escs k false (c' :: r) = escs (k + 1) true r := by simp [escs, hc]
        rw [ee] at hpre ⊢
        refine seg_xAssign ?_ (by rfl)
        repeat walk_at "w1"
        rename_i h6 tk6 F6 N6 hs6
        refine seg_execs_nil ?_
        dsimp only
        refine seg_execs_nil ?_
        dsimp only
        refine seg_execs_nil ?_
        exact again _ h6 _ _ tk6 _ _ true ⟨pre, hpre⟩ ((W A hh).frame _ _ _ hst3 (keepC hs6)) F6 rfl ⟨_, rfl⟩ (since3.step fun b o hC _ x => (hs6.2 b hC).trans x)
      · rw [if_neg (by simpa using hc)]
        have ee : escs k false (c' :: r) = (k, [c']) :: escs (k + 1) false r := by simp [escs, hc]
        rw [ee] at hpre ⊢
        show Seg _ _ _ _ ((escs (k + 1) false r).length + 1) _ _ _ _ _
        refine seg_execs_cons (seg_Expr_Yield rfl rfl rfl ?_ (by rfl) (by rfl))
        repeat walk_at "w1"
        refine tNew F3 News.nil (by rw [sizeLine_eq]; exact Nat.le_of_ble_eq_true rfl) fun h4 T4 F4 N4 hx4 hT4 => ?_
        intro kap hkap
        refine ⟨⟨(k, [c']), ?_, T4, _, _, rfl, hT4⟩, since3.step fun b o _ _ x => hx4 b o x, fun s'' hx5 hk5 => hkap .none s'' ?_⟩
        · rw [hpre]
          exact idx_at pre _ _
        · dsimp only
          obtain ⟨h5, g5, d5, tk5, o5⟩ := s''
          have F5 := frKeep F4 hx5 (fun ob x => hk5 C (List.Mem.head _) ob x)
          have hst5 : St (k + 1) h5 := (W A hh).frame _ _ _ hst3 fun b hb o x => hk5 b (List.mem_cons_of_mem _ hb) o (hx4 b o x)
          refine seg_execs_nil ?_
          dsimp only
          refine seg_execs_nil ?_
          dsimp only
          refine seg_execs_nil ?_
          exact again _ h5 g5 d5 tk5 o5 _ false ⟨pre ++ [(k, [c'])], by rw [hpre]; simp⟩ hst5 F5 hm1 ⟨_, rfl⟩ (GenSince.refl _ _ _)
    · rw [if_pos rfl]
      show Seg _ _ _ _ ((escs (k + 1) false r).length + 1) _ _ _ _ _
      refine seg_execs_cons (seg_Expr_Yield rfl rfl rfl ?_ (by rfl) (by rfl))
      repeat walk_at "w1"
      refine tNew F3 News.nil (by rw [sizeLine_eq]; exact Nat.le_of_ble_eq_true rfl) fun h4 T4 F4 N4 hx4 hT4 => ?_
      intro kap hkap
      refine ⟨⟨(k, [92, c']), ?_, T4, _, _, rfl, hT4⟩, since3.step fun b o _ _ x => hx4 b o x, fun s'' hx5 hk5 => hkap .none s'' ?_⟩
      · rw [hpre]
        exact idx_at pre _ _
      · dsimp only
        obtain ⟨h5, g5, d5, tk5, o5⟩ := s''
        have F5 := frKeep F4 hx5 (fun ob x => hk5 C (List.Mem.head _) ob x)
        have hst5 : St (k + 1) h5 := (W A hh).frame _ _ _ hst3 fun b hb o x => hk5 b (List.mem_cons_of_mem _ hb) o (hx4 b o x)
        refine seg_xAssign ?_ (by rfl)
        repeat walk_at "w1"
        refine stS F5 News.nil (fun h6 tk6 F6 N6 hs6 => ?_) (by rfl) (by rfl)
        refine seg_execs_nil ?_
        dsimp only
        refine seg_execs_nil ?_
        exact again _ h6 g5 d5 tk6 o5 _ false ⟨pre ++ [(k, [92, c'])], by rw [hpre]; show pre ++ (k, [92, c']) :: _ = _; simp⟩ ((W A hh).frame _ _ _ hst5 (keepC hs6)) F6 rfl ⟨_, rfl⟩ ((GenSince.refl _ _ _).step fun b o hC _ x => (hs6.2 b hC).trans x)
end

section
open PySem PySem.W PyProof.Rows PySem.Calls
set_option maxRecDepth 100000
set_option maxHeartbeats 4000000
variable {w : World} {A : Around} {E : Value → Shared → Prop} {h : Heap} {g : Array GenState} {dr : Drawn} {tk : Nat} {os : OsState}
  {N : Nat} {mg mb : Str → Option Value} {Q : Value → Shared → Prop}




def PG (all : List (Nat × List Nat)) (i : Nat) (v : Value) (h : Heap) : Prop := ∃ x, all[i]? = some x ∧ ItemG h x v
def GSt (w : World) (A : Around) (h₀ : Heap) (a C e it : Addr) (gi : Nat) (all : List (Nat × List Nat)) (i : Nat) (s : Shared) : Prop :=
  s.heap.IsGen a gi ∧ (∀ j x, j ≠ gi → s.gens[j]? = some x → x.bare = true) ∧ (i = 0 → s.heap.objs.size = it) ∧ ∃ gs, s.gens[gi]? = some gs ∧
    ∀ s'' : Shared, Ext h₀ s''.heap → (∀ b ∈ [C, e, it], ∀ ob, s.heap.get? b = some ob → s''.heap.get? b = some ob) → (i = 0 → s''.heap.objs.size = it) →
      gs.Goes (model pw w) A.in1 (RG C e it) (YG h₀ C e it all) (all.length - i) (.send .none) s''

theorem bare_pushed {g : Array GenState} {x : GenState} (hb : AllBare g) : ∀ j y, j ≠ g.size → (g.push x)[j]? = some y → y.bare = true := fun j y hj hy => by
  rw [Array.getElem?_push, if_neg hj] at hy
  exact hb y (Array.mem_of_getElem? hy)
theorem bare_set {g : Array GenState} {k : Nat} {x : GenState} (hb : ∀ j y, j ≠ k → g[j]? = some y → y.bare = true) (hx : x.bare = true) : AllBare (g.setIfInBounds k x) := fun y hy => by
  obtain ⟨j, hj⟩ := Array.mem_iff_getElem?.mp hy
  rw [Array.getElem?_setIfInBounds] at hj
  split at hj
  · split at hj
    · cases hj; exact hx
    · cases hj
  · exact hb j y (Ne.symm (by assumption)) hj
theorem gw_iter {h₀ : Heap} {a C e it : Addr} {gi : Nat} {all : List (Nat × List Nat)} (hh : A.handled = none) (hroom : A.depth < recursionLimit) (G : Glob N mg mb defs0 consts0 objs0 names0 h₀) (haf : a ∉ [C, e, it]) (h0 : ∀ b ∈ [C, e, it], h₀.get? b = none) :
    GW pw w A h₀ a [C, e, it] all.length (PG all) (GSt w A h₀ a C e it gi all) where
  item := fun i s Q E hi st hx hQ => by
    obtain ⟨hg, hbr, hsz, gs, hgs, hgo⟩ := st
    obtain ⟨m, hm⟩ : ∃ m, all.length - i = m + 1 := ⟨all.length - i - 1, by omega⟩
    rw [hm] at hgo
    have hlim : s.heap.NoLimit := (G.keeps hx).nolimit
    refine wpAny_pyNext_gen (P := fun n s₀ s₁ => n = 0 ∧ GenSince C [e, it] s₀ s₁) hh hlim hroom hg hgs (hgo _ hx (fun _ _ _ x => x) hsz) (fun v s₁ gs' hv => ?_) (fun s₁ hp h' hk => ?_)
    · obtain ⟨⟨x, hxi, hI⟩, ⟨h₁, tk₁, rfl, hk₁⟩, hkap⟩ := hv
      have hidx : all.length - 1 - (m + 1 - 1) = i := by omega
      rw [hidx] at hxi
      have hk : ∀ b ob, b ∉ [C, e, it] → s.heap.get? b = some ob → h₁.get? b = some ob := fun b ob hb x => hk₁ b ob (fun q => hb (q ▸ List.Mem.head _)) (fun q => hb (List.mem_cons_of_mem _ q)) x
      refine hQ v h₁ _ tk₁ ⟨x, hxi, hI⟩ ⟨?_, fun j y hj hy => hbr j y hj (by rw [← hy]; simp [Shared.setGen, Ne.symm hj]), fun q => absurd q (Nat.succ_ne_zero i), gs', setGen_self (gs := .running) (setGen_self hgs), fun s'' hx' hk' _ => ?_⟩ hk
      · exact let ⟨o, nm, qn, ho, r⟩ := hg; ⟨o, nm, qn, hk _ _ haf ho, r⟩
      · have e1 : all.length - (i + 1) = m := by omega
        rw [e1]
        exact hkap s'' hx' hk'
    · exact absurd hp.1 (Nat.succ_ne_zero m)
  done := fun s Q E st hx hQ => by
    obtain ⟨hg, hbr, hsz, gs, hgs, hgo⟩ := st
    rw [Nat.sub_self] at hgo
    have hlim : s.heap.NoLimit := (G.keeps hx).nolimit
    refine wpAny_pyNext_gen (P := fun n s₀ s₁ => n = 0 ∧ GenSince C [e, it] s₀ s₁) hh hlim hroom hg hgs (hgo _ hx (fun _ _ _ x => x) hsz) (fun v s₁ gs' hv => ?_) (fun s₁ hp h' hk => ?_)
    · obtain ⟨_, ⟨h₁, tk₁, rfl, hk₁⟩, hkap⟩ := hv
      exact False.elim (hkap ⟨h₁, s.gens, s.drawn, s.toks, s.os⟩ (fun b ob x => by
        have hb : b ∉ [C, e, it] := fun hb => by rw [h0 b hb] at x; cases x
        exact hk₁ b ob (fun q => hb (q ▸ List.Mem.head _)) (fun q => hb (List.mem_cons_of_mem _ q)) (hx b ob x)) (fun _ _ _ x => x))
    · obtain ⟨_, h₁, tk₁, rfl, hk₁⟩ := hp
      refine hQ _ _ _ (fun y hy => ?_) fun b ob hb x => hk b ob (hk₁ b ob (fun q => hb (q ▸ List.Mem.head _)) (fun q => hb (List.mem_cons_of_mem _ q)) x)
      exact bare_set (fun j y hj hy => hbr j y hj (by rw [← hy]; simp [Shared.setGen, Ne.symm hj])) rfl y hy
  frame := fun i s h' tk hi st hx hk => by
    obtain ⟨⟨ob, nm, qn, ho, r⟩, hbr, hsz, gs, hgs, hgo⟩ := st
    exact ⟨⟨ob, nm, qn, hk _ (List.Mem.head _) _ ho, r⟩, hbr, fun q => absurd q hi, gs, hgs, fun s'' hx' hk' _ => hgo s'' hx' (fun b hb ob x => hk' b hb ob (hk b (List.mem_cons_of_mem _ hb) ob x)) fun q => absurd q hi⟩
  gen := fun i s st => ⟨gi, st.1⟩

theorem call_iter {h₀ : Heap} {f : Addr} {k : Nat} {l : List Nat} {t₁ : Tok} (R : Room A (k + 1)) (hf : Fn dIter h f) (G : Glob N mg mb defs0 consts0 objs0 names0 h₀) (hx0 : Ext h₀ h) (hs0 : h₀.objs.size ≤ h.objs.size) (hl : l.length ≤ 1000000) (hbare : AllBare g)
    (H : ∀ h' g' tk a C e it gi, Ext h h' → h.get? a = none → h.get? C = none → (∀ b ∈ [e, it], h'.get? b = none) → a ∉ [C, e, it] → GSt w A h₀ a C e it gi (escs 0 false l) 0 ⟨h',g',dr,tk,os⟩ →
      GW pw w A h₀ a [C, e, it] (escs 0 false l).length (PG (escs 0 false l)) (GSt w A h₀ a C e it gi (escs 0 false l)) → Q (.ref a) ⟨h',g',dr,tk,os⟩) :
    wpAny (model pw w) A (call (.ref f) [.str (sl l) t₁]) Q E ⟨h,g,dr,tk,os⟩ := by
  obtain ⟨o', pm, c', doc, ho, hd, hc⟩ := hf
  have hlim : h.NoLimit := (G.keeps hx0).nolimit
  refine wpAny_call (codeAny_call_generator (s := ⟨h,g,dr,tk,os⟩) R.lt ho hd (by rfl) (by rfl) (by rfl) hc ?_)
  have hb : bindArgs (docDef dIter.name dIter.params dIter.body dIter.scope pm (.ref c') doc) ⟨[.str (sl l) t₁], []⟩ = (pure [(("addr" : Str), Value.str (sl l) t₁)] : Sem (List (Str × Value))) := rfl
  rw [hb]
  refine wpAny_pure (wpAny_newFunctionEnv (show ∀ x ∈ dIter.scope.names, x.2 ≠ .cell from by decide) (locs (by rfl)) (fun h₁ hns hsb => ⟨hlim.fresh _ hsb, ?_⟩) (by rfl))
  have F1 : Fr h h.objs.size h₁ (fun x => ([(("addr" : Str), Value.str (sl l) t₁)] : List (Str × Value)).reverse.lookup x) :=
    ⟨hns, fun b o e => hsb.extBut b o (Nat.ne_of_lt (Heap.lt_size e)) (Heap.get?_push_of_some _ e), Nat.le_refl _⟩
  have hsz1 : h₁.objs.size = h.objs.size + 1 := by rw [hsb.1, Heap.size_push]
  have hC0 : h₀.get? h.objs.size = none := fresh_of_le hs0
  have h00 : ∀ b ∈ [h.objs.size, h₁.objs.size + 1 + 1, h₁.objs.size + 1], h₀.get? b = none := fun b hb => by
    refine fresh_of_le ?_
    simp only [List.mem_cons, List.not_mem_nil, or_false] at hb
    rcases hb with rfl | rfl | rfl <;> omega
  have hna : h₁.objs.size ∉ [h.objs.size, h₁.objs.size + 1 + 1, h₁.objs.size + 1] := by
    simp only [List.mem_cons, List.not_mem_nil, or_false]
    omega
  have hpush : ∀ (o : Obj), Ext h (h₁.push o) := fun o b ob x => Heap.get?_push_of_some _ (F1.keep b ob x)
  refine H (h₁.push _) _ _ h₁.objs.size h.objs.size (h₁.objs.size + 1 + 1) (h₁.objs.size + 1) g.size (hpush _) (fresh_of_le (by omega)) (fresh_of_le (Nat.le_refl _)) ?_ hna ?_ (gw_iter R.handled R.lt G hna h00)
  · intro b hb
    refine fresh_of_le ?_
    rw [Heap.size_push]
    simp only [List.mem_cons, List.not_mem_nil, or_false] at hb
    rcases hb with rfl | rfl <;> omega
  refine ⟨⟨_, _, _, Heap.get?_push_size _ rfl, rfl, rfl, rfl⟩, bare_pushed hbare, fun _ => Heap.size_push .., _, Array.getElem?_push_size, fun s'' hx2 hk2 hsz2 => ⟨rfl, ?_⟩⟩
  obtain ⟨h2, g2, d2, tk2, o2⟩ := s''
  have hsz2 : h2.objs.size = h₁.objs.size + 1 := hsz2 rfl
  have F2 : Fr h₀ h.objs.size h2 (fun x => ([(("addr" : Str), Value.str (sl l) t₁)] : List (Str × Value)).reverse.lookup x) :=
    ⟨F1.ns.at' fun ob x => hk2 _ (List.Mem.head _) ob (Heap.get?_push_of_some _ x), hx2, hs0⟩
  have N2 : News h₀ h.objs.size h2 [] := News.nil
  refine seg_func ?_
  show Seg _ _ _ _ _ _ _ ((execs dIter.body (envOf dIter.name dIter.scope h.objs.size f (.ref c'))).wrap _ _ _ _) _ _
  refine seg_xAssign ?_ (by rfl)
  repeat walk_at "w1"
  rename_i h3 tk3 F3 N3 hs3
  refine seg_xAssign ?_ (by rfl)
  repeat walk_at "w1"
  rename_i h4 tk4 F4 N4 hs4
  have hsz4 : h4.objs.size = h₁.objs.size + 1 := by rw [hs4.1, hs3.1, hsz2]
  refine seg_execs_cons (seg_For ?_ (by intro _; rfl))
  repeat walk_at "w1"
  refine call_enumerate_str (s := ⟨h4,g2,d2,_,o2⟩) fun h5 hE5 hS5 hsz5 hx5 => ?_
  dsimp only at hE5 hS5 hsz5 hx5 ⊢
  rw [hsz4] at hE5 hS5 ⊢
  refine PySem.wpAny_pyIter_enum hE5 ?_
  intro p
  obtain ⟨St, Mid, W, hst⟩ : ∃ (St : Nat → Heap → Prop) (Mid : Nat → Addr → Heap → Prop), (∀ A' : Around, A'.handled = none → WalksU pw w A' (h₁.objs.size + 1 + 1) [h₁.objs.size + 1 + 1, h₁.objs.size + 1] [h₁.objs.size + 1 + 1, h₁.objs.size + 1] l.length (fun i vals => ∃ t x, SignAt (sl l) i x ∧ vals = #[.int (i : Nat) t, x]) St Mid) ∧ St 0 h5 := by
    have hn : (sl l).cps.size = l.length := by simp
    have hei : h₁.objs.size + 1 + 1 ≠ h₁.objs.size + 1 := by omega
    have hef : h₁.objs.size + 1 + 1 ∉ [h₁.objs.size + 1] := fun q => hei (List.mem_singleton.mp q)
    rw [← hn]
    cases ha : (sl l).cps.all (· < 128)
    · have e1 : strIterType (sl l) = "str_iterator" := by unfold strIterType; rw [ha]; rfl
      rw [e1] at hS5
      exact ⟨_, _, fun A' hA' => (WalksT.enumerateD (A := A') (Draws.strWide (A := A'.in1) hA' (h₁.objs.size + 1) (sl l) t₁) (h₁.objs.size + 1 + 1) hei hef (List.Mem.head _)).toU, ⟨_, hE5⟩, hS5⟩
    · have e1 : strIterType (sl l) = "str_ascii_iterator" := by unfold strIterType; rw [ha]; rfl
      rw [e1] at hS5
      exact ⟨_, _, fun A' hA' => (WalksT.enumerateD (A := A') (Draws.strAscii (A := A'.in1) hA' (h₁.objs.size + 1) (sl l) t₁) (h₁.objs.size + 1 + 1) hei hef (List.Mem.head _)).toU, ⟨_, hE5⟩, hS5⟩
  have F5 := frGrow F4 hx5
  have hCe : h.objs.size ≠ h₁.objs.size + 1 + 1 := by omega
  have hCi : h.objs.size ≠ h₁.objs.size + 1 := by omega
  refine seg_iter (A := A.in1) (f := f) (cd := .ref c') (all := escs 0 false l) (l := l) (C := h.objs.size) (e := h₁.objs.size + 1 + 1) (it := h₁.objs.size + 1) (K := fun f => .pure (.done (.ret (match f with | .ret v => v | _ => .none)))) (show A.in1.handled = none from R.handled) W hCe hCi (h00 _ (.tail _ (.head _))) (h00 _ (.tail _ (.tail _ (.head _)))) (by rfl) l 0 false _ ⟨h5, g2, d2, _, o2⟩ _ p (Nat.zero_le _) rfl ⟨[], rfl⟩ hst F5 ?_ ?_ ?_
  · rfl
  · exact ⟨_, rfl⟩
  refine ⟨h5, _, rfl, fun b o hC _ x => hx5 b o ?_⟩
  rw [hs4.2 b hC, hs3.2 b hC]
  exact x
end

section
open PySem PySem.W PyProof.Rows PySem.Calls
set_option maxRecDepth 100000
set_option maxHeartbeats 4000000
variable {w : World} {A : Around} {E : Value → Shared → Prop} {h : Heap} {g : Array GenState} {dr : Drawn} {tk : Nat} {os : OsState}
  {N : Nat} {mg mb : Str → Option Value} {Q : Value → Shared → Prop}




structure SSt where
  start : Nat
  op : Option Nat
  out : List (List Nat)
def sStep (l : List Nat) (st : SSt) (x : Nat × List Nat) : SSt :=
  if x.2 = [34] then
    (match st.op with
    | none => ⟨st.start, some x.1, st.out⟩
    | some o => ⟨x.1 + 1, none, if st.start = o then st.out else st.out ++ [(l.drop st.start).take (o - st.start)]⟩)
  else st
noncomputable def sAt (l : List Nat) (i : Nat) : SSt := ((escs 0 false l).take i).foldl (sStep l) ⟨0, none, []⟩
noncomputable def stripOf (l : List Nat) : List Nat :=
  if l.contains 34 then
    (let st := (escs 0 false l).foldl (sStep l) ⟨0, none, []⟩
     (st.out ++ if st.start < l.length then [l.drop st.start] else []).flatten)
  else l
theorem escs_len : ∀ (l : List Nat) (k : Nat) (esc : Bool), (escs k esc l).length ≤ l.length + 1
  | [], k, esc => by unfold escs; split <;> simp
  | c :: r, k, true => by simp only [escs, List.length_cons]; have := escs_len r (k + 1) false; omega
  | c :: r, k, false => by
    simp only [escs]
    split
    · have := escs_len r (k + 1) true; simp only [List.length_cons]; omega
    · have := escs_len r (k + 1) false; simp only [List.length_cons]; omega
theorem sAt_succ {l : List Nat} {i : Nat} {x : Nat × List Nat} (e : (escs 0 false l)[i]? = some x) : sAt l (i + 1) = sStep l (sAt l i) x := by
  unfold sAt
  rw [take_succ_some e, List.foldl_append]; rfl
theorem sum_le_mul (l : List Nat) (b : Nat) (h : ∀ x ∈ l, x ≤ b) : l.sum ≤ l.length * b := by
  induction l with
  | nil => simp
  | cons a r ih =>
    have h1 := h a (.head _)
    have h2 := ih fun x hx => h x (.tail _ hx)
    simp only [List.sum_cons, List.length_cons, Nat.add_mul, Nat.one_mul]
    omega
theorem sStep_out (l : List Nat) (st : SSt) (x : Nat × List Nat) (k : Nat) (h1 : st.out.length ≤ k) (h2 : ∀ y ∈ st.out, y.length ≤ l.length) : (sStep l st x).out.length ≤ k + 1 ∧ ∀ y ∈ (sStep l st x).out, y.length ≤ l.length := by
  unfold sStep
  split
  · cases st.op with
    | none => exact ⟨Nat.le_succ_of_le h1, h2⟩
    | some o =>
      dsimp only
      split
      · exact ⟨Nat.le_succ_of_le h1, h2⟩
      · refine ⟨by rw [List.length_append, List.length_singleton]; omega, fun y hy => ?_⟩
        rcases List.mem_append.mp hy with hy | hy
        · exact h2 y hy
        · rw [List.mem_singleton.mp hy]
          simp only [List.length_take, List.length_drop]; omega
  · exact ⟨Nat.le_succ_of_le h1, h2⟩
theorem sFold_out (l : List Nat) : ∀ (xs : List (Nat × List Nat)) (st : SSt) (k : Nat), st.out.length ≤ k → (∀ y ∈ st.out, y.length ≤ l.length) → (xs.foldl (sStep l) st).out.length ≤ k + xs.length ∧ ∀ y ∈ (xs.foldl (sStep l) st).out, y.length ≤ l.length
  | [], st, k, h1, h2 => ⟨h1, h2⟩
  | x :: xs, st, k, h1, h2 => by
    have h := sStep_out l st x k h1 h2
    have := sFold_out l xs (sStep l st x) (k + 1) h.1 h.2
    simp only [List.foldl_cons, List.length_cons]
    exact ⟨by omega, this.2⟩
theorem sAt_out (l : List Nat) (i : Nat) : (sAt l i).out.length ≤ l.length + 1 ∧ ∀ y ∈ (sAt l i).out, y.length ≤ l.length := by
  have h := sFold_out l ((escs 0 false l).take i) ⟨0, none, []⟩ 0 (Nat.le_refl _) (fun _ hy => nomatch hy)
  have e := escs_len l 0 false
  have e2 := List.length_take_le i (escs 0 false l)
  have e3 := List.length_take_le' i (escs 0 false l)
  exact ⟨by unfold sAt; omega, h.2⟩
def opV : Option Nat → Tok → Value
  | none, _ => .none
  | some o, t => .int (o : Nat) t

theorem frSize {h₀ h : Heap} {L : Addr} {m : Str → Option Value} (F : Fr h₀ L h m) : h₀.objs.size ≤ h.objs.size := by
  obtain ⟨oL, _, _, hL, _⟩ := F.ns
  exact Nat.le_of_lt (Nat.lt_of_le_of_lt F.above (Heap.lt_size hL))
theorem none_of {h h' : Heap} (hx : Ext h h') {b : Addr} (e : h'.get? b = none) : h.get? b = none := by
  cases x : h.get? b with
  | none => rfl
  | some ob => rw [hx b ob x] at e; cases e
theorem ne_of_get {h : Heap} {a b : Addr} {ob : Obj} (x : h.get? a = some ob) (y : h.get? b = none) : a ≠ b := fun e => by rw [e, y] at x; cases x
theorem strs_snoc : ∀ {vs : List Value} {ss : List Str}, StrsAre vs ss → ∀ (x : List Nat) (t : Tok), StrsAre (vs ++ [.str (sl x) t]) (ss ++ [x].map sl)
  | _, _, .nil, x, t => .cons _ t .nil
  | _, _, .cons _ _ h, x, t => .cons _ _ (strs_snoc h x t)
theorem call_strip {f : Addr} {k : Nat} {l : List Nat} {t₁ : Tok} (R : Room A (k + 2)) (hf : Fn dStrip h f) (G : Glob N mg mb defs0 consts0 objs0 names0 h) (hl : l.length ≤ 2000) (hbare : AllBare g)
    (H : ∀ h' g' tk t, Ext h h' → AllBare g' → Q (.str (sl (stripOf l)) t) ⟨h',g',dr,tk,os⟩) :
    wpAny (model pw w) A (call (.ref f) [.str (sl l) t₁]) Q E ⟨h,g,dr,tk,os⟩ := by
  refine call_def (binds := [("addr", .str (sl l) t₁)]) R hf G.nolimit (fun h₁ L a cd tk F N0 A' R' => ?_) (fun _ _ _ => rfl) (by rfl)
  dsimp only [dStrip] at F ⊢
  have G₁ := G.keeps F.keep
  repeat walk_at "w0"
  refine xIf ?_
  repeat walk_at "w0"
  refine SB.notContains (x := sl l) (y := sl [34]) ?_
  rw [contains_one]
  repeat walk_at "w1"
  by_cases hc : l.contains 34 = true
  · rw [if_neg (by rw [hc]; decide)]
    repeat walk_at "w1"
    rename_i h2 tk2 F2 N2 hs2
    refine lNewF F2 N2 (Nat.zero_le _) fun h3 D F3 N3 hx3 hD3 => ?_
    repeat walk_at "w1"
    rename_i h4 tk4 F4 N4 hs4
    refine xFor ?_ (by intro _; rfl)
    repeat walk_at "w1"
    refine call_iter (h₀ := h) R' (Fn.ext (by assumption) (frExt F4)) G (frExt F4) (frSize F4) (by omega) hbare fun h5 g5 tk5 a5 C e it gi hx5 ha hC hei haf st X => ?_
    have F5 := frGrow F4 hx5
    have N5 := newsGrow N4 hx5
    refine PySem.wpAny_pyIter_gen st.1 ?_
    obtain ⟨oL, _, _, hLo, _⟩ := id F4.ns
    have hDo := N4.get (.head _)
    have apart : ∀ {b : Addr} {ob : Obj}, h4.get? b = some ob → b ∉ a5 :: [C, e, it] := fun {b ob} x hm => by
      rcases List.mem_cons.mp hm with rfl | hm
      · rw [ha] at x; cases x
      rcases List.mem_cons.mp hm with rfl | hm
      · rw [hC] at x; cases x
      · have := hei b hm
        rw [hx5 _ _ x] at this; cases this
    refine forLoopG X F5 N5 (apart hLo) (fun b hb => ?_) [D] (fun x hx => ?_) st goGen
      (fun i m news => ∃ ys nn t1 t2 t3, news = [(D, lst ys nn)] ∧ StrsAre ys ((sAt l i).out.map sl) ∧ m "start" = some (.int ((sAt l i).start : Nat) t1) ∧ m "open_pos" = some (opV (sAt l i).op t2) ∧ m "result" = some (.ref D) ∧ m "addr" = some (.str (sl l) t3))
      ⟨[], 0, _, 0, _, rfl, .nil, by rfl, by rfl, by rfl, by rfl⟩ ?_ ?_ ?_
    · rcases List.mem_cons.mp hb with rfl | hb
      · exact none_of (frExt F4) ha
      rcases List.mem_cons.mp hb with rfl | hb
      · exact none_of (frExt F4) hC
      · exact none_of (frExt F5) (hei b hb)
    · rw [List.mem_singleton.mp hx]; exact apart hDo
    · rintro i m news ⟨ys, nn, _, _, _, rfl, _⟩ p hp
      rw [List.mem_singleton.mp hp]; exact .head _
    · intro i v m₁ news₁ own h₁ g₁ tk₁ E' hi hP hJ F N hown
      obtain ⟨ys, nn, t1, t2, t3, rfl, hys, hm1, hm2, hm3, hm4⟩ := hJ
      obtain ⟨x, hx, T, tp, tc, rfl, hT⟩ := hP
      have hnext := sAt_succ hx
      have hout := sAt_out l i
      refine unpackT2 R'.handled F N hT (fun h6 tk6 F6 N6 k6 => ?_) (by rfl) (by rfl) (by rfl)
      repeat walk_at "w1"
      by_cases hq : x.2 = [34]
      · rw [if_pos (by rw [hq]; rfl)]
        repeat walk_at "w1"
        cases hop : (sAt l i).op with
        | none =>
          rw [hop] at hm2
          dsimp only [opV]
          repeat walk_at "w1"
          rename_i h8 tk8 F8 N8 hs8
          have e : sAt l (i + 1) = ⟨(sAt l i).start, some x.1, (sAt l i).out⟩ := by rw [hnext]; unfold sStep; rw [if_pos hq, hop]
          exact .inr ⟨.inl rfl, _, _, _, _, rfl, F8, by rw [List.append_nil]; exact N8, (fun p hp => by rw [List.mem_singleton.mp hp]; exact noIter_tag (by show (0 : Nat) ≠ 3; decide)), ys, nn, t1, tp, t3, rfl, by rw [e]; exact hys, by rw [e]; exact hm1, by rw [e]; rfl, hm3, hm4⟩
        | some o =>
          rw [hop] at hm2
          replace hm2 : m₁ "open_pos" = some (.int (o : Nat) t2) := hm2
          dsimp only [opV]
          repeat walk_at "w1"
          rw [natBne]
          by_cases hso : (sAt l i).start = o
          · rw [if_neg (by simpa using hso)]
            repeat walk_at "w1"
            rename_i h8 tk8 F8 N8 hs8
            have e : sAt l (i + 1) = ⟨x.1 + 1, none, (sAt l i).out⟩ := by rw [hnext]; unfold sStep; rw [if_pos hq, hop]; dsimp only; rw [if_pos hso]
            exact .inr ⟨.inl rfl, _, _, _, _, rfl, F8, by rw [List.append_nil]; exact N8, (fun p hp => by rw [List.mem_singleton.mp hp]; exact noIter_tag (by show (0 : Nat) ≠ 3; decide)), ys, nn, _, 0, t3, rfl, by rw [e]; exact hys, by rw [e]; exact rfl, by rw [e]; rfl, hm3, hm4⟩
          · rw [if_pos (by simpa using hso)]
            repeat walk_at "w1"
            refine ⟨D, ys, nn, rfl, N6.get (by walk_at "mem"), ?_⟩
            repeat walk_at "w1"
            refine ⟨l, _, _, _, _, _, rfl, rfl, rfl, by omega, fun h8 t8 tk8 hx8 => ?_⟩
            have F8 := frGrow F6 hx8
            have N8 := newsGrow N6 hx8
            repeat walk_at "w1"
            refine lApp (pre := own) (post := []) F8 N8 ?_ (fun p hp q => hown p hp (q ▸ List.Mem.head _)) (fun _ hp => nomatch hp) fun h9 F9 N9 hs9 => ?_
            · rw [StrsAre.length hys, List.length_map]; omega
            repeat walk_at "w1"
            rename_i h10 tk10 F10 N10 hs10
            have e : sAt l (i + 1) = ⟨x.1 + 1, none, (sAt l i).out ++ [(l.drop (sAt l i).start).take (o - (sAt l i).start)]⟩ := by rw [hnext]; unfold sStep; rw [if_pos hq, hop]; dsimp only; rw [if_neg hso]
            refine .inr ⟨.inl rfl, _, _, _, _, rfl, F10, by rw [List.append_nil]; exact N10, (fun p hp => by rw [List.mem_singleton.mp hp]; exact noIter_tag (by show (0 : Nat) ≠ 3; decide)), _, nn + 1, _, 0, t3, rfl, by rw [e, List.map_append]; exact strs_snoc hys _ _, by rw [e]; exact rfl, by rw [e]; rfl, hm3, hm4⟩
      · rw [if_neg (by simpa using hq)]
        repeat walk_at "w1"
        have e : sAt l (i + 1) = sAt l i := by rw [hnext]; unfold sStep; rw [if_neg hq]
        exact .inr ⟨.inl rfl, _, _, _, _, rfl, F6, by rw [List.append_nil]; exact N6, (fun p hp => by rw [List.mem_singleton.mp hp]; exact noIter_tag (by show (0 : Nat) ≠ 3; decide)), ys, nn, t1, t2, t3, rfl, by rw [e]; exact hys, by rw [e]; exact hm1, by rw [e]; exact hm2, hm3, hm4⟩
    · intro h7 g7 tk7 m7 news7 hb7 F7 N7 hJ7
      obtain ⟨ys, nn, t1, t2, t3, rfl, hys, hm1, hm2, hm3, hm4⟩ := hJ7
      have hout := sAt_out l (escs 0 false l).length
      have est : sAt l (escs 0 false l).length = (escs 0 false l).foldl (sStep l) ⟨0, none, []⟩ := by unfold sAt; rw [List.take_length]
      have estrip : stripOf l = ((sAt l (escs 0 false l).length).out ++ if (sAt l (escs 0 false l).length).start < l.length then [l.drop (sAt l (escs 0 false l).length).start] else []).flatten := by
        unfold stripOf; rw [if_pos hc, est]
      generalize sAt l (escs 0 false l).length = st1 at *
      repeat walk_at "w1"
      have hsum := sum_le_mul (st1.out.map List.length) l.length (by intro x hx; obtain ⟨y, hy, rfl⟩ := List.mem_map.mp hx; exact hout.2 y hy)
      rw [List.length_map] at hsum
      have hmul : st1.out.length * l.length ≤ 2001 * 2000 := Nat.mul_le_mul (by omega) hl
      by_cases hlt : st1.start < l.length
      · rw [if_pos (by simpa using hlt)]
        repeat walk_at "w1"
        refine ⟨D, ys, nn, rfl, N7.get (.head _), ?_⟩
        repeat walk_at "w1"
        refine ⟨l, _, _, _, rfl, rfl, by omega, by omega, fun h8 t8 tk8 hx8 => ?_⟩
        have F8 := frGrow F7 hx8
        have N8 := newsGrow N7 hx8
        repeat walk_at "w1"
        refine lApp (pre := []) (post := []) F8 N8 ?_ (fun _ hp => nomatch hp) (fun _ hp => nomatch hp) fun h9 F9 N9 hs9 => ?_
        · rw [StrsAre.length hys, List.length_map]; omega
        repeat walk_at "w1"
        rw [if_pos hlt] at estrip
        refine joinS (x := sl []) (ls := st1.out ++ [l.drop st1.start]) rfl (lst_is (N9.get (.head _))) (by rw [List.map_append]; exact strs_snoc hys _ _) (by rw [sizeLine_eq, List.map_append, List.sum_append]; simp only [List.map_cons, List.map_nil, List.sum_cons, List.sum_nil, List.length_drop]; omega) fun t tk => ?_
        rw [← estrip]
        exact H _ _ _ _ F9.keep hb7
      · rw [if_neg (by simpa using hlt)]
        repeat walk_at "w1"
        rw [if_neg hlt, List.append_nil] at estrip
        refine joinS (x := sl []) (ls := st1.out) rfl (lst_is (N7.get (.head _))) hys (by rw [sizeLine_eq]; omega) fun t tk => ?_
        rw [← estrip]
        exact H _ _ _ _ F7.keep hb7
  · rw [if_pos (by simpa using hc)]
    repeat walk_at "w1"
    have e : stripOf l = l := by unfold stripOf; rw [if_neg hc]
    rw [← e]
    exact H _ _ _ _ (Fr.keep (by assumption)) hbare
end
end

section
open PySem PySem.W PyProof.Rows PySem.Calls
set_option maxRecDepth 100000
set_option maxHeartbeats 4000000
variable {w : World} {A : Around} {E : Value → Shared → Prop} {h : Heap} {g : Array GenState} {dr : Drawn} {tk : Nat} {os : OsState}
  {N : Nat} {mg mb : Str → Option Value} {Q : Value → Shared → Prop}




def dflt6 : List Nat := [9, 24, 20, 1033, 98, 32365]
def givenOf (script : List Int) : List Nat := ((script.take 6).map fun x => (x.fmod 65536).toNat) ++ dflt6.drop ((script.take 6).length)
theorem givenOf_len (script : List Int) : (givenOf script).length = 6 := by
  unfold givenOf dflt6
  simp only [List.length_append, List.length_map, List.length_drop, List.length_take, List.length_cons, List.length_nil]
  omega
def endOf (reader : Nat) : List Nat := if reader % 2 = 0 then [92] else []
def leftOf (its : List Item) (reader : Nat) : List Nat := (bPair (bAt reader its its.length)).2
/-- what the plain law says of the items -/
structure Plain (first second : Nat) (its : List Item) : Prop where
  good : ∀ it ∈ its, (it.2.1.map kText).flatten = it.2.2
  tot : (its.map fun it => it.2.1.length + it.2.2.length).sum ≤ 1800
  len : 1 ≤ its.length ∧ its.length ≤ 1000
  some : ∃ it ∈ its, ∃ c, c ∈ it.2.1
  whole : ∀ reader, reader < 8 → stripOf ([34, 34] ++ (bPair (bAt reader its its.length)).1) = leftOf its reader
  part : ∀ reader j, reader < 8 → j = 2 * reader % its.length → stripOf ((bPair (bAt reader its (j + 1))).1 ++ endOf reader) = (bPair (bAt reader its (j + 1))).2 ++ endOf reader
  one : told ((List.range 8).map fun r => 1 - (ell 116 (leftOf its r)).toNat) = (List.range 8).map fun t => (bit first t).toNat
  two : told ((List.range 8).map fun r => 1 - (ell 115 (leftOf its r)).toNat) = (List.range 8).map fun t => (bit (first ^^^ second) t).toNat

theorem bit_val (a t : Nat) : Builtin.bitAnd (Int.fdiv (a : Int) (2 ^ (t : Int).toNat)) 1 = (((bit a t).toNat : Nat) : Int) := by
  have e : Int.fdiv (a : Int) (2 ^ (t : Int).toNat) = ((a / 2 ^ t : Nat) : Int) := by
    rw [Int.toNat_natCast, show (2 : Int) ^ t = ((2 ^ t : Nat) : Int) from by push_cast; rfl, fdiv_nat]
  rw [e, show (1 : Int) = ((1 : Nat) : Int) from rfl, bitAnd_nat, Nat.and_one_is_mod]
  unfold bit
  rw [Nat.toNat_testBit]

theorem ints_map {f : Int → Int} : ∀ {vs ys : List Value} {ns : List Int}, IntsAre vs ns → Paired (fun v y => ∃ i t u, v = .int i t ∧ y = .int (f i) u) vs ys → IntsAre ys (ns.map f)
  | _, _, _, .nil, h => by cases h; exact .nil
  | _, _, _, .cons i t hi, h => by
    cases h with
    | cons h1 h2 =>
      obtain ⟨i', t', u, e, rfl⟩ := h1
      cases e
      exact .cons _ u (ints_map hi h2)
theorem ints_app : ∀ {vs ws : List Value} {ns ms : List Int}, IntsAre vs ns → IntsAre ws ms → IntsAre (vs ++ ws) (ns ++ ms)
  | _, _, _, _, .nil, h => h
  | _, _, _, _, .cons _ t h1, h2 => .cons _ t (ints_app h1 h2)
theorem six {l : List Nat} (h : l.length = 6) : ∃ a b c d e f, l = [a, b, c, d, e, f] := by
  match l, h with
  | [a, b, c, d, e, f], _ => exact ⟨a, b, c, d, e, f, rfl⟩
theorem bPair_len {first second : Nat} {its : List Item} (hP : Plain first second its) (r k : Nat) : (bPair (bAt r its k)).1.length ≤ 1800 ∧ (bPair (bAt r its k)).2.length ≤ 1800 := by
  have h := bAt_len r its hP.good k
  have h2 : ((its.take k).map fun it => it.2.2.length).sum ≤ 1800 := by
    refine Nat.le_trans ?_ hP.tot
    rw [List.map_take]
    exact Nat.le_trans (sum_take_le _ _) (sum_snd_le its)
  unfold bPair
  simp only [List.length_append]
  omega
theorem call_law {f sp : Addr} {k : Nat} {script : List Int} {vs : List Value} (R : Room A (k + 5)) (hf : Fn dLaw h f) (G : Glob N mg mb defs0 consts0 objs0 names0 h)
    (hl : h.IsList sp vs.toArray) (hi : IntsAre vs script) (hlen : script.length ≤ 63) (hbare : AllBare g)
    (hP : Plain ((givenOf script).getD 0 0 % 256) ((givenOf script).getD 1 0 % 256) (itemsOf ((givenOf script).getD 0 0 % 256) ((givenOf script).getD 1 0 % 256) ((givenOf script).getD 2 0) ((givenOf script).getD 3 0) ((givenOf script).getD 4 0) ((givenOf script).getD 5 0)))
    (H : ∀ h' g' tk, Ext h h' → AllBare g' → Q (.bool true) ⟨h',g',dr,tk,os⟩) :
    wpAny (model pw w) A (call (.ref f) [.ref sp]) Q E ⟨h,g,dr,tk,os⟩ := by
  refine call_defC (binds := [("script", .ref sp)]) R hf G.nolimit (fun h₁ L a cd tk cells F N0 X A' R' => ?_) (fun _ _ _ => rfl) (by rfl) (by decide)
  obtain ⟨o₁, o₂, rfl, hc₁, hc₂⟩ := X.two
  dsimp only [dLaw] at F ⊢
  have G₁ := G.keeps F.keep
  repeat walk_at "w1"
  replace hc₁ : o₁.data = .cell none := hc₁
  replace hc₂ : o₂.data = .cell none := hc₂
  have hl₁ := IsList.ext hl F.keep
  refine comp_A (h₀ := h) (fun _ => true) (fun v y => ∃ i t u, v = .int i t ∧ y = .int (((i.fmod 65536).toNat : Nat) : Int) u) (by rfl) R'.handled (by rfl) (by decide) (by rfl) (by decide) (by decide) (by rfl) (by rfl) (by intro _; rfl) ?_
  refine lSlice ?_ (fun _ _ => ⟨_, by with_unfolding_all rfl⟩)
  repeat walk_at "w1"
  refine ⟨sp, vs, none, some 6, rfl, hl₁, .none, .int 6 _, by rw [hi.length]; omega, fun h2 q hx2 hq0 hq2 => ?_⟩
  have hsl : IntsAre (slicePick vs.toArray none (some 6) none).toList (script.take 6) := slice_ints_uptoW hi (by decide)
  have F2 := frGrow F hx2
  have N2 := newsGrow N0 hx2
  refine it_list (lst_is hq2) fun it h3 X3 => ?_
  refine ⟨h2, _, _, _, _, X3, ?_, F2, N2, ?_, ?_, ?_⟩
  · rw [List.size_toArray, hsl.length, sizeLine_eq, List.length_take]; omega
  · intro C i v h₃ g₃ d₃ tk₃ o₃ m₃ E' hi' hP' F₃ hm
    exact rfl
  · intro C i v h₃ g₃ d₃ tk₃ o₃ m₃ E' hi' hP' _ F₃ hm
    obtain ⟨t, rfl⟩ := hsl.int_at i v (by simpa using hP')
    repeat walk_at "w1"
    exact ⟨⟨_, t, _, rfl, by rw [Int.toNat_of_nonneg (Int.fmod_nonneg_of_pos _ (by decide))]⟩, _, _, rfl, Ext.rfl'⟩
  intro D h4 tk4 ys nn vs' hD hlen' hvs hys F4 N4
  rw [List.filter_eq_self.mpr (fun _ _ => rfl), list_of_at hlen' (fun j v e => by rw [Nat.zero_add]; exact hvs j v e), List.toList_toArray] at hys
  have hg1 := ints_map hsl hys
  -- given += [..][len(given):]
  show wpAny _ _ _ _ _ (⟨h4, g, dr, tk4, os⟩ : Shared)
  repeat walk_at "w1"
  rename_i t0 k0 t1 k1 t2 k2 t3 k3 t4 k4 t5 k5
  refine lNewF F4 N4 (by rw [sizeLine_eq]; exact Nat.le_of_ble_eq_true rfl) fun h5 p5 F5 N5 hx5 hp5 => ?_
  refine eSlice ?_
  repeat walk_at "w1"
  have hyl : ys.length = (script.take 6).length := by rw [hg1.length, List.length_map]
  have hc6 : (script.take 6).length ≤ 6 := by rw [List.length_take]; omega
  refine lLen (ys := ys) (lst_is (N5.get (.tail _ (.head _)))) (by omega) fun tl kl => ?_
  repeat walk_at "w1"
  intro h6 q6 hx6 hq6
  have hd6 : IntsAre [Value.int 9 t0, .int 24 t1, .int 20 t2, .int 1033 t3, .int 98 t4, .int 32365 t5] (dflt6.map fun n : Nat => (n : Int)) := .cons _ _ (.cons _ _ (.cons _ _ (.cons _ _ (.cons _ _ (.cons _ _ .nil)))))
  refine lTail (vs := [Value.int 9 t0, .int 24 t1, .int 20 t2, .int 1033 t3, .int 98 t4, .int 32365 t5]) (lst_is (hx6 _ _ (N5.get (.head _)))) hq6 (.int _ _) .none (by simp) (fun h7 r7 hx7 hr0 hr7 => ?_) ⟨_, by with_unfolding_all rfl⟩
  have hz := slice_ints_fromW hd6 (x := (ys.length : Int)) (Int.natCast_nonneg _)
  rw [Int.toNat_natCast] at hz
  have F7 := frGrow F5 (Ext.trans hx6 hx7)
  have N7 : News h L h7 [(D, lst ys nn), (L + 1 + 1, o₁), (L + 1, o₂)] := fun p hp => (newsGrow N5 (Ext.trans hx6 hx7)) p (.tail _ hp)
  refine lIAdd (pre := []) (post := [(L + 1 + 1, o₁), (L + 1, o₂)]) F7 N7 hr7 (by have := hz.length; rw [List.length_drop, List.length_map] at this; have h6' : dflt6.length = 6 := rfl; omega) (fun _ hp => nomatch hp) ?_ fun h8 F8 n8 N8 hs8 => ?_
  · refine newsApartL N7 (b := (D, lst ys nn)) (.head _) fun p hp => ⟨.tail _ hp, ?_⟩
    show tag p.2 ≠ 0
    rcases List.mem_cons.mp hp with rfl | hp
    · rw [tag_cell hc₁]; decide
    · rw [List.mem_singleton.mp hp, tag_cell hc₂]; decide
  replace N8 : News h L h8 [(D, lst (ys ++ (slicePick [Value.int 9 t0, .int 24 t1, .int 20 t2, .int 1033 t3, .int 98 t4, .int 32365 t5].toArray (some ↑ys.length) none none).toList) n8), (L + 1 + 1, o₁), (L + 1, o₂)] := N8
  have hgs : IntsAre (ys ++ (slicePick [Value.int 9 t0, .int 24 t1, .int 20 t2, .int 1033 t3, .int 98 t4, .int 32365 t5].toArray (some ↑ys.length) none none).toList) ((givenOf script).map fun n : Nat => (n : Int)) := by
    unfold givenOf
    rw [List.map_append, List.map_map, List.map_drop, ← hyl]
    exact ints_app hg1 hz
  generalize (ys ++ (slicePick [Value.int 9 t0, .int 24 t1, .int 20 t2, .int 1033 t3, .int 98 t4, .int 32365 t5].toArray (some ↑ys.length) none none).toList) = gs at *
  obtain ⟨n0, n1, n2, n3, n4, n5, e6⟩ := six (givenOf_len script)
  rw [e6] at hP hgs
  replace hP : Plain (n0 % 256) (n1 % 256) (itemsOf (n0 % 256) (n1 % 256) n2 n3 n4 n5) := hP
  repeat walk_at "w1"
  rename_i h9 tk9 F9 N9 hs9 t9 tk9'
  refine gIntsX 0 (by rfl) (lst_is (N9.get (.head _))) hgs (by rfl) (by decide) (fun t => ?_) (by with_unfolding_all rfl)
  repeat walk_at "w1"
  rename_i t_first k_first
  rw [show (n0 : Int).fmod 256 = ((n0 % 256 : Nat) : Int) from fmod_nat n0 256]
  refine stCell (pre := [(D, lst gs n8), (L + 1 + 1, o₁)]) (post := []) F9 N9 (by rfl) hc₂ ?_ (fun _ hp => nomatch hp) (fun h10 oc1 F10 N10 hd1 hs10 => ?_) (by rfl) (by rfl)
  · intro p hp
    rcases List.mem_cons.mp hp with rfl | hp
    · exact newsApart N9 (a := (D, lst gs n8)) (b := (L + 1, o₂)) (.head _) (by walk_at "mem") (by rw [tag_cell hc₂]; show (0 : Nat) ≠ 2; decide)
    · rw [List.mem_singleton.mp hp]; exact Nat.ne_of_gt (Nat.lt_succ_self _)
  replace N10 : News h L h10 [(D, lst gs n8), (L + 1 + 1, o₁), (L + 1, oc1)] := N10
  repeat walk_at "w1"
  refine gIntsX 1 (by rfl) (lst_is (N10.get (.head _))) hgs (by rfl) (by decide) (fun t => ?_) (by with_unfolding_all rfl)
  repeat walk_at "w1"
  rename_i t_second k_second
  rw [show (n1 : Int).fmod 256 = ((n1 % 256 : Nat) : Int) from fmod_nat n1 256]
  refine stCell (pre := [(D, lst gs n8)]) (post := [(L + 1, oc1)]) F10 N10 (by rfl) hc₁ ?_ ?_ (fun h11 oc2 F11 N11 hd2 hs11 => ?_) (by rfl) (by rfl)
  · intro p hp
    rw [List.mem_singleton.mp hp]
    exact newsApart N10 (a := (D, lst gs n8)) (b := (L + 1 + 1, o₁)) (.head _) (by walk_at "mem") (by rw [tag_cell hc₁]; show (0 : Nat) ≠ 2; decide)
  · intro p hp
    rw [List.mem_singleton.mp hp]; exact Nat.ne_of_lt (Nat.lt_succ_self _)
  replace N11 : News h L h11 [(D, lst gs n8), (L + 1 + 1, oc2), (L + 1, oc1)] := N11
  repeat walk_at "w1"
  refine eSlice ?_
  repeat walk_at "w1"
  intro h12 q12 hx12 hq12
  refine lTail (vs := gs) (lst_is (hx12 _ _ (N11.get (.head _)))) hq12 (.int _ _) .none (by rw [hgs.length]; simp) (fun h13 r13 hx13 hr0' hr13 => ?_) ⟨_, by with_unfolding_all rfl⟩
  have hg4 : IntsAre (slicePick gs.toArray (some 2) none none).toList (([n2, n3, n4, n5] : List Nat).map fun n : Nat => (n : Int)) := slice_ints_fromW hgs (x := 2) (by decide)
  have F13 := frGrow F11 (Ext.trans hx12 hx13)
  have N13 := newsGrow N11 (Ext.trans hx12 hx13)
  repeat walk_at "w1"
  refine call_items R' (Fn.ext (by assumption) (frExt F13)) (G.keeps (frExt F13)) (lst_is hr13) hg4 fun h14 tk14 ip vs14 nn14 hx14 hi0 hi14 hI14 => ?_
  generalize hits : itemsOf (n0 % 256) (n1 % 256) n2 n3 n4 n5 = its at *
  have F14 := frGrow F13 hx14
  have N14 : News h L h14 [(L + 1 + 1, oc2), (L + 1, oc1)] := fun p hp => (newsGrow N13 hx14) p (.tail _ hp)
  have N15 := newsAdd F13 N14 hi0 hi14
  repeat walk_at "w1"
  rename_i h15 tk15 F15 N16 hs15 fk hfk
  have I15 := hI14.sameL F14 hs15
  refine call_known (its := its) (k := 0) (R'.less (by omega)) (Fn.ext hfk (frExt F15)) (G.keeps (frExt F15)) (lst_is (N16.get (.head _))) I15 (Nat.le_trans hP.tot (by decide)) hP.good fun h16 tk16 K oD kvs vals S hx16 hK0 hKo hD hKm hkn hvals hS hSl => ?_
  have F16 := frGrow F15 hx16
  have I16 := I15.ext hx16
  have N17 := newsAdd F15 (newsAddL F15 (newsGrow N16 hx16) hvals) hK0 hKo
  have N18 := (items_ledger F16 I16).append N17
  have hib : ∀ {h' : Heap}, Ext h h' → (∀ p ∈ ownOf h (refsOf vs14) h16, h'.get? p.1 = some p.2) → Items h' its vs14 := fun hx hk => items_back I16 (frExt F16) hx hk
  have htagI := ownOf_tag (h₀ := h) I16
  generalize ownOf h (refsOf vs14) h16 = itl at *
  repeat walk_at "w1"
  rename_i h19 tk19 F19 N19 hs19
  have hkl : S.length = kvs.length := Paired.length hkn
  have hkne : kvs.isEmpty = false := by
    obtain ⟨it, hit, c, hc⟩ := hP.some
    have hcS : c ∈ S := (hS c).mpr ⟨it, hit, hc⟩
    cases kvs with
    | nil => cases hkn; cases hcS
    | cons a b => rfl
  have hKin : (K, oD) ∈ itl ++ (K, oD) :: (vals ++ [(ip, lst vs14 nn14), (L + 1 + 1, oc2), (L + 1, oc1)]) := List.mem_append_right _ (.head _)
  refine dTrue (N19.get hKin) hD hKm (by omega) fun tk20 => ?_
  rw [hkne]
  repeat walk_at "w1"
  rw [if_neg (by decide)]
  repeat walk_at "w1"
  refine lNewF F19 N19 (Nat.zero_le _) fun h20 O F20 N20 hx20 hO => ?_
  repeat walk_at "w1"
  rename_i h21 tk21 F21 N21 hs21
  refine lNewF F21 N21 (Nat.zero_le _) fun h22 T F22 N22 hx22 hT => ?_
  repeat walk_at "w1"
  rename_i h23 tk23 F23 N23 hs23
  refine xFor ?_ (by intro _; rfl)
  repeat walk_at "w1"
  generalize hKK : itl ++ (K, oD) :: (vals ++ [(ip, lst vs14 nn14), (L + 1 + 1, oc2), (L + 1, oc1)]) = KK at *
  have hipin : (ip, lst vs14 nn14) ∈ KK := by rw [← hKK]; exact List.mem_append_right _ (.tail _ (List.mem_append_right _ (.head _)))
  have hc2in : (L + 1 + 1, oc2) ∈ KK := by rw [← hKK]; exact List.mem_append_right _ (.tail _ (List.mem_append_right _ (.tail _ (.head _))))
  have hc1in : (L + 1, oc1) ∈ KK := by rw [← hKK]; exact List.mem_append_right _ (.tail _ (List.mem_append_right _ (.tail _ (.tail _ (.head _)))))
  have hvin : ∀ p ∈ vals, p ∈ KK := fun p hp => by rw [← hKK]; exact List.mem_append_right _ (.tail _ (List.mem_append_left _ hp))
  have hitin : ∀ p ∈ itl, p ∈ KK := fun p hp => by rw [← hKK]; exact List.mem_append_left _ hp
  have hKO : ∀ p ∈ KK, p.1 ≠ O := fun p hp => ne_of_get (N19 p hp).1 hO
  have hKT : ∀ p ∈ KK, p.1 ≠ T := fun p hp => ne_of_get (N21 p (.tail _ hp)).1 hT
  have hOT : O ≠ T := ne_of_get (N21 _ (.head _)).1 hT
  refine it_rangeZ (n := 8) (by rfl) (by decide) fun it h24 tk24 X24 => ?_
  refine forLoopV KK X24 R'.handled hbare F23 (news := [(O, lst [] 0), (T, lst [] 0)]) (fun p hp => N23 p ?_) (fun p hp => noIter_tag ?_) (fun _ => goName)
    (fun i m news => ∃ ys zs n1 n2, news = [(O, lst ys n1), (T, lst zs n2)] ∧ IntsAre ys ((List.range i).map fun r => ((1 - (ell 116 (leftOf its r)).toNat : Nat) : Int)) ∧ IntsAre zs ((List.range i).map fun r => ((1 - (ell 115 (leftOf its r)).toNat : Nat) : Int)) ∧
      m "items" = some (.ref ip) ∧ m "known" = some (.ref K) ∧ m "one_hidden" = some (.ref O) ∧ m "two_hidden" = some (.ref T))
    ⟨[], [], 0, 0, rfl, .nil, .nil, by rfl, by rfl, by rfl, by rfl⟩ ?_ ?_
  · simp only [List.mem_append, List.mem_cons, List.not_mem_nil, or_false] at hp ⊢
    grind
  · rcases List.mem_cons.mp hp with rfl | hp
    · show (0 : Nat) ≠ 3; decide
    · rw [List.mem_singleton.mp hp]; show (0 : Nat) ≠ 3; decide
  · intro i v m₁ news₁ own h₁ g₁ tk₁ E' hb₁ hi hP' hJ hni F N hown
    obtain ⟨ys, zs, m1, m2, rfl, hys, hzs, hm1, hm2, hm3, hm4⟩ := hJ
    obtain ⟨t, rfl⟩ := hP'
    refine assign_name ?_
    repeat walk_at "w1"
    rename_i h25 tk25 F25 N25 hs25 fB hfB
    have hit25 : Items h25 its vs14 := hib (frExt F25) fun p hp => (N25 p (List.mem_append_left _ (List.mem_append_right _ (hitin p hp)))).1
    refine call_begun (its := its) (k := 0) (R'.less (by omega)) (Fn.ext hfB (frExt F25)) (G.keeps (frExt F25)) (lst_is (N25.get (List.mem_append_left _ (List.mem_append_right _ hipin)))) hit25 (Nat.le_trans hP.tot (by decide)) hP.good
      (N25.get (List.mem_append_left _ (List.mem_append_right _ hKin))) hD hkn (fun p hp => (N25 p (List.mem_append_left _ (List.mem_append_right _ (hvin p hp)))).1) (fun it hit c hc => (hS c).mpr ⟨it, hit, hc⟩) (Nat.le_trans hP.len.2 (by decide)) fun h26 tk26 B ys26 nn26 prs hx26 hB0 hBo hprs hbeg => ?_
    have F26 := frGrow F25 hx26
    have N26 := newsAddL F25 (newsAdd F25 (newsGrow N25 hx26) hB0 hBo) hprs
    have hBin : (B, lst ys26 nn26) ∈ prs ++ (B, lst ys26 nn26) :: (own ++ KK ++ [(O, lst ys m1), (T, lst zs m2)]) := List.mem_append_right _ (.head _)
    have hprin : ∀ p ∈ prs, p ∈ prs ++ (B, lst ys26 nn26) :: (own ++ KK ++ [(O, lst ys m1), (T, lst zs m2)]) := fun p hp => List.mem_append_left _ hp
    have hrest : ∀ p ∈ own ++ KK ++ [(O, lst ys m1), (T, lst zs m2)], p ∈ prs ++ (B, lst ys26 nn26) :: (own ++ KK ++ [(O, lst ys m1), (T, lst zs m2)]) := fun p hp => List.mem_append_right _ (.tail _ hp)
    generalize hLL : prs ++ (B, lst ys26 nn26) :: (own ++ KK ++ [(O, lst ys m1), (T, lst zs m2)]) = LL at *
    have hyl26 : ys26.length = its.length := by rw [← Paired.length hbeg]; simp
    repeat walk_at "w1"
    rename_i h27 tk27 F27 N27 hs27
    refine xTup ?_ (by rfl) (by rfl)
    repeat walk_at "w1"
    refine lLen (ys := ys26) (lst_is (N27.get hBin)) (by have := hP.len.2; omega) fun t28 tk28 => ?_
    repeat walk_at "w1"
    have hn1 := hP.len.1
    refine aMod (by omega) fun t29 tk29 => ?_
    rw [hyl26, show (2 * (i : Int)).fmod (its.length : Int) = ((2 * i % its.length : Nat) : Int) from by have := fmod_nat (2 * i) its.length; push_cast at this ⊢; exact this]
    have hj : 2 * i % its.length < its.length := Nat.mod_lt _ (by omega)
    have hpart := hP.part i _ hi rfl
    generalize 2 * i % its.length = j at *
    obtain ⟨y, hy, q, tq, uq, nq, rfl, hq⟩ := paired_at2 hbeg j (bPair (bAt i its (j + 1))) (by simp [hj])
    have hn2 := hP.len.2
    refine gList (l := ys26) (lst_is (N27.get hBin)) (Int.natCast_nonneg _) (by omega) (by rw [Int.toNat_natCast]; exact hy) ?_ (by with_unfolding_all rfl)
    refine unpack2 R'.handled F27 N27 (lst_is (N27.get (hprin _ hq))) (fun h30 tk30 F30 N30 k30 => ?_) (by rfl) (by rfl) (by rfl)
    repeat walk_at "w1"
    refine iteMono (Q' := fun v s => ∃ t tk, v = .str (sl (endOf i)) t ∧ s = ⟨h30, g₁, dr, tk, os⟩) ?_ ?_
    · rw [show (i : Int).fmod 2 = ((i % 2 : Nat) : Int) from fmod_nat i 2]
      by_cases h2 : i % 2 = 0
      · rw [if_neg (by rw [h2]; decide)]
        repeat walk_at "w1"
        exact ⟨_, _, by unfold endOf; rw [if_pos h2], rfl⟩
      · rw [if_pos (by have : i % 2 = 1 := by omega
                       rw [this]; decide)]
        repeat walk_at "w1"
        exact ⟨_, _, by unfold endOf; rw [if_neg h2], rfl⟩
    rintro v s ⟨te, tke, rfl, rfl⟩
    repeat walk_at "w1"
    rename_i h31 tk31 F31 N31 hs31 fS hfS tq1 tkq1 tq2 tkq2 tq3 tkq3
    show wpAny _ _ _ _ _ (⟨h31, g₁, dr, _, os⟩ : Shared)
    obtain ⟨yL, hyL, qL, tqL, uqL, nqL, rfl, hqL⟩ := paired_at2 hbeg (its.length - 1) (bPair (bAt i its its.length)) (by
      rw [List.getElem?_map, List.getElem?_range (by omega), Option.map_some, show its.length - 1 + 1 = its.length by omega])
    have hlast : ys26.getLast? = some (.ref qL) := by rw [List.getLast?_eq_getElem?, hyl26]; exact hyL
    have hb1 := bPair_len hP i its.length
    have hb2 := bPair_len hP i (j + 1)
    have hwhole := hP.whole i hi
    have helen : (endOf i).length ≤ 1 := by unfold endOf; split <;> simp
    have hleft : leftOf its i = (bPair (bAt i its its.length)).2 := rfl
    refine gLast (l := ys26) (lst_is (N31.get hBin)) hlast ?_ (by with_unfolding_all rfl)
    repeat walk_at "w1"
    refine gList (l := [.str (sl (bPair (bAt i its its.length)).1) tqL, .str (sl (bPair (bAt i its its.length)).2) uqL]) (lst_is (N31.get (hprin _ hqL))) (by decide) (by decide) (by rfl) ?_ (by with_unfolding_all rfl)
    repeat walk_at "w1"
    refine call_strip (k := 0) (R'.less (by omega)) (Fn.ext hfS (frExt F31)) (G.keeps (frExt F31)) (by simp only [List.length_append, List.length_cons, List.length_nil]; omega) hb₁ fun h32 g32 tk32 t32 hx32 hb32 => ?_
    rw [hwhole]
    have F32 := frGrow F31 hx32
    have N32 := newsGrow N31 hx32
    repeat walk_at "w1"
    rename_i h33 tk33 F33 N33 hs33 tr1 tkr1 tr2 tkr2
    show wpAny _ _ _ _ _ (⟨h33, g32, dr, _, os⟩ : Shared)
    refine gLast (l := ys26) (lst_is (N33.get hBin)) hlast ?_ (by with_unfolding_all rfl)
    repeat walk_at "w1"
    refine gList (l := [.str (sl (bPair (bAt i its its.length)).1) tqL, .str (sl (bPair (bAt i its its.length)).2) uqL]) (lst_is (N33.get (hprin _ hqL))) (by decide) (by decide) (by rfl) ?_ (by with_unfolding_all rfl)
    repeat walk_at "w1"
    rw [if_neg (by rw [hleft]; simp)]
    repeat walk_at "w1"
    rename_i fS2 hfS2 tz1 kz1
    refine call_strip (k := 0) (R'.less (by omega)) (Fn.ext hfS2 (frExt F33)) (G.keeps (frExt F33)) (by simp only [List.length_append]; omega) hb32 fun h34 g34 tk34 t34 hx34 hb34 => ?_
    rw [hpart]
    have F34 := frGrow F33 hx34
    have N34 := newsGrow N33 hx34
    repeat walk_at "w1"
    rw [if_neg (by simp)]
    repeat walk_at "w1"
    rename_i fE hfE tE kE
    refine call_ell (c := 116) (l := leftOf its i) (k := 0) (.inr rfl) (R'.less (by omega)) (Fn.ext hfE (frExt F34)) (G.keeps (frExt F34)) (by rw [hleft]; omega) fun h35 tk35 hx35 => ?_
    have F35 := frGrow F34 hx35
    have N35 := newsGrow N34 hx35
    repeat walk_at "w1"
    rename_i fE2 hfE2 tE2 kE2
    refine call_ell (c := 115) (l := leftOf its i) (k := 0) (.inl rfl) (R'.less (by omega)) (Fn.ext hfE2 (frExt F35)) (G.keeps (frExt F35)) (by rw [hleft]; omega) fun h36 tk36 hx36 => ?_
    have F36 := frGrow F35 hx36
    have N36 := newsGrow N35 hx36
    repeat walk_at "w1"
    refine lNewF F36 N36 (by rw [sizeLine_eq]; exact Nat.le_of_ble_eq_true rfl) fun h37 p37 F37 N37 hx37 hp37 => ?_
    repeat walk_at "w1"
    rename_i h38 tk38 F38 N38 hs38
    refine comp_F (fun _ => false) (fun _ _ => True) R'.handled (by rfl) (by decide) (by rfl) (by decide) (by decide) (by intro _; rfl) ?_
    repeat walk_at "w1"
    refine it_list (lst_is (N38.get (.head _))) fun it'' h39 X39 => ?_
    refine ⟨_, _, _, X39, by rw [sizeLine_eq]; exact Nat.le_of_ble_eq_true rfl, ?_, ?_, ?_⟩
    · intro C i' v h₃ g₃ d₃ tk₃ o₃ m₃ E' hi2 hP2 F₃ hm
      obtain ⟨b, rfl⟩ : ∃ b, v = .bool b := by
        have hi' : i' < 2 := hi2
        have : i' = 0 ∨ i' = 1 := by omega
        rcases this with rfl | rfl <;> simp at hP2 <;> exact ⟨_, hP2.symm⟩
      show wpAny _ _ (isTrue _ _ _) _ _ _
      repeat walk_at "w1"
      cases b
      · rw [if_pos (by rfl)]
        repeat walk_at "w1"
        rw [if_neg (by decide)]
        exact ⟨rfl, _, _, rfl, Ext.rfl'⟩
      · rw [if_neg (by decide)]
        exact ⟨rfl, _, _, rfl, Ext.rfl'⟩
    · intro C i' v h₃ g₃ d₃ tk₃ o₃ m₃ E' hi2 hP2 hp
      cases hp
    intro D40 h40 tk40 ys40 vs40 hD40 hpl hlen40 hP40 hF40 hx40
    obtain ⟨nn40, ho40⟩ := plain_obj hpl
    have hys40 : ys40.toList = [] := by
      have h0 : vs40.filter (fun _ => false) = [] := by simp
      rw [h0] at hF40
      generalize ys40.toList = l at hF40
      cases hF40; rfl
    have F40 := frGrow F38 hx40
    have N40 := newsGrow N38 hx40
    refine lTrue (vs := []) ⟨_, ho40, rfl, nn40, by rw [← hys40]⟩ (Nat.zero_le _) fun tk41 => ?_
    rw [if_neg (by decide)]
    repeat walk_at "w1"
    have hOin : (O, lst ys m1) ∈ own ++ KK ++ [(O, lst ys m1), (T, lst zs m2)] := List.mem_append_right _ (.head _)
    have hTin : (T, lst zs m2) ∈ own ++ KK ++ [(O, lst ys m1), (T, lst zs m2)] := List.mem_append_right _ (.tail _ (.head _))
    have hpO : p37 ≠ O := (ne_of_get (N36.get (hrest _ hOin)) hp37).symm
    have hpT : p37 ≠ T := (ne_of_get (N36.get (hrest _ hTin)) hp37).symm
    have hownI : ∀ p ∈ own, tag p.2 = 3 := fun p hp => by
      rcases hown p hp with hi | ⟨_, _, _, _, e, _⟩
      · exact tag_iter hi
      · exact e.elim
    have hownO : ∀ p ∈ own, p.1 ≠ O := fun p hp => newsApart N (a := p) (b := (O, lst ys m1)) (List.mem_append_left _ (List.mem_append_left _ hp)) hOin (by rw [hownI p hp]; show (3 : Nat) ≠ 0; decide)
    have hownT : ∀ p ∈ own, p.1 ≠ T := fun p hp => newsApart N (a := p) (b := (T, lst zs m2)) (List.mem_append_left _ (List.mem_append_left _ hp)) hTin (by rw [hownI p hp]; show (3 : Nat) ≠ 0; decide)
    have N41 : News h L h40 (((p37, lst [Value.bool (ell 116 (leftOf its i)), Value.bool (ell 115 (leftOf its i))] 0) :: (own ++ KK)) ++ (O, lst ys m1) :: [(T, lst zs m2)]) := fun p hp => by
      rcases List.mem_append.mp hp with hp | hp
      · rcases List.mem_cons.mp hp with rfl | hp
        · exact N40 _ (.head _)
        · exact N40 p (.tail _ (hrest p (List.mem_append_left _ hp)))
      · exact N40 p (.tail _ (hrest p (List.mem_append_right _ hp)))
    refine ⟨O, ys, m1, rfl, N41.get (by walk_at "mem"), ?_⟩
    repeat walk_at "w1"
    refine gList (l := [.bool (ell 116 (leftOf its i)), .bool (ell 115 (leftOf its i))]) (lst_is (N41.get (.head _))) (by decide) (by decide) (by rfl) ?_ (by with_unfolding_all rfl)
    repeat walk_at "w1"
    rename_i to1 ko1
    have ev : ∀ b : Bool, (1 : Int) - (b.toNat : Int) = ((1 - b.toNat : Nat) : Int) := fun b => by cases b <;> rfl
    rw [ev]
    have hysl : ys.length = i := by rw [hys.length]; simp
    have hzsl : zs.length = i := by rw [hzs.length]; simp
    refine lApp (pre := (p37, lst [Value.bool (ell 116 (leftOf its i)), Value.bool (ell 115 (leftOf its i))] 0) :: (own ++ KK)) (post := [(T, lst zs m2)]) F40 N41 (by omega) ?_ ?_ fun h42 F42 N42 hs42 => ?_
    · intro p hp
      rcases List.mem_cons.mp hp with rfl | hp
      · exact hpO
      rcases List.mem_append.mp hp with hp | hp
      · exact hownO p hp
      · exact hKO p hp
    · intro p hp
      rw [List.mem_singleton.mp hp]; exact hOT.symm
    repeat walk_at "w1"
    have N43 : News h L h42 (((p37, lst [Value.bool (ell 116 (leftOf its i)), Value.bool (ell 115 (leftOf its i))] 0) :: (own ++ KK ++ [(O, lst (ys ++ [Value.int ((1 - (ell 116 (leftOf its i)).toNat : Nat) : Int) to1]) (m1 + 1))])) ++ (T, lst zs m2) :: []) := fun p hp => N42 p (by
      simp only [List.mem_append, List.mem_cons, List.not_mem_nil, or_false] at hp ⊢
      grind)
    refine ⟨T, zs, m2, rfl, N43.get (List.mem_append_right _ (.head _)), ?_⟩
    repeat walk_at "w1"
    refine gList (l := [.bool (ell 116 (leftOf its i)), .bool (ell 115 (leftOf its i))]) (lst_is (N43.get (.head _))) (by decide) (by decide) (by rfl) ?_ (by with_unfolding_all rfl)
    repeat walk_at "w1"
    rename_i to2 ko2
    rw [ev]
    refine lApp (pre := (p37, lst [Value.bool (ell 116 (leftOf its i)), Value.bool (ell 115 (leftOf its i))] 0) :: (own ++ KK ++ [(O, lst (ys ++ [Value.int ((1 - (ell 116 (leftOf its i)).toNat : Nat) : Int) to1]) (m1 + 1))])) (post := []) F42 N43 (by omega) ?_ (fun _ hp => nomatch hp) fun h44 F44 N44 hs44 => ?_
    · intro p hp
      rcases List.mem_cons.mp hp with rfl | hp
      · exact hpT
      rcases List.mem_append.mp hp with hp | hp
      · rcases List.mem_append.mp hp with hp | hp
        · exact hownT p hp
        · exact hKT p hp
      · rw [List.mem_singleton.mp hp]; exact hOT
    repeat walk_at "w1"
    refine .inr ⟨.inl rfl, _, _, _, _, [(O, lst (ys ++ [Value.int ((1 - (ell 116 (leftOf its i)).toNat : Nat) : Int) to1]) (m1 + 1)), (T, lst (zs ++ [Value.int ((1 - (ell 115 (leftOf its i)).toNat : Nat) : Int) to2]) (m2 + 1))], rfl, hb34, F44, ?_, ?_, _, _, _, _, rfl, ?_, ?_, hm1, hm2, hm3, hm4⟩
    · intro p hp
      refine N44 p ?_
      simp only [List.mem_append, List.mem_cons, List.not_mem_nil, or_false] at hp ⊢
      grind
    · intro p hp
      refine noIter_tag ?_
      rcases List.mem_cons.mp hp with rfl | hp
      · show (0 : Nat) ≠ 3; decide
      · rw [List.mem_singleton.mp hp]; show (0 : Nat) ≠ 3; decide
    · rw [List.range_succ, List.map_append]
      exact ints_app hys (.cons _ _ .nil)
    · rw [List.range_succ, List.map_append]
      exact ints_app hzs (.cons _ _ .nil)
  · intro h7 g7 tk7 m7 news7 hb7 F7 N7 hni7 hJ7
    obtain ⟨ys, zs, m1, m2, rfl, hys, hzs, hm1, hm2, hm3, hm4⟩ := hJ7
    have hcl1 : h7.IsCell (L + 1) (some (.int (n0 % 256 : Nat) t_first)) := ⟨oc1, N7.get (List.mem_append_left _ hc1in), hd1⟩
    have hcl2 : h7.IsCell (L + 1 + 1) (some (.int (n1 % 256 : Nat) t_second)) := ⟨oc2, N7.get (List.mem_append_left _ hc2in), hd2⟩
    have hys' : IntsAre ys (((List.range 8).map fun r => 1 - (ell 116 (leftOf its r)).toNat).map fun n : Nat => (n : Int)) := by rw [List.map_map]; exact hys
    have hzs' : IntsAre zs (((List.range 8).map fun r => 1 - (ell 115 (leftOf its r)).toNat).map fun n : Nat => (n : Int)) := by rw [List.map_map]; exact hzs
    repeat walk_at "w1"
    rename_i fT hfT
    refine call_told (k := 0) (R'.less (by omega)) (Fn.ext hfT (frExt F7)) (G.keeps (frExt F7)) (lst_is (N7.get (by walk_at "mem"))) hys' (by simp) fun h8 tk8 p8 y8 hx8 hl8 hi8 => ?_
    rw [hP.one, List.map_map] at hi8
    have F8 := frGrow F7 hx8
    have N8 := newsGrow N7 hx8
    repeat walk_at "w1"
    refine compR 8 (fun _ => true) (fun j y => ∃ t, y = .int (((bit (n0 % 256) j).toNat : Nat) : Int) t) _ F8 N8 R'.handled (by rfl) (by decide) (by rfl) (by decide) (by rfl) (foldSet_call _ _ _ _) (by decide) (fun K hK => ?_) ?_ ?_ ?_
    · repeat walk_at "w1"
      exact hK _ _
    · intro C i t h₃ g₃ d₃ tk₃ o₃ m₃ E' hi F₃ hm
      exact rfl
    · intro C j u h₃ g₃ d₃ tk₃ o₃ m₃ E' hj _ F₃ hm
      have hy1 := (hcl1.keeps hx8).keeps F₃.keep
      repeat walk_at "w1"
      rw [bit_val]
      exact ⟨⟨_, rfl⟩, _, _, rfl, Ext.rfl'⟩
    intro D9 h9 tk9 ws9 nn9 hw9 hx9 F9 N9 hD9
    rw [List.filter_eq_self.mpr (fun _ _ => rfl)] at hw9
    refine lNeI (IsList.ext hl8 hx9) (lst_is (N9.get (.head _))) hi8 (paired_ints (f := fun j => (((bit (n0 % 256) j).toNat : Nat) : Int)) hw9) R'.ult ?_
    repeat walk_at "w1"
    rename_i fU hfU
    refine call_told (k := 0) (R'.less (by omega)) (Fn.ext hfU (frExt F9)) (G.keeps (frExt F9)) (lst_is (N9.get (.tail _ (by walk_at "mem")))) hzs' (by simp) fun h10 tk10 p10 y10 hx10 hl10 hi10 => ?_
    rw [hP.two, List.map_map] at hi10
    have F10 := frGrow F9 hx10
    have N10 := newsGrow N9 hx10
    repeat walk_at "w1"
    refine compR 8 (fun _ => true) (fun j y => ∃ t, y = .int (((bit (n0 % 256 ^^^ n1 % 256) j).toNat : Nat) : Int) t) _ F10 N10 R'.handled (by rfl) (by decide) (by rfl) (by decide) (by rfl) (foldSet_call _ _ _ _) (by decide) (fun K hK => ?_) ?_ ?_ ?_
    · repeat walk_at "w1"
      exact hK _ _
    · intro C i t h₃ g₃ d₃ tk₃ o₃ m₃ E' hi F₃ hm
      exact rfl
    · intro C j u h₃ g₃ d₃ tk₃ o₃ m₃ E' hj _ F₃ hm
      have hy1 := (((hcl1.keeps hx8).keeps hx9).keeps hx10).keeps F₃.keep
      have hy2 := (((hcl2.keeps hx8).keeps hx9).keeps hx10).keeps F₃.keep
      repeat walk_at "w1"
      rw [bitXor_nat]
      repeat walk_at "w1"
      rw [bit_val]
      exact ⟨⟨_, rfl⟩, _, _, rfl, Ext.rfl'⟩
    intro D11 h11 tk11 ws11 nn11 hw11 hx11 F11 N11 hD11
    rw [List.filter_eq_self.mpr (fun _ _ => rfl)] at hw11
    refine lEqI (IsList.ext hl10 hx11) (lst_is (N11.get (.head _))) hi10 (paired_ints (f := fun j => (((bit (n0 % 256 ^^^ n1 % 256) j).toNat : Nat) : Int)) hw11) R'.ult ?_
    exact H _ _ _ F11.keep hb7
end
end Mine
end

section
open PySem PySem.W PyProof.Rows PySem.Calls
set_option maxRecDepth 100000
set_option maxHeartbeats 4000000
set_option linter.unusedVariables false
namespace Mine

theorem b3_low : (b3Pairs.all fun p => decide (p.1 < 917505)) = true := by decide +kernel
theorem lower_low : (UnicodeData.oneLower.all fun e => decide (e.2.1 < 917505)) = true := by decide +kernel
theorem b3_high {c : Nat} (h : 917505 ≤ c) : b3 c = none := by
  unfold b3
  rw [Option.map_eq_none_iff, List.find?_eq_none]
  intro p hp
  have := List.all_eq_true.mp b3_low p hp
  simp only [decide_eq_true_eq] at this
  simp only [beq_iff_eq]
  omega
theorem shifted_none {c : Nat} : ∀ {l : List (Nat × Nat × Nat)}, (∀ e ∈ l, e.2.1 < c) → Unicode.shifted l c = none
  | [], _ => rfl
  | (a, b, t) :: r, h => by
    have hb : b < c := h _ (.head _)
    show (if c < a then none else if c ≤ b then some (t + (c - a)) else Unicode.shifted r c) = none
    split
    · rfl
    · rw [if_neg (by omega)]
      exact shifted_none fun e he => h e (.tail _ he)
theorem lower_high {c : Nat} (h : 917505 ≤ c) : Txt.lower (sl [c]) = sl [c] := by
  have e1 : Unicode.lowerOf c = [c] := by
    unfold Unicode.lowerOf Unicode.image
    have e2 : UnicodeData.severalLower.lookup c = none := by
      show List.lookup c [(0x130, [0x69, 0x307])] = none
      simp [List.lookup, show (c == 0x130) = false by simp; omega]
    rw [e2, shifted_none (l := UnicodeData.oneLower) (fun e he => by
      have := List.all_eq_true.mp lower_low e he
      simp only [decide_eq_true_eq] at this
      omega)]
    rfl
  have e3 : Unicode.lowerAt (sl [c]).cps 0 = [c] := by
    show (if c == 0x3A3 && Unicode.endsWord (sl [c]).cps 0 then [0x3C2] else Unicode.lowerOf c) = [c]
    rw [show (c == 0x3A3) = false by simp; omega, Bool.false_and, if_neg Bool.false_ne_true, e1]
  unfold Txt.lower
  have : placed (sl [c]) (fun i _ => Unicode.lowerAt (sl [c]).cps i) = #[c] := by
    unfold placed
    simp [e3]
  rw [this]
theorem folded_high {c : Nat} (h : 917505 ≤ c) : folded c = [c] := by
  unfold folded
  rw [b3_high h, lower_high h]
  rfl
theorem folded_codes3 : (codes3.all fun c => folded c == [c]) = true := by decide +kernel
theorem folded_marks : folded 92 = [92] ∧ folded 34 = [34] ∧ folded 223 = [115, 115] := by decide +kernel
end Mine
end

section
open PySem PySem.W PyProof.Rows PySem.Calls
set_option maxRecDepth 100000
set_option maxHeartbeats 4000000
set_option linter.unusedVariables false
namespace Mine

def signOk (b c : Nat) : Bool := kBits c == b && decide (128 < c)
theorem ok0 : ((List.range 27).all fun m => signOk 1 (if m < 16 then 65024 + m else codes0.getD (m - 16) 0)) = true := by decide +kernel
theorem ok1 : ((List.range 15).all fun m => signOk 2 (codes1.getD m 0)) = true := by decide +kernel
theorem ok2 : ((List.range 97).all fun m => signOk 4 (if m = 0 then 917505 else 917535 + m)) = true := by decide +kernel
theorem ok3 : ((List.range 640).all fun m => signOk 0 (917632 + m)) = true := by decide +kernel
theorem ok4 : ((List.range 30).all fun m => signOk 0 (917506 + m)) = true := by decide +kernel
theorem ok5 : ((List.range 23).all fun m => signOk 0 (codes3.getD m 0)) = true := by decide +kernel
theorem at_range {f : Nat → Bool} {n m : Nat} (h : ((List.range n).all f) = true) (hm : m < n) : f m = true := List.all_eq_true.mp h m (List.mem_range.mpr hm)
theorem of_ok {b c : Nat} (h : signOk b c = true) : kBits c = b ∧ 128 < c := by
  unfold signOk at h
  simpa using h
theorem kText_self {c : Nat} (h : kBits c ≠ 0) : kText c = [c] := by unfold kText; rw [if_neg h]
theorem kText_fold {c : Nat} (h : kBits c = 0) : kText c = folded c := by unfold kText; rw [if_pos h]
def signBits (t : Nat) : Nat := if t < 3 then 2 ^ t else 0
theorem sign_facts (t n : Nat) (ht : t < 4) : kBits (signCode t n) = signBits t ∧ 128 < signCode t n ∧ kText (signCode t n) = [signCode t n] := by
  have : t = 0 ∨ t = 1 ∨ t = 2 ∨ t = 3 := by omega
  rcases this with rfl | rfl | rfl | rfl
  · have e : signCode 0 n = if n % 27 < 16 then 65024 + n % 27 else codes0.getD (n % 27 - 16) 0 := rfl
    have hA := at_range ok0 (Nat.mod_lt n (by decide : 27 > 0))
    have h := of_ok hA
    rw [← e] at h
    exact ⟨h.1, h.2, kText_self (by rw [h.1]; decide)⟩
  · have e : signCode 1 n = codes1.getD (n % 15) 0 := rfl
    have hA := at_range ok1 (Nat.mod_lt n (by decide : 15 > 0))
    have h := of_ok hA
    rw [← e] at h
    exact ⟨h.1, h.2, kText_self (by rw [h.1]; decide)⟩
  · have e : signCode 2 n = if n % 97 = 0 then 917505 else 917535 + n % 97 := rfl
    have hA := at_range ok2 (Nat.mod_lt n (by decide : 97 > 0))
    have h := of_ok hA
    rw [← e] at h
    exact ⟨h.1, h.2, kText_self (by rw [h.1]; decide)⟩
  · have e : signCode 3 n = if n % 3 = 1 then 917632 + n / 3 % 640 else if n % 3 = 2 then 917506 + n / 3 % 30 else codes3.getD (n / 3 % 23) 0 := rfl
    by_cases h1 : n % 3 = 1
    · rw [if_pos h1] at e
      have hA := at_range ok3 (Nat.mod_lt (n / 3) (by decide : 640 > 0))
      have h := of_ok hA
      rw [← e] at h
      exact ⟨h.1, h.2, by rw [kText_fold h.1, folded_high (by rw [e]; omega)]⟩
    · rw [if_neg h1] at e
      by_cases h2 : n % 3 = 2
      · rw [if_pos h2] at e
        have hA := at_range ok4 (Nat.mod_lt (n / 3) (by decide : 30 > 0))
        have h := of_ok hA
        rw [← e] at h
        exact ⟨h.1, h.2, by rw [kText_fold h.1, folded_high (by rw [e]; omega)]⟩
      · rw [if_neg h2] at e
        have hm := Nat.mod_lt (n / 3) (by decide : 23 > 0)
        have hA := at_range ok5 hm
        have h := of_ok hA
        rw [← e] at h
        refine ⟨h.1, h.2, ?_⟩
        have hmem : signCode 3 n ∈ codes3 := by
          rw [e, List.getD_eq_getElem?_getD, List.getElem?_eq_getElem (by exact hm)]
          exact List.getElem_mem _
        have := List.all_eq_true.mp folded_codes3 _ hmem
        rw [kText_fold h.1]
        simpa using this
theorem mark_facts : kBits 92 = 0 ∧ kBits 34 = 0 ∧ kText 92 = [92] ∧ kText 34 = [34] := by
  have h := folded_marks
  refine ⟨by decide, by decide, ?_, ?_⟩
  · rw [kText_fold (by decide), h.1]
  · rw [kText_fold (by decide), h.2.1]
-- letters
def letterOk (c w : Nat) : Bool := kBits c == 0 && (folded c == [w])
theorem lok0 : ((List.range 9).all fun m => letterOk (letterCode 0 m) 115) = true := by decide +kernel
theorem lok1 : ((List.range 8).all fun m => letterOk (letterCode 1 m) 116) = true := by decide +kernel
theorem letter_facts {c w : Nat} (h : letterOk c w = true) : kBits c = 0 ∧ kText c = [w] := by
  unfold letterOk at h
  simp only [Bool.and_eq_true, beq_iff_eq] at h
  exact ⟨h.1, by rw [kText_fold h.1, h.2]⟩
theorem sharp_facts : kBits 223 = 0 ∧ kText 223 = [115, 115] := ⟨by decide, by rw [kText_fold (by decide), folded_marks.2.2]⟩
theorem lok2 : ((List.range 9).all fun m => letterOk (letterCode 0 m) 115) = true := lok0
end Mine
end

section
open PySem PySem.W PyProof.Rows PySem.Calls
set_option maxRecDepth 100000
set_option maxHeartbeats 4000000
set_option linter.unusedVariables false
namespace Mine

theorem flat_self {l : List Nat} (h : ∀ c ∈ l, kText c = [c]) : (l.map kText).flatten = l := by
  induction l with
  | nil => rfl
  | cons a l ih =>
    rw [List.map_cons, List.flatten_cons, h a (.head _), ih fun c hc => h c (.tail _ hc)]; rfl
theorem mark_self {T n c : Nat} (h : c ∈ markText T n) : kText c = [c] := by
  unfold markText at h
  rcases List.mem_append.mp h with h | h
  · rcases List.mem_append.mp h with h | h
    · rw [List.mem_singleton.mp h]; exact mark_facts.2.2.1
    · obtain ⟨t, ht, rfl⟩ := List.mem_map.mp h
      exact (sign_facts t n (List.mem_range.mp (List.mem_filter.mp ht).1)).2.2
  · rcases List.mem_cons.mp h with rfl | h
    · exact mark_facts.2.2.1
    · rw [List.mem_singleton.mp h]; exact mark_facts.2.2.2
theorem good_mark (T n : Nat) : ((markItem T n).2.1.map kText).flatten = (markItem T n).2.2 := flat_self fun c hc => mark_self hc
theorem letter0 {m : Nat} (h : m < 9) : kBits (letterCode 0 m) = 0 ∧ kText (letterCode 0 m) = [115] := by have hA := at_range lok0 h; exact letter_facts hA
theorem letter1 {m : Nat} (h : m < 8) : kBits (letterCode 1 m) = 0 ∧ kText (letterCode 1 m) = [116] := by have hA := at_range lok1 h; exact letter_facts hA
/-- a word item: its sign counts in no table and means w -/
def IsWord (it : Item) (w : List Nat) : Prop := ∃ c, it = (8, [c], w) ∧ kBits c = 0 ∧ kText c = w
theorem word0 {m : Nat} (h : m < 9) : IsWord (letterItem 0 m 115) [115] := ⟨_, rfl, letter0 h⟩
theorem word1 {m : Nat} (h : m < 8) : IsWord (letterItem 1 m 116) [116] := ⟨_, rfl, letter1 h⟩
theorem word3 (form : Nat) : ∃ w, IsWord (thirdItem form) w ∧ (w = [115] ∨ w = [115, 115]) := by
  unfold thirdItem
  split
  · exact ⟨_, ⟨_, rfl, sharp_facts⟩, .inr rfl⟩
  · rename_i h
    have := Nat.mod_lt (form / 72) (by decide : 10 > 0)
    exact ⟨_, word0 (by omega), .inl rfl⟩
theorem IsWord.good {it : Item} {w : List Nat} (x : IsWord it w) : (it.2.1.map kText).flatten = it.2.2 := by
  obtain ⟨c, rfl, _, h⟩ := x
  simp [h]
theorem IsWord.part {it : Item} {w : List Nat} (x : IsWord it w) (r : Nat) : partOf r it = w := by
  obtain ⟨c, rfl, hb, h⟩ := x
  unfold partOf
  simp [hb, h]
theorem eight_dec : ((List.range 8).all fun r => (8 &&& r != 8)) = true := by decide
theorem IsWord.dead {it : Item} {w : List Nat} (x : IsWord it w) {r : Nat} (hr : r < 8) : it.1 &&& r ≠ it.1 := by
  obtain ⟨c, rfl, _, _⟩ := x
  have := at_range eight_dec hr
  simpa using this

def keepTs (T r : Nat) : List Nat := ((List.range 4).filter (bit T)).filter fun t => signBits t &&& r == 0
theorem keep_dec : ((List.range 16).all fun T => (List.range 8).all fun r => ((keepTs T r).isEmpty == (T &&& r == T))) = true := by decide +kernel
theorem part_mark (T n r : Nat) : partOf r (markItem T n) = [92] ++ (keepTs T r).map (fun t => signCode t n) ++ [92, 34] := by
  have e1 : ((markItem T n).2.1.filter fun c => kBits c &&& r == 0) = [92] ++ (keepTs T r).map (fun t => signCode t n) ++ [92, 34] := by
    show ((markText T n).filter fun c => kBits c &&& r == 0) = _
    unfold markText
    rw [List.filter_append, List.filter_append]
    have m1 := mark_facts.1
    have m2 := mark_facts.2.1
    have h1 : ([92] : List Nat).filter (fun c => kBits c &&& r == 0) = [92] := by simp [m1]
    have h2 : ([92, 34] : List Nat).filter (fun c => kBits c &&& r == 0) = [92, 34] := by simp [m1, m2]
    rw [h1, h2]
    congr 2
    unfold markSigns keepTs
    rw [List.filter_map]
    congr 1
    apply List.filter_congr
    intro t ht
    have := (sign_facts t n (List.mem_range.mp (List.mem_filter.mp ht).1)).1
    simp [this]
  unfold partOf
  rw [e1]
  refine flat_self fun c hc => ?_
  have : c ∈ ((markItem T n).2.1.filter fun c => kBits c &&& r == 0) := by rw [e1]; exact hc
  exact mark_self (List.mem_filter.mp this).1
/-- a mark item under a reader: live, or dead -/
def MarkOK (r : Nat) (it : Item) : Prop :=
  (partOf r it = [92, 92, 34] ∧ it.1 &&& r = it.1) ∨ (∃ c ks, partOf r it = 92 :: c :: (ks ++ [92, 34]) ∧ (∀ y ∈ c :: ks, 128 < y) ∧ it.1 &&& r ≠ it.1)
theorem mark_ok {T n r : Nat} (hT : T < 16) (hr : r < 8) : MarkOK r (markItem T n) := by
  have h := at_range (at_range keep_dec hT) hr
  have hp := part_mark T n r
  have hsz : ∀ y ∈ (keepTs T r).map (fun t => signCode t n), 128 < y := fun y hy => by
    obtain ⟨t, ht, rfl⟩ := List.mem_map.mp hy
    exact (sign_facts t n (List.mem_range.mp (List.mem_filter.mp (List.mem_filter.mp ht).1).1)).2.1
  cases hk : keepTs T r with
  | nil =>
    rw [hk] at h hp
    left
    exact ⟨hp, by show T &&& r = T; simpa using h⟩
  | cons t ts =>
    rw [hk] at h hp hsz
    right
    refine ⟨signCode t n, ts.map fun t => signCode t n, by rw [hp]; simp, by simpa using hsz, ?_⟩
    show ¬ (T &&& r = T)
    simpa using h
end Mine
end

section
open PySem PySem.W PyProof.Rows PySem.Calls
set_option maxRecDepth 100000
set_option maxHeartbeats 4000000
set_option linter.unusedVariables false
namespace Mine

noncomputable def scan (L : List Nat) : Nat → Bool → SSt → List Nat → SSt × Bool
  | k, esc, st, [] => (st, esc)
  | k, true, st, c :: r => scan L (k + 1) false st r
  | k, false, st, c :: r => if c = 92 then scan L (k + 1) true st r else scan L (k + 1) false (if c = 34 then sStep L st (k, [34]) else st) r
theorem sStep_ne {L : List Nat} {st : SSt} {x : Nat × List Nat} (h : x.2 ≠ [34]) : sStep L st x = st := by unfold sStep; rw [if_neg h]
theorem scan_eq (L : List Nat) : ∀ (l : List Nat) (k : Nat) (esc : Bool) (st : SSt), (escs k esc l).foldl (sStep L) st = (scan L k esc st l).1
  | [], k, esc, st => by
    cases esc
    · rfl
    · show sStep L st (k - 1, [92]) = st
      exact sStep_ne (by simp)
  | c :: r, k, true, st => by
    show ((k, [92, c]) :: escs (k + 1) false r).foldl (sStep L) st = (scan L (k + 1) false st r).1
    rw [List.foldl_cons, sStep_ne (by simp)]
    exact scan_eq L r (k + 1) false st
  | c :: r, k, false, st => by
    by_cases h : c = 92
    · have e1 : escs k false (c :: r) = escs (k + 1) true r := by simp [escs, h]
      have e2 : scan L k false st (c :: r) = scan L (k + 1) true st r := by simp [scan, h]
      rw [e1, e2]
      exact scan_eq L r (k + 1) true st
    · have e1 : escs k false (c :: r) = (k, [c]) :: escs (k + 1) false r := by simp [escs, h]
      have e2 : scan L k false st (c :: r) = scan L (k + 1) false (if c = 34 then sStep L st (k, [34]) else st) r := by simp [scan, h]
      rw [e1, e2, List.foldl_cons, ← scan_eq L r (k + 1) false]
      congr 1
      by_cases h2 : c = 34
      · rw [if_pos h2, h2]
      · rw [if_neg h2, sStep_ne (by simpa using h2)]
theorem scan_app (L : List Nat) : ∀ (a b : List Nat) (k : Nat) (esc : Bool) (st : SSt), scan L k esc st (a ++ b) = scan L (k + a.length) (scan L k esc st a).2 (scan L k esc st a).1 b
  | [], b, k, esc, st => rfl
  | c :: r, b, k, true, st => by
    show scan L (k + 1) false st (r ++ b) = _
    rw [scan_app L r b (k + 1) false st, List.length_cons, show k + (r.length + 1) = k + 1 + r.length by omega]
    rfl
  | c :: r, b, k, false, st => by
    rw [List.cons_append, List.length_cons, show k + (r.length + 1) = k + 1 + r.length by omega]
    by_cases h : c = 92
    · simp only [scan, if_pos h]
      exact scan_app L r b (k + 1) true st
    · simp only [scan, if_neg h]
      exact scan_app L r b (k + 1) false _
theorem scan_plain (L : List Nat) : ∀ (w : List Nat) (k : Nat) (st : SSt), (∀ y ∈ w, y ≠ 92 ∧ y ≠ 34) → scan L k false st w = (st, false)
  | [], k, st, _ => rfl
  | c :: r, k, st, h => by
    have hc := h c (.head _)
    simp only [scan, if_neg hc.1, if_neg hc.2]
    exact scan_plain L r (k + 1) st fun y hy => h y (.tail _ hy)
theorem scan_no34 (L : List Nat) : ∀ (w : List Nat) (k : Nat) (esc : Bool) (st : SSt), (∀ y ∈ w, y ≠ 34) → (scan L k esc st w).1 = st
  | [], k, esc, st, _ => rfl
  | c :: r, k, true, st, h => scan_no34 L r (k + 1) false st fun y hy => h y (.tail _ hy)
  | c :: r, k, false, st, h => by
    have hc := h c (.head _)
    by_cases h9 : c = 92
    · simp only [scan, if_pos h9]
      exact scan_no34 L r (k + 1) true st fun y hy => h y (.tail _ hy)
    · simp only [scan, if_neg h9, if_neg hc]
      exact scan_no34 L r (k + 1) false st fun y hy => h y (.tail _ hy)
theorem scan_dead (L : List Nat) {c : Nat} {ks : List Nat} (k : Nat) (st : SSt) (h : ∀ y ∈ c :: ks, 128 < y) : scan L k false st (92 :: c :: (ks ++ [92, 34])) = (st, false) := by
  have h1 : scan L k false st (92 :: c :: (ks ++ [92, 34])) = scan L (k + 1 + 1) false st (ks ++ [92, 34]) := by simp [scan]
  have hp := scan_plain L ks (k + 1 + 1) st fun y hy => by have := h y (.tail _ hy); omega
  rw [h1, scan_app, hp]
  simp [scan]
theorem scan_live (L : List Nat) (k : Nat) (st : SSt) : scan L k false st [92, 92, 34] = (sStep L st (k + 2, [34]), false) := by
  simp [scan]

noncomputable def stripF (L : List Nat) : List Nat := (scan L 0 false ⟨0, none, []⟩ L).1.out.flatten ++ L.drop (scan L 0 false ⟨0, none, []⟩ L).1.start
theorem stripOf_eq (L : List Nat) : stripOf L = stripF L := by
  unfold stripOf stripF
  split
  · dsimp only
    rw [scan_eq]
    generalize (scan L 0 false ⟨0, none, []⟩ L).1 = st
    split
    · simp
    · rename_i h
      rw [List.drop_of_length_le (by omega)]
      simp
  · rename_i h
    have : ∀ y ∈ L, y ≠ 34 := fun y hy e => h (List.contains_iff_mem.mpr (e ▸ hy))
    rw [scan_no34 L L 0 false _ this]
    simp

def Inv (L : List Nat) (k : Nat) (b : BSt) (st : SSt) : Prop :=
  (b.inside = false ∧ st.op = none ∧ st.start ≤ k ∧ st.out.flatten ++ (L.take k).drop st.start = b.due ∧ b.shut = []) ∨
  (b.inside = true ∧ ∃ o, st.op = some o ∧ st.start ≤ o ∧ o < k ∧ st.out.flatten ++ (L.take o).drop st.start = b.due ∧ b.shut = (L.take k).drop o)
def PK (r : Nat) (it : Item) : Prop := MarkOK r it ∨ ((∀ y ∈ partOf r it, y ≠ 92 ∧ y ≠ 34) ∧ it.1 &&& r ≠ it.1)

theorem take_add {A p B : List Nat} {k : Nat} (hA : A.length = k) : (A ++ (p ++ B)).take (k + p.length) = A ++ p := by
  rw [← List.append_assoc, List.take_append_of_le_length (by simp; omega), List.take_of_length_le (by simp; omega)]
theorem take_k {A B : List Nat} {k : Nat} (hA : A.length = k) : (A ++ B).take k = A := by
  rw [← hA, List.take_left']; rfl
theorem inv_step {L A B : List Nat} {k r : Nat} {b : BSt} {st : SSt} {it : Item} (hL : L = A ++ (partOf r it ++ B)) (hA : A.length = k) (h : Inv L k b st) (hk : PK r it) :
    (scan L k false st (partOf r it)).2 = false ∧ Inv L (k + (partOf r it).length) (bStep r b it) (scan L k false st (partOf r it)).1 := by
  have tk : L.take k = A := by rw [hL]; exact take_k hA
  have tk2 : L.take (k + (partOf r it).length) = A ++ partOf r it := by rw [hL]; exact take_add hA
  have quiet : scan L k false st (partOf r it) = (st, false) → it.1 &&& r ≠ it.1 → (scan L k false st (partOf r it)).2 = false ∧ Inv L (k + (partOf r it).length) (bStep r b it) (scan L k false st (partOf r it)).1 := fun hs hn => by
    rw [hs]
    refine ⟨rfl, ?_⟩
    show Inv L (k + (partOf r it).length) (bStep r b it) st
    rcases h with ⟨h1, h2, h3, h4, h5⟩ | ⟨h1, o, h2, h3, h4, h5, h6⟩
    · have e : bStep r b it = ⟨b.text ++ partOf r it, b.due ++ partOf r it, b.shut, false⟩ := by unfold bStep; dsimp only; rw [if_neg hn, h1, if_neg Bool.false_ne_true]
      rw [e]
      refine .inl ⟨rfl, h2, by omega, ?_, h5⟩
      rw [tk2, List.drop_append_of_le_length (by omega), ← List.append_assoc, ← h4, tk]
    · have e : bStep r b it = ⟨b.text ++ partOf r it, b.due, b.shut ++ partOf r it, true⟩ := by unfold bStep; dsimp only; rw [if_neg hn, h1, if_pos rfl]
      rw [e]
      refine .inr ⟨rfl, o, h2, h3, by omega, h5, ?_⟩
      show b.shut ++ partOf r it = _
      rw [tk2, List.drop_append_of_le_length (by omega), h6, tk]
  rcases hk with (⟨hp, hlive⟩ | ⟨c, ks, hp, hc, hn⟩) | ⟨hw, hn⟩
  · rw [hp, scan_live]
    refine ⟨rfl, ?_⟩
    have tk3 : L.take (k + 3) = A ++ [92, 92, 34] := by rw [hp] at tk2; exact tk2
    have tk4 : L.take (k + 2) = A ++ [92, 92] := by
      have : L.take (k + 2) = (L.take (k + 3)).take (k + 2) := by rw [List.take_take]; congr 1; omega
      rw [this, tk3, List.take_append, hA]
      simp [List.take_of_length_le (show A.length ≤ k + 2 by omega)]
    rcases h with ⟨h1, h2, h3, h4, h5⟩ | ⟨h1, o, h2, h3, h4, h5, h6⟩
    · have e : bStep r b it = ⟨b.text ++ [92, 92, 34], b.due ++ [92, 92], [34], true⟩ := by unfold bStep; dsimp only; rw [if_pos hlive, h1, if_neg Bool.false_ne_true, hp]; rfl
      have e2 : sStep L st (k + 2, [34]) = ⟨st.start, some (k + 2), st.out⟩ := by unfold sStep; rw [if_pos rfl, h2]
      rw [e, e2]
      refine .inr ⟨rfl, k + 2, rfl, by show st.start ≤ k + 2; omega, by show k + 2 < k + 3; omega, ?_, ?_⟩
      · show st.out.flatten ++ (L.take (k + 2)).drop st.start = b.due ++ [92, 92]
        rw [tk4, List.drop_append_of_le_length (by omega), ← List.append_assoc, ← h4, tk]
      · show [34] = (L.take (k + 3)).drop (k + 2)
        rw [tk3, List.drop_append, hA, List.drop_of_length_le (by omega)]
        simp
    · have e : bStep r b it = ⟨b.text ++ [92, 92, 34], b.due, [], false⟩ := by unfold bStep; dsimp only; rw [if_pos hlive, h1, if_pos rfl, hp]
      have e2 : sStep L st (k + 2, [34]) = ⟨k + 2 + 1, none, if st.start = o then st.out else st.out ++ [(L.drop st.start).take (o - st.start)]⟩ := by unfold sStep; rw [if_pos rfl, h2]
      rw [e, e2]
      refine .inl ⟨rfl, rfl, by show k + 2 + 1 ≤ k + 3; omega, ?_, rfl⟩
      show (if st.start = o then st.out else st.out ++ [(L.drop st.start).take (o - st.start)]).flatten ++ (L.take (k + 3)).drop (k + 2 + 1) = b.due
      have hz : (L.take (k + 3)).drop (k + 2 + 1) = [] := List.drop_of_length_le (by rw [tk3]; simp; omega)
      rw [hz, List.append_nil, ← h5]
      split
      · rename_i hh
        rw [hh, List.drop_of_length_le (by simp; omega), List.append_nil]
      · rw [List.flatten_append, List.drop_take]
        simp
  · have hs := scan_dead L k st hc
    rw [← hp] at hs
    exact quiet hs hn
  · exact quiet (scan_plain L _ k st hw) hn
theorem inv_run {L : List Nat} {r : Nat} : ∀ (xs : List Item) (A B : List Nat) (k : Nat) (b : BSt) (st : SSt), L = A ++ ((xs.map (partOf r)).flatten ++ B) → A.length = k → Inv L k b st → (∀ it ∈ xs, PK r it) →
    (scan L k false st (xs.map (partOf r)).flatten).2 = false ∧ Inv L (k + (xs.map (partOf r)).flatten.length) (xs.foldl (bStep r) b) (scan L k false st (xs.map (partOf r)).flatten).1
  | [], A, B, k, b, st, _, _, h, _ => ⟨rfl, h⟩
  | it :: xs, A, B, k, b, st, hL, hA, h, hk => by
    have hL' : L = A ++ (partOf r it ++ ((xs.map (partOf r)).flatten ++ B)) := by rw [hL]; simp
    have h1 := inv_step hL' hA h (hk it (.head _))
    have h2 := inv_run xs (A ++ partOf r it) B (k + (partOf r it).length) (bStep r b it) (scan L k false st (partOf r it)).1 (by rw [hL]; simp) (by simp [hA]) h1.2 fun i hi => hk i (.tail _ hi)
    have e : ((it :: xs).map (partOf r)).flatten = partOf r it ++ (xs.map (partOf r)).flatten := by simp
    rw [e, scan_app, h1.1, List.length_append, ← Nat.add_assoc]
    exact h2
theorem text_run (r : Nat) : ∀ (xs : List Item) (b : BSt), (xs.foldl (bStep r) b).text = b.text ++ (xs.map (partOf r)).flatten
  | [], b => by simp
  | it :: xs, b => by
    rw [List.foldl_cons, text_run r xs]
    have : (bStep r b it).text = b.text ++ partOf r it := by
      unfold bStep; dsimp only
      split
      · split <;> rfl
      · split <;> rfl
    rw [this]; simp
def b00 : BSt := ⟨[], [], [], false⟩
theorem strip_run {r : Nat} (xs : List Item) (pre e : List Nat) (hpre : pre = [] ∨ pre = [34, 34]) (he : ∀ y ∈ e, y ≠ 34) (hk : ∀ it ∈ xs, PK r it) :
    stripOf (pre ++ (xs.foldl (bStep r) b00).text ++ e) = (xs.foldl (bStep r) b00).due ++ (xs.foldl (bStep r) b00).shut ++ e := by
  have ht : (xs.foldl (bStep r) b00).text = (xs.map (partOf r)).flatten := by rw [text_run]; rfl
  rw [ht, stripOf_eq]
  generalize hL : pre ++ (xs.map (partOf r)).flatten ++ e = L
  have hLr : L = pre ++ ((xs.map (partOf r)).flatten ++ e) := by rw [← hL]; simp
  have h0 : (scan L 0 false ⟨0, none, []⟩ pre).2 = false ∧ Inv L pre.length b00 (scan L 0 false ⟨0, none, []⟩ pre).1 := by
    rcases hpre with rfl | rfl
    · exact ⟨rfl, .inl ⟨rfl, rfl, Nat.le_refl _, by simp [b00, scan], rfl⟩⟩
    · have e1 : scan L 0 false ⟨0, none, []⟩ [34, 34] = (⟨2, none, []⟩, false) := by simp [scan, sStep]
      rw [e1]
      exact ⟨rfl, .inl ⟨rfl, rfl, Nat.le_refl _, by simp [b00], rfl⟩⟩
  have h1 := inv_run xs pre e pre.length b00 (scan L 0 false ⟨0, none, []⟩ pre).1 hLr rfl h0.2 hk
  have h2 : (scan L 0 false ⟨0, none, []⟩ L).1 = (scan L pre.length false (scan L 0 false ⟨0, none, []⟩ pre).1 (xs.map (partOf r)).flatten).1 := by
    conv => lhs; rw [show scan L 0 false ⟨0, none, []⟩ L = scan L 0 false ⟨0, none, []⟩ (pre ++ ((xs.map (partOf r)).flatten ++ e)) from by rw [← hLr]]
    rw [scan_app, h0.1, Nat.zero_add, scan_app, h1.1]
    exact scan_no34 L e _ _ _ he
  have hT : L.take (pre.length + (xs.map (partOf r)).flatten.length) = pre ++ (xs.map (partOf r)).flatten := by rw [hLr]; exact take_add rfl
  unfold stripF
  rw [h2]
  generalize (scan L pre.length false (scan L 0 false ⟨0, none, []⟩ pre).1 (xs.map (partOf r)).flatten).1 = st at *
  generalize xs.foldl (bStep r) b00 = b at *
  have hLd : ∀ s, s ≤ pre.length + (xs.map (partOf r)).flatten.length → L.drop s = (pre ++ (xs.map (partOf r)).flatten).drop s ++ e := fun s hs => by
    rw [← hL, List.drop_append_of_le_length (by rw [List.length_append]; exact hs)]
  rcases h1.2 with ⟨_, _, h3, h4, h5⟩ | ⟨_, o, _, h3, h4, h5, h6⟩
  · rw [hLd _ h3, h5, ← h4, hT]
    simp
  · rw [hLd _ (by omega), h6, ← h5, hT]
    have e2 : (pre ++ (xs.map (partOf r)).flatten).drop st.start = (L.take o).drop st.start ++ (pre ++ (xs.map (partOf r)).flatten).drop o := by
      rw [← hT]
      have e3 : L.take o = (L.take (pre.length + (xs.map (partOf r)).flatten.length)).take o := by rw [List.take_take]; congr 1; omega
      rw [e3]
      generalize L.take (pre.length + (xs.map (partOf r)).flatten.length) = Z
      conv => lhs; rw [← List.take_append_drop o Z]
      by_cases ho : o ≤ Z.length
      · rw [List.drop_append_of_le_length (by rw [List.length_take]; omega)]
      · rw [List.take_of_length_le (by omega), List.drop_of_length_le (show Z.length ≤ o by omega)]; simp
    rw [e2]
    simp
end Mine
end

section
open PySem PySem.W PyProof.Rows PySem.Calls
set_option maxRecDepth 100000
set_option maxHeartbeats 4000000
set_option linter.unusedVariables false
namespace Mine

def lives (r : Nat) (it : Item) : Bool := it.1 &&& r == it.1
def parB (r : Nat) (B : List Item) : Bool := B.foldr (fun it p => xor (lives r it) p) false
/-- after marks: what came to due has no letter -/
theorem blk_run {r : Nat} : ∀ (B : List Item) (st : BSt), (∀ it ∈ B, MarkOK r it) → (st.inside = false → st.shut = []) →
    ∃ E, (B.foldl (bStep r) st).due = st.due ++ E ∧ (∀ y ∈ E, y ≠ 115 ∧ y ≠ 116) ∧ (B.foldl (bStep r) st).inside = xor st.inside (parB r B) ∧ ((B.foldl (bStep r) st).inside = false → (B.foldl (bStep r) st).shut = [])
  | [], st, _, hs => ⟨[], by simp, by simp, by simp [parB], hs⟩
  | it :: B, st, hB, hs => by
    have hstep : ∃ E, (bStep r st it).due = st.due ++ E ∧ (∀ y ∈ E, y ≠ 115 ∧ y ≠ 116) ∧ (bStep r st it).inside = xor st.inside (lives r it) ∧ ((bStep r st it).inside = false → (bStep r st it).shut = []) := by
      rcases hB it (.head _) with ⟨hp, hl⟩ | ⟨c, ks, hp, hc, hl⟩
      · have e1 : lives r it = true := by unfold lives; rw [hl]; simp
        rw [e1]
        cases hi : st.inside
        · have e : bStep r st it = ⟨st.text ++ [92, 92, 34], st.due ++ [92, 92], [34], true⟩ := by unfold bStep; dsimp only; rw [if_pos hl, hi, if_neg Bool.false_ne_true, hp]; rfl
          rw [e]
          exact ⟨[92, 92], rfl, by simp, rfl, fun h => by cases h⟩
        · have e : bStep r st it = ⟨st.text ++ [92, 92, 34], st.due, [], false⟩ := by unfold bStep; dsimp only; rw [if_pos hl, hi, if_pos rfl, hp]
          rw [e]
          exact ⟨[], by simp, by simp, rfl, fun _ => rfl⟩
      · have e1 : lives r it = false := by unfold lives; simpa using hl
        rw [e1]
        have hpy : ∀ y ∈ partOf r it, y ≠ 115 ∧ y ≠ 116 := fun y hy => by
          rw [hp] at hy
          rcases List.mem_cons.mp hy with rfl | hy
          · decide
          rcases List.mem_cons.mp hy with rfl | hy
          · have := hc y (.head _); omega
          rcases List.mem_append.mp hy with hy | hy
          · have := hc y (.tail _ hy); omega
          · rcases List.mem_cons.mp hy with rfl | hy
            · decide
            · rw [List.mem_singleton.mp hy]; decide
        cases hi : st.inside
        · have e : bStep r st it = ⟨st.text ++ partOf r it, st.due ++ partOf r it, st.shut, false⟩ := by unfold bStep; dsimp only; rw [if_neg hl, hi, if_neg Bool.false_ne_true]
          rw [e]
          exact ⟨partOf r it, rfl, hpy, rfl, fun _ => hs hi⟩
        · have e : bStep r st it = ⟨st.text ++ partOf r it, st.due, st.shut ++ partOf r it, true⟩ := by unfold bStep; dsimp only; rw [if_neg hl, hi, if_pos rfl]
          rw [e]
          exact ⟨[], by simp, by simp, rfl, fun h => by cases h⟩
    obtain ⟨E1, h1, h2, h3, h4⟩ := hstep
    obtain ⟨E2, k1, k2, k3, k4⟩ := blk_run B (bStep r st it) (fun i hi => hB i (.tail _ hi)) h4
    refine ⟨E1 ++ E2, ?_, ?_, ?_, k4⟩
    · rw [List.foldl_cons, k1, h1]; simp
    · intro y hy
      rcases List.mem_append.mp hy with hy | hy
      · exact h2 y hy
      · exact k2 y hy
    · rw [List.foldl_cons, k3, h3]
      show xor (xor st.inside (lives r it)) (parB r B) = xor st.inside (xor (lives r it) (parB r B))
      rw [Bool.xor_assoc]
theorem word_step {r : Nat} {it : Item} {w : List Nat} (x : IsWord it w) (hr : r < 8) (st : BSt) :
    (bStep r st it).inside = st.inside ∧ (bStep r st it).due = st.due ++ (if st.inside then [] else w) ∧ (bStep r st it).shut = st.shut ++ (if st.inside then w else []) := by
  have hd := x.dead hr
  have hp := x.part r
  unfold bStep
  dsimp only
  rw [if_neg hd, hp]
  cases hi : st.inside
  · simp
  · simp
theorem ell_form (c : Nat) (M : List Nat) : ell c (115 :: (M ++ [115])) = M.contains c := by
  unfold ell
  have e1 : (115 :: (M ++ [115])).head? = some 115 := rfl
  have e2 : (115 :: (M ++ [115])).getLast? = some 115 := by
    show ((115 :: M) ++ [115]).getLast? = some 115
    exact List.getLast?_concat
  have e3 : 2 ≤ (115 :: (M ++ [115])).length := by simp
  have e4 : ((115 :: (M ++ [115])).drop 1).take ((115 :: (M ++ [115])).length - 1 - 1) = M := by simp
  rw [e1, e2, e4, decide_eq_true rfl, decide_eq_true e3]
  rfl

def zeta (c r : Nat) : Bool := ((List.range 8).filter (bit c)).foldr (fun T p => xor (T &&& r == T) p) false
theorem par_marks (c n r : Nat) : parB r (marksOf c n) = zeta c r := by
  unfold parB marksOf zeta
  rw [List.foldr_map]
  rfl
theorem foldr_filter_xor (f : Nat → Bool) (p : Nat → Bool) : ∀ l : List Nat, (l.filter p).foldr (fun T q => xor (f T) q) false = l.foldr (fun T q => xor (p T && f T) q) false
  | [] => rfl
  | a :: l => by
    rw [List.filter_cons]
    cases h : p a
    · simp [h, foldr_filter_xor f p l]
    · simp [h, foldr_filter_xor f p l]
theorem foldr_xor (f g h : Nat → Bool) (e : ∀ T, h T = xor (f T) (g T)) : ∀ l : List Nat, l.foldr (fun T q => xor (h T) q) false = xor (l.foldr (fun T q => xor (f T) q) false) (l.foldr (fun T q => xor (g T) q) false)
  | [] => rfl
  | a :: l => by
    simp only [List.foldr_cons]
    rw [foldr_xor f g h e l, e a]
    generalize l.foldr (fun T q => xor (f T) q) false = x
    generalize l.foldr (fun T q => xor (g T) q) false = y
    cases f a <;> cases g a <;> cases x <;> cases y <;> rfl
theorem zeta_xor (a b r : Nat) : zeta (a ^^^ b) r = xor (zeta a r) (zeta b r) := by
  unfold zeta
  rw [foldr_filter_xor, foldr_filter_xor, foldr_filter_xor]
  refine foldr_xor _ _ _ (fun T => ?_) _
  unfold bit
  rw [Nat.testBit_xor]
  cases a.testBit T <;> cases b.testBit T <;> cases (T &&& r == T) <;> rfl
theorem told_dec : ((List.range 256).all fun c => told ((List.range 8).map fun r => (zeta c r).toNat) == (List.range 8).map fun t => (bit c t).toNat) = true := by decide +kernel
theorem told_zeta {c : Nat} (h : c < 256) : told ((List.range 8).map fun r => (zeta c r).toNat) = (List.range 8).map fun t => (bit c t).toNat := by
  have := at_range told_dec h
  simpa using this
end Mine
end

section
open PySem PySem.W PyProof.Rows PySem.Calls
set_option maxRecDepth 100000
set_option maxHeartbeats 4000000
set_option linter.unusedVariables false
namespace Mine

section
variable (a b g0 g1 g2 g3 : Nat)
theorem m9 (n : Nat) : n % 9 < 9 := Nat.mod_lt _ (by decide)
theorem m8 (n : Nat) : n % 8 < 8 := Nat.mod_lt _ (by decide)
theorem mem_marks {c n : Nat} {it : Item} (h : it ∈ marksOf c n) : ∃ T k, T < 16 ∧ it = markItem T k := by
  obtain ⟨T, hT, rfl⟩ := List.mem_map.mp h
  exact ⟨T, _, Nat.lt_trans (List.mem_range.mp (List.mem_filter.mp hT).1) (by decide), rfl⟩
/-- every item is a word or a mark -/
theorem items_kind {it : Item} (h : it ∈ itemsOf a b g0 g1 g2 g3) : (∃ w, IsWord it w ∧ (w = [115] ∨ w = [116] ∨ w = [115, 115])) ∨ ∃ T n, T < 16 ∧ it = markItem T n := by
  unfold itemsOf at h
  simp only [List.mem_append, List.mem_singleton] at h
  rcases h with (((((((h | h) | h) | h) | h) | h) | h) | h) | h
  · exact .inl ⟨_, h ▸ word0 (m9 _), .inl rfl⟩
  · exact .inr (mem_marks h)
  · exact .inl ⟨_, h ▸ word1 (m8 _), .inr (.inl rfl)⟩
  · exact .inr ⟨_, _, by have := m8 g1; omega, h⟩
  · exact .inr (mem_marks h)
  · obtain ⟨w, hw, hs⟩ := word3 g3
    exact .inl ⟨w, h ▸ hw, hs.elim .inl fun e => .inr (.inr e)⟩
  · exact .inr (mem_marks h)
  · exact .inr ⟨_, _, by have := m8 (g3 / 6480); omega, h⟩
  · exact .inl ⟨_, h ▸ word0 (m9 _), .inl rfl⟩
theorem items_good {it : Item} (h : it ∈ itemsOf a b g0 g1 g2 g3) : (it.2.1.map kText).flatten = it.2.2 := by
  rcases items_kind a b g0 g1 g2 g3 h with ⟨w, hw, _⟩ | ⟨T, n, _, rfl⟩
  · exact hw.good
  · exact good_mark T n
theorem items_pk {it : Item} (h : it ∈ itemsOf a b g0 g1 g2 g3) {r : Nat} (hr : r < 8) : PK r it := by
  rcases items_kind a b g0 g1 g2 g3 h with ⟨w, hw, hs⟩ | ⟨T, n, hT, rfl⟩
  · refine .inr ⟨?_, hw.dead hr⟩
    rw [hw.part]
    rcases hs with rfl | rfl | rfl <;> simp
  · exact .inl (mark_ok hT hr)
theorem mark_len (T n : Nat) : (markText T n).length ≤ 7 := by
  unfold markText markSigns
  simp only [List.length_append, List.length_map, List.length_cons, List.length_nil]
  have := List.length_filter_le (bit T) (List.range 4)
  simp at this
  omega
theorem item_len {it : Item} (h : it ∈ itemsOf a b g0 g1 g2 g3) : it.2.1.length + it.2.2.length ≤ 14 := by
  rcases items_kind a b g0 g1 g2 g3 h with ⟨w, ⟨c, rfl, _⟩, hs⟩ | ⟨T, n, hT, rfl⟩
  · rcases hs with rfl | rfl | rfl <;> simp
  · show (markText T n).length + (markText T n).length ≤ 14
    have := mark_len T n
    omega
theorem items_len : 6 ≤ (itemsOf a b g0 g1 g2 g3).length ∧ (itemsOf a b g0 g1 g2 g3).length ≤ 30 := by
  unfold itemsOf
  have h1 := marksOf_len a g0
  have h2 := marksOf_len b g1
  have h3 := marksOf_len (a ^^^ b) g2
  simp only [List.length_append, List.length_cons, List.length_nil]
  omega
/-- what is left, seen as first sign, middle, last sign -/
theorem left_form {r : Nat} (hr : r < 8) : ∃ M, leftOf (itemsOf a b g0 g1 g2 g3) r = 115 :: (M ++ [115]) ∧ (M.contains 116 = !(zeta a r)) ∧ (M.contains 115 = !(xor (zeta a r) (zeta b r))) := by
  have e0 : leftOf (itemsOf a b g0 g1 g2 g3) r = ((itemsOf a b g0 g1 g2 g3).foldl (bStep r) b00).due ++ ((itemsOf a b g0 g1 g2 g3).foldl (bStep r) b00).shut := by
    unfold leftOf bPair bAt
    rw [List.take_length]; rfl
  rw [e0]
  have mk : ∀ c n, ∀ it ∈ marksOf c n, MarkOK r it := fun c n it h => by
    obtain ⟨T, k, hT, rfl⟩ := mem_marks h
    exact mark_ok hT hr
  unfold itemsOf
  simp only [List.foldl_append, List.foldl_cons, List.foldl_nil]
  -- first word
  obtain ⟨i1, d1, s1⟩ := word_step (word0 (m9 g3)) hr b00
  have i1' : (bStep r b00 (letterItem 0 (g3 % 9) 115)).inside = false := i1
  have d1' : (bStep r b00 (letterItem 0 (g3 % 9) 115)).due = [115] := d1
  have s1' : (bStep r b00 (letterItem 0 (g3 % 9) 115)).shut = [] := s1
  generalize bStep r b00 (letterItem 0 (g3 % 9) 115) = t1 at *
  -- first row
  obtain ⟨E1, d2, n2, i2, s2⟩ := blk_run (marksOf a g0) t1 (mk _ _) (fun _ => s1')
  rw [par_marks, i1', Bool.false_xor] at i2
  generalize (marksOf a g0).foldl (bStep r) t1 = t2 at *
  -- second word
  obtain ⟨i3, d3, s3⟩ := word_step (word1 (m8 (g3 / 9))) hr t2
  have s3' : (bStep r t2 (letterItem 1 (g3 / 9 % 8) 116)).inside = false → (bStep r t2 (letterItem 1 (g3 / 9 % 8) 116)).shut = [] := fun h => by
    rw [i3] at h
    rw [s3, s2 h, h]; rfl
  generalize bStep r t2 (letterItem 1 (g3 / 9 % 8) 116) = t3 at *
  -- the dead mark and the second row
  obtain ⟨E2, d4, n4, i4, s4⟩ := blk_run (markItem (8 + g1 % 8) (g1 / 8) :: marksOf b g1) t3 (fun it hit => by
    rcases List.mem_cons.mp hit with rfl | hit
    · exact mark_ok (by have := m8 g1; omega) hr
    · exact mk _ _ it hit) s3'
  have pd : parB r (markItem (8 + g1 % 8) (g1 / 8) :: marksOf b g1) = zeta b r := by
    have e1 : parB r (markItem (8 + g1 % 8) (g1 / 8) :: marksOf b g1) = xor (lives r (markItem (8 + g1 % 8) (g1 / 8))) (parB r (marksOf b g1)) := rfl
    have hd : ((List.range 8).all fun S => (List.range 8).all fun r => (8 + S) &&& r != 8 + S) = true := by decide
    have hA := at_range (at_range hd (m8 g1)) hr
    have e2 : lives r (markItem (8 + g1 % 8) (g1 / 8)) = false := by
      show ((8 + g1 % 8) &&& r == 8 + g1 % 8) = false
      simpa using hA
    rw [e1, e2, par_marks, Bool.false_xor]
  rw [pd, i3, i2] at i4
  rw [List.foldl_cons] at d4 i4 s4
  generalize (marksOf b g1).foldl (bStep r) (bStep r t3 (markItem (8 + g1 % 8) (g1 / 8))) = t4 at *
  -- third word
  obtain ⟨w, hw, hws⟩ := word3 g3
  obtain ⟨i5, d5, s5⟩ := word_step hw hr t4
  have s5' : (bStep r t4 (thirdItem g3)).inside = false → (bStep r t4 (thirdItem g3)).shut = [] := fun h => by
    rw [i5] at h
    rw [s5, s4 h, h]; rfl
  generalize bStep r t4 (thirdItem g3) = t5 at *
  -- third row
  obtain ⟨E3, d6, n6, i6, s6⟩ := blk_run (marksOf (a ^^^ b) g2) t5 (mk _ _) s5'
  rw [par_marks, zeta_xor, i5, i4, Bool.xor_self] at i6
  generalize (marksOf (a ^^^ b) g2).foldl (bStep r) t5 = t6 at *
  -- one more mark
  have hx := mark_ok (T := g3 / 6480 % 8) (n := g2) (by have := m8 (g3 / 6480); omega) hr
  have h7 : ∃ E4, (bStep r t6 (markItem (g3 / 6480 % 8) g2)).due ++ (bStep r t6 (markItem (g3 / 6480 % 8) g2)).shut = t6.due ++ E4 ∧ (∀ y ∈ E4, y ≠ 115 ∧ y ≠ 116) ∧ ((bStep r t6 (markItem (g3 / 6480 % 8) g2)).inside = false → (bStep r t6 (markItem (g3 / 6480 % 8) g2)).shut = []) := by
    obtain ⟨E4, d7, n7, i7, s7⟩ := blk_run [markItem (g3 / 6480 % 8) g2] t6 (fun it hit => by rw [List.mem_singleton.mp hit]; exact hx) s6
    simp only [List.foldl_cons, List.foldl_nil] at d7 i7 s7
    rcases hx with ⟨hp, hl⟩ | ⟨c, ks, hp, hc, hl⟩
    · have e : bStep r t6 (markItem (g3 / 6480 % 8) g2) = ⟨t6.text ++ [92, 92, 34], t6.due ++ [92, 92], [34], true⟩ := by unfold bStep; dsimp only; rw [if_pos hl, i6, if_neg Bool.false_ne_true, hp]; rfl
      rw [e]
      exact ⟨[92, 92, 34], by simp, by simp, fun h => by cases h⟩
    · have hl2 : lives r (markItem (g3 / 6480 % 8) g2) = false := by unfold lives; simpa using hl
      have : (bStep r t6 (markItem (g3 / 6480 % 8) g2)).inside = false := by
        rw [i7, i6]
        show xor false (xor (lives r (markItem (g3 / 6480 % 8) g2)) false) = false
        rw [hl2]; rfl
      refine ⟨E4, ?_, n7, s7⟩
      rw [s7 this, d7, List.append_nil]
  obtain ⟨E4, d7, n7, s7⟩ := h7
  generalize bStep r t6 (markItem (g3 / 6480 % 8) g2) = t7 at *
  -- last word
  obtain ⟨i8, d8, s8⟩ := word_step (word0 (m9 (g3 / 720))) hr t7
  have h8 : (bStep r t7 (letterItem 0 (g3 / 720 % 9) 115)).due ++ (bStep r t7 (letterItem 0 (g3 / 720 % 9) 115)).shut = t7.due ++ t7.shut ++ [115] := by
    rw [d8, s8]
    cases hi : t7.inside
    · simp [s7 hi]
    · simp
  rw [h8, d7, d6, d5, d4, d3, d2, d1', i4, i2]
  refine ⟨E1 ++ (if zeta a r then [] else [116]) ++ E2 ++ (if xor (zeta a r) (zeta b r) then [] else w) ++ E3 ++ E4, by simp, ?_, ?_⟩
  · have no : ∀ {E : List Nat}, (∀ y ∈ E, y ≠ 115 ∧ y ≠ 116) → E.contains 116 = false := fun {E} h => by
      rw [← Bool.not_eq_true, List.contains_iff_mem]
      exact fun hm => (h _ hm).2 rfl
    have hwn : (if xor (zeta a r) (zeta b r) then [] else w).contains 116 = false := by
      split
      · rfl
      · rcases hws with rfl | rfl <;> rfl
    have ap : ∀ (x y : List Nat), (x ++ y).contains 116 = (x.contains 116 || y.contains 116) := fun x y => by
      rw [Bool.eq_iff_iff]; simp
    rw [ap, ap, ap, ap, ap, no n2, no n4, no n6, no n7, hwn]
    cases zeta a r <;> rfl
  · have no : ∀ {E : List Nat}, (∀ y ∈ E, y ≠ 115 ∧ y ≠ 116) → E.contains 115 = false := fun {E} h => by
      rw [← Bool.not_eq_true, List.contains_iff_mem]
      exact fun hm => (h _ hm).1 rfl
    have htn : (if zeta a r then [] else [116]).contains 115 = false := by split <;> rfl
    have hwn : (if xor (zeta a r) (zeta b r) then [] else w).contains 115 = !(xor (zeta a r) (zeta b r)) := by
      cases xor (zeta a r) (zeta b r)
      · rcases hws with rfl | rfl <;> rfl
      · rfl
    have ap : ∀ (x y : List Nat), (x ++ y).contains 115 = (x.contains 115 || y.contains 115) := fun x y => by
      rw [Bool.eq_iff_iff]; simp
    rw [ap, ap, ap, ap, ap, no n2, no n4, no n6, no n7, htn, hwn]
    cases xor (zeta a r) (zeta b r) <;> rfl
theorem ell_one {r : Nat} (hr : r < 8) : 1 - (ell 116 (leftOf (itemsOf a b g0 g1 g2 g3) r)).toNat = (zeta a r).toNat := by
  obtain ⟨M, e, h1, _⟩ := left_form a b g0 g1 g2 g3 hr
  rw [e, ell_form, h1]
  cases zeta a r <;> rfl
theorem ell_two {r : Nat} (hr : r < 8) : 1 - (ell 115 (leftOf (itemsOf a b g0 g1 g2 g3) r)).toNat = (zeta (a ^^^ b) r).toNat := by
  obtain ⟨M, e, _, h2⟩ := left_form a b g0 g1 g2 g3 hr
  rw [e, ell_form, h2, zeta_xor]
  cases xor (zeta a r) (zeta b r) <;> rfl
theorem plain_all (ha : a < 256) (hb : b < 256) : Plain a b (itemsOf a b g0 g1 g2 g3) where
  good := fun it h => items_good a b g0 g1 g2 g3 h
  tot := by
    have h := sum_le_mul ((itemsOf a b g0 g1 g2 g3).map fun it => it.2.1.length + it.2.2.length) 14 (by
      intro x hx
      obtain ⟨it, hit, rfl⟩ := List.mem_map.mp hx
      exact item_len a b g0 g1 g2 g3 hit)
    rw [List.length_map] at h
    have := (items_len a b g0 g1 g2 g3).2
    omega
  len := by have := items_len a b g0 g1 g2 g3; omega
  some := by
    obtain ⟨c, e, _⟩ := word0 (m9 g3)
    refine ⟨letterItem 0 (g3 % 9) 115, ?_, c, by rw [e]; exact .head _⟩
    unfold itemsOf
    simp
  whole := fun r hr => by
    have h := strip_run (r := r) (itemsOf a b g0 g1 g2 g3) [34, 34] [] (.inr rfl) (fun _ h => nomatch h) (fun it hit => items_pk a b g0 g1 g2 g3 hit hr)
    rw [List.append_nil, List.append_nil] at h
    unfold leftOf bPair bAt
    rw [List.take_length]
    exact h
  part := fun r j hr hj => by
    have h := strip_run (r := r) ((itemsOf a b g0 g1 g2 g3).take (j + 1)) [] (endOf r) (.inl rfl) (fun y hy => by
      unfold endOf at hy
      split at hy
      · rw [List.mem_singleton.mp hy]; decide
      · cases hy) (fun it hit => items_pk a b g0 g1 g2 g3 (List.mem_of_mem_take hit) hr)
    rw [List.nil_append] at h
    unfold bPair bAt
    exact h
  one := by
    rw [← told_zeta ha]
    congr 1
    exact List.map_congr_left fun r hr => ell_one a b g0 g1 g2 g3 (List.mem_range.mp hr)
  two := by
    rw [← told_zeta (Nat.xor_lt_two_pow (n := 8) ha hb)]
    congr 1
    exact List.map_congr_left fun r hr => ell_two a b g0 g1 g2 g3 (List.mem_range.mp hr)
end
end Mine
end

section
open PySem PySem.W PyProof.Rows PySem.Calls
set_option maxRecDepth 100000
set_option maxHeartbeats 4000000
set_option linter.unusedVariables false
namespace Mine

section
variable {den : Code → Sem Fin} {p : Program} {w : World}
theorem step_done {s s' : Shared} {t : Thread} {f : Flow} (h : step den p w s t = .halt (.done f) s') : through t = true := by
  obtain ⟨heap, gens, drawn, toks, os⟩ := s
  obtain ⟨cur, code, pos, stack⟩ := t
  cases cur <;> simp only [step, finish] at h <;> (repeat' split at h) <;> simp_all [through]
theorem run_before : ∀ {n : Nat} {s s' : Shared} {t : Thread} {f : Flow}, runN den p w n s t = .halted (.done f) s' → ∃ k t', runN den p w k s t = .running s' t' ∧ through t' = true
  | 0, _, _, _, _, h => by cases h
  | n + 1, s, s', t, f, h => by
    simp only [runN] at h
    cases hs : step den p w s t with
    | go s₂ t₂ =>
      rw [hs] at h
      obtain ⟨k, t', hk, ht⟩ := run_before h
      exact ⟨k + 1, t', by simp only [runN, hs]; exact hk, ht⟩
    | halt o s₂ =>
      rw [hs] at h
      cases h
      have := step_halt_same den p w s s' t _ hs
      subst this
      exact ⟨0, t, rfl, step_done hs⟩
theorem runN_halted_eq : ∀ {n m : Nat} {s s1 s2 : Shared} {t : Thread} {o1 o2 : Outcome}, runN den p w n s t = .halted o1 s1 → runN den p w m s t = .halted o2 s2 → o1 = o2
  | 0, _, _, _, _, _, _, _, h, _ => by cases h
  | _ + 1, 0, _, _, _, _, _, _, _, h => by cases h
  | n + 1, m + 1, s, s1, s2, t, o1, o2, h1, h2 => by
    simp only [runN] at h1 h2
    cases hs : step den p w s t with
    | go s₂ t₂ => rw [hs] at h1 h2; exact runN_halted_eq h1 h2
    | halt o s₂ => rw [hs] at h1 h2; cases h1; cases h2; rfl
end
/-- a top that runs through -/
theorem top_through {prog : Program} {w : World} {t : Sem Fin} {s : Shared} {P : Shared → Prop} (hz : s.asleep)
    (h : wpAny (model prog w) callerA t (fun fin s' => fin = .done (.ret .none) ∧ (P s' ∧ s'.gens = #[])) (fun _ _ => False) s) :
    ∃ n s' t', schedN (denote table) prog w n (.single s ⟨t, .builtin "claim.caller" {}, default, []⟩) = .running (.single s' t') ∧ through t' = true ∧ P s' ∧ s'.gens = #[] ∧ s'.heap.life = s.heap.life := by
  have h' := wp_of_wpAny_done (R := fun r s' => (r = .ok (.ret .none) ∧ P s' ∧ s'.gens = #[]) ∧ leftWithCleanup s'.gens = false) caller_in
    (wpAny_mono h (fun fin s' ⟨e, a, b⟩ => ⟨_, e, ⟨rfl, a, b⟩, by rw [b]; simp [leftWithCleanup]⟩) fun _ _ x => x.elim) default
  obtain ⟨n, r, s₁, hn, ⟨rfl, hP, hg⟩⟩ := (wp_iff_halts (M := model prog w) (R := fun r s' => r = .ok (.ret .none) ∧ P s' ∧ s'.gens = #[]) ..).mp h'
  obtain ⟨s₂, hr, hf, hc⟩ := runNI_real _ _ _ hn (outcomeOf_ends _)
  obtain rfl : s₂ = s₁ := Shared.eq_of_forget_eq hf hg
  obtain ⟨k, t', hk, ht⟩ := run_before (f := .ret .none) hr
  have hseq : Sequential (denote table) prog w s ⟨t, .builtin "claim.caller" {}, default, []⟩ := ⟨hc, fun k s' e => by
    have := runN_halted_eq hr e
    cases this⟩
  have hs := schedN_eq_runN (denote table) prog w s _ hz hseq k
  refine ⟨k, s₂, t', ?_, ht, hP, hg, runN_life (s := s) _ _ _ hr⟩
  rw [hs]
  exact congrArg Run.lift hk
end Mine
end

section
open PySem PySem.W PyProof.Rows PySem.Calls
set_option maxRecDepth 100000
set_option maxHeartbeats 4000000
set_option linter.unusedVariables false
namespace Mine
theorem bh_main (P : Params) : (boot_heap P).isNs mainGlobals = true := by kernel_rfl
theorem bh_blt (P : Params) : (boot_heap P).isNs builtinsNs = true := by kernel_rfl
theorem bh_stat (P : Params) : (boot_heap P).isNs cStatics = true := by kernel_rfl
theorem bh_mods (P : Params) : (boot_heap P).isNs sysModules = true := by kernel_rfl
theorem bh_keys (P : Params) : (boot_heap P).nsKeys cStatics = [] := by kernel_rfl
theorem bh_mkeys (P : Params) : ((boot_heap P).nsKeys mainGlobals).all (fun k => bootMainNames.contains k) = true := by kernel_rfl
theorem bh_mods' (P : Params) : ((boot_heap P).nsKeys sysModules).all (fun k => k != "_pylong") = true := by kernel_rfl
theorem bh_view (P : Params) : (boot_heap P).bltView = bltViewBooted := by kernel_rfl
theorem bh_size (P : Params) : (boot_heap P).objs.size = 11 := by kernel_rfl
theorem bh_bmod (P : Params) : ∃ bm o, (boot_heap P).nsMap mainGlobals "__builtins__" = some (.ref bm) ∧ bm ≠ builtinsNs ∧ bm ≠ mainGlobals ∧ (boot_heap P).get? bm = some o ∧ o.cls = .type "module" ∧ o.dict = some builtinsNs ∧ o.data = .plain :=
  ⟨4, _, rfl, by decide, by decide, rfl, rfl, rfl, rfl⟩
theorem bh_nostat (P : Params) (k : Str) : (boot_heap P).nsMap cStatics k = none := Heap.nsMap_none (by rw [bh_keys]; exact fun h => nomatch h)
theorem bh_statNs (P : Params) : (boot_heap P).Ns cStatics (fun _ => none) := by
  have := Heap.Ns.of_isNs (bh_stat P)
  rwa [show (boot_heap P).nsMap cStatics = fun _ => none from funext (bh_nostat P)] at this
theorem bh_others (P : Params) (x : Str) (hx : x ∉ bootMainNames) : (boot_heap P).nsMap mainGlobals x = none := Heap.nsMap_none fun hk => hx (by
  simpa only [List.contains_iff_mem] using List.all_eq_true.mp (bh_mkeys P) x hk)
theorem bh_blts (P : Params) (x : Str) (hx : x ≠ "__name__") : (boot_heap P).nsMap builtinsNs x = bootBuiltins x := Heap.of_bltView (bh_blt P) (bh_view P) x hx
theorem bh_nopy (P : Params) : (boot_heap P).nsMap sysModules "_pylong" = none := Heap.nsMap_none fun hk => by
  have := List.all_eq_true.mp (bh_mods' P) _ hk
  exact absurd this (by decide)
end Mine
end

section
open PySem PySem.W PyProof.Rows PySem.Calls
set_option maxRecDepth 100000
set_option maxHeartbeats 4000000
set_option linter.unusedVariables false
namespace Mine
theorem op_plain : opening pw = plainProg pw.main.scope.names := by kernel_rfl
theorem op_fence : ∀ s, fenceModules? pw s = some s := fun s => by kernel_rfl
theorem op_facts (w : World) : (∃ s, AfterRun (opening pw) w s) ∧ ∀ s, AfterRun (opening pw) w s → ∃ s₀, fenceModules? pw s = some s₀ ∧ s₀.gens = #[] ∧ s₀.heap = boot_heap w.params ∧ s₀.asleep := by
  have h := boot_open (p := pw) (N := 600) op_plain (by decide) op_fence w
  rw [← table_eq_tree] at h
  obtain ⟨s₀, h1, e⟩ := Option.map_eq_some_iff.mp h
  obtain ⟨s, h4, h5⟩ := Option.bind_eq_some_iff.mp h1
  have A := AfterImport.of_importEnds h4
  refine ⟨⟨s, A⟩, fun s' hs' => ?_⟩
  obtain rfl : s' = s := AfterImport.unique hs' A
  have z : s₀.asleep := Shared.asleep_of_life (fence_lifeW h5) A.life
  exact ⟨s₀, h5, congrArg (fun x => x.2.1) e, congrArg Prod.fst e, z⟩
theorem tail_all : behindTheImports pw = pw.main.body := by kernel_rfl
end Mine
end

section
open PySem PySem.W PyProof.Rows PySem.Calls
set_option maxRecDepth 100000
set_option maxHeartbeats 4000000
set_option linter.unusedVariables false
namespace Mine
noncomputable abbrev mg₀ (w : World) : Str → Option Value := (boot_heap w.params).nsMap mainGlobals
/-- the top of the text, as the caller runs it -/
theorem top_enter {w : World} {s₀ : Shared} (hh : s₀.heap = boot_heap w.params) {Post : Shared → Prop}
    (walk : ∀ h₁ tk c Pl F (A : Around), Room A 100 → Ext (boot_heap w.params) h₁ → 11 ≤ Pl → Mod h₁ (mg₀ w) c Pl h₁ (mg₀ w) #[] [] [] [] [] →
      wpAny (model pw w) A (execs pw.main.body (mainEnv pw c F)) (fun _ s' => Post s') (fun _ _ => False) { s₀ with heap := h₁, toks := tk }) :
    wpAny (model pw w) callerA (topStub pw).cur (fun fin s' => fin = .done (.ret .none) ∧ Post s') (fun _ _ => False) s₀ := by
  unfold topStub
  dsimp only
  rw [tail_all]
  refine wpAny_bind (wpAny_moduleCode fun c Pl h₁ tk₁ hk₁ hc hPl hcode => ?_)
  rw [hh] at hk₁ hc hPl
  rw [bh_size] at hc hPl
  have hg : (boot_heap w.params).Ns mainGlobals (mg₀ w) := .of_isNs (bh_main _)
  unfold newBodyFrame
  refine wpAny_bind (wpAny_bind (wpAny_nsGet (hg.keeps hk₁) (wpAny_alloc ?_)))
  obtain ⟨bm, o, b1, b2, b3, b4, b5, b6, b7⟩ := bh_bmod w.params
  have hbm : bm < 11 := by have := Heap.lt_size b4; rwa [bh_size] at this
  have hx : ∀ o, Ext (boot_heap w.params) (h₁.push o) := fun o b ob e => Heap.get?_push_of_some _ (hk₁ b ob e)
  have hm : ∀ o, (h₁.push o).Main (mg₀ w) c Pl #[] := fun o' => ⟨hg.keeps (hx o'), hcode.push o', ⟨Nat.lt_of_lt_of_le (by decide) hc, Nat.lt_of_lt_of_le (by decide) hPl⟩,
    ⟨bm, o, b1, b2, b3, Nat.ne_of_lt (Nat.lt_of_lt_of_le hbm hPl), hx o' _ _ b4, b5, b6, b7⟩⟩
  have hM : ∀ o, Mod (h₁.push o) (mg₀ w) c Pl (h₁.push o) (mg₀ w) #[] [] [] [] [] := fun o' =>
    ⟨hm o', fun _ _ _ _ e => e, (fun _ hd => nomatch hd), (fun _ hp => nomatch hp), fun _ _ => rfl, (fun _ hd => nomatch hd), (fun _ hp => nomatch hp), (fun _ hp => nomatch hp), (fun _ hp => nomatch hp), Nat.le_refl _, (hcode.push o').lt.2, (hm o').g.lt, (fun _ hd => nomatch hd)⟩
  refine wpAny_bind (wpAny_run (codeAny_body (by kernel_rfl) (by kernel_rfl) (wpAny_mono (E := fun _ _ => False) (walk _ _ c Pl _ _ (Room.deeper (k := 100) (A := callerA.mark Option.none) ⟨rfl, by decide, by decide⟩ _) (hx _) hPl (hM _)) (fun f s' hp => wpAny_pure ⟨rfl, hp⟩) fun _ _ x => x.elim)))
end Mine
end

section
open PySem PySem.W PyProof.Rows PySem.Calls
set_option maxRecDepth 100000
set_option maxHeartbeats 4000000
set_option linter.unusedVariables false
namespace Mine
/-- the builtins' names, as the module's block sees them -/
structure Blt (h : Heap) : Prop where
  ex : ∃ mg mb, h.Ns mainGlobals mg ∧ h.Ns builtinsNs mb ∧ (mg "set" = none ∧ mg "list" = none ∧ mg "range" = none) ∧ ∀ x : Str, x ≠ "__name__" → mb x = bootBuiltins x
theorem Blt.ext {h h' : Heap} (x : Blt h) (k : Ext h h') : Blt h' := let ⟨mg, mb, a, b, c⟩ := x.ex; ⟨mg, mb, a.keeps k, b.keeps k, c⟩
section
variable {w : World} {A : Around} {E : Value → Shared → Prop} {c F : Addr} {h : Heap} {g : Array GenState} {d : Drawn} {tk : Nat} {o : OsState} {Q : Value → Shared → Prop}
theorem nm_set {pos} (B : Blt h) (H : Q (.type "set") ⟨h,g,d,tk,o⟩) : wpAny (model pw w) A (eval (.Name "set" pos) (mainEnv pw c F)) Q E ⟨h,g,d,tk,o⟩ :=
  let ⟨_, _, a, b, q, r⟩ := B.ex
  Name_module rfl rfl (loadGlobal_builtin (env := mainEnv pw c F) a q.1 b ((r _ (by decide)).trans (by rfl : bootBuiltins "set" = some (.type "set"))) H)
theorem nm_list {pos} (B : Blt h) (H : Q (.type "list") ⟨h,g,d,tk,o⟩) : wpAny (model pw w) A (eval (.Name "list" pos) (mainEnv pw c F)) Q E ⟨h,g,d,tk,o⟩ :=
  let ⟨_, _, a, b, q, r⟩ := B.ex
  Name_module rfl rfl (loadGlobal_builtin (env := mainEnv pw c F) a q.2.1 b ((r _ (by decide)).trans (by rfl : bootBuiltins "list" = some (.type "list"))) H)
theorem nm_range {pos} (B : Blt h) (H : Q (.type "range") ⟨h,g,d,tk,o⟩) : wpAny (model pw w) A (eval (.Name "range" pos) (mainEnv pw c F)) Q E ⟨h,g,d,tk,o⟩ :=
  let ⟨_, _, a, b, q, r⟩ := B.ex
  Name_module rfl rfl (loadGlobal_builtin (env := mainEnv pw c F) a q.2.2 b ((r _ (by decide)).trans (by rfl : bootBuiltins "range" = some (.type "range"))) H)
theorem ext_push {h : Heap} (o : Obj) : Ext h (h.push o) := fun _ _ e => Heap.get?_push_of_some _ e
theorem ints_items {a : Int} : ∀ {n : Nat} {acc : Array Value}, ItemsOf (fun i v => ∃ t, v = .int (a + i * 1) t) acc n → IntsAre acc.toList ((List.range n).map fun i : Nat => a + (i : Int)) := by
  intro n acc hacc
  have key : ∀ (l : List Value) (k : Nat), (∀ j v, l[j]? = some v → ∃ t, v = Value.int (a + ((k + j : Nat) : Int) * 1) t) → IntsAre l ((List.range' k l.length).map fun i : Nat => a + (i : Int)) := by
    intro l
    induction l with
    | nil => intro k _; exact .nil
    | cons v l ih =>
      intro k hv
      obtain ⟨t, rfl⟩ := hv 0 v rfl
      rw [List.length_cons, List.range'_succ, List.map_cons, Nat.add_zero, Int.mul_one]
      refine .cons _ _ (ih (k + 1) fun j v e => ?_)
      obtain ⟨t, rfl⟩ := hv (j + 1) v e
      exact ⟨t, by congr 2; omega⟩
  have := key acc.toList 0 fun j v e => by
    obtain ⟨t, rfl⟩ := hacc.2 j v (by simpa using e)
    exact ⟨t, by simp⟩
  rwa [Array.length_toList, hacc.1, ← List.range_eq_range'] at this
theorem e_listrange {a b : Int} {n : Nat} {k1 k2 p1 p2 p3 p4 p5 p6} (B : Blt h) (hh : A.handled = none) (ha : -(2 ^ 62) ≤ a ∧ a < 2 ^ 62) (hb : -(2 ^ 62) ≤ b ∧ b < 2 ^ 62) (hn : b - a = (n : Int)) (hn2 : n ≤ 2 ^ 24)
    (H : ∀ h' tk' p items m, Ext h h' → h.objs.size ≤ p → IsL h' p items m → items.size = n → IntsAre items.toList ((List.range n).map fun i : Nat => a + (i : Int)) → Q (.ref p) ⟨h',g,d,tk',o⟩) :
    wpAny (model pw w) A (eval (.Call (.Name "list" p1) [.Call (.Name "range" p2) [.Constant (.int a) k1 p3, .Constant (.int b) k2 p4] [] p5] [] p6) (mainEnv pw c F)) Q E ⟨h,g,d,tk,o⟩ := by
  refine Call_ (nm_list B ?_) (by rfl)
  refine PyProof.Rows.callWith_type1 ?_ (by rfl) (by rfl)
  refine args_cons ?_ (by rfl)
  refine Call_ (nm_range B ?_) (by rfl)
  refine PyProof.Rows.callWith_type1 ?_ (by rfl) (by rfl)
  refine args_cons (cInt fun t1 tk1 => ?_) (by rfl)
  refine args_cons (cInt fun t2 tk2 => ?_) (by rfl)
  refine args_nil ?_
  refine call_range_2 (s := ⟨h,g,d,_,o⟩) ?_
  refine args_nil ?_
  dsimp only
  have hr : Builtin.Range.rangeSize a b 1 = (n : Int) := by rw [rangeSize_one]; split <;> omega
  refine call_list_range (s := ⟨_,g,d,_,o⟩) hh (IsRange.new _ _ _ _ _ _ _) (small_one ha.1 ha.2 hb.1 hb.2) hr hn2 fun h' tk' acc c' hk hS hacc => ?_
  refine H h' tk' _ acc c' (Ext.trans (ext_push _) hk) ?_ hS hacc.1 (ints_items hacc)
  show h.objs.size ≤ (h.push _).objs.size
  rw [Heap.size_push]; omega
theorem e_list {elts : List Expr} {ns : List Int} {pos} (hsz : elts.length ≤ 100)
    (hl : ∀ (g' : Array GenState) tk (Q' : List Value → Shared → Prop), (∀ vs tk', vs.length = elts.length → IntsAre vs ns → Q' vs ⟨h,g,d,tk',o⟩) → wpAny (model pw w) A (spliced (backTo pos (starEach elts (mainEnv pw c F)))) Q' E ⟨h,g,d,tk,o⟩)
    (H : ∀ h' tk' p items m, Ext h h' → h.objs.size ≤ p → IsL h' p items m → items.size = elts.length → IntsAre items.toList ns → Q (.ref p) ⟨h',g,d,tk',o⟩) :
    wpAny (model pw w) A (eval (.List elts pos) (mainEnv pw c F)) Q E ⟨h,g,d,tk,o⟩ := by
  refine List_ (hl g tk _ fun vs tk' hv hi => ?_)
  have hs : vs.length ≤ sizeLine := by rw [hv, sizeLine_eq]; omega
  refine wpAny_newObj_type ?_ (by show vs.toArray.size ≤ sizeLine; rw [List.size_toArray]; exact hs)
  exact H _ tk' _ vs.toArray 0 (ext_push _) (Nat.le_refl _) (IsL.new _ _) (by rw [List.size_toArray, hv]) hi
theorem set_of {f : Nat → Bool} {p : Addr} {items : Array Value} {m : Nat} {ns : List Int} {h h₁ : Heap} (hh : A.handled = none) (hx : Ext h h₁) (hle : h.objs.size ≤ h₁.objs.size) (hL : IsL h₁ p items m) (hi : IntsAre items.toList ns) (hsz : items.size ≤ 200)
    (hf : ∀ c : Nat, (ns.any (· == (c : Int))) = f c)
    (H : ∀ a oa h' tk', h.objs.size ≤ a → h'.get? a = some oa → SetIs f oa → Ext h h' → Q (.ref a) ⟨h',g,d,tk',o⟩) :
    wpAny (model pw w) A (call (.type "set") [.ref p]) Q E ⟨h₁,g,d,tk,o⟩ := by
  have hl : h₁.IsList p items := ⟨_, hL, rfl, m, rfl⟩
  have hb : scanBound = 4096 ∨ 201 < scanBound := .inr (by unfold scanBound; decide)
  have hb : 201 < scanBound := by rcases hb with e | e <;> omega
  refine PySem.call_set_list (s := ⟨h₁,g,d,tk,o⟩) hh hl hi (by omega) fun h' tk' hS hk => ?_
  obtain ⟨oa, ho, hso⟩ := hS.objOf
  refine H _ oa h' tk' hle ho ⟨_, _, ?_, hso.intSetOf, fun c => ?_⟩ fun b ob e => hk b ob (Heap.lt_size (hx b ob e)) (hx b ob e)
  · have := firstMet_length_le (fun i => ns.getD i 0) items.size
    omega
  · rw [← hf c]
    show (firstMet (fun i => ns.getD i 0) items.size).any (· == (c : Int)) = _
    rw [firstMet_any]
    have e : (List.range items.size).map (fun i => ns.getD i 0) = ns := by
      have hlen : items.size = ns.length := by rw [← Array.length_toList]; exact hi.length
      rw [hlen]
      apply List.ext_getElem
      · simp
      · intro i h1 h2
        simp [List.getD_eq_getElem?_getD, h2]
    rw [e]
theorem any_range (a : Int) (n c : Nat) (ha : 0 ≤ a) : (((List.range n).map fun i : Nat => a + (i : Int)).any (· == (c : Int))) = (decide (a.toNat ≤ c) && decide (c < a.toNat + n)) := by
  rw [Bool.eq_iff_iff]
  simp only [List.any_eq_true, List.mem_map, List.mem_range, beq_iff_eq, Bool.and_eq_true, decide_eq_true_eq]
  constructor
  · rintro ⟨x, ⟨i, hi, e⟩, e2⟩; omega
  · intro h; exact ⟨c, ⟨c - a.toNat, by omega, by omega⟩, rfl⟩
theorem any_nat (l : List Nat) (c : Nat) : (l.map fun n : Nat => (n : Int)).any (· == (c : Int)) = l.contains c := by
  induction l with
  | nil => rfl
  | cons n l ih =>
    rw [List.map_cons, List.any_cons, ih, List.contains_cons]
    congr 1
    rw [Bool.eq_iff_iff, beq_iff_eq, beq_iff_eq]
    omega
theorem b1_mem (c : Nat) : (([173, 847, 6150, 6155, 6156, 6157, 8203, 8204, 8205, 8288, 65279] ++ (List.range 16).map fun i : Nat => (65024 : Int) + (i : Int)).any (· == (c : Int))) = inB1 c := by
  rw [List.any_append, any_range _ _ _ (by decide)]
  unfold inB1
  congr 1
  exact any_nat [173, 847, 6150, 6155, 6156, 6157, 8203, 8204, 8205, 8288, 65279] c
theorem c8_mem (c : Nat) : ((([832, 833, 8206, 8207] ++ (List.range 5).map fun i : Nat => (8234 : Int) + (i : Int)) ++ (List.range 6).map fun i : Nat => (8298 : Int) + (i : Int)).any (· == (c : Int))) = inC8 c := by
  rw [List.any_append, List.any_append, any_range _ _ _ (by decide), any_range _ _ _ (by decide)]
  unfold inC8
  congr 1
  congr 1
  exact any_nat [832, 833, 8206, 8207] c
theorem c9_mem (c : Nat) : (([917505] ++ (List.range 96).map fun i : Nat => (917536 : Int) + (i : Int)).any (· == (c : Int))) = inC9 c := by
  rw [List.any_append, any_range _ _ _ (by decide)]
  unfold inC9
  congr 1
  rw [Bool.eq_iff_iff]
  simp only [List.any_cons, List.any_nil, Bool.or_eq_true, beq_iff_eq, Bool.or_false]
  omega
theorem two_any {p q : Addr} {i1 i2 : Array Value} {m1 m2 : Nat} {h₁ : Heap} (h1 : IsL h₁ p i1 m1) (h2 : IsL h₁ q i2 m2) (hs : i1.size + i2.size ≤ 1000)
    (H : ∀ a h' items m, Ext h₁ h' → h₁.objs.size ≤ a → IsL h' a items m → items = i1 ++ i2 → Q (.ref a) ⟨h',g,d,tk,o⟩) :
    wpAny (model pw w) A (binaryOp .Add (.ref p) (.ref q)) Q E ⟨h₁,g,d,tk,o⟩ :=
  PySem.P.add_list (s := ⟨h₁,g,d,tk,o⟩) h1 h2 (H _ _ _ 0 (ext_push _) (Nat.le_refl _) (IsL.new _ _) rfl) (by rw [sizeLine_eq]; omega)
theorem ext_size {h h' : Heap} {p : Addr} {o : Obj} (hx : Ext h h') (hp : h.objs.size ≤ p) (e : h'.get? p = some o) : h.objs.size ≤ h'.objs.size := Nat.le_of_lt (Nat.lt_of_le_of_lt hp (Heap.lt_size e))
theorem ints_app' : ∀ {vs ws : List Value} {ns ms : List Int}, IntsAre vs ns → IntsAre ws ms → IntsAre (vs ++ ws) (ns ++ ms)
  | _, _, _, _, .nil, h => h
  | _, _, _, _, .cons _ t h1, h2 => .cons _ t (ints_app' h1 h2)
/-- a set of a list and a range -/
theorem e_set1 {f : Nat → Bool} {elts : List Expr} {ns : List Int} {a b : Int} {n : Nat} {k1 k2 p1 p2 p3 p4 p5 p6 p7 p8 p9 pos} (B : Blt h) (hh : A.handled = none) (ha : -(2 ^ 62) ≤ a ∧ a < 2 ^ 62) (hb : -(2 ^ 62) ≤ b ∧ b < 2 ^ 62) (hn : b - a = (n : Int)) (hn2 : n ≤ 100) (hsz : elts.length ≤ 100)
    (hl : ∀ (g' : Array GenState) tk (E' : Value → Shared → Prop) (Q' : List Value → Shared → Prop), (∀ vs tk', vs.length = elts.length → IntsAre vs ns → Q' vs ⟨h,g,d,tk',o⟩) → wpAny (model pw w) A (spliced (backTo pos (starEach elts (mainEnv pw c F)))) Q' E' ⟨h,g,d,tk,o⟩)
    (hf : ∀ c : Nat, ((ns ++ (List.range n).map fun i : Nat => a + (i : Int)).any (· == (c : Int))) = f c)
    (H : ∀ a oa h' tk', h.objs.size ≤ a → h'.get? a = some oa → SetIs f oa → Ext h h' → Q (.ref a) ⟨h',g,d,tk',o⟩) :
    wpAny (model pw w) A (eval (.Call (.Name "set" p7) [.BinOp (.List elts pos) .Add (.Call (.Name "list" p1) [.Call (.Name "range" p2) [.Constant (.int a) k1 p3, .Constant (.int b) k2 p4] [] p5] [] p6) p8] [] p9) (mainEnv pw c F)) Q E ⟨h,g,d,tk,o⟩ := by
  refine Call_ (nm_set B ?_) (by rfl)
  refine PyProof.Rows.callWith_type1 ?_ (by rfl) (by rfl)
  refine args_cons (wpAny_BinOp (e_list hsz (fun g' tk Q' => hl g' tk _ Q') fun h1 tk1 l1 i1 m1 x1 s1 L1 z1 I1 => ?_)) (by rfl)
  refine e_listrange (B.ext x1) hh ha hb hn (by omega) fun h2 tk2 l2 i2 m2 x2 s2 L2 z2 I2 => ?_
  refine two_any (x2 _ _ L1) L2 (by omega) fun l3 h3 i3 m3 x3 s3 L3 e3 => ?_
  refine args_nil ?_
  have I3 : IntsAre i3.toList (ns ++ (List.range n).map fun i : Nat => a + (i : Int)) := by rw [e3, Array.toList_append]; exact ints_app' I1 I2
  have hx := Ext.trans (Ext.trans x1 x2) x3
  refine set_of hh hx (Nat.le_trans (ext_size x1 s1 L1) (Nat.le_trans (ext_size x2 s2 L2) (ext_size x3 s3 L3))) L3 I3 (by rw [e3, Array.size_append]; omega) hf H
/-- a set of a list and two ranges -/
theorem e_set2 {f : Nat → Bool} {elts : List Expr} {ns : List Int} {a b a' b' : Int} {n n' : Nat} {k1 k2 k3 k4 p1 p2 p3 p4 p5 p6 p7 p8 p9 q1 q2 q3 q4 q5 q6 q8 pos} (B : Blt h) (hh : A.handled = none) (ha : -(2 ^ 62) ≤ a ∧ a < 2 ^ 62) (hb : -(2 ^ 62) ≤ b ∧ b < 2 ^ 62) (hn : b - a = (n : Int)) (hn2 : n ≤ 50)
    (ha' : -(2 ^ 62) ≤ a' ∧ a' < 2 ^ 62) (hb' : -(2 ^ 62) ≤ b' ∧ b' < 2 ^ 62) (hn' : b' - a' = (n' : Int)) (hn2' : n' ≤ 50) (hsz : elts.length ≤ 100)
    (hl : ∀ (g' : Array GenState) tk (E' : Value → Shared → Prop) (Q' : List Value → Shared → Prop), (∀ vs tk', vs.length = elts.length → IntsAre vs ns → Q' vs ⟨h,g,d,tk',o⟩) → wpAny (model pw w) A (spliced (backTo pos (starEach elts (mainEnv pw c F)))) Q' E' ⟨h,g,d,tk,o⟩)
    (hf : ∀ c : Nat, (((ns ++ (List.range n).map fun i : Nat => a + (i : Int)) ++ (List.range n').map fun i : Nat => a' + (i : Int)).any (· == (c : Int))) = f c)
    (H : ∀ a oa h' tk', h.objs.size ≤ a → h'.get? a = some oa → SetIs f oa → Ext h h' → Q (.ref a) ⟨h',g,d,tk',o⟩) :
    wpAny (model pw w) A (eval (.Call (.Name "set" p7) [.BinOp (.BinOp (.List elts pos) .Add (.Call (.Name "list" p1) [.Call (.Name "range" p2) [.Constant (.int a) k1 p3, .Constant (.int b) k2 p4] [] p5] [] p6) p8) .Add
      (.Call (.Name "list" q1) [.Call (.Name "range" q2) [.Constant (.int a') k3 q3, .Constant (.int b') k4 q4] [] q5] [] q6) q8] [] p9) (mainEnv pw c F)) Q E ⟨h,g,d,tk,o⟩ := by
  refine Call_ (nm_set B ?_) (by rfl)
  refine PyProof.Rows.callWith_type1 ?_ (by rfl) (by rfl)
  refine args_cons (wpAny_BinOp (wpAny_BinOp (e_list hsz (fun g' tk Q' => hl g' tk _ Q') fun h1 tk1 l1 i1 m1 x1 s1 L1 z1 I1 => ?_))) (by rfl)
  refine e_listrange (B.ext x1) hh ha hb hn (by omega) fun h2 tk2 l2 i2 m2 x2 s2 L2 z2 I2 => ?_
  refine two_any (x2 _ _ L1) L2 (by omega) fun l3 h3 i3 m3 x3 s3 L3 e3 => ?_
  have I3 : IntsAre i3.toList (ns ++ (List.range n).map fun i : Nat => a + (i : Int)) := by rw [e3, Array.toList_append]; exact ints_app' I1 I2
  refine e_listrange (B.ext (Ext.trans (Ext.trans x1 x2) x3)) hh ha' hb' hn' (by omega) fun h4 tk4 l4 i4 m4 x4 s4 L4 z4 I4 => ?_
  have z3 : i3.size = i1.size + i2.size := by rw [e3, Array.size_append]
  refine two_any (x4 _ _ L3) L4 (by omega) fun l5 h5 i5 m5 x5 s5 L5 e5 => ?_
  have I5 : IntsAre i5.toList ((ns ++ (List.range n).map fun i : Nat => a + (i : Int)) ++ (List.range n').map fun i : Nat => a' + (i : Int)) := by rw [e5, Array.toList_append]; exact ints_app' I3 I4
  refine args_nil ?_
  refine set_of hh (Ext.trans (Ext.trans (Ext.trans (Ext.trans x1 x2) x3) x4) x5) (Nat.le_trans (ext_size x1 s1 L1) (Nat.le_trans (ext_size x2 s2 L2) (Nat.le_trans (ext_size x3 s3 L3) (Nat.le_trans (ext_size x4 s4 L4) (ext_size x5 s5 L5))))) L5 I5 (by rw [e5, Array.size_append]; omega) hf H
end
end Mine
end

section
open PySem PySem.W PyProof.Rows PySem.Calls
set_option maxRecDepth 100000
set_option maxHeartbeats 4000000
set_option linter.unusedVariables false
namespace Mine
section
variable {prog : Program} {w : World} {A : Around} {E : Value → Shared → Prop} {s : Shared} {K : Type} [DecidableEq K] {knd : KeyKind prog w K}
/-- a key that a dict has not is put at its end -/
theorem put_fresh {d : Addr} {kvs : List (K × Value)} {k : K} {key v : Value} {Q : Unit → Shared → Prop} (hkey : knd.is k key = true) (hm : s.heap.DictOf knd d kvs)
    (hnot : k ∉ kvs.map (·.1)) (hsz : kvs.length ≤ sizeLine)
    (hQ : ∀ h', h'.DictOf knd d (kvs ++ [(k, v)]) → Heap.SameBut d s.heap h' → Q () { s with heap := h' }) :
    wpAny (model prog w) A (dictPut d (knd.hash k) key v) Q E s := by
  obtain ⟨o, es, ep, ho, hc, hd, hk, hp, hn⟩ := hm
  have hsize : es.size = kvs.length := by rw [← hp.length, Array.length_toList]
  have hnone : (es.findIdx? fun e => knd.is k e.key) = none := by
    have e := hp.findIdx k
    have e2 : (es.toList.findIdx? fun e => knd.is k e.key) = none := by
      rw [e, List.findIdx?_eq_none_iff]
      intro x hx
      refine decide_eq_false fun e => hnot (List.mem_map.mpr ⟨x, hx, e⟩)
    obtain ⟨l⟩ := es
    simpa using e2
  unfold dictPut
  refine wpAny_bind (wpAny_dictFind_of hkey ho hd hk ?_)
  rw [hnone]
  refine wpAny_updateDictKeys (hz := by omega) ho hd (hQ _ ⟨_, _, ep + 1, Heap.get?_update_self _ ho (Obj.isFreed_of_dict (Obj.data_mapDictKeys hd _)), hc.mapDictKeys _, Obj.data_mapDictKeys hd _, hk.push hkey _, ?_, ?_⟩ (Heap.SameBut.update ..))
  · have := hp.append hkey (knd.hash k) v
    obtain ⟨l⟩ := es
    simpa using this
  · rw [List.map_append, List.map_cons, List.map_nil]
    refine List.nodup_append.mpr ⟨hn, by simp, fun a ha b hb e => ?_⟩
    rw [List.mem_singleton.mp hb] at e
    exact hnot (by have e' : a = k := e; exact e' ▸ ha)
/-- a dict whose keys another one has not is merged into it -/
theorem merge_fresh {d o : Addr} {kvs more : List (K × Value)} {Q : Unit → Shared → Prop} (hdo : d ≠ o) (hoS : (o == sysModules) = false)
    (hd : s.heap.DictOf knd d kvs) (ho : s.heap.DictOf knd o more) (hne : kvs ≠ []) (hnd : ((kvs ++ more).map (·.1)).Nodup) (hsz : kvs.length + more.length ≤ sizeLine)
    (hQ : ∀ h', h'.DictOf knd d (kvs ++ more) → Heap.SameBut d s.heap h' → Q () { s with heap := h' }) :
    wpAny (model prog w) A (mergeMapping d (.ref o) false) Q E s := by
  obtain ⟨od, esd, epd, hod, hcd, hdd, hkd, hpd, hnd1⟩ := id hd
  obtain ⟨oo, eso, epo, hoo, hco, hdo', hko, hpo, hno⟩ := id ho
  have hlen : more.length = eso.size := by rw [← hpo.length, Array.length_toList]
  have hlend : kvs.length = esd.size := by rw [← hpd.length, Array.length_toList]
  unfold mergeMapping
  refine wpAny_bind (wpAny_isInstance ho.typeIs F.sub_dict_dict ?_)
  rw [if_pos rfl]
  refine wpAny_bind (wpAny_specialOf ho.typeIs F.slot_dict_iter.lookup ?_)
  simp only [beq_self_eq_true]
  refine wpAny_bind (wpAny_pure ?_)
  dsimp only
  rw [if_neg (by rw [hoS]; exact Bool.false_ne_true)]
  refine wpAny_bind (wpAny_dictEntries hod hdd ?_)
  rw [if_neg (by
    have : 0 < esd.size := by rw [← hlend]; exact List.length_pos_iff.mpr hne
    simp [Array.isEmpty]; exact fun e => by rw [e] at this; exact absurd this (by simp))]
  refine wpAny_bind (wpAny_dictEntries hoo hdo' ?_)
  refine wpAny_bind (wpAny_dictEpoch hoo hdo' ?_)
  simp only [Bool.false_eq_true, if_false]
  refine wpAny_bind ?_
  refine wpAny_forIn_list _
      (fun rest _ s' => ∃ h' i, s' = { s with heap := h' } ∧ rest = List.range' i (eso.size - i) ∧ i ≤ eso.size ∧ h'.DictOf knd d (kvs ++ more.take i) ∧ h'.get? o = some oo ∧ Heap.SameBut d s.heap h')
      _ ?_ ?_ _ _ ⟨s.heap, 0, rfl, by rw [List.range_eq_range', Nat.sub_zero], Nat.zero_le _, by simpa using hd, hoo, Heap.SameBut.refl _ _⟩
  · rintro x rest b s' ⟨h', i, rfl, hr, hi, hd', hoo', hs'⟩
    have hlt : i < eso.size := by
      rcases Nat.lt_or_ge i eso.size with h | h
      · exact h
      · rw [Nat.sub_eq_zero_of_le h] at hr; simp at hr
    obtain ⟨rfl, hrest⟩ : x = i ∧ rest = List.range' (i + 1) (eso.size - (i + 1)) := by
      rw [show eso.size - i = (eso.size - (i + 1)) + 1 by omega, List.range'_succ] at hr
      exact ⟨(List.cons.inj hr).1, (List.cons.inj hr).2⟩
    refine wpAny_bind (wpAny_dictEntries hoo' hdo' ?_)
    have hm : x < more.length := by rw [hlen]; exact hlt
    rw [Array.getElem?_eq_getElem hlt]
    have hkv : more[x]? = some more[x] := List.getElem?_eq_getElem hm
    obtain ⟨hkey, hval⟩ := hpo.get? (e := eso[x]) (by simp [hlt]) hkv
    obtain ⟨k', hkey', hhash⟩ := hko eso[x] (Array.getElem_mem hlt)
    have hk : k' = more[x].1 := knd.inj _ _ _ hkey' hkey
    dsimp only
    rw [hhash, hval, hk]
    have hfresh : more[x].1 ∉ (kvs ++ more.take x).map (·.1) := by
      have e : more = more.take x ++ more[x] :: more.drop (x + 1) := by simp
      rw [e, ← List.append_assoc, List.map_append, List.map_cons, List.nodup_append] at hnd
      exact fun hm => hnd.2.2 _ hm _ List.mem_cons_self rfl
    have hl : (kvs ++ more.take x).length ≤ sizeLine := by rw [List.length_append, List.length_take]; omega
    refine wpAny_bind (wpAny_holding (put_fresh hkey hd' hfresh hl fun h'' hd'' hs'' => ?_))
    have hoo'' : h''.get? o = some oo := (hs''.2 o (Ne.symm hdo)).trans hoo'
    refine wpAny_bind (wpAny_dictEpoch hoo'' hdo' ?_)
    rw [if_neg (by simp)]
    refine wpAny_pure ⟨h'', x + 1, rfl, hrest, hlt, ?_, hoo'', hs'.trans hs''⟩
    rw [List.take_succ_eq_append_getElem hm, ← List.append_assoc]
    exact hd''
  · rintro b s' ⟨h', i, rfl, hr, hi, hd', hoo', hs'⟩
    have hin : i = eso.size := by
      rcases Nat.lt_or_ge i eso.size with h | h
      · rw [show eso.size - i = (eso.size - (i + 1)) + 1 by omega, List.range'_succ] at hr; exact nomatch hr
      · exact Nat.le_antisymm hi h
    rw [hin, ← hlen, List.take_length] at hd'
    exact wpAny_pure (hQ h' hd' hs')
end
section
variable {prog : Program} {w : World} {A : Around} {E : Value → Shared → Prop}
/-- two trees that give a whole number and a text -/
def LitPair (prog : Program) (w : World) (p : Sem Value × Sem Value) (x : Int × Str) : Prop :=
  (∀ (A : Around) (E : Value → Shared → Prop) (h : Heap) (g : Array GenState) (d : Drawn) (tk : Nat) (o : OsState) (Q : Value → Shared → Prop), (∀ t tk', Q (.int x.1 t) ⟨h,g,d,tk',o⟩) → wpAny (model prog w) A p.1 Q E ⟨h,g,d,tk,o⟩) ∧
  (∀ (A : Around) (E : Value → Shared → Prop) (h : Heap) (g : Array GenState) (d : Drawn) (tk : Nat) (o : OsState) (Q : Value → Shared → Prop), (∀ t tk', Q (.str x.2 t) ⟨h,g,d,tk',o⟩) → wpAny (model prog w) A p.2 Q E ⟨h,g,d,tk,o⟩)
def KeyVal (kv : Int × Value) (x : Int × Str) : Prop := kv.1 = x.1 ∧ ∃ t, kv.2 = .str x.2 t
theorem kv_keys : ∀ {kvs : List (Int × Value)} {D : List (Int × Str)}, Paired KeyVal kvs D → kvs.map (·.1) = D.map (·.1)
  | _, _, .nil => rfl
  | _, _, .cons h t => by rw [List.map_cons, List.map_cons, h.1, kv_keys t]
theorem paired_app {α β : Type} {R : α → β → Prop} : ∀ {a b : List α} {c d : List β}, Paired R a c → Paired R b d → Paired R (a ++ b) (c ++ d)
  | _, _, _, _, .nil, h => h
  | _, _, _, _, .cons h1 t1, h => .cons h1 (paired_app t1 h)
theorem stored_fresh {kvs : List (Int × Value)} {k : Int} {v : Value} (hn : k ∉ kvs.map (·.1)) : stored kvs k v = kvs ++ [(k, v)] := by
  unfold stored
  rw [if_neg]
  rw [List.any_eq_true]
  rintro ⟨x, hx, e⟩
  exact hn (List.mem_map.mpr ⟨x, hx, of_decide_eq_true e⟩)
theorem store_lits {d : Addr} {g : Array GenState} {dr : Drawn} {o : OsState} : ∀ (pairs : List (Sem Value × Sem Value)) (D : List (Int × Str)) (acc : List (Int × Value)) (h : Heap) (tk : Nat) (Q : PUnit → Shared → Prop), Paired (LitPair prog w) pairs D → h.DictOf (intKind prog w) d acc →
    (acc.map (·.1) ++ D.map (·.1)).Nodup → acc.length + D.length ≤ sizeLine →
    (∀ h' tk' kvs, h'.DictOf (intKind prog w) d (acc ++ kvs) → Paired KeyVal kvs D → Heap.SameBut d h h' → Q PUnit.unit ⟨h',g,dr,tk',o⟩) →
    wpAny (model prog w) A (forIn pairs PUnit.unit fun (x : Sem Value × Sem Value) (_ : PUnit) => (do let kv ← x.1; let vv ← holding [kv] x.2; holding [kv, vv] (dictSet d kv vv); pure (ForInStep.yield PUnit.unit) : Sem (ForInStep PUnit))) Q E ⟨h,g,dr,tk,o⟩
  | _, _, acc, h, tk, Q, .nil, hd, _, _, hQ => by
    rw [List.forIn_nil]
    exact wpAny_pure (hQ h tk [] (by simpa using hd) .nil (Heap.SameBut.refl _ _))
  | p :: ps, x :: D, acc, h, tk, Q, .cons hp ht, hd, hn, hsz, hQ => by
    rw [List.forIn_cons]
    have hnot : x.1 ∉ acc.map (·.1) := fun hm => (List.nodup_append.mp hn).2.2 _ hm _ List.mem_cons_self rfl
    rw [List.length_cons] at hsz
    refine wpAny_bind (wpAny_bind (hp.1 A E h g dr tk o _ fun t tk₁ => wpAny_bind (wpAny_holding (hp.2 A E h g dr tk₁ o _ fun u tk₂ => wpAny_bind (wpAny_holding ?_)))))
    refine wpAny_dictSet_pairs (s := ⟨h,g,dr,tk₂,o⟩) (knd := intKind prog w) (k := x.1) (intKind_is _ _ _ _) hd (fun h₁ hd₁ hs₁ => wpAny_pure ?_) (by omega)
    rw [stored_fresh hnot] at hd₁
    refine store_lits ps D (acc ++ [(x.1, .str x.2 u)]) h₁ _ Q ht hd₁ ?_ (by rw [List.length_append, List.length_singleton]; omega) fun h' tk' kvs hd' hk hs' => ?_
    · rw [List.map_append, List.map_cons, List.map_nil, List.append_assoc]
      exact hn
    · refine hQ h' tk' ((x.1, .str x.2 u) :: kvs) ?_ (.cons ⟨rfl, u, rfl⟩ hk) (hs₁.trans hs')
      rw [List.append_assoc] at hd'
      exact hd'
theorem ext_same {h h' : Heap} {o : Obj} (hs : Heap.SameBut h.objs.size (h.push o) h') : Ext h h' := fun b ob e =>
  (hs.2 b (Nat.ne_of_lt (Heap.lt_size e))).trans (Heap.get?_push_of_some _ e)
/-- a part of a display with more than fifteen pairs -/
theorem sub_long {g : Array GenState} {dr : Drawn} {o : OsState} {pairs : List (Sem Value × Sem Value)} {D : List (Int × Str)} {h : Heap} {tk : Nat} {Q : Addr → Shared → Prop} (hp : Paired (LitPair prog w) pairs D) (hl : ¬ pairs.length ≤ 15) (hn : (D.map (·.1)).Nodup) (hsz : D.length ≤ 100)
    (hQ : ∀ h' tk' kvs, h'.DictOf (intKind prog w) h.objs.size kvs → Paired KeyVal kvs D → Ext h h' → Q h.objs.size ⟨h',g,dr,tk',o⟩) :
    wpAny (model prog w) A (subDict pairs) Q E ⟨h,g,dr,tk,o⟩ := by
  unfold subDict
  refine wpAny_bind (wpAny_alloc (wpAny_bind (wpAny_holding ?_)))
  rw [if_neg hl]
  refine wpAny_bind (wpAny_rule ?_)
  refine wpAny_bind ?_
  refine store_lits pairs D [] _ tk _ hp (Heap.DictOf.new h) (by simpa using hn) (by rw [sizeLine_eq]; simp; omega) fun h' tk' kvs hd hk hs => ?_
  exact wpAny_pure (wpAny_pure (hQ h' tk' kvs (by simpa using hd) hk (ext_same hs)))
theorem eval_lits {h : Heap} {g : Array GenState} {dr : Drawn} {o : OsState} : ∀ (pairs : List (Sem Value × Sem Value)) (D : List (Int × Str)) (tk : Nat) (Q : List (Value × Value) → Shared → Prop), Paired (LitPair prog w) pairs D →
    (∀ vs tk' kvs, Carries (intKind prog w) vs kvs → Paired KeyVal kvs D → Q vs ⟨h,g,dr,tk',o⟩) → wpAny (model prog w) A (evalPairs pairs) Q E ⟨h,g,dr,tk,o⟩
  | _, _, tk, Q, .nil, hQ => evalPairs_nil (hQ [] tk [] trivial .nil)
  | p :: ps, x :: D, tk, Q, .cons hp ht, hQ => by
    refine evalPairs_cons (hp.1 A E h g dr tk o _ fun t tk₁ => hp.2 A E h g dr tk₁ o _ fun u tk₂ => ?_)
    refine eval_lits ps D tk₂ _ ht fun vs tk' kvs hc hk => hQ _ _ ((x.1, .str x.2 u) :: kvs) ⟨intKind_is _ _ _ _, rfl, hc⟩ (.cons ⟨rfl, u, rfl⟩ hk)
theorem sub_any {g : Array GenState} {dr : Drawn} {o : OsState} {pairs : List (Sem Value × Sem Value)} {D : List (Int × Str)} {h : Heap} {tk : Nat} {Q : Addr → Shared → Prop} (hp : Paired (LitPair prog w) pairs D) (hn : (D.map (·.1)).Nodup) (hsz : D.length ≤ 100)
    (hQ : ∀ h' tk' kvs, h'.DictOf (intKind prog w) h.objs.size kvs → Paired KeyVal kvs D → Ext h h' → Q h.objs.size ⟨h',g,dr,tk',o⟩) :
    wpAny (model prog w) A (subDict pairs) Q E ⟨h,g,dr,tk,o⟩ := by
  by_cases hl : pairs.length ≤ 15
  · refine wpAny_subDict (knd := intKind prog w) hl ?_
    refine eval_lits pairs D tk _ hp fun vs tk' kvs hc hk => ⟨kvs, hc, Heap.DictOf.new h, fun h' hd hs => ?_⟩
    rw [merged_nil_of_nodup _ (by rw [kv_keys hk]; exact hn)] at hd
    exact hQ h' _ kvs hd hk (ext_same hs)
  · exact sub_long hp hl hn hsz hQ
/-- what a display has by now -/
def DispAt (prog : Program) (w : World) (h₀ : Heap) (main : Option Addr) (D : List (Int × Str)) (h : Heap) : Prop := Ext h₀ h ∧ h₀.objs.size ≤ h.objs.size ∧
  match main with
  | none => D = []
  | some d => D ≠ [] ∧ h₀.objs.size ≤ d ∧ ∃ kvs, h.DictOf (intKind prog w) d kvs ∧ Paired KeyVal kvs D
theorem paired_len {α β : Type} {R : α → β → Prop} : ∀ {a : List α} {b : List β}, Paired R a b → a.length = b.length
  | _, _, .nil => rfl
  | _, _, .cons _ t => by rw [List.length_cons, List.length_cons, paired_len t]
theorem flush_some {h₀ : Heap} {g : Array GenState} {dr : Drawn} {o : OsState} {run : List (Sem Value × Sem Value)} {Dm Dr : List (Int × Str)} {h : Heap} {tk : Nat} {d : Addr} {Q : Option Addr → Shared → Prop} {k : Addr → Value → Sem Unit}
    (hd : DispAt prog w h₀ (some d) Dm h) (hp : Paired (LitPair prog w) run Dr) (hr : run ≠ []) (hn : ((Dm ++ Dr).map (·.1)).Nodup) (hsz : Dm.length + Dr.length ≤ 5000) (hsr : Dr.length ≤ 100) (h10 : sysModules < h₀.objs.size)
    (hQ : ∀ h' tk', DispAt prog w h₀ (some d) (Dm ++ Dr) h' → Q (some d) ⟨h',g,dr,tk',o⟩) :
    wpAny (model prog w) A (do
      let sub ← holding [.ref d] (subDict run)
      (holding [.ref d, .ref sub] (mergeMapping d (.ref sub) false)).onRaise (k sub)
      return some d) Q E ⟨h,g,dr,tk,o⟩ := by
  obtain ⟨hx, hs, hne, hdl, kvs, hD, hk⟩ := hd
  rw [List.map_append] at hn
  have hn2 := List.nodup_append.mp hn
  refine wpAny_bind (wpAny_holding (sub_any hp hn2.2.1 hsr fun h₁ tk₁ kvs₁ hD₁ hk₁ hx₁ => ?_))
  have hdlt : d < h.objs.size := let ⟨_, _, _, e, _⟩ := hD; Heap.lt_size e
  have hdk : h₁.DictOf (intKind prog w) d kvs := let ⟨o, es, ep, e, r⟩ := hD; ⟨o, es, ep, hx₁ _ _ e, r⟩
  refine wpAny_bind (wpAny_onRaise (wpAny_holding (merge_fresh (s := ⟨h₁,g,dr,tk₁,o⟩) (Nat.ne_of_lt hdlt) (beq_eq_false_iff_ne.mpr (Nat.ne_of_gt (Nat.lt_of_lt_of_le h10 hs))) hdk hD₁ ?_ ?_ ?_ fun h₂ hD₂ hs₂ => ?_)))
  · intro e; subst e
    have := paired_len hk
    exact hne (List.length_eq_zero_iff.mp this.symm)
  · rw [List.map_append, kv_keys hk, kv_keys hk₁]; exact hn
  · rw [paired_len hk, paired_len hk₁, sizeLine_eq]; omega
  · refine wpAny_pure (hQ h₂ _ ⟨fun b ob e => (hs₂.2 b (Nat.ne_of_lt (Nat.lt_of_lt_of_le (Heap.lt_size e) hdl))).trans (hx₁ b ob (hx b ob e)), ?_, fun e => hne (List.append_eq_nil_iff.mp e).1, hdl, _, hD₂, paired_app hk hk₁⟩)
    rw [hs₂.1]
    obtain ⟨_, _, _, e, _⟩ := hdk
    exact Nat.le_trans hdl (Nat.le_of_lt (Heap.lt_size e))
theorem disp_lits {g : Array GenState} {dr : Drawn} {o : OsState} {pairs : List (Sem Value × Sem Value)} {D : List (Int × Str)} {h : Heap} {tk : Nat} {Q : Value → Shared → Prop}
    (hp : Paired (LitPair prog w) pairs D) (hn : (D.map (·.1)).Nodup) (hne : D ≠ []) (hlen : D.length ≤ 5000) (h10 : sysModules < h.objs.size)
    (hQ : ∀ a h' tk' kvs, Ext h h' → h.objs.size ≤ a → h'.DictOf (intKind prog w) a kvs → Paired KeyVal kvs D → Q (.ref a) ⟨h',g,dr,tk',o⟩) :
    wpAny (model prog w) A (dictDisplay (pairs.map fun p => (some p.1, p.2))) Q E ⟨h,g,dr,tk,o⟩ := by
  unfold dictDisplay
  dsimp only
  refine wpAny_bind ?_
  refine wpAny_forIn_list _
    (fun rest b s' => ∃ h' tk' Dm Du ps Dr, s' = ⟨h',g,dr,tk',o⟩ ∧ DispAt prog w h b.1 Dm h' ∧ Paired (LitPair prog w) b.2 Du ∧ b.2.length < 17 ∧ rest = ps.map (fun p => (some p.1, p.2)) ∧ Paired (LitPair prog w) ps Dr ∧ D = Dm ++ Du ++ Dr)
    _ ?_ ?_ _ _ ⟨h, tk, [], [], pairs, D, rfl, ⟨Ext.rfl', Nat.le_refl _, rfl⟩, .nil, by decide, rfl, hp, rfl⟩
  · rintro x rest ⟨main, run⟩ s' ⟨h', tk', Dm, Du, ps, Dr, rfl, hd, hu, hul, hr, hps, hD⟩
    cases hps with
    | nil => cases hr
    | @cons p y ps Dr hpy hps =>
      rw [List.map_cons] at hr
      obtain ⟨rfl, rfl⟩ := List.cons.inj hr
      dsimp only at hd hu hul ⊢
      have hu' : Paired (LitPair prog w) (run ++ [(p.1, p.2)]) (Du ++ [y]) := paired_app hu (.cons hpy .nil)
      have hD' : D = Dm ++ (Du ++ [y]) ++ Dr := by rw [hD]; simp
      by_cases h17 : ((run ++ [(p.1, p.2)]).length == 17) = true
      · rw [if_pos h17]
        have hlu : (Du ++ [y]).length = 17 := by rw [← paired_len hu']; exact beq_iff_eq.mp h17
        have hru : run ++ [(p.1, p.2)] ≠ [] := by simp
        have hDn : ((Dm ++ (Du ++ [y])).map (·.1)).Nodup := by
          rw [hD', List.map_append] at hn
          exact (List.nodup_append.mp hn).1
        have hDl : Dm.length + (Du ++ [y]).length ≤ 5000 := by
          rw [hD', List.length_append, List.length_append] at hlen; omega
        rw [if_neg (by simp)]
        cases main with
        | none =>
          dsimp only
          obtain ⟨hx, hsz, hDm⟩ := hd
          replace hDm : Dm = [] := hDm
          subst hDm
          rw [List.nil_append] at hDn hD'
          refine wpAny_bind (wpAny_bind (sub_any hu' hDn (by omega) fun h₁ tk₁ kvs hd₁ hk₁ hx₁ => wpAny_pure (wpAny_pure ?_)))
          exact ⟨h₁, tk₁, Du ++ [y], [], ps, Dr, rfl, ⟨Ext.trans hx hx₁, (let ⟨_, _, _, e, _⟩ := hd₁; Nat.le_trans hsz (Nat.le_of_lt (Heap.lt_size e))), by simp, hsz, kvs, hd₁, hk₁⟩, .nil, (by show 0 < 17; decide), rfl, hps, by rw [hD']; simp⟩
        | some d =>
          dsimp only
          refine wpAny_bind (flush_some hd hu' hru hDn hDl (by omega) h10 fun h₁ tk₁ hd₁ => wpAny_pure ?_)
          exact ⟨h₁, tk₁, Dm ++ (Du ++ [y]), [], ps, Dr, rfl, hd₁, .nil, (by show 0 < 17; decide), rfl, hps, by rw [hD']; simp⟩
      · rw [if_neg h17]
        refine wpAny_pure ⟨h', tk', Dm, Du ++ [y], ps, Dr, rfl, hd, hu', ?_, rfl, hps, hD'⟩
        have : run.length + 1 ≠ 17 := fun e => h17 (by simp [e])
        show (run ++ [(p.1, p.2)]).length < 17
        rw [List.length_append, List.length_singleton]; omega
  · rintro ⟨main, run⟩ s' ⟨h', tk', Dm, Du, ps, Dr, rfl, hd, hu, hul, hr, hps, hD⟩
    cases hps with
    | cons _ _ => cases hr
    | nil =>
      rw [List.append_nil] at hD
      dsimp only at hd hu hul ⊢
      have hul2 := paired_len hu
      by_cases he : run.isEmpty = true
      · rw [if_pos he]
        have hre : run = [] := List.isEmpty_iff.mp he
        subst hre
        cases hu
        rw [List.append_nil] at hD
        subst hD
        refine wpAny_bind (wpAny_pure ?_)
        cases main with
        | none => exact absurd hd.2.2 hne
        | some d =>
          obtain ⟨hx, hsz, _, hdl, kvs, hd', hk⟩ := hd
          exact wpAny_pure (hQ d h' tk' kvs hx hdl hd' hk)
      · rw [if_neg he]
        have hru : run ≠ [] := fun e => he (by rw [e]; rfl)
        cases main with
        | none =>
          obtain ⟨hx, hsz, hDm⟩ := hd
          replace hDm : Dm = [] := hDm
          subst hDm
          rw [List.nil_append] at hD
          subst hD
          dsimp only
          refine wpAny_bind (wpAny_bind (sub_any hu hn (by omega) fun h₁ tk₁ kvs hd₁ hk₁ hx₁ => wpAny_pure ?_))
          exact wpAny_pure (hQ _ h₁ tk₁ kvs (Ext.trans hx hx₁) hsz hd₁ hk₁)
        | some d =>
          dsimp only
          rw [hD] at hn hlen
          rw [List.length_append] at hlen
          refine wpAny_bind (flush_some hd hu hru hn hlen (by omega) h10 fun h₁ tk₁ hd₁ => ?_)
          obtain ⟨hx, hsz, _, hdl, kvs, hd', hk⟩ := hd₁
          exact wpAny_pure (hQ d h₁ tk₁ kvs hx hdl hd' (by rw [hD]; exact hk))
end
end Mine
end

section
open PySem PySem.W PyProof.Rows PySem.Calls
set_option maxRecDepth 100000
set_option maxHeartbeats 4000000
set_option linter.unusedVariables false
namespace Mine
def isIntLit : Option Expr → Bool
  | some (.Constant (.int _) _ _) => true
  | _ => false
def isStrLit : Expr → Bool
  | .Constant (.str _) _ _ => true
  | _ => false
def keyInt (k : Option Expr) : Int := match k with | some e => litInt e | none => 0
section
variable {prog : Program} {w : World} {A : Around} {E : Value → Shared → Prop}
theorem lits_shape (env : Env) (pos : Pos) : ∀ (keys : List (Option Expr)) (values : List Expr), keys.length = values.length → keys.all isIntLit = true → values.all isStrLit = true →
    ∃ pairs : List (Sem Value × Sem Value), (evalEachOpt keys env).zip ((evalEach values env).map fun v => do let x ← v; standAt pos; pure x) = pairs.map (fun p => (some p.1, p.2)) ∧
      Paired (LitPair prog w) pairs ((keys.map keyInt).zip (values.map litStr))
  | [], [], _, _, _ => ⟨[], rfl, .nil⟩
  | k :: ks, v :: vs, hl, hk, hv => by
    rw [List.all_cons, Bool.and_eq_true] at hk hv
    obtain ⟨ps, e, hp⟩ := lits_shape env pos ks vs (by simpa using hl) hk.2 hv.2
    cases k with
    | none => exact absurd hk.1 (by simp [isIntLit])
    | some k =>
      have hk1 := hk.1
      have hv1 := hv.1
      unfold isIntLit at hk1
      unfold isStrLit at hv1
      split at hk1
      · rename_i i kk pp heq
        cases heq
        split at hv1
        · rename_i x kk2 pp2
          refine ⟨(eval (.Constant (.int i) kk pp) env, do let x ← eval (.Constant (.str x) kk2 pp2) env; standAt pos; pure x) :: ps, ?_, ?_⟩
          · rw [List.map_cons, ← e]
            rfl
          · rw [List.map_cons, List.map_cons, List.zip_cons_cons]
            refine .cons ⟨fun A E h g d tk o Q H => by show wpAny (model prog w) A (eval (Expr.Constant (Const.int i) kk pp) env) Q E ⟨h,g,d,tk,o⟩; exact cInt fun t tk' => H t tk', fun A E h g d tk o Q H => wpAny_bind (cStr fun t tk' => wpAny_bind (wpAny_standAt (wpAny_pure (H t tk'))))⟩ hp
        · cases hv1
      · cases hk1
theorem mapObj_any {o : Obj} {F : Int → Option Value} (x : MapObj (intKind prog w) o F) : ∀ prog' w', MapObj (intKind prog' w') o F := fun prog' w' =>
  let ⟨es, ep, a, b, c, d⟩ := x; ⟨es, ep, a, b, c, d⟩
theorem kv_find {k : Int} : ∀ {kvs : List (Int × Value)} {D : List (Int × Str)}, Paired KeyVal kvs D → match (D.find? fun p => p.1 == k).map (·.2) with
    | none => valueAt kvs k = none
    | some x => ∃ t, valueAt kvs k = some (.str x t)
  | _, _, .nil => rfl
  | (k1, v1) :: kvs, (k2, x2) :: D, .cons h t => by
    obtain ⟨e, u, e2⟩ := h
    dsimp only at e e2
    subst e
    have ih := kv_find (k := k) t
    unfold valueAt at ih ⊢
    by_cases hk : k1 = k
    · rw [List.find?_cons_of_pos (by simpa using hk), List.find?_cons_of_pos (by simpa using hk)]
      exact ⟨u, by simp [e2]⟩
    · rw [List.find?_cons_of_neg (by simpa using hk), List.find?_cons_of_neg (by simpa using hk)]
      exact ih
noncomputable def rising : List Int → Bool
  | a :: b :: r => decide (a < b) && rising (b :: r)
  | _ => true
theorem rising_lt : ∀ (l : List Int) (a : Int), rising (a :: l) = true → (∀ x ∈ l, a < x) ∧ l.Nodup
  | [], a, _ => ⟨fun _ h => (nomatch h), List.nodup_nil⟩
  | b :: r, a, h => by
    unfold rising at h
    obtain ⟨h1, h2⟩ := Bool.and_eq_true_iff.mp h
    have h1 := of_decide_eq_true h1
    obtain ⟨h3, h4⟩ := rising_lt r b h2
    refine ⟨fun x hx => ?_, List.nodup_cons.mpr ⟨fun hm => absurd (h3 b hm) (Int.lt_irrefl _), h4⟩⟩
    rcases List.mem_cons.mp hx with rfl | hx
    · exact h1
    · exact Int.lt_trans h1 (h3 x hx)
theorem rising_nodup (l : List Int) (h : rising l = true) : l.Nodup := by
  cases l with
  | nil => exact List.nodup_nil
  | cons a l =>
    obtain ⟨h1, h2⟩ := rising_lt l a h
    exact List.nodup_cons.mpr ⟨fun hm => absurd (h1 a hm) (Int.lt_irrefl _), h2⟩
theorem b3_rising : rising (b3Pairs.map (·.1)) = true := by decide +kernel
theorem b3_nodup : (b3Pairs.map (·.1)).Nodup := rising_nodup _ b3_rising
theorem b3_len : b3Pairs.length = 650 := by decide +kernel
/-- the display of the folding table -/
theorem e_b3 {c F : Addr} {h : Heap} {g : Array GenState} {d : Drawn} {tk : Nat} {o : OsState} {Q : Value → Shared → Prop} {keys : List (Option Expr)} {values : List Expr} {pos : Pos}
    (e : (keys.map keyInt).zip (values.map litStr) = b3Pairs) (hl : keys.length = values.length) (hk : keys.all isIntLit = true) (hv : values.all isStrLit = true) (h10 : sysModules < h.objs.size)
    (H : ∀ a oa h' tk', h.objs.size ≤ a → h'.get? a = some oa → B3Is oa → Ext h h' → Q (.ref a) ⟨h',g,d,tk',o⟩) :
    wpAny (model pw w) A (eval (.Dict keys values pos) (mainEnv pw c F)) Q E ⟨h,g,d,tk,o⟩ := by
  obtain ⟨pairs, e1, hp⟩ := lits_shape (prog := pw) (w := w) (mainEnv pw c F) pos keys values hl hk hv
  rw [arm_eval_Dict, e1]
  rw [e] at hp
  have hl := b3_len
  refine wpAny_bind (wpAny_standAt (disp_lits hp b3_nodup (fun e => by rw [e] at hl; cases hl) (by omega) h10 fun a h' tk' kvs hx hle hd hkv => ?_))
  obtain ⟨oa, ho, hM⟩ := MapObj.of hd.mapOf
  exact H a oa h' tk' hle ho ⟨valueAt kvs, mapObj_any hM, fun c => by unfold b3; exact kv_find hkv⟩ hx
end
end Mine
end

section
open PySem PySem.W PyProof.Rows PySem.Calls
set_option maxRecDepth 100000
set_option maxHeartbeats 400000
set_option linter.unusedVariables false
namespace Mine
abbrev fnStmt (d : DefItem) : Stmt := .FunctionDef d.name d.params d.body [] none [] d.scope none d.name d.pos
def stAt (k : Nat) : Option Stmt := pw.main.body[k]?
noncomputable def st0 : Stmt := (⟨_, rfl⟩ : { d : Stmt // stAt 0 = some d }).1
noncomputable def st1 : Stmt := (⟨_, rfl⟩ : { d : Stmt // stAt 1 = some d }).1
def keysIn : Option Stmt → List (Option Expr)
  | some (.Assign _ (.Dict ks _ _) _) => ks
  | _ => []
def valsIn : Option Stmt → List Expr
  | some (.Assign _ (.Dict _ vs _) _) => vs
  | _ => []
def posIn : Option Stmt → Pos × Pos × Pos
  | some (.Assign [.Name _ p1] (.Dict _ _ p2) p3) => (p1, p2, p3)
  | _ => (⟨0, 0, 0, 0⟩, ⟨0, 0, 0, 0⟩, ⟨0, 0, 0, 0⟩)
noncomputable def b3keys : List (Option Expr) := keysIn (stAt 3)
noncomputable def b3vals : List Expr := valsIn (stAt 3)
noncomputable def b3p1 : Pos := (posIn (stAt 3)).1
noncomputable def b3p2 : Pos := (posIn (stAt 3)).2.1
noncomputable def b3p3 : Pos := (posIn (stAt 3)).2.2
abbrev st3 (ks : List (Option Expr)) (vs : List Expr) (p1 p2 p3 : Pos) : Stmt := .Assign [.Name "b3_exceptions" p1] (.Dict ks vs p2) p3
noncomputable def st5 : Stmt := (⟨_, rfl⟩ : { d : Stmt // stAt 5 = some d }).1
noncomputable def st7 : Stmt := (⟨_, rfl⟩ : { d : Stmt // stAt 7 = some d }).1
noncomputable def st9 : Stmt := (⟨_, rfl⟩ : { d : Stmt // stAt 9 = some d }).1
noncomputable def st10 : Stmt := (⟨_, rfl⟩ : { d : Stmt // stAt 10 = some d }).1
noncomputable def st12 : Stmt := (⟨_, rfl⟩ : { d : Stmt // stAt 12 = some d }).1
noncomputable def st15 : Stmt := (⟨_, rfl⟩ : { d : Stmt // stAt 15 = some d }).1
noncomputable def bodyL (ks : List (Option Expr)) (vs : List Expr) (p1 p2 p3 : Pos) : List Stmt := [st0, st1, fnStmt dB1, st3 ks vs p1 p2 p3, fnStmt dB3, st5, fnStmt dC8, st7, fnStmt dC9, st9, st10, fnStmt dEll, st12, fnStmt dIter, fnStmt dStrip, st15,
  fnStmt dSign, fnStmt dMark, fnStmt dMarks, fnStmt dLetter, fnStmt dItems, fnStmt dKnown, fnStmt dBegun, fnStmt dTold, fnStmt dLaw]
theorem body_eq : pw.main.body = bodyL b3keys b3vals b3p1 b3p2 b3p3 := by kernel_rfl
theorem docs_none : (defs0.all fun d => (docOf d.body).isNone) = true := by kernel_rfl
section
variable {M : Model} {A : Around} {E : Value → Shared → Prop} {s : Shared} {prog : Program} {c Pl F : Addr} {h₀ : Heap} {mgz mg : Str → Option Value} {ps : Array Value}
  {defs : List DefItem} {consts : List (Str × PyData)} {objs : List (Str × (Obj → Prop))} {names : List Str} {Q : Flow → Shared → Prop}
/-- a name that no def, no constant and no table has is given a value, be it anew -/
theorem mod_name {x : Str} {pos' pos : Pos} {value : Expr} {d : PyData} (X : Mod h₀ mgz c Pl s.heap mg ps defs consts objs names)
    (hloc : prog.main.scope.names.lookup x = some .local) (hd : ∀ d ∈ defs, d.name ≠ x) (hc : ∀ p ∈ consts, p.1 ≠ x) (ho : ∀ p ∈ objs, p.1 ≠ x)
    (hval : ∀ Q' : Value → Shared → Prop, (∀ v tk, IsDatum v d → Q' v { s with toks := tk }) → wpAny M A (eval value (mainEnv prog c F)) Q' E s)
    (k : ∀ h' mg' tk, Mod h₀ mgz c Pl h' mg' ps defs consts objs (x :: names) → Q .next { s with heap := h', toks := tk })
    (hnb : x ≠ "__builtins__") (hmod : prog.main.scope.kind = .module)
    (hs : swapsWith value (some (.Name x pos')) pos.line (mainEnv prog c F) = pure false) :
    wpAny M A (exec (.Assign [.Name x pos'] value pos) (mainEnv prog c F)) Q E s := by
  have keepn : ∀ y ∈ names, y ≠ x → y ∈ names.filter (fun y => decide (y ≠ x)) := fun y hy e => List.mem_filter.mpr ⟨hy, decide_eq_true e⟩
  have X' : Mod h₀ (fun y => if y = x then mg x else mgz y) c Pl s.heap mg ps defs consts objs (names.filter fun y => decide (y ≠ x)) :=
    ⟨X.main, X.keep, X.made, X.bound, fun y hy => by
      by_cases e : y = x
      · subst e; simp
      · rw [if_neg e]; exact X.others y fun hm => hy (keepn y hm e), fun d hd' => keepn _ (X.dnames d hd') (hd d hd'), fun p hp => keepn _ (X.cnames p hp) (hc p hp), X.held,
      fun p hp => keepn _ (X.onames p hp) (ho p hp), X.grows, X.lowP, X.lowG, X.tabs⟩
  refine Mod.assign X' hloc (fun hm => by simpa using (List.mem_filter.mp hm).2) hval (fun h' mg' tk Y => k h' mg' tk ?_) hnb hmod hs
  refine ⟨Y.main, Y.keep, Y.made, fun p hp => Y.bound p (List.mem_cons_of_mem _ hp), fun y hy => ?_, fun d hd' => List.mem_cons_of_mem _ (X.dnames d hd'), fun p hp => List.mem_cons_of_mem _ (X.cnames p hp), Y.held,
    fun p hp => List.mem_cons_of_mem _ (X.onames p hp), Y.grows, Y.lowP, Y.lowG, Y.tabs⟩
  have e : y ≠ x := fun e => hy (e ▸ List.mem_cons_self)
  have := Y.others y fun hm => by
    rcases List.mem_cons.mp hm with e' | hm
    · exact e e'
    · exact hy (List.mem_cons_of_mem _ (List.mem_filter.mp hm).1)
  rw [this]
  exact if_neg e
end
theorem blt_of {w : World} {h₁ h : Heap} {mg : Str → Option Value} {c Pl : Addr} {ps : Array Value} {defs : List DefItem} {consts : List (Str × PyData)} {objs : List (Str × (Obj → Prop))} {names : List Str}
    (X : Mod h₁ (mg₀ w) c Pl h mg ps defs consts objs names) (hx : Ext (boot_heap w.params) h₁) (hP : 11 ≤ Pl) (hn : ("set" : Str) ∉ names ∧ ("list" : Str) ∉ names ∧ ("range" : Str) ∉ names) : Blt h := by
  refine ⟨mg, (boot_heap w.params).nsMap builtinsNs, X.main.g, ((Heap.Ns.of_isNs (bh_blt _)).keeps hx).at fun o e => X.keep _ _ (Nat.ne_of_lt (Nat.lt_of_lt_of_le (by decide) hP)) (by decide) e,
    ⟨(X.others _ hn.1).trans (bh_others _ _ (by decide)), (X.others _ hn.2.1).trans (bh_others _ _ (by decide)), (X.others _ hn.2.2).trans (bh_others _ _ (by decide))⟩, bh_blts _⟩
theorem ints_args {prog : Program} {w : World} {A : Around} {E : Value → Shared → Prop} {env : Env} {h : Heap} {g : Array GenState} {d : Drawn} {o : OsState} {pos : Pos} : ∀ (elts : List Expr) (tk : Nat) (Q : List Value → Shared → Prop), elts.all (fun e => isIntLit (some e)) = true →
    (∀ vs tk', vs.length = elts.length → IntsAre vs (elts.map litInt) → Q vs ⟨h,g,d,tk',o⟩) → wpAny (model prog w) A (spliced (backTo pos (starEach elts env))) Q E ⟨h,g,d,tk,o⟩
  | [], tk, Q, _, H => args_nil (H [] tk rfl .nil)
  | e :: es, tk, Q, he, H => by
    rw [List.all_cons, Bool.and_eq_true] at he
    have h1 := he.1
    unfold isIntLit at h1
    split at h1
    · rename_i i k p heq
      cases heq
      refine args_cons (cInt fun t tk1 => ?_) (by rfl)
      exact ints_args es tk1 _ he.2 fun vs tk' hl hi => H _ tk' (by rw [List.length_cons, List.length_cons, hl]) (.cons _ _ hi)
    · cases h1
theorem ints_args' {prog : Program} {w : World} {A : Around} {E : Value → Shared → Prop} {env : Env} {h : Heap} {g : Array GenState} {d : Drawn} {o : OsState} {pos : Pos} {elts : List Expr} {tk : Nat} {Q : List Value → Shared → Prop} {ns : List Int} (he : elts.all (fun e => isIntLit (some e)) = true) (hn : elts.map litInt = ns)
    (H : ∀ vs tk', vs.length = elts.length → IntsAre vs ns → Q vs ⟨h,g,d,tk',o⟩) : wpAny (model prog w) A (spliced (backTo pos (starEach elts env))) Q E ⟨h,g,d,tk,o⟩ := by
  subst hn
  exact ints_args elts tk Q he H
section
variable {w : World} {A : Around} {E : Value → Shared → Prop} {c F : Addr} {h : Heap} {g : Array GenState} {d : Drawn} {tk : Nat} {o : OsState} {Q : Value → Shared → Prop}
theorem e_set1' {f : Nat → Bool} {elts : List Expr} (ns : List Int) {a b : Int} (n : Nat) {k1 k2 p1 p2 p3 p4 p5 p6 p7 p8 p9 pos} (B : Blt h) (hh : A.handled = none) (hf : ∀ c : Nat, ((ns ++ (List.range n).map fun i : Nat => a + (i : Int)).any (· == (c : Int))) = f c)
    (H : ∀ a oa h' tk', h.objs.size ≤ a → h'.get? a = some oa → SetIs f oa → Ext h h' → Q (.ref a) ⟨h',g,d,tk',o⟩)
    (he : elts.all (fun e => isIntLit (some e)) = true) (hns : elts.map litInt = ns) (ha : -(2 ^ 62) ≤ a ∧ a < 2 ^ 62) (hb : -(2 ^ 62) ≤ b ∧ b < 2 ^ 62) (hn : b - a = (n : Int)) (hn2 : n ≤ 100) (hsz : elts.length ≤ 100) :
    wpAny (model pw w) A (eval (.Call (.Name "set" p7) [.BinOp (.List elts pos) .Add (.Call (.Name "list" p1) [.Call (.Name "range" p2) [.Constant (.int a) k1 p3, .Constant (.int b) k2 p4] [] p5] [] p6) p8] [] p9) (mainEnv pw c F)) Q E ⟨h,g,d,tk,o⟩ :=
  e_set1 B hh ha hb hn hn2 hsz (fun _ _ _ _ H2 => ints_args' he hns H2) hf H
theorem e_set2' {f : Nat → Bool} {elts : List Expr} (ns : List Int) {a b a' b' : Int} (n n' : Nat) {k1 k2 k3 k4 p1 p2 p3 p4 p5 p6 p7 p8 p9 q1 q2 q3 q4 q5 q6 q8 pos} (B : Blt h) (hh : A.handled = none)
    (hf : ∀ c : Nat, (((ns ++ (List.range n).map fun i : Nat => a + (i : Int)) ++ (List.range n').map fun i : Nat => a' + (i : Int)).any (· == (c : Int))) = f c)
    (H : ∀ a oa h' tk', h.objs.size ≤ a → h'.get? a = some oa → SetIs f oa → Ext h h' → Q (.ref a) ⟨h',g,d,tk',o⟩)
    (he : elts.all (fun e => isIntLit (some e)) = true) (hns : elts.map litInt = ns) (ha : -(2 ^ 62) ≤ a ∧ a < 2 ^ 62) (hb : -(2 ^ 62) ≤ b ∧ b < 2 ^ 62) (hn : b - a = (n : Int)) (hn2 : n ≤ 50)
    (ha' : -(2 ^ 62) ≤ a' ∧ a' < 2 ^ 62) (hb' : -(2 ^ 62) ≤ b' ∧ b' < 2 ^ 62) (hn' : b' - a' = (n' : Int)) (hn2' : n' ≤ 50) (hsz : elts.length ≤ 100) :
    wpAny (model pw w) A (eval (.Call (.Name "set" p7) [.BinOp (.BinOp (.List elts pos) .Add (.Call (.Name "list" p1) [.Call (.Name "range" p2) [.Constant (.int a) k1 p3, .Constant (.int b) k2 p4] [] p5] [] p6) p8) .Add
      (.Call (.Name "list" q1) [.Call (.Name "range" q2) [.Constant (.int a') k3 q3, .Constant (.int b') k4 q4] [] q5] [] q6) q8] [] p9) (mainEnv pw c F)) Q E ⟨h,g,d,tk,o⟩ :=
  e_set2 B hh ha hb hn hn2 ha' hb' hn' hn2' hsz (fun _ _ _ _ H2 => ints_args' he hns H2) hf H
end
theorem ne_nil {α : Type} {x : Str} (p : Str × α) (hp : p ∈ ([] : List (Str × α))) : p.1 ≠ x := nomatch hp
theorem ne_cons {α : Type} {x : Str} {q : Str × α} {l : List (Str × α)} (h : q.1 ≠ x) (t : ∀ p ∈ l, p.1 ≠ x) : ∀ p ∈ q :: l, p.1 ≠ x := fun p hp => by
  rcases List.mem_cons.mp hp with rfl | hp
  · exact h
  · exact t p hp
def namesF : List Str := ["law", "_law_told", "_law_begun", "_law_known", "_law_items", "_law_letter", "_law_marks", "_law_mark", "_law_sign", "__name__", "_strip_quoted_realnames", "_iter_escaped_chars", "__name__", "_ellipsis_match", "ELLIPSIS_MARKER", "__name__", "in_table_c9", "c9_set", "in_table_c8", "c8_set", "map_table_b3", "b3_exceptions", "in_table_b1", "b1_set", "__name__"]
def objsF : List (Str × (Obj → Prop)) := [("c9_set", SetIs inC9), ("c8_set", SetIs inC8), ("b3_exceptions", B3Is), ("b1_set", SetIs inB1)]
end Mine
end

section
open PySem PySem.W PyProof.Rows PySem.Calls
set_option maxRecDepth 100000
set_option maxHeartbeats 400000
set_option linter.unusedVariables false
namespace Mine
theorem body_walk {ks : List (Option Expr)} {vs : List Expr} {p1 p2 p3 : Pos} (hks : (ks.map keyInt).zip (vs.map litStr) = b3Pairs) (hkl : ks.length = vs.length) (hka : ks.all isIntLit = true) (hva : vs.all isStrLit = true) {w : World} {A : Around} {h₁ : Heap} {g : Array GenState} {d : Drawn} {tk : Nat} {o : OsState} {c Pl F : Addr} {Q : Flow → Shared → Prop} {E : Value → Shared → Prop} (hh : A.handled = none) (hx : Ext (boot_heap w.params) h₁) (hP : 11 ≤ Pl)
    (X0 : Mod h₁ (mg₀ w) c Pl h₁ (mg₀ w) #[] [] [] [] [])
    (K : ∀ h' mg' ps' tk', Mod h₁ (mg₀ w) c Pl h' mg' ps' defs0.reverse consts0 objsF namesF → Q .next ⟨h',g,d,tk',o⟩) :
    wpAny (model pw w) A (execs (bodyL ks vs p1 p2 p3) (mainEnv pw c F)) Q E ⟨h₁,g,d,tk,o⟩ := by
  unfold bodyL
  refine wpAny_execs_cons (mod_name (s := ⟨h₁,g,d,tk,o⟩) (prog := pw) (x := "__name__") (d := .str "cpy313.stringprep") X0 (by rfl) (fun _ h => nomatch h) (fun _ h => nomatch h) (fun _ h => nomatch h) (fun Q' H => wpAny_Constant_str (H _ _ fun _ => .str _ _)) (fun h1 mg1 tk1 X1 => ?_) (by decide) (by rfl) (by rfl))
  refine wpAny_execs_cons (Mod.assign_obj (s := ⟨h1,g,d,tk1,o⟩) (prog := pw) (x := "b1_set") (P := SetIs inB1) X1 (by rfl) (by decide) (fun Q' H => ?_) (fun h2 mg2 tk2 X2 => ?_) (by decide) (by rfl) (by rfl))
  · refine e_set1' [173, 847, 6150, 6155, 6156, 6157, 8203, 8204, 8205, 8288, 65279] 16 (blt_of X1 hx hP (by decide)) hh b1_mem H ?_ ?_ (by decide) (by decide) (by decide) (by decide) (by decide)
    · kernel_rfl
    · kernel_rfl
  refine wpAny_execs_cons (Mod.def_plain (s := ⟨h2,g,d,tk2,o⟩) (prog := pw) X2 (fun _ => rfl) (by decide) (by rfl) (by rfl) (by rfl) (by decide) (fun h3 mg3 c3 tk3 X3 => ?_) (by decide) (by rfl) (by kernel_rfl) (by rfl))
  refine wpAny_execs_cons (Mod.assign_obj (s := ⟨h3,g,d,tk3,o⟩) (prog := pw) (x := "b3_exceptions") (P := B3Is) X3 (by rfl) (by decide) (fun Q' H => ?_) (fun h4 mg4 tk4 X4 => ?_) (by decide) (by rfl) (by rfl))
  · exact e_b3 hks hkl hka hva (Nat.lt_of_lt_of_le (Nat.lt_trans (by decide) X0.lowG) X3.grows) H
  refine wpAny_execs_cons (Mod.def_plain (s := ⟨h4,g,d,tk4,o⟩) (prog := pw) X4 (fun _ => rfl) (by decide) (by rfl) (by rfl) (by rfl) (by decide) (fun h5 mg5 c5 tk5 X5 => ?_) (by decide) (by rfl) (by kernel_rfl) (by rfl))
  refine wpAny_execs_cons (Mod.assign_obj (s := ⟨h5,g,d,tk5,o⟩) (prog := pw) (x := "c8_set") (P := SetIs inC8) X5 (by rfl) (by decide) (fun Q' H => ?_) (fun h6 mg6 tk6 X6 => ?_) (by decide) (by rfl) (by rfl))
  · refine e_set2' [832, 833, 8206, 8207] 5 6 (blt_of X5 hx hP (by decide)) hh c8_mem H ?_ ?_ (by decide) (by decide) (by decide) (by decide) (by decide) (by decide) (by decide) (by decide) (by decide)
    · kernel_rfl
    · kernel_rfl
  refine wpAny_execs_cons (Mod.def_plain (s := ⟨h6,g,d,tk6,o⟩) (prog := pw) X6 (fun _ => rfl) (by decide) (by rfl) (by rfl) (by rfl) (by decide) (fun h7 mg7 c7 tk7 X7 => ?_) (by decide) (by rfl) (by kernel_rfl) (by rfl))
  refine wpAny_execs_cons (Mod.assign_obj (s := ⟨h7,g,d,tk7,o⟩) (prog := pw) (x := "c9_set") (P := SetIs inC9) X7 (by rfl) (by decide) (fun Q' H => ?_) (fun h8 mg8 tk8 X8 => ?_) (by decide) (by rfl) (by rfl))
  · refine e_set1' [917505] 96 (blt_of X7 hx hP (by decide)) hh c9_mem H ?_ ?_ (by decide) (by decide) (by decide) (by decide) (by decide)
    · kernel_rfl
    · kernel_rfl
  refine wpAny_execs_cons (Mod.def_plain (s := ⟨h8,g,d,tk8,o⟩) (prog := pw) X8 (fun _ => rfl) (by decide) (by rfl) (by rfl) (by rfl) (by decide) (fun h9 mg9 c9 tk9 X9 => ?_) (by decide) (by rfl) (by kernel_rfl) (by rfl))
  refine wpAny_execs_cons (mod_name (s := ⟨h9,g,d,tk9,o⟩) (prog := pw) (x := "__name__") (d := .str "cpy313.doctest") X9 (by rfl) (by decide) (fun p hp => ?_) (fun p hp => ?_) (fun Q' H => wpAny_Constant_str (H _ _ fun _ => .str _ _)) (fun h10 mg10 tk10 X10 => ?_) (by decide) (by rfl) (by rfl))
  · revert p; first | exact ne_nil | exact ne_cons (by decide) (ne_nil) | exact ne_cons (by decide) (ne_cons (by decide) (ne_cons (by decide) (ne_cons (by decide) ne_nil)))
  · revert p; first | exact ne_nil | exact ne_cons (by decide) (ne_nil) | exact ne_cons (by decide) (ne_cons (by decide) (ne_cons (by decide) (ne_cons (by decide) ne_nil)))
  refine wpAny_execs_cons (Mod.assign (s := ⟨h10,g,d,tk10,o⟩) (prog := pw) (x := "ELLIPSIS_MARKER") (d := .str "...") X10 (by rfl) (by decide) (fun Q' H => wpAny_Constant_str (H _ _ fun _ => .str _ _)) (fun h11 mg11 tk11 X11 => ?_) (by decide) (by rfl) (by rfl))
  refine wpAny_execs_cons (Mod.def_plain (s := ⟨h11,g,d,tk11,o⟩) (prog := pw) X11 (fun _ => rfl) (by decide) (by rfl) (by rfl) (by rfl) (by decide) (fun h12 mg12 c12 tk12 X12 => ?_) (by decide) (by rfl) (by kernel_rfl) (by rfl))
  refine wpAny_execs_cons (mod_name (s := ⟨h12,g,d,tk12,o⟩) (prog := pw) (x := "__name__") (d := .str "cpy313.email.utils") X12 (by rfl) (by decide) (fun p hp => ?_) (fun p hp => ?_) (fun Q' H => wpAny_Constant_str (H _ _ fun _ => .str _ _)) (fun h13 mg13 tk13 X13 => ?_) (by decide) (by rfl) (by rfl))
  · revert p; first | exact ne_nil | exact ne_cons (by decide) (ne_nil) | exact ne_cons (by decide) (ne_cons (by decide) (ne_cons (by decide) (ne_cons (by decide) ne_nil)))
  · revert p; first | exact ne_nil | exact ne_cons (by decide) (ne_nil) | exact ne_cons (by decide) (ne_cons (by decide) (ne_cons (by decide) (ne_cons (by decide) ne_nil)))
  refine wpAny_execs_cons (Mod.def_plain (s := ⟨h13,g,d,tk13,o⟩) (prog := pw) X13 (fun _ => rfl) (by decide) (by rfl) (by rfl) (by rfl) (by decide) (fun h14 mg14 c14 tk14 X14 => ?_) (by decide) (by rfl) (by kernel_rfl) (by rfl))
  refine wpAny_execs_cons (Mod.def_plain (s := ⟨h14,g,d,tk14,o⟩) (prog := pw) X14 (fun _ => rfl) (by decide) (by rfl) (by rfl) (by rfl) (by decide) (fun h15 mg15 c15 tk15 X15 => ?_) (by decide) (by rfl) (by kernel_rfl) (by rfl))
  refine wpAny_execs_cons (mod_name (s := ⟨h15,g,d,tk15,o⟩) (prog := pw) (x := "__name__") (d := .str "law_to0051_01") X15 (by rfl) (by decide) (fun p hp => ?_) (fun p hp => ?_) (fun Q' H => wpAny_Constant_str (H _ _ fun _ => .str _ _)) (fun h16 mg16 tk16 X16 => ?_) (by decide) (by rfl) (by rfl))
  · revert p; first | exact ne_nil | exact ne_cons (by decide) (ne_nil) | exact ne_cons (by decide) (ne_cons (by decide) (ne_cons (by decide) (ne_cons (by decide) ne_nil)))
  · revert p; first | exact ne_nil | exact ne_cons (by decide) (ne_nil) | exact ne_cons (by decide) (ne_cons (by decide) (ne_cons (by decide) (ne_cons (by decide) ne_nil)))
  refine wpAny_execs_cons (Mod.def_plain (s := ⟨h16,g,d,tk16,o⟩) (prog := pw) X16 (fun _ => rfl) (by decide) (by rfl) (by rfl) (by rfl) (by decide) (fun h17 mg17 c17 tk17 X17 => ?_) (by decide) (by rfl) (by kernel_rfl) (by rfl))
  refine wpAny_execs_cons (Mod.def_plain (s := ⟨h17,g,d,tk17,o⟩) (prog := pw) X17 (fun _ => rfl) (by decide) (by rfl) (by rfl) (by rfl) (by decide) (fun h18 mg18 c18 tk18 X18 => ?_) (by decide) (by rfl) (by kernel_rfl) (by rfl))
  refine wpAny_execs_cons (Mod.def_plain (s := ⟨h18,g,d,tk18,o⟩) (prog := pw) X18 (fun _ => rfl) (by decide) (by rfl) (by rfl) (by rfl) (by decide) (fun h19 mg19 c19 tk19 X19 => ?_) (by decide) (by rfl) (by kernel_rfl) (by rfl))
  refine wpAny_execs_cons (Mod.def_plain (s := ⟨h19,g,d,tk19,o⟩) (prog := pw) X19 (fun _ => rfl) (by decide) (by rfl) (by rfl) (by rfl) (by decide) (fun h20 mg20 c20 tk20 X20 => ?_) (by decide) (by rfl) (by kernel_rfl) (by rfl))
  refine wpAny_execs_cons (Mod.def_plain (s := ⟨h20,g,d,tk20,o⟩) (prog := pw) X20 (fun _ => rfl) (by decide) (by rfl) (by rfl) (by rfl) (by decide) (fun h21 mg21 c21 tk21 X21 => ?_) (by decide) (by rfl) (by kernel_rfl) (by rfl))
  refine wpAny_execs_cons (Mod.def_plain (s := ⟨h21,g,d,tk21,o⟩) (prog := pw) X21 (fun _ => rfl) (by decide) (by rfl) (by rfl) (by rfl) (by decide) (fun h22 mg22 c22 tk22 X22 => ?_) (by decide) (by rfl) (by kernel_rfl) (by rfl))
  refine wpAny_execs_cons (Mod.def_plain (s := ⟨h22,g,d,tk22,o⟩) (prog := pw) X22 (fun _ => rfl) (by decide) (by rfl) (by rfl) (by rfl) (by decide) (fun h23 mg23 c23 tk23 X23 => ?_) (by decide) (by rfl) (by kernel_rfl) (by rfl))
  refine wpAny_execs_cons (Mod.def_plain (s := ⟨h23,g,d,tk23,o⟩) (prog := pw) X23 (fun _ => rfl) (by decide) (by rfl) (by rfl) (by rfl) (by decide) (fun h24 mg24 c24 tk24 X24 => ?_) (by decide) (by rfl) (by kernel_rfl) (by rfl))
  refine wpAny_execs_cons (Mod.def_plain (s := ⟨h24,g,d,tk24,o⟩) (prog := pw) X24 (fun _ => rfl) (by decide) (by rfl) (by rfl) (by rfl) (by decide) (fun h25 mg25 c25 tk25 X25 => ?_) (by decide) (by rfl) (by kernel_rfl) (by rfl))
  exact wpAny_execs_nil (K h25 mg25 _ tk25 X25)
end Mine
end

section
open PySem PySem.W PyProof.Rows PySem.Calls
set_option maxRecDepth 100000
set_option maxHeartbeats 1000000
set_option linter.unusedVariables false
namespace Mine
/-- how the top leaves the heap -/
structure TopEnd (w : World) (h : Heap) : Prop where
  ex : ∃ h₁ mg c Pl ps, Ext (boot_heap w.params) h₁ ∧ 11 ≤ Pl ∧ Mod h₁ (mg₀ w) c Pl h mg ps defs0.reverse consts0 objsF namesF
theorem keys_ok : b3keys.all isIntLit = true := by kernel_rfl
theorem vals_ok : b3vals.all isStrLit = true := by kernel_rfl
theorem lens_ok : b3keys.length = b3vals.length := by kernel_rfl
theorem pairs_ok : (b3keys.map keyInt).zip (b3vals.map litStr) = b3Pairs := by kernel_rfl
theorem top_end {w : World} {s₀ : Shared} (hh : s₀.heap = boot_heap w.params) (hg : s₀.gens = #[]) (hz : s₀.asleep) :
    ∃ n s' t', schedN (denote table) pw w n (.single s₀ (topStub pw)) = .running (.single s' t') ∧ through t' = true ∧ (TopEnd w s'.heap ∧ s'.os = s₀.os) ∧ s'.gens = #[] ∧ s'.heap.life = s₀.heap.life := by
  obtain ⟨hp, g, dr, tk, os⟩ := s₀
  replace hh : hp = boot_heap w.params := hh
  replace hg : g = #[] := hg
  subst hh
  subst hg
  refine top_through (P := fun s' => TopEnd w s'.heap ∧ s'.os = os) (t := (topStub pw).cur) hz ?_
  refine top_enter (s₀ := ⟨boot_heap w.params, #[], dr, tk, os⟩) rfl (Post := fun s' => (TopEnd w s'.heap ∧ s'.os = os) ∧ s'.gens = #[]) fun h₁ tk₁ c Pl F A R hx hP X => ?_
  rw [body_eq]
  exact body_walk pairs_ok lens_ok keys_ok vals_ok R.handled hx hP X fun h' mg' ps' tk' X' => ⟨⟨⟨h₁, mg', c, Pl, ps', hx, hP, X'⟩, rfl⟩, rfl⟩
theorem namesF_sub : (namesF.all fun x => names0.contains x && pw.boundNames.contains x) = true := by decide +kernel
theorem names0_sub : (names0.all fun x => namesF.contains x) = true := by decide +kernel
theorem laid_not : (laidNames.all fun x => !namesF.contains x) = true := by decide +kernel
theorem objs_sub : ∀ p ∈ objs0, p ∈ objsF := fun p hp => by
  unfold objs0 at hp
  unfold objsF
  simp only [List.mem_cons, List.not_mem_nil, or_false] at hp ⊢
  rcases hp with h | h | h | h
  · exact .inr (.inr (.inr h))
  · exact .inr (.inl h)
  · exact .inl h
  · exact .inr (.inr (.inl h))
section
variable {w : World} {h : Heap}
theorem TopEnd.keep (T : TopEnd w h) : ∀ b o, b ≠ mainGlobals → (boot_heap w.params).get? b = some o → h.get? b = some o := fun b o hb e =>
  let ⟨h₁, mg, c, Pl, ps, hx, hP, X⟩ := T.ex
  X.keep b o (Nat.ne_of_lt (Nat.lt_of_lt_of_le (by have := Heap.lt_size e; rwa [bh_size] at this) hP)) hb (hx b o e)
theorem TopEnd.stat (T : TopEnd w h) : h.Ns cStatics (fun _ => none) := (bh_statNs w.params).at fun o e => T.keep _ o (by decide) e
theorem TopEnd.blt (T : TopEnd w h) : h.Ns builtinsNs ((boot_heap w.params).nsMap builtinsNs) := (Heap.Ns.of_isNs (bh_blt w.params)).at fun o e => T.keep _ o (by decide) e
theorem TopEnd.mods (T : TopEnd w h) : h.Ns sysModules ((boot_heap w.params).nsMap sysModules) := (Heap.Ns.of_isNs (bh_mods w.params)).at fun o e => T.keep _ o (by decide) e
theorem TopEnd.static (T : TopEnd w h) (k : Str) : staticOf h k = none := by
  obtain ⟨o, es, ep, ho, hd, _, hf⟩ := T.stat
  simp only [staticOf, ho, hd]
  exact hf k
theorem boot_static (P : Params) (k : Str) : staticOf (boot_heap P) k = none := by
  obtain ⟨o, es, ep, ho, hd, _, hf⟩ := bh_statNs P
  simp only [staticOf, ho, hd]
  exact hf k
theorem TopEnd.glob (T : TopEnd w h) : ∃ N mg, Glob N mg ((boot_heap w.params).nsMap builtinsNs) defs0 consts0 objs0 names0 h ∧ mg "law" ≠ none ∧ isTheDefsW pw h "law" ∧
    (∀ x, globalOf h x = mg x) ∧ (∀ x, x ∉ namesF → mg x = mg₀ w x) ∧ builtinsGlobalAsBooted h := by
  obtain ⟨h₁, mg, c, Pl, ps, hx, hP, X⟩ := T.ex
  have hgl := fun x => PySem.Claim2Try.globalOf_of_ns X.main.g x
  refine ⟨h₁.objs.size, mg, ⟨X.main.g, T.blt, bh_blts _, ⟨_, T.stat, rfl⟩, fun d hd => X.made d (List.mem_reverse.mpr hd), X.bound, fun x hx hb => (X.others x fun hm => hx ?_).trans (bh_others _ x hb), ⟨_, T.stat, rfl⟩,
    fun p hp => let ⟨a, o, hN, hb, ho, hq⟩ := X.held p (objs_sub p hp); ⟨a, o, Nat.lt_of_lt_of_le X.lowG hN, hb, ho, hq⟩,
    ⟨⟨_, T.stat, rfl, rfl⟩, ⟨_, T.mods, bh_nopy _⟩, ⟨_, T.blt, bh_blts _⟩, (let ⟨bm, o, hbm, _, _, _, hbo, h1, h2, _⟩ := X.main.bmod; ⟨mg, bm, o, X.main.g, hbm, hbo, h1, h2⟩)⟩⟩, ?_, ?_, hgl, X.others, ?_⟩
  · have := List.all_eq_true.mp namesF_sub x hm
    rw [Bool.and_eq_true, List.contains_iff_mem] at this
    exact this.1
  · obtain ⟨a, c', o, pm, doc, dV, h1, h2, h3, _⟩ := X.made dLaw (List.mem_reverse.mpr (by unfold defs0; simp))
    rw [show ("law" : Str) = dLaw.name from rfl, h3]
    exact fun e => nomatch e
  · obtain ⟨a, c', o, pm, doc, dV, h1, h2, h3, h4, h5, h6, h7⟩ := X.made dLaw (List.mem_reverse.mpr (by unfold defs0; simp))
    have hdv := h7.none_of (by rfl)
    subst hdv
    exact ⟨a, o, _, dLaw.params, dLaw.body, dLaw.scope, (hgl _).trans h3, h4, h5, by kernel_rfl, rfl, rfl, rfl, rfl, rfl, rfl, rfl, rfl, .inl ⟨by rfl, rfl⟩, [], by kernel_rfl, .inl ⟨rfl, rfl⟩⟩
  · obtain ⟨bm, o, hbm, _, _, _, hbo, h1, h2, _⟩ := X.main.bmod
    exact ⟨bm, o, (hgl _).trans hbm, hbo, h1, h2⟩
end
end Mine
end

section
open PySem PySem.W PyProof.Rows PySem.Calls
set_option maxRecDepth 100000
set_option maxHeartbeats 1000000
set_option linter.unusedVariables false
namespace Mine
theorem boot_glob (P : Params) (x : Str) : globalOf (boot_heap P) x = (boot_heap P).nsMap mainGlobals x := PySem.Pin.globalOf_eq (bh_main P) x
theorem top_ran {w : World} {s₀ : Shared} (hh : s₀.heap = boot_heap w.params) (hg : s₀.gens = #[]) (hz : s₀.asleep) :
    ∃ s₁, TopRan pw w s₀ s₁ ∧ TopEnd w s₁.heap ∧ s₁.gens = #[] ∧ s₁.asleep ∧ s₁.os = s₀.os := by
  obtain ⟨n, s₁, t', hn, ht, ⟨T, hos⟩, hg₁, hl⟩ := top_end hh hg hz
  obtain ⟨N, mg, G, _, _, hgl, hoth, hbg⟩ := T.glob
  refine ⟨s₁, ⟨⟨n, t', hn, ht⟩, hl, Shared.rest_eq hos, fun b o e hb => ?_, fun k v e => ?_, fun k => .inl ?_, PySem.Pin.keysAreStrs_of_ns G.g, fun x hx => ?_, hbg, fun g hm => ?_, fun x v e => ?_, fun x hx => ?_⟩, T, hg₁, Shared.asleep_of_life hl hz, hos⟩
  · rw [hh] at e
    exact T.keep b o (fun q => hb (.inl q)) e
  · rw [T.static k] at e; cases e
  · rw [T.static k, hh, boot_static]
  · rw [PySem.Pin.builtinOf_of_ns T.blt x]
    exact bh_blts _ x hx
  · rw [hg₁] at hm; simp at hm
  · rw [hgl x] at e
    by_cases hm : x ∈ namesF
    · have := List.all_eq_true.mp namesF_sub x hm
      rw [Bool.and_eq_true, List.contains_iff_mem, List.contains_iff_mem] at this
      exact .inr this.2
    · rw [hoth x hm] at e
      refine .inl ?_
      have e' : startupNames = bootMainNames := rfl
      rw [e']
      by_cases hb : x ∈ bootMainNames
      · exact hb
      · have e2 : mg₀ w x = none := bh_others _ x hb
        rw [e2] at e; cases e
  · rw [hgl x, hh, boot_glob]
    refine hoth x fun hm => ?_
    have := List.all_eq_true.mp laid_not x hx
    rw [Bool.not_eq_true'] at this
    rw [← List.contains_iff_mem, this] at hm
    cases hm
end Mine
end

section
open PySem PySem.W PyProof.Rows PySem.Calls
set_option maxRecDepth 100000
set_option maxHeartbeats 1000000
set_option linter.unusedVariables false
namespace Mine
abbrev theLaw : OpenLaw := PySem.Challenge.rw_to0051_01
abbrev theRow : OpenRow := theLaw.row
theorem row_promised : theRow.toRowW.promised := ⟨[.list []], by decide +kernel, by decide +kernel⟩
theorem items_ints {R : WRecords} : ∀ (xs : List WData), WShape.hasItems R xs .int = true → ∃ ns : List Int, xs = ns.map .int
  | [], _ => ⟨[], rfl⟩
  | x :: xs, h => by
    have h' : WShape.has R x .int = true ∧ WShape.hasItems R xs .int = true := by simpa [WShape.hasItems] using h
    obtain ⟨i, rfl⟩ := hasW_int h'.1
    obtain ⟨ns, rfl⟩ := items_ints xs h'.2
    exact ⟨i :: ns, rfl⟩
theorem reads_ints {R : WRecords} {cl : Str → Option Addr} {h : Heap} : ∀ {vs : List Value} {ns : List Int} {as : List Addr}, ReadsAllW R cl h vs (ns.map .int) as → IntsAre vs ns
  | _, [], _, .nil => .nil
  | _, n :: ns, _, .cons r1 r2 => by
    obtain ⟨t, rfl, _⟩ := readsW_int_inv r1
    exact .cons n t (reads_ints r2)
theorem pre_args {args : List WData} (h : theRow.toRowW.claim.pre args = true) : ∃ ns : List Int, args = [.list (ns.map .int)] ∧ ns.length ≤ 63 := by
  obtain ⟨h1, h2⟩ := pre_splitW h
  obtain ⟨d, r, rfl, hd, hr⟩ := hasAllW_cons h1
  obtain rfl := hasAllW_nil hr
  obtain ⟨xs, rfl, hx⟩ := hasW_list hd
  obtain ⟨ns, rfl⟩ := items_ints xs hx
  refine ⟨ns, rfl, ?_⟩
  have e : theRow.toRowW.pre = .and (.not (.lt (.lit (.int 63)) (.len (.arg 0)))) (.lit (.bool true)) := rfl
  rw [e] at h2
  simp only [WTm.holds, WTm.value, List.getElem?_cons_zero] at h2
  rcases Nat.lt_or_ge 63 (ns.map WData.int).length with hlt | hge
  · exfalso
    have : less? (.int 63) (.int ((ns.map WData.int).length : Nat)) = some true := by
      have h' : 63 < ns.length := by simpa using hlt
      simp only [less?, Num.less?, List.length_map]
      rw [decide_eq_true (by omega)]
    rw [this] at h2
    simp at h2
  · simpa using hge
theorem no_raise (args : List WData) (cls : ExcName) : theRow.toRowW.claim.raises args cls = false := rfl
theorem post_true (args : List WData) : theRow.toRowW.claim.post args (.bool true) args = true := by
  show (WShape.has [] (.bool true) .bool && WTm.holds [] (.eq .res (.lit (.bool true))) { args := args, res := some (.bool true), after := args }) = true
  simp [WShape.has, WShape.arms, WTm.holds, WTm.value, same]
theorem row_frees : (frees theRow.toRowW && theRow.toRowW.within.isEmpty) = true := by decide +kernel
theorem row_open : opensWell theRow.prog = true := by decide +kernel
theorem row_bare : theRow.prog.bare := ⟨rfl, rfl, rfl, rfl, rfl, by decide +kernel⟩
theorem law_mem : dLaw ∈ defs0 := by unfold defs0; simp
theorem row_call {w : World} {s₀ : Shared} (T : TopEnd w s₀.heap) {args : List WData} {vs : List Value} {as : List Addr} {s₁ : Shared} (hpre : theRow.toRowW.claim.pre args = true) (L : Laid [] w s₀ s₁ args vs as) {Q : Fin → Shared → Prop} {E : Value → Shared → Prop}
    (H : ∀ s', GoodWG theRow.toRowW.claim (classAt s₀.heap) (ExcName.means s₀.heap) args s₁ (.ok (.ret (.bool true))) s' → Q (.done (.ret (.bool true))) s') :
    wpAny (model pw w) callerA (callStub "law" vs).cur Q E s₁ := by
  obtain ⟨N, mg, G0, _, _, _, _, _⟩ := T.glob
  have G := G0.keeps L.keeps
  obtain ⟨a, c', o, pm, doc, hN, hN', hmg, ho, hd, hc⟩ := (G.made dLaw law_mem).plain (by rfl)
  have hfn : Fn dLaw s₁.heap a := ⟨o, pm, c', doc, ho, hd, hc⟩
  obtain ⟨ns, rfl, hlen⟩ := pre_args hpre
  have hr := L.reads
  have hg := L.gens
  obtain ⟨h, g, dr, tk, os⟩ := s₁
  replace hg : g = #[] := hg
  subst hg
  cases hr with
  | cons r1 r2 =>
    cases r2
    obtain ⟨sp, items, as', rfl, hl, ri, rfl⟩ := readsW_list_inv r1
    have hi := reads_ints ri
    unfold callStub
    dsimp only
    refine wpAny_bind (wpAny_nsGet G.g ?_)
    rw [show ("law" : Str) = dLaw.name from rfl, hmg]
    refine wpAny_bind ?_
    refine call_law (k := 0) (A := callerA) ⟨rfl, by decide, by decide⟩ hfn G (vs := items.toList) (by simpa using hl) hi hlen .empty (plain_all _ _ _ _ _ _ (Nat.mod_lt _ (by decide)) (Nat.mod_lt _ (by decide))) fun h' g' tk' hx hb => ?_
    refine wpAny_pure (H _ ⟨.inl ⟨_, .bool true, [], rfl, fun cls => no_raise _ cls, .bool _, post_true _, fun _ => ⟨List.nodup_nil, fun _ hm => nomatch hm⟩⟩, .of_keep hx, rfl, hb⟩)
theorem row_holds (said : theRow.wellSaid = true) : theRow.Holds := by
  obtain ⟨k5, k6⟩ := Bool.and_eq_true_iff.mp row_frees
  obtain ⟨hsame, hu, ha, hap, hm⟩ := frees_parts k5
  have hi := ident_freeW hu ha hap
  have hwi : theRow.toRowW.claim.within = [] := List.isEmpty_iff.mp k6
  refine ⟨said, row_promised, ⟨row_bare, row_open, rfl⟩, row_promised.witness, fun w => ⟨(op_facts w).1, fun s hs => ?_⟩⟩
  obtain ⟨s₀, hf, hg0, hh, hz⟩ := (op_facts w).2 s hs
  obtain ⟨s₁, TR, T, hg₁, hz₁, _⟩ := top_ran hh hg0 hz
  obtain ⟨N, mg, G, _, hdef, hgl, _, _⟩ := T.glob
  have hisNs : s₁.heap.isNs mainGlobals = true := by
    obtain ⟨o, es, ep, ho, hd, hk, _⟩ := G.g
    unfold Heap.isNs
    rw [ho]
    dsimp only
    rw [hd]
    dsimp only
    rw [Array.all_eq_true]
    intro i hi
    obtain ⟨x, t, e⟩ := hk _ (Array.getElem_mem hi)
    rw [e]
  refine ⟨s₀, hf, hg0, s₁, TR, fun n hn => ?_, fun x hx => (nomatch hx), fun x hx => (nomatch hx), ?_⟩
  · have e : n = "law" := List.mem_singleton.mp hn
    rw [e]; exact hdef
  · refine ClaimW.callFrom_of_specG (c := theRow.toRowW.claim) (tree := fun vs => (callStub "law" vs).cur) hz₁ hg₁ fun args hpre hlay ord hord => ?_
    obtain ⟨⟨vs, s₂⟩, hlaid⟩ := Option.isSome_iff_exists.mp (layAllW_isSome (R := []) (cl := classAt s₁.heap) (P := w.params) (ord := ord) (fun c hc => (by cases hc)) args theRow.toRowW.args s₁ (pre_splitW hpre).1)
    have keeps := layAllW_keeps _ _ _ hlaid
    have hal := layAllW_rest _ _ _ hlaid
    obtain ⟨as, hrd, hin, hold⟩ := reads_layAllW hord _ _ _ hlaid hlay s₂.heap (fun _ _ e => e)
    have L : Laid [] w s₁ s₂ args vs as := ⟨⟨ord, hord, hlaid⟩, hrd, hin, hold, keeps, hal.1.trans hg₁, hal.2.2.1⟩
    refine ⟨vs, s₂, hlaid, row_call T hpre L fun s' g => ⟨_, rfl, ?_⟩⟩
    have z := g.laid (c := theRow.toRowW.claim) hsame hwi hi L
    exact ⟨z.1, z.2.1, z.2.2, fun q => (by cases q)⟩
end Mine
end

section
open PySem PySem.W PyProof.Rows PySem.Calls
set_option maxRecDepth 100000
set_option maxHeartbeats 4000000
set_option linter.unusedVariables false
namespace Mine
theorem la_vars : readsOut PySem.Challenge.rw_to0051_01.row.prog PySem.Challenge.rw_to0051_01.row.prog.main.body "vars" = false := by decide +kernel
theorem la_dir : readsOut PySem.Challenge.rw_to0051_01.row.prog PySem.Challenge.rw_to0051_01.row.prog.main.body "dir" = false := by decide +kernel
theorem la_locals : readsOut PySem.Challenge.rw_to0051_01.row.prog PySem.Challenge.rw_to0051_01.row.prog.main.body "locals" = false := by decide +kernel
theorem la_bare : (["vars", "dir", "locals"] : List Str).filter (readsOut PySem.Challenge.rw_to0051_01.row.prog PySem.Challenge.rw_to0051_01.row.prog.main.body) = [] := by
  rw [List.filter_cons_of_neg (by rw [la_vars]; decide), List.filter_cons_of_neg (by rw [la_dir]; decide), List.filter_cons_of_neg (by rw [la_locals]; decide), List.filter_nil]
theorem la_strict : (!(importedModules PySem.Challenge.rw_to0051_01.row.prog.main.body).all cThrough.contains) = false := by decide +kernel
theorem la_road : noRoadLSs { strict := false, foot := none, bare := [] } PySem.Challenge.rw_to0051_01.row.prog.main.body = true := by decide +kernel
theorem law_said : PySem.Challenge.rw_to0051_01.wellSaid = true := by
  unfold OpenLaw.wellSaid OpenRow.wellSaid OpenRow.partSaid looksOpen
  rw [la_bare, la_strict]
  repeat' with_reducible refine look_both ?_ ?_
  all_goals first | with_reducible exact la_road | decide +kernel
end Mine
end

open PySem PySem.W PyProof.Rows PySem.Calls
theorem PySem.Challenge.cw_to0051_01_holds : PySem.Challenge.rw_to0051_01.Holds :=
  PySem.W.holds_law Mine.law_said fun said => Mine.row_holds said
