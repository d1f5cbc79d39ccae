import PyProof.Rows.All
import Wide.All
import OpenK.AllK
import Wide.FinOn
import PySem.Challenge.RW_ax6029_01
set_option Elab.async false
section
open PySem PySem.W PyProof.Rows
set_option maxRecDepth 100000
set_option maxHeartbeats 0
set_option linter.unusedVariables false
namespace Mine
noncomputable abbrev pw : Program := PySem.Challenge.pw_ax6029_01
noncomputable def bodyAll : List Stmt := behindTheImports pw
noncomputable def stAt (i : Nat) : List Stmt := (bodyAll.drop i).take 1
noncomputable def envA : Env := { scope := pw.main.scope, locals := mainNs, globals := mainNs, cells := [], code := .ref 13, frame := some 14 }
noncomputable def cdA : Code := .body bodyAll envA
noncomputable def BB : List Frame := [topFrame ⟨0, 0, 0, 0⟩]
noncomputable def fnData (i : Nat) (qual : Str) (g : Addr) (cl : List (Str × Addr)) (dV kV doc pm : Value) (an : Option Addr) (code ct : Value) (bi : Addr) : FuncData := match bodyAll[i]? with
  | some (.FunctionDef name params body _ _ _ scope _ _ _) => { name, qualname := qual, params, body := .stmts body, scope, globals := g, closure := cl, defaults := dV, kwdefaults := kV, doc, pyModule := pm, annotations := an, code, closureTuple := ct, builtins := bi }
  | _ => default
noncomputable def goT (n : Nat) (w : World) (s : SharedT) (t : Thread) : Option (SharedT × Thread) := segGoT treeTable pw w 11 (some (.ref 6)) 1 n s t
noncomputable def endT (n : Nat) (w : World) (s : SharedT) (t : Thread) : Option (Flow × SharedT × Code × Pos) := segRunT treeTable pw w 11 (some (.ref 6)) 1 n s t
noncomputable def wf (b1 b2 : Bool) (w : World) : World := (w.withFollow "special-get-raises" b1).withFollow "comprehension-iter-twice" b2
noncomputable def wg (b1 : Bool) (w : World) : World := w.withFollow "special-get-raises" b1
theorem rows2 {P : World → Prop} (h : ∀ b1 b2 w, P (wf b1 b2 w)) : ∀ w, P w :=
  byRow2 "comprehension-iter-twice"
    (byRow2 "special-get-raises" (P := fun w => P (w.withFollow "comprehension-iter-twice" false)) (h false false) (h true false))
    (byRow2 "special-get-raises" (P := fun w => P (w.withFollow "comprehension-iter-twice" true)) (h false true) (h true true))
theorem rows1 {P : World → Prop} (h : ∀ b1 w, P (wg b1 w)) : ∀ w, P w := byRow2 "special-get-raises" (h false) (h true)
def Goes (w : World) (s : SharedT) (t : Thread) (s' : SharedT) (t' : Thread) (N : Nat) : Prop := ∃ n, n ≤ N ∧ goT n w s t = some (s', t')
def Ends (w : World) (s : SharedT) (t : Thread) (s' : SharedT) (c : Code) (p : Pos) (N : Nat) : Prop := ∃ n, n ≤ N ∧ endT n w s t = some (.next, s', c, p)
-- the generator's expression, its environment, the threads and frames of the loop
noncomputable def genE : PySem.Expr := match (bodyAll[(7 : Nat)]? : Option Stmt) with
  | some (.Assign _ (.BinOp (.Call _ (a :: _) _ _) _ _ _) _) => a
  | _ => default
noncomputable def envG : Env := { scope := (match genE with | .GeneratorExp _ _ sc _ => sc | _ => pw.main.scope), locals := 95, globals := 3, cells := [], qual := Str.ofString "<genexpr>.", func := none, code := .ref 94, frame := some 95, builtins := 0 }
noncomputable def stackOf (r : Option (SharedT × Thread)) : List Frame := match r with | some (_, t) => t.stack | none => []
noncomputable def gensOf (r : Option (SharedT × Thread)) : Array GenState := match r with | some (s, _) => s.gens | none => #[]
noncomputable def kRet (i : Nat) (st : List Frame) : Result → Sem PySem.Fin := match (st[i]? : Option Frame) with | some (.ret k _ _ _ _ _ _) => k | _ => fun _ => .raise .none
noncomputable def kGen (i : Nat) (st : List Frame) : GenResult → Sem PySem.Fin := match (st[i]? : Option Frame) with | some (.gen _ k _ _ _) => k | _ => fun _ => .raise .none
noncomputable def thr (c : Code) (p : Pos) (st : List Frame) : Thread := ⟨denote treeTable c, c, p, st⟩
noncomputable def csG (d : Nat) (it : Addr) : Code := .compStart genE d (.ref it) .none envG
noncomputable def clG (d : Nat) (it : Addr) : Code := .compLoop genE d (.ref it) .none envG
def PP : Pos := ⟨21, 17, 21, 96⟩
def PQ : Pos := ⟨21, 77, 21, 94⟩
def loopC : Code := .builtin "set.update.loop" ⟨[.ref 97, .ref 96], []⟩
noncomputable def uf (k3 k4 k5 : Result → Sem PySem.Fin) : List Frame :=
  [.ret k3 none false [.ref 97] (.builtin "frozenset.__new__" ⟨[.type "frozenset", .ref 96], []⟩) PP [.ref 97, .ref 96],
   .ret k4 none false [] (.builtin "type.__call__" ⟨[.type "frozenset", .ref 96], []⟩) PP [.builtin "frozenset.__new__", .type "frozenset", .ref 96, .builtin "frozenset.__new__", .type "frozenset", .ref 96],
   .ret k5 none false [] cdA PP [.type "frozenset", .ref 96],
   topFrame ⟨0, 0, 0, 0⟩]
noncomputable def inF (kg : GenResult → Sem PySem.Fin) (kn : Result → Sem PySem.Fin) (st : List Frame) : List Frame :=
  .gen 0 kg [] (.builtin "generator.__next__" ⟨[.ref 96], []⟩) PP ::
  .ret kn none true [.ref 96] loopC PP [.builtin "generator.__next__", .ref 96, .builtin "generator.__next__", .ref 96] :: st
noncomputable def k0F (k0 : Result → Sem PySem.Fin) (st : List Frame) : List Frame := .ret k0 none false [] (clG 0 91) PQ [] :: st
-- the objects of the loop that turn
noncomputable def d95a (P : Params) (lo hi : Value) : Obj := ⟨.type "frame", none, .dict ⟨[⟨PyData.keyHash P (Str.ofString ".0"), .str (Str.ofString ".0") 392, .ref 91⟩, ⟨PyData.keyHash P (Str.ofString "lo"), .str (Str.ofString "lo") 395, lo⟩, ⟨PyData.keyHash P (Str.ofString "hi"), .str (Str.ofString "hi") 396, hi⟩]⟩ 3, ⟨[]⟩⟩
noncomputable def d95 (P : Params) (lo hi cp : Value) : Obj := ⟨.type "frame", none, .dict ⟨[⟨PyData.keyHash P (Str.ofString ".0"), .str (Str.ofString ".0") 392, .ref 91⟩, ⟨PyData.keyHash P (Str.ofString "lo"), .str (Str.ofString "lo") 395, lo⟩, ⟨PyData.keyHash P (Str.ofString "hi"), .str (Str.ofString "hi") 396, hi⟩, ⟨PyData.keyHash P (Str.ofString "cp"), .str (Str.ofString "cp") 401, cp⟩]⟩ 4, ⟨[]⟩⟩
def rit (c r : Int) : Obj := ⟨.type "range_iterator", none, .fields ⟨[.int c 0, .int r 0, .int (.ofNat 1) 0]⟩, ⟨[]⟩⟩
lay_quick goT endT bodyAll stAt envA cdA BB fnData wf wg genE envG stackOf gensOf kRet kGen thr csG clG PP PQ loopC uf inF k0F d95a d95 rit
end Mine
end
section
open PySem PySem.W PyProof.Rows
set_option maxRecDepth 100000
set_option maxHeartbeats 0
set_option linter.unusedVariables false
namespace Mine
/- boot: 11 objects, toks 181, life {}; pre: steps 12 pos ⟨0, 0, 0, 0⟩ toks 187 life {}; block: steps 0 pos ⟨0, 0, 0, 0⟩ same true; env code (.ref 13) frame (some 14) locals 3 globals 3 builtins 0 qual (PySem.Str.ofString "") func none; framePos ⟨0, 0, 0, 0⟩; ann (some (.ref 6)) -/
noncomputable def Tboot (P : Params) : BT := (.node (boot_o_0 P) (.node (boot_o_1 P) (.node (boot_o_3 P) (.node (boot_o_7 P) .nil .nil) .nil) (.node (boot_o_5 P) (.node (boot_o_9 P) .nil .nil) .nil)) (.node (boot_o_2 P) (.node (boot_o_4 P) (.node (boot_o_8 P) .nil .nil) .nil) (.node (boot_o_6 P) (.node (boot_o_10 P) .nil .nil) .nil)))
noncomputable def o11v1 (P : Params) : Obj := ⟨(.type "tuple"), none, (.seq ⟨[]⟩ 0), ⟨[]⟩⟩
noncomputable def o12v1 (P : Params) : Obj := ⟨.none, none, (.fields ⟨[]⟩), ⟨[]⟩⟩
noncomputable def o13v1 (P : Params) : Obj := ⟨(.type "code"), none, (.fields ⟨[(.str (PySem.Str.ofString "<module>") 182), (.str (PySem.Str.ofString "<module>") 183), (.str (PySem.Str.ofString "/claim/cut.py") 184), (.int (.ofNat 1) 0), (.int (.ofNat 0) 0), (.int (.ofNat 0) 0), (.int (.ofNat 0) 0), (.int (.ofNat 0) 0), (.ref 11), (.bool false), (.int (.ofNat 181) 0), (.ref 12), .none, .none, .none, .none, (.int (.ofNat 185) 0), (.int (.ofNat 1) 0), (.str (PySem.Str.ofString "/claim/cut.py") 186)]⟩), ⟨[]⟩⟩
noncomputable def o14v1 (P : Params) : Obj := ⟨(.type "frame"), none, .plain, ⟨[(some (.ref 13)), (some (.ref 3)), (some (.ref 3)), none, (some (.str (PySem.Str.ofString "__main__") 164)), none, (some (.ref 0))]⟩⟩
noncomputable def Ta (P : Params) : BT := (.node (boot_o_0 P) (.node (boot_o_1 P) (.node (boot_o_3 P) (.node (boot_o_7 P) .nil .nil) (.node (o11v1 P) .nil .nil)) (.node (boot_o_5 P) (.node (boot_o_9 P) .nil .nil) (.node (o13v1 P) .nil .nil))) (.node (boot_o_2 P) (.node (boot_o_4 P) (.node (boot_o_8 P) .nil .nil) (.node (o12v1 P) .nil .nil)) (.node (boot_o_6 P) (.node (boot_o_10 P) .nil .nil) (.node (o14v1 P) .nil .nil))))
noncomputable def Sa (P : Params) (os : OsState) : SharedT := ⟨Ta P, 15, {}, ⟨[]⟩, {}, 187, os⟩
noncomputable def o3v6 (P : Params) : Obj := ⟨(.type "dict"), none, (.dict ⟨[⟨PyData.keyHash P (PySem.Str.ofString "__name__"), (.str (PySem.Str.ofString "__name__") 165), (.str (PySem.Str.ofString "wcwidth._constants") 325)⟩, ⟨PyData.keyHash P (PySem.Str.ofString "__doc__"), (.str (PySem.Str.ofString "__doc__") 166), .none⟩, ⟨PyData.keyHash P (PySem.Str.ofString "__package__"), (.str (PySem.Str.ofString "__package__") 167), .none⟩, ⟨PyData.keyHash P (PySem.Str.ofString "__loader__"), (.str (PySem.Str.ofString "__loader__") 168), (.builtin "__main__.__loader__#opaque")⟩, ⟨PyData.keyHash P (PySem.Str.ofString "__spec__"), (.str (PySem.Str.ofString "__spec__") 169), .none⟩, ⟨PyData.keyHash P (PySem.Str.ofString "__annotations__"), (.str (PySem.Str.ofString "__annotations__") 170), (.ref 6)⟩, ⟨PyData.keyHash P (PySem.Str.ofString "__builtins__"), (.str (PySem.Str.ofString "__builtins__") 171), (.ref 4)⟩, ⟨PyData.keyHash P (PySem.Str.ofString "__file__"), (.str (PySem.Str.ofString "__file__") 173), (.str (PySem.Str.ofString "/claim/cut.py") 172)⟩, ⟨PyData.keyHash P (PySem.Str.ofString "__cached__"), (.str (PySem.Str.ofString "__cached__") 174), .none⟩, ⟨PyData.keyHash P (PySem.Str.ofString "bisearch"), (.str (PySem.Str.ofString "bisearch") 199), (.ref 21)⟩, ⟨PyData.keyHash P (PySem.Str.ofString "GRAPHEME_EXTEND"), (.str (PySem.Str.ofString "GRAPHEME_EXTEND") 264), (.ref 54)⟩, ⟨PyData.keyHash P (PySem.Str.ofString "GRAPHEME_REGIONAL_INDICATOR"), (.str (PySem.Str.ofString "GRAPHEME_REGIONAL_INDICATOR") 267), (.ref 56)⟩, ⟨PyData.keyHash P (PySem.Str.ofString "EXTENDED_PICTOGRAPHIC"), (.str (PySem.Str.ofString "EXTENDED_PICTOGRAPHIC") 324), (.ref 85)⟩]⟩ 13), ⟨[]⟩⟩
noncomputable def o12v6 (P : Params) : Obj := ⟨.none, none, (.fields ⟨[(.int (.ofNat 2) 0), (.int (.ofNat 0) 0), (.ref 20)]⟩), ⟨[]⟩⟩
noncomputable def o15v6 (P : Params) : Obj := ⟨(.type "tuple"), none, (.seq ⟨[]⟩ 0), ⟨[]⟩⟩
noncomputable def o16v6 (P : Params) : Obj := ⟨.none, none, (.fields ⟨[]⟩), ⟨[]⟩⟩
noncomputable def o17v6 (P : Params) : Obj := ⟨(.type "tuple"), none, (.seq ⟨[(.str (PySem.Str.ofString "ucs") 192), (.str (PySem.Str.ofString "table") 193), (.str (PySem.Str.ofString "lbound") 194), (.str (PySem.Str.ofString "ubound") 195), (.str (PySem.Str.ofString "mid") 196)]⟩ 0), ⟨[]⟩⟩
noncomputable def o18v6 (P : Params) : Obj := ⟨(.type "tuple"), none, (.seq ⟨[]⟩ 0), ⟨[]⟩⟩
noncomputable def o19v6 (P : Params) : Obj := ⟨.none, none, (.func (fnData 1 (PySem.Str.ofString "bisearch") 0 [] .none .none .none .none none .none .none 0)), ⟨[]⟩⟩
noncomputable def o20v6 (P : Params) : Obj := ⟨(.type "code"), none, (.fields ⟨[(.str (PySem.Str.ofString "bisearch") 189), (.str (PySem.Str.ofString "bisearch") 190), (.str (PySem.Str.ofString "/claim/cut.py") 191), (.int (.ofNat 2) 0), (.int (.ofNat 2) 0), (.int (.ofNat 0) 0), (.int (.ofNat 0) 0), (.int (.ofNat 3) 0), (.ref 15), (.bool true), (.int (.ofNat 181) 0), (.ref 16), .none, (.ref 17), (.ref 18), (.ref 19), (.int (.ofNat 197) 0), (.int (.ofNat 2) 0), (.str (PySem.Str.ofString "/claim/cut.py") 198)]⟩), ⟨[]⟩⟩
noncomputable def o21v6 (P : Params) : Obj := ⟨(.type "function"), none, (.func (fnData 1 (PySem.Str.ofString "bisearch") 3 [] .none .none .none (.str (PySem.Str.ofString "wcwidth.bisearch") 187) none (.ref 20) .none 0)), ⟨[]⟩⟩
noncomputable def o22v6 (P : Params) : Obj := ⟨(.type "tuple"), none, (.seq ⟨[(.int (.ofNat 768) 200), (.int (.ofNat 879) 201)]⟩ 0), ⟨[]⟩⟩
noncomputable def o23v6 (P : Params) : Obj := ⟨(.type "tuple"), none, (.seq ⟨[(.int (.ofNat 1611) 202), (.int (.ofNat 1631) 203)]⟩ 0), ⟨[]⟩⟩
noncomputable def o24v6 (P : Params) : Obj := ⟨(.type "tuple"), none, (.seq ⟨[(.int (.ofNat 2275) 204), (.int (.ofNat 2306) 205)]⟩ 0), ⟨[]⟩⟩
noncomputable def o25v6 (P : Params) : Obj := ⟨(.type "tuple"), none, (.seq ⟨[(.int (.ofNat 2362) 206), (.int (.ofNat 2362) 207)]⟩ 0), ⟨[]⟩⟩
noncomputable def o26v6 (P : Params) : Obj := ⟨(.type "tuple"), none, (.seq ⟨[(.int (.ofNat 2364) 208), (.int (.ofNat 2364) 209)]⟩ 0), ⟨[]⟩⟩
noncomputable def o27v6 (P : Params) : Obj := ⟨(.type "tuple"), none, (.seq ⟨[(.int (.ofNat 2369) 210), (.int (.ofNat 2376) 211)]⟩ 0), ⟨[]⟩⟩
noncomputable def o28v6 (P : Params) : Obj := ⟨(.type "tuple"), none, (.seq ⟨[(.int (.ofNat 2381) 212), (.int (.ofNat 2381) 213)]⟩ 0), ⟨[]⟩⟩
noncomputable def o29v6 (P : Params) : Obj := ⟨(.type "tuple"), none, (.seq ⟨[(.int (.ofNat 2385) 214), (.int (.ofNat 2391) 215)]⟩ 0), ⟨[]⟩⟩
noncomputable def o30v6 (P : Params) : Obj := ⟨(.type "tuple"), none, (.seq ⟨[(.int (.ofNat 2433) 216), (.int (.ofNat 2433) 217)]⟩ 0), ⟨[]⟩⟩
noncomputable def o31v6 (P : Params) : Obj := ⟨(.type "tuple"), none, (.seq ⟨[(.int (.ofNat 2492) 218), (.int (.ofNat 2492) 219)]⟩ 0), ⟨[]⟩⟩
noncomputable def o32v6 (P : Params) : Obj := ⟨(.type "tuple"), none, (.seq ⟨[(.int (.ofNat 2494) 220), (.int (.ofNat 2494) 221)]⟩ 0), ⟨[]⟩⟩
noncomputable def o33v6 (P : Params) : Obj := ⟨(.type "tuple"), none, (.seq ⟨[(.int (.ofNat 2497) 222), (.int (.ofNat 2500) 223)]⟩ 0), ⟨[]⟩⟩
noncomputable def o34v6 (P : Params) : Obj := ⟨(.type "tuple"), none, (.seq ⟨[(.int (.ofNat 2509) 224), (.int (.ofNat 2509) 225)]⟩ 0), ⟨[]⟩⟩
noncomputable def o35v6 (P : Params) : Obj := ⟨(.type "tuple"), none, (.seq ⟨[(.int (.ofNat 2620) 226), (.int (.ofNat 2620) 227)]⟩ 0), ⟨[]⟩⟩
noncomputable def o36v6 (P : Params) : Obj := ⟨(.type "tuple"), none, (.seq ⟨[(.int (.ofNat 2625) 228), (.int (.ofNat 2626) 229)]⟩ 0), ⟨[]⟩⟩
noncomputable def o37v6 (P : Params) : Obj := ⟨(.type "tuple"), none, (.seq ⟨[(.int (.ofNat 2635) 230), (.int (.ofNat 2637) 231)]⟩ 0), ⟨[]⟩⟩
noncomputable def o38v6 (P : Params) : Obj := ⟨(.type "tuple"), none, (.seq ⟨[(.int (.ofNat 3633) 232), (.int (.ofNat 3633) 233)]⟩ 0), ⟨[]⟩⟩
noncomputable def o39v6 (P : Params) : Obj := ⟨(.type "tuple"), none, (.seq ⟨[(.int (.ofNat 3636) 234), (.int (.ofNat 3642) 235)]⟩ 0), ⟨[]⟩⟩
noncomputable def o40v6 (P : Params) : Obj := ⟨(.type "tuple"), none, (.seq ⟨[(.int (.ofNat 4141) 236), (.int (.ofNat 4144) 237)]⟩ 0), ⟨[]⟩⟩
noncomputable def o41v6 (P : Params) : Obj := ⟨(.type "tuple"), none, (.seq ⟨[(.int (.ofNat 4153) 238), (.int (.ofNat 4154) 239)]⟩ 0), ⟨[]⟩⟩
noncomputable def o42v6 (P : Params) : Obj := ⟨(.type "tuple"), none, (.seq ⟨[(.int (.ofNat 8204) 240), (.int (.ofNat 8204) 241)]⟩ 0), ⟨[]⟩⟩
noncomputable def o43v6 (P : Params) : Obj := ⟨(.type "tuple"), none, (.seq ⟨[(.int (.ofNat 8400) 242), (.int (.ofNat 8432) 243)]⟩ 0), ⟨[]⟩⟩
noncomputable def o44v6 (P : Params) : Obj := ⟨(.type "tuple"), none, (.seq ⟨[(.int (.ofNat 12330) 244), (.int (.ofNat 12335) 245)]⟩ 0), ⟨[]⟩⟩
noncomputable def o45v6 (P : Params) : Obj := ⟨(.type "tuple"), none, (.seq ⟨[(.int (.ofNat 12441) 246), (.int (.ofNat 12442) 247)]⟩ 0), ⟨[]⟩⟩
noncomputable def o46v6 (P : Params) : Obj := ⟨(.type "tuple"), none, (.seq ⟨[(.int (.ofNat 43443) 248), (.int (.ofNat 43443) 249)]⟩ 0), ⟨[]⟩⟩
noncomputable def o47v6 (P : Params) : Obj := ⟨(.type "tuple"), none, (.seq ⟨[(.int (.ofNat 43456) 250), (.int (.ofNat 43456) 251)]⟩ 0), ⟨[]⟩⟩
noncomputable def o48v6 (P : Params) : Obj := ⟨(.type "tuple"), none, (.seq ⟨[(.int (.ofNat 65024) 252), (.int (.ofNat 65039) 253)]⟩ 0), ⟨[]⟩⟩
noncomputable def o49v6 (P : Params) : Obj := ⟨(.type "tuple"), none, (.seq ⟨[(.int (.ofNat 65056) 254), (.int (.ofNat 65071) 255)]⟩ 0), ⟨[]⟩⟩
noncomputable def o50v6 (P : Params) : Obj := ⟨(.type "tuple"), none, (.seq ⟨[(.int (.ofNat 70477) 256), (.int (.ofNat 70477) 257)]⟩ 0), ⟨[]⟩⟩
noncomputable def o51v6 (P : Params) : Obj := ⟨(.type "tuple"), none, (.seq ⟨[(.int (.ofNat 127995) 258), (.int (.ofNat 127999) 259)]⟩ 0), ⟨[]⟩⟩
noncomputable def o52v6 (P : Params) : Obj := ⟨(.type "tuple"), none, (.seq ⟨[(.int (.ofNat 917536) 260), (.int (.ofNat 917631) 261)]⟩ 0), ⟨[]⟩⟩
noncomputable def o53v6 (P : Params) : Obj := ⟨(.type "tuple"), none, (.seq ⟨[(.int (.ofNat 917760) 262), (.int (.ofNat 917999) 263)]⟩ 0), ⟨[]⟩⟩
noncomputable def o54v6 (P : Params) : Obj := ⟨(.type "tuple"), none, (.seq ⟨[(.ref 22), (.ref 23), (.ref 24), (.ref 25), (.ref 26), (.ref 27), (.ref 28), (.ref 29), (.ref 30), (.ref 31), (.ref 32), (.ref 33), (.ref 34), (.ref 35), (.ref 36), (.ref 37), (.ref 38), (.ref 39), (.ref 40), (.ref 41), (.ref 42), (.ref 43), (.ref 44), (.ref 45), (.ref 46), (.ref 47), (.ref 48), (.ref 49), (.ref 50), (.ref 51), (.ref 52), (.ref 53)]⟩ 0), ⟨[]⟩⟩
noncomputable def o55v6 (P : Params) : Obj := ⟨(.type "tuple"), none, (.seq ⟨[(.int (.ofNat 127462) 265), (.int (.ofNat 127487) 266)]⟩ 0), ⟨[]⟩⟩
noncomputable def o56v6 (P : Params) : Obj := ⟨(.type "tuple"), none, (.seq ⟨[(.ref 55)]⟩ 0), ⟨[]⟩⟩
noncomputable def o57v6 (P : Params) : Obj := ⟨(.type "tuple"), none, (.seq ⟨[(.int (.ofNat 169) 268), (.int (.ofNat 169) 269)]⟩ 0), ⟨[]⟩⟩
noncomputable def o58v6 (P : Params) : Obj := ⟨(.type "tuple"), none, (.seq ⟨[(.int (.ofNat 174) 270), (.int (.ofNat 174) 271)]⟩ 0), ⟨[]⟩⟩
noncomputable def o59v6 (P : Params) : Obj := ⟨(.type "tuple"), none, (.seq ⟨[(.int (.ofNat 8252) 272), (.int (.ofNat 8252) 273)]⟩ 0), ⟨[]⟩⟩
noncomputable def o60v6 (P : Params) : Obj := ⟨(.type "tuple"), none, (.seq ⟨[(.int (.ofNat 8596) 274), (.int (.ofNat 8601) 275)]⟩ 0), ⟨[]⟩⟩
noncomputable def o61v6 (P : Params) : Obj := ⟨(.type "tuple"), none, (.seq ⟨[(.int (.ofNat 8986) 276), (.int (.ofNat 8987) 277)]⟩ 0), ⟨[]⟩⟩
noncomputable def o62v6 (P : Params) : Obj := ⟨(.type "tuple"), none, (.seq ⟨[(.int (.ofNat 9193) 278), (.int (.ofNat 9203) 279)]⟩ 0), ⟨[]⟩⟩
noncomputable def o63v6 (P : Params) : Obj := ⟨(.type "tuple"), none, (.seq ⟨[(.int (.ofNat 9728) 280), (.int (.ofNat 9732) 281)]⟩ 0), ⟨[]⟩⟩
noncomputable def o64v6 (P : Params) : Obj := ⟨(.type "tuple"), none, (.seq ⟨[(.int (.ofNat 9748) 282), (.int (.ofNat 9749) 283)]⟩ 0), ⟨[]⟩⟩
noncomputable def o65v6 (P : Params) : Obj := ⟨(.type "tuple"), none, (.seq ⟨[(.int (.ofNat 9757) 284), (.int (.ofNat 9757) 285)]⟩ 0), ⟨[]⟩⟩
noncomputable def o66v6 (P : Params) : Obj := ⟨(.type "tuple"), none, (.seq ⟨[(.int (.ofNat 9760) 286), (.int (.ofNat 9760) 287)]⟩ 0), ⟨[]⟩⟩
noncomputable def o67v6 (P : Params) : Obj := ⟨(.type "tuple"), none, (.seq ⟨[(.int (.ofNat 9792) 288), (.int (.ofNat 9792) 289)]⟩ 0), ⟨[]⟩⟩
noncomputable def o68v6 (P : Params) : Obj := ⟨(.type "tuple"), none, (.seq ⟨[(.int (.ofNat 9794) 290), (.int (.ofNat 9794) 291)]⟩ 0), ⟨[]⟩⟩
noncomputable def o69v6 (P : Params) : Obj := ⟨(.type "tuple"), none, (.seq ⟨[(.int (.ofNat 9800) 292), (.int (.ofNat 9811) 293)]⟩ 0), ⟨[]⟩⟩
noncomputable def o70v6 (P : Params) : Obj := ⟨(.type "tuple"), none, (.seq ⟨[(.int (.ofNat 9975) 294), (.int (.ofNat 9978) 295)]⟩ 0), ⟨[]⟩⟩
noncomputable def o71v6 (P : Params) : Obj := ⟨(.type "tuple"), none, (.seq ⟨[(.int (.ofNat 9992) 296), (.int (.ofNat 9997) 297)]⟩ 0), ⟨[]⟩⟩
noncomputable def o72v6 (P : Params) : Obj := ⟨(.type "tuple"), none, (.seq ⟨[(.int (.ofNat 10083) 298), (.int (.ofNat 10084) 299)]⟩ 0), ⟨[]⟩⟩
noncomputable def o73v6 (P : Params) : Obj := ⟨(.type "tuple"), none, (.seq ⟨[(.int (.ofNat 12336) 300), (.int (.ofNat 12336) 301)]⟩ 0), ⟨[]⟩⟩
noncomputable def o74v6 (P : Params) : Obj := ⟨(.type "tuple"), none, (.seq ⟨[(.int (.ofNat 12349) 302), (.int (.ofNat 12349) 303)]⟩ 0), ⟨[]⟩⟩
noncomputable def o75v6 (P : Params) : Obj := ⟨(.type "tuple"), none, (.seq ⟨[(.int (.ofNat 126980) 304), (.int (.ofNat 126980) 305)]⟩ 0), ⟨[]⟩⟩
noncomputable def o76v6 (P : Params) : Obj := ⟨(.type "tuple"), none, (.seq ⟨[(.int (.ofNat 127377) 306), (.int (.ofNat 127386) 307)]⟩ 0), ⟨[]⟩⟩
noncomputable def o77v6 (P : Params) : Obj := ⟨(.type "tuple"), none, (.seq ⟨[(.int (.ofNat 127987) 308), (.int (.ofNat 127989) 309)]⟩ 0), ⟨[]⟩⟩
noncomputable def o78v6 (P : Params) : Obj := ⟨(.type "tuple"), none, (.seq ⟨[(.int (.ofNat 127991) 310), (.int (.ofNat 127994) 311)]⟩ 0), ⟨[]⟩⟩
noncomputable def o79v6 (P : Params) : Obj := ⟨(.type "tuple"), none, (.seq ⟨[(.int (.ofNat 128371) 312), (.int (.ofNat 128378) 313)]⟩ 0), ⟨[]⟩⟩
noncomputable def o80v6 (P : Params) : Obj := ⟨(.type "tuple"), none, (.seq ⟨[(.int (.ofNat 128405) 314), (.int (.ofNat 128406) 315)]⟩ 0), ⟨[]⟩⟩
noncomputable def o81v6 (P : Params) : Obj := ⟨(.type "tuple"), none, (.seq ⟨[(.int (.ofNat 128420) 316), (.int (.ofNat 128421) 317)]⟩ 0), ⟨[]⟩⟩
noncomputable def o82v6 (P : Params) : Obj := ⟨(.type "tuple"), none, (.seq ⟨[(.int (.ofNat 128715) 318), (.int (.ofNat 128722) 319)]⟩ 0), ⟨[]⟩⟩
noncomputable def o83v6 (P : Params) : Obj := ⟨(.type "tuple"), none, (.seq ⟨[(.int (.ofNat 128725) 320), (.int (.ofNat 128741) 321)]⟩ 0), ⟨[]⟩⟩
noncomputable def o84v6 (P : Params) : Obj := ⟨(.type "tuple"), none, (.seq ⟨[(.int (.ofNat 129340) 322), (.int (.ofNat 129349) 323)]⟩ 0), ⟨[]⟩⟩
noncomputable def o85v6 (P : Params) : Obj := ⟨(.type "tuple"), none, (.seq ⟨[(.ref 57), (.ref 58), (.ref 59), (.ref 60), (.ref 61), (.ref 62), (.ref 63), (.ref 64), (.ref 65), (.ref 66), (.ref 67), (.ref 68), (.ref 69), (.ref 70), (.ref 71), (.ref 72), (.ref 73), (.ref 74), (.ref 75), (.ref 76), (.ref 77), (.ref 78), (.ref 79), (.ref 80), (.ref 81), (.ref 82), (.ref 83), (.ref 84)]⟩ 0), ⟨[]⟩⟩
noncomputable def T6 (P : Params) : BT := (.node (boot_o_0 P) (.node (boot_o_1 P) (.node (o3v6 P) (.node (boot_o_7 P) (.node (o15v6 P) (.node (o31v6 P) (.node (o63v6 P) .nil .nil) .nil) (.node (o47v6 P) (.node (o79v6 P) .nil .nil) .nil)) (.node (o23v6 P) (.node (o39v6 P) (.node (o71v6 P) .nil .nil) .nil) (.node (o55v6 P) .nil .nil))) (.node (o11v1 P) (.node (o19v6 P) (.node (o35v6 P) (.node (o67v6 P) .nil .nil) .nil) (.node (o51v6 P) (.node (o83v6 P) .nil .nil) .nil)) (.node (o27v6 P) (.node (o43v6 P) (.node (o75v6 P) .nil .nil) .nil) (.node (o59v6 P) .nil .nil)))) (.node (boot_o_5 P) (.node (boot_o_9 P) (.node (o17v6 P) (.node (o33v6 P) (.node (o65v6 P) .nil .nil) .nil) (.node (o49v6 P) (.node (o81v6 P) .nil .nil) .nil)) (.node (o25v6 P) (.node (o41v6 P) (.node (o73v6 P) .nil .nil) .nil) (.node (o57v6 P) .nil .nil))) (.node (o13v1 P) (.node (o21v6 P) (.node (o37v6 P) (.node (o69v6 P) .nil .nil) .nil) (.node (o53v6 P) (.node (o85v6 P) .nil .nil) .nil)) (.node (o29v6 P) (.node (o45v6 P) (.node (o77v6 P) .nil .nil) .nil) (.node (o61v6 P) .nil .nil))))) (.node (boot_o_2 P) (.node (boot_o_4 P) (.node (boot_o_8 P) (.node (o16v6 P) (.node (o32v6 P) (.node (o64v6 P) .nil .nil) .nil) (.node (o48v6 P) (.node (o80v6 P) .nil .nil) .nil)) (.node (o24v6 P) (.node (o40v6 P) (.node (o72v6 P) .nil .nil) .nil) (.node (o56v6 P) .nil .nil))) (.node (o12v6 P) (.node (o20v6 P) (.node (o36v6 P) (.node (o68v6 P) .nil .nil) .nil) (.node (o52v6 P) (.node (o84v6 P) .nil .nil) .nil)) (.node (o28v6 P) (.node (o44v6 P) (.node (o76v6 P) .nil .nil) .nil) (.node (o60v6 P) .nil .nil)))) (.node (boot_o_6 P) (.node (boot_o_10 P) (.node (o18v6 P) (.node (o34v6 P) (.node (o66v6 P) .nil .nil) .nil) (.node (o50v6 P) (.node (o82v6 P) .nil .nil) .nil)) (.node (o26v6 P) (.node (o42v6 P) (.node (o74v6 P) .nil .nil) .nil) (.node (o58v6 P) .nil .nil))) (.node (o14v1 P) (.node (o22v6 P) (.node (o38v6 P) (.node (o70v6 P) .nil .nil) .nil) (.node (o54v6 P) .nil .nil)) (.node (o30v6 P) (.node (o46v6 P) (.node (o78v6 P) .nil .nil) .nil) (.node (o62v6 P) .nil .nil))))))
noncomputable def S6 (P : Params) (os : OsState) : SharedT := ⟨T6 P, 86, {}, ⟨[]⟩, {}, 327, os⟩
noncomputable def o3v7 (P : Params) : Obj := ⟨(.type "dict"), none, (.dict ⟨[⟨PyData.keyHash P (PySem.Str.ofString "__name__"), (.str (PySem.Str.ofString "__name__") 165), (.str (PySem.Str.ofString "wcwidth._constants") 325)⟩, ⟨PyData.keyHash P (PySem.Str.ofString "__doc__"), (.str (PySem.Str.ofString "__doc__") 166), .none⟩, ⟨PyData.keyHash P (PySem.Str.ofString "__package__"), (.str (PySem.Str.ofString "__package__") 167), .none⟩, ⟨PyData.keyHash P (PySem.Str.ofString "__loader__"), (.str (PySem.Str.ofString "__loader__") 168), (.builtin "__main__.__loader__#opaque")⟩, ⟨PyData.keyHash P (PySem.Str.ofString "__spec__"), (.str (PySem.Str.ofString "__spec__") 169), .none⟩, ⟨PyData.keyHash P (PySem.Str.ofString "__annotations__"), (.str (PySem.Str.ofString "__annotations__") 170), (.ref 6)⟩, ⟨PyData.keyHash P (PySem.Str.ofString "__builtins__"), (.str (PySem.Str.ofString "__builtins__") 171), (.ref 4)⟩, ⟨PyData.keyHash P (PySem.Str.ofString "__file__"), (.str (PySem.Str.ofString "__file__") 173), (.str (PySem.Str.ofString "/claim/cut.py") 172)⟩, ⟨PyData.keyHash P (PySem.Str.ofString "__cached__"), (.str (PySem.Str.ofString "__cached__") 174), .none⟩, ⟨PyData.keyHash P (PySem.Str.ofString "bisearch"), (.str (PySem.Str.ofString "bisearch") 199), (.ref 21)⟩, ⟨PyData.keyHash P (PySem.Str.ofString "GRAPHEME_EXTEND"), (.str (PySem.Str.ofString "GRAPHEME_EXTEND") 264), (.ref 54)⟩, ⟨PyData.keyHash P (PySem.Str.ofString "GRAPHEME_REGIONAL_INDICATOR"), (.str (PySem.Str.ofString "GRAPHEME_REGIONAL_INDICATOR") 267), (.ref 56)⟩, ⟨PyData.keyHash P (PySem.Str.ofString "EXTENDED_PICTOGRAPHIC"), (.str (PySem.Str.ofString "EXTENDED_PICTOGRAPHIC") 324), (.ref 85)⟩, ⟨PyData.keyHash P (PySem.Str.ofString "_REGIONAL_INDICATOR_SET"), (.str (PySem.Str.ofString "_REGIONAL_INDICATOR_SET") 386), (.ref 87)⟩]⟩ 14), ⟨[]⟩⟩
noncomputable def o86v7 (P : Params) : Obj := ⟨(.type "range"), none, (.fields ⟨[(.int (.ofNat 127462) 265), (.int (.ofNat 127488) 332), (.int (.ofNat 1) 333)]⟩), ⟨[]⟩⟩
noncomputable def o87v7 (P : Params) : Obj := ⟨(.type "frozenset"), none, (.set ⟨[((.ofNat 127462), (.int (.ofNat 127462) 334)), ((.ofNat 127463), (.int (.ofNat 127463) 336)), ((.ofNat 127464), (.int (.ofNat 127464) 338)), ((.ofNat 127465), (.int (.ofNat 127465) 340)), ((.ofNat 127466), (.int (.ofNat 127466) 342)), ((.ofNat 127467), (.int (.ofNat 127467) 344)), ((.ofNat 127468), (.int (.ofNat 127468) 346)), ((.ofNat 127469), (.int (.ofNat 127469) 348)), ((.ofNat 127470), (.int (.ofNat 127470) 350)), ((.ofNat 127471), (.int (.ofNat 127471) 352)), ((.ofNat 127472), (.int (.ofNat 127472) 354)), ((.ofNat 127473), (.int (.ofNat 127473) 356)), ((.ofNat 127474), (.int (.ofNat 127474) 358)), ((.ofNat 127475), (.int (.ofNat 127475) 360)), ((.ofNat 127476), (.int (.ofNat 127476) 362)), ((.ofNat 127477), (.int (.ofNat 127477) 364)), ((.ofNat 127478), (.int (.ofNat 127478) 366)), ((.ofNat 127479), (.int (.ofNat 127479) 368)), ((.ofNat 127480), (.int (.ofNat 127480) 370)), ((.ofNat 127481), (.int (.ofNat 127481) 372)), ((.ofNat 127482), (.int (.ofNat 127482) 374)), ((.ofNat 127483), (.int (.ofNat 127483) 376)), ((.ofNat 127484), (.int (.ofNat 127484) 378)), ((.ofNat 127485), (.int (.ofNat 127485) 380)), ((.ofNat 127486), (.int (.ofNat 127486) 382)), ((.ofNat 127487), (.int (.ofNat 127487) 384))]⟩ 28 ⟨127, ⟨[102, 103, 104, 105, 106, 107, 108, 109, 110, 111, 112, 113, 114, 115, 116, 117, 118, 119, 120, 121, 122, 123, 124, 125, 126, 127]⟩, ⟨[]⟩, 0, !P.followText "set-order", 2, true⟩), ⟨[]⟩⟩
noncomputable def o88v7 (P : Params) : Obj := ⟨(.type "range_iterator"), none, (.fields ⟨[(.int (.ofNat 127488) 0), (.int (.ofNat 0) 0), (.int (.ofNat 1) 0)]⟩), ⟨[]⟩⟩
noncomputable def o89v7 (P : Params) : Obj := ⟨(.type "tuple"), none, (.seq ⟨[]⟩ 0), ⟨[]⟩⟩
noncomputable def o90v7 (P : Params) : Obj := ⟨(.type "StopIteration"), none, (.fields ⟨[(.ref 89), .none, .none, .none, (.bool false), .none]⟩), ⟨[]⟩⟩
noncomputable def T7 (P : Params) : BT := (.node (boot_o_0 P) (.node (boot_o_1 P) (.node (o3v7 P) (.node (boot_o_7 P) (.node (o15v6 P) (.node (o31v6 P) (.node (o63v6 P) .nil .nil) .nil) (.node (o47v6 P) (.node (o79v6 P) .nil .nil) .nil)) (.node (o23v6 P) (.node (o39v6 P) (.node (o71v6 P) .nil .nil) .nil) (.node (o55v6 P) (.node (o87v7 P) .nil .nil) .nil))) (.node (o11v1 P) (.node (o19v6 P) (.node (o35v6 P) (.node (o67v6 P) .nil .nil) .nil) (.node (o51v6 P) (.node (o83v6 P) .nil .nil) .nil)) (.node (o27v6 P) (.node (o43v6 P) (.node (o75v6 P) .nil .nil) .nil) (.node (o59v6 P) .nil .nil)))) (.node (boot_o_5 P) (.node (boot_o_9 P) (.node (o17v6 P) (.node (o33v6 P) (.node (o65v6 P) .nil .nil) .nil) (.node (o49v6 P) (.node (o81v6 P) .nil .nil) .nil)) (.node (o25v6 P) (.node (o41v6 P) (.node (o73v6 P) .nil .nil) .nil) (.node (o57v6 P) (.node (o89v7 P) .nil .nil) .nil))) (.node (o13v1 P) (.node (o21v6 P) (.node (o37v6 P) (.node (o69v6 P) .nil .nil) .nil) (.node (o53v6 P) (.node (o85v6 P) .nil .nil) .nil)) (.node (o29v6 P) (.node (o45v6 P) (.node (o77v6 P) .nil .nil) .nil) (.node (o61v6 P) .nil .nil))))) (.node (boot_o_2 P) (.node (boot_o_4 P) (.node (boot_o_8 P) (.node (o16v6 P) (.node (o32v6 P) (.node (o64v6 P) .nil .nil) .nil) (.node (o48v6 P) (.node (o80v6 P) .nil .nil) .nil)) (.node (o24v6 P) (.node (o40v6 P) (.node (o72v6 P) .nil .nil) .nil) (.node (o56v6 P) (.node (o88v7 P) .nil .nil) .nil))) (.node (o12v6 P) (.node (o20v6 P) (.node (o36v6 P) (.node (o68v6 P) .nil .nil) .nil) (.node (o52v6 P) (.node (o84v6 P) .nil .nil) .nil)) (.node (o28v6 P) (.node (o44v6 P) (.node (o76v6 P) .nil .nil) .nil) (.node (o60v6 P) .nil .nil)))) (.node (boot_o_6 P) (.node (boot_o_10 P) (.node (o18v6 P) (.node (o34v6 P) (.node (o66v6 P) .nil .nil) .nil) (.node (o50v6 P) (.node (o82v6 P) .nil .nil) .nil)) (.node (o26v6 P) (.node (o42v6 P) (.node (o74v6 P) .nil .nil) .nil) (.node (o58v6 P) (.node (o90v7 P) .nil .nil) .nil))) (.node (o14v1 P) (.node (o22v6 P) (.node (o38v6 P) (.node (o70v6 P) .nil .nil) .nil) (.node (o54v6 P) (.node (o86v7 P) .nil .nil) .nil)) (.node (o30v6 P) (.node (o46v6 P) (.node (o78v6 P) .nil .nil) .nil) (.node (o62v6 P) .nil .nil))))))
noncomputable def S7 (P : Params) (os : OsState) : SharedT := ⟨T7 P, 91, {}, ⟨[]⟩, {}, 387, os⟩
noncomputable def O0 (P : Params) : Obj := ⟨(.type "frozenset"), none, (.set ⟨[]⟩ 0 ⟨7, ⟨[]⟩, ⟨[]⟩, 0, !P.followText "set-order", 0, true⟩), ⟨[]⟩⟩
noncomputable def o12v8 (P : Params) : Obj := ⟨.none, none, (.fields ⟨[(.int (.ofNat 2) 0), (.int (.ofNat 0) 0), (.ref 20), (.int (.ofNat 21) 0), (.int (.ofNat 27) 0), (.ref 94)]⟩), ⟨[]⟩⟩
noncomputable def o91v8 (P : Params) : Obj := ⟨(.type "tuple_iterator"), none, (.fields ⟨[(.ref 85), (.int (.ofNat 0) 0)]⟩), ⟨[]⟩⟩
noncomputable def o92v8 (P : Params) : Obj := ⟨(.type "tuple"), none, (.seq ⟨[]⟩ 0), ⟨[]⟩⟩
noncomputable def o93v8 (P : Params) : Obj := ⟨.none, none, (.fields ⟨[]⟩), ⟨[]⟩⟩
noncomputable def o94v8 (P : Params) : Obj := ⟨(.type "code"), none, (.fields ⟨[(.str (PySem.Str.ofString "<genexpr>") 387), (.str (PySem.Str.ofString "<genexpr>") 388), (.str (PySem.Str.ofString "/claim/cut.py") 389), (.int (.ofNat 21) 0), (.int (.ofNat 1) 0), (.int (.ofNat 0) 0), (.int (.ofNat 0) 0), (.int (.ofNat 35) 0), (.ref 92), (.bool true), (.int (.ofNat 181) 0), (.ref 93), .none, .none, .none, .none, (.int (.ofNat 390) 0), (.int (.ofNat 21) 0), (.str (PySem.Str.ofString "/claim/cut.py") 391)]⟩), ⟨[]⟩⟩
noncomputable def o95v8 (P : Params) : Obj := ⟨(.type "frame"), none, (.dict ⟨[⟨PyData.keyHash P (PySem.Str.ofString ".0"), (.str (PySem.Str.ofString ".0") 392), (.ref 91)⟩]⟩ 1), ⟨[]⟩⟩
noncomputable def o96v8 (P : Params) : Obj := ⟨(.type "generator"), none, (.fields ⟨[(.int (.ofNat 0) 0), (.str (PySem.Str.ofString "<genexpr>") 393), (.str (PySem.Str.ofString "<genexpr>") 394)]⟩), ⟨[]⟩⟩
noncomputable def TL (P : Params) (O : Obj) : BT := (.node (boot_o_0 P) (.node (boot_o_1 P) (.node (o3v7 P) (.node (boot_o_7 P) (.node (o15v6 P) (.node (o31v6 P) (.node (o63v6 P) .nil .nil) (.node (o95v8 P) .nil .nil)) (.node (o47v6 P) (.node (o79v6 P) .nil .nil) .nil)) (.node (o23v6 P) (.node (o39v6 P) (.node (o71v6 P) .nil .nil) .nil) (.node (o55v6 P) (.node (o87v7 P) .nil .nil) .nil))) (.node (o11v1 P) (.node (o19v6 P) (.node (o35v6 P) (.node (o67v6 P) .nil .nil) .nil) (.node (o51v6 P) (.node (o83v6 P) .nil .nil) .nil)) (.node (o27v6 P) (.node (o43v6 P) (.node (o75v6 P) .nil .nil) .nil) (.node (o59v6 P) (.node (o91v8 P) .nil .nil) .nil)))) (.node (boot_o_5 P) (.node (boot_o_9 P) (.node (o17v6 P) (.node (o33v6 P) (.node (o65v6 P) .nil .nil) (.node O .nil .nil)) (.node (o49v6 P) (.node (o81v6 P) .nil .nil) .nil)) (.node (o25v6 P) (.node (o41v6 P) (.node (o73v6 P) .nil .nil) .nil) (.node (o57v6 P) (.node (o89v7 P) .nil .nil) .nil))) (.node (o13v1 P) (.node (o21v6 P) (.node (o37v6 P) (.node (o69v6 P) .nil .nil) .nil) (.node (o53v6 P) (.node (o85v6 P) .nil .nil) .nil)) (.node (o29v6 P) (.node (o45v6 P) (.node (o77v6 P) .nil .nil) .nil) (.node (o61v6 P) (.node (o93v8 P) .nil .nil) .nil))))) (.node (boot_o_2 P) (.node (boot_o_4 P) (.node (boot_o_8 P) (.node (o16v6 P) (.node (o32v6 P) (.node (o64v6 P) .nil .nil) (.node (o96v8 P) .nil .nil)) (.node (o48v6 P) (.node (o80v6 P) .nil .nil) .nil)) (.node (o24v6 P) (.node (o40v6 P) (.node (o72v6 P) .nil .nil) .nil) (.node (o56v6 P) (.node (o88v7 P) .nil .nil) .nil))) (.node (o12v8 P) (.node (o20v6 P) (.node (o36v6 P) (.node (o68v6 P) .nil .nil) .nil) (.node (o52v6 P) (.node (o84v6 P) .nil .nil) .nil)) (.node (o28v6 P) (.node (o44v6 P) (.node (o76v6 P) .nil .nil) .nil) (.node (o60v6 P) (.node (o92v8 P) .nil .nil) .nil)))) (.node (boot_o_6 P) (.node (boot_o_10 P) (.node (o18v6 P) (.node (o34v6 P) (.node (o66v6 P) .nil .nil) .nil) (.node (o50v6 P) (.node (o82v6 P) .nil .nil) .nil)) (.node (o26v6 P) (.node (o42v6 P) (.node (o74v6 P) .nil .nil) .nil) (.node (o58v6 P) (.node (o90v7 P) .nil .nil) .nil))) (.node (o14v1 P) (.node (o22v6 P) (.node (o38v6 P) (.node (o70v6 P) .nil .nil) .nil) (.node (o54v6 P) (.node (o86v7 P) .nil .nil) .nil)) (.node (o30v6 P) (.node (o46v6 P) (.node (o78v6 P) .nil .nil) .nil) (.node (o62v6 P) (.node (o94v8 P) .nil .nil) .nil))))))
noncomputable def SL (P : Params) (os : OsState) (O : Obj) : SharedT := ⟨TL P O, 98, {}, ⟨[.fresh (csG 0 91)]⟩, {}, 395, os⟩
noncomputable def TD1 (P : Params) (O : Obj) : BT := (.node (boot_o_0 P) (.node (boot_o_1 P) (.node (o3v7 P) (.node (boot_o_7 P) (.node (o15v6 P) (.node (o31v6 P) (.node (o63v6 P) .nil .nil) (.node (o95v8 P) .nil .nil)) (.node (o47v6 P) (.node (o79v6 P) .nil .nil) .nil)) (.node (o23v6 P) (.node (o39v6 P) (.node (o71v6 P) .nil .nil) .nil) (.node (o55v6 P) (.node (o87v7 P) .nil .nil) .nil))) (.node (o11v1 P) (.node (o19v6 P) (.node (o35v6 P) (.node (o67v6 P) .nil .nil) .nil) (.node (o51v6 P) (.node (o83v6 P) .nil .nil) .nil)) (.node (o27v6 P) (.node (o43v6 P) (.node (o75v6 P) .nil .nil) .nil) (.node (o59v6 P) (.node (o91v8 P) .nil .nil) .nil)))) (.node (boot_o_5 P) (.node (boot_o_9 P) (.node (o17v6 P) (.node (o33v6 P) (.node (o65v6 P) .nil .nil) (.node O .nil .nil)) (.node (o49v6 P) (.node (o81v6 P) .nil .nil) .nil)) (.node (o25v6 P) (.node (o41v6 P) (.node (o73v6 P) .nil .nil) .nil) (.node (o57v6 P) (.node (o89v7 P) .nil .nil) .nil))) (.node (o13v1 P) (.node (o21v6 P) (.node (o37v6 P) (.node (o69v6 P) .nil .nil) .nil) (.node (o53v6 P) (.node (o85v6 P) .nil .nil) .nil)) (.node (o29v6 P) (.node (o45v6 P) (.node (o77v6 P) .nil .nil) .nil) (.node (o61v6 P) (.node (o93v8 P) .nil .nil) .nil))))) (.node (boot_o_2 P) (.node (boot_o_4 P) (.node (boot_o_8 P) (.node (o16v6 P) (.node (o32v6 P) (.node (o64v6 P) .nil .nil) (.node (o96v8 P) .nil .nil)) (.node (o48v6 P) (.node (o80v6 P) .nil .nil) .nil)) (.node (o24v6 P) (.node (o40v6 P) (.node (o72v6 P) .nil .nil) .nil) (.node (o56v6 P) (.node (o88v7 P) .nil .nil) .nil))) (.node (o12v8 P) (.node (o20v6 P) (.node (o36v6 P) (.node (o68v6 P) .nil .nil) .nil) (.node (o52v6 P) (.node (o84v6 P) .nil .nil) .nil)) (.node (o28v6 P) (.node (o44v6 P) (.node (o76v6 P) .nil .nil) .nil) (.node (o60v6 P) (.node (o92v8 P) .nil .nil) .nil)))) (.node (boot_o_6 P) (.node (boot_o_10 P) (.node (o18v6 P) (.node (o34v6 P) (.node (o66v6 P) .nil .nil) .nil) (.node (o50v6 P) (.node (o82v6 P) .nil .nil) .nil)) (.node (o26v6 P) (.node (o42v6 P) (.node (o74v6 P) .nil .nil) .nil) (.node (o58v6 P) (.node (o90v7 P) .nil .nil) .nil))) (.node (o14v1 P) (.node (o22v6 P) (.node (o38v6 P) (.node (o70v6 P) .nil .nil) .nil) (.node (o54v6 P) (.node (o86v7 P) .nil .nil) .nil)) (.node (o30v6 P) (.node (o46v6 P) (.node (o78v6 P) .nil .nil) .nil) (.node (o62v6 P) (.node (o94v8 P) .nil .nil) .nil))))))
noncomputable def SD1 (P : Params) (os : OsState) (O : Obj) : SharedT := ⟨TD1 P O, 98, {}, ⟨[.running]⟩, {}, 395, os⟩
noncomputable def o91v101 (P : Params) : Obj := ⟨(.type "tuple_iterator"), none, (.fields ⟨[(.ref 85), (.int (.ofNat 1) 0)]⟩), ⟨[]⟩⟩
noncomputable def o98v101 (P : Params) : Obj := ⟨(.type "tuple_iterator"), none, (.fields ⟨[.none, (.int (.ofNat 2) 0)]⟩), ⟨[]⟩⟩
noncomputable def o99v101 (P : Params) : Obj := ⟨(.type "tuple"), none, (.seq ⟨[]⟩ 0), ⟨[]⟩⟩
noncomputable def o100v101 (P : Params) : Obj := ⟨(.type "StopIteration"), none, (.fields ⟨[(.ref 99), .none, .none, .none, (.bool false), .none]⟩), ⟨[]⟩⟩
noncomputable def o101v101 (P : Params) : Obj := ⟨(.type "range"), none, (.fields ⟨[(.int (.ofNat 169) 268), (.int (.ofNat 170) 398), (.int (.ofNat 1) 399)]⟩), ⟨[]⟩⟩
noncomputable def TA1a (P : Params) (c r : Int) (O : Obj) : BT := (.node (boot_o_0 P) (.node (boot_o_1 P) (.node (o3v7 P) (.node (boot_o_7 P) (.node (o15v6 P) (.node (o31v6 P) (.node (o63v6 P) .nil .nil) (.node (d95a P (.int (.ofNat 169) 268) (.int (.ofNat 169) 269)) .nil .nil)) (.node (o47v6 P) (.node (o79v6 P) .nil .nil) .nil)) (.node (o23v6 P) (.node (o39v6 P) (.node (o71v6 P) .nil .nil) .nil) (.node (o55v6 P) (.node (o87v7 P) .nil .nil) .nil))) (.node (o11v1 P) (.node (o19v6 P) (.node (o35v6 P) (.node (o67v6 P) .nil .nil) (.node (o99v101 P) .nil .nil)) (.node (o51v6 P) (.node (o83v6 P) .nil .nil) .nil)) (.node (o27v6 P) (.node (o43v6 P) (.node (o75v6 P) .nil .nil) .nil) (.node (o59v6 P) (.node (o91v101 P) .nil .nil) .nil)))) (.node (boot_o_5 P) (.node (boot_o_9 P) (.node (o17v6 P) (.node (o33v6 P) (.node (o65v6 P) .nil .nil) (.node O .nil .nil)) (.node (o49v6 P) (.node (o81v6 P) .nil .nil) .nil)) (.node (o25v6 P) (.node (o41v6 P) (.node (o73v6 P) .nil .nil) .nil) (.node (o57v6 P) (.node (o89v7 P) .nil .nil) .nil))) (.node (o13v1 P) (.node (o21v6 P) (.node (o37v6 P) (.node (o69v6 P) .nil .nil) (.node (o101v101 P) .nil .nil)) (.node (o53v6 P) (.node (o85v6 P) .nil .nil) .nil)) (.node (o29v6 P) (.node (o45v6 P) (.node (o77v6 P) .nil .nil) .nil) (.node (o61v6 P) (.node (o93v8 P) .nil .nil) .nil))))) (.node (boot_o_2 P) (.node (boot_o_4 P) (.node (boot_o_8 P) (.node (o16v6 P) (.node (o32v6 P) (.node (o64v6 P) .nil .nil) (.node (o96v8 P) .nil .nil)) (.node (o48v6 P) (.node (o80v6 P) .nil .nil) .nil)) (.node (o24v6 P) (.node (o40v6 P) (.node (o72v6 P) .nil .nil) .nil) (.node (o56v6 P) (.node (o88v7 P) .nil .nil) .nil))) (.node (o12v8 P) (.node (o20v6 P) (.node (o36v6 P) (.node (o68v6 P) .nil .nil) (.node (o100v101 P) .nil .nil)) (.node (o52v6 P) (.node (o84v6 P) .nil .nil) .nil)) (.node (o28v6 P) (.node (o44v6 P) (.node (o76v6 P) .nil .nil) .nil) (.node (o60v6 P) (.node (o92v8 P) .nil .nil) .nil)))) (.node (boot_o_6 P) (.node (boot_o_10 P) (.node (o18v6 P) (.node (o34v6 P) (.node (o66v6 P) .nil .nil) (.node (o98v101 P) .nil .nil)) (.node (o50v6 P) (.node (o82v6 P) .nil .nil) .nil)) (.node (o26v6 P) (.node (o42v6 P) (.node (o74v6 P) .nil .nil) .nil) (.node (o58v6 P) (.node (o90v7 P) .nil .nil) .nil))) (.node (o14v1 P) (.node (o22v6 P) (.node (o38v6 P) (.node (o70v6 P) .nil .nil) (.node (rit c r) .nil .nil)) (.node (o54v6 P) (.node (o86v7 P) .nil .nil) .nil)) (.node (o30v6 P) (.node (o46v6 P) (.node (o78v6 P) .nil .nil) .nil) (.node (o62v6 P) (.node (o94v8 P) .nil .nil) .nil))))))
noncomputable def SA1a (P : Params) (os : OsState) (c r : Int) (O : Obj) (tk : Nat) : SharedT := ⟨TA1a P c r O, 103, {}, ⟨[.running]⟩, {}, tk, os⟩
noncomputable def TA1 (P : Params) (c r : Int) (cp : Value) (O : Obj) : BT := (.node (boot_o_0 P) (.node (boot_o_1 P) (.node (o3v7 P) (.node (boot_o_7 P) (.node (o15v6 P) (.node (o31v6 P) (.node (o63v6 P) .nil .nil) (.node (d95 P (.int (.ofNat 169) 268) (.int (.ofNat 169) 269) cp) .nil .nil)) (.node (o47v6 P) (.node (o79v6 P) .nil .nil) .nil)) (.node (o23v6 P) (.node (o39v6 P) (.node (o71v6 P) .nil .nil) .nil) (.node (o55v6 P) (.node (o87v7 P) .nil .nil) .nil))) (.node (o11v1 P) (.node (o19v6 P) (.node (o35v6 P) (.node (o67v6 P) .nil .nil) (.node (o99v101 P) .nil .nil)) (.node (o51v6 P) (.node (o83v6 P) .nil .nil) .nil)) (.node (o27v6 P) (.node (o43v6 P) (.node (o75v6 P) .nil .nil) .nil) (.node (o59v6 P) (.node (o91v101 P) .nil .nil) .nil)))) (.node (boot_o_5 P) (.node (boot_o_9 P) (.node (o17v6 P) (.node (o33v6 P) (.node (o65v6 P) .nil .nil) (.node O .nil .nil)) (.node (o49v6 P) (.node (o81v6 P) .nil .nil) .nil)) (.node (o25v6 P) (.node (o41v6 P) (.node (o73v6 P) .nil .nil) .nil) (.node (o57v6 P) (.node (o89v7 P) .nil .nil) .nil))) (.node (o13v1 P) (.node (o21v6 P) (.node (o37v6 P) (.node (o69v6 P) .nil .nil) (.node (o101v101 P) .nil .nil)) (.node (o53v6 P) (.node (o85v6 P) .nil .nil) .nil)) (.node (o29v6 P) (.node (o45v6 P) (.node (o77v6 P) .nil .nil) .nil) (.node (o61v6 P) (.node (o93v8 P) .nil .nil) .nil))))) (.node (boot_o_2 P) (.node (boot_o_4 P) (.node (boot_o_8 P) (.node (o16v6 P) (.node (o32v6 P) (.node (o64v6 P) .nil .nil) (.node (o96v8 P) .nil .nil)) (.node (o48v6 P) (.node (o80v6 P) .nil .nil) .nil)) (.node (o24v6 P) (.node (o40v6 P) (.node (o72v6 P) .nil .nil) .nil) (.node (o56v6 P) (.node (o88v7 P) .nil .nil) .nil))) (.node (o12v8 P) (.node (o20v6 P) (.node (o36v6 P) (.node (o68v6 P) .nil .nil) (.node (o100v101 P) .nil .nil)) (.node (o52v6 P) (.node (o84v6 P) .nil .nil) .nil)) (.node (o28v6 P) (.node (o44v6 P) (.node (o76v6 P) .nil .nil) .nil) (.node (o60v6 P) (.node (o92v8 P) .nil .nil) .nil)))) (.node (boot_o_6 P) (.node (boot_o_10 P) (.node (o18v6 P) (.node (o34v6 P) (.node (o66v6 P) .nil .nil) (.node (o98v101 P) .nil .nil)) (.node (o50v6 P) (.node (o82v6 P) .nil .nil) .nil)) (.node (o26v6 P) (.node (o42v6 P) (.node (o74v6 P) .nil .nil) .nil) (.node (o58v6 P) (.node (o90v7 P) .nil .nil) .nil))) (.node (o14v1 P) (.node (o22v6 P) (.node (o38v6 P) (.node (o70v6 P) .nil .nil) (.node (rit c r) .nil .nil)) (.node (o54v6 P) (.node (o86v7 P) .nil .nil) .nil)) (.node (o30v6 P) (.node (o46v6 P) (.node (o78v6 P) .nil .nil) .nil) (.node (o62v6 P) (.node (o94v8 P) .nil .nil) .nil))))))
noncomputable def SA1 (P : Params) (os : OsState) (c r : Int) (cp : Value) (O : Obj) (tk : Nat) : SharedT := ⟨TA1 P c r cp O, 103, {}, ⟨[.running]⟩, {}, tk, os⟩
noncomputable def o103v201 (P : Params) : Obj := ⟨(.type "tuple"), none, (.seq ⟨[]⟩ 0), ⟨[]⟩⟩
noncomputable def o104v201 (P : Params) : Obj := ⟨(.type "StopIteration"), none, (.fields ⟨[(.ref 103), .none, .none, .none, (.bool false), .none]⟩), ⟨[]⟩⟩
noncomputable def TD2 (P : Params) (cp : Value) (O : Obj) : BT := (.node (boot_o_0 P) (.node (boot_o_1 P) (.node (o3v7 P) (.node (boot_o_7 P) (.node (o15v6 P) (.node (o31v6 P) (.node (o63v6 P) .nil .nil) (.node (d95 P (.int (.ofNat 169) 268) (.int (.ofNat 169) 269) cp) .nil .nil)) (.node (o47v6 P) (.node (o79v6 P) .nil .nil) .nil)) (.node (o23v6 P) (.node (o39v6 P) (.node (o71v6 P) .nil .nil) (.node (o103v201 P) .nil .nil)) (.node (o55v6 P) (.node (o87v7 P) .nil .nil) .nil))) (.node (o11v1 P) (.node (o19v6 P) (.node (o35v6 P) (.node (o67v6 P) .nil .nil) (.node (o99v101 P) .nil .nil)) (.node (o51v6 P) (.node (o83v6 P) .nil .nil) .nil)) (.node (o27v6 P) (.node (o43v6 P) (.node (o75v6 P) .nil .nil) .nil) (.node (o59v6 P) (.node (o91v101 P) .nil .nil) .nil)))) (.node (boot_o_5 P) (.node (boot_o_9 P) (.node (o17v6 P) (.node (o33v6 P) (.node (o65v6 P) .nil .nil) (.node O .nil .nil)) (.node (o49v6 P) (.node (o81v6 P) .nil .nil) .nil)) (.node (o25v6 P) (.node (o41v6 P) (.node (o73v6 P) .nil .nil) .nil) (.node (o57v6 P) (.node (o89v7 P) .nil .nil) .nil))) (.node (o13v1 P) (.node (o21v6 P) (.node (o37v6 P) (.node (o69v6 P) .nil .nil) (.node (o101v101 P) .nil .nil)) (.node (o53v6 P) (.node (o85v6 P) .nil .nil) .nil)) (.node (o29v6 P) (.node (o45v6 P) (.node (o77v6 P) .nil .nil) .nil) (.node (o61v6 P) (.node (o93v8 P) .nil .nil) .nil))))) (.node (boot_o_2 P) (.node (boot_o_4 P) (.node (boot_o_8 P) (.node (o16v6 P) (.node (o32v6 P) (.node (o64v6 P) .nil .nil) (.node (o96v8 P) .nil .nil)) (.node (o48v6 P) (.node (o80v6 P) .nil .nil) .nil)) (.node (o24v6 P) (.node (o40v6 P) (.node (o72v6 P) .nil .nil) (.node (o104v201 P) .nil .nil)) (.node (o56v6 P) (.node (o88v7 P) .nil .nil) .nil))) (.node (o12v8 P) (.node (o20v6 P) (.node (o36v6 P) (.node (o68v6 P) .nil .nil) (.node (o100v101 P) .nil .nil)) (.node (o52v6 P) (.node (o84v6 P) .nil .nil) .nil)) (.node (o28v6 P) (.node (o44v6 P) (.node (o76v6 P) .nil .nil) .nil) (.node (o60v6 P) (.node (o92v8 P) .nil .nil) .nil)))) (.node (boot_o_6 P) (.node (boot_o_10 P) (.node (o18v6 P) (.node (o34v6 P) (.node (o66v6 P) .nil .nil) (.node (o98v101 P) .nil .nil)) (.node (o50v6 P) (.node (o82v6 P) .nil .nil) .nil)) (.node (o26v6 P) (.node (o42v6 P) (.node (o74v6 P) .nil .nil) .nil) (.node (o58v6 P) (.node (o90v7 P) .nil .nil) .nil))) (.node (o14v1 P) (.node (o22v6 P) (.node (o38v6 P) (.node (o70v6 P) .nil .nil) (.node (rit (.ofNat 170) (.ofNat 0)) .nil .nil)) (.node (o54v6 P) (.node (o86v7 P) .nil .nil) .nil)) (.node (o30v6 P) (.node (o46v6 P) (.node (o78v6 P) .nil .nil) .nil) (.node (o62v6 P) (.node (o94v8 P) .nil .nil) .nil))))))
noncomputable def SD2 (P : Params) (os : OsState) (cp : Value) (O : Obj) (tk : Nat) : SharedT := ⟨TD2 P cp O, 105, {}, ⟨[.running]⟩, {}, tk, os⟩
noncomputable def o91v102 (P : Params) : Obj := ⟨(.type "tuple_iterator"), none, (.fields ⟨[(.ref 85), (.int (.ofNat 2) 0)]⟩), ⟨[]⟩⟩
noncomputable def o102v102 (P : Params) : Obj := ⟨(.type "range_iterator"), none, (.fields ⟨[(.int (.ofNat 170) 0), (.int (.ofNat 0) 0), (.int (.ofNat 1) 0)]⟩), ⟨[]⟩⟩
noncomputable def o105v102 (P : Params) : Obj := ⟨(.type "tuple_iterator"), none, (.fields ⟨[.none, (.int (.ofNat 2) 0)]⟩), ⟨[]⟩⟩
noncomputable def o106v102 (P : Params) : Obj := ⟨(.type "tuple"), none, (.seq ⟨[]⟩ 0), ⟨[]⟩⟩
noncomputable def o107v102 (P : Params) : Obj := ⟨(.type "StopIteration"), none, (.fields ⟨[(.ref 106), .none, .none, .none, (.bool false), .none]⟩), ⟨[]⟩⟩
noncomputable def o108v102 (P : Params) : Obj := ⟨(.type "range"), none, (.fields ⟨[(.int (.ofNat 174) 270), (.int (.ofNat 175) 406), (.int (.ofNat 1) 407)]⟩), ⟨[]⟩⟩
noncomputable def TA2 (P : Params) (c r : Int) (cp : Value) (O : Obj) : BT := (.node (boot_o_0 P) (.node (boot_o_1 P) (.node (o3v7 P) (.node (boot_o_7 P) (.node (o15v6 P) (.node (o31v6 P) (.node (o63v6 P) .nil .nil) (.node (d95 P (.int (.ofNat 174) 270) (.int (.ofNat 174) 271) cp) .nil .nil)) (.node (o47v6 P) (.node (o79v6 P) .nil .nil) .nil)) (.node (o23v6 P) (.node (o39v6 P) (.node (o71v6 P) .nil .nil) (.node (o103v201 P) .nil .nil)) (.node (o55v6 P) (.node (o87v7 P) .nil .nil) .nil))) (.node (o11v1 P) (.node (o19v6 P) (.node (o35v6 P) (.node (o67v6 P) .nil .nil) (.node (o99v101 P) .nil .nil)) (.node (o51v6 P) (.node (o83v6 P) .nil .nil) .nil)) (.node (o27v6 P) (.node (o43v6 P) (.node (o75v6 P) .nil .nil) (.node (o107v102 P) .nil .nil)) (.node (o59v6 P) (.node (o91v102 P) .nil .nil) .nil)))) (.node (boot_o_5 P) (.node (boot_o_9 P) (.node (o17v6 P) (.node (o33v6 P) (.node (o65v6 P) .nil .nil) (.node O .nil .nil)) (.node (o49v6 P) (.node (o81v6 P) .nil .nil) .nil)) (.node (o25v6 P) (.node (o41v6 P) (.node (o73v6 P) .nil .nil) (.node (o105v102 P) .nil .nil)) (.node (o57v6 P) (.node (o89v7 P) .nil .nil) .nil))) (.node (o13v1 P) (.node (o21v6 P) (.node (o37v6 P) (.node (o69v6 P) .nil .nil) (.node (o101v101 P) .nil .nil)) (.node (o53v6 P) (.node (o85v6 P) .nil .nil) .nil)) (.node (o29v6 P) (.node (o45v6 P) (.node (o77v6 P) .nil .nil) (.node (rit c r) .nil .nil)) (.node (o61v6 P) (.node (o93v8 P) .nil .nil) .nil))))) (.node (boot_o_2 P) (.node (boot_o_4 P) (.node (boot_o_8 P) (.node (o16v6 P) (.node (o32v6 P) (.node (o64v6 P) .nil .nil) (.node (o96v8 P) .nil .nil)) (.node (o48v6 P) (.node (o80v6 P) .nil .nil) .nil)) (.node (o24v6 P) (.node (o40v6 P) (.node (o72v6 P) .nil .nil) (.node (o104v201 P) .nil .nil)) (.node (o56v6 P) (.node (o88v7 P) .nil .nil) .nil))) (.node (o12v8 P) (.node (o20v6 P) (.node (o36v6 P) (.node (o68v6 P) .nil .nil) (.node (o100v101 P) .nil .nil)) (.node (o52v6 P) (.node (o84v6 P) .nil .nil) .nil)) (.node (o28v6 P) (.node (o44v6 P) (.node (o76v6 P) .nil .nil) (.node (o108v102 P) .nil .nil)) (.node (o60v6 P) (.node (o92v8 P) .nil .nil) .nil)))) (.node (boot_o_6 P) (.node (boot_o_10 P) (.node (o18v6 P) (.node (o34v6 P) (.node (o66v6 P) .nil .nil) (.node (o98v101 P) .nil .nil)) (.node (o50v6 P) (.node (o82v6 P) .nil .nil) .nil)) (.node (o26v6 P) (.node (o42v6 P) (.node (o74v6 P) .nil .nil) (.node (o106v102 P) .nil .nil)) (.node (o58v6 P) (.node (o90v7 P) .nil .nil) .nil))) (.node (o14v1 P) (.node (o22v6 P) (.node (o38v6 P) (.node (o70v6 P) .nil .nil) (.node (o102v102 P) .nil .nil)) (.node (o54v6 P) (.node (o86v7 P) .nil .nil) .nil)) (.node (o30v6 P) (.node (o46v6 P) (.node (o78v6 P) .nil .nil) .nil) (.node (o62v6 P) (.node (o94v8 P) .nil .nil) .nil))))))
noncomputable def SA2 (P : Params) (os : OsState) (c r : Int) (cp : Value) (O : Obj) (tk : Nat) : SharedT := ⟨TA2 P c r cp O, 110, {}, ⟨[.running]⟩, {}, tk, os⟩
noncomputable def o110v202 (P : Params) : Obj := ⟨(.type "tuple"), none, (.seq ⟨[]⟩ 0), ⟨[]⟩⟩
noncomputable def o111v202 (P : Params) : Obj := ⟨(.type "StopIteration"), none, (.fields ⟨[(.ref 110), .none, .none, .none, (.bool false), .none]⟩), ⟨[]⟩⟩
noncomputable def TD3 (P : Params) (cp : Value) (O : Obj) : BT := (.node (boot_o_0 P) (.node (boot_o_1 P) (.node (o3v7 P) (.node (boot_o_7 P) (.node (o15v6 P) (.node (o31v6 P) (.node (o63v6 P) .nil .nil) (.node (d95 P (.int (.ofNat 174) 270) (.int (.ofNat 174) 271) cp) .nil .nil)) (.node (o47v6 P) (.node (o79v6 P) .nil .nil) (.node (o111v202 P) .nil .nil))) (.node (o23v6 P) (.node (o39v6 P) (.node (o71v6 P) .nil .nil) (.node (o103v201 P) .nil .nil)) (.node (o55v6 P) (.node (o87v7 P) .nil .nil) .nil))) (.node (o11v1 P) (.node (o19v6 P) (.node (o35v6 P) (.node (o67v6 P) .nil .nil) (.node (o99v101 P) .nil .nil)) (.node (o51v6 P) (.node (o83v6 P) .nil .nil) .nil)) (.node (o27v6 P) (.node (o43v6 P) (.node (o75v6 P) .nil .nil) (.node (o107v102 P) .nil .nil)) (.node (o59v6 P) (.node (o91v102 P) .nil .nil) .nil)))) (.node (boot_o_5 P) (.node (boot_o_9 P) (.node (o17v6 P) (.node (o33v6 P) (.node (o65v6 P) .nil .nil) (.node O .nil .nil)) (.node (o49v6 P) (.node (o81v6 P) .nil .nil) .nil)) (.node (o25v6 P) (.node (o41v6 P) (.node (o73v6 P) .nil .nil) (.node (o105v102 P) .nil .nil)) (.node (o57v6 P) (.node (o89v7 P) .nil .nil) .nil))) (.node (o13v1 P) (.node (o21v6 P) (.node (o37v6 P) (.node (o69v6 P) .nil .nil) (.node (o101v101 P) .nil .nil)) (.node (o53v6 P) (.node (o85v6 P) .nil .nil) .nil)) (.node (o29v6 P) (.node (o45v6 P) (.node (o77v6 P) .nil .nil) (.node (rit (.ofNat 175) (.ofNat 0)) .nil .nil)) (.node (o61v6 P) (.node (o93v8 P) .nil .nil) .nil))))) (.node (boot_o_2 P) (.node (boot_o_4 P) (.node (boot_o_8 P) (.node (o16v6 P) (.node (o32v6 P) (.node (o64v6 P) .nil .nil) (.node (o96v8 P) .nil .nil)) (.node (o48v6 P) (.node (o80v6 P) .nil .nil) .nil)) (.node (o24v6 P) (.node (o40v6 P) (.node (o72v6 P) .nil .nil) (.node (o104v201 P) .nil .nil)) (.node (o56v6 P) (.node (o88v7 P) .nil .nil) .nil))) (.node (o12v8 P) (.node (o20v6 P) (.node (o36v6 P) (.node (o68v6 P) .nil .nil) (.node (o100v101 P) .nil .nil)) (.node (o52v6 P) (.node (o84v6 P) .nil .nil) .nil)) (.node (o28v6 P) (.node (o44v6 P) (.node (o76v6 P) .nil .nil) (.node (o108v102 P) .nil .nil)) (.node (o60v6 P) (.node (o92v8 P) .nil .nil) .nil)))) (.node (boot_o_6 P) (.node (boot_o_10 P) (.node (o18v6 P) (.node (o34v6 P) (.node (o66v6 P) .nil .nil) (.node (o98v101 P) .nil .nil)) (.node (o50v6 P) (.node (o82v6 P) .nil .nil) .nil)) (.node (o26v6 P) (.node (o42v6 P) (.node (o74v6 P) .nil .nil) (.node (o106v102 P) .nil .nil)) (.node (o58v6 P) (.node (o90v7 P) .nil .nil) .nil))) (.node (o14v1 P) (.node (o22v6 P) (.node (o38v6 P) (.node (o70v6 P) .nil .nil) (.node (o102v102 P) .nil .nil)) (.node (o54v6 P) (.node (o86v7 P) .nil .nil) .nil)) (.node (o30v6 P) (.node (o46v6 P) (.node (o78v6 P) .nil .nil) (.node (o110v202 P) .nil .nil)) (.node (o62v6 P) (.node (o94v8 P) .nil .nil) .nil))))))
noncomputable def SD3 (P : Params) (os : OsState) (cp : Value) (O : Obj) (tk : Nat) : SharedT := ⟨TD3 P cp O, 112, {}, ⟨[.running]⟩, {}, tk, os⟩
noncomputable def o91v103 (P : Params) : Obj := ⟨(.type "tuple_iterator"), none, (.fields ⟨[(.ref 85), (.int (.ofNat 3) 0)]⟩), ⟨[]⟩⟩
noncomputable def o109v103 (P : Params) : Obj := ⟨(.type "range_iterator"), none, (.fields ⟨[(.int (.ofNat 175) 0), (.int (.ofNat 0) 0), (.int (.ofNat 1) 0)]⟩), ⟨[]⟩⟩
noncomputable def o112v103 (P : Params) : Obj := ⟨(.type "tuple_iterator"), none, (.fields ⟨[.none, (.int (.ofNat 2) 0)]⟩), ⟨[]⟩⟩
noncomputable def o113v103 (P : Params) : Obj := ⟨(.type "tuple"), none, (.seq ⟨[]⟩ 0), ⟨[]⟩⟩
noncomputable def o114v103 (P : Params) : Obj := ⟨(.type "StopIteration"), none, (.fields ⟨[(.ref 113), .none, .none, .none, (.bool false), .none]⟩), ⟨[]⟩⟩
noncomputable def o115v103 (P : Params) : Obj := ⟨(.type "range"), none, (.fields ⟨[(.int (.ofNat 8252) 272), (.int (.ofNat 8253) 414), (.int (.ofNat 1) 415)]⟩), ⟨[]⟩⟩
noncomputable def TA3 (P : Params) (c r : Int) (cp : Value) (O : Obj) : BT := (.node (boot_o_0 P) (.node (boot_o_1 P) (.node (o3v7 P) (.node (boot_o_7 P) (.node (o15v6 P) (.node (o31v6 P) (.node (o63v6 P) .nil .nil) (.node (d95 P (.int (.ofNat 8252) 272) (.int (.ofNat 8252) 273) cp) .nil .nil)) (.node (o47v6 P) (.node (o79v6 P) .nil .nil) (.node (o111v202 P) .nil .nil))) (.node (o23v6 P) (.node (o39v6 P) (.node (o71v6 P) .nil .nil) (.node (o103v201 P) .nil .nil)) (.node (o55v6 P) (.node (o87v7 P) .nil .nil) .nil))) (.node (o11v1 P) (.node (o19v6 P) (.node (o35v6 P) (.node (o67v6 P) .nil .nil) (.node (o99v101 P) .nil .nil)) (.node (o51v6 P) (.node (o83v6 P) .nil .nil) (.node (o115v103 P) .nil .nil))) (.node (o27v6 P) (.node (o43v6 P) (.node (o75v6 P) .nil .nil) (.node (o107v102 P) .nil .nil)) (.node (o59v6 P) (.node (o91v103 P) .nil .nil) .nil)))) (.node (boot_o_5 P) (.node (boot_o_9 P) (.node (o17v6 P) (.node (o33v6 P) (.node (o65v6 P) .nil .nil) (.node O .nil .nil)) (.node (o49v6 P) (.node (o81v6 P) .nil .nil) (.node (o113v103 P) .nil .nil))) (.node (o25v6 P) (.node (o41v6 P) (.node (o73v6 P) .nil .nil) (.node (o105v102 P) .nil .nil)) (.node (o57v6 P) (.node (o89v7 P) .nil .nil) .nil))) (.node (o13v1 P) (.node (o21v6 P) (.node (o37v6 P) (.node (o69v6 P) .nil .nil) (.node (o101v101 P) .nil .nil)) (.node (o53v6 P) (.node (o85v6 P) .nil .nil) .nil)) (.node (o29v6 P) (.node (o45v6 P) (.node (o77v6 P) .nil .nil) (.node (o109v103 P) .nil .nil)) (.node (o61v6 P) (.node (o93v8 P) .nil .nil) .nil))))) (.node (boot_o_2 P) (.node (boot_o_4 P) (.node (boot_o_8 P) (.node (o16v6 P) (.node (o32v6 P) (.node (o64v6 P) .nil .nil) (.node (o96v8 P) .nil .nil)) (.node (o48v6 P) (.node (o80v6 P) .nil .nil) (.node (o112v103 P) .nil .nil))) (.node (o24v6 P) (.node (o40v6 P) (.node (o72v6 P) .nil .nil) (.node (o104v201 P) .nil .nil)) (.node (o56v6 P) (.node (o88v7 P) .nil .nil) .nil))) (.node (o12v8 P) (.node (o20v6 P) (.node (o36v6 P) (.node (o68v6 P) .nil .nil) (.node (o100v101 P) .nil .nil)) (.node (o52v6 P) (.node (o84v6 P) .nil .nil) (.node (rit c r) .nil .nil))) (.node (o28v6 P) (.node (o44v6 P) (.node (o76v6 P) .nil .nil) (.node (o108v102 P) .nil .nil)) (.node (o60v6 P) (.node (o92v8 P) .nil .nil) .nil)))) (.node (boot_o_6 P) (.node (boot_o_10 P) (.node (o18v6 P) (.node (o34v6 P) (.node (o66v6 P) .nil .nil) (.node (o98v101 P) .nil .nil)) (.node (o50v6 P) (.node (o82v6 P) .nil .nil) (.node (o114v103 P) .nil .nil))) (.node (o26v6 P) (.node (o42v6 P) (.node (o74v6 P) .nil .nil) (.node (o106v102 P) .nil .nil)) (.node (o58v6 P) (.node (o90v7 P) .nil .nil) .nil))) (.node (o14v1 P) (.node (o22v6 P) (.node (o38v6 P) (.node (o70v6 P) .nil .nil) (.node (o102v102 P) .nil .nil)) (.node (o54v6 P) (.node (o86v7 P) .nil .nil) .nil)) (.node (o30v6 P) (.node (o46v6 P) (.node (o78v6 P) .nil .nil) (.node (o110v202 P) .nil .nil)) (.node (o62v6 P) (.node (o94v8 P) .nil .nil) .nil))))))
noncomputable def SA3 (P : Params) (os : OsState) (c r : Int) (cp : Value) (O : Obj) (tk : Nat) : SharedT := ⟨TA3 P c r cp O, 117, {}, ⟨[.running]⟩, {}, tk, os⟩
noncomputable def o117v203 (P : Params) : Obj := ⟨(.type "tuple"), none, (.seq ⟨[]⟩ 0), ⟨[]⟩⟩
noncomputable def o118v203 (P : Params) : Obj := ⟨(.type "StopIteration"), none, (.fields ⟨[(.ref 117), .none, .none, .none, (.bool false), .none]⟩), ⟨[]⟩⟩
noncomputable def TD4 (P : Params) (cp : Value) (O : Obj) : BT := (.node (boot_o_0 P) (.node (boot_o_1 P) (.node (o3v7 P) (.node (boot_o_7 P) (.node (o15v6 P) (.node (o31v6 P) (.node (o63v6 P) .nil .nil) (.node (d95 P (.int (.ofNat 8252) 272) (.int (.ofNat 8252) 273) cp) .nil .nil)) (.node (o47v6 P) (.node (o79v6 P) .nil .nil) (.node (o111v202 P) .nil .nil))) (.node (o23v6 P) (.node (o39v6 P) (.node (o71v6 P) .nil .nil) (.node (o103v201 P) .nil .nil)) (.node (o55v6 P) (.node (o87v7 P) .nil .nil) .nil))) (.node (o11v1 P) (.node (o19v6 P) (.node (o35v6 P) (.node (o67v6 P) .nil .nil) (.node (o99v101 P) .nil .nil)) (.node (o51v6 P) (.node (o83v6 P) .nil .nil) (.node (o115v103 P) .nil .nil))) (.node (o27v6 P) (.node (o43v6 P) (.node (o75v6 P) .nil .nil) (.node (o107v102 P) .nil .nil)) (.node (o59v6 P) (.node (o91v103 P) .nil .nil) .nil)))) (.node (boot_o_5 P) (.node (boot_o_9 P) (.node (o17v6 P) (.node (o33v6 P) (.node (o65v6 P) .nil .nil) (.node O .nil .nil)) (.node (o49v6 P) (.node (o81v6 P) .nil .nil) (.node (o113v103 P) .nil .nil))) (.node (o25v6 P) (.node (o41v6 P) (.node (o73v6 P) .nil .nil) (.node (o105v102 P) .nil .nil)) (.node (o57v6 P) (.node (o89v7 P) .nil .nil) .nil))) (.node (o13v1 P) (.node (o21v6 P) (.node (o37v6 P) (.node (o69v6 P) .nil .nil) (.node (o101v101 P) .nil .nil)) (.node (o53v6 P) (.node (o85v6 P) .nil .nil) (.node (o117v203 P) .nil .nil))) (.node (o29v6 P) (.node (o45v6 P) (.node (o77v6 P) .nil .nil) (.node (o109v103 P) .nil .nil)) (.node (o61v6 P) (.node (o93v8 P) .nil .nil) .nil))))) (.node (boot_o_2 P) (.node (boot_o_4 P) (.node (boot_o_8 P) (.node (o16v6 P) (.node (o32v6 P) (.node (o64v6 P) .nil .nil) (.node (o96v8 P) .nil .nil)) (.node (o48v6 P) (.node (o80v6 P) .nil .nil) (.node (o112v103 P) .nil .nil))) (.node (o24v6 P) (.node (o40v6 P) (.node (o72v6 P) .nil .nil) (.node (o104v201 P) .nil .nil)) (.node (o56v6 P) (.node (o88v7 P) .nil .nil) .nil))) (.node (o12v8 P) (.node (o20v6 P) (.node (o36v6 P) (.node (o68v6 P) .nil .nil) (.node (o100v101 P) .nil .nil)) (.node (o52v6 P) (.node (o84v6 P) .nil .nil) (.node (rit (.ofNat 8253) (.ofNat 0)) .nil .nil))) (.node (o28v6 P) (.node (o44v6 P) (.node (o76v6 P) .nil .nil) (.node (o108v102 P) .nil .nil)) (.node (o60v6 P) (.node (o92v8 P) .nil .nil) .nil)))) (.node (boot_o_6 P) (.node (boot_o_10 P) (.node (o18v6 P) (.node (o34v6 P) (.node (o66v6 P) .nil .nil) (.node (o98v101 P) .nil .nil)) (.node (o50v6 P) (.node (o82v6 P) .nil .nil) (.node (o114v103 P) .nil .nil))) (.node (o26v6 P) (.node (o42v6 P) (.node (o74v6 P) .nil .nil) (.node (o106v102 P) .nil .nil)) (.node (o58v6 P) (.node (o90v7 P) .nil .nil) .nil))) (.node (o14v1 P) (.node (o22v6 P) (.node (o38v6 P) (.node (o70v6 P) .nil .nil) (.node (o102v102 P) .nil .nil)) (.node (o54v6 P) (.node (o86v7 P) .nil .nil) (.node (o118v203 P) .nil .nil))) (.node (o30v6 P) (.node (o46v6 P) (.node (o78v6 P) .nil .nil) (.node (o110v202 P) .nil .nil)) (.node (o62v6 P) (.node (o94v8 P) .nil .nil) .nil))))))
noncomputable def SD4 (P : Params) (os : OsState) (cp : Value) (O : Obj) (tk : Nat) : SharedT := ⟨TD4 P cp O, 119, {}, ⟨[.running]⟩, {}, tk, os⟩
noncomputable def o91v104 (P : Params) : Obj := ⟨(.type "tuple_iterator"), none, (.fields ⟨[(.ref 85), (.int (.ofNat 4) 0)]⟩), ⟨[]⟩⟩
noncomputable def o116v104 (P : Params) : Obj := ⟨(.type "range_iterator"), none, (.fields ⟨[(.int (.ofNat 8253) 0), (.int (.ofNat 0) 0), (.int (.ofNat 1) 0)]⟩), ⟨[]⟩⟩
noncomputable def o119v104 (P : Params) : Obj := ⟨(.type "tuple_iterator"), none, (.fields ⟨[.none, (.int (.ofNat 2) 0)]⟩), ⟨[]⟩⟩
noncomputable def o120v104 (P : Params) : Obj := ⟨(.type "tuple"), none, (.seq ⟨[]⟩ 0), ⟨[]⟩⟩
noncomputable def o121v104 (P : Params) : Obj := ⟨(.type "StopIteration"), none, (.fields ⟨[(.ref 120), .none, .none, .none, (.bool false), .none]⟩), ⟨[]⟩⟩
noncomputable def o122v104 (P : Params) : Obj := ⟨(.type "range"), none, (.fields ⟨[(.int (.ofNat 8596) 274), (.int (.ofNat 8602) 422), (.int (.ofNat 1) 423)]⟩), ⟨[]⟩⟩
noncomputable def TA4 (P : Params) (c r : Int) (cp : Value) (O : Obj) : BT := (.node (boot_o_0 P) (.node (boot_o_1 P) (.node (o3v7 P) (.node (boot_o_7 P) (.node (o15v6 P) (.node (o31v6 P) (.node (o63v6 P) .nil .nil) (.node (d95 P (.int (.ofNat 8596) 274) (.int (.ofNat 8601) 275) cp) .nil .nil)) (.node (o47v6 P) (.node (o79v6 P) .nil .nil) (.node (o111v202 P) .nil .nil))) (.node (o23v6 P) (.node (o39v6 P) (.node (o71v6 P) .nil .nil) (.node (o103v201 P) .nil .nil)) (.node (o55v6 P) (.node (o87v7 P) .nil .nil) (.node (o119v104 P) .nil .nil)))) (.node (o11v1 P) (.node (o19v6 P) (.node (o35v6 P) (.node (o67v6 P) .nil .nil) (.node (o99v101 P) .nil .nil)) (.node (o51v6 P) (.node (o83v6 P) .nil .nil) (.node (o115v103 P) .nil .nil))) (.node (o27v6 P) (.node (o43v6 P) (.node (o75v6 P) .nil .nil) (.node (o107v102 P) .nil .nil)) (.node (o59v6 P) (.node (o91v104 P) .nil .nil) (.node (rit c r) .nil .nil))))) (.node (boot_o_5 P) (.node (boot_o_9 P) (.node (o17v6 P) (.node (o33v6 P) (.node (o65v6 P) .nil .nil) (.node O .nil .nil)) (.node (o49v6 P) (.node (o81v6 P) .nil .nil) (.node (o113v103 P) .nil .nil))) (.node (o25v6 P) (.node (o41v6 P) (.node (o73v6 P) .nil .nil) (.node (o105v102 P) .nil .nil)) (.node (o57v6 P) (.node (o89v7 P) .nil .nil) (.node (o121v104 P) .nil .nil)))) (.node (o13v1 P) (.node (o21v6 P) (.node (o37v6 P) (.node (o69v6 P) .nil .nil) (.node (o101v101 P) .nil .nil)) (.node (o53v6 P) (.node (o85v6 P) .nil .nil) (.node (o117v203 P) .nil .nil))) (.node (o29v6 P) (.node (o45v6 P) (.node (o77v6 P) .nil .nil) (.node (o109v103 P) .nil .nil)) (.node (o61v6 P) (.node (o93v8 P) .nil .nil) .nil))))) (.node (boot_o_2 P) (.node (boot_o_4 P) (.node (boot_o_8 P) (.node (o16v6 P) (.node (o32v6 P) (.node (o64v6 P) .nil .nil) (.node (o96v8 P) .nil .nil)) (.node (o48v6 P) (.node (o80v6 P) .nil .nil) (.node (o112v103 P) .nil .nil))) (.node (o24v6 P) (.node (o40v6 P) (.node (o72v6 P) .nil .nil) (.node (o104v201 P) .nil .nil)) (.node (o56v6 P) (.node (o88v7 P) .nil .nil) (.node (o120v104 P) .nil .nil)))) (.node (o12v8 P) (.node (o20v6 P) (.node (o36v6 P) (.node (o68v6 P) .nil .nil) (.node (o100v101 P) .nil .nil)) (.node (o52v6 P) (.node (o84v6 P) .nil .nil) (.node (o116v104 P) .nil .nil))) (.node (o28v6 P) (.node (o44v6 P) (.node (o76v6 P) .nil .nil) (.node (o108v102 P) .nil .nil)) (.node (o60v6 P) (.node (o92v8 P) .nil .nil) .nil)))) (.node (boot_o_6 P) (.node (boot_o_10 P) (.node (o18v6 P) (.node (o34v6 P) (.node (o66v6 P) .nil .nil) (.node (o98v101 P) .nil .nil)) (.node (o50v6 P) (.node (o82v6 P) .nil .nil) (.node (o114v103 P) .nil .nil))) (.node (o26v6 P) (.node (o42v6 P) (.node (o74v6 P) .nil .nil) (.node (o106v102 P) .nil .nil)) (.node (o58v6 P) (.node (o90v7 P) .nil .nil) (.node (o122v104 P) .nil .nil)))) (.node (o14v1 P) (.node (o22v6 P) (.node (o38v6 P) (.node (o70v6 P) .nil .nil) (.node (o102v102 P) .nil .nil)) (.node (o54v6 P) (.node (o86v7 P) .nil .nil) (.node (o118v203 P) .nil .nil))) (.node (o30v6 P) (.node (o46v6 P) (.node (o78v6 P) .nil .nil) (.node (o110v202 P) .nil .nil)) (.node (o62v6 P) (.node (o94v8 P) .nil .nil) .nil))))))
noncomputable def SA4 (P : Params) (os : OsState) (c r : Int) (cp : Value) (O : Obj) (tk : Nat) : SharedT := ⟨TA4 P c r cp O, 124, {}, ⟨[.running]⟩, {}, tk, os⟩
noncomputable def o124v204 (P : Params) : Obj := ⟨(.type "tuple"), none, (.seq ⟨[]⟩ 0), ⟨[]⟩⟩
noncomputable def o125v204 (P : Params) : Obj := ⟨(.type "StopIteration"), none, (.fields ⟨[(.ref 124), .none, .none, .none, (.bool false), .none]⟩), ⟨[]⟩⟩
noncomputable def TD5 (P : Params) (cp : Value) (O : Obj) : BT := (.node (boot_o_0 P) (.node (boot_o_1 P) (.node (o3v7 P) (.node (boot_o_7 P) (.node (o15v6 P) (.node (o31v6 P) (.node (o63v6 P) .nil .nil) (.node (d95 P (.int (.ofNat 8596) 274) (.int (.ofNat 8601) 275) cp) .nil .nil)) (.node (o47v6 P) (.node (o79v6 P) .nil .nil) (.node (o111v202 P) .nil .nil))) (.node (o23v6 P) (.node (o39v6 P) (.node (o71v6 P) .nil .nil) (.node (o103v201 P) .nil .nil)) (.node (o55v6 P) (.node (o87v7 P) .nil .nil) (.node (o119v104 P) .nil .nil)))) (.node (o11v1 P) (.node (o19v6 P) (.node (o35v6 P) (.node (o67v6 P) .nil .nil) (.node (o99v101 P) .nil .nil)) (.node (o51v6 P) (.node (o83v6 P) .nil .nil) (.node (o115v103 P) .nil .nil))) (.node (o27v6 P) (.node (o43v6 P) (.node (o75v6 P) .nil .nil) (.node (o107v102 P) .nil .nil)) (.node (o59v6 P) (.node (o91v104 P) .nil .nil) (.node (rit (.ofNat 8602) (.ofNat 0)) .nil .nil))))) (.node (boot_o_5 P) (.node (boot_o_9 P) (.node (o17v6 P) (.node (o33v6 P) (.node (o65v6 P) .nil .nil) (.node O .nil .nil)) (.node (o49v6 P) (.node (o81v6 P) .nil .nil) (.node (o113v103 P) .nil .nil))) (.node (o25v6 P) (.node (o41v6 P) (.node (o73v6 P) .nil .nil) (.node (o105v102 P) .nil .nil)) (.node (o57v6 P) (.node (o89v7 P) .nil .nil) (.node (o121v104 P) .nil .nil)))) (.node (o13v1 P) (.node (o21v6 P) (.node (o37v6 P) (.node (o69v6 P) .nil .nil) (.node (o101v101 P) .nil .nil)) (.node (o53v6 P) (.node (o85v6 P) .nil .nil) (.node (o117v203 P) .nil .nil))) (.node (o29v6 P) (.node (o45v6 P) (.node (o77v6 P) .nil .nil) (.node (o109v103 P) .nil .nil)) (.node (o61v6 P) (.node (o93v8 P) .nil .nil) (.node (o125v204 P) .nil .nil)))))) (.node (boot_o_2 P) (.node (boot_o_4 P) (.node (boot_o_8 P) (.node (o16v6 P) (.node (o32v6 P) (.node (o64v6 P) .nil .nil) (.node (o96v8 P) .nil .nil)) (.node (o48v6 P) (.node (o80v6 P) .nil .nil) (.node (o112v103 P) .nil .nil))) (.node (o24v6 P) (.node (o40v6 P) (.node (o72v6 P) .nil .nil) (.node (o104v201 P) .nil .nil)) (.node (o56v6 P) (.node (o88v7 P) .nil .nil) (.node (o120v104 P) .nil .nil)))) (.node (o12v8 P) (.node (o20v6 P) (.node (o36v6 P) (.node (o68v6 P) .nil .nil) (.node (o100v101 P) .nil .nil)) (.node (o52v6 P) (.node (o84v6 P) .nil .nil) (.node (o116v104 P) .nil .nil))) (.node (o28v6 P) (.node (o44v6 P) (.node (o76v6 P) .nil .nil) (.node (o108v102 P) .nil .nil)) (.node (o60v6 P) (.node (o92v8 P) .nil .nil) (.node (o124v204 P) .nil .nil))))) (.node (boot_o_6 P) (.node (boot_o_10 P) (.node (o18v6 P) (.node (o34v6 P) (.node (o66v6 P) .nil .nil) (.node (o98v101 P) .nil .nil)) (.node (o50v6 P) (.node (o82v6 P) .nil .nil) (.node (o114v103 P) .nil .nil))) (.node (o26v6 P) (.node (o42v6 P) (.node (o74v6 P) .nil .nil) (.node (o106v102 P) .nil .nil)) (.node (o58v6 P) (.node (o90v7 P) .nil .nil) (.node (o122v104 P) .nil .nil)))) (.node (o14v1 P) (.node (o22v6 P) (.node (o38v6 P) (.node (o70v6 P) .nil .nil) (.node (o102v102 P) .nil .nil)) (.node (o54v6 P) (.node (o86v7 P) .nil .nil) (.node (o118v203 P) .nil .nil))) (.node (o30v6 P) (.node (o46v6 P) (.node (o78v6 P) .nil .nil) (.node (o110v202 P) .nil .nil)) (.node (o62v6 P) (.node (o94v8 P) .nil .nil) .nil))))))
noncomputable def SD5 (P : Params) (os : OsState) (cp : Value) (O : Obj) (tk : Nat) : SharedT := ⟨TD5 P cp O, 126, {}, ⟨[.running]⟩, {}, tk, os⟩
noncomputable def o91v105 (P : Params) : Obj := ⟨(.type "tuple_iterator"), none, (.fields ⟨[(.ref 85), (.int (.ofNat 5) 0)]⟩), ⟨[]⟩⟩
noncomputable def o123v105 (P : Params) : Obj := ⟨(.type "range_iterator"), none, (.fields ⟨[(.int (.ofNat 8602) 0), (.int (.ofNat 0) 0), (.int (.ofNat 1) 0)]⟩), ⟨[]⟩⟩
noncomputable def o126v105 (P : Params) : Obj := ⟨(.type "tuple_iterator"), none, (.fields ⟨[.none, (.int (.ofNat 2) 0)]⟩), ⟨[]⟩⟩
noncomputable def o127v105 (P : Params) : Obj := ⟨(.type "tuple"), none, (.seq ⟨[]⟩ 0), ⟨[]⟩⟩
noncomputable def o128v105 (P : Params) : Obj := ⟨(.type "StopIteration"), none, (.fields ⟨[(.ref 127), .none, .none, .none, (.bool false), .none]⟩), ⟨[]⟩⟩
noncomputable def o129v105 (P : Params) : Obj := ⟨(.type "range"), none, (.fields ⟨[(.int (.ofNat 8986) 276), (.int (.ofNat 8988) 445), (.int (.ofNat 1) 446)]⟩), ⟨[]⟩⟩
noncomputable def TA5 (P : Params) (c r : Int) (cp : Value) (O : Obj) : BT := (.node (boot_o_0 P) (.node (boot_o_1 P) (.node (o3v7 P) (.node (boot_o_7 P) (.node (o15v6 P) (.node (o31v6 P) (.node (o63v6 P) (.node (o127v105 P) .nil .nil) .nil) (.node (d95 P (.int (.ofNat 8986) 276) (.int (.ofNat 8987) 277) cp) .nil .nil)) (.node (o47v6 P) (.node (o79v6 P) .nil .nil) (.node (o111v202 P) .nil .nil))) (.node (o23v6 P) (.node (o39v6 P) (.node (o71v6 P) .nil .nil) (.node (o103v201 P) .nil .nil)) (.node (o55v6 P) (.node (o87v7 P) .nil .nil) (.node (o119v104 P) .nil .nil)))) (.node (o11v1 P) (.node (o19v6 P) (.node (o35v6 P) (.node (o67v6 P) .nil .nil) (.node (o99v101 P) .nil .nil)) (.node (o51v6 P) (.node (o83v6 P) .nil .nil) (.node (o115v103 P) .nil .nil))) (.node (o27v6 P) (.node (o43v6 P) (.node (o75v6 P) .nil .nil) (.node (o107v102 P) .nil .nil)) (.node (o59v6 P) (.node (o91v105 P) .nil .nil) (.node (o123v105 P) .nil .nil))))) (.node (boot_o_5 P) (.node (boot_o_9 P) (.node (o17v6 P) (.node (o33v6 P) (.node (o65v6 P) (.node (o129v105 P) .nil .nil) .nil) (.node O .nil .nil)) (.node (o49v6 P) (.node (o81v6 P) .nil .nil) (.node (o113v103 P) .nil .nil))) (.node (o25v6 P) (.node (o41v6 P) (.node (o73v6 P) .nil .nil) (.node (o105v102 P) .nil .nil)) (.node (o57v6 P) (.node (o89v7 P) .nil .nil) (.node (o121v104 P) .nil .nil)))) (.node (o13v1 P) (.node (o21v6 P) (.node (o37v6 P) (.node (o69v6 P) .nil .nil) (.node (o101v101 P) .nil .nil)) (.node (o53v6 P) (.node (o85v6 P) .nil .nil) (.node (o117v203 P) .nil .nil))) (.node (o29v6 P) (.node (o45v6 P) (.node (o77v6 P) .nil .nil) (.node (o109v103 P) .nil .nil)) (.node (o61v6 P) (.node (o93v8 P) .nil .nil) (.node (o125v204 P) .nil .nil)))))) (.node (boot_o_2 P) (.node (boot_o_4 P) (.node (boot_o_8 P) (.node (o16v6 P) (.node (o32v6 P) (.node (o64v6 P) (.node (o128v105 P) .nil .nil) .nil) (.node (o96v8 P) .nil .nil)) (.node (o48v6 P) (.node (o80v6 P) .nil .nil) (.node (o112v103 P) .nil .nil))) (.node (o24v6 P) (.node (o40v6 P) (.node (o72v6 P) .nil .nil) (.node (o104v201 P) .nil .nil)) (.node (o56v6 P) (.node (o88v7 P) .nil .nil) (.node (o120v104 P) .nil .nil)))) (.node (o12v8 P) (.node (o20v6 P) (.node (o36v6 P) (.node (o68v6 P) .nil .nil) (.node (o100v101 P) .nil .nil)) (.node (o52v6 P) (.node (o84v6 P) .nil .nil) (.node (o116v104 P) .nil .nil))) (.node (o28v6 P) (.node (o44v6 P) (.node (o76v6 P) .nil .nil) (.node (o108v102 P) .nil .nil)) (.node (o60v6 P) (.node (o92v8 P) .nil .nil) (.node (o124v204 P) .nil .nil))))) (.node (boot_o_6 P) (.node (boot_o_10 P) (.node (o18v6 P) (.node (o34v6 P) (.node (o66v6 P) (.node (rit c r) .nil .nil) .nil) (.node (o98v101 P) .nil .nil)) (.node (o50v6 P) (.node (o82v6 P) .nil .nil) (.node (o114v103 P) .nil .nil))) (.node (o26v6 P) (.node (o42v6 P) (.node (o74v6 P) .nil .nil) (.node (o106v102 P) .nil .nil)) (.node (o58v6 P) (.node (o90v7 P) .nil .nil) (.node (o122v104 P) .nil .nil)))) (.node (o14v1 P) (.node (o22v6 P) (.node (o38v6 P) (.node (o70v6 P) .nil .nil) (.node (o102v102 P) .nil .nil)) (.node (o54v6 P) (.node (o86v7 P) .nil .nil) (.node (o118v203 P) .nil .nil))) (.node (o30v6 P) (.node (o46v6 P) (.node (o78v6 P) .nil .nil) (.node (o110v202 P) .nil .nil)) (.node (o62v6 P) (.node (o94v8 P) .nil .nil) (.node (o126v105 P) .nil .nil)))))))
noncomputable def SA5 (P : Params) (os : OsState) (c r : Int) (cp : Value) (O : Obj) (tk : Nat) : SharedT := ⟨TA5 P c r cp O, 131, {}, ⟨[.running]⟩, {}, tk, os⟩
noncomputable def o131v205 (P : Params) : Obj := ⟨(.type "tuple"), none, (.seq ⟨[]⟩ 0), ⟨[]⟩⟩
noncomputable def o132v205 (P : Params) : Obj := ⟨(.type "StopIteration"), none, (.fields ⟨[(.ref 131), .none, .none, .none, (.bool false), .none]⟩), ⟨[]⟩⟩
noncomputable def TD6 (P : Params) (cp : Value) (O : Obj) : BT := (.node (boot_o_0 P) (.node (boot_o_1 P) (.node (o3v7 P) (.node (boot_o_7 P) (.node (o15v6 P) (.node (o31v6 P) (.node (o63v6 P) (.node (o127v105 P) .nil .nil) .nil) (.node (d95 P (.int (.ofNat 8986) 276) (.int (.ofNat 8987) 277) cp) .nil .nil)) (.node (o47v6 P) (.node (o79v6 P) .nil .nil) (.node (o111v202 P) .nil .nil))) (.node (o23v6 P) (.node (o39v6 P) (.node (o71v6 P) .nil .nil) (.node (o103v201 P) .nil .nil)) (.node (o55v6 P) (.node (o87v7 P) .nil .nil) (.node (o119v104 P) .nil .nil)))) (.node (o11v1 P) (.node (o19v6 P) (.node (o35v6 P) (.node (o67v6 P) (.node (o131v205 P) .nil .nil) .nil) (.node (o99v101 P) .nil .nil)) (.node (o51v6 P) (.node (o83v6 P) .nil .nil) (.node (o115v103 P) .nil .nil))) (.node (o27v6 P) (.node (o43v6 P) (.node (o75v6 P) .nil .nil) (.node (o107v102 P) .nil .nil)) (.node (o59v6 P) (.node (o91v105 P) .nil .nil) (.node (o123v105 P) .nil .nil))))) (.node (boot_o_5 P) (.node (boot_o_9 P) (.node (o17v6 P) (.node (o33v6 P) (.node (o65v6 P) (.node (o129v105 P) .nil .nil) .nil) (.node O .nil .nil)) (.node (o49v6 P) (.node (o81v6 P) .nil .nil) (.node (o113v103 P) .nil .nil))) (.node (o25v6 P) (.node (o41v6 P) (.node (o73v6 P) .nil .nil) (.node (o105v102 P) .nil .nil)) (.node (o57v6 P) (.node (o89v7 P) .nil .nil) (.node (o121v104 P) .nil .nil)))) (.node (o13v1 P) (.node (o21v6 P) (.node (o37v6 P) (.node (o69v6 P) .nil .nil) (.node (o101v101 P) .nil .nil)) (.node (o53v6 P) (.node (o85v6 P) .nil .nil) (.node (o117v203 P) .nil .nil))) (.node (o29v6 P) (.node (o45v6 P) (.node (o77v6 P) .nil .nil) (.node (o109v103 P) .nil .nil)) (.node (o61v6 P) (.node (o93v8 P) .nil .nil) (.node (o125v204 P) .nil .nil)))))) (.node (boot_o_2 P) (.node (boot_o_4 P) (.node (boot_o_8 P) (.node (o16v6 P) (.node (o32v6 P) (.node (o64v6 P) (.node (o128v105 P) .nil .nil) .nil) (.node (o96v8 P) .nil .nil)) (.node (o48v6 P) (.node (o80v6 P) .nil .nil) (.node (o112v103 P) .nil .nil))) (.node (o24v6 P) (.node (o40v6 P) (.node (o72v6 P) .nil .nil) (.node (o104v201 P) .nil .nil)) (.node (o56v6 P) (.node (o88v7 P) .nil .nil) (.node (o120v104 P) .nil .nil)))) (.node (o12v8 P) (.node (o20v6 P) (.node (o36v6 P) (.node (o68v6 P) (.node (o132v205 P) .nil .nil) .nil) (.node (o100v101 P) .nil .nil)) (.node (o52v6 P) (.node (o84v6 P) .nil .nil) (.node (o116v104 P) .nil .nil))) (.node (o28v6 P) (.node (o44v6 P) (.node (o76v6 P) .nil .nil) (.node (o108v102 P) .nil .nil)) (.node (o60v6 P) (.node (o92v8 P) .nil .nil) (.node (o124v204 P) .nil .nil))))) (.node (boot_o_6 P) (.node (boot_o_10 P) (.node (o18v6 P) (.node (o34v6 P) (.node (o66v6 P) (.node (rit (.ofNat 8988) (.ofNat 0)) .nil .nil) .nil) (.node (o98v101 P) .nil .nil)) (.node (o50v6 P) (.node (o82v6 P) .nil .nil) (.node (o114v103 P) .nil .nil))) (.node (o26v6 P) (.node (o42v6 P) (.node (o74v6 P) .nil .nil) (.node (o106v102 P) .nil .nil)) (.node (o58v6 P) (.node (o90v7 P) .nil .nil) (.node (o122v104 P) .nil .nil)))) (.node (o14v1 P) (.node (o22v6 P) (.node (o38v6 P) (.node (o70v6 P) .nil .nil) (.node (o102v102 P) .nil .nil)) (.node (o54v6 P) (.node (o86v7 P) .nil .nil) (.node (o118v203 P) .nil .nil))) (.node (o30v6 P) (.node (o46v6 P) (.node (o78v6 P) .nil .nil) (.node (o110v202 P) .nil .nil)) (.node (o62v6 P) (.node (o94v8 P) .nil .nil) (.node (o126v105 P) .nil .nil)))))))
noncomputable def SD6 (P : Params) (os : OsState) (cp : Value) (O : Obj) (tk : Nat) : SharedT := ⟨TD6 P cp O, 133, {}, ⟨[.running]⟩, {}, tk, os⟩
noncomputable def o91v106 (P : Params) : Obj := ⟨(.type "tuple_iterator"), none, (.fields ⟨[(.ref 85), (.int (.ofNat 6) 0)]⟩), ⟨[]⟩⟩
noncomputable def o130v106 (P : Params) : Obj := ⟨(.type "range_iterator"), none, (.fields ⟨[(.int (.ofNat 8988) 0), (.int (.ofNat 0) 0), (.int (.ofNat 1) 0)]⟩), ⟨[]⟩⟩
noncomputable def o133v106 (P : Params) : Obj := ⟨(.type "tuple_iterator"), none, (.fields ⟨[.none, (.int (.ofNat 2) 0)]⟩), ⟨[]⟩⟩
noncomputable def o134v106 (P : Params) : Obj := ⟨(.type "tuple"), none, (.seq ⟨[]⟩ 0), ⟨[]⟩⟩
noncomputable def o135v106 (P : Params) : Obj := ⟨(.type "StopIteration"), none, (.fields ⟨[(.ref 134), .none, .none, .none, (.bool false), .none]⟩), ⟨[]⟩⟩
noncomputable def o136v106 (P : Params) : Obj := ⟨(.type "range"), none, (.fields ⟨[(.int (.ofNat 9193) 278), (.int (.ofNat 9204) 456), (.int (.ofNat 1) 457)]⟩), ⟨[]⟩⟩
noncomputable def TA6 (P : Params) (c r : Int) (cp : Value) (O : Obj) : BT := (.node (boot_o_0 P) (.node (boot_o_1 P) (.node (o3v7 P) (.node (boot_o_7 P) (.node (o15v6 P) (.node (o31v6 P) (.node (o63v6 P) (.node (o127v105 P) .nil .nil) .nil) (.node (d95 P (.int (.ofNat 9193) 278) (.int (.ofNat 9203) 279) cp) .nil .nil)) (.node (o47v6 P) (.node (o79v6 P) .nil .nil) (.node (o111v202 P) .nil .nil))) (.node (o23v6 P) (.node (o39v6 P) (.node (o71v6 P) (.node (o135v106 P) .nil .nil) .nil) (.node (o103v201 P) .nil .nil)) (.node (o55v6 P) (.node (o87v7 P) .nil .nil) (.node (o119v104 P) .nil .nil)))) (.node (o11v1 P) (.node (o19v6 P) (.node (o35v6 P) (.node (o67v6 P) (.node (o131v205 P) .nil .nil) .nil) (.node (o99v101 P) .nil .nil)) (.node (o51v6 P) (.node (o83v6 P) .nil .nil) (.node (o115v103 P) .nil .nil))) (.node (o27v6 P) (.node (o43v6 P) (.node (o75v6 P) .nil .nil) (.node (o107v102 P) .nil .nil)) (.node (o59v6 P) (.node (o91v106 P) .nil .nil) (.node (o123v105 P) .nil .nil))))) (.node (boot_o_5 P) (.node (boot_o_9 P) (.node (o17v6 P) (.node (o33v6 P) (.node (o65v6 P) (.node (o129v105 P) .nil .nil) .nil) (.node O .nil .nil)) (.node (o49v6 P) (.node (o81v6 P) .nil .nil) (.node (o113v103 P) .nil .nil))) (.node (o25v6 P) (.node (o41v6 P) (.node (o73v6 P) (.node (rit c r) .nil .nil) .nil) (.node (o105v102 P) .nil .nil)) (.node (o57v6 P) (.node (o89v7 P) .nil .nil) (.node (o121v104 P) .nil .nil)))) (.node (o13v1 P) (.node (o21v6 P) (.node (o37v6 P) (.node (o69v6 P) (.node (o133v106 P) .nil .nil) .nil) (.node (o101v101 P) .nil .nil)) (.node (o53v6 P) (.node (o85v6 P) .nil .nil) (.node (o117v203 P) .nil .nil))) (.node (o29v6 P) (.node (o45v6 P) (.node (o77v6 P) .nil .nil) (.node (o109v103 P) .nil .nil)) (.node (o61v6 P) (.node (o93v8 P) .nil .nil) (.node (o125v204 P) .nil .nil)))))) (.node (boot_o_2 P) (.node (boot_o_4 P) (.node (boot_o_8 P) (.node (o16v6 P) (.node (o32v6 P) (.node (o64v6 P) (.node (o128v105 P) .nil .nil) .nil) (.node (o96v8 P) .nil .nil)) (.node (o48v6 P) (.node (o80v6 P) .nil .nil) (.node (o112v103 P) .nil .nil))) (.node (o24v6 P) (.node (o40v6 P) (.node (o72v6 P) (.node (o136v106 P) .nil .nil) .nil) (.node (o104v201 P) .nil .nil)) (.node (o56v6 P) (.node (o88v7 P) .nil .nil) (.node (o120v104 P) .nil .nil)))) (.node (o12v8 P) (.node (o20v6 P) (.node (o36v6 P) (.node (o68v6 P) (.node (o132v205 P) .nil .nil) .nil) (.node (o100v101 P) .nil .nil)) (.node (o52v6 P) (.node (o84v6 P) .nil .nil) (.node (o116v104 P) .nil .nil))) (.node (o28v6 P) (.node (o44v6 P) (.node (o76v6 P) .nil .nil) (.node (o108v102 P) .nil .nil)) (.node (o60v6 P) (.node (o92v8 P) .nil .nil) (.node (o124v204 P) .nil .nil))))) (.node (boot_o_6 P) (.node (boot_o_10 P) (.node (o18v6 P) (.node (o34v6 P) (.node (o66v6 P) (.node (o130v106 P) .nil .nil) .nil) (.node (o98v101 P) .nil .nil)) (.node (o50v6 P) (.node (o82v6 P) .nil .nil) (.node (o114v103 P) .nil .nil))) (.node (o26v6 P) (.node (o42v6 P) (.node (o74v6 P) .nil .nil) (.node (o106v102 P) .nil .nil)) (.node (o58v6 P) (.node (o90v7 P) .nil .nil) (.node (o122v104 P) .nil .nil)))) (.node (o14v1 P) (.node (o22v6 P) (.node (o38v6 P) (.node (o70v6 P) (.node (o134v106 P) .nil .nil) .nil) (.node (o102v102 P) .nil .nil)) (.node (o54v6 P) (.node (o86v7 P) .nil .nil) (.node (o118v203 P) .nil .nil))) (.node (o30v6 P) (.node (o46v6 P) (.node (o78v6 P) .nil .nil) (.node (o110v202 P) .nil .nil)) (.node (o62v6 P) (.node (o94v8 P) .nil .nil) (.node (o126v105 P) .nil .nil)))))))
noncomputable def SA6 (P : Params) (os : OsState) (c r : Int) (cp : Value) (O : Obj) (tk : Nat) : SharedT := ⟨TA6 P c r cp O, 138, {}, ⟨[.running]⟩, {}, tk, os⟩
noncomputable def o138v206 (P : Params) : Obj := ⟨(.type "tuple"), none, (.seq ⟨[]⟩ 0), ⟨[]⟩⟩
noncomputable def o139v206 (P : Params) : Obj := ⟨(.type "StopIteration"), none, (.fields ⟨[(.ref 138), .none, .none, .none, (.bool false), .none]⟩), ⟨[]⟩⟩
noncomputable def TD7 (P : Params) (cp : Value) (O : Obj) : BT := (.node (boot_o_0 P) (.node (boot_o_1 P) (.node (o3v7 P) (.node (boot_o_7 P) (.node (o15v6 P) (.node (o31v6 P) (.node (o63v6 P) (.node (o127v105 P) .nil .nil) .nil) (.node (d95 P (.int (.ofNat 9193) 278) (.int (.ofNat 9203) 279) cp) .nil .nil)) (.node (o47v6 P) (.node (o79v6 P) .nil .nil) (.node (o111v202 P) .nil .nil))) (.node (o23v6 P) (.node (o39v6 P) (.node (o71v6 P) (.node (o135v106 P) .nil .nil) .nil) (.node (o103v201 P) .nil .nil)) (.node (o55v6 P) (.node (o87v7 P) .nil .nil) (.node (o119v104 P) .nil .nil)))) (.node (o11v1 P) (.node (o19v6 P) (.node (o35v6 P) (.node (o67v6 P) (.node (o131v205 P) .nil .nil) .nil) (.node (o99v101 P) .nil .nil)) (.node (o51v6 P) (.node (o83v6 P) .nil .nil) (.node (o115v103 P) .nil .nil))) (.node (o27v6 P) (.node (o43v6 P) (.node (o75v6 P) (.node (o139v206 P) .nil .nil) .nil) (.node (o107v102 P) .nil .nil)) (.node (o59v6 P) (.node (o91v106 P) .nil .nil) (.node (o123v105 P) .nil .nil))))) (.node (boot_o_5 P) (.node (boot_o_9 P) (.node (o17v6 P) (.node (o33v6 P) (.node (o65v6 P) (.node (o129v105 P) .nil .nil) .nil) (.node O .nil .nil)) (.node (o49v6 P) (.node (o81v6 P) .nil .nil) (.node (o113v103 P) .nil .nil))) (.node (o25v6 P) (.node (o41v6 P) (.node (o73v6 P) (.node (rit (.ofNat 9204) (.ofNat 0)) .nil .nil) .nil) (.node (o105v102 P) .nil .nil)) (.node (o57v6 P) (.node (o89v7 P) .nil .nil) (.node (o121v104 P) .nil .nil)))) (.node (o13v1 P) (.node (o21v6 P) (.node (o37v6 P) (.node (o69v6 P) (.node (o133v106 P) .nil .nil) .nil) (.node (o101v101 P) .nil .nil)) (.node (o53v6 P) (.node (o85v6 P) .nil .nil) (.node (o117v203 P) .nil .nil))) (.node (o29v6 P) (.node (o45v6 P) (.node (o77v6 P) .nil .nil) (.node (o109v103 P) .nil .nil)) (.node (o61v6 P) (.node (o93v8 P) .nil .nil) (.node (o125v204 P) .nil .nil)))))) (.node (boot_o_2 P) (.node (boot_o_4 P) (.node (boot_o_8 P) (.node (o16v6 P) (.node (o32v6 P) (.node (o64v6 P) (.node (o128v105 P) .nil .nil) .nil) (.node (o96v8 P) .nil .nil)) (.node (o48v6 P) (.node (o80v6 P) .nil .nil) (.node (o112v103 P) .nil .nil))) (.node (o24v6 P) (.node (o40v6 P) (.node (o72v6 P) (.node (o136v106 P) .nil .nil) .nil) (.node (o104v201 P) .nil .nil)) (.node (o56v6 P) (.node (o88v7 P) .nil .nil) (.node (o120v104 P) .nil .nil)))) (.node (o12v8 P) (.node (o20v6 P) (.node (o36v6 P) (.node (o68v6 P) (.node (o132v205 P) .nil .nil) .nil) (.node (o100v101 P) .nil .nil)) (.node (o52v6 P) (.node (o84v6 P) .nil .nil) (.node (o116v104 P) .nil .nil))) (.node (o28v6 P) (.node (o44v6 P) (.node (o76v6 P) .nil .nil) (.node (o108v102 P) .nil .nil)) (.node (o60v6 P) (.node (o92v8 P) .nil .nil) (.node (o124v204 P) .nil .nil))))) (.node (boot_o_6 P) (.node (boot_o_10 P) (.node (o18v6 P) (.node (o34v6 P) (.node (o66v6 P) (.node (o130v106 P) .nil .nil) .nil) (.node (o98v101 P) .nil .nil)) (.node (o50v6 P) (.node (o82v6 P) .nil .nil) (.node (o114v103 P) .nil .nil))) (.node (o26v6 P) (.node (o42v6 P) (.node (o74v6 P) (.node (o138v206 P) .nil .nil) .nil) (.node (o106v102 P) .nil .nil)) (.node (o58v6 P) (.node (o90v7 P) .nil .nil) (.node (o122v104 P) .nil .nil)))) (.node (o14v1 P) (.node (o22v6 P) (.node (o38v6 P) (.node (o70v6 P) (.node (o134v106 P) .nil .nil) .nil) (.node (o102v102 P) .nil .nil)) (.node (o54v6 P) (.node (o86v7 P) .nil .nil) (.node (o118v203 P) .nil .nil))) (.node (o30v6 P) (.node (o46v6 P) (.node (o78v6 P) .nil .nil) (.node (o110v202 P) .nil .nil)) (.node (o62v6 P) (.node (o94v8 P) .nil .nil) (.node (o126v105 P) .nil .nil)))))))
noncomputable def SD7 (P : Params) (os : OsState) (cp : Value) (O : Obj) (tk : Nat) : SharedT := ⟨TD7 P cp O, 140, {}, ⟨[.running]⟩, {}, tk, os⟩
noncomputable def o91v107 (P : Params) : Obj := ⟨(.type "tuple_iterator"), none, (.fields ⟨[(.ref 85), (.int (.ofNat 7) 0)]⟩), ⟨[]⟩⟩
noncomputable def o137v107 (P : Params) : Obj := ⟨(.type "range_iterator"), none, (.fields ⟨[(.int (.ofNat 9204) 0), (.int (.ofNat 0) 0), (.int (.ofNat 1) 0)]⟩), ⟨[]⟩⟩
noncomputable def o140v107 (P : Params) : Obj := ⟨(.type "tuple_iterator"), none, (.fields ⟨[.none, (.int (.ofNat 2) 0)]⟩), ⟨[]⟩⟩
noncomputable def o141v107 (P : Params) : Obj := ⟨(.type "tuple"), none, (.seq ⟨[]⟩ 0), ⟨[]⟩⟩
noncomputable def o142v107 (P : Params) : Obj := ⟨(.type "StopIteration"), none, (.fields ⟨[(.ref 141), .none, .none, .none, (.bool false), .none]⟩), ⟨[]⟩⟩
noncomputable def o143v107 (P : Params) : Obj := ⟨(.type "range"), none, (.fields ⟨[(.int (.ofNat 9728) 280), (.int (.ofNat 9733) 494), (.int (.ofNat 1) 495)]⟩), ⟨[]⟩⟩
noncomputable def TA7 (P : Params) (c r : Int) (cp : Value) (O : Obj) : BT := (.node (boot_o_0 P) (.node (boot_o_1 P) (.node (o3v7 P) (.node (boot_o_7 P) (.node (o15v6 P) (.node (o31v6 P) (.node (o63v6 P) (.node (o127v105 P) .nil .nil) .nil) (.node (d95 P (.int (.ofNat 9728) 280) (.int (.ofNat 9732) 281) cp) .nil .nil)) (.node (o47v6 P) (.node (o79v6 P) (.node (o143v107 P) .nil .nil) .nil) (.node (o111v202 P) .nil .nil))) (.node (o23v6 P) (.node (o39v6 P) (.node (o71v6 P) (.node (o135v106 P) .nil .nil) .nil) (.node (o103v201 P) .nil .nil)) (.node (o55v6 P) (.node (o87v7 P) .nil .nil) (.node (o119v104 P) .nil .nil)))) (.node (o11v1 P) (.node (o19v6 P) (.node (o35v6 P) (.node (o67v6 P) (.node (o131v205 P) .nil .nil) .nil) (.node (o99v101 P) .nil .nil)) (.node (o51v6 P) (.node (o83v6 P) .nil .nil) (.node (o115v103 P) .nil .nil))) (.node (o27v6 P) (.node (o43v6 P) (.node (o75v6 P) (.node (o139v206 P) .nil .nil) .nil) (.node (o107v102 P) .nil .nil)) (.node (o59v6 P) (.node (o91v107 P) .nil .nil) (.node (o123v105 P) .nil .nil))))) (.node (boot_o_5 P) (.node (boot_o_9 P) (.node (o17v6 P) (.node (o33v6 P) (.node (o65v6 P) (.node (o129v105 P) .nil .nil) .nil) (.node O .nil .nil)) (.node (o49v6 P) (.node (o81v6 P) .nil .nil) (.node (o113v103 P) .nil .nil))) (.node (o25v6 P) (.node (o41v6 P) (.node (o73v6 P) (.node (o137v107 P) .nil .nil) .nil) (.node (o105v102 P) .nil .nil)) (.node (o57v6 P) (.node (o89v7 P) .nil .nil) (.node (o121v104 P) .nil .nil)))) (.node (o13v1 P) (.node (o21v6 P) (.node (o37v6 P) (.node (o69v6 P) (.node (o133v106 P) .nil .nil) .nil) (.node (o101v101 P) .nil .nil)) (.node (o53v6 P) (.node (o85v6 P) .nil .nil) (.node (o117v203 P) .nil .nil))) (.node (o29v6 P) (.node (o45v6 P) (.node (o77v6 P) (.node (o141v107 P) .nil .nil) .nil) (.node (o109v103 P) .nil .nil)) (.node (o61v6 P) (.node (o93v8 P) .nil .nil) (.node (o125v204 P) .nil .nil)))))) (.node (boot_o_2 P) (.node (boot_o_4 P) (.node (boot_o_8 P) (.node (o16v6 P) (.node (o32v6 P) (.node (o64v6 P) (.node (o128v105 P) .nil .nil) .nil) (.node (o96v8 P) .nil .nil)) (.node (o48v6 P) (.node (o80v6 P) (.node (rit c r) .nil .nil) .nil) (.node (o112v103 P) .nil .nil))) (.node (o24v6 P) (.node (o40v6 P) (.node (o72v6 P) (.node (o136v106 P) .nil .nil) .nil) (.node (o104v201 P) .nil .nil)) (.node (o56v6 P) (.node (o88v7 P) .nil .nil) (.node (o120v104 P) .nil .nil)))) (.node (o12v8 P) (.node (o20v6 P) (.node (o36v6 P) (.node (o68v6 P) (.node (o132v205 P) .nil .nil) .nil) (.node (o100v101 P) .nil .nil)) (.node (o52v6 P) (.node (o84v6 P) .nil .nil) (.node (o116v104 P) .nil .nil))) (.node (o28v6 P) (.node (o44v6 P) (.node (o76v6 P) (.node (o140v107 P) .nil .nil) .nil) (.node (o108v102 P) .nil .nil)) (.node (o60v6 P) (.node (o92v8 P) .nil .nil) (.node (o124v204 P) .nil .nil))))) (.node (boot_o_6 P) (.node (boot_o_10 P) (.node (o18v6 P) (.node (o34v6 P) (.node (o66v6 P) (.node (o130v106 P) .nil .nil) .nil) (.node (o98v101 P) .nil .nil)) (.node (o50v6 P) (.node (o82v6 P) .nil .nil) (.node (o114v103 P) .nil .nil))) (.node (o26v6 P) (.node (o42v6 P) (.node (o74v6 P) (.node (o138v206 P) .nil .nil) .nil) (.node (o106v102 P) .nil .nil)) (.node (o58v6 P) (.node (o90v7 P) .nil .nil) (.node (o122v104 P) .nil .nil)))) (.node (o14v1 P) (.node (o22v6 P) (.node (o38v6 P) (.node (o70v6 P) (.node (o134v106 P) .nil .nil) .nil) (.node (o102v102 P) .nil .nil)) (.node (o54v6 P) (.node (o86v7 P) .nil .nil) (.node (o118v203 P) .nil .nil))) (.node (o30v6 P) (.node (o46v6 P) (.node (o78v6 P) (.node (o142v107 P) .nil .nil) .nil) (.node (o110v202 P) .nil .nil)) (.node (o62v6 P) (.node (o94v8 P) .nil .nil) (.node (o126v105 P) .nil .nil)))))))
noncomputable def SA7 (P : Params) (os : OsState) (c r : Int) (cp : Value) (O : Obj) (tk : Nat) : SharedT := ⟨TA7 P c r cp O, 145, {}, ⟨[.running]⟩, {}, tk, os⟩
noncomputable def o145v207 (P : Params) : Obj := ⟨(.type "tuple"), none, (.seq ⟨[]⟩ 0), ⟨[]⟩⟩
noncomputable def o146v207 (P : Params) : Obj := ⟨(.type "StopIteration"), none, (.fields ⟨[(.ref 145), .none, .none, .none, (.bool false), .none]⟩), ⟨[]⟩⟩
noncomputable def TD8 (P : Params) (cp : Value) (O : Obj) : BT := (.node (boot_o_0 P) (.node (boot_o_1 P) (.node (o3v7 P) (.node (boot_o_7 P) (.node (o15v6 P) (.node (o31v6 P) (.node (o63v6 P) (.node (o127v105 P) .nil .nil) .nil) (.node (d95 P (.int (.ofNat 9728) 280) (.int (.ofNat 9732) 281) cp) .nil .nil)) (.node (o47v6 P) (.node (o79v6 P) (.node (o143v107 P) .nil .nil) .nil) (.node (o111v202 P) .nil .nil))) (.node (o23v6 P) (.node (o39v6 P) (.node (o71v6 P) (.node (o135v106 P) .nil .nil) .nil) (.node (o103v201 P) .nil .nil)) (.node (o55v6 P) (.node (o87v7 P) .nil .nil) (.node (o119v104 P) .nil .nil)))) (.node (o11v1 P) (.node (o19v6 P) (.node (o35v6 P) (.node (o67v6 P) (.node (o131v205 P) .nil .nil) .nil) (.node (o99v101 P) .nil .nil)) (.node (o51v6 P) (.node (o83v6 P) .nil .nil) (.node (o115v103 P) .nil .nil))) (.node (o27v6 P) (.node (o43v6 P) (.node (o75v6 P) (.node (o139v206 P) .nil .nil) .nil) (.node (o107v102 P) .nil .nil)) (.node (o59v6 P) (.node (o91v107 P) .nil .nil) (.node (o123v105 P) .nil .nil))))) (.node (boot_o_5 P) (.node (boot_o_9 P) (.node (o17v6 P) (.node (o33v6 P) (.node (o65v6 P) (.node (o129v105 P) .nil .nil) .nil) (.node O .nil .nil)) (.node (o49v6 P) (.node (o81v6 P) (.node (o145v207 P) .nil .nil) .nil) (.node (o113v103 P) .nil .nil))) (.node (o25v6 P) (.node (o41v6 P) (.node (o73v6 P) (.node (o137v107 P) .nil .nil) .nil) (.node (o105v102 P) .nil .nil)) (.node (o57v6 P) (.node (o89v7 P) .nil .nil) (.node (o121v104 P) .nil .nil)))) (.node (o13v1 P) (.node (o21v6 P) (.node (o37v6 P) (.node (o69v6 P) (.node (o133v106 P) .nil .nil) .nil) (.node (o101v101 P) .nil .nil)) (.node (o53v6 P) (.node (o85v6 P) .nil .nil) (.node (o117v203 P) .nil .nil))) (.node (o29v6 P) (.node (o45v6 P) (.node (o77v6 P) (.node (o141v107 P) .nil .nil) .nil) (.node (o109v103 P) .nil .nil)) (.node (o61v6 P) (.node (o93v8 P) .nil .nil) (.node (o125v204 P) .nil .nil)))))) (.node (boot_o_2 P) (.node (boot_o_4 P) (.node (boot_o_8 P) (.node (o16v6 P) (.node (o32v6 P) (.node (o64v6 P) (.node (o128v105 P) .nil .nil) .nil) (.node (o96v8 P) .nil .nil)) (.node (o48v6 P) (.node (o80v6 P) (.node (rit (.ofNat 9733) (.ofNat 0)) .nil .nil) .nil) (.node (o112v103 P) .nil .nil))) (.node (o24v6 P) (.node (o40v6 P) (.node (o72v6 P) (.node (o136v106 P) .nil .nil) .nil) (.node (o104v201 P) .nil .nil)) (.node (o56v6 P) (.node (o88v7 P) .nil .nil) (.node (o120v104 P) .nil .nil)))) (.node (o12v8 P) (.node (o20v6 P) (.node (o36v6 P) (.node (o68v6 P) (.node (o132v205 P) .nil .nil) .nil) (.node (o100v101 P) .nil .nil)) (.node (o52v6 P) (.node (o84v6 P) .nil .nil) (.node (o116v104 P) .nil .nil))) (.node (o28v6 P) (.node (o44v6 P) (.node (o76v6 P) (.node (o140v107 P) .nil .nil) .nil) (.node (o108v102 P) .nil .nil)) (.node (o60v6 P) (.node (o92v8 P) .nil .nil) (.node (o124v204 P) .nil .nil))))) (.node (boot_o_6 P) (.node (boot_o_10 P) (.node (o18v6 P) (.node (o34v6 P) (.node (o66v6 P) (.node (o130v106 P) .nil .nil) .nil) (.node (o98v101 P) .nil .nil)) (.node (o50v6 P) (.node (o82v6 P) (.node (o146v207 P) .nil .nil) .nil) (.node (o114v103 P) .nil .nil))) (.node (o26v6 P) (.node (o42v6 P) (.node (o74v6 P) (.node (o138v206 P) .nil .nil) .nil) (.node (o106v102 P) .nil .nil)) (.node (o58v6 P) (.node (o90v7 P) .nil .nil) (.node (o122v104 P) .nil .nil)))) (.node (o14v1 P) (.node (o22v6 P) (.node (o38v6 P) (.node (o70v6 P) (.node (o134v106 P) .nil .nil) .nil) (.node (o102v102 P) .nil .nil)) (.node (o54v6 P) (.node (o86v7 P) .nil .nil) (.node (o118v203 P) .nil .nil))) (.node (o30v6 P) (.node (o46v6 P) (.node (o78v6 P) (.node (o142v107 P) .nil .nil) .nil) (.node (o110v202 P) .nil .nil)) (.node (o62v6 P) (.node (o94v8 P) .nil .nil) (.node (o126v105 P) .nil .nil)))))))
noncomputable def SD8 (P : Params) (os : OsState) (cp : Value) (O : Obj) (tk : Nat) : SharedT := ⟨TD8 P cp O, 147, {}, ⟨[.running]⟩, {}, tk, os⟩
noncomputable def o91v108 (P : Params) : Obj := ⟨(.type "tuple_iterator"), none, (.fields ⟨[(.ref 85), (.int (.ofNat 8) 0)]⟩), ⟨[]⟩⟩
noncomputable def o144v108 (P : Params) : Obj := ⟨(.type "range_iterator"), none, (.fields ⟨[(.int (.ofNat 9733) 0), (.int (.ofNat 0) 0), (.int (.ofNat 1) 0)]⟩), ⟨[]⟩⟩
noncomputable def o147v108 (P : Params) : Obj := ⟨(.type "tuple_iterator"), none, (.fields ⟨[.none, (.int (.ofNat 2) 0)]⟩), ⟨[]⟩⟩
noncomputable def o148v108 (P : Params) : Obj := ⟨(.type "tuple"), none, (.seq ⟨[]⟩ 0), ⟨[]⟩⟩
noncomputable def o149v108 (P : Params) : Obj := ⟨(.type "StopIteration"), none, (.fields ⟨[(.ref 148), .none, .none, .none, (.bool false), .none]⟩), ⟨[]⟩⟩
noncomputable def o150v108 (P : Params) : Obj := ⟨(.type "range"), none, (.fields ⟨[(.int (.ofNat 9748) 282), (.int (.ofNat 9750) 514), (.int (.ofNat 1) 515)]⟩), ⟨[]⟩⟩
noncomputable def TA8 (P : Params) (c r : Int) (cp : Value) (O : Obj) : BT := (.node (boot_o_0 P) (.node (boot_o_1 P) (.node (o3v7 P) (.node (boot_o_7 P) (.node (o15v6 P) (.node (o31v6 P) (.node (o63v6 P) (.node (o127v105 P) .nil .nil) .nil) (.node (d95 P (.int (.ofNat 9748) 282) (.int (.ofNat 9749) 283) cp) .nil .nil)) (.node (o47v6 P) (.node (o79v6 P) (.node (o143v107 P) .nil .nil) .nil) (.node (o111v202 P) .nil .nil))) (.node (o23v6 P) (.node (o39v6 P) (.node (o71v6 P) (.node (o135v106 P) .nil .nil) .nil) (.node (o103v201 P) .nil .nil)) (.node (o55v6 P) (.node (o87v7 P) (.node (rit c r) .nil .nil) .nil) (.node (o119v104 P) .nil .nil)))) (.node (o11v1 P) (.node (o19v6 P) (.node (o35v6 P) (.node (o67v6 P) (.node (o131v205 P) .nil .nil) .nil) (.node (o99v101 P) .nil .nil)) (.node (o51v6 P) (.node (o83v6 P) (.node (o147v108 P) .nil .nil) .nil) (.node (o115v103 P) .nil .nil))) (.node (o27v6 P) (.node (o43v6 P) (.node (o75v6 P) (.node (o139v206 P) .nil .nil) .nil) (.node (o107v102 P) .nil .nil)) (.node (o59v6 P) (.node (o91v108 P) .nil .nil) (.node (o123v105 P) .nil .nil))))) (.node (boot_o_5 P) (.node (boot_o_9 P) (.node (o17v6 P) (.node (o33v6 P) (.node (o65v6 P) (.node (o129v105 P) .nil .nil) .nil) (.node O .nil .nil)) (.node (o49v6 P) (.node (o81v6 P) (.node (o145v207 P) .nil .nil) .nil) (.node (o113v103 P) .nil .nil))) (.node (o25v6 P) (.node (o41v6 P) (.node (o73v6 P) (.node (o137v107 P) .nil .nil) .nil) (.node (o105v102 P) .nil .nil)) (.node (o57v6 P) (.node (o89v7 P) .nil .nil) (.node (o121v104 P) .nil .nil)))) (.node (o13v1 P) (.node (o21v6 P) (.node (o37v6 P) (.node (o69v6 P) (.node (o133v106 P) .nil .nil) .nil) (.node (o101v101 P) .nil .nil)) (.node (o53v6 P) (.node (o85v6 P) (.node (o149v108 P) .nil .nil) .nil) (.node (o117v203 P) .nil .nil))) (.node (o29v6 P) (.node (o45v6 P) (.node (o77v6 P) (.node (o141v107 P) .nil .nil) .nil) (.node (o109v103 P) .nil .nil)) (.node (o61v6 P) (.node (o93v8 P) .nil .nil) (.node (o125v204 P) .nil .nil)))))) (.node (boot_o_2 P) (.node (boot_o_4 P) (.node (boot_o_8 P) (.node (o16v6 P) (.node (o32v6 P) (.node (o64v6 P) (.node (o128v105 P) .nil .nil) .nil) (.node (o96v8 P) .nil .nil)) (.node (o48v6 P) (.node (o80v6 P) (.node (o144v108 P) .nil .nil) .nil) (.node (o112v103 P) .nil .nil))) (.node (o24v6 P) (.node (o40v6 P) (.node (o72v6 P) (.node (o136v106 P) .nil .nil) .nil) (.node (o104v201 P) .nil .nil)) (.node (o56v6 P) (.node (o88v7 P) .nil .nil) (.node (o120v104 P) .nil .nil)))) (.node (o12v8 P) (.node (o20v6 P) (.node (o36v6 P) (.node (o68v6 P) (.node (o132v205 P) .nil .nil) .nil) (.node (o100v101 P) .nil .nil)) (.node (o52v6 P) (.node (o84v6 P) (.node (o148v108 P) .nil .nil) .nil) (.node (o116v104 P) .nil .nil))) (.node (o28v6 P) (.node (o44v6 P) (.node (o76v6 P) (.node (o140v107 P) .nil .nil) .nil) (.node (o108v102 P) .nil .nil)) (.node (o60v6 P) (.node (o92v8 P) .nil .nil) (.node (o124v204 P) .nil .nil))))) (.node (boot_o_6 P) (.node (boot_o_10 P) (.node (o18v6 P) (.node (o34v6 P) (.node (o66v6 P) (.node (o130v106 P) .nil .nil) .nil) (.node (o98v101 P) .nil .nil)) (.node (o50v6 P) (.node (o82v6 P) (.node (o146v207 P) .nil .nil) .nil) (.node (o114v103 P) .nil .nil))) (.node (o26v6 P) (.node (o42v6 P) (.node (o74v6 P) (.node (o138v206 P) .nil .nil) .nil) (.node (o106v102 P) .nil .nil)) (.node (o58v6 P) (.node (o90v7 P) .nil .nil) (.node (o122v104 P) .nil .nil)))) (.node (o14v1 P) (.node (o22v6 P) (.node (o38v6 P) (.node (o70v6 P) (.node (o134v106 P) .nil .nil) .nil) (.node (o102v102 P) .nil .nil)) (.node (o54v6 P) (.node (o86v7 P) (.node (o150v108 P) .nil .nil) .nil) (.node (o118v203 P) .nil .nil))) (.node (o30v6 P) (.node (o46v6 P) (.node (o78v6 P) (.node (o142v107 P) .nil .nil) .nil) (.node (o110v202 P) .nil .nil)) (.node (o62v6 P) (.node (o94v8 P) .nil .nil) (.node (o126v105 P) .nil .nil)))))))
noncomputable def SA8 (P : Params) (os : OsState) (c r : Int) (cp : Value) (O : Obj) (tk : Nat) : SharedT := ⟨TA8 P c r cp O, 152, {}, ⟨[.running]⟩, {}, tk, os⟩
noncomputable def o152v208 (P : Params) : Obj := ⟨(.type "tuple"), none, (.seq ⟨[]⟩ 0), ⟨[]⟩⟩
noncomputable def o153v208 (P : Params) : Obj := ⟨(.type "StopIteration"), none, (.fields ⟨[(.ref 152), .none, .none, .none, (.bool false), .none]⟩), ⟨[]⟩⟩
noncomputable def TD9 (P : Params) (cp : Value) (O : Obj) : BT := (.node (boot_o_0 P) (.node (boot_o_1 P) (.node (o3v7 P) (.node (boot_o_7 P) (.node (o15v6 P) (.node (o31v6 P) (.node (o63v6 P) (.node (o127v105 P) .nil .nil) .nil) (.node (d95 P (.int (.ofNat 9748) 282) (.int (.ofNat 9749) 283) cp) .nil .nil)) (.node (o47v6 P) (.node (o79v6 P) (.node (o143v107 P) .nil .nil) .nil) (.node (o111v202 P) .nil .nil))) (.node (o23v6 P) (.node (o39v6 P) (.node (o71v6 P) (.node (o135v106 P) .nil .nil) .nil) (.node (o103v201 P) .nil .nil)) (.node (o55v6 P) (.node (o87v7 P) (.node (rit (.ofNat 9750) (.ofNat 0)) .nil .nil) .nil) (.node (o119v104 P) .nil .nil)))) (.node (o11v1 P) (.node (o19v6 P) (.node (o35v6 P) (.node (o67v6 P) (.node (o131v205 P) .nil .nil) .nil) (.node (o99v101 P) .nil .nil)) (.node (o51v6 P) (.node (o83v6 P) (.node (o147v108 P) .nil .nil) .nil) (.node (o115v103 P) .nil .nil))) (.node (o27v6 P) (.node (o43v6 P) (.node (o75v6 P) (.node (o139v206 P) .nil .nil) .nil) (.node (o107v102 P) .nil .nil)) (.node (o59v6 P) (.node (o91v108 P) .nil .nil) (.node (o123v105 P) .nil .nil))))) (.node (boot_o_5 P) (.node (boot_o_9 P) (.node (o17v6 P) (.node (o33v6 P) (.node (o65v6 P) (.node (o129v105 P) .nil .nil) .nil) (.node O .nil .nil)) (.node (o49v6 P) (.node (o81v6 P) (.node (o145v207 P) .nil .nil) .nil) (.node (o113v103 P) .nil .nil))) (.node (o25v6 P) (.node (o41v6 P) (.node (o73v6 P) (.node (o137v107 P) .nil .nil) .nil) (.node (o105v102 P) .nil .nil)) (.node (o57v6 P) (.node (o89v7 P) (.node (o153v208 P) .nil .nil) .nil) (.node (o121v104 P) .nil .nil)))) (.node (o13v1 P) (.node (o21v6 P) (.node (o37v6 P) (.node (o69v6 P) (.node (o133v106 P) .nil .nil) .nil) (.node (o101v101 P) .nil .nil)) (.node (o53v6 P) (.node (o85v6 P) (.node (o149v108 P) .nil .nil) .nil) (.node (o117v203 P) .nil .nil))) (.node (o29v6 P) (.node (o45v6 P) (.node (o77v6 P) (.node (o141v107 P) .nil .nil) .nil) (.node (o109v103 P) .nil .nil)) (.node (o61v6 P) (.node (o93v8 P) .nil .nil) (.node (o125v204 P) .nil .nil)))))) (.node (boot_o_2 P) (.node (boot_o_4 P) (.node (boot_o_8 P) (.node (o16v6 P) (.node (o32v6 P) (.node (o64v6 P) (.node (o128v105 P) .nil .nil) .nil) (.node (o96v8 P) .nil .nil)) (.node (o48v6 P) (.node (o80v6 P) (.node (o144v108 P) .nil .nil) .nil) (.node (o112v103 P) .nil .nil))) (.node (o24v6 P) (.node (o40v6 P) (.node (o72v6 P) (.node (o136v106 P) .nil .nil) .nil) (.node (o104v201 P) .nil .nil)) (.node (o56v6 P) (.node (o88v7 P) (.node (o152v208 P) .nil .nil) .nil) (.node (o120v104 P) .nil .nil)))) (.node (o12v8 P) (.node (o20v6 P) (.node (o36v6 P) (.node (o68v6 P) (.node (o132v205 P) .nil .nil) .nil) (.node (o100v101 P) .nil .nil)) (.node (o52v6 P) (.node (o84v6 P) (.node (o148v108 P) .nil .nil) .nil) (.node (o116v104 P) .nil .nil))) (.node (o28v6 P) (.node (o44v6 P) (.node (o76v6 P) (.node (o140v107 P) .nil .nil) .nil) (.node (o108v102 P) .nil .nil)) (.node (o60v6 P) (.node (o92v8 P) .nil .nil) (.node (o124v204 P) .nil .nil))))) (.node (boot_o_6 P) (.node (boot_o_10 P) (.node (o18v6 P) (.node (o34v6 P) (.node (o66v6 P) (.node (o130v106 P) .nil .nil) .nil) (.node (o98v101 P) .nil .nil)) (.node (o50v6 P) (.node (o82v6 P) (.node (o146v207 P) .nil .nil) .nil) (.node (o114v103 P) .nil .nil))) (.node (o26v6 P) (.node (o42v6 P) (.node (o74v6 P) (.node (o138v206 P) .nil .nil) .nil) (.node (o106v102 P) .nil .nil)) (.node (o58v6 P) (.node (o90v7 P) .nil .nil) (.node (o122v104 P) .nil .nil)))) (.node (o14v1 P) (.node (o22v6 P) (.node (o38v6 P) (.node (o70v6 P) (.node (o134v106 P) .nil .nil) .nil) (.node (o102v102 P) .nil .nil)) (.node (o54v6 P) (.node (o86v7 P) (.node (o150v108 P) .nil .nil) .nil) (.node (o118v203 P) .nil .nil))) (.node (o30v6 P) (.node (o46v6 P) (.node (o78v6 P) (.node (o142v107 P) .nil .nil) .nil) (.node (o110v202 P) .nil .nil)) (.node (o62v6 P) (.node (o94v8 P) .nil .nil) (.node (o126v105 P) .nil .nil)))))))
noncomputable def SD9 (P : Params) (os : OsState) (cp : Value) (O : Obj) (tk : Nat) : SharedT := ⟨TD9 P cp O, 154, {}, ⟨[.running]⟩, {}, tk, os⟩
noncomputable def o91v109 (P : Params) : Obj := ⟨(.type "tuple_iterator"), none, (.fields ⟨[(.ref 85), (.int (.ofNat 9) 0)]⟩), ⟨[]⟩⟩
noncomputable def o151v109 (P : Params) : Obj := ⟨(.type "range_iterator"), none, (.fields ⟨[(.int (.ofNat 9750) 0), (.int (.ofNat 0) 0), (.int (.ofNat 1) 0)]⟩), ⟨[]⟩⟩
noncomputable def o154v109 (P : Params) : Obj := ⟨(.type "tuple_iterator"), none, (.fields ⟨[.none, (.int (.ofNat 2) 0)]⟩), ⟨[]⟩⟩
noncomputable def o155v109 (P : Params) : Obj := ⟨(.type "tuple"), none, (.seq ⟨[]⟩ 0), ⟨[]⟩⟩
noncomputable def o156v109 (P : Params) : Obj := ⟨(.type "StopIteration"), none, (.fields ⟨[(.ref 155), .none, .none, .none, (.bool false), .none]⟩), ⟨[]⟩⟩
noncomputable def o157v109 (P : Params) : Obj := ⟨(.type "range"), none, (.fields ⟨[(.int (.ofNat 9757) 284), (.int (.ofNat 9758) 525), (.int (.ofNat 1) 526)]⟩), ⟨[]⟩⟩
noncomputable def TA9 (P : Params) (c r : Int) (cp : Value) (O : Obj) : BT := (.node (boot_o_0 P) (.node (boot_o_1 P) (.node (o3v7 P) (.node (boot_o_7 P) (.node (o15v6 P) (.node (o31v6 P) (.node (o63v6 P) (.node (o127v105 P) .nil .nil) .nil) (.node (d95 P (.int (.ofNat 9757) 284) (.int (.ofNat 9757) 285) cp) .nil .nil)) (.node (o47v6 P) (.node (o79v6 P) (.node (o143v107 P) .nil .nil) .nil) (.node (o111v202 P) .nil .nil))) (.node (o23v6 P) (.node (o39v6 P) (.node (o71v6 P) (.node (o135v106 P) .nil .nil) .nil) (.node (o103v201 P) .nil .nil)) (.node (o55v6 P) (.node (o87v7 P) (.node (o151v109 P) .nil .nil) .nil) (.node (o119v104 P) .nil .nil)))) (.node (o11v1 P) (.node (o19v6 P) (.node (o35v6 P) (.node (o67v6 P) (.node (o131v205 P) .nil .nil) .nil) (.node (o99v101 P) .nil .nil)) (.node (o51v6 P) (.node (o83v6 P) (.node (o147v108 P) .nil .nil) .nil) (.node (o115v103 P) .nil .nil))) (.node (o27v6 P) (.node (o43v6 P) (.node (o75v6 P) (.node (o139v206 P) .nil .nil) .nil) (.node (o107v102 P) .nil .nil)) (.node (o59v6 P) (.node (o91v109 P) (.node (o155v109 P) .nil .nil) .nil) (.node (o123v105 P) .nil .nil))))) (.node (boot_o_5 P) (.node (boot_o_9 P) (.node (o17v6 P) (.node (o33v6 P) (.node (o65v6 P) (.node (o129v105 P) .nil .nil) .nil) (.node O .nil .nil)) (.node (o49v6 P) (.node (o81v6 P) (.node (o145v207 P) .nil .nil) .nil) (.node (o113v103 P) .nil .nil))) (.node (o25v6 P) (.node (o41v6 P) (.node (o73v6 P) (.node (o137v107 P) .nil .nil) .nil) (.node (o105v102 P) .nil .nil)) (.node (o57v6 P) (.node (o89v7 P) (.node (o153v208 P) .nil .nil) .nil) (.node (o121v104 P) .nil .nil)))) (.node (o13v1 P) (.node (o21v6 P) (.node (o37v6 P) (.node (o69v6 P) (.node (o133v106 P) .nil .nil) .nil) (.node (o101v101 P) .nil .nil)) (.node (o53v6 P) (.node (o85v6 P) (.node (o149v108 P) .nil .nil) .nil) (.node (o117v203 P) .nil .nil))) (.node (o29v6 P) (.node (o45v6 P) (.node (o77v6 P) (.node (o141v107 P) .nil .nil) .nil) (.node (o109v103 P) .nil .nil)) (.node (o61v6 P) (.node (o93v8 P) (.node (o157v109 P) .nil .nil) .nil) (.node (o125v204 P) .nil .nil)))))) (.node (boot_o_2 P) (.node (boot_o_4 P) (.node (boot_o_8 P) (.node (o16v6 P) (.node (o32v6 P) (.node (o64v6 P) (.node (o128v105 P) .nil .nil) .nil) (.node (o96v8 P) .nil .nil)) (.node (o48v6 P) (.node (o80v6 P) (.node (o144v108 P) .nil .nil) .nil) (.node (o112v103 P) .nil .nil))) (.node (o24v6 P) (.node (o40v6 P) (.node (o72v6 P) (.node (o136v106 P) .nil .nil) .nil) (.node (o104v201 P) .nil .nil)) (.node (o56v6 P) (.node (o88v7 P) (.node (o152v208 P) .nil .nil) .nil) (.node (o120v104 P) .nil .nil)))) (.node (o12v8 P) (.node (o20v6 P) (.node (o36v6 P) (.node (o68v6 P) (.node (o132v205 P) .nil .nil) .nil) (.node (o100v101 P) .nil .nil)) (.node (o52v6 P) (.node (o84v6 P) (.node (o148v108 P) .nil .nil) .nil) (.node (o116v104 P) .nil .nil))) (.node (o28v6 P) (.node (o44v6 P) (.node (o76v6 P) (.node (o140v107 P) .nil .nil) .nil) (.node (o108v102 P) .nil .nil)) (.node (o60v6 P) (.node (o92v8 P) (.node (o156v109 P) .nil .nil) .nil) (.node (o124v204 P) .nil .nil))))) (.node (boot_o_6 P) (.node (boot_o_10 P) (.node (o18v6 P) (.node (o34v6 P) (.node (o66v6 P) (.node (o130v106 P) .nil .nil) .nil) (.node (o98v101 P) .nil .nil)) (.node (o50v6 P) (.node (o82v6 P) (.node (o146v207 P) .nil .nil) .nil) (.node (o114v103 P) .nil .nil))) (.node (o26v6 P) (.node (o42v6 P) (.node (o74v6 P) (.node (o138v206 P) .nil .nil) .nil) (.node (o106v102 P) .nil .nil)) (.node (o58v6 P) (.node (o90v7 P) (.node (o154v109 P) .nil .nil) .nil) (.node (o122v104 P) .nil .nil)))) (.node (o14v1 P) (.node (o22v6 P) (.node (o38v6 P) (.node (o70v6 P) (.node (o134v106 P) .nil .nil) .nil) (.node (o102v102 P) .nil .nil)) (.node (o54v6 P) (.node (o86v7 P) (.node (o150v108 P) .nil .nil) .nil) (.node (o118v203 P) .nil .nil))) (.node (o30v6 P) (.node (o46v6 P) (.node (o78v6 P) (.node (o142v107 P) .nil .nil) .nil) (.node (o110v202 P) .nil .nil)) (.node (o62v6 P) (.node (o94v8 P) (.node (rit c r) .nil .nil) .nil) (.node (o126v105 P) .nil .nil)))))))
noncomputable def SA9 (P : Params) (os : OsState) (c r : Int) (cp : Value) (O : Obj) (tk : Nat) : SharedT := ⟨TA9 P c r cp O, 159, {}, ⟨[.running]⟩, {}, tk, os⟩
noncomputable def o159v209 (P : Params) : Obj := ⟨(.type "tuple"), none, (.seq ⟨[]⟩ 0), ⟨[]⟩⟩
noncomputable def o160v209 (P : Params) : Obj := ⟨(.type "StopIteration"), none, (.fields ⟨[(.ref 159), .none, .none, .none, (.bool false), .none]⟩), ⟨[]⟩⟩
noncomputable def TD10 (P : Params) (cp : Value) (O : Obj) : BT := (.node (boot_o_0 P) (.node (boot_o_1 P) (.node (o3v7 P) (.node (boot_o_7 P) (.node (o15v6 P) (.node (o31v6 P) (.node (o63v6 P) (.node (o127v105 P) .nil .nil) .nil) (.node (d95 P (.int (.ofNat 9757) 284) (.int (.ofNat 9757) 285) cp) (.node (o159v209 P) .nil .nil) .nil)) (.node (o47v6 P) (.node (o79v6 P) (.node (o143v107 P) .nil .nil) .nil) (.node (o111v202 P) .nil .nil))) (.node (o23v6 P) (.node (o39v6 P) (.node (o71v6 P) (.node (o135v106 P) .nil .nil) .nil) (.node (o103v201 P) .nil .nil)) (.node (o55v6 P) (.node (o87v7 P) (.node (o151v109 P) .nil .nil) .nil) (.node (o119v104 P) .nil .nil)))) (.node (o11v1 P) (.node (o19v6 P) (.node (o35v6 P) (.node (o67v6 P) (.node (o131v205 P) .nil .nil) .nil) (.node (o99v101 P) .nil .nil)) (.node (o51v6 P) (.node (o83v6 P) (.node (o147v108 P) .nil .nil) .nil) (.node (o115v103 P) .nil .nil))) (.node (o27v6 P) (.node (o43v6 P) (.node (o75v6 P) (.node (o139v206 P) .nil .nil) .nil) (.node (o107v102 P) .nil .nil)) (.node (o59v6 P) (.node (o91v109 P) (.node (o155v109 P) .nil .nil) .nil) (.node (o123v105 P) .nil .nil))))) (.node (boot_o_5 P) (.node (boot_o_9 P) (.node (o17v6 P) (.node (o33v6 P) (.node (o65v6 P) (.node (o129v105 P) .nil .nil) .nil) (.node O .nil .nil)) (.node (o49v6 P) (.node (o81v6 P) (.node (o145v207 P) .nil .nil) .nil) (.node (o113v103 P) .nil .nil))) (.node (o25v6 P) (.node (o41v6 P) (.node (o73v6 P) (.node (o137v107 P) .nil .nil) .nil) (.node (o105v102 P) .nil .nil)) (.node (o57v6 P) (.node (o89v7 P) (.node (o153v208 P) .nil .nil) .nil) (.node (o121v104 P) .nil .nil)))) (.node (o13v1 P) (.node (o21v6 P) (.node (o37v6 P) (.node (o69v6 P) (.node (o133v106 P) .nil .nil) .nil) (.node (o101v101 P) .nil .nil)) (.node (o53v6 P) (.node (o85v6 P) (.node (o149v108 P) .nil .nil) .nil) (.node (o117v203 P) .nil .nil))) (.node (o29v6 P) (.node (o45v6 P) (.node (o77v6 P) (.node (o141v107 P) .nil .nil) .nil) (.node (o109v103 P) .nil .nil)) (.node (o61v6 P) (.node (o93v8 P) (.node (o157v109 P) .nil .nil) .nil) (.node (o125v204 P) .nil .nil)))))) (.node (boot_o_2 P) (.node (boot_o_4 P) (.node (boot_o_8 P) (.node (o16v6 P) (.node (o32v6 P) (.node (o64v6 P) (.node (o128v105 P) .nil .nil) .nil) (.node (o96v8 P) (.node (o160v209 P) .nil .nil) .nil)) (.node (o48v6 P) (.node (o80v6 P) (.node (o144v108 P) .nil .nil) .nil) (.node (o112v103 P) .nil .nil))) (.node (o24v6 P) (.node (o40v6 P) (.node (o72v6 P) (.node (o136v106 P) .nil .nil) .nil) (.node (o104v201 P) .nil .nil)) (.node (o56v6 P) (.node (o88v7 P) (.node (o152v208 P) .nil .nil) .nil) (.node (o120v104 P) .nil .nil)))) (.node (o12v8 P) (.node (o20v6 P) (.node (o36v6 P) (.node (o68v6 P) (.node (o132v205 P) .nil .nil) .nil) (.node (o100v101 P) .nil .nil)) (.node (o52v6 P) (.node (o84v6 P) (.node (o148v108 P) .nil .nil) .nil) (.node (o116v104 P) .nil .nil))) (.node (o28v6 P) (.node (o44v6 P) (.node (o76v6 P) (.node (o140v107 P) .nil .nil) .nil) (.node (o108v102 P) .nil .nil)) (.node (o60v6 P) (.node (o92v8 P) (.node (o156v109 P) .nil .nil) .nil) (.node (o124v204 P) .nil .nil))))) (.node (boot_o_6 P) (.node (boot_o_10 P) (.node (o18v6 P) (.node (o34v6 P) (.node (o66v6 P) (.node (o130v106 P) .nil .nil) .nil) (.node (o98v101 P) .nil .nil)) (.node (o50v6 P) (.node (o82v6 P) (.node (o146v207 P) .nil .nil) .nil) (.node (o114v103 P) .nil .nil))) (.node (o26v6 P) (.node (o42v6 P) (.node (o74v6 P) (.node (o138v206 P) .nil .nil) .nil) (.node (o106v102 P) .nil .nil)) (.node (o58v6 P) (.node (o90v7 P) (.node (o154v109 P) .nil .nil) .nil) (.node (o122v104 P) .nil .nil)))) (.node (o14v1 P) (.node (o22v6 P) (.node (o38v6 P) (.node (o70v6 P) (.node (o134v106 P) .nil .nil) .nil) (.node (o102v102 P) .nil .nil)) (.node (o54v6 P) (.node (o86v7 P) (.node (o150v108 P) .nil .nil) .nil) (.node (o118v203 P) .nil .nil))) (.node (o30v6 P) (.node (o46v6 P) (.node (o78v6 P) (.node (o142v107 P) .nil .nil) .nil) (.node (o110v202 P) .nil .nil)) (.node (o62v6 P) (.node (o94v8 P) (.node (rit (.ofNat 9758) (.ofNat 0)) .nil .nil) .nil) (.node (o126v105 P) .nil .nil)))))))
noncomputable def SD10 (P : Params) (os : OsState) (cp : Value) (O : Obj) (tk : Nat) : SharedT := ⟨TD10 P cp O, 161, {}, ⟨[.running]⟩, {}, tk, os⟩
noncomputable def o91v110 (P : Params) : Obj := ⟨(.type "tuple_iterator"), none, (.fields ⟨[(.ref 85), (.int (.ofNat 10) 0)]⟩), ⟨[]⟩⟩
noncomputable def o158v110 (P : Params) : Obj := ⟨(.type "range_iterator"), none, (.fields ⟨[(.int (.ofNat 9758) 0), (.int (.ofNat 0) 0), (.int (.ofNat 1) 0)]⟩), ⟨[]⟩⟩
noncomputable def o161v110 (P : Params) : Obj := ⟨(.type "tuple_iterator"), none, (.fields ⟨[.none, (.int (.ofNat 2) 0)]⟩), ⟨[]⟩⟩
noncomputable def o162v110 (P : Params) : Obj := ⟨(.type "tuple"), none, (.seq ⟨[]⟩ 0), ⟨[]⟩⟩
noncomputable def o163v110 (P : Params) : Obj := ⟨(.type "StopIteration"), none, (.fields ⟨[(.ref 162), .none, .none, .none, (.bool false), .none]⟩), ⟨[]⟩⟩
noncomputable def o164v110 (P : Params) : Obj := ⟨(.type "range"), none, (.fields ⟨[(.int (.ofNat 9760) 286), (.int (.ofNat 9761) 533), (.int (.ofNat 1) 534)]⟩), ⟨[]⟩⟩
noncomputable def TA10 (P : Params) (c r : Int) (cp : Value) (O : Obj) : BT := (.node (boot_o_0 P) (.node (boot_o_1 P) (.node (o3v7 P) (.node (boot_o_7 P) (.node (o15v6 P) (.node (o31v6 P) (.node (o63v6 P) (.node (o127v105 P) .nil .nil) .nil) (.node (d95 P (.int (.ofNat 9760) 286) (.int (.ofNat 9760) 287) cp) (.node (o159v209 P) .nil .nil) .nil)) (.node (o47v6 P) (.node (o79v6 P) (.node (o143v107 P) .nil .nil) .nil) (.node (o111v202 P) .nil .nil))) (.node (o23v6 P) (.node (o39v6 P) (.node (o71v6 P) (.node (o135v106 P) .nil .nil) .nil) (.node (o103v201 P) .nil .nil)) (.node (o55v6 P) (.node (o87v7 P) (.node (o151v109 P) .nil .nil) .nil) (.node (o119v104 P) .nil .nil)))) (.node (o11v1 P) (.node (o19v6 P) (.node (o35v6 P) (.node (o67v6 P) (.node (o131v205 P) .nil .nil) .nil) (.node (o99v101 P) (.node (o163v110 P) .nil .nil) .nil)) (.node (o51v6 P) (.node (o83v6 P) (.node (o147v108 P) .nil .nil) .nil) (.node (o115v103 P) .nil .nil))) (.node (o27v6 P) (.node (o43v6 P) (.node (o75v6 P) (.node (o139v206 P) .nil .nil) .nil) (.node (o107v102 P) .nil .nil)) (.node (o59v6 P) (.node (o91v110 P) (.node (o155v109 P) .nil .nil) .nil) (.node (o123v105 P) .nil .nil))))) (.node (boot_o_5 P) (.node (boot_o_9 P) (.node (o17v6 P) (.node (o33v6 P) (.node (o65v6 P) (.node (o129v105 P) .nil .nil) .nil) (.node O (.node (o161v110 P) .nil .nil) .nil)) (.node (o49v6 P) (.node (o81v6 P) (.node (o145v207 P) .nil .nil) .nil) (.node (o113v103 P) .nil .nil))) (.node (o25v6 P) (.node (o41v6 P) (.node (o73v6 P) (.node (o137v107 P) .nil .nil) .nil) (.node (o105v102 P) .nil .nil)) (.node (o57v6 P) (.node (o89v7 P) (.node (o153v208 P) .nil .nil) .nil) (.node (o121v104 P) .nil .nil)))) (.node (o13v1 P) (.node (o21v6 P) (.node (o37v6 P) (.node (o69v6 P) (.node (o133v106 P) .nil .nil) .nil) (.node (o101v101 P) (.node (rit c r) .nil .nil) .nil)) (.node (o53v6 P) (.node (o85v6 P) (.node (o149v108 P) .nil .nil) .nil) (.node (o117v203 P) .nil .nil))) (.node (o29v6 P) (.node (o45v6 P) (.node (o77v6 P) (.node (o141v107 P) .nil .nil) .nil) (.node (o109v103 P) .nil .nil)) (.node (o61v6 P) (.node (o93v8 P) (.node (o157v109 P) .nil .nil) .nil) (.node (o125v204 P) .nil .nil)))))) (.node (boot_o_2 P) (.node (boot_o_4 P) (.node (boot_o_8 P) (.node (o16v6 P) (.node (o32v6 P) (.node (o64v6 P) (.node (o128v105 P) .nil .nil) .nil) (.node (o96v8 P) (.node (o160v209 P) .nil .nil) .nil)) (.node (o48v6 P) (.node (o80v6 P) (.node (o144v108 P) .nil .nil) .nil) (.node (o112v103 P) .nil .nil))) (.node (o24v6 P) (.node (o40v6 P) (.node (o72v6 P) (.node (o136v106 P) .nil .nil) .nil) (.node (o104v201 P) .nil .nil)) (.node (o56v6 P) (.node (o88v7 P) (.node (o152v208 P) .nil .nil) .nil) (.node (o120v104 P) .nil .nil)))) (.node (o12v8 P) (.node (o20v6 P) (.node (o36v6 P) (.node (o68v6 P) (.node (o132v205 P) .nil .nil) .nil) (.node (o100v101 P) (.node (o164v110 P) .nil .nil) .nil)) (.node (o52v6 P) (.node (o84v6 P) (.node (o148v108 P) .nil .nil) .nil) (.node (o116v104 P) .nil .nil))) (.node (o28v6 P) (.node (o44v6 P) (.node (o76v6 P) (.node (o140v107 P) .nil .nil) .nil) (.node (o108v102 P) .nil .nil)) (.node (o60v6 P) (.node (o92v8 P) (.node (o156v109 P) .nil .nil) .nil) (.node (o124v204 P) .nil .nil))))) (.node (boot_o_6 P) (.node (boot_o_10 P) (.node (o18v6 P) (.node (o34v6 P) (.node (o66v6 P) (.node (o130v106 P) .nil .nil) .nil) (.node (o98v101 P) (.node (o162v110 P) .nil .nil) .nil)) (.node (o50v6 P) (.node (o82v6 P) (.node (o146v207 P) .nil .nil) .nil) (.node (o114v103 P) .nil .nil))) (.node (o26v6 P) (.node (o42v6 P) (.node (o74v6 P) (.node (o138v206 P) .nil .nil) .nil) (.node (o106v102 P) .nil .nil)) (.node (o58v6 P) (.node (o90v7 P) (.node (o154v109 P) .nil .nil) .nil) (.node (o122v104 P) .nil .nil)))) (.node (o14v1 P) (.node (o22v6 P) (.node (o38v6 P) (.node (o70v6 P) (.node (o134v106 P) .nil .nil) .nil) (.node (o102v102 P) .nil .nil)) (.node (o54v6 P) (.node (o86v7 P) (.node (o150v108 P) .nil .nil) .nil) (.node (o118v203 P) .nil .nil))) (.node (o30v6 P) (.node (o46v6 P) (.node (o78v6 P) (.node (o142v107 P) .nil .nil) .nil) (.node (o110v202 P) .nil .nil)) (.node (o62v6 P) (.node (o94v8 P) (.node (o158v110 P) .nil .nil) .nil) (.node (o126v105 P) .nil .nil)))))))
noncomputable def SA10 (P : Params) (os : OsState) (c r : Int) (cp : Value) (O : Obj) (tk : Nat) : SharedT := ⟨TA10 P c r cp O, 166, {}, ⟨[.running]⟩, {}, tk, os⟩
noncomputable def o166v210 (P : Params) : Obj := ⟨(.type "tuple"), none, (.seq ⟨[]⟩ 0), ⟨[]⟩⟩
noncomputable def o167v210 (P : Params) : Obj := ⟨(.type "StopIteration"), none, (.fields ⟨[(.ref 166), .none, .none, .none, (.bool false), .none]⟩), ⟨[]⟩⟩
noncomputable def TD11 (P : Params) (cp : Value) (O : Obj) : BT := (.node (boot_o_0 P) (.node (boot_o_1 P) (.node (o3v7 P) (.node (boot_o_7 P) (.node (o15v6 P) (.node (o31v6 P) (.node (o63v6 P) (.node (o127v105 P) .nil .nil) .nil) (.node (d95 P (.int (.ofNat 9760) 286) (.int (.ofNat 9760) 287) cp) (.node (o159v209 P) .nil .nil) .nil)) (.node (o47v6 P) (.node (o79v6 P) (.node (o143v107 P) .nil .nil) .nil) (.node (o111v202 P) .nil .nil))) (.node (o23v6 P) (.node (o39v6 P) (.node (o71v6 P) (.node (o135v106 P) .nil .nil) .nil) (.node (o103v201 P) (.node (o167v210 P) .nil .nil) .nil)) (.node (o55v6 P) (.node (o87v7 P) (.node (o151v109 P) .nil .nil) .nil) (.node (o119v104 P) .nil .nil)))) (.node (o11v1 P) (.node (o19v6 P) (.node (o35v6 P) (.node (o67v6 P) (.node (o131v205 P) .nil .nil) .nil) (.node (o99v101 P) (.node (o163v110 P) .nil .nil) .nil)) (.node (o51v6 P) (.node (o83v6 P) (.node (o147v108 P) .nil .nil) .nil) (.node (o115v103 P) .nil .nil))) (.node (o27v6 P) (.node (o43v6 P) (.node (o75v6 P) (.node (o139v206 P) .nil .nil) .nil) (.node (o107v102 P) .nil .nil)) (.node (o59v6 P) (.node (o91v110 P) (.node (o155v109 P) .nil .nil) .nil) (.node (o123v105 P) .nil .nil))))) (.node (boot_o_5 P) (.node (boot_o_9 P) (.node (o17v6 P) (.node (o33v6 P) (.node (o65v6 P) (.node (o129v105 P) .nil .nil) .nil) (.node O (.node (o161v110 P) .nil .nil) .nil)) (.node (o49v6 P) (.node (o81v6 P) (.node (o145v207 P) .nil .nil) .nil) (.node (o113v103 P) .nil .nil))) (.node (o25v6 P) (.node (o41v6 P) (.node (o73v6 P) (.node (o137v107 P) .nil .nil) .nil) (.node (o105v102 P) .nil .nil)) (.node (o57v6 P) (.node (o89v7 P) (.node (o153v208 P) .nil .nil) .nil) (.node (o121v104 P) .nil .nil)))) (.node (o13v1 P) (.node (o21v6 P) (.node (o37v6 P) (.node (o69v6 P) (.node (o133v106 P) .nil .nil) .nil) (.node (o101v101 P) (.node (rit (.ofNat 9761) (.ofNat 0)) .nil .nil) .nil)) (.node (o53v6 P) (.node (o85v6 P) (.node (o149v108 P) .nil .nil) .nil) (.node (o117v203 P) .nil .nil))) (.node (o29v6 P) (.node (o45v6 P) (.node (o77v6 P) (.node (o141v107 P) .nil .nil) .nil) (.node (o109v103 P) .nil .nil)) (.node (o61v6 P) (.node (o93v8 P) (.node (o157v109 P) .nil .nil) .nil) (.node (o125v204 P) .nil .nil)))))) (.node (boot_o_2 P) (.node (boot_o_4 P) (.node (boot_o_8 P) (.node (o16v6 P) (.node (o32v6 P) (.node (o64v6 P) (.node (o128v105 P) .nil .nil) .nil) (.node (o96v8 P) (.node (o160v209 P) .nil .nil) .nil)) (.node (o48v6 P) (.node (o80v6 P) (.node (o144v108 P) .nil .nil) .nil) (.node (o112v103 P) .nil .nil))) (.node (o24v6 P) (.node (o40v6 P) (.node (o72v6 P) (.node (o136v106 P) .nil .nil) .nil) (.node (o104v201 P) .nil .nil)) (.node (o56v6 P) (.node (o88v7 P) (.node (o152v208 P) .nil .nil) .nil) (.node (o120v104 P) .nil .nil)))) (.node (o12v8 P) (.node (o20v6 P) (.node (o36v6 P) (.node (o68v6 P) (.node (o132v205 P) .nil .nil) .nil) (.node (o100v101 P) (.node (o164v110 P) .nil .nil) .nil)) (.node (o52v6 P) (.node (o84v6 P) (.node (o148v108 P) .nil .nil) .nil) (.node (o116v104 P) .nil .nil))) (.node (o28v6 P) (.node (o44v6 P) (.node (o76v6 P) (.node (o140v107 P) .nil .nil) .nil) (.node (o108v102 P) .nil .nil)) (.node (o60v6 P) (.node (o92v8 P) (.node (o156v109 P) .nil .nil) .nil) (.node (o124v204 P) .nil .nil))))) (.node (boot_o_6 P) (.node (boot_o_10 P) (.node (o18v6 P) (.node (o34v6 P) (.node (o66v6 P) (.node (o130v106 P) .nil .nil) .nil) (.node (o98v101 P) (.node (o162v110 P) .nil .nil) .nil)) (.node (o50v6 P) (.node (o82v6 P) (.node (o146v207 P) .nil .nil) .nil) (.node (o114v103 P) .nil .nil))) (.node (o26v6 P) (.node (o42v6 P) (.node (o74v6 P) (.node (o138v206 P) .nil .nil) .nil) (.node (o106v102 P) .nil .nil)) (.node (o58v6 P) (.node (o90v7 P) (.node (o154v109 P) .nil .nil) .nil) (.node (o122v104 P) .nil .nil)))) (.node (o14v1 P) (.node (o22v6 P) (.node (o38v6 P) (.node (o70v6 P) (.node (o134v106 P) .nil .nil) .nil) (.node (o102v102 P) (.node (o166v210 P) .nil .nil) .nil)) (.node (o54v6 P) (.node (o86v7 P) (.node (o150v108 P) .nil .nil) .nil) (.node (o118v203 P) .nil .nil))) (.node (o30v6 P) (.node (o46v6 P) (.node (o78v6 P) (.node (o142v107 P) .nil .nil) .nil) (.node (o110v202 P) .nil .nil)) (.node (o62v6 P) (.node (o94v8 P) (.node (o158v110 P) .nil .nil) .nil) (.node (o126v105 P) .nil .nil)))))))
noncomputable def SD11 (P : Params) (os : OsState) (cp : Value) (O : Obj) (tk : Nat) : SharedT := ⟨TD11 P cp O, 168, {}, ⟨[.running]⟩, {}, tk, os⟩
noncomputable def o91v111 (P : Params) : Obj := ⟨(.type "tuple_iterator"), none, (.fields ⟨[(.ref 85), (.int (.ofNat 11) 0)]⟩), ⟨[]⟩⟩
noncomputable def o165v111 (P : Params) : Obj := ⟨(.type "range_iterator"), none, (.fields ⟨[(.int (.ofNat 9761) 0), (.int (.ofNat 0) 0), (.int (.ofNat 1) 0)]⟩), ⟨[]⟩⟩
noncomputable def o168v111 (P : Params) : Obj := ⟨(.type "tuple_iterator"), none, (.fields ⟨[.none, (.int (.ofNat 2) 0)]⟩), ⟨[]⟩⟩
noncomputable def o169v111 (P : Params) : Obj := ⟨(.type "tuple"), none, (.seq ⟨[]⟩ 0), ⟨[]⟩⟩
noncomputable def o170v111 (P : Params) : Obj := ⟨(.type "StopIteration"), none, (.fields ⟨[(.ref 169), .none, .none, .none, (.bool false), .none]⟩), ⟨[]⟩⟩
noncomputable def o171v111 (P : Params) : Obj := ⟨(.type "range"), none, (.fields ⟨[(.int (.ofNat 9792) 288), (.int (.ofNat 9793) 541), (.int (.ofNat 1) 542)]⟩), ⟨[]⟩⟩
noncomputable def TA11 (P : Params) (c r : Int) (cp : Value) (O : Obj) : BT := (.node (boot_o_0 P) (.node (boot_o_1 P) (.node (o3v7 P) (.node (boot_o_7 P) (.node (o15v6 P) (.node (o31v6 P) (.node (o63v6 P) (.node (o127v105 P) .nil .nil) .nil) (.node (d95 P (.int (.ofNat 9792) 288) (.int (.ofNat 9792) 289) cp) (.node (o159v209 P) .nil .nil) .nil)) (.node (o47v6 P) (.node (o79v6 P) (.node (o143v107 P) .nil .nil) .nil) (.node (o111v202 P) .nil .nil))) (.node (o23v6 P) (.node (o39v6 P) (.node (o71v6 P) (.node (o135v106 P) .nil .nil) .nil) (.node (o103v201 P) (.node (o167v210 P) .nil .nil) .nil)) (.node (o55v6 P) (.node (o87v7 P) (.node (o151v109 P) .nil .nil) .nil) (.node (o119v104 P) .nil .nil)))) (.node (o11v1 P) (.node (o19v6 P) (.node (o35v6 P) (.node (o67v6 P) (.node (o131v205 P) .nil .nil) .nil) (.node (o99v101 P) (.node (o163v110 P) .nil .nil) .nil)) (.node (o51v6 P) (.node (o83v6 P) (.node (o147v108 P) .nil .nil) .nil) (.node (o115v103 P) .nil .nil))) (.node (o27v6 P) (.node (o43v6 P) (.node (o75v6 P) (.node (o139v206 P) .nil .nil) .nil) (.node (o107v102 P) (.node (o171v111 P) .nil .nil) .nil)) (.node (o59v6 P) (.node (o91v111 P) (.node (o155v109 P) .nil .nil) .nil) (.node (o123v105 P) .nil .nil))))) (.node (boot_o_5 P) (.node (boot_o_9 P) (.node (o17v6 P) (.node (o33v6 P) (.node (o65v6 P) (.node (o129v105 P) .nil .nil) .nil) (.node O (.node (o161v110 P) .nil .nil) .nil)) (.node (o49v6 P) (.node (o81v6 P) (.node (o145v207 P) .nil .nil) .nil) (.node (o113v103 P) .nil .nil))) (.node (o25v6 P) (.node (o41v6 P) (.node (o73v6 P) (.node (o137v107 P) .nil .nil) .nil) (.node (o105v102 P) (.node (o169v111 P) .nil .nil) .nil)) (.node (o57v6 P) (.node (o89v7 P) (.node (o153v208 P) .nil .nil) .nil) (.node (o121v104 P) .nil .nil)))) (.node (o13v1 P) (.node (o21v6 P) (.node (o37v6 P) (.node (o69v6 P) (.node (o133v106 P) .nil .nil) .nil) (.node (o101v101 P) (.node (o165v111 P) .nil .nil) .nil)) (.node (o53v6 P) (.node (o85v6 P) (.node (o149v108 P) .nil .nil) .nil) (.node (o117v203 P) .nil .nil))) (.node (o29v6 P) (.node (o45v6 P) (.node (o77v6 P) (.node (o141v107 P) .nil .nil) .nil) (.node (o109v103 P) .nil .nil)) (.node (o61v6 P) (.node (o93v8 P) (.node (o157v109 P) .nil .nil) .nil) (.node (o125v204 P) .nil .nil)))))) (.node (boot_o_2 P) (.node (boot_o_4 P) (.node (boot_o_8 P) (.node (o16v6 P) (.node (o32v6 P) (.node (o64v6 P) (.node (o128v105 P) .nil .nil) .nil) (.node (o96v8 P) (.node (o160v209 P) .nil .nil) .nil)) (.node (o48v6 P) (.node (o80v6 P) (.node (o144v108 P) .nil .nil) .nil) (.node (o112v103 P) .nil .nil))) (.node (o24v6 P) (.node (o40v6 P) (.node (o72v6 P) (.node (o136v106 P) .nil .nil) .nil) (.node (o104v201 P) (.node (o168v111 P) .nil .nil) .nil)) (.node (o56v6 P) (.node (o88v7 P) (.node (o152v208 P) .nil .nil) .nil) (.node (o120v104 P) .nil .nil)))) (.node (o12v8 P) (.node (o20v6 P) (.node (o36v6 P) (.node (o68v6 P) (.node (o132v205 P) .nil .nil) .nil) (.node (o100v101 P) (.node (o164v110 P) .nil .nil) .nil)) (.node (o52v6 P) (.node (o84v6 P) (.node (o148v108 P) .nil .nil) .nil) (.node (o116v104 P) .nil .nil))) (.node (o28v6 P) (.node (o44v6 P) (.node (o76v6 P) (.node (o140v107 P) .nil .nil) .nil) (.node (o108v102 P) (.node (rit c r) .nil .nil) .nil)) (.node (o60v6 P) (.node (o92v8 P) (.node (o156v109 P) .nil .nil) .nil) (.node (o124v204 P) .nil .nil))))) (.node (boot_o_6 P) (.node (boot_o_10 P) (.node (o18v6 P) (.node (o34v6 P) (.node (o66v6 P) (.node (o130v106 P) .nil .nil) .nil) (.node (o98v101 P) (.node (o162v110 P) .nil .nil) .nil)) (.node (o50v6 P) (.node (o82v6 P) (.node (o146v207 P) .nil .nil) .nil) (.node (o114v103 P) .nil .nil))) (.node (o26v6 P) (.node (o42v6 P) (.node (o74v6 P) (.node (o138v206 P) .nil .nil) .nil) (.node (o106v102 P) (.node (o170v111 P) .nil .nil) .nil)) (.node (o58v6 P) (.node (o90v7 P) (.node (o154v109 P) .nil .nil) .nil) (.node (o122v104 P) .nil .nil)))) (.node (o14v1 P) (.node (o22v6 P) (.node (o38v6 P) (.node (o70v6 P) (.node (o134v106 P) .nil .nil) .nil) (.node (o102v102 P) (.node (o166v210 P) .nil .nil) .nil)) (.node (o54v6 P) (.node (o86v7 P) (.node (o150v108 P) .nil .nil) .nil) (.node (o118v203 P) .nil .nil))) (.node (o30v6 P) (.node (o46v6 P) (.node (o78v6 P) (.node (o142v107 P) .nil .nil) .nil) (.node (o110v202 P) .nil .nil)) (.node (o62v6 P) (.node (o94v8 P) (.node (o158v110 P) .nil .nil) .nil) (.node (o126v105 P) .nil .nil)))))))
noncomputable def SA11 (P : Params) (os : OsState) (c r : Int) (cp : Value) (O : Obj) (tk : Nat) : SharedT := ⟨TA11 P c r cp O, 173, {}, ⟨[.running]⟩, {}, tk, os⟩
noncomputable def o173v211 (P : Params) : Obj := ⟨(.type "tuple"), none, (.seq ⟨[]⟩ 0), ⟨[]⟩⟩
noncomputable def o174v211 (P : Params) : Obj := ⟨(.type "StopIteration"), none, (.fields ⟨[(.ref 173), .none, .none, .none, (.bool false), .none]⟩), ⟨[]⟩⟩
noncomputable def TD12 (P : Params) (cp : Value) (O : Obj) : BT := (.node (boot_o_0 P) (.node (boot_o_1 P) (.node (o3v7 P) (.node (boot_o_7 P) (.node (o15v6 P) (.node (o31v6 P) (.node (o63v6 P) (.node (o127v105 P) .nil .nil) .nil) (.node (d95 P (.int (.ofNat 9792) 288) (.int (.ofNat 9792) 289) cp) (.node (o159v209 P) .nil .nil) .nil)) (.node (o47v6 P) (.node (o79v6 P) (.node (o143v107 P) .nil .nil) .nil) (.node (o111v202 P) .nil .nil))) (.node (o23v6 P) (.node (o39v6 P) (.node (o71v6 P) (.node (o135v106 P) .nil .nil) .nil) (.node (o103v201 P) (.node (o167v210 P) .nil .nil) .nil)) (.node (o55v6 P) (.node (o87v7 P) (.node (o151v109 P) .nil .nil) .nil) (.node (o119v104 P) .nil .nil)))) (.node (o11v1 P) (.node (o19v6 P) (.node (o35v6 P) (.node (o67v6 P) (.node (o131v205 P) .nil .nil) .nil) (.node (o99v101 P) (.node (o163v110 P) .nil .nil) .nil)) (.node (o51v6 P) (.node (o83v6 P) (.node (o147v108 P) .nil .nil) .nil) (.node (o115v103 P) .nil .nil))) (.node (o27v6 P) (.node (o43v6 P) (.node (o75v6 P) (.node (o139v206 P) .nil .nil) .nil) (.node (o107v102 P) (.node (o171v111 P) .nil .nil) .nil)) (.node (o59v6 P) (.node (o91v111 P) (.node (o155v109 P) .nil .nil) .nil) (.node (o123v105 P) .nil .nil))))) (.node (boot_o_5 P) (.node (boot_o_9 P) (.node (o17v6 P) (.node (o33v6 P) (.node (o65v6 P) (.node (o129v105 P) .nil .nil) .nil) (.node O (.node (o161v110 P) .nil .nil) .nil)) (.node (o49v6 P) (.node (o81v6 P) (.node (o145v207 P) .nil .nil) .nil) (.node (o113v103 P) .nil .nil))) (.node (o25v6 P) (.node (o41v6 P) (.node (o73v6 P) (.node (o137v107 P) .nil .nil) .nil) (.node (o105v102 P) (.node (o169v111 P) .nil .nil) .nil)) (.node (o57v6 P) (.node (o89v7 P) (.node (o153v208 P) .nil .nil) .nil) (.node (o121v104 P) .nil .nil)))) (.node (o13v1 P) (.node (o21v6 P) (.node (o37v6 P) (.node (o69v6 P) (.node (o133v106 P) .nil .nil) .nil) (.node (o101v101 P) (.node (o165v111 P) .nil .nil) .nil)) (.node (o53v6 P) (.node (o85v6 P) (.node (o149v108 P) .nil .nil) .nil) (.node (o117v203 P) .nil .nil))) (.node (o29v6 P) (.node (o45v6 P) (.node (o77v6 P) (.node (o141v107 P) .nil .nil) .nil) (.node (o109v103 P) (.node (o173v211 P) .nil .nil) .nil)) (.node (o61v6 P) (.node (o93v8 P) (.node (o157v109 P) .nil .nil) .nil) (.node (o125v204 P) .nil .nil)))))) (.node (boot_o_2 P) (.node (boot_o_4 P) (.node (boot_o_8 P) (.node (o16v6 P) (.node (o32v6 P) (.node (o64v6 P) (.node (o128v105 P) .nil .nil) .nil) (.node (o96v8 P) (.node (o160v209 P) .nil .nil) .nil)) (.node (o48v6 P) (.node (o80v6 P) (.node (o144v108 P) .nil .nil) .nil) (.node (o112v103 P) .nil .nil))) (.node (o24v6 P) (.node (o40v6 P) (.node (o72v6 P) (.node (o136v106 P) .nil .nil) .nil) (.node (o104v201 P) (.node (o168v111 P) .nil .nil) .nil)) (.node (o56v6 P) (.node (o88v7 P) (.node (o152v208 P) .nil .nil) .nil) (.node (o120v104 P) .nil .nil)))) (.node (o12v8 P) (.node (o20v6 P) (.node (o36v6 P) (.node (o68v6 P) (.node (o132v205 P) .nil .nil) .nil) (.node (o100v101 P) (.node (o164v110 P) .nil .nil) .nil)) (.node (o52v6 P) (.node (o84v6 P) (.node (o148v108 P) .nil .nil) .nil) (.node (o116v104 P) .nil .nil))) (.node (o28v6 P) (.node (o44v6 P) (.node (o76v6 P) (.node (o140v107 P) .nil .nil) .nil) (.node (o108v102 P) (.node (rit (.ofNat 9793) (.ofNat 0)) .nil .nil) .nil)) (.node (o60v6 P) (.node (o92v8 P) (.node (o156v109 P) .nil .nil) .nil) (.node (o124v204 P) .nil .nil))))) (.node (boot_o_6 P) (.node (boot_o_10 P) (.node (o18v6 P) (.node (o34v6 P) (.node (o66v6 P) (.node (o130v106 P) .nil .nil) .nil) (.node (o98v101 P) (.node (o162v110 P) .nil .nil) .nil)) (.node (o50v6 P) (.node (o82v6 P) (.node (o146v207 P) .nil .nil) .nil) (.node (o114v103 P) .nil .nil))) (.node (o26v6 P) (.node (o42v6 P) (.node (o74v6 P) (.node (o138v206 P) .nil .nil) .nil) (.node (o106v102 P) (.node (o170v111 P) .nil .nil) .nil)) (.node (o58v6 P) (.node (o90v7 P) (.node (o154v109 P) .nil .nil) .nil) (.node (o122v104 P) .nil .nil)))) (.node (o14v1 P) (.node (o22v6 P) (.node (o38v6 P) (.node (o70v6 P) (.node (o134v106 P) .nil .nil) .nil) (.node (o102v102 P) (.node (o166v210 P) .nil .nil) .nil)) (.node (o54v6 P) (.node (o86v7 P) (.node (o150v108 P) .nil .nil) .nil) (.node (o118v203 P) .nil .nil))) (.node (o30v6 P) (.node (o46v6 P) (.node (o78v6 P) (.node (o142v107 P) .nil .nil) .nil) (.node (o110v202 P) (.node (o174v211 P) .nil .nil) .nil)) (.node (o62v6 P) (.node (o94v8 P) (.node (o158v110 P) .nil .nil) .nil) (.node (o126v105 P) .nil .nil)))))))
noncomputable def SD12 (P : Params) (os : OsState) (cp : Value) (O : Obj) (tk : Nat) : SharedT := ⟨TD12 P cp O, 175, {}, ⟨[.running]⟩, {}, tk, os⟩
noncomputable def o91v112 (P : Params) : Obj := ⟨(.type "tuple_iterator"), none, (.fields ⟨[(.ref 85), (.int (.ofNat 12) 0)]⟩), ⟨[]⟩⟩
noncomputable def o172v112 (P : Params) : Obj := ⟨(.type "range_iterator"), none, (.fields ⟨[(.int (.ofNat 9793) 0), (.int (.ofNat 0) 0), (.int (.ofNat 1) 0)]⟩), ⟨[]⟩⟩
noncomputable def o175v112 (P : Params) : Obj := ⟨(.type "tuple_iterator"), none, (.fields ⟨[.none, (.int (.ofNat 2) 0)]⟩), ⟨[]⟩⟩
noncomputable def o176v112 (P : Params) : Obj := ⟨(.type "tuple"), none, (.seq ⟨[]⟩ 0), ⟨[]⟩⟩
noncomputable def o177v112 (P : Params) : Obj := ⟨(.type "StopIteration"), none, (.fields ⟨[(.ref 176), .none, .none, .none, (.bool false), .none]⟩), ⟨[]⟩⟩
noncomputable def o178v112 (P : Params) : Obj := ⟨(.type "range"), none, (.fields ⟨[(.int (.ofNat 9794) 290), (.int (.ofNat 9795) 549), (.int (.ofNat 1) 550)]⟩), ⟨[]⟩⟩
noncomputable def TA12 (P : Params) (c r : Int) (cp : Value) (O : Obj) : BT := (.node (boot_o_0 P) (.node (boot_o_1 P) (.node (o3v7 P) (.node (boot_o_7 P) (.node (o15v6 P) (.node (o31v6 P) (.node (o63v6 P) (.node (o127v105 P) .nil .nil) .nil) (.node (d95 P (.int (.ofNat 9794) 290) (.int (.ofNat 9794) 291) cp) (.node (o159v209 P) .nil .nil) .nil)) (.node (o47v6 P) (.node (o79v6 P) (.node (o143v107 P) .nil .nil) .nil) (.node (o111v202 P) (.node (o175v112 P) .nil .nil) .nil))) (.node (o23v6 P) (.node (o39v6 P) (.node (o71v6 P) (.node (o135v106 P) .nil .nil) .nil) (.node (o103v201 P) (.node (o167v210 P) .nil .nil) .nil)) (.node (o55v6 P) (.node (o87v7 P) (.node (o151v109 P) .nil .nil) .nil) (.node (o119v104 P) .nil .nil)))) (.node (o11v1 P) (.node (o19v6 P) (.node (o35v6 P) (.node (o67v6 P) (.node (o131v205 P) .nil .nil) .nil) (.node (o99v101 P) (.node (o163v110 P) .nil .nil) .nil)) (.node (o51v6 P) (.node (o83v6 P) (.node (o147v108 P) .nil .nil) .nil) (.node (o115v103 P) (.node (rit c r) .nil .nil) .nil))) (.node (o27v6 P) (.node (o43v6 P) (.node (o75v6 P) (.node (o139v206 P) .nil .nil) .nil) (.node (o107v102 P) (.node (o171v111 P) .nil .nil) .nil)) (.node (o59v6 P) (.node (o91v112 P) (.node (o155v109 P) .nil .nil) .nil) (.node (o123v105 P) .nil .nil))))) (.node (boot_o_5 P) (.node (boot_o_9 P) (.node (o17v6 P) (.node (o33v6 P) (.node (o65v6 P) (.node (o129v105 P) .nil .nil) .nil) (.node O (.node (o161v110 P) .nil .nil) .nil)) (.node (o49v6 P) (.node (o81v6 P) (.node (o145v207 P) .nil .nil) .nil) (.node (o113v103 P) (.node (o177v112 P) .nil .nil) .nil))) (.node (o25v6 P) (.node (o41v6 P) (.node (o73v6 P) (.node (o137v107 P) .nil .nil) .nil) (.node (o105v102 P) (.node (o169v111 P) .nil .nil) .nil)) (.node (o57v6 P) (.node (o89v7 P) (.node (o153v208 P) .nil .nil) .nil) (.node (o121v104 P) .nil .nil)))) (.node (o13v1 P) (.node (o21v6 P) (.node (o37v6 P) (.node (o69v6 P) (.node (o133v106 P) .nil .nil) .nil) (.node (o101v101 P) (.node (o165v111 P) .nil .nil) .nil)) (.node (o53v6 P) (.node (o85v6 P) (.node (o149v108 P) .nil .nil) .nil) (.node (o117v203 P) .nil .nil))) (.node (o29v6 P) (.node (o45v6 P) (.node (o77v6 P) (.node (o141v107 P) .nil .nil) .nil) (.node (o109v103 P) (.node (o173v211 P) .nil .nil) .nil)) (.node (o61v6 P) (.node (o93v8 P) (.node (o157v109 P) .nil .nil) .nil) (.node (o125v204 P) .nil .nil)))))) (.node (boot_o_2 P) (.node (boot_o_4 P) (.node (boot_o_8 P) (.node (o16v6 P) (.node (o32v6 P) (.node (o64v6 P) (.node (o128v105 P) .nil .nil) .nil) (.node (o96v8 P) (.node (o160v209 P) .nil .nil) .nil)) (.node (o48v6 P) (.node (o80v6 P) (.node (o144v108 P) .nil .nil) .nil) (.node (o112v103 P) (.node (o176v112 P) .nil .nil) .nil))) (.node (o24v6 P) (.node (o40v6 P) (.node (o72v6 P) (.node (o136v106 P) .nil .nil) .nil) (.node (o104v201 P) (.node (o168v111 P) .nil .nil) .nil)) (.node (o56v6 P) (.node (o88v7 P) (.node (o152v208 P) .nil .nil) .nil) (.node (o120v104 P) .nil .nil)))) (.node (o12v8 P) (.node (o20v6 P) (.node (o36v6 P) (.node (o68v6 P) (.node (o132v205 P) .nil .nil) .nil) (.node (o100v101 P) (.node (o164v110 P) .nil .nil) .nil)) (.node (o52v6 P) (.node (o84v6 P) (.node (o148v108 P) .nil .nil) .nil) (.node (o116v104 P) .nil .nil))) (.node (o28v6 P) (.node (o44v6 P) (.node (o76v6 P) (.node (o140v107 P) .nil .nil) .nil) (.node (o108v102 P) (.node (o172v112 P) .nil .nil) .nil)) (.node (o60v6 P) (.node (o92v8 P) (.node (o156v109 P) .nil .nil) .nil) (.node (o124v204 P) .nil .nil))))) (.node (boot_o_6 P) (.node (boot_o_10 P) (.node (o18v6 P) (.node (o34v6 P) (.node (o66v6 P) (.node (o130v106 P) .nil .nil) .nil) (.node (o98v101 P) (.node (o162v110 P) .nil .nil) .nil)) (.node (o50v6 P) (.node (o82v6 P) (.node (o146v207 P) .nil .nil) .nil) (.node (o114v103 P) (.node (o178v112 P) .nil .nil) .nil))) (.node (o26v6 P) (.node (o42v6 P) (.node (o74v6 P) (.node (o138v206 P) .nil .nil) .nil) (.node (o106v102 P) (.node (o170v111 P) .nil .nil) .nil)) (.node (o58v6 P) (.node (o90v7 P) (.node (o154v109 P) .nil .nil) .nil) (.node (o122v104 P) .nil .nil)))) (.node (o14v1 P) (.node (o22v6 P) (.node (o38v6 P) (.node (o70v6 P) (.node (o134v106 P) .nil .nil) .nil) (.node (o102v102 P) (.node (o166v210 P) .nil .nil) .nil)) (.node (o54v6 P) (.node (o86v7 P) (.node (o150v108 P) .nil .nil) .nil) (.node (o118v203 P) .nil .nil))) (.node (o30v6 P) (.node (o46v6 P) (.node (o78v6 P) (.node (o142v107 P) .nil .nil) .nil) (.node (o110v202 P) (.node (o174v211 P) .nil .nil) .nil)) (.node (o62v6 P) (.node (o94v8 P) (.node (o158v110 P) .nil .nil) .nil) (.node (o126v105 P) .nil .nil)))))))
noncomputable def SA12 (P : Params) (os : OsState) (c r : Int) (cp : Value) (O : Obj) (tk : Nat) : SharedT := ⟨TA12 P c r cp O, 180, {}, ⟨[.running]⟩, {}, tk, os⟩
noncomputable def o180v212 (P : Params) : Obj := ⟨(.type "tuple"), none, (.seq ⟨[]⟩ 0), ⟨[]⟩⟩
noncomputable def o181v212 (P : Params) : Obj := ⟨(.type "StopIteration"), none, (.fields ⟨[(.ref 180), .none, .none, .none, (.bool false), .none]⟩), ⟨[]⟩⟩
noncomputable def TD13 (P : Params) (cp : Value) (O : Obj) : BT := (.node (boot_o_0 P) (.node (boot_o_1 P) (.node (o3v7 P) (.node (boot_o_7 P) (.node (o15v6 P) (.node (o31v6 P) (.node (o63v6 P) (.node (o127v105 P) .nil .nil) .nil) (.node (d95 P (.int (.ofNat 9794) 290) (.int (.ofNat 9794) 291) cp) (.node (o159v209 P) .nil .nil) .nil)) (.node (o47v6 P) (.node (o79v6 P) (.node (o143v107 P) .nil .nil) .nil) (.node (o111v202 P) (.node (o175v112 P) .nil .nil) .nil))) (.node (o23v6 P) (.node (o39v6 P) (.node (o71v6 P) (.node (o135v106 P) .nil .nil) .nil) (.node (o103v201 P) (.node (o167v210 P) .nil .nil) .nil)) (.node (o55v6 P) (.node (o87v7 P) (.node (o151v109 P) .nil .nil) .nil) (.node (o119v104 P) .nil .nil)))) (.node (o11v1 P) (.node (o19v6 P) (.node (o35v6 P) (.node (o67v6 P) (.node (o131v205 P) .nil .nil) .nil) (.node (o99v101 P) (.node (o163v110 P) .nil .nil) .nil)) (.node (o51v6 P) (.node (o83v6 P) (.node (o147v108 P) .nil .nil) .nil) (.node (o115v103 P) (.node (rit (.ofNat 9795) (.ofNat 0)) .nil .nil) .nil))) (.node (o27v6 P) (.node (o43v6 P) (.node (o75v6 P) (.node (o139v206 P) .nil .nil) .nil) (.node (o107v102 P) (.node (o171v111 P) .nil .nil) .nil)) (.node (o59v6 P) (.node (o91v112 P) (.node (o155v109 P) .nil .nil) .nil) (.node (o123v105 P) .nil .nil))))) (.node (boot_o_5 P) (.node (boot_o_9 P) (.node (o17v6 P) (.node (o33v6 P) (.node (o65v6 P) (.node (o129v105 P) .nil .nil) .nil) (.node O (.node (o161v110 P) .nil .nil) .nil)) (.node (o49v6 P) (.node (o81v6 P) (.node (o145v207 P) .nil .nil) .nil) (.node (o113v103 P) (.node (o177v112 P) .nil .nil) .nil))) (.node (o25v6 P) (.node (o41v6 P) (.node (o73v6 P) (.node (o137v107 P) .nil .nil) .nil) (.node (o105v102 P) (.node (o169v111 P) .nil .nil) .nil)) (.node (o57v6 P) (.node (o89v7 P) (.node (o153v208 P) .nil .nil) .nil) (.node (o121v104 P) .nil .nil)))) (.node (o13v1 P) (.node (o21v6 P) (.node (o37v6 P) (.node (o69v6 P) (.node (o133v106 P) .nil .nil) .nil) (.node (o101v101 P) (.node (o165v111 P) .nil .nil) .nil)) (.node (o53v6 P) (.node (o85v6 P) (.node (o149v108 P) .nil .nil) .nil) (.node (o117v203 P) (.node (o181v212 P) .nil .nil) .nil))) (.node (o29v6 P) (.node (o45v6 P) (.node (o77v6 P) (.node (o141v107 P) .nil .nil) .nil) (.node (o109v103 P) (.node (o173v211 P) .nil .nil) .nil)) (.node (o61v6 P) (.node (o93v8 P) (.node (o157v109 P) .nil .nil) .nil) (.node (o125v204 P) .nil .nil)))))) (.node (boot_o_2 P) (.node (boot_o_4 P) (.node (boot_o_8 P) (.node (o16v6 P) (.node (o32v6 P) (.node (o64v6 P) (.node (o128v105 P) .nil .nil) .nil) (.node (o96v8 P) (.node (o160v209 P) .nil .nil) .nil)) (.node (o48v6 P) (.node (o80v6 P) (.node (o144v108 P) .nil .nil) .nil) (.node (o112v103 P) (.node (o176v112 P) .nil .nil) .nil))) (.node (o24v6 P) (.node (o40v6 P) (.node (o72v6 P) (.node (o136v106 P) .nil .nil) .nil) (.node (o104v201 P) (.node (o168v111 P) .nil .nil) .nil)) (.node (o56v6 P) (.node (o88v7 P) (.node (o152v208 P) .nil .nil) .nil) (.node (o120v104 P) .nil .nil)))) (.node (o12v8 P) (.node (o20v6 P) (.node (o36v6 P) (.node (o68v6 P) (.node (o132v205 P) .nil .nil) .nil) (.node (o100v101 P) (.node (o164v110 P) .nil .nil) .nil)) (.node (o52v6 P) (.node (o84v6 P) (.node (o148v108 P) .nil .nil) .nil) (.node (o116v104 P) (.node (o180v212 P) .nil .nil) .nil))) (.node (o28v6 P) (.node (o44v6 P) (.node (o76v6 P) (.node (o140v107 P) .nil .nil) .nil) (.node (o108v102 P) (.node (o172v112 P) .nil .nil) .nil)) (.node (o60v6 P) (.node (o92v8 P) (.node (o156v109 P) .nil .nil) .nil) (.node (o124v204 P) .nil .nil))))) (.node (boot_o_6 P) (.node (boot_o_10 P) (.node (o18v6 P) (.node (o34v6 P) (.node (o66v6 P) (.node (o130v106 P) .nil .nil) .nil) (.node (o98v101 P) (.node (o162v110 P) .nil .nil) .nil)) (.node (o50v6 P) (.node (o82v6 P) (.node (o146v207 P) .nil .nil) .nil) (.node (o114v103 P) (.node (o178v112 P) .nil .nil) .nil))) (.node (o26v6 P) (.node (o42v6 P) (.node (o74v6 P) (.node (o138v206 P) .nil .nil) .nil) (.node (o106v102 P) (.node (o170v111 P) .nil .nil) .nil)) (.node (o58v6 P) (.node (o90v7 P) (.node (o154v109 P) .nil .nil) .nil) (.node (o122v104 P) .nil .nil)))) (.node (o14v1 P) (.node (o22v6 P) (.node (o38v6 P) (.node (o70v6 P) (.node (o134v106 P) .nil .nil) .nil) (.node (o102v102 P) (.node (o166v210 P) .nil .nil) .nil)) (.node (o54v6 P) (.node (o86v7 P) (.node (o150v108 P) .nil .nil) .nil) (.node (o118v203 P) .nil .nil))) (.node (o30v6 P) (.node (o46v6 P) (.node (o78v6 P) (.node (o142v107 P) .nil .nil) .nil) (.node (o110v202 P) (.node (o174v211 P) .nil .nil) .nil)) (.node (o62v6 P) (.node (o94v8 P) (.node (o158v110 P) .nil .nil) .nil) (.node (o126v105 P) .nil .nil)))))))
noncomputable def SD13 (P : Params) (os : OsState) (cp : Value) (O : Obj) (tk : Nat) : SharedT := ⟨TD13 P cp O, 182, {}, ⟨[.running]⟩, {}, tk, os⟩
noncomputable def o91v113 (P : Params) : Obj := ⟨(.type "tuple_iterator"), none, (.fields ⟨[(.ref 85), (.int (.ofNat 13) 0)]⟩), ⟨[]⟩⟩
noncomputable def o179v113 (P : Params) : Obj := ⟨(.type "range_iterator"), none, (.fields ⟨[(.int (.ofNat 9795) 0), (.int (.ofNat 0) 0), (.int (.ofNat 1) 0)]⟩), ⟨[]⟩⟩
noncomputable def o182v113 (P : Params) : Obj := ⟨(.type "tuple_iterator"), none, (.fields ⟨[.none, (.int (.ofNat 2) 0)]⟩), ⟨[]⟩⟩
noncomputable def o183v113 (P : Params) : Obj := ⟨(.type "tuple"), none, (.seq ⟨[]⟩ 0), ⟨[]⟩⟩
noncomputable def o184v113 (P : Params) : Obj := ⟨(.type "StopIteration"), none, (.fields ⟨[(.ref 183), .none, .none, .none, (.bool false), .none]⟩), ⟨[]⟩⟩
noncomputable def o185v113 (P : Params) : Obj := ⟨(.type "range"), none, (.fields ⟨[(.int (.ofNat 9800) 292), (.int (.ofNat 9812) 557), (.int (.ofNat 1) 558)]⟩), ⟨[]⟩⟩
noncomputable def TA13 (P : Params) (c r : Int) (cp : Value) (O : Obj) : BT := (.node (boot_o_0 P) (.node (boot_o_1 P) (.node (o3v7 P) (.node (boot_o_7 P) (.node (o15v6 P) (.node (o31v6 P) (.node (o63v6 P) (.node (o127v105 P) .nil .nil) .nil) (.node (d95 P (.int (.ofNat 9800) 292) (.int (.ofNat 9811) 293) cp) (.node (o159v209 P) .nil .nil) .nil)) (.node (o47v6 P) (.node (o79v6 P) (.node (o143v107 P) .nil .nil) .nil) (.node (o111v202 P) (.node (o175v112 P) .nil .nil) .nil))) (.node (o23v6 P) (.node (o39v6 P) (.node (o71v6 P) (.node (o135v106 P) .nil .nil) .nil) (.node (o103v201 P) (.node (o167v210 P) .nil .nil) .nil)) (.node (o55v6 P) (.node (o87v7 P) (.node (o151v109 P) .nil .nil) .nil) (.node (o119v104 P) (.node (o183v113 P) .nil .nil) .nil)))) (.node (o11v1 P) (.node (o19v6 P) (.node (o35v6 P) (.node (o67v6 P) (.node (o131v205 P) .nil .nil) .nil) (.node (o99v101 P) (.node (o163v110 P) .nil .nil) .nil)) (.node (o51v6 P) (.node (o83v6 P) (.node (o147v108 P) .nil .nil) .nil) (.node (o115v103 P) (.node (o179v113 P) .nil .nil) .nil))) (.node (o27v6 P) (.node (o43v6 P) (.node (o75v6 P) (.node (o139v206 P) .nil .nil) .nil) (.node (o107v102 P) (.node (o171v111 P) .nil .nil) .nil)) (.node (o59v6 P) (.node (o91v113 P) (.node (o155v109 P) .nil .nil) .nil) (.node (o123v105 P) .nil .nil))))) (.node (boot_o_5 P) (.node (boot_o_9 P) (.node (o17v6 P) (.node (o33v6 P) (.node (o65v6 P) (.node (o129v105 P) .nil .nil) .nil) (.node O (.node (o161v110 P) .nil .nil) .nil)) (.node (o49v6 P) (.node (o81v6 P) (.node (o145v207 P) .nil .nil) .nil) (.node (o113v103 P) (.node (o177v112 P) .nil .nil) .nil))) (.node (o25v6 P) (.node (o41v6 P) (.node (o73v6 P) (.node (o137v107 P) .nil .nil) .nil) (.node (o105v102 P) (.node (o169v111 P) .nil .nil) .nil)) (.node (o57v6 P) (.node (o89v7 P) (.node (o153v208 P) .nil .nil) .nil) (.node (o121v104 P) (.node (o185v113 P) .nil .nil) .nil)))) (.node (o13v1 P) (.node (o21v6 P) (.node (o37v6 P) (.node (o69v6 P) (.node (o133v106 P) .nil .nil) .nil) (.node (o101v101 P) (.node (o165v111 P) .nil .nil) .nil)) (.node (o53v6 P) (.node (o85v6 P) (.node (o149v108 P) .nil .nil) .nil) (.node (o117v203 P) (.node (o181v212 P) .nil .nil) .nil))) (.node (o29v6 P) (.node (o45v6 P) (.node (o77v6 P) (.node (o141v107 P) .nil .nil) .nil) (.node (o109v103 P) (.node (o173v211 P) .nil .nil) .nil)) (.node (o61v6 P) (.node (o93v8 P) (.node (o157v109 P) .nil .nil) .nil) (.node (o125v204 P) .nil .nil)))))) (.node (boot_o_2 P) (.node (boot_o_4 P) (.node (boot_o_8 P) (.node (o16v6 P) (.node (o32v6 P) (.node (o64v6 P) (.node (o128v105 P) .nil .nil) .nil) (.node (o96v8 P) (.node (o160v209 P) .nil .nil) .nil)) (.node (o48v6 P) (.node (o80v6 P) (.node (o144v108 P) .nil .nil) .nil) (.node (o112v103 P) (.node (o176v112 P) .nil .nil) .nil))) (.node (o24v6 P) (.node (o40v6 P) (.node (o72v6 P) (.node (o136v106 P) .nil .nil) .nil) (.node (o104v201 P) (.node (o168v111 P) .nil .nil) .nil)) (.node (o56v6 P) (.node (o88v7 P) (.node (o152v208 P) .nil .nil) .nil) (.node (o120v104 P) (.node (o184v113 P) .nil .nil) .nil)))) (.node (o12v8 P) (.node (o20v6 P) (.node (o36v6 P) (.node (o68v6 P) (.node (o132v205 P) .nil .nil) .nil) (.node (o100v101 P) (.node (o164v110 P) .nil .nil) .nil)) (.node (o52v6 P) (.node (o84v6 P) (.node (o148v108 P) .nil .nil) .nil) (.node (o116v104 P) (.node (o180v212 P) .nil .nil) .nil))) (.node (o28v6 P) (.node (o44v6 P) (.node (o76v6 P) (.node (o140v107 P) .nil .nil) .nil) (.node (o108v102 P) (.node (o172v112 P) .nil .nil) .nil)) (.node (o60v6 P) (.node (o92v8 P) (.node (o156v109 P) .nil .nil) .nil) (.node (o124v204 P) .nil .nil))))) (.node (boot_o_6 P) (.node (boot_o_10 P) (.node (o18v6 P) (.node (o34v6 P) (.node (o66v6 P) (.node (o130v106 P) .nil .nil) .nil) (.node (o98v101 P) (.node (o162v110 P) .nil .nil) .nil)) (.node (o50v6 P) (.node (o82v6 P) (.node (o146v207 P) .nil .nil) .nil) (.node (o114v103 P) (.node (o178v112 P) .nil .nil) .nil))) (.node (o26v6 P) (.node (o42v6 P) (.node (o74v6 P) (.node (o138v206 P) .nil .nil) .nil) (.node (o106v102 P) (.node (o170v111 P) .nil .nil) .nil)) (.node (o58v6 P) (.node (o90v7 P) (.node (o154v109 P) .nil .nil) .nil) (.node (o122v104 P) (.node (rit c r) .nil .nil) .nil)))) (.node (o14v1 P) (.node (o22v6 P) (.node (o38v6 P) (.node (o70v6 P) (.node (o134v106 P) .nil .nil) .nil) (.node (o102v102 P) (.node (o166v210 P) .nil .nil) .nil)) (.node (o54v6 P) (.node (o86v7 P) (.node (o150v108 P) .nil .nil) .nil) (.node (o118v203 P) (.node (o182v113 P) .nil .nil) .nil))) (.node (o30v6 P) (.node (o46v6 P) (.node (o78v6 P) (.node (o142v107 P) .nil .nil) .nil) (.node (o110v202 P) (.node (o174v211 P) .nil .nil) .nil)) (.node (o62v6 P) (.node (o94v8 P) (.node (o158v110 P) .nil .nil) .nil) (.node (o126v105 P) .nil .nil)))))))
noncomputable def SA13 (P : Params) (os : OsState) (c r : Int) (cp : Value) (O : Obj) (tk : Nat) : SharedT := ⟨TA13 P c r cp O, 187, {}, ⟨[.running]⟩, {}, tk, os⟩
noncomputable def o187v213 (P : Params) : Obj := ⟨(.type "tuple"), none, (.seq ⟨[]⟩ 0), ⟨[]⟩⟩
noncomputable def o188v213 (P : Params) : Obj := ⟨(.type "StopIteration"), none, (.fields ⟨[(.ref 187), .none, .none, .none, (.bool false), .none]⟩), ⟨[]⟩⟩
noncomputable def TD14 (P : Params) (cp : Value) (O : Obj) : BT := (.node (boot_o_0 P) (.node (boot_o_1 P) (.node (o3v7 P) (.node (boot_o_7 P) (.node (o15v6 P) (.node (o31v6 P) (.node (o63v6 P) (.node (o127v105 P) .nil .nil) .nil) (.node (d95 P (.int (.ofNat 9800) 292) (.int (.ofNat 9811) 293) cp) (.node (o159v209 P) .nil .nil) .nil)) (.node (o47v6 P) (.node (o79v6 P) (.node (o143v107 P) .nil .nil) .nil) (.node (o111v202 P) (.node (o175v112 P) .nil .nil) .nil))) (.node (o23v6 P) (.node (o39v6 P) (.node (o71v6 P) (.node (o135v106 P) .nil .nil) .nil) (.node (o103v201 P) (.node (o167v210 P) .nil .nil) .nil)) (.node (o55v6 P) (.node (o87v7 P) (.node (o151v109 P) .nil .nil) .nil) (.node (o119v104 P) (.node (o183v113 P) .nil .nil) .nil)))) (.node (o11v1 P) (.node (o19v6 P) (.node (o35v6 P) (.node (o67v6 P) (.node (o131v205 P) .nil .nil) .nil) (.node (o99v101 P) (.node (o163v110 P) .nil .nil) .nil)) (.node (o51v6 P) (.node (o83v6 P) (.node (o147v108 P) .nil .nil) .nil) (.node (o115v103 P) (.node (o179v113 P) .nil .nil) .nil))) (.node (o27v6 P) (.node (o43v6 P) (.node (o75v6 P) (.node (o139v206 P) .nil .nil) .nil) (.node (o107v102 P) (.node (o171v111 P) .nil .nil) .nil)) (.node (o59v6 P) (.node (o91v113 P) (.node (o155v109 P) .nil .nil) .nil) (.node (o123v105 P) (.node (o187v213 P) .nil .nil) .nil))))) (.node (boot_o_5 P) (.node (boot_o_9 P) (.node (o17v6 P) (.node (o33v6 P) (.node (o65v6 P) (.node (o129v105 P) .nil .nil) .nil) (.node O (.node (o161v110 P) .nil .nil) .nil)) (.node (o49v6 P) (.node (o81v6 P) (.node (o145v207 P) .nil .nil) .nil) (.node (o113v103 P) (.node (o177v112 P) .nil .nil) .nil))) (.node (o25v6 P) (.node (o41v6 P) (.node (o73v6 P) (.node (o137v107 P) .nil .nil) .nil) (.node (o105v102 P) (.node (o169v111 P) .nil .nil) .nil)) (.node (o57v6 P) (.node (o89v7 P) (.node (o153v208 P) .nil .nil) .nil) (.node (o121v104 P) (.node (o185v113 P) .nil .nil) .nil)))) (.node (o13v1 P) (.node (o21v6 P) (.node (o37v6 P) (.node (o69v6 P) (.node (o133v106 P) .nil .nil) .nil) (.node (o101v101 P) (.node (o165v111 P) .nil .nil) .nil)) (.node (o53v6 P) (.node (o85v6 P) (.node (o149v108 P) .nil .nil) .nil) (.node (o117v203 P) (.node (o181v212 P) .nil .nil) .nil))) (.node (o29v6 P) (.node (o45v6 P) (.node (o77v6 P) (.node (o141v107 P) .nil .nil) .nil) (.node (o109v103 P) (.node (o173v211 P) .nil .nil) .nil)) (.node (o61v6 P) (.node (o93v8 P) (.node (o157v109 P) .nil .nil) .nil) (.node (o125v204 P) .nil .nil)))))) (.node (boot_o_2 P) (.node (boot_o_4 P) (.node (boot_o_8 P) (.node (o16v6 P) (.node (o32v6 P) (.node (o64v6 P) (.node (o128v105 P) .nil .nil) .nil) (.node (o96v8 P) (.node (o160v209 P) .nil .nil) .nil)) (.node (o48v6 P) (.node (o80v6 P) (.node (o144v108 P) .nil .nil) .nil) (.node (o112v103 P) (.node (o176v112 P) .nil .nil) .nil))) (.node (o24v6 P) (.node (o40v6 P) (.node (o72v6 P) (.node (o136v106 P) .nil .nil) .nil) (.node (o104v201 P) (.node (o168v111 P) .nil .nil) .nil)) (.node (o56v6 P) (.node (o88v7 P) (.node (o152v208 P) .nil .nil) .nil) (.node (o120v104 P) (.node (o184v113 P) .nil .nil) .nil)))) (.node (o12v8 P) (.node (o20v6 P) (.node (o36v6 P) (.node (o68v6 P) (.node (o132v205 P) .nil .nil) .nil) (.node (o100v101 P) (.node (o164v110 P) .nil .nil) .nil)) (.node (o52v6 P) (.node (o84v6 P) (.node (o148v108 P) .nil .nil) .nil) (.node (o116v104 P) (.node (o180v212 P) .nil .nil) .nil))) (.node (o28v6 P) (.node (o44v6 P) (.node (o76v6 P) (.node (o140v107 P) .nil .nil) .nil) (.node (o108v102 P) (.node (o172v112 P) .nil .nil) .nil)) (.node (o60v6 P) (.node (o92v8 P) (.node (o156v109 P) .nil .nil) .nil) (.node (o124v204 P) (.node (o188v213 P) .nil .nil) .nil))))) (.node (boot_o_6 P) (.node (boot_o_10 P) (.node (o18v6 P) (.node (o34v6 P) (.node (o66v6 P) (.node (o130v106 P) .nil .nil) .nil) (.node (o98v101 P) (.node (o162v110 P) .nil .nil) .nil)) (.node (o50v6 P) (.node (o82v6 P) (.node (o146v207 P) .nil .nil) .nil) (.node (o114v103 P) (.node (o178v112 P) .nil .nil) .nil))) (.node (o26v6 P) (.node (o42v6 P) (.node (o74v6 P) (.node (o138v206 P) .nil .nil) .nil) (.node (o106v102 P) (.node (o170v111 P) .nil .nil) .nil)) (.node (o58v6 P) (.node (o90v7 P) (.node (o154v109 P) .nil .nil) .nil) (.node (o122v104 P) (.node (rit (.ofNat 9812) (.ofNat 0)) .nil .nil) .nil)))) (.node (o14v1 P) (.node (o22v6 P) (.node (o38v6 P) (.node (o70v6 P) (.node (o134v106 P) .nil .nil) .nil) (.node (o102v102 P) (.node (o166v210 P) .nil .nil) .nil)) (.node (o54v6 P) (.node (o86v7 P) (.node (o150v108 P) .nil .nil) .nil) (.node (o118v203 P) (.node (o182v113 P) .nil .nil) .nil))) (.node (o30v6 P) (.node (o46v6 P) (.node (o78v6 P) (.node (o142v107 P) .nil .nil) .nil) (.node (o110v202 P) (.node (o174v211 P) .nil .nil) .nil)) (.node (o62v6 P) (.node (o94v8 P) (.node (o158v110 P) .nil .nil) .nil) (.node (o126v105 P) .nil .nil)))))))
noncomputable def SD14 (P : Params) (os : OsState) (cp : Value) (O : Obj) (tk : Nat) : SharedT := ⟨TD14 P cp O, 189, {}, ⟨[.running]⟩, {}, tk, os⟩
noncomputable def o91v114 (P : Params) : Obj := ⟨(.type "tuple_iterator"), none, (.fields ⟨[(.ref 85), (.int (.ofNat 14) 0)]⟩), ⟨[]⟩⟩
noncomputable def o186v114 (P : Params) : Obj := ⟨(.type "range_iterator"), none, (.fields ⟨[(.int (.ofNat 9812) 0), (.int (.ofNat 0) 0), (.int (.ofNat 1) 0)]⟩), ⟨[]⟩⟩
noncomputable def o189v114 (P : Params) : Obj := ⟨(.type "tuple_iterator"), none, (.fields ⟨[.none, (.int (.ofNat 2) 0)]⟩), ⟨[]⟩⟩
noncomputable def o190v114 (P : Params) : Obj := ⟨(.type "tuple"), none, (.seq ⟨[]⟩ 0), ⟨[]⟩⟩
noncomputable def o191v114 (P : Params) : Obj := ⟨(.type "StopIteration"), none, (.fields ⟨[(.ref 190), .none, .none, .none, (.bool false), .none]⟩), ⟨[]⟩⟩
noncomputable def o192v114 (P : Params) : Obj := ⟨(.type "range"), none, (.fields ⟨[(.int (.ofNat 9975) 294), (.int (.ofNat 9979) 598), (.int (.ofNat 1) 599)]⟩), ⟨[]⟩⟩
noncomputable def TA14 (P : Params) (c r : Int) (cp : Value) (O : Obj) : BT := (.node (boot_o_0 P) (.node (boot_o_1 P) (.node (o3v7 P) (.node (boot_o_7 P) (.node (o15v6 P) (.node (o31v6 P) (.node (o63v6 P) (.node (o127v105 P) .nil .nil) (.node (o191v114 P) .nil .nil)) (.node (d95 P (.int (.ofNat 9975) 294) (.int (.ofNat 9978) 295) cp) (.node (o159v209 P) .nil .nil) .nil)) (.node (o47v6 P) (.node (o79v6 P) (.node (o143v107 P) .nil .nil) .nil) (.node (o111v202 P) (.node (o175v112 P) .nil .nil) .nil))) (.node (o23v6 P) (.node (o39v6 P) (.node (o71v6 P) (.node (o135v106 P) .nil .nil) .nil) (.node (o103v201 P) (.node (o167v210 P) .nil .nil) .nil)) (.node (o55v6 P) (.node (o87v7 P) (.node (o151v109 P) .nil .nil) .nil) (.node (o119v104 P) (.node (o183v113 P) .nil .nil) .nil)))) (.node (o11v1 P) (.node (o19v6 P) (.node (o35v6 P) (.node (o67v6 P) (.node (o131v205 P) .nil .nil) .nil) (.node (o99v101 P) (.node (o163v110 P) .nil .nil) .nil)) (.node (o51v6 P) (.node (o83v6 P) (.node (o147v108 P) .nil .nil) .nil) (.node (o115v103 P) (.node (o179v113 P) .nil .nil) .nil))) (.node (o27v6 P) (.node (o43v6 P) (.node (o75v6 P) (.node (o139v206 P) .nil .nil) .nil) (.node (o107v102 P) (.node (o171v111 P) .nil .nil) .nil)) (.node (o59v6 P) (.node (o91v114 P) (.node (o155v109 P) .nil .nil) .nil) (.node (o123v105 P) (.node (o187v213 P) .nil .nil) .nil))))) (.node (boot_o_5 P) (.node (boot_o_9 P) (.node (o17v6 P) (.node (o33v6 P) (.node (o65v6 P) (.node (o129v105 P) .nil .nil) (.node (rit c r) .nil .nil)) (.node O (.node (o161v110 P) .nil .nil) .nil)) (.node (o49v6 P) (.node (o81v6 P) (.node (o145v207 P) .nil .nil) .nil) (.node (o113v103 P) (.node (o177v112 P) .nil .nil) .nil))) (.node (o25v6 P) (.node (o41v6 P) (.node (o73v6 P) (.node (o137v107 P) .nil .nil) .nil) (.node (o105v102 P) (.node (o169v111 P) .nil .nil) .nil)) (.node (o57v6 P) (.node (o89v7 P) (.node (o153v208 P) .nil .nil) .nil) (.node (o121v104 P) (.node (o185v113 P) .nil .nil) .nil)))) (.node (o13v1 P) (.node (o21v6 P) (.node (o37v6 P) (.node (o69v6 P) (.node (o133v106 P) .nil .nil) .nil) (.node (o101v101 P) (.node (o165v111 P) .nil .nil) .nil)) (.node (o53v6 P) (.node (o85v6 P) (.node (o149v108 P) .nil .nil) .nil) (.node (o117v203 P) (.node (o181v212 P) .nil .nil) .nil))) (.node (o29v6 P) (.node (o45v6 P) (.node (o77v6 P) (.node (o141v107 P) .nil .nil) .nil) (.node (o109v103 P) (.node (o173v211 P) .nil .nil) .nil)) (.node (o61v6 P) (.node (o93v8 P) (.node (o157v109 P) .nil .nil) .nil) (.node (o125v204 P) (.node (o189v114 P) .nil .nil) .nil)))))) (.node (boot_o_2 P) (.node (boot_o_4 P) (.node (boot_o_8 P) (.node (o16v6 P) (.node (o32v6 P) (.node (o64v6 P) (.node (o128v105 P) .nil .nil) (.node (o192v114 P) .nil .nil)) (.node (o96v8 P) (.node (o160v209 P) .nil .nil) .nil)) (.node (o48v6 P) (.node (o80v6 P) (.node (o144v108 P) .nil .nil) .nil) (.node (o112v103 P) (.node (o176v112 P) .nil .nil) .nil))) (.node (o24v6 P) (.node (o40v6 P) (.node (o72v6 P) (.node (o136v106 P) .nil .nil) .nil) (.node (o104v201 P) (.node (o168v111 P) .nil .nil) .nil)) (.node (o56v6 P) (.node (o88v7 P) (.node (o152v208 P) .nil .nil) .nil) (.node (o120v104 P) (.node (o184v113 P) .nil .nil) .nil)))) (.node (o12v8 P) (.node (o20v6 P) (.node (o36v6 P) (.node (o68v6 P) (.node (o132v205 P) .nil .nil) .nil) (.node (o100v101 P) (.node (o164v110 P) .nil .nil) .nil)) (.node (o52v6 P) (.node (o84v6 P) (.node (o148v108 P) .nil .nil) .nil) (.node (o116v104 P) (.node (o180v212 P) .nil .nil) .nil))) (.node (o28v6 P) (.node (o44v6 P) (.node (o76v6 P) (.node (o140v107 P) .nil .nil) .nil) (.node (o108v102 P) (.node (o172v112 P) .nil .nil) .nil)) (.node (o60v6 P) (.node (o92v8 P) (.node (o156v109 P) .nil .nil) .nil) (.node (o124v204 P) (.node (o188v213 P) .nil .nil) .nil))))) (.node (boot_o_6 P) (.node (boot_o_10 P) (.node (o18v6 P) (.node (o34v6 P) (.node (o66v6 P) (.node (o130v106 P) .nil .nil) .nil) (.node (o98v101 P) (.node (o162v110 P) .nil .nil) .nil)) (.node (o50v6 P) (.node (o82v6 P) (.node (o146v207 P) .nil .nil) .nil) (.node (o114v103 P) (.node (o178v112 P) .nil .nil) .nil))) (.node (o26v6 P) (.node (o42v6 P) (.node (o74v6 P) (.node (o138v206 P) .nil .nil) .nil) (.node (o106v102 P) (.node (o170v111 P) .nil .nil) .nil)) (.node (o58v6 P) (.node (o90v7 P) (.node (o154v109 P) .nil .nil) .nil) (.node (o122v104 P) (.node (o186v114 P) .nil .nil) .nil)))) (.node (o14v1 P) (.node (o22v6 P) (.node (o38v6 P) (.node (o70v6 P) (.node (o134v106 P) .nil .nil) .nil) (.node (o102v102 P) (.node (o166v210 P) .nil .nil) .nil)) (.node (o54v6 P) (.node (o86v7 P) (.node (o150v108 P) .nil .nil) .nil) (.node (o118v203 P) (.node (o182v113 P) .nil .nil) .nil))) (.node (o30v6 P) (.node (o46v6 P) (.node (o78v6 P) (.node (o142v107 P) .nil .nil) .nil) (.node (o110v202 P) (.node (o174v211 P) .nil .nil) .nil)) (.node (o62v6 P) (.node (o94v8 P) (.node (o158v110 P) .nil .nil) .nil) (.node (o126v105 P) (.node (o190v114 P) .nil .nil) .nil)))))))
noncomputable def SA14 (P : Params) (os : OsState) (c r : Int) (cp : Value) (O : Obj) (tk : Nat) : SharedT := ⟨TA14 P c r cp O, 194, {}, ⟨[.running]⟩, {}, tk, os⟩
noncomputable def o194v214 (P : Params) : Obj := ⟨(.type "tuple"), none, (.seq ⟨[]⟩ 0), ⟨[]⟩⟩
noncomputable def o195v214 (P : Params) : Obj := ⟨(.type "StopIteration"), none, (.fields ⟨[(.ref 194), .none, .none, .none, (.bool false), .none]⟩), ⟨[]⟩⟩
noncomputable def TD15 (P : Params) (cp : Value) (O : Obj) : BT := (.node (boot_o_0 P) (.node (boot_o_1 P) (.node (o3v7 P) (.node (boot_o_7 P) (.node (o15v6 P) (.node (o31v6 P) (.node (o63v6 P) (.node (o127v105 P) .nil .nil) (.node (o191v114 P) .nil .nil)) (.node (d95 P (.int (.ofNat 9975) 294) (.int (.ofNat 9978) 295) cp) (.node (o159v209 P) .nil .nil) .nil)) (.node (o47v6 P) (.node (o79v6 P) (.node (o143v107 P) .nil .nil) .nil) (.node (o111v202 P) (.node (o175v112 P) .nil .nil) .nil))) (.node (o23v6 P) (.node (o39v6 P) (.node (o71v6 P) (.node (o135v106 P) .nil .nil) .nil) (.node (o103v201 P) (.node (o167v210 P) .nil .nil) .nil)) (.node (o55v6 P) (.node (o87v7 P) (.node (o151v109 P) .nil .nil) .nil) (.node (o119v104 P) (.node (o183v113 P) .nil .nil) .nil)))) (.node (o11v1 P) (.node (o19v6 P) (.node (o35v6 P) (.node (o67v6 P) (.node (o131v205 P) .nil .nil) (.node (o195v214 P) .nil .nil)) (.node (o99v101 P) (.node (o163v110 P) .nil .nil) .nil)) (.node (o51v6 P) (.node (o83v6 P) (.node (o147v108 P) .nil .nil) .nil) (.node (o115v103 P) (.node (o179v113 P) .nil .nil) .nil))) (.node (o27v6 P) (.node (o43v6 P) (.node (o75v6 P) (.node (o139v206 P) .nil .nil) .nil) (.node (o107v102 P) (.node (o171v111 P) .nil .nil) .nil)) (.node (o59v6 P) (.node (o91v114 P) (.node (o155v109 P) .nil .nil) .nil) (.node (o123v105 P) (.node (o187v213 P) .nil .nil) .nil))))) (.node (boot_o_5 P) (.node (boot_o_9 P) (.node (o17v6 P) (.node (o33v6 P) (.node (o65v6 P) (.node (o129v105 P) .nil .nil) (.node (rit (.ofNat 9979) (.ofNat 0)) .nil .nil)) (.node O (.node (o161v110 P) .nil .nil) .nil)) (.node (o49v6 P) (.node (o81v6 P) (.node (o145v207 P) .nil .nil) .nil) (.node (o113v103 P) (.node (o177v112 P) .nil .nil) .nil))) (.node (o25v6 P) (.node (o41v6 P) (.node (o73v6 P) (.node (o137v107 P) .nil .nil) .nil) (.node (o105v102 P) (.node (o169v111 P) .nil .nil) .nil)) (.node (o57v6 P) (.node (o89v7 P) (.node (o153v208 P) .nil .nil) .nil) (.node (o121v104 P) (.node (o185v113 P) .nil .nil) .nil)))) (.node (o13v1 P) (.node (o21v6 P) (.node (o37v6 P) (.node (o69v6 P) (.node (o133v106 P) .nil .nil) .nil) (.node (o101v101 P) (.node (o165v111 P) .nil .nil) .nil)) (.node (o53v6 P) (.node (o85v6 P) (.node (o149v108 P) .nil .nil) .nil) (.node (o117v203 P) (.node (o181v212 P) .nil .nil) .nil))) (.node (o29v6 P) (.node (o45v6 P) (.node (o77v6 P) (.node (o141v107 P) .nil .nil) .nil) (.node (o109v103 P) (.node (o173v211 P) .nil .nil) .nil)) (.node (o61v6 P) (.node (o93v8 P) (.node (o157v109 P) .nil .nil) .nil) (.node (o125v204 P) (.node (o189v114 P) .nil .nil) .nil)))))) (.node (boot_o_2 P) (.node (boot_o_4 P) (.node (boot_o_8 P) (.node (o16v6 P) (.node (o32v6 P) (.node (o64v6 P) (.node (o128v105 P) .nil .nil) (.node (o192v114 P) .nil .nil)) (.node (o96v8 P) (.node (o160v209 P) .nil .nil) .nil)) (.node (o48v6 P) (.node (o80v6 P) (.node (o144v108 P) .nil .nil) .nil) (.node (o112v103 P) (.node (o176v112 P) .nil .nil) .nil))) (.node (o24v6 P) (.node (o40v6 P) (.node (o72v6 P) (.node (o136v106 P) .nil .nil) .nil) (.node (o104v201 P) (.node (o168v111 P) .nil .nil) .nil)) (.node (o56v6 P) (.node (o88v7 P) (.node (o152v208 P) .nil .nil) .nil) (.node (o120v104 P) (.node (o184v113 P) .nil .nil) .nil)))) (.node (o12v8 P) (.node (o20v6 P) (.node (o36v6 P) (.node (o68v6 P) (.node (o132v205 P) .nil .nil) .nil) (.node (o100v101 P) (.node (o164v110 P) .nil .nil) .nil)) (.node (o52v6 P) (.node (o84v6 P) (.node (o148v108 P) .nil .nil) .nil) (.node (o116v104 P) (.node (o180v212 P) .nil .nil) .nil))) (.node (o28v6 P) (.node (o44v6 P) (.node (o76v6 P) (.node (o140v107 P) .nil .nil) .nil) (.node (o108v102 P) (.node (o172v112 P) .nil .nil) .nil)) (.node (o60v6 P) (.node (o92v8 P) (.node (o156v109 P) .nil .nil) .nil) (.node (o124v204 P) (.node (o188v213 P) .nil .nil) .nil))))) (.node (boot_o_6 P) (.node (boot_o_10 P) (.node (o18v6 P) (.node (o34v6 P) (.node (o66v6 P) (.node (o130v106 P) .nil .nil) (.node (o194v214 P) .nil .nil)) (.node (o98v101 P) (.node (o162v110 P) .nil .nil) .nil)) (.node (o50v6 P) (.node (o82v6 P) (.node (o146v207 P) .nil .nil) .nil) (.node (o114v103 P) (.node (o178v112 P) .nil .nil) .nil))) (.node (o26v6 P) (.node (o42v6 P) (.node (o74v6 P) (.node (o138v206 P) .nil .nil) .nil) (.node (o106v102 P) (.node (o170v111 P) .nil .nil) .nil)) (.node (o58v6 P) (.node (o90v7 P) (.node (o154v109 P) .nil .nil) .nil) (.node (o122v104 P) (.node (o186v114 P) .nil .nil) .nil)))) (.node (o14v1 P) (.node (o22v6 P) (.node (o38v6 P) (.node (o70v6 P) (.node (o134v106 P) .nil .nil) .nil) (.node (o102v102 P) (.node (o166v210 P) .nil .nil) .nil)) (.node (o54v6 P) (.node (o86v7 P) (.node (o150v108 P) .nil .nil) .nil) (.node (o118v203 P) (.node (o182v113 P) .nil .nil) .nil))) (.node (o30v6 P) (.node (o46v6 P) (.node (o78v6 P) (.node (o142v107 P) .nil .nil) .nil) (.node (o110v202 P) (.node (o174v211 P) .nil .nil) .nil)) (.node (o62v6 P) (.node (o94v8 P) (.node (o158v110 P) .nil .nil) .nil) (.node (o126v105 P) (.node (o190v114 P) .nil .nil) .nil)))))))
noncomputable def SD15 (P : Params) (os : OsState) (cp : Value) (O : Obj) (tk : Nat) : SharedT := ⟨TD15 P cp O, 196, {}, ⟨[.running]⟩, {}, tk, os⟩
noncomputable def o91v115 (P : Params) : Obj := ⟨(.type "tuple_iterator"), none, (.fields ⟨[(.ref 85), (.int (.ofNat 15) 0)]⟩), ⟨[]⟩⟩
noncomputable def o193v115 (P : Params) : Obj := ⟨(.type "range_iterator"), none, (.fields ⟨[(.int (.ofNat 9979) 0), (.int (.ofNat 0) 0), (.int (.ofNat 1) 0)]⟩), ⟨[]⟩⟩
noncomputable def o196v115 (P : Params) : Obj := ⟨(.type "tuple_iterator"), none, (.fields ⟨[.none, (.int (.ofNat 2) 0)]⟩), ⟨[]⟩⟩
noncomputable def o197v115 (P : Params) : Obj := ⟨(.type "tuple"), none, (.seq ⟨[]⟩ 0), ⟨[]⟩⟩
noncomputable def o198v115 (P : Params) : Obj := ⟨(.type "StopIteration"), none, (.fields ⟨[(.ref 197), .none, .none, .none, (.bool false), .none]⟩), ⟨[]⟩⟩
noncomputable def o199v115 (P : Params) : Obj := ⟨(.type "range"), none, (.fields ⟨[(.int (.ofNat 9992) 296), (.int (.ofNat 9998) 615), (.int (.ofNat 1) 616)]⟩), ⟨[]⟩⟩
noncomputable def TA15 (P : Params) (c r : Int) (cp : Value) (O : Obj) : BT := (.node (boot_o_0 P) (.node (boot_o_1 P) (.node (o3v7 P) (.node (boot_o_7 P) (.node (o15v6 P) (.node (o31v6 P) (.node (o63v6 P) (.node (o127v105 P) .nil .nil) (.node (o191v114 P) .nil .nil)) (.node (d95 P (.int (.ofNat 9992) 296) (.int (.ofNat 9997) 297) cp) (.node (o159v209 P) .nil .nil) .nil)) (.node (o47v6 P) (.node (o79v6 P) (.node (o143v107 P) .nil .nil) .nil) (.node (o111v202 P) (.node (o175v112 P) .nil .nil) .nil))) (.node (o23v6 P) (.node (o39v6 P) (.node (o71v6 P) (.node (o135v106 P) .nil .nil) (.node (o199v115 P) .nil .nil)) (.node (o103v201 P) (.node (o167v210 P) .nil .nil) .nil)) (.node (o55v6 P) (.node (o87v7 P) (.node (o151v109 P) .nil .nil) .nil) (.node (o119v104 P) (.node (o183v113 P) .nil .nil) .nil)))) (.node (o11v1 P) (.node (o19v6 P) (.node (o35v6 P) (.node (o67v6 P) (.node (o131v205 P) .nil .nil) (.node (o195v214 P) .nil .nil)) (.node (o99v101 P) (.node (o163v110 P) .nil .nil) .nil)) (.node (o51v6 P) (.node (o83v6 P) (.node (o147v108 P) .nil .nil) .nil) (.node (o115v103 P) (.node (o179v113 P) .nil .nil) .nil))) (.node (o27v6 P) (.node (o43v6 P) (.node (o75v6 P) (.node (o139v206 P) .nil .nil) .nil) (.node (o107v102 P) (.node (o171v111 P) .nil .nil) .nil)) (.node (o59v6 P) (.node (o91v115 P) (.node (o155v109 P) .nil .nil) .nil) (.node (o123v105 P) (.node (o187v213 P) .nil .nil) .nil))))) (.node (boot_o_5 P) (.node (boot_o_9 P) (.node (o17v6 P) (.node (o33v6 P) (.node (o65v6 P) (.node (o129v105 P) .nil .nil) (.node (o193v115 P) .nil .nil)) (.node O (.node (o161v110 P) .nil .nil) .nil)) (.node (o49v6 P) (.node (o81v6 P) (.node (o145v207 P) .nil .nil) .nil) (.node (o113v103 P) (.node (o177v112 P) .nil .nil) .nil))) (.node (o25v6 P) (.node (o41v6 P) (.node (o73v6 P) (.node (o137v107 P) .nil .nil) .nil) (.node (o105v102 P) (.node (o169v111 P) .nil .nil) .nil)) (.node (o57v6 P) (.node (o89v7 P) (.node (o153v208 P) .nil .nil) .nil) (.node (o121v104 P) (.node (o185v113 P) .nil .nil) .nil)))) (.node (o13v1 P) (.node (o21v6 P) (.node (o37v6 P) (.node (o69v6 P) (.node (o133v106 P) .nil .nil) (.node (o197v115 P) .nil .nil)) (.node (o101v101 P) (.node (o165v111 P) .nil .nil) .nil)) (.node (o53v6 P) (.node (o85v6 P) (.node (o149v108 P) .nil .nil) .nil) (.node (o117v203 P) (.node (o181v212 P) .nil .nil) .nil))) (.node (o29v6 P) (.node (o45v6 P) (.node (o77v6 P) (.node (o141v107 P) .nil .nil) .nil) (.node (o109v103 P) (.node (o173v211 P) .nil .nil) .nil)) (.node (o61v6 P) (.node (o93v8 P) (.node (o157v109 P) .nil .nil) .nil) (.node (o125v204 P) (.node (o189v114 P) .nil .nil) .nil)))))) (.node (boot_o_2 P) (.node (boot_o_4 P) (.node (boot_o_8 P) (.node (o16v6 P) (.node (o32v6 P) (.node (o64v6 P) (.node (o128v105 P) .nil .nil) (.node (o192v114 P) .nil .nil)) (.node (o96v8 P) (.node (o160v209 P) .nil .nil) .nil)) (.node (o48v6 P) (.node (o80v6 P) (.node (o144v108 P) .nil .nil) .nil) (.node (o112v103 P) (.node (o176v112 P) .nil .nil) .nil))) (.node (o24v6 P) (.node (o40v6 P) (.node (o72v6 P) (.node (o136v106 P) .nil .nil) (.node (rit c r) .nil .nil)) (.node (o104v201 P) (.node (o168v111 P) .nil .nil) .nil)) (.node (o56v6 P) (.node (o88v7 P) (.node (o152v208 P) .nil .nil) .nil) (.node (o120v104 P) (.node (o184v113 P) .nil .nil) .nil)))) (.node (o12v8 P) (.node (o20v6 P) (.node (o36v6 P) (.node (o68v6 P) (.node (o132v205 P) .nil .nil) (.node (o196v115 P) .nil .nil)) (.node (o100v101 P) (.node (o164v110 P) .nil .nil) .nil)) (.node (o52v6 P) (.node (o84v6 P) (.node (o148v108 P) .nil .nil) .nil) (.node (o116v104 P) (.node (o180v212 P) .nil .nil) .nil))) (.node (o28v6 P) (.node (o44v6 P) (.node (o76v6 P) (.node (o140v107 P) .nil .nil) .nil) (.node (o108v102 P) (.node (o172v112 P) .nil .nil) .nil)) (.node (o60v6 P) (.node (o92v8 P) (.node (o156v109 P) .nil .nil) .nil) (.node (o124v204 P) (.node (o188v213 P) .nil .nil) .nil))))) (.node (boot_o_6 P) (.node (boot_o_10 P) (.node (o18v6 P) (.node (o34v6 P) (.node (o66v6 P) (.node (o130v106 P) .nil .nil) (.node (o194v214 P) .nil .nil)) (.node (o98v101 P) (.node (o162v110 P) .nil .nil) .nil)) (.node (o50v6 P) (.node (o82v6 P) (.node (o146v207 P) .nil .nil) .nil) (.node (o114v103 P) (.node (o178v112 P) .nil .nil) .nil))) (.node (o26v6 P) (.node (o42v6 P) (.node (o74v6 P) (.node (o138v206 P) .nil .nil) .nil) (.node (o106v102 P) (.node (o170v111 P) .nil .nil) .nil)) (.node (o58v6 P) (.node (o90v7 P) (.node (o154v109 P) .nil .nil) .nil) (.node (o122v104 P) (.node (o186v114 P) .nil .nil) .nil)))) (.node (o14v1 P) (.node (o22v6 P) (.node (o38v6 P) (.node (o70v6 P) (.node (o134v106 P) .nil .nil) (.node (o198v115 P) .nil .nil)) (.node (o102v102 P) (.node (o166v210 P) .nil .nil) .nil)) (.node (o54v6 P) (.node (o86v7 P) (.node (o150v108 P) .nil .nil) .nil) (.node (o118v203 P) (.node (o182v113 P) .nil .nil) .nil))) (.node (o30v6 P) (.node (o46v6 P) (.node (o78v6 P) (.node (o142v107 P) .nil .nil) .nil) (.node (o110v202 P) (.node (o174v211 P) .nil .nil) .nil)) (.node (o62v6 P) (.node (o94v8 P) (.node (o158v110 P) .nil .nil) .nil) (.node (o126v105 P) (.node (o190v114 P) .nil .nil) .nil)))))))
noncomputable def SA15 (P : Params) (os : OsState) (c r : Int) (cp : Value) (O : Obj) (tk : Nat) : SharedT := ⟨TA15 P c r cp O, 201, {}, ⟨[.running]⟩, {}, tk, os⟩
noncomputable def o201v215 (P : Params) : Obj := ⟨(.type "tuple"), none, (.seq ⟨[]⟩ 0), ⟨[]⟩⟩
noncomputable def o202v215 (P : Params) : Obj := ⟨(.type "StopIteration"), none, (.fields ⟨[(.ref 201), .none, .none, .none, (.bool false), .none]⟩), ⟨[]⟩⟩
noncomputable def TD16 (P : Params) (cp : Value) (O : Obj) : BT := (.node (boot_o_0 P) (.node (boot_o_1 P) (.node (o3v7 P) (.node (boot_o_7 P) (.node (o15v6 P) (.node (o31v6 P) (.node (o63v6 P) (.node (o127v105 P) .nil .nil) (.node (o191v114 P) .nil .nil)) (.node (d95 P (.int (.ofNat 9992) 296) (.int (.ofNat 9997) 297) cp) (.node (o159v209 P) .nil .nil) .nil)) (.node (o47v6 P) (.node (o79v6 P) (.node (o143v107 P) .nil .nil) .nil) (.node (o111v202 P) (.node (o175v112 P) .nil .nil) .nil))) (.node (o23v6 P) (.node (o39v6 P) (.node (o71v6 P) (.node (o135v106 P) .nil .nil) (.node (o199v115 P) .nil .nil)) (.node (o103v201 P) (.node (o167v210 P) .nil .nil) .nil)) (.node (o55v6 P) (.node (o87v7 P) (.node (o151v109 P) .nil .nil) .nil) (.node (o119v104 P) (.node (o183v113 P) .nil .nil) .nil)))) (.node (o11v1 P) (.node (o19v6 P) (.node (o35v6 P) (.node (o67v6 P) (.node (o131v205 P) .nil .nil) (.node (o195v214 P) .nil .nil)) (.node (o99v101 P) (.node (o163v110 P) .nil .nil) .nil)) (.node (o51v6 P) (.node (o83v6 P) (.node (o147v108 P) .nil .nil) .nil) (.node (o115v103 P) (.node (o179v113 P) .nil .nil) .nil))) (.node (o27v6 P) (.node (o43v6 P) (.node (o75v6 P) (.node (o139v206 P) .nil .nil) .nil) (.node (o107v102 P) (.node (o171v111 P) .nil .nil) .nil)) (.node (o59v6 P) (.node (o91v115 P) (.node (o155v109 P) .nil .nil) .nil) (.node (o123v105 P) (.node (o187v213 P) .nil .nil) .nil))))) (.node (boot_o_5 P) (.node (boot_o_9 P) (.node (o17v6 P) (.node (o33v6 P) (.node (o65v6 P) (.node (o129v105 P) .nil .nil) (.node (o193v115 P) .nil .nil)) (.node O (.node (o161v110 P) .nil .nil) .nil)) (.node (o49v6 P) (.node (o81v6 P) (.node (o145v207 P) .nil .nil) .nil) (.node (o113v103 P) (.node (o177v112 P) .nil .nil) .nil))) (.node (o25v6 P) (.node (o41v6 P) (.node (o73v6 P) (.node (o137v107 P) .nil .nil) (.node (o201v215 P) .nil .nil)) (.node (o105v102 P) (.node (o169v111 P) .nil .nil) .nil)) (.node (o57v6 P) (.node (o89v7 P) (.node (o153v208 P) .nil .nil) .nil) (.node (o121v104 P) (.node (o185v113 P) .nil .nil) .nil)))) (.node (o13v1 P) (.node (o21v6 P) (.node (o37v6 P) (.node (o69v6 P) (.node (o133v106 P) .nil .nil) (.node (o197v115 P) .nil .nil)) (.node (o101v101 P) (.node (o165v111 P) .nil .nil) .nil)) (.node (o53v6 P) (.node (o85v6 P) (.node (o149v108 P) .nil .nil) .nil) (.node (o117v203 P) (.node (o181v212 P) .nil .nil) .nil))) (.node (o29v6 P) (.node (o45v6 P) (.node (o77v6 P) (.node (o141v107 P) .nil .nil) .nil) (.node (o109v103 P) (.node (o173v211 P) .nil .nil) .nil)) (.node (o61v6 P) (.node (o93v8 P) (.node (o157v109 P) .nil .nil) .nil) (.node (o125v204 P) (.node (o189v114 P) .nil .nil) .nil)))))) (.node (boot_o_2 P) (.node (boot_o_4 P) (.node (boot_o_8 P) (.node (o16v6 P) (.node (o32v6 P) (.node (o64v6 P) (.node (o128v105 P) .nil .nil) (.node (o192v114 P) .nil .nil)) (.node (o96v8 P) (.node (o160v209 P) .nil .nil) .nil)) (.node (o48v6 P) (.node (o80v6 P) (.node (o144v108 P) .nil .nil) .nil) (.node (o112v103 P) (.node (o176v112 P) .nil .nil) .nil))) (.node (o24v6 P) (.node (o40v6 P) (.node (o72v6 P) (.node (o136v106 P) .nil .nil) (.node (rit (.ofNat 9998) (.ofNat 0)) .nil .nil)) (.node (o104v201 P) (.node (o168v111 P) .nil .nil) .nil)) (.node (o56v6 P) (.node (o88v7 P) (.node (o152v208 P) .nil .nil) .nil) (.node (o120v104 P) (.node (o184v113 P) .nil .nil) .nil)))) (.node (o12v8 P) (.node (o20v6 P) (.node (o36v6 P) (.node (o68v6 P) (.node (o132v205 P) .nil .nil) (.node (o196v115 P) .nil .nil)) (.node (o100v101 P) (.node (o164v110 P) .nil .nil) .nil)) (.node (o52v6 P) (.node (o84v6 P) (.node (o148v108 P) .nil .nil) .nil) (.node (o116v104 P) (.node (o180v212 P) .nil .nil) .nil))) (.node (o28v6 P) (.node (o44v6 P) (.node (o76v6 P) (.node (o140v107 P) .nil .nil) .nil) (.node (o108v102 P) (.node (o172v112 P) .nil .nil) .nil)) (.node (o60v6 P) (.node (o92v8 P) (.node (o156v109 P) .nil .nil) .nil) (.node (o124v204 P) (.node (o188v213 P) .nil .nil) .nil))))) (.node (boot_o_6 P) (.node (boot_o_10 P) (.node (o18v6 P) (.node (o34v6 P) (.node (o66v6 P) (.node (o130v106 P) .nil .nil) (.node (o194v214 P) .nil .nil)) (.node (o98v101 P) (.node (o162v110 P) .nil .nil) .nil)) (.node (o50v6 P) (.node (o82v6 P) (.node (o146v207 P) .nil .nil) .nil) (.node (o114v103 P) (.node (o178v112 P) .nil .nil) .nil))) (.node (o26v6 P) (.node (o42v6 P) (.node (o74v6 P) (.node (o138v206 P) .nil .nil) (.node (o202v215 P) .nil .nil)) (.node (o106v102 P) (.node (o170v111 P) .nil .nil) .nil)) (.node (o58v6 P) (.node (o90v7 P) (.node (o154v109 P) .nil .nil) .nil) (.node (o122v104 P) (.node (o186v114 P) .nil .nil) .nil)))) (.node (o14v1 P) (.node (o22v6 P) (.node (o38v6 P) (.node (o70v6 P) (.node (o134v106 P) .nil .nil) (.node (o198v115 P) .nil .nil)) (.node (o102v102 P) (.node (o166v210 P) .nil .nil) .nil)) (.node (o54v6 P) (.node (o86v7 P) (.node (o150v108 P) .nil .nil) .nil) (.node (o118v203 P) (.node (o182v113 P) .nil .nil) .nil))) (.node (o30v6 P) (.node (o46v6 P) (.node (o78v6 P) (.node (o142v107 P) .nil .nil) .nil) (.node (o110v202 P) (.node (o174v211 P) .nil .nil) .nil)) (.node (o62v6 P) (.node (o94v8 P) (.node (o158v110 P) .nil .nil) .nil) (.node (o126v105 P) (.node (o190v114 P) .nil .nil) .nil)))))))
noncomputable def SD16 (P : Params) (os : OsState) (cp : Value) (O : Obj) (tk : Nat) : SharedT := ⟨TD16 P cp O, 203, {}, ⟨[.running]⟩, {}, tk, os⟩
noncomputable def o91v116 (P : Params) : Obj := ⟨(.type "tuple_iterator"), none, (.fields ⟨[(.ref 85), (.int (.ofNat 16) 0)]⟩), ⟨[]⟩⟩
noncomputable def o200v116 (P : Params) : Obj := ⟨(.type "range_iterator"), none, (.fields ⟨[(.int (.ofNat 9998) 0), (.int (.ofNat 0) 0), (.int (.ofNat 1) 0)]⟩), ⟨[]⟩⟩
noncomputable def o203v116 (P : Params) : Obj := ⟨(.type "tuple_iterator"), none, (.fields ⟨[.none, (.int (.ofNat 2) 0)]⟩), ⟨[]⟩⟩
noncomputable def o204v116 (P : Params) : Obj := ⟨(.type "tuple"), none, (.seq ⟨[]⟩ 0), ⟨[]⟩⟩
noncomputable def o205v116 (P : Params) : Obj := ⟨(.type "StopIteration"), none, (.fields ⟨[(.ref 204), .none, .none, .none, (.bool false), .none]⟩), ⟨[]⟩⟩
noncomputable def o206v116 (P : Params) : Obj := ⟨(.type "range"), none, (.fields ⟨[(.int (.ofNat 10083) 298), (.int (.ofNat 10085) 638), (.int (.ofNat 1) 639)]⟩), ⟨[]⟩⟩
noncomputable def TA16 (P : Params) (c r : Int) (cp : Value) (O : Obj) : BT := (.node (boot_o_0 P) (.node (boot_o_1 P) (.node (o3v7 P) (.node (boot_o_7 P) (.node (o15v6 P) (.node (o31v6 P) (.node (o63v6 P) (.node (o127v105 P) .nil .nil) (.node (o191v114 P) .nil .nil)) (.node (d95 P (.int (.ofNat 10083) 298) (.int (.ofNat 10084) 299) cp) (.node (o159v209 P) .nil .nil) .nil)) (.node (o47v6 P) (.node (o79v6 P) (.node (o143v107 P) .nil .nil) (.node (rit c r) .nil .nil)) (.node (o111v202 P) (.node (o175v112 P) .nil .nil) .nil))) (.node (o23v6 P) (.node (o39v6 P) (.node (o71v6 P) (.node (o135v106 P) .nil .nil) (.node (o199v115 P) .nil .nil)) (.node (o103v201 P) (.node (o167v210 P) .nil .nil) .nil)) (.node (o55v6 P) (.node (o87v7 P) (.node (o151v109 P) .nil .nil) .nil) (.node (o119v104 P) (.node (o183v113 P) .nil .nil) .nil)))) (.node (o11v1 P) (.node (o19v6 P) (.node (o35v6 P) (.node (o67v6 P) (.node (o131v205 P) .nil .nil) (.node (o195v214 P) .nil .nil)) (.node (o99v101 P) (.node (o163v110 P) .nil .nil) .nil)) (.node (o51v6 P) (.node (o83v6 P) (.node (o147v108 P) .nil .nil) .nil) (.node (o115v103 P) (.node (o179v113 P) .nil .nil) .nil))) (.node (o27v6 P) (.node (o43v6 P) (.node (o75v6 P) (.node (o139v206 P) .nil .nil) (.node (o203v116 P) .nil .nil)) (.node (o107v102 P) (.node (o171v111 P) .nil .nil) .nil)) (.node (o59v6 P) (.node (o91v116 P) (.node (o155v109 P) .nil .nil) .nil) (.node (o123v105 P) (.node (o187v213 P) .nil .nil) .nil))))) (.node (boot_o_5 P) (.node (boot_o_9 P) (.node (o17v6 P) (.node (o33v6 P) (.node (o65v6 P) (.node (o129v105 P) .nil .nil) (.node (o193v115 P) .nil .nil)) (.node O (.node (o161v110 P) .nil .nil) .nil)) (.node (o49v6 P) (.node (o81v6 P) (.node (o145v207 P) .nil .nil) .nil) (.node (o113v103 P) (.node (o177v112 P) .nil .nil) .nil))) (.node (o25v6 P) (.node (o41v6 P) (.node (o73v6 P) (.node (o137v107 P) .nil .nil) (.node (o201v215 P) .nil .nil)) (.node (o105v102 P) (.node (o169v111 P) .nil .nil) .nil)) (.node (o57v6 P) (.node (o89v7 P) (.node (o153v208 P) .nil .nil) .nil) (.node (o121v104 P) (.node (o185v113 P) .nil .nil) .nil)))) (.node (o13v1 P) (.node (o21v6 P) (.node (o37v6 P) (.node (o69v6 P) (.node (o133v106 P) .nil .nil) (.node (o197v115 P) .nil .nil)) (.node (o101v101 P) (.node (o165v111 P) .nil .nil) .nil)) (.node (o53v6 P) (.node (o85v6 P) (.node (o149v108 P) .nil .nil) .nil) (.node (o117v203 P) (.node (o181v212 P) .nil .nil) .nil))) (.node (o29v6 P) (.node (o45v6 P) (.node (o77v6 P) (.node (o141v107 P) .nil .nil) (.node (o205v116 P) .nil .nil)) (.node (o109v103 P) (.node (o173v211 P) .nil .nil) .nil)) (.node (o61v6 P) (.node (o93v8 P) (.node (o157v109 P) .nil .nil) .nil) (.node (o125v204 P) (.node (o189v114 P) .nil .nil) .nil)))))) (.node (boot_o_2 P) (.node (boot_o_4 P) (.node (boot_o_8 P) (.node (o16v6 P) (.node (o32v6 P) (.node (o64v6 P) (.node (o128v105 P) .nil .nil) (.node (o192v114 P) .nil .nil)) (.node (o96v8 P) (.node (o160v209 P) .nil .nil) .nil)) (.node (o48v6 P) (.node (o80v6 P) (.node (o144v108 P) .nil .nil) .nil) (.node (o112v103 P) (.node (o176v112 P) .nil .nil) .nil))) (.node (o24v6 P) (.node (o40v6 P) (.node (o72v6 P) (.node (o136v106 P) .nil .nil) (.node (o200v116 P) .nil .nil)) (.node (o104v201 P) (.node (o168v111 P) .nil .nil) .nil)) (.node (o56v6 P) (.node (o88v7 P) (.node (o152v208 P) .nil .nil) .nil) (.node (o120v104 P) (.node (o184v113 P) .nil .nil) .nil)))) (.node (o12v8 P) (.node (o20v6 P) (.node (o36v6 P) (.node (o68v6 P) (.node (o132v205 P) .nil .nil) (.node (o196v115 P) .nil .nil)) (.node (o100v101 P) (.node (o164v110 P) .nil .nil) .nil)) (.node (o52v6 P) (.node (o84v6 P) (.node (o148v108 P) .nil .nil) .nil) (.node (o116v104 P) (.node (o180v212 P) .nil .nil) .nil))) (.node (o28v6 P) (.node (o44v6 P) (.node (o76v6 P) (.node (o140v107 P) .nil .nil) (.node (o204v116 P) .nil .nil)) (.node (o108v102 P) (.node (o172v112 P) .nil .nil) .nil)) (.node (o60v6 P) (.node (o92v8 P) (.node (o156v109 P) .nil .nil) .nil) (.node (o124v204 P) (.node (o188v213 P) .nil .nil) .nil))))) (.node (boot_o_6 P) (.node (boot_o_10 P) (.node (o18v6 P) (.node (o34v6 P) (.node (o66v6 P) (.node (o130v106 P) .nil .nil) (.node (o194v214 P) .nil .nil)) (.node (o98v101 P) (.node (o162v110 P) .nil .nil) .nil)) (.node (o50v6 P) (.node (o82v6 P) (.node (o146v207 P) .nil .nil) .nil) (.node (o114v103 P) (.node (o178v112 P) .nil .nil) .nil))) (.node (o26v6 P) (.node (o42v6 P) (.node (o74v6 P) (.node (o138v206 P) .nil .nil) (.node (o202v215 P) .nil .nil)) (.node (o106v102 P) (.node (o170v111 P) .nil .nil) .nil)) (.node (o58v6 P) (.node (o90v7 P) (.node (o154v109 P) .nil .nil) .nil) (.node (o122v104 P) (.node (o186v114 P) .nil .nil) .nil)))) (.node (o14v1 P) (.node (o22v6 P) (.node (o38v6 P) (.node (o70v6 P) (.node (o134v106 P) .nil .nil) (.node (o198v115 P) .nil .nil)) (.node (o102v102 P) (.node (o166v210 P) .nil .nil) .nil)) (.node (o54v6 P) (.node (o86v7 P) (.node (o150v108 P) .nil .nil) .nil) (.node (o118v203 P) (.node (o182v113 P) .nil .nil) .nil))) (.node (o30v6 P) (.node (o46v6 P) (.node (o78v6 P) (.node (o142v107 P) .nil .nil) (.node (o206v116 P) .nil .nil)) (.node (o110v202 P) (.node (o174v211 P) .nil .nil) .nil)) (.node (o62v6 P) (.node (o94v8 P) (.node (o158v110 P) .nil .nil) .nil) (.node (o126v105 P) (.node (o190v114 P) .nil .nil) .nil)))))))
noncomputable def SA16 (P : Params) (os : OsState) (c r : Int) (cp : Value) (O : Obj) (tk : Nat) : SharedT := ⟨TA16 P c r cp O, 208, {}, ⟨[.running]⟩, {}, tk, os⟩
noncomputable def o208v216 (P : Params) : Obj := ⟨(.type "tuple"), none, (.seq ⟨[]⟩ 0), ⟨[]⟩⟩
noncomputable def o209v216 (P : Params) : Obj := ⟨(.type "StopIteration"), none, (.fields ⟨[(.ref 208), .none, .none, .none, (.bool false), .none]⟩), ⟨[]⟩⟩
noncomputable def TD17 (P : Params) (cp : Value) (O : Obj) : BT := (.node (boot_o_0 P) (.node (boot_o_1 P) (.node (o3v7 P) (.node (boot_o_7 P) (.node (o15v6 P) (.node (o31v6 P) (.node (o63v6 P) (.node (o127v105 P) .nil .nil) (.node (o191v114 P) .nil .nil)) (.node (d95 P (.int (.ofNat 10083) 298) (.int (.ofNat 10084) 299) cp) (.node (o159v209 P) .nil .nil) .nil)) (.node (o47v6 P) (.node (o79v6 P) (.node (o143v107 P) .nil .nil) (.node (rit (.ofNat 10085) (.ofNat 0)) .nil .nil)) (.node (o111v202 P) (.node (o175v112 P) .nil .nil) .nil))) (.node (o23v6 P) (.node (o39v6 P) (.node (o71v6 P) (.node (o135v106 P) .nil .nil) (.node (o199v115 P) .nil .nil)) (.node (o103v201 P) (.node (o167v210 P) .nil .nil) .nil)) (.node (o55v6 P) (.node (o87v7 P) (.node (o151v109 P) .nil .nil) .nil) (.node (o119v104 P) (.node (o183v113 P) .nil .nil) .nil)))) (.node (o11v1 P) (.node (o19v6 P) (.node (o35v6 P) (.node (o67v6 P) (.node (o131v205 P) .nil .nil) (.node (o195v214 P) .nil .nil)) (.node (o99v101 P) (.node (o163v110 P) .nil .nil) .nil)) (.node (o51v6 P) (.node (o83v6 P) (.node (o147v108 P) .nil .nil) .nil) (.node (o115v103 P) (.node (o179v113 P) .nil .nil) .nil))) (.node (o27v6 P) (.node (o43v6 P) (.node (o75v6 P) (.node (o139v206 P) .nil .nil) (.node (o203v116 P) .nil .nil)) (.node (o107v102 P) (.node (o171v111 P) .nil .nil) .nil)) (.node (o59v6 P) (.node (o91v116 P) (.node (o155v109 P) .nil .nil) .nil) (.node (o123v105 P) (.node (o187v213 P) .nil .nil) .nil))))) (.node (boot_o_5 P) (.node (boot_o_9 P) (.node (o17v6 P) (.node (o33v6 P) (.node (o65v6 P) (.node (o129v105 P) .nil .nil) (.node (o193v115 P) .nil .nil)) (.node O (.node (o161v110 P) .nil .nil) .nil)) (.node (o49v6 P) (.node (o81v6 P) (.node (o145v207 P) .nil .nil) (.node (o209v216 P) .nil .nil)) (.node (o113v103 P) (.node (o177v112 P) .nil .nil) .nil))) (.node (o25v6 P) (.node (o41v6 P) (.node (o73v6 P) (.node (o137v107 P) .nil .nil) (.node (o201v215 P) .nil .nil)) (.node (o105v102 P) (.node (o169v111 P) .nil .nil) .nil)) (.node (o57v6 P) (.node (o89v7 P) (.node (o153v208 P) .nil .nil) .nil) (.node (o121v104 P) (.node (o185v113 P) .nil .nil) .nil)))) (.node (o13v1 P) (.node (o21v6 P) (.node (o37v6 P) (.node (o69v6 P) (.node (o133v106 P) .nil .nil) (.node (o197v115 P) .nil .nil)) (.node (o101v101 P) (.node (o165v111 P) .nil .nil) .nil)) (.node (o53v6 P) (.node (o85v6 P) (.node (o149v108 P) .nil .nil) .nil) (.node (o117v203 P) (.node (o181v212 P) .nil .nil) .nil))) (.node (o29v6 P) (.node (o45v6 P) (.node (o77v6 P) (.node (o141v107 P) .nil .nil) (.node (o205v116 P) .nil .nil)) (.node (o109v103 P) (.node (o173v211 P) .nil .nil) .nil)) (.node (o61v6 P) (.node (o93v8 P) (.node (o157v109 P) .nil .nil) .nil) (.node (o125v204 P) (.node (o189v114 P) .nil .nil) .nil)))))) (.node (boot_o_2 P) (.node (boot_o_4 P) (.node (boot_o_8 P) (.node (o16v6 P) (.node (o32v6 P) (.node (o64v6 P) (.node (o128v105 P) .nil .nil) (.node (o192v114 P) .nil .nil)) (.node (o96v8 P) (.node (o160v209 P) .nil .nil) .nil)) (.node (o48v6 P) (.node (o80v6 P) (.node (o144v108 P) .nil .nil) (.node (o208v216 P) .nil .nil)) (.node (o112v103 P) (.node (o176v112 P) .nil .nil) .nil))) (.node (o24v6 P) (.node (o40v6 P) (.node (o72v6 P) (.node (o136v106 P) .nil .nil) (.node (o200v116 P) .nil .nil)) (.node (o104v201 P) (.node (o168v111 P) .nil .nil) .nil)) (.node (o56v6 P) (.node (o88v7 P) (.node (o152v208 P) .nil .nil) .nil) (.node (o120v104 P) (.node (o184v113 P) .nil .nil) .nil)))) (.node (o12v8 P) (.node (o20v6 P) (.node (o36v6 P) (.node (o68v6 P) (.node (o132v205 P) .nil .nil) (.node (o196v115 P) .nil .nil)) (.node (o100v101 P) (.node (o164v110 P) .nil .nil) .nil)) (.node (o52v6 P) (.node (o84v6 P) (.node (o148v108 P) .nil .nil) .nil) (.node (o116v104 P) (.node (o180v212 P) .nil .nil) .nil))) (.node (o28v6 P) (.node (o44v6 P) (.node (o76v6 P) (.node (o140v107 P) .nil .nil) (.node (o204v116 P) .nil .nil)) (.node (o108v102 P) (.node (o172v112 P) .nil .nil) .nil)) (.node (o60v6 P) (.node (o92v8 P) (.node (o156v109 P) .nil .nil) .nil) (.node (o124v204 P) (.node (o188v213 P) .nil .nil) .nil))))) (.node (boot_o_6 P) (.node (boot_o_10 P) (.node (o18v6 P) (.node (o34v6 P) (.node (o66v6 P) (.node (o130v106 P) .nil .nil) (.node (o194v214 P) .nil .nil)) (.node (o98v101 P) (.node (o162v110 P) .nil .nil) .nil)) (.node (o50v6 P) (.node (o82v6 P) (.node (o146v207 P) .nil .nil) .nil) (.node (o114v103 P) (.node (o178v112 P) .nil .nil) .nil))) (.node (o26v6 P) (.node (o42v6 P) (.node (o74v6 P) (.node (o138v206 P) .nil .nil) (.node (o202v215 P) .nil .nil)) (.node (o106v102 P) (.node (o170v111 P) .nil .nil) .nil)) (.node (o58v6 P) (.node (o90v7 P) (.node (o154v109 P) .nil .nil) .nil) (.node (o122v104 P) (.node (o186v114 P) .nil .nil) .nil)))) (.node (o14v1 P) (.node (o22v6 P) (.node (o38v6 P) (.node (o70v6 P) (.node (o134v106 P) .nil .nil) (.node (o198v115 P) .nil .nil)) (.node (o102v102 P) (.node (o166v210 P) .nil .nil) .nil)) (.node (o54v6 P) (.node (o86v7 P) (.node (o150v108 P) .nil .nil) .nil) (.node (o118v203 P) (.node (o182v113 P) .nil .nil) .nil))) (.node (o30v6 P) (.node (o46v6 P) (.node (o78v6 P) (.node (o142v107 P) .nil .nil) (.node (o206v116 P) .nil .nil)) (.node (o110v202 P) (.node (o174v211 P) .nil .nil) .nil)) (.node (o62v6 P) (.node (o94v8 P) (.node (o158v110 P) .nil .nil) .nil) (.node (o126v105 P) (.node (o190v114 P) .nil .nil) .nil)))))))
noncomputable def SD17 (P : Params) (os : OsState) (cp : Value) (O : Obj) (tk : Nat) : SharedT := ⟨TD17 P cp O, 210, {}, ⟨[.running]⟩, {}, tk, os⟩
noncomputable def o91v117 (P : Params) : Obj := ⟨(.type "tuple_iterator"), none, (.fields ⟨[(.ref 85), (.int (.ofNat 17) 0)]⟩), ⟨[]⟩⟩
noncomputable def o207v117 (P : Params) : Obj := ⟨(.type "range_iterator"), none, (.fields ⟨[(.int (.ofNat 10085) 0), (.int (.ofNat 0) 0), (.int (.ofNat 1) 0)]⟩), ⟨[]⟩⟩
noncomputable def o210v117 (P : Params) : Obj := ⟨(.type "tuple_iterator"), none, (.fields ⟨[.none, (.int (.ofNat 2) 0)]⟩), ⟨[]⟩⟩
noncomputable def o211v117 (P : Params) : Obj := ⟨(.type "tuple"), none, (.seq ⟨[]⟩ 0), ⟨[]⟩⟩
noncomputable def o212v117 (P : Params) : Obj := ⟨(.type "StopIteration"), none, (.fields ⟨[(.ref 211), .none, .none, .none, (.bool false), .none]⟩), ⟨[]⟩⟩
noncomputable def o213v117 (P : Params) : Obj := ⟨(.type "range"), none, (.fields ⟨[(.int (.ofNat 12336) 300), (.int (.ofNat 12337) 649), (.int (.ofNat 1) 650)]⟩), ⟨[]⟩⟩
noncomputable def TA17 (P : Params) (c r : Int) (cp : Value) (O : Obj) : BT := (.node (boot_o_0 P) (.node (boot_o_1 P) (.node (o3v7 P) (.node (boot_o_7 P) (.node (o15v6 P) (.node (o31v6 P) (.node (o63v6 P) (.node (o127v105 P) .nil .nil) (.node (o191v114 P) .nil .nil)) (.node (d95 P (.int (.ofNat 12336) 300) (.int (.ofNat 12336) 301) cp) (.node (o159v209 P) .nil .nil) .nil)) (.node (o47v6 P) (.node (o79v6 P) (.node (o143v107 P) .nil .nil) (.node (o207v117 P) .nil .nil)) (.node (o111v202 P) (.node (o175v112 P) .nil .nil) .nil))) (.node (o23v6 P) (.node (o39v6 P) (.node (o71v6 P) (.node (o135v106 P) .nil .nil) (.node (o199v115 P) .nil .nil)) (.node (o103v201 P) (.node (o167v210 P) .nil .nil) .nil)) (.node (o55v6 P) (.node (o87v7 P) (.node (o151v109 P) .nil .nil) .nil) (.node (o119v104 P) (.node (o183v113 P) .nil .nil) .nil)))) (.node (o11v1 P) (.node (o19v6 P) (.node (o35v6 P) (.node (o67v6 P) (.node (o131v205 P) .nil .nil) (.node (o195v214 P) .nil .nil)) (.node (o99v101 P) (.node (o163v110 P) .nil .nil) .nil)) (.node (o51v6 P) (.node (o83v6 P) (.node (o147v108 P) .nil .nil) (.node (o211v117 P) .nil .nil)) (.node (o115v103 P) (.node (o179v113 P) .nil .nil) .nil))) (.node (o27v6 P) (.node (o43v6 P) (.node (o75v6 P) (.node (o139v206 P) .nil .nil) (.node (o203v116 P) .nil .nil)) (.node (o107v102 P) (.node (o171v111 P) .nil .nil) .nil)) (.node (o59v6 P) (.node (o91v117 P) (.node (o155v109 P) .nil .nil) .nil) (.node (o123v105 P) (.node (o187v213 P) .nil .nil) .nil))))) (.node (boot_o_5 P) (.node (boot_o_9 P) (.node (o17v6 P) (.node (o33v6 P) (.node (o65v6 P) (.node (o129v105 P) .nil .nil) (.node (o193v115 P) .nil .nil)) (.node O (.node (o161v110 P) .nil .nil) .nil)) (.node (o49v6 P) (.node (o81v6 P) (.node (o145v207 P) .nil .nil) (.node (o209v216 P) .nil .nil)) (.node (o113v103 P) (.node (o177v112 P) .nil .nil) .nil))) (.node (o25v6 P) (.node (o41v6 P) (.node (o73v6 P) (.node (o137v107 P) .nil .nil) (.node (o201v215 P) .nil .nil)) (.node (o105v102 P) (.node (o169v111 P) .nil .nil) .nil)) (.node (o57v6 P) (.node (o89v7 P) (.node (o153v208 P) .nil .nil) .nil) (.node (o121v104 P) (.node (o185v113 P) .nil .nil) .nil)))) (.node (o13v1 P) (.node (o21v6 P) (.node (o37v6 P) (.node (o69v6 P) (.node (o133v106 P) .nil .nil) (.node (o197v115 P) .nil .nil)) (.node (o101v101 P) (.node (o165v111 P) .nil .nil) .nil)) (.node (o53v6 P) (.node (o85v6 P) (.node (o149v108 P) .nil .nil) (.node (o213v117 P) .nil .nil)) (.node (o117v203 P) (.node (o181v212 P) .nil .nil) .nil))) (.node (o29v6 P) (.node (o45v6 P) (.node (o77v6 P) (.node (o141v107 P) .nil .nil) (.node (o205v116 P) .nil .nil)) (.node (o109v103 P) (.node (o173v211 P) .nil .nil) .nil)) (.node (o61v6 P) (.node (o93v8 P) (.node (o157v109 P) .nil .nil) .nil) (.node (o125v204 P) (.node (o189v114 P) .nil .nil) .nil)))))) (.node (boot_o_2 P) (.node (boot_o_4 P) (.node (boot_o_8 P) (.node (o16v6 P) (.node (o32v6 P) (.node (o64v6 P) (.node (o128v105 P) .nil .nil) (.node (o192v114 P) .nil .nil)) (.node (o96v8 P) (.node (o160v209 P) .nil .nil) .nil)) (.node (o48v6 P) (.node (o80v6 P) (.node (o144v108 P) .nil .nil) (.node (o208v216 P) .nil .nil)) (.node (o112v103 P) (.node (o176v112 P) .nil .nil) .nil))) (.node (o24v6 P) (.node (o40v6 P) (.node (o72v6 P) (.node (o136v106 P) .nil .nil) (.node (o200v116 P) .nil .nil)) (.node (o104v201 P) (.node (o168v111 P) .nil .nil) .nil)) (.node (o56v6 P) (.node (o88v7 P) (.node (o152v208 P) .nil .nil) .nil) (.node (o120v104 P) (.node (o184v113 P) .nil .nil) .nil)))) (.node (o12v8 P) (.node (o20v6 P) (.node (o36v6 P) (.node (o68v6 P) (.node (o132v205 P) .nil .nil) (.node (o196v115 P) .nil .nil)) (.node (o100v101 P) (.node (o164v110 P) .nil .nil) .nil)) (.node (o52v6 P) (.node (o84v6 P) (.node (o148v108 P) .nil .nil) (.node (o212v117 P) .nil .nil)) (.node (o116v104 P) (.node (o180v212 P) .nil .nil) .nil))) (.node (o28v6 P) (.node (o44v6 P) (.node (o76v6 P) (.node (o140v107 P) .nil .nil) (.node (o204v116 P) .nil .nil)) (.node (o108v102 P) (.node (o172v112 P) .nil .nil) .nil)) (.node (o60v6 P) (.node (o92v8 P) (.node (o156v109 P) .nil .nil) .nil) (.node (o124v204 P) (.node (o188v213 P) .nil .nil) .nil))))) (.node (boot_o_6 P) (.node (boot_o_10 P) (.node (o18v6 P) (.node (o34v6 P) (.node (o66v6 P) (.node (o130v106 P) .nil .nil) (.node (o194v214 P) .nil .nil)) (.node (o98v101 P) (.node (o162v110 P) .nil .nil) .nil)) (.node (o50v6 P) (.node (o82v6 P) (.node (o146v207 P) .nil .nil) (.node (o210v117 P) .nil .nil)) (.node (o114v103 P) (.node (o178v112 P) .nil .nil) .nil))) (.node (o26v6 P) (.node (o42v6 P) (.node (o74v6 P) (.node (o138v206 P) .nil .nil) (.node (o202v215 P) .nil .nil)) (.node (o106v102 P) (.node (o170v111 P) .nil .nil) .nil)) (.node (o58v6 P) (.node (o90v7 P) (.node (o154v109 P) .nil .nil) .nil) (.node (o122v104 P) (.node (o186v114 P) .nil .nil) .nil)))) (.node (o14v1 P) (.node (o22v6 P) (.node (o38v6 P) (.node (o70v6 P) (.node (o134v106 P) .nil .nil) (.node (o198v115 P) .nil .nil)) (.node (o102v102 P) (.node (o166v210 P) .nil .nil) .nil)) (.node (o54v6 P) (.node (o86v7 P) (.node (o150v108 P) .nil .nil) (.node (rit c r) .nil .nil)) (.node (o118v203 P) (.node (o182v113 P) .nil .nil) .nil))) (.node (o30v6 P) (.node (o46v6 P) (.node (o78v6 P) (.node (o142v107 P) .nil .nil) (.node (o206v116 P) .nil .nil)) (.node (o110v202 P) (.node (o174v211 P) .nil .nil) .nil)) (.node (o62v6 P) (.node (o94v8 P) (.node (o158v110 P) .nil .nil) .nil) (.node (o126v105 P) (.node (o190v114 P) .nil .nil) .nil)))))))
noncomputable def SA17 (P : Params) (os : OsState) (c r : Int) (cp : Value) (O : Obj) (tk : Nat) : SharedT := ⟨TA17 P c r cp O, 215, {}, ⟨[.running]⟩, {}, tk, os⟩
noncomputable def o215v217 (P : Params) : Obj := ⟨(.type "tuple"), none, (.seq ⟨[]⟩ 0), ⟨[]⟩⟩
noncomputable def o216v217 (P : Params) : Obj := ⟨(.type "StopIteration"), none, (.fields ⟨[(.ref 215), .none, .none, .none, (.bool false), .none]⟩), ⟨[]⟩⟩
noncomputable def TD18 (P : Params) (cp : Value) (O : Obj) : BT := (.node (boot_o_0 P) (.node (boot_o_1 P) (.node (o3v7 P) (.node (boot_o_7 P) (.node (o15v6 P) (.node (o31v6 P) (.node (o63v6 P) (.node (o127v105 P) .nil .nil) (.node (o191v114 P) .nil .nil)) (.node (d95 P (.int (.ofNat 12336) 300) (.int (.ofNat 12336) 301) cp) (.node (o159v209 P) .nil .nil) .nil)) (.node (o47v6 P) (.node (o79v6 P) (.node (o143v107 P) .nil .nil) (.node (o207v117 P) .nil .nil)) (.node (o111v202 P) (.node (o175v112 P) .nil .nil) .nil))) (.node (o23v6 P) (.node (o39v6 P) (.node (o71v6 P) (.node (o135v106 P) .nil .nil) (.node (o199v115 P) .nil .nil)) (.node (o103v201 P) (.node (o167v210 P) .nil .nil) .nil)) (.node (o55v6 P) (.node (o87v7 P) (.node (o151v109 P) .nil .nil) (.node (o215v217 P) .nil .nil)) (.node (o119v104 P) (.node (o183v113 P) .nil .nil) .nil)))) (.node (o11v1 P) (.node (o19v6 P) (.node (o35v6 P) (.node (o67v6 P) (.node (o131v205 P) .nil .nil) (.node (o195v214 P) .nil .nil)) (.node (o99v101 P) (.node (o163v110 P) .nil .nil) .nil)) (.node (o51v6 P) (.node (o83v6 P) (.node (o147v108 P) .nil .nil) (.node (o211v117 P) .nil .nil)) (.node (o115v103 P) (.node (o179v113 P) .nil .nil) .nil))) (.node (o27v6 P) (.node (o43v6 P) (.node (o75v6 P) (.node (o139v206 P) .nil .nil) (.node (o203v116 P) .nil .nil)) (.node (o107v102 P) (.node (o171v111 P) .nil .nil) .nil)) (.node (o59v6 P) (.node (o91v117 P) (.node (o155v109 P) .nil .nil) .nil) (.node (o123v105 P) (.node (o187v213 P) .nil .nil) .nil))))) (.node (boot_o_5 P) (.node (boot_o_9 P) (.node (o17v6 P) (.node (o33v6 P) (.node (o65v6 P) (.node (o129v105 P) .nil .nil) (.node (o193v115 P) .nil .nil)) (.node O (.node (o161v110 P) .nil .nil) .nil)) (.node (o49v6 P) (.node (o81v6 P) (.node (o145v207 P) .nil .nil) (.node (o209v216 P) .nil .nil)) (.node (o113v103 P) (.node (o177v112 P) .nil .nil) .nil))) (.node (o25v6 P) (.node (o41v6 P) (.node (o73v6 P) (.node (o137v107 P) .nil .nil) (.node (o201v215 P) .nil .nil)) (.node (o105v102 P) (.node (o169v111 P) .nil .nil) .nil)) (.node (o57v6 P) (.node (o89v7 P) (.node (o153v208 P) .nil .nil) .nil) (.node (o121v104 P) (.node (o185v113 P) .nil .nil) .nil)))) (.node (o13v1 P) (.node (o21v6 P) (.node (o37v6 P) (.node (o69v6 P) (.node (o133v106 P) .nil .nil) (.node (o197v115 P) .nil .nil)) (.node (o101v101 P) (.node (o165v111 P) .nil .nil) .nil)) (.node (o53v6 P) (.node (o85v6 P) (.node (o149v108 P) .nil .nil) (.node (o213v117 P) .nil .nil)) (.node (o117v203 P) (.node (o181v212 P) .nil .nil) .nil))) (.node (o29v6 P) (.node (o45v6 P) (.node (o77v6 P) (.node (o141v107 P) .nil .nil) (.node (o205v116 P) .nil .nil)) (.node (o109v103 P) (.node (o173v211 P) .nil .nil) .nil)) (.node (o61v6 P) (.node (o93v8 P) (.node (o157v109 P) .nil .nil) .nil) (.node (o125v204 P) (.node (o189v114 P) .nil .nil) .nil)))))) (.node (boot_o_2 P) (.node (boot_o_4 P) (.node (boot_o_8 P) (.node (o16v6 P) (.node (o32v6 P) (.node (o64v6 P) (.node (o128v105 P) .nil .nil) (.node (o192v114 P) .nil .nil)) (.node (o96v8 P) (.node (o160v209 P) .nil .nil) .nil)) (.node (o48v6 P) (.node (o80v6 P) (.node (o144v108 P) .nil .nil) (.node (o208v216 P) .nil .nil)) (.node (o112v103 P) (.node (o176v112 P) .nil .nil) .nil))) (.node (o24v6 P) (.node (o40v6 P) (.node (o72v6 P) (.node (o136v106 P) .nil .nil) (.node (o200v116 P) .nil .nil)) (.node (o104v201 P) (.node (o168v111 P) .nil .nil) .nil)) (.node (o56v6 P) (.node (o88v7 P) (.node (o152v208 P) .nil .nil) (.node (o216v217 P) .nil .nil)) (.node (o120v104 P) (.node (o184v113 P) .nil .nil) .nil)))) (.node (o12v8 P) (.node (o20v6 P) (.node (o36v6 P) (.node (o68v6 P) (.node (o132v205 P) .nil .nil) (.node (o196v115 P) .nil .nil)) (.node (o100v101 P) (.node (o164v110 P) .nil .nil) .nil)) (.node (o52v6 P) (.node (o84v6 P) (.node (o148v108 P) .nil .nil) (.node (o212v117 P) .nil .nil)) (.node (o116v104 P) (.node (o180v212 P) .nil .nil) .nil))) (.node (o28v6 P) (.node (o44v6 P) (.node (o76v6 P) (.node (o140v107 P) .nil .nil) (.node (o204v116 P) .nil .nil)) (.node (o108v102 P) (.node (o172v112 P) .nil .nil) .nil)) (.node (o60v6 P) (.node (o92v8 P) (.node (o156v109 P) .nil .nil) .nil) (.node (o124v204 P) (.node (o188v213 P) .nil .nil) .nil))))) (.node (boot_o_6 P) (.node (boot_o_10 P) (.node (o18v6 P) (.node (o34v6 P) (.node (o66v6 P) (.node (o130v106 P) .nil .nil) (.node (o194v214 P) .nil .nil)) (.node (o98v101 P) (.node (o162v110 P) .nil .nil) .nil)) (.node (o50v6 P) (.node (o82v6 P) (.node (o146v207 P) .nil .nil) (.node (o210v117 P) .nil .nil)) (.node (o114v103 P) (.node (o178v112 P) .nil .nil) .nil))) (.node (o26v6 P) (.node (o42v6 P) (.node (o74v6 P) (.node (o138v206 P) .nil .nil) (.node (o202v215 P) .nil .nil)) (.node (o106v102 P) (.node (o170v111 P) .nil .nil) .nil)) (.node (o58v6 P) (.node (o90v7 P) (.node (o154v109 P) .nil .nil) .nil) (.node (o122v104 P) (.node (o186v114 P) .nil .nil) .nil)))) (.node (o14v1 P) (.node (o22v6 P) (.node (o38v6 P) (.node (o70v6 P) (.node (o134v106 P) .nil .nil) (.node (o198v115 P) .nil .nil)) (.node (o102v102 P) (.node (o166v210 P) .nil .nil) .nil)) (.node (o54v6 P) (.node (o86v7 P) (.node (o150v108 P) .nil .nil) (.node (rit (.ofNat 12337) (.ofNat 0)) .nil .nil)) (.node (o118v203 P) (.node (o182v113 P) .nil .nil) .nil))) (.node (o30v6 P) (.node (o46v6 P) (.node (o78v6 P) (.node (o142v107 P) .nil .nil) (.node (o206v116 P) .nil .nil)) (.node (o110v202 P) (.node (o174v211 P) .nil .nil) .nil)) (.node (o62v6 P) (.node (o94v8 P) (.node (o158v110 P) .nil .nil) .nil) (.node (o126v105 P) (.node (o190v114 P) .nil .nil) .nil)))))))
noncomputable def SD18 (P : Params) (os : OsState) (cp : Value) (O : Obj) (tk : Nat) : SharedT := ⟨TD18 P cp O, 217, {}, ⟨[.running]⟩, {}, tk, os⟩
noncomputable def o91v118 (P : Params) : Obj := ⟨(.type "tuple_iterator"), none, (.fields ⟨[(.ref 85), (.int (.ofNat 18) 0)]⟩), ⟨[]⟩⟩
noncomputable def o214v118 (P : Params) : Obj := ⟨(.type "range_iterator"), none, (.fields ⟨[(.int (.ofNat 12337) 0), (.int (.ofNat 0) 0), (.int (.ofNat 1) 0)]⟩), ⟨[]⟩⟩
noncomputable def o217v118 (P : Params) : Obj := ⟨(.type "tuple_iterator"), none, (.fields ⟨[.none, (.int (.ofNat 2) 0)]⟩), ⟨[]⟩⟩
noncomputable def o218v118 (P : Params) : Obj := ⟨(.type "tuple"), none, (.seq ⟨[]⟩ 0), ⟨[]⟩⟩
noncomputable def o219v118 (P : Params) : Obj := ⟨(.type "StopIteration"), none, (.fields ⟨[(.ref 218), .none, .none, .none, (.bool false), .none]⟩), ⟨[]⟩⟩
noncomputable def o220v118 (P : Params) : Obj := ⟨(.type "range"), none, (.fields ⟨[(.int (.ofNat 12349) 302), (.int (.ofNat 12350) 657), (.int (.ofNat 1) 658)]⟩), ⟨[]⟩⟩
noncomputable def TA18 (P : Params) (c r : Int) (cp : Value) (O : Obj) : BT := (.node (boot_o_0 P) (.node (boot_o_1 P) (.node (o3v7 P) (.node (boot_o_7 P) (.node (o15v6 P) (.node (o31v6 P) (.node (o63v6 P) (.node (o127v105 P) .nil .nil) (.node (o191v114 P) .nil .nil)) (.node (d95 P (.int (.ofNat 12349) 302) (.int (.ofNat 12349) 303) cp) (.node (o159v209 P) .nil .nil) .nil)) (.node (o47v6 P) (.node (o79v6 P) (.node (o143v107 P) .nil .nil) (.node (o207v117 P) .nil .nil)) (.node (o111v202 P) (.node (o175v112 P) .nil .nil) .nil))) (.node (o23v6 P) (.node (o39v6 P) (.node (o71v6 P) (.node (o135v106 P) .nil .nil) (.node (o199v115 P) .nil .nil)) (.node (o103v201 P) (.node (o167v210 P) .nil .nil) .nil)) (.node (o55v6 P) (.node (o87v7 P) (.node (o151v109 P) .nil .nil) (.node (o215v217 P) .nil .nil)) (.node (o119v104 P) (.node (o183v113 P) .nil .nil) .nil)))) (.node (o11v1 P) (.node (o19v6 P) (.node (o35v6 P) (.node (o67v6 P) (.node (o131v205 P) .nil .nil) (.node (o195v214 P) .nil .nil)) (.node (o99v101 P) (.node (o163v110 P) .nil .nil) .nil)) (.node (o51v6 P) (.node (o83v6 P) (.node (o147v108 P) .nil .nil) (.node (o211v117 P) .nil .nil)) (.node (o115v103 P) (.node (o179v113 P) .nil .nil) .nil))) (.node (o27v6 P) (.node (o43v6 P) (.node (o75v6 P) (.node (o139v206 P) .nil .nil) (.node (o203v116 P) .nil .nil)) (.node (o107v102 P) (.node (o171v111 P) .nil .nil) .nil)) (.node (o59v6 P) (.node (o91v118 P) (.node (o155v109 P) .nil .nil) (.node (o219v118 P) .nil .nil)) (.node (o123v105 P) (.node (o187v213 P) .nil .nil) .nil))))) (.node (boot_o_5 P) (.node (boot_o_9 P) (.node (o17v6 P) (.node (o33v6 P) (.node (o65v6 P) (.node (o129v105 P) .nil .nil) (.node (o193v115 P) .nil .nil)) (.node O (.node (o161v110 P) .nil .nil) .nil)) (.node (o49v6 P) (.node (o81v6 P) (.node (o145v207 P) .nil .nil) (.node (o209v216 P) .nil .nil)) (.node (o113v103 P) (.node (o177v112 P) .nil .nil) .nil))) (.node (o25v6 P) (.node (o41v6 P) (.node (o73v6 P) (.node (o137v107 P) .nil .nil) (.node (o201v215 P) .nil .nil)) (.node (o105v102 P) (.node (o169v111 P) .nil .nil) .nil)) (.node (o57v6 P) (.node (o89v7 P) (.node (o153v208 P) .nil .nil) (.node (o217v118 P) .nil .nil)) (.node (o121v104 P) (.node (o185v113 P) .nil .nil) .nil)))) (.node (o13v1 P) (.node (o21v6 P) (.node (o37v6 P) (.node (o69v6 P) (.node (o133v106 P) .nil .nil) (.node (o197v115 P) .nil .nil)) (.node (o101v101 P) (.node (o165v111 P) .nil .nil) .nil)) (.node (o53v6 P) (.node (o85v6 P) (.node (o149v108 P) .nil .nil) (.node (o213v117 P) .nil .nil)) (.node (o117v203 P) (.node (o181v212 P) .nil .nil) .nil))) (.node (o29v6 P) (.node (o45v6 P) (.node (o77v6 P) (.node (o141v107 P) .nil .nil) (.node (o205v116 P) .nil .nil)) (.node (o109v103 P) (.node (o173v211 P) .nil .nil) .nil)) (.node (o61v6 P) (.node (o93v8 P) (.node (o157v109 P) .nil .nil) (.node (rit c r) .nil .nil)) (.node (o125v204 P) (.node (o189v114 P) .nil .nil) .nil)))))) (.node (boot_o_2 P) (.node (boot_o_4 P) (.node (boot_o_8 P) (.node (o16v6 P) (.node (o32v6 P) (.node (o64v6 P) (.node (o128v105 P) .nil .nil) (.node (o192v114 P) .nil .nil)) (.node (o96v8 P) (.node (o160v209 P) .nil .nil) .nil)) (.node (o48v6 P) (.node (o80v6 P) (.node (o144v108 P) .nil .nil) (.node (o208v216 P) .nil .nil)) (.node (o112v103 P) (.node (o176v112 P) .nil .nil) .nil))) (.node (o24v6 P) (.node (o40v6 P) (.node (o72v6 P) (.node (o136v106 P) .nil .nil) (.node (o200v116 P) .nil .nil)) (.node (o104v201 P) (.node (o168v111 P) .nil .nil) .nil)) (.node (o56v6 P) (.node (o88v7 P) (.node (o152v208 P) .nil .nil) (.node (o216v217 P) .nil .nil)) (.node (o120v104 P) (.node (o184v113 P) .nil .nil) .nil)))) (.node (o12v8 P) (.node (o20v6 P) (.node (o36v6 P) (.node (o68v6 P) (.node (o132v205 P) .nil .nil) (.node (o196v115 P) .nil .nil)) (.node (o100v101 P) (.node (o164v110 P) .nil .nil) .nil)) (.node (o52v6 P) (.node (o84v6 P) (.node (o148v108 P) .nil .nil) (.node (o212v117 P) .nil .nil)) (.node (o116v104 P) (.node (o180v212 P) .nil .nil) .nil))) (.node (o28v6 P) (.node (o44v6 P) (.node (o76v6 P) (.node (o140v107 P) .nil .nil) (.node (o204v116 P) .nil .nil)) (.node (o108v102 P) (.node (o172v112 P) .nil .nil) .nil)) (.node (o60v6 P) (.node (o92v8 P) (.node (o156v109 P) .nil .nil) (.node (o220v118 P) .nil .nil)) (.node (o124v204 P) (.node (o188v213 P) .nil .nil) .nil))))) (.node (boot_o_6 P) (.node (boot_o_10 P) (.node (o18v6 P) (.node (o34v6 P) (.node (o66v6 P) (.node (o130v106 P) .nil .nil) (.node (o194v214 P) .nil .nil)) (.node (o98v101 P) (.node (o162v110 P) .nil .nil) .nil)) (.node (o50v6 P) (.node (o82v6 P) (.node (o146v207 P) .nil .nil) (.node (o210v117 P) .nil .nil)) (.node (o114v103 P) (.node (o178v112 P) .nil .nil) .nil))) (.node (o26v6 P) (.node (o42v6 P) (.node (o74v6 P) (.node (o138v206 P) .nil .nil) (.node (o202v215 P) .nil .nil)) (.node (o106v102 P) (.node (o170v111 P) .nil .nil) .nil)) (.node (o58v6 P) (.node (o90v7 P) (.node (o154v109 P) .nil .nil) (.node (o218v118 P) .nil .nil)) (.node (o122v104 P) (.node (o186v114 P) .nil .nil) .nil)))) (.node (o14v1 P) (.node (o22v6 P) (.node (o38v6 P) (.node (o70v6 P) (.node (o134v106 P) .nil .nil) (.node (o198v115 P) .nil .nil)) (.node (o102v102 P) (.node (o166v210 P) .nil .nil) .nil)) (.node (o54v6 P) (.node (o86v7 P) (.node (o150v108 P) .nil .nil) (.node (o214v118 P) .nil .nil)) (.node (o118v203 P) (.node (o182v113 P) .nil .nil) .nil))) (.node (o30v6 P) (.node (o46v6 P) (.node (o78v6 P) (.node (o142v107 P) .nil .nil) (.node (o206v116 P) .nil .nil)) (.node (o110v202 P) (.node (o174v211 P) .nil .nil) .nil)) (.node (o62v6 P) (.node (o94v8 P) (.node (o158v110 P) .nil .nil) .nil) (.node (o126v105 P) (.node (o190v114 P) .nil .nil) .nil)))))))
noncomputable def SA18 (P : Params) (os : OsState) (c r : Int) (cp : Value) (O : Obj) (tk : Nat) : SharedT := ⟨TA18 P c r cp O, 222, {}, ⟨[.running]⟩, {}, tk, os⟩
noncomputable def o222v218 (P : Params) : Obj := ⟨(.type "tuple"), none, (.seq ⟨[]⟩ 0), ⟨[]⟩⟩
noncomputable def o223v218 (P : Params) : Obj := ⟨(.type "StopIteration"), none, (.fields ⟨[(.ref 222), .none, .none, .none, (.bool false), .none]⟩), ⟨[]⟩⟩
noncomputable def TD19 (P : Params) (cp : Value) (O : Obj) : BT := (.node (boot_o_0 P) (.node (boot_o_1 P) (.node (o3v7 P) (.node (boot_o_7 P) (.node (o15v6 P) (.node (o31v6 P) (.node (o63v6 P) (.node (o127v105 P) .nil .nil) (.node (o191v114 P) .nil .nil)) (.node (d95 P (.int (.ofNat 12349) 302) (.int (.ofNat 12349) 303) cp) (.node (o159v209 P) .nil .nil) (.node (o223v218 P) .nil .nil))) (.node (o47v6 P) (.node (o79v6 P) (.node (o143v107 P) .nil .nil) (.node (o207v117 P) .nil .nil)) (.node (o111v202 P) (.node (o175v112 P) .nil .nil) .nil))) (.node (o23v6 P) (.node (o39v6 P) (.node (o71v6 P) (.node (o135v106 P) .nil .nil) (.node (o199v115 P) .nil .nil)) (.node (o103v201 P) (.node (o167v210 P) .nil .nil) .nil)) (.node (o55v6 P) (.node (o87v7 P) (.node (o151v109 P) .nil .nil) (.node (o215v217 P) .nil .nil)) (.node (o119v104 P) (.node (o183v113 P) .nil .nil) .nil)))) (.node (o11v1 P) (.node (o19v6 P) (.node (o35v6 P) (.node (o67v6 P) (.node (o131v205 P) .nil .nil) (.node (o195v214 P) .nil .nil)) (.node (o99v101 P) (.node (o163v110 P) .nil .nil) .nil)) (.node (o51v6 P) (.node (o83v6 P) (.node (o147v108 P) .nil .nil) (.node (o211v117 P) .nil .nil)) (.node (o115v103 P) (.node (o179v113 P) .nil .nil) .nil))) (.node (o27v6 P) (.node (o43v6 P) (.node (o75v6 P) (.node (o139v206 P) .nil .nil) (.node (o203v116 P) .nil .nil)) (.node (o107v102 P) (.node (o171v111 P) .nil .nil) .nil)) (.node (o59v6 P) (.node (o91v118 P) (.node (o155v109 P) .nil .nil) (.node (o219v118 P) .nil .nil)) (.node (o123v105 P) (.node (o187v213 P) .nil .nil) .nil))))) (.node (boot_o_5 P) (.node (boot_o_9 P) (.node (o17v6 P) (.node (o33v6 P) (.node (o65v6 P) (.node (o129v105 P) .nil .nil) (.node (o193v115 P) .nil .nil)) (.node O (.node (o161v110 P) .nil .nil) .nil)) (.node (o49v6 P) (.node (o81v6 P) (.node (o145v207 P) .nil .nil) (.node (o209v216 P) .nil .nil)) (.node (o113v103 P) (.node (o177v112 P) .nil .nil) .nil))) (.node (o25v6 P) (.node (o41v6 P) (.node (o73v6 P) (.node (o137v107 P) .nil .nil) (.node (o201v215 P) .nil .nil)) (.node (o105v102 P) (.node (o169v111 P) .nil .nil) .nil)) (.node (o57v6 P) (.node (o89v7 P) (.node (o153v208 P) .nil .nil) (.node (o217v118 P) .nil .nil)) (.node (o121v104 P) (.node (o185v113 P) .nil .nil) .nil)))) (.node (o13v1 P) (.node (o21v6 P) (.node (o37v6 P) (.node (o69v6 P) (.node (o133v106 P) .nil .nil) (.node (o197v115 P) .nil .nil)) (.node (o101v101 P) (.node (o165v111 P) .nil .nil) .nil)) (.node (o53v6 P) (.node (o85v6 P) (.node (o149v108 P) .nil .nil) (.node (o213v117 P) .nil .nil)) (.node (o117v203 P) (.node (o181v212 P) .nil .nil) .nil))) (.node (o29v6 P) (.node (o45v6 P) (.node (o77v6 P) (.node (o141v107 P) .nil .nil) (.node (o205v116 P) .nil .nil)) (.node (o109v103 P) (.node (o173v211 P) .nil .nil) .nil)) (.node (o61v6 P) (.node (o93v8 P) (.node (o157v109 P) .nil .nil) (.node (rit (.ofNat 12350) (.ofNat 0)) .nil .nil)) (.node (o125v204 P) (.node (o189v114 P) .nil .nil) .nil)))))) (.node (boot_o_2 P) (.node (boot_o_4 P) (.node (boot_o_8 P) (.node (o16v6 P) (.node (o32v6 P) (.node (o64v6 P) (.node (o128v105 P) .nil .nil) (.node (o192v114 P) .nil .nil)) (.node (o96v8 P) (.node (o160v209 P) .nil .nil) .nil)) (.node (o48v6 P) (.node (o80v6 P) (.node (o144v108 P) .nil .nil) (.node (o208v216 P) .nil .nil)) (.node (o112v103 P) (.node (o176v112 P) .nil .nil) .nil))) (.node (o24v6 P) (.node (o40v6 P) (.node (o72v6 P) (.node (o136v106 P) .nil .nil) (.node (o200v116 P) .nil .nil)) (.node (o104v201 P) (.node (o168v111 P) .nil .nil) .nil)) (.node (o56v6 P) (.node (o88v7 P) (.node (o152v208 P) .nil .nil) (.node (o216v217 P) .nil .nil)) (.node (o120v104 P) (.node (o184v113 P) .nil .nil) .nil)))) (.node (o12v8 P) (.node (o20v6 P) (.node (o36v6 P) (.node (o68v6 P) (.node (o132v205 P) .nil .nil) (.node (o196v115 P) .nil .nil)) (.node (o100v101 P) (.node (o164v110 P) .nil .nil) .nil)) (.node (o52v6 P) (.node (o84v6 P) (.node (o148v108 P) .nil .nil) (.node (o212v117 P) .nil .nil)) (.node (o116v104 P) (.node (o180v212 P) .nil .nil) .nil))) (.node (o28v6 P) (.node (o44v6 P) (.node (o76v6 P) (.node (o140v107 P) .nil .nil) (.node (o204v116 P) .nil .nil)) (.node (o108v102 P) (.node (o172v112 P) .nil .nil) .nil)) (.node (o60v6 P) (.node (o92v8 P) (.node (o156v109 P) .nil .nil) (.node (o220v118 P) .nil .nil)) (.node (o124v204 P) (.node (o188v213 P) .nil .nil) .nil))))) (.node (boot_o_6 P) (.node (boot_o_10 P) (.node (o18v6 P) (.node (o34v6 P) (.node (o66v6 P) (.node (o130v106 P) .nil .nil) (.node (o194v214 P) .nil .nil)) (.node (o98v101 P) (.node (o162v110 P) .nil .nil) .nil)) (.node (o50v6 P) (.node (o82v6 P) (.node (o146v207 P) .nil .nil) (.node (o210v117 P) .nil .nil)) (.node (o114v103 P) (.node (o178v112 P) .nil .nil) .nil))) (.node (o26v6 P) (.node (o42v6 P) (.node (o74v6 P) (.node (o138v206 P) .nil .nil) (.node (o202v215 P) .nil .nil)) (.node (o106v102 P) (.node (o170v111 P) .nil .nil) .nil)) (.node (o58v6 P) (.node (o90v7 P) (.node (o154v109 P) .nil .nil) (.node (o218v118 P) .nil .nil)) (.node (o122v104 P) (.node (o186v114 P) .nil .nil) .nil)))) (.node (o14v1 P) (.node (o22v6 P) (.node (o38v6 P) (.node (o70v6 P) (.node (o134v106 P) .nil .nil) (.node (o198v115 P) .nil .nil)) (.node (o102v102 P) (.node (o166v210 P) .nil .nil) .nil)) (.node (o54v6 P) (.node (o86v7 P) (.node (o150v108 P) .nil .nil) (.node (o214v118 P) .nil .nil)) (.node (o118v203 P) (.node (o182v113 P) .nil .nil) .nil))) (.node (o30v6 P) (.node (o46v6 P) (.node (o78v6 P) (.node (o142v107 P) .nil .nil) (.node (o206v116 P) .nil .nil)) (.node (o110v202 P) (.node (o174v211 P) .nil .nil) .nil)) (.node (o62v6 P) (.node (o94v8 P) (.node (o158v110 P) .nil .nil) (.node (o222v218 P) .nil .nil)) (.node (o126v105 P) (.node (o190v114 P) .nil .nil) .nil)))))))
noncomputable def SD19 (P : Params) (os : OsState) (cp : Value) (O : Obj) (tk : Nat) : SharedT := ⟨TD19 P cp O, 224, {}, ⟨[.running]⟩, {}, tk, os⟩
noncomputable def o91v119 (P : Params) : Obj := ⟨(.type "tuple_iterator"), none, (.fields ⟨[(.ref 85), (.int (.ofNat 19) 0)]⟩), ⟨[]⟩⟩
noncomputable def o221v119 (P : Params) : Obj := ⟨(.type "range_iterator"), none, (.fields ⟨[(.int (.ofNat 12350) 0), (.int (.ofNat 0) 0), (.int (.ofNat 1) 0)]⟩), ⟨[]⟩⟩
noncomputable def o224v119 (P : Params) : Obj := ⟨(.type "tuple_iterator"), none, (.fields ⟨[.none, (.int (.ofNat 2) 0)]⟩), ⟨[]⟩⟩
noncomputable def o225v119 (P : Params) : Obj := ⟨(.type "tuple"), none, (.seq ⟨[]⟩ 0), ⟨[]⟩⟩
noncomputable def o226v119 (P : Params) : Obj := ⟨(.type "StopIteration"), none, (.fields ⟨[(.ref 225), .none, .none, .none, (.bool false), .none]⟩), ⟨[]⟩⟩
noncomputable def o227v119 (P : Params) : Obj := ⟨(.type "range"), none, (.fields ⟨[(.int (.ofNat 126980) 304), (.int (.ofNat 126981) 665), (.int (.ofNat 1) 666)]⟩), ⟨[]⟩⟩
noncomputable def TA19 (P : Params) (c r : Int) (cp : Value) (O : Obj) : BT := (.node (boot_o_0 P) (.node (boot_o_1 P) (.node (o3v7 P) (.node (boot_o_7 P) (.node (o15v6 P) (.node (o31v6 P) (.node (o63v6 P) (.node (o127v105 P) .nil .nil) (.node (o191v114 P) .nil .nil)) (.node (d95 P (.int (.ofNat 126980) 304) (.int (.ofNat 126980) 305) cp) (.node (o159v209 P) .nil .nil) (.node (o223v218 P) .nil .nil))) (.node (o47v6 P) (.node (o79v6 P) (.node (o143v107 P) .nil .nil) (.node (o207v117 P) .nil .nil)) (.node (o111v202 P) (.node (o175v112 P) .nil .nil) .nil))) (.node (o23v6 P) (.node (o39v6 P) (.node (o71v6 P) (.node (o135v106 P) .nil .nil) (.node (o199v115 P) .nil .nil)) (.node (o103v201 P) (.node (o167v210 P) .nil .nil) .nil)) (.node (o55v6 P) (.node (o87v7 P) (.node (o151v109 P) .nil .nil) (.node (o215v217 P) .nil .nil)) (.node (o119v104 P) (.node (o183v113 P) .nil .nil) .nil)))) (.node (o11v1 P) (.node (o19v6 P) (.node (o35v6 P) (.node (o67v6 P) (.node (o131v205 P) .nil .nil) (.node (o195v214 P) .nil .nil)) (.node (o99v101 P) (.node (o163v110 P) .nil .nil) (.node (o227v119 P) .nil .nil))) (.node (o51v6 P) (.node (o83v6 P) (.node (o147v108 P) .nil .nil) (.node (o211v117 P) .nil .nil)) (.node (o115v103 P) (.node (o179v113 P) .nil .nil) .nil))) (.node (o27v6 P) (.node (o43v6 P) (.node (o75v6 P) (.node (o139v206 P) .nil .nil) (.node (o203v116 P) .nil .nil)) (.node (o107v102 P) (.node (o171v111 P) .nil .nil) .nil)) (.node (o59v6 P) (.node (o91v119 P) (.node (o155v109 P) .nil .nil) (.node (o219v118 P) .nil .nil)) (.node (o123v105 P) (.node (o187v213 P) .nil .nil) .nil))))) (.node (boot_o_5 P) (.node (boot_o_9 P) (.node (o17v6 P) (.node (o33v6 P) (.node (o65v6 P) (.node (o129v105 P) .nil .nil) (.node (o193v115 P) .nil .nil)) (.node O (.node (o161v110 P) .nil .nil) (.node (o225v119 P) .nil .nil))) (.node (o49v6 P) (.node (o81v6 P) (.node (o145v207 P) .nil .nil) (.node (o209v216 P) .nil .nil)) (.node (o113v103 P) (.node (o177v112 P) .nil .nil) .nil))) (.node (o25v6 P) (.node (o41v6 P) (.node (o73v6 P) (.node (o137v107 P) .nil .nil) (.node (o201v215 P) .nil .nil)) (.node (o105v102 P) (.node (o169v111 P) .nil .nil) .nil)) (.node (o57v6 P) (.node (o89v7 P) (.node (o153v208 P) .nil .nil) (.node (o217v118 P) .nil .nil)) (.node (o121v104 P) (.node (o185v113 P) .nil .nil) .nil)))) (.node (o13v1 P) (.node (o21v6 P) (.node (o37v6 P) (.node (o69v6 P) (.node (o133v106 P) .nil .nil) (.node (o197v115 P) .nil .nil)) (.node (o101v101 P) (.node (o165v111 P) .nil .nil) .nil)) (.node (o53v6 P) (.node (o85v6 P) (.node (o149v108 P) .nil .nil) (.node (o213v117 P) .nil .nil)) (.node (o117v203 P) (.node (o181v212 P) .nil .nil) .nil))) (.node (o29v6 P) (.node (o45v6 P) (.node (o77v6 P) (.node (o141v107 P) .nil .nil) (.node (o205v116 P) .nil .nil)) (.node (o109v103 P) (.node (o173v211 P) .nil .nil) .nil)) (.node (o61v6 P) (.node (o93v8 P) (.node (o157v109 P) .nil .nil) (.node (o221v119 P) .nil .nil)) (.node (o125v204 P) (.node (o189v114 P) .nil .nil) .nil)))))) (.node (boot_o_2 P) (.node (boot_o_4 P) (.node (boot_o_8 P) (.node (o16v6 P) (.node (o32v6 P) (.node (o64v6 P) (.node (o128v105 P) .nil .nil) (.node (o192v114 P) .nil .nil)) (.node (o96v8 P) (.node (o160v209 P) .nil .nil) (.node (o224v119 P) .nil .nil))) (.node (o48v6 P) (.node (o80v6 P) (.node (o144v108 P) .nil .nil) (.node (o208v216 P) .nil .nil)) (.node (o112v103 P) (.node (o176v112 P) .nil .nil) .nil))) (.node (o24v6 P) (.node (o40v6 P) (.node (o72v6 P) (.node (o136v106 P) .nil .nil) (.node (o200v116 P) .nil .nil)) (.node (o104v201 P) (.node (o168v111 P) .nil .nil) .nil)) (.node (o56v6 P) (.node (o88v7 P) (.node (o152v208 P) .nil .nil) (.node (o216v217 P) .nil .nil)) (.node (o120v104 P) (.node (o184v113 P) .nil .nil) .nil)))) (.node (o12v8 P) (.node (o20v6 P) (.node (o36v6 P) (.node (o68v6 P) (.node (o132v205 P) .nil .nil) (.node (o196v115 P) .nil .nil)) (.node (o100v101 P) (.node (o164v110 P) .nil .nil) (.node (rit c r) .nil .nil))) (.node (o52v6 P) (.node (o84v6 P) (.node (o148v108 P) .nil .nil) (.node (o212v117 P) .nil .nil)) (.node (o116v104 P) (.node (o180v212 P) .nil .nil) .nil))) (.node (o28v6 P) (.node (o44v6 P) (.node (o76v6 P) (.node (o140v107 P) .nil .nil) (.node (o204v116 P) .nil .nil)) (.node (o108v102 P) (.node (o172v112 P) .nil .nil) .nil)) (.node (o60v6 P) (.node (o92v8 P) (.node (o156v109 P) .nil .nil) (.node (o220v118 P) .nil .nil)) (.node (o124v204 P) (.node (o188v213 P) .nil .nil) .nil))))) (.node (boot_o_6 P) (.node (boot_o_10 P) (.node (o18v6 P) (.node (o34v6 P) (.node (o66v6 P) (.node (o130v106 P) .nil .nil) (.node (o194v214 P) .nil .nil)) (.node (o98v101 P) (.node (o162v110 P) .nil .nil) (.node (o226v119 P) .nil .nil))) (.node (o50v6 P) (.node (o82v6 P) (.node (o146v207 P) .nil .nil) (.node (o210v117 P) .nil .nil)) (.node (o114v103 P) (.node (o178v112 P) .nil .nil) .nil))) (.node (o26v6 P) (.node (o42v6 P) (.node (o74v6 P) (.node (o138v206 P) .nil .nil) (.node (o202v215 P) .nil .nil)) (.node (o106v102 P) (.node (o170v111 P) .nil .nil) .nil)) (.node (o58v6 P) (.node (o90v7 P) (.node (o154v109 P) .nil .nil) (.node (o218v118 P) .nil .nil)) (.node (o122v104 P) (.node (o186v114 P) .nil .nil) .nil)))) (.node (o14v1 P) (.node (o22v6 P) (.node (o38v6 P) (.node (o70v6 P) (.node (o134v106 P) .nil .nil) (.node (o198v115 P) .nil .nil)) (.node (o102v102 P) (.node (o166v210 P) .nil .nil) .nil)) (.node (o54v6 P) (.node (o86v7 P) (.node (o150v108 P) .nil .nil) (.node (o214v118 P) .nil .nil)) (.node (o118v203 P) (.node (o182v113 P) .nil .nil) .nil))) (.node (o30v6 P) (.node (o46v6 P) (.node (o78v6 P) (.node (o142v107 P) .nil .nil) (.node (o206v116 P) .nil .nil)) (.node (o110v202 P) (.node (o174v211 P) .nil .nil) .nil)) (.node (o62v6 P) (.node (o94v8 P) (.node (o158v110 P) .nil .nil) (.node (o222v218 P) .nil .nil)) (.node (o126v105 P) (.node (o190v114 P) .nil .nil) .nil)))))))
noncomputable def SA19 (P : Params) (os : OsState) (c r : Int) (cp : Value) (O : Obj) (tk : Nat) : SharedT := ⟨TA19 P c r cp O, 229, {}, ⟨[.running]⟩, {}, tk, os⟩
noncomputable def o229v219 (P : Params) : Obj := ⟨(.type "tuple"), none, (.seq ⟨[]⟩ 0), ⟨[]⟩⟩
noncomputable def o230v219 (P : Params) : Obj := ⟨(.type "StopIteration"), none, (.fields ⟨[(.ref 229), .none, .none, .none, (.bool false), .none]⟩), ⟨[]⟩⟩
noncomputable def TD20 (P : Params) (cp : Value) (O : Obj) : BT := (.node (boot_o_0 P) (.node (boot_o_1 P) (.node (o3v7 P) (.node (boot_o_7 P) (.node (o15v6 P) (.node (o31v6 P) (.node (o63v6 P) (.node (o127v105 P) .nil .nil) (.node (o191v114 P) .nil .nil)) (.node (d95 P (.int (.ofNat 126980) 304) (.int (.ofNat 126980) 305) cp) (.node (o159v209 P) .nil .nil) (.node (o223v218 P) .nil .nil))) (.node (o47v6 P) (.node (o79v6 P) (.node (o143v107 P) .nil .nil) (.node (o207v117 P) .nil .nil)) (.node (o111v202 P) (.node (o175v112 P) .nil .nil) .nil))) (.node (o23v6 P) (.node (o39v6 P) (.node (o71v6 P) (.node (o135v106 P) .nil .nil) (.node (o199v115 P) .nil .nil)) (.node (o103v201 P) (.node (o167v210 P) .nil .nil) .nil)) (.node (o55v6 P) (.node (o87v7 P) (.node (o151v109 P) .nil .nil) (.node (o215v217 P) .nil .nil)) (.node (o119v104 P) (.node (o183v113 P) .nil .nil) .nil)))) (.node (o11v1 P) (.node (o19v6 P) (.node (o35v6 P) (.node (o67v6 P) (.node (o131v205 P) .nil .nil) (.node (o195v214 P) .nil .nil)) (.node (o99v101 P) (.node (o163v110 P) .nil .nil) (.node (o227v119 P) .nil .nil))) (.node (o51v6 P) (.node (o83v6 P) (.node (o147v108 P) .nil .nil) (.node (o211v117 P) .nil .nil)) (.node (o115v103 P) (.node (o179v113 P) .nil .nil) .nil))) (.node (o27v6 P) (.node (o43v6 P) (.node (o75v6 P) (.node (o139v206 P) .nil .nil) (.node (o203v116 P) .nil .nil)) (.node (o107v102 P) (.node (o171v111 P) .nil .nil) .nil)) (.node (o59v6 P) (.node (o91v119 P) (.node (o155v109 P) .nil .nil) (.node (o219v118 P) .nil .nil)) (.node (o123v105 P) (.node (o187v213 P) .nil .nil) .nil))))) (.node (boot_o_5 P) (.node (boot_o_9 P) (.node (o17v6 P) (.node (o33v6 P) (.node (o65v6 P) (.node (o129v105 P) .nil .nil) (.node (o193v115 P) .nil .nil)) (.node O (.node (o161v110 P) .nil .nil) (.node (o225v119 P) .nil .nil))) (.node (o49v6 P) (.node (o81v6 P) (.node (o145v207 P) .nil .nil) (.node (o209v216 P) .nil .nil)) (.node (o113v103 P) (.node (o177v112 P) .nil .nil) .nil))) (.node (o25v6 P) (.node (o41v6 P) (.node (o73v6 P) (.node (o137v107 P) .nil .nil) (.node (o201v215 P) .nil .nil)) (.node (o105v102 P) (.node (o169v111 P) .nil .nil) .nil)) (.node (o57v6 P) (.node (o89v7 P) (.node (o153v208 P) .nil .nil) (.node (o217v118 P) .nil .nil)) (.node (o121v104 P) (.node (o185v113 P) .nil .nil) .nil)))) (.node (o13v1 P) (.node (o21v6 P) (.node (o37v6 P) (.node (o69v6 P) (.node (o133v106 P) .nil .nil) (.node (o197v115 P) .nil .nil)) (.node (o101v101 P) (.node (o165v111 P) .nil .nil) (.node (o229v219 P) .nil .nil))) (.node (o53v6 P) (.node (o85v6 P) (.node (o149v108 P) .nil .nil) (.node (o213v117 P) .nil .nil)) (.node (o117v203 P) (.node (o181v212 P) .nil .nil) .nil))) (.node (o29v6 P) (.node (o45v6 P) (.node (o77v6 P) (.node (o141v107 P) .nil .nil) (.node (o205v116 P) .nil .nil)) (.node (o109v103 P) (.node (o173v211 P) .nil .nil) .nil)) (.node (o61v6 P) (.node (o93v8 P) (.node (o157v109 P) .nil .nil) (.node (o221v119 P) .nil .nil)) (.node (o125v204 P) (.node (o189v114 P) .nil .nil) .nil)))))) (.node (boot_o_2 P) (.node (boot_o_4 P) (.node (boot_o_8 P) (.node (o16v6 P) (.node (o32v6 P) (.node (o64v6 P) (.node (o128v105 P) .nil .nil) (.node (o192v114 P) .nil .nil)) (.node (o96v8 P) (.node (o160v209 P) .nil .nil) (.node (o224v119 P) .nil .nil))) (.node (o48v6 P) (.node (o80v6 P) (.node (o144v108 P) .nil .nil) (.node (o208v216 P) .nil .nil)) (.node (o112v103 P) (.node (o176v112 P) .nil .nil) .nil))) (.node (o24v6 P) (.node (o40v6 P) (.node (o72v6 P) (.node (o136v106 P) .nil .nil) (.node (o200v116 P) .nil .nil)) (.node (o104v201 P) (.node (o168v111 P) .nil .nil) .nil)) (.node (o56v6 P) (.node (o88v7 P) (.node (o152v208 P) .nil .nil) (.node (o216v217 P) .nil .nil)) (.node (o120v104 P) (.node (o184v113 P) .nil .nil) .nil)))) (.node (o12v8 P) (.node (o20v6 P) (.node (o36v6 P) (.node (o68v6 P) (.node (o132v205 P) .nil .nil) (.node (o196v115 P) .nil .nil)) (.node (o100v101 P) (.node (o164v110 P) .nil .nil) (.node (rit (.ofNat 126981) (.ofNat 0)) .nil .nil))) (.node (o52v6 P) (.node (o84v6 P) (.node (o148v108 P) .nil .nil) (.node (o212v117 P) .nil .nil)) (.node (o116v104 P) (.node (o180v212 P) .nil .nil) .nil))) (.node (o28v6 P) (.node (o44v6 P) (.node (o76v6 P) (.node (o140v107 P) .nil .nil) (.node (o204v116 P) .nil .nil)) (.node (o108v102 P) (.node (o172v112 P) .nil .nil) .nil)) (.node (o60v6 P) (.node (o92v8 P) (.node (o156v109 P) .nil .nil) (.node (o220v118 P) .nil .nil)) (.node (o124v204 P) (.node (o188v213 P) .nil .nil) .nil))))) (.node (boot_o_6 P) (.node (boot_o_10 P) (.node (o18v6 P) (.node (o34v6 P) (.node (o66v6 P) (.node (o130v106 P) .nil .nil) (.node (o194v214 P) .nil .nil)) (.node (o98v101 P) (.node (o162v110 P) .nil .nil) (.node (o226v119 P) .nil .nil))) (.node (o50v6 P) (.node (o82v6 P) (.node (o146v207 P) .nil .nil) (.node (o210v117 P) .nil .nil)) (.node (o114v103 P) (.node (o178v112 P) .nil .nil) .nil))) (.node (o26v6 P) (.node (o42v6 P) (.node (o74v6 P) (.node (o138v206 P) .nil .nil) (.node (o202v215 P) .nil .nil)) (.node (o106v102 P) (.node (o170v111 P) .nil .nil) .nil)) (.node (o58v6 P) (.node (o90v7 P) (.node (o154v109 P) .nil .nil) (.node (o218v118 P) .nil .nil)) (.node (o122v104 P) (.node (o186v114 P) .nil .nil) .nil)))) (.node (o14v1 P) (.node (o22v6 P) (.node (o38v6 P) (.node (o70v6 P) (.node (o134v106 P) .nil .nil) (.node (o198v115 P) .nil .nil)) (.node (o102v102 P) (.node (o166v210 P) .nil .nil) (.node (o230v219 P) .nil .nil))) (.node (o54v6 P) (.node (o86v7 P) (.node (o150v108 P) .nil .nil) (.node (o214v118 P) .nil .nil)) (.node (o118v203 P) (.node (o182v113 P) .nil .nil) .nil))) (.node (o30v6 P) (.node (o46v6 P) (.node (o78v6 P) (.node (o142v107 P) .nil .nil) (.node (o206v116 P) .nil .nil)) (.node (o110v202 P) (.node (o174v211 P) .nil .nil) .nil)) (.node (o62v6 P) (.node (o94v8 P) (.node (o158v110 P) .nil .nil) (.node (o222v218 P) .nil .nil)) (.node (o126v105 P) (.node (o190v114 P) .nil .nil) .nil)))))))
noncomputable def SD20 (P : Params) (os : OsState) (cp : Value) (O : Obj) (tk : Nat) : SharedT := ⟨TD20 P cp O, 231, {}, ⟨[.running]⟩, {}, tk, os⟩
noncomputable def o91v120 (P : Params) : Obj := ⟨(.type "tuple_iterator"), none, (.fields ⟨[(.ref 85), (.int (.ofNat 20) 0)]⟩), ⟨[]⟩⟩
noncomputable def o228v120 (P : Params) : Obj := ⟨(.type "range_iterator"), none, (.fields ⟨[(.int (.ofNat 126981) 0), (.int (.ofNat 0) 0), (.int (.ofNat 1) 0)]⟩), ⟨[]⟩⟩
noncomputable def o231v120 (P : Params) : Obj := ⟨(.type "tuple_iterator"), none, (.fields ⟨[.none, (.int (.ofNat 2) 0)]⟩), ⟨[]⟩⟩
noncomputable def o232v120 (P : Params) : Obj := ⟨(.type "tuple"), none, (.seq ⟨[]⟩ 0), ⟨[]⟩⟩
noncomputable def o233v120 (P : Params) : Obj := ⟨(.type "StopIteration"), none, (.fields ⟨[(.ref 232), .none, .none, .none, (.bool false), .none]⟩), ⟨[]⟩⟩
noncomputable def o234v120 (P : Params) : Obj := ⟨(.type "range"), none, (.fields ⟨[(.int (.ofNat 127377) 306), (.int (.ofNat 127387) 673), (.int (.ofNat 1) 674)]⟩), ⟨[]⟩⟩
noncomputable def TA20 (P : Params) (c r : Int) (cp : Value) (O : Obj) : BT := (.node (boot_o_0 P) (.node (boot_o_1 P) (.node (o3v7 P) (.node (boot_o_7 P) (.node (o15v6 P) (.node (o31v6 P) (.node (o63v6 P) (.node (o127v105 P) .nil .nil) (.node (o191v114 P) .nil .nil)) (.node (d95 P (.int (.ofNat 127377) 306) (.int (.ofNat 127386) 307) cp) (.node (o159v209 P) .nil .nil) (.node (o223v218 P) .nil .nil))) (.node (o47v6 P) (.node (o79v6 P) (.node (o143v107 P) .nil .nil) (.node (o207v117 P) .nil .nil)) (.node (o111v202 P) (.node (o175v112 P) .nil .nil) .nil))) (.node (o23v6 P) (.node (o39v6 P) (.node (o71v6 P) (.node (o135v106 P) .nil .nil) (.node (o199v115 P) .nil .nil)) (.node (o103v201 P) (.node (o167v210 P) .nil .nil) (.node (o231v120 P) .nil .nil))) (.node (o55v6 P) (.node (o87v7 P) (.node (o151v109 P) .nil .nil) (.node (o215v217 P) .nil .nil)) (.node (o119v104 P) (.node (o183v113 P) .nil .nil) .nil)))) (.node (o11v1 P) (.node (o19v6 P) (.node (o35v6 P) (.node (o67v6 P) (.node (o131v205 P) .nil .nil) (.node (o195v214 P) .nil .nil)) (.node (o99v101 P) (.node (o163v110 P) .nil .nil) (.node (o227v119 P) .nil .nil))) (.node (o51v6 P) (.node (o83v6 P) (.node (o147v108 P) .nil .nil) (.node (o211v117 P) .nil .nil)) (.node (o115v103 P) (.node (o179v113 P) .nil .nil) .nil))) (.node (o27v6 P) (.node (o43v6 P) (.node (o75v6 P) (.node (o139v206 P) .nil .nil) (.node (o203v116 P) .nil .nil)) (.node (o107v102 P) (.node (o171v111 P) .nil .nil) (.node (rit c r) .nil .nil))) (.node (o59v6 P) (.node (o91v120 P) (.node (o155v109 P) .nil .nil) (.node (o219v118 P) .nil .nil)) (.node (o123v105 P) (.node (o187v213 P) .nil .nil) .nil))))) (.node (boot_o_5 P) (.node (boot_o_9 P) (.node (o17v6 P) (.node (o33v6 P) (.node (o65v6 P) (.node (o129v105 P) .nil .nil) (.node (o193v115 P) .nil .nil)) (.node O (.node (o161v110 P) .nil .nil) (.node (o225v119 P) .nil .nil))) (.node (o49v6 P) (.node (o81v6 P) (.node (o145v207 P) .nil .nil) (.node (o209v216 P) .nil .nil)) (.node (o113v103 P) (.node (o177v112 P) .nil .nil) .nil))) (.node (o25v6 P) (.node (o41v6 P) (.node (o73v6 P) (.node (o137v107 P) .nil .nil) (.node (o201v215 P) .nil .nil)) (.node (o105v102 P) (.node (o169v111 P) .nil .nil) (.node (o233v120 P) .nil .nil))) (.node (o57v6 P) (.node (o89v7 P) (.node (o153v208 P) .nil .nil) (.node (o217v118 P) .nil .nil)) (.node (o121v104 P) (.node (o185v113 P) .nil .nil) .nil)))) (.node (o13v1 P) (.node (o21v6 P) (.node (o37v6 P) (.node (o69v6 P) (.node (o133v106 P) .nil .nil) (.node (o197v115 P) .nil .nil)) (.node (o101v101 P) (.node (o165v111 P) .nil .nil) (.node (o229v219 P) .nil .nil))) (.node (o53v6 P) (.node (o85v6 P) (.node (o149v108 P) .nil .nil) (.node (o213v117 P) .nil .nil)) (.node (o117v203 P) (.node (o181v212 P) .nil .nil) .nil))) (.node (o29v6 P) (.node (o45v6 P) (.node (o77v6 P) (.node (o141v107 P) .nil .nil) (.node (o205v116 P) .nil .nil)) (.node (o109v103 P) (.node (o173v211 P) .nil .nil) .nil)) (.node (o61v6 P) (.node (o93v8 P) (.node (o157v109 P) .nil .nil) (.node (o221v119 P) .nil .nil)) (.node (o125v204 P) (.node (o189v114 P) .nil .nil) .nil)))))) (.node (boot_o_2 P) (.node (boot_o_4 P) (.node (boot_o_8 P) (.node (o16v6 P) (.node (o32v6 P) (.node (o64v6 P) (.node (o128v105 P) .nil .nil) (.node (o192v114 P) .nil .nil)) (.node (o96v8 P) (.node (o160v209 P) .nil .nil) (.node (o224v119 P) .nil .nil))) (.node (o48v6 P) (.node (o80v6 P) (.node (o144v108 P) .nil .nil) (.node (o208v216 P) .nil .nil)) (.node (o112v103 P) (.node (o176v112 P) .nil .nil) .nil))) (.node (o24v6 P) (.node (o40v6 P) (.node (o72v6 P) (.node (o136v106 P) .nil .nil) (.node (o200v116 P) .nil .nil)) (.node (o104v201 P) (.node (o168v111 P) .nil .nil) (.node (o232v120 P) .nil .nil))) (.node (o56v6 P) (.node (o88v7 P) (.node (o152v208 P) .nil .nil) (.node (o216v217 P) .nil .nil)) (.node (o120v104 P) (.node (o184v113 P) .nil .nil) .nil)))) (.node (o12v8 P) (.node (o20v6 P) (.node (o36v6 P) (.node (o68v6 P) (.node (o132v205 P) .nil .nil) (.node (o196v115 P) .nil .nil)) (.node (o100v101 P) (.node (o164v110 P) .nil .nil) (.node (o228v120 P) .nil .nil))) (.node (o52v6 P) (.node (o84v6 P) (.node (o148v108 P) .nil .nil) (.node (o212v117 P) .nil .nil)) (.node (o116v104 P) (.node (o180v212 P) .nil .nil) .nil))) (.node (o28v6 P) (.node (o44v6 P) (.node (o76v6 P) (.node (o140v107 P) .nil .nil) (.node (o204v116 P) .nil .nil)) (.node (o108v102 P) (.node (o172v112 P) .nil .nil) .nil)) (.node (o60v6 P) (.node (o92v8 P) (.node (o156v109 P) .nil .nil) (.node (o220v118 P) .nil .nil)) (.node (o124v204 P) (.node (o188v213 P) .nil .nil) .nil))))) (.node (boot_o_6 P) (.node (boot_o_10 P) (.node (o18v6 P) (.node (o34v6 P) (.node (o66v6 P) (.node (o130v106 P) .nil .nil) (.node (o194v214 P) .nil .nil)) (.node (o98v101 P) (.node (o162v110 P) .nil .nil) (.node (o226v119 P) .nil .nil))) (.node (o50v6 P) (.node (o82v6 P) (.node (o146v207 P) .nil .nil) (.node (o210v117 P) .nil .nil)) (.node (o114v103 P) (.node (o178v112 P) .nil .nil) .nil))) (.node (o26v6 P) (.node (o42v6 P) (.node (o74v6 P) (.node (o138v206 P) .nil .nil) (.node (o202v215 P) .nil .nil)) (.node (o106v102 P) (.node (o170v111 P) .nil .nil) (.node (o234v120 P) .nil .nil))) (.node (o58v6 P) (.node (o90v7 P) (.node (o154v109 P) .nil .nil) (.node (o218v118 P) .nil .nil)) (.node (o122v104 P) (.node (o186v114 P) .nil .nil) .nil)))) (.node (o14v1 P) (.node (o22v6 P) (.node (o38v6 P) (.node (o70v6 P) (.node (o134v106 P) .nil .nil) (.node (o198v115 P) .nil .nil)) (.node (o102v102 P) (.node (o166v210 P) .nil .nil) (.node (o230v219 P) .nil .nil))) (.node (o54v6 P) (.node (o86v7 P) (.node (o150v108 P) .nil .nil) (.node (o214v118 P) .nil .nil)) (.node (o118v203 P) (.node (o182v113 P) .nil .nil) .nil))) (.node (o30v6 P) (.node (o46v6 P) (.node (o78v6 P) (.node (o142v107 P) .nil .nil) (.node (o206v116 P) .nil .nil)) (.node (o110v202 P) (.node (o174v211 P) .nil .nil) .nil)) (.node (o62v6 P) (.node (o94v8 P) (.node (o158v110 P) .nil .nil) (.node (o222v218 P) .nil .nil)) (.node (o126v105 P) (.node (o190v114 P) .nil .nil) .nil)))))))
noncomputable def SA20 (P : Params) (os : OsState) (c r : Int) (cp : Value) (O : Obj) (tk : Nat) : SharedT := ⟨TA20 P c r cp O, 236, {}, ⟨[.running]⟩, {}, tk, os⟩
noncomputable def o236v220 (P : Params) : Obj := ⟨(.type "tuple"), none, (.seq ⟨[]⟩ 0), ⟨[]⟩⟩
noncomputable def o237v220 (P : Params) : Obj := ⟨(.type "StopIteration"), none, (.fields ⟨[(.ref 236), .none, .none, .none, (.bool false), .none]⟩), ⟨[]⟩⟩
noncomputable def TD21 (P : Params) (cp : Value) (O : Obj) : BT := (.node (boot_o_0 P) (.node (boot_o_1 P) (.node (o3v7 P) (.node (boot_o_7 P) (.node (o15v6 P) (.node (o31v6 P) (.node (o63v6 P) (.node (o127v105 P) .nil .nil) (.node (o191v114 P) .nil .nil)) (.node (d95 P (.int (.ofNat 127377) 306) (.int (.ofNat 127386) 307) cp) (.node (o159v209 P) .nil .nil) (.node (o223v218 P) .nil .nil))) (.node (o47v6 P) (.node (o79v6 P) (.node (o143v107 P) .nil .nil) (.node (o207v117 P) .nil .nil)) (.node (o111v202 P) (.node (o175v112 P) .nil .nil) .nil))) (.node (o23v6 P) (.node (o39v6 P) (.node (o71v6 P) (.node (o135v106 P) .nil .nil) (.node (o199v115 P) .nil .nil)) (.node (o103v201 P) (.node (o167v210 P) .nil .nil) (.node (o231v120 P) .nil .nil))) (.node (o55v6 P) (.node (o87v7 P) (.node (o151v109 P) .nil .nil) (.node (o215v217 P) .nil .nil)) (.node (o119v104 P) (.node (o183v113 P) .nil .nil) .nil)))) (.node (o11v1 P) (.node (o19v6 P) (.node (o35v6 P) (.node (o67v6 P) (.node (o131v205 P) .nil .nil) (.node (o195v214 P) .nil .nil)) (.node (o99v101 P) (.node (o163v110 P) .nil .nil) (.node (o227v119 P) .nil .nil))) (.node (o51v6 P) (.node (o83v6 P) (.node (o147v108 P) .nil .nil) (.node (o211v117 P) .nil .nil)) (.node (o115v103 P) (.node (o179v113 P) .nil .nil) .nil))) (.node (o27v6 P) (.node (o43v6 P) (.node (o75v6 P) (.node (o139v206 P) .nil .nil) (.node (o203v116 P) .nil .nil)) (.node (o107v102 P) (.node (o171v111 P) .nil .nil) (.node (rit (.ofNat 127387) (.ofNat 0)) .nil .nil))) (.node (o59v6 P) (.node (o91v120 P) (.node (o155v109 P) .nil .nil) (.node (o219v118 P) .nil .nil)) (.node (o123v105 P) (.node (o187v213 P) .nil .nil) .nil))))) (.node (boot_o_5 P) (.node (boot_o_9 P) (.node (o17v6 P) (.node (o33v6 P) (.node (o65v6 P) (.node (o129v105 P) .nil .nil) (.node (o193v115 P) .nil .nil)) (.node O (.node (o161v110 P) .nil .nil) (.node (o225v119 P) .nil .nil))) (.node (o49v6 P) (.node (o81v6 P) (.node (o145v207 P) .nil .nil) (.node (o209v216 P) .nil .nil)) (.node (o113v103 P) (.node (o177v112 P) .nil .nil) .nil))) (.node (o25v6 P) (.node (o41v6 P) (.node (o73v6 P) (.node (o137v107 P) .nil .nil) (.node (o201v215 P) .nil .nil)) (.node (o105v102 P) (.node (o169v111 P) .nil .nil) (.node (o233v120 P) .nil .nil))) (.node (o57v6 P) (.node (o89v7 P) (.node (o153v208 P) .nil .nil) (.node (o217v118 P) .nil .nil)) (.node (o121v104 P) (.node (o185v113 P) .nil .nil) .nil)))) (.node (o13v1 P) (.node (o21v6 P) (.node (o37v6 P) (.node (o69v6 P) (.node (o133v106 P) .nil .nil) (.node (o197v115 P) .nil .nil)) (.node (o101v101 P) (.node (o165v111 P) .nil .nil) (.node (o229v219 P) .nil .nil))) (.node (o53v6 P) (.node (o85v6 P) (.node (o149v108 P) .nil .nil) (.node (o213v117 P) .nil .nil)) (.node (o117v203 P) (.node (o181v212 P) .nil .nil) .nil))) (.node (o29v6 P) (.node (o45v6 P) (.node (o77v6 P) (.node (o141v107 P) .nil .nil) (.node (o205v116 P) .nil .nil)) (.node (o109v103 P) (.node (o173v211 P) .nil .nil) (.node (o237v220 P) .nil .nil))) (.node (o61v6 P) (.node (o93v8 P) (.node (o157v109 P) .nil .nil) (.node (o221v119 P) .nil .nil)) (.node (o125v204 P) (.node (o189v114 P) .nil .nil) .nil)))))) (.node (boot_o_2 P) (.node (boot_o_4 P) (.node (boot_o_8 P) (.node (o16v6 P) (.node (o32v6 P) (.node (o64v6 P) (.node (o128v105 P) .nil .nil) (.node (o192v114 P) .nil .nil)) (.node (o96v8 P) (.node (o160v209 P) .nil .nil) (.node (o224v119 P) .nil .nil))) (.node (o48v6 P) (.node (o80v6 P) (.node (o144v108 P) .nil .nil) (.node (o208v216 P) .nil .nil)) (.node (o112v103 P) (.node (o176v112 P) .nil .nil) .nil))) (.node (o24v6 P) (.node (o40v6 P) (.node (o72v6 P) (.node (o136v106 P) .nil .nil) (.node (o200v116 P) .nil .nil)) (.node (o104v201 P) (.node (o168v111 P) .nil .nil) (.node (o232v120 P) .nil .nil))) (.node (o56v6 P) (.node (o88v7 P) (.node (o152v208 P) .nil .nil) (.node (o216v217 P) .nil .nil)) (.node (o120v104 P) (.node (o184v113 P) .nil .nil) .nil)))) (.node (o12v8 P) (.node (o20v6 P) (.node (o36v6 P) (.node (o68v6 P) (.node (o132v205 P) .nil .nil) (.node (o196v115 P) .nil .nil)) (.node (o100v101 P) (.node (o164v110 P) .nil .nil) (.node (o228v120 P) .nil .nil))) (.node (o52v6 P) (.node (o84v6 P) (.node (o148v108 P) .nil .nil) (.node (o212v117 P) .nil .nil)) (.node (o116v104 P) (.node (o180v212 P) .nil .nil) .nil))) (.node (o28v6 P) (.node (o44v6 P) (.node (o76v6 P) (.node (o140v107 P) .nil .nil) (.node (o204v116 P) .nil .nil)) (.node (o108v102 P) (.node (o172v112 P) .nil .nil) (.node (o236v220 P) .nil .nil))) (.node (o60v6 P) (.node (o92v8 P) (.node (o156v109 P) .nil .nil) (.node (o220v118 P) .nil .nil)) (.node (o124v204 P) (.node (o188v213 P) .nil .nil) .nil))))) (.node (boot_o_6 P) (.node (boot_o_10 P) (.node (o18v6 P) (.node (o34v6 P) (.node (o66v6 P) (.node (o130v106 P) .nil .nil) (.node (o194v214 P) .nil .nil)) (.node (o98v101 P) (.node (o162v110 P) .nil .nil) (.node (o226v119 P) .nil .nil))) (.node (o50v6 P) (.node (o82v6 P) (.node (o146v207 P) .nil .nil) (.node (o210v117 P) .nil .nil)) (.node (o114v103 P) (.node (o178v112 P) .nil .nil) .nil))) (.node (o26v6 P) (.node (o42v6 P) (.node (o74v6 P) (.node (o138v206 P) .nil .nil) (.node (o202v215 P) .nil .nil)) (.node (o106v102 P) (.node (o170v111 P) .nil .nil) (.node (o234v120 P) .nil .nil))) (.node (o58v6 P) (.node (o90v7 P) (.node (o154v109 P) .nil .nil) (.node (o218v118 P) .nil .nil)) (.node (o122v104 P) (.node (o186v114 P) .nil .nil) .nil)))) (.node (o14v1 P) (.node (o22v6 P) (.node (o38v6 P) (.node (o70v6 P) (.node (o134v106 P) .nil .nil) (.node (o198v115 P) .nil .nil)) (.node (o102v102 P) (.node (o166v210 P) .nil .nil) (.node (o230v219 P) .nil .nil))) (.node (o54v6 P) (.node (o86v7 P) (.node (o150v108 P) .nil .nil) (.node (o214v118 P) .nil .nil)) (.node (o118v203 P) (.node (o182v113 P) .nil .nil) .nil))) (.node (o30v6 P) (.node (o46v6 P) (.node (o78v6 P) (.node (o142v107 P) .nil .nil) (.node (o206v116 P) .nil .nil)) (.node (o110v202 P) (.node (o174v211 P) .nil .nil) .nil)) (.node (o62v6 P) (.node (o94v8 P) (.node (o158v110 P) .nil .nil) (.node (o222v218 P) .nil .nil)) (.node (o126v105 P) (.node (o190v114 P) .nil .nil) .nil)))))))
noncomputable def SD21 (P : Params) (os : OsState) (cp : Value) (O : Obj) (tk : Nat) : SharedT := ⟨TD21 P cp O, 238, {}, ⟨[.running]⟩, {}, tk, os⟩
noncomputable def o91v121 (P : Params) : Obj := ⟨(.type "tuple_iterator"), none, (.fields ⟨[(.ref 85), (.int (.ofNat 21) 0)]⟩), ⟨[]⟩⟩
noncomputable def o235v121 (P : Params) : Obj := ⟨(.type "range_iterator"), none, (.fields ⟨[(.int (.ofNat 127387) 0), (.int (.ofNat 0) 0), (.int (.ofNat 1) 0)]⟩), ⟨[]⟩⟩
noncomputable def o238v121 (P : Params) : Obj := ⟨(.type "tuple_iterator"), none, (.fields ⟨[.none, (.int (.ofNat 2) 0)]⟩), ⟨[]⟩⟩
noncomputable def o239v121 (P : Params) : Obj := ⟨(.type "tuple"), none, (.seq ⟨[]⟩ 0), ⟨[]⟩⟩
noncomputable def o240v121 (P : Params) : Obj := ⟨(.type "StopIteration"), none, (.fields ⟨[(.ref 239), .none, .none, .none, (.bool false), .none]⟩), ⟨[]⟩⟩
noncomputable def o241v121 (P : Params) : Obj := ⟨(.type "range"), none, (.fields ⟨[(.int (.ofNat 127987) 308), (.int (.ofNat 127990) 708), (.int (.ofNat 1) 709)]⟩), ⟨[]⟩⟩
noncomputable def TA21 (P : Params) (c r : Int) (cp : Value) (O : Obj) : BT := (.node (boot_o_0 P) (.node (boot_o_1 P) (.node (o3v7 P) (.node (boot_o_7 P) (.node (o15v6 P) (.node (o31v6 P) (.node (o63v6 P) (.node (o127v105 P) .nil .nil) (.node (o191v114 P) .nil .nil)) (.node (d95 P (.int (.ofNat 127987) 308) (.int (.ofNat 127989) 309) cp) (.node (o159v209 P) .nil .nil) (.node (o223v218 P) .nil .nil))) (.node (o47v6 P) (.node (o79v6 P) (.node (o143v107 P) .nil .nil) (.node (o207v117 P) .nil .nil)) (.node (o111v202 P) (.node (o175v112 P) .nil .nil) (.node (o239v121 P) .nil .nil)))) (.node (o23v6 P) (.node (o39v6 P) (.node (o71v6 P) (.node (o135v106 P) .nil .nil) (.node (o199v115 P) .nil .nil)) (.node (o103v201 P) (.node (o167v210 P) .nil .nil) (.node (o231v120 P) .nil .nil))) (.node (o55v6 P) (.node (o87v7 P) (.node (o151v109 P) .nil .nil) (.node (o215v217 P) .nil .nil)) (.node (o119v104 P) (.node (o183v113 P) .nil .nil) .nil)))) (.node (o11v1 P) (.node (o19v6 P) (.node (o35v6 P) (.node (o67v6 P) (.node (o131v205 P) .nil .nil) (.node (o195v214 P) .nil .nil)) (.node (o99v101 P) (.node (o163v110 P) .nil .nil) (.node (o227v119 P) .nil .nil))) (.node (o51v6 P) (.node (o83v6 P) (.node (o147v108 P) .nil .nil) (.node (o211v117 P) .nil .nil)) (.node (o115v103 P) (.node (o179v113 P) .nil .nil) .nil))) (.node (o27v6 P) (.node (o43v6 P) (.node (o75v6 P) (.node (o139v206 P) .nil .nil) (.node (o203v116 P) .nil .nil)) (.node (o107v102 P) (.node (o171v111 P) .nil .nil) (.node (o235v121 P) .nil .nil))) (.node (o59v6 P) (.node (o91v121 P) (.node (o155v109 P) .nil .nil) (.node (o219v118 P) .nil .nil)) (.node (o123v105 P) (.node (o187v213 P) .nil .nil) .nil))))) (.node (boot_o_5 P) (.node (boot_o_9 P) (.node (o17v6 P) (.node (o33v6 P) (.node (o65v6 P) (.node (o129v105 P) .nil .nil) (.node (o193v115 P) .nil .nil)) (.node O (.node (o161v110 P) .nil .nil) (.node (o225v119 P) .nil .nil))) (.node (o49v6 P) (.node (o81v6 P) (.node (o145v207 P) .nil .nil) (.node (o209v216 P) .nil .nil)) (.node (o113v103 P) (.node (o177v112 P) .nil .nil) (.node (o241v121 P) .nil .nil)))) (.node (o25v6 P) (.node (o41v6 P) (.node (o73v6 P) (.node (o137v107 P) .nil .nil) (.node (o201v215 P) .nil .nil)) (.node (o105v102 P) (.node (o169v111 P) .nil .nil) (.node (o233v120 P) .nil .nil))) (.node (o57v6 P) (.node (o89v7 P) (.node (o153v208 P) .nil .nil) (.node (o217v118 P) .nil .nil)) (.node (o121v104 P) (.node (o185v113 P) .nil .nil) .nil)))) (.node (o13v1 P) (.node (o21v6 P) (.node (o37v6 P) (.node (o69v6 P) (.node (o133v106 P) .nil .nil) (.node (o197v115 P) .nil .nil)) (.node (o101v101 P) (.node (o165v111 P) .nil .nil) (.node (o229v219 P) .nil .nil))) (.node (o53v6 P) (.node (o85v6 P) (.node (o149v108 P) .nil .nil) (.node (o213v117 P) .nil .nil)) (.node (o117v203 P) (.node (o181v212 P) .nil .nil) .nil))) (.node (o29v6 P) (.node (o45v6 P) (.node (o77v6 P) (.node (o141v107 P) .nil .nil) (.node (o205v116 P) .nil .nil)) (.node (o109v103 P) (.node (o173v211 P) .nil .nil) (.node (o237v220 P) .nil .nil))) (.node (o61v6 P) (.node (o93v8 P) (.node (o157v109 P) .nil .nil) (.node (o221v119 P) .nil .nil)) (.node (o125v204 P) (.node (o189v114 P) .nil .nil) .nil)))))) (.node (boot_o_2 P) (.node (boot_o_4 P) (.node (boot_o_8 P) (.node (o16v6 P) (.node (o32v6 P) (.node (o64v6 P) (.node (o128v105 P) .nil .nil) (.node (o192v114 P) .nil .nil)) (.node (o96v8 P) (.node (o160v209 P) .nil .nil) (.node (o224v119 P) .nil .nil))) (.node (o48v6 P) (.node (o80v6 P) (.node (o144v108 P) .nil .nil) (.node (o208v216 P) .nil .nil)) (.node (o112v103 P) (.node (o176v112 P) .nil .nil) (.node (o240v121 P) .nil .nil)))) (.node (o24v6 P) (.node (o40v6 P) (.node (o72v6 P) (.node (o136v106 P) .nil .nil) (.node (o200v116 P) .nil .nil)) (.node (o104v201 P) (.node (o168v111 P) .nil .nil) (.node (o232v120 P) .nil .nil))) (.node (o56v6 P) (.node (o88v7 P) (.node (o152v208 P) .nil .nil) (.node (o216v217 P) .nil .nil)) (.node (o120v104 P) (.node (o184v113 P) .nil .nil) .nil)))) (.node (o12v8 P) (.node (o20v6 P) (.node (o36v6 P) (.node (o68v6 P) (.node (o132v205 P) .nil .nil) (.node (o196v115 P) .nil .nil)) (.node (o100v101 P) (.node (o164v110 P) .nil .nil) (.node (o228v120 P) .nil .nil))) (.node (o52v6 P) (.node (o84v6 P) (.node (o148v108 P) .nil .nil) (.node (o212v117 P) .nil .nil)) (.node (o116v104 P) (.node (o180v212 P) .nil .nil) .nil))) (.node (o28v6 P) (.node (o44v6 P) (.node (o76v6 P) (.node (o140v107 P) .nil .nil) (.node (o204v116 P) .nil .nil)) (.node (o108v102 P) (.node (o172v112 P) .nil .nil) (.node (o236v220 P) .nil .nil))) (.node (o60v6 P) (.node (o92v8 P) (.node (o156v109 P) .nil .nil) (.node (o220v118 P) .nil .nil)) (.node (o124v204 P) (.node (o188v213 P) .nil .nil) .nil))))) (.node (boot_o_6 P) (.node (boot_o_10 P) (.node (o18v6 P) (.node (o34v6 P) (.node (o66v6 P) (.node (o130v106 P) .nil .nil) (.node (o194v214 P) .nil .nil)) (.node (o98v101 P) (.node (o162v110 P) .nil .nil) (.node (o226v119 P) .nil .nil))) (.node (o50v6 P) (.node (o82v6 P) (.node (o146v207 P) .nil .nil) (.node (o210v117 P) .nil .nil)) (.node (o114v103 P) (.node (o178v112 P) .nil .nil) (.node (rit c r) .nil .nil)))) (.node (o26v6 P) (.node (o42v6 P) (.node (o74v6 P) (.node (o138v206 P) .nil .nil) (.node (o202v215 P) .nil .nil)) (.node (o106v102 P) (.node (o170v111 P) .nil .nil) (.node (o234v120 P) .nil .nil))) (.node (o58v6 P) (.node (o90v7 P) (.node (o154v109 P) .nil .nil) (.node (o218v118 P) .nil .nil)) (.node (o122v104 P) (.node (o186v114 P) .nil .nil) .nil)))) (.node (o14v1 P) (.node (o22v6 P) (.node (o38v6 P) (.node (o70v6 P) (.node (o134v106 P) .nil .nil) (.node (o198v115 P) .nil .nil)) (.node (o102v102 P) (.node (o166v210 P) .nil .nil) (.node (o230v219 P) .nil .nil))) (.node (o54v6 P) (.node (o86v7 P) (.node (o150v108 P) .nil .nil) (.node (o214v118 P) .nil .nil)) (.node (o118v203 P) (.node (o182v113 P) .nil .nil) .nil))) (.node (o30v6 P) (.node (o46v6 P) (.node (o78v6 P) (.node (o142v107 P) .nil .nil) (.node (o206v116 P) .nil .nil)) (.node (o110v202 P) (.node (o174v211 P) .nil .nil) (.node (o238v121 P) .nil .nil))) (.node (o62v6 P) (.node (o94v8 P) (.node (o158v110 P) .nil .nil) (.node (o222v218 P) .nil .nil)) (.node (o126v105 P) (.node (o190v114 P) .nil .nil) .nil)))))))
noncomputable def SA21 (P : Params) (os : OsState) (c r : Int) (cp : Value) (O : Obj) (tk : Nat) : SharedT := ⟨TA21 P c r cp O, 243, {}, ⟨[.running]⟩, {}, tk, os⟩
noncomputable def o243v221 (P : Params) : Obj := ⟨(.type "tuple"), none, (.seq ⟨[]⟩ 0), ⟨[]⟩⟩
noncomputable def o244v221 (P : Params) : Obj := ⟨(.type "StopIteration"), none, (.fields ⟨[(.ref 243), .none, .none, .none, (.bool false), .none]⟩), ⟨[]⟩⟩
noncomputable def TD22 (P : Params) (cp : Value) (O : Obj) : BT := (.node (boot_o_0 P) (.node (boot_o_1 P) (.node (o3v7 P) (.node (boot_o_7 P) (.node (o15v6 P) (.node (o31v6 P) (.node (o63v6 P) (.node (o127v105 P) .nil .nil) (.node (o191v114 P) .nil .nil)) (.node (d95 P (.int (.ofNat 127987) 308) (.int (.ofNat 127989) 309) cp) (.node (o159v209 P) .nil .nil) (.node (o223v218 P) .nil .nil))) (.node (o47v6 P) (.node (o79v6 P) (.node (o143v107 P) .nil .nil) (.node (o207v117 P) .nil .nil)) (.node (o111v202 P) (.node (o175v112 P) .nil .nil) (.node (o239v121 P) .nil .nil)))) (.node (o23v6 P) (.node (o39v6 P) (.node (o71v6 P) (.node (o135v106 P) .nil .nil) (.node (o199v115 P) .nil .nil)) (.node (o103v201 P) (.node (o167v210 P) .nil .nil) (.node (o231v120 P) .nil .nil))) (.node (o55v6 P) (.node (o87v7 P) (.node (o151v109 P) .nil .nil) (.node (o215v217 P) .nil .nil)) (.node (o119v104 P) (.node (o183v113 P) .nil .nil) .nil)))) (.node (o11v1 P) (.node (o19v6 P) (.node (o35v6 P) (.node (o67v6 P) (.node (o131v205 P) .nil .nil) (.node (o195v214 P) .nil .nil)) (.node (o99v101 P) (.node (o163v110 P) .nil .nil) (.node (o227v119 P) .nil .nil))) (.node (o51v6 P) (.node (o83v6 P) (.node (o147v108 P) .nil .nil) (.node (o211v117 P) .nil .nil)) (.node (o115v103 P) (.node (o179v113 P) .nil .nil) (.node (o243v221 P) .nil .nil)))) (.node (o27v6 P) (.node (o43v6 P) (.node (o75v6 P) (.node (o139v206 P) .nil .nil) (.node (o203v116 P) .nil .nil)) (.node (o107v102 P) (.node (o171v111 P) .nil .nil) (.node (o235v121 P) .nil .nil))) (.node (o59v6 P) (.node (o91v121 P) (.node (o155v109 P) .nil .nil) (.node (o219v118 P) .nil .nil)) (.node (o123v105 P) (.node (o187v213 P) .nil .nil) .nil))))) (.node (boot_o_5 P) (.node (boot_o_9 P) (.node (o17v6 P) (.node (o33v6 P) (.node (o65v6 P) (.node (o129v105 P) .nil .nil) (.node (o193v115 P) .nil .nil)) (.node O (.node (o161v110 P) .nil .nil) (.node (o225v119 P) .nil .nil))) (.node (o49v6 P) (.node (o81v6 P) (.node (o145v207 P) .nil .nil) (.node (o209v216 P) .nil .nil)) (.node (o113v103 P) (.node (o177v112 P) .nil .nil) (.node (o241v121 P) .nil .nil)))) (.node (o25v6 P) (.node (o41v6 P) (.node (o73v6 P) (.node (o137v107 P) .nil .nil) (.node (o201v215 P) .nil .nil)) (.node (o105v102 P) (.node (o169v111 P) .nil .nil) (.node (o233v120 P) .nil .nil))) (.node (o57v6 P) (.node (o89v7 P) (.node (o153v208 P) .nil .nil) (.node (o217v118 P) .nil .nil)) (.node (o121v104 P) (.node (o185v113 P) .nil .nil) .nil)))) (.node (o13v1 P) (.node (o21v6 P) (.node (o37v6 P) (.node (o69v6 P) (.node (o133v106 P) .nil .nil) (.node (o197v115 P) .nil .nil)) (.node (o101v101 P) (.node (o165v111 P) .nil .nil) (.node (o229v219 P) .nil .nil))) (.node (o53v6 P) (.node (o85v6 P) (.node (o149v108 P) .nil .nil) (.node (o213v117 P) .nil .nil)) (.node (o117v203 P) (.node (o181v212 P) .nil .nil) .nil))) (.node (o29v6 P) (.node (o45v6 P) (.node (o77v6 P) (.node (o141v107 P) .nil .nil) (.node (o205v116 P) .nil .nil)) (.node (o109v103 P) (.node (o173v211 P) .nil .nil) (.node (o237v220 P) .nil .nil))) (.node (o61v6 P) (.node (o93v8 P) (.node (o157v109 P) .nil .nil) (.node (o221v119 P) .nil .nil)) (.node (o125v204 P) (.node (o189v114 P) .nil .nil) .nil)))))) (.node (boot_o_2 P) (.node (boot_o_4 P) (.node (boot_o_8 P) (.node (o16v6 P) (.node (o32v6 P) (.node (o64v6 P) (.node (o128v105 P) .nil .nil) (.node (o192v114 P) .nil .nil)) (.node (o96v8 P) (.node (o160v209 P) .nil .nil) (.node (o224v119 P) .nil .nil))) (.node (o48v6 P) (.node (o80v6 P) (.node (o144v108 P) .nil .nil) (.node (o208v216 P) .nil .nil)) (.node (o112v103 P) (.node (o176v112 P) .nil .nil) (.node (o240v121 P) .nil .nil)))) (.node (o24v6 P) (.node (o40v6 P) (.node (o72v6 P) (.node (o136v106 P) .nil .nil) (.node (o200v116 P) .nil .nil)) (.node (o104v201 P) (.node (o168v111 P) .nil .nil) (.node (o232v120 P) .nil .nil))) (.node (o56v6 P) (.node (o88v7 P) (.node (o152v208 P) .nil .nil) (.node (o216v217 P) .nil .nil)) (.node (o120v104 P) (.node (o184v113 P) .nil .nil) .nil)))) (.node (o12v8 P) (.node (o20v6 P) (.node (o36v6 P) (.node (o68v6 P) (.node (o132v205 P) .nil .nil) (.node (o196v115 P) .nil .nil)) (.node (o100v101 P) (.node (o164v110 P) .nil .nil) (.node (o228v120 P) .nil .nil))) (.node (o52v6 P) (.node (o84v6 P) (.node (o148v108 P) .nil .nil) (.node (o212v117 P) .nil .nil)) (.node (o116v104 P) (.node (o180v212 P) .nil .nil) (.node (o244v221 P) .nil .nil)))) (.node (o28v6 P) (.node (o44v6 P) (.node (o76v6 P) (.node (o140v107 P) .nil .nil) (.node (o204v116 P) .nil .nil)) (.node (o108v102 P) (.node (o172v112 P) .nil .nil) (.node (o236v220 P) .nil .nil))) (.node (o60v6 P) (.node (o92v8 P) (.node (o156v109 P) .nil .nil) (.node (o220v118 P) .nil .nil)) (.node (o124v204 P) (.node (o188v213 P) .nil .nil) .nil))))) (.node (boot_o_6 P) (.node (boot_o_10 P) (.node (o18v6 P) (.node (o34v6 P) (.node (o66v6 P) (.node (o130v106 P) .nil .nil) (.node (o194v214 P) .nil .nil)) (.node (o98v101 P) (.node (o162v110 P) .nil .nil) (.node (o226v119 P) .nil .nil))) (.node (o50v6 P) (.node (o82v6 P) (.node (o146v207 P) .nil .nil) (.node (o210v117 P) .nil .nil)) (.node (o114v103 P) (.node (o178v112 P) .nil .nil) (.node (rit (.ofNat 127990) (.ofNat 0)) .nil .nil)))) (.node (o26v6 P) (.node (o42v6 P) (.node (o74v6 P) (.node (o138v206 P) .nil .nil) (.node (o202v215 P) .nil .nil)) (.node (o106v102 P) (.node (o170v111 P) .nil .nil) (.node (o234v120 P) .nil .nil))) (.node (o58v6 P) (.node (o90v7 P) (.node (o154v109 P) .nil .nil) (.node (o218v118 P) .nil .nil)) (.node (o122v104 P) (.node (o186v114 P) .nil .nil) .nil)))) (.node (o14v1 P) (.node (o22v6 P) (.node (o38v6 P) (.node (o70v6 P) (.node (o134v106 P) .nil .nil) (.node (o198v115 P) .nil .nil)) (.node (o102v102 P) (.node (o166v210 P) .nil .nil) (.node (o230v219 P) .nil .nil))) (.node (o54v6 P) (.node (o86v7 P) (.node (o150v108 P) .nil .nil) (.node (o214v118 P) .nil .nil)) (.node (o118v203 P) (.node (o182v113 P) .nil .nil) .nil))) (.node (o30v6 P) (.node (o46v6 P) (.node (o78v6 P) (.node (o142v107 P) .nil .nil) (.node (o206v116 P) .nil .nil)) (.node (o110v202 P) (.node (o174v211 P) .nil .nil) (.node (o238v121 P) .nil .nil))) (.node (o62v6 P) (.node (o94v8 P) (.node (o158v110 P) .nil .nil) (.node (o222v218 P) .nil .nil)) (.node (o126v105 P) (.node (o190v114 P) .nil .nil) .nil)))))))
noncomputable def SD22 (P : Params) (os : OsState) (cp : Value) (O : Obj) (tk : Nat) : SharedT := ⟨TD22 P cp O, 245, {}, ⟨[.running]⟩, {}, tk, os⟩
noncomputable def o91v122 (P : Params) : Obj := ⟨(.type "tuple_iterator"), none, (.fields ⟨[(.ref 85), (.int (.ofNat 22) 0)]⟩), ⟨[]⟩⟩
noncomputable def o242v122 (P : Params) : Obj := ⟨(.type "range_iterator"), none, (.fields ⟨[(.int (.ofNat 127990) 0), (.int (.ofNat 0) 0), (.int (.ofNat 1) 0)]⟩), ⟨[]⟩⟩
noncomputable def o245v122 (P : Params) : Obj := ⟨(.type "tuple_iterator"), none, (.fields ⟨[.none, (.int (.ofNat 2) 0)]⟩), ⟨[]⟩⟩
noncomputable def o246v122 (P : Params) : Obj := ⟨(.type "tuple"), none, (.seq ⟨[]⟩ 0), ⟨[]⟩⟩
noncomputable def o247v122 (P : Params) : Obj := ⟨(.type "StopIteration"), none, (.fields ⟨[(.ref 246), .none, .none, .none, (.bool false), .none]⟩), ⟨[]⟩⟩
noncomputable def o248v122 (P : Params) : Obj := ⟨(.type "range"), none, (.fields ⟨[(.int (.ofNat 127991) 310), (.int (.ofNat 127995) 722), (.int (.ofNat 1) 723)]⟩), ⟨[]⟩⟩
noncomputable def TA22 (P : Params) (c r : Int) (cp : Value) (O : Obj) : BT := (.node (boot_o_0 P) (.node (boot_o_1 P) (.node (o3v7 P) (.node (boot_o_7 P) (.node (o15v6 P) (.node (o31v6 P) (.node (o63v6 P) (.node (o127v105 P) .nil .nil) (.node (o191v114 P) .nil .nil)) (.node (d95 P (.int (.ofNat 127991) 310) (.int (.ofNat 127994) 311) cp) (.node (o159v209 P) .nil .nil) (.node (o223v218 P) .nil .nil))) (.node (o47v6 P) (.node (o79v6 P) (.node (o143v107 P) .nil .nil) (.node (o207v117 P) .nil .nil)) (.node (o111v202 P) (.node (o175v112 P) .nil .nil) (.node (o239v121 P) .nil .nil)))) (.node (o23v6 P) (.node (o39v6 P) (.node (o71v6 P) (.node (o135v106 P) .nil .nil) (.node (o199v115 P) .nil .nil)) (.node (o103v201 P) (.node (o167v210 P) .nil .nil) (.node (o231v120 P) .nil .nil))) (.node (o55v6 P) (.node (o87v7 P) (.node (o151v109 P) .nil .nil) (.node (o215v217 P) .nil .nil)) (.node (o119v104 P) (.node (o183v113 P) .nil .nil) (.node (o247v122 P) .nil .nil))))) (.node (o11v1 P) (.node (o19v6 P) (.node (o35v6 P) (.node (o67v6 P) (.node (o131v205 P) .nil .nil) (.node (o195v214 P) .nil .nil)) (.node (o99v101 P) (.node (o163v110 P) .nil .nil) (.node (o227v119 P) .nil .nil))) (.node (o51v6 P) (.node (o83v6 P) (.node (o147v108 P) .nil .nil) (.node (o211v117 P) .nil .nil)) (.node (o115v103 P) (.node (o179v113 P) .nil .nil) (.node (o243v221 P) .nil .nil)))) (.node (o27v6 P) (.node (o43v6 P) (.node (o75v6 P) (.node (o139v206 P) .nil .nil) (.node (o203v116 P) .nil .nil)) (.node (o107v102 P) (.node (o171v111 P) .nil .nil) (.node (o235v121 P) .nil .nil))) (.node (o59v6 P) (.node (o91v122 P) (.node (o155v109 P) .nil .nil) (.node (o219v118 P) .nil .nil)) (.node (o123v105 P) (.node (o187v213 P) .nil .nil) .nil))))) (.node (boot_o_5 P) (.node (boot_o_9 P) (.node (o17v6 P) (.node (o33v6 P) (.node (o65v6 P) (.node (o129v105 P) .nil .nil) (.node (o193v115 P) .nil .nil)) (.node O (.node (o161v110 P) .nil .nil) (.node (o225v119 P) .nil .nil))) (.node (o49v6 P) (.node (o81v6 P) (.node (o145v207 P) .nil .nil) (.node (o209v216 P) .nil .nil)) (.node (o113v103 P) (.node (o177v112 P) .nil .nil) (.node (o241v121 P) .nil .nil)))) (.node (o25v6 P) (.node (o41v6 P) (.node (o73v6 P) (.node (o137v107 P) .nil .nil) (.node (o201v215 P) .nil .nil)) (.node (o105v102 P) (.node (o169v111 P) .nil .nil) (.node (o233v120 P) .nil .nil))) (.node (o57v6 P) (.node (o89v7 P) (.node (o153v208 P) .nil .nil) (.node (o217v118 P) .nil .nil)) (.node (o121v104 P) (.node (o185v113 P) .nil .nil) (.node (rit c r) .nil .nil))))) (.node (o13v1 P) (.node (o21v6 P) (.node (o37v6 P) (.node (o69v6 P) (.node (o133v106 P) .nil .nil) (.node (o197v115 P) .nil .nil)) (.node (o101v101 P) (.node (o165v111 P) .nil .nil) (.node (o229v219 P) .nil .nil))) (.node (o53v6 P) (.node (o85v6 P) (.node (o149v108 P) .nil .nil) (.node (o213v117 P) .nil .nil)) (.node (o117v203 P) (.node (o181v212 P) .nil .nil) (.node (o245v122 P) .nil .nil)))) (.node (o29v6 P) (.node (o45v6 P) (.node (o77v6 P) (.node (o141v107 P) .nil .nil) (.node (o205v116 P) .nil .nil)) (.node (o109v103 P) (.node (o173v211 P) .nil .nil) (.node (o237v220 P) .nil .nil))) (.node (o61v6 P) (.node (o93v8 P) (.node (o157v109 P) .nil .nil) (.node (o221v119 P) .nil .nil)) (.node (o125v204 P) (.node (o189v114 P) .nil .nil) .nil)))))) (.node (boot_o_2 P) (.node (boot_o_4 P) (.node (boot_o_8 P) (.node (o16v6 P) (.node (o32v6 P) (.node (o64v6 P) (.node (o128v105 P) .nil .nil) (.node (o192v114 P) .nil .nil)) (.node (o96v8 P) (.node (o160v209 P) .nil .nil) (.node (o224v119 P) .nil .nil))) (.node (o48v6 P) (.node (o80v6 P) (.node (o144v108 P) .nil .nil) (.node (o208v216 P) .nil .nil)) (.node (o112v103 P) (.node (o176v112 P) .nil .nil) (.node (o240v121 P) .nil .nil)))) (.node (o24v6 P) (.node (o40v6 P) (.node (o72v6 P) (.node (o136v106 P) .nil .nil) (.node (o200v116 P) .nil .nil)) (.node (o104v201 P) (.node (o168v111 P) .nil .nil) (.node (o232v120 P) .nil .nil))) (.node (o56v6 P) (.node (o88v7 P) (.node (o152v208 P) .nil .nil) (.node (o216v217 P) .nil .nil)) (.node (o120v104 P) (.node (o184v113 P) .nil .nil) (.node (o248v122 P) .nil .nil))))) (.node (o12v8 P) (.node (o20v6 P) (.node (o36v6 P) (.node (o68v6 P) (.node (o132v205 P) .nil .nil) (.node (o196v115 P) .nil .nil)) (.node (o100v101 P) (.node (o164v110 P) .nil .nil) (.node (o228v120 P) .nil .nil))) (.node (o52v6 P) (.node (o84v6 P) (.node (o148v108 P) .nil .nil) (.node (o212v117 P) .nil .nil)) (.node (o116v104 P) (.node (o180v212 P) .nil .nil) (.node (o244v221 P) .nil .nil)))) (.node (o28v6 P) (.node (o44v6 P) (.node (o76v6 P) (.node (o140v107 P) .nil .nil) (.node (o204v116 P) .nil .nil)) (.node (o108v102 P) (.node (o172v112 P) .nil .nil) (.node (o236v220 P) .nil .nil))) (.node (o60v6 P) (.node (o92v8 P) (.node (o156v109 P) .nil .nil) (.node (o220v118 P) .nil .nil)) (.node (o124v204 P) (.node (o188v213 P) .nil .nil) .nil))))) (.node (boot_o_6 P) (.node (boot_o_10 P) (.node (o18v6 P) (.node (o34v6 P) (.node (o66v6 P) (.node (o130v106 P) .nil .nil) (.node (o194v214 P) .nil .nil)) (.node (o98v101 P) (.node (o162v110 P) .nil .nil) (.node (o226v119 P) .nil .nil))) (.node (o50v6 P) (.node (o82v6 P) (.node (o146v207 P) .nil .nil) (.node (o210v117 P) .nil .nil)) (.node (o114v103 P) (.node (o178v112 P) .nil .nil) (.node (o242v122 P) .nil .nil)))) (.node (o26v6 P) (.node (o42v6 P) (.node (o74v6 P) (.node (o138v206 P) .nil .nil) (.node (o202v215 P) .nil .nil)) (.node (o106v102 P) (.node (o170v111 P) .nil .nil) (.node (o234v120 P) .nil .nil))) (.node (o58v6 P) (.node (o90v7 P) (.node (o154v109 P) .nil .nil) (.node (o218v118 P) .nil .nil)) (.node (o122v104 P) (.node (o186v114 P) .nil .nil) .nil)))) (.node (o14v1 P) (.node (o22v6 P) (.node (o38v6 P) (.node (o70v6 P) (.node (o134v106 P) .nil .nil) (.node (o198v115 P) .nil .nil)) (.node (o102v102 P) (.node (o166v210 P) .nil .nil) (.node (o230v219 P) .nil .nil))) (.node (o54v6 P) (.node (o86v7 P) (.node (o150v108 P) .nil .nil) (.node (o214v118 P) .nil .nil)) (.node (o118v203 P) (.node (o182v113 P) .nil .nil) (.node (o246v122 P) .nil .nil)))) (.node (o30v6 P) (.node (o46v6 P) (.node (o78v6 P) (.node (o142v107 P) .nil .nil) (.node (o206v116 P) .nil .nil)) (.node (o110v202 P) (.node (o174v211 P) .nil .nil) (.node (o238v121 P) .nil .nil))) (.node (o62v6 P) (.node (o94v8 P) (.node (o158v110 P) .nil .nil) (.node (o222v218 P) .nil .nil)) (.node (o126v105 P) (.node (o190v114 P) .nil .nil) .nil)))))))
noncomputable def SA22 (P : Params) (os : OsState) (c r : Int) (cp : Value) (O : Obj) (tk : Nat) : SharedT := ⟨TA22 P c r cp O, 250, {}, ⟨[.running]⟩, {}, tk, os⟩
noncomputable def o250v222 (P : Params) : Obj := ⟨(.type "tuple"), none, (.seq ⟨[]⟩ 0), ⟨[]⟩⟩
noncomputable def o251v222 (P : Params) : Obj := ⟨(.type "StopIteration"), none, (.fields ⟨[(.ref 250), .none, .none, .none, (.bool false), .none]⟩), ⟨[]⟩⟩
noncomputable def TD23 (P : Params) (cp : Value) (O : Obj) : BT := (.node (boot_o_0 P) (.node (boot_o_1 P) (.node (o3v7 P) (.node (boot_o_7 P) (.node (o15v6 P) (.node (o31v6 P) (.node (o63v6 P) (.node (o127v105 P) .nil .nil) (.node (o191v114 P) .nil .nil)) (.node (d95 P (.int (.ofNat 127991) 310) (.int (.ofNat 127994) 311) cp) (.node (o159v209 P) .nil .nil) (.node (o223v218 P) .nil .nil))) (.node (o47v6 P) (.node (o79v6 P) (.node (o143v107 P) .nil .nil) (.node (o207v117 P) .nil .nil)) (.node (o111v202 P) (.node (o175v112 P) .nil .nil) (.node (o239v121 P) .nil .nil)))) (.node (o23v6 P) (.node (o39v6 P) (.node (o71v6 P) (.node (o135v106 P) .nil .nil) (.node (o199v115 P) .nil .nil)) (.node (o103v201 P) (.node (o167v210 P) .nil .nil) (.node (o231v120 P) .nil .nil))) (.node (o55v6 P) (.node (o87v7 P) (.node (o151v109 P) .nil .nil) (.node (o215v217 P) .nil .nil)) (.node (o119v104 P) (.node (o183v113 P) .nil .nil) (.node (o247v122 P) .nil .nil))))) (.node (o11v1 P) (.node (o19v6 P) (.node (o35v6 P) (.node (o67v6 P) (.node (o131v205 P) .nil .nil) (.node (o195v214 P) .nil .nil)) (.node (o99v101 P) (.node (o163v110 P) .nil .nil) (.node (o227v119 P) .nil .nil))) (.node (o51v6 P) (.node (o83v6 P) (.node (o147v108 P) .nil .nil) (.node (o211v117 P) .nil .nil)) (.node (o115v103 P) (.node (o179v113 P) .nil .nil) (.node (o243v221 P) .nil .nil)))) (.node (o27v6 P) (.node (o43v6 P) (.node (o75v6 P) (.node (o139v206 P) .nil .nil) (.node (o203v116 P) .nil .nil)) (.node (o107v102 P) (.node (o171v111 P) .nil .nil) (.node (o235v121 P) .nil .nil))) (.node (o59v6 P) (.node (o91v122 P) (.node (o155v109 P) .nil .nil) (.node (o219v118 P) .nil .nil)) (.node (o123v105 P) (.node (o187v213 P) .nil .nil) (.node (o251v222 P) .nil .nil)))))) (.node (boot_o_5 P) (.node (boot_o_9 P) (.node (o17v6 P) (.node (o33v6 P) (.node (o65v6 P) (.node (o129v105 P) .nil .nil) (.node (o193v115 P) .nil .nil)) (.node O (.node (o161v110 P) .nil .nil) (.node (o225v119 P) .nil .nil))) (.node (o49v6 P) (.node (o81v6 P) (.node (o145v207 P) .nil .nil) (.node (o209v216 P) .nil .nil)) (.node (o113v103 P) (.node (o177v112 P) .nil .nil) (.node (o241v121 P) .nil .nil)))) (.node (o25v6 P) (.node (o41v6 P) (.node (o73v6 P) (.node (o137v107 P) .nil .nil) (.node (o201v215 P) .nil .nil)) (.node (o105v102 P) (.node (o169v111 P) .nil .nil) (.node (o233v120 P) .nil .nil))) (.node (o57v6 P) (.node (o89v7 P) (.node (o153v208 P) .nil .nil) (.node (o217v118 P) .nil .nil)) (.node (o121v104 P) (.node (o185v113 P) .nil .nil) (.node (rit (.ofNat 127995) (.ofNat 0)) .nil .nil))))) (.node (o13v1 P) (.node (o21v6 P) (.node (o37v6 P) (.node (o69v6 P) (.node (o133v106 P) .nil .nil) (.node (o197v115 P) .nil .nil)) (.node (o101v101 P) (.node (o165v111 P) .nil .nil) (.node (o229v219 P) .nil .nil))) (.node (o53v6 P) (.node (o85v6 P) (.node (o149v108 P) .nil .nil) (.node (o213v117 P) .nil .nil)) (.node (o117v203 P) (.node (o181v212 P) .nil .nil) (.node (o245v122 P) .nil .nil)))) (.node (o29v6 P) (.node (o45v6 P) (.node (o77v6 P) (.node (o141v107 P) .nil .nil) (.node (o205v116 P) .nil .nil)) (.node (o109v103 P) (.node (o173v211 P) .nil .nil) (.node (o237v220 P) .nil .nil))) (.node (o61v6 P) (.node (o93v8 P) (.node (o157v109 P) .nil .nil) (.node (o221v119 P) .nil .nil)) (.node (o125v204 P) (.node (o189v114 P) .nil .nil) .nil)))))) (.node (boot_o_2 P) (.node (boot_o_4 P) (.node (boot_o_8 P) (.node (o16v6 P) (.node (o32v6 P) (.node (o64v6 P) (.node (o128v105 P) .nil .nil) (.node (o192v114 P) .nil .nil)) (.node (o96v8 P) (.node (o160v209 P) .nil .nil) (.node (o224v119 P) .nil .nil))) (.node (o48v6 P) (.node (o80v6 P) (.node (o144v108 P) .nil .nil) (.node (o208v216 P) .nil .nil)) (.node (o112v103 P) (.node (o176v112 P) .nil .nil) (.node (o240v121 P) .nil .nil)))) (.node (o24v6 P) (.node (o40v6 P) (.node (o72v6 P) (.node (o136v106 P) .nil .nil) (.node (o200v116 P) .nil .nil)) (.node (o104v201 P) (.node (o168v111 P) .nil .nil) (.node (o232v120 P) .nil .nil))) (.node (o56v6 P) (.node (o88v7 P) (.node (o152v208 P) .nil .nil) (.node (o216v217 P) .nil .nil)) (.node (o120v104 P) (.node (o184v113 P) .nil .nil) (.node (o248v122 P) .nil .nil))))) (.node (o12v8 P) (.node (o20v6 P) (.node (o36v6 P) (.node (o68v6 P) (.node (o132v205 P) .nil .nil) (.node (o196v115 P) .nil .nil)) (.node (o100v101 P) (.node (o164v110 P) .nil .nil) (.node (o228v120 P) .nil .nil))) (.node (o52v6 P) (.node (o84v6 P) (.node (o148v108 P) .nil .nil) (.node (o212v117 P) .nil .nil)) (.node (o116v104 P) (.node (o180v212 P) .nil .nil) (.node (o244v221 P) .nil .nil)))) (.node (o28v6 P) (.node (o44v6 P) (.node (o76v6 P) (.node (o140v107 P) .nil .nil) (.node (o204v116 P) .nil .nil)) (.node (o108v102 P) (.node (o172v112 P) .nil .nil) (.node (o236v220 P) .nil .nil))) (.node (o60v6 P) (.node (o92v8 P) (.node (o156v109 P) .nil .nil) (.node (o220v118 P) .nil .nil)) (.node (o124v204 P) (.node (o188v213 P) .nil .nil) .nil))))) (.node (boot_o_6 P) (.node (boot_o_10 P) (.node (o18v6 P) (.node (o34v6 P) (.node (o66v6 P) (.node (o130v106 P) .nil .nil) (.node (o194v214 P) .nil .nil)) (.node (o98v101 P) (.node (o162v110 P) .nil .nil) (.node (o226v119 P) .nil .nil))) (.node (o50v6 P) (.node (o82v6 P) (.node (o146v207 P) .nil .nil) (.node (o210v117 P) .nil .nil)) (.node (o114v103 P) (.node (o178v112 P) .nil .nil) (.node (o242v122 P) .nil .nil)))) (.node (o26v6 P) (.node (o42v6 P) (.node (o74v6 P) (.node (o138v206 P) .nil .nil) (.node (o202v215 P) .nil .nil)) (.node (o106v102 P) (.node (o170v111 P) .nil .nil) (.node (o234v120 P) .nil .nil))) (.node (o58v6 P) (.node (o90v7 P) (.node (o154v109 P) .nil .nil) (.node (o218v118 P) .nil .nil)) (.node (o122v104 P) (.node (o186v114 P) .nil .nil) (.node (o250v222 P) .nil .nil))))) (.node (o14v1 P) (.node (o22v6 P) (.node (o38v6 P) (.node (o70v6 P) (.node (o134v106 P) .nil .nil) (.node (o198v115 P) .nil .nil)) (.node (o102v102 P) (.node (o166v210 P) .nil .nil) (.node (o230v219 P) .nil .nil))) (.node (o54v6 P) (.node (o86v7 P) (.node (o150v108 P) .nil .nil) (.node (o214v118 P) .nil .nil)) (.node (o118v203 P) (.node (o182v113 P) .nil .nil) (.node (o246v122 P) .nil .nil)))) (.node (o30v6 P) (.node (o46v6 P) (.node (o78v6 P) (.node (o142v107 P) .nil .nil) (.node (o206v116 P) .nil .nil)) (.node (o110v202 P) (.node (o174v211 P) .nil .nil) (.node (o238v121 P) .nil .nil))) (.node (o62v6 P) (.node (o94v8 P) (.node (o158v110 P) .nil .nil) (.node (o222v218 P) .nil .nil)) (.node (o126v105 P) (.node (o190v114 P) .nil .nil) .nil)))))))
noncomputable def SD23 (P : Params) (os : OsState) (cp : Value) (O : Obj) (tk : Nat) : SharedT := ⟨TD23 P cp O, 252, {}, ⟨[.running]⟩, {}, tk, os⟩
noncomputable def o91v123 (P : Params) : Obj := ⟨(.type "tuple_iterator"), none, (.fields ⟨[(.ref 85), (.int (.ofNat 23) 0)]⟩), ⟨[]⟩⟩
noncomputable def o249v123 (P : Params) : Obj := ⟨(.type "range_iterator"), none, (.fields ⟨[(.int (.ofNat 127995) 0), (.int (.ofNat 0) 0), (.int (.ofNat 1) 0)]⟩), ⟨[]⟩⟩
noncomputable def o252v123 (P : Params) : Obj := ⟨(.type "tuple_iterator"), none, (.fields ⟨[.none, (.int (.ofNat 2) 0)]⟩), ⟨[]⟩⟩
noncomputable def o253v123 (P : Params) : Obj := ⟨(.type "tuple"), none, (.seq ⟨[]⟩ 0), ⟨[]⟩⟩
noncomputable def o254v123 (P : Params) : Obj := ⟨(.type "StopIteration"), none, (.fields ⟨[(.ref 253), .none, .none, .none, (.bool false), .none]⟩), ⟨[]⟩⟩
noncomputable def o255v123 (P : Params) : Obj := ⟨(.type "range"), none, (.fields ⟨[(.int (.ofNat 128371) 312), (.int (.ofNat 128379) 739), (.int (.ofNat 1) 740)]⟩), ⟨[]⟩⟩
noncomputable def TA23 (P : Params) (c r : Int) (cp : Value) (O : Obj) : BT := (.node (boot_o_0 P) (.node (boot_o_1 P) (.node (o3v7 P) (.node (boot_o_7 P) (.node (o15v6 P) (.node (o31v6 P) (.node (o63v6 P) (.node (o127v105 P) (.node (o255v123 P) .nil .nil) .nil) (.node (o191v114 P) .nil .nil)) (.node (d95 P (.int (.ofNat 128371) 312) (.int (.ofNat 128378) 313) cp) (.node (o159v209 P) .nil .nil) (.node (o223v218 P) .nil .nil))) (.node (o47v6 P) (.node (o79v6 P) (.node (o143v107 P) .nil .nil) (.node (o207v117 P) .nil .nil)) (.node (o111v202 P) (.node (o175v112 P) .nil .nil) (.node (o239v121 P) .nil .nil)))) (.node (o23v6 P) (.node (o39v6 P) (.node (o71v6 P) (.node (o135v106 P) .nil .nil) (.node (o199v115 P) .nil .nil)) (.node (o103v201 P) (.node (o167v210 P) .nil .nil) (.node (o231v120 P) .nil .nil))) (.node (o55v6 P) (.node (o87v7 P) (.node (o151v109 P) .nil .nil) (.node (o215v217 P) .nil .nil)) (.node (o119v104 P) (.node (o183v113 P) .nil .nil) (.node (o247v122 P) .nil .nil))))) (.node (o11v1 P) (.node (o19v6 P) (.node (o35v6 P) (.node (o67v6 P) (.node (o131v205 P) .nil .nil) (.node (o195v214 P) .nil .nil)) (.node (o99v101 P) (.node (o163v110 P) .nil .nil) (.node (o227v119 P) .nil .nil))) (.node (o51v6 P) (.node (o83v6 P) (.node (o147v108 P) .nil .nil) (.node (o211v117 P) .nil .nil)) (.node (o115v103 P) (.node (o179v113 P) .nil .nil) (.node (o243v221 P) .nil .nil)))) (.node (o27v6 P) (.node (o43v6 P) (.node (o75v6 P) (.node (o139v206 P) .nil .nil) (.node (o203v116 P) .nil .nil)) (.node (o107v102 P) (.node (o171v111 P) .nil .nil) (.node (o235v121 P) .nil .nil))) (.node (o59v6 P) (.node (o91v123 P) (.node (o155v109 P) .nil .nil) (.node (o219v118 P) .nil .nil)) (.node (o123v105 P) (.node (o187v213 P) .nil .nil) (.node (o251v222 P) .nil .nil)))))) (.node (boot_o_5 P) (.node (boot_o_9 P) (.node (o17v6 P) (.node (o33v6 P) (.node (o65v6 P) (.node (o129v105 P) .nil .nil) (.node (o193v115 P) .nil .nil)) (.node O (.node (o161v110 P) .nil .nil) (.node (o225v119 P) .nil .nil))) (.node (o49v6 P) (.node (o81v6 P) (.node (o145v207 P) .nil .nil) (.node (o209v216 P) .nil .nil)) (.node (o113v103 P) (.node (o177v112 P) .nil .nil) (.node (o241v121 P) .nil .nil)))) (.node (o25v6 P) (.node (o41v6 P) (.node (o73v6 P) (.node (o137v107 P) .nil .nil) (.node (o201v215 P) .nil .nil)) (.node (o105v102 P) (.node (o169v111 P) .nil .nil) (.node (o233v120 P) .nil .nil))) (.node (o57v6 P) (.node (o89v7 P) (.node (o153v208 P) .nil .nil) (.node (o217v118 P) .nil .nil)) (.node (o121v104 P) (.node (o185v113 P) .nil .nil) (.node (o249v123 P) .nil .nil))))) (.node (o13v1 P) (.node (o21v6 P) (.node (o37v6 P) (.node (o69v6 P) (.node (o133v106 P) .nil .nil) (.node (o197v115 P) .nil .nil)) (.node (o101v101 P) (.node (o165v111 P) .nil .nil) (.node (o229v219 P) .nil .nil))) (.node (o53v6 P) (.node (o85v6 P) (.node (o149v108 P) .nil .nil) (.node (o213v117 P) .nil .nil)) (.node (o117v203 P) (.node (o181v212 P) .nil .nil) (.node (o245v122 P) .nil .nil)))) (.node (o29v6 P) (.node (o45v6 P) (.node (o77v6 P) (.node (o141v107 P) .nil .nil) (.node (o205v116 P) .nil .nil)) (.node (o109v103 P) (.node (o173v211 P) .nil .nil) (.node (o237v220 P) .nil .nil))) (.node (o61v6 P) (.node (o93v8 P) (.node (o157v109 P) .nil .nil) (.node (o221v119 P) .nil .nil)) (.node (o125v204 P) (.node (o189v114 P) .nil .nil) (.node (o253v123 P) .nil .nil))))))) (.node (boot_o_2 P) (.node (boot_o_4 P) (.node (boot_o_8 P) (.node (o16v6 P) (.node (o32v6 P) (.node (o64v6 P) (.node (o128v105 P) (.node (rit c r) .nil .nil) .nil) (.node (o192v114 P) .nil .nil)) (.node (o96v8 P) (.node (o160v209 P) .nil .nil) (.node (o224v119 P) .nil .nil))) (.node (o48v6 P) (.node (o80v6 P) (.node (o144v108 P) .nil .nil) (.node (o208v216 P) .nil .nil)) (.node (o112v103 P) (.node (o176v112 P) .nil .nil) (.node (o240v121 P) .nil .nil)))) (.node (o24v6 P) (.node (o40v6 P) (.node (o72v6 P) (.node (o136v106 P) .nil .nil) (.node (o200v116 P) .nil .nil)) (.node (o104v201 P) (.node (o168v111 P) .nil .nil) (.node (o232v120 P) .nil .nil))) (.node (o56v6 P) (.node (o88v7 P) (.node (o152v208 P) .nil .nil) (.node (o216v217 P) .nil .nil)) (.node (o120v104 P) (.node (o184v113 P) .nil .nil) (.node (o248v122 P) .nil .nil))))) (.node (o12v8 P) (.node (o20v6 P) (.node (o36v6 P) (.node (o68v6 P) (.node (o132v205 P) .nil .nil) (.node (o196v115 P) .nil .nil)) (.node (o100v101 P) (.node (o164v110 P) .nil .nil) (.node (o228v120 P) .nil .nil))) (.node (o52v6 P) (.node (o84v6 P) (.node (o148v108 P) .nil .nil) (.node (o212v117 P) .nil .nil)) (.node (o116v104 P) (.node (o180v212 P) .nil .nil) (.node (o244v221 P) .nil .nil)))) (.node (o28v6 P) (.node (o44v6 P) (.node (o76v6 P) (.node (o140v107 P) .nil .nil) (.node (o204v116 P) .nil .nil)) (.node (o108v102 P) (.node (o172v112 P) .nil .nil) (.node (o236v220 P) .nil .nil))) (.node (o60v6 P) (.node (o92v8 P) (.node (o156v109 P) .nil .nil) (.node (o220v118 P) .nil .nil)) (.node (o124v204 P) (.node (o188v213 P) .nil .nil) (.node (o252v123 P) .nil .nil)))))) (.node (boot_o_6 P) (.node (boot_o_10 P) (.node (o18v6 P) (.node (o34v6 P) (.node (o66v6 P) (.node (o130v106 P) .nil .nil) (.node (o194v214 P) .nil .nil)) (.node (o98v101 P) (.node (o162v110 P) .nil .nil) (.node (o226v119 P) .nil .nil))) (.node (o50v6 P) (.node (o82v6 P) (.node (o146v207 P) .nil .nil) (.node (o210v117 P) .nil .nil)) (.node (o114v103 P) (.node (o178v112 P) .nil .nil) (.node (o242v122 P) .nil .nil)))) (.node (o26v6 P) (.node (o42v6 P) (.node (o74v6 P) (.node (o138v206 P) .nil .nil) (.node (o202v215 P) .nil .nil)) (.node (o106v102 P) (.node (o170v111 P) .nil .nil) (.node (o234v120 P) .nil .nil))) (.node (o58v6 P) (.node (o90v7 P) (.node (o154v109 P) .nil .nil) (.node (o218v118 P) .nil .nil)) (.node (o122v104 P) (.node (o186v114 P) .nil .nil) (.node (o250v222 P) .nil .nil))))) (.node (o14v1 P) (.node (o22v6 P) (.node (o38v6 P) (.node (o70v6 P) (.node (o134v106 P) .nil .nil) (.node (o198v115 P) .nil .nil)) (.node (o102v102 P) (.node (o166v210 P) .nil .nil) (.node (o230v219 P) .nil .nil))) (.node (o54v6 P) (.node (o86v7 P) (.node (o150v108 P) .nil .nil) (.node (o214v118 P) .nil .nil)) (.node (o118v203 P) (.node (o182v113 P) .nil .nil) (.node (o246v122 P) .nil .nil)))) (.node (o30v6 P) (.node (o46v6 P) (.node (o78v6 P) (.node (o142v107 P) .nil .nil) (.node (o206v116 P) .nil .nil)) (.node (o110v202 P) (.node (o174v211 P) .nil .nil) (.node (o238v121 P) .nil .nil))) (.node (o62v6 P) (.node (o94v8 P) (.node (o158v110 P) .nil .nil) (.node (o222v218 P) .nil .nil)) (.node (o126v105 P) (.node (o190v114 P) .nil .nil) (.node (o254v123 P) .nil .nil))))))))
noncomputable def SA23 (P : Params) (os : OsState) (c r : Int) (cp : Value) (O : Obj) (tk : Nat) : SharedT := ⟨TA23 P c r cp O, 257, {}, ⟨[.running]⟩, {}, tk, os⟩
noncomputable def o257v223 (P : Params) : Obj := ⟨(.type "tuple"), none, (.seq ⟨[]⟩ 0), ⟨[]⟩⟩
noncomputable def o258v223 (P : Params) : Obj := ⟨(.type "StopIteration"), none, (.fields ⟨[(.ref 257), .none, .none, .none, (.bool false), .none]⟩), ⟨[]⟩⟩
noncomputable def TD24 (P : Params) (cp : Value) (O : Obj) : BT := (.node (boot_o_0 P) (.node (boot_o_1 P) (.node (o3v7 P) (.node (boot_o_7 P) (.node (o15v6 P) (.node (o31v6 P) (.node (o63v6 P) (.node (o127v105 P) (.node (o255v123 P) .nil .nil) .nil) (.node (o191v114 P) .nil .nil)) (.node (d95 P (.int (.ofNat 128371) 312) (.int (.ofNat 128378) 313) cp) (.node (o159v209 P) .nil .nil) (.node (o223v218 P) .nil .nil))) (.node (o47v6 P) (.node (o79v6 P) (.node (o143v107 P) .nil .nil) (.node (o207v117 P) .nil .nil)) (.node (o111v202 P) (.node (o175v112 P) .nil .nil) (.node (o239v121 P) .nil .nil)))) (.node (o23v6 P) (.node (o39v6 P) (.node (o71v6 P) (.node (o135v106 P) .nil .nil) (.node (o199v115 P) .nil .nil)) (.node (o103v201 P) (.node (o167v210 P) .nil .nil) (.node (o231v120 P) .nil .nil))) (.node (o55v6 P) (.node (o87v7 P) (.node (o151v109 P) .nil .nil) (.node (o215v217 P) .nil .nil)) (.node (o119v104 P) (.node (o183v113 P) .nil .nil) (.node (o247v122 P) .nil .nil))))) (.node (o11v1 P) (.node (o19v6 P) (.node (o35v6 P) (.node (o67v6 P) (.node (o131v205 P) .nil .nil) (.node (o195v214 P) .nil .nil)) (.node (o99v101 P) (.node (o163v110 P) .nil .nil) (.node (o227v119 P) .nil .nil))) (.node (o51v6 P) (.node (o83v6 P) (.node (o147v108 P) .nil .nil) (.node (o211v117 P) .nil .nil)) (.node (o115v103 P) (.node (o179v113 P) .nil .nil) (.node (o243v221 P) .nil .nil)))) (.node (o27v6 P) (.node (o43v6 P) (.node (o75v6 P) (.node (o139v206 P) .nil .nil) (.node (o203v116 P) .nil .nil)) (.node (o107v102 P) (.node (o171v111 P) .nil .nil) (.node (o235v121 P) .nil .nil))) (.node (o59v6 P) (.node (o91v123 P) (.node (o155v109 P) .nil .nil) (.node (o219v118 P) .nil .nil)) (.node (o123v105 P) (.node (o187v213 P) .nil .nil) (.node (o251v222 P) .nil .nil)))))) (.node (boot_o_5 P) (.node (boot_o_9 P) (.node (o17v6 P) (.node (o33v6 P) (.node (o65v6 P) (.node (o129v105 P) (.node (o257v223 P) .nil .nil) .nil) (.node (o193v115 P) .nil .nil)) (.node O (.node (o161v110 P) .nil .nil) (.node (o225v119 P) .nil .nil))) (.node (o49v6 P) (.node (o81v6 P) (.node (o145v207 P) .nil .nil) (.node (o209v216 P) .nil .nil)) (.node (o113v103 P) (.node (o177v112 P) .nil .nil) (.node (o241v121 P) .nil .nil)))) (.node (o25v6 P) (.node (o41v6 P) (.node (o73v6 P) (.node (o137v107 P) .nil .nil) (.node (o201v215 P) .nil .nil)) (.node (o105v102 P) (.node (o169v111 P) .nil .nil) (.node (o233v120 P) .nil .nil))) (.node (o57v6 P) (.node (o89v7 P) (.node (o153v208 P) .nil .nil) (.node (o217v118 P) .nil .nil)) (.node (o121v104 P) (.node (o185v113 P) .nil .nil) (.node (o249v123 P) .nil .nil))))) (.node (o13v1 P) (.node (o21v6 P) (.node (o37v6 P) (.node (o69v6 P) (.node (o133v106 P) .nil .nil) (.node (o197v115 P) .nil .nil)) (.node (o101v101 P) (.node (o165v111 P) .nil .nil) (.node (o229v219 P) .nil .nil))) (.node (o53v6 P) (.node (o85v6 P) (.node (o149v108 P) .nil .nil) (.node (o213v117 P) .nil .nil)) (.node (o117v203 P) (.node (o181v212 P) .nil .nil) (.node (o245v122 P) .nil .nil)))) (.node (o29v6 P) (.node (o45v6 P) (.node (o77v6 P) (.node (o141v107 P) .nil .nil) (.node (o205v116 P) .nil .nil)) (.node (o109v103 P) (.node (o173v211 P) .nil .nil) (.node (o237v220 P) .nil .nil))) (.node (o61v6 P) (.node (o93v8 P) (.node (o157v109 P) .nil .nil) (.node (o221v119 P) .nil .nil)) (.node (o125v204 P) (.node (o189v114 P) .nil .nil) (.node (o253v123 P) .nil .nil))))))) (.node (boot_o_2 P) (.node (boot_o_4 P) (.node (boot_o_8 P) (.node (o16v6 P) (.node (o32v6 P) (.node (o64v6 P) (.node (o128v105 P) (.node (rit (.ofNat 128379) (.ofNat 0)) .nil .nil) .nil) (.node (o192v114 P) .nil .nil)) (.node (o96v8 P) (.node (o160v209 P) .nil .nil) (.node (o224v119 P) .nil .nil))) (.node (o48v6 P) (.node (o80v6 P) (.node (o144v108 P) .nil .nil) (.node (o208v216 P) .nil .nil)) (.node (o112v103 P) (.node (o176v112 P) .nil .nil) (.node (o240v121 P) .nil .nil)))) (.node (o24v6 P) (.node (o40v6 P) (.node (o72v6 P) (.node (o136v106 P) .nil .nil) (.node (o200v116 P) .nil .nil)) (.node (o104v201 P) (.node (o168v111 P) .nil .nil) (.node (o232v120 P) .nil .nil))) (.node (o56v6 P) (.node (o88v7 P) (.node (o152v208 P) .nil .nil) (.node (o216v217 P) .nil .nil)) (.node (o120v104 P) (.node (o184v113 P) .nil .nil) (.node (o248v122 P) .nil .nil))))) (.node (o12v8 P) (.node (o20v6 P) (.node (o36v6 P) (.node (o68v6 P) (.node (o132v205 P) .nil .nil) (.node (o196v115 P) .nil .nil)) (.node (o100v101 P) (.node (o164v110 P) .nil .nil) (.node (o228v120 P) .nil .nil))) (.node (o52v6 P) (.node (o84v6 P) (.node (o148v108 P) .nil .nil) (.node (o212v117 P) .nil .nil)) (.node (o116v104 P) (.node (o180v212 P) .nil .nil) (.node (o244v221 P) .nil .nil)))) (.node (o28v6 P) (.node (o44v6 P) (.node (o76v6 P) (.node (o140v107 P) .nil .nil) (.node (o204v116 P) .nil .nil)) (.node (o108v102 P) (.node (o172v112 P) .nil .nil) (.node (o236v220 P) .nil .nil))) (.node (o60v6 P) (.node (o92v8 P) (.node (o156v109 P) .nil .nil) (.node (o220v118 P) .nil .nil)) (.node (o124v204 P) (.node (o188v213 P) .nil .nil) (.node (o252v123 P) .nil .nil)))))) (.node (boot_o_6 P) (.node (boot_o_10 P) (.node (o18v6 P) (.node (o34v6 P) (.node (o66v6 P) (.node (o130v106 P) (.node (o258v223 P) .nil .nil) .nil) (.node (o194v214 P) .nil .nil)) (.node (o98v101 P) (.node (o162v110 P) .nil .nil) (.node (o226v119 P) .nil .nil))) (.node (o50v6 P) (.node (o82v6 P) (.node (o146v207 P) .nil .nil) (.node (o210v117 P) .nil .nil)) (.node (o114v103 P) (.node (o178v112 P) .nil .nil) (.node (o242v122 P) .nil .nil)))) (.node (o26v6 P) (.node (o42v6 P) (.node (o74v6 P) (.node (o138v206 P) .nil .nil) (.node (o202v215 P) .nil .nil)) (.node (o106v102 P) (.node (o170v111 P) .nil .nil) (.node (o234v120 P) .nil .nil))) (.node (o58v6 P) (.node (o90v7 P) (.node (o154v109 P) .nil .nil) (.node (o218v118 P) .nil .nil)) (.node (o122v104 P) (.node (o186v114 P) .nil .nil) (.node (o250v222 P) .nil .nil))))) (.node (o14v1 P) (.node (o22v6 P) (.node (o38v6 P) (.node (o70v6 P) (.node (o134v106 P) .nil .nil) (.node (o198v115 P) .nil .nil)) (.node (o102v102 P) (.node (o166v210 P) .nil .nil) (.node (o230v219 P) .nil .nil))) (.node (o54v6 P) (.node (o86v7 P) (.node (o150v108 P) .nil .nil) (.node (o214v118 P) .nil .nil)) (.node (o118v203 P) (.node (o182v113 P) .nil .nil) (.node (o246v122 P) .nil .nil)))) (.node (o30v6 P) (.node (o46v6 P) (.node (o78v6 P) (.node (o142v107 P) .nil .nil) (.node (o206v116 P) .nil .nil)) (.node (o110v202 P) (.node (o174v211 P) .nil .nil) (.node (o238v121 P) .nil .nil))) (.node (o62v6 P) (.node (o94v8 P) (.node (o158v110 P) .nil .nil) (.node (o222v218 P) .nil .nil)) (.node (o126v105 P) (.node (o190v114 P) .nil .nil) (.node (o254v123 P) .nil .nil))))))))
noncomputable def SD24 (P : Params) (os : OsState) (cp : Value) (O : Obj) (tk : Nat) : SharedT := ⟨TD24 P cp O, 259, {}, ⟨[.running]⟩, {}, tk, os⟩
noncomputable def o91v124 (P : Params) : Obj := ⟨(.type "tuple_iterator"), none, (.fields ⟨[(.ref 85), (.int (.ofNat 24) 0)]⟩), ⟨[]⟩⟩
noncomputable def o256v124 (P : Params) : Obj := ⟨(.type "range_iterator"), none, (.fields ⟨[(.int (.ofNat 128379) 0), (.int (.ofNat 0) 0), (.int (.ofNat 1) 0)]⟩), ⟨[]⟩⟩
noncomputable def o259v124 (P : Params) : Obj := ⟨(.type "tuple_iterator"), none, (.fields ⟨[.none, (.int (.ofNat 2) 0)]⟩), ⟨[]⟩⟩
noncomputable def o260v124 (P : Params) : Obj := ⟨(.type "tuple"), none, (.seq ⟨[]⟩ 0), ⟨[]⟩⟩
noncomputable def o261v124 (P : Params) : Obj := ⟨(.type "StopIteration"), none, (.fields ⟨[(.ref 260), .none, .none, .none, (.bool false), .none]⟩), ⟨[]⟩⟩
noncomputable def o262v124 (P : Params) : Obj := ⟨(.type "range"), none, (.fields ⟨[(.int (.ofNat 128405) 314), (.int (.ofNat 128407) 768), (.int (.ofNat 1) 769)]⟩), ⟨[]⟩⟩
noncomputable def TA24 (P : Params) (c r : Int) (cp : Value) (O : Obj) : BT := (.node (boot_o_0 P) (.node (boot_o_1 P) (.node (o3v7 P) (.node (boot_o_7 P) (.node (o15v6 P) (.node (o31v6 P) (.node (o63v6 P) (.node (o127v105 P) (.node (o255v123 P) .nil .nil) .nil) (.node (o191v114 P) .nil .nil)) (.node (d95 P (.int (.ofNat 128405) 314) (.int (.ofNat 128406) 315) cp) (.node (o159v209 P) .nil .nil) (.node (o223v218 P) .nil .nil))) (.node (o47v6 P) (.node (o79v6 P) (.node (o143v107 P) .nil .nil) (.node (o207v117 P) .nil .nil)) (.node (o111v202 P) (.node (o175v112 P) .nil .nil) (.node (o239v121 P) .nil .nil)))) (.node (o23v6 P) (.node (o39v6 P) (.node (o71v6 P) (.node (o135v106 P) (.node (rit c r) .nil .nil) .nil) (.node (o199v115 P) .nil .nil)) (.node (o103v201 P) (.node (o167v210 P) .nil .nil) (.node (o231v120 P) .nil .nil))) (.node (o55v6 P) (.node (o87v7 P) (.node (o151v109 P) .nil .nil) (.node (o215v217 P) .nil .nil)) (.node (o119v104 P) (.node (o183v113 P) .nil .nil) (.node (o247v122 P) .nil .nil))))) (.node (o11v1 P) (.node (o19v6 P) (.node (o35v6 P) (.node (o67v6 P) (.node (o131v205 P) (.node (o259v124 P) .nil .nil) .nil) (.node (o195v214 P) .nil .nil)) (.node (o99v101 P) (.node (o163v110 P) .nil .nil) (.node (o227v119 P) .nil .nil))) (.node (o51v6 P) (.node (o83v6 P) (.node (o147v108 P) .nil .nil) (.node (o211v117 P) .nil .nil)) (.node (o115v103 P) (.node (o179v113 P) .nil .nil) (.node (o243v221 P) .nil .nil)))) (.node (o27v6 P) (.node (o43v6 P) (.node (o75v6 P) (.node (o139v206 P) .nil .nil) (.node (o203v116 P) .nil .nil)) (.node (o107v102 P) (.node (o171v111 P) .nil .nil) (.node (o235v121 P) .nil .nil))) (.node (o59v6 P) (.node (o91v124 P) (.node (o155v109 P) .nil .nil) (.node (o219v118 P) .nil .nil)) (.node (o123v105 P) (.node (o187v213 P) .nil .nil) (.node (o251v222 P) .nil .nil)))))) (.node (boot_o_5 P) (.node (boot_o_9 P) (.node (o17v6 P) (.node (o33v6 P) (.node (o65v6 P) (.node (o129v105 P) (.node (o257v223 P) .nil .nil) .nil) (.node (o193v115 P) .nil .nil)) (.node O (.node (o161v110 P) .nil .nil) (.node (o225v119 P) .nil .nil))) (.node (o49v6 P) (.node (o81v6 P) (.node (o145v207 P) .nil .nil) (.node (o209v216 P) .nil .nil)) (.node (o113v103 P) (.node (o177v112 P) .nil .nil) (.node (o241v121 P) .nil .nil)))) (.node (o25v6 P) (.node (o41v6 P) (.node (o73v6 P) (.node (o137v107 P) .nil .nil) (.node (o201v215 P) .nil .nil)) (.node (o105v102 P) (.node (o169v111 P) .nil .nil) (.node (o233v120 P) .nil .nil))) (.node (o57v6 P) (.node (o89v7 P) (.node (o153v208 P) .nil .nil) (.node (o217v118 P) .nil .nil)) (.node (o121v104 P) (.node (o185v113 P) .nil .nil) (.node (o249v123 P) .nil .nil))))) (.node (o13v1 P) (.node (o21v6 P) (.node (o37v6 P) (.node (o69v6 P) (.node (o133v106 P) (.node (o261v124 P) .nil .nil) .nil) (.node (o197v115 P) .nil .nil)) (.node (o101v101 P) (.node (o165v111 P) .nil .nil) (.node (o229v219 P) .nil .nil))) (.node (o53v6 P) (.node (o85v6 P) (.node (o149v108 P) .nil .nil) (.node (o213v117 P) .nil .nil)) (.node (o117v203 P) (.node (o181v212 P) .nil .nil) (.node (o245v122 P) .nil .nil)))) (.node (o29v6 P) (.node (o45v6 P) (.node (o77v6 P) (.node (o141v107 P) .nil .nil) (.node (o205v116 P) .nil .nil)) (.node (o109v103 P) (.node (o173v211 P) .nil .nil) (.node (o237v220 P) .nil .nil))) (.node (o61v6 P) (.node (o93v8 P) (.node (o157v109 P) .nil .nil) (.node (o221v119 P) .nil .nil)) (.node (o125v204 P) (.node (o189v114 P) .nil .nil) (.node (o253v123 P) .nil .nil))))))) (.node (boot_o_2 P) (.node (boot_o_4 P) (.node (boot_o_8 P) (.node (o16v6 P) (.node (o32v6 P) (.node (o64v6 P) (.node (o128v105 P) (.node (o256v124 P) .nil .nil) .nil) (.node (o192v114 P) .nil .nil)) (.node (o96v8 P) (.node (o160v209 P) .nil .nil) (.node (o224v119 P) .nil .nil))) (.node (o48v6 P) (.node (o80v6 P) (.node (o144v108 P) .nil .nil) (.node (o208v216 P) .nil .nil)) (.node (o112v103 P) (.node (o176v112 P) .nil .nil) (.node (o240v121 P) .nil .nil)))) (.node (o24v6 P) (.node (o40v6 P) (.node (o72v6 P) (.node (o136v106 P) .nil .nil) (.node (o200v116 P) .nil .nil)) (.node (o104v201 P) (.node (o168v111 P) .nil .nil) (.node (o232v120 P) .nil .nil))) (.node (o56v6 P) (.node (o88v7 P) (.node (o152v208 P) .nil .nil) (.node (o216v217 P) .nil .nil)) (.node (o120v104 P) (.node (o184v113 P) .nil .nil) (.node (o248v122 P) .nil .nil))))) (.node (o12v8 P) (.node (o20v6 P) (.node (o36v6 P) (.node (o68v6 P) (.node (o132v205 P) (.node (o260v124 P) .nil .nil) .nil) (.node (o196v115 P) .nil .nil)) (.node (o100v101 P) (.node (o164v110 P) .nil .nil) (.node (o228v120 P) .nil .nil))) (.node (o52v6 P) (.node (o84v6 P) (.node (o148v108 P) .nil .nil) (.node (o212v117 P) .nil .nil)) (.node (o116v104 P) (.node (o180v212 P) .nil .nil) (.node (o244v221 P) .nil .nil)))) (.node (o28v6 P) (.node (o44v6 P) (.node (o76v6 P) (.node (o140v107 P) .nil .nil) (.node (o204v116 P) .nil .nil)) (.node (o108v102 P) (.node (o172v112 P) .nil .nil) (.node (o236v220 P) .nil .nil))) (.node (o60v6 P) (.node (o92v8 P) (.node (o156v109 P) .nil .nil) (.node (o220v118 P) .nil .nil)) (.node (o124v204 P) (.node (o188v213 P) .nil .nil) (.node (o252v123 P) .nil .nil)))))) (.node (boot_o_6 P) (.node (boot_o_10 P) (.node (o18v6 P) (.node (o34v6 P) (.node (o66v6 P) (.node (o130v106 P) (.node (o258v223 P) .nil .nil) .nil) (.node (o194v214 P) .nil .nil)) (.node (o98v101 P) (.node (o162v110 P) .nil .nil) (.node (o226v119 P) .nil .nil))) (.node (o50v6 P) (.node (o82v6 P) (.node (o146v207 P) .nil .nil) (.node (o210v117 P) .nil .nil)) (.node (o114v103 P) (.node (o178v112 P) .nil .nil) (.node (o242v122 P) .nil .nil)))) (.node (o26v6 P) (.node (o42v6 P) (.node (o74v6 P) (.node (o138v206 P) .nil .nil) (.node (o202v215 P) .nil .nil)) (.node (o106v102 P) (.node (o170v111 P) .nil .nil) (.node (o234v120 P) .nil .nil))) (.node (o58v6 P) (.node (o90v7 P) (.node (o154v109 P) .nil .nil) (.node (o218v118 P) .nil .nil)) (.node (o122v104 P) (.node (o186v114 P) .nil .nil) (.node (o250v222 P) .nil .nil))))) (.node (o14v1 P) (.node (o22v6 P) (.node (o38v6 P) (.node (o70v6 P) (.node (o134v106 P) (.node (o262v124 P) .nil .nil) .nil) (.node (o198v115 P) .nil .nil)) (.node (o102v102 P) (.node (o166v210 P) .nil .nil) (.node (o230v219 P) .nil .nil))) (.node (o54v6 P) (.node (o86v7 P) (.node (o150v108 P) .nil .nil) (.node (o214v118 P) .nil .nil)) (.node (o118v203 P) (.node (o182v113 P) .nil .nil) (.node (o246v122 P) .nil .nil)))) (.node (o30v6 P) (.node (o46v6 P) (.node (o78v6 P) (.node (o142v107 P) .nil .nil) (.node (o206v116 P) .nil .nil)) (.node (o110v202 P) (.node (o174v211 P) .nil .nil) (.node (o238v121 P) .nil .nil))) (.node (o62v6 P) (.node (o94v8 P) (.node (o158v110 P) .nil .nil) (.node (o222v218 P) .nil .nil)) (.node (o126v105 P) (.node (o190v114 P) .nil .nil) (.node (o254v123 P) .nil .nil))))))))
noncomputable def SA24 (P : Params) (os : OsState) (c r : Int) (cp : Value) (O : Obj) (tk : Nat) : SharedT := ⟨TA24 P c r cp O, 264, {}, ⟨[.running]⟩, {}, tk, os⟩
noncomputable def o264v224 (P : Params) : Obj := ⟨(.type "tuple"), none, (.seq ⟨[]⟩ 0), ⟨[]⟩⟩
noncomputable def o265v224 (P : Params) : Obj := ⟨(.type "StopIteration"), none, (.fields ⟨[(.ref 264), .none, .none, .none, (.bool false), .none]⟩), ⟨[]⟩⟩
noncomputable def TD25 (P : Params) (cp : Value) (O : Obj) : BT := (.node (boot_o_0 P) (.node (boot_o_1 P) (.node (o3v7 P) (.node (boot_o_7 P) (.node (o15v6 P) (.node (o31v6 P) (.node (o63v6 P) (.node (o127v105 P) (.node (o255v123 P) .nil .nil) .nil) (.node (o191v114 P) .nil .nil)) (.node (d95 P (.int (.ofNat 128405) 314) (.int (.ofNat 128406) 315) cp) (.node (o159v209 P) .nil .nil) (.node (o223v218 P) .nil .nil))) (.node (o47v6 P) (.node (o79v6 P) (.node (o143v107 P) .nil .nil) (.node (o207v117 P) .nil .nil)) (.node (o111v202 P) (.node (o175v112 P) .nil .nil) (.node (o239v121 P) .nil .nil)))) (.node (o23v6 P) (.node (o39v6 P) (.node (o71v6 P) (.node (o135v106 P) (.node (rit (.ofNat 128407) (.ofNat 0)) .nil .nil) .nil) (.node (o199v115 P) .nil .nil)) (.node (o103v201 P) (.node (o167v210 P) .nil .nil) (.node (o231v120 P) .nil .nil))) (.node (o55v6 P) (.node (o87v7 P) (.node (o151v109 P) .nil .nil) (.node (o215v217 P) .nil .nil)) (.node (o119v104 P) (.node (o183v113 P) .nil .nil) (.node (o247v122 P) .nil .nil))))) (.node (o11v1 P) (.node (o19v6 P) (.node (o35v6 P) (.node (o67v6 P) (.node (o131v205 P) (.node (o259v124 P) .nil .nil) .nil) (.node (o195v214 P) .nil .nil)) (.node (o99v101 P) (.node (o163v110 P) .nil .nil) (.node (o227v119 P) .nil .nil))) (.node (o51v6 P) (.node (o83v6 P) (.node (o147v108 P) .nil .nil) (.node (o211v117 P) .nil .nil)) (.node (o115v103 P) (.node (o179v113 P) .nil .nil) (.node (o243v221 P) .nil .nil)))) (.node (o27v6 P) (.node (o43v6 P) (.node (o75v6 P) (.node (o139v206 P) .nil .nil) (.node (o203v116 P) .nil .nil)) (.node (o107v102 P) (.node (o171v111 P) .nil .nil) (.node (o235v121 P) .nil .nil))) (.node (o59v6 P) (.node (o91v124 P) (.node (o155v109 P) .nil .nil) (.node (o219v118 P) .nil .nil)) (.node (o123v105 P) (.node (o187v213 P) .nil .nil) (.node (o251v222 P) .nil .nil)))))) (.node (boot_o_5 P) (.node (boot_o_9 P) (.node (o17v6 P) (.node (o33v6 P) (.node (o65v6 P) (.node (o129v105 P) (.node (o257v223 P) .nil .nil) .nil) (.node (o193v115 P) .nil .nil)) (.node O (.node (o161v110 P) .nil .nil) (.node (o225v119 P) .nil .nil))) (.node (o49v6 P) (.node (o81v6 P) (.node (o145v207 P) .nil .nil) (.node (o209v216 P) .nil .nil)) (.node (o113v103 P) (.node (o177v112 P) .nil .nil) (.node (o241v121 P) .nil .nil)))) (.node (o25v6 P) (.node (o41v6 P) (.node (o73v6 P) (.node (o137v107 P) (.node (o265v224 P) .nil .nil) .nil) (.node (o201v215 P) .nil .nil)) (.node (o105v102 P) (.node (o169v111 P) .nil .nil) (.node (o233v120 P) .nil .nil))) (.node (o57v6 P) (.node (o89v7 P) (.node (o153v208 P) .nil .nil) (.node (o217v118 P) .nil .nil)) (.node (o121v104 P) (.node (o185v113 P) .nil .nil) (.node (o249v123 P) .nil .nil))))) (.node (o13v1 P) (.node (o21v6 P) (.node (o37v6 P) (.node (o69v6 P) (.node (o133v106 P) (.node (o261v124 P) .nil .nil) .nil) (.node (o197v115 P) .nil .nil)) (.node (o101v101 P) (.node (o165v111 P) .nil .nil) (.node (o229v219 P) .nil .nil))) (.node (o53v6 P) (.node (o85v6 P) (.node (o149v108 P) .nil .nil) (.node (o213v117 P) .nil .nil)) (.node (o117v203 P) (.node (o181v212 P) .nil .nil) (.node (o245v122 P) .nil .nil)))) (.node (o29v6 P) (.node (o45v6 P) (.node (o77v6 P) (.node (o141v107 P) .nil .nil) (.node (o205v116 P) .nil .nil)) (.node (o109v103 P) (.node (o173v211 P) .nil .nil) (.node (o237v220 P) .nil .nil))) (.node (o61v6 P) (.node (o93v8 P) (.node (o157v109 P) .nil .nil) (.node (o221v119 P) .nil .nil)) (.node (o125v204 P) (.node (o189v114 P) .nil .nil) (.node (o253v123 P) .nil .nil))))))) (.node (boot_o_2 P) (.node (boot_o_4 P) (.node (boot_o_8 P) (.node (o16v6 P) (.node (o32v6 P) (.node (o64v6 P) (.node (o128v105 P) (.node (o256v124 P) .nil .nil) .nil) (.node (o192v114 P) .nil .nil)) (.node (o96v8 P) (.node (o160v209 P) .nil .nil) (.node (o224v119 P) .nil .nil))) (.node (o48v6 P) (.node (o80v6 P) (.node (o144v108 P) .nil .nil) (.node (o208v216 P) .nil .nil)) (.node (o112v103 P) (.node (o176v112 P) .nil .nil) (.node (o240v121 P) .nil .nil)))) (.node (o24v6 P) (.node (o40v6 P) (.node (o72v6 P) (.node (o136v106 P) (.node (o264v224 P) .nil .nil) .nil) (.node (o200v116 P) .nil .nil)) (.node (o104v201 P) (.node (o168v111 P) .nil .nil) (.node (o232v120 P) .nil .nil))) (.node (o56v6 P) (.node (o88v7 P) (.node (o152v208 P) .nil .nil) (.node (o216v217 P) .nil .nil)) (.node (o120v104 P) (.node (o184v113 P) .nil .nil) (.node (o248v122 P) .nil .nil))))) (.node (o12v8 P) (.node (o20v6 P) (.node (o36v6 P) (.node (o68v6 P) (.node (o132v205 P) (.node (o260v124 P) .nil .nil) .nil) (.node (o196v115 P) .nil .nil)) (.node (o100v101 P) (.node (o164v110 P) .nil .nil) (.node (o228v120 P) .nil .nil))) (.node (o52v6 P) (.node (o84v6 P) (.node (o148v108 P) .nil .nil) (.node (o212v117 P) .nil .nil)) (.node (o116v104 P) (.node (o180v212 P) .nil .nil) (.node (o244v221 P) .nil .nil)))) (.node (o28v6 P) (.node (o44v6 P) (.node (o76v6 P) (.node (o140v107 P) .nil .nil) (.node (o204v116 P) .nil .nil)) (.node (o108v102 P) (.node (o172v112 P) .nil .nil) (.node (o236v220 P) .nil .nil))) (.node (o60v6 P) (.node (o92v8 P) (.node (o156v109 P) .nil .nil) (.node (o220v118 P) .nil .nil)) (.node (o124v204 P) (.node (o188v213 P) .nil .nil) (.node (o252v123 P) .nil .nil)))))) (.node (boot_o_6 P) (.node (boot_o_10 P) (.node (o18v6 P) (.node (o34v6 P) (.node (o66v6 P) (.node (o130v106 P) (.node (o258v223 P) .nil .nil) .nil) (.node (o194v214 P) .nil .nil)) (.node (o98v101 P) (.node (o162v110 P) .nil .nil) (.node (o226v119 P) .nil .nil))) (.node (o50v6 P) (.node (o82v6 P) (.node (o146v207 P) .nil .nil) (.node (o210v117 P) .nil .nil)) (.node (o114v103 P) (.node (o178v112 P) .nil .nil) (.node (o242v122 P) .nil .nil)))) (.node (o26v6 P) (.node (o42v6 P) (.node (o74v6 P) (.node (o138v206 P) .nil .nil) (.node (o202v215 P) .nil .nil)) (.node (o106v102 P) (.node (o170v111 P) .nil .nil) (.node (o234v120 P) .nil .nil))) (.node (o58v6 P) (.node (o90v7 P) (.node (o154v109 P) .nil .nil) (.node (o218v118 P) .nil .nil)) (.node (o122v104 P) (.node (o186v114 P) .nil .nil) (.node (o250v222 P) .nil .nil))))) (.node (o14v1 P) (.node (o22v6 P) (.node (o38v6 P) (.node (o70v6 P) (.node (o134v106 P) (.node (o262v124 P) .nil .nil) .nil) (.node (o198v115 P) .nil .nil)) (.node (o102v102 P) (.node (o166v210 P) .nil .nil) (.node (o230v219 P) .nil .nil))) (.node (o54v6 P) (.node (o86v7 P) (.node (o150v108 P) .nil .nil) (.node (o214v118 P) .nil .nil)) (.node (o118v203 P) (.node (o182v113 P) .nil .nil) (.node (o246v122 P) .nil .nil)))) (.node (o30v6 P) (.node (o46v6 P) (.node (o78v6 P) (.node (o142v107 P) .nil .nil) (.node (o206v116 P) .nil .nil)) (.node (o110v202 P) (.node (o174v211 P) .nil .nil) (.node (o238v121 P) .nil .nil))) (.node (o62v6 P) (.node (o94v8 P) (.node (o158v110 P) .nil .nil) (.node (o222v218 P) .nil .nil)) (.node (o126v105 P) (.node (o190v114 P) .nil .nil) (.node (o254v123 P) .nil .nil))))))))
noncomputable def SD25 (P : Params) (os : OsState) (cp : Value) (O : Obj) (tk : Nat) : SharedT := ⟨TD25 P cp O, 266, {}, ⟨[.running]⟩, {}, tk, os⟩
noncomputable def o91v125 (P : Params) : Obj := ⟨(.type "tuple_iterator"), none, (.fields ⟨[(.ref 85), (.int (.ofNat 25) 0)]⟩), ⟨[]⟩⟩
noncomputable def o263v125 (P : Params) : Obj := ⟨(.type "range_iterator"), none, (.fields ⟨[(.int (.ofNat 128407) 0), (.int (.ofNat 0) 0), (.int (.ofNat 1) 0)]⟩), ⟨[]⟩⟩
noncomputable def o266v125 (P : Params) : Obj := ⟨(.type "tuple_iterator"), none, (.fields ⟨[.none, (.int (.ofNat 2) 0)]⟩), ⟨[]⟩⟩
noncomputable def o267v125 (P : Params) : Obj := ⟨(.type "tuple"), none, (.seq ⟨[]⟩ 0), ⟨[]⟩⟩
noncomputable def o268v125 (P : Params) : Obj := ⟨(.type "StopIteration"), none, (.fields ⟨[(.ref 267), .none, .none, .none, (.bool false), .none]⟩), ⟨[]⟩⟩
noncomputable def o269v125 (P : Params) : Obj := ⟨(.type "range"), none, (.fields ⟨[(.int (.ofNat 128420) 316), (.int (.ofNat 128422) 779), (.int (.ofNat 1) 780)]⟩), ⟨[]⟩⟩
noncomputable def TA25 (P : Params) (c r : Int) (cp : Value) (O : Obj) : BT := (.node (boot_o_0 P) (.node (boot_o_1 P) (.node (o3v7 P) (.node (boot_o_7 P) (.node (o15v6 P) (.node (o31v6 P) (.node (o63v6 P) (.node (o127v105 P) (.node (o255v123 P) .nil .nil) .nil) (.node (o191v114 P) .nil .nil)) (.node (d95 P (.int (.ofNat 128420) 316) (.int (.ofNat 128421) 317) cp) (.node (o159v209 P) .nil .nil) (.node (o223v218 P) .nil .nil))) (.node (o47v6 P) (.node (o79v6 P) (.node (o143v107 P) .nil .nil) (.node (o207v117 P) .nil .nil)) (.node (o111v202 P) (.node (o175v112 P) .nil .nil) (.node (o239v121 P) .nil .nil)))) (.node (o23v6 P) (.node (o39v6 P) (.node (o71v6 P) (.node (o135v106 P) (.node (o263v125 P) .nil .nil) .nil) (.node (o199v115 P) .nil .nil)) (.node (o103v201 P) (.node (o167v210 P) .nil .nil) (.node (o231v120 P) .nil .nil))) (.node (o55v6 P) (.node (o87v7 P) (.node (o151v109 P) .nil .nil) (.node (o215v217 P) .nil .nil)) (.node (o119v104 P) (.node (o183v113 P) .nil .nil) (.node (o247v122 P) .nil .nil))))) (.node (o11v1 P) (.node (o19v6 P) (.node (o35v6 P) (.node (o67v6 P) (.node (o131v205 P) (.node (o259v124 P) .nil .nil) .nil) (.node (o195v214 P) .nil .nil)) (.node (o99v101 P) (.node (o163v110 P) .nil .nil) (.node (o227v119 P) .nil .nil))) (.node (o51v6 P) (.node (o83v6 P) (.node (o147v108 P) .nil .nil) (.node (o211v117 P) .nil .nil)) (.node (o115v103 P) (.node (o179v113 P) .nil .nil) (.node (o243v221 P) .nil .nil)))) (.node (o27v6 P) (.node (o43v6 P) (.node (o75v6 P) (.node (o139v206 P) (.node (o267v125 P) .nil .nil) .nil) (.node (o203v116 P) .nil .nil)) (.node (o107v102 P) (.node (o171v111 P) .nil .nil) (.node (o235v121 P) .nil .nil))) (.node (o59v6 P) (.node (o91v125 P) (.node (o155v109 P) .nil .nil) (.node (o219v118 P) .nil .nil)) (.node (o123v105 P) (.node (o187v213 P) .nil .nil) (.node (o251v222 P) .nil .nil)))))) (.node (boot_o_5 P) (.node (boot_o_9 P) (.node (o17v6 P) (.node (o33v6 P) (.node (o65v6 P) (.node (o129v105 P) (.node (o257v223 P) .nil .nil) .nil) (.node (o193v115 P) .nil .nil)) (.node O (.node (o161v110 P) .nil .nil) (.node (o225v119 P) .nil .nil))) (.node (o49v6 P) (.node (o81v6 P) (.node (o145v207 P) .nil .nil) (.node (o209v216 P) .nil .nil)) (.node (o113v103 P) (.node (o177v112 P) .nil .nil) (.node (o241v121 P) .nil .nil)))) (.node (o25v6 P) (.node (o41v6 P) (.node (o73v6 P) (.node (o137v107 P) (.node (o265v224 P) .nil .nil) .nil) (.node (o201v215 P) .nil .nil)) (.node (o105v102 P) (.node (o169v111 P) .nil .nil) (.node (o233v120 P) .nil .nil))) (.node (o57v6 P) (.node (o89v7 P) (.node (o153v208 P) .nil .nil) (.node (o217v118 P) .nil .nil)) (.node (o121v104 P) (.node (o185v113 P) .nil .nil) (.node (o249v123 P) .nil .nil))))) (.node (o13v1 P) (.node (o21v6 P) (.node (o37v6 P) (.node (o69v6 P) (.node (o133v106 P) (.node (o261v124 P) .nil .nil) .nil) (.node (o197v115 P) .nil .nil)) (.node (o101v101 P) (.node (o165v111 P) .nil .nil) (.node (o229v219 P) .nil .nil))) (.node (o53v6 P) (.node (o85v6 P) (.node (o149v108 P) .nil .nil) (.node (o213v117 P) .nil .nil)) (.node (o117v203 P) (.node (o181v212 P) .nil .nil) (.node (o245v122 P) .nil .nil)))) (.node (o29v6 P) (.node (o45v6 P) (.node (o77v6 P) (.node (o141v107 P) (.node (o269v125 P) .nil .nil) .nil) (.node (o205v116 P) .nil .nil)) (.node (o109v103 P) (.node (o173v211 P) .nil .nil) (.node (o237v220 P) .nil .nil))) (.node (o61v6 P) (.node (o93v8 P) (.node (o157v109 P) .nil .nil) (.node (o221v119 P) .nil .nil)) (.node (o125v204 P) (.node (o189v114 P) .nil .nil) (.node (o253v123 P) .nil .nil))))))) (.node (boot_o_2 P) (.node (boot_o_4 P) (.node (boot_o_8 P) (.node (o16v6 P) (.node (o32v6 P) (.node (o64v6 P) (.node (o128v105 P) (.node (o256v124 P) .nil .nil) .nil) (.node (o192v114 P) .nil .nil)) (.node (o96v8 P) (.node (o160v209 P) .nil .nil) (.node (o224v119 P) .nil .nil))) (.node (o48v6 P) (.node (o80v6 P) (.node (o144v108 P) .nil .nil) (.node (o208v216 P) .nil .nil)) (.node (o112v103 P) (.node (o176v112 P) .nil .nil) (.node (o240v121 P) .nil .nil)))) (.node (o24v6 P) (.node (o40v6 P) (.node (o72v6 P) (.node (o136v106 P) (.node (o264v224 P) .nil .nil) .nil) (.node (o200v116 P) .nil .nil)) (.node (o104v201 P) (.node (o168v111 P) .nil .nil) (.node (o232v120 P) .nil .nil))) (.node (o56v6 P) (.node (o88v7 P) (.node (o152v208 P) .nil .nil) (.node (o216v217 P) .nil .nil)) (.node (o120v104 P) (.node (o184v113 P) .nil .nil) (.node (o248v122 P) .nil .nil))))) (.node (o12v8 P) (.node (o20v6 P) (.node (o36v6 P) (.node (o68v6 P) (.node (o132v205 P) (.node (o260v124 P) .nil .nil) .nil) (.node (o196v115 P) .nil .nil)) (.node (o100v101 P) (.node (o164v110 P) .nil .nil) (.node (o228v120 P) .nil .nil))) (.node (o52v6 P) (.node (o84v6 P) (.node (o148v108 P) .nil .nil) (.node (o212v117 P) .nil .nil)) (.node (o116v104 P) (.node (o180v212 P) .nil .nil) (.node (o244v221 P) .nil .nil)))) (.node (o28v6 P) (.node (o44v6 P) (.node (o76v6 P) (.node (o140v107 P) (.node (o268v125 P) .nil .nil) .nil) (.node (o204v116 P) .nil .nil)) (.node (o108v102 P) (.node (o172v112 P) .nil .nil) (.node (o236v220 P) .nil .nil))) (.node (o60v6 P) (.node (o92v8 P) (.node (o156v109 P) .nil .nil) (.node (o220v118 P) .nil .nil)) (.node (o124v204 P) (.node (o188v213 P) .nil .nil) (.node (o252v123 P) .nil .nil)))))) (.node (boot_o_6 P) (.node (boot_o_10 P) (.node (o18v6 P) (.node (o34v6 P) (.node (o66v6 P) (.node (o130v106 P) (.node (o258v223 P) .nil .nil) .nil) (.node (o194v214 P) .nil .nil)) (.node (o98v101 P) (.node (o162v110 P) .nil .nil) (.node (o226v119 P) .nil .nil))) (.node (o50v6 P) (.node (o82v6 P) (.node (o146v207 P) .nil .nil) (.node (o210v117 P) .nil .nil)) (.node (o114v103 P) (.node (o178v112 P) .nil .nil) (.node (o242v122 P) .nil .nil)))) (.node (o26v6 P) (.node (o42v6 P) (.node (o74v6 P) (.node (o138v206 P) (.node (o266v125 P) .nil .nil) .nil) (.node (o202v215 P) .nil .nil)) (.node (o106v102 P) (.node (o170v111 P) .nil .nil) (.node (o234v120 P) .nil .nil))) (.node (o58v6 P) (.node (o90v7 P) (.node (o154v109 P) .nil .nil) (.node (o218v118 P) .nil .nil)) (.node (o122v104 P) (.node (o186v114 P) .nil .nil) (.node (o250v222 P) .nil .nil))))) (.node (o14v1 P) (.node (o22v6 P) (.node (o38v6 P) (.node (o70v6 P) (.node (o134v106 P) (.node (o262v124 P) .nil .nil) .nil) (.node (o198v115 P) .nil .nil)) (.node (o102v102 P) (.node (o166v210 P) .nil .nil) (.node (o230v219 P) .nil .nil))) (.node (o54v6 P) (.node (o86v7 P) (.node (o150v108 P) .nil .nil) (.node (o214v118 P) .nil .nil)) (.node (o118v203 P) (.node (o182v113 P) .nil .nil) (.node (o246v122 P) .nil .nil)))) (.node (o30v6 P) (.node (o46v6 P) (.node (o78v6 P) (.node (o142v107 P) (.node (rit c r) .nil .nil) .nil) (.node (o206v116 P) .nil .nil)) (.node (o110v202 P) (.node (o174v211 P) .nil .nil) (.node (o238v121 P) .nil .nil))) (.node (o62v6 P) (.node (o94v8 P) (.node (o158v110 P) .nil .nil) (.node (o222v218 P) .nil .nil)) (.node (o126v105 P) (.node (o190v114 P) .nil .nil) (.node (o254v123 P) .nil .nil))))))))
noncomputable def SA25 (P : Params) (os : OsState) (c r : Int) (cp : Value) (O : Obj) (tk : Nat) : SharedT := ⟨TA25 P c r cp O, 271, {}, ⟨[.running]⟩, {}, tk, os⟩
noncomputable def o271v225 (P : Params) : Obj := ⟨(.type "tuple"), none, (.seq ⟨[]⟩ 0), ⟨[]⟩⟩
noncomputable def o272v225 (P : Params) : Obj := ⟨(.type "StopIteration"), none, (.fields ⟨[(.ref 271), .none, .none, .none, (.bool false), .none]⟩), ⟨[]⟩⟩
noncomputable def TD26 (P : Params) (cp : Value) (O : Obj) : BT := (.node (boot_o_0 P) (.node (boot_o_1 P) (.node (o3v7 P) (.node (boot_o_7 P) (.node (o15v6 P) (.node (o31v6 P) (.node (o63v6 P) (.node (o127v105 P) (.node (o255v123 P) .nil .nil) .nil) (.node (o191v114 P) .nil .nil)) (.node (d95 P (.int (.ofNat 128420) 316) (.int (.ofNat 128421) 317) cp) (.node (o159v209 P) .nil .nil) (.node (o223v218 P) .nil .nil))) (.node (o47v6 P) (.node (o79v6 P) (.node (o143v107 P) (.node (o271v225 P) .nil .nil) .nil) (.node (o207v117 P) .nil .nil)) (.node (o111v202 P) (.node (o175v112 P) .nil .nil) (.node (o239v121 P) .nil .nil)))) (.node (o23v6 P) (.node (o39v6 P) (.node (o71v6 P) (.node (o135v106 P) (.node (o263v125 P) .nil .nil) .nil) (.node (o199v115 P) .nil .nil)) (.node (o103v201 P) (.node (o167v210 P) .nil .nil) (.node (o231v120 P) .nil .nil))) (.node (o55v6 P) (.node (o87v7 P) (.node (o151v109 P) .nil .nil) (.node (o215v217 P) .nil .nil)) (.node (o119v104 P) (.node (o183v113 P) .nil .nil) (.node (o247v122 P) .nil .nil))))) (.node (o11v1 P) (.node (o19v6 P) (.node (o35v6 P) (.node (o67v6 P) (.node (o131v205 P) (.node (o259v124 P) .nil .nil) .nil) (.node (o195v214 P) .nil .nil)) (.node (o99v101 P) (.node (o163v110 P) .nil .nil) (.node (o227v119 P) .nil .nil))) (.node (o51v6 P) (.node (o83v6 P) (.node (o147v108 P) .nil .nil) (.node (o211v117 P) .nil .nil)) (.node (o115v103 P) (.node (o179v113 P) .nil .nil) (.node (o243v221 P) .nil .nil)))) (.node (o27v6 P) (.node (o43v6 P) (.node (o75v6 P) (.node (o139v206 P) (.node (o267v125 P) .nil .nil) .nil) (.node (o203v116 P) .nil .nil)) (.node (o107v102 P) (.node (o171v111 P) .nil .nil) (.node (o235v121 P) .nil .nil))) (.node (o59v6 P) (.node (o91v125 P) (.node (o155v109 P) .nil .nil) (.node (o219v118 P) .nil .nil)) (.node (o123v105 P) (.node (o187v213 P) .nil .nil) (.node (o251v222 P) .nil .nil)))))) (.node (boot_o_5 P) (.node (boot_o_9 P) (.node (o17v6 P) (.node (o33v6 P) (.node (o65v6 P) (.node (o129v105 P) (.node (o257v223 P) .nil .nil) .nil) (.node (o193v115 P) .nil .nil)) (.node O (.node (o161v110 P) .nil .nil) (.node (o225v119 P) .nil .nil))) (.node (o49v6 P) (.node (o81v6 P) (.node (o145v207 P) .nil .nil) (.node (o209v216 P) .nil .nil)) (.node (o113v103 P) (.node (o177v112 P) .nil .nil) (.node (o241v121 P) .nil .nil)))) (.node (o25v6 P) (.node (o41v6 P) (.node (o73v6 P) (.node (o137v107 P) (.node (o265v224 P) .nil .nil) .nil) (.node (o201v215 P) .nil .nil)) (.node (o105v102 P) (.node (o169v111 P) .nil .nil) (.node (o233v120 P) .nil .nil))) (.node (o57v6 P) (.node (o89v7 P) (.node (o153v208 P) .nil .nil) (.node (o217v118 P) .nil .nil)) (.node (o121v104 P) (.node (o185v113 P) .nil .nil) (.node (o249v123 P) .nil .nil))))) (.node (o13v1 P) (.node (o21v6 P) (.node (o37v6 P) (.node (o69v6 P) (.node (o133v106 P) (.node (o261v124 P) .nil .nil) .nil) (.node (o197v115 P) .nil .nil)) (.node (o101v101 P) (.node (o165v111 P) .nil .nil) (.node (o229v219 P) .nil .nil))) (.node (o53v6 P) (.node (o85v6 P) (.node (o149v108 P) .nil .nil) (.node (o213v117 P) .nil .nil)) (.node (o117v203 P) (.node (o181v212 P) .nil .nil) (.node (o245v122 P) .nil .nil)))) (.node (o29v6 P) (.node (o45v6 P) (.node (o77v6 P) (.node (o141v107 P) (.node (o269v125 P) .nil .nil) .nil) (.node (o205v116 P) .nil .nil)) (.node (o109v103 P) (.node (o173v211 P) .nil .nil) (.node (o237v220 P) .nil .nil))) (.node (o61v6 P) (.node (o93v8 P) (.node (o157v109 P) .nil .nil) (.node (o221v119 P) .nil .nil)) (.node (o125v204 P) (.node (o189v114 P) .nil .nil) (.node (o253v123 P) .nil .nil))))))) (.node (boot_o_2 P) (.node (boot_o_4 P) (.node (boot_o_8 P) (.node (o16v6 P) (.node (o32v6 P) (.node (o64v6 P) (.node (o128v105 P) (.node (o256v124 P) .nil .nil) .nil) (.node (o192v114 P) .nil .nil)) (.node (o96v8 P) (.node (o160v209 P) .nil .nil) (.node (o224v119 P) .nil .nil))) (.node (o48v6 P) (.node (o80v6 P) (.node (o144v108 P) (.node (o272v225 P) .nil .nil) .nil) (.node (o208v216 P) .nil .nil)) (.node (o112v103 P) (.node (o176v112 P) .nil .nil) (.node (o240v121 P) .nil .nil)))) (.node (o24v6 P) (.node (o40v6 P) (.node (o72v6 P) (.node (o136v106 P) (.node (o264v224 P) .nil .nil) .nil) (.node (o200v116 P) .nil .nil)) (.node (o104v201 P) (.node (o168v111 P) .nil .nil) (.node (o232v120 P) .nil .nil))) (.node (o56v6 P) (.node (o88v7 P) (.node (o152v208 P) .nil .nil) (.node (o216v217 P) .nil .nil)) (.node (o120v104 P) (.node (o184v113 P) .nil .nil) (.node (o248v122 P) .nil .nil))))) (.node (o12v8 P) (.node (o20v6 P) (.node (o36v6 P) (.node (o68v6 P) (.node (o132v205 P) (.node (o260v124 P) .nil .nil) .nil) (.node (o196v115 P) .nil .nil)) (.node (o100v101 P) (.node (o164v110 P) .nil .nil) (.node (o228v120 P) .nil .nil))) (.node (o52v6 P) (.node (o84v6 P) (.node (o148v108 P) .nil .nil) (.node (o212v117 P) .nil .nil)) (.node (o116v104 P) (.node (o180v212 P) .nil .nil) (.node (o244v221 P) .nil .nil)))) (.node (o28v6 P) (.node (o44v6 P) (.node (o76v6 P) (.node (o140v107 P) (.node (o268v125 P) .nil .nil) .nil) (.node (o204v116 P) .nil .nil)) (.node (o108v102 P) (.node (o172v112 P) .nil .nil) (.node (o236v220 P) .nil .nil))) (.node (o60v6 P) (.node (o92v8 P) (.node (o156v109 P) .nil .nil) (.node (o220v118 P) .nil .nil)) (.node (o124v204 P) (.node (o188v213 P) .nil .nil) (.node (o252v123 P) .nil .nil)))))) (.node (boot_o_6 P) (.node (boot_o_10 P) (.node (o18v6 P) (.node (o34v6 P) (.node (o66v6 P) (.node (o130v106 P) (.node (o258v223 P) .nil .nil) .nil) (.node (o194v214 P) .nil .nil)) (.node (o98v101 P) (.node (o162v110 P) .nil .nil) (.node (o226v119 P) .nil .nil))) (.node (o50v6 P) (.node (o82v6 P) (.node (o146v207 P) .nil .nil) (.node (o210v117 P) .nil .nil)) (.node (o114v103 P) (.node (o178v112 P) .nil .nil) (.node (o242v122 P) .nil .nil)))) (.node (o26v6 P) (.node (o42v6 P) (.node (o74v6 P) (.node (o138v206 P) (.node (o266v125 P) .nil .nil) .nil) (.node (o202v215 P) .nil .nil)) (.node (o106v102 P) (.node (o170v111 P) .nil .nil) (.node (o234v120 P) .nil .nil))) (.node (o58v6 P) (.node (o90v7 P) (.node (o154v109 P) .nil .nil) (.node (o218v118 P) .nil .nil)) (.node (o122v104 P) (.node (o186v114 P) .nil .nil) (.node (o250v222 P) .nil .nil))))) (.node (o14v1 P) (.node (o22v6 P) (.node (o38v6 P) (.node (o70v6 P) (.node (o134v106 P) (.node (o262v124 P) .nil .nil) .nil) (.node (o198v115 P) .nil .nil)) (.node (o102v102 P) (.node (o166v210 P) .nil .nil) (.node (o230v219 P) .nil .nil))) (.node (o54v6 P) (.node (o86v7 P) (.node (o150v108 P) .nil .nil) (.node (o214v118 P) .nil .nil)) (.node (o118v203 P) (.node (o182v113 P) .nil .nil) (.node (o246v122 P) .nil .nil)))) (.node (o30v6 P) (.node (o46v6 P) (.node (o78v6 P) (.node (o142v107 P) (.node (rit (.ofNat 128422) (.ofNat 0)) .nil .nil) .nil) (.node (o206v116 P) .nil .nil)) (.node (o110v202 P) (.node (o174v211 P) .nil .nil) (.node (o238v121 P) .nil .nil))) (.node (o62v6 P) (.node (o94v8 P) (.node (o158v110 P) .nil .nil) (.node (o222v218 P) .nil .nil)) (.node (o126v105 P) (.node (o190v114 P) .nil .nil) (.node (o254v123 P) .nil .nil))))))))
noncomputable def SD26 (P : Params) (os : OsState) (cp : Value) (O : Obj) (tk : Nat) : SharedT := ⟨TD26 P cp O, 273, {}, ⟨[.running]⟩, {}, tk, os⟩
noncomputable def o91v126 (P : Params) : Obj := ⟨(.type "tuple_iterator"), none, (.fields ⟨[(.ref 85), (.int (.ofNat 26) 0)]⟩), ⟨[]⟩⟩
noncomputable def o270v126 (P : Params) : Obj := ⟨(.type "range_iterator"), none, (.fields ⟨[(.int (.ofNat 128422) 0), (.int (.ofNat 0) 0), (.int (.ofNat 1) 0)]⟩), ⟨[]⟩⟩
noncomputable def o273v126 (P : Params) : Obj := ⟨(.type "tuple_iterator"), none, (.fields ⟨[.none, (.int (.ofNat 2) 0)]⟩), ⟨[]⟩⟩
noncomputable def o274v126 (P : Params) : Obj := ⟨(.type "tuple"), none, (.seq ⟨[]⟩ 0), ⟨[]⟩⟩
noncomputable def o275v126 (P : Params) : Obj := ⟨(.type "StopIteration"), none, (.fields ⟨[(.ref 274), .none, .none, .none, (.bool false), .none]⟩), ⟨[]⟩⟩
noncomputable def o276v126 (P : Params) : Obj := ⟨(.type "range"), none, (.fields ⟨[(.int (.ofNat 128715) 318), (.int (.ofNat 128723) 790), (.int (.ofNat 1) 791)]⟩), ⟨[]⟩⟩
noncomputable def TA26 (P : Params) (c r : Int) (cp : Value) (O : Obj) : BT := (.node (boot_o_0 P) (.node (boot_o_1 P) (.node (o3v7 P) (.node (boot_o_7 P) (.node (o15v6 P) (.node (o31v6 P) (.node (o63v6 P) (.node (o127v105 P) (.node (o255v123 P) .nil .nil) .nil) (.node (o191v114 P) .nil .nil)) (.node (d95 P (.int (.ofNat 128715) 318) (.int (.ofNat 128722) 319) cp) (.node (o159v209 P) .nil .nil) (.node (o223v218 P) .nil .nil))) (.node (o47v6 P) (.node (o79v6 P) (.node (o143v107 P) (.node (o271v225 P) .nil .nil) .nil) (.node (o207v117 P) .nil .nil)) (.node (o111v202 P) (.node (o175v112 P) .nil .nil) (.node (o239v121 P) .nil .nil)))) (.node (o23v6 P) (.node (o39v6 P) (.node (o71v6 P) (.node (o135v106 P) (.node (o263v125 P) .nil .nil) .nil) (.node (o199v115 P) .nil .nil)) (.node (o103v201 P) (.node (o167v210 P) .nil .nil) (.node (o231v120 P) .nil .nil))) (.node (o55v6 P) (.node (o87v7 P) (.node (o151v109 P) .nil .nil) (.node (o215v217 P) .nil .nil)) (.node (o119v104 P) (.node (o183v113 P) .nil .nil) (.node (o247v122 P) .nil .nil))))) (.node (o11v1 P) (.node (o19v6 P) (.node (o35v6 P) (.node (o67v6 P) (.node (o131v205 P) (.node (o259v124 P) .nil .nil) .nil) (.node (o195v214 P) .nil .nil)) (.node (o99v101 P) (.node (o163v110 P) .nil .nil) (.node (o227v119 P) .nil .nil))) (.node (o51v6 P) (.node (o83v6 P) (.node (o147v108 P) (.node (o275v126 P) .nil .nil) .nil) (.node (o211v117 P) .nil .nil)) (.node (o115v103 P) (.node (o179v113 P) .nil .nil) (.node (o243v221 P) .nil .nil)))) (.node (o27v6 P) (.node (o43v6 P) (.node (o75v6 P) (.node (o139v206 P) (.node (o267v125 P) .nil .nil) .nil) (.node (o203v116 P) .nil .nil)) (.node (o107v102 P) (.node (o171v111 P) .nil .nil) (.node (o235v121 P) .nil .nil))) (.node (o59v6 P) (.node (o91v126 P) (.node (o155v109 P) .nil .nil) (.node (o219v118 P) .nil .nil)) (.node (o123v105 P) (.node (o187v213 P) .nil .nil) (.node (o251v222 P) .nil .nil)))))) (.node (boot_o_5 P) (.node (boot_o_9 P) (.node (o17v6 P) (.node (o33v6 P) (.node (o65v6 P) (.node (o129v105 P) (.node (o257v223 P) .nil .nil) .nil) (.node (o193v115 P) .nil .nil)) (.node O (.node (o161v110 P) .nil .nil) (.node (o225v119 P) .nil .nil))) (.node (o49v6 P) (.node (o81v6 P) (.node (o145v207 P) (.node (o273v126 P) .nil .nil) .nil) (.node (o209v216 P) .nil .nil)) (.node (o113v103 P) (.node (o177v112 P) .nil .nil) (.node (o241v121 P) .nil .nil)))) (.node (o25v6 P) (.node (o41v6 P) (.node (o73v6 P) (.node (o137v107 P) (.node (o265v224 P) .nil .nil) .nil) (.node (o201v215 P) .nil .nil)) (.node (o105v102 P) (.node (o169v111 P) .nil .nil) (.node (o233v120 P) .nil .nil))) (.node (o57v6 P) (.node (o89v7 P) (.node (o153v208 P) .nil .nil) (.node (o217v118 P) .nil .nil)) (.node (o121v104 P) (.node (o185v113 P) .nil .nil) (.node (o249v123 P) .nil .nil))))) (.node (o13v1 P) (.node (o21v6 P) (.node (o37v6 P) (.node (o69v6 P) (.node (o133v106 P) (.node (o261v124 P) .nil .nil) .nil) (.node (o197v115 P) .nil .nil)) (.node (o101v101 P) (.node (o165v111 P) .nil .nil) (.node (o229v219 P) .nil .nil))) (.node (o53v6 P) (.node (o85v6 P) (.node (o149v108 P) (.node (rit c r) .nil .nil) .nil) (.node (o213v117 P) .nil .nil)) (.node (o117v203 P) (.node (o181v212 P) .nil .nil) (.node (o245v122 P) .nil .nil)))) (.node (o29v6 P) (.node (o45v6 P) (.node (o77v6 P) (.node (o141v107 P) (.node (o269v125 P) .nil .nil) .nil) (.node (o205v116 P) .nil .nil)) (.node (o109v103 P) (.node (o173v211 P) .nil .nil) (.node (o237v220 P) .nil .nil))) (.node (o61v6 P) (.node (o93v8 P) (.node (o157v109 P) .nil .nil) (.node (o221v119 P) .nil .nil)) (.node (o125v204 P) (.node (o189v114 P) .nil .nil) (.node (o253v123 P) .nil .nil))))))) (.node (boot_o_2 P) (.node (boot_o_4 P) (.node (boot_o_8 P) (.node (o16v6 P) (.node (o32v6 P) (.node (o64v6 P) (.node (o128v105 P) (.node (o256v124 P) .nil .nil) .nil) (.node (o192v114 P) .nil .nil)) (.node (o96v8 P) (.node (o160v209 P) .nil .nil) (.node (o224v119 P) .nil .nil))) (.node (o48v6 P) (.node (o80v6 P) (.node (o144v108 P) (.node (o272v225 P) .nil .nil) .nil) (.node (o208v216 P) .nil .nil)) (.node (o112v103 P) (.node (o176v112 P) .nil .nil) (.node (o240v121 P) .nil .nil)))) (.node (o24v6 P) (.node (o40v6 P) (.node (o72v6 P) (.node (o136v106 P) (.node (o264v224 P) .nil .nil) .nil) (.node (o200v116 P) .nil .nil)) (.node (o104v201 P) (.node (o168v111 P) .nil .nil) (.node (o232v120 P) .nil .nil))) (.node (o56v6 P) (.node (o88v7 P) (.node (o152v208 P) .nil .nil) (.node (o216v217 P) .nil .nil)) (.node (o120v104 P) (.node (o184v113 P) .nil .nil) (.node (o248v122 P) .nil .nil))))) (.node (o12v8 P) (.node (o20v6 P) (.node (o36v6 P) (.node (o68v6 P) (.node (o132v205 P) (.node (o260v124 P) .nil .nil) .nil) (.node (o196v115 P) .nil .nil)) (.node (o100v101 P) (.node (o164v110 P) .nil .nil) (.node (o228v120 P) .nil .nil))) (.node (o52v6 P) (.node (o84v6 P) (.node (o148v108 P) (.node (o276v126 P) .nil .nil) .nil) (.node (o212v117 P) .nil .nil)) (.node (o116v104 P) (.node (o180v212 P) .nil .nil) (.node (o244v221 P) .nil .nil)))) (.node (o28v6 P) (.node (o44v6 P) (.node (o76v6 P) (.node (o140v107 P) (.node (o268v125 P) .nil .nil) .nil) (.node (o204v116 P) .nil .nil)) (.node (o108v102 P) (.node (o172v112 P) .nil .nil) (.node (o236v220 P) .nil .nil))) (.node (o60v6 P) (.node (o92v8 P) (.node (o156v109 P) .nil .nil) (.node (o220v118 P) .nil .nil)) (.node (o124v204 P) (.node (o188v213 P) .nil .nil) (.node (o252v123 P) .nil .nil)))))) (.node (boot_o_6 P) (.node (boot_o_10 P) (.node (o18v6 P) (.node (o34v6 P) (.node (o66v6 P) (.node (o130v106 P) (.node (o258v223 P) .nil .nil) .nil) (.node (o194v214 P) .nil .nil)) (.node (o98v101 P) (.node (o162v110 P) .nil .nil) (.node (o226v119 P) .nil .nil))) (.node (o50v6 P) (.node (o82v6 P) (.node (o146v207 P) (.node (o274v126 P) .nil .nil) .nil) (.node (o210v117 P) .nil .nil)) (.node (o114v103 P) (.node (o178v112 P) .nil .nil) (.node (o242v122 P) .nil .nil)))) (.node (o26v6 P) (.node (o42v6 P) (.node (o74v6 P) (.node (o138v206 P) (.node (o266v125 P) .nil .nil) .nil) (.node (o202v215 P) .nil .nil)) (.node (o106v102 P) (.node (o170v111 P) .nil .nil) (.node (o234v120 P) .nil .nil))) (.node (o58v6 P) (.node (o90v7 P) (.node (o154v109 P) .nil .nil) (.node (o218v118 P) .nil .nil)) (.node (o122v104 P) (.node (o186v114 P) .nil .nil) (.node (o250v222 P) .nil .nil))))) (.node (o14v1 P) (.node (o22v6 P) (.node (o38v6 P) (.node (o70v6 P) (.node (o134v106 P) (.node (o262v124 P) .nil .nil) .nil) (.node (o198v115 P) .nil .nil)) (.node (o102v102 P) (.node (o166v210 P) .nil .nil) (.node (o230v219 P) .nil .nil))) (.node (o54v6 P) (.node (o86v7 P) (.node (o150v108 P) .nil .nil) (.node (o214v118 P) .nil .nil)) (.node (o118v203 P) (.node (o182v113 P) .nil .nil) (.node (o246v122 P) .nil .nil)))) (.node (o30v6 P) (.node (o46v6 P) (.node (o78v6 P) (.node (o142v107 P) (.node (o270v126 P) .nil .nil) .nil) (.node (o206v116 P) .nil .nil)) (.node (o110v202 P) (.node (o174v211 P) .nil .nil) (.node (o238v121 P) .nil .nil))) (.node (o62v6 P) (.node (o94v8 P) (.node (o158v110 P) .nil .nil) (.node (o222v218 P) .nil .nil)) (.node (o126v105 P) (.node (o190v114 P) .nil .nil) (.node (o254v123 P) .nil .nil))))))))
noncomputable def SA26 (P : Params) (os : OsState) (c r : Int) (cp : Value) (O : Obj) (tk : Nat) : SharedT := ⟨TA26 P c r cp O, 278, {}, ⟨[.running]⟩, {}, tk, os⟩
noncomputable def o278v226 (P : Params) : Obj := ⟨(.type "tuple"), none, (.seq ⟨[]⟩ 0), ⟨[]⟩⟩
noncomputable def o279v226 (P : Params) : Obj := ⟨(.type "StopIteration"), none, (.fields ⟨[(.ref 278), .none, .none, .none, (.bool false), .none]⟩), ⟨[]⟩⟩
noncomputable def TD27 (P : Params) (cp : Value) (O : Obj) : BT := (.node (boot_o_0 P) (.node (boot_o_1 P) (.node (o3v7 P) (.node (boot_o_7 P) (.node (o15v6 P) (.node (o31v6 P) (.node (o63v6 P) (.node (o127v105 P) (.node (o255v123 P) .nil .nil) .nil) (.node (o191v114 P) .nil .nil)) (.node (d95 P (.int (.ofNat 128715) 318) (.int (.ofNat 128722) 319) cp) (.node (o159v209 P) .nil .nil) (.node (o223v218 P) .nil .nil))) (.node (o47v6 P) (.node (o79v6 P) (.node (o143v107 P) (.node (o271v225 P) .nil .nil) .nil) (.node (o207v117 P) .nil .nil)) (.node (o111v202 P) (.node (o175v112 P) .nil .nil) (.node (o239v121 P) .nil .nil)))) (.node (o23v6 P) (.node (o39v6 P) (.node (o71v6 P) (.node (o135v106 P) (.node (o263v125 P) .nil .nil) .nil) (.node (o199v115 P) .nil .nil)) (.node (o103v201 P) (.node (o167v210 P) .nil .nil) (.node (o231v120 P) .nil .nil))) (.node (o55v6 P) (.node (o87v7 P) (.node (o151v109 P) (.node (o279v226 P) .nil .nil) .nil) (.node (o215v217 P) .nil .nil)) (.node (o119v104 P) (.node (o183v113 P) .nil .nil) (.node (o247v122 P) .nil .nil))))) (.node (o11v1 P) (.node (o19v6 P) (.node (o35v6 P) (.node (o67v6 P) (.node (o131v205 P) (.node (o259v124 P) .nil .nil) .nil) (.node (o195v214 P) .nil .nil)) (.node (o99v101 P) (.node (o163v110 P) .nil .nil) (.node (o227v119 P) .nil .nil))) (.node (o51v6 P) (.node (o83v6 P) (.node (o147v108 P) (.node (o275v126 P) .nil .nil) .nil) (.node (o211v117 P) .nil .nil)) (.node (o115v103 P) (.node (o179v113 P) .nil .nil) (.node (o243v221 P) .nil .nil)))) (.node (o27v6 P) (.node (o43v6 P) (.node (o75v6 P) (.node (o139v206 P) (.node (o267v125 P) .nil .nil) .nil) (.node (o203v116 P) .nil .nil)) (.node (o107v102 P) (.node (o171v111 P) .nil .nil) (.node (o235v121 P) .nil .nil))) (.node (o59v6 P) (.node (o91v126 P) (.node (o155v109 P) .nil .nil) (.node (o219v118 P) .nil .nil)) (.node (o123v105 P) (.node (o187v213 P) .nil .nil) (.node (o251v222 P) .nil .nil)))))) (.node (boot_o_5 P) (.node (boot_o_9 P) (.node (o17v6 P) (.node (o33v6 P) (.node (o65v6 P) (.node (o129v105 P) (.node (o257v223 P) .nil .nil) .nil) (.node (o193v115 P) .nil .nil)) (.node O (.node (o161v110 P) .nil .nil) (.node (o225v119 P) .nil .nil))) (.node (o49v6 P) (.node (o81v6 P) (.node (o145v207 P) (.node (o273v126 P) .nil .nil) .nil) (.node (o209v216 P) .nil .nil)) (.node (o113v103 P) (.node (o177v112 P) .nil .nil) (.node (o241v121 P) .nil .nil)))) (.node (o25v6 P) (.node (o41v6 P) (.node (o73v6 P) (.node (o137v107 P) (.node (o265v224 P) .nil .nil) .nil) (.node (o201v215 P) .nil .nil)) (.node (o105v102 P) (.node (o169v111 P) .nil .nil) (.node (o233v120 P) .nil .nil))) (.node (o57v6 P) (.node (o89v7 P) (.node (o153v208 P) .nil .nil) (.node (o217v118 P) .nil .nil)) (.node (o121v104 P) (.node (o185v113 P) .nil .nil) (.node (o249v123 P) .nil .nil))))) (.node (o13v1 P) (.node (o21v6 P) (.node (o37v6 P) (.node (o69v6 P) (.node (o133v106 P) (.node (o261v124 P) .nil .nil) .nil) (.node (o197v115 P) .nil .nil)) (.node (o101v101 P) (.node (o165v111 P) .nil .nil) (.node (o229v219 P) .nil .nil))) (.node (o53v6 P) (.node (o85v6 P) (.node (o149v108 P) (.node (rit (.ofNat 128723) (.ofNat 0)) .nil .nil) .nil) (.node (o213v117 P) .nil .nil)) (.node (o117v203 P) (.node (o181v212 P) .nil .nil) (.node (o245v122 P) .nil .nil)))) (.node (o29v6 P) (.node (o45v6 P) (.node (o77v6 P) (.node (o141v107 P) (.node (o269v125 P) .nil .nil) .nil) (.node (o205v116 P) .nil .nil)) (.node (o109v103 P) (.node (o173v211 P) .nil .nil) (.node (o237v220 P) .nil .nil))) (.node (o61v6 P) (.node (o93v8 P) (.node (o157v109 P) .nil .nil) (.node (o221v119 P) .nil .nil)) (.node (o125v204 P) (.node (o189v114 P) .nil .nil) (.node (o253v123 P) .nil .nil))))))) (.node (boot_o_2 P) (.node (boot_o_4 P) (.node (boot_o_8 P) (.node (o16v6 P) (.node (o32v6 P) (.node (o64v6 P) (.node (o128v105 P) (.node (o256v124 P) .nil .nil) .nil) (.node (o192v114 P) .nil .nil)) (.node (o96v8 P) (.node (o160v209 P) .nil .nil) (.node (o224v119 P) .nil .nil))) (.node (o48v6 P) (.node (o80v6 P) (.node (o144v108 P) (.node (o272v225 P) .nil .nil) .nil) (.node (o208v216 P) .nil .nil)) (.node (o112v103 P) (.node (o176v112 P) .nil .nil) (.node (o240v121 P) .nil .nil)))) (.node (o24v6 P) (.node (o40v6 P) (.node (o72v6 P) (.node (o136v106 P) (.node (o264v224 P) .nil .nil) .nil) (.node (o200v116 P) .nil .nil)) (.node (o104v201 P) (.node (o168v111 P) .nil .nil) (.node (o232v120 P) .nil .nil))) (.node (o56v6 P) (.node (o88v7 P) (.node (o152v208 P) .nil .nil) (.node (o216v217 P) .nil .nil)) (.node (o120v104 P) (.node (o184v113 P) .nil .nil) (.node (o248v122 P) .nil .nil))))) (.node (o12v8 P) (.node (o20v6 P) (.node (o36v6 P) (.node (o68v6 P) (.node (o132v205 P) (.node (o260v124 P) .nil .nil) .nil) (.node (o196v115 P) .nil .nil)) (.node (o100v101 P) (.node (o164v110 P) .nil .nil) (.node (o228v120 P) .nil .nil))) (.node (o52v6 P) (.node (o84v6 P) (.node (o148v108 P) (.node (o276v126 P) .nil .nil) .nil) (.node (o212v117 P) .nil .nil)) (.node (o116v104 P) (.node (o180v212 P) .nil .nil) (.node (o244v221 P) .nil .nil)))) (.node (o28v6 P) (.node (o44v6 P) (.node (o76v6 P) (.node (o140v107 P) (.node (o268v125 P) .nil .nil) .nil) (.node (o204v116 P) .nil .nil)) (.node (o108v102 P) (.node (o172v112 P) .nil .nil) (.node (o236v220 P) .nil .nil))) (.node (o60v6 P) (.node (o92v8 P) (.node (o156v109 P) .nil .nil) (.node (o220v118 P) .nil .nil)) (.node (o124v204 P) (.node (o188v213 P) .nil .nil) (.node (o252v123 P) .nil .nil)))))) (.node (boot_o_6 P) (.node (boot_o_10 P) (.node (o18v6 P) (.node (o34v6 P) (.node (o66v6 P) (.node (o130v106 P) (.node (o258v223 P) .nil .nil) .nil) (.node (o194v214 P) .nil .nil)) (.node (o98v101 P) (.node (o162v110 P) .nil .nil) (.node (o226v119 P) .nil .nil))) (.node (o50v6 P) (.node (o82v6 P) (.node (o146v207 P) (.node (o274v126 P) .nil .nil) .nil) (.node (o210v117 P) .nil .nil)) (.node (o114v103 P) (.node (o178v112 P) .nil .nil) (.node (o242v122 P) .nil .nil)))) (.node (o26v6 P) (.node (o42v6 P) (.node (o74v6 P) (.node (o138v206 P) (.node (o266v125 P) .nil .nil) .nil) (.node (o202v215 P) .nil .nil)) (.node (o106v102 P) (.node (o170v111 P) .nil .nil) (.node (o234v120 P) .nil .nil))) (.node (o58v6 P) (.node (o90v7 P) (.node (o154v109 P) .nil .nil) (.node (o218v118 P) .nil .nil)) (.node (o122v104 P) (.node (o186v114 P) .nil .nil) (.node (o250v222 P) .nil .nil))))) (.node (o14v1 P) (.node (o22v6 P) (.node (o38v6 P) (.node (o70v6 P) (.node (o134v106 P) (.node (o262v124 P) .nil .nil) .nil) (.node (o198v115 P) .nil .nil)) (.node (o102v102 P) (.node (o166v210 P) .nil .nil) (.node (o230v219 P) .nil .nil))) (.node (o54v6 P) (.node (o86v7 P) (.node (o150v108 P) (.node (o278v226 P) .nil .nil) .nil) (.node (o214v118 P) .nil .nil)) (.node (o118v203 P) (.node (o182v113 P) .nil .nil) (.node (o246v122 P) .nil .nil)))) (.node (o30v6 P) (.node (o46v6 P) (.node (o78v6 P) (.node (o142v107 P) (.node (o270v126 P) .nil .nil) .nil) (.node (o206v116 P) .nil .nil)) (.node (o110v202 P) (.node (o174v211 P) .nil .nil) (.node (o238v121 P) .nil .nil))) (.node (o62v6 P) (.node (o94v8 P) (.node (o158v110 P) .nil .nil) (.node (o222v218 P) .nil .nil)) (.node (o126v105 P) (.node (o190v114 P) .nil .nil) (.node (o254v123 P) .nil .nil))))))))
noncomputable def SD27 (P : Params) (os : OsState) (cp : Value) (O : Obj) (tk : Nat) : SharedT := ⟨TD27 P cp O, 280, {}, ⟨[.running]⟩, {}, tk, os⟩
noncomputable def o91v127 (P : Params) : Obj := ⟨(.type "tuple_iterator"), none, (.fields ⟨[(.ref 85), (.int (.ofNat 27) 0)]⟩), ⟨[]⟩⟩
noncomputable def o277v127 (P : Params) : Obj := ⟨(.type "range_iterator"), none, (.fields ⟨[(.int (.ofNat 128723) 0), (.int (.ofNat 0) 0), (.int (.ofNat 1) 0)]⟩), ⟨[]⟩⟩
noncomputable def o280v127 (P : Params) : Obj := ⟨(.type "tuple_iterator"), none, (.fields ⟨[.none, (.int (.ofNat 2) 0)]⟩), ⟨[]⟩⟩
noncomputable def o281v127 (P : Params) : Obj := ⟨(.type "tuple"), none, (.seq ⟨[]⟩ 0), ⟨[]⟩⟩
noncomputable def o282v127 (P : Params) : Obj := ⟨(.type "StopIteration"), none, (.fields ⟨[(.ref 281), .none, .none, .none, (.bool false), .none]⟩), ⟨[]⟩⟩
noncomputable def o283v127 (P : Params) : Obj := ⟨(.type "range"), none, (.fields ⟨[(.int (.ofNat 128725) 320), (.int (.ofNat 128742) 819), (.int (.ofNat 1) 820)]⟩), ⟨[]⟩⟩
noncomputable def TA27 (P : Params) (c r : Int) (cp : Value) (O : Obj) : BT := (.node (boot_o_0 P) (.node (boot_o_1 P) (.node (o3v7 P) (.node (boot_o_7 P) (.node (o15v6 P) (.node (o31v6 P) (.node (o63v6 P) (.node (o127v105 P) (.node (o255v123 P) .nil .nil) .nil) (.node (o191v114 P) .nil .nil)) (.node (d95 P (.int (.ofNat 128725) 320) (.int (.ofNat 128741) 321) cp) (.node (o159v209 P) .nil .nil) (.node (o223v218 P) .nil .nil))) (.node (o47v6 P) (.node (o79v6 P) (.node (o143v107 P) (.node (o271v225 P) .nil .nil) .nil) (.node (o207v117 P) .nil .nil)) (.node (o111v202 P) (.node (o175v112 P) .nil .nil) (.node (o239v121 P) .nil .nil)))) (.node (o23v6 P) (.node (o39v6 P) (.node (o71v6 P) (.node (o135v106 P) (.node (o263v125 P) .nil .nil) .nil) (.node (o199v115 P) .nil .nil)) (.node (o103v201 P) (.node (o167v210 P) .nil .nil) (.node (o231v120 P) .nil .nil))) (.node (o55v6 P) (.node (o87v7 P) (.node (o151v109 P) (.node (o279v226 P) .nil .nil) .nil) (.node (o215v217 P) .nil .nil)) (.node (o119v104 P) (.node (o183v113 P) .nil .nil) (.node (o247v122 P) .nil .nil))))) (.node (o11v1 P) (.node (o19v6 P) (.node (o35v6 P) (.node (o67v6 P) (.node (o131v205 P) (.node (o259v124 P) .nil .nil) .nil) (.node (o195v214 P) .nil .nil)) (.node (o99v101 P) (.node (o163v110 P) .nil .nil) (.node (o227v119 P) .nil .nil))) (.node (o51v6 P) (.node (o83v6 P) (.node (o147v108 P) (.node (o275v126 P) .nil .nil) .nil) (.node (o211v117 P) .nil .nil)) (.node (o115v103 P) (.node (o179v113 P) .nil .nil) (.node (o243v221 P) .nil .nil)))) (.node (o27v6 P) (.node (o43v6 P) (.node (o75v6 P) (.node (o139v206 P) (.node (o267v125 P) .nil .nil) .nil) (.node (o203v116 P) .nil .nil)) (.node (o107v102 P) (.node (o171v111 P) .nil .nil) (.node (o235v121 P) .nil .nil))) (.node (o59v6 P) (.node (o91v127 P) (.node (o155v109 P) (.node (o283v127 P) .nil .nil) .nil) (.node (o219v118 P) .nil .nil)) (.node (o123v105 P) (.node (o187v213 P) .nil .nil) (.node (o251v222 P) .nil .nil)))))) (.node (boot_o_5 P) (.node (boot_o_9 P) (.node (o17v6 P) (.node (o33v6 P) (.node (o65v6 P) (.node (o129v105 P) (.node (o257v223 P) .nil .nil) .nil) (.node (o193v115 P) .nil .nil)) (.node O (.node (o161v110 P) .nil .nil) (.node (o225v119 P) .nil .nil))) (.node (o49v6 P) (.node (o81v6 P) (.node (o145v207 P) (.node (o273v126 P) .nil .nil) .nil) (.node (o209v216 P) .nil .nil)) (.node (o113v103 P) (.node (o177v112 P) .nil .nil) (.node (o241v121 P) .nil .nil)))) (.node (o25v6 P) (.node (o41v6 P) (.node (o73v6 P) (.node (o137v107 P) (.node (o265v224 P) .nil .nil) .nil) (.node (o201v215 P) .nil .nil)) (.node (o105v102 P) (.node (o169v111 P) .nil .nil) (.node (o233v120 P) .nil .nil))) (.node (o57v6 P) (.node (o89v7 P) (.node (o153v208 P) (.node (o281v127 P) .nil .nil) .nil) (.node (o217v118 P) .nil .nil)) (.node (o121v104 P) (.node (o185v113 P) .nil .nil) (.node (o249v123 P) .nil .nil))))) (.node (o13v1 P) (.node (o21v6 P) (.node (o37v6 P) (.node (o69v6 P) (.node (o133v106 P) (.node (o261v124 P) .nil .nil) .nil) (.node (o197v115 P) .nil .nil)) (.node (o101v101 P) (.node (o165v111 P) .nil .nil) (.node (o229v219 P) .nil .nil))) (.node (o53v6 P) (.node (o85v6 P) (.node (o149v108 P) (.node (o277v127 P) .nil .nil) .nil) (.node (o213v117 P) .nil .nil)) (.node (o117v203 P) (.node (o181v212 P) .nil .nil) (.node (o245v122 P) .nil .nil)))) (.node (o29v6 P) (.node (o45v6 P) (.node (o77v6 P) (.node (o141v107 P) (.node (o269v125 P) .nil .nil) .nil) (.node (o205v116 P) .nil .nil)) (.node (o109v103 P) (.node (o173v211 P) .nil .nil) (.node (o237v220 P) .nil .nil))) (.node (o61v6 P) (.node (o93v8 P) (.node (o157v109 P) .nil .nil) (.node (o221v119 P) .nil .nil)) (.node (o125v204 P) (.node (o189v114 P) .nil .nil) (.node (o253v123 P) .nil .nil))))))) (.node (boot_o_2 P) (.node (boot_o_4 P) (.node (boot_o_8 P) (.node (o16v6 P) (.node (o32v6 P) (.node (o64v6 P) (.node (o128v105 P) (.node (o256v124 P) .nil .nil) .nil) (.node (o192v114 P) .nil .nil)) (.node (o96v8 P) (.node (o160v209 P) .nil .nil) (.node (o224v119 P) .nil .nil))) (.node (o48v6 P) (.node (o80v6 P) (.node (o144v108 P) (.node (o272v225 P) .nil .nil) .nil) (.node (o208v216 P) .nil .nil)) (.node (o112v103 P) (.node (o176v112 P) .nil .nil) (.node (o240v121 P) .nil .nil)))) (.node (o24v6 P) (.node (o40v6 P) (.node (o72v6 P) (.node (o136v106 P) (.node (o264v224 P) .nil .nil) .nil) (.node (o200v116 P) .nil .nil)) (.node (o104v201 P) (.node (o168v111 P) .nil .nil) (.node (o232v120 P) .nil .nil))) (.node (o56v6 P) (.node (o88v7 P) (.node (o152v208 P) (.node (o280v127 P) .nil .nil) .nil) (.node (o216v217 P) .nil .nil)) (.node (o120v104 P) (.node (o184v113 P) .nil .nil) (.node (o248v122 P) .nil .nil))))) (.node (o12v8 P) (.node (o20v6 P) (.node (o36v6 P) (.node (o68v6 P) (.node (o132v205 P) (.node (o260v124 P) .nil .nil) .nil) (.node (o196v115 P) .nil .nil)) (.node (o100v101 P) (.node (o164v110 P) .nil .nil) (.node (o228v120 P) .nil .nil))) (.node (o52v6 P) (.node (o84v6 P) (.node (o148v108 P) (.node (o276v126 P) .nil .nil) .nil) (.node (o212v117 P) .nil .nil)) (.node (o116v104 P) (.node (o180v212 P) .nil .nil) (.node (o244v221 P) .nil .nil)))) (.node (o28v6 P) (.node (o44v6 P) (.node (o76v6 P) (.node (o140v107 P) (.node (o268v125 P) .nil .nil) .nil) (.node (o204v116 P) .nil .nil)) (.node (o108v102 P) (.node (o172v112 P) .nil .nil) (.node (o236v220 P) .nil .nil))) (.node (o60v6 P) (.node (o92v8 P) (.node (o156v109 P) (.node (rit c r) .nil .nil) .nil) (.node (o220v118 P) .nil .nil)) (.node (o124v204 P) (.node (o188v213 P) .nil .nil) (.node (o252v123 P) .nil .nil)))))) (.node (boot_o_6 P) (.node (boot_o_10 P) (.node (o18v6 P) (.node (o34v6 P) (.node (o66v6 P) (.node (o130v106 P) (.node (o258v223 P) .nil .nil) .nil) (.node (o194v214 P) .nil .nil)) (.node (o98v101 P) (.node (o162v110 P) .nil .nil) (.node (o226v119 P) .nil .nil))) (.node (o50v6 P) (.node (o82v6 P) (.node (o146v207 P) (.node (o274v126 P) .nil .nil) .nil) (.node (o210v117 P) .nil .nil)) (.node (o114v103 P) (.node (o178v112 P) .nil .nil) (.node (o242v122 P) .nil .nil)))) (.node (o26v6 P) (.node (o42v6 P) (.node (o74v6 P) (.node (o138v206 P) (.node (o266v125 P) .nil .nil) .nil) (.node (o202v215 P) .nil .nil)) (.node (o106v102 P) (.node (o170v111 P) .nil .nil) (.node (o234v120 P) .nil .nil))) (.node (o58v6 P) (.node (o90v7 P) (.node (o154v109 P) (.node (o282v127 P) .nil .nil) .nil) (.node (o218v118 P) .nil .nil)) (.node (o122v104 P) (.node (o186v114 P) .nil .nil) (.node (o250v222 P) .nil .nil))))) (.node (o14v1 P) (.node (o22v6 P) (.node (o38v6 P) (.node (o70v6 P) (.node (o134v106 P) (.node (o262v124 P) .nil .nil) .nil) (.node (o198v115 P) .nil .nil)) (.node (o102v102 P) (.node (o166v210 P) .nil .nil) (.node (o230v219 P) .nil .nil))) (.node (o54v6 P) (.node (o86v7 P) (.node (o150v108 P) (.node (o278v226 P) .nil .nil) .nil) (.node (o214v118 P) .nil .nil)) (.node (o118v203 P) (.node (o182v113 P) .nil .nil) (.node (o246v122 P) .nil .nil)))) (.node (o30v6 P) (.node (o46v6 P) (.node (o78v6 P) (.node (o142v107 P) (.node (o270v126 P) .nil .nil) .nil) (.node (o206v116 P) .nil .nil)) (.node (o110v202 P) (.node (o174v211 P) .nil .nil) (.node (o238v121 P) .nil .nil))) (.node (o62v6 P) (.node (o94v8 P) (.node (o158v110 P) .nil .nil) (.node (o222v218 P) .nil .nil)) (.node (o126v105 P) (.node (o190v114 P) .nil .nil) (.node (o254v123 P) .nil .nil))))))))
noncomputable def SA27 (P : Params) (os : OsState) (c r : Int) (cp : Value) (O : Obj) (tk : Nat) : SharedT := ⟨TA27 P c r cp O, 285, {}, ⟨[.running]⟩, {}, tk, os⟩
noncomputable def o285v227 (P : Params) : Obj := ⟨(.type "tuple"), none, (.seq ⟨[]⟩ 0), ⟨[]⟩⟩
noncomputable def o286v227 (P : Params) : Obj := ⟨(.type "StopIteration"), none, (.fields ⟨[(.ref 285), .none, .none, .none, (.bool false), .none]⟩), ⟨[]⟩⟩
noncomputable def TD28 (P : Params) (cp : Value) (O : Obj) : BT := (.node (boot_o_0 P) (.node (boot_o_1 P) (.node (o3v7 P) (.node (boot_o_7 P) (.node (o15v6 P) (.node (o31v6 P) (.node (o63v6 P) (.node (o127v105 P) (.node (o255v123 P) .nil .nil) .nil) (.node (o191v114 P) .nil .nil)) (.node (d95 P (.int (.ofNat 128725) 320) (.int (.ofNat 128741) 321) cp) (.node (o159v209 P) .nil .nil) (.node (o223v218 P) .nil .nil))) (.node (o47v6 P) (.node (o79v6 P) (.node (o143v107 P) (.node (o271v225 P) .nil .nil) .nil) (.node (o207v117 P) .nil .nil)) (.node (o111v202 P) (.node (o175v112 P) .nil .nil) (.node (o239v121 P) .nil .nil)))) (.node (o23v6 P) (.node (o39v6 P) (.node (o71v6 P) (.node (o135v106 P) (.node (o263v125 P) .nil .nil) .nil) (.node (o199v115 P) .nil .nil)) (.node (o103v201 P) (.node (o167v210 P) .nil .nil) (.node (o231v120 P) .nil .nil))) (.node (o55v6 P) (.node (o87v7 P) (.node (o151v109 P) (.node (o279v226 P) .nil .nil) .nil) (.node (o215v217 P) .nil .nil)) (.node (o119v104 P) (.node (o183v113 P) .nil .nil) (.node (o247v122 P) .nil .nil))))) (.node (o11v1 P) (.node (o19v6 P) (.node (o35v6 P) (.node (o67v6 P) (.node (o131v205 P) (.node (o259v124 P) .nil .nil) .nil) (.node (o195v214 P) .nil .nil)) (.node (o99v101 P) (.node (o163v110 P) .nil .nil) (.node (o227v119 P) .nil .nil))) (.node (o51v6 P) (.node (o83v6 P) (.node (o147v108 P) (.node (o275v126 P) .nil .nil) .nil) (.node (o211v117 P) .nil .nil)) (.node (o115v103 P) (.node (o179v113 P) .nil .nil) (.node (o243v221 P) .nil .nil)))) (.node (o27v6 P) (.node (o43v6 P) (.node (o75v6 P) (.node (o139v206 P) (.node (o267v125 P) .nil .nil) .nil) (.node (o203v116 P) .nil .nil)) (.node (o107v102 P) (.node (o171v111 P) .nil .nil) (.node (o235v121 P) .nil .nil))) (.node (o59v6 P) (.node (o91v127 P) (.node (o155v109 P) (.node (o283v127 P) .nil .nil) .nil) (.node (o219v118 P) .nil .nil)) (.node (o123v105 P) (.node (o187v213 P) .nil .nil) (.node (o251v222 P) .nil .nil)))))) (.node (boot_o_5 P) (.node (boot_o_9 P) (.node (o17v6 P) (.node (o33v6 P) (.node (o65v6 P) (.node (o129v105 P) (.node (o257v223 P) .nil .nil) .nil) (.node (o193v115 P) .nil .nil)) (.node O (.node (o161v110 P) .nil .nil) (.node (o225v119 P) .nil .nil))) (.node (o49v6 P) (.node (o81v6 P) (.node (o145v207 P) (.node (o273v126 P) .nil .nil) .nil) (.node (o209v216 P) .nil .nil)) (.node (o113v103 P) (.node (o177v112 P) .nil .nil) (.node (o241v121 P) .nil .nil)))) (.node (o25v6 P) (.node (o41v6 P) (.node (o73v6 P) (.node (o137v107 P) (.node (o265v224 P) .nil .nil) .nil) (.node (o201v215 P) .nil .nil)) (.node (o105v102 P) (.node (o169v111 P) .nil .nil) (.node (o233v120 P) .nil .nil))) (.node (o57v6 P) (.node (o89v7 P) (.node (o153v208 P) (.node (o281v127 P) .nil .nil) .nil) (.node (o217v118 P) .nil .nil)) (.node (o121v104 P) (.node (o185v113 P) .nil .nil) (.node (o249v123 P) .nil .nil))))) (.node (o13v1 P) (.node (o21v6 P) (.node (o37v6 P) (.node (o69v6 P) (.node (o133v106 P) (.node (o261v124 P) .nil .nil) .nil) (.node (o197v115 P) .nil .nil)) (.node (o101v101 P) (.node (o165v111 P) .nil .nil) (.node (o229v219 P) .nil .nil))) (.node (o53v6 P) (.node (o85v6 P) (.node (o149v108 P) (.node (o277v127 P) .nil .nil) .nil) (.node (o213v117 P) .nil .nil)) (.node (o117v203 P) (.node (o181v212 P) .nil .nil) (.node (o245v122 P) .nil .nil)))) (.node (o29v6 P) (.node (o45v6 P) (.node (o77v6 P) (.node (o141v107 P) (.node (o269v125 P) .nil .nil) .nil) (.node (o205v116 P) .nil .nil)) (.node (o109v103 P) (.node (o173v211 P) .nil .nil) (.node (o237v220 P) .nil .nil))) (.node (o61v6 P) (.node (o93v8 P) (.node (o157v109 P) (.node (o285v227 P) .nil .nil) .nil) (.node (o221v119 P) .nil .nil)) (.node (o125v204 P) (.node (o189v114 P) .nil .nil) (.node (o253v123 P) .nil .nil))))))) (.node (boot_o_2 P) (.node (boot_o_4 P) (.node (boot_o_8 P) (.node (o16v6 P) (.node (o32v6 P) (.node (o64v6 P) (.node (o128v105 P) (.node (o256v124 P) .nil .nil) .nil) (.node (o192v114 P) .nil .nil)) (.node (o96v8 P) (.node (o160v209 P) .nil .nil) (.node (o224v119 P) .nil .nil))) (.node (o48v6 P) (.node (o80v6 P) (.node (o144v108 P) (.node (o272v225 P) .nil .nil) .nil) (.node (o208v216 P) .nil .nil)) (.node (o112v103 P) (.node (o176v112 P) .nil .nil) (.node (o240v121 P) .nil .nil)))) (.node (o24v6 P) (.node (o40v6 P) (.node (o72v6 P) (.node (o136v106 P) (.node (o264v224 P) .nil .nil) .nil) (.node (o200v116 P) .nil .nil)) (.node (o104v201 P) (.node (o168v111 P) .nil .nil) (.node (o232v120 P) .nil .nil))) (.node (o56v6 P) (.node (o88v7 P) (.node (o152v208 P) (.node (o280v127 P) .nil .nil) .nil) (.node (o216v217 P) .nil .nil)) (.node (o120v104 P) (.node (o184v113 P) .nil .nil) (.node (o248v122 P) .nil .nil))))) (.node (o12v8 P) (.node (o20v6 P) (.node (o36v6 P) (.node (o68v6 P) (.node (o132v205 P) (.node (o260v124 P) .nil .nil) .nil) (.node (o196v115 P) .nil .nil)) (.node (o100v101 P) (.node (o164v110 P) .nil .nil) (.node (o228v120 P) .nil .nil))) (.node (o52v6 P) (.node (o84v6 P) (.node (o148v108 P) (.node (o276v126 P) .nil .nil) .nil) (.node (o212v117 P) .nil .nil)) (.node (o116v104 P) (.node (o180v212 P) .nil .nil) (.node (o244v221 P) .nil .nil)))) (.node (o28v6 P) (.node (o44v6 P) (.node (o76v6 P) (.node (o140v107 P) (.node (o268v125 P) .nil .nil) .nil) (.node (o204v116 P) .nil .nil)) (.node (o108v102 P) (.node (o172v112 P) .nil .nil) (.node (o236v220 P) .nil .nil))) (.node (o60v6 P) (.node (o92v8 P) (.node (o156v109 P) (.node (rit (.ofNat 128742) (.ofNat 0)) .nil .nil) .nil) (.node (o220v118 P) .nil .nil)) (.node (o124v204 P) (.node (o188v213 P) .nil .nil) (.node (o252v123 P) .nil .nil)))))) (.node (boot_o_6 P) (.node (boot_o_10 P) (.node (o18v6 P) (.node (o34v6 P) (.node (o66v6 P) (.node (o130v106 P) (.node (o258v223 P) .nil .nil) .nil) (.node (o194v214 P) .nil .nil)) (.node (o98v101 P) (.node (o162v110 P) .nil .nil) (.node (o226v119 P) .nil .nil))) (.node (o50v6 P) (.node (o82v6 P) (.node (o146v207 P) (.node (o274v126 P) .nil .nil) .nil) (.node (o210v117 P) .nil .nil)) (.node (o114v103 P) (.node (o178v112 P) .nil .nil) (.node (o242v122 P) .nil .nil)))) (.node (o26v6 P) (.node (o42v6 P) (.node (o74v6 P) (.node (o138v206 P) (.node (o266v125 P) .nil .nil) .nil) (.node (o202v215 P) .nil .nil)) (.node (o106v102 P) (.node (o170v111 P) .nil .nil) (.node (o234v120 P) .nil .nil))) (.node (o58v6 P) (.node (o90v7 P) (.node (o154v109 P) (.node (o282v127 P) .nil .nil) .nil) (.node (o218v118 P) .nil .nil)) (.node (o122v104 P) (.node (o186v114 P) .nil .nil) (.node (o250v222 P) .nil .nil))))) (.node (o14v1 P) (.node (o22v6 P) (.node (o38v6 P) (.node (o70v6 P) (.node (o134v106 P) (.node (o262v124 P) .nil .nil) .nil) (.node (o198v115 P) .nil .nil)) (.node (o102v102 P) (.node (o166v210 P) .nil .nil) (.node (o230v219 P) .nil .nil))) (.node (o54v6 P) (.node (o86v7 P) (.node (o150v108 P) (.node (o278v226 P) .nil .nil) .nil) (.node (o214v118 P) .nil .nil)) (.node (o118v203 P) (.node (o182v113 P) .nil .nil) (.node (o246v122 P) .nil .nil)))) (.node (o30v6 P) (.node (o46v6 P) (.node (o78v6 P) (.node (o142v107 P) (.node (o270v126 P) .nil .nil) .nil) (.node (o206v116 P) .nil .nil)) (.node (o110v202 P) (.node (o174v211 P) .nil .nil) (.node (o238v121 P) .nil .nil))) (.node (o62v6 P) (.node (o94v8 P) (.node (o158v110 P) (.node (o286v227 P) .nil .nil) .nil) (.node (o222v218 P) .nil .nil)) (.node (o126v105 P) (.node (o190v114 P) .nil .nil) (.node (o254v123 P) .nil .nil))))))))
noncomputable def SD28 (P : Params) (os : OsState) (cp : Value) (O : Obj) (tk : Nat) : SharedT := ⟨TD28 P cp O, 287, {}, ⟨[.running]⟩, {}, tk, os⟩
noncomputable def o91v128 (P : Params) : Obj := ⟨(.type "tuple_iterator"), none, (.fields ⟨[(.ref 85), (.int (.ofNat 28) 0)]⟩), ⟨[]⟩⟩
noncomputable def o284v128 (P : Params) : Obj := ⟨(.type "range_iterator"), none, (.fields ⟨[(.int (.ofNat 128742) 0), (.int (.ofNat 0) 0), (.int (.ofNat 1) 0)]⟩), ⟨[]⟩⟩
noncomputable def o287v128 (P : Params) : Obj := ⟨(.type "tuple_iterator"), none, (.fields ⟨[.none, (.int (.ofNat 2) 0)]⟩), ⟨[]⟩⟩
noncomputable def o288v128 (P : Params) : Obj := ⟨(.type "tuple"), none, (.seq ⟨[]⟩ 0), ⟨[]⟩⟩
noncomputable def o289v128 (P : Params) : Obj := ⟨(.type "StopIteration"), none, (.fields ⟨[(.ref 288), .none, .none, .none, (.bool false), .none]⟩), ⟨[]⟩⟩
noncomputable def o290v128 (P : Params) : Obj := ⟨(.type "range"), none, (.fields ⟨[(.int (.ofNat 129340) 322), (.int (.ofNat 129350) 875), (.int (.ofNat 1) 876)]⟩), ⟨[]⟩⟩
noncomputable def TA28 (P : Params) (c r : Int) (cp : Value) (O : Obj) : BT := (.node (boot_o_0 P) (.node (boot_o_1 P) (.node (o3v7 P) (.node (boot_o_7 P) (.node (o15v6 P) (.node (o31v6 P) (.node (o63v6 P) (.node (o127v105 P) (.node (o255v123 P) .nil .nil) .nil) (.node (o191v114 P) .nil .nil)) (.node (d95 P (.int (.ofNat 129340) 322) (.int (.ofNat 129349) 323) cp) (.node (o159v209 P) (.node (o287v128 P) .nil .nil) .nil) (.node (o223v218 P) .nil .nil))) (.node (o47v6 P) (.node (o79v6 P) (.node (o143v107 P) (.node (o271v225 P) .nil .nil) .nil) (.node (o207v117 P) .nil .nil)) (.node (o111v202 P) (.node (o175v112 P) .nil .nil) (.node (o239v121 P) .nil .nil)))) (.node (o23v6 P) (.node (o39v6 P) (.node (o71v6 P) (.node (o135v106 P) (.node (o263v125 P) .nil .nil) .nil) (.node (o199v115 P) .nil .nil)) (.node (o103v201 P) (.node (o167v210 P) .nil .nil) (.node (o231v120 P) .nil .nil))) (.node (o55v6 P) (.node (o87v7 P) (.node (o151v109 P) (.node (o279v226 P) .nil .nil) .nil) (.node (o215v217 P) .nil .nil)) (.node (o119v104 P) (.node (o183v113 P) .nil .nil) (.node (o247v122 P) .nil .nil))))) (.node (o11v1 P) (.node (o19v6 P) (.node (o35v6 P) (.node (o67v6 P) (.node (o131v205 P) (.node (o259v124 P) .nil .nil) .nil) (.node (o195v214 P) .nil .nil)) (.node (o99v101 P) (.node (o163v110 P) (.node (rit c r) .nil .nil) .nil) (.node (o227v119 P) .nil .nil))) (.node (o51v6 P) (.node (o83v6 P) (.node (o147v108 P) (.node (o275v126 P) .nil .nil) .nil) (.node (o211v117 P) .nil .nil)) (.node (o115v103 P) (.node (o179v113 P) .nil .nil) (.node (o243v221 P) .nil .nil)))) (.node (o27v6 P) (.node (o43v6 P) (.node (o75v6 P) (.node (o139v206 P) (.node (o267v125 P) .nil .nil) .nil) (.node (o203v116 P) .nil .nil)) (.node (o107v102 P) (.node (o171v111 P) .nil .nil) (.node (o235v121 P) .nil .nil))) (.node (o59v6 P) (.node (o91v128 P) (.node (o155v109 P) (.node (o283v127 P) .nil .nil) .nil) (.node (o219v118 P) .nil .nil)) (.node (o123v105 P) (.node (o187v213 P) .nil .nil) (.node (o251v222 P) .nil .nil)))))) (.node (boot_o_5 P) (.node (boot_o_9 P) (.node (o17v6 P) (.node (o33v6 P) (.node (o65v6 P) (.node (o129v105 P) (.node (o257v223 P) .nil .nil) .nil) (.node (o193v115 P) .nil .nil)) (.node O (.node (o161v110 P) (.node (o289v128 P) .nil .nil) .nil) (.node (o225v119 P) .nil .nil))) (.node (o49v6 P) (.node (o81v6 P) (.node (o145v207 P) (.node (o273v126 P) .nil .nil) .nil) (.node (o209v216 P) .nil .nil)) (.node (o113v103 P) (.node (o177v112 P) .nil .nil) (.node (o241v121 P) .nil .nil)))) (.node (o25v6 P) (.node (o41v6 P) (.node (o73v6 P) (.node (o137v107 P) (.node (o265v224 P) .nil .nil) .nil) (.node (o201v215 P) .nil .nil)) (.node (o105v102 P) (.node (o169v111 P) .nil .nil) (.node (o233v120 P) .nil .nil))) (.node (o57v6 P) (.node (o89v7 P) (.node (o153v208 P) (.node (o281v127 P) .nil .nil) .nil) (.node (o217v118 P) .nil .nil)) (.node (o121v104 P) (.node (o185v113 P) .nil .nil) (.node (o249v123 P) .nil .nil))))) (.node (o13v1 P) (.node (o21v6 P) (.node (o37v6 P) (.node (o69v6 P) (.node (o133v106 P) (.node (o261v124 P) .nil .nil) .nil) (.node (o197v115 P) .nil .nil)) (.node (o101v101 P) (.node (o165v111 P) .nil .nil) (.node (o229v219 P) .nil .nil))) (.node (o53v6 P) (.node (o85v6 P) (.node (o149v108 P) (.node (o277v127 P) .nil .nil) .nil) (.node (o213v117 P) .nil .nil)) (.node (o117v203 P) (.node (o181v212 P) .nil .nil) (.node (o245v122 P) .nil .nil)))) (.node (o29v6 P) (.node (o45v6 P) (.node (o77v6 P) (.node (o141v107 P) (.node (o269v125 P) .nil .nil) .nil) (.node (o205v116 P) .nil .nil)) (.node (o109v103 P) (.node (o173v211 P) .nil .nil) (.node (o237v220 P) .nil .nil))) (.node (o61v6 P) (.node (o93v8 P) (.node (o157v109 P) (.node (o285v227 P) .nil .nil) .nil) (.node (o221v119 P) .nil .nil)) (.node (o125v204 P) (.node (o189v114 P) .nil .nil) (.node (o253v123 P) .nil .nil))))))) (.node (boot_o_2 P) (.node (boot_o_4 P) (.node (boot_o_8 P) (.node (o16v6 P) (.node (o32v6 P) (.node (o64v6 P) (.node (o128v105 P) (.node (o256v124 P) .nil .nil) .nil) (.node (o192v114 P) .nil .nil)) (.node (o96v8 P) (.node (o160v209 P) (.node (o288v128 P) .nil .nil) .nil) (.node (o224v119 P) .nil .nil))) (.node (o48v6 P) (.node (o80v6 P) (.node (o144v108 P) (.node (o272v225 P) .nil .nil) .nil) (.node (o208v216 P) .nil .nil)) (.node (o112v103 P) (.node (o176v112 P) .nil .nil) (.node (o240v121 P) .nil .nil)))) (.node (o24v6 P) (.node (o40v6 P) (.node (o72v6 P) (.node (o136v106 P) (.node (o264v224 P) .nil .nil) .nil) (.node (o200v116 P) .nil .nil)) (.node (o104v201 P) (.node (o168v111 P) .nil .nil) (.node (o232v120 P) .nil .nil))) (.node (o56v6 P) (.node (o88v7 P) (.node (o152v208 P) (.node (o280v127 P) .nil .nil) .nil) (.node (o216v217 P) .nil .nil)) (.node (o120v104 P) (.node (o184v113 P) .nil .nil) (.node (o248v122 P) .nil .nil))))) (.node (o12v8 P) (.node (o20v6 P) (.node (o36v6 P) (.node (o68v6 P) (.node (o132v205 P) (.node (o260v124 P) .nil .nil) .nil) (.node (o196v115 P) .nil .nil)) (.node (o100v101 P) (.node (o164v110 P) .nil .nil) (.node (o228v120 P) .nil .nil))) (.node (o52v6 P) (.node (o84v6 P) (.node (o148v108 P) (.node (o276v126 P) .nil .nil) .nil) (.node (o212v117 P) .nil .nil)) (.node (o116v104 P) (.node (o180v212 P) .nil .nil) (.node (o244v221 P) .nil .nil)))) (.node (o28v6 P) (.node (o44v6 P) (.node (o76v6 P) (.node (o140v107 P) (.node (o268v125 P) .nil .nil) .nil) (.node (o204v116 P) .nil .nil)) (.node (o108v102 P) (.node (o172v112 P) .nil .nil) (.node (o236v220 P) .nil .nil))) (.node (o60v6 P) (.node (o92v8 P) (.node (o156v109 P) (.node (o284v128 P) .nil .nil) .nil) (.node (o220v118 P) .nil .nil)) (.node (o124v204 P) (.node (o188v213 P) .nil .nil) (.node (o252v123 P) .nil .nil)))))) (.node (boot_o_6 P) (.node (boot_o_10 P) (.node (o18v6 P) (.node (o34v6 P) (.node (o66v6 P) (.node (o130v106 P) (.node (o258v223 P) .nil .nil) .nil) (.node (o194v214 P) .nil .nil)) (.node (o98v101 P) (.node (o162v110 P) (.node (o290v128 P) .nil .nil) .nil) (.node (o226v119 P) .nil .nil))) (.node (o50v6 P) (.node (o82v6 P) (.node (o146v207 P) (.node (o274v126 P) .nil .nil) .nil) (.node (o210v117 P) .nil .nil)) (.node (o114v103 P) (.node (o178v112 P) .nil .nil) (.node (o242v122 P) .nil .nil)))) (.node (o26v6 P) (.node (o42v6 P) (.node (o74v6 P) (.node (o138v206 P) (.node (o266v125 P) .nil .nil) .nil) (.node (o202v215 P) .nil .nil)) (.node (o106v102 P) (.node (o170v111 P) .nil .nil) (.node (o234v120 P) .nil .nil))) (.node (o58v6 P) (.node (o90v7 P) (.node (o154v109 P) (.node (o282v127 P) .nil .nil) .nil) (.node (o218v118 P) .nil .nil)) (.node (o122v104 P) (.node (o186v114 P) .nil .nil) (.node (o250v222 P) .nil .nil))))) (.node (o14v1 P) (.node (o22v6 P) (.node (o38v6 P) (.node (o70v6 P) (.node (o134v106 P) (.node (o262v124 P) .nil .nil) .nil) (.node (o198v115 P) .nil .nil)) (.node (o102v102 P) (.node (o166v210 P) .nil .nil) (.node (o230v219 P) .nil .nil))) (.node (o54v6 P) (.node (o86v7 P) (.node (o150v108 P) (.node (o278v226 P) .nil .nil) .nil) (.node (o214v118 P) .nil .nil)) (.node (o118v203 P) (.node (o182v113 P) .nil .nil) (.node (o246v122 P) .nil .nil)))) (.node (o30v6 P) (.node (o46v6 P) (.node (o78v6 P) (.node (o142v107 P) (.node (o270v126 P) .nil .nil) .nil) (.node (o206v116 P) .nil .nil)) (.node (o110v202 P) (.node (o174v211 P) .nil .nil) (.node (o238v121 P) .nil .nil))) (.node (o62v6 P) (.node (o94v8 P) (.node (o158v110 P) (.node (o286v227 P) .nil .nil) .nil) (.node (o222v218 P) .nil .nil)) (.node (o126v105 P) (.node (o190v114 P) .nil .nil) (.node (o254v123 P) .nil .nil))))))))
noncomputable def SA28 (P : Params) (os : OsState) (c r : Int) (cp : Value) (O : Obj) (tk : Nat) : SharedT := ⟨TA28 P c r cp O, 292, {}, ⟨[.running]⟩, {}, tk, os⟩
noncomputable def o292v228 (P : Params) : Obj := ⟨(.type "tuple"), none, (.seq ⟨[]⟩ 0), ⟨[]⟩⟩
noncomputable def o293v228 (P : Params) : Obj := ⟨(.type "StopIteration"), none, (.fields ⟨[(.ref 292), .none, .none, .none, (.bool false), .none]⟩), ⟨[]⟩⟩
noncomputable def TD29 (P : Params) (cp : Value) (O : Obj) : BT := (.node (boot_o_0 P) (.node (boot_o_1 P) (.node (o3v7 P) (.node (boot_o_7 P) (.node (o15v6 P) (.node (o31v6 P) (.node (o63v6 P) (.node (o127v105 P) (.node (o255v123 P) .nil .nil) .nil) (.node (o191v114 P) .nil .nil)) (.node (d95 P (.int (.ofNat 129340) 322) (.int (.ofNat 129349) 323) cp) (.node (o159v209 P) (.node (o287v128 P) .nil .nil) .nil) (.node (o223v218 P) .nil .nil))) (.node (o47v6 P) (.node (o79v6 P) (.node (o143v107 P) (.node (o271v225 P) .nil .nil) .nil) (.node (o207v117 P) .nil .nil)) (.node (o111v202 P) (.node (o175v112 P) .nil .nil) (.node (o239v121 P) .nil .nil)))) (.node (o23v6 P) (.node (o39v6 P) (.node (o71v6 P) (.node (o135v106 P) (.node (o263v125 P) .nil .nil) .nil) (.node (o199v115 P) .nil .nil)) (.node (o103v201 P) (.node (o167v210 P) .nil .nil) (.node (o231v120 P) .nil .nil))) (.node (o55v6 P) (.node (o87v7 P) (.node (o151v109 P) (.node (o279v226 P) .nil .nil) .nil) (.node (o215v217 P) .nil .nil)) (.node (o119v104 P) (.node (o183v113 P) .nil .nil) (.node (o247v122 P) .nil .nil))))) (.node (o11v1 P) (.node (o19v6 P) (.node (o35v6 P) (.node (o67v6 P) (.node (o131v205 P) (.node (o259v124 P) .nil .nil) .nil) (.node (o195v214 P) .nil .nil)) (.node (o99v101 P) (.node (o163v110 P) (.node (rit (.ofNat 129350) (.ofNat 0)) .nil .nil) .nil) (.node (o227v119 P) .nil .nil))) (.node (o51v6 P) (.node (o83v6 P) (.node (o147v108 P) (.node (o275v126 P) .nil .nil) .nil) (.node (o211v117 P) .nil .nil)) (.node (o115v103 P) (.node (o179v113 P) .nil .nil) (.node (o243v221 P) .nil .nil)))) (.node (o27v6 P) (.node (o43v6 P) (.node (o75v6 P) (.node (o139v206 P) (.node (o267v125 P) .nil .nil) .nil) (.node (o203v116 P) .nil .nil)) (.node (o107v102 P) (.node (o171v111 P) .nil .nil) (.node (o235v121 P) .nil .nil))) (.node (o59v6 P) (.node (o91v128 P) (.node (o155v109 P) (.node (o283v127 P) .nil .nil) .nil) (.node (o219v118 P) .nil .nil)) (.node (o123v105 P) (.node (o187v213 P) .nil .nil) (.node (o251v222 P) .nil .nil)))))) (.node (boot_o_5 P) (.node (boot_o_9 P) (.node (o17v6 P) (.node (o33v6 P) (.node (o65v6 P) (.node (o129v105 P) (.node (o257v223 P) .nil .nil) .nil) (.node (o193v115 P) .nil .nil)) (.node O (.node (o161v110 P) (.node (o289v128 P) .nil .nil) .nil) (.node (o225v119 P) .nil .nil))) (.node (o49v6 P) (.node (o81v6 P) (.node (o145v207 P) (.node (o273v126 P) .nil .nil) .nil) (.node (o209v216 P) .nil .nil)) (.node (o113v103 P) (.node (o177v112 P) .nil .nil) (.node (o241v121 P) .nil .nil)))) (.node (o25v6 P) (.node (o41v6 P) (.node (o73v6 P) (.node (o137v107 P) (.node (o265v224 P) .nil .nil) .nil) (.node (o201v215 P) .nil .nil)) (.node (o105v102 P) (.node (o169v111 P) .nil .nil) (.node (o233v120 P) .nil .nil))) (.node (o57v6 P) (.node (o89v7 P) (.node (o153v208 P) (.node (o281v127 P) .nil .nil) .nil) (.node (o217v118 P) .nil .nil)) (.node (o121v104 P) (.node (o185v113 P) .nil .nil) (.node (o249v123 P) .nil .nil))))) (.node (o13v1 P) (.node (o21v6 P) (.node (o37v6 P) (.node (o69v6 P) (.node (o133v106 P) (.node (o261v124 P) .nil .nil) .nil) (.node (o197v115 P) .nil .nil)) (.node (o101v101 P) (.node (o165v111 P) (.node (o293v228 P) .nil .nil) .nil) (.node (o229v219 P) .nil .nil))) (.node (o53v6 P) (.node (o85v6 P) (.node (o149v108 P) (.node (o277v127 P) .nil .nil) .nil) (.node (o213v117 P) .nil .nil)) (.node (o117v203 P) (.node (o181v212 P) .nil .nil) (.node (o245v122 P) .nil .nil)))) (.node (o29v6 P) (.node (o45v6 P) (.node (o77v6 P) (.node (o141v107 P) (.node (o269v125 P) .nil .nil) .nil) (.node (o205v116 P) .nil .nil)) (.node (o109v103 P) (.node (o173v211 P) .nil .nil) (.node (o237v220 P) .nil .nil))) (.node (o61v6 P) (.node (o93v8 P) (.node (o157v109 P) (.node (o285v227 P) .nil .nil) .nil) (.node (o221v119 P) .nil .nil)) (.node (o125v204 P) (.node (o189v114 P) .nil .nil) (.node (o253v123 P) .nil .nil))))))) (.node (boot_o_2 P) (.node (boot_o_4 P) (.node (boot_o_8 P) (.node (o16v6 P) (.node (o32v6 P) (.node (o64v6 P) (.node (o128v105 P) (.node (o256v124 P) .nil .nil) .nil) (.node (o192v114 P) .nil .nil)) (.node (o96v8 P) (.node (o160v209 P) (.node (o288v128 P) .nil .nil) .nil) (.node (o224v119 P) .nil .nil))) (.node (o48v6 P) (.node (o80v6 P) (.node (o144v108 P) (.node (o272v225 P) .nil .nil) .nil) (.node (o208v216 P) .nil .nil)) (.node (o112v103 P) (.node (o176v112 P) .nil .nil) (.node (o240v121 P) .nil .nil)))) (.node (o24v6 P) (.node (o40v6 P) (.node (o72v6 P) (.node (o136v106 P) (.node (o264v224 P) .nil .nil) .nil) (.node (o200v116 P) .nil .nil)) (.node (o104v201 P) (.node (o168v111 P) .nil .nil) (.node (o232v120 P) .nil .nil))) (.node (o56v6 P) (.node (o88v7 P) (.node (o152v208 P) (.node (o280v127 P) .nil .nil) .nil) (.node (o216v217 P) .nil .nil)) (.node (o120v104 P) (.node (o184v113 P) .nil .nil) (.node (o248v122 P) .nil .nil))))) (.node (o12v8 P) (.node (o20v6 P) (.node (o36v6 P) (.node (o68v6 P) (.node (o132v205 P) (.node (o260v124 P) .nil .nil) .nil) (.node (o196v115 P) .nil .nil)) (.node (o100v101 P) (.node (o164v110 P) (.node (o292v228 P) .nil .nil) .nil) (.node (o228v120 P) .nil .nil))) (.node (o52v6 P) (.node (o84v6 P) (.node (o148v108 P) (.node (o276v126 P) .nil .nil) .nil) (.node (o212v117 P) .nil .nil)) (.node (o116v104 P) (.node (o180v212 P) .nil .nil) (.node (o244v221 P) .nil .nil)))) (.node (o28v6 P) (.node (o44v6 P) (.node (o76v6 P) (.node (o140v107 P) (.node (o268v125 P) .nil .nil) .nil) (.node (o204v116 P) .nil .nil)) (.node (o108v102 P) (.node (o172v112 P) .nil .nil) (.node (o236v220 P) .nil .nil))) (.node (o60v6 P) (.node (o92v8 P) (.node (o156v109 P) (.node (o284v128 P) .nil .nil) .nil) (.node (o220v118 P) .nil .nil)) (.node (o124v204 P) (.node (o188v213 P) .nil .nil) (.node (o252v123 P) .nil .nil)))))) (.node (boot_o_6 P) (.node (boot_o_10 P) (.node (o18v6 P) (.node (o34v6 P) (.node (o66v6 P) (.node (o130v106 P) (.node (o258v223 P) .nil .nil) .nil) (.node (o194v214 P) .nil .nil)) (.node (o98v101 P) (.node (o162v110 P) (.node (o290v128 P) .nil .nil) .nil) (.node (o226v119 P) .nil .nil))) (.node (o50v6 P) (.node (o82v6 P) (.node (o146v207 P) (.node (o274v126 P) .nil .nil) .nil) (.node (o210v117 P) .nil .nil)) (.node (o114v103 P) (.node (o178v112 P) .nil .nil) (.node (o242v122 P) .nil .nil)))) (.node (o26v6 P) (.node (o42v6 P) (.node (o74v6 P) (.node (o138v206 P) (.node (o266v125 P) .nil .nil) .nil) (.node (o202v215 P) .nil .nil)) (.node (o106v102 P) (.node (o170v111 P) .nil .nil) (.node (o234v120 P) .nil .nil))) (.node (o58v6 P) (.node (o90v7 P) (.node (o154v109 P) (.node (o282v127 P) .nil .nil) .nil) (.node (o218v118 P) .nil .nil)) (.node (o122v104 P) (.node (o186v114 P) .nil .nil) (.node (o250v222 P) .nil .nil))))) (.node (o14v1 P) (.node (o22v6 P) (.node (o38v6 P) (.node (o70v6 P) (.node (o134v106 P) (.node (o262v124 P) .nil .nil) .nil) (.node (o198v115 P) .nil .nil)) (.node (o102v102 P) (.node (o166v210 P) .nil .nil) (.node (o230v219 P) .nil .nil))) (.node (o54v6 P) (.node (o86v7 P) (.node (o150v108 P) (.node (o278v226 P) .nil .nil) .nil) (.node (o214v118 P) .nil .nil)) (.node (o118v203 P) (.node (o182v113 P) .nil .nil) (.node (o246v122 P) .nil .nil)))) (.node (o30v6 P) (.node (o46v6 P) (.node (o78v6 P) (.node (o142v107 P) (.node (o270v126 P) .nil .nil) .nil) (.node (o206v116 P) .nil .nil)) (.node (o110v202 P) (.node (o174v211 P) .nil .nil) (.node (o238v121 P) .nil .nil))) (.node (o62v6 P) (.node (o94v8 P) (.node (o158v110 P) (.node (o286v227 P) .nil .nil) .nil) (.node (o222v218 P) .nil .nil)) (.node (o126v105 P) (.node (o190v114 P) .nil .nil) (.node (o254v123 P) .nil .nil))))))))
noncomputable def SD29 (P : Params) (os : OsState) (cp : Value) (O : Obj) (tk : Nat) : SharedT := ⟨TD29 P cp O, 294, {}, ⟨[.running]⟩, {}, tk, os⟩
noncomputable def O124 (P : Params) : Obj := ⟨(.type "frozenset"), none, (.set ⟨[((.ofNat 9728), (.int (.ofNat 9728) 496)), ((.ofNat 9729), (.int (.ofNat 9729) 499)), ((.ofNat 9730), (.int (.ofNat 9730) 502)), ((.ofNat 9731), (.int (.ofNat 9731) 505)), ((.ofNat 9732), (.int (.ofNat 9732) 508)), ((.ofNat 126980), (.int (.ofNat 126980) 667)), ((.ofNat 9748), (.int (.ofNat 9748) 516)), ((.ofNat 9749), (.int (.ofNat 9749) 519)), ((.ofNat 9757), (.int (.ofNat 9757) 527)), ((.ofNat 9760), (.int (.ofNat 9760) 535)), ((.ofNat 12336), (.int (.ofNat 12336) 651)), ((.ofNat 8252), (.int (.ofNat 8252) 416)), ((.ofNat 12349), (.int (.ofNat 12349) 659)), ((.ofNat 9792), (.int (.ofNat 9792) 543)), ((.ofNat 9794), (.int (.ofNat 9794) 551)), ((.ofNat 9800), (.int (.ofNat 9800) 559)), ((.ofNat 9801), (.int (.ofNat 9801) 562)), ((.ofNat 9802), (.int (.ofNat 9802) 565)), ((.ofNat 9803), (.int (.ofNat 9803) 568)), ((.ofNat 9804), (.int (.ofNat 9804) 571)), ((.ofNat 9805), (.int (.ofNat 9805) 574)), ((.ofNat 9806), (.int (.ofNat 9806) 577)), ((.ofNat 9807), (.int (.ofNat 9807) 580)), ((.ofNat 9808), (.int (.ofNat 9808) 583)), ((.ofNat 9809), (.int (.ofNat 9809) 586)), ((.ofNat 9810), (.int (.ofNat 9810) 589)), ((.ofNat 9811), (.int (.ofNat 9811) 592)), ((.ofNat 169), (.int (.ofNat 169) 400)), ((.ofNat 174), (.int (.ofNat 174) 408)), ((.ofNat 128715), (.int (.ofNat 128715) 792)), ((.ofNat 128716), (.int (.ofNat 128716) 795)), ((.ofNat 128717), (.int (.ofNat 128717) 798)), ((.ofNat 128718), (.int (.ofNat 128718) 801)), ((.ofNat 128719), (.int (.ofNat 128719) 804)), ((.ofNat 128720), (.int (.ofNat 128720) 807)), ((.ofNat 128721), (.int (.ofNat 128721) 810)), ((.ofNat 128722), (.int (.ofNat 128722) 813)), ((.ofNat 128725), (.int (.ofNat 128725) 821)), ((.ofNat 128726), (.int (.ofNat 128726) 824)), ((.ofNat 128727), (.int (.ofNat 128727) 827)), ((.ofNat 128728), (.int (.ofNat 128728) 830)), ((.ofNat 128729), (.int (.ofNat 128729) 833)), ((.ofNat 128730), (.int (.ofNat 128730) 836)), ((.ofNat 128731), (.int (.ofNat 128731) 839)), ((.ofNat 128732), (.int (.ofNat 128732) 842)), ((.ofNat 128733), (.int (.ofNat 128733) 845)), ((.ofNat 128734), (.int (.ofNat 128734) 848)), ((.ofNat 128735), (.int (.ofNat 128735) 851)), ((.ofNat 128736), (.int (.ofNat 128736) 854)), ((.ofNat 128737), (.int (.ofNat 128737) 857)), ((.ofNat 128738), (.int (.ofNat 128738) 860)), ((.ofNat 128739), (.int (.ofNat 128739) 863)), ((.ofNat 128740), (.int (.ofNat 128740) 866)), ((.ofNat 128741), (.int (.ofNat 128741) 869)), ((.ofNat 9975), (.int (.ofNat 9975) 600)), ((.ofNat 9976), (.int (.ofNat 9976) 603)), ((.ofNat 9977), (.int (.ofNat 9977) 606)), ((.ofNat 9978), (.int (.ofNat 9978) 609)), ((.ofNat 9992), (.int (.ofNat 9992) 617)), ((.ofNat 9993), (.int (.ofNat 9993) 620)), ((.ofNat 9994), (.int (.ofNat 9994) 623)), ((.ofNat 9995), (.int (.ofNat 9995) 626)), ((.ofNat 9996), (.int (.ofNat 9996) 629)), ((.ofNat 9997), (.int (.ofNat 9997) 632)), ((.ofNat 8986), (.int (.ofNat 8986) 447)), ((.ofNat 8987), (.int (.ofNat 8987) 450)), ((.ofNat 129340), (.int (.ofNat 129340) 877)), ((.ofNat 129341), (.int (.ofNat 129341) 880)), ((.ofNat 129342), (.int (.ofNat 129342) 883)), ((.ofNat 129343), (.int (.ofNat 129343) 886)), ((.ofNat 129344), (.int (.ofNat 129344) 889)), ((.ofNat 129345), (.int (.ofNat 129345) 892)), ((.ofNat 129346), (.int (.ofNat 129346) 895)), ((.ofNat 129347), (.int (.ofNat 129347) 898)), ((.ofNat 129348), (.int (.ofNat 129348) 901)), ((.ofNat 129349), (.int (.ofNat 129349) 904)), ((.ofNat 10083), (.int (.ofNat 10083) 640)), ((.ofNat 10084), (.int (.ofNat 10084) 643)), ((.ofNat 127380), (.int (.ofNat 127380) 684)), ((.ofNat 128371), (.int (.ofNat 128371) 741)), ((.ofNat 128372), (.int (.ofNat 128372) 744)), ((.ofNat 128373), (.int (.ofNat 128373) 747)), ((.ofNat 127381), (.int (.ofNat 127381) 687)), ((.ofNat 128374), (.int (.ofNat 128374) 750)), ((.ofNat 128375), (.int (.ofNat 128375) 753)), ((.ofNat 128376), (.int (.ofNat 128376) 756)), ((.ofNat 128377), (.int (.ofNat 128377) 759)), ((.ofNat 128378), (.int (.ofNat 128378) 762)), ((.ofNat 127377), (.int (.ofNat 127377) 675)), ((.ofNat 127378), (.int (.ofNat 127378) 678)), ((.ofNat 127379), (.int (.ofNat 127379) 681)), ((.ofNat 8596), (.int (.ofNat 8596) 424)), ((.ofNat 8597), (.int (.ofNat 8597) 427)), ((.ofNat 8598), (.int (.ofNat 8598) 430)), ((.ofNat 127383), (.int (.ofNat 127383) 693)), ((.ofNat 8599), (.int (.ofNat 8599) 433)), ((.ofNat 8600), (.int (.ofNat 8600) 436)), ((.ofNat 8601), (.int (.ofNat 8601) 439)), ((.ofNat 127382), (.int (.ofNat 127382) 690)), ((.ofNat 127384), (.int (.ofNat 127384) 696)), ((.ofNat 127385), (.int (.ofNat 127385) 699)), ((.ofNat 127386), (.int (.ofNat 127386) 702)), ((.ofNat 128405), (.int (.ofNat 128405) 770)), ((.ofNat 128406), (.int (.ofNat 128406) 773)), ((.ofNat 128420), (.int (.ofNat 128420) 781)), ((.ofNat 128421), (.int (.ofNat 128421) 784)), ((.ofNat 9193), (.int (.ofNat 9193) 458)), ((.ofNat 9194), (.int (.ofNat 9194) 461)), ((.ofNat 9195), (.int (.ofNat 9195) 464)), ((.ofNat 9196), (.int (.ofNat 9196) 467)), ((.ofNat 9197), (.int (.ofNat 9197) 470)), ((.ofNat 9198), (.int (.ofNat 9198) 473)), ((.ofNat 9199), (.int (.ofNat 9199) 476)), ((.ofNat 9200), (.int (.ofNat 9200) 479)), ((.ofNat 9201), (.int (.ofNat 9201) 482)), ((.ofNat 9202), (.int (.ofNat 9202) 485)), ((.ofNat 9203), (.int (.ofNat 9203) 488)), ((.ofNat 127987), (.int (.ofNat 127987) 710)), ((.ofNat 127988), (.int (.ofNat 127988) 713)), ((.ofNat 127989), (.int (.ofNat 127989) 716)), ((.ofNat 127991), (.int (.ofNat 127991) 724)), ((.ofNat 127992), (.int (.ofNat 127992) 727)), ((.ofNat 127993), (.int (.ofNat 127993) 730)), ((.ofNat 127994), (.int (.ofNat 127994) 733))]⟩ 127 ⟨511, ⟨[0, 1, 2, 3, 4, 5, 20, 21, 29, 32, 48, 60, 61, 64, 66, 72, 73, 74, 75, 76, 77, 78, 79, 80, 81, 82, 83, 169, 174, 203, 204, 205, 206, 207, 208, 209, 210, 213, 214, 215, 216, 217, 218, 219, 220, 221, 222, 223, 224, 225, 226, 227, 228, 229, 247, 248, 249, 250, 264, 265, 266, 267, 268, 269, 282, 283, 316, 317, 318, 319, 320, 321, 322, 323, 324, 325, 355, 356, 369, 371, 372, 373, 374, 375, 376, 377, 378, 379, 401, 402, 403, 404, 405, 406, 407, 408, 409, 410, 411, 412, 413, 414, 415, 416, 420, 421, 489, 490, 491, 492, 493, 494, 495, 496, 497, 498, 499, 500, 501, 502, 503, 504, 505, 506]⟩, ⟨[]⟩, 0, !P.followText "set-order", 3, true⟩), ⟨[]⟩⟩
noncomputable def o91v300 (P : Params) : Obj := ⟨(.type "tuple_iterator"), none, (.fields ⟨[.none, (.int (.ofNat 28) 0)]⟩), ⟨[]⟩⟩
noncomputable def o291v300 (P : Params) : Obj := ⟨(.type "range_iterator"), none, (.fields ⟨[(.int (.ofNat 129350) 0), (.int (.ofNat 0) 0), (.int (.ofNat 1) 0)]⟩), ⟨[]⟩⟩
noncomputable def o294v300 (P : Params) : Obj := ⟨(.type "tuple"), none, (.seq ⟨[]⟩ 0), ⟨[]⟩⟩
noncomputable def o295v300 (P : Params) : Obj := ⟨(.type "StopIteration"), none, (.fields ⟨[(.ref 294), .none, .none, .none, (.bool false), .none]⟩), ⟨[]⟩⟩
noncomputable def o296v300 (P : Params) : Obj := ⟨(.type "tuple"), none, (.seq ⟨[]⟩ 0), ⟨[]⟩⟩
noncomputable def o297v300 (P : Params) : Obj := ⟨(.type "StopIteration"), none, (.fields ⟨[(.ref 296), .none, .none, .none, (.bool false), .none]⟩), ⟨[]⟩⟩
noncomputable def TE (P : Params) (cp : Value) (O : Obj) : BT := (.node (boot_o_0 P) (.node (boot_o_1 P) (.node (o3v7 P) (.node (boot_o_7 P) (.node (o15v6 P) (.node (o31v6 P) (.node (o63v6 P) (.node (o127v105 P) (.node (o255v123 P) .nil .nil) .nil) (.node (o191v114 P) .nil .nil)) (.node (d95 P (.int (.ofNat 129340) 322) (.int (.ofNat 129349) 323) cp) (.node (o159v209 P) (.node (o287v128 P) .nil .nil) .nil) (.node (o223v218 P) .nil .nil))) (.node (o47v6 P) (.node (o79v6 P) (.node (o143v107 P) (.node (o271v225 P) .nil .nil) .nil) (.node (o207v117 P) .nil .nil)) (.node (o111v202 P) (.node (o175v112 P) .nil .nil) (.node (o239v121 P) .nil .nil)))) (.node (o23v6 P) (.node (o39v6 P) (.node (o71v6 P) (.node (o135v106 P) (.node (o263v125 P) .nil .nil) .nil) (.node (o199v115 P) .nil .nil)) (.node (o103v201 P) (.node (o167v210 P) (.node (o295v300 P) .nil .nil) .nil) (.node (o231v120 P) .nil .nil))) (.node (o55v6 P) (.node (o87v7 P) (.node (o151v109 P) (.node (o279v226 P) .nil .nil) .nil) (.node (o215v217 P) .nil .nil)) (.node (o119v104 P) (.node (o183v113 P) .nil .nil) (.node (o247v122 P) .nil .nil))))) (.node (o11v1 P) (.node (o19v6 P) (.node (o35v6 P) (.node (o67v6 P) (.node (o131v205 P) (.node (o259v124 P) .nil .nil) .nil) (.node (o195v214 P) .nil .nil)) (.node (o99v101 P) (.node (o163v110 P) (.node (o291v300 P) .nil .nil) .nil) (.node (o227v119 P) .nil .nil))) (.node (o51v6 P) (.node (o83v6 P) (.node (o147v108 P) (.node (o275v126 P) .nil .nil) .nil) (.node (o211v117 P) .nil .nil)) (.node (o115v103 P) (.node (o179v113 P) .nil .nil) (.node (o243v221 P) .nil .nil)))) (.node (o27v6 P) (.node (o43v6 P) (.node (o75v6 P) (.node (o139v206 P) (.node (o267v125 P) .nil .nil) .nil) (.node (o203v116 P) .nil .nil)) (.node (o107v102 P) (.node (o171v111 P) .nil .nil) (.node (o235v121 P) .nil .nil))) (.node (o59v6 P) (.node (o91v300 P) (.node (o155v109 P) (.node (o283v127 P) .nil .nil) .nil) (.node (o219v118 P) .nil .nil)) (.node (o123v105 P) (.node (o187v213 P) .nil .nil) (.node (o251v222 P) .nil .nil)))))) (.node (boot_o_5 P) (.node (boot_o_9 P) (.node (o17v6 P) (.node (o33v6 P) (.node (o65v6 P) (.node (o129v105 P) (.node (o257v223 P) .nil .nil) .nil) (.node (o193v115 P) .nil .nil)) (.node O (.node (o161v110 P) (.node (o289v128 P) .nil .nil) .nil) (.node (o225v119 P) .nil .nil))) (.node (o49v6 P) (.node (o81v6 P) (.node (o145v207 P) (.node (o273v126 P) .nil .nil) .nil) (.node (o209v216 P) .nil .nil)) (.node (o113v103 P) (.node (o177v112 P) .nil .nil) (.node (o241v121 P) .nil .nil)))) (.node (o25v6 P) (.node (o41v6 P) (.node (o73v6 P) (.node (o137v107 P) (.node (o265v224 P) .nil .nil) .nil) (.node (o201v215 P) .nil .nil)) (.node (o105v102 P) (.node (o169v111 P) (.node (o297v300 P) .nil .nil) .nil) (.node (o233v120 P) .nil .nil))) (.node (o57v6 P) (.node (o89v7 P) (.node (o153v208 P) (.node (o281v127 P) .nil .nil) .nil) (.node (o217v118 P) .nil .nil)) (.node (o121v104 P) (.node (o185v113 P) .nil .nil) (.node (o249v123 P) .nil .nil))))) (.node (o13v1 P) (.node (o21v6 P) (.node (o37v6 P) (.node (o69v6 P) (.node (o133v106 P) (.node (o261v124 P) .nil .nil) .nil) (.node (o197v115 P) .nil .nil)) (.node (o101v101 P) (.node (o165v111 P) (.node (o293v228 P) .nil .nil) .nil) (.node (o229v219 P) .nil .nil))) (.node (o53v6 P) (.node (o85v6 P) (.node (o149v108 P) (.node (o277v127 P) .nil .nil) .nil) (.node (o213v117 P) .nil .nil)) (.node (o117v203 P) (.node (o181v212 P) .nil .nil) (.node (o245v122 P) .nil .nil)))) (.node (o29v6 P) (.node (o45v6 P) (.node (o77v6 P) (.node (o141v107 P) (.node (o269v125 P) .nil .nil) .nil) (.node (o205v116 P) .nil .nil)) (.node (o109v103 P) (.node (o173v211 P) .nil .nil) (.node (o237v220 P) .nil .nil))) (.node (o61v6 P) (.node (o93v8 P) (.node (o157v109 P) (.node (o285v227 P) .nil .nil) .nil) (.node (o221v119 P) .nil .nil)) (.node (o125v204 P) (.node (o189v114 P) .nil .nil) (.node (o253v123 P) .nil .nil))))))) (.node (boot_o_2 P) (.node (boot_o_4 P) (.node (boot_o_8 P) (.node (o16v6 P) (.node (o32v6 P) (.node (o64v6 P) (.node (o128v105 P) (.node (o256v124 P) .nil .nil) .nil) (.node (o192v114 P) .nil .nil)) (.node (o96v8 P) (.node (o160v209 P) (.node (o288v128 P) .nil .nil) .nil) (.node (o224v119 P) .nil .nil))) (.node (o48v6 P) (.node (o80v6 P) (.node (o144v108 P) (.node (o272v225 P) .nil .nil) .nil) (.node (o208v216 P) .nil .nil)) (.node (o112v103 P) (.node (o176v112 P) .nil .nil) (.node (o240v121 P) .nil .nil)))) (.node (o24v6 P) (.node (o40v6 P) (.node (o72v6 P) (.node (o136v106 P) (.node (o264v224 P) .nil .nil) .nil) (.node (o200v116 P) .nil .nil)) (.node (o104v201 P) (.node (o168v111 P) (.node (o296v300 P) .nil .nil) .nil) (.node (o232v120 P) .nil .nil))) (.node (o56v6 P) (.node (o88v7 P) (.node (o152v208 P) (.node (o280v127 P) .nil .nil) .nil) (.node (o216v217 P) .nil .nil)) (.node (o120v104 P) (.node (o184v113 P) .nil .nil) (.node (o248v122 P) .nil .nil))))) (.node (o12v8 P) (.node (o20v6 P) (.node (o36v6 P) (.node (o68v6 P) (.node (o132v205 P) (.node (o260v124 P) .nil .nil) .nil) (.node (o196v115 P) .nil .nil)) (.node (o100v101 P) (.node (o164v110 P) (.node (o292v228 P) .nil .nil) .nil) (.node (o228v120 P) .nil .nil))) (.node (o52v6 P) (.node (o84v6 P) (.node (o148v108 P) (.node (o276v126 P) .nil .nil) .nil) (.node (o212v117 P) .nil .nil)) (.node (o116v104 P) (.node (o180v212 P) .nil .nil) (.node (o244v221 P) .nil .nil)))) (.node (o28v6 P) (.node (o44v6 P) (.node (o76v6 P) (.node (o140v107 P) (.node (o268v125 P) .nil .nil) .nil) (.node (o204v116 P) .nil .nil)) (.node (o108v102 P) (.node (o172v112 P) .nil .nil) (.node (o236v220 P) .nil .nil))) (.node (o60v6 P) (.node (o92v8 P) (.node (o156v109 P) (.node (o284v128 P) .nil .nil) .nil) (.node (o220v118 P) .nil .nil)) (.node (o124v204 P) (.node (o188v213 P) .nil .nil) (.node (o252v123 P) .nil .nil)))))) (.node (boot_o_6 P) (.node (boot_o_10 P) (.node (o18v6 P) (.node (o34v6 P) (.node (o66v6 P) (.node (o130v106 P) (.node (o258v223 P) .nil .nil) .nil) (.node (o194v214 P) .nil .nil)) (.node (o98v101 P) (.node (o162v110 P) (.node (o290v128 P) .nil .nil) .nil) (.node (o226v119 P) .nil .nil))) (.node (o50v6 P) (.node (o82v6 P) (.node (o146v207 P) (.node (o274v126 P) .nil .nil) .nil) (.node (o210v117 P) .nil .nil)) (.node (o114v103 P) (.node (o178v112 P) .nil .nil) (.node (o242v122 P) .nil .nil)))) (.node (o26v6 P) (.node (o42v6 P) (.node (o74v6 P) (.node (o138v206 P) (.node (o266v125 P) .nil .nil) .nil) (.node (o202v215 P) .nil .nil)) (.node (o106v102 P) (.node (o170v111 P) .nil .nil) (.node (o234v120 P) .nil .nil))) (.node (o58v6 P) (.node (o90v7 P) (.node (o154v109 P) (.node (o282v127 P) .nil .nil) .nil) (.node (o218v118 P) .nil .nil)) (.node (o122v104 P) (.node (o186v114 P) .nil .nil) (.node (o250v222 P) .nil .nil))))) (.node (o14v1 P) (.node (o22v6 P) (.node (o38v6 P) (.node (o70v6 P) (.node (o134v106 P) (.node (o262v124 P) .nil .nil) .nil) (.node (o198v115 P) .nil .nil)) (.node (o102v102 P) (.node (o166v210 P) (.node (o294v300 P) .nil .nil) .nil) (.node (o230v219 P) .nil .nil))) (.node (o54v6 P) (.node (o86v7 P) (.node (o150v108 P) (.node (o278v226 P) .nil .nil) .nil) (.node (o214v118 P) .nil .nil)) (.node (o118v203 P) (.node (o182v113 P) .nil .nil) (.node (o246v122 P) .nil .nil)))) (.node (o30v6 P) (.node (o46v6 P) (.node (o78v6 P) (.node (o142v107 P) (.node (o270v126 P) .nil .nil) .nil) (.node (o206v116 P) .nil .nil)) (.node (o110v202 P) (.node (o174v211 P) .nil .nil) (.node (o238v121 P) .nil .nil))) (.node (o62v6 P) (.node (o94v8 P) (.node (o158v110 P) (.node (o286v227 P) .nil .nil) .nil) (.node (o222v218 P) .nil .nil)) (.node (o126v105 P) (.node (o190v114 P) .nil .nil) (.node (o254v123 P) .nil .nil))))))))
noncomputable def SE (P : Params) (os : OsState) (cp : Value) (O : Obj) (tk : Nat) : SharedT := ⟨TE P cp O, 298, {}, ⟨[.finished]⟩, {}, tk, os⟩
noncomputable def O150 (P : Params) : Obj := ⟨(.type "frozenset"), none, (.set ⟨[((.ofNat 9728), (.int (.ofNat 9728) 496)), ((.ofNat 9729), (.int (.ofNat 9729) 499)), ((.ofNat 9730), (.int (.ofNat 9730) 502)), ((.ofNat 9731), (.int (.ofNat 9731) 505)), ((.ofNat 9732), (.int (.ofNat 9732) 508)), ((.ofNat 126980), (.int (.ofNat 126980) 667)), ((.ofNat 9992), (.int (.ofNat 9992) 617)), ((.ofNat 9993), (.int (.ofNat 9993) 620)), ((.ofNat 9994), (.int (.ofNat 9994) 623)), ((.ofNat 9995), (.int (.ofNat 9995) 626)), ((.ofNat 9996), (.int (.ofNat 9996) 629)), ((.ofNat 9997), (.int (.ofNat 9997) 632)), ((.ofNat 9748), (.int (.ofNat 9748) 516)), ((.ofNat 9749), (.int (.ofNat 9749) 519)), ((.ofNat 8986), (.int (.ofNat 8986) 447)), ((.ofNat 8987), (.int (.ofNat 8987) 450)), ((.ofNat 9757), (.int (.ofNat 9757) 527)), ((.ofNat 127465), (.int (.ofNat 127465) 340)), ((.ofNat 129348), (.int (.ofNat 129348) 901)), ((.ofNat 9760), (.int (.ofNat 9760) 535)), ((.ofNat 127466), (.int (.ofNat 127466) 342)), ((.ofNat 129349), (.int (.ofNat 129349) 904)), ((.ofNat 127467), (.int (.ofNat 127467) 344)), ((.ofNat 127468), (.int (.ofNat 127468) 346)), ((.ofNat 12336), (.int (.ofNat 12336) 651)), ((.ofNat 127469), (.int (.ofNat 127469) 348)), ((.ofNat 127473), (.int (.ofNat 127473) 356)), ((.ofNat 127470), (.int (.ofNat 127470) 350)), ((.ofNat 127471), (.int (.ofNat 127471) 352)), ((.ofNat 8252), (.int (.ofNat 8252) 416)), ((.ofNat 12349), (.int (.ofNat 12349) 659)), ((.ofNat 129340), (.int (.ofNat 129340) 877)), ((.ofNat 129341), (.int (.ofNat 129341) 880)), ((.ofNat 9792), (.int (.ofNat 9792) 543)), ((.ofNat 129342), (.int (.ofNat 129342) 883)), ((.ofNat 9794), (.int (.ofNat 9794) 551)), ((.ofNat 129343), (.int (.ofNat 129343) 886)), ((.ofNat 129344), (.int (.ofNat 129344) 889)), ((.ofNat 129345), (.int (.ofNat 129345) 892)), ((.ofNat 129346), (.int (.ofNat 129346) 895)), ((.ofNat 129347), (.int (.ofNat 129347) 898)), ((.ofNat 9800), (.int (.ofNat 9800) 559)), ((.ofNat 9801), (.int (.ofNat 9801) 562)), ((.ofNat 9802), (.int (.ofNat 9802) 565)), ((.ofNat 9803), (.int (.ofNat 9803) 568)), ((.ofNat 9804), (.int (.ofNat 9804) 571)), ((.ofNat 9805), (.int (.ofNat 9805) 574)), ((.ofNat 9806), (.int (.ofNat 9806) 577)), ((.ofNat 9807), (.int (.ofNat 9807) 580)), ((.ofNat 9808), (.int (.ofNat 9808) 583)), ((.ofNat 9809), (.int (.ofNat 9809) 586)), ((.ofNat 9810), (.int (.ofNat 9810) 589)), ((.ofNat 9811), (.int (.ofNat 9811) 592)), ((.ofNat 10083), (.int (.ofNat 10083) 640)), ((.ofNat 10084), (.int (.ofNat 10084) 643)), ((.ofNat 127479), (.int (.ofNat 127479) 368)), ((.ofNat 127480), (.int (.ofNat 127480) 370)), ((.ofNat 128405), (.int (.ofNat 128405) 770)), ((.ofNat 127481), (.int (.ofNat 127481) 372)), ((.ofNat 127482), (.int (.ofNat 127482) 374)), ((.ofNat 128371), (.int (.ofNat 128371) 741)), ((.ofNat 128372), (.int (.ofNat 128372) 744)), ((.ofNat 128373), (.int (.ofNat 128373) 747)), ((.ofNat 128374), (.int (.ofNat 128374) 750)), ((.ofNat 128375), (.int (.ofNat 128375) 753)), ((.ofNat 128376), (.int (.ofNat 128376) 756)), ((.ofNat 128377), (.int (.ofNat 128377) 759)), ((.ofNat 128378), (.int (.ofNat 128378) 762)), ((.ofNat 127991), (.int (.ofNat 127991) 724)), ((.ofNat 127992), (.int (.ofNat 127992) 727)), ((.ofNat 127993), (.int (.ofNat 127993) 730)), ((.ofNat 127483), (.int (.ofNat 127483) 376)), ((.ofNat 127484), (.int (.ofNat 127484) 378)), ((.ofNat 127485), (.int (.ofNat 127485) 380)), ((.ofNat 127994), (.int (.ofNat 127994) 733)), ((.ofNat 127486), (.int (.ofNat 127486) 382)), ((.ofNat 127487), (.int (.ofNat 127487) 384)), ((.ofNat 127377), (.int (.ofNat 127377) 675)), ((.ofNat 127378), (.int (.ofNat 127378) 678)), ((.ofNat 127379), (.int (.ofNat 127379) 681)), ((.ofNat 127380), (.int (.ofNat 127380) 684)), ((.ofNat 127381), (.int (.ofNat 127381) 687)), ((.ofNat 8596), (.int (.ofNat 8596) 424)), ((.ofNat 8597), (.int (.ofNat 8597) 427)), ((.ofNat 8598), (.int (.ofNat 8598) 430)), ((.ofNat 127383), (.int (.ofNat 127383) 693)), ((.ofNat 8599), (.int (.ofNat 8599) 433)), ((.ofNat 8600), (.int (.ofNat 8600) 436)), ((.ofNat 8601), (.int (.ofNat 8601) 439)), ((.ofNat 127382), (.int (.ofNat 127382) 690)), ((.ofNat 127384), (.int (.ofNat 127384) 696)), ((.ofNat 127385), (.int (.ofNat 127385) 699)), ((.ofNat 127386), (.int (.ofNat 127386) 702)), ((.ofNat 128406), (.int (.ofNat 128406) 773)), ((.ofNat 128420), (.int (.ofNat 128420) 781)), ((.ofNat 128421), (.int (.ofNat 128421) 784)), ((.ofNat 169), (.int (.ofNat 169) 400)), ((.ofNat 174), (.int (.ofNat 174) 408)), ((.ofNat 127472), (.int (.ofNat 127472) 354)), ((.ofNat 128715), (.int (.ofNat 128715) 792)), ((.ofNat 128716), (.int (.ofNat 128716) 795)), ((.ofNat 128717), (.int (.ofNat 128717) 798)), ((.ofNat 128718), (.int (.ofNat 128718) 801)), ((.ofNat 128719), (.int (.ofNat 128719) 804)), ((.ofNat 128720), (.int (.ofNat 128720) 807)), ((.ofNat 128721), (.int (.ofNat 128721) 810)), ((.ofNat 128722), (.int (.ofNat 128722) 813)), ((.ofNat 128725), (.int (.ofNat 128725) 821)), ((.ofNat 128726), (.int (.ofNat 128726) 824)), ((.ofNat 128727), (.int (.ofNat 128727) 827)), ((.ofNat 128728), (.int (.ofNat 128728) 830)), ((.ofNat 128729), (.int (.ofNat 128729) 833)), ((.ofNat 128730), (.int (.ofNat 128730) 836)), ((.ofNat 128731), (.int (.ofNat 128731) 839)), ((.ofNat 128732), (.int (.ofNat 128732) 842)), ((.ofNat 128733), (.int (.ofNat 128733) 845)), ((.ofNat 128734), (.int (.ofNat 128734) 848)), ((.ofNat 128735), (.int (.ofNat 128735) 851)), ((.ofNat 128736), (.int (.ofNat 128736) 854)), ((.ofNat 128737), (.int (.ofNat 128737) 857)), ((.ofNat 128738), (.int (.ofNat 128738) 860)), ((.ofNat 128739), (.int (.ofNat 128739) 863)), ((.ofNat 128740), (.int (.ofNat 128740) 866)), ((.ofNat 128741), (.int (.ofNat 128741) 869)), ((.ofNat 127462), (.int (.ofNat 127462) 334)), ((.ofNat 127463), (.int (.ofNat 127463) 336)), ((.ofNat 127464), (.int (.ofNat 127464) 338)), ((.ofNat 9193), (.int (.ofNat 9193) 458)), ((.ofNat 9194), (.int (.ofNat 9194) 461)), ((.ofNat 9195), (.int (.ofNat 9195) 464)), ((.ofNat 9196), (.int (.ofNat 9196) 467)), ((.ofNat 9197), (.int (.ofNat 9197) 470)), ((.ofNat 9198), (.int (.ofNat 9198) 473)), ((.ofNat 9199), (.int (.ofNat 9199) 476)), ((.ofNat 9200), (.int (.ofNat 9200) 479)), ((.ofNat 9201), (.int (.ofNat 9201) 482)), ((.ofNat 9202), (.int (.ofNat 9202) 485)), ((.ofNat 9203), (.int (.ofNat 9203) 488)), ((.ofNat 127987), (.int (.ofNat 127987) 710)), ((.ofNat 127988), (.int (.ofNat 127988) 713)), ((.ofNat 127989), (.int (.ofNat 127989) 716)), ((.ofNat 9975), (.int (.ofNat 9975) 600)), ((.ofNat 9976), (.int (.ofNat 9976) 603)), ((.ofNat 9977), (.int (.ofNat 9977) 606)), ((.ofNat 9978), (.int (.ofNat 9978) 609)), ((.ofNat 127474), (.int (.ofNat 127474) 358)), ((.ofNat 127475), (.int (.ofNat 127475) 360)), ((.ofNat 127476), (.int (.ofNat 127476) 362)), ((.ofNat 127477), (.int (.ofNat 127477) 364)), ((.ofNat 127478), (.int (.ofNat 127478) 366))]⟩ 28 ⟨255, ⟨[0, 1, 2, 3, 4, 5, 8, 9, 10, 11, 12, 13, 20, 21, 26, 27, 29, 30, 31, 32, 34, 36, 39, 44, 48, 49, 50, 54, 59, 60, 61, 62, 63, 64, 65, 66, 67, 68, 69, 70, 71, 72, 73, 74, 75, 76, 77, 78, 79, 80, 81, 82, 83, 99, 100, 101, 104, 108, 109, 114, 115, 116, 117, 118, 119, 120, 121, 122, 123, 124, 125, 126, 127, 129, 130, 134, 139, 145, 146, 147, 148, 149, 150, 151, 152, 153, 154, 155, 156, 157, 158, 159, 160, 161, 164, 165, 169, 174, 189, 203, 204, 205, 206, 207, 208, 209, 210, 213, 214, 215, 216, 217, 218, 219, 220, 221, 222, 223, 224, 225, 226, 227, 228, 229, 230, 231, 232, 233, 234, 235, 236, 237, 238, 239, 240, 241, 242, 243, 244, 245, 246, 247, 248, 249, 250, 251, 252, 253, 254, 255]⟩, ⟨[]⟩, 0, !P.followText "set-order", 1, true⟩), ⟨[]⟩⟩
noncomputable def o3v301 (P : Params) : Obj := ⟨(.type "dict"), none, (.dict ⟨[⟨PyData.keyHash P (PySem.Str.ofString "__name__"), (.str (PySem.Str.ofString "__name__") 165), (.str (PySem.Str.ofString "wcwidth._constants") 325)⟩, ⟨PyData.keyHash P (PySem.Str.ofString "__doc__"), (.str (PySem.Str.ofString "__doc__") 166), .none⟩, ⟨PyData.keyHash P (PySem.Str.ofString "__package__"), (.str (PySem.Str.ofString "__package__") 167), .none⟩, ⟨PyData.keyHash P (PySem.Str.ofString "__loader__"), (.str (PySem.Str.ofString "__loader__") 168), (.builtin "__main__.__loader__#opaque")⟩, ⟨PyData.keyHash P (PySem.Str.ofString "__spec__"), (.str (PySem.Str.ofString "__spec__") 169), .none⟩, ⟨PyData.keyHash P (PySem.Str.ofString "__annotations__"), (.str (PySem.Str.ofString "__annotations__") 170), (.ref 6)⟩, ⟨PyData.keyHash P (PySem.Str.ofString "__builtins__"), (.str (PySem.Str.ofString "__builtins__") 171), (.ref 4)⟩, ⟨PyData.keyHash P (PySem.Str.ofString "__file__"), (.str (PySem.Str.ofString "__file__") 173), (.str (PySem.Str.ofString "/claim/cut.py") 172)⟩, ⟨PyData.keyHash P (PySem.Str.ofString "__cached__"), (.str (PySem.Str.ofString "__cached__") 174), .none⟩, ⟨PyData.keyHash P (PySem.Str.ofString "bisearch"), (.str (PySem.Str.ofString "bisearch") 199), (.ref 21)⟩, ⟨PyData.keyHash P (PySem.Str.ofString "GRAPHEME_EXTEND"), (.str (PySem.Str.ofString "GRAPHEME_EXTEND") 264), (.ref 54)⟩, ⟨PyData.keyHash P (PySem.Str.ofString "GRAPHEME_REGIONAL_INDICATOR"), (.str (PySem.Str.ofString "GRAPHEME_REGIONAL_INDICATOR") 267), (.ref 56)⟩, ⟨PyData.keyHash P (PySem.Str.ofString "EXTENDED_PICTOGRAPHIC"), (.str (PySem.Str.ofString "EXTENDED_PICTOGRAPHIC") 324), (.ref 85)⟩, ⟨PyData.keyHash P (PySem.Str.ofString "_REGIONAL_INDICATOR_SET"), (.str (PySem.Str.ofString "_REGIONAL_INDICATOR_SET") 386), (.ref 87)⟩, ⟨PyData.keyHash P (PySem.Str.ofString "_EMOJI_ZWJ_SET"), (.str (PySem.Str.ofString "_EMOJI_ZWJ_SET") 907), (.ref 298)⟩]⟩ 15), ⟨[]⟩⟩
noncomputable def TU (P : Params) (cp : Value) (O U : Obj) : BT := (.node (boot_o_0 P) (.node (boot_o_1 P) (.node (o3v301 P) (.node (boot_o_7 P) (.node (o15v6 P) (.node (o31v6 P) (.node (o63v6 P) (.node (o127v105 P) (.node (o255v123 P) .nil .nil) .nil) (.node (o191v114 P) .nil .nil)) (.node (d95 P (.int (.ofNat 129340) 322) (.int (.ofNat 129349) 323) cp) (.node (o159v209 P) (.node (o287v128 P) .nil .nil) .nil) (.node (o223v218 P) .nil .nil))) (.node (o47v6 P) (.node (o79v6 P) (.node (o143v107 P) (.node (o271v225 P) .nil .nil) .nil) (.node (o207v117 P) .nil .nil)) (.node (o111v202 P) (.node (o175v112 P) .nil .nil) (.node (o239v121 P) .nil .nil)))) (.node (o23v6 P) (.node (o39v6 P) (.node (o71v6 P) (.node (o135v106 P) (.node (o263v125 P) .nil .nil) .nil) (.node (o199v115 P) .nil .nil)) (.node (o103v201 P) (.node (o167v210 P) (.node (o295v300 P) .nil .nil) .nil) (.node (o231v120 P) .nil .nil))) (.node (o55v6 P) (.node (o87v7 P) (.node (o151v109 P) (.node (o279v226 P) .nil .nil) .nil) (.node (o215v217 P) .nil .nil)) (.node (o119v104 P) (.node (o183v113 P) .nil .nil) (.node (o247v122 P) .nil .nil))))) (.node (o11v1 P) (.node (o19v6 P) (.node (o35v6 P) (.node (o67v6 P) (.node (o131v205 P) (.node (o259v124 P) .nil .nil) .nil) (.node (o195v214 P) .nil .nil)) (.node (o99v101 P) (.node (o163v110 P) (.node (o291v300 P) .nil .nil) .nil) (.node (o227v119 P) .nil .nil))) (.node (o51v6 P) (.node (o83v6 P) (.node (o147v108 P) (.node (o275v126 P) .nil .nil) .nil) (.node (o211v117 P) .nil .nil)) (.node (o115v103 P) (.node (o179v113 P) .nil .nil) (.node (o243v221 P) .nil .nil)))) (.node (o27v6 P) (.node (o43v6 P) (.node (o75v6 P) (.node (o139v206 P) (.node (o267v125 P) .nil .nil) .nil) (.node (o203v116 P) .nil .nil)) (.node (o107v102 P) (.node (o171v111 P) .nil .nil) (.node (o235v121 P) .nil .nil))) (.node (o59v6 P) (.node (o91v300 P) (.node (o155v109 P) (.node (o283v127 P) .nil .nil) .nil) (.node (o219v118 P) .nil .nil)) (.node (o123v105 P) (.node (o187v213 P) .nil .nil) (.node (o251v222 P) .nil .nil)))))) (.node (boot_o_5 P) (.node (boot_o_9 P) (.node (o17v6 P) (.node (o33v6 P) (.node (o65v6 P) (.node (o129v105 P) (.node (o257v223 P) .nil .nil) .nil) (.node (o193v115 P) .nil .nil)) (.node O (.node (o161v110 P) (.node (o289v128 P) .nil .nil) .nil) (.node (o225v119 P) .nil .nil))) (.node (o49v6 P) (.node (o81v6 P) (.node (o145v207 P) (.node (o273v126 P) .nil .nil) .nil) (.node (o209v216 P) .nil .nil)) (.node (o113v103 P) (.node (o177v112 P) .nil .nil) (.node (o241v121 P) .nil .nil)))) (.node (o25v6 P) (.node (o41v6 P) (.node (o73v6 P) (.node (o137v107 P) (.node (o265v224 P) .nil .nil) .nil) (.node (o201v215 P) .nil .nil)) (.node (o105v102 P) (.node (o169v111 P) (.node (o297v300 P) .nil .nil) .nil) (.node (o233v120 P) .nil .nil))) (.node (o57v6 P) (.node (o89v7 P) (.node (o153v208 P) (.node (o281v127 P) .nil .nil) .nil) (.node (o217v118 P) .nil .nil)) (.node (o121v104 P) (.node (o185v113 P) .nil .nil) (.node (o249v123 P) .nil .nil))))) (.node (o13v1 P) (.node (o21v6 P) (.node (o37v6 P) (.node (o69v6 P) (.node (o133v106 P) (.node (o261v124 P) .nil .nil) .nil) (.node (o197v115 P) .nil .nil)) (.node (o101v101 P) (.node (o165v111 P) (.node (o293v228 P) .nil .nil) .nil) (.node (o229v219 P) .nil .nil))) (.node (o53v6 P) (.node (o85v6 P) (.node (o149v108 P) (.node (o277v127 P) .nil .nil) .nil) (.node (o213v117 P) .nil .nil)) (.node (o117v203 P) (.node (o181v212 P) .nil .nil) (.node (o245v122 P) .nil .nil)))) (.node (o29v6 P) (.node (o45v6 P) (.node (o77v6 P) (.node (o141v107 P) (.node (o269v125 P) .nil .nil) .nil) (.node (o205v116 P) .nil .nil)) (.node (o109v103 P) (.node (o173v211 P) .nil .nil) (.node (o237v220 P) .nil .nil))) (.node (o61v6 P) (.node (o93v8 P) (.node (o157v109 P) (.node (o285v227 P) .nil .nil) .nil) (.node (o221v119 P) .nil .nil)) (.node (o125v204 P) (.node (o189v114 P) .nil .nil) (.node (o253v123 P) .nil .nil))))))) (.node (boot_o_2 P) (.node (boot_o_4 P) (.node (boot_o_8 P) (.node (o16v6 P) (.node (o32v6 P) (.node (o64v6 P) (.node (o128v105 P) (.node (o256v124 P) .nil .nil) .nil) (.node (o192v114 P) .nil .nil)) (.node (o96v8 P) (.node (o160v209 P) (.node (o288v128 P) .nil .nil) .nil) (.node (o224v119 P) .nil .nil))) (.node (o48v6 P) (.node (o80v6 P) (.node (o144v108 P) (.node (o272v225 P) .nil .nil) .nil) (.node (o208v216 P) .nil .nil)) (.node (o112v103 P) (.node (o176v112 P) .nil .nil) (.node (o240v121 P) .nil .nil)))) (.node (o24v6 P) (.node (o40v6 P) (.node (o72v6 P) (.node (o136v106 P) (.node (o264v224 P) .nil .nil) .nil) (.node (o200v116 P) .nil .nil)) (.node (o104v201 P) (.node (o168v111 P) (.node (o296v300 P) .nil .nil) .nil) (.node (o232v120 P) .nil .nil))) (.node (o56v6 P) (.node (o88v7 P) (.node (o152v208 P) (.node (o280v127 P) .nil .nil) .nil) (.node (o216v217 P) .nil .nil)) (.node (o120v104 P) (.node (o184v113 P) .nil .nil) (.node (o248v122 P) .nil .nil))))) (.node (o12v8 P) (.node (o20v6 P) (.node (o36v6 P) (.node (o68v6 P) (.node (o132v205 P) (.node (o260v124 P) .nil .nil) .nil) (.node (o196v115 P) .nil .nil)) (.node (o100v101 P) (.node (o164v110 P) (.node (o292v228 P) .nil .nil) .nil) (.node (o228v120 P) .nil .nil))) (.node (o52v6 P) (.node (o84v6 P) (.node (o148v108 P) (.node (o276v126 P) .nil .nil) .nil) (.node (o212v117 P) .nil .nil)) (.node (o116v104 P) (.node (o180v212 P) .nil .nil) (.node (o244v221 P) .nil .nil)))) (.node (o28v6 P) (.node (o44v6 P) (.node (o76v6 P) (.node (o140v107 P) (.node (o268v125 P) .nil .nil) .nil) (.node (o204v116 P) .nil .nil)) (.node (o108v102 P) (.node (o172v112 P) .nil .nil) (.node (o236v220 P) .nil .nil))) (.node (o60v6 P) (.node (o92v8 P) (.node (o156v109 P) (.node (o284v128 P) .nil .nil) .nil) (.node (o220v118 P) .nil .nil)) (.node (o124v204 P) (.node (o188v213 P) .nil .nil) (.node (o252v123 P) .nil .nil)))))) (.node (boot_o_6 P) (.node (boot_o_10 P) (.node (o18v6 P) (.node (o34v6 P) (.node (o66v6 P) (.node (o130v106 P) (.node (o258v223 P) .nil .nil) .nil) (.node (o194v214 P) .nil .nil)) (.node (o98v101 P) (.node (o162v110 P) (.node (o290v128 P) .nil .nil) .nil) (.node (o226v119 P) .nil .nil))) (.node (o50v6 P) (.node (o82v6 P) (.node (o146v207 P) (.node (o274v126 P) .nil .nil) .nil) (.node (o210v117 P) .nil .nil)) (.node (o114v103 P) (.node (o178v112 P) .nil .nil) (.node (o242v122 P) .nil .nil)))) (.node (o26v6 P) (.node (o42v6 P) (.node (o74v6 P) (.node (o138v206 P) (.node (o266v125 P) .nil .nil) .nil) (.node (o202v215 P) .nil .nil)) (.node (o106v102 P) (.node (o170v111 P) (.node U .nil .nil) .nil) (.node (o234v120 P) .nil .nil))) (.node (o58v6 P) (.node (o90v7 P) (.node (o154v109 P) (.node (o282v127 P) .nil .nil) .nil) (.node (o218v118 P) .nil .nil)) (.node (o122v104 P) (.node (o186v114 P) .nil .nil) (.node (o250v222 P) .nil .nil))))) (.node (o14v1 P) (.node (o22v6 P) (.node (o38v6 P) (.node (o70v6 P) (.node (o134v106 P) (.node (o262v124 P) .nil .nil) .nil) (.node (o198v115 P) .nil .nil)) (.node (o102v102 P) (.node (o166v210 P) (.node (o294v300 P) .nil .nil) .nil) (.node (o230v219 P) .nil .nil))) (.node (o54v6 P) (.node (o86v7 P) (.node (o150v108 P) (.node (o278v226 P) .nil .nil) .nil) (.node (o214v118 P) .nil .nil)) (.node (o118v203 P) (.node (o182v113 P) .nil .nil) (.node (o246v122 P) .nil .nil)))) (.node (o30v6 P) (.node (o46v6 P) (.node (o78v6 P) (.node (o142v107 P) (.node (o270v126 P) .nil .nil) .nil) (.node (o206v116 P) .nil .nil)) (.node (o110v202 P) (.node (o174v211 P) .nil .nil) (.node (o238v121 P) .nil .nil))) (.node (o62v6 P) (.node (o94v8 P) (.node (o158v110 P) (.node (o286v227 P) .nil .nil) .nil) (.node (o222v218 P) .nil .nil)) (.node (o126v105 P) (.node (o190v114 P) .nil .nil) (.node (o254v123 P) .nil .nil))))))))
noncomputable def SU (P : Params) (os : OsState) (cp : Value) (O U : Obj) (tk : Nat) : SharedT := ⟨TU P cp O U, 299, {}, ⟨[.finished]⟩, {}, tk, os⟩
noncomputable def o3v400 (P : Params) : Obj := ⟨(.type "dict"), none, (.dict ⟨[⟨PyData.keyHash P (PySem.Str.ofString "__name__"), (.str (PySem.Str.ofString "__name__") 165), (.str (PySem.Str.ofString "law_ax6029_01") 920)⟩, ⟨PyData.keyHash P (PySem.Str.ofString "__doc__"), (.str (PySem.Str.ofString "__doc__") 166), .none⟩, ⟨PyData.keyHash P (PySem.Str.ofString "__package__"), (.str (PySem.Str.ofString "__package__") 167), .none⟩, ⟨PyData.keyHash P (PySem.Str.ofString "__loader__"), (.str (PySem.Str.ofString "__loader__") 168), (.builtin "__main__.__loader__#opaque")⟩, ⟨PyData.keyHash P (PySem.Str.ofString "__spec__"), (.str (PySem.Str.ofString "__spec__") 169), .none⟩, ⟨PyData.keyHash P (PySem.Str.ofString "__annotations__"), (.str (PySem.Str.ofString "__annotations__") 170), (.ref 6)⟩, ⟨PyData.keyHash P (PySem.Str.ofString "__builtins__"), (.str (PySem.Str.ofString "__builtins__") 171), (.ref 4)⟩, ⟨PyData.keyHash P (PySem.Str.ofString "__file__"), (.str (PySem.Str.ofString "__file__") 173), (.str (PySem.Str.ofString "/claim/cut.py") 172)⟩, ⟨PyData.keyHash P (PySem.Str.ofString "__cached__"), (.str (PySem.Str.ofString "__cached__") 174), .none⟩, ⟨PyData.keyHash P (PySem.Str.ofString "bisearch"), (.str (PySem.Str.ofString "bisearch") 199), (.ref 21)⟩, ⟨PyData.keyHash P (PySem.Str.ofString "GRAPHEME_EXTEND"), (.str (PySem.Str.ofString "GRAPHEME_EXTEND") 264), (.ref 54)⟩, ⟨PyData.keyHash P (PySem.Str.ofString "GRAPHEME_REGIONAL_INDICATOR"), (.str (PySem.Str.ofString "GRAPHEME_REGIONAL_INDICATOR") 267), (.ref 56)⟩, ⟨PyData.keyHash P (PySem.Str.ofString "EXTENDED_PICTOGRAPHIC"), (.str (PySem.Str.ofString "EXTENDED_PICTOGRAPHIC") 324), (.ref 85)⟩, ⟨PyData.keyHash P (PySem.Str.ofString "_REGIONAL_INDICATOR_SET"), (.str (PySem.Str.ofString "_REGIONAL_INDICATOR_SET") 386), (.ref 87)⟩, ⟨PyData.keyHash P (PySem.Str.ofString "_EMOJI_ZWJ_SET"), (.str (PySem.Str.ofString "_EMOJI_ZWJ_SET") 907), (.ref 298)⟩, ⟨PyData.keyHash P (PySem.Str.ofString "_scan_zwj_cluster_end"), (.str (PySem.Str.ofString "_scan_zwj_cluster_end") 919), (.ref 305)⟩, ⟨PyData.keyHash P (PySem.Str.ofString "_law_EXTEND"), (.str (PySem.Str.ofString "_law_EXTEND") 931), (.ref 306)⟩, ⟨PyData.keyHash P (PySem.Str.ofString "_law_PICTURE"), (.str (PySem.Str.ofString "_law_PICTURE") 940), (.ref 307)⟩, ⟨PyData.keyHash P (PySem.Str.ofString "_law_OTHER"), (.str (PySem.Str.ofString "_law_OTHER") 949), (.ref 308)⟩, ⟨PyData.keyHash P (PySem.Str.ofString "_law_draw"), (.str (PySem.Str.ofString "_law_draw") 955), (.ref 313)⟩, ⟨PyData.keyHash P (PySem.Str.ofString "_law_take"), (.str (PySem.Str.ofString "_law_take") 964), (.ref 320)⟩, ⟨PyData.keyHash P (PySem.Str.ofString "_law_sign"), (.str (PySem.Str.ofString "_law_sign") 972), (.ref 327)⟩, ⟨PyData.keyHash P (PySem.Str.ofString "_law_fits"), (.str (PySem.Str.ofString "_law_fits") 981), (.ref 334)⟩, ⟨PyData.keyHash P (PySem.Str.ofString "_law_reach"), (.str (PySem.Str.ofString "_law_reach") 991), (.ref 341)⟩, ⟨PyData.keyHash P (PySem.Str.ofString "law"), (.str (PySem.Str.ofString "law") 1008), (.ref 348)⟩]⟩ 25), ⟨[]⟩⟩
noncomputable def o12v400 (P : Params) : Obj := ⟨.none, none, (.fields ⟨[(.int (.ofNat 2) 0), (.int (.ofNat 0) 0), (.ref 20), (.int (.ofNat 21) 0), (.int (.ofNat 27) 0), (.ref 94), (.int (.ofNat 23) 0), (.int (.ofNat 0) 0), (.ref 304), (.int (.ofNat 42) 0), (.int (.ofNat 0) 0), (.ref 312), (.int (.ofNat 47) 0), (.int (.ofNat 0) 0), (.ref 319), (.int (.ofNat 54) 0), (.int (.ofNat 0) 0), (.ref 326), (.int (.ofNat 62) 0), (.int (.ofNat 0) 0), (.ref 333), (.int (.ofNat 71) 0), (.int (.ofNat 0) 0), (.ref 340), (.int (.ofNat 76) 0), (.int (.ofNat 0) 0), (.ref 347)]⟩), ⟨[]⟩⟩
noncomputable def o299v400 (P : Params) : Obj := ⟨(.type "tuple"), none, (.seq ⟨[]⟩ 0), ⟨[]⟩⟩
noncomputable def o300v400 (P : Params) : Obj := ⟨.none, none, (.fields ⟨[]⟩), ⟨[]⟩⟩
noncomputable def o301v400 (P : Params) : Obj := ⟨(.type "tuple"), none, (.seq ⟨[(.str (PySem.Str.ofString "text") 913), (.str (PySem.Str.ofString "start") 914), (.str (PySem.Str.ofString "end") 915), (.str (PySem.Str.ofString "idx") 916)]⟩ 0), ⟨[]⟩⟩
noncomputable def o302v400 (P : Params) : Obj := ⟨(.type "tuple"), none, (.seq ⟨[]⟩ 0), ⟨[]⟩⟩
noncomputable def o303v400 (P : Params) : Obj := ⟨.none, none, (.func (fnData 9 (PySem.Str.ofString "_scan_zwj_cluster_end") 0 [] .none .none .none .none none .none .none 0)), ⟨[]⟩⟩
noncomputable def o304v400 (P : Params) : Obj := ⟨(.type "code"), none, (.fields ⟨[(.str (PySem.Str.ofString "_scan_zwj_cluster_end") 910), (.str (PySem.Str.ofString "_scan_zwj_cluster_end") 911), (.str (PySem.Str.ofString "/claim/cut.py") 912), (.int (.ofNat 23) 0), (.int (.ofNat 3) 0), (.int (.ofNat 0) 0), (.int (.ofNat 0) 0), (.int (.ofNat 3) 0), (.ref 299), (.bool true), (.int (.ofNat 181) 0), (.ref 300), .none, (.ref 301), (.ref 302), (.ref 303), (.int (.ofNat 917) 0), (.int (.ofNat 23) 0), (.str (PySem.Str.ofString "/claim/cut.py") 918)]⟩), ⟨[]⟩⟩
noncomputable def o305v400 (P : Params) : Obj := ⟨(.type "function"), none, (.func (fnData 9 (PySem.Str.ofString "_scan_zwj_cluster_end") 3 [] .none .none .none (.str (PySem.Str.ofString "wcwidth._wcswidth") 908) none (.ref 304) .none 0)), ⟨[]⟩⟩
noncomputable def o306v400 (P : Params) : Obj := ⟨(.type "tuple"), none, (.seq ⟨[(.str (PySem.Str.mk ⟨[768]⟩) 922), (.str (PySem.Str.mk ⟨[879]⟩) 923), (.str (PySem.Str.mk ⟨[65024]⟩) 924), (.str (PySem.Str.mk ⟨[65039]⟩) 925), (.str (PySem.Str.mk ⟨[127995]⟩) 926), (.str (PySem.Str.mk ⟨[127999]⟩) 927), (.str (PySem.Str.mk ⟨[8204]⟩) 928), (.str (PySem.Str.mk ⟨[917536]⟩) 929), (.str (PySem.Str.mk ⟨[917999]⟩) 930)]⟩ 0), ⟨[]⟩⟩
noncomputable def o307v400 (P : Params) : Obj := ⟨(.type "tuple"), none, (.seq ⟨[(.str (PySem.Str.mk ⟨[169]⟩) 932), (.str (PySem.Str.mk ⟨[10084]⟩) 933), (.str (PySem.Str.mk ⟨[127987]⟩) 934), (.str (PySem.Str.mk ⟨[129340]⟩) 935), (.str (PySem.Str.mk ⟨[128722]⟩) 936), (.str (PySem.Str.mk ⟨[127462]⟩) 937), (.str (PySem.Str.mk ⟨[127487]⟩) 938), (.str (PySem.Str.mk ⟨[127994]⟩) 939)]⟩ 0), ⟨[]⟩⟩
noncomputable def o308v400 (P : Params) : Obj := ⟨(.type "tuple"), none, (.seq ⟨[(.str (PySem.Str.ofString "a") 941), (.str (PySem.Str.mk ⟨[20013]⟩) 942), (.str (PySem.Str.mk ⟨[880]⟩) 943), (.str (PySem.Str.mk ⟨[65040]⟩) 944), (.str (PySem.Str.mk ⟨[8203]⟩) 945), (.str (PySem.Str.mk ⟨[8206]⟩) 946), (.str (PySem.Str.mk ⟨[127461]⟩) 947), (.str (PySem.Str.mk ⟨[2325]⟩) 948)]⟩ 0), ⟨[]⟩⟩
noncomputable def o309v400 (P : Params) : Obj := ⟨(.type "tuple"), none, (.seq ⟨[]⟩ 0), ⟨[]⟩⟩
noncomputable def o310v400 (P : Params) : Obj := ⟨.none, none, (.fields ⟨[]⟩), ⟨[]⟩⟩
noncomputable def o311v400 (P : Params) : Obj := ⟨.none, none, (.func (fnData 14 (PySem.Str.ofString "_law_draw") 0 [] .none .none .none .none none .none .none 0)), ⟨[]⟩⟩
noncomputable def o312v400 (P : Params) : Obj := ⟨(.type "code"), none, (.fields ⟨[(.str (PySem.Str.ofString "_law_draw") 950), (.str (PySem.Str.ofString "_law_draw") 951), (.str (PySem.Str.ofString "/claim/cut.py") 952), (.int (.ofNat 42) 0), (.int (.ofNat 1) 0), (.int (.ofNat 0) 0), (.int (.ofNat 0) 0), (.int (.ofNat 3) 0), (.ref 309), (.bool true), (.int (.ofNat 181) 0), (.ref 310), .none, .none, .none, (.ref 311), (.int (.ofNat 953) 0), (.int (.ofNat 42) 0), (.str (PySem.Str.ofString "/claim/cut.py") 954)]⟩), ⟨[]⟩⟩
noncomputable def o313v400 (P : Params) : Obj := ⟨(.type "function"), none, (.func (fnData 14 (PySem.Str.ofString "_law_draw") 3 [] .none .none .none (.str (PySem.Str.ofString "law_ax6029_01") 920) none (.ref 312) .none 0)), ⟨[]⟩⟩
noncomputable def o314v400 (P : Params) : Obj := ⟨(.type "tuple"), none, (.seq ⟨[]⟩ 0), ⟨[]⟩⟩
noncomputable def o315v400 (P : Params) : Obj := ⟨.none, none, (.fields ⟨[]⟩), ⟨[]⟩⟩
noncomputable def o316v400 (P : Params) : Obj := ⟨(.type "tuple"), none, (.seq ⟨[(.str (PySem.Str.ofString "draw") 959), (.str (PySem.Str.ofString "many") 960), (.str (PySem.Str.ofString "found") 961)]⟩ 0), ⟨[]⟩⟩
noncomputable def o317v400 (P : Params) : Obj := ⟨(.type "tuple"), none, (.seq ⟨[]⟩ 0), ⟨[]⟩⟩
noncomputable def o318v400 (P : Params) : Obj := ⟨.none, none, (.func (fnData 15 (PySem.Str.ofString "_law_take") 0 [] .none .none .none .none none .none .none 0)), ⟨[]⟩⟩
noncomputable def o319v400 (P : Params) : Obj := ⟨(.type "code"), none, (.fields ⟨[(.str (PySem.Str.ofString "_law_take") 956), (.str (PySem.Str.ofString "_law_take") 957), (.str (PySem.Str.ofString "/claim/cut.py") 958), (.int (.ofNat 47) 0), (.int (.ofNat 2) 0), (.int (.ofNat 0) 0), (.int (.ofNat 0) 0), (.int (.ofNat 3) 0), (.ref 314), (.bool true), (.int (.ofNat 181) 0), (.ref 315), .none, (.ref 316), (.ref 317), (.ref 318), (.int (.ofNat 962) 0), (.int (.ofNat 47) 0), (.str (PySem.Str.ofString "/claim/cut.py") 963)]⟩), ⟨[]⟩⟩
noncomputable def o320v400 (P : Params) : Obj := ⟨(.type "function"), none, (.func (fnData 15 (PySem.Str.ofString "_law_take") 3 [] .none .none .none (.str (PySem.Str.ofString "law_ax6029_01") 920) none (.ref 319) .none 0)), ⟨[]⟩⟩
noncomputable def o321v400 (P : Params) : Obj := ⟨(.type "tuple"), none, (.seq ⟨[]⟩ 0), ⟨[]⟩⟩
noncomputable def o322v400 (P : Params) : Obj := ⟨.none, none, (.fields ⟨[]⟩), ⟨[]⟩⟩
noncomputable def o323v400 (P : Params) : Obj := ⟨(.type "tuple"), none, (.seq ⟨[(.str (PySem.Str.ofString "draw") 968), (.str (PySem.Str.ofString "kind") 969)]⟩ 0), ⟨[]⟩⟩
noncomputable def o324v400 (P : Params) : Obj := ⟨(.type "tuple"), none, (.seq ⟨[]⟩ 0), ⟨[]⟩⟩
noncomputable def o325v400 (P : Params) : Obj := ⟨.none, none, (.func (fnData 16 (PySem.Str.ofString "_law_sign") 0 [] .none .none .none .none none .none .none 0)), ⟨[]⟩⟩
noncomputable def o326v400 (P : Params) : Obj := ⟨(.type "code"), none, (.fields ⟨[(.str (PySem.Str.ofString "_law_sign") 965), (.str (PySem.Str.ofString "_law_sign") 966), (.str (PySem.Str.ofString "/claim/cut.py") 967), (.int (.ofNat 54) 0), (.int (.ofNat 2) 0), (.int (.ofNat 0) 0), (.int (.ofNat 0) 0), (.int (.ofNat 3) 0), (.ref 321), (.bool true), (.int (.ofNat 181) 0), (.ref 322), .none, (.ref 323), (.ref 324), (.ref 325), (.int (.ofNat 970) 0), (.int (.ofNat 54) 0), (.str (PySem.Str.ofString "/claim/cut.py") 971)]⟩), ⟨[]⟩⟩
noncomputable def o327v400 (P : Params) : Obj := ⟨(.type "function"), none, (.func (fnData 16 (PySem.Str.ofString "_law_sign") 3 [] .none .none .none (.str (PySem.Str.ofString "law_ax6029_01") 920) none (.ref 326) .none 0)), ⟨[]⟩⟩
noncomputable def o328v400 (P : Params) : Obj := ⟨(.type "tuple"), none, (.seq ⟨[]⟩ 0), ⟨[]⟩⟩
noncomputable def o329v400 (P : Params) : Obj := ⟨.none, none, (.fields ⟨[]⟩), ⟨[]⟩⟩
noncomputable def o330v400 (P : Params) : Obj := ⟨(.type "tuple"), none, (.seq ⟨[(.str (PySem.Str.ofString "word") 976), (.str (PySem.Str.ofString "joined") 977), (.str (PySem.Str.ofString "kind") 978)]⟩ 0), ⟨[]⟩⟩
noncomputable def o331v400 (P : Params) : Obj := ⟨(.type "tuple"), none, (.seq ⟨[]⟩ 0), ⟨[]⟩⟩
noncomputable def o332v400 (P : Params) : Obj := ⟨.none, none, (.func (fnData 17 (PySem.Str.ofString "_law_fits") 0 [] .none .none .none .none none .none .none 0)), ⟨[]⟩⟩
noncomputable def o333v400 (P : Params) : Obj := ⟨(.type "code"), none, (.fields ⟨[(.str (PySem.Str.ofString "_law_fits") 973), (.str (PySem.Str.ofString "_law_fits") 974), (.str (PySem.Str.ofString "/claim/cut.py") 975), (.int (.ofNat 62) 0), (.int (.ofNat 1) 0), (.int (.ofNat 0) 0), (.int (.ofNat 0) 0), (.int (.ofNat 3) 0), (.ref 328), (.bool true), (.int (.ofNat 181) 0), (.ref 329), .none, (.ref 330), (.ref 331), (.ref 332), (.int (.ofNat 979) 0), (.int (.ofNat 62) 0), (.str (PySem.Str.ofString "/claim/cut.py") 980)]⟩), ⟨[]⟩⟩
noncomputable def o334v400 (P : Params) : Obj := ⟨(.type "function"), none, (.func (fnData 17 (PySem.Str.ofString "_law_fits") 3 [] .none .none .none (.str (PySem.Str.ofString "law_ax6029_01") 920) none (.ref 333) .none 0)), ⟨[]⟩⟩
noncomputable def o335v400 (P : Params) : Obj := ⟨(.type "tuple"), none, (.seq ⟨[]⟩ 0), ⟨[]⟩⟩
noncomputable def o336v400 (P : Params) : Obj := ⟨.none, none, (.fields ⟨[]⟩), ⟨[]⟩⟩
noncomputable def o337v400 (P : Params) : Obj := ⟨(.type "tuple"), none, (.seq ⟨[(.str (PySem.Str.ofString "kinds") 985), (.str (PySem.Str.ofString "first") 986), (.str (PySem.Str.ofString "bound") 987), (.str (PySem.Str.ofString "last") 988)]⟩ 0), ⟨[]⟩⟩
noncomputable def o338v400 (P : Params) : Obj := ⟨(.type "tuple"), none, (.seq ⟨[]⟩ 0), ⟨[]⟩⟩
noncomputable def o339v400 (P : Params) : Obj := ⟨.none, none, (.func (fnData 18 (PySem.Str.ofString "_law_reach") 0 [] .none .none .none .none none .none .none 0)), ⟨[]⟩⟩
noncomputable def o340v400 (P : Params) : Obj := ⟨(.type "code"), none, (.fields ⟨[(.str (PySem.Str.ofString "_law_reach") 982), (.str (PySem.Str.ofString "_law_reach") 983), (.str (PySem.Str.ofString "/claim/cut.py") 984), (.int (.ofNat 71) 0), (.int (.ofNat 3) 0), (.int (.ofNat 0) 0), (.int (.ofNat 0) 0), (.int (.ofNat 3) 0), (.ref 335), (.bool true), (.int (.ofNat 181) 0), (.ref 336), .none, (.ref 337), (.ref 338), (.ref 339), (.int (.ofNat 989) 0), (.int (.ofNat 71) 0), (.str (PySem.Str.ofString "/claim/cut.py") 990)]⟩), ⟨[]⟩⟩
noncomputable def o341v400 (P : Params) : Obj := ⟨(.type "function"), none, (.func (fnData 18 (PySem.Str.ofString "_law_reach") 3 [] .none .none .none (.str (PySem.Str.ofString "law_ax6029_01") 920) none (.ref 340) .none 0)), ⟨[]⟩⟩
noncomputable def o342v400 (P : Params) : Obj := ⟨(.type "tuple"), none, (.seq ⟨[]⟩ 0), ⟨[]⟩⟩
noncomputable def o343v400 (P : Params) : Obj := ⟨.none, none, (.fields ⟨[]⟩), ⟨[]⟩⟩
noncomputable def o344v400 (P : Params) : Obj := ⟨(.type "tuple"), none, (.seq ⟨[(.str (PySem.Str.ofString "script") 995), (.str (PySem.Str.ofString "draw") 996), (.str (PySem.Str.ofString "many") 997), (.str (PySem.Str.ofString "kinds") 998), (.str (PySem.Str.ofString "signs") 999), (.str (PySem.Str.ofString "k") 1000), (.str (PySem.Str.ofString "written") 1001), (.str (PySem.Str.ofString "first") 1002), (.str (PySem.Str.ofString "bound") 1003), (.str (PySem.Str.ofString "long") 1004), (.str (PySem.Str.ofString "chain") 1005)]⟩ 0), ⟨[]⟩⟩
noncomputable def o345v400 (P : Params) : Obj := ⟨(.type "tuple"), none, (.seq ⟨[]⟩ 0), ⟨[]⟩⟩
noncomputable def o346v400 (P : Params) : Obj := ⟨.none, none, (.func (fnData 19 (PySem.Str.ofString "law") 0 [] .none .none .none .none none .none .none 0)), ⟨[]⟩⟩
noncomputable def o347v400 (P : Params) : Obj := ⟨(.type "code"), none, (.fields ⟨[(.str (PySem.Str.ofString "law") 992), (.str (PySem.Str.ofString "law") 993), (.str (PySem.Str.ofString "/claim/cut.py") 994), (.int (.ofNat 76) 0), (.int (.ofNat 1) 0), (.int (.ofNat 0) 0), (.int (.ofNat 0) 0), (.int (.ofNat 3) 0), (.ref 342), (.bool true), (.int (.ofNat 181) 0), (.ref 343), .none, (.ref 344), (.ref 345), (.ref 346), (.int (.ofNat 1006) 0), (.int (.ofNat 76) 0), (.str (PySem.Str.ofString "/claim/cut.py") 1007)]⟩), ⟨[]⟩⟩
noncomputable def o348v400 (P : Params) : Obj := ⟨(.type "function"), none, (.func (fnData 19 (PySem.Str.ofString "law") 3 [] .none .none .none (.str (PySem.Str.ofString "law_ax6029_01") 920) none (.ref 347) .none 0)), ⟨[]⟩⟩
noncomputable def TF (P : Params) (cp : Value) (O U : Obj) : BT := (.node (boot_o_0 P) (.node (boot_o_1 P) (.node (o3v400 P) (.node (boot_o_7 P) (.node (o15v6 P) (.node (o31v6 P) (.node (o63v6 P) (.node (o127v105 P) (.node (o255v123 P) .nil .nil) .nil) (.node (o191v114 P) (.node (o319v400 P) .nil .nil) .nil)) (.node (d95 P (.int (.ofNat 129340) 322) (.int (.ofNat 129349) 323) cp) (.node (o159v209 P) (.node (o287v128 P) .nil .nil) .nil) (.node (o223v218 P) .nil .nil))) (.node (o47v6 P) (.node (o79v6 P) (.node (o143v107 P) (.node (o271v225 P) .nil .nil) .nil) (.node (o207v117 P) (.node (o335v400 P) .nil .nil) .nil)) (.node (o111v202 P) (.node (o175v112 P) (.node (o303v400 P) .nil .nil) .nil) (.node (o239v121 P) .nil .nil)))) (.node (o23v6 P) (.node (o39v6 P) (.node (o71v6 P) (.node (o135v106 P) (.node (o263v125 P) .nil .nil) .nil) (.node (o199v115 P) (.node (o327v400 P) .nil .nil) .nil)) (.node (o103v201 P) (.node (o167v210 P) (.node (o295v300 P) .nil .nil) .nil) (.node (o231v120 P) .nil .nil))) (.node (o55v6 P) (.node (o87v7 P) (.node (o151v109 P) (.node (o279v226 P) .nil .nil) .nil) (.node (o215v217 P) (.node (o343v400 P) .nil .nil) .nil)) (.node (o119v104 P) (.node (o183v113 P) (.node (o311v400 P) .nil .nil) .nil) (.node (o247v122 P) .nil .nil))))) (.node (o11v1 P) (.node (o19v6 P) (.node (o35v6 P) (.node (o67v6 P) (.node (o131v205 P) (.node (o259v124 P) .nil .nil) .nil) (.node (o195v214 P) (.node (o323v400 P) .nil .nil) .nil)) (.node (o99v101 P) (.node (o163v110 P) (.node (o291v300 P) .nil .nil) .nil) (.node (o227v119 P) .nil .nil))) (.node (o51v6 P) (.node (o83v6 P) (.node (o147v108 P) (.node (o275v126 P) .nil .nil) .nil) (.node (o211v117 P) (.node (o339v400 P) .nil .nil) .nil)) (.node (o115v103 P) (.node (o179v113 P) (.node (o307v400 P) .nil .nil) .nil) (.node (o243v221 P) .nil .nil)))) (.node (o27v6 P) (.node (o43v6 P) (.node (o75v6 P) (.node (o139v206 P) (.node (o267v125 P) .nil .nil) .nil) (.node (o203v116 P) (.node (o331v400 P) .nil .nil) .nil)) (.node (o107v102 P) (.node (o171v111 P) (.node (o299v400 P) .nil .nil) .nil) (.node (o235v121 P) .nil .nil))) (.node (o59v6 P) (.node (o91v300 P) (.node (o155v109 P) (.node (o283v127 P) .nil .nil) .nil) (.node (o219v118 P) (.node (o347v400 P) .nil .nil) .nil)) (.node (o123v105 P) (.node (o187v213 P) (.node (o315v400 P) .nil .nil) .nil) (.node (o251v222 P) .nil .nil)))))) (.node (boot_o_5 P) (.node (boot_o_9 P) (.node (o17v6 P) (.node (o33v6 P) (.node (o65v6 P) (.node (o129v105 P) (.node (o257v223 P) .nil .nil) .nil) (.node (o193v115 P) (.node (o321v400 P) .nil .nil) .nil)) (.node O (.node (o161v110 P) (.node (o289v128 P) .nil .nil) .nil) (.node (o225v119 P) .nil .nil))) (.node (o49v6 P) (.node (o81v6 P) (.node (o145v207 P) (.node (o273v126 P) .nil .nil) .nil) (.node (o209v216 P) (.node (o337v400 P) .nil .nil) .nil)) (.node (o113v103 P) (.node (o177v112 P) (.node (o305v400 P) .nil .nil) .nil) (.node (o241v121 P) .nil .nil)))) (.node (o25v6 P) (.node (o41v6 P) (.node (o73v6 P) (.node (o137v107 P) (.node (o265v224 P) .nil .nil) .nil) (.node (o201v215 P) (.node (o329v400 P) .nil .nil) .nil)) (.node (o105v102 P) (.node (o169v111 P) (.node (o297v300 P) .nil .nil) .nil) (.node (o233v120 P) .nil .nil))) (.node (o57v6 P) (.node (o89v7 P) (.node (o153v208 P) (.node (o281v127 P) .nil .nil) .nil) (.node (o217v118 P) (.node (o345v400 P) .nil .nil) .nil)) (.node (o121v104 P) (.node (o185v113 P) (.node (o313v400 P) .nil .nil) .nil) (.node (o249v123 P) .nil .nil))))) (.node (o13v1 P) (.node (o21v6 P) (.node (o37v6 P) (.node (o69v6 P) (.node (o133v106 P) (.node (o261v124 P) .nil .nil) .nil) (.node (o197v115 P) (.node (o325v400 P) .nil .nil) .nil)) (.node (o101v101 P) (.node (o165v111 P) (.node (o293v228 P) .nil .nil) .nil) (.node (o229v219 P) .nil .nil))) (.node (o53v6 P) (.node (o85v6 P) (.node (o149v108 P) (.node (o277v127 P) .nil .nil) .nil) (.node (o213v117 P) (.node (o341v400 P) .nil .nil) .nil)) (.node (o117v203 P) (.node (o181v212 P) (.node (o309v400 P) .nil .nil) .nil) (.node (o245v122 P) .nil .nil)))) (.node (o29v6 P) (.node (o45v6 P) (.node (o77v6 P) (.node (o141v107 P) (.node (o269v125 P) .nil .nil) .nil) (.node (o205v116 P) (.node (o333v400 P) .nil .nil) .nil)) (.node (o109v103 P) (.node (o173v211 P) (.node (o301v400 P) .nil .nil) .nil) (.node (o237v220 P) .nil .nil))) (.node (o61v6 P) (.node (o93v8 P) (.node (o157v109 P) (.node (o285v227 P) .nil .nil) .nil) (.node (o221v119 P) .nil .nil)) (.node (o125v204 P) (.node (o189v114 P) (.node (o317v400 P) .nil .nil) .nil) (.node (o253v123 P) .nil .nil))))))) (.node (boot_o_2 P) (.node (boot_o_4 P) (.node (boot_o_8 P) (.node (o16v6 P) (.node (o32v6 P) (.node (o64v6 P) (.node (o128v105 P) (.node (o256v124 P) .nil .nil) .nil) (.node (o192v114 P) (.node (o320v400 P) .nil .nil) .nil)) (.node (o96v8 P) (.node (o160v209 P) (.node (o288v128 P) .nil .nil) .nil) (.node (o224v119 P) .nil .nil))) (.node (o48v6 P) (.node (o80v6 P) (.node (o144v108 P) (.node (o272v225 P) .nil .nil) .nil) (.node (o208v216 P) (.node (o336v400 P) .nil .nil) .nil)) (.node (o112v103 P) (.node (o176v112 P) (.node (o304v400 P) .nil .nil) .nil) (.node (o240v121 P) .nil .nil)))) (.node (o24v6 P) (.node (o40v6 P) (.node (o72v6 P) (.node (o136v106 P) (.node (o264v224 P) .nil .nil) .nil) (.node (o200v116 P) (.node (o328v400 P) .nil .nil) .nil)) (.node (o104v201 P) (.node (o168v111 P) (.node (o296v300 P) .nil .nil) .nil) (.node (o232v120 P) .nil .nil))) (.node (o56v6 P) (.node (o88v7 P) (.node (o152v208 P) (.node (o280v127 P) .nil .nil) .nil) (.node (o216v217 P) (.node (o344v400 P) .nil .nil) .nil)) (.node (o120v104 P) (.node (o184v113 P) (.node (o312v400 P) .nil .nil) .nil) (.node (o248v122 P) .nil .nil))))) (.node (o12v400 P) (.node (o20v6 P) (.node (o36v6 P) (.node (o68v6 P) (.node (o132v205 P) (.node (o260v124 P) .nil .nil) .nil) (.node (o196v115 P) (.node (o324v400 P) .nil .nil) .nil)) (.node (o100v101 P) (.node (o164v110 P) (.node (o292v228 P) .nil .nil) .nil) (.node (o228v120 P) .nil .nil))) (.node (o52v6 P) (.node (o84v6 P) (.node (o148v108 P) (.node (o276v126 P) .nil .nil) .nil) (.node (o212v117 P) (.node (o340v400 P) .nil .nil) .nil)) (.node (o116v104 P) (.node (o180v212 P) (.node (o308v400 P) .nil .nil) .nil) (.node (o244v221 P) .nil .nil)))) (.node (o28v6 P) (.node (o44v6 P) (.node (o76v6 P) (.node (o140v107 P) (.node (o268v125 P) .nil .nil) .nil) (.node (o204v116 P) (.node (o332v400 P) .nil .nil) .nil)) (.node (o108v102 P) (.node (o172v112 P) (.node (o300v400 P) .nil .nil) .nil) (.node (o236v220 P) .nil .nil))) (.node (o60v6 P) (.node (o92v8 P) (.node (o156v109 P) (.node (o284v128 P) .nil .nil) .nil) (.node (o220v118 P) (.node (o348v400 P) .nil .nil) .nil)) (.node (o124v204 P) (.node (o188v213 P) (.node (o316v400 P) .nil .nil) .nil) (.node (o252v123 P) .nil .nil)))))) (.node (boot_o_6 P) (.node (boot_o_10 P) (.node (o18v6 P) (.node (o34v6 P) (.node (o66v6 P) (.node (o130v106 P) (.node (o258v223 P) .nil .nil) .nil) (.node (o194v214 P) (.node (o322v400 P) .nil .nil) .nil)) (.node (o98v101 P) (.node (o162v110 P) (.node (o290v128 P) .nil .nil) .nil) (.node (o226v119 P) .nil .nil))) (.node (o50v6 P) (.node (o82v6 P) (.node (o146v207 P) (.node (o274v126 P) .nil .nil) .nil) (.node (o210v117 P) (.node (o338v400 P) .nil .nil) .nil)) (.node (o114v103 P) (.node (o178v112 P) (.node (o306v400 P) .nil .nil) .nil) (.node (o242v122 P) .nil .nil)))) (.node (o26v6 P) (.node (o42v6 P) (.node (o74v6 P) (.node (o138v206 P) (.node (o266v125 P) .nil .nil) .nil) (.node (o202v215 P) (.node (o330v400 P) .nil .nil) .nil)) (.node (o106v102 P) (.node (o170v111 P) (.node U .nil .nil) .nil) (.node (o234v120 P) .nil .nil))) (.node (o58v6 P) (.node (o90v7 P) (.node (o154v109 P) (.node (o282v127 P) .nil .nil) .nil) (.node (o218v118 P) (.node (o346v400 P) .nil .nil) .nil)) (.node (o122v104 P) (.node (o186v114 P) (.node (o314v400 P) .nil .nil) .nil) (.node (o250v222 P) .nil .nil))))) (.node (o14v1 P) (.node (o22v6 P) (.node (o38v6 P) (.node (o70v6 P) (.node (o134v106 P) (.node (o262v124 P) .nil .nil) .nil) (.node (o198v115 P) (.node (o326v400 P) .nil .nil) .nil)) (.node (o102v102 P) (.node (o166v210 P) (.node (o294v300 P) .nil .nil) .nil) (.node (o230v219 P) .nil .nil))) (.node (o54v6 P) (.node (o86v7 P) (.node (o150v108 P) (.node (o278v226 P) .nil .nil) .nil) (.node (o214v118 P) (.node (o342v400 P) .nil .nil) .nil)) (.node (o118v203 P) (.node (o182v113 P) (.node (o310v400 P) .nil .nil) .nil) (.node (o246v122 P) .nil .nil)))) (.node (o30v6 P) (.node (o46v6 P) (.node (o78v6 P) (.node (o142v107 P) (.node (o270v126 P) .nil .nil) .nil) (.node (o206v116 P) (.node (o334v400 P) .nil .nil) .nil)) (.node (o110v202 P) (.node (o174v211 P) (.node (o302v400 P) .nil .nil) .nil) (.node (o238v121 P) .nil .nil))) (.node (o62v6 P) (.node (o94v8 P) (.node (o158v110 P) (.node (o286v227 P) .nil .nil) .nil) (.node (o222v218 P) .nil .nil)) (.node (o126v105 P) (.node (o190v114 P) (.node (o318v400 P) .nil .nil) .nil) (.node (o254v123 P) .nil .nil))))))))
noncomputable def SF (P : Params) (os : OsState) (cp : Value) (O U : Obj) (tk : Nat) : SharedT := ⟨TF P cp O U, 349, {}, ⟨[.finished]⟩, {}, tk, os⟩
lay_quick Sa S6 S7 O0 SL SD1 SA1a SA1 SD2 SA2 SD3 SA3 SD4 SA4 SD5 SA5 SD6 SA6 SD7 SA7 SD8 SA8 SD9 SA9 SD10 SA10 SD11 SA11 SD12 SA12 SD13 SA13 SD14 SA14 SD15 SA15 SD16 SA16 SD17 SA17 SD18 SA18 SD19 SA19 SD20 SA20 SD21 SA21 SD22 SA22 SD23 SA23 SD24 SA24 SD25 SA25 SD26 SA26 SD27 SA27 SD28 SA28 SD29 O124 SE O150 SU SF
end Mine
end
section
open PySem PySem.W PyProof.Rows
set_option maxRecDepth 100000
set_option maxHeartbeats 0
set_option linter.unusedVariables false
namespace Mine
abbrev RT := Option (SharedT × Thread)
abbrev KR := Result → Sem PySem.Fin
def PR : Pos := ⟨21, 28, 21, 30⟩
noncomputable def kD : KR := fun _ => .raise .none
noncomputable def stk9 (w : World) : List Frame := stackOf (goT 9 w (SL w.params {} (O0 w.params)) (thr loopC PP (uf kD kD kD)))
noncomputable def kg (w : World) : GenResult → Sem PySem.Fin := kGen 0 (stk9 w)
noncomputable def kn (w : World) : KR := kRet 1 (stk9 w)
noncomputable def contOf : Sem PySem.Fin → KR
  | .call _ _ _ _ k => k
  | _ => fun _ => .raise .none
noncomputable def k0 : KR :=
  contOf (((runOwn (csG 1 0) envG).bind fun _ => (again (clG 0 91) : Sem PySem.Fin)).onRaise (if (clG 0 91).isFrame then leaving envG else fun x => do noteFrame x envG; theTreesLotGoes x))
noncomputable def addT (x : Value) : Sem PySem.Fin := (setAdd 97 x).bind fun _ => (again loopC : Sem PySem.Fin)
noncomputable def inT (w : World) (p : Pos) (it : Addr) (k3 k4 k5 : KR) : Thread := thr (clG 1 it) p (k0F k0 (inF (kg w) (kn w) (uf k3 k4 k5)))
noncomputable def outT (w : World) (k3 k4 k5 : KR) : Thread := thr (clG 0 91) PQ (inF (kg w) (kn w) (uf k3 k4 k5))
noncomputable def addTh (x : Value) (k3 k4 k5 : KR) : Thread := ⟨addT x, loopC, PP, uf k3 k4 k5⟩
noncomputable def agTh (k3 k4 k5 : KR) : Thread := ⟨again loopC, loopC, PP, uf k3 k4 k5⟩
noncomputable def FC0 (w : World) (os : OsState) (O : Obj) (k3 k4 k5 : KR) : RT × RT := (goT 9 w (SL w.params os O) (thr loopC PP (uf k3 k4 k5)), some (SD1 w.params os O, thr (csG 0 91) PP (inF (kg w) (kn w) (uf k3 k4 k5))))
theorem FC0_self : FC0 = FC0 := rfl
name_quick qFC0 for Mine.FC0 by Mine.FC0_self
theorem KC0 : ∀ w os O k3 k4 k5, (PySem.W.Fast.qFC0 w os O k3 k4 k5).1 = (PySem.W.Fast.qFC0 w os O k3 k4 k5).2 := fun w os O k3 k4 k5 => by kernel_rfl
lay_quick PR kD stk9 kg kn contOf k0 addT inT outT addTh agTh
end Mine
end
section
open PySem PySem.W PyProof.Rows
set_option maxRecDepth 100000
set_option maxHeartbeats 0
set_option linter.unusedVariables false
namespace Mine
noncomputable def FA1 (n : Nat) (w : World) (os : OsState) (O : Obj) (kp : Pos) (k3 k4 k5 : KR) : RT × RT := (goT n w (SD1 w.params os O) (thr (clG 0 91) kp (inF (kg w) (kn w) (uf k3 k4 k5))), some (SA1a w.params os (.ofNat 169) (.ofNat 1) O 400, thr (csG 1 102) PQ (k0F k0 (inF (kg w) (kn w) (uf k3 k4 k5)))))
theorem FA1_self : FA1 = FA1 := rfl
name_quick qFA1 for Mine.FA1 by Mine.FA1_self
theorem KA1_false : ∀ (w : World) (os : OsState) O kp k3 k4 k5, (PySem.W.Fast.qFA1 116 (wg false w) os O kp k3 k4 k5).1 = (PySem.W.Fast.qFA1 116 (wg false w) os O kp k3 k4 k5).2 := fun w os O kp k3 k4 k5 => by kernel_rfl
theorem KA1_true : ∀ (w : World) (os : OsState) O kp k3 k4 k5, (PySem.W.Fast.qFA1 116 (wg true w) os O kp k3 k4 k5).1 = (PySem.W.Fast.qFA1 116 (wg true w) os O kp k3 k4 k5).2 := fun w os O kp k3 k4 k5 => by kernel_rfl
theorem GA1 (w : World) (os : OsState) (O : Obj) (kp : Pos) (k3 k4 k5 : KR) : Goes w (SD1 w.params os O) (thr (clG 0 91) kp (inF (kg w) (kn w) (uf k3 k4 k5))) (SA1a w.params os (.ofNat 169) (.ofNat 1) O 400) (thr (csG 1 102) PQ (k0F k0 (inF (kg w) (kn w) (uf k3 k4 k5)))) 116 := by
  revert w; refine rows1 (fun b w => ?_); cases b
  · exact ⟨116, Nat.le_refl _, by have h := KA1_false w os O kp k3 k4 k5; rw [← PySem.W.Fast.qFA1_eq] at h; unfold FA1 at h; dsimp only at h; exact h⟩
  · exact ⟨116, Nat.le_refl _, by have h := KA1_true w os O kp k3 k4 k5; rw [← PySem.W.Fast.qFA1_eq] at h; unfold FA1 at h; dsimp only at h; exact h⟩
noncomputable def FS1 (n : Nat) (w : World) (os : OsState) (O : Obj) (k3 k4 k5 : KR) : RT × RT := (goT n w (SA1a w.params os (.ofNat 169) (.ofNat 1) O 400) (thr (csG 1 102) PQ (k0F k0 (inF (kg w) (kn w) (uf k3 k4 k5)))), some (SA1a w.params os (.ofNat 169) (.ofNat 1) O 400, inT w PQ 102 k3 k4 k5))
theorem FS1_self : FS1 = FS1 := rfl
name_quick qFS1 for Mine.FS1 by Mine.FS1_self
theorem KS1_ff : ∀ (w : World) (os : OsState) O k3 k4 k5, (PySem.W.Fast.qFS1 12 (wf false false w) os O k3 k4 k5).1 = (PySem.W.Fast.qFS1 12 (wf false false w) os O k3 k4 k5).2 := fun w os O k3 k4 k5 => by kernel_rfl
theorem KS1_tf : ∀ (w : World) (os : OsState) O k3 k4 k5, (PySem.W.Fast.qFS1 12 (wf true false w) os O k3 k4 k5).1 = (PySem.W.Fast.qFS1 12 (wf true false w) os O k3 k4 k5).2 := fun w os O k3 k4 k5 => by kernel_rfl
theorem KS1_t : ∀ (w : World) (os : OsState) O k3 k4 k5, (PySem.W.Fast.qFS1 2 (w.withFollow "comprehension-iter-twice" true) os O k3 k4 k5).1 = (PySem.W.Fast.qFS1 2 (w.withFollow "comprehension-iter-twice" true) os O k3 k4 k5).2 := fun w os O k3 k4 k5 => by kernel_rfl
theorem GS1 (w : World) (os : OsState) (O : Obj) (k3 k4 k5 : KR) : Goes w (SA1a w.params os (.ofNat 169) (.ofNat 1) O 400) (thr (csG 1 102) PQ (k0F k0 (inF (kg w) (kn w) (uf k3 k4 k5)))) (SA1a w.params os (.ofNat 169) (.ofNat 1) O 400) (inT w PQ 102 k3 k4 k5) 12 := by
  revert w; refine rows2 (fun b1 b2 w => ?_); cases b1 <;> cases b2
  · exact ⟨12, Nat.le_of_ble_eq_true rfl, by have h := KS1_ff w os O k3 k4 k5; rw [← PySem.W.Fast.qFS1_eq] at h; unfold FS1 at h; dsimp only at h; exact h⟩
  · exact ⟨2, Nat.le_of_ble_eq_true rfl, by have h := KS1_t (w.withFollow "special-get-raises" false) os O k3 k4 k5; rw [← PySem.W.Fast.qFS1_eq] at h; unfold FS1 at h; dsimp only at h; exact h⟩
  · exact ⟨12, Nat.le_of_ble_eq_true rfl, by have h := KS1_tf w os O k3 k4 k5; rw [← PySem.W.Fast.qFS1_eq] at h; unfold FS1 at h; dsimp only at h; exact h⟩
  · exact ⟨2, Nat.le_of_ble_eq_true rfl, by have h := KS1_t (w.withFollow "special-get-raises" true) os O k3 k4 k5; rw [← PySem.W.Fast.qFS1_eq] at h; unfold FS1 at h; dsimp only at h; exact h⟩
noncomputable def gI1 (w : World) (os : OsState) (c r : Nat) (O : Obj) (k3 k4 k5 : KR) : Array GenState := gensOf (goT 26 w (SA1a w.params os (.ofNat c) (.ofNat (r + 1)) O 400) (inT w PQ 102 k3 k4 k5))
noncomputable def FI1 (n : Nat) (w : World) (os : OsState) (c r : Nat) (O : Obj) (p : Pos) (k3 k4 k5 : KR) : RT × RT := (goT n w (SA1a w.params os (.ofNat c) (.ofNat (r + 1)) O 400) (inT w p 102 k3 k4 k5), some (⟨TA1 w.params (Int.ofNat c + Int.ofNat 1) (Int.ofNat (r + 1) - 1) (.int (.ofNat c) 400) O, 103, {}, gI1 w os c r O k3 k4 k5, {}, 402, os⟩, addTh (.int (.ofNat c) 400) k3 k4 k5))
theorem FI1_self : FI1 = FI1 := rfl
name_quick qFI1 for Mine.FI1 by Mine.FI1_self
theorem KI1 : ∀ (w : World) (os : OsState) c r O p k3 k4 k5, (PySem.W.Fast.qFI1 26 (w) os c r O p k3 k4 k5).1 = (PySem.W.Fast.qFI1 26 (w) os c r O p k3 k4 k5).2 := fun w os c r O p k3 k4 k5 => by kernel_rfl
theorem GI1 (w : World) (os : OsState) (c r : Nat) (O : Obj) (p : Pos) (k3 k4 k5 : KR) : Goes w (SA1a w.params os (.ofNat c) (.ofNat (r + 1)) O 400) (inT w p 102 k3 k4 k5) (⟨TA1 w.params (Int.ofNat c + Int.ofNat 1) (Int.ofNat (r + 1) - 1) (.int (.ofNat c) 400) O, 103, {}, gI1 w os c r O k3 k4 k5, {}, 402, os⟩) (addTh (.int (.ofNat c) 400) k3 k4 k5) 26 := ⟨26, Nat.le_refl _, by have h := KI1 w os c r O p k3 k4 k5; rw [← PySem.W.Fast.qFI1_eq] at h; unfold FI1 at h; dsimp only at h; exact h⟩
noncomputable def FJ1 (n : Nat) (w : World) (os : OsState) (c r tk : Nat) (i j : Int) (O O2 : Obj) (k3 k4 k5 : KR) : RT × RT := (goT n w (⟨TA1 w.params i j (.int (.ofNat c) 400) O2, 103, {}, gI1 w os c r O k3 k4 k5, {}, tk, os⟩) (agTh k3 k4 k5), some (SA1 w.params os i j (.int (.ofNat c) 400) O2 tk, inT w PR 102 k3 k4 k5))
theorem FJ1_self : FJ1 = FJ1 := rfl
name_quick qFJ1 for Mine.FJ1 by Mine.FJ1_self
theorem KJ1 : ∀ (w : World) (os : OsState) c r tk i j O O2 k3 k4 k5, (PySem.W.Fast.qFJ1 11 (w) os c r tk i j O O2 k3 k4 k5).1 = (PySem.W.Fast.qFJ1 11 (w) os c r tk i j O O2 k3 k4 k5).2 := fun w os c r tk i j O O2 k3 k4 k5 => by kernel_rfl
theorem GJ1 (w : World) (os : OsState) (c r tk : Nat) (i j : Int) (O O2 : Obj) (k3 k4 k5 : KR) : Goes w (⟨TA1 w.params i j (.int (.ofNat c) 400) O2, 103, {}, gI1 w os c r O k3 k4 k5, {}, tk, os⟩) (agTh k3 k4 k5) (SA1 w.params os i j (.int (.ofNat c) 400) O2 tk) (inT w PR 102 k3 k4 k5) 11 := ⟨11, Nat.le_refl _, by have h := KJ1 w os c r tk i j O O2 k3 k4 k5; rw [← PySem.W.Fast.qFJ1_eq] at h; unfold FJ1 at h; dsimp only at h; exact h⟩
noncomputable def FE1 (n : Nat) (w : World) (os : OsState) (tk : Nat) (cp : Value) (O : Obj) (p : Pos) (k3 k4 k5 : KR) : RT × RT := (goT n w (SA1 w.params os (.ofNat 170) (.ofNat 0) cp O tk) (inT w p 102 k3 k4 k5), some (SD2 w.params os cp O tk, outT w k3 k4 k5))
theorem FE1_self : FE1 = FE1 := rfl
name_quick qFE1 for Mine.FE1 by Mine.FE1_self
theorem KE1 : ∀ (w : World) (os : OsState) tk cp O p k3 k4 k5, (PySem.W.Fast.qFE1 16 (w) os tk cp O p k3 k4 k5).1 = (PySem.W.Fast.qFE1 16 (w) os tk cp O p k3 k4 k5).2 := fun w os tk cp O p k3 k4 k5 => by kernel_rfl
theorem GE1 (w : World) (os : OsState) (tk : Nat) (cp : Value) (O : Obj) (p : Pos) (k3 k4 k5 : KR) : Goes w (SA1 w.params os (.ofNat 170) (.ofNat 0) cp O tk) (inT w p 102 k3 k4 k5) (SD2 w.params os cp O tk) (outT w k3 k4 k5) 16 := ⟨16, Nat.le_refl _, by have h := KE1 w os tk cp O p k3 k4 k5; rw [← PySem.W.Fast.qFE1_eq] at h; unfold FE1 at h; dsimp only at h; exact h⟩
noncomputable def FA2 (n : Nat) (w : World) (os : OsState) (cp : Value) (O : Obj) (k3 k4 k5 : KR) : RT × RT := (goT n w (SD2 w.params os cp O 403) (outT w k3 k4 k5), some (SA2 w.params os (.ofNat 174) (.ofNat 1) cp O 408, thr (csG 1 109) PQ (k0F k0 (inF (kg w) (kn w) (uf k3 k4 k5)))))
theorem FA2_self : FA2 = FA2 := rfl
name_quick qFA2 for Mine.FA2 by Mine.FA2_self
theorem KA2_false : ∀ (w : World) (os : OsState) cp O k3 k4 k5, (PySem.W.Fast.qFA2 116 (wg false w) os cp O k3 k4 k5).1 = (PySem.W.Fast.qFA2 116 (wg false w) os cp O k3 k4 k5).2 := fun w os cp O k3 k4 k5 => by kernel_rfl
theorem KA2_true : ∀ (w : World) (os : OsState) cp O k3 k4 k5, (PySem.W.Fast.qFA2 116 (wg true w) os cp O k3 k4 k5).1 = (PySem.W.Fast.qFA2 116 (wg true w) os cp O k3 k4 k5).2 := fun w os cp O k3 k4 k5 => by kernel_rfl
theorem GA2 (w : World) (os : OsState) (cp : Value) (O : Obj) (k3 k4 k5 : KR) : Goes w (SD2 w.params os cp O 403) (outT w k3 k4 k5) (SA2 w.params os (.ofNat 174) (.ofNat 1) cp O 408) (thr (csG 1 109) PQ (k0F k0 (inF (kg w) (kn w) (uf k3 k4 k5)))) 116 := by
  revert w; refine rows1 (fun b w => ?_); cases b
  · exact ⟨116, Nat.le_refl _, by have h := KA2_false w os cp O k3 k4 k5; rw [← PySem.W.Fast.qFA2_eq] at h; unfold FA2 at h; dsimp only at h; exact h⟩
  · exact ⟨116, Nat.le_refl _, by have h := KA2_true w os cp O k3 k4 k5; rw [← PySem.W.Fast.qFA2_eq] at h; unfold FA2 at h; dsimp only at h; exact h⟩
noncomputable def FS2 (n : Nat) (w : World) (os : OsState) (cp : Value) (O : Obj) (k3 k4 k5 : KR) : RT × RT := (goT n w (SA2 w.params os (.ofNat 174) (.ofNat 1) cp O 408) (thr (csG 1 109) PQ (k0F k0 (inF (kg w) (kn w) (uf k3 k4 k5)))), some (SA2 w.params os (.ofNat 174) (.ofNat 1) cp O 408, inT w PQ 109 k3 k4 k5))
theorem FS2_self : FS2 = FS2 := rfl
name_quick qFS2 for Mine.FS2 by Mine.FS2_self
theorem KS2_ff : ∀ (w : World) (os : OsState) cp O k3 k4 k5, (PySem.W.Fast.qFS2 12 (wf false false w) os cp O k3 k4 k5).1 = (PySem.W.Fast.qFS2 12 (wf false false w) os cp O k3 k4 k5).2 := fun w os cp O k3 k4 k5 => by kernel_rfl
theorem KS2_tf : ∀ (w : World) (os : OsState) cp O k3 k4 k5, (PySem.W.Fast.qFS2 12 (wf true false w) os cp O k3 k4 k5).1 = (PySem.W.Fast.qFS2 12 (wf true false w) os cp O k3 k4 k5).2 := fun w os cp O k3 k4 k5 => by kernel_rfl
theorem KS2_t : ∀ (w : World) (os : OsState) cp O k3 k4 k5, (PySem.W.Fast.qFS2 2 (w.withFollow "comprehension-iter-twice" true) os cp O k3 k4 k5).1 = (PySem.W.Fast.qFS2 2 (w.withFollow "comprehension-iter-twice" true) os cp O k3 k4 k5).2 := fun w os cp O k3 k4 k5 => by kernel_rfl
theorem GS2 (w : World) (os : OsState) (cp : Value) (O : Obj) (k3 k4 k5 : KR) : Goes w (SA2 w.params os (.ofNat 174) (.ofNat 1) cp O 408) (thr (csG 1 109) PQ (k0F k0 (inF (kg w) (kn w) (uf k3 k4 k5)))) (SA2 w.params os (.ofNat 174) (.ofNat 1) cp O 408) (inT w PQ 109 k3 k4 k5) 12 := by
  revert w; refine rows2 (fun b1 b2 w => ?_); cases b1 <;> cases b2
  · exact ⟨12, Nat.le_of_ble_eq_true rfl, by have h := KS2_ff w os cp O k3 k4 k5; rw [← PySem.W.Fast.qFS2_eq] at h; unfold FS2 at h; dsimp only at h; exact h⟩
  · exact ⟨2, Nat.le_of_ble_eq_true rfl, by have h := KS2_t (w.withFollow "special-get-raises" false) os cp O k3 k4 k5; rw [← PySem.W.Fast.qFS2_eq] at h; unfold FS2 at h; dsimp only at h; exact h⟩
  · exact ⟨12, Nat.le_of_ble_eq_true rfl, by have h := KS2_tf w os cp O k3 k4 k5; rw [← PySem.W.Fast.qFS2_eq] at h; unfold FS2 at h; dsimp only at h; exact h⟩
  · exact ⟨2, Nat.le_of_ble_eq_true rfl, by have h := KS2_t (w.withFollow "special-get-raises" true) os cp O k3 k4 k5; rw [← PySem.W.Fast.qFS2_eq] at h; unfold FS2 at h; dsimp only at h; exact h⟩
noncomputable def gI2 (w : World) (os : OsState) (c r tk : Nat) (cp : Value) (O : Obj) (k3 k4 k5 : KR) : Array GenState := gensOf (goT 26 w (SA2 w.params os (.ofNat c) (.ofNat (r + 1)) cp O tk) (inT w PQ 109 k3 k4 k5))
noncomputable def FI2 (n : Nat) (w : World) (os : OsState) (c r tk : Nat) (cp : Value) (O : Obj) (p : Pos) (k3 k4 k5 : KR) : RT × RT := (goT n w (SA2 w.params os (.ofNat c) (.ofNat (r + 1)) cp O tk) (inT w p 109 k3 k4 k5), some (⟨TA2 w.params (Int.ofNat c + Int.ofNat 1) (Int.ofNat (r + 1) - 1) (.int (.ofNat c) tk) O, 110, {}, gI2 w os c r tk cp O k3 k4 k5, {}, tk + 2, os⟩, addTh (.int (.ofNat c) tk) k3 k4 k5))
theorem FI2_self : FI2 = FI2 := rfl
name_quick qFI2 for Mine.FI2 by Mine.FI2_self
theorem KI2 : ∀ (w : World) (os : OsState) c r tk cp O p k3 k4 k5, (PySem.W.Fast.qFI2 26 (w) os c r tk cp O p k3 k4 k5).1 = (PySem.W.Fast.qFI2 26 (w) os c r tk cp O p k3 k4 k5).2 := fun w os c r tk cp O p k3 k4 k5 => by kernel_rfl
theorem GI2 (w : World) (os : OsState) (c r tk : Nat) (cp : Value) (O : Obj) (p : Pos) (k3 k4 k5 : KR) : Goes w (SA2 w.params os (.ofNat c) (.ofNat (r + 1)) cp O tk) (inT w p 109 k3 k4 k5) (⟨TA2 w.params (Int.ofNat c + Int.ofNat 1) (Int.ofNat (r + 1) - 1) (.int (.ofNat c) tk) O, 110, {}, gI2 w os c r tk cp O k3 k4 k5, {}, tk + 2, os⟩) (addTh (.int (.ofNat c) tk) k3 k4 k5) 26 := ⟨26, Nat.le_refl _, by have h := KI2 w os c r tk cp O p k3 k4 k5; rw [← PySem.W.Fast.qFI2_eq] at h; unfold FI2 at h; dsimp only at h; exact h⟩
noncomputable def FJ2 (n : Nat) (w : World) (os : OsState) (c r tk tk2 : Nat) (i j : Int) (cp cp2 : Value) (O O2 : Obj) (k3 k4 k5 : KR) : RT × RT := (goT n w (⟨TA2 w.params i j cp2 O2, 110, {}, gI2 w os c r tk cp O k3 k4 k5, {}, tk2, os⟩) (agTh k3 k4 k5), some (SA2 w.params os i j cp2 O2 tk2, inT w PR 109 k3 k4 k5))
theorem FJ2_self : FJ2 = FJ2 := rfl
name_quick qFJ2 for Mine.FJ2 by Mine.FJ2_self
theorem KJ2 : ∀ (w : World) (os : OsState) c r tk tk2 i j cp cp2 O O2 k3 k4 k5, (PySem.W.Fast.qFJ2 11 (w) os c r tk tk2 i j cp cp2 O O2 k3 k4 k5).1 = (PySem.W.Fast.qFJ2 11 (w) os c r tk tk2 i j cp cp2 O O2 k3 k4 k5).2 := fun w os c r tk tk2 i j cp cp2 O O2 k3 k4 k5 => by kernel_rfl
theorem GJ2 (w : World) (os : OsState) (c r tk tk2 : Nat) (i j : Int) (cp cp2 : Value) (O O2 : Obj) (k3 k4 k5 : KR) : Goes w (⟨TA2 w.params i j cp2 O2, 110, {}, gI2 w os c r tk cp O k3 k4 k5, {}, tk2, os⟩) (agTh k3 k4 k5) (SA2 w.params os i j cp2 O2 tk2) (inT w PR 109 k3 k4 k5) 11 := ⟨11, Nat.le_refl _, by have h := KJ2 w os c r tk tk2 i j cp cp2 O O2 k3 k4 k5; rw [← PySem.W.Fast.qFJ2_eq] at h; unfold FJ2 at h; dsimp only at h; exact h⟩
noncomputable def FE2 (n : Nat) (w : World) (os : OsState) (tk : Nat) (cp : Value) (O : Obj) (p : Pos) (k3 k4 k5 : KR) : RT × RT := (goT n w (SA2 w.params os (.ofNat 175) (.ofNat 0) cp O tk) (inT w p 109 k3 k4 k5), some (SD3 w.params os cp O tk, outT w k3 k4 k5))
theorem FE2_self : FE2 = FE2 := rfl
name_quick qFE2 for Mine.FE2 by Mine.FE2_self
theorem KE2 : ∀ (w : World) (os : OsState) tk cp O p k3 k4 k5, (PySem.W.Fast.qFE2 16 (w) os tk cp O p k3 k4 k5).1 = (PySem.W.Fast.qFE2 16 (w) os tk cp O p k3 k4 k5).2 := fun w os tk cp O p k3 k4 k5 => by kernel_rfl
theorem GE2 (w : World) (os : OsState) (tk : Nat) (cp : Value) (O : Obj) (p : Pos) (k3 k4 k5 : KR) : Goes w (SA2 w.params os (.ofNat 175) (.ofNat 0) cp O tk) (inT w p 109 k3 k4 k5) (SD3 w.params os cp O tk) (outT w k3 k4 k5) 16 := ⟨16, Nat.le_refl _, by have h := KE2 w os tk cp O p k3 k4 k5; rw [← PySem.W.Fast.qFE2_eq] at h; unfold FE2 at h; dsimp only at h; exact h⟩
noncomputable def FA3 (n : Nat) (w : World) (os : OsState) (cp : Value) (O : Obj) (k3 k4 k5 : KR) : RT × RT := (goT n w (SD3 w.params os cp O 411) (outT w k3 k4 k5), some (SA3 w.params os (.ofNat 8252) (.ofNat 1) cp O 416, thr (csG 1 116) PQ (k0F k0 (inF (kg w) (kn w) (uf k3 k4 k5)))))
theorem FA3_self : FA3 = FA3 := rfl
name_quick qFA3 for Mine.FA3 by Mine.FA3_self
theorem KA3_false : ∀ (w : World) (os : OsState) cp O k3 k4 k5, (PySem.W.Fast.qFA3 116 (wg false w) os cp O k3 k4 k5).1 = (PySem.W.Fast.qFA3 116 (wg false w) os cp O k3 k4 k5).2 := fun w os cp O k3 k4 k5 => by kernel_rfl
theorem KA3_true : ∀ (w : World) (os : OsState) cp O k3 k4 k5, (PySem.W.Fast.qFA3 116 (wg true w) os cp O k3 k4 k5).1 = (PySem.W.Fast.qFA3 116 (wg true w) os cp O k3 k4 k5).2 := fun w os cp O k3 k4 k5 => by kernel_rfl
theorem GA3 (w : World) (os : OsState) (cp : Value) (O : Obj) (k3 k4 k5 : KR) : Goes w (SD3 w.params os cp O 411) (outT w k3 k4 k5) (SA3 w.params os (.ofNat 8252) (.ofNat 1) cp O 416) (thr (csG 1 116) PQ (k0F k0 (inF (kg w) (kn w) (uf k3 k4 k5)))) 116 := by
  revert w; refine rows1 (fun b w => ?_); cases b
  · exact ⟨116, Nat.le_refl _, by have h := KA3_false w os cp O k3 k4 k5; rw [← PySem.W.Fast.qFA3_eq] at h; unfold FA3 at h; dsimp only at h; exact h⟩
  · exact ⟨116, Nat.le_refl _, by have h := KA3_true w os cp O k3 k4 k5; rw [← PySem.W.Fast.qFA3_eq] at h; unfold FA3 at h; dsimp only at h; exact h⟩
noncomputable def FS3 (n : Nat) (w : World) (os : OsState) (cp : Value) (O : Obj) (k3 k4 k5 : KR) : RT × RT := (goT n w (SA3 w.params os (.ofNat 8252) (.ofNat 1) cp O 416) (thr (csG 1 116) PQ (k0F k0 (inF (kg w) (kn w) (uf k3 k4 k5)))), some (SA3 w.params os (.ofNat 8252) (.ofNat 1) cp O 416, inT w PQ 116 k3 k4 k5))
theorem FS3_self : FS3 = FS3 := rfl
name_quick qFS3 for Mine.FS3 by Mine.FS3_self
theorem KS3_ff : ∀ (w : World) (os : OsState) cp O k3 k4 k5, (PySem.W.Fast.qFS3 12 (wf false false w) os cp O k3 k4 k5).1 = (PySem.W.Fast.qFS3 12 (wf false false w) os cp O k3 k4 k5).2 := fun w os cp O k3 k4 k5 => by kernel_rfl
theorem KS3_tf : ∀ (w : World) (os : OsState) cp O k3 k4 k5, (PySem.W.Fast.qFS3 12 (wf true false w) os cp O k3 k4 k5).1 = (PySem.W.Fast.qFS3 12 (wf true false w) os cp O k3 k4 k5).2 := fun w os cp O k3 k4 k5 => by kernel_rfl
theorem KS3_t : ∀ (w : World) (os : OsState) cp O k3 k4 k5, (PySem.W.Fast.qFS3 2 (w.withFollow "comprehension-iter-twice" true) os cp O k3 k4 k5).1 = (PySem.W.Fast.qFS3 2 (w.withFollow "comprehension-iter-twice" true) os cp O k3 k4 k5).2 := fun w os cp O k3 k4 k5 => by kernel_rfl
theorem GS3 (w : World) (os : OsState) (cp : Value) (O : Obj) (k3 k4 k5 : KR) : Goes w (SA3 w.params os (.ofNat 8252) (.ofNat 1) cp O 416) (thr (csG 1 116) PQ (k0F k0 (inF (kg w) (kn w) (uf k3 k4 k5)))) (SA3 w.params os (.ofNat 8252) (.ofNat 1) cp O 416) (inT w PQ 116 k3 k4 k5) 12 := by
  revert w; refine rows2 (fun b1 b2 w => ?_); cases b1 <;> cases b2
  · exact ⟨12, Nat.le_of_ble_eq_true rfl, by have h := KS3_ff w os cp O k3 k4 k5; rw [← PySem.W.Fast.qFS3_eq] at h; unfold FS3 at h; dsimp only at h; exact h⟩
  · exact ⟨2, Nat.le_of_ble_eq_true rfl, by have h := KS3_t (w.withFollow "special-get-raises" false) os cp O k3 k4 k5; rw [← PySem.W.Fast.qFS3_eq] at h; unfold FS3 at h; dsimp only at h; exact h⟩
  · exact ⟨12, Nat.le_of_ble_eq_true rfl, by have h := KS3_tf w os cp O k3 k4 k5; rw [← PySem.W.Fast.qFS3_eq] at h; unfold FS3 at h; dsimp only at h; exact h⟩
  · exact ⟨2, Nat.le_of_ble_eq_true rfl, by have h := KS3_t (w.withFollow "special-get-raises" true) os cp O k3 k4 k5; rw [← PySem.W.Fast.qFS3_eq] at h; unfold FS3 at h; dsimp only at h; exact h⟩
noncomputable def gI3 (w : World) (os : OsState) (c r tk : Nat) (cp : Value) (O : Obj) (k3 k4 k5 : KR) : Array GenState := gensOf (goT 26 w (SA3 w.params os (.ofNat c) (.ofNat (r + 1)) cp O tk) (inT w PQ 116 k3 k4 k5))
noncomputable def FI3 (n : Nat) (w : World) (os : OsState) (c r tk : Nat) (cp : Value) (O : Obj) (p : Pos) (k3 k4 k5 : KR) : RT × RT := (goT n w (SA3 w.params os (.ofNat c) (.ofNat (r + 1)) cp O tk) (inT w p 116 k3 k4 k5), some (⟨TA3 w.params (Int.ofNat c + Int.ofNat 1) (Int.ofNat (r + 1) - 1) (.int (.ofNat c) tk) O, 117, {}, gI3 w os c r tk cp O k3 k4 k5, {}, tk + 2, os⟩, addTh (.int (.ofNat c) tk) k3 k4 k5))
theorem FI3_self : FI3 = FI3 := rfl
name_quick qFI3 for Mine.FI3 by Mine.FI3_self
theorem KI3 : ∀ (w : World) (os : OsState) c r tk cp O p k3 k4 k5, (PySem.W.Fast.qFI3 26 (w) os c r tk cp O p k3 k4 k5).1 = (PySem.W.Fast.qFI3 26 (w) os c r tk cp O p k3 k4 k5).2 := fun w os c r tk cp O p k3 k4 k5 => by kernel_rfl
theorem GI3 (w : World) (os : OsState) (c r tk : Nat) (cp : Value) (O : Obj) (p : Pos) (k3 k4 k5 : KR) : Goes w (SA3 w.params os (.ofNat c) (.ofNat (r + 1)) cp O tk) (inT w p 116 k3 k4 k5) (⟨TA3 w.params (Int.ofNat c + Int.ofNat 1) (Int.ofNat (r + 1) - 1) (.int (.ofNat c) tk) O, 117, {}, gI3 w os c r tk cp O k3 k4 k5, {}, tk + 2, os⟩) (addTh (.int (.ofNat c) tk) k3 k4 k5) 26 := ⟨26, Nat.le_refl _, by have h := KI3 w os c r tk cp O p k3 k4 k5; rw [← PySem.W.Fast.qFI3_eq] at h; unfold FI3 at h; dsimp only at h; exact h⟩
noncomputable def FJ3 (n : Nat) (w : World) (os : OsState) (c r tk tk2 : Nat) (i j : Int) (cp cp2 : Value) (O O2 : Obj) (k3 k4 k5 : KR) : RT × RT := (goT n w (⟨TA3 w.params i j cp2 O2, 117, {}, gI3 w os c r tk cp O k3 k4 k5, {}, tk2, os⟩) (agTh k3 k4 k5), some (SA3 w.params os i j cp2 O2 tk2, inT w PR 116 k3 k4 k5))
theorem FJ3_self : FJ3 = FJ3 := rfl
name_quick qFJ3 for Mine.FJ3 by Mine.FJ3_self
theorem KJ3 : ∀ (w : World) (os : OsState) c r tk tk2 i j cp cp2 O O2 k3 k4 k5, (PySem.W.Fast.qFJ3 11 (w) os c r tk tk2 i j cp cp2 O O2 k3 k4 k5).1 = (PySem.W.Fast.qFJ3 11 (w) os c r tk tk2 i j cp cp2 O O2 k3 k4 k5).2 := fun w os c r tk tk2 i j cp cp2 O O2 k3 k4 k5 => by kernel_rfl
theorem GJ3 (w : World) (os : OsState) (c r tk tk2 : Nat) (i j : Int) (cp cp2 : Value) (O O2 : Obj) (k3 k4 k5 : KR) : Goes w (⟨TA3 w.params i j cp2 O2, 117, {}, gI3 w os c r tk cp O k3 k4 k5, {}, tk2, os⟩) (agTh k3 k4 k5) (SA3 w.params os i j cp2 O2 tk2) (inT w PR 116 k3 k4 k5) 11 := ⟨11, Nat.le_refl _, by have h := KJ3 w os c r tk tk2 i j cp cp2 O O2 k3 k4 k5; rw [← PySem.W.Fast.qFJ3_eq] at h; unfold FJ3 at h; dsimp only at h; exact h⟩
noncomputable def FE3 (n : Nat) (w : World) (os : OsState) (tk : Nat) (cp : Value) (O : Obj) (p : Pos) (k3 k4 k5 : KR) : RT × RT := (goT n w (SA3 w.params os (.ofNat 8253) (.ofNat 0) cp O tk) (inT w p 116 k3 k4 k5), some (SD4 w.params os cp O tk, outT w k3 k4 k5))
theorem FE3_self : FE3 = FE3 := rfl
name_quick qFE3 for Mine.FE3 by Mine.FE3_self
theorem KE3 : ∀ (w : World) (os : OsState) tk cp O p k3 k4 k5, (PySem.W.Fast.qFE3 16 (w) os tk cp O p k3 k4 k5).1 = (PySem.W.Fast.qFE3 16 (w) os tk cp O p k3 k4 k5).2 := fun w os tk cp O p k3 k4 k5 => by kernel_rfl
theorem GE3 (w : World) (os : OsState) (tk : Nat) (cp : Value) (O : Obj) (p : Pos) (k3 k4 k5 : KR) : Goes w (SA3 w.params os (.ofNat 8253) (.ofNat 0) cp O tk) (inT w p 116 k3 k4 k5) (SD4 w.params os cp O tk) (outT w k3 k4 k5) 16 := ⟨16, Nat.le_refl _, by have h := KE3 w os tk cp O p k3 k4 k5; rw [← PySem.W.Fast.qFE3_eq] at h; unfold FE3 at h; dsimp only at h; exact h⟩
noncomputable def FA4 (n : Nat) (w : World) (os : OsState) (cp : Value) (O : Obj) (k3 k4 k5 : KR) : RT × RT := (goT n w (SD4 w.params os cp O 419) (outT w k3 k4 k5), some (SA4 w.params os (.ofNat 8596) (.ofNat 6) cp O 424, thr (csG 1 123) PQ (k0F k0 (inF (kg w) (kn w) (uf k3 k4 k5)))))
theorem FA4_self : FA4 = FA4 := rfl
name_quick qFA4 for Mine.FA4 by Mine.FA4_self
theorem KA4_false : ∀ (w : World) (os : OsState) cp O k3 k4 k5, (PySem.W.Fast.qFA4 116 (wg false w) os cp O k3 k4 k5).1 = (PySem.W.Fast.qFA4 116 (wg false w) os cp O k3 k4 k5).2 := fun w os cp O k3 k4 k5 => by kernel_rfl
theorem KA4_true : ∀ (w : World) (os : OsState) cp O k3 k4 k5, (PySem.W.Fast.qFA4 116 (wg true w) os cp O k3 k4 k5).1 = (PySem.W.Fast.qFA4 116 (wg true w) os cp O k3 k4 k5).2 := fun w os cp O k3 k4 k5 => by kernel_rfl
theorem GA4 (w : World) (os : OsState) (cp : Value) (O : Obj) (k3 k4 k5 : KR) : Goes w (SD4 w.params os cp O 419) (outT w k3 k4 k5) (SA4 w.params os (.ofNat 8596) (.ofNat 6) cp O 424) (thr (csG 1 123) PQ (k0F k0 (inF (kg w) (kn w) (uf k3 k4 k5)))) 116 := by
  revert w; refine rows1 (fun b w => ?_); cases b
  · exact ⟨116, Nat.le_refl _, by have h := KA4_false w os cp O k3 k4 k5; rw [← PySem.W.Fast.qFA4_eq] at h; unfold FA4 at h; dsimp only at h; exact h⟩
  · exact ⟨116, Nat.le_refl _, by have h := KA4_true w os cp O k3 k4 k5; rw [← PySem.W.Fast.qFA4_eq] at h; unfold FA4 at h; dsimp only at h; exact h⟩
noncomputable def FS4 (n : Nat) (w : World) (os : OsState) (cp : Value) (O : Obj) (k3 k4 k5 : KR) : RT × RT := (goT n w (SA4 w.params os (.ofNat 8596) (.ofNat 6) cp O 424) (thr (csG 1 123) PQ (k0F k0 (inF (kg w) (kn w) (uf k3 k4 k5)))), some (SA4 w.params os (.ofNat 8596) (.ofNat 6) cp O 424, inT w PQ 123 k3 k4 k5))
theorem FS4_self : FS4 = FS4 := rfl
name_quick qFS4 for Mine.FS4 by Mine.FS4_self
theorem KS4_ff : ∀ (w : World) (os : OsState) cp O k3 k4 k5, (PySem.W.Fast.qFS4 12 (wf false false w) os cp O k3 k4 k5).1 = (PySem.W.Fast.qFS4 12 (wf false false w) os cp O k3 k4 k5).2 := fun w os cp O k3 k4 k5 => by kernel_rfl
theorem KS4_tf : ∀ (w : World) (os : OsState) cp O k3 k4 k5, (PySem.W.Fast.qFS4 12 (wf true false w) os cp O k3 k4 k5).1 = (PySem.W.Fast.qFS4 12 (wf true false w) os cp O k3 k4 k5).2 := fun w os cp O k3 k4 k5 => by kernel_rfl
theorem KS4_t : ∀ (w : World) (os : OsState) cp O k3 k4 k5, (PySem.W.Fast.qFS4 2 (w.withFollow "comprehension-iter-twice" true) os cp O k3 k4 k5).1 = (PySem.W.Fast.qFS4 2 (w.withFollow "comprehension-iter-twice" true) os cp O k3 k4 k5).2 := fun w os cp O k3 k4 k5 => by kernel_rfl
theorem GS4 (w : World) (os : OsState) (cp : Value) (O : Obj) (k3 k4 k5 : KR) : Goes w (SA4 w.params os (.ofNat 8596) (.ofNat 6) cp O 424) (thr (csG 1 123) PQ (k0F k0 (inF (kg w) (kn w) (uf k3 k4 k5)))) (SA4 w.params os (.ofNat 8596) (.ofNat 6) cp O 424) (inT w PQ 123 k3 k4 k5) 12 := by
  revert w; refine rows2 (fun b1 b2 w => ?_); cases b1 <;> cases b2
  · exact ⟨12, Nat.le_of_ble_eq_true rfl, by have h := KS4_ff w os cp O k3 k4 k5; rw [← PySem.W.Fast.qFS4_eq] at h; unfold FS4 at h; dsimp only at h; exact h⟩
  · exact ⟨2, Nat.le_of_ble_eq_true rfl, by have h := KS4_t (w.withFollow "special-get-raises" false) os cp O k3 k4 k5; rw [← PySem.W.Fast.qFS4_eq] at h; unfold FS4 at h; dsimp only at h; exact h⟩
  · exact ⟨12, Nat.le_of_ble_eq_true rfl, by have h := KS4_tf w os cp O k3 k4 k5; rw [← PySem.W.Fast.qFS4_eq] at h; unfold FS4 at h; dsimp only at h; exact h⟩
  · exact ⟨2, Nat.le_of_ble_eq_true rfl, by have h := KS4_t (w.withFollow "special-get-raises" true) os cp O k3 k4 k5; rw [← PySem.W.Fast.qFS4_eq] at h; unfold FS4 at h; dsimp only at h; exact h⟩
noncomputable def gI4 (w : World) (os : OsState) (c r tk : Nat) (cp : Value) (O : Obj) (k3 k4 k5 : KR) : Array GenState := gensOf (goT 26 w (SA4 w.params os (.ofNat c) (.ofNat (r + 1)) cp O tk) (inT w PQ 123 k3 k4 k5))
noncomputable def FI4 (n : Nat) (w : World) (os : OsState) (c r tk : Nat) (cp : Value) (O : Obj) (p : Pos) (k3 k4 k5 : KR) : RT × RT := (goT n w (SA4 w.params os (.ofNat c) (.ofNat (r + 1)) cp O tk) (inT w p 123 k3 k4 k5), some (⟨TA4 w.params (Int.ofNat c + Int.ofNat 1) (Int.ofNat (r + 1) - 1) (.int (.ofNat c) tk) O, 124, {}, gI4 w os c r tk cp O k3 k4 k5, {}, tk + 2, os⟩, addTh (.int (.ofNat c) tk) k3 k4 k5))
theorem FI4_self : FI4 = FI4 := rfl
name_quick qFI4 for Mine.FI4 by Mine.FI4_self
theorem KI4 : ∀ (w : World) (os : OsState) c r tk cp O p k3 k4 k5, (PySem.W.Fast.qFI4 26 (w) os c r tk cp O p k3 k4 k5).1 = (PySem.W.Fast.qFI4 26 (w) os c r tk cp O p k3 k4 k5).2 := fun w os c r tk cp O p k3 k4 k5 => by kernel_rfl
theorem GI4 (w : World) (os : OsState) (c r tk : Nat) (cp : Value) (O : Obj) (p : Pos) (k3 k4 k5 : KR) : Goes w (SA4 w.params os (.ofNat c) (.ofNat (r + 1)) cp O tk) (inT w p 123 k3 k4 k5) (⟨TA4 w.params (Int.ofNat c + Int.ofNat 1) (Int.ofNat (r + 1) - 1) (.int (.ofNat c) tk) O, 124, {}, gI4 w os c r tk cp O k3 k4 k5, {}, tk + 2, os⟩) (addTh (.int (.ofNat c) tk) k3 k4 k5) 26 := ⟨26, Nat.le_refl _, by have h := KI4 w os c r tk cp O p k3 k4 k5; rw [← PySem.W.Fast.qFI4_eq] at h; unfold FI4 at h; dsimp only at h; exact h⟩
noncomputable def FJ4 (n : Nat) (w : World) (os : OsState) (c r tk tk2 : Nat) (i j : Int) (cp cp2 : Value) (O O2 : Obj) (k3 k4 k5 : KR) : RT × RT := (goT n w (⟨TA4 w.params i j cp2 O2, 124, {}, gI4 w os c r tk cp O k3 k4 k5, {}, tk2, os⟩) (agTh k3 k4 k5), some (SA4 w.params os i j cp2 O2 tk2, inT w PR 123 k3 k4 k5))
theorem FJ4_self : FJ4 = FJ4 := rfl
name_quick qFJ4 for Mine.FJ4 by Mine.FJ4_self
theorem KJ4 : ∀ (w : World) (os : OsState) c r tk tk2 i j cp cp2 O O2 k3 k4 k5, (PySem.W.Fast.qFJ4 11 (w) os c r tk tk2 i j cp cp2 O O2 k3 k4 k5).1 = (PySem.W.Fast.qFJ4 11 (w) os c r tk tk2 i j cp cp2 O O2 k3 k4 k5).2 := fun w os c r tk tk2 i j cp cp2 O O2 k3 k4 k5 => by kernel_rfl
theorem GJ4 (w : World) (os : OsState) (c r tk tk2 : Nat) (i j : Int) (cp cp2 : Value) (O O2 : Obj) (k3 k4 k5 : KR) : Goes w (⟨TA4 w.params i j cp2 O2, 124, {}, gI4 w os c r tk cp O k3 k4 k5, {}, tk2, os⟩) (agTh k3 k4 k5) (SA4 w.params os i j cp2 O2 tk2) (inT w PR 123 k3 k4 k5) 11 := ⟨11, Nat.le_refl _, by have h := KJ4 w os c r tk tk2 i j cp cp2 O O2 k3 k4 k5; rw [← PySem.W.Fast.qFJ4_eq] at h; unfold FJ4 at h; dsimp only at h; exact h⟩
noncomputable def FE4 (n : Nat) (w : World) (os : OsState) (tk : Nat) (cp : Value) (O : Obj) (p : Pos) (k3 k4 k5 : KR) : RT × RT := (goT n w (SA4 w.params os (.ofNat 8602) (.ofNat 0) cp O tk) (inT w p 123 k3 k4 k5), some (SD5 w.params os cp O tk, outT w k3 k4 k5))
theorem FE4_self : FE4 = FE4 := rfl
name_quick qFE4 for Mine.FE4 by Mine.FE4_self
theorem KE4 : ∀ (w : World) (os : OsState) tk cp O p k3 k4 k5, (PySem.W.Fast.qFE4 16 (w) os tk cp O p k3 k4 k5).1 = (PySem.W.Fast.qFE4 16 (w) os tk cp O p k3 k4 k5).2 := fun w os tk cp O p k3 k4 k5 => by kernel_rfl
theorem GE4 (w : World) (os : OsState) (tk : Nat) (cp : Value) (O : Obj) (p : Pos) (k3 k4 k5 : KR) : Goes w (SA4 w.params os (.ofNat 8602) (.ofNat 0) cp O tk) (inT w p 123 k3 k4 k5) (SD5 w.params os cp O tk) (outT w k3 k4 k5) 16 := ⟨16, Nat.le_refl _, by have h := KE4 w os tk cp O p k3 k4 k5; rw [← PySem.W.Fast.qFE4_eq] at h; unfold FE4 at h; dsimp only at h; exact h⟩
noncomputable def FA5 (n : Nat) (w : World) (os : OsState) (cp : Value) (O : Obj) (k3 k4 k5 : KR) : RT × RT := (goT n w (SD5 w.params os cp O 442) (outT w k3 k4 k5), some (SA5 w.params os (.ofNat 8986) (.ofNat 2) cp O 447, thr (csG 1 130) PQ (k0F k0 (inF (kg w) (kn w) (uf k3 k4 k5)))))
theorem FA5_self : FA5 = FA5 := rfl
name_quick qFA5 for Mine.FA5 by Mine.FA5_self
theorem KA5_false : ∀ (w : World) (os : OsState) cp O k3 k4 k5, (PySem.W.Fast.qFA5 116 (wg false w) os cp O k3 k4 k5).1 = (PySem.W.Fast.qFA5 116 (wg false w) os cp O k3 k4 k5).2 := fun w os cp O k3 k4 k5 => by kernel_rfl
theorem KA5_true : ∀ (w : World) (os : OsState) cp O k3 k4 k5, (PySem.W.Fast.qFA5 116 (wg true w) os cp O k3 k4 k5).1 = (PySem.W.Fast.qFA5 116 (wg true w) os cp O k3 k4 k5).2 := fun w os cp O k3 k4 k5 => by kernel_rfl
theorem GA5 (w : World) (os : OsState) (cp : Value) (O : Obj) (k3 k4 k5 : KR) : Goes w (SD5 w.params os cp O 442) (outT w k3 k4 k5) (SA5 w.params os (.ofNat 8986) (.ofNat 2) cp O 447) (thr (csG 1 130) PQ (k0F k0 (inF (kg w) (kn w) (uf k3 k4 k5)))) 116 := by
  revert w; refine rows1 (fun b w => ?_); cases b
  · exact ⟨116, Nat.le_refl _, by have h := KA5_false w os cp O k3 k4 k5; rw [← PySem.W.Fast.qFA5_eq] at h; unfold FA5 at h; dsimp only at h; exact h⟩
  · exact ⟨116, Nat.le_refl _, by have h := KA5_true w os cp O k3 k4 k5; rw [← PySem.W.Fast.qFA5_eq] at h; unfold FA5 at h; dsimp only at h; exact h⟩
noncomputable def FS5 (n : Nat) (w : World) (os : OsState) (cp : Value) (O : Obj) (k3 k4 k5 : KR) : RT × RT := (goT n w (SA5 w.params os (.ofNat 8986) (.ofNat 2) cp O 447) (thr (csG 1 130) PQ (k0F k0 (inF (kg w) (kn w) (uf k3 k4 k5)))), some (SA5 w.params os (.ofNat 8986) (.ofNat 2) cp O 447, inT w PQ 130 k3 k4 k5))
theorem FS5_self : FS5 = FS5 := rfl
name_quick qFS5 for Mine.FS5 by Mine.FS5_self
theorem KS5_ff : ∀ (w : World) (os : OsState) cp O k3 k4 k5, (PySem.W.Fast.qFS5 12 (wf false false w) os cp O k3 k4 k5).1 = (PySem.W.Fast.qFS5 12 (wf false false w) os cp O k3 k4 k5).2 := fun w os cp O k3 k4 k5 => by kernel_rfl
theorem KS5_tf : ∀ (w : World) (os : OsState) cp O k3 k4 k5, (PySem.W.Fast.qFS5 12 (wf true false w) os cp O k3 k4 k5).1 = (PySem.W.Fast.qFS5 12 (wf true false w) os cp O k3 k4 k5).2 := fun w os cp O k3 k4 k5 => by kernel_rfl
theorem KS5_t : ∀ (w : World) (os : OsState) cp O k3 k4 k5, (PySem.W.Fast.qFS5 2 (w.withFollow "comprehension-iter-twice" true) os cp O k3 k4 k5).1 = (PySem.W.Fast.qFS5 2 (w.withFollow "comprehension-iter-twice" true) os cp O k3 k4 k5).2 := fun w os cp O k3 k4 k5 => by kernel_rfl
theorem GS5 (w : World) (os : OsState) (cp : Value) (O : Obj) (k3 k4 k5 : KR) : Goes w (SA5 w.params os (.ofNat 8986) (.ofNat 2) cp O 447) (thr (csG 1 130) PQ (k0F k0 (inF (kg w) (kn w) (uf k3 k4 k5)))) (SA5 w.params os (.ofNat 8986) (.ofNat 2) cp O 447) (inT w PQ 130 k3 k4 k5) 12 := by
  revert w; refine rows2 (fun b1 b2 w => ?_); cases b1 <;> cases b2
  · exact ⟨12, Nat.le_of_ble_eq_true rfl, by have h := KS5_ff w os cp O k3 k4 k5; rw [← PySem.W.Fast.qFS5_eq] at h; unfold FS5 at h; dsimp only at h; exact h⟩
  · exact ⟨2, Nat.le_of_ble_eq_true rfl, by have h := KS5_t (w.withFollow "special-get-raises" false) os cp O k3 k4 k5; rw [← PySem.W.Fast.qFS5_eq] at h; unfold FS5 at h; dsimp only at h; exact h⟩
  · exact ⟨12, Nat.le_of_ble_eq_true rfl, by have h := KS5_tf w os cp O k3 k4 k5; rw [← PySem.W.Fast.qFS5_eq] at h; unfold FS5 at h; dsimp only at h; exact h⟩
  · exact ⟨2, Nat.le_of_ble_eq_true rfl, by have h := KS5_t (w.withFollow "special-get-raises" true) os cp O k3 k4 k5; rw [← PySem.W.Fast.qFS5_eq] at h; unfold FS5 at h; dsimp only at h; exact h⟩
noncomputable def gI5 (w : World) (os : OsState) (c r tk : Nat) (cp : Value) (O : Obj) (k3 k4 k5 : KR) : Array GenState := gensOf (goT 26 w (SA5 w.params os (.ofNat c) (.ofNat (r + 1)) cp O tk) (inT w PQ 130 k3 k4 k5))
noncomputable def FI5 (n : Nat) (w : World) (os : OsState) (c r tk : Nat) (cp : Value) (O : Obj) (p : Pos) (k3 k4 k5 : KR) : RT × RT := (goT n w (SA5 w.params os (.ofNat c) (.ofNat (r + 1)) cp O tk) (inT w p 130 k3 k4 k5), some (⟨TA5 w.params (Int.ofNat c + Int.ofNat 1) (Int.ofNat (r + 1) - 1) (.int (.ofNat c) tk) O, 131, {}, gI5 w os c r tk cp O k3 k4 k5, {}, tk + 2, os⟩, addTh (.int (.ofNat c) tk) k3 k4 k5))
theorem FI5_self : FI5 = FI5 := rfl
name_quick qFI5 for Mine.FI5 by Mine.FI5_self
theorem KI5 : ∀ (w : World) (os : OsState) c r tk cp O p k3 k4 k5, (PySem.W.Fast.qFI5 26 (w) os c r tk cp O p k3 k4 k5).1 = (PySem.W.Fast.qFI5 26 (w) os c r tk cp O p k3 k4 k5).2 := fun w os c r tk cp O p k3 k4 k5 => by kernel_rfl
theorem GI5 (w : World) (os : OsState) (c r tk : Nat) (cp : Value) (O : Obj) (p : Pos) (k3 k4 k5 : KR) : Goes w (SA5 w.params os (.ofNat c) (.ofNat (r + 1)) cp O tk) (inT w p 130 k3 k4 k5) (⟨TA5 w.params (Int.ofNat c + Int.ofNat 1) (Int.ofNat (r + 1) - 1) (.int (.ofNat c) tk) O, 131, {}, gI5 w os c r tk cp O k3 k4 k5, {}, tk + 2, os⟩) (addTh (.int (.ofNat c) tk) k3 k4 k5) 26 := ⟨26, Nat.le_refl _, by have h := KI5 w os c r tk cp O p k3 k4 k5; rw [← PySem.W.Fast.qFI5_eq] at h; unfold FI5 at h; dsimp only at h; exact h⟩
noncomputable def FJ5 (n : Nat) (w : World) (os : OsState) (c r tk tk2 : Nat) (i j : Int) (cp cp2 : Value) (O O2 : Obj) (k3 k4 k5 : KR) : RT × RT := (goT n w (⟨TA5 w.params i j cp2 O2, 131, {}, gI5 w os c r tk cp O k3 k4 k5, {}, tk2, os⟩) (agTh k3 k4 k5), some (SA5 w.params os i j cp2 O2 tk2, inT w PR 130 k3 k4 k5))
theorem FJ5_self : FJ5 = FJ5 := rfl
name_quick qFJ5 for Mine.FJ5 by Mine.FJ5_self
theorem KJ5 : ∀ (w : World) (os : OsState) c r tk tk2 i j cp cp2 O O2 k3 k4 k5, (PySem.W.Fast.qFJ5 11 (w) os c r tk tk2 i j cp cp2 O O2 k3 k4 k5).1 = (PySem.W.Fast.qFJ5 11 (w) os c r tk tk2 i j cp cp2 O O2 k3 k4 k5).2 := fun w os c r tk tk2 i j cp cp2 O O2 k3 k4 k5 => by kernel_rfl
theorem GJ5 (w : World) (os : OsState) (c r tk tk2 : Nat) (i j : Int) (cp cp2 : Value) (O O2 : Obj) (k3 k4 k5 : KR) : Goes w (⟨TA5 w.params i j cp2 O2, 131, {}, gI5 w os c r tk cp O k3 k4 k5, {}, tk2, os⟩) (agTh k3 k4 k5) (SA5 w.params os i j cp2 O2 tk2) (inT w PR 130 k3 k4 k5) 11 := ⟨11, Nat.le_refl _, by have h := KJ5 w os c r tk tk2 i j cp cp2 O O2 k3 k4 k5; rw [← PySem.W.Fast.qFJ5_eq] at h; unfold FJ5 at h; dsimp only at h; exact h⟩
noncomputable def FE5 (n : Nat) (w : World) (os : OsState) (tk : Nat) (cp : Value) (O : Obj) (p : Pos) (k3 k4 k5 : KR) : RT × RT := (goT n w (SA5 w.params os (.ofNat 8988) (.ofNat 0) cp O tk) (inT w p 130 k3 k4 k5), some (SD6 w.params os cp O tk, outT w k3 k4 k5))
theorem FE5_self : FE5 = FE5 := rfl
name_quick qFE5 for Mine.FE5 by Mine.FE5_self
theorem KE5 : ∀ (w : World) (os : OsState) tk cp O p k3 k4 k5, (PySem.W.Fast.qFE5 16 (w) os tk cp O p k3 k4 k5).1 = (PySem.W.Fast.qFE5 16 (w) os tk cp O p k3 k4 k5).2 := fun w os tk cp O p k3 k4 k5 => by kernel_rfl
theorem GE5 (w : World) (os : OsState) (tk : Nat) (cp : Value) (O : Obj) (p : Pos) (k3 k4 k5 : KR) : Goes w (SA5 w.params os (.ofNat 8988) (.ofNat 0) cp O tk) (inT w p 130 k3 k4 k5) (SD6 w.params os cp O tk) (outT w k3 k4 k5) 16 := ⟨16, Nat.le_refl _, by have h := KE5 w os tk cp O p k3 k4 k5; rw [← PySem.W.Fast.qFE5_eq] at h; unfold FE5 at h; dsimp only at h; exact h⟩
noncomputable def FA6 (n : Nat) (w : World) (os : OsState) (cp : Value) (O : Obj) (k3 k4 k5 : KR) : RT × RT := (goT n w (SD6 w.params os cp O 453) (outT w k3 k4 k5), some (SA6 w.params os (.ofNat 9193) (.ofNat 11) cp O 458, thr (csG 1 137) PQ (k0F k0 (inF (kg w) (kn w) (uf k3 k4 k5)))))
theorem FA6_self : FA6 = FA6 := rfl
name_quick qFA6 for Mine.FA6 by Mine.FA6_self
theorem KA6_false : ∀ (w : World) (os : OsState) cp O k3 k4 k5, (PySem.W.Fast.qFA6 116 (wg false w) os cp O k3 k4 k5).1 = (PySem.W.Fast.qFA6 116 (wg false w) os cp O k3 k4 k5).2 := fun w os cp O k3 k4 k5 => by kernel_rfl
theorem KA6_true : ∀ (w : World) (os : OsState) cp O k3 k4 k5, (PySem.W.Fast.qFA6 116 (wg true w) os cp O k3 k4 k5).1 = (PySem.W.Fast.qFA6 116 (wg true w) os cp O k3 k4 k5).2 := fun w os cp O k3 k4 k5 => by kernel_rfl
theorem GA6 (w : World) (os : OsState) (cp : Value) (O : Obj) (k3 k4 k5 : KR) : Goes w (SD6 w.params os cp O 453) (outT w k3 k4 k5) (SA6 w.params os (.ofNat 9193) (.ofNat 11) cp O 458) (thr (csG 1 137) PQ (k0F k0 (inF (kg w) (kn w) (uf k3 k4 k5)))) 116 := by
  revert w; refine rows1 (fun b w => ?_); cases b
  · exact ⟨116, Nat.le_refl _, by have h := KA6_false w os cp O k3 k4 k5; rw [← PySem.W.Fast.qFA6_eq] at h; unfold FA6 at h; dsimp only at h; exact h⟩
  · exact ⟨116, Nat.le_refl _, by have h := KA6_true w os cp O k3 k4 k5; rw [← PySem.W.Fast.qFA6_eq] at h; unfold FA6 at h; dsimp only at h; exact h⟩
noncomputable def FS6 (n : Nat) (w : World) (os : OsState) (cp : Value) (O : Obj) (k3 k4 k5 : KR) : RT × RT := (goT n w (SA6 w.params os (.ofNat 9193) (.ofNat 11) cp O 458) (thr (csG 1 137) PQ (k0F k0 (inF (kg w) (kn w) (uf k3 k4 k5)))), some (SA6 w.params os (.ofNat 9193) (.ofNat 11) cp O 458, inT w PQ 137 k3 k4 k5))
theorem FS6_self : FS6 = FS6 := rfl
name_quick qFS6 for Mine.FS6 by Mine.FS6_self
theorem KS6_ff : ∀ (w : World) (os : OsState) cp O k3 k4 k5, (PySem.W.Fast.qFS6 12 (wf false false w) os cp O k3 k4 k5).1 = (PySem.W.Fast.qFS6 12 (wf false false w) os cp O k3 k4 k5).2 := fun w os cp O k3 k4 k5 => by kernel_rfl
theorem KS6_tf : ∀ (w : World) (os : OsState) cp O k3 k4 k5, (PySem.W.Fast.qFS6 12 (wf true false w) os cp O k3 k4 k5).1 = (PySem.W.Fast.qFS6 12 (wf true false w) os cp O k3 k4 k5).2 := fun w os cp O k3 k4 k5 => by kernel_rfl
theorem KS6_t : ∀ (w : World) (os : OsState) cp O k3 k4 k5, (PySem.W.Fast.qFS6 2 (w.withFollow "comprehension-iter-twice" true) os cp O k3 k4 k5).1 = (PySem.W.Fast.qFS6 2 (w.withFollow "comprehension-iter-twice" true) os cp O k3 k4 k5).2 := fun w os cp O k3 k4 k5 => by kernel_rfl
theorem GS6 (w : World) (os : OsState) (cp : Value) (O : Obj) (k3 k4 k5 : KR) : Goes w (SA6 w.params os (.ofNat 9193) (.ofNat 11) cp O 458) (thr (csG 1 137) PQ (k0F k0 (inF (kg w) (kn w) (uf k3 k4 k5)))) (SA6 w.params os (.ofNat 9193) (.ofNat 11) cp O 458) (inT w PQ 137 k3 k4 k5) 12 := by
  revert w; refine rows2 (fun b1 b2 w => ?_); cases b1 <;> cases b2
  · exact ⟨12, Nat.le_of_ble_eq_true rfl, by have h := KS6_ff w os cp O k3 k4 k5; rw [← PySem.W.Fast.qFS6_eq] at h; unfold FS6 at h; dsimp only at h; exact h⟩
  · exact ⟨2, Nat.le_of_ble_eq_true rfl, by have h := KS6_t (w.withFollow "special-get-raises" false) os cp O k3 k4 k5; rw [← PySem.W.Fast.qFS6_eq] at h; unfold FS6 at h; dsimp only at h; exact h⟩
  · exact ⟨12, Nat.le_of_ble_eq_true rfl, by have h := KS6_tf w os cp O k3 k4 k5; rw [← PySem.W.Fast.qFS6_eq] at h; unfold FS6 at h; dsimp only at h; exact h⟩
  · exact ⟨2, Nat.le_of_ble_eq_true rfl, by have h := KS6_t (w.withFollow "special-get-raises" true) os cp O k3 k4 k5; rw [← PySem.W.Fast.qFS6_eq] at h; unfold FS6 at h; dsimp only at h; exact h⟩
noncomputable def gI6 (w : World) (os : OsState) (c r tk : Nat) (cp : Value) (O : Obj) (k3 k4 k5 : KR) : Array GenState := gensOf (goT 26 w (SA6 w.params os (.ofNat c) (.ofNat (r + 1)) cp O tk) (inT w PQ 137 k3 k4 k5))
noncomputable def FI6 (n : Nat) (w : World) (os : OsState) (c r tk : Nat) (cp : Value) (O : Obj) (p : Pos) (k3 k4 k5 : KR) : RT × RT := (goT n w (SA6 w.params os (.ofNat c) (.ofNat (r + 1)) cp O tk) (inT w p 137 k3 k4 k5), some (⟨TA6 w.params (Int.ofNat c + Int.ofNat 1) (Int.ofNat (r + 1) - 1) (.int (.ofNat c) tk) O, 138, {}, gI6 w os c r tk cp O k3 k4 k5, {}, tk + 2, os⟩, addTh (.int (.ofNat c) tk) k3 k4 k5))
theorem FI6_self : FI6 = FI6 := rfl
name_quick qFI6 for Mine.FI6 by Mine.FI6_self
theorem KI6 : ∀ (w : World) (os : OsState) c r tk cp O p k3 k4 k5, (PySem.W.Fast.qFI6 26 (w) os c r tk cp O p k3 k4 k5).1 = (PySem.W.Fast.qFI6 26 (w) os c r tk cp O p k3 k4 k5).2 := fun w os c r tk cp O p k3 k4 k5 => by kernel_rfl
theorem GI6 (w : World) (os : OsState) (c r tk : Nat) (cp : Value) (O : Obj) (p : Pos) (k3 k4 k5 : KR) : Goes w (SA6 w.params os (.ofNat c) (.ofNat (r + 1)) cp O tk) (inT w p 137 k3 k4 k5) (⟨TA6 w.params (Int.ofNat c + Int.ofNat 1) (Int.ofNat (r + 1) - 1) (.int (.ofNat c) tk) O, 138, {}, gI6 w os c r tk cp O k3 k4 k5, {}, tk + 2, os⟩) (addTh (.int (.ofNat c) tk) k3 k4 k5) 26 := ⟨26, Nat.le_refl _, by have h := KI6 w os c r tk cp O p k3 k4 k5; rw [← PySem.W.Fast.qFI6_eq] at h; unfold FI6 at h; dsimp only at h; exact h⟩
noncomputable def FJ6 (n : Nat) (w : World) (os : OsState) (c r tk tk2 : Nat) (i j : Int) (cp cp2 : Value) (O O2 : Obj) (k3 k4 k5 : KR) : RT × RT := (goT n w (⟨TA6 w.params i j cp2 O2, 138, {}, gI6 w os c r tk cp O k3 k4 k5, {}, tk2, os⟩) (agTh k3 k4 k5), some (SA6 w.params os i j cp2 O2 tk2, inT w PR 137 k3 k4 k5))
theorem FJ6_self : FJ6 = FJ6 := rfl
name_quick qFJ6 for Mine.FJ6 by Mine.FJ6_self
theorem KJ6 : ∀ (w : World) (os : OsState) c r tk tk2 i j cp cp2 O O2 k3 k4 k5, (PySem.W.Fast.qFJ6 11 (w) os c r tk tk2 i j cp cp2 O O2 k3 k4 k5).1 = (PySem.W.Fast.qFJ6 11 (w) os c r tk tk2 i j cp cp2 O O2 k3 k4 k5).2 := fun w os c r tk tk2 i j cp cp2 O O2 k3 k4 k5 => by kernel_rfl
theorem GJ6 (w : World) (os : OsState) (c r tk tk2 : Nat) (i j : Int) (cp cp2 : Value) (O O2 : Obj) (k3 k4 k5 : KR) : Goes w (⟨TA6 w.params i j cp2 O2, 138, {}, gI6 w os c r tk cp O k3 k4 k5, {}, tk2, os⟩) (agTh k3 k4 k5) (SA6 w.params os i j cp2 O2 tk2) (inT w PR 137 k3 k4 k5) 11 := ⟨11, Nat.le_refl _, by have h := KJ6 w os c r tk tk2 i j cp cp2 O O2 k3 k4 k5; rw [← PySem.W.Fast.qFJ6_eq] at h; unfold FJ6 at h; dsimp only at h; exact h⟩
noncomputable def FE6 (n : Nat) (w : World) (os : OsState) (tk : Nat) (cp : Value) (O : Obj) (p : Pos) (k3 k4 k5 : KR) : RT × RT := (goT n w (SA6 w.params os (.ofNat 9204) (.ofNat 0) cp O tk) (inT w p 137 k3 k4 k5), some (SD7 w.params os cp O tk, outT w k3 k4 k5))
theorem FE6_self : FE6 = FE6 := rfl
name_quick qFE6 for Mine.FE6 by Mine.FE6_self
theorem KE6 : ∀ (w : World) (os : OsState) tk cp O p k3 k4 k5, (PySem.W.Fast.qFE6 16 (w) os tk cp O p k3 k4 k5).1 = (PySem.W.Fast.qFE6 16 (w) os tk cp O p k3 k4 k5).2 := fun w os tk cp O p k3 k4 k5 => by kernel_rfl
theorem GE6 (w : World) (os : OsState) (tk : Nat) (cp : Value) (O : Obj) (p : Pos) (k3 k4 k5 : KR) : Goes w (SA6 w.params os (.ofNat 9204) (.ofNat 0) cp O tk) (inT w p 137 k3 k4 k5) (SD7 w.params os cp O tk) (outT w k3 k4 k5) 16 := ⟨16, Nat.le_refl _, by have h := KE6 w os tk cp O p k3 k4 k5; rw [← PySem.W.Fast.qFE6_eq] at h; unfold FE6 at h; dsimp only at h; exact h⟩
noncomputable def FA7 (n : Nat) (w : World) (os : OsState) (cp : Value) (O : Obj) (k3 k4 k5 : KR) : RT × RT := (goT n w (SD7 w.params os cp O 491) (outT w k3 k4 k5), some (SA7 w.params os (.ofNat 9728) (.ofNat 5) cp O 496, thr (csG 1 144) PQ (k0F k0 (inF (kg w) (kn w) (uf k3 k4 k5)))))
theorem FA7_self : FA7 = FA7 := rfl
name_quick qFA7 for Mine.FA7 by Mine.FA7_self
theorem KA7_false : ∀ (w : World) (os : OsState) cp O k3 k4 k5, (PySem.W.Fast.qFA7 116 (wg false w) os cp O k3 k4 k5).1 = (PySem.W.Fast.qFA7 116 (wg false w) os cp O k3 k4 k5).2 := fun w os cp O k3 k4 k5 => by kernel_rfl
theorem KA7_true : ∀ (w : World) (os : OsState) cp O k3 k4 k5, (PySem.W.Fast.qFA7 116 (wg true w) os cp O k3 k4 k5).1 = (PySem.W.Fast.qFA7 116 (wg true w) os cp O k3 k4 k5).2 := fun w os cp O k3 k4 k5 => by kernel_rfl
theorem GA7 (w : World) (os : OsState) (cp : Value) (O : Obj) (k3 k4 k5 : KR) : Goes w (SD7 w.params os cp O 491) (outT w k3 k4 k5) (SA7 w.params os (.ofNat 9728) (.ofNat 5) cp O 496) (thr (csG 1 144) PQ (k0F k0 (inF (kg w) (kn w) (uf k3 k4 k5)))) 116 := by
  revert w; refine rows1 (fun b w => ?_); cases b
  · exact ⟨116, Nat.le_refl _, by have h := KA7_false w os cp O k3 k4 k5; rw [← PySem.W.Fast.qFA7_eq] at h; unfold FA7 at h; dsimp only at h; exact h⟩
  · exact ⟨116, Nat.le_refl _, by have h := KA7_true w os cp O k3 k4 k5; rw [← PySem.W.Fast.qFA7_eq] at h; unfold FA7 at h; dsimp only at h; exact h⟩
noncomputable def FS7 (n : Nat) (w : World) (os : OsState) (cp : Value) (O : Obj) (k3 k4 k5 : KR) : RT × RT := (goT n w (SA7 w.params os (.ofNat 9728) (.ofNat 5) cp O 496) (thr (csG 1 144) PQ (k0F k0 (inF (kg w) (kn w) (uf k3 k4 k5)))), some (SA7 w.params os (.ofNat 9728) (.ofNat 5) cp O 496, inT w PQ 144 k3 k4 k5))
theorem FS7_self : FS7 = FS7 := rfl
name_quick qFS7 for Mine.FS7 by Mine.FS7_self
theorem KS7_ff : ∀ (w : World) (os : OsState) cp O k3 k4 k5, (PySem.W.Fast.qFS7 12 (wf false false w) os cp O k3 k4 k5).1 = (PySem.W.Fast.qFS7 12 (wf false false w) os cp O k3 k4 k5).2 := fun w os cp O k3 k4 k5 => by kernel_rfl
theorem KS7_tf : ∀ (w : World) (os : OsState) cp O k3 k4 k5, (PySem.W.Fast.qFS7 12 (wf true false w) os cp O k3 k4 k5).1 = (PySem.W.Fast.qFS7 12 (wf true false w) os cp O k3 k4 k5).2 := fun w os cp O k3 k4 k5 => by kernel_rfl
theorem KS7_t : ∀ (w : World) (os : OsState) cp O k3 k4 k5, (PySem.W.Fast.qFS7 2 (w.withFollow "comprehension-iter-twice" true) os cp O k3 k4 k5).1 = (PySem.W.Fast.qFS7 2 (w.withFollow "comprehension-iter-twice" true) os cp O k3 k4 k5).2 := fun w os cp O k3 k4 k5 => by kernel_rfl
theorem GS7 (w : World) (os : OsState) (cp : Value) (O : Obj) (k3 k4 k5 : KR) : Goes w (SA7 w.params os (.ofNat 9728) (.ofNat 5) cp O 496) (thr (csG 1 144) PQ (k0F k0 (inF (kg w) (kn w) (uf k3 k4 k5)))) (SA7 w.params os (.ofNat 9728) (.ofNat 5) cp O 496) (inT w PQ 144 k3 k4 k5) 12 := by
  revert w; refine rows2 (fun b1 b2 w => ?_); cases b1 <;> cases b2
  · exact ⟨12, Nat.le_of_ble_eq_true rfl, by have h := KS7_ff w os cp O k3 k4 k5; rw [← PySem.W.Fast.qFS7_eq] at h; unfold FS7 at h; dsimp only at h; exact h⟩
  · exact ⟨2, Nat.le_of_ble_eq_true rfl, by have h := KS7_t (w.withFollow "special-get-raises" false) os cp O k3 k4 k5; rw [← PySem.W.Fast.qFS7_eq] at h; unfold FS7 at h; dsimp only at h; exact h⟩
  · exact ⟨12, Nat.le_of_ble_eq_true rfl, by have h := KS7_tf w os cp O k3 k4 k5; rw [← PySem.W.Fast.qFS7_eq] at h; unfold FS7 at h; dsimp only at h; exact h⟩
  · exact ⟨2, Nat.le_of_ble_eq_true rfl, by have h := KS7_t (w.withFollow "special-get-raises" true) os cp O k3 k4 k5; rw [← PySem.W.Fast.qFS7_eq] at h; unfold FS7 at h; dsimp only at h; exact h⟩
noncomputable def gI7 (w : World) (os : OsState) (c r tk : Nat) (cp : Value) (O : Obj) (k3 k4 k5 : KR) : Array GenState := gensOf (goT 26 w (SA7 w.params os (.ofNat c) (.ofNat (r + 1)) cp O tk) (inT w PQ 144 k3 k4 k5))
noncomputable def FI7 (n : Nat) (w : World) (os : OsState) (c r tk : Nat) (cp : Value) (O : Obj) (p : Pos) (k3 k4 k5 : KR) : RT × RT := (goT n w (SA7 w.params os (.ofNat c) (.ofNat (r + 1)) cp O tk) (inT w p 144 k3 k4 k5), some (⟨TA7 w.params (Int.ofNat c + Int.ofNat 1) (Int.ofNat (r + 1) - 1) (.int (.ofNat c) tk) O, 145, {}, gI7 w os c r tk cp O k3 k4 k5, {}, tk + 2, os⟩, addTh (.int (.ofNat c) tk) k3 k4 k5))
theorem FI7_self : FI7 = FI7 := rfl
name_quick qFI7 for Mine.FI7 by Mine.FI7_self
theorem KI7 : ∀ (w : World) (os : OsState) c r tk cp O p k3 k4 k5, (PySem.W.Fast.qFI7 26 (w) os c r tk cp O p k3 k4 k5).1 = (PySem.W.Fast.qFI7 26 (w) os c r tk cp O p k3 k4 k5).2 := fun w os c r tk cp O p k3 k4 k5 => by kernel_rfl
theorem GI7 (w : World) (os : OsState) (c r tk : Nat) (cp : Value) (O : Obj) (p : Pos) (k3 k4 k5 : KR) : Goes w (SA7 w.params os (.ofNat c) (.ofNat (r + 1)) cp O tk) (inT w p 144 k3 k4 k5) (⟨TA7 w.params (Int.ofNat c + Int.ofNat 1) (Int.ofNat (r + 1) - 1) (.int (.ofNat c) tk) O, 145, {}, gI7 w os c r tk cp O k3 k4 k5, {}, tk + 2, os⟩) (addTh (.int (.ofNat c) tk) k3 k4 k5) 26 := ⟨26, Nat.le_refl _, by have h := KI7 w os c r tk cp O p k3 k4 k5; rw [← PySem.W.Fast.qFI7_eq] at h; unfold FI7 at h; dsimp only at h; exact h⟩
noncomputable def FJ7 (n : Nat) (w : World) (os : OsState) (c r tk tk2 : Nat) (i j : Int) (cp cp2 : Value) (O O2 : Obj) (k3 k4 k5 : KR) : RT × RT := (goT n w (⟨TA7 w.params i j cp2 O2, 145, {}, gI7 w os c r tk cp O k3 k4 k5, {}, tk2, os⟩) (agTh k3 k4 k5), some (SA7 w.params os i j cp2 O2 tk2, inT w PR 144 k3 k4 k5))
theorem FJ7_self : FJ7 = FJ7 := rfl
name_quick qFJ7 for Mine.FJ7 by Mine.FJ7_self
theorem KJ7 : ∀ (w : World) (os : OsState) c r tk tk2 i j cp cp2 O O2 k3 k4 k5, (PySem.W.Fast.qFJ7 11 (w) os c r tk tk2 i j cp cp2 O O2 k3 k4 k5).1 = (PySem.W.Fast.qFJ7 11 (w) os c r tk tk2 i j cp cp2 O O2 k3 k4 k5).2 := fun w os c r tk tk2 i j cp cp2 O O2 k3 k4 k5 => by kernel_rfl
theorem GJ7 (w : World) (os : OsState) (c r tk tk2 : Nat) (i j : Int) (cp cp2 : Value) (O O2 : Obj) (k3 k4 k5 : KR) : Goes w (⟨TA7 w.params i j cp2 O2, 145, {}, gI7 w os c r tk cp O k3 k4 k5, {}, tk2, os⟩) (agTh k3 k4 k5) (SA7 w.params os i j cp2 O2 tk2) (inT w PR 144 k3 k4 k5) 11 := ⟨11, Nat.le_refl _, by have h := KJ7 w os c r tk tk2 i j cp cp2 O O2 k3 k4 k5; rw [← PySem.W.Fast.qFJ7_eq] at h; unfold FJ7 at h; dsimp only at h; exact h⟩
noncomputable def FE7 (n : Nat) (w : World) (os : OsState) (tk : Nat) (cp : Value) (O : Obj) (p : Pos) (k3 k4 k5 : KR) : RT × RT := (goT n w (SA7 w.params os (.ofNat 9733) (.ofNat 0) cp O tk) (inT w p 144 k3 k4 k5), some (SD8 w.params os cp O tk, outT w k3 k4 k5))
theorem FE7_self : FE7 = FE7 := rfl
name_quick qFE7 for Mine.FE7 by Mine.FE7_self
theorem KE7 : ∀ (w : World) (os : OsState) tk cp O p k3 k4 k5, (PySem.W.Fast.qFE7 16 (w) os tk cp O p k3 k4 k5).1 = (PySem.W.Fast.qFE7 16 (w) os tk cp O p k3 k4 k5).2 := fun w os tk cp O p k3 k4 k5 => by kernel_rfl
theorem GE7 (w : World) (os : OsState) (tk : Nat) (cp : Value) (O : Obj) (p : Pos) (k3 k4 k5 : KR) : Goes w (SA7 w.params os (.ofNat 9733) (.ofNat 0) cp O tk) (inT w p 144 k3 k4 k5) (SD8 w.params os cp O tk) (outT w k3 k4 k5) 16 := ⟨16, Nat.le_refl _, by have h := KE7 w os tk cp O p k3 k4 k5; rw [← PySem.W.Fast.qFE7_eq] at h; unfold FE7 at h; dsimp only at h; exact h⟩
noncomputable def FA8 (n : Nat) (w : World) (os : OsState) (cp : Value) (O : Obj) (k3 k4 k5 : KR) : RT × RT := (goT n w (SD8 w.params os cp O 511) (outT w k3 k4 k5), some (SA8 w.params os (.ofNat 9748) (.ofNat 2) cp O 516, thr (csG 1 151) PQ (k0F k0 (inF (kg w) (kn w) (uf k3 k4 k5)))))
theorem FA8_self : FA8 = FA8 := rfl
name_quick qFA8 for Mine.FA8 by Mine.FA8_self
theorem KA8_false : ∀ (w : World) (os : OsState) cp O k3 k4 k5, (PySem.W.Fast.qFA8 116 (wg false w) os cp O k3 k4 k5).1 = (PySem.W.Fast.qFA8 116 (wg false w) os cp O k3 k4 k5).2 := fun w os cp O k3 k4 k5 => by kernel_rfl
theorem KA8_true : ∀ (w : World) (os : OsState) cp O k3 k4 k5, (PySem.W.Fast.qFA8 116 (wg true w) os cp O k3 k4 k5).1 = (PySem.W.Fast.qFA8 116 (wg true w) os cp O k3 k4 k5).2 := fun w os cp O k3 k4 k5 => by kernel_rfl
theorem GA8 (w : World) (os : OsState) (cp : Value) (O : Obj) (k3 k4 k5 : KR) : Goes w (SD8 w.params os cp O 511) (outT w k3 k4 k5) (SA8 w.params os (.ofNat 9748) (.ofNat 2) cp O 516) (thr (csG 1 151) PQ (k0F k0 (inF (kg w) (kn w) (uf k3 k4 k5)))) 116 := by
  revert w; refine rows1 (fun b w => ?_); cases b
  · exact ⟨116, Nat.le_refl _, by have h := KA8_false w os cp O k3 k4 k5; rw [← PySem.W.Fast.qFA8_eq] at h; unfold FA8 at h; dsimp only at h; exact h⟩
  · exact ⟨116, Nat.le_refl _, by have h := KA8_true w os cp O k3 k4 k5; rw [← PySem.W.Fast.qFA8_eq] at h; unfold FA8 at h; dsimp only at h; exact h⟩
noncomputable def FS8 (n : Nat) (w : World) (os : OsState) (cp : Value) (O : Obj) (k3 k4 k5 : KR) : RT × RT := (goT n w (SA8 w.params os (.ofNat 9748) (.ofNat 2) cp O 516) (thr (csG 1 151) PQ (k0F k0 (inF (kg w) (kn w) (uf k3 k4 k5)))), some (SA8 w.params os (.ofNat 9748) (.ofNat 2) cp O 516, inT w PQ 151 k3 k4 k5))
theorem FS8_self : FS8 = FS8 := rfl
name_quick qFS8 for Mine.FS8 by Mine.FS8_self
theorem KS8_ff : ∀ (w : World) (os : OsState) cp O k3 k4 k5, (PySem.W.Fast.qFS8 12 (wf false false w) os cp O k3 k4 k5).1 = (PySem.W.Fast.qFS8 12 (wf false false w) os cp O k3 k4 k5).2 := fun w os cp O k3 k4 k5 => by kernel_rfl
theorem KS8_tf : ∀ (w : World) (os : OsState) cp O k3 k4 k5, (PySem.W.Fast.qFS8 12 (wf true false w) os cp O k3 k4 k5).1 = (PySem.W.Fast.qFS8 12 (wf true false w) os cp O k3 k4 k5).2 := fun w os cp O k3 k4 k5 => by kernel_rfl
theorem KS8_t : ∀ (w : World) (os : OsState) cp O k3 k4 k5, (PySem.W.Fast.qFS8 2 (w.withFollow "comprehension-iter-twice" true) os cp O k3 k4 k5).1 = (PySem.W.Fast.qFS8 2 (w.withFollow "comprehension-iter-twice" true) os cp O k3 k4 k5).2 := fun w os cp O k3 k4 k5 => by kernel_rfl
theorem GS8 (w : World) (os : OsState) (cp : Value) (O : Obj) (k3 k4 k5 : KR) : Goes w (SA8 w.params os (.ofNat 9748) (.ofNat 2) cp O 516) (thr (csG 1 151) PQ (k0F k0 (inF (kg w) (kn w) (uf k3 k4 k5)))) (SA8 w.params os (.ofNat 9748) (.ofNat 2) cp O 516) (inT w PQ 151 k3 k4 k5) 12 := by
  revert w; refine rows2 (fun b1 b2 w => ?_); cases b1 <;> cases b2
  · exact ⟨12, Nat.le_of_ble_eq_true rfl, by have h := KS8_ff w os cp O k3 k4 k5; rw [← PySem.W.Fast.qFS8_eq] at h; unfold FS8 at h; dsimp only at h; exact h⟩
  · exact ⟨2, Nat.le_of_ble_eq_true rfl, by have h := KS8_t (w.withFollow "special-get-raises" false) os cp O k3 k4 k5; rw [← PySem.W.Fast.qFS8_eq] at h; unfold FS8 at h; dsimp only at h; exact h⟩
  · exact ⟨12, Nat.le_of_ble_eq_true rfl, by have h := KS8_tf w os cp O k3 k4 k5; rw [← PySem.W.Fast.qFS8_eq] at h; unfold FS8 at h; dsimp only at h; exact h⟩
  · exact ⟨2, Nat.le_of_ble_eq_true rfl, by have h := KS8_t (w.withFollow "special-get-raises" true) os cp O k3 k4 k5; rw [← PySem.W.Fast.qFS8_eq] at h; unfold FS8 at h; dsimp only at h; exact h⟩
noncomputable def gI8 (w : World) (os : OsState) (c r tk : Nat) (cp : Value) (O : Obj) (k3 k4 k5 : KR) : Array GenState := gensOf (goT 26 w (SA8 w.params os (.ofNat c) (.ofNat (r + 1)) cp O tk) (inT w PQ 151 k3 k4 k5))
noncomputable def FI8 (n : Nat) (w : World) (os : OsState) (c r tk : Nat) (cp : Value) (O : Obj) (p : Pos) (k3 k4 k5 : KR) : RT × RT := (goT n w (SA8 w.params os (.ofNat c) (.ofNat (r + 1)) cp O tk) (inT w p 151 k3 k4 k5), some (⟨TA8 w.params (Int.ofNat c + Int.ofNat 1) (Int.ofNat (r + 1) - 1) (.int (.ofNat c) tk) O, 152, {}, gI8 w os c r tk cp O k3 k4 k5, {}, tk + 2, os⟩, addTh (.int (.ofNat c) tk) k3 k4 k5))
theorem FI8_self : FI8 = FI8 := rfl
name_quick qFI8 for Mine.FI8 by Mine.FI8_self
theorem KI8 : ∀ (w : World) (os : OsState) c r tk cp O p k3 k4 k5, (PySem.W.Fast.qFI8 26 (w) os c r tk cp O p k3 k4 k5).1 = (PySem.W.Fast.qFI8 26 (w) os c r tk cp O p k3 k4 k5).2 := fun w os c r tk cp O p k3 k4 k5 => by kernel_rfl
theorem GI8 (w : World) (os : OsState) (c r tk : Nat) (cp : Value) (O : Obj) (p : Pos) (k3 k4 k5 : KR) : Goes w (SA8 w.params os (.ofNat c) (.ofNat (r + 1)) cp O tk) (inT w p 151 k3 k4 k5) (⟨TA8 w.params (Int.ofNat c + Int.ofNat 1) (Int.ofNat (r + 1) - 1) (.int (.ofNat c) tk) O, 152, {}, gI8 w os c r tk cp O k3 k4 k5, {}, tk + 2, os⟩) (addTh (.int (.ofNat c) tk) k3 k4 k5) 26 := ⟨26, Nat.le_refl _, by have h := KI8 w os c r tk cp O p k3 k4 k5; rw [← PySem.W.Fast.qFI8_eq] at h; unfold FI8 at h; dsimp only at h; exact h⟩
noncomputable def FJ8 (n : Nat) (w : World) (os : OsState) (c r tk tk2 : Nat) (i j : Int) (cp cp2 : Value) (O O2 : Obj) (k3 k4 k5 : KR) : RT × RT := (goT n w (⟨TA8 w.params i j cp2 O2, 152, {}, gI8 w os c r tk cp O k3 k4 k5, {}, tk2, os⟩) (agTh k3 k4 k5), some (SA8 w.params os i j cp2 O2 tk2, inT w PR 151 k3 k4 k5))
theorem FJ8_self : FJ8 = FJ8 := rfl
name_quick qFJ8 for Mine.FJ8 by Mine.FJ8_self
theorem KJ8 : ∀ (w : World) (os : OsState) c r tk tk2 i j cp cp2 O O2 k3 k4 k5, (PySem.W.Fast.qFJ8 11 (w) os c r tk tk2 i j cp cp2 O O2 k3 k4 k5).1 = (PySem.W.Fast.qFJ8 11 (w) os c r tk tk2 i j cp cp2 O O2 k3 k4 k5).2 := fun w os c r tk tk2 i j cp cp2 O O2 k3 k4 k5 => by kernel_rfl
theorem GJ8 (w : World) (os : OsState) (c r tk tk2 : Nat) (i j : Int) (cp cp2 : Value) (O O2 : Obj) (k3 k4 k5 : KR) : Goes w (⟨TA8 w.params i j cp2 O2, 152, {}, gI8 w os c r tk cp O k3 k4 k5, {}, tk2, os⟩) (agTh k3 k4 k5) (SA8 w.params os i j cp2 O2 tk2) (inT w PR 151 k3 k4 k5) 11 := ⟨11, Nat.le_refl _, by have h := KJ8 w os c r tk tk2 i j cp cp2 O O2 k3 k4 k5; rw [← PySem.W.Fast.qFJ8_eq] at h; unfold FJ8 at h; dsimp only at h; exact h⟩
noncomputable def FE8 (n : Nat) (w : World) (os : OsState) (tk : Nat) (cp : Value) (O : Obj) (p : Pos) (k3 k4 k5 : KR) : RT × RT := (goT n w (SA8 w.params os (.ofNat 9750) (.ofNat 0) cp O tk) (inT w p 151 k3 k4 k5), some (SD9 w.params os cp O tk, outT w k3 k4 k5))
theorem FE8_self : FE8 = FE8 := rfl
name_quick qFE8 for Mine.FE8 by Mine.FE8_self
theorem KE8 : ∀ (w : World) (os : OsState) tk cp O p k3 k4 k5, (PySem.W.Fast.qFE8 16 (w) os tk cp O p k3 k4 k5).1 = (PySem.W.Fast.qFE8 16 (w) os tk cp O p k3 k4 k5).2 := fun w os tk cp O p k3 k4 k5 => by kernel_rfl
theorem GE8 (w : World) (os : OsState) (tk : Nat) (cp : Value) (O : Obj) (p : Pos) (k3 k4 k5 : KR) : Goes w (SA8 w.params os (.ofNat 9750) (.ofNat 0) cp O tk) (inT w p 151 k3 k4 k5) (SD9 w.params os cp O tk) (outT w k3 k4 k5) 16 := ⟨16, Nat.le_refl _, by have h := KE8 w os tk cp O p k3 k4 k5; rw [← PySem.W.Fast.qFE8_eq] at h; unfold FE8 at h; dsimp only at h; exact h⟩
noncomputable def FA9 (n : Nat) (w : World) (os : OsState) (cp : Value) (O : Obj) (k3 k4 k5 : KR) : RT × RT := (goT n w (SD9 w.params os cp O 522) (outT w k3 k4 k5), some (SA9 w.params os (.ofNat 9757) (.ofNat 1) cp O 527, thr (csG 1 158) PQ (k0F k0 (inF (kg w) (kn w) (uf k3 k4 k5)))))
theorem FA9_self : FA9 = FA9 := rfl
name_quick qFA9 for Mine.FA9 by Mine.FA9_self
theorem KA9_false : ∀ (w : World) (os : OsState) cp O k3 k4 k5, (PySem.W.Fast.qFA9 116 (wg false w) os cp O k3 k4 k5).1 = (PySem.W.Fast.qFA9 116 (wg false w) os cp O k3 k4 k5).2 := fun w os cp O k3 k4 k5 => by kernel_rfl
theorem KA9_true : ∀ (w : World) (os : OsState) cp O k3 k4 k5, (PySem.W.Fast.qFA9 116 (wg true w) os cp O k3 k4 k5).1 = (PySem.W.Fast.qFA9 116 (wg true w) os cp O k3 k4 k5).2 := fun w os cp O k3 k4 k5 => by kernel_rfl
theorem GA9 (w : World) (os : OsState) (cp : Value) (O : Obj) (k3 k4 k5 : KR) : Goes w (SD9 w.params os cp O 522) (outT w k3 k4 k5) (SA9 w.params os (.ofNat 9757) (.ofNat 1) cp O 527) (thr (csG 1 158) PQ (k0F k0 (inF (kg w) (kn w) (uf k3 k4 k5)))) 116 := by
  revert w; refine rows1 (fun b w => ?_); cases b
  · exact ⟨116, Nat.le_refl _, by have h := KA9_false w os cp O k3 k4 k5; rw [← PySem.W.Fast.qFA9_eq] at h; unfold FA9 at h; dsimp only at h; exact h⟩
  · exact ⟨116, Nat.le_refl _, by have h := KA9_true w os cp O k3 k4 k5; rw [← PySem.W.Fast.qFA9_eq] at h; unfold FA9 at h; dsimp only at h; exact h⟩
noncomputable def FS9 (n : Nat) (w : World) (os : OsState) (cp : Value) (O : Obj) (k3 k4 k5 : KR) : RT × RT := (goT n w (SA9 w.params os (.ofNat 9757) (.ofNat 1) cp O 527) (thr (csG 1 158) PQ (k0F k0 (inF (kg w) (kn w) (uf k3 k4 k5)))), some (SA9 w.params os (.ofNat 9757) (.ofNat 1) cp O 527, inT w PQ 158 k3 k4 k5))
theorem FS9_self : FS9 = FS9 := rfl
name_quick qFS9 for Mine.FS9 by Mine.FS9_self
theorem KS9_ff : ∀ (w : World) (os : OsState) cp O k3 k4 k5, (PySem.W.Fast.qFS9 12 (wf false false w) os cp O k3 k4 k5).1 = (PySem.W.Fast.qFS9 12 (wf false false w) os cp O k3 k4 k5).2 := fun w os cp O k3 k4 k5 => by kernel_rfl
theorem KS9_tf : ∀ (w : World) (os : OsState) cp O k3 k4 k5, (PySem.W.Fast.qFS9 12 (wf true false w) os cp O k3 k4 k5).1 = (PySem.W.Fast.qFS9 12 (wf true false w) os cp O k3 k4 k5).2 := fun w os cp O k3 k4 k5 => by kernel_rfl
theorem KS9_t : ∀ (w : World) (os : OsState) cp O k3 k4 k5, (PySem.W.Fast.qFS9 2 (w.withFollow "comprehension-iter-twice" true) os cp O k3 k4 k5).1 = (PySem.W.Fast.qFS9 2 (w.withFollow "comprehension-iter-twice" true) os cp O k3 k4 k5).2 := fun w os cp O k3 k4 k5 => by kernel_rfl
theorem GS9 (w : World) (os : OsState) (cp : Value) (O : Obj) (k3 k4 k5 : KR) : Goes w (SA9 w.params os (.ofNat 9757) (.ofNat 1) cp O 527) (thr (csG 1 158) PQ (k0F k0 (inF (kg w) (kn w) (uf k3 k4 k5)))) (SA9 w.params os (.ofNat 9757) (.ofNat 1) cp O 527) (inT w PQ 158 k3 k4 k5) 12 := by
  revert w; refine rows2 (fun b1 b2 w => ?_); cases b1 <;> cases b2
  · exact ⟨12, Nat.le_of_ble_eq_true rfl, by have h := KS9_ff w os cp O k3 k4 k5; rw [← PySem.W.Fast.qFS9_eq] at h; unfold FS9 at h; dsimp only at h; exact h⟩
  · exact ⟨2, Nat.le_of_ble_eq_true rfl, by have h := KS9_t (w.withFollow "special-get-raises" false) os cp O k3 k4 k5; rw [← PySem.W.Fast.qFS9_eq] at h; unfold FS9 at h; dsimp only at h; exact h⟩
  · exact ⟨12, Nat.le_of_ble_eq_true rfl, by have h := KS9_tf w os cp O k3 k4 k5; rw [← PySem.W.Fast.qFS9_eq] at h; unfold FS9 at h; dsimp only at h; exact h⟩
  · exact ⟨2, Nat.le_of_ble_eq_true rfl, by have h := KS9_t (w.withFollow "special-get-raises" true) os cp O k3 k4 k5; rw [← PySem.W.Fast.qFS9_eq] at h; unfold FS9 at h; dsimp only at h; exact h⟩
noncomputable def gI9 (w : World) (os : OsState) (c r tk : Nat) (cp : Value) (O : Obj) (k3 k4 k5 : KR) : Array GenState := gensOf (goT 26 w (SA9 w.params os (.ofNat c) (.ofNat (r + 1)) cp O tk) (inT w PQ 158 k3 k4 k5))
noncomputable def FI9 (n : Nat) (w : World) (os : OsState) (c r tk : Nat) (cp : Value) (O : Obj) (p : Pos) (k3 k4 k5 : KR) : RT × RT := (goT n w (SA9 w.params os (.ofNat c) (.ofNat (r + 1)) cp O tk) (inT w p 158 k3 k4 k5), some (⟨TA9 w.params (Int.ofNat c + Int.ofNat 1) (Int.ofNat (r + 1) - 1) (.int (.ofNat c) tk) O, 159, {}, gI9 w os c r tk cp O k3 k4 k5, {}, tk + 2, os⟩, addTh (.int (.ofNat c) tk) k3 k4 k5))
theorem FI9_self : FI9 = FI9 := rfl
name_quick qFI9 for Mine.FI9 by Mine.FI9_self
theorem KI9 : ∀ (w : World) (os : OsState) c r tk cp O p k3 k4 k5, (PySem.W.Fast.qFI9 26 (w) os c r tk cp O p k3 k4 k5).1 = (PySem.W.Fast.qFI9 26 (w) os c r tk cp O p k3 k4 k5).2 := fun w os c r tk cp O p k3 k4 k5 => by kernel_rfl
theorem GI9 (w : World) (os : OsState) (c r tk : Nat) (cp : Value) (O : Obj) (p : Pos) (k3 k4 k5 : KR) : Goes w (SA9 w.params os (.ofNat c) (.ofNat (r + 1)) cp O tk) (inT w p 158 k3 k4 k5) (⟨TA9 w.params (Int.ofNat c + Int.ofNat 1) (Int.ofNat (r + 1) - 1) (.int (.ofNat c) tk) O, 159, {}, gI9 w os c r tk cp O k3 k4 k5, {}, tk + 2, os⟩) (addTh (.int (.ofNat c) tk) k3 k4 k5) 26 := ⟨26, Nat.le_refl _, by have h := KI9 w os c r tk cp O p k3 k4 k5; rw [← PySem.W.Fast.qFI9_eq] at h; unfold FI9 at h; dsimp only at h; exact h⟩
noncomputable def FJ9 (n : Nat) (w : World) (os : OsState) (c r tk tk2 : Nat) (i j : Int) (cp cp2 : Value) (O O2 : Obj) (k3 k4 k5 : KR) : RT × RT := (goT n w (⟨TA9 w.params i j cp2 O2, 159, {}, gI9 w os c r tk cp O k3 k4 k5, {}, tk2, os⟩) (agTh k3 k4 k5), some (SA9 w.params os i j cp2 O2 tk2, inT w PR 158 k3 k4 k5))
theorem FJ9_self : FJ9 = FJ9 := rfl
name_quick qFJ9 for Mine.FJ9 by Mine.FJ9_self
theorem KJ9 : ∀ (w : World) (os : OsState) c r tk tk2 i j cp cp2 O O2 k3 k4 k5, (PySem.W.Fast.qFJ9 11 (w) os c r tk tk2 i j cp cp2 O O2 k3 k4 k5).1 = (PySem.W.Fast.qFJ9 11 (w) os c r tk tk2 i j cp cp2 O O2 k3 k4 k5).2 := fun w os c r tk tk2 i j cp cp2 O O2 k3 k4 k5 => by kernel_rfl
theorem GJ9 (w : World) (os : OsState) (c r tk tk2 : Nat) (i j : Int) (cp cp2 : Value) (O O2 : Obj) (k3 k4 k5 : KR) : Goes w (⟨TA9 w.params i j cp2 O2, 159, {}, gI9 w os c r tk cp O k3 k4 k5, {}, tk2, os⟩) (agTh k3 k4 k5) (SA9 w.params os i j cp2 O2 tk2) (inT w PR 158 k3 k4 k5) 11 := ⟨11, Nat.le_refl _, by have h := KJ9 w os c r tk tk2 i j cp cp2 O O2 k3 k4 k5; rw [← PySem.W.Fast.qFJ9_eq] at h; unfold FJ9 at h; dsimp only at h; exact h⟩
noncomputable def FE9 (n : Nat) (w : World) (os : OsState) (tk : Nat) (cp : Value) (O : Obj) (p : Pos) (k3 k4 k5 : KR) : RT × RT := (goT n w (SA9 w.params os (.ofNat 9758) (.ofNat 0) cp O tk) (inT w p 158 k3 k4 k5), some (SD10 w.params os cp O tk, outT w k3 k4 k5))
theorem FE9_self : FE9 = FE9 := rfl
name_quick qFE9 for Mine.FE9 by Mine.FE9_self
theorem KE9 : ∀ (w : World) (os : OsState) tk cp O p k3 k4 k5, (PySem.W.Fast.qFE9 16 (w) os tk cp O p k3 k4 k5).1 = (PySem.W.Fast.qFE9 16 (w) os tk cp O p k3 k4 k5).2 := fun w os tk cp O p k3 k4 k5 => by kernel_rfl
theorem GE9 (w : World) (os : OsState) (tk : Nat) (cp : Value) (O : Obj) (p : Pos) (k3 k4 k5 : KR) : Goes w (SA9 w.params os (.ofNat 9758) (.ofNat 0) cp O tk) (inT w p 158 k3 k4 k5) (SD10 w.params os cp O tk) (outT w k3 k4 k5) 16 := ⟨16, Nat.le_refl _, by have h := KE9 w os tk cp O p k3 k4 k5; rw [← PySem.W.Fast.qFE9_eq] at h; unfold FE9 at h; dsimp only at h; exact h⟩
noncomputable def FA10 (n : Nat) (w : World) (os : OsState) (cp : Value) (O : Obj) (k3 k4 k5 : KR) : RT × RT := (goT n w (SD10 w.params os cp O 530) (outT w k3 k4 k5), some (SA10 w.params os (.ofNat 9760) (.ofNat 1) cp O 535, thr (csG 1 165) PQ (k0F k0 (inF (kg w) (kn w) (uf k3 k4 k5)))))
theorem FA10_self : FA10 = FA10 := rfl
name_quick qFA10 for Mine.FA10 by Mine.FA10_self
theorem KA10_false : ∀ (w : World) (os : OsState) cp O k3 k4 k5, (PySem.W.Fast.qFA10 116 (wg false w) os cp O k3 k4 k5).1 = (PySem.W.Fast.qFA10 116 (wg false w) os cp O k3 k4 k5).2 := fun w os cp O k3 k4 k5 => by kernel_rfl
theorem KA10_true : ∀ (w : World) (os : OsState) cp O k3 k4 k5, (PySem.W.Fast.qFA10 116 (wg true w) os cp O k3 k4 k5).1 = (PySem.W.Fast.qFA10 116 (wg true w) os cp O k3 k4 k5).2 := fun w os cp O k3 k4 k5 => by kernel_rfl
theorem GA10 (w : World) (os : OsState) (cp : Value) (O : Obj) (k3 k4 k5 : KR) : Goes w (SD10 w.params os cp O 530) (outT w k3 k4 k5) (SA10 w.params os (.ofNat 9760) (.ofNat 1) cp O 535) (thr (csG 1 165) PQ (k0F k0 (inF (kg w) (kn w) (uf k3 k4 k5)))) 116 := by
  revert w; refine rows1 (fun b w => ?_); cases b
  · exact ⟨116, Nat.le_refl _, by have h := KA10_false w os cp O k3 k4 k5; rw [← PySem.W.Fast.qFA10_eq] at h; unfold FA10 at h; dsimp only at h; exact h⟩
  · exact ⟨116, Nat.le_refl _, by have h := KA10_true w os cp O k3 k4 k5; rw [← PySem.W.Fast.qFA10_eq] at h; unfold FA10 at h; dsimp only at h; exact h⟩
noncomputable def FS10 (n : Nat) (w : World) (os : OsState) (cp : Value) (O : Obj) (k3 k4 k5 : KR) : RT × RT := (goT n w (SA10 w.params os (.ofNat 9760) (.ofNat 1) cp O 535) (thr (csG 1 165) PQ (k0F k0 (inF (kg w) (kn w) (uf k3 k4 k5)))), some (SA10 w.params os (.ofNat 9760) (.ofNat 1) cp O 535, inT w PQ 165 k3 k4 k5))
theorem FS10_self : FS10 = FS10 := rfl
name_quick qFS10 for Mine.FS10 by Mine.FS10_self
theorem KS10_ff : ∀ (w : World) (os : OsState) cp O k3 k4 k5, (PySem.W.Fast.qFS10 12 (wf false false w) os cp O k3 k4 k5).1 = (PySem.W.Fast.qFS10 12 (wf false false w) os cp O k3 k4 k5).2 := fun w os cp O k3 k4 k5 => by kernel_rfl
theorem KS10_tf : ∀ (w : World) (os : OsState) cp O k3 k4 k5, (PySem.W.Fast.qFS10 12 (wf true false w) os cp O k3 k4 k5).1 = (PySem.W.Fast.qFS10 12 (wf true false w) os cp O k3 k4 k5).2 := fun w os cp O k3 k4 k5 => by kernel_rfl
theorem KS10_t : ∀ (w : World) (os : OsState) cp O k3 k4 k5, (PySem.W.Fast.qFS10 2 (w.withFollow "comprehension-iter-twice" true) os cp O k3 k4 k5).1 = (PySem.W.Fast.qFS10 2 (w.withFollow "comprehension-iter-twice" true) os cp O k3 k4 k5).2 := fun w os cp O k3 k4 k5 => by kernel_rfl
theorem GS10 (w : World) (os : OsState) (cp : Value) (O : Obj) (k3 k4 k5 : KR) : Goes w (SA10 w.params os (.ofNat 9760) (.ofNat 1) cp O 535) (thr (csG 1 165) PQ (k0F k0 (inF (kg w) (kn w) (uf k3 k4 k5)))) (SA10 w.params os (.ofNat 9760) (.ofNat 1) cp O 535) (inT w PQ 165 k3 k4 k5) 12 := by
  revert w; refine rows2 (fun b1 b2 w => ?_); cases b1 <;> cases b2
  · exact ⟨12, Nat.le_of_ble_eq_true rfl, by have h := KS10_ff w os cp O k3 k4 k5; rw [← PySem.W.Fast.qFS10_eq] at h; unfold FS10 at h; dsimp only at h; exact h⟩
  · exact ⟨2, Nat.le_of_ble_eq_true rfl, by have h := KS10_t (w.withFollow "special-get-raises" false) os cp O k3 k4 k5; rw [← PySem.W.Fast.qFS10_eq] at h; unfold FS10 at h; dsimp only at h; exact h⟩
  · exact ⟨12, Nat.le_of_ble_eq_true rfl, by have h := KS10_tf w os cp O k3 k4 k5; rw [← PySem.W.Fast.qFS10_eq] at h; unfold FS10 at h; dsimp only at h; exact h⟩
  · exact ⟨2, Nat.le_of_ble_eq_true rfl, by have h := KS10_t (w.withFollow "special-get-raises" true) os cp O k3 k4 k5; rw [← PySem.W.Fast.qFS10_eq] at h; unfold FS10 at h; dsimp only at h; exact h⟩
noncomputable def gI10 (w : World) (os : OsState) (c r tk : Nat) (cp : Value) (O : Obj) (k3 k4 k5 : KR) : Array GenState := gensOf (goT 26 w (SA10 w.params os (.ofNat c) (.ofNat (r + 1)) cp O tk) (inT w PQ 165 k3 k4 k5))
noncomputable def FI10 (n : Nat) (w : World) (os : OsState) (c r tk : Nat) (cp : Value) (O : Obj) (p : Pos) (k3 k4 k5 : KR) : RT × RT := (goT n w (SA10 w.params os (.ofNat c) (.ofNat (r + 1)) cp O tk) (inT w p 165 k3 k4 k5), some (⟨TA10 w.params (Int.ofNat c + Int.ofNat 1) (Int.ofNat (r + 1) - 1) (.int (.ofNat c) tk) O, 166, {}, gI10 w os c r tk cp O k3 k4 k5, {}, tk + 2, os⟩, addTh (.int (.ofNat c) tk) k3 k4 k5))
theorem FI10_self : FI10 = FI10 := rfl
name_quick qFI10 for Mine.FI10 by Mine.FI10_self
theorem KI10 : ∀ (w : World) (os : OsState) c r tk cp O p k3 k4 k5, (PySem.W.Fast.qFI10 26 (w) os c r tk cp O p k3 k4 k5).1 = (PySem.W.Fast.qFI10 26 (w) os c r tk cp O p k3 k4 k5).2 := fun w os c r tk cp O p k3 k4 k5 => by kernel_rfl
theorem GI10 (w : World) (os : OsState) (c r tk : Nat) (cp : Value) (O : Obj) (p : Pos) (k3 k4 k5 : KR) : Goes w (SA10 w.params os (.ofNat c) (.ofNat (r + 1)) cp O tk) (inT w p 165 k3 k4 k5) (⟨TA10 w.params (Int.ofNat c + Int.ofNat 1) (Int.ofNat (r + 1) - 1) (.int (.ofNat c) tk) O, 166, {}, gI10 w os c r tk cp O k3 k4 k5, {}, tk + 2, os⟩) (addTh (.int (.ofNat c) tk) k3 k4 k5) 26 := ⟨26, Nat.le_refl _, by have h := KI10 w os c r tk cp O p k3 k4 k5; rw [← PySem.W.Fast.qFI10_eq] at h; unfold FI10 at h; dsimp only at h; exact h⟩
noncomputable def FJ10 (n : Nat) (w : World) (os : OsState) (c r tk tk2 : Nat) (i j : Int) (cp cp2 : Value) (O O2 : Obj) (k3 k4 k5 : KR) : RT × RT := (goT n w (⟨TA10 w.params i j cp2 O2, 166, {}, gI10 w os c r tk cp O k3 k4 k5, {}, tk2, os⟩) (agTh k3 k4 k5), some (SA10 w.params os i j cp2 O2 tk2, inT w PR 165 k3 k4 k5))
theorem FJ10_self : FJ10 = FJ10 := rfl
name_quick qFJ10 for Mine.FJ10 by Mine.FJ10_self
theorem KJ10 : ∀ (w : World) (os : OsState) c r tk tk2 i j cp cp2 O O2 k3 k4 k5, (PySem.W.Fast.qFJ10 11 (w) os c r tk tk2 i j cp cp2 O O2 k3 k4 k5).1 = (PySem.W.Fast.qFJ10 11 (w) os c r tk tk2 i j cp cp2 O O2 k3 k4 k5).2 := fun w os c r tk tk2 i j cp cp2 O O2 k3 k4 k5 => by kernel_rfl
theorem GJ10 (w : World) (os : OsState) (c r tk tk2 : Nat) (i j : Int) (cp cp2 : Value) (O O2 : Obj) (k3 k4 k5 : KR) : Goes w (⟨TA10 w.params i j cp2 O2, 166, {}, gI10 w os c r tk cp O k3 k4 k5, {}, tk2, os⟩) (agTh k3 k4 k5) (SA10 w.params os i j cp2 O2 tk2) (inT w PR 165 k3 k4 k5) 11 := ⟨11, Nat.le_refl _, by have h := KJ10 w os c r tk tk2 i j cp cp2 O O2 k3 k4 k5; rw [← PySem.W.Fast.qFJ10_eq] at h; unfold FJ10 at h; dsimp only at h; exact h⟩
noncomputable def FE10 (n : Nat) (w : World) (os : OsState) (tk : Nat) (cp : Value) (O : Obj) (p : Pos) (k3 k4 k5 : KR) : RT × RT := (goT n w (SA10 w.params os (.ofNat 9761) (.ofNat 0) cp O tk) (inT w p 165 k3 k4 k5), some (SD11 w.params os cp O tk, outT w k3 k4 k5))
theorem FE10_self : FE10 = FE10 := rfl
name_quick qFE10 for Mine.FE10 by Mine.FE10_self
theorem KE10 : ∀ (w : World) (os : OsState) tk cp O p k3 k4 k5, (PySem.W.Fast.qFE10 16 (w) os tk cp O p k3 k4 k5).1 = (PySem.W.Fast.qFE10 16 (w) os tk cp O p k3 k4 k5).2 := fun w os tk cp O p k3 k4 k5 => by kernel_rfl
theorem GE10 (w : World) (os : OsState) (tk : Nat) (cp : Value) (O : Obj) (p : Pos) (k3 k4 k5 : KR) : Goes w (SA10 w.params os (.ofNat 9761) (.ofNat 0) cp O tk) (inT w p 165 k3 k4 k5) (SD11 w.params os cp O tk) (outT w k3 k4 k5) 16 := ⟨16, Nat.le_refl _, by have h := KE10 w os tk cp O p k3 k4 k5; rw [← PySem.W.Fast.qFE10_eq] at h; unfold FE10 at h; dsimp only at h; exact h⟩
noncomputable def FA11 (n : Nat) (w : World) (os : OsState) (cp : Value) (O : Obj) (k3 k4 k5 : KR) : RT × RT := (goT n w (SD11 w.params os cp O 538) (outT w k3 k4 k5), some (SA11 w.params os (.ofNat 9792) (.ofNat 1) cp O 543, thr (csG 1 172) PQ (k0F k0 (inF (kg w) (kn w) (uf k3 k4 k5)))))
theorem FA11_self : FA11 = FA11 := rfl
name_quick qFA11 for Mine.FA11 by Mine.FA11_self
theorem KA11_false : ∀ (w : World) (os : OsState) cp O k3 k4 k5, (PySem.W.Fast.qFA11 116 (wg false w) os cp O k3 k4 k5).1 = (PySem.W.Fast.qFA11 116 (wg false w) os cp O k3 k4 k5).2 := fun w os cp O k3 k4 k5 => by kernel_rfl
theorem KA11_true : ∀ (w : World) (os : OsState) cp O k3 k4 k5, (PySem.W.Fast.qFA11 116 (wg true w) os cp O k3 k4 k5).1 = (PySem.W.Fast.qFA11 116 (wg true w) os cp O k3 k4 k5).2 := fun w os cp O k3 k4 k5 => by kernel_rfl
theorem GA11 (w : World) (os : OsState) (cp : Value) (O : Obj) (k3 k4 k5 : KR) : Goes w (SD11 w.params os cp O 538) (outT w k3 k4 k5) (SA11 w.params os (.ofNat 9792) (.ofNat 1) cp O 543) (thr (csG 1 172) PQ (k0F k0 (inF (kg w) (kn w) (uf k3 k4 k5)))) 116 := by
  revert w; refine rows1 (fun b w => ?_); cases b
  · exact ⟨116, Nat.le_refl _, by have h := KA11_false w os cp O k3 k4 k5; rw [← PySem.W.Fast.qFA11_eq] at h; unfold FA11 at h; dsimp only at h; exact h⟩
  · exact ⟨116, Nat.le_refl _, by have h := KA11_true w os cp O k3 k4 k5; rw [← PySem.W.Fast.qFA11_eq] at h; unfold FA11 at h; dsimp only at h; exact h⟩
noncomputable def FS11 (n : Nat) (w : World) (os : OsState) (cp : Value) (O : Obj) (k3 k4 k5 : KR) : RT × RT := (goT n w (SA11 w.params os (.ofNat 9792) (.ofNat 1) cp O 543) (thr (csG 1 172) PQ (k0F k0 (inF (kg w) (kn w) (uf k3 k4 k5)))), some (SA11 w.params os (.ofNat 9792) (.ofNat 1) cp O 543, inT w PQ 172 k3 k4 k5))
theorem FS11_self : FS11 = FS11 := rfl
name_quick qFS11 for Mine.FS11 by Mine.FS11_self
theorem KS11_ff : ∀ (w : World) (os : OsState) cp O k3 k4 k5, (PySem.W.Fast.qFS11 12 (wf false false w) os cp O k3 k4 k5).1 = (PySem.W.Fast.qFS11 12 (wf false false w) os cp O k3 k4 k5).2 := fun w os cp O k3 k4 k5 => by kernel_rfl
theorem KS11_tf : ∀ (w : World) (os : OsState) cp O k3 k4 k5, (PySem.W.Fast.qFS11 12 (wf true false w) os cp O k3 k4 k5).1 = (PySem.W.Fast.qFS11 12 (wf true false w) os cp O k3 k4 k5).2 := fun w os cp O k3 k4 k5 => by kernel_rfl
theorem KS11_t : ∀ (w : World) (os : OsState) cp O k3 k4 k5, (PySem.W.Fast.qFS11 2 (w.withFollow "comprehension-iter-twice" true) os cp O k3 k4 k5).1 = (PySem.W.Fast.qFS11 2 (w.withFollow "comprehension-iter-twice" true) os cp O k3 k4 k5).2 := fun w os cp O k3 k4 k5 => by kernel_rfl
theorem GS11 (w : World) (os : OsState) (cp : Value) (O : Obj) (k3 k4 k5 : KR) : Goes w (SA11 w.params os (.ofNat 9792) (.ofNat 1) cp O 543) (thr (csG 1 172) PQ (k0F k0 (inF (kg w) (kn w) (uf k3 k4 k5)))) (SA11 w.params os (.ofNat 9792) (.ofNat 1) cp O 543) (inT w PQ 172 k3 k4 k5) 12 := by
  revert w; refine rows2 (fun b1 b2 w => ?_); cases b1 <;> cases b2
  · exact ⟨12, Nat.le_of_ble_eq_true rfl, by have h := KS11_ff w os cp O k3 k4 k5; rw [← PySem.W.Fast.qFS11_eq] at h; unfold FS11 at h; dsimp only at h; exact h⟩
  · exact ⟨2, Nat.le_of_ble_eq_true rfl, by have h := KS11_t (w.withFollow "special-get-raises" false) os cp O k3 k4 k5; rw [← PySem.W.Fast.qFS11_eq] at h; unfold FS11 at h; dsimp only at h; exact h⟩
  · exact ⟨12, Nat.le_of_ble_eq_true rfl, by have h := KS11_tf w os cp O k3 k4 k5; rw [← PySem.W.Fast.qFS11_eq] at h; unfold FS11 at h; dsimp only at h; exact h⟩
  · exact ⟨2, Nat.le_of_ble_eq_true rfl, by have h := KS11_t (w.withFollow "special-get-raises" true) os cp O k3 k4 k5; rw [← PySem.W.Fast.qFS11_eq] at h; unfold FS11 at h; dsimp only at h; exact h⟩
noncomputable def gI11 (w : World) (os : OsState) (c r tk : Nat) (cp : Value) (O : Obj) (k3 k4 k5 : KR) : Array GenState := gensOf (goT 26 w (SA11 w.params os (.ofNat c) (.ofNat (r + 1)) cp O tk) (inT w PQ 172 k3 k4 k5))
noncomputable def FI11 (n : Nat) (w : World) (os : OsState) (c r tk : Nat) (cp : Value) (O : Obj) (p : Pos) (k3 k4 k5 : KR) : RT × RT := (goT n w (SA11 w.params os (.ofNat c) (.ofNat (r + 1)) cp O tk) (inT w p 172 k3 k4 k5), some (⟨TA11 w.params (Int.ofNat c + Int.ofNat 1) (Int.ofNat (r + 1) - 1) (.int (.ofNat c) tk) O, 173, {}, gI11 w os c r tk cp O k3 k4 k5, {}, tk + 2, os⟩, addTh (.int (.ofNat c) tk) k3 k4 k5))
theorem FI11_self : FI11 = FI11 := rfl
name_quick qFI11 for Mine.FI11 by Mine.FI11_self
theorem KI11 : ∀ (w : World) (os : OsState) c r tk cp O p k3 k4 k5, (PySem.W.Fast.qFI11 26 (w) os c r tk cp O p k3 k4 k5).1 = (PySem.W.Fast.qFI11 26 (w) os c r tk cp O p k3 k4 k5).2 := fun w os c r tk cp O p k3 k4 k5 => by kernel_rfl
theorem GI11 (w : World) (os : OsState) (c r tk : Nat) (cp : Value) (O : Obj) (p : Pos) (k3 k4 k5 : KR) : Goes w (SA11 w.params os (.ofNat c) (.ofNat (r + 1)) cp O tk) (inT w p 172 k3 k4 k5) (⟨TA11 w.params (Int.ofNat c + Int.ofNat 1) (Int.ofNat (r + 1) - 1) (.int (.ofNat c) tk) O, 173, {}, gI11 w os c r tk cp O k3 k4 k5, {}, tk + 2, os⟩) (addTh (.int (.ofNat c) tk) k3 k4 k5) 26 := ⟨26, Nat.le_refl _, by have h := KI11 w os c r tk cp O p k3 k4 k5; rw [← PySem.W.Fast.qFI11_eq] at h; unfold FI11 at h; dsimp only at h; exact h⟩
noncomputable def FJ11 (n : Nat) (w : World) (os : OsState) (c r tk tk2 : Nat) (i j : Int) (cp cp2 : Value) (O O2 : Obj) (k3 k4 k5 : KR) : RT × RT := (goT n w (⟨TA11 w.params i j cp2 O2, 173, {}, gI11 w os c r tk cp O k3 k4 k5, {}, tk2, os⟩) (agTh k3 k4 k5), some (SA11 w.params os i j cp2 O2 tk2, inT w PR 172 k3 k4 k5))
theorem FJ11_self : FJ11 = FJ11 := rfl
name_quick qFJ11 for Mine.FJ11 by Mine.FJ11_self
theorem KJ11 : ∀ (w : World) (os : OsState) c r tk tk2 i j cp cp2 O O2 k3 k4 k5, (PySem.W.Fast.qFJ11 11 (w) os c r tk tk2 i j cp cp2 O O2 k3 k4 k5).1 = (PySem.W.Fast.qFJ11 11 (w) os c r tk tk2 i j cp cp2 O O2 k3 k4 k5).2 := fun w os c r tk tk2 i j cp cp2 O O2 k3 k4 k5 => by kernel_rfl
theorem GJ11 (w : World) (os : OsState) (c r tk tk2 : Nat) (i j : Int) (cp cp2 : Value) (O O2 : Obj) (k3 k4 k5 : KR) : Goes w (⟨TA11 w.params i j cp2 O2, 173, {}, gI11 w os c r tk cp O k3 k4 k5, {}, tk2, os⟩) (agTh k3 k4 k5) (SA11 w.params os i j cp2 O2 tk2) (inT w PR 172 k3 k4 k5) 11 := ⟨11, Nat.le_refl _, by have h := KJ11 w os c r tk tk2 i j cp cp2 O O2 k3 k4 k5; rw [← PySem.W.Fast.qFJ11_eq] at h; unfold FJ11 at h; dsimp only at h; exact h⟩
noncomputable def FE11 (n : Nat) (w : World) (os : OsState) (tk : Nat) (cp : Value) (O : Obj) (p : Pos) (k3 k4 k5 : KR) : RT × RT := (goT n w (SA11 w.params os (.ofNat 9793) (.ofNat 0) cp O tk) (inT w p 172 k3 k4 k5), some (SD12 w.params os cp O tk, outT w k3 k4 k5))
theorem FE11_self : FE11 = FE11 := rfl
name_quick qFE11 for Mine.FE11 by Mine.FE11_self
theorem KE11 : ∀ (w : World) (os : OsState) tk cp O p k3 k4 k5, (PySem.W.Fast.qFE11 16 (w) os tk cp O p k3 k4 k5).1 = (PySem.W.Fast.qFE11 16 (w) os tk cp O p k3 k4 k5).2 := fun w os tk cp O p k3 k4 k5 => by kernel_rfl
theorem GE11 (w : World) (os : OsState) (tk : Nat) (cp : Value) (O : Obj) (p : Pos) (k3 k4 k5 : KR) : Goes w (SA11 w.params os (.ofNat 9793) (.ofNat 0) cp O tk) (inT w p 172 k3 k4 k5) (SD12 w.params os cp O tk) (outT w k3 k4 k5) 16 := ⟨16, Nat.le_refl _, by have h := KE11 w os tk cp O p k3 k4 k5; rw [← PySem.W.Fast.qFE11_eq] at h; unfold FE11 at h; dsimp only at h; exact h⟩
noncomputable def FA12 (n : Nat) (w : World) (os : OsState) (cp : Value) (O : Obj) (k3 k4 k5 : KR) : RT × RT := (goT n w (SD12 w.params os cp O 546) (outT w k3 k4 k5), some (SA12 w.params os (.ofNat 9794) (.ofNat 1) cp O 551, thr (csG 1 179) PQ (k0F k0 (inF (kg w) (kn w) (uf k3 k4 k5)))))
theorem FA12_self : FA12 = FA12 := rfl
name_quick qFA12 for Mine.FA12 by Mine.FA12_self
theorem KA12_false : ∀ (w : World) (os : OsState) cp O k3 k4 k5, (PySem.W.Fast.qFA12 116 (wg false w) os cp O k3 k4 k5).1 = (PySem.W.Fast.qFA12 116 (wg false w) os cp O k3 k4 k5).2 := fun w os cp O k3 k4 k5 => by kernel_rfl
theorem KA12_true : ∀ (w : World) (os : OsState) cp O k3 k4 k5, (PySem.W.Fast.qFA12 116 (wg true w) os cp O k3 k4 k5).1 = (PySem.W.Fast.qFA12 116 (wg true w) os cp O k3 k4 k5).2 := fun w os cp O k3 k4 k5 => by kernel_rfl
theorem GA12 (w : World) (os : OsState) (cp : Value) (O : Obj) (k3 k4 k5 : KR) : Goes w (SD12 w.params os cp O 546) (outT w k3 k4 k5) (SA12 w.params os (.ofNat 9794) (.ofNat 1) cp O 551) (thr (csG 1 179) PQ (k0F k0 (inF (kg w) (kn w) (uf k3 k4 k5)))) 116 := by
  revert w; refine rows1 (fun b w => ?_); cases b
  · exact ⟨116, Nat.le_refl _, by have h := KA12_false w os cp O k3 k4 k5; rw [← PySem.W.Fast.qFA12_eq] at h; unfold FA12 at h; dsimp only at h; exact h⟩
  · exact ⟨116, Nat.le_refl _, by have h := KA12_true w os cp O k3 k4 k5; rw [← PySem.W.Fast.qFA12_eq] at h; unfold FA12 at h; dsimp only at h; exact h⟩
noncomputable def FS12 (n : Nat) (w : World) (os : OsState) (cp : Value) (O : Obj) (k3 k4 k5 : KR) : RT × RT := (goT n w (SA12 w.params os (.ofNat 9794) (.ofNat 1) cp O 551) (thr (csG 1 179) PQ (k0F k0 (inF (kg w) (kn w) (uf k3 k4 k5)))), some (SA12 w.params os (.ofNat 9794) (.ofNat 1) cp O 551, inT w PQ 179 k3 k4 k5))
theorem FS12_self : FS12 = FS12 := rfl
name_quick qFS12 for Mine.FS12 by Mine.FS12_self
theorem KS12_ff : ∀ (w : World) (os : OsState) cp O k3 k4 k5, (PySem.W.Fast.qFS12 12 (wf false false w) os cp O k3 k4 k5).1 = (PySem.W.Fast.qFS12 12 (wf false false w) os cp O k3 k4 k5).2 := fun w os cp O k3 k4 k5 => by kernel_rfl
theorem KS12_tf : ∀ (w : World) (os : OsState) cp O k3 k4 k5, (PySem.W.Fast.qFS12 12 (wf true false w) os cp O k3 k4 k5).1 = (PySem.W.Fast.qFS12 12 (wf true false w) os cp O k3 k4 k5).2 := fun w os cp O k3 k4 k5 => by kernel_rfl
theorem KS12_t : ∀ (w : World) (os : OsState) cp O k3 k4 k5, (PySem.W.Fast.qFS12 2 (w.withFollow "comprehension-iter-twice" true) os cp O k3 k4 k5).1 = (PySem.W.Fast.qFS12 2 (w.withFollow "comprehension-iter-twice" true) os cp O k3 k4 k5).2 := fun w os cp O k3 k4 k5 => by kernel_rfl
theorem GS12 (w : World) (os : OsState) (cp : Value) (O : Obj) (k3 k4 k5 : KR) : Goes w (SA12 w.params os (.ofNat 9794) (.ofNat 1) cp O 551) (thr (csG 1 179) PQ (k0F k0 (inF (kg w) (kn w) (uf k3 k4 k5)))) (SA12 w.params os (.ofNat 9794) (.ofNat 1) cp O 551) (inT w PQ 179 k3 k4 k5) 12 := by
  revert w; refine rows2 (fun b1 b2 w => ?_); cases b1 <;> cases b2
  · exact ⟨12, Nat.le_of_ble_eq_true rfl, by have h := KS12_ff w os cp O k3 k4 k5; rw [← PySem.W.Fast.qFS12_eq] at h; unfold FS12 at h; dsimp only at h; exact h⟩
  · exact ⟨2, Nat.le_of_ble_eq_true rfl, by have h := KS12_t (w.withFollow "special-get-raises" false) os cp O k3 k4 k5; rw [← PySem.W.Fast.qFS12_eq] at h; unfold FS12 at h; dsimp only at h; exact h⟩
  · exact ⟨12, Nat.le_of_ble_eq_true rfl, by have h := KS12_tf w os cp O k3 k4 k5; rw [← PySem.W.Fast.qFS12_eq] at h; unfold FS12 at h; dsimp only at h; exact h⟩
  · exact ⟨2, Nat.le_of_ble_eq_true rfl, by have h := KS12_t (w.withFollow "special-get-raises" true) os cp O k3 k4 k5; rw [← PySem.W.Fast.qFS12_eq] at h; unfold FS12 at h; dsimp only at h; exact h⟩
noncomputable def gI12 (w : World) (os : OsState) (c r tk : Nat) (cp : Value) (O : Obj) (k3 k4 k5 : KR) : Array GenState := gensOf (goT 26 w (SA12 w.params os (.ofNat c) (.ofNat (r + 1)) cp O tk) (inT w PQ 179 k3 k4 k5))
noncomputable def FI12 (n : Nat) (w : World) (os : OsState) (c r tk : Nat) (cp : Value) (O : Obj) (p : Pos) (k3 k4 k5 : KR) : RT × RT := (goT n w (SA12 w.params os (.ofNat c) (.ofNat (r + 1)) cp O tk) (inT w p 179 k3 k4 k5), some (⟨TA12 w.params (Int.ofNat c + Int.ofNat 1) (Int.ofNat (r + 1) - 1) (.int (.ofNat c) tk) O, 180, {}, gI12 w os c r tk cp O k3 k4 k5, {}, tk + 2, os⟩, addTh (.int (.ofNat c) tk) k3 k4 k5))
theorem FI12_self : FI12 = FI12 := rfl
name_quick qFI12 for Mine.FI12 by Mine.FI12_self
theorem KI12 : ∀ (w : World) (os : OsState) c r tk cp O p k3 k4 k5, (PySem.W.Fast.qFI12 26 (w) os c r tk cp O p k3 k4 k5).1 = (PySem.W.Fast.qFI12 26 (w) os c r tk cp O p k3 k4 k5).2 := fun w os c r tk cp O p k3 k4 k5 => by kernel_rfl
theorem GI12 (w : World) (os : OsState) (c r tk : Nat) (cp : Value) (O : Obj) (p : Pos) (k3 k4 k5 : KR) : Goes w (SA12 w.params os (.ofNat c) (.ofNat (r + 1)) cp O tk) (inT w p 179 k3 k4 k5) (⟨TA12 w.params (Int.ofNat c + Int.ofNat 1) (Int.ofNat (r + 1) - 1) (.int (.ofNat c) tk) O, 180, {}, gI12 w os c r tk cp O k3 k4 k5, {}, tk + 2, os⟩) (addTh (.int (.ofNat c) tk) k3 k4 k5) 26 := ⟨26, Nat.le_refl _, by have h := KI12 w os c r tk cp O p k3 k4 k5; rw [← PySem.W.Fast.qFI12_eq] at h; unfold FI12 at h; dsimp only at h; exact h⟩
noncomputable def FJ12 (n : Nat) (w : World) (os : OsState) (c r tk tk2 : Nat) (i j : Int) (cp cp2 : Value) (O O2 : Obj) (k3 k4 k5 : KR) : RT × RT := (goT n w (⟨TA12 w.params i j cp2 O2, 180, {}, gI12 w os c r tk cp O k3 k4 k5, {}, tk2, os⟩) (agTh k3 k4 k5), some (SA12 w.params os i j cp2 O2 tk2, inT w PR 179 k3 k4 k5))
theorem FJ12_self : FJ12 = FJ12 := rfl
name_quick qFJ12 for Mine.FJ12 by Mine.FJ12_self
theorem KJ12 : ∀ (w : World) (os : OsState) c r tk tk2 i j cp cp2 O O2 k3 k4 k5, (PySem.W.Fast.qFJ12 11 (w) os c r tk tk2 i j cp cp2 O O2 k3 k4 k5).1 = (PySem.W.Fast.qFJ12 11 (w) os c r tk tk2 i j cp cp2 O O2 k3 k4 k5).2 := fun w os c r tk tk2 i j cp cp2 O O2 k3 k4 k5 => by kernel_rfl
theorem GJ12 (w : World) (os : OsState) (c r tk tk2 : Nat) (i j : Int) (cp cp2 : Value) (O O2 : Obj) (k3 k4 k5 : KR) : Goes w (⟨TA12 w.params i j cp2 O2, 180, {}, gI12 w os c r tk cp O k3 k4 k5, {}, tk2, os⟩) (agTh k3 k4 k5) (SA12 w.params os i j cp2 O2 tk2) (inT w PR 179 k3 k4 k5) 11 := ⟨11, Nat.le_refl _, by have h := KJ12 w os c r tk tk2 i j cp cp2 O O2 k3 k4 k5; rw [← PySem.W.Fast.qFJ12_eq] at h; unfold FJ12 at h; dsimp only at h; exact h⟩
noncomputable def FE12 (n : Nat) (w : World) (os : OsState) (tk : Nat) (cp : Value) (O : Obj) (p : Pos) (k3 k4 k5 : KR) : RT × RT := (goT n w (SA12 w.params os (.ofNat 9795) (.ofNat 0) cp O tk) (inT w p 179 k3 k4 k5), some (SD13 w.params os cp O tk, outT w k3 k4 k5))
theorem FE12_self : FE12 = FE12 := rfl
name_quick qFE12 for Mine.FE12 by Mine.FE12_self
theorem KE12 : ∀ (w : World) (os : OsState) tk cp O p k3 k4 k5, (PySem.W.Fast.qFE12 16 (w) os tk cp O p k3 k4 k5).1 = (PySem.W.Fast.qFE12 16 (w) os tk cp O p k3 k4 k5).2 := fun w os tk cp O p k3 k4 k5 => by kernel_rfl
theorem GE12 (w : World) (os : OsState) (tk : Nat) (cp : Value) (O : Obj) (p : Pos) (k3 k4 k5 : KR) : Goes w (SA12 w.params os (.ofNat 9795) (.ofNat 0) cp O tk) (inT w p 179 k3 k4 k5) (SD13 w.params os cp O tk) (outT w k3 k4 k5) 16 := ⟨16, Nat.le_refl _, by have h := KE12 w os tk cp O p k3 k4 k5; rw [← PySem.W.Fast.qFE12_eq] at h; unfold FE12 at h; dsimp only at h; exact h⟩
noncomputable def FA13 (n : Nat) (w : World) (os : OsState) (cp : Value) (O : Obj) (k3 k4 k5 : KR) : RT × RT := (goT n w (SD13 w.params os cp O 554) (outT w k3 k4 k5), some (SA13 w.params os (.ofNat 9800) (.ofNat 12) cp O 559, thr (csG 1 186) PQ (k0F k0 (inF (kg w) (kn w) (uf k3 k4 k5)))))
theorem FA13_self : FA13 = FA13 := rfl
name_quick qFA13 for Mine.FA13 by Mine.FA13_self
theorem KA13_false : ∀ (w : World) (os : OsState) cp O k3 k4 k5, (PySem.W.Fast.qFA13 116 (wg false w) os cp O k3 k4 k5).1 = (PySem.W.Fast.qFA13 116 (wg false w) os cp O k3 k4 k5).2 := fun w os cp O k3 k4 k5 => by kernel_rfl
theorem KA13_true : ∀ (w : World) (os : OsState) cp O k3 k4 k5, (PySem.W.Fast.qFA13 116 (wg true w) os cp O k3 k4 k5).1 = (PySem.W.Fast.qFA13 116 (wg true w) os cp O k3 k4 k5).2 := fun w os cp O k3 k4 k5 => by kernel_rfl
theorem GA13 (w : World) (os : OsState) (cp : Value) (O : Obj) (k3 k4 k5 : KR) : Goes w (SD13 w.params os cp O 554) (outT w k3 k4 k5) (SA13 w.params os (.ofNat 9800) (.ofNat 12) cp O 559) (thr (csG 1 186) PQ (k0F k0 (inF (kg w) (kn w) (uf k3 k4 k5)))) 116 := by
  revert w; refine rows1 (fun b w => ?_); cases b
  · exact ⟨116, Nat.le_refl _, by have h := KA13_false w os cp O k3 k4 k5; rw [← PySem.W.Fast.qFA13_eq] at h; unfold FA13 at h; dsimp only at h; exact h⟩
  · exact ⟨116, Nat.le_refl _, by have h := KA13_true w os cp O k3 k4 k5; rw [← PySem.W.Fast.qFA13_eq] at h; unfold FA13 at h; dsimp only at h; exact h⟩
noncomputable def FS13 (n : Nat) (w : World) (os : OsState) (cp : Value) (O : Obj) (k3 k4 k5 : KR) : RT × RT := (goT n w (SA13 w.params os (.ofNat 9800) (.ofNat 12) cp O 559) (thr (csG 1 186) PQ (k0F k0 (inF (kg w) (kn w) (uf k3 k4 k5)))), some (SA13 w.params os (.ofNat 9800) (.ofNat 12) cp O 559, inT w PQ 186 k3 k4 k5))
theorem FS13_self : FS13 = FS13 := rfl
name_quick qFS13 for Mine.FS13 by Mine.FS13_self
theorem KS13_ff : ∀ (w : World) (os : OsState) cp O k3 k4 k5, (PySem.W.Fast.qFS13 12 (wf false false w) os cp O k3 k4 k5).1 = (PySem.W.Fast.qFS13 12 (wf false false w) os cp O k3 k4 k5).2 := fun w os cp O k3 k4 k5 => by kernel_rfl
theorem KS13_tf : ∀ (w : World) (os : OsState) cp O k3 k4 k5, (PySem.W.Fast.qFS13 12 (wf true false w) os cp O k3 k4 k5).1 = (PySem.W.Fast.qFS13 12 (wf true false w) os cp O k3 k4 k5).2 := fun w os cp O k3 k4 k5 => by kernel_rfl
theorem KS13_t : ∀ (w : World) (os : OsState) cp O k3 k4 k5, (PySem.W.Fast.qFS13 2 (w.withFollow "comprehension-iter-twice" true) os cp O k3 k4 k5).1 = (PySem.W.Fast.qFS13 2 (w.withFollow "comprehension-iter-twice" true) os cp O k3 k4 k5).2 := fun w os cp O k3 k4 k5 => by kernel_rfl
theorem GS13 (w : World) (os : OsState) (cp : Value) (O : Obj) (k3 k4 k5 : KR) : Goes w (SA13 w.params os (.ofNat 9800) (.ofNat 12) cp O 559) (thr (csG 1 186) PQ (k0F k0 (inF (kg w) (kn w) (uf k3 k4 k5)))) (SA13 w.params os (.ofNat 9800) (.ofNat 12) cp O 559) (inT w PQ 186 k3 k4 k5) 12 := by
  revert w; refine rows2 (fun b1 b2 w => ?_); cases b1 <;> cases b2
  · exact ⟨12, Nat.le_of_ble_eq_true rfl, by have h := KS13_ff w os cp O k3 k4 k5; rw [← PySem.W.Fast.qFS13_eq] at h; unfold FS13 at h; dsimp only at h; exact h⟩
  · exact ⟨2, Nat.le_of_ble_eq_true rfl, by have h := KS13_t (w.withFollow "special-get-raises" false) os cp O k3 k4 k5; rw [← PySem.W.Fast.qFS13_eq] at h; unfold FS13 at h; dsimp only at h; exact h⟩
  · exact ⟨12, Nat.le_of_ble_eq_true rfl, by have h := KS13_tf w os cp O k3 k4 k5; rw [← PySem.W.Fast.qFS13_eq] at h; unfold FS13 at h; dsimp only at h; exact h⟩
  · exact ⟨2, Nat.le_of_ble_eq_true rfl, by have h := KS13_t (w.withFollow "special-get-raises" true) os cp O k3 k4 k5; rw [← PySem.W.Fast.qFS13_eq] at h; unfold FS13 at h; dsimp only at h; exact h⟩
noncomputable def gI13 (w : World) (os : OsState) (c r tk : Nat) (cp : Value) (O : Obj) (k3 k4 k5 : KR) : Array GenState := gensOf (goT 26 w (SA13 w.params os (.ofNat c) (.ofNat (r + 1)) cp O tk) (inT w PQ 186 k3 k4 k5))
noncomputable def FI13 (n : Nat) (w : World) (os : OsState) (c r tk : Nat) (cp : Value) (O : Obj) (p : Pos) (k3 k4 k5 : KR) : RT × RT := (goT n w (SA13 w.params os (.ofNat c) (.ofNat (r + 1)) cp O tk) (inT w p 186 k3 k4 k5), some (⟨TA13 w.params (Int.ofNat c + Int.ofNat 1) (Int.ofNat (r + 1) - 1) (.int (.ofNat c) tk) O, 187, {}, gI13 w os c r tk cp O k3 k4 k5, {}, tk + 2, os⟩, addTh (.int (.ofNat c) tk) k3 k4 k5))
theorem FI13_self : FI13 = FI13 := rfl
name_quick qFI13 for Mine.FI13 by Mine.FI13_self
theorem KI13 : ∀ (w : World) (os : OsState) c r tk cp O p k3 k4 k5, (PySem.W.Fast.qFI13 26 (w) os c r tk cp O p k3 k4 k5).1 = (PySem.W.Fast.qFI13 26 (w) os c r tk cp O p k3 k4 k5).2 := fun w os c r tk cp O p k3 k4 k5 => by kernel_rfl
theorem GI13 (w : World) (os : OsState) (c r tk : Nat) (cp : Value) (O : Obj) (p : Pos) (k3 k4 k5 : KR) : Goes w (SA13 w.params os (.ofNat c) (.ofNat (r + 1)) cp O tk) (inT w p 186 k3 k4 k5) (⟨TA13 w.params (Int.ofNat c + Int.ofNat 1) (Int.ofNat (r + 1) - 1) (.int (.ofNat c) tk) O, 187, {}, gI13 w os c r tk cp O k3 k4 k5, {}, tk + 2, os⟩) (addTh (.int (.ofNat c) tk) k3 k4 k5) 26 := ⟨26, Nat.le_refl _, by have h := KI13 w os c r tk cp O p k3 k4 k5; rw [← PySem.W.Fast.qFI13_eq] at h; unfold FI13 at h; dsimp only at h; exact h⟩
noncomputable def FJ13 (n : Nat) (w : World) (os : OsState) (c r tk tk2 : Nat) (i j : Int) (cp cp2 : Value) (O O2 : Obj) (k3 k4 k5 : KR) : RT × RT := (goT n w (⟨TA13 w.params i j cp2 O2, 187, {}, gI13 w os c r tk cp O k3 k4 k5, {}, tk2, os⟩) (agTh k3 k4 k5), some (SA13 w.params os i j cp2 O2 tk2, inT w PR 186 k3 k4 k5))
theorem FJ13_self : FJ13 = FJ13 := rfl
name_quick qFJ13 for Mine.FJ13 by Mine.FJ13_self
theorem KJ13 : ∀ (w : World) (os : OsState) c r tk tk2 i j cp cp2 O O2 k3 k4 k5, (PySem.W.Fast.qFJ13 11 (w) os c r tk tk2 i j cp cp2 O O2 k3 k4 k5).1 = (PySem.W.Fast.qFJ13 11 (w) os c r tk tk2 i j cp cp2 O O2 k3 k4 k5).2 := fun w os c r tk tk2 i j cp cp2 O O2 k3 k4 k5 => by kernel_rfl
theorem GJ13 (w : World) (os : OsState) (c r tk tk2 : Nat) (i j : Int) (cp cp2 : Value) (O O2 : Obj) (k3 k4 k5 : KR) : Goes w (⟨TA13 w.params i j cp2 O2, 187, {}, gI13 w os c r tk cp O k3 k4 k5, {}, tk2, os⟩) (agTh k3 k4 k5) (SA13 w.params os i j cp2 O2 tk2) (inT w PR 186 k3 k4 k5) 11 := ⟨11, Nat.le_refl _, by have h := KJ13 w os c r tk tk2 i j cp cp2 O O2 k3 k4 k5; rw [← PySem.W.Fast.qFJ13_eq] at h; unfold FJ13 at h; dsimp only at h; exact h⟩
noncomputable def FE13 (n : Nat) (w : World) (os : OsState) (tk : Nat) (cp : Value) (O : Obj) (p : Pos) (k3 k4 k5 : KR) : RT × RT := (goT n w (SA13 w.params os (.ofNat 9812) (.ofNat 0) cp O tk) (inT w p 186 k3 k4 k5), some (SD14 w.params os cp O tk, outT w k3 k4 k5))
theorem FE13_self : FE13 = FE13 := rfl
name_quick qFE13 for Mine.FE13 by Mine.FE13_self
theorem KE13 : ∀ (w : World) (os : OsState) tk cp O p k3 k4 k5, (PySem.W.Fast.qFE13 16 (w) os tk cp O p k3 k4 k5).1 = (PySem.W.Fast.qFE13 16 (w) os tk cp O p k3 k4 k5).2 := fun w os tk cp O p k3 k4 k5 => by kernel_rfl
theorem GE13 (w : World) (os : OsState) (tk : Nat) (cp : Value) (O : Obj) (p : Pos) (k3 k4 k5 : KR) : Goes w (SA13 w.params os (.ofNat 9812) (.ofNat 0) cp O tk) (inT w p 186 k3 k4 k5) (SD14 w.params os cp O tk) (outT w k3 k4 k5) 16 := ⟨16, Nat.le_refl _, by have h := KE13 w os tk cp O p k3 k4 k5; rw [← PySem.W.Fast.qFE13_eq] at h; unfold FE13 at h; dsimp only at h; exact h⟩
noncomputable def FA14 (n : Nat) (w : World) (os : OsState) (cp : Value) (O : Obj) (k3 k4 k5 : KR) : RT × RT := (goT n w (SD14 w.params os cp O 595) (outT w k3 k4 k5), some (SA14 w.params os (.ofNat 9975) (.ofNat 4) cp O 600, thr (csG 1 193) PQ (k0F k0 (inF (kg w) (kn w) (uf k3 k4 k5)))))
theorem FA14_self : FA14 = FA14 := rfl
name_quick qFA14 for Mine.FA14 by Mine.FA14_self
theorem KA14_false : ∀ (w : World) (os : OsState) cp O k3 k4 k5, (PySem.W.Fast.qFA14 116 (wg false w) os cp O k3 k4 k5).1 = (PySem.W.Fast.qFA14 116 (wg false w) os cp O k3 k4 k5).2 := fun w os cp O k3 k4 k5 => by kernel_rfl
theorem KA14_true : ∀ (w : World) (os : OsState) cp O k3 k4 k5, (PySem.W.Fast.qFA14 116 (wg true w) os cp O k3 k4 k5).1 = (PySem.W.Fast.qFA14 116 (wg true w) os cp O k3 k4 k5).2 := fun w os cp O k3 k4 k5 => by kernel_rfl
theorem GA14 (w : World) (os : OsState) (cp : Value) (O : Obj) (k3 k4 k5 : KR) : Goes w (SD14 w.params os cp O 595) (outT w k3 k4 k5) (SA14 w.params os (.ofNat 9975) (.ofNat 4) cp O 600) (thr (csG 1 193) PQ (k0F k0 (inF (kg w) (kn w) (uf k3 k4 k5)))) 116 := by
  revert w; refine rows1 (fun b w => ?_); cases b
  · exact ⟨116, Nat.le_refl _, by have h := KA14_false w os cp O k3 k4 k5; rw [← PySem.W.Fast.qFA14_eq] at h; unfold FA14 at h; dsimp only at h; exact h⟩
  · exact ⟨116, Nat.le_refl _, by have h := KA14_true w os cp O k3 k4 k5; rw [← PySem.W.Fast.qFA14_eq] at h; unfold FA14 at h; dsimp only at h; exact h⟩
noncomputable def FS14 (n : Nat) (w : World) (os : OsState) (cp : Value) (O : Obj) (k3 k4 k5 : KR) : RT × RT := (goT n w (SA14 w.params os (.ofNat 9975) (.ofNat 4) cp O 600) (thr (csG 1 193) PQ (k0F k0 (inF (kg w) (kn w) (uf k3 k4 k5)))), some (SA14 w.params os (.ofNat 9975) (.ofNat 4) cp O 600, inT w PQ 193 k3 k4 k5))
theorem FS14_self : FS14 = FS14 := rfl
name_quick qFS14 for Mine.FS14 by Mine.FS14_self
theorem KS14_ff : ∀ (w : World) (os : OsState) cp O k3 k4 k5, (PySem.W.Fast.qFS14 12 (wf false false w) os cp O k3 k4 k5).1 = (PySem.W.Fast.qFS14 12 (wf false false w) os cp O k3 k4 k5).2 := fun w os cp O k3 k4 k5 => by kernel_rfl
theorem KS14_tf : ∀ (w : World) (os : OsState) cp O k3 k4 k5, (PySem.W.Fast.qFS14 12 (wf true false w) os cp O k3 k4 k5).1 = (PySem.W.Fast.qFS14 12 (wf true false w) os cp O k3 k4 k5).2 := fun w os cp O k3 k4 k5 => by kernel_rfl
theorem KS14_t : ∀ (w : World) (os : OsState) cp O k3 k4 k5, (PySem.W.Fast.qFS14 2 (w.withFollow "comprehension-iter-twice" true) os cp O k3 k4 k5).1 = (PySem.W.Fast.qFS14 2 (w.withFollow "comprehension-iter-twice" true) os cp O k3 k4 k5).2 := fun w os cp O k3 k4 k5 => by kernel_rfl
theorem GS14 (w : World) (os : OsState) (cp : Value) (O : Obj) (k3 k4 k5 : KR) : Goes w (SA14 w.params os (.ofNat 9975) (.ofNat 4) cp O 600) (thr (csG 1 193) PQ (k0F k0 (inF (kg w) (kn w) (uf k3 k4 k5)))) (SA14 w.params os (.ofNat 9975) (.ofNat 4) cp O 600) (inT w PQ 193 k3 k4 k5) 12 := by
  revert w; refine rows2 (fun b1 b2 w => ?_); cases b1 <;> cases b2
  · exact ⟨12, Nat.le_of_ble_eq_true rfl, by have h := KS14_ff w os cp O k3 k4 k5; rw [← PySem.W.Fast.qFS14_eq] at h; unfold FS14 at h; dsimp only at h; exact h⟩
  · exact ⟨2, Nat.le_of_ble_eq_true rfl, by have h := KS14_t (w.withFollow "special-get-raises" false) os cp O k3 k4 k5; rw [← PySem.W.Fast.qFS14_eq] at h; unfold FS14 at h; dsimp only at h; exact h⟩
  · exact ⟨12, Nat.le_of_ble_eq_true rfl, by have h := KS14_tf w os cp O k3 k4 k5; rw [← PySem.W.Fast.qFS14_eq] at h; unfold FS14 at h; dsimp only at h; exact h⟩
  · exact ⟨2, Nat.le_of_ble_eq_true rfl, by have h := KS14_t (w.withFollow "special-get-raises" true) os cp O k3 k4 k5; rw [← PySem.W.Fast.qFS14_eq] at h; unfold FS14 at h; dsimp only at h; exact h⟩
noncomputable def gI14 (w : World) (os : OsState) (c r tk : Nat) (cp : Value) (O : Obj) (k3 k4 k5 : KR) : Array GenState := gensOf (goT 26 w (SA14 w.params os (.ofNat c) (.ofNat (r + 1)) cp O tk) (inT w PQ 193 k3 k4 k5))
noncomputable def FI14 (n : Nat) (w : World) (os : OsState) (c r tk : Nat) (cp : Value) (O : Obj) (p : Pos) (k3 k4 k5 : KR) : RT × RT := (goT n w (SA14 w.params os (.ofNat c) (.ofNat (r + 1)) cp O tk) (inT w p 193 k3 k4 k5), some (⟨TA14 w.params (Int.ofNat c + Int.ofNat 1) (Int.ofNat (r + 1) - 1) (.int (.ofNat c) tk) O, 194, {}, gI14 w os c r tk cp O k3 k4 k5, {}, tk + 2, os⟩, addTh (.int (.ofNat c) tk) k3 k4 k5))
theorem FI14_self : FI14 = FI14 := rfl
name_quick qFI14 for Mine.FI14 by Mine.FI14_self
theorem KI14 : ∀ (w : World) (os : OsState) c r tk cp O p k3 k4 k5, (PySem.W.Fast.qFI14 26 (w) os c r tk cp O p k3 k4 k5).1 = (PySem.W.Fast.qFI14 26 (w) os c r tk cp O p k3 k4 k5).2 := fun w os c r tk cp O p k3 k4 k5 => by kernel_rfl
theorem GI14 (w : World) (os : OsState) (c r tk : Nat) (cp : Value) (O : Obj) (p : Pos) (k3 k4 k5 : KR) : Goes w (SA14 w.params os (.ofNat c) (.ofNat (r + 1)) cp O tk) (inT w p 193 k3 k4 k5) (⟨TA14 w.params (Int.ofNat c + Int.ofNat 1) (Int.ofNat (r + 1) - 1) (.int (.ofNat c) tk) O, 194, {}, gI14 w os c r tk cp O k3 k4 k5, {}, tk + 2, os⟩) (addTh (.int (.ofNat c) tk) k3 k4 k5) 26 := ⟨26, Nat.le_refl _, by have h := KI14 w os c r tk cp O p k3 k4 k5; rw [← PySem.W.Fast.qFI14_eq] at h; unfold FI14 at h; dsimp only at h; exact h⟩
noncomputable def FJ14 (n : Nat) (w : World) (os : OsState) (c r tk tk2 : Nat) (i j : Int) (cp cp2 : Value) (O O2 : Obj) (k3 k4 k5 : KR) : RT × RT := (goT n w (⟨TA14 w.params i j cp2 O2, 194, {}, gI14 w os c r tk cp O k3 k4 k5, {}, tk2, os⟩) (agTh k3 k4 k5), some (SA14 w.params os i j cp2 O2 tk2, inT w PR 193 k3 k4 k5))
theorem FJ14_self : FJ14 = FJ14 := rfl
name_quick qFJ14 for Mine.FJ14 by Mine.FJ14_self
theorem KJ14 : ∀ (w : World) (os : OsState) c r tk tk2 i j cp cp2 O O2 k3 k4 k5, (PySem.W.Fast.qFJ14 11 (w) os c r tk tk2 i j cp cp2 O O2 k3 k4 k5).1 = (PySem.W.Fast.qFJ14 11 (w) os c r tk tk2 i j cp cp2 O O2 k3 k4 k5).2 := fun w os c r tk tk2 i j cp cp2 O O2 k3 k4 k5 => by kernel_rfl
theorem GJ14 (w : World) (os : OsState) (c r tk tk2 : Nat) (i j : Int) (cp cp2 : Value) (O O2 : Obj) (k3 k4 k5 : KR) : Goes w (⟨TA14 w.params i j cp2 O2, 194, {}, gI14 w os c r tk cp O k3 k4 k5, {}, tk2, os⟩) (agTh k3 k4 k5) (SA14 w.params os i j cp2 O2 tk2) (inT w PR 193 k3 k4 k5) 11 := ⟨11, Nat.le_refl _, by have h := KJ14 w os c r tk tk2 i j cp cp2 O O2 k3 k4 k5; rw [← PySem.W.Fast.qFJ14_eq] at h; unfold FJ14 at h; dsimp only at h; exact h⟩
noncomputable def FE14 (n : Nat) (w : World) (os : OsState) (tk : Nat) (cp : Value) (O : Obj) (p : Pos) (k3 k4 k5 : KR) : RT × RT := (goT n w (SA14 w.params os (.ofNat 9979) (.ofNat 0) cp O tk) (inT w p 193 k3 k4 k5), some (SD15 w.params os cp O tk, outT w k3 k4 k5))
theorem FE14_self : FE14 = FE14 := rfl
name_quick qFE14 for Mine.FE14 by Mine.FE14_self
theorem KE14 : ∀ (w : World) (os : OsState) tk cp O p k3 k4 k5, (PySem.W.Fast.qFE14 16 (w) os tk cp O p k3 k4 k5).1 = (PySem.W.Fast.qFE14 16 (w) os tk cp O p k3 k4 k5).2 := fun w os tk cp O p k3 k4 k5 => by kernel_rfl
theorem GE14 (w : World) (os : OsState) (tk : Nat) (cp : Value) (O : Obj) (p : Pos) (k3 k4 k5 : KR) : Goes w (SA14 w.params os (.ofNat 9979) (.ofNat 0) cp O tk) (inT w p 193 k3 k4 k5) (SD15 w.params os cp O tk) (outT w k3 k4 k5) 16 := ⟨16, Nat.le_refl _, by have h := KE14 w os tk cp O p k3 k4 k5; rw [← PySem.W.Fast.qFE14_eq] at h; unfold FE14 at h; dsimp only at h; exact h⟩
end Mine
end
section
open PySem PySem.W PyProof.Rows
set_option maxRecDepth 100000
set_option maxHeartbeats 0
set_option linter.unusedVariables false
namespace Mine
noncomputable def FA15 (n : Nat) (w : World) (os : OsState) (cp : Value) (O : Obj) (k3 k4 k5 : KR) : RT × RT := (goT n w (SD15 w.params os cp O 612) (outT w k3 k4 k5), some (SA15 w.params os (.ofNat 9992) (.ofNat 6) cp O 617, thr (csG 1 200) PQ (k0F k0 (inF (kg w) (kn w) (uf k3 k4 k5)))))
theorem FA15_self : FA15 = FA15 := rfl
name_quick qFA15 for Mine.FA15 by Mine.FA15_self
theorem KA15_false : ∀ (w : World) (os : OsState) cp O k3 k4 k5, (PySem.W.Fast.qFA15 116 (wg false w) os cp O k3 k4 k5).1 = (PySem.W.Fast.qFA15 116 (wg false w) os cp O k3 k4 k5).2 := fun w os cp O k3 k4 k5 => by kernel_rfl
theorem KA15_true : ∀ (w : World) (os : OsState) cp O k3 k4 k5, (PySem.W.Fast.qFA15 116 (wg true w) os cp O k3 k4 k5).1 = (PySem.W.Fast.qFA15 116 (wg true w) os cp O k3 k4 k5).2 := fun w os cp O k3 k4 k5 => by kernel_rfl
theorem GA15 (w : World) (os : OsState) (cp : Value) (O : Obj) (k3 k4 k5 : KR) : Goes w (SD15 w.params os cp O 612) (outT w k3 k4 k5) (SA15 w.params os (.ofNat 9992) (.ofNat 6) cp O 617) (thr (csG 1 200) PQ (k0F k0 (inF (kg w) (kn w) (uf k3 k4 k5)))) 116 := by
  revert w; refine rows1 (fun b w => ?_); cases b
  · exact ⟨116, Nat.le_refl _, by have h := KA15_false w os cp O k3 k4 k5; rw [← PySem.W.Fast.qFA15_eq] at h; unfold FA15 at h; dsimp only at h; exact h⟩
  · exact ⟨116, Nat.le_refl _, by have h := KA15_true w os cp O k3 k4 k5; rw [← PySem.W.Fast.qFA15_eq] at h; unfold FA15 at h; dsimp only at h; exact h⟩
noncomputable def FS15 (n : Nat) (w : World) (os : OsState) (cp : Value) (O : Obj) (k3 k4 k5 : KR) : RT × RT := (goT n w (SA15 w.params os (.ofNat 9992) (.ofNat 6) cp O 617) (thr (csG 1 200) PQ (k0F k0 (inF (kg w) (kn w) (uf k3 k4 k5)))), some (SA15 w.params os (.ofNat 9992) (.ofNat 6) cp O 617, inT w PQ 200 k3 k4 k5))
theorem FS15_self : FS15 = FS15 := rfl
name_quick qFS15 for Mine.FS15 by Mine.FS15_self
theorem KS15_ff : ∀ (w : World) (os : OsState) cp O k3 k4 k5, (PySem.W.Fast.qFS15 12 (wf false false w) os cp O k3 k4 k5).1 = (PySem.W.Fast.qFS15 12 (wf false false w) os cp O k3 k4 k5).2 := fun w os cp O k3 k4 k5 => by kernel_rfl
theorem KS15_tf : ∀ (w : World) (os : OsState) cp O k3 k4 k5, (PySem.W.Fast.qFS15 12 (wf true false w) os cp O k3 k4 k5).1 = (PySem.W.Fast.qFS15 12 (wf true false w) os cp O k3 k4 k5).2 := fun w os cp O k3 k4 k5 => by kernel_rfl
theorem KS15_t : ∀ (w : World) (os : OsState) cp O k3 k4 k5, (PySem.W.Fast.qFS15 2 (w.withFollow "comprehension-iter-twice" true) os cp O k3 k4 k5).1 = (PySem.W.Fast.qFS15 2 (w.withFollow "comprehension-iter-twice" true) os cp O k3 k4 k5).2 := fun w os cp O k3 k4 k5 => by kernel_rfl
theorem GS15 (w : World) (os : OsState) (cp : Value) (O : Obj) (k3 k4 k5 : KR) : Goes w (SA15 w.params os (.ofNat 9992) (.ofNat 6) cp O 617) (thr (csG 1 200) PQ (k0F k0 (inF (kg w) (kn w) (uf k3 k4 k5)))) (SA15 w.params os (.ofNat 9992) (.ofNat 6) cp O 617) (inT w PQ 200 k3 k4 k5) 12 := by
  revert w; refine rows2 (fun b1 b2 w => ?_); cases b1 <;> cases b2
  · exact ⟨12, Nat.le_of_ble_eq_true rfl, by have h := KS15_ff w os cp O k3 k4 k5; rw [← PySem.W.Fast.qFS15_eq] at h; unfold FS15 at h; dsimp only at h; exact h⟩
  · exact ⟨2, Nat.le_of_ble_eq_true rfl, by have h := KS15_t (w.withFollow "special-get-raises" false) os cp O k3 k4 k5; rw [← PySem.W.Fast.qFS15_eq] at h; unfold FS15 at h; dsimp only at h; exact h⟩
  · exact ⟨12, Nat.le_of_ble_eq_true rfl, by have h := KS15_tf w os cp O k3 k4 k5; rw [← PySem.W.Fast.qFS15_eq] at h; unfold FS15 at h; dsimp only at h; exact h⟩
  · exact ⟨2, Nat.le_of_ble_eq_true rfl, by have h := KS15_t (w.withFollow "special-get-raises" true) os cp O k3 k4 k5; rw [← PySem.W.Fast.qFS15_eq] at h; unfold FS15 at h; dsimp only at h; exact h⟩
noncomputable def gI15 (w : World) (os : OsState) (c r tk : Nat) (cp : Value) (O : Obj) (k3 k4 k5 : KR) : Array GenState := gensOf (goT 26 w (SA15 w.params os (.ofNat c) (.ofNat (r + 1)) cp O tk) (inT w PQ 200 k3 k4 k5))
noncomputable def FI15 (n : Nat) (w : World) (os : OsState) (c r tk : Nat) (cp : Value) (O : Obj) (p : Pos) (k3 k4 k5 : KR) : RT × RT := (goT n w (SA15 w.params os (.ofNat c) (.ofNat (r + 1)) cp O tk) (inT w p 200 k3 k4 k5), some (⟨TA15 w.params (Int.ofNat c + Int.ofNat 1) (Int.ofNat (r + 1) - 1) (.int (.ofNat c) tk) O, 201, {}, gI15 w os c r tk cp O k3 k4 k5, {}, tk + 2, os⟩, addTh (.int (.ofNat c) tk) k3 k4 k5))
theorem FI15_self : FI15 = FI15 := rfl
name_quick qFI15 for Mine.FI15 by Mine.FI15_self
theorem KI15 : ∀ (w : World) (os : OsState) c r tk cp O p k3 k4 k5, (PySem.W.Fast.qFI15 26 (w) os c r tk cp O p k3 k4 k5).1 = (PySem.W.Fast.qFI15 26 (w) os c r tk cp O p k3 k4 k5).2 := fun w os c r tk cp O p k3 k4 k5 => by kernel_rfl
theorem GI15 (w : World) (os : OsState) (c r tk : Nat) (cp : Value) (O : Obj) (p : Pos) (k3 k4 k5 : KR) : Goes w (SA15 w.params os (.ofNat c) (.ofNat (r + 1)) cp O tk) (inT w p 200 k3 k4 k5) (⟨TA15 w.params (Int.ofNat c + Int.ofNat 1) (Int.ofNat (r + 1) - 1) (.int (.ofNat c) tk) O, 201, {}, gI15 w os c r tk cp O k3 k4 k5, {}, tk + 2, os⟩) (addTh (.int (.ofNat c) tk) k3 k4 k5) 26 := ⟨26, Nat.le_refl _, by have h := KI15 w os c r tk cp O p k3 k4 k5; rw [← PySem.W.Fast.qFI15_eq] at h; unfold FI15 at h; dsimp only at h; exact h⟩
noncomputable def FJ15 (n : Nat) (w : World) (os : OsState) (c r tk tk2 : Nat) (i j : Int) (cp cp2 : Value) (O O2 : Obj) (k3 k4 k5 : KR) : RT × RT := (goT n w (⟨TA15 w.params i j cp2 O2, 201, {}, gI15 w os c r tk cp O k3 k4 k5, {}, tk2, os⟩) (agTh k3 k4 k5), some (SA15 w.params os i j cp2 O2 tk2, inT w PR 200 k3 k4 k5))
theorem FJ15_self : FJ15 = FJ15 := rfl
name_quick qFJ15 for Mine.FJ15 by Mine.FJ15_self
theorem KJ15 : ∀ (w : World) (os : OsState) c r tk tk2 i j cp cp2 O O2 k3 k4 k5, (PySem.W.Fast.qFJ15 11 (w) os c r tk tk2 i j cp cp2 O O2 k3 k4 k5).1 = (PySem.W.Fast.qFJ15 11 (w) os c r tk tk2 i j cp cp2 O O2 k3 k4 k5).2 := fun w os c r tk tk2 i j cp cp2 O O2 k3 k4 k5 => by kernel_rfl
theorem GJ15 (w : World) (os : OsState) (c r tk tk2 : Nat) (i j : Int) (cp cp2 : Value) (O O2 : Obj) (k3 k4 k5 : KR) : Goes w (⟨TA15 w.params i j cp2 O2, 201, {}, gI15 w os c r tk cp O k3 k4 k5, {}, tk2, os⟩) (agTh k3 k4 k5) (SA15 w.params os i j cp2 O2 tk2) (inT w PR 200 k3 k4 k5) 11 := ⟨11, Nat.le_refl _, by have h := KJ15 w os c r tk tk2 i j cp cp2 O O2 k3 k4 k5; rw [← PySem.W.Fast.qFJ15_eq] at h; unfold FJ15 at h; dsimp only at h; exact h⟩
noncomputable def FE15 (n : Nat) (w : World) (os : OsState) (tk : Nat) (cp : Value) (O : Obj) (p : Pos) (k3 k4 k5 : KR) : RT × RT := (goT n w (SA15 w.params os (.ofNat 9998) (.ofNat 0) cp O tk) (inT w p 200 k3 k4 k5), some (SD16 w.params os cp O tk, outT w k3 k4 k5))
theorem FE15_self : FE15 = FE15 := rfl
name_quick qFE15 for Mine.FE15 by Mine.FE15_self
theorem KE15 : ∀ (w : World) (os : OsState) tk cp O p k3 k4 k5, (PySem.W.Fast.qFE15 16 (w) os tk cp O p k3 k4 k5).1 = (PySem.W.Fast.qFE15 16 (w) os tk cp O p k3 k4 k5).2 := fun w os tk cp O p k3 k4 k5 => by kernel_rfl
theorem GE15 (w : World) (os : OsState) (tk : Nat) (cp : Value) (O : Obj) (p : Pos) (k3 k4 k5 : KR) : Goes w (SA15 w.params os (.ofNat 9998) (.ofNat 0) cp O tk) (inT w p 200 k3 k4 k5) (SD16 w.params os cp O tk) (outT w k3 k4 k5) 16 := ⟨16, Nat.le_refl _, by have h := KE15 w os tk cp O p k3 k4 k5; rw [← PySem.W.Fast.qFE15_eq] at h; unfold FE15 at h; dsimp only at h; exact h⟩
noncomputable def FA16 (n : Nat) (w : World) (os : OsState) (cp : Value) (O : Obj) (k3 k4 k5 : KR) : RT × RT := (goT n w (SD16 w.params os cp O 635) (outT w k3 k4 k5), some (SA16 w.params os (.ofNat 10083) (.ofNat 2) cp O 640, thr (csG 1 207) PQ (k0F k0 (inF (kg w) (kn w) (uf k3 k4 k5)))))
theorem FA16_self : FA16 = FA16 := rfl
name_quick qFA16 for Mine.FA16 by Mine.FA16_self
theorem KA16_false : ∀ (w : World) (os : OsState) cp O k3 k4 k5, (PySem.W.Fast.qFA16 116 (wg false w) os cp O k3 k4 k5).1 = (PySem.W.Fast.qFA16 116 (wg false w) os cp O k3 k4 k5).2 := fun w os cp O k3 k4 k5 => by kernel_rfl
theorem KA16_true : ∀ (w : World) (os : OsState) cp O k3 k4 k5, (PySem.W.Fast.qFA16 116 (wg true w) os cp O k3 k4 k5).1 = (PySem.W.Fast.qFA16 116 (wg true w) os cp O k3 k4 k5).2 := fun w os cp O k3 k4 k5 => by kernel_rfl
theorem GA16 (w : World) (os : OsState) (cp : Value) (O : Obj) (k3 k4 k5 : KR) : Goes w (SD16 w.params os cp O 635) (outT w k3 k4 k5) (SA16 w.params os (.ofNat 10083) (.ofNat 2) cp O 640) (thr (csG 1 207) PQ (k0F k0 (inF (kg w) (kn w) (uf k3 k4 k5)))) 116 := by
  revert w; refine rows1 (fun b w => ?_); cases b
  · exact ⟨116, Nat.le_refl _, by have h := KA16_false w os cp O k3 k4 k5; rw [← PySem.W.Fast.qFA16_eq] at h; unfold FA16 at h; dsimp only at h; exact h⟩
  · exact ⟨116, Nat.le_refl _, by have h := KA16_true w os cp O k3 k4 k5; rw [← PySem.W.Fast.qFA16_eq] at h; unfold FA16 at h; dsimp only at h; exact h⟩
noncomputable def FS16 (n : Nat) (w : World) (os : OsState) (cp : Value) (O : Obj) (k3 k4 k5 : KR) : RT × RT := (goT n w (SA16 w.params os (.ofNat 10083) (.ofNat 2) cp O 640) (thr (csG 1 207) PQ (k0F k0 (inF (kg w) (kn w) (uf k3 k4 k5)))), some (SA16 w.params os (.ofNat 10083) (.ofNat 2) cp O 640, inT w PQ 207 k3 k4 k5))
theorem FS16_self : FS16 = FS16 := rfl
name_quick qFS16 for Mine.FS16 by Mine.FS16_self
theorem KS16_ff : ∀ (w : World) (os : OsState) cp O k3 k4 k5, (PySem.W.Fast.qFS16 12 (wf false false w) os cp O k3 k4 k5).1 = (PySem.W.Fast.qFS16 12 (wf false false w) os cp O k3 k4 k5).2 := fun w os cp O k3 k4 k5 => by kernel_rfl
theorem KS16_tf : ∀ (w : World) (os : OsState) cp O k3 k4 k5, (PySem.W.Fast.qFS16 12 (wf true false w) os cp O k3 k4 k5).1 = (PySem.W.Fast.qFS16 12 (wf true false w) os cp O k3 k4 k5).2 := fun w os cp O k3 k4 k5 => by kernel_rfl
theorem KS16_t : ∀ (w : World) (os : OsState) cp O k3 k4 k5, (PySem.W.Fast.qFS16 2 (w.withFollow "comprehension-iter-twice" true) os cp O k3 k4 k5).1 = (PySem.W.Fast.qFS16 2 (w.withFollow "comprehension-iter-twice" true) os cp O k3 k4 k5).2 := fun w os cp O k3 k4 k5 => by kernel_rfl
theorem GS16 (w : World) (os : OsState) (cp : Value) (O : Obj) (k3 k4 k5 : KR) : Goes w (SA16 w.params os (.ofNat 10083) (.ofNat 2) cp O 640) (thr (csG 1 207) PQ (k0F k0 (inF (kg w) (kn w) (uf k3 k4 k5)))) (SA16 w.params os (.ofNat 10083) (.ofNat 2) cp O 640) (inT w PQ 207 k3 k4 k5) 12 := by
  revert w; refine rows2 (fun b1 b2 w => ?_); cases b1 <;> cases b2
  · exact ⟨12, Nat.le_of_ble_eq_true rfl, by have h := KS16_ff w os cp O k3 k4 k5; rw [← PySem.W.Fast.qFS16_eq] at h; unfold FS16 at h; dsimp only at h; exact h⟩
  · exact ⟨2, Nat.le_of_ble_eq_true rfl, by have h := KS16_t (w.withFollow "special-get-raises" false) os cp O k3 k4 k5; rw [← PySem.W.Fast.qFS16_eq] at h; unfold FS16 at h; dsimp only at h; exact h⟩
  · exact ⟨12, Nat.le_of_ble_eq_true rfl, by have h := KS16_tf w os cp O k3 k4 k5; rw [← PySem.W.Fast.qFS16_eq] at h; unfold FS16 at h; dsimp only at h; exact h⟩
  · exact ⟨2, Nat.le_of_ble_eq_true rfl, by have h := KS16_t (w.withFollow "special-get-raises" true) os cp O k3 k4 k5; rw [← PySem.W.Fast.qFS16_eq] at h; unfold FS16 at h; dsimp only at h; exact h⟩
noncomputable def gI16 (w : World) (os : OsState) (c r tk : Nat) (cp : Value) (O : Obj) (k3 k4 k5 : KR) : Array GenState := gensOf (goT 26 w (SA16 w.params os (.ofNat c) (.ofNat (r + 1)) cp O tk) (inT w PQ 207 k3 k4 k5))
noncomputable def FI16 (n : Nat) (w : World) (os : OsState) (c r tk : Nat) (cp : Value) (O : Obj) (p : Pos) (k3 k4 k5 : KR) : RT × RT := (goT n w (SA16 w.params os (.ofNat c) (.ofNat (r + 1)) cp O tk) (inT w p 207 k3 k4 k5), some (⟨TA16 w.params (Int.ofNat c + Int.ofNat 1) (Int.ofNat (r + 1) - 1) (.int (.ofNat c) tk) O, 208, {}, gI16 w os c r tk cp O k3 k4 k5, {}, tk + 2, os⟩, addTh (.int (.ofNat c) tk) k3 k4 k5))
theorem FI16_self : FI16 = FI16 := rfl
name_quick qFI16 for Mine.FI16 by Mine.FI16_self
theorem KI16 : ∀ (w : World) (os : OsState) c r tk cp O p k3 k4 k5, (PySem.W.Fast.qFI16 26 (w) os c r tk cp O p k3 k4 k5).1 = (PySem.W.Fast.qFI16 26 (w) os c r tk cp O p k3 k4 k5).2 := fun w os c r tk cp O p k3 k4 k5 => by kernel_rfl
theorem GI16 (w : World) (os : OsState) (c r tk : Nat) (cp : Value) (O : Obj) (p : Pos) (k3 k4 k5 : KR) : Goes w (SA16 w.params os (.ofNat c) (.ofNat (r + 1)) cp O tk) (inT w p 207 k3 k4 k5) (⟨TA16 w.params (Int.ofNat c + Int.ofNat 1) (Int.ofNat (r + 1) - 1) (.int (.ofNat c) tk) O, 208, {}, gI16 w os c r tk cp O k3 k4 k5, {}, tk + 2, os⟩) (addTh (.int (.ofNat c) tk) k3 k4 k5) 26 := ⟨26, Nat.le_refl _, by have h := KI16 w os c r tk cp O p k3 k4 k5; rw [← PySem.W.Fast.qFI16_eq] at h; unfold FI16 at h; dsimp only at h; exact h⟩
noncomputable def FJ16 (n : Nat) (w : World) (os : OsState) (c r tk tk2 : Nat) (i j : Int) (cp cp2 : Value) (O O2 : Obj) (k3 k4 k5 : KR) : RT × RT := (goT n w (⟨TA16 w.params i j cp2 O2, 208, {}, gI16 w os c r tk cp O k3 k4 k5, {}, tk2, os⟩) (agTh k3 k4 k5), some (SA16 w.params os i j cp2 O2 tk2, inT w PR 207 k3 k4 k5))
theorem FJ16_self : FJ16 = FJ16 := rfl
name_quick qFJ16 for Mine.FJ16 by Mine.FJ16_self
theorem KJ16 : ∀ (w : World) (os : OsState) c r tk tk2 i j cp cp2 O O2 k3 k4 k5, (PySem.W.Fast.qFJ16 11 (w) os c r tk tk2 i j cp cp2 O O2 k3 k4 k5).1 = (PySem.W.Fast.qFJ16 11 (w) os c r tk tk2 i j cp cp2 O O2 k3 k4 k5).2 := fun w os c r tk tk2 i j cp cp2 O O2 k3 k4 k5 => by kernel_rfl
theorem GJ16 (w : World) (os : OsState) (c r tk tk2 : Nat) (i j : Int) (cp cp2 : Value) (O O2 : Obj) (k3 k4 k5 : KR) : Goes w (⟨TA16 w.params i j cp2 O2, 208, {}, gI16 w os c r tk cp O k3 k4 k5, {}, tk2, os⟩) (agTh k3 k4 k5) (SA16 w.params os i j cp2 O2 tk2) (inT w PR 207 k3 k4 k5) 11 := ⟨11, Nat.le_refl _, by have h := KJ16 w os c r tk tk2 i j cp cp2 O O2 k3 k4 k5; rw [← PySem.W.Fast.qFJ16_eq] at h; unfold FJ16 at h; dsimp only at h; exact h⟩
noncomputable def FE16 (n : Nat) (w : World) (os : OsState) (tk : Nat) (cp : Value) (O : Obj) (p : Pos) (k3 k4 k5 : KR) : RT × RT := (goT n w (SA16 w.params os (.ofNat 10085) (.ofNat 0) cp O tk) (inT w p 207 k3 k4 k5), some (SD17 w.params os cp O tk, outT w k3 k4 k5))
theorem FE16_self : FE16 = FE16 := rfl
name_quick qFE16 for Mine.FE16 by Mine.FE16_self
theorem KE16 : ∀ (w : World) (os : OsState) tk cp O p k3 k4 k5, (PySem.W.Fast.qFE16 16 (w) os tk cp O p k3 k4 k5).1 = (PySem.W.Fast.qFE16 16 (w) os tk cp O p k3 k4 k5).2 := fun w os tk cp O p k3 k4 k5 => by kernel_rfl
theorem GE16 (w : World) (os : OsState) (tk : Nat) (cp : Value) (O : Obj) (p : Pos) (k3 k4 k5 : KR) : Goes w (SA16 w.params os (.ofNat 10085) (.ofNat 0) cp O tk) (inT w p 207 k3 k4 k5) (SD17 w.params os cp O tk) (outT w k3 k4 k5) 16 := ⟨16, Nat.le_refl _, by have h := KE16 w os tk cp O p k3 k4 k5; rw [← PySem.W.Fast.qFE16_eq] at h; unfold FE16 at h; dsimp only at h; exact h⟩
noncomputable def FA17 (n : Nat) (w : World) (os : OsState) (cp : Value) (O : Obj) (k3 k4 k5 : KR) : RT × RT := (goT n w (SD17 w.params os cp O 646) (outT w k3 k4 k5), some (SA17 w.params os (.ofNat 12336) (.ofNat 1) cp O 651, thr (csG 1 214) PQ (k0F k0 (inF (kg w) (kn w) (uf k3 k4 k5)))))
theorem FA17_self : FA17 = FA17 := rfl
name_quick qFA17 for Mine.FA17 by Mine.FA17_self
theorem KA17_false : ∀ (w : World) (os : OsState) cp O k3 k4 k5, (PySem.W.Fast.qFA17 116 (wg false w) os cp O k3 k4 k5).1 = (PySem.W.Fast.qFA17 116 (wg false w) os cp O k3 k4 k5).2 := fun w os cp O k3 k4 k5 => by kernel_rfl
theorem KA17_true : ∀ (w : World) (os : OsState) cp O k3 k4 k5, (PySem.W.Fast.qFA17 116 (wg true w) os cp O k3 k4 k5).1 = (PySem.W.Fast.qFA17 116 (wg true w) os cp O k3 k4 k5).2 := fun w os cp O k3 k4 k5 => by kernel_rfl
theorem GA17 (w : World) (os : OsState) (cp : Value) (O : Obj) (k3 k4 k5 : KR) : Goes w (SD17 w.params os cp O 646) (outT w k3 k4 k5) (SA17 w.params os (.ofNat 12336) (.ofNat 1) cp O 651) (thr (csG 1 214) PQ (k0F k0 (inF (kg w) (kn w) (uf k3 k4 k5)))) 116 := by
  revert w; refine rows1 (fun b w => ?_); cases b
  · exact ⟨116, Nat.le_refl _, by have h := KA17_false w os cp O k3 k4 k5; rw [← PySem.W.Fast.qFA17_eq] at h; unfold FA17 at h; dsimp only at h; exact h⟩
  · exact ⟨116, Nat.le_refl _, by have h := KA17_true w os cp O k3 k4 k5; rw [← PySem.W.Fast.qFA17_eq] at h; unfold FA17 at h; dsimp only at h; exact h⟩
noncomputable def FS17 (n : Nat) (w : World) (os : OsState) (cp : Value) (O : Obj) (k3 k4 k5 : KR) : RT × RT := (goT n w (SA17 w.params os (.ofNat 12336) (.ofNat 1) cp O 651) (thr (csG 1 214) PQ (k0F k0 (inF (kg w) (kn w) (uf k3 k4 k5)))), some (SA17 w.params os (.ofNat 12336) (.ofNat 1) cp O 651, inT w PQ 214 k3 k4 k5))
theorem FS17_self : FS17 = FS17 := rfl
name_quick qFS17 for Mine.FS17 by Mine.FS17_self
theorem KS17_ff : ∀ (w : World) (os : OsState) cp O k3 k4 k5, (PySem.W.Fast.qFS17 12 (wf false false w) os cp O k3 k4 k5).1 = (PySem.W.Fast.qFS17 12 (wf false false w) os cp O k3 k4 k5).2 := fun w os cp O k3 k4 k5 => by kernel_rfl
theorem KS17_tf : ∀ (w : World) (os : OsState) cp O k3 k4 k5, (PySem.W.Fast.qFS17 12 (wf true false w) os cp O k3 k4 k5).1 = (PySem.W.Fast.qFS17 12 (wf true false w) os cp O k3 k4 k5).2 := fun w os cp O k3 k4 k5 => by kernel_rfl
theorem KS17_t : ∀ (w : World) (os : OsState) cp O k3 k4 k5, (PySem.W.Fast.qFS17 2 (w.withFollow "comprehension-iter-twice" true) os cp O k3 k4 k5).1 = (PySem.W.Fast.qFS17 2 (w.withFollow "comprehension-iter-twice" true) os cp O k3 k4 k5).2 := fun w os cp O k3 k4 k5 => by kernel_rfl
theorem GS17 (w : World) (os : OsState) (cp : Value) (O : Obj) (k3 k4 k5 : KR) : Goes w (SA17 w.params os (.ofNat 12336) (.ofNat 1) cp O 651) (thr (csG 1 214) PQ (k0F k0 (inF (kg w) (kn w) (uf k3 k4 k5)))) (SA17 w.params os (.ofNat 12336) (.ofNat 1) cp O 651) (inT w PQ 214 k3 k4 k5) 12 := by
  revert w; refine rows2 (fun b1 b2 w => ?_); cases b1 <;> cases b2
  · exact ⟨12, Nat.le_of_ble_eq_true rfl, by have h := KS17_ff w os cp O k3 k4 k5; rw [← PySem.W.Fast.qFS17_eq] at h; unfold FS17 at h; dsimp only at h; exact h⟩
  · exact ⟨2, Nat.le_of_ble_eq_true rfl, by have h := KS17_t (w.withFollow "special-get-raises" false) os cp O k3 k4 k5; rw [← PySem.W.Fast.qFS17_eq] at h; unfold FS17 at h; dsimp only at h; exact h⟩
  · exact ⟨12, Nat.le_of_ble_eq_true rfl, by have h := KS17_tf w os cp O k3 k4 k5; rw [← PySem.W.Fast.qFS17_eq] at h; unfold FS17 at h; dsimp only at h; exact h⟩
  · exact ⟨2, Nat.le_of_ble_eq_true rfl, by have h := KS17_t (w.withFollow "special-get-raises" true) os cp O k3 k4 k5; rw [← PySem.W.Fast.qFS17_eq] at h; unfold FS17 at h; dsimp only at h; exact h⟩
noncomputable def gI17 (w : World) (os : OsState) (c r tk : Nat) (cp : Value) (O : Obj) (k3 k4 k5 : KR) : Array GenState := gensOf (goT 26 w (SA17 w.params os (.ofNat c) (.ofNat (r + 1)) cp O tk) (inT w PQ 214 k3 k4 k5))
noncomputable def FI17 (n : Nat) (w : World) (os : OsState) (c r tk : Nat) (cp : Value) (O : Obj) (p : Pos) (k3 k4 k5 : KR) : RT × RT := (goT n w (SA17 w.params os (.ofNat c) (.ofNat (r + 1)) cp O tk) (inT w p 214 k3 k4 k5), some (⟨TA17 w.params (Int.ofNat c + Int.ofNat 1) (Int.ofNat (r + 1) - 1) (.int (.ofNat c) tk) O, 215, {}, gI17 w os c r tk cp O k3 k4 k5, {}, tk + 2, os⟩, addTh (.int (.ofNat c) tk) k3 k4 k5))
theorem FI17_self : FI17 = FI17 := rfl
name_quick qFI17 for Mine.FI17 by Mine.FI17_self
theorem KI17 : ∀ (w : World) (os : OsState) c r tk cp O p k3 k4 k5, (PySem.W.Fast.qFI17 26 (w) os c r tk cp O p k3 k4 k5).1 = (PySem.W.Fast.qFI17 26 (w) os c r tk cp O p k3 k4 k5).2 := fun w os c r tk cp O p k3 k4 k5 => by kernel_rfl
theorem GI17 (w : World) (os : OsState) (c r tk : Nat) (cp : Value) (O : Obj) (p : Pos) (k3 k4 k5 : KR) : Goes w (SA17 w.params os (.ofNat c) (.ofNat (r + 1)) cp O tk) (inT w p 214 k3 k4 k5) (⟨TA17 w.params (Int.ofNat c + Int.ofNat 1) (Int.ofNat (r + 1) - 1) (.int (.ofNat c) tk) O, 215, {}, gI17 w os c r tk cp O k3 k4 k5, {}, tk + 2, os⟩) (addTh (.int (.ofNat c) tk) k3 k4 k5) 26 := ⟨26, Nat.le_refl _, by have h := KI17 w os c r tk cp O p k3 k4 k5; rw [← PySem.W.Fast.qFI17_eq] at h; unfold FI17 at h; dsimp only at h; exact h⟩
noncomputable def FJ17 (n : Nat) (w : World) (os : OsState) (c r tk tk2 : Nat) (i j : Int) (cp cp2 : Value) (O O2 : Obj) (k3 k4 k5 : KR) : RT × RT := (goT n w (⟨TA17 w.params i j cp2 O2, 215, {}, gI17 w os c r tk cp O k3 k4 k5, {}, tk2, os⟩) (agTh k3 k4 k5), some (SA17 w.params os i j cp2 O2 tk2, inT w PR 214 k3 k4 k5))
theorem FJ17_self : FJ17 = FJ17 := rfl
name_quick qFJ17 for Mine.FJ17 by Mine.FJ17_self
theorem KJ17 : ∀ (w : World) (os : OsState) c r tk tk2 i j cp cp2 O O2 k3 k4 k5, (PySem.W.Fast.qFJ17 11 (w) os c r tk tk2 i j cp cp2 O O2 k3 k4 k5).1 = (PySem.W.Fast.qFJ17 11 (w) os c r tk tk2 i j cp cp2 O O2 k3 k4 k5).2 := fun w os c r tk tk2 i j cp cp2 O O2 k3 k4 k5 => by kernel_rfl
theorem GJ17 (w : World) (os : OsState) (c r tk tk2 : Nat) (i j : Int) (cp cp2 : Value) (O O2 : Obj) (k3 k4 k5 : KR) : Goes w (⟨TA17 w.params i j cp2 O2, 215, {}, gI17 w os c r tk cp O k3 k4 k5, {}, tk2, os⟩) (agTh k3 k4 k5) (SA17 w.params os i j cp2 O2 tk2) (inT w PR 214 k3 k4 k5) 11 := ⟨11, Nat.le_refl _, by have h := KJ17 w os c r tk tk2 i j cp cp2 O O2 k3 k4 k5; rw [← PySem.W.Fast.qFJ17_eq] at h; unfold FJ17 at h; dsimp only at h; exact h⟩
noncomputable def FE17 (n : Nat) (w : World) (os : OsState) (tk : Nat) (cp : Value) (O : Obj) (p : Pos) (k3 k4 k5 : KR) : RT × RT := (goT n w (SA17 w.params os (.ofNat 12337) (.ofNat 0) cp O tk) (inT w p 214 k3 k4 k5), some (SD18 w.params os cp O tk, outT w k3 k4 k5))
theorem FE17_self : FE17 = FE17 := rfl
name_quick qFE17 for Mine.FE17 by Mine.FE17_self
theorem KE17 : ∀ (w : World) (os : OsState) tk cp O p k3 k4 k5, (PySem.W.Fast.qFE17 16 (w) os tk cp O p k3 k4 k5).1 = (PySem.W.Fast.qFE17 16 (w) os tk cp O p k3 k4 k5).2 := fun w os tk cp O p k3 k4 k5 => by kernel_rfl
theorem GE17 (w : World) (os : OsState) (tk : Nat) (cp : Value) (O : Obj) (p : Pos) (k3 k4 k5 : KR) : Goes w (SA17 w.params os (.ofNat 12337) (.ofNat 0) cp O tk) (inT w p 214 k3 k4 k5) (SD18 w.params os cp O tk) (outT w k3 k4 k5) 16 := ⟨16, Nat.le_refl _, by have h := KE17 w os tk cp O p k3 k4 k5; rw [← PySem.W.Fast.qFE17_eq] at h; unfold FE17 at h; dsimp only at h; exact h⟩
noncomputable def FA18 (n : Nat) (w : World) (os : OsState) (cp : Value) (O : Obj) (k3 k4 k5 : KR) : RT × RT := (goT n w (SD18 w.params os cp O 654) (outT w k3 k4 k5), some (SA18 w.params os (.ofNat 12349) (.ofNat 1) cp O 659, thr (csG 1 221) PQ (k0F k0 (inF (kg w) (kn w) (uf k3 k4 k5)))))
theorem FA18_self : FA18 = FA18 := rfl
name_quick qFA18 for Mine.FA18 by Mine.FA18_self
theorem KA18_false : ∀ (w : World) (os : OsState) cp O k3 k4 k5, (PySem.W.Fast.qFA18 116 (wg false w) os cp O k3 k4 k5).1 = (PySem.W.Fast.qFA18 116 (wg false w) os cp O k3 k4 k5).2 := fun w os cp O k3 k4 k5 => by kernel_rfl
theorem KA18_true : ∀ (w : World) (os : OsState) cp O k3 k4 k5, (PySem.W.Fast.qFA18 116 (wg true w) os cp O k3 k4 k5).1 = (PySem.W.Fast.qFA18 116 (wg true w) os cp O k3 k4 k5).2 := fun w os cp O k3 k4 k5 => by kernel_rfl
theorem GA18 (w : World) (os : OsState) (cp : Value) (O : Obj) (k3 k4 k5 : KR) : Goes w (SD18 w.params os cp O 654) (outT w k3 k4 k5) (SA18 w.params os (.ofNat 12349) (.ofNat 1) cp O 659) (thr (csG 1 221) PQ (k0F k0 (inF (kg w) (kn w) (uf k3 k4 k5)))) 116 := by
  revert w; refine rows1 (fun b w => ?_); cases b
  · exact ⟨116, Nat.le_refl _, by have h := KA18_false w os cp O k3 k4 k5; rw [← PySem.W.Fast.qFA18_eq] at h; unfold FA18 at h; dsimp only at h; exact h⟩
  · exact ⟨116, Nat.le_refl _, by have h := KA18_true w os cp O k3 k4 k5; rw [← PySem.W.Fast.qFA18_eq] at h; unfold FA18 at h; dsimp only at h; exact h⟩
noncomputable def FS18 (n : Nat) (w : World) (os : OsState) (cp : Value) (O : Obj) (k3 k4 k5 : KR) : RT × RT := (goT n w (SA18 w.params os (.ofNat 12349) (.ofNat 1) cp O 659) (thr (csG 1 221) PQ (k0F k0 (inF (kg w) (kn w) (uf k3 k4 k5)))), some (SA18 w.params os (.ofNat 12349) (.ofNat 1) cp O 659, inT w PQ 221 k3 k4 k5))
theorem FS18_self : FS18 = FS18 := rfl
name_quick qFS18 for Mine.FS18 by Mine.FS18_self
theorem KS18_ff : ∀ (w : World) (os : OsState) cp O k3 k4 k5, (PySem.W.Fast.qFS18 12 (wf false false w) os cp O k3 k4 k5).1 = (PySem.W.Fast.qFS18 12 (wf false false w) os cp O k3 k4 k5).2 := fun w os cp O k3 k4 k5 => by kernel_rfl
theorem KS18_tf : ∀ (w : World) (os : OsState) cp O k3 k4 k5, (PySem.W.Fast.qFS18 12 (wf true false w) os cp O k3 k4 k5).1 = (PySem.W.Fast.qFS18 12 (wf true false w) os cp O k3 k4 k5).2 := fun w os cp O k3 k4 k5 => by kernel_rfl
theorem KS18_t : ∀ (w : World) (os : OsState) cp O k3 k4 k5, (PySem.W.Fast.qFS18 2 (w.withFollow "comprehension-iter-twice" true) os cp O k3 k4 k5).1 = (PySem.W.Fast.qFS18 2 (w.withFollow "comprehension-iter-twice" true) os cp O k3 k4 k5).2 := fun w os cp O k3 k4 k5 => by kernel_rfl
theorem GS18 (w : World) (os : OsState) (cp : Value) (O : Obj) (k3 k4 k5 : KR) : Goes w (SA18 w.params os (.ofNat 12349) (.ofNat 1) cp O 659) (thr (csG 1 221) PQ (k0F k0 (inF (kg w) (kn w) (uf k3 k4 k5)))) (SA18 w.params os (.ofNat 12349) (.ofNat 1) cp O 659) (inT w PQ 221 k3 k4 k5) 12 := by
  revert w; refine rows2 (fun b1 b2 w => ?_); cases b1 <;> cases b2
  · exact ⟨12, Nat.le_of_ble_eq_true rfl, by have h := KS18_ff w os cp O k3 k4 k5; rw [← PySem.W.Fast.qFS18_eq] at h; unfold FS18 at h; dsimp only at h; exact h⟩
  · exact ⟨2, Nat.le_of_ble_eq_true rfl, by have h := KS18_t (w.withFollow "special-get-raises" false) os cp O k3 k4 k5; rw [← PySem.W.Fast.qFS18_eq] at h; unfold FS18 at h; dsimp only at h; exact h⟩
  · exact ⟨12, Nat.le_of_ble_eq_true rfl, by have h := KS18_tf w os cp O k3 k4 k5; rw [← PySem.W.Fast.qFS18_eq] at h; unfold FS18 at h; dsimp only at h; exact h⟩
  · exact ⟨2, Nat.le_of_ble_eq_true rfl, by have h := KS18_t (w.withFollow "special-get-raises" true) os cp O k3 k4 k5; rw [← PySem.W.Fast.qFS18_eq] at h; unfold FS18 at h; dsimp only at h; exact h⟩
noncomputable def gI18 (w : World) (os : OsState) (c r tk : Nat) (cp : Value) (O : Obj) (k3 k4 k5 : KR) : Array GenState := gensOf (goT 26 w (SA18 w.params os (.ofNat c) (.ofNat (r + 1)) cp O tk) (inT w PQ 221 k3 k4 k5))
noncomputable def FI18 (n : Nat) (w : World) (os : OsState) (c r tk : Nat) (cp : Value) (O : Obj) (p : Pos) (k3 k4 k5 : KR) : RT × RT := (goT n w (SA18 w.params os (.ofNat c) (.ofNat (r + 1)) cp O tk) (inT w p 221 k3 k4 k5), some (⟨TA18 w.params (Int.ofNat c + Int.ofNat 1) (Int.ofNat (r + 1) - 1) (.int (.ofNat c) tk) O, 222, {}, gI18 w os c r tk cp O k3 k4 k5, {}, tk + 2, os⟩, addTh (.int (.ofNat c) tk) k3 k4 k5))
theorem FI18_self : FI18 = FI18 := rfl
name_quick qFI18 for Mine.FI18 by Mine.FI18_self
theorem KI18 : ∀ (w : World) (os : OsState) c r tk cp O p k3 k4 k5, (PySem.W.Fast.qFI18 26 (w) os c r tk cp O p k3 k4 k5).1 = (PySem.W.Fast.qFI18 26 (w) os c r tk cp O p k3 k4 k5).2 := fun w os c r tk cp O p k3 k4 k5 => by kernel_rfl
theorem GI18 (w : World) (os : OsState) (c r tk : Nat) (cp : Value) (O : Obj) (p : Pos) (k3 k4 k5 : KR) : Goes w (SA18 w.params os (.ofNat c) (.ofNat (r + 1)) cp O tk) (inT w p 221 k3 k4 k5) (⟨TA18 w.params (Int.ofNat c + Int.ofNat 1) (Int.ofNat (r + 1) - 1) (.int (.ofNat c) tk) O, 222, {}, gI18 w os c r tk cp O k3 k4 k5, {}, tk + 2, os⟩) (addTh (.int (.ofNat c) tk) k3 k4 k5) 26 := ⟨26, Nat.le_refl _, by have h := KI18 w os c r tk cp O p k3 k4 k5; rw [← PySem.W.Fast.qFI18_eq] at h; unfold FI18 at h; dsimp only at h; exact h⟩
noncomputable def FJ18 (n : Nat) (w : World) (os : OsState) (c r tk tk2 : Nat) (i j : Int) (cp cp2 : Value) (O O2 : Obj) (k3 k4 k5 : KR) : RT × RT := (goT n w (⟨TA18 w.params i j cp2 O2, 222, {}, gI18 w os c r tk cp O k3 k4 k5, {}, tk2, os⟩) (agTh k3 k4 k5), some (SA18 w.params os i j cp2 O2 tk2, inT w PR 221 k3 k4 k5))
theorem FJ18_self : FJ18 = FJ18 := rfl
name_quick qFJ18 for Mine.FJ18 by Mine.FJ18_self
theorem KJ18 : ∀ (w : World) (os : OsState) c r tk tk2 i j cp cp2 O O2 k3 k4 k5, (PySem.W.Fast.qFJ18 11 (w) os c r tk tk2 i j cp cp2 O O2 k3 k4 k5).1 = (PySem.W.Fast.qFJ18 11 (w) os c r tk tk2 i j cp cp2 O O2 k3 k4 k5).2 := fun w os c r tk tk2 i j cp cp2 O O2 k3 k4 k5 => by kernel_rfl
theorem GJ18 (w : World) (os : OsState) (c r tk tk2 : Nat) (i j : Int) (cp cp2 : Value) (O O2 : Obj) (k3 k4 k5 : KR) : Goes w (⟨TA18 w.params i j cp2 O2, 222, {}, gI18 w os c r tk cp O k3 k4 k5, {}, tk2, os⟩) (agTh k3 k4 k5) (SA18 w.params os i j cp2 O2 tk2) (inT w PR 221 k3 k4 k5) 11 := ⟨11, Nat.le_refl _, by have h := KJ18 w os c r tk tk2 i j cp cp2 O O2 k3 k4 k5; rw [← PySem.W.Fast.qFJ18_eq] at h; unfold FJ18 at h; dsimp only at h; exact h⟩
noncomputable def FE18 (n : Nat) (w : World) (os : OsState) (tk : Nat) (cp : Value) (O : Obj) (p : Pos) (k3 k4 k5 : KR) : RT × RT := (goT n w (SA18 w.params os (.ofNat 12350) (.ofNat 0) cp O tk) (inT w p 221 k3 k4 k5), some (SD19 w.params os cp O tk, outT w k3 k4 k5))
theorem FE18_self : FE18 = FE18 := rfl
name_quick qFE18 for Mine.FE18 by Mine.FE18_self
theorem KE18 : ∀ (w : World) (os : OsState) tk cp O p k3 k4 k5, (PySem.W.Fast.qFE18 16 (w) os tk cp O p k3 k4 k5).1 = (PySem.W.Fast.qFE18 16 (w) os tk cp O p k3 k4 k5).2 := fun w os tk cp O p k3 k4 k5 => by kernel_rfl
theorem GE18 (w : World) (os : OsState) (tk : Nat) (cp : Value) (O : Obj) (p : Pos) (k3 k4 k5 : KR) : Goes w (SA18 w.params os (.ofNat 12350) (.ofNat 0) cp O tk) (inT w p 221 k3 k4 k5) (SD19 w.params os cp O tk) (outT w k3 k4 k5) 16 := ⟨16, Nat.le_refl _, by have h := KE18 w os tk cp O p k3 k4 k5; rw [← PySem.W.Fast.qFE18_eq] at h; unfold FE18 at h; dsimp only at h; exact h⟩
noncomputable def FA19 (n : Nat) (w : World) (os : OsState) (cp : Value) (O : Obj) (k3 k4 k5 : KR) : RT × RT := (goT n w (SD19 w.params os cp O 662) (outT w k3 k4 k5), some (SA19 w.params os (.ofNat 126980) (.ofNat 1) cp O 667, thr (csG 1 228) PQ (k0F k0 (inF (kg w) (kn w) (uf k3 k4 k5)))))
theorem FA19_self : FA19 = FA19 := rfl
name_quick qFA19 for Mine.FA19 by Mine.FA19_self
theorem KA19_false : ∀ (w : World) (os : OsState) cp O k3 k4 k5, (PySem.W.Fast.qFA19 116 (wg false w) os cp O k3 k4 k5).1 = (PySem.W.Fast.qFA19 116 (wg false w) os cp O k3 k4 k5).2 := fun w os cp O k3 k4 k5 => by kernel_rfl
theorem KA19_true : ∀ (w : World) (os : OsState) cp O k3 k4 k5, (PySem.W.Fast.qFA19 116 (wg true w) os cp O k3 k4 k5).1 = (PySem.W.Fast.qFA19 116 (wg true w) os cp O k3 k4 k5).2 := fun w os cp O k3 k4 k5 => by kernel_rfl
theorem GA19 (w : World) (os : OsState) (cp : Value) (O : Obj) (k3 k4 k5 : KR) : Goes w (SD19 w.params os cp O 662) (outT w k3 k4 k5) (SA19 w.params os (.ofNat 126980) (.ofNat 1) cp O 667) (thr (csG 1 228) PQ (k0F k0 (inF (kg w) (kn w) (uf k3 k4 k5)))) 116 := by
  revert w; refine rows1 (fun b w => ?_); cases b
  · exact ⟨116, Nat.le_refl _, by have h := KA19_false w os cp O k3 k4 k5; rw [← PySem.W.Fast.qFA19_eq] at h; unfold FA19 at h; dsimp only at h; exact h⟩
  · exact ⟨116, Nat.le_refl _, by have h := KA19_true w os cp O k3 k4 k5; rw [← PySem.W.Fast.qFA19_eq] at h; unfold FA19 at h; dsimp only at h; exact h⟩
noncomputable def FS19 (n : Nat) (w : World) (os : OsState) (cp : Value) (O : Obj) (k3 k4 k5 : KR) : RT × RT := (goT n w (SA19 w.params os (.ofNat 126980) (.ofNat 1) cp O 667) (thr (csG 1 228) PQ (k0F k0 (inF (kg w) (kn w) (uf k3 k4 k5)))), some (SA19 w.params os (.ofNat 126980) (.ofNat 1) cp O 667, inT w PQ 228 k3 k4 k5))
theorem FS19_self : FS19 = FS19 := rfl
name_quick qFS19 for Mine.FS19 by Mine.FS19_self
theorem KS19_ff : ∀ (w : World) (os : OsState) cp O k3 k4 k5, (PySem.W.Fast.qFS19 12 (wf false false w) os cp O k3 k4 k5).1 = (PySem.W.Fast.qFS19 12 (wf false false w) os cp O k3 k4 k5).2 := fun w os cp O k3 k4 k5 => by kernel_rfl
theorem KS19_tf : ∀ (w : World) (os : OsState) cp O k3 k4 k5, (PySem.W.Fast.qFS19 12 (wf true false w) os cp O k3 k4 k5).1 = (PySem.W.Fast.qFS19 12 (wf true false w) os cp O k3 k4 k5).2 := fun w os cp O k3 k4 k5 => by kernel_rfl
theorem KS19_t : ∀ (w : World) (os : OsState) cp O k3 k4 k5, (PySem.W.Fast.qFS19 2 (w.withFollow "comprehension-iter-twice" true) os cp O k3 k4 k5).1 = (PySem.W.Fast.qFS19 2 (w.withFollow "comprehension-iter-twice" true) os cp O k3 k4 k5).2 := fun w os cp O k3 k4 k5 => by kernel_rfl
theorem GS19 (w : World) (os : OsState) (cp : Value) (O : Obj) (k3 k4 k5 : KR) : Goes w (SA19 w.params os (.ofNat 126980) (.ofNat 1) cp O 667) (thr (csG 1 228) PQ (k0F k0 (inF (kg w) (kn w) (uf k3 k4 k5)))) (SA19 w.params os (.ofNat 126980) (.ofNat 1) cp O 667) (inT w PQ 228 k3 k4 k5) 12 := by
  revert w; refine rows2 (fun b1 b2 w => ?_); cases b1 <;> cases b2
  · exact ⟨12, Nat.le_of_ble_eq_true rfl, by have h := KS19_ff w os cp O k3 k4 k5; rw [← PySem.W.Fast.qFS19_eq] at h; unfold FS19 at h; dsimp only at h; exact h⟩
  · exact ⟨2, Nat.le_of_ble_eq_true rfl, by have h := KS19_t (w.withFollow "special-get-raises" false) os cp O k3 k4 k5; rw [← PySem.W.Fast.qFS19_eq] at h; unfold FS19 at h; dsimp only at h; exact h⟩
  · exact ⟨12, Nat.le_of_ble_eq_true rfl, by have h := KS19_tf w os cp O k3 k4 k5; rw [← PySem.W.Fast.qFS19_eq] at h; unfold FS19 at h; dsimp only at h; exact h⟩
  · exact ⟨2, Nat.le_of_ble_eq_true rfl, by have h := KS19_t (w.withFollow "special-get-raises" true) os cp O k3 k4 k5; rw [← PySem.W.Fast.qFS19_eq] at h; unfold FS19 at h; dsimp only at h; exact h⟩
noncomputable def gI19 (w : World) (os : OsState) (c r tk : Nat) (cp : Value) (O : Obj) (k3 k4 k5 : KR) : Array GenState := gensOf (goT 26 w (SA19 w.params os (.ofNat c) (.ofNat (r + 1)) cp O tk) (inT w PQ 228 k3 k4 k5))
noncomputable def FI19 (n : Nat) (w : World) (os : OsState) (c r tk : Nat) (cp : Value) (O : Obj) (p : Pos) (k3 k4 k5 : KR) : RT × RT := (goT n w (SA19 w.params os (.ofNat c) (.ofNat (r + 1)) cp O tk) (inT w p 228 k3 k4 k5), some (⟨TA19 w.params (Int.ofNat c + Int.ofNat 1) (Int.ofNat (r + 1) - 1) (.int (.ofNat c) tk) O, 229, {}, gI19 w os c r tk cp O k3 k4 k5, {}, tk + 2, os⟩, addTh (.int (.ofNat c) tk) k3 k4 k5))
theorem FI19_self : FI19 = FI19 := rfl
name_quick qFI19 for Mine.FI19 by Mine.FI19_self
theorem KI19 : ∀ (w : World) (os : OsState) c r tk cp O p k3 k4 k5, (PySem.W.Fast.qFI19 26 (w) os c r tk cp O p k3 k4 k5).1 = (PySem.W.Fast.qFI19 26 (w) os c r tk cp O p k3 k4 k5).2 := fun w os c r tk cp O p k3 k4 k5 => by kernel_rfl
theorem GI19 (w : World) (os : OsState) (c r tk : Nat) (cp : Value) (O : Obj) (p : Pos) (k3 k4 k5 : KR) : Goes w (SA19 w.params os (.ofNat c) (.ofNat (r + 1)) cp O tk) (inT w p 228 k3 k4 k5) (⟨TA19 w.params (Int.ofNat c + Int.ofNat 1) (Int.ofNat (r + 1) - 1) (.int (.ofNat c) tk) O, 229, {}, gI19 w os c r tk cp O k3 k4 k5, {}, tk + 2, os⟩) (addTh (.int (.ofNat c) tk) k3 k4 k5) 26 := ⟨26, Nat.le_refl _, by have h := KI19 w os c r tk cp O p k3 k4 k5; rw [← PySem.W.Fast.qFI19_eq] at h; unfold FI19 at h; dsimp only at h; exact h⟩
noncomputable def FJ19 (n : Nat) (w : World) (os : OsState) (c r tk tk2 : Nat) (i j : Int) (cp cp2 : Value) (O O2 : Obj) (k3 k4 k5 : KR) : RT × RT := (goT n w (⟨TA19 w.params i j cp2 O2, 229, {}, gI19 w os c r tk cp O k3 k4 k5, {}, tk2, os⟩) (agTh k3 k4 k5), some (SA19 w.params os i j cp2 O2 tk2, inT w PR 228 k3 k4 k5))
theorem FJ19_self : FJ19 = FJ19 := rfl
name_quick qFJ19 for Mine.FJ19 by Mine.FJ19_self
theorem KJ19 : ∀ (w : World) (os : OsState) c r tk tk2 i j cp cp2 O O2 k3 k4 k5, (PySem.W.Fast.qFJ19 11 (w) os c r tk tk2 i j cp cp2 O O2 k3 k4 k5).1 = (PySem.W.Fast.qFJ19 11 (w) os c r tk tk2 i j cp cp2 O O2 k3 k4 k5).2 := fun w os c r tk tk2 i j cp cp2 O O2 k3 k4 k5 => by kernel_rfl
theorem GJ19 (w : World) (os : OsState) (c r tk tk2 : Nat) (i j : Int) (cp cp2 : Value) (O O2 : Obj) (k3 k4 k5 : KR) : Goes w (⟨TA19 w.params i j cp2 O2, 229, {}, gI19 w os c r tk cp O k3 k4 k5, {}, tk2, os⟩) (agTh k3 k4 k5) (SA19 w.params os i j cp2 O2 tk2) (inT w PR 228 k3 k4 k5) 11 := ⟨11, Nat.le_refl _, by have h := KJ19 w os c r tk tk2 i j cp cp2 O O2 k3 k4 k5; rw [← PySem.W.Fast.qFJ19_eq] at h; unfold FJ19 at h; dsimp only at h; exact h⟩
noncomputable def FE19 (n : Nat) (w : World) (os : OsState) (tk : Nat) (cp : Value) (O : Obj) (p : Pos) (k3 k4 k5 : KR) : RT × RT := (goT n w (SA19 w.params os (.ofNat 126981) (.ofNat 0) cp O tk) (inT w p 228 k3 k4 k5), some (SD20 w.params os cp O tk, outT w k3 k4 k5))
theorem FE19_self : FE19 = FE19 := rfl
name_quick qFE19 for Mine.FE19 by Mine.FE19_self
theorem KE19 : ∀ (w : World) (os : OsState) tk cp O p k3 k4 k5, (PySem.W.Fast.qFE19 16 (w) os tk cp O p k3 k4 k5).1 = (PySem.W.Fast.qFE19 16 (w) os tk cp O p k3 k4 k5).2 := fun w os tk cp O p k3 k4 k5 => by kernel_rfl
theorem GE19 (w : World) (os : OsState) (tk : Nat) (cp : Value) (O : Obj) (p : Pos) (k3 k4 k5 : KR) : Goes w (SA19 w.params os (.ofNat 126981) (.ofNat 0) cp O tk) (inT w p 228 k3 k4 k5) (SD20 w.params os cp O tk) (outT w k3 k4 k5) 16 := ⟨16, Nat.le_refl _, by have h := KE19 w os tk cp O p k3 k4 k5; rw [← PySem.W.Fast.qFE19_eq] at h; unfold FE19 at h; dsimp only at h; exact h⟩
noncomputable def FA20 (n : Nat) (w : World) (os : OsState) (cp : Value) (O : Obj) (k3 k4 k5 : KR) : RT × RT := (goT n w (SD20 w.params os cp O 670) (outT w k3 k4 k5), some (SA20 w.params os (.ofNat 127377) (.ofNat 10) cp O 675, thr (csG 1 235) PQ (k0F k0 (inF (kg w) (kn w) (uf k3 k4 k5)))))
theorem FA20_self : FA20 = FA20 := rfl
name_quick qFA20 for Mine.FA20 by Mine.FA20_self
theorem KA20_false : ∀ (w : World) (os : OsState) cp O k3 k4 k5, (PySem.W.Fast.qFA20 116 (wg false w) os cp O k3 k4 k5).1 = (PySem.W.Fast.qFA20 116 (wg false w) os cp O k3 k4 k5).2 := fun w os cp O k3 k4 k5 => by kernel_rfl
theorem KA20_true : ∀ (w : World) (os : OsState) cp O k3 k4 k5, (PySem.W.Fast.qFA20 116 (wg true w) os cp O k3 k4 k5).1 = (PySem.W.Fast.qFA20 116 (wg true w) os cp O k3 k4 k5).2 := fun w os cp O k3 k4 k5 => by kernel_rfl
theorem GA20 (w : World) (os : OsState) (cp : Value) (O : Obj) (k3 k4 k5 : KR) : Goes w (SD20 w.params os cp O 670) (outT w k3 k4 k5) (SA20 w.params os (.ofNat 127377) (.ofNat 10) cp O 675) (thr (csG 1 235) PQ (k0F k0 (inF (kg w) (kn w) (uf k3 k4 k5)))) 116 := by
  revert w; refine rows1 (fun b w => ?_); cases b
  · exact ⟨116, Nat.le_refl _, by have h := KA20_false w os cp O k3 k4 k5; rw [← PySem.W.Fast.qFA20_eq] at h; unfold FA20 at h; dsimp only at h; exact h⟩
  · exact ⟨116, Nat.le_refl _, by have h := KA20_true w os cp O k3 k4 k5; rw [← PySem.W.Fast.qFA20_eq] at h; unfold FA20 at h; dsimp only at h; exact h⟩
noncomputable def FS20 (n : Nat) (w : World) (os : OsState) (cp : Value) (O : Obj) (k3 k4 k5 : KR) : RT × RT := (goT n w (SA20 w.params os (.ofNat 127377) (.ofNat 10) cp O 675) (thr (csG 1 235) PQ (k0F k0 (inF (kg w) (kn w) (uf k3 k4 k5)))), some (SA20 w.params os (.ofNat 127377) (.ofNat 10) cp O 675, inT w PQ 235 k3 k4 k5))
theorem FS20_self : FS20 = FS20 := rfl
name_quick qFS20 for Mine.FS20 by Mine.FS20_self
theorem KS20_ff : ∀ (w : World) (os : OsState) cp O k3 k4 k5, (PySem.W.Fast.qFS20 12 (wf false false w) os cp O k3 k4 k5).1 = (PySem.W.Fast.qFS20 12 (wf false false w) os cp O k3 k4 k5).2 := fun w os cp O k3 k4 k5 => by kernel_rfl
theorem KS20_tf : ∀ (w : World) (os : OsState) cp O k3 k4 k5, (PySem.W.Fast.qFS20 12 (wf true false w) os cp O k3 k4 k5).1 = (PySem.W.Fast.qFS20 12 (wf true false w) os cp O k3 k4 k5).2 := fun w os cp O k3 k4 k5 => by kernel_rfl
theorem KS20_t : ∀ (w : World) (os : OsState) cp O k3 k4 k5, (PySem.W.Fast.qFS20 2 (w.withFollow "comprehension-iter-twice" true) os cp O k3 k4 k5).1 = (PySem.W.Fast.qFS20 2 (w.withFollow "comprehension-iter-twice" true) os cp O k3 k4 k5).2 := fun w os cp O k3 k4 k5 => by kernel_rfl
theorem GS20 (w : World) (os : OsState) (cp : Value) (O : Obj) (k3 k4 k5 : KR) : Goes w (SA20 w.params os (.ofNat 127377) (.ofNat 10) cp O 675) (thr (csG 1 235) PQ (k0F k0 (inF (kg w) (kn w) (uf k3 k4 k5)))) (SA20 w.params os (.ofNat 127377) (.ofNat 10) cp O 675) (inT w PQ 235 k3 k4 k5) 12 := by
  revert w; refine rows2 (fun b1 b2 w => ?_); cases b1 <;> cases b2
  · exact ⟨12, Nat.le_of_ble_eq_true rfl, by have h := KS20_ff w os cp O k3 k4 k5; rw [← PySem.W.Fast.qFS20_eq] at h; unfold FS20 at h; dsimp only at h; exact h⟩
  · exact ⟨2, Nat.le_of_ble_eq_true rfl, by have h := KS20_t (w.withFollow "special-get-raises" false) os cp O k3 k4 k5; rw [← PySem.W.Fast.qFS20_eq] at h; unfold FS20 at h; dsimp only at h; exact h⟩
  · exact ⟨12, Nat.le_of_ble_eq_true rfl, by have h := KS20_tf w os cp O k3 k4 k5; rw [← PySem.W.Fast.qFS20_eq] at h; unfold FS20 at h; dsimp only at h; exact h⟩
  · exact ⟨2, Nat.le_of_ble_eq_true rfl, by have h := KS20_t (w.withFollow "special-get-raises" true) os cp O k3 k4 k5; rw [← PySem.W.Fast.qFS20_eq] at h; unfold FS20 at h; dsimp only at h; exact h⟩
noncomputable def gI20 (w : World) (os : OsState) (c r tk : Nat) (cp : Value) (O : Obj) (k3 k4 k5 : KR) : Array GenState := gensOf (goT 26 w (SA20 w.params os (.ofNat c) (.ofNat (r + 1)) cp O tk) (inT w PQ 235 k3 k4 k5))
noncomputable def FI20 (n : Nat) (w : World) (os : OsState) (c r tk : Nat) (cp : Value) (O : Obj) (p : Pos) (k3 k4 k5 : KR) : RT × RT := (goT n w (SA20 w.params os (.ofNat c) (.ofNat (r + 1)) cp O tk) (inT w p 235 k3 k4 k5), some (⟨TA20 w.params (Int.ofNat c + Int.ofNat 1) (Int.ofNat (r + 1) - 1) (.int (.ofNat c) tk) O, 236, {}, gI20 w os c r tk cp O k3 k4 k5, {}, tk + 2, os⟩, addTh (.int (.ofNat c) tk) k3 k4 k5))
theorem FI20_self : FI20 = FI20 := rfl
name_quick qFI20 for Mine.FI20 by Mine.FI20_self
theorem KI20 : ∀ (w : World) (os : OsState) c r tk cp O p k3 k4 k5, (PySem.W.Fast.qFI20 26 (w) os c r tk cp O p k3 k4 k5).1 = (PySem.W.Fast.qFI20 26 (w) os c r tk cp O p k3 k4 k5).2 := fun w os c r tk cp O p k3 k4 k5 => by kernel_rfl
theorem GI20 (w : World) (os : OsState) (c r tk : Nat) (cp : Value) (O : Obj) (p : Pos) (k3 k4 k5 : KR) : Goes w (SA20 w.params os (.ofNat c) (.ofNat (r + 1)) cp O tk) (inT w p 235 k3 k4 k5) (⟨TA20 w.params (Int.ofNat c + Int.ofNat 1) (Int.ofNat (r + 1) - 1) (.int (.ofNat c) tk) O, 236, {}, gI20 w os c r tk cp O k3 k4 k5, {}, tk + 2, os⟩) (addTh (.int (.ofNat c) tk) k3 k4 k5) 26 := ⟨26, Nat.le_refl _, by have h := KI20 w os c r tk cp O p k3 k4 k5; rw [← PySem.W.Fast.qFI20_eq] at h; unfold FI20 at h; dsimp only at h; exact h⟩
noncomputable def FJ20 (n : Nat) (w : World) (os : OsState) (c r tk tk2 : Nat) (i j : Int) (cp cp2 : Value) (O O2 : Obj) (k3 k4 k5 : KR) : RT × RT := (goT n w (⟨TA20 w.params i j cp2 O2, 236, {}, gI20 w os c r tk cp O k3 k4 k5, {}, tk2, os⟩) (agTh k3 k4 k5), some (SA20 w.params os i j cp2 O2 tk2, inT w PR 235 k3 k4 k5))
theorem FJ20_self : FJ20 = FJ20 := rfl
name_quick qFJ20 for Mine.FJ20 by Mine.FJ20_self
theorem KJ20 : ∀ (w : World) (os : OsState) c r tk tk2 i j cp cp2 O O2 k3 k4 k5, (PySem.W.Fast.qFJ20 11 (w) os c r tk tk2 i j cp cp2 O O2 k3 k4 k5).1 = (PySem.W.Fast.qFJ20 11 (w) os c r tk tk2 i j cp cp2 O O2 k3 k4 k5).2 := fun w os c r tk tk2 i j cp cp2 O O2 k3 k4 k5 => by kernel_rfl
theorem GJ20 (w : World) (os : OsState) (c r tk tk2 : Nat) (i j : Int) (cp cp2 : Value) (O O2 : Obj) (k3 k4 k5 : KR) : Goes w (⟨TA20 w.params i j cp2 O2, 236, {}, gI20 w os c r tk cp O k3 k4 k5, {}, tk2, os⟩) (agTh k3 k4 k5) (SA20 w.params os i j cp2 O2 tk2) (inT w PR 235 k3 k4 k5) 11 := ⟨11, Nat.le_refl _, by have h := KJ20 w os c r tk tk2 i j cp cp2 O O2 k3 k4 k5; rw [← PySem.W.Fast.qFJ20_eq] at h; unfold FJ20 at h; dsimp only at h; exact h⟩
noncomputable def FE20 (n : Nat) (w : World) (os : OsState) (tk : Nat) (cp : Value) (O : Obj) (p : Pos) (k3 k4 k5 : KR) : RT × RT := (goT n w (SA20 w.params os (.ofNat 127387) (.ofNat 0) cp O tk) (inT w p 235 k3 k4 k5), some (SD21 w.params os cp O tk, outT w k3 k4 k5))
theorem FE20_self : FE20 = FE20 := rfl
name_quick qFE20 for Mine.FE20 by Mine.FE20_self
theorem KE20 : ∀ (w : World) (os : OsState) tk cp O p k3 k4 k5, (PySem.W.Fast.qFE20 16 (w) os tk cp O p k3 k4 k5).1 = (PySem.W.Fast.qFE20 16 (w) os tk cp O p k3 k4 k5).2 := fun w os tk cp O p k3 k4 k5 => by kernel_rfl
theorem GE20 (w : World) (os : OsState) (tk : Nat) (cp : Value) (O : Obj) (p : Pos) (k3 k4 k5 : KR) : Goes w (SA20 w.params os (.ofNat 127387) (.ofNat 0) cp O tk) (inT w p 235 k3 k4 k5) (SD21 w.params os cp O tk) (outT w k3 k4 k5) 16 := ⟨16, Nat.le_refl _, by have h := KE20 w os tk cp O p k3 k4 k5; rw [← PySem.W.Fast.qFE20_eq] at h; unfold FE20 at h; dsimp only at h; exact h⟩
noncomputable def FA21 (n : Nat) (w : World) (os : OsState) (cp : Value) (O : Obj) (k3 k4 k5 : KR) : RT × RT := (goT n w (SD21 w.params os cp O 705) (outT w k3 k4 k5), some (SA21 w.params os (.ofNat 127987) (.ofNat 3) cp O 710, thr (csG 1 242) PQ (k0F k0 (inF (kg w) (kn w) (uf k3 k4 k5)))))
theorem FA21_self : FA21 = FA21 := rfl
name_quick qFA21 for Mine.FA21 by Mine.FA21_self
theorem KA21_false : ∀ (w : World) (os : OsState) cp O k3 k4 k5, (PySem.W.Fast.qFA21 116 (wg false w) os cp O k3 k4 k5).1 = (PySem.W.Fast.qFA21 116 (wg false w) os cp O k3 k4 k5).2 := fun w os cp O k3 k4 k5 => by kernel_rfl
theorem KA21_true : ∀ (w : World) (os : OsState) cp O k3 k4 k5, (PySem.W.Fast.qFA21 116 (wg true w) os cp O k3 k4 k5).1 = (PySem.W.Fast.qFA21 116 (wg true w) os cp O k3 k4 k5).2 := fun w os cp O k3 k4 k5 => by kernel_rfl
theorem GA21 (w : World) (os : OsState) (cp : Value) (O : Obj) (k3 k4 k5 : KR) : Goes w (SD21 w.params os cp O 705) (outT w k3 k4 k5) (SA21 w.params os (.ofNat 127987) (.ofNat 3) cp O 710) (thr (csG 1 242) PQ (k0F k0 (inF (kg w) (kn w) (uf k3 k4 k5)))) 116 := by
  revert w; refine rows1 (fun b w => ?_); cases b
  · exact ⟨116, Nat.le_refl _, by have h := KA21_false w os cp O k3 k4 k5; rw [← PySem.W.Fast.qFA21_eq] at h; unfold FA21 at h; dsimp only at h; exact h⟩
  · exact ⟨116, Nat.le_refl _, by have h := KA21_true w os cp O k3 k4 k5; rw [← PySem.W.Fast.qFA21_eq] at h; unfold FA21 at h; dsimp only at h; exact h⟩
noncomputable def FS21 (n : Nat) (w : World) (os : OsState) (cp : Value) (O : Obj) (k3 k4 k5 : KR) : RT × RT := (goT n w (SA21 w.params os (.ofNat 127987) (.ofNat 3) cp O 710) (thr (csG 1 242) PQ (k0F k0 (inF (kg w) (kn w) (uf k3 k4 k5)))), some (SA21 w.params os (.ofNat 127987) (.ofNat 3) cp O 710, inT w PQ 242 k3 k4 k5))
theorem FS21_self : FS21 = FS21 := rfl
name_quick qFS21 for Mine.FS21 by Mine.FS21_self
theorem KS21_ff : ∀ (w : World) (os : OsState) cp O k3 k4 k5, (PySem.W.Fast.qFS21 12 (wf false false w) os cp O k3 k4 k5).1 = (PySem.W.Fast.qFS21 12 (wf false false w) os cp O k3 k4 k5).2 := fun w os cp O k3 k4 k5 => by kernel_rfl
theorem KS21_tf : ∀ (w : World) (os : OsState) cp O k3 k4 k5, (PySem.W.Fast.qFS21 12 (wf true false w) os cp O k3 k4 k5).1 = (PySem.W.Fast.qFS21 12 (wf true false w) os cp O k3 k4 k5).2 := fun w os cp O k3 k4 k5 => by kernel_rfl
theorem KS21_t : ∀ (w : World) (os : OsState) cp O k3 k4 k5, (PySem.W.Fast.qFS21 2 (w.withFollow "comprehension-iter-twice" true) os cp O k3 k4 k5).1 = (PySem.W.Fast.qFS21 2 (w.withFollow "comprehension-iter-twice" true) os cp O k3 k4 k5).2 := fun w os cp O k3 k4 k5 => by kernel_rfl
theorem GS21 (w : World) (os : OsState) (cp : Value) (O : Obj) (k3 k4 k5 : KR) : Goes w (SA21 w.params os (.ofNat 127987) (.ofNat 3) cp O 710) (thr (csG 1 242) PQ (k0F k0 (inF (kg w) (kn w) (uf k3 k4 k5)))) (SA21 w.params os (.ofNat 127987) (.ofNat 3) cp O 710) (inT w PQ 242 k3 k4 k5) 12 := by
  revert w; refine rows2 (fun b1 b2 w => ?_); cases b1 <;> cases b2
  · exact ⟨12, Nat.le_of_ble_eq_true rfl, by have h := KS21_ff w os cp O k3 k4 k5; rw [← PySem.W.Fast.qFS21_eq] at h; unfold FS21 at h; dsimp only at h; exact h⟩
  · exact ⟨2, Nat.le_of_ble_eq_true rfl, by have h := KS21_t (w.withFollow "special-get-raises" false) os cp O k3 k4 k5; rw [← PySem.W.Fast.qFS21_eq] at h; unfold FS21 at h; dsimp only at h; exact h⟩
  · exact ⟨12, Nat.le_of_ble_eq_true rfl, by have h := KS21_tf w os cp O k3 k4 k5; rw [← PySem.W.Fast.qFS21_eq] at h; unfold FS21 at h; dsimp only at h; exact h⟩
  · exact ⟨2, Nat.le_of_ble_eq_true rfl, by have h := KS21_t (w.withFollow "special-get-raises" true) os cp O k3 k4 k5; rw [← PySem.W.Fast.qFS21_eq] at h; unfold FS21 at h; dsimp only at h; exact h⟩
noncomputable def gI21 (w : World) (os : OsState) (c r tk : Nat) (cp : Value) (O : Obj) (k3 k4 k5 : KR) : Array GenState := gensOf (goT 26 w (SA21 w.params os (.ofNat c) (.ofNat (r + 1)) cp O tk) (inT w PQ 242 k3 k4 k5))
noncomputable def FI21 (n : Nat) (w : World) (os : OsState) (c r tk : Nat) (cp : Value) (O : Obj) (p : Pos) (k3 k4 k5 : KR) : RT × RT := (goT n w (SA21 w.params os (.ofNat c) (.ofNat (r + 1)) cp O tk) (inT w p 242 k3 k4 k5), some (⟨TA21 w.params (Int.ofNat c + Int.ofNat 1) (Int.ofNat (r + 1) - 1) (.int (.ofNat c) tk) O, 243, {}, gI21 w os c r tk cp O k3 k4 k5, {}, tk + 2, os⟩, addTh (.int (.ofNat c) tk) k3 k4 k5))
theorem FI21_self : FI21 = FI21 := rfl
name_quick qFI21 for Mine.FI21 by Mine.FI21_self
theorem KI21 : ∀ (w : World) (os : OsState) c r tk cp O p k3 k4 k5, (PySem.W.Fast.qFI21 26 (w) os c r tk cp O p k3 k4 k5).1 = (PySem.W.Fast.qFI21 26 (w) os c r tk cp O p k3 k4 k5).2 := fun w os c r tk cp O p k3 k4 k5 => by kernel_rfl
theorem GI21 (w : World) (os : OsState) (c r tk : Nat) (cp : Value) (O : Obj) (p : Pos) (k3 k4 k5 : KR) : Goes w (SA21 w.params os (.ofNat c) (.ofNat (r + 1)) cp O tk) (inT w p 242 k3 k4 k5) (⟨TA21 w.params (Int.ofNat c + Int.ofNat 1) (Int.ofNat (r + 1) - 1) (.int (.ofNat c) tk) O, 243, {}, gI21 w os c r tk cp O k3 k4 k5, {}, tk + 2, os⟩) (addTh (.int (.ofNat c) tk) k3 k4 k5) 26 := ⟨26, Nat.le_refl _, by have h := KI21 w os c r tk cp O p k3 k4 k5; rw [← PySem.W.Fast.qFI21_eq] at h; unfold FI21 at h; dsimp only at h; exact h⟩
noncomputable def FJ21 (n : Nat) (w : World) (os : OsState) (c r tk tk2 : Nat) (i j : Int) (cp cp2 : Value) (O O2 : Obj) (k3 k4 k5 : KR) : RT × RT := (goT n w (⟨TA21 w.params i j cp2 O2, 243, {}, gI21 w os c r tk cp O k3 k4 k5, {}, tk2, os⟩) (agTh k3 k4 k5), some (SA21 w.params os i j cp2 O2 tk2, inT w PR 242 k3 k4 k5))
theorem FJ21_self : FJ21 = FJ21 := rfl
name_quick qFJ21 for Mine.FJ21 by Mine.FJ21_self
theorem KJ21 : ∀ (w : World) (os : OsState) c r tk tk2 i j cp cp2 O O2 k3 k4 k5, (PySem.W.Fast.qFJ21 11 (w) os c r tk tk2 i j cp cp2 O O2 k3 k4 k5).1 = (PySem.W.Fast.qFJ21 11 (w) os c r tk tk2 i j cp cp2 O O2 k3 k4 k5).2 := fun w os c r tk tk2 i j cp cp2 O O2 k3 k4 k5 => by kernel_rfl
theorem GJ21 (w : World) (os : OsState) (c r tk tk2 : Nat) (i j : Int) (cp cp2 : Value) (O O2 : Obj) (k3 k4 k5 : KR) : Goes w (⟨TA21 w.params i j cp2 O2, 243, {}, gI21 w os c r tk cp O k3 k4 k5, {}, tk2, os⟩) (agTh k3 k4 k5) (SA21 w.params os i j cp2 O2 tk2) (inT w PR 242 k3 k4 k5) 11 := ⟨11, Nat.le_refl _, by have h := KJ21 w os c r tk tk2 i j cp cp2 O O2 k3 k4 k5; rw [← PySem.W.Fast.qFJ21_eq] at h; unfold FJ21 at h; dsimp only at h; exact h⟩
noncomputable def FE21 (n : Nat) (w : World) (os : OsState) (tk : Nat) (cp : Value) (O : Obj) (p : Pos) (k3 k4 k5 : KR) : RT × RT := (goT n w (SA21 w.params os (.ofNat 127990) (.ofNat 0) cp O tk) (inT w p 242 k3 k4 k5), some (SD22 w.params os cp O tk, outT w k3 k4 k5))
theorem FE21_self : FE21 = FE21 := rfl
name_quick qFE21 for Mine.FE21 by Mine.FE21_self
theorem KE21 : ∀ (w : World) (os : OsState) tk cp O p k3 k4 k5, (PySem.W.Fast.qFE21 16 (w) os tk cp O p k3 k4 k5).1 = (PySem.W.Fast.qFE21 16 (w) os tk cp O p k3 k4 k5).2 := fun w os tk cp O p k3 k4 k5 => by kernel_rfl
theorem GE21 (w : World) (os : OsState) (tk : Nat) (cp : Value) (O : Obj) (p : Pos) (k3 k4 k5 : KR) : Goes w (SA21 w.params os (.ofNat 127990) (.ofNat 0) cp O tk) (inT w p 242 k3 k4 k5) (SD22 w.params os cp O tk) (outT w k3 k4 k5) 16 := ⟨16, Nat.le_refl _, by have h := KE21 w os tk cp O p k3 k4 k5; rw [← PySem.W.Fast.qFE21_eq] at h; unfold FE21 at h; dsimp only at h; exact h⟩
noncomputable def FA22 (n : Nat) (w : World) (os : OsState) (cp : Value) (O : Obj) (k3 k4 k5 : KR) : RT × RT := (goT n w (SD22 w.params os cp O 719) (outT w k3 k4 k5), some (SA22 w.params os (.ofNat 127991) (.ofNat 4) cp O 724, thr (csG 1 249) PQ (k0F k0 (inF (kg w) (kn w) (uf k3 k4 k5)))))
theorem FA22_self : FA22 = FA22 := rfl
name_quick qFA22 for Mine.FA22 by Mine.FA22_self
theorem KA22_false : ∀ (w : World) (os : OsState) cp O k3 k4 k5, (PySem.W.Fast.qFA22 116 (wg false w) os cp O k3 k4 k5).1 = (PySem.W.Fast.qFA22 116 (wg false w) os cp O k3 k4 k5).2 := fun w os cp O k3 k4 k5 => by kernel_rfl
theorem KA22_true : ∀ (w : World) (os : OsState) cp O k3 k4 k5, (PySem.W.Fast.qFA22 116 (wg true w) os cp O k3 k4 k5).1 = (PySem.W.Fast.qFA22 116 (wg true w) os cp O k3 k4 k5).2 := fun w os cp O k3 k4 k5 => by kernel_rfl
theorem GA22 (w : World) (os : OsState) (cp : Value) (O : Obj) (k3 k4 k5 : KR) : Goes w (SD22 w.params os cp O 719) (outT w k3 k4 k5) (SA22 w.params os (.ofNat 127991) (.ofNat 4) cp O 724) (thr (csG 1 249) PQ (k0F k0 (inF (kg w) (kn w) (uf k3 k4 k5)))) 116 := by
  revert w; refine rows1 (fun b w => ?_); cases b
  · exact ⟨116, Nat.le_refl _, by have h := KA22_false w os cp O k3 k4 k5; rw [← PySem.W.Fast.qFA22_eq] at h; unfold FA22 at h; dsimp only at h; exact h⟩
  · exact ⟨116, Nat.le_refl _, by have h := KA22_true w os cp O k3 k4 k5; rw [← PySem.W.Fast.qFA22_eq] at h; unfold FA22 at h; dsimp only at h; exact h⟩
noncomputable def FS22 (n : Nat) (w : World) (os : OsState) (cp : Value) (O : Obj) (k3 k4 k5 : KR) : RT × RT := (goT n w (SA22 w.params os (.ofNat 127991) (.ofNat 4) cp O 724) (thr (csG 1 249) PQ (k0F k0 (inF (kg w) (kn w) (uf k3 k4 k5)))), some (SA22 w.params os (.ofNat 127991) (.ofNat 4) cp O 724, inT w PQ 249 k3 k4 k5))
theorem FS22_self : FS22 = FS22 := rfl
name_quick qFS22 for Mine.FS22 by Mine.FS22_self
theorem KS22_ff : ∀ (w : World) (os : OsState) cp O k3 k4 k5, (PySem.W.Fast.qFS22 12 (wf false false w) os cp O k3 k4 k5).1 = (PySem.W.Fast.qFS22 12 (wf false false w) os cp O k3 k4 k5).2 := fun w os cp O k3 k4 k5 => by kernel_rfl
theorem KS22_tf : ∀ (w : World) (os : OsState) cp O k3 k4 k5, (PySem.W.Fast.qFS22 12 (wf true false w) os cp O k3 k4 k5).1 = (PySem.W.Fast.qFS22 12 (wf true false w) os cp O k3 k4 k5).2 := fun w os cp O k3 k4 k5 => by kernel_rfl
theorem KS22_t : ∀ (w : World) (os : OsState) cp O k3 k4 k5, (PySem.W.Fast.qFS22 2 (w.withFollow "comprehension-iter-twice" true) os cp O k3 k4 k5).1 = (PySem.W.Fast.qFS22 2 (w.withFollow "comprehension-iter-twice" true) os cp O k3 k4 k5).2 := fun w os cp O k3 k4 k5 => by kernel_rfl
theorem GS22 (w : World) (os : OsState) (cp : Value) (O : Obj) (k3 k4 k5 : KR) : Goes w (SA22 w.params os (.ofNat 127991) (.ofNat 4) cp O 724) (thr (csG 1 249) PQ (k0F k0 (inF (kg w) (kn w) (uf k3 k4 k5)))) (SA22 w.params os (.ofNat 127991) (.ofNat 4) cp O 724) (inT w PQ 249 k3 k4 k5) 12 := by
  revert w; refine rows2 (fun b1 b2 w => ?_); cases b1 <;> cases b2
  · exact ⟨12, Nat.le_of_ble_eq_true rfl, by have h := KS22_ff w os cp O k3 k4 k5; rw [← PySem.W.Fast.qFS22_eq] at h; unfold FS22 at h; dsimp only at h; exact h⟩
  · exact ⟨2, Nat.le_of_ble_eq_true rfl, by have h := KS22_t (w.withFollow "special-get-raises" false) os cp O k3 k4 k5; rw [← PySem.W.Fast.qFS22_eq] at h; unfold FS22 at h; dsimp only at h; exact h⟩
  · exact ⟨12, Nat.le_of_ble_eq_true rfl, by have h := KS22_tf w os cp O k3 k4 k5; rw [← PySem.W.Fast.qFS22_eq] at h; unfold FS22 at h; dsimp only at h; exact h⟩
  · exact ⟨2, Nat.le_of_ble_eq_true rfl, by have h := KS22_t (w.withFollow "special-get-raises" true) os cp O k3 k4 k5; rw [← PySem.W.Fast.qFS22_eq] at h; unfold FS22 at h; dsimp only at h; exact h⟩
noncomputable def gI22 (w : World) (os : OsState) (c r tk : Nat) (cp : Value) (O : Obj) (k3 k4 k5 : KR) : Array GenState := gensOf (goT 26 w (SA22 w.params os (.ofNat c) (.ofNat (r + 1)) cp O tk) (inT w PQ 249 k3 k4 k5))
noncomputable def FI22 (n : Nat) (w : World) (os : OsState) (c r tk : Nat) (cp : Value) (O : Obj) (p : Pos) (k3 k4 k5 : KR) : RT × RT := (goT n w (SA22 w.params os (.ofNat c) (.ofNat (r + 1)) cp O tk) (inT w p 249 k3 k4 k5), some (⟨TA22 w.params (Int.ofNat c + Int.ofNat 1) (Int.ofNat (r + 1) - 1) (.int (.ofNat c) tk) O, 250, {}, gI22 w os c r tk cp O k3 k4 k5, {}, tk + 2, os⟩, addTh (.int (.ofNat c) tk) k3 k4 k5))
theorem FI22_self : FI22 = FI22 := rfl
name_quick qFI22 for Mine.FI22 by Mine.FI22_self
theorem KI22 : ∀ (w : World) (os : OsState) c r tk cp O p k3 k4 k5, (PySem.W.Fast.qFI22 26 (w) os c r tk cp O p k3 k4 k5).1 = (PySem.W.Fast.qFI22 26 (w) os c r tk cp O p k3 k4 k5).2 := fun w os c r tk cp O p k3 k4 k5 => by kernel_rfl
theorem GI22 (w : World) (os : OsState) (c r tk : Nat) (cp : Value) (O : Obj) (p : Pos) (k3 k4 k5 : KR) : Goes w (SA22 w.params os (.ofNat c) (.ofNat (r + 1)) cp O tk) (inT w p 249 k3 k4 k5) (⟨TA22 w.params (Int.ofNat c + Int.ofNat 1) (Int.ofNat (r + 1) - 1) (.int (.ofNat c) tk) O, 250, {}, gI22 w os c r tk cp O k3 k4 k5, {}, tk + 2, os⟩) (addTh (.int (.ofNat c) tk) k3 k4 k5) 26 := ⟨26, Nat.le_refl _, by have h := KI22 w os c r tk cp O p k3 k4 k5; rw [← PySem.W.Fast.qFI22_eq] at h; unfold FI22 at h; dsimp only at h; exact h⟩
noncomputable def FJ22 (n : Nat) (w : World) (os : OsState) (c r tk tk2 : Nat) (i j : Int) (cp cp2 : Value) (O O2 : Obj) (k3 k4 k5 : KR) : RT × RT := (goT n w (⟨TA22 w.params i j cp2 O2, 250, {}, gI22 w os c r tk cp O k3 k4 k5, {}, tk2, os⟩) (agTh k3 k4 k5), some (SA22 w.params os i j cp2 O2 tk2, inT w PR 249 k3 k4 k5))
theorem FJ22_self : FJ22 = FJ22 := rfl
name_quick qFJ22 for Mine.FJ22 by Mine.FJ22_self
theorem KJ22 : ∀ (w : World) (os : OsState) c r tk tk2 i j cp cp2 O O2 k3 k4 k5, (PySem.W.Fast.qFJ22 11 (w) os c r tk tk2 i j cp cp2 O O2 k3 k4 k5).1 = (PySem.W.Fast.qFJ22 11 (w) os c r tk tk2 i j cp cp2 O O2 k3 k4 k5).2 := fun w os c r tk tk2 i j cp cp2 O O2 k3 k4 k5 => by kernel_rfl
theorem GJ22 (w : World) (os : OsState) (c r tk tk2 : Nat) (i j : Int) (cp cp2 : Value) (O O2 : Obj) (k3 k4 k5 : KR) : Goes w (⟨TA22 w.params i j cp2 O2, 250, {}, gI22 w os c r tk cp O k3 k4 k5, {}, tk2, os⟩) (agTh k3 k4 k5) (SA22 w.params os i j cp2 O2 tk2) (inT w PR 249 k3 k4 k5) 11 := ⟨11, Nat.le_refl _, by have h := KJ22 w os c r tk tk2 i j cp cp2 O O2 k3 k4 k5; rw [← PySem.W.Fast.qFJ22_eq] at h; unfold FJ22 at h; dsimp only at h; exact h⟩
noncomputable def FE22 (n : Nat) (w : World) (os : OsState) (tk : Nat) (cp : Value) (O : Obj) (p : Pos) (k3 k4 k5 : KR) : RT × RT := (goT n w (SA22 w.params os (.ofNat 127995) (.ofNat 0) cp O tk) (inT w p 249 k3 k4 k5), some (SD23 w.params os cp O tk, outT w k3 k4 k5))
theorem FE22_self : FE22 = FE22 := rfl
name_quick qFE22 for Mine.FE22 by Mine.FE22_self
theorem KE22 : ∀ (w : World) (os : OsState) tk cp O p k3 k4 k5, (PySem.W.Fast.qFE22 16 (w) os tk cp O p k3 k4 k5).1 = (PySem.W.Fast.qFE22 16 (w) os tk cp O p k3 k4 k5).2 := fun w os tk cp O p k3 k4 k5 => by kernel_rfl
theorem GE22 (w : World) (os : OsState) (tk : Nat) (cp : Value) (O : Obj) (p : Pos) (k3 k4 k5 : KR) : Goes w (SA22 w.params os (.ofNat 127995) (.ofNat 0) cp O tk) (inT w p 249 k3 k4 k5) (SD23 w.params os cp O tk) (outT w k3 k4 k5) 16 := ⟨16, Nat.le_refl _, by have h := KE22 w os tk cp O p k3 k4 k5; rw [← PySem.W.Fast.qFE22_eq] at h; unfold FE22 at h; dsimp only at h; exact h⟩
noncomputable def FA23 (n : Nat) (w : World) (os : OsState) (cp : Value) (O : Obj) (k3 k4 k5 : KR) : RT × RT := (goT n w (SD23 w.params os cp O 736) (outT w k3 k4 k5), some (SA23 w.params os (.ofNat 128371) (.ofNat 8) cp O 741, thr (csG 1 256) PQ (k0F k0 (inF (kg w) (kn w) (uf k3 k4 k5)))))
theorem FA23_self : FA23 = FA23 := rfl
name_quick qFA23 for Mine.FA23 by Mine.FA23_self
theorem KA23_false : ∀ (w : World) (os : OsState) cp O k3 k4 k5, (PySem.W.Fast.qFA23 116 (wg false w) os cp O k3 k4 k5).1 = (PySem.W.Fast.qFA23 116 (wg false w) os cp O k3 k4 k5).2 := fun w os cp O k3 k4 k5 => by kernel_rfl
theorem KA23_true : ∀ (w : World) (os : OsState) cp O k3 k4 k5, (PySem.W.Fast.qFA23 116 (wg true w) os cp O k3 k4 k5).1 = (PySem.W.Fast.qFA23 116 (wg true w) os cp O k3 k4 k5).2 := fun w os cp O k3 k4 k5 => by kernel_rfl
theorem GA23 (w : World) (os : OsState) (cp : Value) (O : Obj) (k3 k4 k5 : KR) : Goes w (SD23 w.params os cp O 736) (outT w k3 k4 k5) (SA23 w.params os (.ofNat 128371) (.ofNat 8) cp O 741) (thr (csG 1 256) PQ (k0F k0 (inF (kg w) (kn w) (uf k3 k4 k5)))) 116 := by
  revert w; refine rows1 (fun b w => ?_); cases b
  · exact ⟨116, Nat.le_refl _, by have h := KA23_false w os cp O k3 k4 k5; rw [← PySem.W.Fast.qFA23_eq] at h; unfold FA23 at h; dsimp only at h; exact h⟩
  · exact ⟨116, Nat.le_refl _, by have h := KA23_true w os cp O k3 k4 k5; rw [← PySem.W.Fast.qFA23_eq] at h; unfold FA23 at h; dsimp only at h; exact h⟩
noncomputable def FS23 (n : Nat) (w : World) (os : OsState) (cp : Value) (O : Obj) (k3 k4 k5 : KR) : RT × RT := (goT n w (SA23 w.params os (.ofNat 128371) (.ofNat 8) cp O 741) (thr (csG 1 256) PQ (k0F k0 (inF (kg w) (kn w) (uf k3 k4 k5)))), some (SA23 w.params os (.ofNat 128371) (.ofNat 8) cp O 741, inT w PQ 256 k3 k4 k5))
theorem FS23_self : FS23 = FS23 := rfl
name_quick qFS23 for Mine.FS23 by Mine.FS23_self
theorem KS23_ff : ∀ (w : World) (os : OsState) cp O k3 k4 k5, (PySem.W.Fast.qFS23 12 (wf false false w) os cp O k3 k4 k5).1 = (PySem.W.Fast.qFS23 12 (wf false false w) os cp O k3 k4 k5).2 := fun w os cp O k3 k4 k5 => by kernel_rfl
theorem KS23_tf : ∀ (w : World) (os : OsState) cp O k3 k4 k5, (PySem.W.Fast.qFS23 12 (wf true false w) os cp O k3 k4 k5).1 = (PySem.W.Fast.qFS23 12 (wf true false w) os cp O k3 k4 k5).2 := fun w os cp O k3 k4 k5 => by kernel_rfl
theorem KS23_t : ∀ (w : World) (os : OsState) cp O k3 k4 k5, (PySem.W.Fast.qFS23 2 (w.withFollow "comprehension-iter-twice" true) os cp O k3 k4 k5).1 = (PySem.W.Fast.qFS23 2 (w.withFollow "comprehension-iter-twice" true) os cp O k3 k4 k5).2 := fun w os cp O k3 k4 k5 => by kernel_rfl
theorem GS23 (w : World) (os : OsState) (cp : Value) (O : Obj) (k3 k4 k5 : KR) : Goes w (SA23 w.params os (.ofNat 128371) (.ofNat 8) cp O 741) (thr (csG 1 256) PQ (k0F k0 (inF (kg w) (kn w) (uf k3 k4 k5)))) (SA23 w.params os (.ofNat 128371) (.ofNat 8) cp O 741) (inT w PQ 256 k3 k4 k5) 12 := by
  revert w; refine rows2 (fun b1 b2 w => ?_); cases b1 <;> cases b2
  · exact ⟨12, Nat.le_of_ble_eq_true rfl, by have h := KS23_ff w os cp O k3 k4 k5; rw [← PySem.W.Fast.qFS23_eq] at h; unfold FS23 at h; dsimp only at h; exact h⟩
  · exact ⟨2, Nat.le_of_ble_eq_true rfl, by have h := KS23_t (w.withFollow "special-get-raises" false) os cp O k3 k4 k5; rw [← PySem.W.Fast.qFS23_eq] at h; unfold FS23 at h; dsimp only at h; exact h⟩
  · exact ⟨12, Nat.le_of_ble_eq_true rfl, by have h := KS23_tf w os cp O k3 k4 k5; rw [← PySem.W.Fast.qFS23_eq] at h; unfold FS23 at h; dsimp only at h; exact h⟩
  · exact ⟨2, Nat.le_of_ble_eq_true rfl, by have h := KS23_t (w.withFollow "special-get-raises" true) os cp O k3 k4 k5; rw [← PySem.W.Fast.qFS23_eq] at h; unfold FS23 at h; dsimp only at h; exact h⟩
noncomputable def gI23 (w : World) (os : OsState) (c r tk : Nat) (cp : Value) (O : Obj) (k3 k4 k5 : KR) : Array GenState := gensOf (goT 26 w (SA23 w.params os (.ofNat c) (.ofNat (r + 1)) cp O tk) (inT w PQ 256 k3 k4 k5))
noncomputable def FI23 (n : Nat) (w : World) (os : OsState) (c r tk : Nat) (cp : Value) (O : Obj) (p : Pos) (k3 k4 k5 : KR) : RT × RT := (goT n w (SA23 w.params os (.ofNat c) (.ofNat (r + 1)) cp O tk) (inT w p 256 k3 k4 k5), some (⟨TA23 w.params (Int.ofNat c + Int.ofNat 1) (Int.ofNat (r + 1) - 1) (.int (.ofNat c) tk) O, 257, {}, gI23 w os c r tk cp O k3 k4 k5, {}, tk + 2, os⟩, addTh (.int (.ofNat c) tk) k3 k4 k5))
theorem FI23_self : FI23 = FI23 := rfl
name_quick qFI23 for Mine.FI23 by Mine.FI23_self
theorem KI23 : ∀ (w : World) (os : OsState) c r tk cp O p k3 k4 k5, (PySem.W.Fast.qFI23 26 (w) os c r tk cp O p k3 k4 k5).1 = (PySem.W.Fast.qFI23 26 (w) os c r tk cp O p k3 k4 k5).2 := fun w os c r tk cp O p k3 k4 k5 => by kernel_rfl
theorem GI23 (w : World) (os : OsState) (c r tk : Nat) (cp : Value) (O : Obj) (p : Pos) (k3 k4 k5 : KR) : Goes w (SA23 w.params os (.ofNat c) (.ofNat (r + 1)) cp O tk) (inT w p 256 k3 k4 k5) (⟨TA23 w.params (Int.ofNat c + Int.ofNat 1) (Int.ofNat (r + 1) - 1) (.int (.ofNat c) tk) O, 257, {}, gI23 w os c r tk cp O k3 k4 k5, {}, tk + 2, os⟩) (addTh (.int (.ofNat c) tk) k3 k4 k5) 26 := ⟨26, Nat.le_refl _, by have h := KI23 w os c r tk cp O p k3 k4 k5; rw [← PySem.W.Fast.qFI23_eq] at h; unfold FI23 at h; dsimp only at h; exact h⟩
noncomputable def FJ23 (n : Nat) (w : World) (os : OsState) (c r tk tk2 : Nat) (i j : Int) (cp cp2 : Value) (O O2 : Obj) (k3 k4 k5 : KR) : RT × RT := (goT n w (⟨TA23 w.params i j cp2 O2, 257, {}, gI23 w os c r tk cp O k3 k4 k5, {}, tk2, os⟩) (agTh k3 k4 k5), some (SA23 w.params os i j cp2 O2 tk2, inT w PR 256 k3 k4 k5))
theorem FJ23_self : FJ23 = FJ23 := rfl
name_quick qFJ23 for Mine.FJ23 by Mine.FJ23_self
theorem KJ23 : ∀ (w : World) (os : OsState) c r tk tk2 i j cp cp2 O O2 k3 k4 k5, (PySem.W.Fast.qFJ23 11 (w) os c r tk tk2 i j cp cp2 O O2 k3 k4 k5).1 = (PySem.W.Fast.qFJ23 11 (w) os c r tk tk2 i j cp cp2 O O2 k3 k4 k5).2 := fun w os c r tk tk2 i j cp cp2 O O2 k3 k4 k5 => by kernel_rfl
theorem GJ23 (w : World) (os : OsState) (c r tk tk2 : Nat) (i j : Int) (cp cp2 : Value) (O O2 : Obj) (k3 k4 k5 : KR) : Goes w (⟨TA23 w.params i j cp2 O2, 257, {}, gI23 w os c r tk cp O k3 k4 k5, {}, tk2, os⟩) (agTh k3 k4 k5) (SA23 w.params os i j cp2 O2 tk2) (inT w PR 256 k3 k4 k5) 11 := ⟨11, Nat.le_refl _, by have h := KJ23 w os c r tk tk2 i j cp cp2 O O2 k3 k4 k5; rw [← PySem.W.Fast.qFJ23_eq] at h; unfold FJ23 at h; dsimp only at h; exact h⟩
noncomputable def FE23 (n : Nat) (w : World) (os : OsState) (tk : Nat) (cp : Value) (O : Obj) (p : Pos) (k3 k4 k5 : KR) : RT × RT := (goT n w (SA23 w.params os (.ofNat 128379) (.ofNat 0) cp O tk) (inT w p 256 k3 k4 k5), some (SD24 w.params os cp O tk, outT w k3 k4 k5))
theorem FE23_self : FE23 = FE23 := rfl
name_quick qFE23 for Mine.FE23 by Mine.FE23_self
theorem KE23 : ∀ (w : World) (os : OsState) tk cp O p k3 k4 k5, (PySem.W.Fast.qFE23 16 (w) os tk cp O p k3 k4 k5).1 = (PySem.W.Fast.qFE23 16 (w) os tk cp O p k3 k4 k5).2 := fun w os tk cp O p k3 k4 k5 => by kernel_rfl
theorem GE23 (w : World) (os : OsState) (tk : Nat) (cp : Value) (O : Obj) (p : Pos) (k3 k4 k5 : KR) : Goes w (SA23 w.params os (.ofNat 128379) (.ofNat 0) cp O tk) (inT w p 256 k3 k4 k5) (SD24 w.params os cp O tk) (outT w k3 k4 k5) 16 := ⟨16, Nat.le_refl _, by have h := KE23 w os tk cp O p k3 k4 k5; rw [← PySem.W.Fast.qFE23_eq] at h; unfold FE23 at h; dsimp only at h; exact h⟩
noncomputable def FA24 (n : Nat) (w : World) (os : OsState) (cp : Value) (O : Obj) (k3 k4 k5 : KR) : RT × RT := (goT n w (SD24 w.params os cp O 765) (outT w k3 k4 k5), some (SA24 w.params os (.ofNat 128405) (.ofNat 2) cp O 770, thr (csG 1 263) PQ (k0F k0 (inF (kg w) (kn w) (uf k3 k4 k5)))))
theorem FA24_self : FA24 = FA24 := rfl
name_quick qFA24 for Mine.FA24 by Mine.FA24_self
theorem KA24_false : ∀ (w : World) (os : OsState) cp O k3 k4 k5, (PySem.W.Fast.qFA24 116 (wg false w) os cp O k3 k4 k5).1 = (PySem.W.Fast.qFA24 116 (wg false w) os cp O k3 k4 k5).2 := fun w os cp O k3 k4 k5 => by kernel_rfl
theorem KA24_true : ∀ (w : World) (os : OsState) cp O k3 k4 k5, (PySem.W.Fast.qFA24 116 (wg true w) os cp O k3 k4 k5).1 = (PySem.W.Fast.qFA24 116 (wg true w) os cp O k3 k4 k5).2 := fun w os cp O k3 k4 k5 => by kernel_rfl
theorem GA24 (w : World) (os : OsState) (cp : Value) (O : Obj) (k3 k4 k5 : KR) : Goes w (SD24 w.params os cp O 765) (outT w k3 k4 k5) (SA24 w.params os (.ofNat 128405) (.ofNat 2) cp O 770) (thr (csG 1 263) PQ (k0F k0 (inF (kg w) (kn w) (uf k3 k4 k5)))) 116 := by
  revert w; refine rows1 (fun b w => ?_); cases b
  · exact ⟨116, Nat.le_refl _, by have h := KA24_false w os cp O k3 k4 k5; rw [← PySem.W.Fast.qFA24_eq] at h; unfold FA24 at h; dsimp only at h; exact h⟩
  · exact ⟨116, Nat.le_refl _, by have h := KA24_true w os cp O k3 k4 k5; rw [← PySem.W.Fast.qFA24_eq] at h; unfold FA24 at h; dsimp only at h; exact h⟩
noncomputable def FS24 (n : Nat) (w : World) (os : OsState) (cp : Value) (O : Obj) (k3 k4 k5 : KR) : RT × RT := (goT n w (SA24 w.params os (.ofNat 128405) (.ofNat 2) cp O 770) (thr (csG 1 263) PQ (k0F k0 (inF (kg w) (kn w) (uf k3 k4 k5)))), some (SA24 w.params os (.ofNat 128405) (.ofNat 2) cp O 770, inT w PQ 263 k3 k4 k5))
theorem FS24_self : FS24 = FS24 := rfl
name_quick qFS24 for Mine.FS24 by Mine.FS24_self
theorem KS24_ff : ∀ (w : World) (os : OsState) cp O k3 k4 k5, (PySem.W.Fast.qFS24 12 (wf false false w) os cp O k3 k4 k5).1 = (PySem.W.Fast.qFS24 12 (wf false false w) os cp O k3 k4 k5).2 := fun w os cp O k3 k4 k5 => by kernel_rfl
theorem KS24_tf : ∀ (w : World) (os : OsState) cp O k3 k4 k5, (PySem.W.Fast.qFS24 12 (wf true false w) os cp O k3 k4 k5).1 = (PySem.W.Fast.qFS24 12 (wf true false w) os cp O k3 k4 k5).2 := fun w os cp O k3 k4 k5 => by kernel_rfl
theorem KS24_t : ∀ (w : World) (os : OsState) cp O k3 k4 k5, (PySem.W.Fast.qFS24 2 (w.withFollow "comprehension-iter-twice" true) os cp O k3 k4 k5).1 = (PySem.W.Fast.qFS24 2 (w.withFollow "comprehension-iter-twice" true) os cp O k3 k4 k5).2 := fun w os cp O k3 k4 k5 => by kernel_rfl
theorem GS24 (w : World) (os : OsState) (cp : Value) (O : Obj) (k3 k4 k5 : KR) : Goes w (SA24 w.params os (.ofNat 128405) (.ofNat 2) cp O 770) (thr (csG 1 263) PQ (k0F k0 (inF (kg w) (kn w) (uf k3 k4 k5)))) (SA24 w.params os (.ofNat 128405) (.ofNat 2) cp O 770) (inT w PQ 263 k3 k4 k5) 12 := by
  revert w; refine rows2 (fun b1 b2 w => ?_); cases b1 <;> cases b2
  · exact ⟨12, Nat.le_of_ble_eq_true rfl, by have h := KS24_ff w os cp O k3 k4 k5; rw [← PySem.W.Fast.qFS24_eq] at h; unfold FS24 at h; dsimp only at h; exact h⟩
  · exact ⟨2, Nat.le_of_ble_eq_true rfl, by have h := KS24_t (w.withFollow "special-get-raises" false) os cp O k3 k4 k5; rw [← PySem.W.Fast.qFS24_eq] at h; unfold FS24 at h; dsimp only at h; exact h⟩
  · exact ⟨12, Nat.le_of_ble_eq_true rfl, by have h := KS24_tf w os cp O k3 k4 k5; rw [← PySem.W.Fast.qFS24_eq] at h; unfold FS24 at h; dsimp only at h; exact h⟩
  · exact ⟨2, Nat.le_of_ble_eq_true rfl, by have h := KS24_t (w.withFollow "special-get-raises" true) os cp O k3 k4 k5; rw [← PySem.W.Fast.qFS24_eq] at h; unfold FS24 at h; dsimp only at h; exact h⟩
noncomputable def gI24 (w : World) (os : OsState) (c r tk : Nat) (cp : Value) (O : Obj) (k3 k4 k5 : KR) : Array GenState := gensOf (goT 26 w (SA24 w.params os (.ofNat c) (.ofNat (r + 1)) cp O tk) (inT w PQ 263 k3 k4 k5))
noncomputable def FI24 (n : Nat) (w : World) (os : OsState) (c r tk : Nat) (cp : Value) (O : Obj) (p : Pos) (k3 k4 k5 : KR) : RT × RT := (goT n w (SA24 w.params os (.ofNat c) (.ofNat (r + 1)) cp O tk) (inT w p 263 k3 k4 k5), some (⟨TA24 w.params (Int.ofNat c + Int.ofNat 1) (Int.ofNat (r + 1) - 1) (.int (.ofNat c) tk) O, 264, {}, gI24 w os c r tk cp O k3 k4 k5, {}, tk + 2, os⟩, addTh (.int (.ofNat c) tk) k3 k4 k5))
theorem FI24_self : FI24 = FI24 := rfl
name_quick qFI24 for Mine.FI24 by Mine.FI24_self
theorem KI24 : ∀ (w : World) (os : OsState) c r tk cp O p k3 k4 k5, (PySem.W.Fast.qFI24 26 (w) os c r tk cp O p k3 k4 k5).1 = (PySem.W.Fast.qFI24 26 (w) os c r tk cp O p k3 k4 k5).2 := fun w os c r tk cp O p k3 k4 k5 => by kernel_rfl
theorem GI24 (w : World) (os : OsState) (c r tk : Nat) (cp : Value) (O : Obj) (p : Pos) (k3 k4 k5 : KR) : Goes w (SA24 w.params os (.ofNat c) (.ofNat (r + 1)) cp O tk) (inT w p 263 k3 k4 k5) (⟨TA24 w.params (Int.ofNat c + Int.ofNat 1) (Int.ofNat (r + 1) - 1) (.int (.ofNat c) tk) O, 264, {}, gI24 w os c r tk cp O k3 k4 k5, {}, tk + 2, os⟩) (addTh (.int (.ofNat c) tk) k3 k4 k5) 26 := ⟨26, Nat.le_refl _, by have h := KI24 w os c r tk cp O p k3 k4 k5; rw [← PySem.W.Fast.qFI24_eq] at h; unfold FI24 at h; dsimp only at h; exact h⟩
noncomputable def FJ24 (n : Nat) (w : World) (os : OsState) (c r tk tk2 : Nat) (i j : Int) (cp cp2 : Value) (O O2 : Obj) (k3 k4 k5 : KR) : RT × RT := (goT n w (⟨TA24 w.params i j cp2 O2, 264, {}, gI24 w os c r tk cp O k3 k4 k5, {}, tk2, os⟩) (agTh k3 k4 k5), some (SA24 w.params os i j cp2 O2 tk2, inT w PR 263 k3 k4 k5))
theorem FJ24_self : FJ24 = FJ24 := rfl
name_quick qFJ24 for Mine.FJ24 by Mine.FJ24_self
theorem KJ24 : ∀ (w : World) (os : OsState) c r tk tk2 i j cp cp2 O O2 k3 k4 k5, (PySem.W.Fast.qFJ24 11 (w) os c r tk tk2 i j cp cp2 O O2 k3 k4 k5).1 = (PySem.W.Fast.qFJ24 11 (w) os c r tk tk2 i j cp cp2 O O2 k3 k4 k5).2 := fun w os c r tk tk2 i j cp cp2 O O2 k3 k4 k5 => by kernel_rfl
theorem GJ24 (w : World) (os : OsState) (c r tk tk2 : Nat) (i j : Int) (cp cp2 : Value) (O O2 : Obj) (k3 k4 k5 : KR) : Goes w (⟨TA24 w.params i j cp2 O2, 264, {}, gI24 w os c r tk cp O k3 k4 k5, {}, tk2, os⟩) (agTh k3 k4 k5) (SA24 w.params os i j cp2 O2 tk2) (inT w PR 263 k3 k4 k5) 11 := ⟨11, Nat.le_refl _, by have h := KJ24 w os c r tk tk2 i j cp cp2 O O2 k3 k4 k5; rw [← PySem.W.Fast.qFJ24_eq] at h; unfold FJ24 at h; dsimp only at h; exact h⟩
noncomputable def FE24 (n : Nat) (w : World) (os : OsState) (tk : Nat) (cp : Value) (O : Obj) (p : Pos) (k3 k4 k5 : KR) : RT × RT := (goT n w (SA24 w.params os (.ofNat 128407) (.ofNat 0) cp O tk) (inT w p 263 k3 k4 k5), some (SD25 w.params os cp O tk, outT w k3 k4 k5))
theorem FE24_self : FE24 = FE24 := rfl
name_quick qFE24 for Mine.FE24 by Mine.FE24_self
theorem KE24 : ∀ (w : World) (os : OsState) tk cp O p k3 k4 k5, (PySem.W.Fast.qFE24 16 (w) os tk cp O p k3 k4 k5).1 = (PySem.W.Fast.qFE24 16 (w) os tk cp O p k3 k4 k5).2 := fun w os tk cp O p k3 k4 k5 => by kernel_rfl
theorem GE24 (w : World) (os : OsState) (tk : Nat) (cp : Value) (O : Obj) (p : Pos) (k3 k4 k5 : KR) : Goes w (SA24 w.params os (.ofNat 128407) (.ofNat 0) cp O tk) (inT w p 263 k3 k4 k5) (SD25 w.params os cp O tk) (outT w k3 k4 k5) 16 := ⟨16, Nat.le_refl _, by have h := KE24 w os tk cp O p k3 k4 k5; rw [← PySem.W.Fast.qFE24_eq] at h; unfold FE24 at h; dsimp only at h; exact h⟩
noncomputable def FA25 (n : Nat) (w : World) (os : OsState) (cp : Value) (O : Obj) (k3 k4 k5 : KR) : RT × RT := (goT n w (SD25 w.params os cp O 776) (outT w k3 k4 k5), some (SA25 w.params os (.ofNat 128420) (.ofNat 2) cp O 781, thr (csG 1 270) PQ (k0F k0 (inF (kg w) (kn w) (uf k3 k4 k5)))))
theorem FA25_self : FA25 = FA25 := rfl
name_quick qFA25 for Mine.FA25 by Mine.FA25_self
theorem KA25_false : ∀ (w : World) (os : OsState) cp O k3 k4 k5, (PySem.W.Fast.qFA25 116 (wg false w) os cp O k3 k4 k5).1 = (PySem.W.Fast.qFA25 116 (wg false w) os cp O k3 k4 k5).2 := fun w os cp O k3 k4 k5 => by kernel_rfl
theorem KA25_true : ∀ (w : World) (os : OsState) cp O k3 k4 k5, (PySem.W.Fast.qFA25 116 (wg true w) os cp O k3 k4 k5).1 = (PySem.W.Fast.qFA25 116 (wg true w) os cp O k3 k4 k5).2 := fun w os cp O k3 k4 k5 => by kernel_rfl
theorem GA25 (w : World) (os : OsState) (cp : Value) (O : Obj) (k3 k4 k5 : KR) : Goes w (SD25 w.params os cp O 776) (outT w k3 k4 k5) (SA25 w.params os (.ofNat 128420) (.ofNat 2) cp O 781) (thr (csG 1 270) PQ (k0F k0 (inF (kg w) (kn w) (uf k3 k4 k5)))) 116 := by
  revert w; refine rows1 (fun b w => ?_); cases b
  · exact ⟨116, Nat.le_refl _, by have h := KA25_false w os cp O k3 k4 k5; rw [← PySem.W.Fast.qFA25_eq] at h; unfold FA25 at h; dsimp only at h; exact h⟩
  · exact ⟨116, Nat.le_refl _, by have h := KA25_true w os cp O k3 k4 k5; rw [← PySem.W.Fast.qFA25_eq] at h; unfold FA25 at h; dsimp only at h; exact h⟩
noncomputable def FS25 (n : Nat) (w : World) (os : OsState) (cp : Value) (O : Obj) (k3 k4 k5 : KR) : RT × RT := (goT n w (SA25 w.params os (.ofNat 128420) (.ofNat 2) cp O 781) (thr (csG 1 270) PQ (k0F k0 (inF (kg w) (kn w) (uf k3 k4 k5)))), some (SA25 w.params os (.ofNat 128420) (.ofNat 2) cp O 781, inT w PQ 270 k3 k4 k5))
theorem FS25_self : FS25 = FS25 := rfl
name_quick qFS25 for Mine.FS25 by Mine.FS25_self
theorem KS25_ff : ∀ (w : World) (os : OsState) cp O k3 k4 k5, (PySem.W.Fast.qFS25 12 (wf false false w) os cp O k3 k4 k5).1 = (PySem.W.Fast.qFS25 12 (wf false false w) os cp O k3 k4 k5).2 := fun w os cp O k3 k4 k5 => by kernel_rfl
theorem KS25_tf : ∀ (w : World) (os : OsState) cp O k3 k4 k5, (PySem.W.Fast.qFS25 12 (wf true false w) os cp O k3 k4 k5).1 = (PySem.W.Fast.qFS25 12 (wf true false w) os cp O k3 k4 k5).2 := fun w os cp O k3 k4 k5 => by kernel_rfl
theorem KS25_t : ∀ (w : World) (os : OsState) cp O k3 k4 k5, (PySem.W.Fast.qFS25 2 (w.withFollow "comprehension-iter-twice" true) os cp O k3 k4 k5).1 = (PySem.W.Fast.qFS25 2 (w.withFollow "comprehension-iter-twice" true) os cp O k3 k4 k5).2 := fun w os cp O k3 k4 k5 => by kernel_rfl
theorem GS25 (w : World) (os : OsState) (cp : Value) (O : Obj) (k3 k4 k5 : KR) : Goes w (SA25 w.params os (.ofNat 128420) (.ofNat 2) cp O 781) (thr (csG 1 270) PQ (k0F k0 (inF (kg w) (kn w) (uf k3 k4 k5)))) (SA25 w.params os (.ofNat 128420) (.ofNat 2) cp O 781) (inT w PQ 270 k3 k4 k5) 12 := by
  revert w; refine rows2 (fun b1 b2 w => ?_); cases b1 <;> cases b2
  · exact ⟨12, Nat.le_of_ble_eq_true rfl, by have h := KS25_ff w os cp O k3 k4 k5; rw [← PySem.W.Fast.qFS25_eq] at h; unfold FS25 at h; dsimp only at h; exact h⟩
  · exact ⟨2, Nat.le_of_ble_eq_true rfl, by have h := KS25_t (w.withFollow "special-get-raises" false) os cp O k3 k4 k5; rw [← PySem.W.Fast.qFS25_eq] at h; unfold FS25 at h; dsimp only at h; exact h⟩
  · exact ⟨12, Nat.le_of_ble_eq_true rfl, by have h := KS25_tf w os cp O k3 k4 k5; rw [← PySem.W.Fast.qFS25_eq] at h; unfold FS25 at h; dsimp only at h; exact h⟩
  · exact ⟨2, Nat.le_of_ble_eq_true rfl, by have h := KS25_t (w.withFollow "special-get-raises" true) os cp O k3 k4 k5; rw [← PySem.W.Fast.qFS25_eq] at h; unfold FS25 at h; dsimp only at h; exact h⟩
noncomputable def gI25 (w : World) (os : OsState) (c r tk : Nat) (cp : Value) (O : Obj) (k3 k4 k5 : KR) : Array GenState := gensOf (goT 26 w (SA25 w.params os (.ofNat c) (.ofNat (r + 1)) cp O tk) (inT w PQ 270 k3 k4 k5))
noncomputable def FI25 (n : Nat) (w : World) (os : OsState) (c r tk : Nat) (cp : Value) (O : Obj) (p : Pos) (k3 k4 k5 : KR) : RT × RT := (goT n w (SA25 w.params os (.ofNat c) (.ofNat (r + 1)) cp O tk) (inT w p 270 k3 k4 k5), some (⟨TA25 w.params (Int.ofNat c + Int.ofNat 1) (Int.ofNat (r + 1) - 1) (.int (.ofNat c) tk) O, 271, {}, gI25 w os c r tk cp O k3 k4 k5, {}, tk + 2, os⟩, addTh (.int (.ofNat c) tk) k3 k4 k5))
theorem FI25_self : FI25 = FI25 := rfl
name_quick qFI25 for Mine.FI25 by Mine.FI25_self
theorem KI25 : ∀ (w : World) (os : OsState) c r tk cp O p k3 k4 k5, (PySem.W.Fast.qFI25 26 (w) os c r tk cp O p k3 k4 k5).1 = (PySem.W.Fast.qFI25 26 (w) os c r tk cp O p k3 k4 k5).2 := fun w os c r tk cp O p k3 k4 k5 => by kernel_rfl
theorem GI25 (w : World) (os : OsState) (c r tk : Nat) (cp : Value) (O : Obj) (p : Pos) (k3 k4 k5 : KR) : Goes w (SA25 w.params os (.ofNat c) (.ofNat (r + 1)) cp O tk) (inT w p 270 k3 k4 k5) (⟨TA25 w.params (Int.ofNat c + Int.ofNat 1) (Int.ofNat (r + 1) - 1) (.int (.ofNat c) tk) O, 271, {}, gI25 w os c r tk cp O k3 k4 k5, {}, tk + 2, os⟩) (addTh (.int (.ofNat c) tk) k3 k4 k5) 26 := ⟨26, Nat.le_refl _, by have h := KI25 w os c r tk cp O p k3 k4 k5; rw [← PySem.W.Fast.qFI25_eq] at h; unfold FI25 at h; dsimp only at h; exact h⟩
noncomputable def FJ25 (n : Nat) (w : World) (os : OsState) (c r tk tk2 : Nat) (i j : Int) (cp cp2 : Value) (O O2 : Obj) (k3 k4 k5 : KR) : RT × RT := (goT n w (⟨TA25 w.params i j cp2 O2, 271, {}, gI25 w os c r tk cp O k3 k4 k5, {}, tk2, os⟩) (agTh k3 k4 k5), some (SA25 w.params os i j cp2 O2 tk2, inT w PR 270 k3 k4 k5))
theorem FJ25_self : FJ25 = FJ25 := rfl
name_quick qFJ25 for Mine.FJ25 by Mine.FJ25_self
theorem KJ25 : ∀ (w : World) (os : OsState) c r tk tk2 i j cp cp2 O O2 k3 k4 k5, (PySem.W.Fast.qFJ25 11 (w) os c r tk tk2 i j cp cp2 O O2 k3 k4 k5).1 = (PySem.W.Fast.qFJ25 11 (w) os c r tk tk2 i j cp cp2 O O2 k3 k4 k5).2 := fun w os c r tk tk2 i j cp cp2 O O2 k3 k4 k5 => by kernel_rfl
theorem GJ25 (w : World) (os : OsState) (c r tk tk2 : Nat) (i j : Int) (cp cp2 : Value) (O O2 : Obj) (k3 k4 k5 : KR) : Goes w (⟨TA25 w.params i j cp2 O2, 271, {}, gI25 w os c r tk cp O k3 k4 k5, {}, tk2, os⟩) (agTh k3 k4 k5) (SA25 w.params os i j cp2 O2 tk2) (inT w PR 270 k3 k4 k5) 11 := ⟨11, Nat.le_refl _, by have h := KJ25 w os c r tk tk2 i j cp cp2 O O2 k3 k4 k5; rw [← PySem.W.Fast.qFJ25_eq] at h; unfold FJ25 at h; dsimp only at h; exact h⟩
noncomputable def FE25 (n : Nat) (w : World) (os : OsState) (tk : Nat) (cp : Value) (O : Obj) (p : Pos) (k3 k4 k5 : KR) : RT × RT := (goT n w (SA25 w.params os (.ofNat 128422) (.ofNat 0) cp O tk) (inT w p 270 k3 k4 k5), some (SD26 w.params os cp O tk, outT w k3 k4 k5))
theorem FE25_self : FE25 = FE25 := rfl
name_quick qFE25 for Mine.FE25 by Mine.FE25_self
theorem KE25 : ∀ (w : World) (os : OsState) tk cp O p k3 k4 k5, (PySem.W.Fast.qFE25 16 (w) os tk cp O p k3 k4 k5).1 = (PySem.W.Fast.qFE25 16 (w) os tk cp O p k3 k4 k5).2 := fun w os tk cp O p k3 k4 k5 => by kernel_rfl
theorem GE25 (w : World) (os : OsState) (tk : Nat) (cp : Value) (O : Obj) (p : Pos) (k3 k4 k5 : KR) : Goes w (SA25 w.params os (.ofNat 128422) (.ofNat 0) cp O tk) (inT w p 270 k3 k4 k5) (SD26 w.params os cp O tk) (outT w k3 k4 k5) 16 := ⟨16, Nat.le_refl _, by have h := KE25 w os tk cp O p k3 k4 k5; rw [← PySem.W.Fast.qFE25_eq] at h; unfold FE25 at h; dsimp only at h; exact h⟩
noncomputable def FA26 (n : Nat) (w : World) (os : OsState) (cp : Value) (O : Obj) (k3 k4 k5 : KR) : RT × RT := (goT n w (SD26 w.params os cp O 787) (outT w k3 k4 k5), some (SA26 w.params os (.ofNat 128715) (.ofNat 8) cp O 792, thr (csG 1 277) PQ (k0F k0 (inF (kg w) (kn w) (uf k3 k4 k5)))))
theorem FA26_self : FA26 = FA26 := rfl
name_quick qFA26 for Mine.FA26 by Mine.FA26_self
theorem KA26_false : ∀ (w : World) (os : OsState) cp O k3 k4 k5, (PySem.W.Fast.qFA26 116 (wg false w) os cp O k3 k4 k5).1 = (PySem.W.Fast.qFA26 116 (wg false w) os cp O k3 k4 k5).2 := fun w os cp O k3 k4 k5 => by kernel_rfl
theorem KA26_true : ∀ (w : World) (os : OsState) cp O k3 k4 k5, (PySem.W.Fast.qFA26 116 (wg true w) os cp O k3 k4 k5).1 = (PySem.W.Fast.qFA26 116 (wg true w) os cp O k3 k4 k5).2 := fun w os cp O k3 k4 k5 => by kernel_rfl
theorem GA26 (w : World) (os : OsState) (cp : Value) (O : Obj) (k3 k4 k5 : KR) : Goes w (SD26 w.params os cp O 787) (outT w k3 k4 k5) (SA26 w.params os (.ofNat 128715) (.ofNat 8) cp O 792) (thr (csG 1 277) PQ (k0F k0 (inF (kg w) (kn w) (uf k3 k4 k5)))) 116 := by
  revert w; refine rows1 (fun b w => ?_); cases b
  · exact ⟨116, Nat.le_refl _, by have h := KA26_false w os cp O k3 k4 k5; rw [← PySem.W.Fast.qFA26_eq] at h; unfold FA26 at h; dsimp only at h; exact h⟩
  · exact ⟨116, Nat.le_refl _, by have h := KA26_true w os cp O k3 k4 k5; rw [← PySem.W.Fast.qFA26_eq] at h; unfold FA26 at h; dsimp only at h; exact h⟩
noncomputable def FS26 (n : Nat) (w : World) (os : OsState) (cp : Value) (O : Obj) (k3 k4 k5 : KR) : RT × RT := (goT n w (SA26 w.params os (.ofNat 128715) (.ofNat 8) cp O 792) (thr (csG 1 277) PQ (k0F k0 (inF (kg w) (kn w) (uf k3 k4 k5)))), some (SA26 w.params os (.ofNat 128715) (.ofNat 8) cp O 792, inT w PQ 277 k3 k4 k5))
theorem FS26_self : FS26 = FS26 := rfl
name_quick qFS26 for Mine.FS26 by Mine.FS26_self
theorem KS26_ff : ∀ (w : World) (os : OsState) cp O k3 k4 k5, (PySem.W.Fast.qFS26 12 (wf false false w) os cp O k3 k4 k5).1 = (PySem.W.Fast.qFS26 12 (wf false false w) os cp O k3 k4 k5).2 := fun w os cp O k3 k4 k5 => by kernel_rfl
theorem KS26_tf : ∀ (w : World) (os : OsState) cp O k3 k4 k5, (PySem.W.Fast.qFS26 12 (wf true false w) os cp O k3 k4 k5).1 = (PySem.W.Fast.qFS26 12 (wf true false w) os cp O k3 k4 k5).2 := fun w os cp O k3 k4 k5 => by kernel_rfl
theorem KS26_t : ∀ (w : World) (os : OsState) cp O k3 k4 k5, (PySem.W.Fast.qFS26 2 (w.withFollow "comprehension-iter-twice" true) os cp O k3 k4 k5).1 = (PySem.W.Fast.qFS26 2 (w.withFollow "comprehension-iter-twice" true) os cp O k3 k4 k5).2 := fun w os cp O k3 k4 k5 => by kernel_rfl
theorem GS26 (w : World) (os : OsState) (cp : Value) (O : Obj) (k3 k4 k5 : KR) : Goes w (SA26 w.params os (.ofNat 128715) (.ofNat 8) cp O 792) (thr (csG 1 277) PQ (k0F k0 (inF (kg w) (kn w) (uf k3 k4 k5)))) (SA26 w.params os (.ofNat 128715) (.ofNat 8) cp O 792) (inT w PQ 277 k3 k4 k5) 12 := by
  revert w; refine rows2 (fun b1 b2 w => ?_); cases b1 <;> cases b2
  · exact ⟨12, Nat.le_of_ble_eq_true rfl, by have h := KS26_ff w os cp O k3 k4 k5; rw [← PySem.W.Fast.qFS26_eq] at h; unfold FS26 at h; dsimp only at h; exact h⟩
  · exact ⟨2, Nat.le_of_ble_eq_true rfl, by have h := KS26_t (w.withFollow "special-get-raises" false) os cp O k3 k4 k5; rw [← PySem.W.Fast.qFS26_eq] at h; unfold FS26 at h; dsimp only at h; exact h⟩
  · exact ⟨12, Nat.le_of_ble_eq_true rfl, by have h := KS26_tf w os cp O k3 k4 k5; rw [← PySem.W.Fast.qFS26_eq] at h; unfold FS26 at h; dsimp only at h; exact h⟩
  · exact ⟨2, Nat.le_of_ble_eq_true rfl, by have h := KS26_t (w.withFollow "special-get-raises" true) os cp O k3 k4 k5; rw [← PySem.W.Fast.qFS26_eq] at h; unfold FS26 at h; dsimp only at h; exact h⟩
noncomputable def gI26 (w : World) (os : OsState) (c r tk : Nat) (cp : Value) (O : Obj) (k3 k4 k5 : KR) : Array GenState := gensOf (goT 26 w (SA26 w.params os (.ofNat c) (.ofNat (r + 1)) cp O tk) (inT w PQ 277 k3 k4 k5))
noncomputable def FI26 (n : Nat) (w : World) (os : OsState) (c r tk : Nat) (cp : Value) (O : Obj) (p : Pos) (k3 k4 k5 : KR) : RT × RT := (goT n w (SA26 w.params os (.ofNat c) (.ofNat (r + 1)) cp O tk) (inT w p 277 k3 k4 k5), some (⟨TA26 w.params (Int.ofNat c + Int.ofNat 1) (Int.ofNat (r + 1) - 1) (.int (.ofNat c) tk) O, 278, {}, gI26 w os c r tk cp O k3 k4 k5, {}, tk + 2, os⟩, addTh (.int (.ofNat c) tk) k3 k4 k5))
theorem FI26_self : FI26 = FI26 := rfl
name_quick qFI26 for Mine.FI26 by Mine.FI26_self
theorem KI26 : ∀ (w : World) (os : OsState) c r tk cp O p k3 k4 k5, (PySem.W.Fast.qFI26 26 (w) os c r tk cp O p k3 k4 k5).1 = (PySem.W.Fast.qFI26 26 (w) os c r tk cp O p k3 k4 k5).2 := fun w os c r tk cp O p k3 k4 k5 => by kernel_rfl
theorem GI26 (w : World) (os : OsState) (c r tk : Nat) (cp : Value) (O : Obj) (p : Pos) (k3 k4 k5 : KR) : Goes w (SA26 w.params os (.ofNat c) (.ofNat (r + 1)) cp O tk) (inT w p 277 k3 k4 k5) (⟨TA26 w.params (Int.ofNat c + Int.ofNat 1) (Int.ofNat (r + 1) - 1) (.int (.ofNat c) tk) O, 278, {}, gI26 w os c r tk cp O k3 k4 k5, {}, tk + 2, os⟩) (addTh (.int (.ofNat c) tk) k3 k4 k5) 26 := ⟨26, Nat.le_refl _, by have h := KI26 w os c r tk cp O p k3 k4 k5; rw [← PySem.W.Fast.qFI26_eq] at h; unfold FI26 at h; dsimp only at h; exact h⟩
noncomputable def FJ26 (n : Nat) (w : World) (os : OsState) (c r tk tk2 : Nat) (i j : Int) (cp cp2 : Value) (O O2 : Obj) (k3 k4 k5 : KR) : RT × RT := (goT n w (⟨TA26 w.params i j cp2 O2, 278, {}, gI26 w os c r tk cp O k3 k4 k5, {}, tk2, os⟩) (agTh k3 k4 k5), some (SA26 w.params os i j cp2 O2 tk2, inT w PR 277 k3 k4 k5))
theorem FJ26_self : FJ26 = FJ26 := rfl
name_quick qFJ26 for Mine.FJ26 by Mine.FJ26_self
theorem KJ26 : ∀ (w : World) (os : OsState) c r tk tk2 i j cp cp2 O O2 k3 k4 k5, (PySem.W.Fast.qFJ26 11 (w) os c r tk tk2 i j cp cp2 O O2 k3 k4 k5).1 = (PySem.W.Fast.qFJ26 11 (w) os c r tk tk2 i j cp cp2 O O2 k3 k4 k5).2 := fun w os c r tk tk2 i j cp cp2 O O2 k3 k4 k5 => by kernel_rfl
theorem GJ26 (w : World) (os : OsState) (c r tk tk2 : Nat) (i j : Int) (cp cp2 : Value) (O O2 : Obj) (k3 k4 k5 : KR) : Goes w (⟨TA26 w.params i j cp2 O2, 278, {}, gI26 w os c r tk cp O k3 k4 k5, {}, tk2, os⟩) (agTh k3 k4 k5) (SA26 w.params os i j cp2 O2 tk2) (inT w PR 277 k3 k4 k5) 11 := ⟨11, Nat.le_refl _, by have h := KJ26 w os c r tk tk2 i j cp cp2 O O2 k3 k4 k5; rw [← PySem.W.Fast.qFJ26_eq] at h; unfold FJ26 at h; dsimp only at h; exact h⟩
noncomputable def FE26 (n : Nat) (w : World) (os : OsState) (tk : Nat) (cp : Value) (O : Obj) (p : Pos) (k3 k4 k5 : KR) : RT × RT := (goT n w (SA26 w.params os (.ofNat 128723) (.ofNat 0) cp O tk) (inT w p 277 k3 k4 k5), some (SD27 w.params os cp O tk, outT w k3 k4 k5))
theorem FE26_self : FE26 = FE26 := rfl
name_quick qFE26 for Mine.FE26 by Mine.FE26_self
theorem KE26 : ∀ (w : World) (os : OsState) tk cp O p k3 k4 k5, (PySem.W.Fast.qFE26 16 (w) os tk cp O p k3 k4 k5).1 = (PySem.W.Fast.qFE26 16 (w) os tk cp O p k3 k4 k5).2 := fun w os tk cp O p k3 k4 k5 => by kernel_rfl
theorem GE26 (w : World) (os : OsState) (tk : Nat) (cp : Value) (O : Obj) (p : Pos) (k3 k4 k5 : KR) : Goes w (SA26 w.params os (.ofNat 128723) (.ofNat 0) cp O tk) (inT w p 277 k3 k4 k5) (SD27 w.params os cp O tk) (outT w k3 k4 k5) 16 := ⟨16, Nat.le_refl _, by have h := KE26 w os tk cp O p k3 k4 k5; rw [← PySem.W.Fast.qFE26_eq] at h; unfold FE26 at h; dsimp only at h; exact h⟩
noncomputable def FA27 (n : Nat) (w : World) (os : OsState) (cp : Value) (O : Obj) (k3 k4 k5 : KR) : RT × RT := (goT n w (SD27 w.params os cp O 816) (outT w k3 k4 k5), some (SA27 w.params os (.ofNat 128725) (.ofNat 17) cp O 821, thr (csG 1 284) PQ (k0F k0 (inF (kg w) (kn w) (uf k3 k4 k5)))))
theorem FA27_self : FA27 = FA27 := rfl
name_quick qFA27 for Mine.FA27 by Mine.FA27_self
theorem KA27_false : ∀ (w : World) (os : OsState) cp O k3 k4 k5, (PySem.W.Fast.qFA27 116 (wg false w) os cp O k3 k4 k5).1 = (PySem.W.Fast.qFA27 116 (wg false w) os cp O k3 k4 k5).2 := fun w os cp O k3 k4 k5 => by kernel_rfl
theorem KA27_true : ∀ (w : World) (os : OsState) cp O k3 k4 k5, (PySem.W.Fast.qFA27 116 (wg true w) os cp O k3 k4 k5).1 = (PySem.W.Fast.qFA27 116 (wg true w) os cp O k3 k4 k5).2 := fun w os cp O k3 k4 k5 => by kernel_rfl
theorem GA27 (w : World) (os : OsState) (cp : Value) (O : Obj) (k3 k4 k5 : KR) : Goes w (SD27 w.params os cp O 816) (outT w k3 k4 k5) (SA27 w.params os (.ofNat 128725) (.ofNat 17) cp O 821) (thr (csG 1 284) PQ (k0F k0 (inF (kg w) (kn w) (uf k3 k4 k5)))) 116 := by
  revert w; refine rows1 (fun b w => ?_); cases b
  · exact ⟨116, Nat.le_refl _, by have h := KA27_false w os cp O k3 k4 k5; rw [← PySem.W.Fast.qFA27_eq] at h; unfold FA27 at h; dsimp only at h; exact h⟩
  · exact ⟨116, Nat.le_refl _, by have h := KA27_true w os cp O k3 k4 k5; rw [← PySem.W.Fast.qFA27_eq] at h; unfold FA27 at h; dsimp only at h; exact h⟩
noncomputable def FS27 (n : Nat) (w : World) (os : OsState) (cp : Value) (O : Obj) (k3 k4 k5 : KR) : RT × RT := (goT n w (SA27 w.params os (.ofNat 128725) (.ofNat 17) cp O 821) (thr (csG 1 284) PQ (k0F k0 (inF (kg w) (kn w) (uf k3 k4 k5)))), some (SA27 w.params os (.ofNat 128725) (.ofNat 17) cp O 821, inT w PQ 284 k3 k4 k5))
theorem FS27_self : FS27 = FS27 := rfl
name_quick qFS27 for Mine.FS27 by Mine.FS27_self
theorem KS27_ff : ∀ (w : World) (os : OsState) cp O k3 k4 k5, (PySem.W.Fast.qFS27 12 (wf false false w) os cp O k3 k4 k5).1 = (PySem.W.Fast.qFS27 12 (wf false false w) os cp O k3 k4 k5).2 := fun w os cp O k3 k4 k5 => by kernel_rfl
theorem KS27_tf : ∀ (w : World) (os : OsState) cp O k3 k4 k5, (PySem.W.Fast.qFS27 12 (wf true false w) os cp O k3 k4 k5).1 = (PySem.W.Fast.qFS27 12 (wf true false w) os cp O k3 k4 k5).2 := fun w os cp O k3 k4 k5 => by kernel_rfl
theorem KS27_t : ∀ (w : World) (os : OsState) cp O k3 k4 k5, (PySem.W.Fast.qFS27 2 (w.withFollow "comprehension-iter-twice" true) os cp O k3 k4 k5).1 = (PySem.W.Fast.qFS27 2 (w.withFollow "comprehension-iter-twice" true) os cp O k3 k4 k5).2 := fun w os cp O k3 k4 k5 => by kernel_rfl
theorem GS27 (w : World) (os : OsState) (cp : Value) (O : Obj) (k3 k4 k5 : KR) : Goes w (SA27 w.params os (.ofNat 128725) (.ofNat 17) cp O 821) (thr (csG 1 284) PQ (k0F k0 (inF (kg w) (kn w) (uf k3 k4 k5)))) (SA27 w.params os (.ofNat 128725) (.ofNat 17) cp O 821) (inT w PQ 284 k3 k4 k5) 12 := by
  revert w; refine rows2 (fun b1 b2 w => ?_); cases b1 <;> cases b2
  · exact ⟨12, Nat.le_of_ble_eq_true rfl, by have h := KS27_ff w os cp O k3 k4 k5; rw [← PySem.W.Fast.qFS27_eq] at h; unfold FS27 at h; dsimp only at h; exact h⟩
  · exact ⟨2, Nat.le_of_ble_eq_true rfl, by have h := KS27_t (w.withFollow "special-get-raises" false) os cp O k3 k4 k5; rw [← PySem.W.Fast.qFS27_eq] at h; unfold FS27 at h; dsimp only at h; exact h⟩
  · exact ⟨12, Nat.le_of_ble_eq_true rfl, by have h := KS27_tf w os cp O k3 k4 k5; rw [← PySem.W.Fast.qFS27_eq] at h; unfold FS27 at h; dsimp only at h; exact h⟩
  · exact ⟨2, Nat.le_of_ble_eq_true rfl, by have h := KS27_t (w.withFollow "special-get-raises" true) os cp O k3 k4 k5; rw [← PySem.W.Fast.qFS27_eq] at h; unfold FS27 at h; dsimp only at h; exact h⟩
noncomputable def gI27 (w : World) (os : OsState) (c r tk : Nat) (cp : Value) (O : Obj) (k3 k4 k5 : KR) : Array GenState := gensOf (goT 26 w (SA27 w.params os (.ofNat c) (.ofNat (r + 1)) cp O tk) (inT w PQ 284 k3 k4 k5))
noncomputable def FI27 (n : Nat) (w : World) (os : OsState) (c r tk : Nat) (cp : Value) (O : Obj) (p : Pos) (k3 k4 k5 : KR) : RT × RT := (goT n w (SA27 w.params os (.ofNat c) (.ofNat (r + 1)) cp O tk) (inT w p 284 k3 k4 k5), some (⟨TA27 w.params (Int.ofNat c + Int.ofNat 1) (Int.ofNat (r + 1) - 1) (.int (.ofNat c) tk) O, 285, {}, gI27 w os c r tk cp O k3 k4 k5, {}, tk + 2, os⟩, addTh (.int (.ofNat c) tk) k3 k4 k5))
theorem FI27_self : FI27 = FI27 := rfl
name_quick qFI27 for Mine.FI27 by Mine.FI27_self
theorem KI27 : ∀ (w : World) (os : OsState) c r tk cp O p k3 k4 k5, (PySem.W.Fast.qFI27 26 (w) os c r tk cp O p k3 k4 k5).1 = (PySem.W.Fast.qFI27 26 (w) os c r tk cp O p k3 k4 k5).2 := fun w os c r tk cp O p k3 k4 k5 => by kernel_rfl
theorem GI27 (w : World) (os : OsState) (c r tk : Nat) (cp : Value) (O : Obj) (p : Pos) (k3 k4 k5 : KR) : Goes w (SA27 w.params os (.ofNat c) (.ofNat (r + 1)) cp O tk) (inT w p 284 k3 k4 k5) (⟨TA27 w.params (Int.ofNat c + Int.ofNat 1) (Int.ofNat (r + 1) - 1) (.int (.ofNat c) tk) O, 285, {}, gI27 w os c r tk cp O k3 k4 k5, {}, tk + 2, os⟩) (addTh (.int (.ofNat c) tk) k3 k4 k5) 26 := ⟨26, Nat.le_refl _, by have h := KI27 w os c r tk cp O p k3 k4 k5; rw [← PySem.W.Fast.qFI27_eq] at h; unfold FI27 at h; dsimp only at h; exact h⟩
noncomputable def FJ27 (n : Nat) (w : World) (os : OsState) (c r tk tk2 : Nat) (i j : Int) (cp cp2 : Value) (O O2 : Obj) (k3 k4 k5 : KR) : RT × RT := (goT n w (⟨TA27 w.params i j cp2 O2, 285, {}, gI27 w os c r tk cp O k3 k4 k5, {}, tk2, os⟩) (agTh k3 k4 k5), some (SA27 w.params os i j cp2 O2 tk2, inT w PR 284 k3 k4 k5))
theorem FJ27_self : FJ27 = FJ27 := rfl
name_quick qFJ27 for Mine.FJ27 by Mine.FJ27_self
theorem KJ27 : ∀ (w : World) (os : OsState) c r tk tk2 i j cp cp2 O O2 k3 k4 k5, (PySem.W.Fast.qFJ27 11 (w) os c r tk tk2 i j cp cp2 O O2 k3 k4 k5).1 = (PySem.W.Fast.qFJ27 11 (w) os c r tk tk2 i j cp cp2 O O2 k3 k4 k5).2 := fun w os c r tk tk2 i j cp cp2 O O2 k3 k4 k5 => by kernel_rfl
theorem GJ27 (w : World) (os : OsState) (c r tk tk2 : Nat) (i j : Int) (cp cp2 : Value) (O O2 : Obj) (k3 k4 k5 : KR) : Goes w (⟨TA27 w.params i j cp2 O2, 285, {}, gI27 w os c r tk cp O k3 k4 k5, {}, tk2, os⟩) (agTh k3 k4 k5) (SA27 w.params os i j cp2 O2 tk2) (inT w PR 284 k3 k4 k5) 11 := ⟨11, Nat.le_refl _, by have h := KJ27 w os c r tk tk2 i j cp cp2 O O2 k3 k4 k5; rw [← PySem.W.Fast.qFJ27_eq] at h; unfold FJ27 at h; dsimp only at h; exact h⟩
noncomputable def FE27 (n : Nat) (w : World) (os : OsState) (tk : Nat) (cp : Value) (O : Obj) (p : Pos) (k3 k4 k5 : KR) : RT × RT := (goT n w (SA27 w.params os (.ofNat 128742) (.ofNat 0) cp O tk) (inT w p 284 k3 k4 k5), some (SD28 w.params os cp O tk, outT w k3 k4 k5))
theorem FE27_self : FE27 = FE27 := rfl
name_quick qFE27 for Mine.FE27 by Mine.FE27_self
theorem KE27 : ∀ (w : World) (os : OsState) tk cp O p k3 k4 k5, (PySem.W.Fast.qFE27 16 (w) os tk cp O p k3 k4 k5).1 = (PySem.W.Fast.qFE27 16 (w) os tk cp O p k3 k4 k5).2 := fun w os tk cp O p k3 k4 k5 => by kernel_rfl
theorem GE27 (w : World) (os : OsState) (tk : Nat) (cp : Value) (O : Obj) (p : Pos) (k3 k4 k5 : KR) : Goes w (SA27 w.params os (.ofNat 128742) (.ofNat 0) cp O tk) (inT w p 284 k3 k4 k5) (SD28 w.params os cp O tk) (outT w k3 k4 k5) 16 := ⟨16, Nat.le_refl _, by have h := KE27 w os tk cp O p k3 k4 k5; rw [← PySem.W.Fast.qFE27_eq] at h; unfold FE27 at h; dsimp only at h; exact h⟩
noncomputable def FA28 (n : Nat) (w : World) (os : OsState) (cp : Value) (O : Obj) (k3 k4 k5 : KR) : RT × RT := (goT n w (SD28 w.params os cp O 872) (outT w k3 k4 k5), some (SA28 w.params os (.ofNat 129340) (.ofNat 10) cp O 877, thr (csG 1 291) PQ (k0F k0 (inF (kg w) (kn w) (uf k3 k4 k5)))))
theorem FA28_self : FA28 = FA28 := rfl
name_quick qFA28 for Mine.FA28 by Mine.FA28_self
theorem KA28_false : ∀ (w : World) (os : OsState) cp O k3 k4 k5, (PySem.W.Fast.qFA28 116 (wg false w) os cp O k3 k4 k5).1 = (PySem.W.Fast.qFA28 116 (wg false w) os cp O k3 k4 k5).2 := fun w os cp O k3 k4 k5 => by kernel_rfl
theorem KA28_true : ∀ (w : World) (os : OsState) cp O k3 k4 k5, (PySem.W.Fast.qFA28 116 (wg true w) os cp O k3 k4 k5).1 = (PySem.W.Fast.qFA28 116 (wg true w) os cp O k3 k4 k5).2 := fun w os cp O k3 k4 k5 => by kernel_rfl
theorem GA28 (w : World) (os : OsState) (cp : Value) (O : Obj) (k3 k4 k5 : KR) : Goes w (SD28 w.params os cp O 872) (outT w k3 k4 k5) (SA28 w.params os (.ofNat 129340) (.ofNat 10) cp O 877) (thr (csG 1 291) PQ (k0F k0 (inF (kg w) (kn w) (uf k3 k4 k5)))) 116 := by
  revert w; refine rows1 (fun b w => ?_); cases b
  · exact ⟨116, Nat.le_refl _, by have h := KA28_false w os cp O k3 k4 k5; rw [← PySem.W.Fast.qFA28_eq] at h; unfold FA28 at h; dsimp only at h; exact h⟩
  · exact ⟨116, Nat.le_refl _, by have h := KA28_true w os cp O k3 k4 k5; rw [← PySem.W.Fast.qFA28_eq] at h; unfold FA28 at h; dsimp only at h; exact h⟩
noncomputable def FS28 (n : Nat) (w : World) (os : OsState) (cp : Value) (O : Obj) (k3 k4 k5 : KR) : RT × RT := (goT n w (SA28 w.params os (.ofNat 129340) (.ofNat 10) cp O 877) (thr (csG 1 291) PQ (k0F k0 (inF (kg w) (kn w) (uf k3 k4 k5)))), some (SA28 w.params os (.ofNat 129340) (.ofNat 10) cp O 877, inT w PQ 291 k3 k4 k5))
theorem FS28_self : FS28 = FS28 := rfl
name_quick qFS28 for Mine.FS28 by Mine.FS28_self
theorem KS28_ff : ∀ (w : World) (os : OsState) cp O k3 k4 k5, (PySem.W.Fast.qFS28 12 (wf false false w) os cp O k3 k4 k5).1 = (PySem.W.Fast.qFS28 12 (wf false false w) os cp O k3 k4 k5).2 := fun w os cp O k3 k4 k5 => by kernel_rfl
theorem KS28_tf : ∀ (w : World) (os : OsState) cp O k3 k4 k5, (PySem.W.Fast.qFS28 12 (wf true false w) os cp O k3 k4 k5).1 = (PySem.W.Fast.qFS28 12 (wf true false w) os cp O k3 k4 k5).2 := fun w os cp O k3 k4 k5 => by kernel_rfl
theorem KS28_t : ∀ (w : World) (os : OsState) cp O k3 k4 k5, (PySem.W.Fast.qFS28 2 (w.withFollow "comprehension-iter-twice" true) os cp O k3 k4 k5).1 = (PySem.W.Fast.qFS28 2 (w.withFollow "comprehension-iter-twice" true) os cp O k3 k4 k5).2 := fun w os cp O k3 k4 k5 => by kernel_rfl
theorem GS28 (w : World) (os : OsState) (cp : Value) (O : Obj) (k3 k4 k5 : KR) : Goes w (SA28 w.params os (.ofNat 129340) (.ofNat 10) cp O 877) (thr (csG 1 291) PQ (k0F k0 (inF (kg w) (kn w) (uf k3 k4 k5)))) (SA28 w.params os (.ofNat 129340) (.ofNat 10) cp O 877) (inT w PQ 291 k3 k4 k5) 12 := by
  revert w; refine rows2 (fun b1 b2 w => ?_); cases b1 <;> cases b2
  · exact ⟨12, Nat.le_of_ble_eq_true rfl, by have h := KS28_ff w os cp O k3 k4 k5; rw [← PySem.W.Fast.qFS28_eq] at h; unfold FS28 at h; dsimp only at h; exact h⟩
  · exact ⟨2, Nat.le_of_ble_eq_true rfl, by have h := KS28_t (w.withFollow "special-get-raises" false) os cp O k3 k4 k5; rw [← PySem.W.Fast.qFS28_eq] at h; unfold FS28 at h; dsimp only at h; exact h⟩
  · exact ⟨12, Nat.le_of_ble_eq_true rfl, by have h := KS28_tf w os cp O k3 k4 k5; rw [← PySem.W.Fast.qFS28_eq] at h; unfold FS28 at h; dsimp only at h; exact h⟩
  · exact ⟨2, Nat.le_of_ble_eq_true rfl, by have h := KS28_t (w.withFollow "special-get-raises" true) os cp O k3 k4 k5; rw [← PySem.W.Fast.qFS28_eq] at h; unfold FS28 at h; dsimp only at h; exact h⟩
noncomputable def gI28 (w : World) (os : OsState) (c r tk : Nat) (cp : Value) (O : Obj) (k3 k4 k5 : KR) : Array GenState := gensOf (goT 26 w (SA28 w.params os (.ofNat c) (.ofNat (r + 1)) cp O tk) (inT w PQ 291 k3 k4 k5))
noncomputable def FI28 (n : Nat) (w : World) (os : OsState) (c r tk : Nat) (cp : Value) (O : Obj) (p : Pos) (k3 k4 k5 : KR) : RT × RT := (goT n w (SA28 w.params os (.ofNat c) (.ofNat (r + 1)) cp O tk) (inT w p 291 k3 k4 k5), some (⟨TA28 w.params (Int.ofNat c + Int.ofNat 1) (Int.ofNat (r + 1) - 1) (.int (.ofNat c) tk) O, 292, {}, gI28 w os c r tk cp O k3 k4 k5, {}, tk + 2, os⟩, addTh (.int (.ofNat c) tk) k3 k4 k5))
theorem FI28_self : FI28 = FI28 := rfl
name_quick qFI28 for Mine.FI28 by Mine.FI28_self
theorem KI28 : ∀ (w : World) (os : OsState) c r tk cp O p k3 k4 k5, (PySem.W.Fast.qFI28 26 (w) os c r tk cp O p k3 k4 k5).1 = (PySem.W.Fast.qFI28 26 (w) os c r tk cp O p k3 k4 k5).2 := fun w os c r tk cp O p k3 k4 k5 => by kernel_rfl
theorem GI28 (w : World) (os : OsState) (c r tk : Nat) (cp : Value) (O : Obj) (p : Pos) (k3 k4 k5 : KR) : Goes w (SA28 w.params os (.ofNat c) (.ofNat (r + 1)) cp O tk) (inT w p 291 k3 k4 k5) (⟨TA28 w.params (Int.ofNat c + Int.ofNat 1) (Int.ofNat (r + 1) - 1) (.int (.ofNat c) tk) O, 292, {}, gI28 w os c r tk cp O k3 k4 k5, {}, tk + 2, os⟩) (addTh (.int (.ofNat c) tk) k3 k4 k5) 26 := ⟨26, Nat.le_refl _, by have h := KI28 w os c r tk cp O p k3 k4 k5; rw [← PySem.W.Fast.qFI28_eq] at h; unfold FI28 at h; dsimp only at h; exact h⟩
noncomputable def FJ28 (n : Nat) (w : World) (os : OsState) (c r tk tk2 : Nat) (i j : Int) (cp cp2 : Value) (O O2 : Obj) (k3 k4 k5 : KR) : RT × RT := (goT n w (⟨TA28 w.params i j cp2 O2, 292, {}, gI28 w os c r tk cp O k3 k4 k5, {}, tk2, os⟩) (agTh k3 k4 k5), some (SA28 w.params os i j cp2 O2 tk2, inT w PR 291 k3 k4 k5))
theorem FJ28_self : FJ28 = FJ28 := rfl
name_quick qFJ28 for Mine.FJ28 by Mine.FJ28_self
theorem KJ28 : ∀ (w : World) (os : OsState) c r tk tk2 i j cp cp2 O O2 k3 k4 k5, (PySem.W.Fast.qFJ28 11 (w) os c r tk tk2 i j cp cp2 O O2 k3 k4 k5).1 = (PySem.W.Fast.qFJ28 11 (w) os c r tk tk2 i j cp cp2 O O2 k3 k4 k5).2 := fun w os c r tk tk2 i j cp cp2 O O2 k3 k4 k5 => by kernel_rfl
theorem GJ28 (w : World) (os : OsState) (c r tk tk2 : Nat) (i j : Int) (cp cp2 : Value) (O O2 : Obj) (k3 k4 k5 : KR) : Goes w (⟨TA28 w.params i j cp2 O2, 292, {}, gI28 w os c r tk cp O k3 k4 k5, {}, tk2, os⟩) (agTh k3 k4 k5) (SA28 w.params os i j cp2 O2 tk2) (inT w PR 291 k3 k4 k5) 11 := ⟨11, Nat.le_refl _, by have h := KJ28 w os c r tk tk2 i j cp cp2 O O2 k3 k4 k5; rw [← PySem.W.Fast.qFJ28_eq] at h; unfold FJ28 at h; dsimp only at h; exact h⟩
noncomputable def FE28 (n : Nat) (w : World) (os : OsState) (tk : Nat) (cp : Value) (O : Obj) (p : Pos) (k3 k4 k5 : KR) : RT × RT := (goT n w (SA28 w.params os (.ofNat 129350) (.ofNat 0) cp O tk) (inT w p 291 k3 k4 k5), some (SD29 w.params os cp O tk, outT w k3 k4 k5))
theorem FE28_self : FE28 = FE28 := rfl
name_quick qFE28 for Mine.FE28 by Mine.FE28_self
theorem KE28 : ∀ (w : World) (os : OsState) tk cp O p k3 k4 k5, (PySem.W.Fast.qFE28 16 (w) os tk cp O p k3 k4 k5).1 = (PySem.W.Fast.qFE28 16 (w) os tk cp O p k3 k4 k5).2 := fun w os tk cp O p k3 k4 k5 => by kernel_rfl
theorem GE28 (w : World) (os : OsState) (tk : Nat) (cp : Value) (O : Obj) (p : Pos) (k3 k4 k5 : KR) : Goes w (SA28 w.params os (.ofNat 129350) (.ofNat 0) cp O tk) (inT w p 291 k3 k4 k5) (SD29 w.params os cp O tk) (outT w k3 k4 k5) 16 := ⟨16, Nat.le_refl _, by have h := KE28 w os tk cp O p k3 k4 k5; rw [← PySem.W.Fast.qFE28_eq] at h; unfold FE28 at h; dsimp only at h; exact h⟩
end Mine
end
section
open PySem PySem.W PyProof.Rows
set_option maxRecDepth 100000
set_option maxHeartbeats 400000
set_option linter.unusedVariables false
namespace Mine
theorem Goes.refl (w : World) (s : SharedT) (t : Thread) : Goes w s t s t 0 := ⟨0, Nat.le_refl _, rfl⟩
theorem Goes.trans {w : World} {s s' s'' : SharedT} {t t' t'' : Thread} {N M : Nat} (a : Goes w s t s' t' N) (b : Goes w s' t' s'' t'' M) : Goes w s t s'' t'' (N + M) := by
  obtain ⟨n, hn, a⟩ := a
  obtain ⟨m, hm, b⟩ := b
  refine ⟨n + m, Nat.add_le_add hn hm, ?_⟩
  clear hn
  induction n generalizing s t with
  | zero =>
    simp only [goT, segGoT, Option.some.injEq, Prod.mk.injEq] at a
    obtain ⟨rfl, rfl⟩ := a
    rw [Nat.zero_add]; exact b
  | succ n ih =>
    rw [show n + 1 + m = (n + m) + 1 by omega]
    unfold goT segGoT at a ⊢
    cases he : endAt 1 t with
    | some f => rw [he] at a; cases a
    | none =>
      rw [he] at a
      cases hk : stepOk 11 (some (.ref 6)) t with
      | false => rw [hk] at a; cases a
      | true =>
        rw [hk] at a
        cases hs : stepT (denote treeTable) pw w s t with
        | none => rw [hs] at a; cases a
        | some r => obtain ⟨s₂, t₂⟩ := r; rw [hs] at a; exact ih a
theorem Goes.le {w : World} {s s' : SharedT} {t t' : Thread} {N M : Nat} (a : Goes w s t s' t' N) (h : N ≤ M) : Goes w s t s' t' M := let ⟨n, hn, e⟩ := a; ⟨n, Nat.le_trans hn h, e⟩
/-- one step -/
theorem Goes.one {w : World} {s s' : SharedT} {t t' : Thread} (he : endAt 1 t = none) (hk : stepOk 11 (some (.ref 6)) t = true) (hs : stepT (denote treeTable) pw w s t = some (s', t')) : Goes w s t s' t' 1 :=
  ⟨1, Nat.le_refl _, by unfold goT segGoT; rw [he, hk, hs]; rfl⟩

/-- a tree without calls, run at once: its value, the state behind it, at most so many steps -/
noncomputable def runC (w : World) {α : Type} : Sem α → SharedT → Option (Nat × α × SharedT)
  | .pure a, s => some (0, a, s)
  | .rule _ k, s => (runC w (k ()) s).map fun r => (r.1 + 1, r.2)
  | .point _ k, s => (runC w (k ()) s).map fun r => (r.1 + 1, r.2)
  | .ask k, s => (runC w (k ⟨pw, w.params⟩) s).map fun r => (r.1 + 1, r.2)
  | .fresh k, s => (runC w (k s.toks) { s with toks := s.toks + 1 }).map fun r => (r.1 + 1, r.2)
  | .load a _ k, s => match Nat.blt a s.n with
    | true => match s.tree.get a with
      | some o => match alive o with
        | some o' => (runC w (k o') s).map fun r => (r.1 + 1, r.2)
        | none => none
      | none => none
    | false => none
  | .update a _ f k, s => match Nat.ble 11 a && Nat.blt a s.n with
    | true => match s.tree.get a with
      | some o => match alive o with
        | some _ => (runC w (k ()) { s with tree := s.tree.set a f }).map fun r => (r.1 + 1, r.2)
        | none => none
      | none => none
    | false => none
  | .alloc o k, s => match ((s.tree.ins s.n o).get s.n).isSome with
    | true => (runC w (k s.n) { s with tree := s.tree.ins s.n o, n := s.n + 1 }).map fun r => (r.1 + 1, r.2)
    | false => none
  | _, _ => none

theorem endAt_none {c : Sem PySem.Fin} {cd : Code} {p : Pos} {st : List Frame} (h : ∀ f, c ≠ .pure (.done f)) : endAt 1 ⟨c, cd, p, st⟩ = none := by
  unfold endAt
  split
  · rename_i f _ e; exact absurd e (h f)
  · rfl
theorem runC_go {w : World} {α : Type} (m : Sem α) : ∀ {s s' : SharedT} {n : Nat} {a : α}, runC w m s = some (n, a, s') → ∀ (K : α → Sem PySem.Fin) (H : Value → Sem PySem.Fin) (gd : Bool → Bool) (lv : List Value → List Value) (c : Code) (p : Pos) (st : List Frame),
    Goes w s ⟨m.wrap K H gd lv, c, p, st⟩ s' ⟨K a, c, p, st⟩ n := by
  induction m with
  | pure a => intro s s' n b h K H gd lv c p st; cases h; exact Goes.refl ..
  | rule t k ih =>
    intro s s' n a h K H gd lv c p st
    obtain ⟨⟨n', a', s''⟩, h1, h2⟩ := Option.map_eq_some_iff.mp h
    cases h2
    rw [Nat.add_comm]
    exact (Goes.one (endAt_none (by intro f e; cases e)) rfl (by rfl)).trans (ih () h1 K H gd lv c p st)
  | point l k ih =>
    intro s s' n a h K H gd lv c p st
    obtain ⟨⟨n', a', s''⟩, h1, h2⟩ := Option.map_eq_some_iff.mp h
    cases h2
    rw [Nat.add_comm]
    exact (Goes.one (endAt_none (by intro f e; cases e)) rfl (by rfl)).trans (ih () h1 K H gd lv c p st)
  | ask k ih =>
    intro s s' n a h K H gd lv c p st
    obtain ⟨⟨n', a', s''⟩, h1, h2⟩ := Option.map_eq_some_iff.mp h
    cases h2
    rw [Nat.add_comm]
    exact (Goes.one (endAt_none (by intro f e; cases e)) rfl (by rfl)).trans (ih _ h1 K H gd lv c p st)
  | fresh k ih =>
    intro s s' n a h K H gd lv c p st
    obtain ⟨⟨n', a', s''⟩, h1, h2⟩ := Option.map_eq_some_iff.mp h
    cases h2
    rw [Nat.add_comm]
    exact (Goes.one (endAt_none (by intro f e; cases e)) rfl (by rfl)).trans (ih _ h1 K H gd lv c p st)
  | load a q k ih =>
    intro s s' n b h K H gd lv c p st
    unfold runC at h
    split at h
    · rename_i h0
      split at h
      · rename_i o ho
        split at h
        · rename_i o' ha
          obtain ⟨⟨n', a', s''⟩, h1, h2⟩ := Option.map_eq_some_iff.mp h
          cases h2
          rw [Nat.add_comm]
          refine (Goes.one (endAt_none (by intro f e; cases e)) rfl ?_).trans (ih _ h1 K H gd lv c p st)
          obtain ⟨T, n, life, gens, drawn, toks, os⟩ := s
          simp only [Sem.wrap, stepT, h0, ho, ha]
        · cases h
      · cases h
    · cases h
  | update a q f k ih =>
    intro s s' n b h K H gd lv c p st
    unfold runC at h
    split at h
    · rename_i h0
      split at h
      · rename_i o ho
        split at h
        · rename_i o' ha
          obtain ⟨⟨n', a', s''⟩, h1, h2⟩ := Option.map_eq_some_iff.mp h
          cases h2
          rw [Nat.add_comm]
          obtain ⟨h0, h3⟩ := Bool.and_eq_true_iff.mp h0
          refine (Goes.one (endAt_none (by intro f e; cases e)) ?_ ?_).trans (ih _ h1 K H gd lv c p st)
          · simp only [Sem.wrap, stepOk, h0, Bool.true_or, Bool.and_true]; rfl
          · obtain ⟨T, n, life, gens, drawn, toks, os⟩ := s
            simp only [Sem.wrap, stepT, h3, ho, ha]
        · cases h
      · cases h
    · cases h
  | alloc o k ih =>
    intro s s' n b h K H gd lv c p st
    unfold runC at h
    split at h
    · rename_i h0
      obtain ⟨⟨n', a', s''⟩, h1, h2⟩ := Option.map_eq_some_iff.mp h
      cases h2
      rw [Nat.add_comm]
      refine (Goes.one (endAt_none (by intro f e; cases e)) rfl ?_).trans (ih _ h1 K H gd lv c p st)
      obtain ⟨T, n, life, gens, drawn, toks, os⟩ := s
      simp only [Sem.wrap, stepT, h0]
    · cases h
  | _ => intro s s' n a h; cases h

theorem runC_bind {w : World} {α β : Type} (m : Sem α) (f : α → Sem β) : ∀ {s s' s'' : SharedT} {n n' : Nat} {a : α} {b : β}, runC w m s = some (n, a, s') → runC w (f a) s' = some (n', b, s'') → runC w (m.bind f) s = some (n + n', b, s'') := by
  induction m with
  | pure a => intro s s' s'' n n' a' b h h'; cases h; rw [Nat.zero_add]; exact h'
  | rule t k ih | point t k ih =>
    intro s s' s'' n n' a b h h'
    obtain ⟨⟨m', a', s₂⟩, h1, h2⟩ := Option.map_eq_some_iff.mp h
    cases h2
    show (runC w ((k ()).bind f) s).map _ = _
    rw [ih () h1 h']
    simp only [Option.map_some, Option.some.injEq, Prod.mk.injEq, and_true]
    omega
  | ask k ih | fresh k ih =>
    intro s s' s'' n n' a b h h'
    obtain ⟨⟨m', a', s₂⟩, h1, h2⟩ := Option.map_eq_some_iff.mp h
    cases h2
    show Option.map _ (runC w ((k _).bind f) _) = _
    rw [ih _ h1 h']
    simp only [Option.map_some, Option.some.injEq, Prod.mk.injEq, and_true]
    omega
  | load a q k ih =>
    intro s s' s'' n n' b c h h'
    unfold runC at h
    show runC w (.load a q fun x => (k x).bind f) s = _
    unfold runC
    split at h
    · rename_i h0
      split at h
      · rename_i o ho
        split at h
        · rename_i o' ha
          obtain ⟨⟨m', a', s₂⟩, h1, h2⟩ := Option.map_eq_some_iff.mp h
          cases h2
          simp only [h0, ho, ha]
          rw [ih _ h1 h']
          simp only [Option.map_some, Option.some.injEq, Prod.mk.injEq, and_true]
          omega
        · cases h
      · cases h
    · cases h
  | update a q g k ih =>
    intro s s' s'' n n' b c h h'
    unfold runC at h
    show runC w (.update a q g fun x => (k x).bind f) s = _
    unfold runC
    split at h
    · rename_i h0
      split at h
      · rename_i o ho
        split at h
        · rename_i o' ha
          obtain ⟨⟨m', a', s₂⟩, h1, h2⟩ := Option.map_eq_some_iff.mp h
          cases h2
          simp only [h0, ho, ha]
          rw [ih _ h1 h']
          simp only [Option.map_some, Option.some.injEq, Prod.mk.injEq, and_true]
          omega
        · cases h
      · cases h
    · cases h
  | alloc o k ih =>
    intro s s' s'' n n' b c h h'
    unfold runC at h
    show runC w (.alloc o fun x => (k x).bind f) s = _
    unfold runC
    split at h
    · rename_i h0
      obtain ⟨⟨m', a', s₂⟩, h1, h2⟩ := Option.map_eq_some_iff.mp h
      cases h2
      simp only [h0]
      rw [ih _ h1 h']
      simp only [Option.map_some, Option.some.injEq, Prod.mk.injEq, and_true]
      omega
    · cases h
  | _ => intro s s' s'' n n' a b h; cases h
end Mine
end
section
open PySem PySem.W PyProof.Rows
set_option maxRecDepth 100000
set_option maxHeartbeats 400000
set_option linter.unusedVariables false
namespace Mine
noncomputable def hxOf (x : Int) : Int :=
  (if (if x < 0 then -((x.natAbs : Int) % ((2 ^ 61 - 1 : Nat) : Int)) else (x.natAbs : Int) % ((2 ^ 61 - 1 : Nat) : Int)) == -1 then -2 else (if x < 0 then -((x.natAbs : Int) % ((2 ^ 61 - 1 : Nat) : Int)) else (x.natAbs : Int) % ((2 ^ 61 - 1 : Nat) : Int)))
theorem hash_den (i : Int) (t : Tok) : denote treeTable (.builtin "int.__hash__" ⟨[.int i t], []⟩) = .fresh fun k => .pure (.done (.ret (.int (hxOf i) k))) := by
  have e : denote treeTable (.builtin "int.__hash__" ⟨[.int i t], []⟩) = Builtin.«int.__hash__» ⟨[.int i t], []⟩ := by
    have h : entryFor treeTable "int.__hash__" = some Builtin.«int.__hash__» := by kernel_rfl
    simp only [denote, h]
  rw [e]
  rfl
noncomputable def hashC (x : Value) : Code := .builtin "int.__hash__" ⟨[x], []⟩
noncomputable def khOf (b : Bool) (w : World) (T : BT) (n : Nat) (L : Life) (g : Array GenState) (d : Drawn) (k : Nat) (os : OsState) (x : Value) : KR := kRet 0 (stackOf (goT 3 (wg b w) ⟨T, n, L, g, d, k, os⟩ (addTh x kD kD kD)))
noncomputable def hashF (kh : KR) (x : Value) (st : List Frame) : List Frame := .ret kh none false [] loopC PP [.builtin "int.__hash__", x, .builtin "int.__hash__", x] :: st
noncomputable def FH (b : Bool) (w : World) (T : BT) (n : Nat) (L : Life) (g : Array GenState) (d : Drawn) (k : Nat) (os : OsState) (i : Int) (tk : Nat) (k3 k4 k5 : KR) : RT × RT :=
  (goT 3 (wg b w) ⟨T, n, L, g, d, k, os⟩ (addTh (.int i tk) k3 k4 k5), some (⟨T, n, L, g, d, k, os⟩, thr (hashC (.int i tk)) PP (hashF (khOf b w T n L g d k os (.int i tk)) (.int i tk) (uf k3 k4 k5))))
theorem FH_self : FH = FH := rfl
name_quick qFH for Mine.FH by Mine.FH_self
theorem KH_f : ∀ (w : World) T n L g d k os i tk k3 k4 k5, (PySem.W.Fast.qFH false w T n L g d k os i tk k3 k4 k5).1 = (PySem.W.Fast.qFH false w T n L g d k os i tk k3 k4 k5).2 := fun w T n L g d k os i tk k3 k4 k5 => by kernel_rfl
theorem KH_t : ∀ (w : World) T n L g d k os i tk k3 k4 k5, (PySem.W.Fast.qFH true w T n L g d k os i tk k3 k4 k5).1 = (PySem.W.Fast.qFH true w T n L g d k os i tk k3 k4 k5).2 := fun w T n L g d k os i tk k3 k4 k5 => by kernel_rfl
noncomputable def redT (x : Value) (i : Int) : Sem PySem.Fin := ((pyHashByItsType.reduced i).bind fun h => setAddHashed 97 x h).bind fun _ => (again loopC : Sem PySem.Fin)
noncomputable def FR (b : Bool) (w : World) (T : BT) (n : Nat) (L : Life) (g : Array GenState) (d : Drawn) (k : Nat) (os : OsState) (i j : Int) (tk tk2 : Nat) : Sem PySem.Fin × Sem PySem.Fin :=
  (khOf b w T n L g d k os (.int i tk) (.ok (.ret (.int j tk2))), redT (.int i tk) j)
theorem FR_self : FR = FR := rfl
name_quick qFR for Mine.FR by Mine.FR_self
theorem KR_f : ∀ (w : World) T n L g d k os i j tk tk2, (PySem.W.Fast.qFR false w T n L g d k os i j tk tk2).1 = (PySem.W.Fast.qFR false w T n L g d k os i j tk tk2).2 := fun w T n L g d k os i j tk tk2 => by kernel_rfl
theorem KR_t : ∀ (w : World) T n L g d k os i j tk tk2, (PySem.W.Fast.qFR true w T n L g d k os i j tk tk2).1 = (PySem.W.Fast.qFR true w T n L g d k os i j tk tk2).2 := fun w T n L g d k os i j tk tk2 => by kernel_rfl

theorem hxOf_small {c : Nat} (h : c < 2 ^ 60) : hxOf (.ofNat c) = .ofNat c := by
  unfold hxOf
  have e : ((Int.ofNat c).natAbs : Int) % ((2 ^ 61 - 1 : Nat) : Int) = (c : Int) := by
    rw [Int.natAbs_ofNat']
    exact Int.emod_eq_of_lt (by omega) (by omega)
  rw [e]
  have h1 : ¬ (Int.ofNat c < 0) := by simp
  have h2 : ((c : Int) == -1) = false := by rw [beq_eq_false_iff_ne]; omega
  rw [if_neg h1, h2]; rfl
theorem reduced_small {c : Nat} (h : c < 2 ^ 60) : pyHashByItsType.reduced (.ofNat c) = pure (.ofNat c) := by
  unfold pyHashByItsType.reduced
  have h1 : (decide (-(2 ^ 63 : Int) ≤ Int.ofNat c) && decide (Int.ofNat c < 2 ^ 63)) = true := by
    rw [Bool.and_eq_true, decide_eq_true_eq, decide_eq_true_eq]
    constructor <;> simp only [Int.ofNat_eq_natCast] <;> omega
  have h2 : ((Int.ofNat c) == -1) = false := by rw [beq_eq_false_iff_ne]; simp only [Int.ofNat_eq_natCast, ne_eq]; omega
  rw [h1, h2]
  rfl
noncomputable def putT (c tk : Nat) : Sem PySem.Fin := (setAddHashed 97 (.int (.ofNat c) tk) (.ofNat c)).bind fun _ => (again loopC : Sem PySem.Fin)
theorem redT_small {c tk : Nat} (h : c < 2 ^ 60) : redT (.int (.ofNat c) tk) (.ofNat c) = putT c tk := by
  unfold redT putT
  rw [reduced_small h]
  rfl
/-- the hash of the element: from the loop's add to the set's own add -/
theorem GH (w : World) (T : BT) (n : Nat) (L : Life) (g : Array GenState) (d : Drawn) (k : Nat) (os : OsState) (c tk : Nat) (k3 k4 k5 : KR) (hc : c < 2 ^ 60) :
    Goes w ⟨T, n, L, g, d, k, os⟩ (addTh (.int (.ofNat c) tk) k3 k4 k5) ⟨T, n, L, g, d, k + 1, os⟩ ⟨putT c tk, loopC, PP, uf k3 k4 k5⟩ 5 := by
  have key : ∀ (kh : KR) (w : World), Goes w ⟨T, n, L, g, d, k, os⟩ (thr (hashC (.int (.ofNat c) tk)) PP (hashF kh (.int (.ofNat c) tk) (uf k3 k4 k5))) ⟨T, n, L, g, d, k + 1, os⟩ ⟨kh (.ok (.ret (.int (.ofNat c) k))), loopC, PP, uf k3 k4 k5⟩ (1 + 1) := by
    intro kh w
    unfold thr hashC
    rw [hash_den, hxOf_small hc]
    exact (Goes.one (s' := ⟨T, n, L, g, d, k + 1, os⟩) (t' := ⟨.pure (.done (.ret (.int (.ofNat c) k))), hashC (.int (.ofNat c) tk), PP, hashF kh (.int (.ofNat c) tk) (uf k3 k4 k5)⟩) (endAt_none (by intro f e; cases e)) rfl rfl).trans
      (Goes.one (by unfold hashF uf; rfl) rfl rfl)
  revert w; refine rows1 (fun b w => ?_); cases b
  · have h := KH_f w T n L g d k os (.ofNat c) tk k3 k4 k5
    rw [← PySem.W.Fast.qFH_eq] at h; unfold FH at h; dsimp only at h
    have r := KR_f w T n L g d k os (.ofNat c) (.ofNat c) tk k
    rw [← PySem.W.Fast.qFR_eq] at r; unfold FR at r; dsimp only at r
    have q := Goes.trans ⟨3, Nat.le_refl _, h⟩ (key _ _)
    rw [r, redT_small hc] at q
    exact q
  · have h := KH_t w T n L g d k os (.ofNat c) tk k3 k4 k5
    rw [← PySem.W.Fast.qFH_eq] at h; unfold FH at h; dsimp only at h
    have r := KR_t w T n L g d k os (.ofNat c) (.ofNat c) tk k
    rw [← PySem.W.Fast.qFR_eq] at r; unfold FR at r; dsimp only at r
    have q := Goes.trans ⟨3, Nat.le_refl _, h⟩ (key _ _)
    rw [r, redT_small hc] at q
    exact q
end Mine
end
section
open PySem PySem.W PyProof.Rows
set_option maxRecDepth 100000
set_option maxHeartbeats 400000
set_option linter.unusedVariables false
namespace Mine
/-- a call-free tree comes through: its value and end, in at most N steps -/
def RC (w : World) {α : Type} (m : Sem α) (s : SharedT) (a : α) (s' : SharedT) (N : Nat) : Prop := ∃ n, n ≤ N ∧ runC w m s = some (n, a, s')
theorem RC.pure {w : World} {α : Type} {a : α} {s : SharedT} : RC w (Pure.pure a : Sem α) s a s 0 := ⟨0, Nat.le_refl _, rfl⟩
theorem RC.bind {w : World} {α β : Type} {m : Sem α} {f : α → Sem β} {s s' s'' : SharedT} {a : α} {b : β} {N M : Nat} (h : RC w m s a s' N) (h' : RC w (f a) s' b s'' M) : RC w (m >>= f) s b s'' (N + M) :=
  let ⟨n, hn, e⟩ := h
  let ⟨n', hn', e'⟩ := h'
  ⟨n + n', Nat.add_le_add hn hn', runC_bind m f e e'⟩
theorem RC.le {w : World} {α : Type} {m : Sem α} {s s' : SharedT} {a : α} {N M : Nat} (h : RC w m s a s' N) (l : N ≤ M) : RC w m s a s' M := let ⟨n, hn, e⟩ := h; ⟨n, Nat.le_trans hn l, e⟩
theorem RC.goes {w : World} {α : Type} {m : Sem α} {s s' : SharedT} {a : α} {N : Nat} (h : RC w m s a s' N) (K : α → Sem PySem.Fin) (c : Code) (p : Pos) (st : List Frame) : Goes w s ⟨m.bind K, c, p, st⟩ s' ⟨K a, c, p, st⟩ N := by
  obtain ⟨n, hn, e⟩ := h
  rw [Sem.bind_eq_wrap]
  exact (runC_go m e K .raise id id c p st).le hn
theorem RC.rule {w : World} {t : String} {s : SharedT} : RC w (PySem.rule t) s () s 1 := ⟨1, Nat.le_refl _, rfl⟩
theorem RC.ask {w : World} {s : SharedT} : RC w PySem.ask s ⟨pw, w.params⟩ s 1 := ⟨1, Nat.le_refl _, rfl⟩
theorem RC.load {w : World} {s : SharedT} {a : Addr} {o : Obj} (hn : Nat.blt a s.n = true) (ho : s.tree.get a = some o) (hf : alive o = some o) : RC w (PySem.load a) s o s 1 :=
  ⟨1, Nat.le_refl _, by simp only [PySem.load, runC, hn, ho, hf, Option.map_some]⟩
theorem RC.update {w : World} {s : SharedT} {a : Addr} {o : Obj} {f : Obj → Obj} (h0 : Nat.ble 11 a = true) (hn : Nat.blt a s.n = true) (ho : s.tree.get a = some o) (hf : alive o = some o) : RC w (PySem.update a f) s () { s with tree := s.tree.set a f } 1 :=
  ⟨1, Nat.le_refl _, by simp only [PySem.update, runC, h0, hn, ho, hf, Bool.and_self, Option.map_some]⟩
theorem RC.alloc {w : World} {s : SharedT} {o : Obj} (h : ((s.tree.ins s.n o).get s.n).isSome = true) : RC w (PySem.alloc o) s s.n { s with tree := s.tree.ins s.n o, n := s.n + 1 } 1 :=
  ⟨1, Nat.le_refl _, by simp only [PySem.alloc, runC, h, Option.map_some]⟩

-- the sets
abbrev SetD := Array (Int × Value) × Nat × SetTable
def setO (d : SetD) : Obj := ⟨.type "frozenset", none, .set d.1 d.2.1 d.2.2, ⟨[]⟩⟩
theorem setO_alive (d : SetD) : alive (setO d) = some (setO d) := rfl
theorem setO_put (d : SetD) (es : Array (Int × Value)) (t : SetTable) : Obj.putSet es t (setO d) = setO (es, d.2.1 + 1, t) := rfl
def setState_ok (d : SetD) : Prop := d.2.2.fits d.1.size = true
theorem RC.setState {w : World} {s : SharedT} {a : Addr} {d : SetD} (hn : Nat.blt a s.n = true) (ho : s.tree.get a = some (setO d)) (hf : d.2.2.fits d.1.size = true) : RC w (setState a) s (d.1, d.2.1, d.2.2) s 1 := by
  unfold PySem.setState
  refine (RC.bind (RC.load hn ho rfl) (N := 1) (M := 0) ?_)
  show RC w (if (d.2.2.place.size != d.1.size || decide (d.2.2.fill > d.2.2.mask)) = true then _ else _) _ _ _ _
  have hc : (d.2.2.place.size != d.1.size || decide (d.2.2.fill > d.2.2.mask)) = false := by
    simp only [SetTable.fits, Bool.and_eq_true, beq_iff_eq, decide_eq_true_eq] at hf
    simp [hf.1, Nat.not_lt.mpr hf.2]
  rw [if_neg (by rw [hc]; exact Bool.false_ne_true)]
  exact RC.pure
theorem RC.storeSet {w : World} {s : SharedT} {a : Addr} {d : SetD} {es : Array (Int × Value)} {t : SetTable} (h0 : Nat.ble 11 a = true) (hn : Nat.blt a s.n = true) (ho : s.tree.get a = some (setO d)) (hz : es.size ≤ 1000) :
    RC w (storeSet a es t) s () { s with tree := s.tree.set a (Obj.putSet es t) } 2 := by
  unfold PySem.storeSet
  refine (RC.bind (RC.load hn ho rfl) (N := 1) (M := 1) ?_)
  show RC w (if es.size > sizeLine then _ else _) _ _ _ _
  rw [if_neg (by unfold sizeLine; omega)]
  exact RC.update h0 hn ho rfl
/-- what an element's add makes of a set -/
def addO (d : SetD) (h : Int) (x : Value) : SetD :=
  match layNew d.2.2 d.1 h x with
  | (es, t, wasDummy, _) => if !wasDummy && t.tooFull then (match relayAll t es (SetTable.grown es.size) with | (es2, t2, _) => (es2, d.2.1 + 1 + 1, t2)) else (es, d.2.1 + 1, t)
/-- small ints all, so many at most -/
structure Good (cs : List Nat) (d : SetD) : Prop where
  el : ∀ e ∈ d.1.toList, ∃ c t, c ∈ cs ∧ e = (.ofNat c, .int (.ofNat c) t)
  size : d.1.size ≤ cs.length
  fits : d.2.2.fits d.1.size = true
  has : ∀ c ∈ cs, ∃ t, ((.ofNat c, .int (.ofNat c) t) : Int × Value) ∈ d.1.toList
theorem Good.absent {cs : List Nat} {d : SetD} (g : Good cs d) {c : Nat} (hc : c ∉ cs) {a : Addr} {x : Value} {b : Bool} : ∀ (l : List (Int × Value)) (i : Nat), (∀ e ∈ l, e ∈ d.1.toList) → setScanFrom a x (.ofNat c) b l i = Pure.pure .absent
  | [], i, _ => rfl
  | (h', y) :: rest, i, hl => by
    obtain ⟨c', t, hm, e⟩ := g.el _ (hl _ (.head _))
    obtain ⟨rfl, rfl⟩ : h' = .ofNat c' ∧ y = .int (.ofNat c') t := by simpa using e
    have hne : ((Int.ofNat c') == Int.ofNat c) = false := by
      rw [beq_eq_false_iff_ne]
      rintro e
      exact hc (Int.ofNat.inj e ▸ hm)
    unfold setScanFrom
    rw [hne]
    simp only [Bool.false_eq_true, if_false]
    exact g.absent hc rest (i + 1) fun e he => hl e (.tail _ he)
theorem Good.add {cs : List Nat} {d : SetD} (g : Good cs d) {c tk : Nat} : Good (c :: cs) (addO d (.ofNat c) (.int (.ofNat c) tk)) := by
  have hp := layNew_perm d.2.2 d.1 (.ofNat c) (.int (.ofNat c) tk)
  have hf := layNew_fits d.2.2 d.1 (.ofNat c) (.int (.ofNat c) tk)
  unfold addO
  generalize layNew d.2.2 d.1 (.ofNat c) (.int (.ofNat c) tk) = L at hp hf ⊢
  obtain ⟨es, t, wd, gv⟩ := L
  dsimp only at hp hf ⊢
  have el1 : ∀ e ∈ es.toList, ∃ c' t, c' ∈ c :: cs ∧ e = (Int.ofNat c', Value.int (.ofNat c') t) := by
    intro e he
    have := hp.mem_iff.mp he
    rw [Array.toList_push, List.mem_append, List.mem_singleton] at this
    rcases this with q | rfl
    · obtain ⟨c', t, hm, e⟩ := g.el e q; exact ⟨c', t, .tail _ hm, e⟩
    · exact ⟨c, tk, .head _, rfl⟩
  have sz1 : es.size ≤ (c :: cs).length := by
    rw [← Array.length_toList, hp.length_eq, Array.toList_push, List.length_append, Array.length_toList, List.length_cons]
    have := g.size
    show d.1.size + 1 ≤ cs.length + 1
    omega
  have has1 : ∀ c' ∈ c :: cs, ∃ t, ((.ofNat c', .int (.ofNat c') t) : Int × Value) ∈ es.toList := by
    intro c' hc'
    rcases List.mem_cons.mp hc' with rfl | hc'
    · exact ⟨tk, hp.mem_iff.mpr (by rw [Array.toList_push, List.mem_append, List.mem_singleton]; exact .inr rfl)⟩
    · obtain ⟨t', ht'⟩ := g.has c' hc'
      exact ⟨t', hp.mem_iff.mpr (by rw [Array.toList_push, List.mem_append]; exact .inl ht')⟩
  split
  · have hp2 := relayAll_perm t es (SetTable.grown es.size)
    have hf2 := relayAll_fits t es (SetTable.grown es.size)
    generalize relayAll t es (SetTable.grown es.size) = R at hp2 hf2 ⊢
    obtain ⟨es2, t2, gv2⟩ := R
    dsimp only at hp2 hf2 ⊢
    exact ⟨fun e he => el1 e (hp2.mem_iff.mp he), by rw [← Array.length_toList, hp2.length_eq, Array.length_toList]; exact sz1, hf2, fun c' hc' => let ⟨t', ht'⟩ := has1 c' hc'; ⟨t', hp2.mem_iff.mpr ht'⟩⟩
  · exact ⟨el1, sz1, hf, has1⟩
theorem gave_ok {w : World} {g : Bool → Sem Unit} (h1 : g false = Pure.pure ()) (h2 : ∃ t, g true = PySem.rule t) (b : Bool) (s : SharedT) : RC w (g b) s () s 1 := by
  cases b
  · rw [h1]; exact RC.pure.le (by omega)
  · obtain ⟨t, h2⟩ := h2; rw [h2]; exact RC.rule
/-- a tree with one leaf open -/
structure Open1 (a : Addr) (TF : Obj → BT) : Prop where
  get : ∀ O, (TF O).get a = some O
  set : ∀ O f, (TF O).set a f = TF (f O)
/-- the set's own add of a small int that it has not -/
theorem RC.add {w : World} {a : Addr} {TF : Obj → BT} (T : Open1 a TF) {n : Nat} {L : Life} {gs : Array GenState} {dr : Drawn} {k : Nat} {os : OsState} {cs : List Nat} {d : SetD} {c tk : Nat} (g : Good cs d) (hc : c ∉ cs) (hz : cs.length < 500) (h0 : Nat.ble 11 a = true) (hn : Nat.blt a n = true) :
    RC w (setAddHashed a (.int (.ofNat c) tk) (.ofNat c)) ⟨TF (setO d), n, L, gs, dr, k, os⟩ true ⟨TF (setO (addO d (.ofNat c) (.int (.ofNat c) tk))), n, L, gs, dr, k, os⟩ 9 := by
  have g1 := g.add (c := c) (tk := tk)
  have hp := layNew_perm d.2.2 d.1 (.ofNat c) (.int (.ofNat c) tk)
  have hf := layNew_fits d.2.2 d.1 (.ofNat c) (.int (.ofNat c) tk)
  have sz := g.size
  have hall : byScan (.int (.ofNat c) tk) d.1 = true := by
    have hb : decide (d.1.size < scanBound) = true := decide_eq_true (by unfold scanBound; omega)
    show (true && decide (d.1.size < scanBound) && d.1.all fun e => e.2.scannable) = true
    rw [hb, Bool.true_and, Bool.true_and]
    rw [← Array.all_toList, List.all_eq_true]
    intro e he
    obtain ⟨c', t, _, rfl⟩ := g.el e he
    rfl
  have sz1 : (layNew d.2.2 d.1 (.ofNat c) (.int (.ofNat c) tk)).1.size ≤ 501 := by
    rw [← Array.length_toList, hp.length_eq, Array.toList_push, List.length_append, Array.length_toList]
    show d.1.size + 1 ≤ 501; omega
  have hst : ∀ (e : SetD) (T' : BT), T'.get a = some (setO e) → e.2.2.fits e.1.size = true → RC w (PySem.setState a) ⟨T', n, L, gs, dr, k, os⟩ (e.1, e.2.1, e.2.2) ⟨T', n, L, gs, dr, k, os⟩ 1 := fun e T' h h' => RC.setState (d := e) hn h h'
  show RC w (setAddHashedIn a (.int (.ofNat c) tk) (.ofNat c) 100000) _ _ _ _
  unfold setAddHashedIn
  refine (RC.bind (hst d _ (T.get _) g.fits) (N := 1) (M := 8) ?_)
  dsimp only
  rw [hall]
  simp only [if_true]
  refine (RC.bind (a := some true) (N := 8) (M := 0) ?_ RC.pure)
  unfold setAddByScan
  refine (RC.bind RC.rule (N := 1) (M := 7) ?_)
  refine (RC.bind (a := ScanMet.absent) (s' := ⟨TF (setO d), n, L, gs, dr, k, os⟩) (N := 0) (M := 7) ?_ ?_)
  · show RC w (setScanFrom a (.int (.ofNat c) tk) (.ofNat c) true d.1.toList 0) _ _ _ _
    rw [g.absent hc d.1.toList 0 fun e he => he]
    exact RC.pure
  unfold addO
  generalize layNew d.2.2 d.1 (.ofNat c) (.int (.ofNat c) tk) = X at hp hf sz1 ⊢
  obtain ⟨es, t, wd, gv⟩ := X
  dsimp only at hp hf sz1 ⊢
  refine RC.bind (a := ()) (s' := ⟨TF (setO d), n, L, gs, dr, k, os⟩) (N := 1) (M := 6) (by cases gv <;> first | exact RC.rule | exact RC.pure.le (Nat.zero_le _)) ?_
  have tail : RC w (do
      PySem.storeSet a es t
      if (!wd && t.tooFull) = true then do
        (match (relayAll t es (SetTable.grown es.size)).2.2 with | true => PySem.rule "set.scan.the-table-gave-way" | false => Pure.pure ())
        PySem.storeSet a (relayAll t es (SetTable.grown es.size)).1 (relayAll t es (SetTable.grown es.size)).2.1
        Pure.pure (some true)
      else Pure.pure (some true) : Sem (Option Bool)) ⟨TF (setO d), n, L, gs, dr, k, os⟩ (some true)
      ⟨TF (setO (if (!wd && t.tooFull) = true then ((relayAll t es (SetTable.grown es.size)).1, d.2.1 + 1 + 1, (relayAll t es (SetTable.grown es.size)).2.1) else (es, d.2.1 + 1, t))), n, L, gs, dr, k, os⟩ 6 := by
    have st := RC.storeSet (w := w) (s := ⟨TF (setO d), n, L, gs, dr, k, os⟩) (es := es) (t := t) h0 hn (T.get (setO d)) (by omega)
    rw [T.set, setO_put] at st
    refine RC.bind st (N := 2) (M := 4) ?_
    split
    · refine RC.bind (a := ()) (s' := ⟨TF (setO (es, d.2.1 + 1, t)), n, L, gs, dr, k, os⟩) (N := 1) (M := 3) (by cases (relayAll t es (SetTable.grown es.size)).2.2 <;> first | exact RC.rule | exact RC.pure.le (Nat.zero_le _)) ?_
      have hp2 := relayAll_perm t es (SetTable.grown es.size)
      have sz2 : (relayAll t es (SetTable.grown es.size)).1.size ≤ 1000 := by
        rw [← Array.length_toList, hp2.length_eq, Array.length_toList]; omega
      have st2 := RC.storeSet (w := w) (s := ⟨TF (setO (es, d.2.1 + 1, t)), n, L, gs, dr, k, os⟩) (es := (relayAll t es (SetTable.grown es.size)).1) (t := (relayAll t es (SetTable.grown es.size)).2.1) h0 hn (T.get _) sz2
      rw [T.set, setO_put] at st2
      exact RC.le (RC.bind st2 (N := 2) (M := 0) RC.pure) (Nat.le_of_ble_eq_true rfl)
    · exact RC.le RC.pure (Nat.le_of_ble_eq_true rfl)
  by_cases hpl : t.plain = true
  · rw [if_pos hpl]
    exact RC.bind (a := true) (N := 0) (M := 6) RC.pure tail
  · rw [if_neg hpl]
    exact RC.bind (a := true) (N := 0) (M := 6) RC.pure tail
lay_quick setO
end Mine
end
section
open PySem PySem.W PyProof.Rows
set_option maxRecDepth 100000
set_option maxHeartbeats 400000
set_option linter.unusedVariables false
namespace Mine
/-- r elements from c on, the tokens by threes -/
noncomputable def addN (d : SetD) (c tk : Nat) : Nat → SetD
  | 0 => d
  | r + 1 => addN (addO d (.ofNat c) (.int (.ofNat c) tk)) (c + 1) (tk + 3) r
noncomputable def csN (cs : List Nat) (c : Nat) : Nat → List Nat
  | 0 => cs
  | r + 1 => csN (c :: cs) (c + 1) r
/-- the last element met -/
noncomputable def lastCp (cp : Value) (c tk : Nat) : Nat → Value
  | 0 => cp
  | r + 1 => lastCp (.int (.ofNat c) tk) (c + 1) (tk + 3) r
theorem csN_length : ∀ (r : Nat) (cs : List Nat) (c : Nat), (csN cs c r).length = cs.length + r
  | 0, _, _ => rfl
  | r + 1, cs, c => by rw [csN, csN_length r, List.length_cons]; omega
theorem goesPut {w : World} {TF : Obj → BT} (T : Open1 97 TF) {n : Nat} {L : Life} {gs : Array GenState} {dr : Drawn} {k : Nat} {os : OsState} {cs : List Nat} {d : SetD} {c tk : Nat} (k3 k4 k5 : KR) (g : Good cs d) (hc : c ∉ cs) (hz : cs.length < 500) (hn : Nat.blt 97 n = true) :
    Goes w ⟨TF (setO d), n, L, gs, dr, k, os⟩ ⟨putT c tk, loopC, PP, uf k3 k4 k5⟩ ⟨TF (setO (addO d (.ofNat c) (.int (.ofNat c) tk))), n, L, gs, dr, k, os⟩ (agTh k3 k4 k5) 9 :=
  (RC.add (w := w) T g hc hz rfl hn).goes (fun _ => (again loopC : Sem PySem.Fin)) loopC PP (uf k3 k4 k5)
theorem turns {w : World} {os : OsState} (k3 k4 k5 : KR) {n : Nat} {TA : Int → Int → Value → Obj → BT} {it : Addr} {gI : Nat → Nat → Nat → Value → Obj → Array GenState} (hn : Nat.blt 97 n = true)
    (hT : ∀ i j cp, Open1 97 (TA i j cp))
    (I : ∀ c r tk cp O p, Goes w ⟨TA (.ofNat c) (.ofNat (r + 1)) cp O, n, {}, ⟨[.running]⟩, {}, tk, os⟩ (inT w p it k3 k4 k5) ⟨TA (Int.ofNat c + Int.ofNat 1) (Int.ofNat (r + 1) - 1) (.int (.ofNat c) tk) O, n, {}, gI c r tk cp O, {}, tk + 2, os⟩ (addTh (.int (.ofNat c) tk) k3 k4 k5) 26)
    (J : ∀ c r tk tk2 i j cp cp2 O O2, Goes w ⟨TA i j cp2 O2, n, {}, gI c r tk cp O, {}, tk2, os⟩ (agTh k3 k4 k5) ⟨TA i j cp2 O2, n, {}, ⟨[.running]⟩, {}, tk2, os⟩ (inT w PR it k3 k4 k5) 11) :
    ∀ (r c tk : Nat) (cp : Value) (d : SetD) (cs : List Nat) (p : Pos), Good cs d → (∀ x, c ≤ x → x < c + r → x ∉ cs) → cs.length + r < 500 → c + r < 2 ^ 60 →
      (∃ p', Goes w ⟨TA (.ofNat c) (.ofNat r) cp (setO d), n, {}, ⟨[.running]⟩, {}, tk, os⟩ (inT w p it k3 k4 k5) ⟨TA (.ofNat (c + r)) (.ofNat 0) (lastCp cp c tk r) (setO (addN d c tk r)), n, {}, ⟨[.running]⟩, {}, tk + 3 * r, os⟩ (inT w p' it k3 k4 k5) (51 * r)) ∧ Good (csN cs c r) (addN d c tk r)
  | 0, c, tk, cp, d, cs, p, g, _, _, _ => ⟨⟨p, Goes.refl ..⟩, g⟩
  | r + 1, c, tk, cp, d, cs, p, g, ha, hz, hb => by
    have hc : c ∉ cs := ha c (Nat.le_refl _) (by omega)
    have ga := g.add (c := c) (tk := tk)
    obtain ⟨⟨p', go⟩, gg⟩ := turns k3 k4 k5 hn hT I J r (c + 1) (tk + 3) (.int (.ofNat c) tk) (addO d (.ofNat c) (.int (.ofNat c) tk)) (c :: cs) PR ga (fun x h1 h2 h3 => by
        rcases List.mem_cons.mp h3 with rfl | h3
        · omega
        · exact ha x (by omega) (by omega) h3) (by rw [List.length_cons]; omega) (by omega)
    refine ⟨⟨p', ?_⟩, gg⟩
    have i1 := I c r tk cp (setO d) p
    rw [show Int.ofNat c + Int.ofNat 1 = Int.ofNat (c + 1) from rfl, show Int.ofNat (r + 1) - 1 = Int.ofNat r by simp only [Int.ofNat_eq_natCast]; omega] at i1
    have h1 := GH w (TA (.ofNat (c + 1)) (.ofNat r) (.int (.ofNat c) tk) (setO d)) n {} (gI c r tk cp (setO d)) {} (tk + 2) os c tk k3 k4 k5 (by omega)
    have p1 := goesPut (w := w) (hT (.ofNat (c + 1)) (.ofNat r) (.int (.ofNat c) tk)) (n := n) (L := {}) (gs := gI c r tk cp (setO d)) (dr := {}) (k := tk + 2 + 1) (os := os) (tk := tk) k3 k4 k5 g hc (by omega) hn
    have j1 := J c r tk (tk + 2 + 1) (.ofNat (c + 1)) (.ofNat r) cp (.int (.ofNat c) tk) (setO d) (setO (addO d (.ofNat c) (.int (.ofNat c) tk)))
    have q := (((i1.trans h1).trans p1).trans j1).trans go
    rw [show c + 1 + r = c + (r + 1) by omega, show tk + 3 + 3 * r = tk + 3 * (r + 1) by omega] at q
    exact q.le (by omega)
end Mine
end
section
open PySem PySem.W PyProof.Rows
set_option maxRecDepth 100000
set_option maxHeartbeats 1000000
set_option linter.unusedVariables false
namespace Mine
noncomputable def FD1 (n : Nat) (kp : Pos) (w : World) (os : OsState) (O : Obj) (k3 k4 k5 : KR) : RT × RT := (goT n w (SD1 w.params os O) (thr (csG 0 91) PP (inF (kg w) (kn w) (uf k3 k4 k5))), some (SD1 w.params os O, thr (clG 0 91) kp (inF (kg w) (kn w) (uf k3 k4 k5))))
theorem FD1_self : FD1 = FD1 := rfl
name_quick qFD1 for Mine.FD1 by Mine.FD1_self
theorem KD1_ff : ∀ (w : World) (os : OsState) O k3 k4 k5, (PySem.W.Fast.qFD1 12 ⟨21, 45, 21, 66⟩ (wf false false w) os O k3 k4 k5).1 = (PySem.W.Fast.qFD1 12 ⟨21, 45, 21, 66⟩ (wf false false w) os O k3 k4 k5).2 := fun w os O k3 k4 k5 => by kernel_rfl
theorem KD1_tf : ∀ (w : World) (os : OsState) O k3 k4 k5, (PySem.W.Fast.qFD1 12 ⟨21, 45, 21, 66⟩ (wf true false w) os O k3 k4 k5).1 = (PySem.W.Fast.qFD1 12 ⟨21, 45, 21, 66⟩ (wf true false w) os O k3 k4 k5).2 := fun w os O k3 k4 k5 => by kernel_rfl
theorem KD1_t : ∀ (w : World) (os : OsState) O k3 k4 k5, (PySem.W.Fast.qFD1 2 PP (w.withFollow "comprehension-iter-twice" true) os O k3 k4 k5).1 = (PySem.W.Fast.qFD1 2 PP (w.withFollow "comprehension-iter-twice" true) os O k3 k4 k5).2 := fun w os O k3 k4 k5 => by kernel_rfl
theorem GD1 (w : World) (os : OsState) (O : Obj) (k3 k4 k5 : KR) : ∃ kp, Goes w (SD1 w.params os O) (thr (csG 0 91) PP (inF (kg w) (kn w) (uf k3 k4 k5))) (SD1 w.params os O) (thr (clG 0 91) kp (inF (kg w) (kn w) (uf k3 k4 k5))) 12 := by
  revert w; refine rows2 (fun b1 b2 w => ?_); cases b1 <;> cases b2
  · exact ⟨_, 12, Nat.le_refl _, by have h := KD1_ff w os O k3 k4 k5; rw [← PySem.W.Fast.qFD1_eq] at h; unfold FD1 at h; dsimp only at h; exact h⟩
  · exact ⟨_, 2, Nat.le_of_ble_eq_true rfl, by have h := KD1_t (w.withFollow "special-get-raises" false) os O k3 k4 k5; rw [← PySem.W.Fast.qFD1_eq] at h; unfold FD1 at h; dsimp only at h; exact h⟩
  · exact ⟨_, 12, Nat.le_refl _, by have h := KD1_tf w os O k3 k4 k5; rw [← PySem.W.Fast.qFD1_eq] at h; unfold FD1 at h; dsimp only at h; exact h⟩
  · exact ⟨_, 2, Nat.le_of_ble_eq_true rfl, by have h := KD1_t (w.withFollow "special-get-raises" true) os O k3 k4 k5; rw [← PySem.W.Fast.qFD1_eq] at h; unfold FD1 at h; dsimp only at h; exact h⟩
theorem GC0 (w : World) (os : OsState) (O : Obj) (k3 k4 k5 : KR) : Goes w (SL w.params os O) (thr loopC PP (uf k3 k4 k5)) (SD1 w.params os O) (thr (csG 0 91) PP (inF (kg w) (kn w) (uf k3 k4 k5))) 9 :=
  ⟨9, Nat.le_refl _, by have h := KC0 w os O k3 k4 k5; rw [← PySem.W.Fast.qFC0_eq] at h; unfold FC0 at h; dsimp only at h; exact h⟩
theorem oT1 (P : Params) (i j : Int) (cp : Value) : Open1 97 (TA1 P i j cp) := ⟨fun O => by kernel_rfl, fun O f => by kernel_rfl⟩
theorem oT1a (P : Params) (i j : Int) : Open1 97 (TA1a P i j) := ⟨fun O => by kernel_rfl, fun O f => by kernel_rfl⟩
theorem turn1 (w : World) (os : OsState) (k3 k4 k5 : KR) (d : SetD) (g : Good [] d) :
    (Goes w (SL w.params os (setO d)) (thr loopC PP (uf k3 k4 k5)) (SD2 w.params os (.int (.ofNat 169) 400) (setO (addN d 169 400 1)) 403) (outT w k3 k4 k5) 216) ∧ Good (csN [] 169 1) (addN d 169 400 1) := by
  have ga := g.add (c := 169) (tk := 400)
  refine ⟨?_, ga⟩
  obtain ⟨kp, d1⟩ := GD1 w os (setO d) k3 k4 k5
  have i1 := GI1 w os 169 0 (setO d) PQ k3 k4 k5
  have h1 := GH w (TA1 w.params (.ofNat 170) (.ofNat 0) (.int (.ofNat 169) 400) (setO d)) 103 {} (gI1 w os 169 0 (setO d) k3 k4 k5) {} 402 os 169 400 k3 k4 k5 (by decide)
  have p1 := goesPut (w := w) (oT1 w.params (.ofNat 170) (.ofNat 0) (.int (.ofNat 169) 400)) (n := 103) (L := {}) (gs := gI1 w os 169 0 (setO d) k3 k4 k5) (dr := {}) (k := 403) (os := os) (tk := 400) k3 k4 k5 g (List.not_mem_nil (a := 169)) (by decide) rfl
  have j1 := GJ1 w os 169 0 403 (.ofNat 170) (.ofNat 0) (setO d) (setO (addO d (.ofNat 169) (.int (.ofNat 169) 400))) k3 k4 k5
  exact (((((((GC0 w os (setO d) k3 k4 k5).trans d1).trans (GA1 w os (setO d) kp k3 k4 k5)).trans (GS1 w os (setO d) k3 k4 k5)).trans i1).trans h1).trans p1).trans (j1.trans (GE1 w os 403 _ _ PR k3 k4 k5))
theorem oT2 (P : Params) (i j : Int) (cp : Value) : Open1 97 (TA2 P i j cp) := ⟨fun O => by kernel_rfl, fun O f => by kernel_rfl⟩
theorem turn2 (w : World) (os : OsState) (k3 k4 k5 : KR) (d : SetD) (cs : List Nat) (cp : Value) (g : Good cs d) (ha : ∀ x, 174 ≤ x → x < 174 + 1 → x ∉ cs) (hz : cs.length + 1 < 500) :
    (Goes w (SD2 w.params os cp (setO d) 403) (outT w k3 k4 k5) (SD3 w.params os (lastCp cp 174 408 1) (setO (addN d 174 408 1)) 411) (outT w k3 k4 k5) 195) ∧ Good (csN cs 174 1) (addN d 174 408 1) := by
  obtain ⟨⟨p', go⟩, gg⟩ := turns (w := w) (os := os) k3 k4 k5 (n := 110) (TA := TA2 w.params) (it := 109) (gI := fun c r tk cp O => gI2 w os c r tk cp O k3 k4 k5) rfl (oT2 w.params) (fun c r tk cp O p => GI2 w os c r tk cp O p k3 k4 k5) (fun c r tk tk2 i j cp cp2 O O2 => GJ2 w os c r tk tk2 i j cp cp2 O O2 k3 k4 k5) 1 174 408 cp d cs PQ g ha hz (by decide)
  exact ⟨(((GA2 w os cp (setO d) k3 k4 k5).trans (GS2 w os cp (setO d) k3 k4 k5)).trans go).trans (GE2 w os 411 (lastCp cp 174 408 1) (setO (addN d 174 408 1)) p' k3 k4 k5), gg⟩
theorem oT3 (P : Params) (i j : Int) (cp : Value) : Open1 97 (TA3 P i j cp) := ⟨fun O => by kernel_rfl, fun O f => by kernel_rfl⟩
theorem turn3 (w : World) (os : OsState) (k3 k4 k5 : KR) (d : SetD) (cs : List Nat) (cp : Value) (g : Good cs d) (ha : ∀ x, 8252 ≤ x → x < 8252 + 1 → x ∉ cs) (hz : cs.length + 1 < 500) :
    (Goes w (SD3 w.params os cp (setO d) 411) (outT w k3 k4 k5) (SD4 w.params os (lastCp cp 8252 416 1) (setO (addN d 8252 416 1)) 419) (outT w k3 k4 k5) 195) ∧ Good (csN cs 8252 1) (addN d 8252 416 1) := by
  obtain ⟨⟨p', go⟩, gg⟩ := turns (w := w) (os := os) k3 k4 k5 (n := 117) (TA := TA3 w.params) (it := 116) (gI := fun c r tk cp O => gI3 w os c r tk cp O k3 k4 k5) rfl (oT3 w.params) (fun c r tk cp O p => GI3 w os c r tk cp O p k3 k4 k5) (fun c r tk tk2 i j cp cp2 O O2 => GJ3 w os c r tk tk2 i j cp cp2 O O2 k3 k4 k5) 1 8252 416 cp d cs PQ g ha hz (by decide)
  exact ⟨(((GA3 w os cp (setO d) k3 k4 k5).trans (GS3 w os cp (setO d) k3 k4 k5)).trans go).trans (GE3 w os 419 (lastCp cp 8252 416 1) (setO (addN d 8252 416 1)) p' k3 k4 k5), gg⟩
theorem oT4 (P : Params) (i j : Int) (cp : Value) : Open1 97 (TA4 P i j cp) := ⟨fun O => by kernel_rfl, fun O f => by kernel_rfl⟩
theorem turn4 (w : World) (os : OsState) (k3 k4 k5 : KR) (d : SetD) (cs : List Nat) (cp : Value) (g : Good cs d) (ha : ∀ x, 8596 ≤ x → x < 8596 + 6 → x ∉ cs) (hz : cs.length + 6 < 500) :
    (Goes w (SD4 w.params os cp (setO d) 419) (outT w k3 k4 k5) (SD5 w.params os (lastCp cp 8596 424 6) (setO (addN d 8596 424 6)) 442) (outT w k3 k4 k5) 450) ∧ Good (csN cs 8596 6) (addN d 8596 424 6) := by
  obtain ⟨⟨p', go⟩, gg⟩ := turns (w := w) (os := os) k3 k4 k5 (n := 124) (TA := TA4 w.params) (it := 123) (gI := fun c r tk cp O => gI4 w os c r tk cp O k3 k4 k5) rfl (oT4 w.params) (fun c r tk cp O p => GI4 w os c r tk cp O p k3 k4 k5) (fun c r tk tk2 i j cp cp2 O O2 => GJ4 w os c r tk tk2 i j cp cp2 O O2 k3 k4 k5) 6 8596 424 cp d cs PQ g ha hz (by decide)
  exact ⟨(((GA4 w os cp (setO d) k3 k4 k5).trans (GS4 w os cp (setO d) k3 k4 k5)).trans go).trans (GE4 w os 442 (lastCp cp 8596 424 6) (setO (addN d 8596 424 6)) p' k3 k4 k5), gg⟩
theorem oT5 (P : Params) (i j : Int) (cp : Value) : Open1 97 (TA5 P i j cp) := ⟨fun O => by kernel_rfl, fun O f => by kernel_rfl⟩
theorem turn5 (w : World) (os : OsState) (k3 k4 k5 : KR) (d : SetD) (cs : List Nat) (cp : Value) (g : Good cs d) (ha : ∀ x, 8986 ≤ x → x < 8986 + 2 → x ∉ cs) (hz : cs.length + 2 < 500) :
    (Goes w (SD5 w.params os cp (setO d) 442) (outT w k3 k4 k5) (SD6 w.params os (lastCp cp 8986 447 2) (setO (addN d 8986 447 2)) 453) (outT w k3 k4 k5) 246) ∧ Good (csN cs 8986 2) (addN d 8986 447 2) := by
  obtain ⟨⟨p', go⟩, gg⟩ := turns (w := w) (os := os) k3 k4 k5 (n := 131) (TA := TA5 w.params) (it := 130) (gI := fun c r tk cp O => gI5 w os c r tk cp O k3 k4 k5) rfl (oT5 w.params) (fun c r tk cp O p => GI5 w os c r tk cp O p k3 k4 k5) (fun c r tk tk2 i j cp cp2 O O2 => GJ5 w os c r tk tk2 i j cp cp2 O O2 k3 k4 k5) 2 8986 447 cp d cs PQ g ha hz (by decide)
  exact ⟨(((GA5 w os cp (setO d) k3 k4 k5).trans (GS5 w os cp (setO d) k3 k4 k5)).trans go).trans (GE5 w os 453 (lastCp cp 8986 447 2) (setO (addN d 8986 447 2)) p' k3 k4 k5), gg⟩
theorem oT6 (P : Params) (i j : Int) (cp : Value) : Open1 97 (TA6 P i j cp) := ⟨fun O => by kernel_rfl, fun O f => by kernel_rfl⟩
theorem turn6 (w : World) (os : OsState) (k3 k4 k5 : KR) (d : SetD) (cs : List Nat) (cp : Value) (g : Good cs d) (ha : ∀ x, 9193 ≤ x → x < 9193 + 11 → x ∉ cs) (hz : cs.length + 11 < 500) :
    (Goes w (SD6 w.params os cp (setO d) 453) (outT w k3 k4 k5) (SD7 w.params os (lastCp cp 9193 458 11) (setO (addN d 9193 458 11)) 491) (outT w k3 k4 k5) 705) ∧ Good (csN cs 9193 11) (addN d 9193 458 11) := by
  obtain ⟨⟨p', go⟩, gg⟩ := turns (w := w) (os := os) k3 k4 k5 (n := 138) (TA := TA6 w.params) (it := 137) (gI := fun c r tk cp O => gI6 w os c r tk cp O k3 k4 k5) rfl (oT6 w.params) (fun c r tk cp O p => GI6 w os c r tk cp O p k3 k4 k5) (fun c r tk tk2 i j cp cp2 O O2 => GJ6 w os c r tk tk2 i j cp cp2 O O2 k3 k4 k5) 11 9193 458 cp d cs PQ g ha hz (by decide)
  exact ⟨(((GA6 w os cp (setO d) k3 k4 k5).trans (GS6 w os cp (setO d) k3 k4 k5)).trans go).trans (GE6 w os 491 (lastCp cp 9193 458 11) (setO (addN d 9193 458 11)) p' k3 k4 k5), gg⟩
theorem oT7 (P : Params) (i j : Int) (cp : Value) : Open1 97 (TA7 P i j cp) := ⟨fun O => by kernel_rfl, fun O f => by kernel_rfl⟩
theorem turn7 (w : World) (os : OsState) (k3 k4 k5 : KR) (d : SetD) (cs : List Nat) (cp : Value) (g : Good cs d) (ha : ∀ x, 9728 ≤ x → x < 9728 + 5 → x ∉ cs) (hz : cs.length + 5 < 500) :
    (Goes w (SD7 w.params os cp (setO d) 491) (outT w k3 k4 k5) (SD8 w.params os (lastCp cp 9728 496 5) (setO (addN d 9728 496 5)) 511) (outT w k3 k4 k5) 399) ∧ Good (csN cs 9728 5) (addN d 9728 496 5) := by
  obtain ⟨⟨p', go⟩, gg⟩ := turns (w := w) (os := os) k3 k4 k5 (n := 145) (TA := TA7 w.params) (it := 144) (gI := fun c r tk cp O => gI7 w os c r tk cp O k3 k4 k5) rfl (oT7 w.params) (fun c r tk cp O p => GI7 w os c r tk cp O p k3 k4 k5) (fun c r tk tk2 i j cp cp2 O O2 => GJ7 w os c r tk tk2 i j cp cp2 O O2 k3 k4 k5) 5 9728 496 cp d cs PQ g ha hz (by decide)
  exact ⟨(((GA7 w os cp (setO d) k3 k4 k5).trans (GS7 w os cp (setO d) k3 k4 k5)).trans go).trans (GE7 w os 511 (lastCp cp 9728 496 5) (setO (addN d 9728 496 5)) p' k3 k4 k5), gg⟩
theorem oT8 (P : Params) (i j : Int) (cp : Value) : Open1 97 (TA8 P i j cp) := ⟨fun O => by kernel_rfl, fun O f => by kernel_rfl⟩
theorem turn8 (w : World) (os : OsState) (k3 k4 k5 : KR) (d : SetD) (cs : List Nat) (cp : Value) (g : Good cs d) (ha : ∀ x, 9748 ≤ x → x < 9748 + 2 → x ∉ cs) (hz : cs.length + 2 < 500) :
    (Goes w (SD8 w.params os cp (setO d) 511) (outT w k3 k4 k5) (SD9 w.params os (lastCp cp 9748 516 2) (setO (addN d 9748 516 2)) 522) (outT w k3 k4 k5) 246) ∧ Good (csN cs 9748 2) (addN d 9748 516 2) := by
  obtain ⟨⟨p', go⟩, gg⟩ := turns (w := w) (os := os) k3 k4 k5 (n := 152) (TA := TA8 w.params) (it := 151) (gI := fun c r tk cp O => gI8 w os c r tk cp O k3 k4 k5) rfl (oT8 w.params) (fun c r tk cp O p => GI8 w os c r tk cp O p k3 k4 k5) (fun c r tk tk2 i j cp cp2 O O2 => GJ8 w os c r tk tk2 i j cp cp2 O O2 k3 k4 k5) 2 9748 516 cp d cs PQ g ha hz (by decide)
  exact ⟨(((GA8 w os cp (setO d) k3 k4 k5).trans (GS8 w os cp (setO d) k3 k4 k5)).trans go).trans (GE8 w os 522 (lastCp cp 9748 516 2) (setO (addN d 9748 516 2)) p' k3 k4 k5), gg⟩
theorem oT9 (P : Params) (i j : Int) (cp : Value) : Open1 97 (TA9 P i j cp) := ⟨fun O => by kernel_rfl, fun O f => by kernel_rfl⟩
theorem turn9 (w : World) (os : OsState) (k3 k4 k5 : KR) (d : SetD) (cs : List Nat) (cp : Value) (g : Good cs d) (ha : ∀ x, 9757 ≤ x → x < 9757 + 1 → x ∉ cs) (hz : cs.length + 1 < 500) :
    (Goes w (SD9 w.params os cp (setO d) 522) (outT w k3 k4 k5) (SD10 w.params os (lastCp cp 9757 527 1) (setO (addN d 9757 527 1)) 530) (outT w k3 k4 k5) 195) ∧ Good (csN cs 9757 1) (addN d 9757 527 1) := by
  obtain ⟨⟨p', go⟩, gg⟩ := turns (w := w) (os := os) k3 k4 k5 (n := 159) (TA := TA9 w.params) (it := 158) (gI := fun c r tk cp O => gI9 w os c r tk cp O k3 k4 k5) rfl (oT9 w.params) (fun c r tk cp O p => GI9 w os c r tk cp O p k3 k4 k5) (fun c r tk tk2 i j cp cp2 O O2 => GJ9 w os c r tk tk2 i j cp cp2 O O2 k3 k4 k5) 1 9757 527 cp d cs PQ g ha hz (by decide)
  exact ⟨(((GA9 w os cp (setO d) k3 k4 k5).trans (GS9 w os cp (setO d) k3 k4 k5)).trans go).trans (GE9 w os 530 (lastCp cp 9757 527 1) (setO (addN d 9757 527 1)) p' k3 k4 k5), gg⟩
theorem oT10 (P : Params) (i j : Int) (cp : Value) : Open1 97 (TA10 P i j cp) := ⟨fun O => by kernel_rfl, fun O f => by kernel_rfl⟩
theorem turn10 (w : World) (os : OsState) (k3 k4 k5 : KR) (d : SetD) (cs : List Nat) (cp : Value) (g : Good cs d) (ha : ∀ x, 9760 ≤ x → x < 9760 + 1 → x ∉ cs) (hz : cs.length + 1 < 500) :
    (Goes w (SD10 w.params os cp (setO d) 530) (outT w k3 k4 k5) (SD11 w.params os (lastCp cp 9760 535 1) (setO (addN d 9760 535 1)) 538) (outT w k3 k4 k5) 195) ∧ Good (csN cs 9760 1) (addN d 9760 535 1) := by
  obtain ⟨⟨p', go⟩, gg⟩ := turns (w := w) (os := os) k3 k4 k5 (n := 166) (TA := TA10 w.params) (it := 165) (gI := fun c r tk cp O => gI10 w os c r tk cp O k3 k4 k5) rfl (oT10 w.params) (fun c r tk cp O p => GI10 w os c r tk cp O p k3 k4 k5) (fun c r tk tk2 i j cp cp2 O O2 => GJ10 w os c r tk tk2 i j cp cp2 O O2 k3 k4 k5) 1 9760 535 cp d cs PQ g ha hz (by decide)
  exact ⟨(((GA10 w os cp (setO d) k3 k4 k5).trans (GS10 w os cp (setO d) k3 k4 k5)).trans go).trans (GE10 w os 538 (lastCp cp 9760 535 1) (setO (addN d 9760 535 1)) p' k3 k4 k5), gg⟩
theorem oT11 (P : Params) (i j : Int) (cp : Value) : Open1 97 (TA11 P i j cp) := ⟨fun O => by kernel_rfl, fun O f => by kernel_rfl⟩
theorem turn11 (w : World) (os : OsState) (k3 k4 k5 : KR) (d : SetD) (cs : List Nat) (cp : Value) (g : Good cs d) (ha : ∀ x, 9792 ≤ x → x < 9792 + 1 → x ∉ cs) (hz : cs.length + 1 < 500) :
    (Goes w (SD11 w.params os cp (setO d) 538) (outT w k3 k4 k5) (SD12 w.params os (lastCp cp 9792 543 1) (setO (addN d 9792 543 1)) 546) (outT w k3 k4 k5) 195) ∧ Good (csN cs 9792 1) (addN d 9792 543 1) := by
  obtain ⟨⟨p', go⟩, gg⟩ := turns (w := w) (os := os) k3 k4 k5 (n := 173) (TA := TA11 w.params) (it := 172) (gI := fun c r tk cp O => gI11 w os c r tk cp O k3 k4 k5) rfl (oT11 w.params) (fun c r tk cp O p => GI11 w os c r tk cp O p k3 k4 k5) (fun c r tk tk2 i j cp cp2 O O2 => GJ11 w os c r tk tk2 i j cp cp2 O O2 k3 k4 k5) 1 9792 543 cp d cs PQ g ha hz (by decide)
  exact ⟨(((GA11 w os cp (setO d) k3 k4 k5).trans (GS11 w os cp (setO d) k3 k4 k5)).trans go).trans (GE11 w os 546 (lastCp cp 9792 543 1) (setO (addN d 9792 543 1)) p' k3 k4 k5), gg⟩
theorem oT12 (P : Params) (i j : Int) (cp : Value) : Open1 97 (TA12 P i j cp) := ⟨fun O => by kernel_rfl, fun O f => by kernel_rfl⟩
theorem turn12 (w : World) (os : OsState) (k3 k4 k5 : KR) (d : SetD) (cs : List Nat) (cp : Value) (g : Good cs d) (ha : ∀ x, 9794 ≤ x → x < 9794 + 1 → x ∉ cs) (hz : cs.length + 1 < 500) :
    (Goes w (SD12 w.params os cp (setO d) 546) (outT w k3 k4 k5) (SD13 w.params os (lastCp cp 9794 551 1) (setO (addN d 9794 551 1)) 554) (outT w k3 k4 k5) 195) ∧ Good (csN cs 9794 1) (addN d 9794 551 1) := by
  obtain ⟨⟨p', go⟩, gg⟩ := turns (w := w) (os := os) k3 k4 k5 (n := 180) (TA := TA12 w.params) (it := 179) (gI := fun c r tk cp O => gI12 w os c r tk cp O k3 k4 k5) rfl (oT12 w.params) (fun c r tk cp O p => GI12 w os c r tk cp O p k3 k4 k5) (fun c r tk tk2 i j cp cp2 O O2 => GJ12 w os c r tk tk2 i j cp cp2 O O2 k3 k4 k5) 1 9794 551 cp d cs PQ g ha hz (by decide)
  exact ⟨(((GA12 w os cp (setO d) k3 k4 k5).trans (GS12 w os cp (setO d) k3 k4 k5)).trans go).trans (GE12 w os 554 (lastCp cp 9794 551 1) (setO (addN d 9794 551 1)) p' k3 k4 k5), gg⟩
theorem oT13 (P : Params) (i j : Int) (cp : Value) : Open1 97 (TA13 P i j cp) := ⟨fun O => by kernel_rfl, fun O f => by kernel_rfl⟩
theorem turn13 (w : World) (os : OsState) (k3 k4 k5 : KR) (d : SetD) (cs : List Nat) (cp : Value) (g : Good cs d) (ha : ∀ x, 9800 ≤ x → x < 9800 + 12 → x ∉ cs) (hz : cs.length + 12 < 500) :
    (Goes w (SD13 w.params os cp (setO d) 554) (outT w k3 k4 k5) (SD14 w.params os (lastCp cp 9800 559 12) (setO (addN d 9800 559 12)) 595) (outT w k3 k4 k5) 756) ∧ Good (csN cs 9800 12) (addN d 9800 559 12) := by
  obtain ⟨⟨p', go⟩, gg⟩ := turns (w := w) (os := os) k3 k4 k5 (n := 187) (TA := TA13 w.params) (it := 186) (gI := fun c r tk cp O => gI13 w os c r tk cp O k3 k4 k5) rfl (oT13 w.params) (fun c r tk cp O p => GI13 w os c r tk cp O p k3 k4 k5) (fun c r tk tk2 i j cp cp2 O O2 => GJ13 w os c r tk tk2 i j cp cp2 O O2 k3 k4 k5) 12 9800 559 cp d cs PQ g ha hz (by decide)
  exact ⟨(((GA13 w os cp (setO d) k3 k4 k5).trans (GS13 w os cp (setO d) k3 k4 k5)).trans go).trans (GE13 w os 595 (lastCp cp 9800 559 12) (setO (addN d 9800 559 12)) p' k3 k4 k5), gg⟩
theorem oT14 (P : Params) (i j : Int) (cp : Value) : Open1 97 (TA14 P i j cp) := ⟨fun O => by kernel_rfl, fun O f => by kernel_rfl⟩
theorem turn14 (w : World) (os : OsState) (k3 k4 k5 : KR) (d : SetD) (cs : List Nat) (cp : Value) (g : Good cs d) (ha : ∀ x, 9975 ≤ x → x < 9975 + 4 → x ∉ cs) (hz : cs.length + 4 < 500) :
    (Goes w (SD14 w.params os cp (setO d) 595) (outT w k3 k4 k5) (SD15 w.params os (lastCp cp 9975 600 4) (setO (addN d 9975 600 4)) 612) (outT w k3 k4 k5) 348) ∧ Good (csN cs 9975 4) (addN d 9975 600 4) := by
  obtain ⟨⟨p', go⟩, gg⟩ := turns (w := w) (os := os) k3 k4 k5 (n := 194) (TA := TA14 w.params) (it := 193) (gI := fun c r tk cp O => gI14 w os c r tk cp O k3 k4 k5) rfl (oT14 w.params) (fun c r tk cp O p => GI14 w os c r tk cp O p k3 k4 k5) (fun c r tk tk2 i j cp cp2 O O2 => GJ14 w os c r tk tk2 i j cp cp2 O O2 k3 k4 k5) 4 9975 600 cp d cs PQ g ha hz (by decide)
  exact ⟨(((GA14 w os cp (setO d) k3 k4 k5).trans (GS14 w os cp (setO d) k3 k4 k5)).trans go).trans (GE14 w os 612 (lastCp cp 9975 600 4) (setO (addN d 9975 600 4)) p' k3 k4 k5), gg⟩
theorem oT15 (P : Params) (i j : Int) (cp : Value) : Open1 97 (TA15 P i j cp) := ⟨fun O => by kernel_rfl, fun O f => by kernel_rfl⟩
theorem turn15 (w : World) (os : OsState) (k3 k4 k5 : KR) (d : SetD) (cs : List Nat) (cp : Value) (g : Good cs d) (ha : ∀ x, 9992 ≤ x → x < 9992 + 6 → x ∉ cs) (hz : cs.length + 6 < 500) :
    (Goes w (SD15 w.params os cp (setO d) 612) (outT w k3 k4 k5) (SD16 w.params os (lastCp cp 9992 617 6) (setO (addN d 9992 617 6)) 635) (outT w k3 k4 k5) 450) ∧ Good (csN cs 9992 6) (addN d 9992 617 6) := by
  obtain ⟨⟨p', go⟩, gg⟩ := turns (w := w) (os := os) k3 k4 k5 (n := 201) (TA := TA15 w.params) (it := 200) (gI := fun c r tk cp O => gI15 w os c r tk cp O k3 k4 k5) rfl (oT15 w.params) (fun c r tk cp O p => GI15 w os c r tk cp O p k3 k4 k5) (fun c r tk tk2 i j cp cp2 O O2 => GJ15 w os c r tk tk2 i j cp cp2 O O2 k3 k4 k5) 6 9992 617 cp d cs PQ g ha hz (by decide)
  exact ⟨(((GA15 w os cp (setO d) k3 k4 k5).trans (GS15 w os cp (setO d) k3 k4 k5)).trans go).trans (GE15 w os 635 (lastCp cp 9992 617 6) (setO (addN d 9992 617 6)) p' k3 k4 k5), gg⟩
theorem oT16 (P : Params) (i j : Int) (cp : Value) : Open1 97 (TA16 P i j cp) := ⟨fun O => by kernel_rfl, fun O f => by kernel_rfl⟩
theorem turn16 (w : World) (os : OsState) (k3 k4 k5 : KR) (d : SetD) (cs : List Nat) (cp : Value) (g : Good cs d) (ha : ∀ x, 10083 ≤ x → x < 10083 + 2 → x ∉ cs) (hz : cs.length + 2 < 500) :
    (Goes w (SD16 w.params os cp (setO d) 635) (outT w k3 k4 k5) (SD17 w.params os (lastCp cp 10083 640 2) (setO (addN d 10083 640 2)) 646) (outT w k3 k4 k5) 246) ∧ Good (csN cs 10083 2) (addN d 10083 640 2) := by
  obtain ⟨⟨p', go⟩, gg⟩ := turns (w := w) (os := os) k3 k4 k5 (n := 208) (TA := TA16 w.params) (it := 207) (gI := fun c r tk cp O => gI16 w os c r tk cp O k3 k4 k5) rfl (oT16 w.params) (fun c r tk cp O p => GI16 w os c r tk cp O p k3 k4 k5) (fun c r tk tk2 i j cp cp2 O O2 => GJ16 w os c r tk tk2 i j cp cp2 O O2 k3 k4 k5) 2 10083 640 cp d cs PQ g ha hz (by decide)
  exact ⟨(((GA16 w os cp (setO d) k3 k4 k5).trans (GS16 w os cp (setO d) k3 k4 k5)).trans go).trans (GE16 w os 646 (lastCp cp 10083 640 2) (setO (addN d 10083 640 2)) p' k3 k4 k5), gg⟩
theorem oT17 (P : Params) (i j : Int) (cp : Value) : Open1 97 (TA17 P i j cp) := ⟨fun O => by kernel_rfl, fun O f => by kernel_rfl⟩
theorem turn17 (w : World) (os : OsState) (k3 k4 k5 : KR) (d : SetD) (cs : List Nat) (cp : Value) (g : Good cs d) (ha : ∀ x, 12336 ≤ x → x < 12336 + 1 → x ∉ cs) (hz : cs.length + 1 < 500) :
    (Goes w (SD17 w.params os cp (setO d) 646) (outT w k3 k4 k5) (SD18 w.params os (lastCp cp 12336 651 1) (setO (addN d 12336 651 1)) 654) (outT w k3 k4 k5) 195) ∧ Good (csN cs 12336 1) (addN d 12336 651 1) := by
  obtain ⟨⟨p', go⟩, gg⟩ := turns (w := w) (os := os) k3 k4 k5 (n := 215) (TA := TA17 w.params) (it := 214) (gI := fun c r tk cp O => gI17 w os c r tk cp O k3 k4 k5) rfl (oT17 w.params) (fun c r tk cp O p => GI17 w os c r tk cp O p k3 k4 k5) (fun c r tk tk2 i j cp cp2 O O2 => GJ17 w os c r tk tk2 i j cp cp2 O O2 k3 k4 k5) 1 12336 651 cp d cs PQ g ha hz (by decide)
  exact ⟨(((GA17 w os cp (setO d) k3 k4 k5).trans (GS17 w os cp (setO d) k3 k4 k5)).trans go).trans (GE17 w os 654 (lastCp cp 12336 651 1) (setO (addN d 12336 651 1)) p' k3 k4 k5), gg⟩
theorem oT18 (P : Params) (i j : Int) (cp : Value) : Open1 97 (TA18 P i j cp) := ⟨fun O => by kernel_rfl, fun O f => by kernel_rfl⟩
theorem turn18 (w : World) (os : OsState) (k3 k4 k5 : KR) (d : SetD) (cs : List Nat) (cp : Value) (g : Good cs d) (ha : ∀ x, 12349 ≤ x → x < 12349 + 1 → x ∉ cs) (hz : cs.length + 1 < 500) :
    (Goes w (SD18 w.params os cp (setO d) 654) (outT w k3 k4 k5) (SD19 w.params os (lastCp cp 12349 659 1) (setO (addN d 12349 659 1)) 662) (outT w k3 k4 k5) 195) ∧ Good (csN cs 12349 1) (addN d 12349 659 1) := by
  obtain ⟨⟨p', go⟩, gg⟩ := turns (w := w) (os := os) k3 k4 k5 (n := 222) (TA := TA18 w.params) (it := 221) (gI := fun c r tk cp O => gI18 w os c r tk cp O k3 k4 k5) rfl (oT18 w.params) (fun c r tk cp O p => GI18 w os c r tk cp O p k3 k4 k5) (fun c r tk tk2 i j cp cp2 O O2 => GJ18 w os c r tk tk2 i j cp cp2 O O2 k3 k4 k5) 1 12349 659 cp d cs PQ g ha hz (by decide)
  exact ⟨(((GA18 w os cp (setO d) k3 k4 k5).trans (GS18 w os cp (setO d) k3 k4 k5)).trans go).trans (GE18 w os 662 (lastCp cp 12349 659 1) (setO (addN d 12349 659 1)) p' k3 k4 k5), gg⟩
theorem oT19 (P : Params) (i j : Int) (cp : Value) : Open1 97 (TA19 P i j cp) := ⟨fun O => by kernel_rfl, fun O f => by kernel_rfl⟩
theorem turn19 (w : World) (os : OsState) (k3 k4 k5 : KR) (d : SetD) (cs : List Nat) (cp : Value) (g : Good cs d) (ha : ∀ x, 126980 ≤ x → x < 126980 + 1 → x ∉ cs) (hz : cs.length + 1 < 500) :
    (Goes w (SD19 w.params os cp (setO d) 662) (outT w k3 k4 k5) (SD20 w.params os (lastCp cp 126980 667 1) (setO (addN d 126980 667 1)) 670) (outT w k3 k4 k5) 195) ∧ Good (csN cs 126980 1) (addN d 126980 667 1) := by
  obtain ⟨⟨p', go⟩, gg⟩ := turns (w := w) (os := os) k3 k4 k5 (n := 229) (TA := TA19 w.params) (it := 228) (gI := fun c r tk cp O => gI19 w os c r tk cp O k3 k4 k5) rfl (oT19 w.params) (fun c r tk cp O p => GI19 w os c r tk cp O p k3 k4 k5) (fun c r tk tk2 i j cp cp2 O O2 => GJ19 w os c r tk tk2 i j cp cp2 O O2 k3 k4 k5) 1 126980 667 cp d cs PQ g ha hz (by decide)
  exact ⟨(((GA19 w os cp (setO d) k3 k4 k5).trans (GS19 w os cp (setO d) k3 k4 k5)).trans go).trans (GE19 w os 670 (lastCp cp 126980 667 1) (setO (addN d 126980 667 1)) p' k3 k4 k5), gg⟩
theorem oT20 (P : Params) (i j : Int) (cp : Value) : Open1 97 (TA20 P i j cp) := ⟨fun O => by kernel_rfl, fun O f => by kernel_rfl⟩
theorem turn20 (w : World) (os : OsState) (k3 k4 k5 : KR) (d : SetD) (cs : List Nat) (cp : Value) (g : Good cs d) (ha : ∀ x, 127377 ≤ x → x < 127377 + 10 → x ∉ cs) (hz : cs.length + 10 < 500) :
    (Goes w (SD20 w.params os cp (setO d) 670) (outT w k3 k4 k5) (SD21 w.params os (lastCp cp 127377 675 10) (setO (addN d 127377 675 10)) 705) (outT w k3 k4 k5) 654) ∧ Good (csN cs 127377 10) (addN d 127377 675 10) := by
  obtain ⟨⟨p', go⟩, gg⟩ := turns (w := w) (os := os) k3 k4 k5 (n := 236) (TA := TA20 w.params) (it := 235) (gI := fun c r tk cp O => gI20 w os c r tk cp O k3 k4 k5) rfl (oT20 w.params) (fun c r tk cp O p => GI20 w os c r tk cp O p k3 k4 k5) (fun c r tk tk2 i j cp cp2 O O2 => GJ20 w os c r tk tk2 i j cp cp2 O O2 k3 k4 k5) 10 127377 675 cp d cs PQ g ha hz (by decide)
  exact ⟨(((GA20 w os cp (setO d) k3 k4 k5).trans (GS20 w os cp (setO d) k3 k4 k5)).trans go).trans (GE20 w os 705 (lastCp cp 127377 675 10) (setO (addN d 127377 675 10)) p' k3 k4 k5), gg⟩
theorem oT21 (P : Params) (i j : Int) (cp : Value) : Open1 97 (TA21 P i j cp) := ⟨fun O => by kernel_rfl, fun O f => by kernel_rfl⟩
theorem turn21 (w : World) (os : OsState) (k3 k4 k5 : KR) (d : SetD) (cs : List Nat) (cp : Value) (g : Good cs d) (ha : ∀ x, 127987 ≤ x → x < 127987 + 3 → x ∉ cs) (hz : cs.length + 3 < 500) :
    (Goes w (SD21 w.params os cp (setO d) 705) (outT w k3 k4 k5) (SD22 w.params os (lastCp cp 127987 710 3) (setO (addN d 127987 710 3)) 719) (outT w k3 k4 k5) 297) ∧ Good (csN cs 127987 3) (addN d 127987 710 3) := by
  obtain ⟨⟨p', go⟩, gg⟩ := turns (w := w) (os := os) k3 k4 k5 (n := 243) (TA := TA21 w.params) (it := 242) (gI := fun c r tk cp O => gI21 w os c r tk cp O k3 k4 k5) rfl (oT21 w.params) (fun c r tk cp O p => GI21 w os c r tk cp O p k3 k4 k5) (fun c r tk tk2 i j cp cp2 O O2 => GJ21 w os c r tk tk2 i j cp cp2 O O2 k3 k4 k5) 3 127987 710 cp d cs PQ g ha hz (by decide)
  exact ⟨(((GA21 w os cp (setO d) k3 k4 k5).trans (GS21 w os cp (setO d) k3 k4 k5)).trans go).trans (GE21 w os 719 (lastCp cp 127987 710 3) (setO (addN d 127987 710 3)) p' k3 k4 k5), gg⟩
theorem oT22 (P : Params) (i j : Int) (cp : Value) : Open1 97 (TA22 P i j cp) := ⟨fun O => by kernel_rfl, fun O f => by kernel_rfl⟩
theorem turn22 (w : World) (os : OsState) (k3 k4 k5 : KR) (d : SetD) (cs : List Nat) (cp : Value) (g : Good cs d) (ha : ∀ x, 127991 ≤ x → x < 127991 + 4 → x ∉ cs) (hz : cs.length + 4 < 500) :
    (Goes w (SD22 w.params os cp (setO d) 719) (outT w k3 k4 k5) (SD23 w.params os (lastCp cp 127991 724 4) (setO (addN d 127991 724 4)) 736) (outT w k3 k4 k5) 348) ∧ Good (csN cs 127991 4) (addN d 127991 724 4) := by
  obtain ⟨⟨p', go⟩, gg⟩ := turns (w := w) (os := os) k3 k4 k5 (n := 250) (TA := TA22 w.params) (it := 249) (gI := fun c r tk cp O => gI22 w os c r tk cp O k3 k4 k5) rfl (oT22 w.params) (fun c r tk cp O p => GI22 w os c r tk cp O p k3 k4 k5) (fun c r tk tk2 i j cp cp2 O O2 => GJ22 w os c r tk tk2 i j cp cp2 O O2 k3 k4 k5) 4 127991 724 cp d cs PQ g ha hz (by decide)
  exact ⟨(((GA22 w os cp (setO d) k3 k4 k5).trans (GS22 w os cp (setO d) k3 k4 k5)).trans go).trans (GE22 w os 736 (lastCp cp 127991 724 4) (setO (addN d 127991 724 4)) p' k3 k4 k5), gg⟩
theorem oT23 (P : Params) (i j : Int) (cp : Value) : Open1 97 (TA23 P i j cp) := ⟨fun O => by kernel_rfl, fun O f => by kernel_rfl⟩
theorem turn23 (w : World) (os : OsState) (k3 k4 k5 : KR) (d : SetD) (cs : List Nat) (cp : Value) (g : Good cs d) (ha : ∀ x, 128371 ≤ x → x < 128371 + 8 → x ∉ cs) (hz : cs.length + 8 < 500) :
    (Goes w (SD23 w.params os cp (setO d) 736) (outT w k3 k4 k5) (SD24 w.params os (lastCp cp 128371 741 8) (setO (addN d 128371 741 8)) 765) (outT w k3 k4 k5) 552) ∧ Good (csN cs 128371 8) (addN d 128371 741 8) := by
  obtain ⟨⟨p', go⟩, gg⟩ := turns (w := w) (os := os) k3 k4 k5 (n := 257) (TA := TA23 w.params) (it := 256) (gI := fun c r tk cp O => gI23 w os c r tk cp O k3 k4 k5) rfl (oT23 w.params) (fun c r tk cp O p => GI23 w os c r tk cp O p k3 k4 k5) (fun c r tk tk2 i j cp cp2 O O2 => GJ23 w os c r tk tk2 i j cp cp2 O O2 k3 k4 k5) 8 128371 741 cp d cs PQ g ha hz (by decide)
  exact ⟨(((GA23 w os cp (setO d) k3 k4 k5).trans (GS23 w os cp (setO d) k3 k4 k5)).trans go).trans (GE23 w os 765 (lastCp cp 128371 741 8) (setO (addN d 128371 741 8)) p' k3 k4 k5), gg⟩
theorem oT24 (P : Params) (i j : Int) (cp : Value) : Open1 97 (TA24 P i j cp) := ⟨fun O => by kernel_rfl, fun O f => by kernel_rfl⟩
theorem turn24 (w : World) (os : OsState) (k3 k4 k5 : KR) (d : SetD) (cs : List Nat) (cp : Value) (g : Good cs d) (ha : ∀ x, 128405 ≤ x → x < 128405 + 2 → x ∉ cs) (hz : cs.length + 2 < 500) :
    (Goes w (SD24 w.params os cp (setO d) 765) (outT w k3 k4 k5) (SD25 w.params os (lastCp cp 128405 770 2) (setO (addN d 128405 770 2)) 776) (outT w k3 k4 k5) 246) ∧ Good (csN cs 128405 2) (addN d 128405 770 2) := by
  obtain ⟨⟨p', go⟩, gg⟩ := turns (w := w) (os := os) k3 k4 k5 (n := 264) (TA := TA24 w.params) (it := 263) (gI := fun c r tk cp O => gI24 w os c r tk cp O k3 k4 k5) rfl (oT24 w.params) (fun c r tk cp O p => GI24 w os c r tk cp O p k3 k4 k5) (fun c r tk tk2 i j cp cp2 O O2 => GJ24 w os c r tk tk2 i j cp cp2 O O2 k3 k4 k5) 2 128405 770 cp d cs PQ g ha hz (by decide)
  exact ⟨(((GA24 w os cp (setO d) k3 k4 k5).trans (GS24 w os cp (setO d) k3 k4 k5)).trans go).trans (GE24 w os 776 (lastCp cp 128405 770 2) (setO (addN d 128405 770 2)) p' k3 k4 k5), gg⟩
theorem oT25 (P : Params) (i j : Int) (cp : Value) : Open1 97 (TA25 P i j cp) := ⟨fun O => by kernel_rfl, fun O f => by kernel_rfl⟩
theorem turn25 (w : World) (os : OsState) (k3 k4 k5 : KR) (d : SetD) (cs : List Nat) (cp : Value) (g : Good cs d) (ha : ∀ x, 128420 ≤ x → x < 128420 + 2 → x ∉ cs) (hz : cs.length + 2 < 500) :
    (Goes w (SD25 w.params os cp (setO d) 776) (outT w k3 k4 k5) (SD26 w.params os (lastCp cp 128420 781 2) (setO (addN d 128420 781 2)) 787) (outT w k3 k4 k5) 246) ∧ Good (csN cs 128420 2) (addN d 128420 781 2) := by
  obtain ⟨⟨p', go⟩, gg⟩ := turns (w := w) (os := os) k3 k4 k5 (n := 271) (TA := TA25 w.params) (it := 270) (gI := fun c r tk cp O => gI25 w os c r tk cp O k3 k4 k5) rfl (oT25 w.params) (fun c r tk cp O p => GI25 w os c r tk cp O p k3 k4 k5) (fun c r tk tk2 i j cp cp2 O O2 => GJ25 w os c r tk tk2 i j cp cp2 O O2 k3 k4 k5) 2 128420 781 cp d cs PQ g ha hz (by decide)
  exact ⟨(((GA25 w os cp (setO d) k3 k4 k5).trans (GS25 w os cp (setO d) k3 k4 k5)).trans go).trans (GE25 w os 787 (lastCp cp 128420 781 2) (setO (addN d 128420 781 2)) p' k3 k4 k5), gg⟩
theorem oT26 (P : Params) (i j : Int) (cp : Value) : Open1 97 (TA26 P i j cp) := ⟨fun O => by kernel_rfl, fun O f => by kernel_rfl⟩
theorem turn26 (w : World) (os : OsState) (k3 k4 k5 : KR) (d : SetD) (cs : List Nat) (cp : Value) (g : Good cs d) (ha : ∀ x, 128715 ≤ x → x < 128715 + 8 → x ∉ cs) (hz : cs.length + 8 < 500) :
    (Goes w (SD26 w.params os cp (setO d) 787) (outT w k3 k4 k5) (SD27 w.params os (lastCp cp 128715 792 8) (setO (addN d 128715 792 8)) 816) (outT w k3 k4 k5) 552) ∧ Good (csN cs 128715 8) (addN d 128715 792 8) := by
  obtain ⟨⟨p', go⟩, gg⟩ := turns (w := w) (os := os) k3 k4 k5 (n := 278) (TA := TA26 w.params) (it := 277) (gI := fun c r tk cp O => gI26 w os c r tk cp O k3 k4 k5) rfl (oT26 w.params) (fun c r tk cp O p => GI26 w os c r tk cp O p k3 k4 k5) (fun c r tk tk2 i j cp cp2 O O2 => GJ26 w os c r tk tk2 i j cp cp2 O O2 k3 k4 k5) 8 128715 792 cp d cs PQ g ha hz (by decide)
  exact ⟨(((GA26 w os cp (setO d) k3 k4 k5).trans (GS26 w os cp (setO d) k3 k4 k5)).trans go).trans (GE26 w os 816 (lastCp cp 128715 792 8) (setO (addN d 128715 792 8)) p' k3 k4 k5), gg⟩
theorem oT27 (P : Params) (i j : Int) (cp : Value) : Open1 97 (TA27 P i j cp) := ⟨fun O => by kernel_rfl, fun O f => by kernel_rfl⟩
theorem turn27 (w : World) (os : OsState) (k3 k4 k5 : KR) (d : SetD) (cs : List Nat) (cp : Value) (g : Good cs d) (ha : ∀ x, 128725 ≤ x → x < 128725 + 17 → x ∉ cs) (hz : cs.length + 17 < 500) :
    (Goes w (SD27 w.params os cp (setO d) 816) (outT w k3 k4 k5) (SD28 w.params os (lastCp cp 128725 821 17) (setO (addN d 128725 821 17)) 872) (outT w k3 k4 k5) 1011) ∧ Good (csN cs 128725 17) (addN d 128725 821 17) := by
  obtain ⟨⟨p', go⟩, gg⟩ := turns (w := w) (os := os) k3 k4 k5 (n := 285) (TA := TA27 w.params) (it := 284) (gI := fun c r tk cp O => gI27 w os c r tk cp O k3 k4 k5) rfl (oT27 w.params) (fun c r tk cp O p => GI27 w os c r tk cp O p k3 k4 k5) (fun c r tk tk2 i j cp cp2 O O2 => GJ27 w os c r tk tk2 i j cp cp2 O O2 k3 k4 k5) 17 128725 821 cp d cs PQ g ha hz (by decide)
  exact ⟨(((GA27 w os cp (setO d) k3 k4 k5).trans (GS27 w os cp (setO d) k3 k4 k5)).trans go).trans (GE27 w os 872 (lastCp cp 128725 821 17) (setO (addN d 128725 821 17)) p' k3 k4 k5), gg⟩
theorem oT28 (P : Params) (i j : Int) (cp : Value) : Open1 97 (TA28 P i j cp) := ⟨fun O => by kernel_rfl, fun O f => by kernel_rfl⟩
theorem turn28 (w : World) (os : OsState) (k3 k4 k5 : KR) (d : SetD) (cs : List Nat) (cp : Value) (g : Good cs d) (ha : ∀ x, 129340 ≤ x → x < 129340 + 10 → x ∉ cs) (hz : cs.length + 10 < 500) :
    (Goes w (SD28 w.params os cp (setO d) 872) (outT w k3 k4 k5) (SD29 w.params os (lastCp cp 129340 877 10) (setO (addN d 129340 877 10)) 907) (outT w k3 k4 k5) 654) ∧ Good (csN cs 129340 10) (addN d 129340 877 10) := by
  obtain ⟨⟨p', go⟩, gg⟩ := turns (w := w) (os := os) k3 k4 k5 (n := 292) (TA := TA28 w.params) (it := 291) (gI := fun c r tk cp O => gI28 w os c r tk cp O k3 k4 k5) rfl (oT28 w.params) (fun c r tk cp O p => GI28 w os c r tk cp O p k3 k4 k5) (fun c r tk tk2 i j cp cp2 O O2 => GJ28 w os c r tk tk2 i j cp cp2 O O2 k3 k4 k5) 10 129340 877 cp d cs PQ g ha hz (by decide)
  exact ⟨(((GA28 w os cp (setO d) k3 k4 k5).trans (GS28 w os cp (setO d) k3 k4 k5)).trans go).trans (GE28 w os 907 (lastCp cp 129340 877 10) (setO (addN d 129340 877 10)) p' k3 k4 k5), gg⟩
noncomputable def D0 (P : Params) : SetD := (⟨[]⟩, 0, ⟨7, ⟨[]⟩, ⟨[]⟩, 0, !P.followText "set-order", 0, true⟩)
theorem D0_good (P : Params) : Good [] (D0 P) := ⟨fun e he => (nomatch he), Nat.le_refl _, rfl, fun c hc => (nomatch hc)⟩
noncomputable def cs0 : List Nat := []
noncomputable def D1 (P : Params) : SetD := addN (D0 P) 169 400 1
noncomputable def cs1 : List Nat := csN cs0 169 1
noncomputable def D2 (P : Params) : SetD := addN (D1 P) 174 408 1
noncomputable def cs2 : List Nat := csN cs1 174 1
noncomputable def D3 (P : Params) : SetD := addN (D2 P) 8252 416 1
noncomputable def cs3 : List Nat := csN cs2 8252 1
noncomputable def D4 (P : Params) : SetD := addN (D3 P) 8596 424 6
noncomputable def cs4 : List Nat := csN cs3 8596 6
noncomputable def D5 (P : Params) : SetD := addN (D4 P) 8986 447 2
noncomputable def cs5 : List Nat := csN cs4 8986 2
noncomputable def D6 (P : Params) : SetD := addN (D5 P) 9193 458 11
noncomputable def cs6 : List Nat := csN cs5 9193 11
noncomputable def D7 (P : Params) : SetD := addN (D6 P) 9728 496 5
noncomputable def cs7 : List Nat := csN cs6 9728 5
noncomputable def D8 (P : Params) : SetD := addN (D7 P) 9748 516 2
noncomputable def cs8 : List Nat := csN cs7 9748 2
noncomputable def D9 (P : Params) : SetD := addN (D8 P) 9757 527 1
noncomputable def cs9 : List Nat := csN cs8 9757 1
noncomputable def D10 (P : Params) : SetD := addN (D9 P) 9760 535 1
noncomputable def cs10 : List Nat := csN cs9 9760 1
noncomputable def D11 (P : Params) : SetD := addN (D10 P) 9792 543 1
noncomputable def cs11 : List Nat := csN cs10 9792 1
noncomputable def D12 (P : Params) : SetD := addN (D11 P) 9794 551 1
noncomputable def cs12 : List Nat := csN cs11 9794 1
noncomputable def D13 (P : Params) : SetD := addN (D12 P) 9800 559 12
noncomputable def cs13 : List Nat := csN cs12 9800 12
noncomputable def D14 (P : Params) : SetD := addN (D13 P) 9975 600 4
noncomputable def cs14 : List Nat := csN cs13 9975 4
noncomputable def D15 (P : Params) : SetD := addN (D14 P) 9992 617 6
noncomputable def cs15 : List Nat := csN cs14 9992 6
noncomputable def D16 (P : Params) : SetD := addN (D15 P) 10083 640 2
noncomputable def cs16 : List Nat := csN cs15 10083 2
noncomputable def D17 (P : Params) : SetD := addN (D16 P) 12336 651 1
noncomputable def cs17 : List Nat := csN cs16 12336 1
noncomputable def D18 (P : Params) : SetD := addN (D17 P) 12349 659 1
noncomputable def cs18 : List Nat := csN cs17 12349 1
noncomputable def D19 (P : Params) : SetD := addN (D18 P) 126980 667 1
noncomputable def cs19 : List Nat := csN cs18 126980 1
noncomputable def D20 (P : Params) : SetD := addN (D19 P) 127377 675 10
noncomputable def cs20 : List Nat := csN cs19 127377 10
noncomputable def D21 (P : Params) : SetD := addN (D20 P) 127987 710 3
noncomputable def cs21 : List Nat := csN cs20 127987 3
noncomputable def D22 (P : Params) : SetD := addN (D21 P) 127991 724 4
noncomputable def cs22 : List Nat := csN cs21 127991 4
noncomputable def D23 (P : Params) : SetD := addN (D22 P) 128371 741 8
noncomputable def cs23 : List Nat := csN cs22 128371 8
noncomputable def D24 (P : Params) : SetD := addN (D23 P) 128405 770 2
noncomputable def cs24 : List Nat := csN cs23 128405 2
noncomputable def D25 (P : Params) : SetD := addN (D24 P) 128420 781 2
noncomputable def cs25 : List Nat := csN cs24 128420 2
noncomputable def D26 (P : Params) : SetD := addN (D25 P) 128715 792 8
noncomputable def cs26 : List Nat := csN cs25 128715 8
noncomputable def D27 (P : Params) : SetD := addN (D26 P) 128725 821 17
noncomputable def cs27 : List Nat := csN cs26 128725 17
noncomputable def D28 (P : Params) : SetD := addN (D27 P) 129340 877 10
noncomputable def cs28 : List Nat := csN cs27 129340 10
noncomputable def cp1 : Value := .int (.ofNat 169) 400
noncomputable def cp2 : Value := lastCp cp1 174 408 1
noncomputable def cp3 : Value := lastCp cp2 8252 416 1
noncomputable def cp4 : Value := lastCp cp3 8596 424 6
noncomputable def cp5 : Value := lastCp cp4 8986 447 2
noncomputable def cp6 : Value := lastCp cp5 9193 458 11
noncomputable def cp7 : Value := lastCp cp6 9728 496 5
noncomputable def cp8 : Value := lastCp cp7 9748 516 2
noncomputable def cp9 : Value := lastCp cp8 9757 527 1
noncomputable def cp10 : Value := lastCp cp9 9760 535 1
noncomputable def cp11 : Value := lastCp cp10 9792 543 1
noncomputable def cp12 : Value := lastCp cp11 9794 551 1
noncomputable def cp13 : Value := lastCp cp12 9800 559 12
noncomputable def cp14 : Value := lastCp cp13 9975 600 4
noncomputable def cp15 : Value := lastCp cp14 9992 617 6
noncomputable def cp16 : Value := lastCp cp15 10083 640 2
noncomputable def cp17 : Value := lastCp cp16 12336 651 1
noncomputable def cp18 : Value := lastCp cp17 12349 659 1
noncomputable def cp19 : Value := lastCp cp18 126980 667 1
noncomputable def cp20 : Value := lastCp cp19 127377 675 10
noncomputable def cp21 : Value := lastCp cp20 127987 710 3
noncomputable def cp22 : Value := lastCp cp21 127991 724 4
noncomputable def cp23 : Value := lastCp cp22 128371 741 8
noncomputable def cp24 : Value := lastCp cp23 128405 770 2
noncomputable def cp25 : Value := lastCp cp24 128420 781 2
noncomputable def cp26 : Value := lastCp cp25 128715 792 8
noncomputable def cp27 : Value := lastCp cp26 128725 821 17
noncomputable def cp28 : Value := lastCp cp27 129340 877 10
theorem chain1 (w : World) (os : OsState) (k3 k4 k5 : KR) : (Goes w (SL w.params os (O0 w.params)) (thr loopC PP (uf k3 k4 k5)) (SD2 w.params os cp1 (setO (D1 w.params)) 403) (outT w k3 k4 k5) 216) ∧ Good cs1 (D1 w.params) :=
  turn1 w os k3 k4 k5 (D0 w.params) (D0_good _)
theorem away2 : ∀ x, 174 ≤ x → x < 174 + 1 → x ∉ cs1 := by
  have h : (cs1.all fun y => decide (y < 174) || decide (174 + 1 ≤ y)) = true := by decide +kernel
  intro x h1 h2 h3
  have := List.all_eq_true.mp h x h3
  simp only [Bool.or_eq_true, decide_eq_true_eq] at this
  omega
theorem chain2 (w : World) (os : OsState) (k3 k4 k5 : KR) : (Goes w (SL w.params os (O0 w.params)) (thr loopC PP (uf k3 k4 k5)) (SD3 w.params os cp2 (setO (D2 w.params)) 411) (outT w k3 k4 k5) 411) ∧ Good cs2 (D2 w.params) := by
  obtain ⟨go, g⟩ := chain1 w os k3 k4 k5
  obtain ⟨go', g'⟩ := turn2 w os k3 k4 k5 (D1 w.params) cs1 cp1 g away2 (Nat.lt_of_le_of_lt (Nat.le_of_eq (show cs1.length + 1 = (cs1.length + 1) from rfl)) (by decide +kernel))
  exact ⟨go.trans go', g'⟩
theorem away3 : ∀ x, 8252 ≤ x → x < 8252 + 1 → x ∉ cs2 := by
  have h : (cs2.all fun y => decide (y < 8252) || decide (8252 + 1 ≤ y)) = true := by decide +kernel
  intro x h1 h2 h3
  have := List.all_eq_true.mp h x h3
  simp only [Bool.or_eq_true, decide_eq_true_eq] at this
  omega
theorem chain3 (w : World) (os : OsState) (k3 k4 k5 : KR) : (Goes w (SL w.params os (O0 w.params)) (thr loopC PP (uf k3 k4 k5)) (SD4 w.params os cp3 (setO (D3 w.params)) 419) (outT w k3 k4 k5) 606) ∧ Good cs3 (D3 w.params) := by
  obtain ⟨go, g⟩ := chain2 w os k3 k4 k5
  obtain ⟨go', g'⟩ := turn3 w os k3 k4 k5 (D2 w.params) cs2 cp2 g away3 (Nat.lt_of_le_of_lt (Nat.le_of_eq (show cs2.length + 1 = (cs2.length + 1) from rfl)) (by decide +kernel))
  exact ⟨go.trans go', g'⟩
theorem away4 : ∀ x, 8596 ≤ x → x < 8596 + 6 → x ∉ cs3 := by
  have h : (cs3.all fun y => decide (y < 8596) || decide (8596 + 6 ≤ y)) = true := by decide +kernel
  intro x h1 h2 h3
  have := List.all_eq_true.mp h x h3
  simp only [Bool.or_eq_true, decide_eq_true_eq] at this
  omega
theorem chain4 (w : World) (os : OsState) (k3 k4 k5 : KR) : (Goes w (SL w.params os (O0 w.params)) (thr loopC PP (uf k3 k4 k5)) (SD5 w.params os cp4 (setO (D4 w.params)) 442) (outT w k3 k4 k5) 1056) ∧ Good cs4 (D4 w.params) := by
  obtain ⟨go, g⟩ := chain3 w os k3 k4 k5
  obtain ⟨go', g'⟩ := turn4 w os k3 k4 k5 (D3 w.params) cs3 cp3 g away4 (Nat.lt_of_le_of_lt (Nat.le_of_eq (show cs3.length + 6 = (cs3.length + 6) from rfl)) (by decide +kernel))
  exact ⟨go.trans go', g'⟩
theorem away5 : ∀ x, 8986 ≤ x → x < 8986 + 2 → x ∉ cs4 := by
  have h : (cs4.all fun y => decide (y < 8986) || decide (8986 + 2 ≤ y)) = true := by decide +kernel
  intro x h1 h2 h3
  have := List.all_eq_true.mp h x h3
  simp only [Bool.or_eq_true, decide_eq_true_eq] at this
  omega
theorem chain5 (w : World) (os : OsState) (k3 k4 k5 : KR) : (Goes w (SL w.params os (O0 w.params)) (thr loopC PP (uf k3 k4 k5)) (SD6 w.params os cp5 (setO (D5 w.params)) 453) (outT w k3 k4 k5) 1302) ∧ Good cs5 (D5 w.params) := by
  obtain ⟨go, g⟩ := chain4 w os k3 k4 k5
  obtain ⟨go', g'⟩ := turn5 w os k3 k4 k5 (D4 w.params) cs4 cp4 g away5 (Nat.lt_of_le_of_lt (Nat.le_of_eq (show cs4.length + 2 = (cs4.length + 2) from rfl)) (by decide +kernel))
  exact ⟨go.trans go', g'⟩
theorem away6 : ∀ x, 9193 ≤ x → x < 9193 + 11 → x ∉ cs5 := by
  have h : (cs5.all fun y => decide (y < 9193) || decide (9193 + 11 ≤ y)) = true := by decide +kernel
  intro x h1 h2 h3
  have := List.all_eq_true.mp h x h3
  simp only [Bool.or_eq_true, decide_eq_true_eq] at this
  omega
theorem chain6 (w : World) (os : OsState) (k3 k4 k5 : KR) : (Goes w (SL w.params os (O0 w.params)) (thr loopC PP (uf k3 k4 k5)) (SD7 w.params os cp6 (setO (D6 w.params)) 491) (outT w k3 k4 k5) 2007) ∧ Good cs6 (D6 w.params) := by
  obtain ⟨go, g⟩ := chain5 w os k3 k4 k5
  obtain ⟨go', g'⟩ := turn6 w os k3 k4 k5 (D5 w.params) cs5 cp5 g away6 (Nat.lt_of_le_of_lt (Nat.le_of_eq (show cs5.length + 11 = (cs5.length + 11) from rfl)) (by decide +kernel))
  exact ⟨go.trans go', g'⟩
theorem away7 : ∀ x, 9728 ≤ x → x < 9728 + 5 → x ∉ cs6 := by
  have h : (cs6.all fun y => decide (y < 9728) || decide (9728 + 5 ≤ y)) = true := by decide +kernel
  intro x h1 h2 h3
  have := List.all_eq_true.mp h x h3
  simp only [Bool.or_eq_true, decide_eq_true_eq] at this
  omega
theorem chain7 (w : World) (os : OsState) (k3 k4 k5 : KR) : (Goes w (SL w.params os (O0 w.params)) (thr loopC PP (uf k3 k4 k5)) (SD8 w.params os cp7 (setO (D7 w.params)) 511) (outT w k3 k4 k5) 2406) ∧ Good cs7 (D7 w.params) := by
  obtain ⟨go, g⟩ := chain6 w os k3 k4 k5
  obtain ⟨go', g'⟩ := turn7 w os k3 k4 k5 (D6 w.params) cs6 cp6 g away7 (Nat.lt_of_le_of_lt (Nat.le_of_eq (show cs6.length + 5 = (cs6.length + 5) from rfl)) (by decide +kernel))
  exact ⟨go.trans go', g'⟩
theorem away8 : ∀ x, 9748 ≤ x → x < 9748 + 2 → x ∉ cs7 := by
  have h : (cs7.all fun y => decide (y < 9748) || decide (9748 + 2 ≤ y)) = true := by decide +kernel
  intro x h1 h2 h3
  have := List.all_eq_true.mp h x h3
  simp only [Bool.or_eq_true, decide_eq_true_eq] at this
  omega
theorem chain8 (w : World) (os : OsState) (k3 k4 k5 : KR) : (Goes w (SL w.params os (O0 w.params)) (thr loopC PP (uf k3 k4 k5)) (SD9 w.params os cp8 (setO (D8 w.params)) 522) (outT w k3 k4 k5) 2652) ∧ Good cs8 (D8 w.params) := by
  obtain ⟨go, g⟩ := chain7 w os k3 k4 k5
  obtain ⟨go', g'⟩ := turn8 w os k3 k4 k5 (D7 w.params) cs7 cp7 g away8 (Nat.lt_of_le_of_lt (Nat.le_of_eq (show cs7.length + 2 = (cs7.length + 2) from rfl)) (by decide +kernel))
  exact ⟨go.trans go', g'⟩
theorem away9 : ∀ x, 9757 ≤ x → x < 9757 + 1 → x ∉ cs8 := by
  have h : (cs8.all fun y => decide (y < 9757) || decide (9757 + 1 ≤ y)) = true := by decide +kernel
  intro x h1 h2 h3
  have := List.all_eq_true.mp h x h3
  simp only [Bool.or_eq_true, decide_eq_true_eq] at this
  omega
theorem chain9 (w : World) (os : OsState) (k3 k4 k5 : KR) : (Goes w (SL w.params os (O0 w.params)) (thr loopC PP (uf k3 k4 k5)) (SD10 w.params os cp9 (setO (D9 w.params)) 530) (outT w k3 k4 k5) 2847) ∧ Good cs9 (D9 w.params) := by
  obtain ⟨go, g⟩ := chain8 w os k3 k4 k5
  obtain ⟨go', g'⟩ := turn9 w os k3 k4 k5 (D8 w.params) cs8 cp8 g away9 (Nat.lt_of_le_of_lt (Nat.le_of_eq (show cs8.length + 1 = (cs8.length + 1) from rfl)) (by decide +kernel))
  exact ⟨go.trans go', g'⟩
theorem away10 : ∀ x, 9760 ≤ x → x < 9760 + 1 → x ∉ cs9 := by
  have h : (cs9.all fun y => decide (y < 9760) || decide (9760 + 1 ≤ y)) = true := by decide +kernel
  intro x h1 h2 h3
  have := List.all_eq_true.mp h x h3
  simp only [Bool.or_eq_true, decide_eq_true_eq] at this
  omega
theorem chain10 (w : World) (os : OsState) (k3 k4 k5 : KR) : (Goes w (SL w.params os (O0 w.params)) (thr loopC PP (uf k3 k4 k5)) (SD11 w.params os cp10 (setO (D10 w.params)) 538) (outT w k3 k4 k5) 3042) ∧ Good cs10 (D10 w.params) := by
  obtain ⟨go, g⟩ := chain9 w os k3 k4 k5
  obtain ⟨go', g'⟩ := turn10 w os k3 k4 k5 (D9 w.params) cs9 cp9 g away10 (Nat.lt_of_le_of_lt (Nat.le_of_eq (show cs9.length + 1 = (cs9.length + 1) from rfl)) (by decide +kernel))
  exact ⟨go.trans go', g'⟩
theorem away11 : ∀ x, 9792 ≤ x → x < 9792 + 1 → x ∉ cs10 := by
  have h : (cs10.all fun y => decide (y < 9792) || decide (9792 + 1 ≤ y)) = true := by decide +kernel
  intro x h1 h2 h3
  have := List.all_eq_true.mp h x h3
  simp only [Bool.or_eq_true, decide_eq_true_eq] at this
  omega
theorem chain11 (w : World) (os : OsState) (k3 k4 k5 : KR) : (Goes w (SL w.params os (O0 w.params)) (thr loopC PP (uf k3 k4 k5)) (SD12 w.params os cp11 (setO (D11 w.params)) 546) (outT w k3 k4 k5) 3237) ∧ Good cs11 (D11 w.params) := by
  obtain ⟨go, g⟩ := chain10 w os k3 k4 k5
  obtain ⟨go', g'⟩ := turn11 w os k3 k4 k5 (D10 w.params) cs10 cp10 g away11 (Nat.lt_of_le_of_lt (Nat.le_of_eq (show cs10.length + 1 = (cs10.length + 1) from rfl)) (by decide +kernel))
  exact ⟨go.trans go', g'⟩
theorem away12 : ∀ x, 9794 ≤ x → x < 9794 + 1 → x ∉ cs11 := by
  have h : (cs11.all fun y => decide (y < 9794) || decide (9794 + 1 ≤ y)) = true := by decide +kernel
  intro x h1 h2 h3
  have := List.all_eq_true.mp h x h3
  simp only [Bool.or_eq_true, decide_eq_true_eq] at this
  omega
theorem chain12 (w : World) (os : OsState) (k3 k4 k5 : KR) : (Goes w (SL w.params os (O0 w.params)) (thr loopC PP (uf k3 k4 k5)) (SD13 w.params os cp12 (setO (D12 w.params)) 554) (outT w k3 k4 k5) 3432) ∧ Good cs12 (D12 w.params) := by
  obtain ⟨go, g⟩ := chain11 w os k3 k4 k5
  obtain ⟨go', g'⟩ := turn12 w os k3 k4 k5 (D11 w.params) cs11 cp11 g away12 (Nat.lt_of_le_of_lt (Nat.le_of_eq (show cs11.length + 1 = (cs11.length + 1) from rfl)) (by decide +kernel))
  exact ⟨go.trans go', g'⟩
theorem away13 : ∀ x, 9800 ≤ x → x < 9800 + 12 → x ∉ cs12 := by
  have h : (cs12.all fun y => decide (y < 9800) || decide (9800 + 12 ≤ y)) = true := by decide +kernel
  intro x h1 h2 h3
  have := List.all_eq_true.mp h x h3
  simp only [Bool.or_eq_true, decide_eq_true_eq] at this
  omega
theorem chain13 (w : World) (os : OsState) (k3 k4 k5 : KR) : (Goes w (SL w.params os (O0 w.params)) (thr loopC PP (uf k3 k4 k5)) (SD14 w.params os cp13 (setO (D13 w.params)) 595) (outT w k3 k4 k5) 4188) ∧ Good cs13 (D13 w.params) := by
  obtain ⟨go, g⟩ := chain12 w os k3 k4 k5
  obtain ⟨go', g'⟩ := turn13 w os k3 k4 k5 (D12 w.params) cs12 cp12 g away13 (Nat.lt_of_le_of_lt (Nat.le_of_eq (show cs12.length + 12 = (cs12.length + 12) from rfl)) (by decide +kernel))
  exact ⟨go.trans go', g'⟩
theorem away14 : ∀ x, 9975 ≤ x → x < 9975 + 4 → x ∉ cs13 := by
  have h : (cs13.all fun y => decide (y < 9975) || decide (9975 + 4 ≤ y)) = true := by decide +kernel
  intro x h1 h2 h3
  have := List.all_eq_true.mp h x h3
  simp only [Bool.or_eq_true, decide_eq_true_eq] at this
  omega
theorem chain14 (w : World) (os : OsState) (k3 k4 k5 : KR) : (Goes w (SL w.params os (O0 w.params)) (thr loopC PP (uf k3 k4 k5)) (SD15 w.params os cp14 (setO (D14 w.params)) 612) (outT w k3 k4 k5) 4536) ∧ Good cs14 (D14 w.params) := by
  obtain ⟨go, g⟩ := chain13 w os k3 k4 k5
  obtain ⟨go', g'⟩ := turn14 w os k3 k4 k5 (D13 w.params) cs13 cp13 g away14 (Nat.lt_of_le_of_lt (Nat.le_of_eq (show cs13.length + 4 = (cs13.length + 4) from rfl)) (by decide +kernel))
  exact ⟨go.trans go', g'⟩
theorem away15 : ∀ x, 9992 ≤ x → x < 9992 + 6 → x ∉ cs14 := by
  have h : (cs14.all fun y => decide (y < 9992) || decide (9992 + 6 ≤ y)) = true := by decide +kernel
  intro x h1 h2 h3
  have := List.all_eq_true.mp h x h3
  simp only [Bool.or_eq_true, decide_eq_true_eq] at this
  omega
theorem chain15 (w : World) (os : OsState) (k3 k4 k5 : KR) : (Goes w (SL w.params os (O0 w.params)) (thr loopC PP (uf k3 k4 k5)) (SD16 w.params os cp15 (setO (D15 w.params)) 635) (outT w k3 k4 k5) 4986) ∧ Good cs15 (D15 w.params) := by
  obtain ⟨go, g⟩ := chain14 w os k3 k4 k5
  obtain ⟨go', g'⟩ := turn15 w os k3 k4 k5 (D14 w.params) cs14 cp14 g away15 (Nat.lt_of_le_of_lt (Nat.le_of_eq (show cs14.length + 6 = (cs14.length + 6) from rfl)) (by decide +kernel))
  exact ⟨go.trans go', g'⟩
theorem away16 : ∀ x, 10083 ≤ x → x < 10083 + 2 → x ∉ cs15 := by
  have h : (cs15.all fun y => decide (y < 10083) || decide (10083 + 2 ≤ y)) = true := by decide +kernel
  intro x h1 h2 h3
  have := List.all_eq_true.mp h x h3
  simp only [Bool.or_eq_true, decide_eq_true_eq] at this
  omega
theorem chain16 (w : World) (os : OsState) (k3 k4 k5 : KR) : (Goes w (SL w.params os (O0 w.params)) (thr loopC PP (uf k3 k4 k5)) (SD17 w.params os cp16 (setO (D16 w.params)) 646) (outT w k3 k4 k5) 5232) ∧ Good cs16 (D16 w.params) := by
  obtain ⟨go, g⟩ := chain15 w os k3 k4 k5
  obtain ⟨go', g'⟩ := turn16 w os k3 k4 k5 (D15 w.params) cs15 cp15 g away16 (Nat.lt_of_le_of_lt (Nat.le_of_eq (show cs15.length + 2 = (cs15.length + 2) from rfl)) (by decide +kernel))
  exact ⟨go.trans go', g'⟩
theorem away17 : ∀ x, 12336 ≤ x → x < 12336 + 1 → x ∉ cs16 := by
  have h : (cs16.all fun y => decide (y < 12336) || decide (12336 + 1 ≤ y)) = true := by decide +kernel
  intro x h1 h2 h3
  have := List.all_eq_true.mp h x h3
  simp only [Bool.or_eq_true, decide_eq_true_eq] at this
  omega
theorem chain17 (w : World) (os : OsState) (k3 k4 k5 : KR) : (Goes w (SL w.params os (O0 w.params)) (thr loopC PP (uf k3 k4 k5)) (SD18 w.params os cp17 (setO (D17 w.params)) 654) (outT w k3 k4 k5) 5427) ∧ Good cs17 (D17 w.params) := by
  obtain ⟨go, g⟩ := chain16 w os k3 k4 k5
  obtain ⟨go', g'⟩ := turn17 w os k3 k4 k5 (D16 w.params) cs16 cp16 g away17 (Nat.lt_of_le_of_lt (Nat.le_of_eq (show cs16.length + 1 = (cs16.length + 1) from rfl)) (by decide +kernel))
  exact ⟨go.trans go', g'⟩
theorem away18 : ∀ x, 12349 ≤ x → x < 12349 + 1 → x ∉ cs17 := by
  have h : (cs17.all fun y => decide (y < 12349) || decide (12349 + 1 ≤ y)) = true := by decide +kernel
  intro x h1 h2 h3
  have := List.all_eq_true.mp h x h3
  simp only [Bool.or_eq_true, decide_eq_true_eq] at this
  omega
theorem chain18 (w : World) (os : OsState) (k3 k4 k5 : KR) : (Goes w (SL w.params os (O0 w.params)) (thr loopC PP (uf k3 k4 k5)) (SD19 w.params os cp18 (setO (D18 w.params)) 662) (outT w k3 k4 k5) 5622) ∧ Good cs18 (D18 w.params) := by
  obtain ⟨go, g⟩ := chain17 w os k3 k4 k5
  obtain ⟨go', g'⟩ := turn18 w os k3 k4 k5 (D17 w.params) cs17 cp17 g away18 (Nat.lt_of_le_of_lt (Nat.le_of_eq (show cs17.length + 1 = (cs17.length + 1) from rfl)) (by decide +kernel))
  exact ⟨go.trans go', g'⟩
theorem away19 : ∀ x, 126980 ≤ x → x < 126980 + 1 → x ∉ cs18 := by
  have h : (cs18.all fun y => decide (y < 126980) || decide (126980 + 1 ≤ y)) = true := by decide +kernel
  intro x h1 h2 h3
  have := List.all_eq_true.mp h x h3
  simp only [Bool.or_eq_true, decide_eq_true_eq] at this
  omega
theorem chain19 (w : World) (os : OsState) (k3 k4 k5 : KR) : (Goes w (SL w.params os (O0 w.params)) (thr loopC PP (uf k3 k4 k5)) (SD20 w.params os cp19 (setO (D19 w.params)) 670) (outT w k3 k4 k5) 5817) ∧ Good cs19 (D19 w.params) := by
  obtain ⟨go, g⟩ := chain18 w os k3 k4 k5
  obtain ⟨go', g'⟩ := turn19 w os k3 k4 k5 (D18 w.params) cs18 cp18 g away19 (Nat.lt_of_le_of_lt (Nat.le_of_eq (show cs18.length + 1 = (cs18.length + 1) from rfl)) (by decide +kernel))
  exact ⟨go.trans go', g'⟩
theorem away20 : ∀ x, 127377 ≤ x → x < 127377 + 10 → x ∉ cs19 := by
  have h : (cs19.all fun y => decide (y < 127377) || decide (127377 + 10 ≤ y)) = true := by decide +kernel
  intro x h1 h2 h3
  have := List.all_eq_true.mp h x h3
  simp only [Bool.or_eq_true, decide_eq_true_eq] at this
  omega
theorem chain20 (w : World) (os : OsState) (k3 k4 k5 : KR) : (Goes w (SL w.params os (O0 w.params)) (thr loopC PP (uf k3 k4 k5)) (SD21 w.params os cp20 (setO (D20 w.params)) 705) (outT w k3 k4 k5) 6471) ∧ Good cs20 (D20 w.params) := by
  obtain ⟨go, g⟩ := chain19 w os k3 k4 k5
  obtain ⟨go', g'⟩ := turn20 w os k3 k4 k5 (D19 w.params) cs19 cp19 g away20 (Nat.lt_of_le_of_lt (Nat.le_of_eq (show cs19.length + 10 = (cs19.length + 10) from rfl)) (by decide +kernel))
  exact ⟨go.trans go', g'⟩
theorem away21 : ∀ x, 127987 ≤ x → x < 127987 + 3 → x ∉ cs20 := by
  have h : (cs20.all fun y => decide (y < 127987) || decide (127987 + 3 ≤ y)) = true := by decide +kernel
  intro x h1 h2 h3
  have := List.all_eq_true.mp h x h3
  simp only [Bool.or_eq_true, decide_eq_true_eq] at this
  omega
theorem chain21 (w : World) (os : OsState) (k3 k4 k5 : KR) : (Goes w (SL w.params os (O0 w.params)) (thr loopC PP (uf k3 k4 k5)) (SD22 w.params os cp21 (setO (D21 w.params)) 719) (outT w k3 k4 k5) 6768) ∧ Good cs21 (D21 w.params) := by
  obtain ⟨go, g⟩ := chain20 w os k3 k4 k5
  obtain ⟨go', g'⟩ := turn21 w os k3 k4 k5 (D20 w.params) cs20 cp20 g away21 (Nat.lt_of_le_of_lt (Nat.le_of_eq (show cs20.length + 3 = (cs20.length + 3) from rfl)) (by decide +kernel))
  exact ⟨go.trans go', g'⟩
theorem away22 : ∀ x, 127991 ≤ x → x < 127991 + 4 → x ∉ cs21 := by
  have h : (cs21.all fun y => decide (y < 127991) || decide (127991 + 4 ≤ y)) = true := by decide +kernel
  intro x h1 h2 h3
  have := List.all_eq_true.mp h x h3
  simp only [Bool.or_eq_true, decide_eq_true_eq] at this
  omega
theorem chain22 (w : World) (os : OsState) (k3 k4 k5 : KR) : (Goes w (SL w.params os (O0 w.params)) (thr loopC PP (uf k3 k4 k5)) (SD23 w.params os cp22 (setO (D22 w.params)) 736) (outT w k3 k4 k5) 7116) ∧ Good cs22 (D22 w.params) := by
  obtain ⟨go, g⟩ := chain21 w os k3 k4 k5
  obtain ⟨go', g'⟩ := turn22 w os k3 k4 k5 (D21 w.params) cs21 cp21 g away22 (Nat.lt_of_le_of_lt (Nat.le_of_eq (show cs21.length + 4 = (cs21.length + 4) from rfl)) (by decide +kernel))
  exact ⟨go.trans go', g'⟩
theorem away23 : ∀ x, 128371 ≤ x → x < 128371 + 8 → x ∉ cs22 := by
  have h : (cs22.all fun y => decide (y < 128371) || decide (128371 + 8 ≤ y)) = true := by decide +kernel
  intro x h1 h2 h3
  have := List.all_eq_true.mp h x h3
  simp only [Bool.or_eq_true, decide_eq_true_eq] at this
  omega
theorem chain23 (w : World) (os : OsState) (k3 k4 k5 : KR) : (Goes w (SL w.params os (O0 w.params)) (thr loopC PP (uf k3 k4 k5)) (SD24 w.params os cp23 (setO (D23 w.params)) 765) (outT w k3 k4 k5) 7668) ∧ Good cs23 (D23 w.params) := by
  obtain ⟨go, g⟩ := chain22 w os k3 k4 k5
  obtain ⟨go', g'⟩ := turn23 w os k3 k4 k5 (D22 w.params) cs22 cp22 g away23 (Nat.lt_of_le_of_lt (Nat.le_of_eq (show cs22.length + 8 = (cs22.length + 8) from rfl)) (by decide +kernel))
  exact ⟨go.trans go', g'⟩
theorem away24 : ∀ x, 128405 ≤ x → x < 128405 + 2 → x ∉ cs23 := by
  have h : (cs23.all fun y => decide (y < 128405) || decide (128405 + 2 ≤ y)) = true := by decide +kernel
  intro x h1 h2 h3
  have := List.all_eq_true.mp h x h3
  simp only [Bool.or_eq_true, decide_eq_true_eq] at this
  omega
theorem chain24 (w : World) (os : OsState) (k3 k4 k5 : KR) : (Goes w (SL w.params os (O0 w.params)) (thr loopC PP (uf k3 k4 k5)) (SD25 w.params os cp24 (setO (D24 w.params)) 776) (outT w k3 k4 k5) 7914) ∧ Good cs24 (D24 w.params) := by
  obtain ⟨go, g⟩ := chain23 w os k3 k4 k5
  obtain ⟨go', g'⟩ := turn24 w os k3 k4 k5 (D23 w.params) cs23 cp23 g away24 (Nat.lt_of_le_of_lt (Nat.le_of_eq (show cs23.length + 2 = (cs23.length + 2) from rfl)) (by decide +kernel))
  exact ⟨go.trans go', g'⟩
theorem away25 : ∀ x, 128420 ≤ x → x < 128420 + 2 → x ∉ cs24 := by
  have h : (cs24.all fun y => decide (y < 128420) || decide (128420 + 2 ≤ y)) = true := by decide +kernel
  intro x h1 h2 h3
  have := List.all_eq_true.mp h x h3
  simp only [Bool.or_eq_true, decide_eq_true_eq] at this
  omega
theorem chain25 (w : World) (os : OsState) (k3 k4 k5 : KR) : (Goes w (SL w.params os (O0 w.params)) (thr loopC PP (uf k3 k4 k5)) (SD26 w.params os cp25 (setO (D25 w.params)) 787) (outT w k3 k4 k5) 8160) ∧ Good cs25 (D25 w.params) := by
  obtain ⟨go, g⟩ := chain24 w os k3 k4 k5
  obtain ⟨go', g'⟩ := turn25 w os k3 k4 k5 (D24 w.params) cs24 cp24 g away25 (Nat.lt_of_le_of_lt (Nat.le_of_eq (show cs24.length + 2 = (cs24.length + 2) from rfl)) (by decide +kernel))
  exact ⟨go.trans go', g'⟩
theorem away26 : ∀ x, 128715 ≤ x → x < 128715 + 8 → x ∉ cs25 := by
  have h : (cs25.all fun y => decide (y < 128715) || decide (128715 + 8 ≤ y)) = true := by decide +kernel
  intro x h1 h2 h3
  have := List.all_eq_true.mp h x h3
  simp only [Bool.or_eq_true, decide_eq_true_eq] at this
  omega
theorem chain26 (w : World) (os : OsState) (k3 k4 k5 : KR) : (Goes w (SL w.params os (O0 w.params)) (thr loopC PP (uf k3 k4 k5)) (SD27 w.params os cp26 (setO (D26 w.params)) 816) (outT w k3 k4 k5) 8712) ∧ Good cs26 (D26 w.params) := by
  obtain ⟨go, g⟩ := chain25 w os k3 k4 k5
  obtain ⟨go', g'⟩ := turn26 w os k3 k4 k5 (D25 w.params) cs25 cp25 g away26 (Nat.lt_of_le_of_lt (Nat.le_of_eq (show cs25.length + 8 = (cs25.length + 8) from rfl)) (by decide +kernel))
  exact ⟨go.trans go', g'⟩
theorem away27 : ∀ x, 128725 ≤ x → x < 128725 + 17 → x ∉ cs26 := by
  have h : (cs26.all fun y => decide (y < 128725) || decide (128725 + 17 ≤ y)) = true := by decide +kernel
  intro x h1 h2 h3
  have := List.all_eq_true.mp h x h3
  simp only [Bool.or_eq_true, decide_eq_true_eq] at this
  omega
theorem chain27 (w : World) (os : OsState) (k3 k4 k5 : KR) : (Goes w (SL w.params os (O0 w.params)) (thr loopC PP (uf k3 k4 k5)) (SD28 w.params os cp27 (setO (D27 w.params)) 872) (outT w k3 k4 k5) 9723) ∧ Good cs27 (D27 w.params) := by
  obtain ⟨go, g⟩ := chain26 w os k3 k4 k5
  obtain ⟨go', g'⟩ := turn27 w os k3 k4 k5 (D26 w.params) cs26 cp26 g away27 (Nat.lt_of_le_of_lt (Nat.le_of_eq (show cs26.length + 17 = (cs26.length + 17) from rfl)) (by decide +kernel))
  exact ⟨go.trans go', g'⟩
theorem away28 : ∀ x, 129340 ≤ x → x < 129340 + 10 → x ∉ cs27 := by
  have h : (cs27.all fun y => decide (y < 129340) || decide (129340 + 10 ≤ y)) = true := by decide +kernel
  intro x h1 h2 h3
  have := List.all_eq_true.mp h x h3
  simp only [Bool.or_eq_true, decide_eq_true_eq] at this
  omega
theorem chain28 (w : World) (os : OsState) (k3 k4 k5 : KR) : (Goes w (SL w.params os (O0 w.params)) (thr loopC PP (uf k3 k4 k5)) (SD29 w.params os cp28 (setO (D28 w.params)) 907) (outT w k3 k4 k5) 10377) ∧ Good cs28 (D28 w.params) := by
  obtain ⟨go, g⟩ := chain27 w os k3 k4 k5
  obtain ⟨go', g'⟩ := turn28 w os k3 k4 k5 (D27 w.params) cs27 cp27 g away28 (Nat.lt_of_le_of_lt (Nat.le_of_eq (show cs27.length + 10 = (cs27.length + 10) from rfl)) (by decide +kernel))
  exact ⟨go.trans go', g'⟩
end Mine
end
section
open PySem PySem.W PyProof.Rows
set_option maxRecDepth 100000
set_option maxHeartbeats 400000
set_option linter.unusedVariables false
set_option profiler true
set_option profiler.threshold 500
namespace Mine
theorem insertAt_list {α : Type} (xs : List α) (p : Nat) (x : α) : SetTable.insertAt ⟨xs⟩ p x = (⟨xs.take p ++ x :: xs.drop p⟩ : Array α) := by
  apply Array.toList_inj.mp
  unfold SetTable.insertAt
  rw [Array.toList_append, Array.toList_push, Array.toList_extract, Array.toList_extract]
  simp only [List.extract_eq_take_drop, List.drop_zero, Nat.sub_zero, List.append_assoc, List.singleton_append]
  show _ ++ x :: List.take (xs.length - p) (List.drop p xs) = _
  rw [List.take_of_length_le (Nat.le_of_eq (List.length_drop ..))]
theorem addO_fast {es : List (Int × Value)} {pl : List Nat} {mask fg mv n slot p : Nat} {led pn : Bool} {h : Int} {x : Value}
    (h1 : (⟨mask, ⟨pl⟩, ⟨[]⟩, fg, led, mv, pn⟩ : SetTable).freeSlot h = some (slot, false)) (h2 : SetTable.below ⟨pl⟩ slot = p) (h3 : pl.length = es.length) (hp : p ≤ pl.length) (h4 : pl.length + 1 ≤ mask) (h5 : (pl.length + 1) * 5 < mask * 3) :
    addO (⟨es⟩, n, ⟨mask, ⟨pl⟩, ⟨[]⟩, fg, led, mv, pn⟩) h x = (⟨es.take p ++ (h, x) :: es.drop p⟩, n + 1, ⟨mask, ⟨pl.take p ++ slot :: pl.drop p⟩, ⟨[]⟩, fg, led, mv, pn⟩) := by
  have hput : (⟨mask, ⟨pl⟩, ⟨[]⟩, fg, led, mv, pn⟩ : SetTable).put slot = (⟨mask, ⟨pl.take p ++ slot :: pl.drop p⟩, ⟨[]⟩, fg, led, mv, pn⟩, p) := by
    unfold SetTable.put
    dsimp only
    rw [h2, insertAt_list]
    rfl
  have hl : (es.take p ++ (h, x) :: es.drop p).length = es.length + 1 := by
    simp only [List.length_append, List.length_take, List.length_cons, List.length_drop]; omega
  have hl2 : (pl.take p ++ slot :: pl.drop p).length = pl.length + 1 := by
    simp only [List.length_append, List.length_take, List.length_cons, List.length_drop]; omega
  have hfit : (⟨mask, ⟨pl.take p ++ slot :: pl.drop p⟩, ⟨[]⟩, fg, led, mv, pn⟩ : SetTable).fits (es.take p ++ (h, x) :: es.drop p).length = true := by
    refine Bool.and_eq_true_iff.mpr ⟨beq_iff_eq.mpr ?_, decide_eq_true ?_⟩
    · show (pl.take p ++ slot :: pl.drop p).length = _; rw [hl2, hl, h3]
    · show (pl.take p ++ slot :: pl.drop p).length + 0 ≤ mask; rw [hl2]; omega
  have hlay : layNew ⟨mask, ⟨pl⟩, ⟨[]⟩, fg, led, mv, pn⟩ ⟨es⟩ h x = (⟨es.take p ++ (h, x) :: es.drop p⟩, ⟨mask, ⟨pl.take p ++ slot :: pl.drop p⟩, ⟨[]⟩, fg, led, mv, pn⟩, false, !(true)) := by
    unfold layNew
    rw [h1]
    dsimp only
    rw [hput]
    dsimp only
    rw [insertAt_list]
    have hs : (⟨es.take p ++ (h, x) :: es.drop p⟩ : Array (Int × Value)).size = (es.take p ++ (h, x) :: es.drop p).length := rfl
    unfold SetTable.orStandIn
    rw [hs, hfit]
    rfl
  unfold addO
  dsimp only
  rw [hlay]
  dsimp only
  have ht : (⟨mask, ⟨pl.take p ++ slot :: pl.drop p⟩, ⟨[]⟩, fg, led, mv, pn⟩ : SetTable).tooFull = false := by
    refine decide_eq_false ?_
    show ¬ ((pl.take p ++ slot :: pl.drop p).length + 0) * 5 ≥ mask * 3
    rw [hl2]; omega
  rw [ht]
  rfl
def freeOk (mask : Nat) (pl : List Nat) (c slot : Nat) : Bool := match (⟨mask, ⟨pl⟩, ⟨[]⟩, 0, false, 0, true⟩ : SetTable).freeSlot (.ofNat c) with
  | some (s, false) => s == slot
  | _ => false
theorem freeSlot_led {mask fg mv : Nat} {pl : List Nat} {led pn : Bool} {h : Int} : (⟨mask, ⟨pl⟩, ⟨[]⟩, fg, led, mv, pn⟩ : SetTable).freeSlot h = (⟨mask, ⟨pl⟩, ⟨[]⟩, 0, false, 0, true⟩ : SetTable).freeSlot h := by
  have key : ∀ (f : Nat) (p : SetTable.Probe) (q : Nat → Int), SetTable.probe.go (⟨mask, ⟨pl⟩, ⟨[]⟩, fg, led, mv, pn⟩ : SetTable) q h f p = SetTable.probe.go (⟨mask, ⟨pl⟩, ⟨[]⟩, 0, false, 0, true⟩ : SetTable) q h f p := by
    intro f
    induction f with
    | zero => intro p q; rfl
    | succ f ih =>
      intro p q
      unfold SetTable.probe.go
      show (match SetTable.slot (⟨mask, ⟨pl⟩, ⟨[]⟩, 0, false, 0, true⟩ : SetTable) p.j with | .empty => _ | .dummy => SetTable.probe.go _ q h f (SetTable.advance (⟨mask, ⟨pl⟩, ⟨[]⟩, 0, false, 0, true⟩ : SetTable) { p with dummy := some p.j }) | .live i => if q i == h then some (SetTable.Met.candidate p.j i (SetTable.advance (⟨mask, ⟨pl⟩, ⟨[]⟩, 0, false, 0, true⟩ : SetTable) p)) else SetTable.probe.go _ q h f (SetTable.advance (⟨mask, ⟨pl⟩, ⟨[]⟩, 0, false, 0, true⟩ : SetTable) p)) = _
      cases SetTable.slot (⟨mask, ⟨pl⟩, ⟨[]⟩, 0, false, 0, true⟩ : SetTable) p.j with
      | empty => rfl
      | dummy => exact ih _ _
      | live i => dsimp only; split <;> first | rfl | exact ih _ _
  unfold SetTable.freeSlot SetTable.probe
  show (match SetTable.probe.go _ (fun _ => h + 1) h (10 * SetTable.turns mask) (SetTable.probeStart (⟨mask, ⟨pl⟩, ⟨[]⟩, 0, false, 0, true⟩ : SetTable) h) with | some (.empty j dummy) => some (dummy.getD j, dummy.isSome) | _ => none) = _
  rw [key]
  rfl
noncomputable def chk (mask : Nat) : List Nat → Nat → List (Nat × Nat) → Bool
  | _, _, [] => true
  | pl, c, (slot, p) :: hs => freeOk mask pl c slot && (SetTable.below ⟨pl⟩ slot == p) && Nat.ble p pl.length && Nat.ble (pl.length + 1) mask && Nat.blt ((pl.length + 1) * 5) (mask * 3) && chk mask (pl.take p ++ slot :: pl.drop p) (c + 1) hs
noncomputable def outP : List Nat → List (Nat × Nat) → List Nat
  | pl, [] => pl
  | pl, (slot, p) :: hs => outP (pl.take p ++ slot :: pl.drop p) hs
noncomputable def outE : List (Int × Value) → Nat → Nat → List (Nat × Nat) → List (Int × Value)
  | es, _, _, [] => es
  | es, c, tk, (_, p) :: hs => outE (es.take p ++ (.ofNat c, .int (.ofNat c) tk) :: es.drop p) (c + 1) (tk + 3) hs
theorem addN_fast {mask fg mv : Nat} {led pn : Bool} : ∀ (hs : List (Nat × Nat)) (es : List (Int × Value)) (pl : List Nat) (n c tk : Nat), chk mask pl c hs = true → pl.length = es.length →
    addN (⟨es⟩, n, ⟨mask, ⟨pl⟩, ⟨[]⟩, fg, led, mv, pn⟩) c tk hs.length = (⟨outE es c tk hs⟩, n + hs.length, ⟨mask, ⟨outP pl hs⟩, ⟨[]⟩, fg, led, mv, pn⟩)
  | [], es, pl, n, c, tk, _, _ => rfl
  | (slot, p) :: hs, es, pl, n, c, tk, h, hl => by
    unfold chk at h
    simp only [Bool.and_eq_true, beq_iff_eq] at h
    obtain ⟨⟨⟨⟨⟨h1, h2⟩, hp⟩, h4⟩, h5⟩, h6⟩ := h
    have f1 : (⟨mask, ⟨pl⟩, ⟨[]⟩, fg, led, mv, pn⟩ : SetTable).freeSlot (.ofNat c) = some (slot, false) := by
      rw [freeSlot_led]
      unfold freeOk at h1
      split at h1
      · rename_i s e; rw [e, beq_iff_eq.mp h1]
      · cases h1
    have hp := Nat.le_of_ble_eq_true hp
    have h4 := Nat.le_of_ble_eq_true h4
    have h5 : (pl.length + 1) * 5 < mask * 3 := Nat.le_of_ble_eq_true h5
    show addN (addO _ (.ofNat c) (.int (.ofNat c) tk)) (c + 1) (tk + 3) hs.length = _
    rw [addO_fast f1 h2 hl hp h4 h5, addN_fast hs _ _ _ _ _ h6 (by simp only [List.length_append, List.length_take, List.length_cons, List.length_drop]; omega)]
    show (_, n + 1 + hs.length, _) = (_, n + (hs.length + 1), _)
    rw [show n + 1 + hs.length = n + (hs.length + 1) by omega]
    rfl
noncomputable def e1 (P : Params) : SetD := (⟨[((.ofNat 169), (.int (.ofNat 169) 400))]⟩, 1, ⟨7, ⟨[1]⟩, ⟨[]⟩, 0, !P.followText "set-order", 0, true⟩)
noncomputable def e2 (P : Params) : SetD := (⟨[((.ofNat 169), (.int (.ofNat 169) 400)), ((.ofNat 174), (.int (.ofNat 174) 408))]⟩, 2, ⟨7, ⟨[1, 6]⟩, ⟨[]⟩, 0, !P.followText "set-order", 0, true⟩)
noncomputable def e3 (P : Params) : SetD := (⟨[((.ofNat 169), (.int (.ofNat 169) 400)), ((.ofNat 8252), (.int (.ofNat 8252) 416)), ((.ofNat 174), (.int (.ofNat 174) 408))]⟩, 3, ⟨7, ⟨[1, 4, 6]⟩, ⟨[]⟩, 0, !P.followText "set-order", 0, true⟩)
noncomputable def e4 (P : Params) : SetD := (⟨[((.ofNat 169), (.int (.ofNat 169) 400)), ((.ofNat 174), (.int (.ofNat 174) 408)), ((.ofNat 8596), (.int (.ofNat 8596) 424)), ((.ofNat 8597), (.int (.ofNat 8597) 427)), ((.ofNat 8598), (.int (.ofNat 8598) 430)), ((.ofNat 8599), (.int (.ofNat 8599) 433)), ((.ofNat 8600), (.int (.ofNat 8600) 436)), ((.ofNat 8601), (.int (.ofNat 8601) 439)), ((.ofNat 8252), (.int (.ofNat 8252) 416))]⟩, 10, ⟨31, ⟨[9, 14, 20, 21, 22, 23, 24, 25, 28]⟩, ⟨[]⟩, 0, !P.followText "set-order", 1, true⟩)
noncomputable def e5 (P : Params) : SetD := (⟨[((.ofNat 169), (.int (.ofNat 169) 400)), ((.ofNat 174), (.int (.ofNat 174) 408)), ((.ofNat 8596), (.int (.ofNat 8596) 424)), ((.ofNat 8597), (.int (.ofNat 8597) 427)), ((.ofNat 8598), (.int (.ofNat 8598) 430)), ((.ofNat 8599), (.int (.ofNat 8599) 433)), ((.ofNat 8600), (.int (.ofNat 8600) 436)), ((.ofNat 8601), (.int (.ofNat 8601) 439)), ((.ofNat 8986), (.int (.ofNat 8986) 447)), ((.ofNat 8987), (.int (.ofNat 8987) 450)), ((.ofNat 8252), (.int (.ofNat 8252) 416))]⟩, 12, ⟨31, ⟨[9, 14, 20, 21, 22, 23, 24, 25, 26, 27, 28]⟩, ⟨[]⟩, 0, !P.followText "set-order", 1, true⟩)
noncomputable def e6 (P : Params) : SetD := (⟨[((.ofNat 8596), (.int (.ofNat 8596) 424)), ((.ofNat 8597), (.int (.ofNat 8597) 427)), ((.ofNat 8598), (.int (.ofNat 8598) 430)), ((.ofNat 8599), (.int (.ofNat 8599) 433)), ((.ofNat 8600), (.int (.ofNat 8600) 436)), ((.ofNat 8601), (.int (.ofNat 8601) 439)), ((.ofNat 8986), (.int (.ofNat 8986) 447)), ((.ofNat 8987), (.int (.ofNat 8987) 450)), ((.ofNat 169), (.int (.ofNat 169) 400)), ((.ofNat 174), (.int (.ofNat 174) 408)), ((.ofNat 8252), (.int (.ofNat 8252) 416)), ((.ofNat 9193), (.int (.ofNat 9193) 458)), ((.ofNat 9194), (.int (.ofNat 9194) 461)), ((.ofNat 9195), (.int (.ofNat 9195) 464)), ((.ofNat 9196), (.int (.ofNat 9196) 467)), ((.ofNat 9197), (.int (.ofNat 9197) 470)), ((.ofNat 9198), (.int (.ofNat 9198) 473)), ((.ofNat 9199), (.int (.ofNat 9199) 476)), ((.ofNat 9200), (.int (.ofNat 9200) 479)), ((.ofNat 9201), (.int (.ofNat 9201) 482)), ((.ofNat 9202), (.int (.ofNat 9202) 485)), ((.ofNat 9203), (.int (.ofNat 9203) 488))]⟩, 24, ⟨127, ⟨[20, 21, 22, 23, 24, 25, 26, 27, 41, 46, 60, 105, 106, 107, 108, 109, 110, 111, 112, 113, 114, 115]⟩, ⟨[]⟩, 0, !P.followText "set-order", 2, true⟩)
noncomputable def e7 (P : Params) : SetD := (⟨[((.ofNat 9728), (.int (.ofNat 9728) 496)), ((.ofNat 9729), (.int (.ofNat 9729) 499)), ((.ofNat 9730), (.int (.ofNat 9730) 502)), ((.ofNat 9731), (.int (.ofNat 9731) 505)), ((.ofNat 9732), (.int (.ofNat 9732) 508)), ((.ofNat 8596), (.int (.ofNat 8596) 424)), ((.ofNat 8597), (.int (.ofNat 8597) 427)), ((.ofNat 8598), (.int (.ofNat 8598) 430)), ((.ofNat 8599), (.int (.ofNat 8599) 433)), ((.ofNat 8600), (.int (.ofNat 8600) 436)), ((.ofNat 8601), (.int (.ofNat 8601) 439)), ((.ofNat 8986), (.int (.ofNat 8986) 447)), ((.ofNat 8987), (.int (.ofNat 8987) 450)), ((.ofNat 169), (.int (.ofNat 169) 400)), ((.ofNat 174), (.int (.ofNat 174) 408)), ((.ofNat 8252), (.int (.ofNat 8252) 416)), ((.ofNat 9193), (.int (.ofNat 9193) 458)), ((.ofNat 9194), (.int (.ofNat 9194) 461)), ((.ofNat 9195), (.int (.ofNat 9195) 464)), ((.ofNat 9196), (.int (.ofNat 9196) 467)), ((.ofNat 9197), (.int (.ofNat 9197) 470)), ((.ofNat 9198), (.int (.ofNat 9198) 473)), ((.ofNat 9199), (.int (.ofNat 9199) 476)), ((.ofNat 9200), (.int (.ofNat 9200) 479)), ((.ofNat 9201), (.int (.ofNat 9201) 482)), ((.ofNat 9202), (.int (.ofNat 9202) 485)), ((.ofNat 9203), (.int (.ofNat 9203) 488))]⟩, 29, ⟨127, ⟨[0, 1, 2, 3, 4, 20, 21, 22, 23, 24, 25, 26, 27, 41, 46, 60, 105, 106, 107, 108, 109, 110, 111, 112, 113, 114, 115]⟩, ⟨[]⟩, 0, !P.followText "set-order", 2, true⟩)
noncomputable def e8 (P : Params) : SetD := (⟨[((.ofNat 9728), (.int (.ofNat 9728) 496)), ((.ofNat 9729), (.int (.ofNat 9729) 499)), ((.ofNat 9730), (.int (.ofNat 9730) 502)), ((.ofNat 9731), (.int (.ofNat 9731) 505)), ((.ofNat 9732), (.int (.ofNat 9732) 508)), ((.ofNat 8596), (.int (.ofNat 8596) 424)), ((.ofNat 8597), (.int (.ofNat 8597) 427)), ((.ofNat 8598), (.int (.ofNat 8598) 430)), ((.ofNat 8599), (.int (.ofNat 8599) 433)), ((.ofNat 8600), (.int (.ofNat 8600) 436)), ((.ofNat 8601), (.int (.ofNat 8601) 439)), ((.ofNat 8986), (.int (.ofNat 8986) 447)), ((.ofNat 8987), (.int (.ofNat 8987) 450)), ((.ofNat 9748), (.int (.ofNat 9748) 516)), ((.ofNat 9749), (.int (.ofNat 9749) 519)), ((.ofNat 169), (.int (.ofNat 169) 400)), ((.ofNat 174), (.int (.ofNat 174) 408)), ((.ofNat 8252), (.int (.ofNat 8252) 416)), ((.ofNat 9193), (.int (.ofNat 9193) 458)), ((.ofNat 9194), (.int (.ofNat 9194) 461)), ((.ofNat 9195), (.int (.ofNat 9195) 464)), ((.ofNat 9196), (.int (.ofNat 9196) 467)), ((.ofNat 9197), (.int (.ofNat 9197) 470)), ((.ofNat 9198), (.int (.ofNat 9198) 473)), ((.ofNat 9199), (.int (.ofNat 9199) 476)), ((.ofNat 9200), (.int (.ofNat 9200) 479)), ((.ofNat 9201), (.int (.ofNat 9201) 482)), ((.ofNat 9202), (.int (.ofNat 9202) 485)), ((.ofNat 9203), (.int (.ofNat 9203) 488))]⟩, 31, ⟨127, ⟨[0, 1, 2, 3, 4, 20, 21, 22, 23, 24, 25, 26, 27, 28, 29, 41, 46, 60, 105, 106, 107, 108, 109, 110, 111, 112, 113, 114, 115]⟩, ⟨[]⟩, 0, !P.followText "set-order", 2, true⟩)
noncomputable def e9 (P : Params) : SetD := (⟨[((.ofNat 9728), (.int (.ofNat 9728) 496)), ((.ofNat 9729), (.int (.ofNat 9729) 499)), ((.ofNat 9730), (.int (.ofNat 9730) 502)), ((.ofNat 9731), (.int (.ofNat 9731) 505)), ((.ofNat 9732), (.int (.ofNat 9732) 508)), ((.ofNat 8596), (.int (.ofNat 8596) 424)), ((.ofNat 8597), (.int (.ofNat 8597) 427)), ((.ofNat 8598), (.int (.ofNat 8598) 430)), ((.ofNat 8599), (.int (.ofNat 8599) 433)), ((.ofNat 8600), (.int (.ofNat 8600) 436)), ((.ofNat 8601), (.int (.ofNat 8601) 439)), ((.ofNat 8986), (.int (.ofNat 8986) 447)), ((.ofNat 8987), (.int (.ofNat 8987) 450)), ((.ofNat 9748), (.int (.ofNat 9748) 516)), ((.ofNat 9749), (.int (.ofNat 9749) 519)), ((.ofNat 9757), (.int (.ofNat 9757) 527)), ((.ofNat 169), (.int (.ofNat 169) 400)), ((.ofNat 174), (.int (.ofNat 174) 408)), ((.ofNat 8252), (.int (.ofNat 8252) 416)), ((.ofNat 9193), (.int (.ofNat 9193) 458)), ((.ofNat 9194), (.int (.ofNat 9194) 461)), ((.ofNat 9195), (.int (.ofNat 9195) 464)), ((.ofNat 9196), (.int (.ofNat 9196) 467)), ((.ofNat 9197), (.int (.ofNat 9197) 470)), ((.ofNat 9198), (.int (.ofNat 9198) 473)), ((.ofNat 9199), (.int (.ofNat 9199) 476)), ((.ofNat 9200), (.int (.ofNat 9200) 479)), ((.ofNat 9201), (.int (.ofNat 9201) 482)), ((.ofNat 9202), (.int (.ofNat 9202) 485)), ((.ofNat 9203), (.int (.ofNat 9203) 488))]⟩, 32, ⟨127, ⟨[0, 1, 2, 3, 4, 20, 21, 22, 23, 24, 25, 26, 27, 28, 29, 30, 41, 46, 60, 105, 106, 107, 108, 109, 110, 111, 112, 113, 114, 115]⟩, ⟨[]⟩, 0, !P.followText "set-order", 2, true⟩)
noncomputable def e10 (P : Params) : SetD := (⟨[((.ofNat 9728), (.int (.ofNat 9728) 496)), ((.ofNat 9729), (.int (.ofNat 9729) 499)), ((.ofNat 9730), (.int (.ofNat 9730) 502)), ((.ofNat 9731), (.int (.ofNat 9731) 505)), ((.ofNat 9732), (.int (.ofNat 9732) 508)), ((.ofNat 8596), (.int (.ofNat 8596) 424)), ((.ofNat 8597), (.int (.ofNat 8597) 427)), ((.ofNat 8598), (.int (.ofNat 8598) 430)), ((.ofNat 8599), (.int (.ofNat 8599) 433)), ((.ofNat 8600), (.int (.ofNat 8600) 436)), ((.ofNat 8601), (.int (.ofNat 8601) 439)), ((.ofNat 8986), (.int (.ofNat 8986) 447)), ((.ofNat 8987), (.int (.ofNat 8987) 450)), ((.ofNat 9748), (.int (.ofNat 9748) 516)), ((.ofNat 9749), (.int (.ofNat 9749) 519)), ((.ofNat 9757), (.int (.ofNat 9757) 527)), ((.ofNat 9760), (.int (.ofNat 9760) 535)), ((.ofNat 169), (.int (.ofNat 169) 400)), ((.ofNat 174), (.int (.ofNat 174) 408)), ((.ofNat 8252), (.int (.ofNat 8252) 416)), ((.ofNat 9193), (.int (.ofNat 9193) 458)), ((.ofNat 9194), (.int (.ofNat 9194) 461)), ((.ofNat 9195), (.int (.ofNat 9195) 464)), ((.ofNat 9196), (.int (.ofNat 9196) 467)), ((.ofNat 9197), (.int (.ofNat 9197) 470)), ((.ofNat 9198), (.int (.ofNat 9198) 473)), ((.ofNat 9199), (.int (.ofNat 9199) 476)), ((.ofNat 9200), (.int (.ofNat 9200) 479)), ((.ofNat 9201), (.int (.ofNat 9201) 482)), ((.ofNat 9202), (.int (.ofNat 9202) 485)), ((.ofNat 9203), (.int (.ofNat 9203) 488))]⟩, 33, ⟨127, ⟨[0, 1, 2, 3, 4, 20, 21, 22, 23, 24, 25, 26, 27, 28, 29, 30, 32, 41, 46, 60, 105, 106, 107, 108, 109, 110, 111, 112, 113, 114, 115]⟩, ⟨[]⟩, 0, !P.followText "set-order", 2, true⟩)
noncomputable def e11 (P : Params) : SetD := (⟨[((.ofNat 9728), (.int (.ofNat 9728) 496)), ((.ofNat 9729), (.int (.ofNat 9729) 499)), ((.ofNat 9730), (.int (.ofNat 9730) 502)), ((.ofNat 9731), (.int (.ofNat 9731) 505)), ((.ofNat 9732), (.int (.ofNat 9732) 508)), ((.ofNat 8596), (.int (.ofNat 8596) 424)), ((.ofNat 8597), (.int (.ofNat 8597) 427)), ((.ofNat 8598), (.int (.ofNat 8598) 430)), ((.ofNat 8599), (.int (.ofNat 8599) 433)), ((.ofNat 8600), (.int (.ofNat 8600) 436)), ((.ofNat 8601), (.int (.ofNat 8601) 439)), ((.ofNat 8986), (.int (.ofNat 8986) 447)), ((.ofNat 8987), (.int (.ofNat 8987) 450)), ((.ofNat 9748), (.int (.ofNat 9748) 516)), ((.ofNat 9749), (.int (.ofNat 9749) 519)), ((.ofNat 9757), (.int (.ofNat 9757) 527)), ((.ofNat 9760), (.int (.ofNat 9760) 535)), ((.ofNat 169), (.int (.ofNat 169) 400)), ((.ofNat 174), (.int (.ofNat 174) 408)), ((.ofNat 8252), (.int (.ofNat 8252) 416)), ((.ofNat 9792), (.int (.ofNat 9792) 543)), ((.ofNat 9193), (.int (.ofNat 9193) 458)), ((.ofNat 9194), (.int (.ofNat 9194) 461)), ((.ofNat 9195), (.int (.ofNat 9195) 464)), ((.ofNat 9196), (.int (.ofNat 9196) 467)), ((.ofNat 9197), (.int (.ofNat 9197) 470)), ((.ofNat 9198), (.int (.ofNat 9198) 473)), ((.ofNat 9199), (.int (.ofNat 9199) 476)), ((.ofNat 9200), (.int (.ofNat 9200) 479)), ((.ofNat 9201), (.int (.ofNat 9201) 482)), ((.ofNat 9202), (.int (.ofNat 9202) 485)), ((.ofNat 9203), (.int (.ofNat 9203) 488))]⟩, 34, ⟨127, ⟨[0, 1, 2, 3, 4, 20, 21, 22, 23, 24, 25, 26, 27, 28, 29, 30, 32, 41, 46, 60, 64, 105, 106, 107, 108, 109, 110, 111, 112, 113, 114, 115]⟩, ⟨[]⟩, 0, !P.followText "set-order", 2, true⟩)
noncomputable def e12 (P : Params) : SetD := (⟨[((.ofNat 9728), (.int (.ofNat 9728) 496)), ((.ofNat 9729), (.int (.ofNat 9729) 499)), ((.ofNat 9730), (.int (.ofNat 9730) 502)), ((.ofNat 9731), (.int (.ofNat 9731) 505)), ((.ofNat 9732), (.int (.ofNat 9732) 508)), ((.ofNat 8596), (.int (.ofNat 8596) 424)), ((.ofNat 8597), (.int (.ofNat 8597) 427)), ((.ofNat 8598), (.int (.ofNat 8598) 430)), ((.ofNat 8599), (.int (.ofNat 8599) 433)), ((.ofNat 8600), (.int (.ofNat 8600) 436)), ((.ofNat 8601), (.int (.ofNat 8601) 439)), ((.ofNat 8986), (.int (.ofNat 8986) 447)), ((.ofNat 8987), (.int (.ofNat 8987) 450)), ((.ofNat 9748), (.int (.ofNat 9748) 516)), ((.ofNat 9749), (.int (.ofNat 9749) 519)), ((.ofNat 9757), (.int (.ofNat 9757) 527)), ((.ofNat 9760), (.int (.ofNat 9760) 535)), ((.ofNat 169), (.int (.ofNat 169) 400)), ((.ofNat 174), (.int (.ofNat 174) 408)), ((.ofNat 8252), (.int (.ofNat 8252) 416)), ((.ofNat 9792), (.int (.ofNat 9792) 543)), ((.ofNat 9794), (.int (.ofNat 9794) 551)), ((.ofNat 9193), (.int (.ofNat 9193) 458)), ((.ofNat 9194), (.int (.ofNat 9194) 461)), ((.ofNat 9195), (.int (.ofNat 9195) 464)), ((.ofNat 9196), (.int (.ofNat 9196) 467)), ((.ofNat 9197), (.int (.ofNat 9197) 470)), ((.ofNat 9198), (.int (.ofNat 9198) 473)), ((.ofNat 9199), (.int (.ofNat 9199) 476)), ((.ofNat 9200), (.int (.ofNat 9200) 479)), ((.ofNat 9201), (.int (.ofNat 9201) 482)), ((.ofNat 9202), (.int (.ofNat 9202) 485)), ((.ofNat 9203), (.int (.ofNat 9203) 488))]⟩, 35, ⟨127, ⟨[0, 1, 2, 3, 4, 20, 21, 22, 23, 24, 25, 26, 27, 28, 29, 30, 32, 41, 46, 60, 64, 66, 105, 106, 107, 108, 109, 110, 111, 112, 113, 114, 115]⟩, ⟨[]⟩, 0, !P.followText "set-order", 2, true⟩)
noncomputable def e13 (P : Params) : SetD := (⟨[((.ofNat 9728), (.int (.ofNat 9728) 496)), ((.ofNat 9729), (.int (.ofNat 9729) 499)), ((.ofNat 9730), (.int (.ofNat 9730) 502)), ((.ofNat 9731), (.int (.ofNat 9731) 505)), ((.ofNat 9732), (.int (.ofNat 9732) 508)), ((.ofNat 8596), (.int (.ofNat 8596) 424)), ((.ofNat 8597), (.int (.ofNat 8597) 427)), ((.ofNat 8598), (.int (.ofNat 8598) 430)), ((.ofNat 8599), (.int (.ofNat 8599) 433)), ((.ofNat 8600), (.int (.ofNat 8600) 436)), ((.ofNat 8601), (.int (.ofNat 8601) 439)), ((.ofNat 8986), (.int (.ofNat 8986) 447)), ((.ofNat 8987), (.int (.ofNat 8987) 450)), ((.ofNat 9748), (.int (.ofNat 9748) 516)), ((.ofNat 9749), (.int (.ofNat 9749) 519)), ((.ofNat 9757), (.int (.ofNat 9757) 527)), ((.ofNat 9760), (.int (.ofNat 9760) 535)), ((.ofNat 169), (.int (.ofNat 169) 400)), ((.ofNat 174), (.int (.ofNat 174) 408)), ((.ofNat 8252), (.int (.ofNat 8252) 416)), ((.ofNat 9792), (.int (.ofNat 9792) 543)), ((.ofNat 9794), (.int (.ofNat 9794) 551)), ((.ofNat 9800), (.int (.ofNat 9800) 559)), ((.ofNat 9801), (.int (.ofNat 9801) 562)), ((.ofNat 9802), (.int (.ofNat 9802) 565)), ((.ofNat 9803), (.int (.ofNat 9803) 568)), ((.ofNat 9804), (.int (.ofNat 9804) 571)), ((.ofNat 9805), (.int (.ofNat 9805) 574)), ((.ofNat 9806), (.int (.ofNat 9806) 577)), ((.ofNat 9807), (.int (.ofNat 9807) 580)), ((.ofNat 9808), (.int (.ofNat 9808) 583)), ((.ofNat 9809), (.int (.ofNat 9809) 586)), ((.ofNat 9810), (.int (.ofNat 9810) 589)), ((.ofNat 9811), (.int (.ofNat 9811) 592)), ((.ofNat 9193), (.int (.ofNat 9193) 458)), ((.ofNat 9194), (.int (.ofNat 9194) 461)), ((.ofNat 9195), (.int (.ofNat 9195) 464)), ((.ofNat 9196), (.int (.ofNat 9196) 467)), ((.ofNat 9197), (.int (.ofNat 9197) 470)), ((.ofNat 9198), (.int (.ofNat 9198) 473)), ((.ofNat 9199), (.int (.ofNat 9199) 476)), ((.ofNat 9200), (.int (.ofNat 9200) 479)), ((.ofNat 9201), (.int (.ofNat 9201) 482)), ((.ofNat 9202), (.int (.ofNat 9202) 485)), ((.ofNat 9203), (.int (.ofNat 9203) 488))]⟩, 47, ⟨127, ⟨[0, 1, 2, 3, 4, 20, 21, 22, 23, 24, 25, 26, 27, 28, 29, 30, 32, 41, 46, 60, 64, 66, 72, 73, 74, 75, 76, 77, 78, 79, 80, 81, 82, 83, 105, 106, 107, 108, 109, 110, 111, 112, 113, 114, 115]⟩, ⟨[]⟩, 0, !P.followText "set-order", 2, true⟩)
noncomputable def e14 (P : Params) : SetD := (⟨[((.ofNat 9728), (.int (.ofNat 9728) 496)), ((.ofNat 9729), (.int (.ofNat 9729) 499)), ((.ofNat 9730), (.int (.ofNat 9730) 502)), ((.ofNat 9731), (.int (.ofNat 9731) 505)), ((.ofNat 9732), (.int (.ofNat 9732) 508)), ((.ofNat 8596), (.int (.ofNat 8596) 424)), ((.ofNat 8597), (.int (.ofNat 8597) 427)), ((.ofNat 8598), (.int (.ofNat 8598) 430)), ((.ofNat 8599), (.int (.ofNat 8599) 433)), ((.ofNat 8600), (.int (.ofNat 8600) 436)), ((.ofNat 8601), (.int (.ofNat 8601) 439)), ((.ofNat 8986), (.int (.ofNat 8986) 447)), ((.ofNat 8987), (.int (.ofNat 8987) 450)), ((.ofNat 9748), (.int (.ofNat 9748) 516)), ((.ofNat 9749), (.int (.ofNat 9749) 519)), ((.ofNat 9757), (.int (.ofNat 9757) 527)), ((.ofNat 9760), (.int (.ofNat 9760) 535)), ((.ofNat 169), (.int (.ofNat 169) 400)), ((.ofNat 174), (.int (.ofNat 174) 408)), ((.ofNat 8252), (.int (.ofNat 8252) 416)), ((.ofNat 9792), (.int (.ofNat 9792) 543)), ((.ofNat 9794), (.int (.ofNat 9794) 551)), ((.ofNat 9800), (.int (.ofNat 9800) 559)), ((.ofNat 9801), (.int (.ofNat 9801) 562)), ((.ofNat 9802), (.int (.ofNat 9802) 565)), ((.ofNat 9803), (.int (.ofNat 9803) 568)), ((.ofNat 9804), (.int (.ofNat 9804) 571)), ((.ofNat 9805), (.int (.ofNat 9805) 574)), ((.ofNat 9806), (.int (.ofNat 9806) 577)), ((.ofNat 9807), (.int (.ofNat 9807) 580)), ((.ofNat 9808), (.int (.ofNat 9808) 583)), ((.ofNat 9809), (.int (.ofNat 9809) 586)), ((.ofNat 9810), (.int (.ofNat 9810) 589)), ((.ofNat 9811), (.int (.ofNat 9811) 592)), ((.ofNat 9193), (.int (.ofNat 9193) 458)), ((.ofNat 9194), (.int (.ofNat 9194) 461)), ((.ofNat 9195), (.int (.ofNat 9195) 464)), ((.ofNat 9196), (.int (.ofNat 9196) 467)), ((.ofNat 9197), (.int (.ofNat 9197) 470)), ((.ofNat 9198), (.int (.ofNat 9198) 473)), ((.ofNat 9199), (.int (.ofNat 9199) 476)), ((.ofNat 9200), (.int (.ofNat 9200) 479)), ((.ofNat 9201), (.int (.ofNat 9201) 482)), ((.ofNat 9202), (.int (.ofNat 9202) 485)), ((.ofNat 9203), (.int (.ofNat 9203) 488)), ((.ofNat 9975), (.int (.ofNat 9975) 600)), ((.ofNat 9976), (.int (.ofNat 9976) 603)), ((.ofNat 9977), (.int (.ofNat 9977) 606)), ((.ofNat 9978), (.int (.ofNat 9978) 609))]⟩, 51, ⟨127, ⟨[0, 1, 2, 3, 4, 20, 21, 22, 23, 24, 25, 26, 27, 28, 29, 30, 32, 41, 46, 60, 64, 66, 72, 73, 74, 75, 76, 77, 78, 79, 80, 81, 82, 83, 105, 106, 107, 108, 109, 110, 111, 112, 113, 114, 115, 119, 120, 121, 122]⟩, ⟨[]⟩, 0, !P.followText "set-order", 2, true⟩)
noncomputable def e15 (P : Params) : SetD := (⟨[((.ofNat 9728), (.int (.ofNat 9728) 496)), ((.ofNat 9729), (.int (.ofNat 9729) 499)), ((.ofNat 9730), (.int (.ofNat 9730) 502)), ((.ofNat 9731), (.int (.ofNat 9731) 505)), ((.ofNat 9732), (.int (.ofNat 9732) 508)), ((.ofNat 9992), (.int (.ofNat 9992) 617)), ((.ofNat 9993), (.int (.ofNat 9993) 620)), ((.ofNat 9994), (.int (.ofNat 9994) 623)), ((.ofNat 9995), (.int (.ofNat 9995) 626)), ((.ofNat 9996), (.int (.ofNat 9996) 629)), ((.ofNat 9997), (.int (.ofNat 9997) 632)), ((.ofNat 8596), (.int (.ofNat 8596) 424)), ((.ofNat 8597), (.int (.ofNat 8597) 427)), ((.ofNat 8598), (.int (.ofNat 8598) 430)), ((.ofNat 8599), (.int (.ofNat 8599) 433)), ((.ofNat 8600), (.int (.ofNat 8600) 436)), ((.ofNat 8601), (.int (.ofNat 8601) 439)), ((.ofNat 8986), (.int (.ofNat 8986) 447)), ((.ofNat 8987), (.int (.ofNat 8987) 450)), ((.ofNat 9748), (.int (.ofNat 9748) 516)), ((.ofNat 9749), (.int (.ofNat 9749) 519)), ((.ofNat 9757), (.int (.ofNat 9757) 527)), ((.ofNat 9760), (.int (.ofNat 9760) 535)), ((.ofNat 169), (.int (.ofNat 169) 400)), ((.ofNat 174), (.int (.ofNat 174) 408)), ((.ofNat 8252), (.int (.ofNat 8252) 416)), ((.ofNat 9792), (.int (.ofNat 9792) 543)), ((.ofNat 9794), (.int (.ofNat 9794) 551)), ((.ofNat 9800), (.int (.ofNat 9800) 559)), ((.ofNat 9801), (.int (.ofNat 9801) 562)), ((.ofNat 9802), (.int (.ofNat 9802) 565)), ((.ofNat 9803), (.int (.ofNat 9803) 568)), ((.ofNat 9804), (.int (.ofNat 9804) 571)), ((.ofNat 9805), (.int (.ofNat 9805) 574)), ((.ofNat 9806), (.int (.ofNat 9806) 577)), ((.ofNat 9807), (.int (.ofNat 9807) 580)), ((.ofNat 9808), (.int (.ofNat 9808) 583)), ((.ofNat 9809), (.int (.ofNat 9809) 586)), ((.ofNat 9810), (.int (.ofNat 9810) 589)), ((.ofNat 9811), (.int (.ofNat 9811) 592)), ((.ofNat 9193), (.int (.ofNat 9193) 458)), ((.ofNat 9194), (.int (.ofNat 9194) 461)), ((.ofNat 9195), (.int (.ofNat 9195) 464)), ((.ofNat 9196), (.int (.ofNat 9196) 467)), ((.ofNat 9197), (.int (.ofNat 9197) 470)), ((.ofNat 9198), (.int (.ofNat 9198) 473)), ((.ofNat 9199), (.int (.ofNat 9199) 476)), ((.ofNat 9200), (.int (.ofNat 9200) 479)), ((.ofNat 9201), (.int (.ofNat 9201) 482)), ((.ofNat 9202), (.int (.ofNat 9202) 485)), ((.ofNat 9203), (.int (.ofNat 9203) 488)), ((.ofNat 9975), (.int (.ofNat 9975) 600)), ((.ofNat 9976), (.int (.ofNat 9976) 603)), ((.ofNat 9977), (.int (.ofNat 9977) 606)), ((.ofNat 9978), (.int (.ofNat 9978) 609))]⟩, 57, ⟨127, ⟨[0, 1, 2, 3, 4, 8, 9, 10, 11, 12, 13, 20, 21, 22, 23, 24, 25, 26, 27, 28, 29, 30, 32, 41, 46, 60, 64, 66, 72, 73, 74, 75, 76, 77, 78, 79, 80, 81, 82, 83, 105, 106, 107, 108, 109, 110, 111, 112, 113, 114, 115, 119, 120, 121, 122]⟩, ⟨[]⟩, 0, !P.followText "set-order", 2, true⟩)
noncomputable def e16 (P : Params) : SetD := (⟨[((.ofNat 9728), (.int (.ofNat 9728) 496)), ((.ofNat 9729), (.int (.ofNat 9729) 499)), ((.ofNat 9730), (.int (.ofNat 9730) 502)), ((.ofNat 9731), (.int (.ofNat 9731) 505)), ((.ofNat 9732), (.int (.ofNat 9732) 508)), ((.ofNat 9992), (.int (.ofNat 9992) 617)), ((.ofNat 9993), (.int (.ofNat 9993) 620)), ((.ofNat 9994), (.int (.ofNat 9994) 623)), ((.ofNat 9995), (.int (.ofNat 9995) 626)), ((.ofNat 9996), (.int (.ofNat 9996) 629)), ((.ofNat 9997), (.int (.ofNat 9997) 632)), ((.ofNat 8596), (.int (.ofNat 8596) 424)), ((.ofNat 8597), (.int (.ofNat 8597) 427)), ((.ofNat 8598), (.int (.ofNat 8598) 430)), ((.ofNat 8599), (.int (.ofNat 8599) 433)), ((.ofNat 8600), (.int (.ofNat 8600) 436)), ((.ofNat 8601), (.int (.ofNat 8601) 439)), ((.ofNat 8986), (.int (.ofNat 8986) 447)), ((.ofNat 8987), (.int (.ofNat 8987) 450)), ((.ofNat 9748), (.int (.ofNat 9748) 516)), ((.ofNat 9749), (.int (.ofNat 9749) 519)), ((.ofNat 9757), (.int (.ofNat 9757) 527)), ((.ofNat 9760), (.int (.ofNat 9760) 535)), ((.ofNat 169), (.int (.ofNat 169) 400)), ((.ofNat 174), (.int (.ofNat 174) 408)), ((.ofNat 8252), (.int (.ofNat 8252) 416)), ((.ofNat 9792), (.int (.ofNat 9792) 543)), ((.ofNat 9794), (.int (.ofNat 9794) 551)), ((.ofNat 9800), (.int (.ofNat 9800) 559)), ((.ofNat 9801), (.int (.ofNat 9801) 562)), ((.ofNat 9802), (.int (.ofNat 9802) 565)), ((.ofNat 9803), (.int (.ofNat 9803) 568)), ((.ofNat 9804), (.int (.ofNat 9804) 571)), ((.ofNat 9805), (.int (.ofNat 9805) 574)), ((.ofNat 9806), (.int (.ofNat 9806) 577)), ((.ofNat 9807), (.int (.ofNat 9807) 580)), ((.ofNat 9808), (.int (.ofNat 9808) 583)), ((.ofNat 9809), (.int (.ofNat 9809) 586)), ((.ofNat 9810), (.int (.ofNat 9810) 589)), ((.ofNat 9811), (.int (.ofNat 9811) 592)), ((.ofNat 10083), (.int (.ofNat 10083) 640)), ((.ofNat 10084), (.int (.ofNat 10084) 643)), ((.ofNat 9193), (.int (.ofNat 9193) 458)), ((.ofNat 9194), (.int (.ofNat 9194) 461)), ((.ofNat 9195), (.int (.ofNat 9195) 464)), ((.ofNat 9196), (.int (.ofNat 9196) 467)), ((.ofNat 9197), (.int (.ofNat 9197) 470)), ((.ofNat 9198), (.int (.ofNat 9198) 473)), ((.ofNat 9199), (.int (.ofNat 9199) 476)), ((.ofNat 9200), (.int (.ofNat 9200) 479)), ((.ofNat 9201), (.int (.ofNat 9201) 482)), ((.ofNat 9202), (.int (.ofNat 9202) 485)), ((.ofNat 9203), (.int (.ofNat 9203) 488)), ((.ofNat 9975), (.int (.ofNat 9975) 600)), ((.ofNat 9976), (.int (.ofNat 9976) 603)), ((.ofNat 9977), (.int (.ofNat 9977) 606)), ((.ofNat 9978), (.int (.ofNat 9978) 609))]⟩, 59, ⟨127, ⟨[0, 1, 2, 3, 4, 8, 9, 10, 11, 12, 13, 20, 21, 22, 23, 24, 25, 26, 27, 28, 29, 30, 32, 41, 46, 60, 64, 66, 72, 73, 74, 75, 76, 77, 78, 79, 80, 81, 82, 83, 99, 100, 105, 106, 107, 108, 109, 110, 111, 112, 113, 114, 115, 119, 120, 121, 122]⟩, ⟨[]⟩, 0, !P.followText "set-order", 2, true⟩)
noncomputable def e17 (P : Params) : SetD := (⟨[((.ofNat 9728), (.int (.ofNat 9728) 496)), ((.ofNat 9729), (.int (.ofNat 9729) 499)), ((.ofNat 9730), (.int (.ofNat 9730) 502)), ((.ofNat 9731), (.int (.ofNat 9731) 505)), ((.ofNat 9732), (.int (.ofNat 9732) 508)), ((.ofNat 9992), (.int (.ofNat 9992) 617)), ((.ofNat 9993), (.int (.ofNat 9993) 620)), ((.ofNat 9994), (.int (.ofNat 9994) 623)), ((.ofNat 9995), (.int (.ofNat 9995) 626)), ((.ofNat 9996), (.int (.ofNat 9996) 629)), ((.ofNat 9997), (.int (.ofNat 9997) 632)), ((.ofNat 8596), (.int (.ofNat 8596) 424)), ((.ofNat 8597), (.int (.ofNat 8597) 427)), ((.ofNat 8598), (.int (.ofNat 8598) 430)), ((.ofNat 8599), (.int (.ofNat 8599) 433)), ((.ofNat 8600), (.int (.ofNat 8600) 436)), ((.ofNat 8601), (.int (.ofNat 8601) 439)), ((.ofNat 8986), (.int (.ofNat 8986) 447)), ((.ofNat 8987), (.int (.ofNat 8987) 450)), ((.ofNat 9748), (.int (.ofNat 9748) 516)), ((.ofNat 9749), (.int (.ofNat 9749) 519)), ((.ofNat 9757), (.int (.ofNat 9757) 527)), ((.ofNat 9760), (.int (.ofNat 9760) 535)), ((.ofNat 169), (.int (.ofNat 169) 400)), ((.ofNat 174), (.int (.ofNat 174) 408)), ((.ofNat 12336), (.int (.ofNat 12336) 651)), ((.ofNat 8252), (.int (.ofNat 8252) 416)), ((.ofNat 9792), (.int (.ofNat 9792) 543)), ((.ofNat 9794), (.int (.ofNat 9794) 551)), ((.ofNat 9800), (.int (.ofNat 9800) 559)), ((.ofNat 9801), (.int (.ofNat 9801) 562)), ((.ofNat 9802), (.int (.ofNat 9802) 565)), ((.ofNat 9803), (.int (.ofNat 9803) 568)), ((.ofNat 9804), (.int (.ofNat 9804) 571)), ((.ofNat 9805), (.int (.ofNat 9805) 574)), ((.ofNat 9806), (.int (.ofNat 9806) 577)), ((.ofNat 9807), (.int (.ofNat 9807) 580)), ((.ofNat 9808), (.int (.ofNat 9808) 583)), ((.ofNat 9809), (.int (.ofNat 9809) 586)), ((.ofNat 9810), (.int (.ofNat 9810) 589)), ((.ofNat 9811), (.int (.ofNat 9811) 592)), ((.ofNat 10083), (.int (.ofNat 10083) 640)), ((.ofNat 10084), (.int (.ofNat 10084) 643)), ((.ofNat 9193), (.int (.ofNat 9193) 458)), ((.ofNat 9194), (.int (.ofNat 9194) 461)), ((.ofNat 9195), (.int (.ofNat 9195) 464)), ((.ofNat 9196), (.int (.ofNat 9196) 467)), ((.ofNat 9197), (.int (.ofNat 9197) 470)), ((.ofNat 9198), (.int (.ofNat 9198) 473)), ((.ofNat 9199), (.int (.ofNat 9199) 476)), ((.ofNat 9200), (.int (.ofNat 9200) 479)), ((.ofNat 9201), (.int (.ofNat 9201) 482)), ((.ofNat 9202), (.int (.ofNat 9202) 485)), ((.ofNat 9203), (.int (.ofNat 9203) 488)), ((.ofNat 9975), (.int (.ofNat 9975) 600)), ((.ofNat 9976), (.int (.ofNat 9976) 603)), ((.ofNat 9977), (.int (.ofNat 9977) 606)), ((.ofNat 9978), (.int (.ofNat 9978) 609))]⟩, 60, ⟨127, ⟨[0, 1, 2, 3, 4, 8, 9, 10, 11, 12, 13, 20, 21, 22, 23, 24, 25, 26, 27, 28, 29, 30, 32, 41, 46, 48, 60, 64, 66, 72, 73, 74, 75, 76, 77, 78, 79, 80, 81, 82, 83, 99, 100, 105, 106, 107, 108, 109, 110, 111, 112, 113, 114, 115, 119, 120, 121, 122]⟩, ⟨[]⟩, 0, !P.followText "set-order", 2, true⟩)
noncomputable def e18 (P : Params) : SetD := (⟨[((.ofNat 9728), (.int (.ofNat 9728) 496)), ((.ofNat 9729), (.int (.ofNat 9729) 499)), ((.ofNat 9730), (.int (.ofNat 9730) 502)), ((.ofNat 9731), (.int (.ofNat 9731) 505)), ((.ofNat 9732), (.int (.ofNat 9732) 508)), ((.ofNat 9992), (.int (.ofNat 9992) 617)), ((.ofNat 9993), (.int (.ofNat 9993) 620)), ((.ofNat 9994), (.int (.ofNat 9994) 623)), ((.ofNat 9995), (.int (.ofNat 9995) 626)), ((.ofNat 9996), (.int (.ofNat 9996) 629)), ((.ofNat 9997), (.int (.ofNat 9997) 632)), ((.ofNat 8596), (.int (.ofNat 8596) 424)), ((.ofNat 8597), (.int (.ofNat 8597) 427)), ((.ofNat 8598), (.int (.ofNat 8598) 430)), ((.ofNat 8599), (.int (.ofNat 8599) 433)), ((.ofNat 8600), (.int (.ofNat 8600) 436)), ((.ofNat 8601), (.int (.ofNat 8601) 439)), ((.ofNat 8986), (.int (.ofNat 8986) 447)), ((.ofNat 8987), (.int (.ofNat 8987) 450)), ((.ofNat 9748), (.int (.ofNat 9748) 516)), ((.ofNat 9749), (.int (.ofNat 9749) 519)), ((.ofNat 9757), (.int (.ofNat 9757) 527)), ((.ofNat 9760), (.int (.ofNat 9760) 535)), ((.ofNat 169), (.int (.ofNat 169) 400)), ((.ofNat 174), (.int (.ofNat 174) 408)), ((.ofNat 12336), (.int (.ofNat 12336) 651)), ((.ofNat 8252), (.int (.ofNat 8252) 416)), ((.ofNat 12349), (.int (.ofNat 12349) 659)), ((.ofNat 9792), (.int (.ofNat 9792) 543)), ((.ofNat 9794), (.int (.ofNat 9794) 551)), ((.ofNat 9800), (.int (.ofNat 9800) 559)), ((.ofNat 9801), (.int (.ofNat 9801) 562)), ((.ofNat 9802), (.int (.ofNat 9802) 565)), ((.ofNat 9803), (.int (.ofNat 9803) 568)), ((.ofNat 9804), (.int (.ofNat 9804) 571)), ((.ofNat 9805), (.int (.ofNat 9805) 574)), ((.ofNat 9806), (.int (.ofNat 9806) 577)), ((.ofNat 9807), (.int (.ofNat 9807) 580)), ((.ofNat 9808), (.int (.ofNat 9808) 583)), ((.ofNat 9809), (.int (.ofNat 9809) 586)), ((.ofNat 9810), (.int (.ofNat 9810) 589)), ((.ofNat 9811), (.int (.ofNat 9811) 592)), ((.ofNat 10083), (.int (.ofNat 10083) 640)), ((.ofNat 10084), (.int (.ofNat 10084) 643)), ((.ofNat 9193), (.int (.ofNat 9193) 458)), ((.ofNat 9194), (.int (.ofNat 9194) 461)), ((.ofNat 9195), (.int (.ofNat 9195) 464)), ((.ofNat 9196), (.int (.ofNat 9196) 467)), ((.ofNat 9197), (.int (.ofNat 9197) 470)), ((.ofNat 9198), (.int (.ofNat 9198) 473)), ((.ofNat 9199), (.int (.ofNat 9199) 476)), ((.ofNat 9200), (.int (.ofNat 9200) 479)), ((.ofNat 9201), (.int (.ofNat 9201) 482)), ((.ofNat 9202), (.int (.ofNat 9202) 485)), ((.ofNat 9203), (.int (.ofNat 9203) 488)), ((.ofNat 9975), (.int (.ofNat 9975) 600)), ((.ofNat 9976), (.int (.ofNat 9976) 603)), ((.ofNat 9977), (.int (.ofNat 9977) 606)), ((.ofNat 9978), (.int (.ofNat 9978) 609))]⟩, 61, ⟨127, ⟨[0, 1, 2, 3, 4, 8, 9, 10, 11, 12, 13, 20, 21, 22, 23, 24, 25, 26, 27, 28, 29, 30, 32, 41, 46, 48, 60, 61, 64, 66, 72, 73, 74, 75, 76, 77, 78, 79, 80, 81, 82, 83, 99, 100, 105, 106, 107, 108, 109, 110, 111, 112, 113, 114, 115, 119, 120, 121, 122]⟩, ⟨[]⟩, 0, !P.followText "set-order", 2, true⟩)
noncomputable def e19 (P : Params) : SetD := (⟨[((.ofNat 9728), (.int (.ofNat 9728) 496)), ((.ofNat 9729), (.int (.ofNat 9729) 499)), ((.ofNat 9730), (.int (.ofNat 9730) 502)), ((.ofNat 9731), (.int (.ofNat 9731) 505)), ((.ofNat 9732), (.int (.ofNat 9732) 508)), ((.ofNat 126980), (.int (.ofNat 126980) 667)), ((.ofNat 9992), (.int (.ofNat 9992) 617)), ((.ofNat 9993), (.int (.ofNat 9993) 620)), ((.ofNat 9994), (.int (.ofNat 9994) 623)), ((.ofNat 9995), (.int (.ofNat 9995) 626)), ((.ofNat 9996), (.int (.ofNat 9996) 629)), ((.ofNat 9997), (.int (.ofNat 9997) 632)), ((.ofNat 8596), (.int (.ofNat 8596) 424)), ((.ofNat 8597), (.int (.ofNat 8597) 427)), ((.ofNat 8598), (.int (.ofNat 8598) 430)), ((.ofNat 8599), (.int (.ofNat 8599) 433)), ((.ofNat 8600), (.int (.ofNat 8600) 436)), ((.ofNat 8601), (.int (.ofNat 8601) 439)), ((.ofNat 8986), (.int (.ofNat 8986) 447)), ((.ofNat 8987), (.int (.ofNat 8987) 450)), ((.ofNat 9748), (.int (.ofNat 9748) 516)), ((.ofNat 9749), (.int (.ofNat 9749) 519)), ((.ofNat 9757), (.int (.ofNat 9757) 527)), ((.ofNat 9760), (.int (.ofNat 9760) 535)), ((.ofNat 169), (.int (.ofNat 169) 400)), ((.ofNat 174), (.int (.ofNat 174) 408)), ((.ofNat 12336), (.int (.ofNat 12336) 651)), ((.ofNat 8252), (.int (.ofNat 8252) 416)), ((.ofNat 12349), (.int (.ofNat 12349) 659)), ((.ofNat 9792), (.int (.ofNat 9792) 543)), ((.ofNat 9794), (.int (.ofNat 9794) 551)), ((.ofNat 9800), (.int (.ofNat 9800) 559)), ((.ofNat 9801), (.int (.ofNat 9801) 562)), ((.ofNat 9802), (.int (.ofNat 9802) 565)), ((.ofNat 9803), (.int (.ofNat 9803) 568)), ((.ofNat 9804), (.int (.ofNat 9804) 571)), ((.ofNat 9805), (.int (.ofNat 9805) 574)), ((.ofNat 9806), (.int (.ofNat 9806) 577)), ((.ofNat 9807), (.int (.ofNat 9807) 580)), ((.ofNat 9808), (.int (.ofNat 9808) 583)), ((.ofNat 9809), (.int (.ofNat 9809) 586)), ((.ofNat 9810), (.int (.ofNat 9810) 589)), ((.ofNat 9811), (.int (.ofNat 9811) 592)), ((.ofNat 10083), (.int (.ofNat 10083) 640)), ((.ofNat 10084), (.int (.ofNat 10084) 643)), ((.ofNat 9193), (.int (.ofNat 9193) 458)), ((.ofNat 9194), (.int (.ofNat 9194) 461)), ((.ofNat 9195), (.int (.ofNat 9195) 464)), ((.ofNat 9196), (.int (.ofNat 9196) 467)), ((.ofNat 9197), (.int (.ofNat 9197) 470)), ((.ofNat 9198), (.int (.ofNat 9198) 473)), ((.ofNat 9199), (.int (.ofNat 9199) 476)), ((.ofNat 9200), (.int (.ofNat 9200) 479)), ((.ofNat 9201), (.int (.ofNat 9201) 482)), ((.ofNat 9202), (.int (.ofNat 9202) 485)), ((.ofNat 9203), (.int (.ofNat 9203) 488)), ((.ofNat 9975), (.int (.ofNat 9975) 600)), ((.ofNat 9976), (.int (.ofNat 9976) 603)), ((.ofNat 9977), (.int (.ofNat 9977) 606)), ((.ofNat 9978), (.int (.ofNat 9978) 609))]⟩, 62, ⟨127, ⟨[0, 1, 2, 3, 4, 5, 8, 9, 10, 11, 12, 13, 20, 21, 22, 23, 24, 25, 26, 27, 28, 29, 30, 32, 41, 46, 48, 60, 61, 64, 66, 72, 73, 74, 75, 76, 77, 78, 79, 80, 81, 82, 83, 99, 100, 105, 106, 107, 108, 109, 110, 111, 112, 113, 114, 115, 119, 120, 121, 122]⟩, ⟨[]⟩, 0, !P.followText "set-order", 2, true⟩)
noncomputable def e20 (P : Params) : SetD := (⟨[((.ofNat 9728), (.int (.ofNat 9728) 496)), ((.ofNat 9729), (.int (.ofNat 9729) 499)), ((.ofNat 9730), (.int (.ofNat 9730) 502)), ((.ofNat 9731), (.int (.ofNat 9731) 505)), ((.ofNat 9732), (.int (.ofNat 9732) 508)), ((.ofNat 126980), (.int (.ofNat 126980) 667)), ((.ofNat 127383), (.int (.ofNat 127383) 693)), ((.ofNat 9992), (.int (.ofNat 9992) 617)), ((.ofNat 9993), (.int (.ofNat 9993) 620)), ((.ofNat 9994), (.int (.ofNat 9994) 623)), ((.ofNat 9995), (.int (.ofNat 9995) 626)), ((.ofNat 9996), (.int (.ofNat 9996) 629)), ((.ofNat 9997), (.int (.ofNat 9997) 632)), ((.ofNat 127377), (.int (.ofNat 127377) 675)), ((.ofNat 127378), (.int (.ofNat 127378) 678)), ((.ofNat 127379), (.int (.ofNat 127379) 681)), ((.ofNat 8596), (.int (.ofNat 8596) 424)), ((.ofNat 8597), (.int (.ofNat 8597) 427)), ((.ofNat 8598), (.int (.ofNat 8598) 430)), ((.ofNat 8599), (.int (.ofNat 8599) 433)), ((.ofNat 8600), (.int (.ofNat 8600) 436)), ((.ofNat 8601), (.int (.ofNat 8601) 439)), ((.ofNat 8986), (.int (.ofNat 8986) 447)), ((.ofNat 8987), (.int (.ofNat 8987) 450)), ((.ofNat 9748), (.int (.ofNat 9748) 516)), ((.ofNat 9749), (.int (.ofNat 9749) 519)), ((.ofNat 9757), (.int (.ofNat 9757) 527)), ((.ofNat 127382), (.int (.ofNat 127382) 690)), ((.ofNat 9760), (.int (.ofNat 9760) 535)), ((.ofNat 127384), (.int (.ofNat 127384) 696)), ((.ofNat 127385), (.int (.ofNat 127385) 699)), ((.ofNat 127386), (.int (.ofNat 127386) 702)), ((.ofNat 169), (.int (.ofNat 169) 400)), ((.ofNat 174), (.int (.ofNat 174) 408)), ((.ofNat 12336), (.int (.ofNat 12336) 651)), ((.ofNat 8252), (.int (.ofNat 8252) 416)), ((.ofNat 12349), (.int (.ofNat 12349) 659)), ((.ofNat 9792), (.int (.ofNat 9792) 543)), ((.ofNat 9794), (.int (.ofNat 9794) 551)), ((.ofNat 9800), (.int (.ofNat 9800) 559)), ((.ofNat 9801), (.int (.ofNat 9801) 562)), ((.ofNat 9802), (.int (.ofNat 9802) 565)), ((.ofNat 9803), (.int (.ofNat 9803) 568)), ((.ofNat 9804), (.int (.ofNat 9804) 571)), ((.ofNat 9805), (.int (.ofNat 9805) 574)), ((.ofNat 9806), (.int (.ofNat 9806) 577)), ((.ofNat 9807), (.int (.ofNat 9807) 580)), ((.ofNat 9808), (.int (.ofNat 9808) 583)), ((.ofNat 9809), (.int (.ofNat 9809) 586)), ((.ofNat 9810), (.int (.ofNat 9810) 589)), ((.ofNat 9811), (.int (.ofNat 9811) 592)), ((.ofNat 10083), (.int (.ofNat 10083) 640)), ((.ofNat 10084), (.int (.ofNat 10084) 643)), ((.ofNat 9193), (.int (.ofNat 9193) 458)), ((.ofNat 9194), (.int (.ofNat 9194) 461)), ((.ofNat 9195), (.int (.ofNat 9195) 464)), ((.ofNat 9196), (.int (.ofNat 9196) 467)), ((.ofNat 9197), (.int (.ofNat 9197) 470)), ((.ofNat 9198), (.int (.ofNat 9198) 473)), ((.ofNat 9199), (.int (.ofNat 9199) 476)), ((.ofNat 9200), (.int (.ofNat 9200) 479)), ((.ofNat 9201), (.int (.ofNat 9201) 482)), ((.ofNat 9202), (.int (.ofNat 9202) 485)), ((.ofNat 9203), (.int (.ofNat 9203) 488)), ((.ofNat 127380), (.int (.ofNat 127380) 684)), ((.ofNat 127381), (.int (.ofNat 127381) 687)), ((.ofNat 9975), (.int (.ofNat 9975) 600)), ((.ofNat 9976), (.int (.ofNat 9976) 603)), ((.ofNat 9977), (.int (.ofNat 9977) 606)), ((.ofNat 9978), (.int (.ofNat 9978) 609))]⟩, 72, ⟨127, ⟨[0, 1, 2, 3, 4, 5, 6, 8, 9, 10, 11, 12, 13, 17, 18, 19, 20, 21, 22, 23, 24, 25, 26, 27, 28, 29, 30, 31, 32, 33, 34, 35, 41, 46, 48, 60, 61, 64, 66, 72, 73, 74, 75, 76, 77, 78, 79, 80, 81, 82, 83, 99, 100, 105, 106, 107, 108, 109, 110, 111, 112, 113, 114, 115, 116, 118, 119, 120, 121, 122]⟩, ⟨[]⟩, 0, !P.followText "set-order", 2, true⟩)
noncomputable def e21 (P : Params) : SetD := (⟨[((.ofNat 9728), (.int (.ofNat 9728) 496)), ((.ofNat 9729), (.int (.ofNat 9729) 499)), ((.ofNat 9730), (.int (.ofNat 9730) 502)), ((.ofNat 9731), (.int (.ofNat 9731) 505)), ((.ofNat 9732), (.int (.ofNat 9732) 508)), ((.ofNat 126980), (.int (.ofNat 126980) 667)), ((.ofNat 127383), (.int (.ofNat 127383) 693)), ((.ofNat 9992), (.int (.ofNat 9992) 617)), ((.ofNat 9993), (.int (.ofNat 9993) 620)), ((.ofNat 9994), (.int (.ofNat 9994) 623)), ((.ofNat 9995), (.int (.ofNat 9995) 626)), ((.ofNat 9996), (.int (.ofNat 9996) 629)), ((.ofNat 9997), (.int (.ofNat 9997) 632)), ((.ofNat 127377), (.int (.ofNat 127377) 675)), ((.ofNat 127378), (.int (.ofNat 127378) 678)), ((.ofNat 127379), (.int (.ofNat 127379) 681)), ((.ofNat 8596), (.int (.ofNat 8596) 424)), ((.ofNat 8597), (.int (.ofNat 8597) 427)), ((.ofNat 8598), (.int (.ofNat 8598) 430)), ((.ofNat 8599), (.int (.ofNat 8599) 433)), ((.ofNat 8600), (.int (.ofNat 8600) 436)), ((.ofNat 8601), (.int (.ofNat 8601) 439)), ((.ofNat 8986), (.int (.ofNat 8986) 447)), ((.ofNat 8987), (.int (.ofNat 8987) 450)), ((.ofNat 9748), (.int (.ofNat 9748) 516)), ((.ofNat 9749), (.int (.ofNat 9749) 519)), ((.ofNat 9757), (.int (.ofNat 9757) 527)), ((.ofNat 127382), (.int (.ofNat 127382) 690)), ((.ofNat 9760), (.int (.ofNat 9760) 535)), ((.ofNat 127384), (.int (.ofNat 127384) 696)), ((.ofNat 127385), (.int (.ofNat 127385) 699)), ((.ofNat 127386), (.int (.ofNat 127386) 702)), ((.ofNat 169), (.int (.ofNat 169) 400)), ((.ofNat 174), (.int (.ofNat 174) 408)), ((.ofNat 12336), (.int (.ofNat 12336) 651)), ((.ofNat 8252), (.int (.ofNat 8252) 416)), ((.ofNat 12349), (.int (.ofNat 12349) 659)), ((.ofNat 9792), (.int (.ofNat 9792) 543)), ((.ofNat 9794), (.int (.ofNat 9794) 551)), ((.ofNat 9800), (.int (.ofNat 9800) 559)), ((.ofNat 9801), (.int (.ofNat 9801) 562)), ((.ofNat 9802), (.int (.ofNat 9802) 565)), ((.ofNat 9803), (.int (.ofNat 9803) 568)), ((.ofNat 9804), (.int (.ofNat 9804) 571)), ((.ofNat 9805), (.int (.ofNat 9805) 574)), ((.ofNat 9806), (.int (.ofNat 9806) 577)), ((.ofNat 9807), (.int (.ofNat 9807) 580)), ((.ofNat 9808), (.int (.ofNat 9808) 583)), ((.ofNat 9809), (.int (.ofNat 9809) 586)), ((.ofNat 9810), (.int (.ofNat 9810) 589)), ((.ofNat 9811), (.int (.ofNat 9811) 592)), ((.ofNat 10083), (.int (.ofNat 10083) 640)), ((.ofNat 10084), (.int (.ofNat 10084) 643)), ((.ofNat 9193), (.int (.ofNat 9193) 458)), ((.ofNat 9194), (.int (.ofNat 9194) 461)), ((.ofNat 9195), (.int (.ofNat 9195) 464)), ((.ofNat 9196), (.int (.ofNat 9196) 467)), ((.ofNat 9197), (.int (.ofNat 9197) 470)), ((.ofNat 9198), (.int (.ofNat 9198) 473)), ((.ofNat 9199), (.int (.ofNat 9199) 476)), ((.ofNat 9200), (.int (.ofNat 9200) 479)), ((.ofNat 9201), (.int (.ofNat 9201) 482)), ((.ofNat 9202), (.int (.ofNat 9202) 485)), ((.ofNat 9203), (.int (.ofNat 9203) 488)), ((.ofNat 127380), (.int (.ofNat 127380) 684)), ((.ofNat 127987), (.int (.ofNat 127987) 710)), ((.ofNat 127381), (.int (.ofNat 127381) 687)), ((.ofNat 9975), (.int (.ofNat 9975) 600)), ((.ofNat 9976), (.int (.ofNat 9976) 603)), ((.ofNat 9977), (.int (.ofNat 9977) 606)), ((.ofNat 9978), (.int (.ofNat 9978) 609)), ((.ofNat 127988), (.int (.ofNat 127988) 713)), ((.ofNat 127989), (.int (.ofNat 127989) 716))]⟩, 75, ⟨127, ⟨[0, 1, 2, 3, 4, 5, 6, 8, 9, 10, 11, 12, 13, 17, 18, 19, 20, 21, 22, 23, 24, 25, 26, 27, 28, 29, 30, 31, 32, 33, 34, 35, 41, 46, 48, 60, 61, 64, 66, 72, 73, 74, 75, 76, 77, 78, 79, 80, 81, 82, 83, 99, 100, 105, 106, 107, 108, 109, 110, 111, 112, 113, 114, 115, 116, 117, 118, 119, 120, 121, 122, 123, 124]⟩, ⟨[]⟩, 0, !P.followText "set-order", 2, true⟩)
noncomputable def e22 (P : Params) : SetD := (⟨[((.ofNat 9728), (.int (.ofNat 9728) 496)), ((.ofNat 9729), (.int (.ofNat 9729) 499)), ((.ofNat 9730), (.int (.ofNat 9730) 502)), ((.ofNat 9731), (.int (.ofNat 9731) 505)), ((.ofNat 9732), (.int (.ofNat 9732) 508)), ((.ofNat 126980), (.int (.ofNat 126980) 667)), ((.ofNat 9748), (.int (.ofNat 9748) 516)), ((.ofNat 9749), (.int (.ofNat 9749) 519)), ((.ofNat 9757), (.int (.ofNat 9757) 527)), ((.ofNat 9760), (.int (.ofNat 9760) 535)), ((.ofNat 12336), (.int (.ofNat 12336) 651)), ((.ofNat 8252), (.int (.ofNat 8252) 416)), ((.ofNat 12349), (.int (.ofNat 12349) 659)), ((.ofNat 9792), (.int (.ofNat 9792) 543)), ((.ofNat 9794), (.int (.ofNat 9794) 551)), ((.ofNat 9800), (.int (.ofNat 9800) 559)), ((.ofNat 9801), (.int (.ofNat 9801) 562)), ((.ofNat 9802), (.int (.ofNat 9802) 565)), ((.ofNat 9803), (.int (.ofNat 9803) 568)), ((.ofNat 9804), (.int (.ofNat 9804) 571)), ((.ofNat 9805), (.int (.ofNat 9805) 574)), ((.ofNat 9806), (.int (.ofNat 9806) 577)), ((.ofNat 9807), (.int (.ofNat 9807) 580)), ((.ofNat 9808), (.int (.ofNat 9808) 583)), ((.ofNat 9809), (.int (.ofNat 9809) 586)), ((.ofNat 9810), (.int (.ofNat 9810) 589)), ((.ofNat 9811), (.int (.ofNat 9811) 592)), ((.ofNat 169), (.int (.ofNat 169) 400)), ((.ofNat 174), (.int (.ofNat 174) 408)), ((.ofNat 9975), (.int (.ofNat 9975) 600)), ((.ofNat 9976), (.int (.ofNat 9976) 603)), ((.ofNat 9977), (.int (.ofNat 9977) 606)), ((.ofNat 9978), (.int (.ofNat 9978) 609)), ((.ofNat 9992), (.int (.ofNat 9992) 617)), ((.ofNat 9993), (.int (.ofNat 9993) 620)), ((.ofNat 9994), (.int (.ofNat 9994) 623)), ((.ofNat 9995), (.int (.ofNat 9995) 626)), ((.ofNat 9996), (.int (.ofNat 9996) 629)), ((.ofNat 9997), (.int (.ofNat 9997) 632)), ((.ofNat 8986), (.int (.ofNat 8986) 447)), ((.ofNat 8987), (.int (.ofNat 8987) 450)), ((.ofNat 10083), (.int (.ofNat 10083) 640)), ((.ofNat 10084), (.int (.ofNat 10084) 643)), ((.ofNat 127380), (.int (.ofNat 127380) 684)), ((.ofNat 127381), (.int (.ofNat 127381) 687)), ((.ofNat 127377), (.int (.ofNat 127377) 675)), ((.ofNat 127378), (.int (.ofNat 127378) 678)), ((.ofNat 127379), (.int (.ofNat 127379) 681)), ((.ofNat 8596), (.int (.ofNat 8596) 424)), ((.ofNat 8597), (.int (.ofNat 8597) 427)), ((.ofNat 8598), (.int (.ofNat 8598) 430)), ((.ofNat 127383), (.int (.ofNat 127383) 693)), ((.ofNat 8599), (.int (.ofNat 8599) 433)), ((.ofNat 8600), (.int (.ofNat 8600) 436)), ((.ofNat 8601), (.int (.ofNat 8601) 439)), ((.ofNat 127382), (.int (.ofNat 127382) 690)), ((.ofNat 127384), (.int (.ofNat 127384) 696)), ((.ofNat 127385), (.int (.ofNat 127385) 699)), ((.ofNat 127386), (.int (.ofNat 127386) 702)), ((.ofNat 9193), (.int (.ofNat 9193) 458)), ((.ofNat 9194), (.int (.ofNat 9194) 461)), ((.ofNat 9195), (.int (.ofNat 9195) 464)), ((.ofNat 9196), (.int (.ofNat 9196) 467)), ((.ofNat 9197), (.int (.ofNat 9197) 470)), ((.ofNat 9198), (.int (.ofNat 9198) 473)), ((.ofNat 9199), (.int (.ofNat 9199) 476)), ((.ofNat 9200), (.int (.ofNat 9200) 479)), ((.ofNat 9201), (.int (.ofNat 9201) 482)), ((.ofNat 9202), (.int (.ofNat 9202) 485)), ((.ofNat 9203), (.int (.ofNat 9203) 488)), ((.ofNat 127987), (.int (.ofNat 127987) 710)), ((.ofNat 127988), (.int (.ofNat 127988) 713)), ((.ofNat 127989), (.int (.ofNat 127989) 716)), ((.ofNat 127991), (.int (.ofNat 127991) 724)), ((.ofNat 127992), (.int (.ofNat 127992) 727)), ((.ofNat 127993), (.int (.ofNat 127993) 730)), ((.ofNat 127994), (.int (.ofNat 127994) 733))]⟩, 80, ⟨511, ⟨[0, 1, 2, 3, 4, 5, 20, 21, 29, 32, 48, 60, 61, 64, 66, 72, 73, 74, 75, 76, 77, 78, 79, 80, 81, 82, 83, 169, 174, 247, 248, 249, 250, 264, 265, 266, 267, 268, 269, 282, 283, 355, 356, 369, 374, 401, 402, 403, 404, 405, 406, 407, 408, 409, 410, 411, 412, 413, 414, 489, 490, 491, 492, 493, 494, 495, 496, 497, 498, 499, 500, 501, 502, 503, 504, 505, 506]⟩, ⟨[]⟩, 0, !P.followText "set-order", 3, true⟩)
noncomputable def e22a (P : Params) : SetD := (⟨[((.ofNat 9728), (.int (.ofNat 9728) 496)), ((.ofNat 9729), (.int (.ofNat 9729) 499)), ((.ofNat 9730), (.int (.ofNat 9730) 502)), ((.ofNat 9731), (.int (.ofNat 9731) 505)), ((.ofNat 9732), (.int (.ofNat 9732) 508)), ((.ofNat 126980), (.int (.ofNat 126980) 667)), ((.ofNat 127383), (.int (.ofNat 127383) 693)), ((.ofNat 9992), (.int (.ofNat 9992) 617)), ((.ofNat 9993), (.int (.ofNat 9993) 620)), ((.ofNat 9994), (.int (.ofNat 9994) 623)), ((.ofNat 9995), (.int (.ofNat 9995) 626)), ((.ofNat 9996), (.int (.ofNat 9996) 629)), ((.ofNat 9997), (.int (.ofNat 9997) 632)), ((.ofNat 127377), (.int (.ofNat 127377) 675)), ((.ofNat 127378), (.int (.ofNat 127378) 678)), ((.ofNat 127379), (.int (.ofNat 127379) 681)), ((.ofNat 8596), (.int (.ofNat 8596) 424)), ((.ofNat 8597), (.int (.ofNat 8597) 427)), ((.ofNat 8598), (.int (.ofNat 8598) 430)), ((.ofNat 8599), (.int (.ofNat 8599) 433)), ((.ofNat 8600), (.int (.ofNat 8600) 436)), ((.ofNat 8601), (.int (.ofNat 8601) 439)), ((.ofNat 8986), (.int (.ofNat 8986) 447)), ((.ofNat 8987), (.int (.ofNat 8987) 450)), ((.ofNat 9748), (.int (.ofNat 9748) 516)), ((.ofNat 9749), (.int (.ofNat 9749) 519)), ((.ofNat 9757), (.int (.ofNat 9757) 527)), ((.ofNat 127382), (.int (.ofNat 127382) 690)), ((.ofNat 9760), (.int (.ofNat 9760) 535)), ((.ofNat 127384), (.int (.ofNat 127384) 696)), ((.ofNat 127385), (.int (.ofNat 127385) 699)), ((.ofNat 127386), (.int (.ofNat 127386) 702)), ((.ofNat 169), (.int (.ofNat 169) 400)), ((.ofNat 174), (.int (.ofNat 174) 408)), ((.ofNat 12336), (.int (.ofNat 12336) 651)), ((.ofNat 8252), (.int (.ofNat 8252) 416)), ((.ofNat 12349), (.int (.ofNat 12349) 659)), ((.ofNat 127991), (.int (.ofNat 127991) 724)), ((.ofNat 9792), (.int (.ofNat 9792) 543)), ((.ofNat 9794), (.int (.ofNat 9794) 551)), ((.ofNat 9800), (.int (.ofNat 9800) 559)), ((.ofNat 9801), (.int (.ofNat 9801) 562)), ((.ofNat 9802), (.int (.ofNat 9802) 565)), ((.ofNat 9803), (.int (.ofNat 9803) 568)), ((.ofNat 9804), (.int (.ofNat 9804) 571)), ((.ofNat 9805), (.int (.ofNat 9805) 574)), ((.ofNat 9806), (.int (.ofNat 9806) 577)), ((.ofNat 9807), (.int (.ofNat 9807) 580)), ((.ofNat 9808), (.int (.ofNat 9808) 583)), ((.ofNat 9809), (.int (.ofNat 9809) 586)), ((.ofNat 9810), (.int (.ofNat 9810) 589)), ((.ofNat 9811), (.int (.ofNat 9811) 592)), ((.ofNat 127992), (.int (.ofNat 127992) 727)), ((.ofNat 10083), (.int (.ofNat 10083) 640)), ((.ofNat 10084), (.int (.ofNat 10084) 643)), ((.ofNat 9193), (.int (.ofNat 9193) 458)), ((.ofNat 9194), (.int (.ofNat 9194) 461)), ((.ofNat 9195), (.int (.ofNat 9195) 464)), ((.ofNat 9196), (.int (.ofNat 9196) 467)), ((.ofNat 9197), (.int (.ofNat 9197) 470)), ((.ofNat 9198), (.int (.ofNat 9198) 473)), ((.ofNat 9199), (.int (.ofNat 9199) 476)), ((.ofNat 9200), (.int (.ofNat 9200) 479)), ((.ofNat 9201), (.int (.ofNat 9201) 482)), ((.ofNat 9202), (.int (.ofNat 9202) 485)), ((.ofNat 9203), (.int (.ofNat 9203) 488)), ((.ofNat 127380), (.int (.ofNat 127380) 684)), ((.ofNat 127987), (.int (.ofNat 127987) 710)), ((.ofNat 127381), (.int (.ofNat 127381) 687)), ((.ofNat 9975), (.int (.ofNat 9975) 600)), ((.ofNat 9976), (.int (.ofNat 9976) 603)), ((.ofNat 9977), (.int (.ofNat 9977) 606)), ((.ofNat 9978), (.int (.ofNat 9978) 609)), ((.ofNat 127988), (.int (.ofNat 127988) 713)), ((.ofNat 127989), (.int (.ofNat 127989) 716)), ((.ofNat 127993), (.int (.ofNat 127993) 730))]⟩, 78, ⟨127, ⟨[0, 1, 2, 3, 4, 5, 6, 8, 9, 10, 11, 12, 13, 17, 18, 19, 20, 21, 22, 23, 24, 25, 26, 27, 28, 29, 30, 31, 32, 33, 34, 35, 41, 46, 48, 60, 61, 62, 64, 66, 72, 73, 74, 75, 76, 77, 78, 79, 80, 81, 82, 83, 85, 99, 100, 105, 106, 107, 108, 109, 110, 111, 112, 113, 114, 115, 116, 117, 118, 119, 120, 121, 122, 123, 124, 125]⟩, ⟨[]⟩, 0, !P.followText "set-order", 2, true⟩)
noncomputable def e23 (P : Params) : SetD := (⟨[((.ofNat 9728), (.int (.ofNat 9728) 496)), ((.ofNat 9729), (.int (.ofNat 9729) 499)), ((.ofNat 9730), (.int (.ofNat 9730) 502)), ((.ofNat 9731), (.int (.ofNat 9731) 505)), ((.ofNat 9732), (.int (.ofNat 9732) 508)), ((.ofNat 126980), (.int (.ofNat 126980) 667)), ((.ofNat 9748), (.int (.ofNat 9748) 516)), ((.ofNat 9749), (.int (.ofNat 9749) 519)), ((.ofNat 9757), (.int (.ofNat 9757) 527)), ((.ofNat 9760), (.int (.ofNat 9760) 535)), ((.ofNat 12336), (.int (.ofNat 12336) 651)), ((.ofNat 8252), (.int (.ofNat 8252) 416)), ((.ofNat 12349), (.int (.ofNat 12349) 659)), ((.ofNat 9792), (.int (.ofNat 9792) 543)), ((.ofNat 9794), (.int (.ofNat 9794) 551)), ((.ofNat 9800), (.int (.ofNat 9800) 559)), ((.ofNat 9801), (.int (.ofNat 9801) 562)), ((.ofNat 9802), (.int (.ofNat 9802) 565)), ((.ofNat 9803), (.int (.ofNat 9803) 568)), ((.ofNat 9804), (.int (.ofNat 9804) 571)), ((.ofNat 9805), (.int (.ofNat 9805) 574)), ((.ofNat 9806), (.int (.ofNat 9806) 577)), ((.ofNat 9807), (.int (.ofNat 9807) 580)), ((.ofNat 9808), (.int (.ofNat 9808) 583)), ((.ofNat 9809), (.int (.ofNat 9809) 586)), ((.ofNat 9810), (.int (.ofNat 9810) 589)), ((.ofNat 9811), (.int (.ofNat 9811) 592)), ((.ofNat 169), (.int (.ofNat 169) 400)), ((.ofNat 174), (.int (.ofNat 174) 408)), ((.ofNat 9975), (.int (.ofNat 9975) 600)), ((.ofNat 9976), (.int (.ofNat 9976) 603)), ((.ofNat 9977), (.int (.ofNat 9977) 606)), ((.ofNat 9978), (.int (.ofNat 9978) 609)), ((.ofNat 9992), (.int (.ofNat 9992) 617)), ((.ofNat 9993), (.int (.ofNat 9993) 620)), ((.ofNat 9994), (.int (.ofNat 9994) 623)), ((.ofNat 9995), (.int (.ofNat 9995) 626)), ((.ofNat 9996), (.int (.ofNat 9996) 629)), ((.ofNat 9997), (.int (.ofNat 9997) 632)), ((.ofNat 8986), (.int (.ofNat 8986) 447)), ((.ofNat 8987), (.int (.ofNat 8987) 450)), ((.ofNat 10083), (.int (.ofNat 10083) 640)), ((.ofNat 10084), (.int (.ofNat 10084) 643)), ((.ofNat 127380), (.int (.ofNat 127380) 684)), ((.ofNat 128371), (.int (.ofNat 128371) 741)), ((.ofNat 128372), (.int (.ofNat 128372) 744)), ((.ofNat 128373), (.int (.ofNat 128373) 747)), ((.ofNat 127381), (.int (.ofNat 127381) 687)), ((.ofNat 128374), (.int (.ofNat 128374) 750)), ((.ofNat 128375), (.int (.ofNat 128375) 753)), ((.ofNat 128376), (.int (.ofNat 128376) 756)), ((.ofNat 128377), (.int (.ofNat 128377) 759)), ((.ofNat 128378), (.int (.ofNat 128378) 762)), ((.ofNat 127377), (.int (.ofNat 127377) 675)), ((.ofNat 127378), (.int (.ofNat 127378) 678)), ((.ofNat 127379), (.int (.ofNat 127379) 681)), ((.ofNat 8596), (.int (.ofNat 8596) 424)), ((.ofNat 8597), (.int (.ofNat 8597) 427)), ((.ofNat 8598), (.int (.ofNat 8598) 430)), ((.ofNat 127383), (.int (.ofNat 127383) 693)), ((.ofNat 8599), (.int (.ofNat 8599) 433)), ((.ofNat 8600), (.int (.ofNat 8600) 436)), ((.ofNat 8601), (.int (.ofNat 8601) 439)), ((.ofNat 127382), (.int (.ofNat 127382) 690)), ((.ofNat 127384), (.int (.ofNat 127384) 696)), ((.ofNat 127385), (.int (.ofNat 127385) 699)), ((.ofNat 127386), (.int (.ofNat 127386) 702)), ((.ofNat 9193), (.int (.ofNat 9193) 458)), ((.ofNat 9194), (.int (.ofNat 9194) 461)), ((.ofNat 9195), (.int (.ofNat 9195) 464)), ((.ofNat 9196), (.int (.ofNat 9196) 467)), ((.ofNat 9197), (.int (.ofNat 9197) 470)), ((.ofNat 9198), (.int (.ofNat 9198) 473)), ((.ofNat 9199), (.int (.ofNat 9199) 476)), ((.ofNat 9200), (.int (.ofNat 9200) 479)), ((.ofNat 9201), (.int (.ofNat 9201) 482)), ((.ofNat 9202), (.int (.ofNat 9202) 485)), ((.ofNat 9203), (.int (.ofNat 9203) 488)), ((.ofNat 127987), (.int (.ofNat 127987) 710)), ((.ofNat 127988), (.int (.ofNat 127988) 713)), ((.ofNat 127989), (.int (.ofNat 127989) 716)), ((.ofNat 127991), (.int (.ofNat 127991) 724)), ((.ofNat 127992), (.int (.ofNat 127992) 727)), ((.ofNat 127993), (.int (.ofNat 127993) 730)), ((.ofNat 127994), (.int (.ofNat 127994) 733))]⟩, 88, ⟨511, ⟨[0, 1, 2, 3, 4, 5, 20, 21, 29, 32, 48, 60, 61, 64, 66, 72, 73, 74, 75, 76, 77, 78, 79, 80, 81, 82, 83, 169, 174, 247, 248, 249, 250, 264, 265, 266, 267, 268, 269, 282, 283, 355, 356, 369, 371, 372, 373, 374, 375, 376, 377, 378, 379, 401, 402, 403, 404, 405, 406, 407, 408, 409, 410, 411, 412, 413, 414, 489, 490, 491, 492, 493, 494, 495, 496, 497, 498, 499, 500, 501, 502, 503, 504, 505, 506]⟩, ⟨[]⟩, 0, !P.followText "set-order", 3, true⟩)
noncomputable def e24 (P : Params) : SetD := (⟨[((.ofNat 9728), (.int (.ofNat 9728) 496)), ((.ofNat 9729), (.int (.ofNat 9729) 499)), ((.ofNat 9730), (.int (.ofNat 9730) 502)), ((.ofNat 9731), (.int (.ofNat 9731) 505)), ((.ofNat 9732), (.int (.ofNat 9732) 508)), ((.ofNat 126980), (.int (.ofNat 126980) 667)), ((.ofNat 9748), (.int (.ofNat 9748) 516)), ((.ofNat 9749), (.int (.ofNat 9749) 519)), ((.ofNat 9757), (.int (.ofNat 9757) 527)), ((.ofNat 9760), (.int (.ofNat 9760) 535)), ((.ofNat 12336), (.int (.ofNat 12336) 651)), ((.ofNat 8252), (.int (.ofNat 8252) 416)), ((.ofNat 12349), (.int (.ofNat 12349) 659)), ((.ofNat 9792), (.int (.ofNat 9792) 543)), ((.ofNat 9794), (.int (.ofNat 9794) 551)), ((.ofNat 9800), (.int (.ofNat 9800) 559)), ((.ofNat 9801), (.int (.ofNat 9801) 562)), ((.ofNat 9802), (.int (.ofNat 9802) 565)), ((.ofNat 9803), (.int (.ofNat 9803) 568)), ((.ofNat 9804), (.int (.ofNat 9804) 571)), ((.ofNat 9805), (.int (.ofNat 9805) 574)), ((.ofNat 9806), (.int (.ofNat 9806) 577)), ((.ofNat 9807), (.int (.ofNat 9807) 580)), ((.ofNat 9808), (.int (.ofNat 9808) 583)), ((.ofNat 9809), (.int (.ofNat 9809) 586)), ((.ofNat 9810), (.int (.ofNat 9810) 589)), ((.ofNat 9811), (.int (.ofNat 9811) 592)), ((.ofNat 169), (.int (.ofNat 169) 400)), ((.ofNat 174), (.int (.ofNat 174) 408)), ((.ofNat 9975), (.int (.ofNat 9975) 600)), ((.ofNat 9976), (.int (.ofNat 9976) 603)), ((.ofNat 9977), (.int (.ofNat 9977) 606)), ((.ofNat 9978), (.int (.ofNat 9978) 609)), ((.ofNat 9992), (.int (.ofNat 9992) 617)), ((.ofNat 9993), (.int (.ofNat 9993) 620)), ((.ofNat 9994), (.int (.ofNat 9994) 623)), ((.ofNat 9995), (.int (.ofNat 9995) 626)), ((.ofNat 9996), (.int (.ofNat 9996) 629)), ((.ofNat 9997), (.int (.ofNat 9997) 632)), ((.ofNat 8986), (.int (.ofNat 8986) 447)), ((.ofNat 8987), (.int (.ofNat 8987) 450)), ((.ofNat 10083), (.int (.ofNat 10083) 640)), ((.ofNat 10084), (.int (.ofNat 10084) 643)), ((.ofNat 127380), (.int (.ofNat 127380) 684)), ((.ofNat 128371), (.int (.ofNat 128371) 741)), ((.ofNat 128372), (.int (.ofNat 128372) 744)), ((.ofNat 128373), (.int (.ofNat 128373) 747)), ((.ofNat 127381), (.int (.ofNat 127381) 687)), ((.ofNat 128374), (.int (.ofNat 128374) 750)), ((.ofNat 128375), (.int (.ofNat 128375) 753)), ((.ofNat 128376), (.int (.ofNat 128376) 756)), ((.ofNat 128377), (.int (.ofNat 128377) 759)), ((.ofNat 128378), (.int (.ofNat 128378) 762)), ((.ofNat 127377), (.int (.ofNat 127377) 675)), ((.ofNat 127378), (.int (.ofNat 127378) 678)), ((.ofNat 127379), (.int (.ofNat 127379) 681)), ((.ofNat 8596), (.int (.ofNat 8596) 424)), ((.ofNat 8597), (.int (.ofNat 8597) 427)), ((.ofNat 8598), (.int (.ofNat 8598) 430)), ((.ofNat 127383), (.int (.ofNat 127383) 693)), ((.ofNat 8599), (.int (.ofNat 8599) 433)), ((.ofNat 8600), (.int (.ofNat 8600) 436)), ((.ofNat 8601), (.int (.ofNat 8601) 439)), ((.ofNat 127382), (.int (.ofNat 127382) 690)), ((.ofNat 127384), (.int (.ofNat 127384) 696)), ((.ofNat 127385), (.int (.ofNat 127385) 699)), ((.ofNat 127386), (.int (.ofNat 127386) 702)), ((.ofNat 128405), (.int (.ofNat 128405) 770)), ((.ofNat 128406), (.int (.ofNat 128406) 773)), ((.ofNat 9193), (.int (.ofNat 9193) 458)), ((.ofNat 9194), (.int (.ofNat 9194) 461)), ((.ofNat 9195), (.int (.ofNat 9195) 464)), ((.ofNat 9196), (.int (.ofNat 9196) 467)), ((.ofNat 9197), (.int (.ofNat 9197) 470)), ((.ofNat 9198), (.int (.ofNat 9198) 473)), ((.ofNat 9199), (.int (.ofNat 9199) 476)), ((.ofNat 9200), (.int (.ofNat 9200) 479)), ((.ofNat 9201), (.int (.ofNat 9201) 482)), ((.ofNat 9202), (.int (.ofNat 9202) 485)), ((.ofNat 9203), (.int (.ofNat 9203) 488)), ((.ofNat 127987), (.int (.ofNat 127987) 710)), ((.ofNat 127988), (.int (.ofNat 127988) 713)), ((.ofNat 127989), (.int (.ofNat 127989) 716)), ((.ofNat 127991), (.int (.ofNat 127991) 724)), ((.ofNat 127992), (.int (.ofNat 127992) 727)), ((.ofNat 127993), (.int (.ofNat 127993) 730)), ((.ofNat 127994), (.int (.ofNat 127994) 733))]⟩, 90, ⟨511, ⟨[0, 1, 2, 3, 4, 5, 20, 21, 29, 32, 48, 60, 61, 64, 66, 72, 73, 74, 75, 76, 77, 78, 79, 80, 81, 82, 83, 169, 174, 247, 248, 249, 250, 264, 265, 266, 267, 268, 269, 282, 283, 355, 356, 369, 371, 372, 373, 374, 375, 376, 377, 378, 379, 401, 402, 403, 404, 405, 406, 407, 408, 409, 410, 411, 412, 413, 414, 415, 416, 489, 490, 491, 492, 493, 494, 495, 496, 497, 498, 499, 500, 501, 502, 503, 504, 505, 506]⟩, ⟨[]⟩, 0, !P.followText "set-order", 3, true⟩)
noncomputable def e25 (P : Params) : SetD := (⟨[((.ofNat 9728), (.int (.ofNat 9728) 496)), ((.ofNat 9729), (.int (.ofNat 9729) 499)), ((.ofNat 9730), (.int (.ofNat 9730) 502)), ((.ofNat 9731), (.int (.ofNat 9731) 505)), ((.ofNat 9732), (.int (.ofNat 9732) 508)), ((.ofNat 126980), (.int (.ofNat 126980) 667)), ((.ofNat 9748), (.int (.ofNat 9748) 516)), ((.ofNat 9749), (.int (.ofNat 9749) 519)), ((.ofNat 9757), (.int (.ofNat 9757) 527)), ((.ofNat 9760), (.int (.ofNat 9760) 535)), ((.ofNat 12336), (.int (.ofNat 12336) 651)), ((.ofNat 8252), (.int (.ofNat 8252) 416)), ((.ofNat 12349), (.int (.ofNat 12349) 659)), ((.ofNat 9792), (.int (.ofNat 9792) 543)), ((.ofNat 9794), (.int (.ofNat 9794) 551)), ((.ofNat 9800), (.int (.ofNat 9800) 559)), ((.ofNat 9801), (.int (.ofNat 9801) 562)), ((.ofNat 9802), (.int (.ofNat 9802) 565)), ((.ofNat 9803), (.int (.ofNat 9803) 568)), ((.ofNat 9804), (.int (.ofNat 9804) 571)), ((.ofNat 9805), (.int (.ofNat 9805) 574)), ((.ofNat 9806), (.int (.ofNat 9806) 577)), ((.ofNat 9807), (.int (.ofNat 9807) 580)), ((.ofNat 9808), (.int (.ofNat 9808) 583)), ((.ofNat 9809), (.int (.ofNat 9809) 586)), ((.ofNat 9810), (.int (.ofNat 9810) 589)), ((.ofNat 9811), (.int (.ofNat 9811) 592)), ((.ofNat 169), (.int (.ofNat 169) 400)), ((.ofNat 174), (.int (.ofNat 174) 408)), ((.ofNat 9975), (.int (.ofNat 9975) 600)), ((.ofNat 9976), (.int (.ofNat 9976) 603)), ((.ofNat 9977), (.int (.ofNat 9977) 606)), ((.ofNat 9978), (.int (.ofNat 9978) 609)), ((.ofNat 9992), (.int (.ofNat 9992) 617)), ((.ofNat 9993), (.int (.ofNat 9993) 620)), ((.ofNat 9994), (.int (.ofNat 9994) 623)), ((.ofNat 9995), (.int (.ofNat 9995) 626)), ((.ofNat 9996), (.int (.ofNat 9996) 629)), ((.ofNat 9997), (.int (.ofNat 9997) 632)), ((.ofNat 8986), (.int (.ofNat 8986) 447)), ((.ofNat 8987), (.int (.ofNat 8987) 450)), ((.ofNat 10083), (.int (.ofNat 10083) 640)), ((.ofNat 10084), (.int (.ofNat 10084) 643)), ((.ofNat 127380), (.int (.ofNat 127380) 684)), ((.ofNat 128371), (.int (.ofNat 128371) 741)), ((.ofNat 128372), (.int (.ofNat 128372) 744)), ((.ofNat 128373), (.int (.ofNat 128373) 747)), ((.ofNat 127381), (.int (.ofNat 127381) 687)), ((.ofNat 128374), (.int (.ofNat 128374) 750)), ((.ofNat 128375), (.int (.ofNat 128375) 753)), ((.ofNat 128376), (.int (.ofNat 128376) 756)), ((.ofNat 128377), (.int (.ofNat 128377) 759)), ((.ofNat 128378), (.int (.ofNat 128378) 762)), ((.ofNat 127377), (.int (.ofNat 127377) 675)), ((.ofNat 127378), (.int (.ofNat 127378) 678)), ((.ofNat 127379), (.int (.ofNat 127379) 681)), ((.ofNat 8596), (.int (.ofNat 8596) 424)), ((.ofNat 8597), (.int (.ofNat 8597) 427)), ((.ofNat 8598), (.int (.ofNat 8598) 430)), ((.ofNat 127383), (.int (.ofNat 127383) 693)), ((.ofNat 8599), (.int (.ofNat 8599) 433)), ((.ofNat 8600), (.int (.ofNat 8600) 436)), ((.ofNat 8601), (.int (.ofNat 8601) 439)), ((.ofNat 127382), (.int (.ofNat 127382) 690)), ((.ofNat 127384), (.int (.ofNat 127384) 696)), ((.ofNat 127385), (.int (.ofNat 127385) 699)), ((.ofNat 127386), (.int (.ofNat 127386) 702)), ((.ofNat 128405), (.int (.ofNat 128405) 770)), ((.ofNat 128406), (.int (.ofNat 128406) 773)), ((.ofNat 128420), (.int (.ofNat 128420) 781)), ((.ofNat 128421), (.int (.ofNat 128421) 784)), ((.ofNat 9193), (.int (.ofNat 9193) 458)), ((.ofNat 9194), (.int (.ofNat 9194) 461)), ((.ofNat 9195), (.int (.ofNat 9195) 464)), ((.ofNat 9196), (.int (.ofNat 9196) 467)), ((.ofNat 9197), (.int (.ofNat 9197) 470)), ((.ofNat 9198), (.int (.ofNat 9198) 473)), ((.ofNat 9199), (.int (.ofNat 9199) 476)), ((.ofNat 9200), (.int (.ofNat 9200) 479)), ((.ofNat 9201), (.int (.ofNat 9201) 482)), ((.ofNat 9202), (.int (.ofNat 9202) 485)), ((.ofNat 9203), (.int (.ofNat 9203) 488)), ((.ofNat 127987), (.int (.ofNat 127987) 710)), ((.ofNat 127988), (.int (.ofNat 127988) 713)), ((.ofNat 127989), (.int (.ofNat 127989) 716)), ((.ofNat 127991), (.int (.ofNat 127991) 724)), ((.ofNat 127992), (.int (.ofNat 127992) 727)), ((.ofNat 127993), (.int (.ofNat 127993) 730)), ((.ofNat 127994), (.int (.ofNat 127994) 733))]⟩, 92, ⟨511, ⟨[0, 1, 2, 3, 4, 5, 20, 21, 29, 32, 48, 60, 61, 64, 66, 72, 73, 74, 75, 76, 77, 78, 79, 80, 81, 82, 83, 169, 174, 247, 248, 249, 250, 264, 265, 266, 267, 268, 269, 282, 283, 355, 356, 369, 371, 372, 373, 374, 375, 376, 377, 378, 379, 401, 402, 403, 404, 405, 406, 407, 408, 409, 410, 411, 412, 413, 414, 415, 416, 420, 421, 489, 490, 491, 492, 493, 494, 495, 496, 497, 498, 499, 500, 501, 502, 503, 504, 505, 506]⟩, ⟨[]⟩, 0, !P.followText "set-order", 3, true⟩)
noncomputable def e26 (P : Params) : SetD := (⟨[((.ofNat 9728), (.int (.ofNat 9728) 496)), ((.ofNat 9729), (.int (.ofNat 9729) 499)), ((.ofNat 9730), (.int (.ofNat 9730) 502)), ((.ofNat 9731), (.int (.ofNat 9731) 505)), ((.ofNat 9732), (.int (.ofNat 9732) 508)), ((.ofNat 126980), (.int (.ofNat 126980) 667)), ((.ofNat 9748), (.int (.ofNat 9748) 516)), ((.ofNat 9749), (.int (.ofNat 9749) 519)), ((.ofNat 9757), (.int (.ofNat 9757) 527)), ((.ofNat 9760), (.int (.ofNat 9760) 535)), ((.ofNat 12336), (.int (.ofNat 12336) 651)), ((.ofNat 8252), (.int (.ofNat 8252) 416)), ((.ofNat 12349), (.int (.ofNat 12349) 659)), ((.ofNat 9792), (.int (.ofNat 9792) 543)), ((.ofNat 9794), (.int (.ofNat 9794) 551)), ((.ofNat 9800), (.int (.ofNat 9800) 559)), ((.ofNat 9801), (.int (.ofNat 9801) 562)), ((.ofNat 9802), (.int (.ofNat 9802) 565)), ((.ofNat 9803), (.int (.ofNat 9803) 568)), ((.ofNat 9804), (.int (.ofNat 9804) 571)), ((.ofNat 9805), (.int (.ofNat 9805) 574)), ((.ofNat 9806), (.int (.ofNat 9806) 577)), ((.ofNat 9807), (.int (.ofNat 9807) 580)), ((.ofNat 9808), (.int (.ofNat 9808) 583)), ((.ofNat 9809), (.int (.ofNat 9809) 586)), ((.ofNat 9810), (.int (.ofNat 9810) 589)), ((.ofNat 9811), (.int (.ofNat 9811) 592)), ((.ofNat 169), (.int (.ofNat 169) 400)), ((.ofNat 174), (.int (.ofNat 174) 408)), ((.ofNat 128715), (.int (.ofNat 128715) 792)), ((.ofNat 128716), (.int (.ofNat 128716) 795)), ((.ofNat 128717), (.int (.ofNat 128717) 798)), ((.ofNat 128718), (.int (.ofNat 128718) 801)), ((.ofNat 128719), (.int (.ofNat 128719) 804)), ((.ofNat 128720), (.int (.ofNat 128720) 807)), ((.ofNat 128721), (.int (.ofNat 128721) 810)), ((.ofNat 128722), (.int (.ofNat 128722) 813)), ((.ofNat 9975), (.int (.ofNat 9975) 600)), ((.ofNat 9976), (.int (.ofNat 9976) 603)), ((.ofNat 9977), (.int (.ofNat 9977) 606)), ((.ofNat 9978), (.int (.ofNat 9978) 609)), ((.ofNat 9992), (.int (.ofNat 9992) 617)), ((.ofNat 9993), (.int (.ofNat 9993) 620)), ((.ofNat 9994), (.int (.ofNat 9994) 623)), ((.ofNat 9995), (.int (.ofNat 9995) 626)), ((.ofNat 9996), (.int (.ofNat 9996) 629)), ((.ofNat 9997), (.int (.ofNat 9997) 632)), ((.ofNat 8986), (.int (.ofNat 8986) 447)), ((.ofNat 8987), (.int (.ofNat 8987) 450)), ((.ofNat 10083), (.int (.ofNat 10083) 640)), ((.ofNat 10084), (.int (.ofNat 10084) 643)), ((.ofNat 127380), (.int (.ofNat 127380) 684)), ((.ofNat 128371), (.int (.ofNat 128371) 741)), ((.ofNat 128372), (.int (.ofNat 128372) 744)), ((.ofNat 128373), (.int (.ofNat 128373) 747)), ((.ofNat 127381), (.int (.ofNat 127381) 687)), ((.ofNat 128374), (.int (.ofNat 128374) 750)), ((.ofNat 128375), (.int (.ofNat 128375) 753)), ((.ofNat 128376), (.int (.ofNat 128376) 756)), ((.ofNat 128377), (.int (.ofNat 128377) 759)), ((.ofNat 128378), (.int (.ofNat 128378) 762)), ((.ofNat 127377), (.int (.ofNat 127377) 675)), ((.ofNat 127378), (.int (.ofNat 127378) 678)), ((.ofNat 127379), (.int (.ofNat 127379) 681)), ((.ofNat 8596), (.int (.ofNat 8596) 424)), ((.ofNat 8597), (.int (.ofNat 8597) 427)), ((.ofNat 8598), (.int (.ofNat 8598) 430)), ((.ofNat 127383), (.int (.ofNat 127383) 693)), ((.ofNat 8599), (.int (.ofNat 8599) 433)), ((.ofNat 8600), (.int (.ofNat 8600) 436)), ((.ofNat 8601), (.int (.ofNat 8601) 439)), ((.ofNat 127382), (.int (.ofNat 127382) 690)), ((.ofNat 127384), (.int (.ofNat 127384) 696)), ((.ofNat 127385), (.int (.ofNat 127385) 699)), ((.ofNat 127386), (.int (.ofNat 127386) 702)), ((.ofNat 128405), (.int (.ofNat 128405) 770)), ((.ofNat 128406), (.int (.ofNat 128406) 773)), ((.ofNat 128420), (.int (.ofNat 128420) 781)), ((.ofNat 128421), (.int (.ofNat 128421) 784)), ((.ofNat 9193), (.int (.ofNat 9193) 458)), ((.ofNat 9194), (.int (.ofNat 9194) 461)), ((.ofNat 9195), (.int (.ofNat 9195) 464)), ((.ofNat 9196), (.int (.ofNat 9196) 467)), ((.ofNat 9197), (.int (.ofNat 9197) 470)), ((.ofNat 9198), (.int (.ofNat 9198) 473)), ((.ofNat 9199), (.int (.ofNat 9199) 476)), ((.ofNat 9200), (.int (.ofNat 9200) 479)), ((.ofNat 9201), (.int (.ofNat 9201) 482)), ((.ofNat 9202), (.int (.ofNat 9202) 485)), ((.ofNat 9203), (.int (.ofNat 9203) 488)), ((.ofNat 127987), (.int (.ofNat 127987) 710)), ((.ofNat 127988), (.int (.ofNat 127988) 713)), ((.ofNat 127989), (.int (.ofNat 127989) 716)), ((.ofNat 127991), (.int (.ofNat 127991) 724)), ((.ofNat 127992), (.int (.ofNat 127992) 727)), ((.ofNat 127993), (.int (.ofNat 127993) 730)), ((.ofNat 127994), (.int (.ofNat 127994) 733))]⟩, 100, ⟨511, ⟨[0, 1, 2, 3, 4, 5, 20, 21, 29, 32, 48, 60, 61, 64, 66, 72, 73, 74, 75, 76, 77, 78, 79, 80, 81, 82, 83, 169, 174, 203, 204, 205, 206, 207, 208, 209, 210, 247, 248, 249, 250, 264, 265, 266, 267, 268, 269, 282, 283, 355, 356, 369, 371, 372, 373, 374, 375, 376, 377, 378, 379, 401, 402, 403, 404, 405, 406, 407, 408, 409, 410, 411, 412, 413, 414, 415, 416, 420, 421, 489, 490, 491, 492, 493, 494, 495, 496, 497, 498, 499, 500, 501, 502, 503, 504, 505, 506]⟩, ⟨[]⟩, 0, !P.followText "set-order", 3, true⟩)
noncomputable def e27 (P : Params) : SetD := (⟨[((.ofNat 9728), (.int (.ofNat 9728) 496)), ((.ofNat 9729), (.int (.ofNat 9729) 499)), ((.ofNat 9730), (.int (.ofNat 9730) 502)), ((.ofNat 9731), (.int (.ofNat 9731) 505)), ((.ofNat 9732), (.int (.ofNat 9732) 508)), ((.ofNat 126980), (.int (.ofNat 126980) 667)), ((.ofNat 9748), (.int (.ofNat 9748) 516)), ((.ofNat 9749), (.int (.ofNat 9749) 519)), ((.ofNat 9757), (.int (.ofNat 9757) 527)), ((.ofNat 9760), (.int (.ofNat 9760) 535)), ((.ofNat 12336), (.int (.ofNat 12336) 651)), ((.ofNat 8252), (.int (.ofNat 8252) 416)), ((.ofNat 12349), (.int (.ofNat 12349) 659)), ((.ofNat 9792), (.int (.ofNat 9792) 543)), ((.ofNat 9794), (.int (.ofNat 9794) 551)), ((.ofNat 9800), (.int (.ofNat 9800) 559)), ((.ofNat 9801), (.int (.ofNat 9801) 562)), ((.ofNat 9802), (.int (.ofNat 9802) 565)), ((.ofNat 9803), (.int (.ofNat 9803) 568)), ((.ofNat 9804), (.int (.ofNat 9804) 571)), ((.ofNat 9805), (.int (.ofNat 9805) 574)), ((.ofNat 9806), (.int (.ofNat 9806) 577)), ((.ofNat 9807), (.int (.ofNat 9807) 580)), ((.ofNat 9808), (.int (.ofNat 9808) 583)), ((.ofNat 9809), (.int (.ofNat 9809) 586)), ((.ofNat 9810), (.int (.ofNat 9810) 589)), ((.ofNat 9811), (.int (.ofNat 9811) 592)), ((.ofNat 169), (.int (.ofNat 169) 400)), ((.ofNat 174), (.int (.ofNat 174) 408)), ((.ofNat 128715), (.int (.ofNat 128715) 792)), ((.ofNat 128716), (.int (.ofNat 128716) 795)), ((.ofNat 128717), (.int (.ofNat 128717) 798)), ((.ofNat 128718), (.int (.ofNat 128718) 801)), ((.ofNat 128719), (.int (.ofNat 128719) 804)), ((.ofNat 128720), (.int (.ofNat 128720) 807)), ((.ofNat 128721), (.int (.ofNat 128721) 810)), ((.ofNat 128722), (.int (.ofNat 128722) 813)), ((.ofNat 128725), (.int (.ofNat 128725) 821)), ((.ofNat 128726), (.int (.ofNat 128726) 824)), ((.ofNat 128727), (.int (.ofNat 128727) 827)), ((.ofNat 128728), (.int (.ofNat 128728) 830)), ((.ofNat 128729), (.int (.ofNat 128729) 833)), ((.ofNat 128730), (.int (.ofNat 128730) 836)), ((.ofNat 128731), (.int (.ofNat 128731) 839)), ((.ofNat 128732), (.int (.ofNat 128732) 842)), ((.ofNat 128733), (.int (.ofNat 128733) 845)), ((.ofNat 128734), (.int (.ofNat 128734) 848)), ((.ofNat 128735), (.int (.ofNat 128735) 851)), ((.ofNat 128736), (.int (.ofNat 128736) 854)), ((.ofNat 128737), (.int (.ofNat 128737) 857)), ((.ofNat 128738), (.int (.ofNat 128738) 860)), ((.ofNat 128739), (.int (.ofNat 128739) 863)), ((.ofNat 128740), (.int (.ofNat 128740) 866)), ((.ofNat 128741), (.int (.ofNat 128741) 869)), ((.ofNat 9975), (.int (.ofNat 9975) 600)), ((.ofNat 9976), (.int (.ofNat 9976) 603)), ((.ofNat 9977), (.int (.ofNat 9977) 606)), ((.ofNat 9978), (.int (.ofNat 9978) 609)), ((.ofNat 9992), (.int (.ofNat 9992) 617)), ((.ofNat 9993), (.int (.ofNat 9993) 620)), ((.ofNat 9994), (.int (.ofNat 9994) 623)), ((.ofNat 9995), (.int (.ofNat 9995) 626)), ((.ofNat 9996), (.int (.ofNat 9996) 629)), ((.ofNat 9997), (.int (.ofNat 9997) 632)), ((.ofNat 8986), (.int (.ofNat 8986) 447)), ((.ofNat 8987), (.int (.ofNat 8987) 450)), ((.ofNat 10083), (.int (.ofNat 10083) 640)), ((.ofNat 10084), (.int (.ofNat 10084) 643)), ((.ofNat 127380), (.int (.ofNat 127380) 684)), ((.ofNat 128371), (.int (.ofNat 128371) 741)), ((.ofNat 128372), (.int (.ofNat 128372) 744)), ((.ofNat 128373), (.int (.ofNat 128373) 747)), ((.ofNat 127381), (.int (.ofNat 127381) 687)), ((.ofNat 128374), (.int (.ofNat 128374) 750)), ((.ofNat 128375), (.int (.ofNat 128375) 753)), ((.ofNat 128376), (.int (.ofNat 128376) 756)), ((.ofNat 128377), (.int (.ofNat 128377) 759)), ((.ofNat 128378), (.int (.ofNat 128378) 762)), ((.ofNat 127377), (.int (.ofNat 127377) 675)), ((.ofNat 127378), (.int (.ofNat 127378) 678)), ((.ofNat 127379), (.int (.ofNat 127379) 681)), ((.ofNat 8596), (.int (.ofNat 8596) 424)), ((.ofNat 8597), (.int (.ofNat 8597) 427)), ((.ofNat 8598), (.int (.ofNat 8598) 430)), ((.ofNat 127383), (.int (.ofNat 127383) 693)), ((.ofNat 8599), (.int (.ofNat 8599) 433)), ((.ofNat 8600), (.int (.ofNat 8600) 436)), ((.ofNat 8601), (.int (.ofNat 8601) 439)), ((.ofNat 127382), (.int (.ofNat 127382) 690)), ((.ofNat 127384), (.int (.ofNat 127384) 696)), ((.ofNat 127385), (.int (.ofNat 127385) 699)), ((.ofNat 127386), (.int (.ofNat 127386) 702)), ((.ofNat 128405), (.int (.ofNat 128405) 770)), ((.ofNat 128406), (.int (.ofNat 128406) 773)), ((.ofNat 128420), (.int (.ofNat 128420) 781)), ((.ofNat 128421), (.int (.ofNat 128421) 784)), ((.ofNat 9193), (.int (.ofNat 9193) 458)), ((.ofNat 9194), (.int (.ofNat 9194) 461)), ((.ofNat 9195), (.int (.ofNat 9195) 464)), ((.ofNat 9196), (.int (.ofNat 9196) 467)), ((.ofNat 9197), (.int (.ofNat 9197) 470)), ((.ofNat 9198), (.int (.ofNat 9198) 473)), ((.ofNat 9199), (.int (.ofNat 9199) 476)), ((.ofNat 9200), (.int (.ofNat 9200) 479)), ((.ofNat 9201), (.int (.ofNat 9201) 482)), ((.ofNat 9202), (.int (.ofNat 9202) 485)), ((.ofNat 9203), (.int (.ofNat 9203) 488)), ((.ofNat 127987), (.int (.ofNat 127987) 710)), ((.ofNat 127988), (.int (.ofNat 127988) 713)), ((.ofNat 127989), (.int (.ofNat 127989) 716)), ((.ofNat 127991), (.int (.ofNat 127991) 724)), ((.ofNat 127992), (.int (.ofNat 127992) 727)), ((.ofNat 127993), (.int (.ofNat 127993) 730)), ((.ofNat 127994), (.int (.ofNat 127994) 733))]⟩, 117, ⟨511, ⟨[0, 1, 2, 3, 4, 5, 20, 21, 29, 32, 48, 60, 61, 64, 66, 72, 73, 74, 75, 76, 77, 78, 79, 80, 81, 82, 83, 169, 174, 203, 204, 205, 206, 207, 208, 209, 210, 213, 214, 215, 216, 217, 218, 219, 220, 221, 222, 223, 224, 225, 226, 227, 228, 229, 247, 248, 249, 250, 264, 265, 266, 267, 268, 269, 282, 283, 355, 356, 369, 371, 372, 373, 374, 375, 376, 377, 378, 379, 401, 402, 403, 404, 405, 406, 407, 408, 409, 410, 411, 412, 413, 414, 415, 416, 420, 421, 489, 490, 491, 492, 493, 494, 495, 496, 497, 498, 499, 500, 501, 502, 503, 504, 505, 506]⟩, ⟨[]⟩, 0, !P.followText "set-order", 3, true⟩)
noncomputable def e28 (P : Params) : SetD := (⟨[((.ofNat 9728), (.int (.ofNat 9728) 496)), ((.ofNat 9729), (.int (.ofNat 9729) 499)), ((.ofNat 9730), (.int (.ofNat 9730) 502)), ((.ofNat 9731), (.int (.ofNat 9731) 505)), ((.ofNat 9732), (.int (.ofNat 9732) 508)), ((.ofNat 126980), (.int (.ofNat 126980) 667)), ((.ofNat 9748), (.int (.ofNat 9748) 516)), ((.ofNat 9749), (.int (.ofNat 9749) 519)), ((.ofNat 9757), (.int (.ofNat 9757) 527)), ((.ofNat 9760), (.int (.ofNat 9760) 535)), ((.ofNat 12336), (.int (.ofNat 12336) 651)), ((.ofNat 8252), (.int (.ofNat 8252) 416)), ((.ofNat 12349), (.int (.ofNat 12349) 659)), ((.ofNat 9792), (.int (.ofNat 9792) 543)), ((.ofNat 9794), (.int (.ofNat 9794) 551)), ((.ofNat 9800), (.int (.ofNat 9800) 559)), ((.ofNat 9801), (.int (.ofNat 9801) 562)), ((.ofNat 9802), (.int (.ofNat 9802) 565)), ((.ofNat 9803), (.int (.ofNat 9803) 568)), ((.ofNat 9804), (.int (.ofNat 9804) 571)), ((.ofNat 9805), (.int (.ofNat 9805) 574)), ((.ofNat 9806), (.int (.ofNat 9806) 577)), ((.ofNat 9807), (.int (.ofNat 9807) 580)), ((.ofNat 9808), (.int (.ofNat 9808) 583)), ((.ofNat 9809), (.int (.ofNat 9809) 586)), ((.ofNat 9810), (.int (.ofNat 9810) 589)), ((.ofNat 9811), (.int (.ofNat 9811) 592)), ((.ofNat 169), (.int (.ofNat 169) 400)), ((.ofNat 174), (.int (.ofNat 174) 408)), ((.ofNat 128715), (.int (.ofNat 128715) 792)), ((.ofNat 128716), (.int (.ofNat 128716) 795)), ((.ofNat 128717), (.int (.ofNat 128717) 798)), ((.ofNat 128718), (.int (.ofNat 128718) 801)), ((.ofNat 128719), (.int (.ofNat 128719) 804)), ((.ofNat 128720), (.int (.ofNat 128720) 807)), ((.ofNat 128721), (.int (.ofNat 128721) 810)), ((.ofNat 128722), (.int (.ofNat 128722) 813)), ((.ofNat 128725), (.int (.ofNat 128725) 821)), ((.ofNat 128726), (.int (.ofNat 128726) 824)), ((.ofNat 128727), (.int (.ofNat 128727) 827)), ((.ofNat 128728), (.int (.ofNat 128728) 830)), ((.ofNat 128729), (.int (.ofNat 128729) 833)), ((.ofNat 128730), (.int (.ofNat 128730) 836)), ((.ofNat 128731), (.int (.ofNat 128731) 839)), ((.ofNat 128732), (.int (.ofNat 128732) 842)), ((.ofNat 128733), (.int (.ofNat 128733) 845)), ((.ofNat 128734), (.int (.ofNat 128734) 848)), ((.ofNat 128735), (.int (.ofNat 128735) 851)), ((.ofNat 128736), (.int (.ofNat 128736) 854)), ((.ofNat 128737), (.int (.ofNat 128737) 857)), ((.ofNat 128738), (.int (.ofNat 128738) 860)), ((.ofNat 128739), (.int (.ofNat 128739) 863)), ((.ofNat 128740), (.int (.ofNat 128740) 866)), ((.ofNat 128741), (.int (.ofNat 128741) 869)), ((.ofNat 9975), (.int (.ofNat 9975) 600)), ((.ofNat 9976), (.int (.ofNat 9976) 603)), ((.ofNat 9977), (.int (.ofNat 9977) 606)), ((.ofNat 9978), (.int (.ofNat 9978) 609)), ((.ofNat 9992), (.int (.ofNat 9992) 617)), ((.ofNat 9993), (.int (.ofNat 9993) 620)), ((.ofNat 9994), (.int (.ofNat 9994) 623)), ((.ofNat 9995), (.int (.ofNat 9995) 626)), ((.ofNat 9996), (.int (.ofNat 9996) 629)), ((.ofNat 9997), (.int (.ofNat 9997) 632)), ((.ofNat 8986), (.int (.ofNat 8986) 447)), ((.ofNat 8987), (.int (.ofNat 8987) 450)), ((.ofNat 129340), (.int (.ofNat 129340) 877)), ((.ofNat 129341), (.int (.ofNat 129341) 880)), ((.ofNat 129342), (.int (.ofNat 129342) 883)), ((.ofNat 129343), (.int (.ofNat 129343) 886)), ((.ofNat 129344), (.int (.ofNat 129344) 889)), ((.ofNat 129345), (.int (.ofNat 129345) 892)), ((.ofNat 129346), (.int (.ofNat 129346) 895)), ((.ofNat 129347), (.int (.ofNat 129347) 898)), ((.ofNat 129348), (.int (.ofNat 129348) 901)), ((.ofNat 129349), (.int (.ofNat 129349) 904)), ((.ofNat 10083), (.int (.ofNat 10083) 640)), ((.ofNat 10084), (.int (.ofNat 10084) 643)), ((.ofNat 127380), (.int (.ofNat 127380) 684)), ((.ofNat 128371), (.int (.ofNat 128371) 741)), ((.ofNat 128372), (.int (.ofNat 128372) 744)), ((.ofNat 128373), (.int (.ofNat 128373) 747)), ((.ofNat 127381), (.int (.ofNat 127381) 687)), ((.ofNat 128374), (.int (.ofNat 128374) 750)), ((.ofNat 128375), (.int (.ofNat 128375) 753)), ((.ofNat 128376), (.int (.ofNat 128376) 756)), ((.ofNat 128377), (.int (.ofNat 128377) 759)), ((.ofNat 128378), (.int (.ofNat 128378) 762)), ((.ofNat 127377), (.int (.ofNat 127377) 675)), ((.ofNat 127378), (.int (.ofNat 127378) 678)), ((.ofNat 127379), (.int (.ofNat 127379) 681)), ((.ofNat 8596), (.int (.ofNat 8596) 424)), ((.ofNat 8597), (.int (.ofNat 8597) 427)), ((.ofNat 8598), (.int (.ofNat 8598) 430)), ((.ofNat 127383), (.int (.ofNat 127383) 693)), ((.ofNat 8599), (.int (.ofNat 8599) 433)), ((.ofNat 8600), (.int (.ofNat 8600) 436)), ((.ofNat 8601), (.int (.ofNat 8601) 439)), ((.ofNat 127382), (.int (.ofNat 127382) 690)), ((.ofNat 127384), (.int (.ofNat 127384) 696)), ((.ofNat 127385), (.int (.ofNat 127385) 699)), ((.ofNat 127386), (.int (.ofNat 127386) 702)), ((.ofNat 128405), (.int (.ofNat 128405) 770)), ((.ofNat 128406), (.int (.ofNat 128406) 773)), ((.ofNat 128420), (.int (.ofNat 128420) 781)), ((.ofNat 128421), (.int (.ofNat 128421) 784)), ((.ofNat 9193), (.int (.ofNat 9193) 458)), ((.ofNat 9194), (.int (.ofNat 9194) 461)), ((.ofNat 9195), (.int (.ofNat 9195) 464)), ((.ofNat 9196), (.int (.ofNat 9196) 467)), ((.ofNat 9197), (.int (.ofNat 9197) 470)), ((.ofNat 9198), (.int (.ofNat 9198) 473)), ((.ofNat 9199), (.int (.ofNat 9199) 476)), ((.ofNat 9200), (.int (.ofNat 9200) 479)), ((.ofNat 9201), (.int (.ofNat 9201) 482)), ((.ofNat 9202), (.int (.ofNat 9202) 485)), ((.ofNat 9203), (.int (.ofNat 9203) 488)), ((.ofNat 127987), (.int (.ofNat 127987) 710)), ((.ofNat 127988), (.int (.ofNat 127988) 713)), ((.ofNat 127989), (.int (.ofNat 127989) 716)), ((.ofNat 127991), (.int (.ofNat 127991) 724)), ((.ofNat 127992), (.int (.ofNat 127992) 727)), ((.ofNat 127993), (.int (.ofNat 127993) 730)), ((.ofNat 127994), (.int (.ofNat 127994) 733))]⟩, 127, ⟨511, ⟨[0, 1, 2, 3, 4, 5, 20, 21, 29, 32, 48, 60, 61, 64, 66, 72, 73, 74, 75, 76, 77, 78, 79, 80, 81, 82, 83, 169, 174, 203, 204, 205, 206, 207, 208, 209, 210, 213, 214, 215, 216, 217, 218, 219, 220, 221, 222, 223, 224, 225, 226, 227, 228, 229, 247, 248, 249, 250, 264, 265, 266, 267, 268, 269, 282, 283, 316, 317, 318, 319, 320, 321, 322, 323, 324, 325, 355, 356, 369, 371, 372, 373, 374, 375, 376, 377, 378, 379, 401, 402, 403, 404, 405, 406, 407, 408, 409, 410, 411, 412, 413, 414, 415, 416, 420, 421, 489, 490, 491, 492, 493, 494, 495, 496, 497, 498, 499, 500, 501, 502, 503, 504, 505, 506]⟩, ⟨[]⟩, 0, !P.followText "set-order", 3, true⟩)
theorem R1 (P : Params) : D1 P = e1 P := by kernel_rfl
theorem E2 (P : Params) : addN (e1 P) 174 408 1 = e2 P :=
  (addN_fast [(6, 1)] (e1 P).1.toList (e1 P).2.2.place.toList (e1 P).2.1 174 408 (by kernel_rfl) (by kernel_rfl)).trans (by kernel_rfl)
theorem R2 (P : Params) : D2 P = e2 P := by show addN (D1 P) 174 408 1 = _; rw [R1, E2]
theorem E3 (P : Params) : addN (e2 P) 8252 416 1 = e3 P :=
  (addN_fast [(4, 1)] (e2 P).1.toList (e2 P).2.2.place.toList (e2 P).2.1 8252 416 (by kernel_rfl) (by kernel_rfl)).trans (by kernel_rfl)
theorem R3 (P : Params) : D3 P = e3 P := by show addN (D2 P) 8252 416 1 = _; rw [R2, E3]
theorem E4 (P : Params) : addN (e3 P) 8596 424 6 = e4 P := by kernel_rfl
theorem R4 (P : Params) : D4 P = e4 P := by show addN (D3 P) 8596 424 6 = _; rw [R3, E4]
theorem E5 (P : Params) : addN (e4 P) 8986 447 2 = e5 P :=
  (addN_fast [(26, 8), (27, 9)] (e4 P).1.toList (e4 P).2.2.place.toList (e4 P).2.1 8986 447 (by kernel_rfl) (by kernel_rfl)).trans (by kernel_rfl)
theorem R5 (P : Params) : D5 P = e5 P := by show addN (D4 P) 8986 447 2 = _; rw [R4, E5]
theorem E6 (P : Params) : addN (e5 P) 9193 458 11 = e6 P := by kernel_rfl
theorem R6 (P : Params) : D6 P = e6 P := by show addN (D5 P) 9193 458 11 = _; rw [R5, E6]
theorem E7 (P : Params) : addN (e6 P) 9728 496 5 = e7 P :=
  (addN_fast [(0, 0), (1, 1), (2, 2), (3, 3), (4, 4)] (e6 P).1.toList (e6 P).2.2.place.toList (e6 P).2.1 9728 496 (by kernel_rfl) (by kernel_rfl)).trans (by kernel_rfl)
theorem R7 (P : Params) : D7 P = e7 P := by show addN (D6 P) 9728 496 5 = _; rw [R6, E7]
theorem E8 (P : Params) : addN (e7 P) 9748 516 2 = e8 P :=
  (addN_fast [(28, 13), (29, 14)] (e7 P).1.toList (e7 P).2.2.place.toList (e7 P).2.1 9748 516 (by kernel_rfl) (by kernel_rfl)).trans (by kernel_rfl)
theorem R8 (P : Params) : D8 P = e8 P := by show addN (D7 P) 9748 516 2 = _; rw [R7, E8]
theorem E9 (P : Params) : addN (e8 P) 9757 527 1 = e9 P :=
  (addN_fast [(30, 15)] (e8 P).1.toList (e8 P).2.2.place.toList (e8 P).2.1 9757 527 (by kernel_rfl) (by kernel_rfl)).trans (by kernel_rfl)
theorem R9 (P : Params) : D9 P = e9 P := by show addN (D8 P) 9757 527 1 = _; rw [R8, E9]
theorem E10 (P : Params) : addN (e9 P) 9760 535 1 = e10 P :=
  (addN_fast [(32, 16)] (e9 P).1.toList (e9 P).2.2.place.toList (e9 P).2.1 9760 535 (by kernel_rfl) (by kernel_rfl)).trans (by kernel_rfl)
theorem R10 (P : Params) : D10 P = e10 P := by show addN (D9 P) 9760 535 1 = _; rw [R9, E10]
theorem E11 (P : Params) : addN (e10 P) 9792 543 1 = e11 P :=
  (addN_fast [(64, 20)] (e10 P).1.toList (e10 P).2.2.place.toList (e10 P).2.1 9792 543 (by kernel_rfl) (by kernel_rfl)).trans (by kernel_rfl)
theorem R11 (P : Params) : D11 P = e11 P := by show addN (D10 P) 9792 543 1 = _; rw [R10, E11]
theorem E12 (P : Params) : addN (e11 P) 9794 551 1 = e12 P :=
  (addN_fast [(66, 21)] (e11 P).1.toList (e11 P).2.2.place.toList (e11 P).2.1 9794 551 (by kernel_rfl) (by kernel_rfl)).trans (by kernel_rfl)
theorem R12 (P : Params) : D12 P = e12 P := by show addN (D11 P) 9794 551 1 = _; rw [R11, E12]
theorem E13 (P : Params) : addN (e12 P) 9800 559 12 = e13 P :=
  (addN_fast [(72, 22), (73, 23), (74, 24), (75, 25), (76, 26), (77, 27), (78, 28), (79, 29), (80, 30), (81, 31), (82, 32), (83, 33)] (e12 P).1.toList (e12 P).2.2.place.toList (e12 P).2.1 9800 559 (by kernel_rfl) (by kernel_rfl)).trans (by kernel_rfl)
theorem R13 (P : Params) : D13 P = e13 P := by show addN (D12 P) 9800 559 12 = _; rw [R12, E13]
theorem E14 (P : Params) : addN (e13 P) 9975 600 4 = e14 P :=
  (addN_fast [(119, 45), (120, 46), (121, 47), (122, 48)] (e13 P).1.toList (e13 P).2.2.place.toList (e13 P).2.1 9975 600 (by kernel_rfl) (by kernel_rfl)).trans (by kernel_rfl)
theorem R14 (P : Params) : D14 P = e14 P := by show addN (D13 P) 9975 600 4 = _; rw [R13, E14]
theorem E15 (P : Params) : addN (e14 P) 9992 617 6 = e15 P :=
  (addN_fast [(8, 5), (9, 6), (10, 7), (11, 8), (12, 9), (13, 10)] (e14 P).1.toList (e14 P).2.2.place.toList (e14 P).2.1 9992 617 (by kernel_rfl) (by kernel_rfl)).trans (by kernel_rfl)
theorem R15 (P : Params) : D15 P = e15 P := by show addN (D14 P) 9992 617 6 = _; rw [R14, E15]
theorem E16 (P : Params) : addN (e15 P) 10083 640 2 = e16 P :=
  (addN_fast [(99, 40), (100, 41)] (e15 P).1.toList (e15 P).2.2.place.toList (e15 P).2.1 10083 640 (by kernel_rfl) (by kernel_rfl)).trans (by kernel_rfl)
theorem R16 (P : Params) : D16 P = e16 P := by show addN (D15 P) 10083 640 2 = _; rw [R15, E16]
theorem E17 (P : Params) : addN (e16 P) 12336 651 1 = e17 P :=
  (addN_fast [(48, 25)] (e16 P).1.toList (e16 P).2.2.place.toList (e16 P).2.1 12336 651 (by kernel_rfl) (by kernel_rfl)).trans (by kernel_rfl)
theorem R17 (P : Params) : D17 P = e17 P := by show addN (D16 P) 12336 651 1 = _; rw [R16, E17]
theorem E18 (P : Params) : addN (e17 P) 12349 659 1 = e18 P :=
  (addN_fast [(61, 27)] (e17 P).1.toList (e17 P).2.2.place.toList (e17 P).2.1 12349 659 (by kernel_rfl) (by kernel_rfl)).trans (by kernel_rfl)
theorem R18 (P : Params) : D18 P = e18 P := by show addN (D17 P) 12349 659 1 = _; rw [R17, E18]
theorem E19 (P : Params) : addN (e18 P) 126980 667 1 = e19 P :=
  (addN_fast [(5, 5)] (e18 P).1.toList (e18 P).2.2.place.toList (e18 P).2.1 126980 667 (by kernel_rfl) (by kernel_rfl)).trans (by kernel_rfl)
theorem R19 (P : Params) : D19 P = e19 P := by show addN (D18 P) 126980 667 1 = _; rw [R18, E19]
theorem E20 (P : Params) : addN (e19 P) 127377 675 10 = e20 P :=
  (addN_fast [(17, 12), (18, 13), (19, 14), (116, 59), (118, 60), (31, 26), (6, 6), (33, 29), (34, 30), (35, 31)] (e19 P).1.toList (e19 P).2.2.place.toList (e19 P).2.1 127377 675 (by kernel_rfl) (by kernel_rfl)).trans (by kernel_rfl)
theorem R20 (P : Params) : D20 P = e20 P := by show addN (D19 P) 127377 675 10 = _; rw [R19, E20]
theorem E21 (P : Params) : addN (e20 P) 127987 710 3 = e21 P :=
  (addN_fast [(117, 65), (123, 71), (124, 72)] (e20 P).1.toList (e20 P).2.2.place.toList (e20 P).2.1 127987 710 (by kernel_rfl) (by kernel_rfl)).trans (by kernel_rfl)
theorem R21 (P : Params) : D21 P = e21 P := by show addN (D20 P) 127987 710 3 = _; rw [R20, E21]
theorem addN_add (d : SetD) (b : Nat) : ∀ (a c tk : Nat) (d : SetD), addN d c tk (a + b) = addN (addN d c tk a) (c + a) (tk + 3 * a) b
  | 0, c, tk, d => by rw [Nat.zero_add]; rfl
  | a + 1, c, tk, d => by rw [show a + 1 + b = (a + b) + 1 by omega]; show addN (addO d _ _) (c + 1) (tk + 3) (a + b) = _; rw [addN_add d b a, show c + 1 + a = c + (a + 1) by omega, show tk + 3 + 3 * a = tk + 3 * (a + 1) by omega]; rfl
theorem E22a (P : Params) : addN (e21 P) 127991 724 3 = e22a P :=
  (addN_fast [(62, 37), (85, 52), (125, 75)] (e21 P).1.toList (e21 P).2.2.place.toList (e21 P).2.1 127991 724 (by kernel_rfl) (by kernel_rfl)).trans (by kernel_rfl)
theorem E22b (P : Params) : addN (e22a P) 127994 733 1 = e22 P := by kernel_rfl
theorem E22 (P : Params) : addN (e21 P) 127991 724 4 = e22 P := by rw [show 4 = 3 + 1 from rfl, addN_add (e21 P) 1 3, E22a]; exact E22b P
theorem R22 (P : Params) : D22 P = e22 P := by show addN (D21 P) 127991 724 4 = _; rw [R21, E22]
theorem E23 (P : Params) : addN (e22 P) 128371 741 8 = e23 P :=
  (addN_fast [(371, 44), (372, 45), (373, 46), (375, 48), (376, 49), (377, 50), (378, 51), (379, 52)] (e22 P).1.toList (e22 P).2.2.place.toList (e22 P).2.1 128371 741 (by kernel_rfl) (by kernel_rfl)).trans (by kernel_rfl)
theorem R23 (P : Params) : D23 P = e23 P := by show addN (D22 P) 128371 741 8 = _; rw [R22, E23]
theorem E24 (P : Params) : addN (e23 P) 128405 770 2 = e24 P :=
  (addN_fast [(415, 67), (416, 68)] (e23 P).1.toList (e23 P).2.2.place.toList (e23 P).2.1 128405 770 (by kernel_rfl) (by kernel_rfl)).trans (by kernel_rfl)
theorem R24 (P : Params) : D24 P = e24 P := by show addN (D23 P) 128405 770 2 = _; rw [R23, E24]
theorem E25 (P : Params) : addN (e24 P) 128420 781 2 = e25 P :=
  (addN_fast [(420, 69), (421, 70)] (e24 P).1.toList (e24 P).2.2.place.toList (e24 P).2.1 128420 781 (by kernel_rfl) (by kernel_rfl)).trans (by kernel_rfl)
theorem R25 (P : Params) : D25 P = e25 P := by show addN (D24 P) 128420 781 2 = _; rw [R24, E25]
theorem E26 (P : Params) : addN (e25 P) 128715 792 8 = e26 P :=
  (addN_fast [(203, 29), (204, 30), (205, 31), (206, 32), (207, 33), (208, 34), (209, 35), (210, 36)] (e25 P).1.toList (e25 P).2.2.place.toList (e25 P).2.1 128715 792 (by kernel_rfl) (by kernel_rfl)).trans (by kernel_rfl)
theorem R26 (P : Params) : D26 P = e26 P := by show addN (D25 P) 128715 792 8 = _; rw [R25, E26]
theorem E27 (P : Params) : addN (e26 P) 128725 821 17 = e27 P :=
  (addN_fast [(213, 37), (214, 38), (215, 39), (216, 40), (217, 41), (218, 42), (219, 43), (220, 44), (221, 45), (222, 46), (223, 47), (224, 48), (225, 49), (226, 50), (227, 51), (228, 52), (229, 53)] (e26 P).1.toList (e26 P).2.2.place.toList (e26 P).2.1 128725 821 (by kernel_rfl) (by kernel_rfl)).trans (by kernel_rfl)
theorem R27 (P : Params) : D27 P = e27 P := by show addN (D26 P) 128725 821 17 = _; rw [R26, E27]
theorem E28 (P : Params) : addN (e27 P) 129340 877 10 = e28 P :=
  (addN_fast [(316, 66), (317, 67), (318, 68), (319, 69), (320, 70), (321, 71), (322, 72), (323, 73), (324, 74), (325, 75)] (e27 P).1.toList (e27 P).2.2.place.toList (e27 P).2.1 129340 877 (by kernel_rfl) (by kernel_rfl)).trans (by kernel_rfl)
theorem R28 (P : Params) : D28 P = e28 P := by show addN (D27 P) 129340 877 10 = _; rw [R27, E28]
theorem D28_is (P : Params) : setO (D28 P) = O124 P := by rw [R28]; kernel_rfl
end Mine
end
section
open PySem PySem.W PyProof.Rows
set_option maxRecDepth 100000
set_option maxHeartbeats 1000000
set_option linter.unusedVariables false
namespace Mine
noncomputable def t7 (_ : World) : Thread := piecesOf (stAt 7) envA cdA ⟨20, 0, 20, 23⟩ BB
noncomputable def stL (w : World) : List Frame := stackOf (goT 62 (wg true w) (S7 (wg true w).params {}) (t7 w))
noncomputable def k3 (w : World) : KR := kRet 0 (stL w)
noncomputable def k4 (w : World) : KR := kRet 1 (stL w)
noncomputable def k5 (w : World) : KR := kRet 2 (stL w)
noncomputable def FL (w : World) (os : OsState) : RT × RT := (goT 62 w (S7 w.params os) (t7 w), some (SL w.params os (O0 w.params), thr loopC PP (uf (k3 w) (k4 w) (k5 w))))
theorem FL_self : FL = FL := rfl
name_quick qFL for Mine.FL by Mine.FL_self
theorem KL_f : ∀ (w : World) (os : OsState), (PySem.W.Fast.qFL (wg false w) os).1 = (PySem.W.Fast.qFL (wg false w) os).2 := fun w os => by kernel_rfl
theorem KL_t : ∀ (w : World) (os : OsState), (PySem.W.Fast.qFL (wg true w) os).1 = (PySem.W.Fast.qFL (wg true w) os).2 := fun w os => by kernel_rfl
theorem GL (w : World) (os : OsState) : Goes w (S7 w.params os) (t7 w) (SL w.params os (O0 w.params)) (thr loopC PP (uf (k3 w) (k4 w) (k5 w))) 62 := by
  revert w; refine rows1 (fun b w => ?_); cases b
  · exact ⟨62, Nat.le_refl _, by have h := KL_f w os; rw [← PySem.W.Fast.qFL_eq] at h; unfold FL at h; dsimp only at h; exact h⟩
  · exact ⟨62, Nat.le_refl _, by have h := KL_t w os; rw [← PySem.W.Fast.qFL_eq] at h; unfold FL at h; dsimp only at h; exact h⟩
def orC : Code := .builtin "frozenset.__or__" ⟨[.ref 97, .ref 87], []⟩
def PO : Pos := ⟨21, 17, 21, 122⟩
noncomputable def orF (kO : KR) : List Frame := [.ret kO none false [.ref 97, .ref 87, .ref 97, .ref 87, .ref 97, .ref 87] cdA PO [.builtin "frozenset.__or__", .ref 97, .ref 87], topFrame ⟨0, 0, 0, 0⟩]
noncomputable def kO (w : World) : KR := kRet 0 (stackOf (goT 42 w (SD29 w.params {} .none (O0 w.params) 907) (outT w (k3 w) (k4 w) (k5 w))))
noncomputable def FE (w : World) (os : OsState) (cp : Value) (d : SetD) : RT × RT := (goT 42 w (SD29 w.params os cp (setO d) 907) (outT w (k3 w) (k4 w) (k5 w)), some (SE w.params os cp (setO d) 907, thr orC PO (orF (kO w))))
theorem FE_self : FE = FE := rfl
name_quick qFE for Mine.FE by Mine.FE_self
theorem KE_f : ∀ (w : World) (os : OsState) cp d, (PySem.W.Fast.qFE (wg false w) os cp d).1 = (PySem.W.Fast.qFE (wg false w) os cp d).2 := fun w os cp d => by kernel_rfl
theorem KE_t : ∀ (w : World) (os : OsState) cp d, (PySem.W.Fast.qFE (wg true w) os cp d).1 = (PySem.W.Fast.qFE (wg true w) os cp d).2 := fun w os cp d => by kernel_rfl
theorem GE (w : World) (os : OsState) (cp : Value) (d : SetD) : Goes w (SD29 w.params os cp (setO d) 907) (outT w (k3 w) (k4 w) (k5 w)) (SE w.params os cp (setO d) 907) (thr orC PO (orF (kO w))) 42 := by
  revert w; refine rows1 (fun b w => ?_); cases b
  · exact ⟨42, Nat.le_refl _, by have h := KE_f w os cp d; rw [← PySem.W.Fast.qFE_eq] at h; unfold FE at h; dsimp only at h; exact h⟩
  · exact ⟨42, Nat.le_refl _, by have h := KE_t w os cp d; rw [← PySem.W.Fast.qFE_eq] at h; unfold FE at h; dsimp only at h; exact h⟩
-- behind the union
noncomputable def TB (P : Params) (cp : Value) (O U : Obj) : BT := (TE P cp O).ins 298 U
noncomputable def FU (w : World) (os : OsState) (cp : Value) (O U : Obj) : Option (Flow × SharedT × Code × Pos) × Option (Flow × SharedT × Code × Pos) :=
  (endT 12 w ⟨TB w.params cp O U, 299, {}, ⟨[.finished]⟩, {}, 907, os⟩ ⟨.pure (.done (.ret (.ref 298))), orC, PO, orF (kO w)⟩, some (.next, SU w.params os cp O U 908, cdA, ⟨21, 0, 21, 14⟩))
theorem FU_self : FU = FU := rfl
name_quick qFU for Mine.FU by Mine.FU_self
theorem KU : ∀ (w : World) (os : OsState) cp O U, (PySem.W.Fast.qFU w os cp O U).1 = (PySem.W.Fast.qFU w os cp O U).2 := fun w os cp O U => by kernel_rfl
theorem GU (w : World) (os : OsState) (cp : Value) (O U : Obj) : endT 12 w ⟨TB w.params cp O U, 299, {}, ⟨[.finished]⟩, {}, 907, os⟩ ⟨.pure (.done (.ret (.ref 298))), orC, PO, orF (kO w)⟩ = some (.next, SU w.params os cp O U 908, cdA, ⟨21, 0, 21, 14⟩) := by
  have h := KU w os cp O U; rw [← PySem.W.Fast.qFU_eq] at h; unfold FU at h; dsimp only at h; exact h
-- the other statements
noncomputable def t8 (_ : World) : Thread := piecesOf (bodyAll.drop 8) envA cdA ⟨21, 0, 21, 14⟩ BB
noncomputable def FF (w : World) (os : OsState) (cp : Value) (O U : Obj) : Option (Flow × SharedT × Code × Pos) × Option (Flow × SharedT × Code × Pos) :=
  (endT 295 w (SU w.params os cp O U 908) (t8 w), some (.next, SF w.params os cp O U 1009, cdA, ⟨76, 0, 96, 82⟩))
theorem FF_self : FF = FF := rfl
name_quick qFF for Mine.FF by Mine.FF_self
theorem KF : ∀ (w : World) (os : OsState) cp O U, (PySem.W.Fast.qFF w os cp O U).1 = (PySem.W.Fast.qFF w os cp O U).2 := fun w os cp O U => by kernel_rfl
theorem GF (w : World) (os : OsState) (cp : Value) (O U : Obj) : endT 295 w (SU w.params os cp O U 908) (t8 w) = some (.next, SF w.params os cp O U 1009, cdA, ⟨76, 0, 96, 82⟩) := by
  have h := KF w os cp O U; rw [← PySem.W.Fast.qFF_eq] at h; unfold FF at h; dsimp only at h; exact h
-- the first statements
noncomputable def t0 (_ : World) : Thread := piecesOf (bodyAll.take 6) envA cdA ⟨0, 0, 0, 0⟩ BB
noncomputable def Fpre (w : World) (os : OsState) : Option (Flow × SharedT × Code × Pos) × Option (Flow × SharedT × Code × Pos) := (endT 326 w (Sa w.params os) (t0 w), some (.next, S6 w.params os, cdA, ⟨19, 0, 19, 8⟩))
theorem Fpre_self : Fpre = Fpre := rfl
name_quick qFpre for Mine.Fpre by Mine.Fpre_self
theorem Kpre : ∀ (w : World) (os : OsState), (PySem.W.Fast.qFpre w os).1 = (PySem.W.Fast.qFpre w os).2 := fun w os => by kernel_rfl
theorem Gpre (w : World) (os : OsState) : endT 326 w (Sa w.params os) (t0 w) = some (.next, S6 w.params os, cdA, ⟨19, 0, 19, 8⟩) := by
  have h := Kpre w os; rw [← PySem.W.Fast.qFpre_eq] at h; unfold Fpre at h; dsimp only at h; exact h
noncomputable def t6 (_ : World) : Thread := piecesOf (stAt 6) envA cdA ⟨19, 0, 19, 8⟩ BB
noncomputable def Freg (w : World) (os : OsState) : Option (Flow × SharedT × Code × Pos) × Option (Flow × SharedT × Code × Pos) := (endT 736 w (S6 w.params os) (t6 w), some (.next, S7 w.params os, cdA, ⟨20, 0, 20, 23⟩))
theorem Freg_self : Freg = Freg := rfl
name_quick qFreg for Mine.Freg by Mine.Freg_self
theorem Kreg_f : ∀ (w : World) (os : OsState), (PySem.W.Fast.qFreg (wg false w) os).1 = (PySem.W.Fast.qFreg (wg false w) os).2 := fun w os => by kernel_rfl
theorem Kreg_t : ∀ (w : World) (os : OsState), (PySem.W.Fast.qFreg (wg true w) os).1 = (PySem.W.Fast.qFreg (wg true w) os).2 := fun w os => by kernel_rfl
theorem Greg (w : World) (os : OsState) : endT 736 w (S6 w.params os) (t6 w) = some (.next, S7 w.params os, cdA, ⟨20, 0, 20, 23⟩) := by
  revert w; refine rows1 (fun b w => ?_); cases b
  · have h := Kreg_f w os; rw [← PySem.W.Fast.qFreg_eq] at h; unfold Freg at h; dsimp only at h; exact h
  · have h := Kreg_t w os; rw [← PySem.W.Fast.qFreg_eq] at h; unfold Freg at h; dsimp only at h; exact h
end Mine
end
section
open PySem PySem.W PyProof.Rows
set_option maxRecDepth 100000
set_option maxHeartbeats 1000000
set_option linter.unusedVariables false
namespace Mine
noncomputable def dB (P : Params) : SetD := (⟨[((.ofNat 9728), (.int (.ofNat 9728) 496)), ((.ofNat 9729), (.int (.ofNat 9729) 499)), ((.ofNat 9730), (.int (.ofNat 9730) 502)), ((.ofNat 9731), (.int (.ofNat 9731) 505)), ((.ofNat 9732), (.int (.ofNat 9732) 508)), ((.ofNat 126980), (.int (.ofNat 126980) 667)), ((.ofNat 9992), (.int (.ofNat 9992) 617)), ((.ofNat 9993), (.int (.ofNat 9993) 620)), ((.ofNat 9994), (.int (.ofNat 9994) 623)), ((.ofNat 9995), (.int (.ofNat 9995) 626)), ((.ofNat 9996), (.int (.ofNat 9996) 629)), ((.ofNat 9997), (.int (.ofNat 9997) 632)), ((.ofNat 9748), (.int (.ofNat 9748) 516)), ((.ofNat 9749), (.int (.ofNat 9749) 519)), ((.ofNat 8986), (.int (.ofNat 8986) 447)), ((.ofNat 8987), (.int (.ofNat 8987) 450)), ((.ofNat 9757), (.int (.ofNat 9757) 527)), ((.ofNat 129348), (.int (.ofNat 129348) 901)), ((.ofNat 9760), (.int (.ofNat 9760) 535)), ((.ofNat 129349), (.int (.ofNat 129349) 904)), ((.ofNat 12336), (.int (.ofNat 12336) 651)), ((.ofNat 8252), (.int (.ofNat 8252) 416)), ((.ofNat 12349), (.int (.ofNat 12349) 659)), ((.ofNat 129340), (.int (.ofNat 129340) 877)), ((.ofNat 129341), (.int (.ofNat 129341) 880)), ((.ofNat 9792), (.int (.ofNat 9792) 543)), ((.ofNat 129342), (.int (.ofNat 129342) 883)), ((.ofNat 9794), (.int (.ofNat 9794) 551)), ((.ofNat 129343), (.int (.ofNat 129343) 886)), ((.ofNat 129344), (.int (.ofNat 129344) 889)), ((.ofNat 129345), (.int (.ofNat 129345) 892)), ((.ofNat 129346), (.int (.ofNat 129346) 895)), ((.ofNat 129347), (.int (.ofNat 129347) 898)), ((.ofNat 9800), (.int (.ofNat 9800) 559)), ((.ofNat 9801), (.int (.ofNat 9801) 562)), ((.ofNat 9802), (.int (.ofNat 9802) 565)), ((.ofNat 9803), (.int (.ofNat 9803) 568)), ((.ofNat 9804), (.int (.ofNat 9804) 571)), ((.ofNat 9805), (.int (.ofNat 9805) 574)), ((.ofNat 9806), (.int (.ofNat 9806) 577)), ((.ofNat 9807), (.int (.ofNat 9807) 580)), ((.ofNat 9808), (.int (.ofNat 9808) 583)), ((.ofNat 9809), (.int (.ofNat 9809) 586)), ((.ofNat 9810), (.int (.ofNat 9810) 589)), ((.ofNat 9811), (.int (.ofNat 9811) 592)), ((.ofNat 10083), (.int (.ofNat 10083) 640)), ((.ofNat 10084), (.int (.ofNat 10084) 643)), ((.ofNat 128405), (.int (.ofNat 128405) 770)), ((.ofNat 128371), (.int (.ofNat 128371) 741)), ((.ofNat 128372), (.int (.ofNat 128372) 744)), ((.ofNat 128373), (.int (.ofNat 128373) 747)), ((.ofNat 128374), (.int (.ofNat 128374) 750)), ((.ofNat 128375), (.int (.ofNat 128375) 753)), ((.ofNat 128376), (.int (.ofNat 128376) 756)), ((.ofNat 128377), (.int (.ofNat 128377) 759)), ((.ofNat 128378), (.int (.ofNat 128378) 762)), ((.ofNat 127991), (.int (.ofNat 127991) 724)), ((.ofNat 127992), (.int (.ofNat 127992) 727)), ((.ofNat 127993), (.int (.ofNat 127993) 730)), ((.ofNat 127994), (.int (.ofNat 127994) 733)), ((.ofNat 127377), (.int (.ofNat 127377) 675)), ((.ofNat 127378), (.int (.ofNat 127378) 678)), ((.ofNat 127379), (.int (.ofNat 127379) 681)), ((.ofNat 127380), (.int (.ofNat 127380) 684)), ((.ofNat 127381), (.int (.ofNat 127381) 687)), ((.ofNat 8596), (.int (.ofNat 8596) 424)), ((.ofNat 8597), (.int (.ofNat 8597) 427)), ((.ofNat 8598), (.int (.ofNat 8598) 430)), ((.ofNat 127383), (.int (.ofNat 127383) 693)), ((.ofNat 8599), (.int (.ofNat 8599) 433)), ((.ofNat 8600), (.int (.ofNat 8600) 436)), ((.ofNat 8601), (.int (.ofNat 8601) 439)), ((.ofNat 127382), (.int (.ofNat 127382) 690)), ((.ofNat 127384), (.int (.ofNat 127384) 696)), ((.ofNat 127385), (.int (.ofNat 127385) 699)), ((.ofNat 127386), (.int (.ofNat 127386) 702)), ((.ofNat 128406), (.int (.ofNat 128406) 773)), ((.ofNat 128420), (.int (.ofNat 128420) 781)), ((.ofNat 128421), (.int (.ofNat 128421) 784)), ((.ofNat 169), (.int (.ofNat 169) 400)), ((.ofNat 174), (.int (.ofNat 174) 408)), ((.ofNat 128715), (.int (.ofNat 128715) 792)), ((.ofNat 128716), (.int (.ofNat 128716) 795)), ((.ofNat 128717), (.int (.ofNat 128717) 798)), ((.ofNat 128718), (.int (.ofNat 128718) 801)), ((.ofNat 128719), (.int (.ofNat 128719) 804)), ((.ofNat 128720), (.int (.ofNat 128720) 807)), ((.ofNat 128721), (.int (.ofNat 128721) 810)), ((.ofNat 128722), (.int (.ofNat 128722) 813)), ((.ofNat 128725), (.int (.ofNat 128725) 821)), ((.ofNat 128726), (.int (.ofNat 128726) 824)), ((.ofNat 128727), (.int (.ofNat 128727) 827)), ((.ofNat 128728), (.int (.ofNat 128728) 830)), ((.ofNat 128729), (.int (.ofNat 128729) 833)), ((.ofNat 128730), (.int (.ofNat 128730) 836)), ((.ofNat 128731), (.int (.ofNat 128731) 839)), ((.ofNat 128732), (.int (.ofNat 128732) 842)), ((.ofNat 128733), (.int (.ofNat 128733) 845)), ((.ofNat 128734), (.int (.ofNat 128734) 848)), ((.ofNat 128735), (.int (.ofNat 128735) 851)), ((.ofNat 128736), (.int (.ofNat 128736) 854)), ((.ofNat 128737), (.int (.ofNat 128737) 857)), ((.ofNat 128738), (.int (.ofNat 128738) 860)), ((.ofNat 128739), (.int (.ofNat 128739) 863)), ((.ofNat 128740), (.int (.ofNat 128740) 866)), ((.ofNat 128741), (.int (.ofNat 128741) 869)), ((.ofNat 9193), (.int (.ofNat 9193) 458)), ((.ofNat 9194), (.int (.ofNat 9194) 461)), ((.ofNat 9195), (.int (.ofNat 9195) 464)), ((.ofNat 9196), (.int (.ofNat 9196) 467)), ((.ofNat 9197), (.int (.ofNat 9197) 470)), ((.ofNat 9198), (.int (.ofNat 9198) 473)), ((.ofNat 9199), (.int (.ofNat 9199) 476)), ((.ofNat 9200), (.int (.ofNat 9200) 479)), ((.ofNat 9201), (.int (.ofNat 9201) 482)), ((.ofNat 9202), (.int (.ofNat 9202) 485)), ((.ofNat 9203), (.int (.ofNat 9203) 488)), ((.ofNat 127987), (.int (.ofNat 127987) 710)), ((.ofNat 127988), (.int (.ofNat 127988) 713)), ((.ofNat 127989), (.int (.ofNat 127989) 716)), ((.ofNat 9975), (.int (.ofNat 9975) 600)), ((.ofNat 9976), (.int (.ofNat 9976) 603)), ((.ofNat 9977), (.int (.ofNat 9977) 606)), ((.ofNat 9978), (.int (.ofNat 9978) 609))]⟩, 2, ⟨255, ⟨[0, 1, 2, 3, 4, 5, 8, 9, 10, 11, 12, 13, 20, 21, 26, 27, 29, 31, 32, 36, 48, 60, 61, 62, 63, 64, 65, 66, 67, 68, 69, 70, 71, 72, 73, 74, 75, 76, 77, 78, 79, 80, 81, 82, 83, 99, 100, 108, 115, 116, 117, 118, 119, 120, 121, 122, 123, 124, 125, 130, 145, 146, 147, 148, 149, 150, 151, 152, 153, 154, 155, 156, 157, 158, 159, 160, 161, 164, 165, 169, 174, 203, 204, 205, 206, 207, 208, 209, 210, 213, 214, 215, 216, 217, 218, 219, 220, 221, 222, 223, 224, 225, 226, 227, 228, 229, 233, 234, 235, 236, 237, 238, 239, 240, 241, 242, 243, 244, 245, 246, 247, 248, 249, 250]⟩, ⟨[]⟩, 0, !P.followText "set-order", 1, true⟩)
noncomputable def wo (b : Bool) (w : World) : World := w.withFollow "set-order" b
theorem rowsO {P : World → Prop} (h : ∀ b w, P (wo b w)) : ∀ w, P w := byRow2 "set-order" (h false) (h true)
noncomputable def s0E (w : World) (os : OsState) (cp : Value) : SharedT := SE w.params os cp (setO (e28 w.params)) 907
noncomputable def sBE (w : World) (os : OsState) (cp : Value) (d : SetD) : SharedT := ⟨TB w.params cp (setO (e28 w.params)) (setO d), 299, {}, ⟨[.finished]⟩, {}, 907, os⟩
theorem RC.of_map {w : World} {α : Type} {m : Sem α} {s s' : SharedT} {a : α} {N : Nat} (h : (runC w m s).map (fun r => (Nat.ble r.1 N, r.2)) = some (true, a, s')) : RC w m s a s' N := by
  obtain ⟨⟨n, a', s''⟩, h1, h2⟩ := Option.map_eq_some_iff.mp h
  simp only [Prod.mk.injEq] at h2
  obtain ⟨h2, rfl, rfl⟩ := h2
  exact ⟨n, Nat.le_of_ble_eq_true h2, h1⟩
noncomputable def FCp (w : World) (os : OsState) (cp : Value) : Option (Bool × Value × SharedT) × Option (Bool × Value × SharedT) :=
  ((runC w (Builtin.Frozenset.copyOf 97) (s0E w os cp)).map (fun r => (Nat.ble r.1 30, r.2)), some (true, .ref 298, sBE w os cp (dB w.params)))
theorem FCp_self : FCp = FCp := rfl
name_quick qFCp for Mine.FCp by Mine.FCp_self
theorem KCp_f : ∀ (w : World) (os : OsState) cp, (PySem.W.Fast.qFCp (wo false w) os cp).1 = (PySem.W.Fast.qFCp (wo false w) os cp).2 := fun w os cp => by kernel_rfl
theorem KCp_t : ∀ (w : World) (os : OsState) cp, (PySem.W.Fast.qFCp (wo true w) os cp).1 = (PySem.W.Fast.qFCp (wo true w) os cp).2 := fun w os cp => by kernel_rfl
theorem RCp (w : World) (os : OsState) (cp : Value) : RC w (Builtin.Frozenset.copyOf 97) (s0E w os cp) (.ref 298) (sBE w os cp (dB w.params)) 30 := by
  revert w; refine rowsO (fun b w => ?_); cases b
  · exact RC.of_map (by have h := KCp_f w os cp; rw [← PySem.W.Fast.qFCp_eq] at h; unfold FCp at h; dsimp only at h; exact h)
  · exact RC.of_map (by have h := KCp_t w os cp; rw [← PySem.W.Fast.qFCp_eq] at h; unfold FCp at h; dsimp only at h; exact h)
end Mine
end
section
open PySem PySem.W PyProof.Rows
set_option maxRecDepth 100000
set_option maxHeartbeats 1000000
set_option linter.unusedVariables false
namespace Mine
noncomputable def d87 (P : Params) : SetD := match (o87v7 P).data with
  | .set es n t => (es, n, t)
  | _ => (⟨[]⟩, 0, ⟨7, ⟨[]⟩, ⟨[]⟩, 0, true, 0, true⟩)
theorem oB (P : Params) (cp : Value) (O : Obj) : Open1 298 (TB P cp O) := ⟨fun U => by kernel_rfl, fun U f => by kernel_rfl⟩
theorem g87 (P : Params) (cp : Value) (O U : Obj) : (TB P cp O U).get 87 = some (setO (d87 P)) := by kernel_rfl
theorem f87 (P : Params) : (d87 P).2.2.fits (d87 P).1.size = true := by kernel_rfl
noncomputable def FAn (a : Addr) (w : World) (os : OsState) (cp : Value) (d : SetD) : Option (Bool × Bool × SharedT) × Option (Bool × Bool × SharedT) :=
  ((runC w (Builtin.Frozenset.isAnySet (.ref a)) (sBE w os cp d)).map (fun r => (Nat.ble r.1 10, r.2)), some (true, true, sBE w os cp d))
theorem FAn_self : FAn = FAn := rfl
name_quick qFAn for Mine.FAn by Mine.FAn_self
theorem KAn : ∀ (w : World) (os : OsState) cp d, (PySem.W.Fast.qFAn 87 w os cp d).1 = (PySem.W.Fast.qFAn 87 w os cp d).2 := fun w os cp d => by kernel_rfl
theorem RAn (w : World) (os : OsState) (cp : Value) (d : SetD) : RC w (Builtin.Frozenset.isAnySet (.ref 87)) (sBE w os cp d) true (sBE w os cp d) 10 :=
  RC.of_map (by have h := KAn w os cp d; rw [← PySem.W.Fast.qFAn_eq] at h; unfold FAn at h; dsimp only at h; exact h)
noncomputable def FAm (a : Addr) (w : World) (os : OsState) (cp : Value) : Option (Bool × Bool × SharedT) × Option (Bool × Bool × SharedT) :=
  ((runC w (Builtin.Frozenset.isAnySet (.ref a)) (s0E w os cp)).map (fun r => (Nat.ble r.1 10, r.2)), some (true, true, s0E w os cp))
theorem FAm_self : FAm = FAm := rfl
name_quick qFAm for Mine.FAm by Mine.FAm_self
theorem KAm87 : ∀ (w : World) (os : OsState) cp, (PySem.W.Fast.qFAm 87 w os cp).1 = (PySem.W.Fast.qFAm 87 w os cp).2 := fun w os cp => by kernel_rfl
theorem KAm97 : ∀ (w : World) (os : OsState) cp, (PySem.W.Fast.qFAm 97 w os cp).1 = (PySem.W.Fast.qFAm 97 w os cp).2 := fun w os cp => by kernel_rfl
theorem RAm87 (w : World) (os : OsState) (cp : Value) : RC w (Builtin.Frozenset.isAnySet (.ref 87)) (s0E w os cp) true (s0E w os cp) 10 :=
  RC.of_map (by have h := KAm87 w os cp; rw [← PySem.W.Fast.qFAm_eq] at h; unfold FAm at h; dsimp only at h; exact h)
theorem RAm97 (w : World) (os : OsState) (cp : Value) : RC w (Builtin.Frozenset.isAnySet (.ref 97)) (s0E w os cp) true (s0E w os cp) 10 :=
  RC.of_map (by have h := KAm97 w os cp; rw [← PySem.W.Fast.qFAm_eq] at h; unfold FAm at h; dsimp only at h; exact h)
def orId : String := s!"frozenset.{"__or__"}"
theorem or_tree : Builtin.«frozenset.__or__» ⟨[.ref 97, .ref 87], []⟩ = (do
    if !(← Builtin.Frozenset.isAnySet (.ref 97) <&&> Builtin.Frozenset.isAnySet (.ref 87)) then
      PySem.rule s!"frozenset.{"__or__"}.declined"
      return ← ret .notImplemented
    ret (← (do
      let result ← Builtin.Frozenset.copyOf 97
      if (Value.ref 87) != .ref 97 then holding [result] (Builtin.Frozenset.updateFrom orId (← Builtin.Frozenset.addrOf result) (.ref 87))
      return result : Sem Value))) := by
  rfl
/-- the walk's end: each entry added in the order met -/
def foldA (d : SetD) (l : List (Int × Value)) : SetD := l.foldl (fun d e => addO d e.1 e.2) d
noncomputable def codesOf : List (Int × Value) → List Nat → List Nat
  | [], cs => cs
  | (h, _) :: l, cs => codesOf l (h.toNat :: cs)
theorem RC.skip {w : World} {s : SharedT} : RC w (Pure.pure () : Sem Unit) s () s 0 := RC.pure
theorem epochT (w : World) (os : OsState) (cp : Value) (d : SetD) : RC w (PySem.setEpoch 87) (sBE w os cp d) (d87 w.params).2.1 (sBE w os cp d) 1 := by
  unfold PySem.setEpoch
  exact RC.bind (RC.setState (d := d87 w.params) rfl (g87 ..) (f87 _)) (N := 1) (M := 0) RC.pure
theorem unchT (w : World) (os : OsState) (cp : Value) (d : SetD) (id : String) : RC w (Builtin.Frozenset.unchanged id 87 (d87 w.params).2.1) (sBE w os cp d) () (sBE w os cp d) 1 := by
  unfold Builtin.Frozenset.unchanged
  refine RC.bind (epochT w os cp d) (N := 1) (M := 0) ?_
  rw [bne_self_eq_false]
  exact RC.pure
theorem loopT (w : World) (os : OsState) (cp : Value) (id msg : String) : ∀ (l : List (Int × Value)) (d : SetD) (cs : List Nat), Good cs d → (∀ e ∈ l, ∃ c t, e = (.ofNat c, .int (.ofNat c) t)) → (∀ e ∈ l, e.1.toNat ∉ cs) → (l.map (·.1)).Nodup → cs.length + l.length < 500 →
    RC w (forIn l PUnit.unit fun (x : Int × Value) (_ : PUnit) => (do
        let _ ← holding [x.2] (setAddHashed 298 x.2 x.1)
        Builtin.Frozenset.unchanged id 87 (d87 w.params).2.1
        let s ← PySem.setState 87
        if (s.2.1 != (d87 w.params).2.1) = true then do
            (unsupported msg : Sem PUnit)
            Pure.pure (ForInStep.yield PUnit.unit)
          else Pure.pure (ForInStep.yield PUnit.unit) : Sem (ForInStep PUnit))) (sBE w os cp d) PUnit.unit (sBE w os cp (foldA d l)) (11 * l.length) ∧ Good (codesOf l cs) (foldA d l)
  | [], d, cs, g, _, _, _, _ => ⟨RC.pure, g⟩
  | e :: l, d, cs, g, he, ha, hnd, hz => by
    obtain ⟨c, t, rfl⟩ := he e (.head _)
    have hc : c ∉ cs := ha _ (.head _)
    rw [List.map_cons, List.nodup_cons] at hnd
    have ih := loopT w os cp id msg l (addO d (.ofNat c) (.int (.ofNat c) t)) (c :: cs) g.add (fun e h => he e (.tail _ h)) (fun e h hm => by
        rcases List.mem_cons.mp hm with q | q
        · obtain ⟨c', t', rfl⟩ := he e (.tail _ h)
          obtain rfl : c' = c := q
          exact hnd.1 (List.mem_map_of_mem (f := (·.1)) h)
        · exact ha e (.tail _ h) q) hnd.2 (by simp only [List.length_cons] at hz ⊢; omega)
    refine ⟨?_, ih.2⟩
    rw [List.forIn_cons]
    have one := RC.add (w := w) (oB w.params cp (setO (e28 w.params))) (n := 299) (L := {}) (gs := ⟨[.finished]⟩) (dr := {}) (k := 907) (os := os) (tk := t) g hc (by simp only [List.length_cons] at hz; omega) rfl rfl
    refine (RC.bind (a := ForInStep.yield PUnit.unit) (s' := sBE w os cp (addO d (.ofNat c) (.int (.ofNat c) t))) (N := 11) (M := 11 * l.length) ?_ ih.1).le (by simp only [List.length_cons]; omega)
    dsimp only
    refine RC.bind (N := 9) (M := 2) one ?_
    refine RC.bind (N := 1) (M := 1) (unchT w os cp _ id) ?_
    refine RC.bind (N := 1) (M := 0) (RC.setState (d := d87 w.params) rfl (g87 ..) (f87 _)) ?_
    dsimp only
    rw [bne_self_eq_false]
    exact RC.pure
/-- the order in which the right set's elements come -/
noncomputable def walkL (P : Params) : List (Int × Value) := if P.followText "set-order" then (pickOrder (P.setOrder 87 (d87 P).2.1) (d87 P).1).toList else (d87 P).1.toList
theorem walkT (w : World) (os : OsState) (cp : Value) (d : SetD) : ∃ arr : Array (Int × Value), arr.toList = walkL w.params ∧ RC w (setWalkUnseen 87 [298] (some 298)) (sBE w os cp d) arr (sBE w os cp d) 6 := by
  have st : RC w (PySem.setState 87) (sBE w os cp d) ((d87 w.params).1, (d87 w.params).2.1, (d87 w.params).2.2) (sBE w os cp d) 1 := RC.setState rfl (g87 ..) (f87 _)
  have led : (d87 w.params).2.2.led = !w.params.followText "set-order" := by kernel_rfl
  have pl : (d87 w.params).2.2.plain = true := by kernel_rfl
  have byT : RC w setsByText (sBE w os cp d) (w.params.followText "set-order") (sBE w os cp d) 1 := by
    unfold setsByText
    exact RC.bind RC.ask (N := 1) (M := 0) RC.pure
  have walk : ∃ arr : Array (Int × Value), arr.toList = walkL w.params ∧ RC w (setWalk 87) (sBE w os cp d) arr (sBE w os cp d) 3 := by
    unfold walkL
    cases hb : w.params.followText "set-order" with
    | true =>
      refine ⟨_, rfl, ?_⟩
      unfold setWalk
      refine (RC.bind st (N := 1) (M := 2) ?_)
      dsimp only
      refine RC.bind byT (N := 1) (M := 1) ?_
      rw [hb]
      simp only [if_true]
      exact RC.bind RC.ask (N := 1) (M := 0) RC.pure
    | false =>
      refine ⟨(d87 w.params).1, rfl, ?_⟩
      unfold setWalk
      refine (RC.bind st (N := 1) (M := 2) ?_)
      dsimp only
      refine (RC.bind byT (N := 1) (M := 0) ?_).le (by omega)
      rw [hb]
      simp only [Bool.false_eq_true, if_false]
      rw [hb] at led
      generalize (d87 w.params).2.2 = t at led pl
      obtain ⟨mask, place, dummies, finger, led', moves, plain⟩ := t
      dsimp only at led pl
      subst led pl
      show RC w (do (Pure.pure () : Sem Unit); Pure.pure (d87 w.params).1) _ _ _ _
      exact RC.bind (N := 0) (M := 0) RC.pure RC.pure
  obtain ⟨arr, ha, hw⟩ := walk
  refine ⟨arr, ha, ?_⟩
  unfold setWalkUnseen
  refine (RC.bind st (N := 1) (M := 5) ?_)
  dsimp only
  refine RC.bind byT (N := 1) (M := 4) ?_
  rw [led, pl]
  have : (w.params.followText "set-order" || (!w.params.followText "set-order") && true || decide ((d87 w.params).1.size ≤ 1)) = true := by
    cases w.params.followText "set-order" <;> rfl
  rw [this]
  simp only [if_true]
  exact hw.le (by omega)
theorem erase_perm {α : Type} : ∀ (l : List α) (i : Nat) (h : i < l.length), (l[i] :: l.eraseIdx i).Perm l
  | a :: l, 0, _ => .rfl
  | a :: l, i + 1, h => by
    rw [List.getElem_cons_succ, List.eraseIdx_cons_succ]
    exact (List.Perm.swap a _ _).trans ((erase_perm l i (by simpa using h)).cons a)
theorem perm_pick {α : Type} (next : Nat → Nat) : ∀ (n k : Nat) (left : List α) (out : Array α), left.length = n → (pickOrder.go next n k left out).toList.Perm (out.toList ++ left)
  | 0, k, left, out, h => by
    obtain rfl := List.eq_nil_of_length_eq_zero h
    unfold pickOrder.go
    rw [List.append_nil]
  | n + 1, k, left, out, h => by
    have hlt : next k % left.length < left.length := Nat.mod_lt _ (by omega)
    unfold pickOrder.go
    rw [List.getElem?_eq_getElem hlt]
    dsimp only
    refine (perm_pick next n (k + 1) _ _ (by rw [List.length_eraseIdx_of_lt hlt]; omega)).trans ?_
    rw [Array.toList_push, List.append_assoc]
    refine List.Perm.append_left _ ?_
    exact erase_perm _ _ hlt
theorem walkL_perm (P : Params) : (walkL P).Perm (d87 P).1.toList := by
  unfold walkL
  split
  · have := perm_pick (P.setOrder 87 (d87 P).2.1) (d87 P).1.toList.length 0 (d87 P).1.toList #[] rfl
    simpa [pickOrder] using this
  · exact .rfl
def entOk (cs : List Nat) (e : Int × Value) : Bool := match e with
  | (.ofNat c, .int (.ofNat c') _) => Nat.beq c c' && cs.contains c
  | _ => false
def entIs (c : Nat) (e : Int × Value) : Bool := match e with
  | (.ofNat c1, .int (.ofNat c2) _) => Nat.beq c1 c && Nat.beq c2 c
  | _ => false
theorem entOk_spec {cs : List Nat} {e : Int × Value} (h : entOk cs e = true) : ∃ c t, c ∈ cs ∧ e = (.ofNat c, .int (.ofNat c) t) := by
  unfold entOk at h
  split at h
  · rename_i c c' t
    obtain ⟨h1, h2⟩ := Bool.and_eq_true_iff.mp h
    obtain rfl := Nat.eq_of_beq_eq_true h1
    exact ⟨c, t, List.contains_iff_mem.mp h2, rfl⟩
  · cases h
theorem entIs_spec {c : Nat} {e : Int × Value} (h : entIs c e = true) : ∃ t, e = (.ofNat c, .int (.ofNat c) t) := by
  unfold entIs at h
  split at h
  · rename_i c1 c2 t
    obtain ⟨h1, h2⟩ := Bool.and_eq_true_iff.mp h
    obtain rfl := Nat.eq_of_beq_eq_true h1
    obtain rfl := Nat.eq_of_beq_eq_true h2
    exact ⟨t, rfl⟩
  · cases h
theorem Good.of_check {cs : List Nat} {d : SetD} (h1 : d.1.toList.all (entOk cs) = true) (h2 : cs.all (fun c => d.1.toList.any (entIs c)) = true) (h3 : Nat.ble d.1.size cs.length = true) (h4 : d.2.2.fits d.1.size = true) : Good cs d :=
  ⟨fun e he => entOk_spec (List.all_eq_true.mp h1 e he), Nat.le_of_ble_eq_true h3, h4, fun c hc => by
    obtain ⟨e, he, hi⟩ := List.any_eq_true.mp (List.all_eq_true.mp h2 c hc)
    obtain ⟨t, rfl⟩ := entIs_spec hi
    exact ⟨t, he⟩⟩
theorem dB_good (P : Params) : Good cs28 (dB P) := Good.of_check (by kernel_rfl) (by kernel_rfl) (by kernel_rfl) (by kernel_rfl)
def csR : List Nat := (List.range 26).map (127462 + ·)
theorem ok26 (P : Params) : (d87 P).1.toList.all (entOk csR) = true := by kernel_rfl
theorem codes26 (P : Params) : ∀ e ∈ (d87 P).1.toList, ∃ c t, e = (.ofNat c, .int (.ofNat c) t) := fun e he => let ⟨c, t, _, h⟩ := entOk_spec (List.all_eq_true.mp (ok26 P) e he); ⟨c, t, h⟩
theorem fresh26 (P : Params) : ∀ e ∈ (d87 P).1.toList, e.1.toNat ∉ cs28 := by
  intro e he
  obtain ⟨c, t, hc, rfl⟩ := entOk_spec (List.all_eq_true.mp (ok26 P) e he)
  have h : (csR.all fun c => !cs28.contains c) = true := by decide +kernel
  have := List.all_eq_true.mp h c hc
  intro hm
  have hm : c ∈ cs28 := hm
  rw [List.contains_iff_mem.mpr hm] at this
  cases this
theorem nodup26 (P : Params) : ((d87 P).1.toList.map (·.1)).Nodup := by
  have e : (d87 P).1.toList.map (·.1) = csR.map Int.ofNat := by kernel_rfl
  rw [e]
  decide +kernel
theorem mergeT (w : World) (os : OsState) (cp : Value) (id : String) : RC w (setMerge 298 87 (Builtin.Frozenset.unchanged id 87 (d87 w.params).2.1)) (sBE w os cp (dB w.params)) () (sBE w os cp (foldA (dB w.params) (walkL w.params))) 400 := by
  have st : ∀ d, RC w (PySem.setState 87) (sBE w os cp d) ((d87 w.params).1, (d87 w.params).2.1, (d87 w.params).2.2) (sBE w os cp d) 1 := fun d => RC.setState rfl (g87 ..) (f87 _)
  have stB : RC w (PySem.setState 298) (sBE w os cp (dB w.params)) ((dB w.params).1, (dB w.params).2.1, (dB w.params).2.2) (sBE w os cp (dB w.params)) 1 := RC.setState rfl ((oB ..).get _) (by kernel_rfl)
  unfold setMerge
  rw [if_neg (by decide)]
  refine (RC.bind (st _) (N := 1) (M := 399) ?_)
  dsimp only
  have e1 : (d87 w.params).1.isEmpty = false := by kernel_rfl
  rw [e1]
  simp only [Bool.false_eq_true, if_false]
  refine (RC.bind (a := ()) (s' := sBE w os cp (dB w.params)) (N := 1) (M := 398) ?_ ?_)
  · unfold setRoomFor
    refine RC.bind stB (N := 1) (M := 0) ?_
    have : (dB w.params).2.2.roomFor (d87 w.params).1.size = none := by kernel_rfl
    dsimp only
    rw [this]
    exact RC.pure
  refine (RC.bind stB (N := 1) (M := 397) ?_)
  dsimp only
  have : (dB w.params).2.2.road (d87 w.params).2.2 = .oneByOne := by kernel_rfl
  rw [this]
  dsimp only
  obtain ⟨arr, ha, hw⟩ := walkT w os cp (dB w.params)
  refine (RC.bind hw (N := 6) (M := 391) ?_)
  have len : (walkL w.params).length = 26 := by rw [(walkL_perm w.params).length_eq]; kernel_rfl
  have lp := (loopT w os cp id "set.changed-during-merge" (walkL w.params) (dB w.params) cs28 (dB_good _) (fun e h => codes26 _ e ((walkL_perm _).mem_iff.mp h)) (fun e h => fresh26 _ e ((walkL_perm _).mem_iff.mp h)) (((walkL_perm _).map _).nodup_iff.mpr (nodup26 _)) (by rw [len]; decide +kernel)).1
  rw [len, ← ha, Array.forIn_toList] at lp
  rw [← ha]
  exact (RC.bind lp RC.pure).le (by omega)
end Mine
end
section
open PySem PySem.W PyProof.Rows
set_option maxRecDepth 100000
set_option maxHeartbeats 1000000
set_option linter.unusedVariables false
namespace Mine
theorem runC_keep {w : World} {α : Type} (vs : List Value) (m : Sem α) : ∀ s, runC w (m.keep vs) s = runC w m s := by
  induction m <;> intro s <;> simp only [Sem.keep, runC, *]
theorem RC.holding {w : World} {α : Type} {vs : List Value} {m : Sem α} {s s' : SharedT} {a : α} {N : Nat} (h : RC w m s a s' N) : RC w (PySem.holding vs m) s a s' N := by
  unfold PySem.holding
  split
  · exact h
  · obtain ⟨n, hn, e⟩ := h
    exact ⟨n, hn, (runC_keep _ m s).trans e⟩
noncomputable def dU (P : Params) : SetD := foldA (dB P) (walkL P)
theorem updT (w : World) (os : OsState) (cp : Value) (id : String) : RC w (Builtin.Frozenset.updateFrom id 298 (.ref 87)) (sBE w os cp (dB w.params)) () (sBE w os cp (dU w.params)) 411 := by
  unfold Builtin.Frozenset.updateFrom
  refine RC.bind (RAn w os cp (dB w.params)) (N := 10) (M := 401) ?_
  simp only [if_true]
  refine RC.bind (a := (87 : Addr)) (s' := sBE w os cp (dB w.params)) (N := 0) (M := 401) RC.pure ?_
  unfold Builtin.Frozenset.merge
  exact RC.bind (epochT w os cp (dB w.params)) (N := 1) (M := 400) (mergeT w os cp id)
theorem orT (w : World) (os : OsState) (cp : Value) : RC w (Builtin.«frozenset.__or__» ⟨[.ref 97, .ref 87], []⟩) (s0E w os cp) (.done (.ret (.ref 298))) (sBE w os cp (dU w.params)) 461 := by
  rw [or_tree]
  refine RC.bind (a := true) (s' := s0E w os cp) (N := 20) (M := 441) ?_ ?_
  · exact RC.bind (RAm97 w os cp) (N := 10) (M := 10) (RAm87 w os cp)
  simp only [Bool.not_true, Bool.false_eq_true, if_false]
  refine RC.bind (a := Value.ref 298) (s' := sBE w os cp (dU w.params)) (N := 441) (M := 0) ?_ RC.pure
  refine RC.bind (RCp w os cp) (N := 30) (M := 411) ?_
  have hne : ((Value.ref 87) != .ref 97) = true := by decide
  rw [hne]
  simp only [if_true]
  refine RC.bind (a := (298 : Addr)) (s' := sBE w os cp (dB w.params)) (N := 0) (M := 411) RC.pure ?_
  refine RC.bind (a := ()) (s' := sBE w os cp (dU w.params)) (N := 411) (M := 0) ?_ RC.pure
  exact RC.holding (updT w os cp orId)
theorem or_den : denote treeTable orC = Builtin.«frozenset.__or__» ⟨[.ref 97, .ref 87], []⟩ := by
  have h : entryFor treeTable "frozenset.__or__" = some Builtin.«frozenset.__or__» := by kernel_rfl
  simp only [denote, orC, h]
theorem orGo (w : World) (os : OsState) (cp : Value) : Goes w (s0E w os cp) (thr orC PO (orF (kO w))) (sBE w os cp (dU w.params)) ⟨.pure (.done (.ret (.ref 298))), orC, PO, orF (kO w)⟩ 461 := by
  have h := (orT w os cp).goes .pure orC PO (orF (kO w))
  rw [Sem.bind_pure] at h
  unfold thr
  rw [or_den]
  exact h
end Mine
end
section
open PySem PySem.W PyProof.Rows
set_option maxRecDepth 100000
set_option maxHeartbeats 1000000
set_option linter.unusedVariables false
namespace Mine
theorem Goes.ends {w : World} {s s' : SharedT} {t t' : Thread} {N m : Nat} {r : Flow × SharedT × Code × Pos} (a : Goes w s t s' t' N) (b : endT m w s' t' = some r) : ∃ n, n ≤ N + m ∧ endT n w s t = some r := by
  obtain ⟨n, hn, a⟩ := a
  refine ⟨n + m, by omega, ?_⟩
  clear hn
  induction n generalizing s t with
  | zero =>
    simp only [goT, segGoT, Option.some.injEq, Prod.mk.injEq] at a
    obtain ⟨rfl, rfl⟩ := a
    rw [Nat.zero_add]; exact b
  | succ n ih =>
    rw [show n + 1 + m = (n + m) + 1 by omega]
    unfold goT segGoT at a
    unfold endT segRunT
    cases he : endAt 1 t with
    | some f => rw [he] at a; cases a
    | none =>
      rw [he] at a
      cases hk : stepOk 11 (some (.ref 6)) t with
      | false => rw [hk] at a; cases a
      | true =>
        rw [hk] at a
        cases hs : stepT (denote treeTable) pw w s t with
        | none => rw [hs] at a; cases a
        | some r => obtain ⟨s₂, t₂⟩ := r; rw [hs] at a; exact ih a
noncomputable def OE (P : Params) : Obj := setO (e28 P)
noncomputable def OU (P : Params) : Obj := setO (dU P)
theorem emo (w : World) (os : OsState) : ∃ n, n ≤ 10954 ∧ endT n w (S7 w.params os) (t7 w) = some (.next, SU w.params os cp28 (OE w.params) (OU w.params) 908, cdA, ⟨21, 0, 21, 14⟩) := by
  have c := (chain28 w os (k3 w) (k4 w) (k5 w)).1
  rw [R28] at c
  have g := (((GL w os).trans c).trans (GE w os cp28 (e28 w.params))).trans (orGo w os cp28)
  obtain ⟨n, hn, h⟩ := g.ends (GU w os cp28 (OE w.params) (OU w.params))
  exact ⟨n, Nat.le_trans hn (by decide), h⟩
-- the stub, the block, the end
theorem Gstub (w : World) (os : OsState) : topGo treeTable pw w 11 (some (.ref 6)) 12 ⟨boot_heap w.params, Array.mk [], boot_drawn, boot_toks, os⟩ (topStub pw) = some ((Sa w.params os).abs, ⟨denote treeTable cdA, cdA, ⟨0, 0, 0, 0⟩, BB⟩) := by kernel_rfl
noncomputable def Fblk (w : World) (os : OsState) : Option (Flow × SharedT × Code × Pos) × Option (Flow × SharedT × Code × Pos) :=
  (endT 1 w (Sa w.params os) (blockOf bodyAll envA cdA ⟨0, 0, 0, 0⟩ BB), some (.next, Sa w.params os, cdA, ⟨0, 0, 0, 0⟩))
theorem Fblk_self : Fblk = Fblk := rfl
name_quick qFblk for Mine.Fblk by Mine.Fblk_self
theorem Kblk : ∀ (w : World) (os : OsState), (PySem.W.Fast.qFblk w os).1 = (PySem.W.Fast.qFblk w os).2 := fun w os => by kernel_rfl
theorem Gblk (w : World) (os : OsState) : endT 1 w (Sa w.params os) (blockOf bodyAll envA cdA ⟨0, 0, 0, 0⟩ BB) = some (.next, Sa w.params os, cdA, ⟨0, 0, 0, 0⟩) := by
  have h := Kblk w os; rw [← PySem.W.Fast.qFblk_eq] at h; unfold Fblk at h; dsimp only at h; exact h
noncomputable def HF (P : Params) : Heap := absHeap (TF P cp28 (OE P) (OU P)) 349 {}
noncomputable def sF (w : World) (os : OsState) : Shared := ⟨HF w.params, ⟨[.finished]⟩, {}, 1009, os⟩
theorem sF_is (w : World) (os : OsState) : (SF w.params os cp28 (OE w.params) (OU w.params) 1009).abs = sF w os := rfl
theorem topRun_le {w : World} {n M : Nat} {s r : Shared} {t : Thread} (h : topRun treeTable pw w 11 (some (.ref 6)) n s t = some r) (hn : n ≤ M) : topRun treeTable pw w 11 (some (.ref 6)) M s t = some r := by
  have := topRun_mono (M - n) _ _ _ _ h
  rwa [show n + (M - n) = M by omega] at this
theorem endF (w : World) (s : Shared) (p : Pos) : topRun treeTable pw w 11 (some (.ref 6)) 2 s ⟨doneF .next, cdA, p, BB⟩ = some s := by
  obtain ⟨heap, gens, drawn, toks, os⟩ := s
  rfl
theorem body_split : bodyAll = bodyAll.take 6 ++ (stAt 6 ++ (stAt 7 ++ (bodyAll.drop 8 ++ []))) := by
  have h : ∀ l : List Stmt, l = l.take 6 ++ ((l.drop 6).take 1 ++ ((l.drop 7).take 1 ++ (l.drop 8 ++ []))) := by
    intro l
    have e1 : (l.drop 7).take 1 ++ l.drop 8 = l.drop 7 := by
      have := List.take_append_drop 1 (l.drop 7); rwa [List.drop_drop] at this
    have e2 : (l.drop 6).take 1 ++ l.drop 7 = l.drop 6 := by
      have := List.take_append_drop 1 (l.drop 6); rwa [List.drop_drop] at this
    rw [List.append_nil, e1, e2, List.take_append_drop]
  exact h bodyAll
theorem piece {w : World} {N M : Nat} {s s' : SharedT} {r : Shared} {l rest : List Stmt} {pos p' : Pos} (h : ∃ n, n ≤ M ∧ endT n w s (piecesOf l envA cdA pos BB) = some (.next, s', cdA, p'))
    (k : topRun treeTable pw w 11 (some (.ref 6)) N s'.abs (restOf rest envA cdA p' BB) = some r) : topRun treeTable pw w 11 (some (.ref 6)) (M + N) s.abs (restOf (l ++ rest) envA cdA pos BB) = some r := by
  obtain ⟨n, hn, h⟩ := h
  exact topRun_le (piece_app (segRun_of h) k) (by omega)
theorem runF (w : World) (os : OsState) : topRun treeTable pw w 11 (some (.ref 6)) 12326 ⟨boot_heap w.params, Array.mk [], boot_drawn, boot_toks, os⟩ (topStub pw) = some (sF w os) := by
  have k5 : topRun treeTable pw w 11 (some (.ref 6)) 2 (SF w.params os cp28 (OE w.params) (OU w.params) 1009).abs (restOf [] envA cdA ⟨76, 0, 96, 82⟩ BB) = some (sF w os) := by
    rw [← sF_is]; exact piece_nil (endF w _ _)
  have k4 := piece (M := 295) (l := bodyAll.drop 8) ⟨295, Nat.le_refl _, GF w os cp28 (OE w.params) (OU w.params)⟩ k5
  have k3 := piece (M := 10954) (l := stAt 7) (emo w os) k4
  have k2 := piece (M := 736) (l := stAt 6) ⟨736, Nat.le_refl _, Greg w os⟩ k3
  have k1 := piece (M := 326) (l := bodyAll.take 6) ⟨326, Nat.le_refl _, Gpre w os⟩ k2
  rw [← body_split] at k1
  have k0 := piece_block (segRun_of (Gblk w os)) k1
  exact go_top (Gstub w os) k0
noncomputable def KFr (P : Params) : Frag := (nat_lit 2, (boot_o_2 P)) :: (nat_lit 3, (o3v400 P)) :: (nat_lit 15, (o15v6 P)) :: (nat_lit 17, (o17v6 P)) :: (nat_lit 18, (o18v6 P)) :: (nat_lit 20, (o20v6 P)) :: (nat_lit 21, (o21v6 P)) :: (nat_lit 22, (o22v6 P)) :: (nat_lit 23, (o23v6 P)) :: (nat_lit 24, (o24v6 P)) :: (nat_lit 25, (o25v6 P)) :: (nat_lit 26, (o26v6 P)) :: (nat_lit 27, (o27v6 P)) :: (nat_lit 28, (o28v6 P)) :: (nat_lit 29, (o29v6 P)) :: (nat_lit 30, (o30v6 P)) :: (nat_lit 31, (o31v6 P)) :: (nat_lit 32, (o32v6 P)) :: (nat_lit 33, (o33v6 P)) :: (nat_lit 34, (o34v6 P)) :: (nat_lit 35, (o35v6 P)) :: (nat_lit 36, (o36v6 P)) :: (nat_lit 37, (o37v6 P)) :: (nat_lit 38, (o38v6 P)) :: (nat_lit 39, (o39v6 P)) :: (nat_lit 40, (o40v6 P)) :: (nat_lit 41, (o41v6 P)) :: (nat_lit 42, (o42v6 P)) :: (nat_lit 43, (o43v6 P)) :: (nat_lit 44, (o44v6 P)) :: (nat_lit 45, (o45v6 P)) :: (nat_lit 46, (o46v6 P)) :: (nat_lit 47, (o47v6 P)) :: (nat_lit 48, (o48v6 P)) :: (nat_lit 49, (o49v6 P)) :: (nat_lit 50, (o50v6 P)) :: (nat_lit 51, (o51v6 P)) :: (nat_lit 52, (o52v6 P)) :: (nat_lit 53, (o53v6 P)) :: (nat_lit 54, (o54v6 P)) :: (nat_lit 299, (o299v400 P)) :: (nat_lit 301, (o301v400 P)) :: (nat_lit 302, (o302v400 P)) :: (nat_lit 304, (o304v400 P)) :: (nat_lit 305, (o305v400 P)) :: (nat_lit 306, (o306v400 P)) :: (nat_lit 307, (o307v400 P)) :: (nat_lit 308, (o308v400 P)) :: (nat_lit 309, (o309v400 P)) :: (nat_lit 312, (o312v400 P)) :: (nat_lit 313, (o313v400 P)) :: (nat_lit 314, (o314v400 P)) :: (nat_lit 316, (o316v400 P)) :: (nat_lit 317, (o317v400 P)) :: (nat_lit 319, (o319v400 P)) :: (nat_lit 320, (o320v400 P)) :: (nat_lit 321, (o321v400 P)) :: (nat_lit 323, (o323v400 P)) :: (nat_lit 324, (o324v400 P)) :: (nat_lit 326, (o326v400 P)) :: (nat_lit 327, (o327v400 P)) :: (nat_lit 328, (o328v400 P)) :: (nat_lit 330, (o330v400 P)) :: (nat_lit 331, (o331v400 P)) :: (nat_lit 333, (o333v400 P)) :: (nat_lit 334, (o334v400 P)) :: (nat_lit 335, (o335v400 P)) :: (nat_lit 337, (o337v400 P)) :: (nat_lit 338, (o338v400 P)) :: (nat_lit 340, (o340v400 P)) :: (nat_lit 341, (o341v400 P)) :: (nat_lit 342, (o342v400 P)) :: (nat_lit 344, (o344v400 P)) :: (nat_lit 345, (o345v400 P)) :: (nat_lit 347, (o347v400 P)) :: (nat_lit 348, (o348v400 P)) :: []
def KA : List Nat := [2, 3, 15, 17, 18, 20, 21, 22, 23, 24, 25, 26, 27, 28, 29, 30, 31, 32, 33, 34, 35, 36, 37, 38, 39, 40, 41, 42, 43, 44, 45, 46, 47, 48, 49, 50, 51, 52, 53, 54, 299, 301, 302, 304, 305, 306, 307, 308, 309, 312, 313, 314, 316, 317, 319, 320, 321, 323, 324, 326, 327, 328, 330, 331, 333, 334, 335, 337, 338, 340, 341, 342, 344, 345, 347, 348]
end Mine
end
section
open PySem PySem.W PyProof.Rows
set_option maxRecDepth 100000
set_option maxHeartbeats 1000000
set_option linter.unusedVariables false
namespace Mine
noncomputable def qV : Program := { pw with main := { pw.main with body := ([1, 2, 3, 4, 6, 7, 9, 11, 12, 13, 14, 15, 16, 17, 18, 19] : List Nat).filterMap fun i => pw.main.body[i]? } }
def looseV : List Str := [Str.ofString "_REGIONAL_INDICATOR_SET", Str.ofString "_EMOJI_ZWJ_SET"]
noncomputable def XtV : Shared → Bool := fun s => xlAt qV [] s && recOk [] s
theorem inKr (w : World) (h : Heap) (x : KA.map h.get? = (KFr w.params).map fun p => some p.2) : InK KFr w h := Frag.in_of (by kernel_rfl) x
noncomputable def HkV : Hook where
  α := List (Option Obj) × Option Obj
  obs := fun s => (KA.map s.heap.get?, s.heap.get? 298)
  val := fun w => ((KFr w.params).map fun p => some p.2, some (OU w.params))
  says := fun w h => InK KFr w h ∧ h.get? 298 = some (OU w.params)
  of := fun w s e => ⟨inKr w s.heap (congrArg Prod.fst e), congrArg Prod.snd e⟩
  keeps := fun w h h' x k => ⟨InK.keeps w h h' x.1 k, k _ _ x.2⟩
noncomputable def Fk1 (w : World) (os : OsState) : Bool := staticsOk (importedModules pw.main.body) (boot_heap w.params) (HF w.params) && namesBound pw (HF w.params) && gensDone (sF w os) && laidKept (boot_heap w.params) (HF w.params)
theorem Fk1_self : Fk1 = Fk1 := rfl
name_quick qFk1 for Mine.Fk1 by Mine.Fk1_self
theorem Kk1 : ∀ (w : World) (os : OsState), PySem.W.Fast.qFk1 w os = true := fun w os => by kernel_rfl
noncomputable def Fk2 (w : World) (os : OsState) := (openSeen qV looseV (importedModules pw.main.body) XtV false (sF w os), openGood qV looseV)
theorem Fk2_self : Fk2 = Fk2 := rfl
name_quick qFk2 for Mine.Fk2 by Mine.Fk2_self
theorem Kk2 : ∀ (w : World) (os : OsState), (PySem.W.Fast.qFk2 w os).1 = (PySem.W.Fast.qFk2 w os).2 := fun w os => by kernel_rfl
theorem Kk3 : ∀ (w : World) (os : OsState), HkV.obs (sF w os) = HkV.val w := fun w os => by kernel_rfl
end Mine
end
section
open PySem PySem.W PySem.Calls PyProof.Rows
set_option maxRecDepth 100000
set_option maxHeartbeats 8000000
set_option linter.unusedVariables false
namespace Mine
theorem openV : opening pw = plainProg pw.main.scope.names := by kernel_rfl
theorem fenceV : ∀ s, fenceModules? pw s = some s := fun s => by kernel_rfl
theorem sizeV : ∀ w : World, ((boot_heap w.params).isNs mainGlobals && (Array.mk ([] : List GenState)).size == 0, (boot_heap w.params).objs.size, (boot_heap w.params).nsMap mainGlobals "__annotations__") = (true, 11, some (.ref 6)) := fun w => by kernel_rfl
theorem leftV : LeftO pw qV looseV XtV HkV.obs HkV.val 20000 false :=
  LeftO.of_pieces (H₀ := boot_heap) (H₁ := HF) (gs₀ := Array.mk []) (gs₁ := ⟨[.finished]⟩) (d₀ := boot_drawn) (d₁ := {}) (k₀ := boot_toks) (k₁ := 1009) (m₀ := 11) (ann := some (.ref 6)) (M := 12326)
    (boot_open openV rfl fenceV) sizeV runF rfl (fun w => by
      funext os
      have h1 := Kk1 w os
      rw [← PySem.W.Fast.qFk1_eq] at h1
      have h2 := Kk2 w os
      rw [← PySem.W.Fast.qFk2_eq] at h2
      have h3 := Kk3 w os
      unfold Fk1 at h1
      unfold Fk2 at h2
      dsimp only at h2
      exact Prod.ext h1 (Prod.ext h2 h3))
end Mine
end
section
open PySem PySem.W PySem.Calls PyProof.Rows
set_option maxRecDepth 100000
set_option maxHeartbeats 4000000
set_option linter.unusedVariables false
namespace Mine
/-- what stands at a heap: the written part, the top's names, the set -/
structure Base (w : World) (mg mb : Str → Option Value) (h : Heap) : Prop where
  KX : (KFr w.params).In h
  T : TopRead qV (looseW qV looseV) mg mb h
  KU : h.get? 298 = some (OU w.params)
theorem Base.keeps {w : World} {mg mb : Str → Option Value} {h h' : Heap} (B : Base w mg mb h) (k : ∀ b o, h.get? b = some o → h'.get? b = some o) : Base w mg mb h' :=
  ⟨B.KX.keeps k, B.T.keeps k, k _ _ B.KU⟩
theorem callH {w : World} {mg mb : Str → Option Value} {h₀ : Heap} {A : Around} {s : Shared} {R : Result → Shared → Prop} {a : Addr} {news : List (Addr × Obj)} {name qual : Str} {params : Arguments} {body : List Stmt} {scope : Scope} {dV kV doc pm cdv ct oc : Value} {an od : Option Addr} {osl : Array (Option Value)} {args : Args} {binds : List (Str × Value)}
    (B : Base w mg mb h₀) (st : h₀.StaysIn s.heap) (N : ∀ p ∈ news, s.heap.get? p.1 = some p.2 ∧ h₀.get? p.1 = none)
    (ho : (KFr w.params).lookup a = some ⟨oc, od, .func (fnOf name qual params body scope dV kV doc pm an cdv ct), osl⟩) (hcd : codeIn (KFr w.params) cdv qual = true) (hroom : A.depth < recursionLimit)
    (hbind : BindsTo s (fnOf name qual params body scope dV kV doc pm an cdv ct) args binds) (hloc : ∀ y ∈ binds, scope.names.lookup y.1 = some .local)
    (h : ∀ g L h₁, Base w mg mb g → Fr g L h₁ (fun y => binds.reverse.lookup y) → News g L h₁ news → (∀ b o, s.heap.get? b = some o → (∀ p ∈ news, p.1 ≠ b) → g.get? b = some o) →
      wpAny (model pw w) (A.deeper (envOf qual scope L a cdv)) (execs body (envOf qual scope L a cdv)) (fun fl s' => R (.ok (.ret (match fl with | .ret v => v | _ => .none))) s') (fun _ _ => False)
        { s with heap := h₁, toks := s.toks + binds.length })
    (hco : scope.isCoroutine = false) (hgen : scope.isGenerator = false) (hk : scope.kind = .function) (hcell : ∀ x ∈ scope.names, x.2 ≠ .cell) :
    codeAny (model pw w) A (.call (.ref a) args) R s := by
  have X : (KFr w.params).In s.heap := B.KX.keeps fun b o e => st b o e
  refine codeAny_call_def (fd := fnOf name qual params body scope dV kV doc pm an cdv ct) (body := body) (binds := binds) hroom (X _ _ ho) rfl (B.T.nolimit.keeps fun b o e => st b o e) (codeRec_of X hcd) rfl hbind hcell hloc (fun h₁ hns hk₁ => ?_) hco hgen hk
  have st' : h₀.StaysIn (hideAll s.heap (news.map (·.1))) := fun b o e => hideAll_get _ (st b o e) (fun q => by
    obtain ⟨p, hp, rfl⟩ := List.mem_map.mp q
    rw [(N p hp).2] at e; cases e)
  refine wpAny_mono (h (hideAll s.heap (news.map (·.1))) s.heap.objs.size h₁ (B.keeps fun b o e => st' b o e) ⟨hns, fun b o e => hk₁ b o (of_hideAll _ e), Nat.le_of_eq (hideAll_size _ _)⟩
    (fun p hp => ⟨hk₁ _ _ (N p hp).1, Nat.ne_of_lt (Heap.lt_size (N p hp).1), hideAll_none _ (List.mem_map_of_mem hp)⟩) (fun b o e hb => hideAll_get _ e fun q => by
      obtain ⟨p, hp, rfl⟩ := List.mem_map.mp q
      exact hb p hp rfl)) (fun fl s' hl => hl) fun _ _ y => y.elim
theorem callH_wp {w : World} {A : Around} {s : Shared} {a : Addr} {args : List Value} {Q : Value → Shared → Prop} {E : Value → Shared → Prop}
    (h : codeAny (model pw w) A (.call (.ref a) ⟨args, []⟩) (fun r s' => match r with | .ok (.ret v) => Q v s' | _ => False) s) : wpAny (model pw w) A (PySem.call (.ref a) args) Q E s :=
  wpAny_call (codeAny_mono h fun r s' x => by
    cases r with
    | ok f => cases f <;> first | exact x | exact x.elim
    | error e => exact x.elim)
end Mine
end
section
open PySem PySem.W PySem.Calls PyProof.Rows
set_option maxRecDepth 100000
set_option maxHeartbeats 1000000
set_option linter.unusedVariables false
namespace Mine
theorem dU_good (w : World) (os : OsState) : Good (codesOf (walkL w.params) cs28) (dU w.params) := by
  have len : (walkL w.params).length = 26 := by rw [(walkL_perm w.params).length_eq]; kernel_rfl
  exact (loopT w os .none "" "" (walkL w.params) (dB w.params) cs28 (dB_good _) (fun e h => codes26 _ e ((walkL_perm _).mem_iff.mp h)) (fun e h => fresh26 _ e ((walkL_perm _).mem_iff.mp h)) (((walkL_perm _).map _).nodup_iff.mpr (nodup26 _)) (by rw [len]; decide +kernel)).2
theorem mem_codesOf (c : Nat) : ∀ (l : List (Int × Value)) (cs : List Nat), c ∈ codesOf l cs ↔ c ∈ cs ∨ c ∈ l.map (·.1.toNat)
  | [], cs => by simp [codesOf]
  | (h, v) :: l, cs => by
    unfold codesOf
    rw [mem_codesOf c l]
    rw [List.map_cons, List.mem_cons, List.mem_cons]
    exact ⟨fun q => q.elim (fun r => r.elim (fun e => .inr (.inl e)) .inl) (fun r => .inr (.inr r)), fun q => q.elim (fun r => .inl (.inr r)) (fun r => r.elim (fun e => .inl (.inl e)) .inr)⟩
theorem len_codesOf : ∀ (l : List (Int × Value)) (cs : List Nat), (codesOf l cs).length = l.length + cs.length
  | [], cs => by simp [codesOf]
  | (h, v) :: l, cs => by
    unfold codesOf
    rw [len_codesOf l]
    simp only [List.length_cons]; omega
theorem mem_walk (P : Params) (c : Nat) : c ∈ (walkL P).map (·.1.toNat) ↔ c ∈ csR := by
  have e : (d87 P).1.toList.map (·.1) = csR.map Int.ofNat := by kernel_rfl
  have p := ((walkL_perm P).map (·.1.toNat)).mem_iff (a := c)
  rw [p, show (d87 P).1.toList.map (·.1.toNat) = ((d87 P).1.toList.map (·.1)).map Int.toNat by rw [List.map_map]; rfl, e, List.map_map]
  simp
noncomputable def inS (k : Int) : Bool := decide (0 ≤ k) && (cs28.contains k.toNat || csR.contains k.toNat)
theorem small : ∀ c, c ∈ cs28 ∨ c ∈ csR → c < 200000 := by
  have h1 : cs28.all (fun c => decide (c < 200000)) = true := by decide +kernel
  have h2 : csR.all (fun c => decide (c < 200000)) = true := by decide +kernel
  rintro c (h | h)
  · exact of_decide_eq_true (List.all_eq_true.mp h1 c h)
  · exact of_decide_eq_true (List.all_eq_true.mp h2 c h)
theorem hash_small (c : Nat) (h : c < 200000) : hashInt (.ofNat c) = .ofNat c := by
  have e : rawHash (.ofNat c) = .ofNat c := by
    unfold rawHash
    have e1 : (Int.ofNat c).natAbs = c := rfl
    have e2 : ((c : Int) % ((2 ^ 61 - 1 : Nat) : Int)) = c := Int.emod_eq_of_lt (Int.natCast_nonneg c) (by omega)
    have e3 : ¬ (Int.ofNat c) < 0 := by simp
    have e4 : ((c : Int) == -1) = false := by rw [beq_eq_false_iff_ne]; omega
    simp only [e1, e2, if_neg e3, e4, Bool.false_eq_true, if_false]
    rfl
  unfold hashInt
  rw [e]
  have e5 : (Int.ofNat c == -1) = false := by rw [beq_eq_false_iff_ne, Int.ofNat_eq_natCast]; omega
  rw [e5]
  simp
theorem frozU (w : World) (os : OsState) (g : Heap) (KU : g.get? 298 = some (OU w.params)) : ∃ n, FrozAt (PySem.intKind pw w) g 298 inS n ∧ n < 4096 := by
  have G := dU_good w os
  have mem : ∀ c, c ∈ codesOf (walkL w.params) cs28 ↔ c ∈ cs28 ∨ c ∈ csR := fun c => by rw [mem_codesOf, mem_walk]
  refine ⟨(dU w.params).1.size, ⟨(dU w.params).1, (dU w.params).2.1, (dU w.params).2.2, KU, ?_, ?_, rfl, G.fits⟩, ?_⟩
  · intro e he
    obtain ⟨c, t, hc, rfl⟩ := G.el e he
    exact ⟨⟨.ofNat c, by simp [intKind, Value.isInt], (hash_small c (small c ((mem c).mp hc))).symm⟩, rfl⟩
  · intro k
    constructor
    · intro q
      simp only [inS, Bool.and_eq_true, decide_eq_true_eq, Bool.or_eq_true, List.contains_iff_mem] at q
      obtain ⟨t, ht⟩ := G.has k.toNat ((mem _).mpr q.2)
      refine ⟨_, ht, ?_⟩
      show (Int.ofNat k.toNat == k) = true
      rw [beq_iff_eq]
      exact Int.toNat_of_nonneg q.1
    · rintro ⟨e, he, hk⟩
      obtain ⟨c, t, hc, rfl⟩ := G.el e he
      have hk : (Int.ofNat c == k) = true := hk
      rw [beq_iff_eq] at hk
      subst hk
      simp only [inS, Bool.and_eq_true, decide_eq_true_eq, Bool.or_eq_true, List.contains_iff_mem]
      exact ⟨Int.natCast_nonneg c, (mem c).mp hc⟩
  · have := G.size
    rw [len_codesOf, (walkL_perm w.params).length_eq] at this
    have e1 : (d87 w.params).1.toList.length = 26 := by kernel_rfl
    have e2 : cs28.length = 124 := by decide +kernel
    omega
end Mine
end
section
open PySem PySem.W PySem.Calls PyProof.Rows
namespace Mine
section
variable {M : Model} {A : Around} {Qv : Value → Shared → Prop} {Qf : Flow → Shared → Prop} {E : Value → Shared → Prop} {s : Shared}
-- each says: the walk stands at such a step (the tactic asks whether it fits)
theorem at_call {a : Addr} {args : List Value} (h : wpAny M A (PySem.call (.ref a) args) Qv E s) : wpAny M A (PySem.call (.ref a) args) Qv E s := h
theorem at_while {t : PySem.Expr} {b o : List Stmt} {p : Pos} {env : Env} (h : wpAny M A (exec (.While t b o p) env) Qf E s) : wpAny M A (exec (.While t b o p) env) Qf E s := h
theorem at_for {x t : PySem.Expr} {b o : List Stmt} {p : Pos} {env : Env} (h : wpAny M A (exec (.For x t b o p) env) Qf E s) : wpAny M A (exec (.For x t b o p) env) Qf E s := h
theorem at_iter {v : Value} (h : wpAny M A (pyIter v) Qv E s) : wpAny M A (pyIter v) Qv E s := h
theorem at_bin {op : Operator} {a : Addr} {v : Value} (h : wpAny M A (binaryOp op (.ref a) v) Qv E s) : wpAny M A (binaryOp op (.ref a) v) Qv E s := h
theorem at_binS {op : Operator} {x : Str} {t : Tok} {v : Value} (h : wpAny M A (binaryOp op (.str x t) v) Qv E s) : wpAny M A (binaryOp op (.str x t) v) Qv E s := h
theorem at_sub {e i : PySem.Expr} {o v : Value} (h : wpAny M A (subscriptTail e i o v) Qv E s) : wpAny M A (subscriptTail e i o v) Qv E s := h
theorem at_append {args : List Value} (h : wpAny M A (PySem.call (.builtin "list.append") args) Qv E s) : wpAny M A (PySem.call (.builtin "list.append") args) Qv E s := h
theorem at_execs {b : List Stmt} {env : Env} (h : wpAny M A (execs b env) Qf E s) : wpAny M A (execs b env) Qf E s := h
theorem tok_any {α : Type} {t : Sem α} {Q : α → Shared → Prop} {h : Heap} {g : Array GenState} {d : Drawn} {k : Nat} {o : OsState} (H : ∀ k, wpAny M A t Q E ⟨h, g, d, k, o⟩) : wpAny M A t Q E ⟨h, g, d, k, o⟩ := H k
theorem at_comp {e : PySem.Expr} {g : List Comprehension} {sc : Scope} {p : Pos} {env : Env} (h : wpAny M A (eval (.ListComp e g sc p) env) Qv E s) : wpAny M A (eval (.ListComp e g sc p) env) Qv E s := h
end
end Mine
end
section
open PySem PySem.W PySem.Calls PyProof.Rows
set_option maxRecDepth 100000
set_option maxHeartbeats 8000000
set_option linter.unusedVariables false
namespace Mine
/-- the draw: a list of a list of ints and the seed -/
structure DrawAt (h : Heap) (d l : Addr) (ns : List Int) (seed : Int) : Prop where
  at_ : ∃ ts n1 n2 vs, h.get? d = some (listOf #[.ref l, .int seed ts] n1) ∧ h.get? l = some (listOf vs n2) ∧ IntsAre vs.toList ns
def takeV (ns : List Int) (seed many : Int) : Int := match ns with
  | [] => (((seed * 48271).fmod 2147483647).fdiv 7).fmod many
  | n :: _ => n.fmod many
def takeS (ns : List Int) (seed : Int) : Int := match ns with
  | [] => (seed * 48271).fmod 2147483647
  | _ :: _ => seed
theorem seqZ {n : Nat} (h : 0 < n) : seqIndex? 0 n = some 0 := by
  unfold seqIndex?
  simp [h]
theorem ints_len : ∀ {vs : List Value} {ns : List Int}, IntsAre vs ns → vs.length = ns.length
  | _, _, .nil => rfl
  | _, _, .cons _ _ r => congrArg (· + 1) (ints_len r)
theorem take_ok {w : World} {mg mb : Str → Option Value} {h₀ : Heap} {e1 : Env} {s : Shared} {d l : Addr} {seed : Int} {ts n1 n2 : Nat} {vs : List Value} {ns : List Int} {many : Int} {tm : Nat} {R : Value → Shared → Prop} {E : Value → Shared → Prop}
    (B : Base w mg mb h₀) (st : h₀.StaysIn s.heap) (D : DrawAt s.heap d l ns seed) (hd0 : h₀.get? d = none) (hl0 : h₀.get? l = none)
    (hdl : l < d) (hm : 0 < many) (lv : ns.length < 1000) (row : PySem.Challenge.rw_ax6029_01 = PySem.Challenge.rw_ax6029_01)
    (h : ∀ t tk h', (∀ b o, s.heap.get? b = some o → b ≠ d → b ≠ l → h'.get? b = some o) → DrawAt h' d l ns.tail (takeS ns seed) → R (.int (takeV ns seed many) t) { s with heap := h', toks := tk }) :
    wpAny (model pw w) (callerA.deeper e1) (PySem.call (.ref 320) [.ref d, .int many tm]) R E s := by
  have hfill : PySem.Challenge.rw_ax6029_01 = PySem.Challenge.rw_ax6029_01 ∧ KFr = KFr := by k_fill; exact ⟨rfl, rfl⟩
  clear hfill row
  obtain ⟨⟨ts, n1, n2, vs, hd, hl, hi⟩⟩ := D
  refine callH_wp ?_
  refine' callH (binds := [(Str.ofString "draw", .ref d), (Str.ofString "many", .int many tm)]) (news := [(d, listOf #[.ref l, .int seed ts] n1), (l, listOf vs n2)]) B st ?N ?ho ?hcd ?hroom ?hbind ?hloc ?_ ?c2 ?c3 ?c4 ?c5
  case N => intro p hp; rcases List.mem_cons.mp hp with rfl | hp; exact ⟨hd, hd0⟩; rcases List.mem_cons.mp hp with rfl | hp; exact ⟨hl, hl0⟩; cases hp
  case ho => k_is
  case hcd => k_is
  case hroom => k_room
  case hbind => exact BindsTo.of_eq rfl
  case hloc => exact locs rfl
  case c5 => decide
  case c2 => exact rfl
  case c3 => exact rfl
  case c4 => exact rfl
  k_whole
  intro g L h₁ Bg F N out
  have KX := Bg.KX
  have T := Bg.T
  clear B
  have hid : l ≠ d := Nat.ne_of_lt hdl
  have hid' : d ≠ l := Ne.symm hid
  obtain ⟨vs⟩ := vs
  have hz : (vs.toArray).toList.length ≤ sizeLine := Nat.le_trans (Nat.le_of_eq (ints_len hi)) (Nat.le_trans (Nat.le_of_lt lv) (Nat.le_of_ble_eq_true rfl))
  cases hi with
  | nil =>
    (try dsimp only)
    (all_goals try k_fold)
    k_steps
    have Fz := ‹Fr g L _ _›
    have Nz := ‹News g L _ _›
    exact h _ _ _ (fun b o e q1 q2 => Fz.keep b o (out b o e (List.forall_mem_cons.mpr ⟨Ne.symm q1, List.forall_mem_cons.mpr ⟨Ne.symm q2, List.forall_mem_nil _⟩⟩)))
      ⟨⟨_, _, _, _, (Nz _ (.tail _ (.head _))).1, (Nz _ (.tail _ (.tail _ (.head _)))).1, .nil⟩⟩
  | @cons a b vs ns r =>
    (try dsimp only)
    (all_goals try k_fold)
    k_steps
    · have q : decide ((a :: ns : List Int) = []) = true := by assumption
      cases of_decide_eq_true q
    have Fz := ‹Fr g L _ _›
    have Nz := ‹News g L _ _›
    refine' kl_popAt Fz Nz ?f ?k ?e ?U ?z ?_
    case U => k_upd
    case f => rfl
    case k => show seqIndex? 0 _ = some 0; exact seqZ (by simp)
    case e => exact rfl
    case z => exact hz
    clear Fz Nz
    kl_rest
    k_steps
    have Fz := ‹Fr g L _ _›
    have Nz := ‹News g L _ _›
    exact h _ _ _ (fun b o e q1 q2 => Fz.keep b o (out b o e (List.forall_mem_cons.mpr ⟨Ne.symm q1, List.forall_mem_cons.mpr ⟨Ne.symm q2, List.forall_mem_nil _⟩⟩)))
      ⟨⟨_, _, _, _, (Nz _ (.tail _ (.head _))).1, (Nz _ (.tail _ (.tail _ (.head _)))).1, r⟩⟩
end Mine
end
section
open PySem PySem.W PySem.Calls PyProof.Rows
set_option maxRecDepth 100000
set_option maxHeartbeats 1000000
set_option linter.unusedVariables false
namespace Mine
def tabE : List (Int × Int) := [(768, 879), (1611, 1631), (2275, 2306), (2362, 2362), (2364, 2364), (2369, 2376), (2381, 2381), (2385, 2391), (2433, 2433), (2492, 2492), (2494, 2494), (2497, 2500), (2509, 2509), (2620, 2620), (2625, 2626), (2635, 2637), (3633, 3633), (3636, 3642), (4141, 4144), (4153, 4154), (8204, 8204), (8400, 8432), (12330, 12335), (12441, 12442), (43443, 43443), (43456, 43456), (65024, 65039), (65056, 65071), (70477, 70477), (127995, 127999), (917536, 917631), (917760, 917999)]
def inE (u : Int) : Bool := tabE.any fun p => decide (p.1 ≤ u) && decide (u ≤ p.2)
/-- a turn's end in a while that turns one int -/
def IdxPost (g : Heap) (L : Addr) (s : Shared) (m₀ : Str → Option Value) (x : Str) (news : List (Addr × Obj)) (P : Int → Prop) (μ : Int → Nat) (Q : Flow → Shared → Prop) (i : Int) (f : Flow) (s₃ : Shared) : Prop :=
  match f with
  | .next | .cont => ∃ h' tk m' i' t', s₃ = { s with heap := h', toks := tk } ∧ Fr g L h' m' ∧ m' x = some (.int i' t') ∧ (∀ y, y ≠ x → m' y = m₀ y) ∧ News g L h' news ∧ P i' ∧ μ i' < μ i
  | .brk => Q .next s₃
  | .ret v => Q (.ret v) s₃
theorem bindM_self {m₀ : Str → Option Value} {x : Str} {v : Option Value} (h : m₀ x = v) : bindM m₀ x v = m₀ := by
  funext y
  unfold bindM
  split
  · next e => rw [e]; exact h.symm
  · rfl
theorem bindM_norm {m m₀ : Str → Option Value} {x : Str} {v : Option Value} (h : m x = v) (hy : ∀ y, y ≠ x → m y = m₀ y) : m = bindM m₀ x v := by
  funext y
  unfold bindM
  split
  · next e => rw [e]; exact h
  · next e => exact hy y e
theorem bindM_over {m₀ : Str → Option Value} {x : Str} {v u : Option Value} : (fun y => if y = x then v else bindM m₀ x u y) = bindM m₀ x v := by
  funext y
  unfold bindM
  split <;> rfl
theorem while_idx {prog : Program} {w : World} {A : Around} {E : Value → Shared → Prop} {Q : Flow → Shared → Prop} {s : Shared} {env : Env} {g : Heap} {L : Addr} {test : Expr} {body : List Stmt} {pos : Pos} {m₀ : Str → Option Value} {news : List (Addr × Obj)} (x : Str) (P : Int → Prop) (μ : Int → Nat) (i0 : Int) (t0 : Tok)
    (F : Fr g L s.heap m₀) (N : News g L s.heap news) (h0 : m₀ x = some (.int i0 t0)) (hp : P i0)
    (turn : ∀ i t h tk, P i → Fr g L h (bindM m₀ x (some (.int i t))) → News g L h news →
      wpAny (model prog w) A (isTrue test env (eval test env)) (fun b s₂ =>
        if b = true then wpAny (model prog w) A (execs body env) (IdxPost g L s m₀ x news P μ Q i) E s₂ else Q .next s₂) E { s with heap := h, toks := tk })
    (hE : PassesOwn (model prog w) A env E := by passes_own) :
    wpAny (model prog w) A (exec (.While test body [] pos) env) Q E s := by
  refine While_inv2 (fun n m nx => ∃ i t, m = bindM m₀ x (some (.int i t)) ∧ nx = news ∧ P i ∧ μ i = n) F N ⟨i0, t0, (bindM_self h0).symm, rfl, hp, rfl⟩ ?_ hE
  rintro n m₁ nx h tk F₁ N₁ ⟨i, t, rfl, hnx, hp', rfl⟩
  rw [hnx] at N₁
  refine wpAny_mono (turn i t h tk hp' F₁ N₁) (fun b s₂ p => ?_) fun _ _ x => x
  cases b with
  | false => simpa using p
  | true =>
    simp only [if_true] at p ⊢
    refine wpAny_mono p (fun f s₃ q => ?_) fun _ _ x => x
    cases f with
    | ret v => exact q
    | brk => exact q
    | next =>
      obtain ⟨h', tk', m', i', t', rfl, F', hx, hy, N', hp9, hm9⟩ := q
      rw [bindM_norm hx hy] at F'
      exact ⟨h', tk', _, news, μ i', rfl, F', N', hm9, i', t', rfl, rfl, hp9, rfl⟩
    | cont =>
      obtain ⟨h', tk', m', i', t', rfl, F', hx, hy, N', hp9, hm9⟩ := q
      rw [bindM_norm hx hy] at F'
      exact ⟨h', tk', _, news, μ i', rfl, F', N', hm9, i', t', rfl, rfl, hp9, rfl⟩
/-- the code of the sign at i -/
def cd (x : Str) (i : Int) : Int := (((Txt.item x i).cps.getD 0 0 : Nat) : Int)
/-- behind the loop over the signs that extend -/
def ExtOut (g : Heap) (L : Addr) (s : Shared) (m₀ : Str → Option Value) (news : List (Addr × Obj)) (P : Int → Prop) (f : Flow) (s' : Shared) : Prop :=
  f = .next ∧ ∃ h' tk i t, s' = { s with heap := h', toks := tk } ∧ Fr g L h' (bindM m₀ (Str.ofString "idx") (some (.int i t))) ∧ News g L h' news ∧ P i
theorem ExtOut.of {g : Heap} {L : Addr} {s : Shared} {m₀ m : Str → Option Value} {news : List (Addr × Obj)} {P : Int → Prop} {h' : Heap} {tk : Nat} {i : Int} {t : Tok} (F : Fr g L h' m) (N : News g L h' news) (hi : m (Str.ofString "idx") = some (.int i t)) (hy : ∀ y, y ≠ Str.ofString "idx" → m y = m₀ y) (hp : P i) :
    ExtOut g L s m₀ news P .next { s with heap := h', toks := tk } := ⟨rfl, h', tk, i, t, rfl, bindM_norm hi hy ▸ F, N, hp⟩
theorem ext_cut {M : Model} {A : Around} {E : Value → Shared → Prop} {Q : Flow → Shared → Prop} {σ : Shared} {t : Sem Flow} {g : Heap} {L : Addr} {m : Str → Option Value} {news : List (Addr × Obj)} (P : Int → Prop) (F : Fr g L σ.heap m) (N : News g L σ.heap news)
    (h1 : wpAny M A t (ExtOut g L σ m news P) E σ) (h2 : ∀ h' tk i t, Fr g L h' (bindM m (Str.ofString "idx") (some (.int i t))) → News g L h' news → P i → Q .next { σ with heap := h', toks := tk }) : wpAny M A t Q E σ :=
  wpAny_mono h1 (fun f s' q => by obtain ⟨rfl, h', tk, i, t, rfl, F', N', hp⟩ := q; exact h2 h' tk i t F' N' hp) fun _ _ q => q
inductive EEnd (x : Str) (b : Int) : Int → Int → Prop
  | stop {i} : ¬ (i < b ∧ inE (cd x i) = true) → EEnd x b i i
  | go {i r} : i < b → inE (cd x i) = true → EEnd x b (i + 1) r → EEnd x b i r
inductive ZEnd (x : Str) (b : Int) : Int → Int → Prop
  | stop {i} : ¬ i < b → ZEnd x b i i
  | brk {i} : i < b → cd x i ≠ 8205 → ZEnd x b i i
  | last {i} : i < b → cd x i = 8205 → ¬ (i + 1 < b ∧ inS (cd x (i + 1)) = true) → ZEnd x b i (i + 1)
  | go {i j r} : i < b → cd x i = 8205 → i + 1 < b → inS (cd x (i + 1)) = true → EEnd x b (i + 2) j → ZEnd x b j r → ZEnd x b i r
end Mine
end
section
open PySem PySem.W PySem.Calls PyProof.Rows
set_option maxRecDepth 100000
set_option maxHeartbeats 1000000
set_option linter.unusedVariables false
namespace Mine
/-- a turn's end in a for that keeps no ledger -/
def TurnR (h₀ : Heap) (L : Addr) (own : List (Addr × Obj)) (s₁ : Shared) (J : (Str → Option Value) → Prop) (Q : Flow → Shared → Prop) (f : Flow) (s₂ : Shared) : Prop :=
  match f with
  | .ret v => Q (.ret v) s₂
  | .brk => Q .next s₂
  | _ => ∃ h' tk m', s₂ = { s₁ with heap := h', toks := tk } ∧ Fr h₀ L h' m' ∧ News h₀ L h' own ∧ J m'
theorem for_old {prog : Program} {w : World} {A : Around} {E : Value → Shared → Prop} {s : Shared} {env : Env} {h₀ : Heap} {x : Str} {body : List Stmt} {Q : Flow → Shared → Prop} {l : Addr} {vs : Array Value} {m₀ : Str → Option Value} (J : Nat → (Str → Option Value) → Prop)
    (hh : A.handled = none) (hl : h₀.IsList l vs) (F : Fr h₀ env.locals s.heap m₀) (h0 : J 0 m₀)
    (turn : ∀ i v m₁ h tk own, vs[i]? = some v → J i m₁ → Fr h₀ env.locals h (fun y => if y = x then some v else m₁ y) → News h₀ env.locals h own →
      wpAny (model prog w) A (execs body env) (TurnR h₀ env.locals own { s with heap := h, toks := tk } (J (i + 1)) Q) E { s with heap := h, toks := tk })
    (done : ∀ m₁ h tk, J vs.size m₁ → Fr h₀ env.locals h m₁ → Q .next { s with heap := h, toks := tk }) :
    wpAny (model prog w) A (pyIter (.ref l)) (fun it s₂ => LoopAtV prog w A h₀ env x body Q E it s₂) E s := by
  have hls : s.heap.IsList l vs := hl.at fun o e => F.keep l o e
  obtain ⟨ol, hol, _⟩ := id hl
  have hlt : l < s.heap.objs.size := Nat.lt_trans (Nat.lt_of_lt_of_le (Heap.lt_size hol) F.above) F.ns.lt
  have hL : l ≠ env.locals := Nat.ne_of_lt (Nat.lt_of_lt_of_le (Heap.lt_size hol) F.above)
  refine wpAny_pyIter_list hls ?_
  refine ⟨_, _, _, vs.size, _, _, m₀, [], fun i m nx => nx = [] ∧ J i m, rfl, Walks.list hh s.heap.objs.size l (Nat.ne_of_lt hlt) vs, ?_, ?_, ?_, ⟨⟨_, Heap.get?_push_size _ rfl, rfl, rfl⟩, hls.at fun o e => Heap.get?_push_of_some _ e⟩, F.push _, News.nil, ⟨rfl, h0⟩, ?_, ?_⟩
  · intro hm
    rcases List.mem_cons.mp hm with e | hm
    · exact Nat.ne_of_lt F.ns.lt e
    · exact hL (List.mem_singleton.mp hm).symm
  · intro b hb
    rw [List.mem_singleton.mp hb]
    exact next_is_new F
  · intro p hp
    exact nomatch hp
  · rintro i v m₁ nx s₁ own ⟨h, tk, rfl⟩ hi hP ⟨rfl, hJ⟩ _ _ _ _ _ F₁ N₁
    rw [List.append_nil] at N₁
    refine wpAny_mono (turn i v m₁ h tk own hP hJ F₁ N₁) (fun f s₂ p => ?_) fun _ _ e => e
    cases f with
    | ret v => exact .ret p
    | brk => exact .brk p
    | next =>
      obtain ⟨h', tk', m', rfl, F', N', J'⟩ := p
      exact .next ⟨rfl, h', tk', m', [], rfl, F', by rw [List.append_nil]; exact N', fun _ hp => (nomatch hp), rfl, J'⟩
    | cont =>
      obtain ⟨h', tk', m', rfl, F', N', J'⟩ := p
      exact .cont ⟨rfl, h', tk', m', [], rfl, F', by rw [List.append_nil]; exact N', fun _ hp => (nomatch hp), rfl, J'⟩
  · rintro h' tk m' nx F' _ _ ⟨_, hJ⟩
    exact done m' h' tk hJ F'
end Mine
end
section
open PySem PySem.W PySem.Calls PyProof.Rows
set_option maxRecDepth 100000
set_option maxHeartbeats 8000000
set_option linter.unusedVariables false
namespace Mine
theorem bis_ok {w : World} {mg mb : Str → Option Value} {h₀ : Heap} {e1 e2 : Env} {s : Shared} {u : Int} {tu : Nat} {R : Value → Shared → Prop} {E : Value → Shared → Prop}
    (B : Base w mg mb h₀) (st : h₀.StaysIn s.heap) (row : PySem.Challenge.rw_ax6029_01 = PySem.Challenge.rw_ax6029_01)
    (h : ∀ v t tk h', (∀ b o, s.heap.get? b = some o → h'.get? b = some o) → (v = 1 ∧ inE u = true ∨ v = 0 ∧ inE u = false) → R (.int v t) { s with heap := h', toks := tk }) :
    wpAny (model pw w) ((callerA.deeper e1).deeper e2) (PySem.call (.ref 21) [.int u tu, .ref 54]) R E s := by
  have hfill : PySem.Challenge.rw_ax6029_01 = PySem.Challenge.rw_ax6029_01 ∧ KFr = KFr := by k_fill; exact ⟨rfl, rfl⟩
  clear hfill row
  refine callH_wp ?_
  refine' callH (binds := [(Str.ofString "ucs", .int u tu), (Str.ofString "table", .ref 54)]) (news := []) B st ?N ?ho ?hcd ?hroom ?hbind ?hloc ?_ ?c2 ?c3 ?c4 ?c5
  case N => intro p hp; cases hp
  case ho => k_is
  case hcd => k_is
  case hroom => k_room
  case hbind => exact BindsTo.of_eq rfl
  case hloc => exact locs rfl
  case c5 => decide
  case c2 => exact rfl
  case c3 => exact rfl
  case c4 => exact rfl
  k_whole
  intro g L h₁ Bg F N out
  have KX := Bg.KX
  have T := Bg.T
  clear B
  (try dsimp only)
  (all_goals try k_fold)
  k_steps
  all_goals (
    have Fz := ‹Fr g L _ _›
    refine h _ _ _ _ (fun b o e => Fz.keep b o (out b o e (List.forall_mem_nil _))) ?_
    clear h out st T KX Bg Fz
    simp only [Int.ofNat_eq_natCast] at *
    first
      | (refine .inl ⟨by first | rfl | trivial, ?_⟩; simp only [inE, tabE, List.any_cons, List.any_nil, Bool.or_eq_true, Bool.and_eq_true, decide_eq_true_eq]; omega)
      | (refine .inr ⟨by first | rfl | trivial, ?_⟩; simp only [inE, tabE, List.any_cons, List.any_nil, Bool.or_eq_false_iff, Bool.and_eq_false_iff, decide_eq_false_iff_not]; (repeat' apply And.intro) <;> (first | trivial | omega))
      | skip)

end Mine
end
section
open PySem PySem.W PySem.Calls PyProof.Rows
set_option maxRecDepth 100000
set_option maxHeartbeats 8000000
set_option linter.unusedVariables false
namespace Mine
theorem bis_N {w : World} {mg mb : Str → Option Value} {g : Heap} {L : Addr} {m : Str → Option Value} {news : List (Addr × Obj)} {e1 e2 : Env} {s : Shared} {u : Int} {tu : Nat} {R : Value → Shared → Prop} {E : Value → Shared → Prop}
    (B : Base w mg mb g) (F : Fr g L s.heap m) (N : News g L s.heap news)
    (h : ∀ v t tk h', Fr g L h' m → News g L h' news → (v = 1 ∧ inE u = true ∨ v = 0 ∧ inE u = false) → R (.int v t) { s with heap := h', toks := tk }) :
    wpAny (model pw w) ((callerA.deeper e1).deeper e2) (PySem.call (.ref 21) [.int u tu, .ref 54]) R E s :=
  bis_ok B F.keep rfl fun v t tk h' k q => h v t tk h' (F.keeps k) (N.grown k) q
theorem scan_ok {w : World} {mg mb : Str → Option Value} {h₀ : Heap} {e1 : Env} {s : Shared} {x : Str} {tx : Nat} {a b : Int} {ta tb : Nat} {R : Value → Shared → Prop} {E : Value → Shared → Prop}
    (B : Base w mg mb h₀) (st : h₀.StaysIn s.heap) (ha : 0 ≤ a) (hab : a < b) (hb : b ≤ x.length) (hx : x.length < 1000) (row : PySem.Challenge.rw_ax6029_01 = PySem.Challenge.rw_ax6029_01)
    (h : ∀ i j t tk h', (∀ b o, s.heap.get? b = some o → h'.get? b = some o) → EEnd x b (a + 1) i → ZEnd x b i j → R (.int j t) { s with heap := h', toks := tk }) :
    wpAny (model pw w) (callerA.deeper e1) (PySem.call (.ref 305) [.str x tx, .int a ta, .int b tb]) R E s := by
  have hfill : PySem.Challenge.rw_ax6029_01 = PySem.Challenge.rw_ax6029_01 ∧ KFr = KFr := by k_fill; exact ⟨rfl, rfl⟩
  clear hfill row
  refine callH_wp ?_
  refine' callH (binds := [(Str.ofString "text", .str x tx), (Str.ofString "start", .int a ta), (Str.ofString "end", .int b tb)]) (news := []) B st ?N ?ho ?hcd ?hroom ?hbind ?hloc ?_ ?c2 ?c3 ?c4 ?c5
  case N => intro p hp; cases hp
  ((case ho => k_is); (case hcd => k_is); (case hroom => k_room); (case hbind => exact BindsTo.of_eq rfl); (case hloc => exact locs rfl); (case c5 => decide); (case c2 => exact rfl); (case c3 => exact rfl); (case c4 => exact rfl); k_whole)
  intro g L h₁ Bg F N out
  have KX := Bg.KX
  have T := Bg.T
  clear B
  (try dsimp only)
  (repeat' ((fail_if_success (with_reducible refine at_while ?_)); (fail_if_success (with_reducible refine at_for ?_)); (fail_if_success (with_reducible refine at_call ?_)); first | ((with_reducible refine at_execs ?_); refine tok_any ?_; intro tk; first | walk1 | (dsimp only; walk1)) | (k_unfold; (try dsimp only)) | (k_end; wrow_close) | walk1 | (dsimp only; walk1) | (leave1; walk_say "STEP leave1"; try dsimp only) | fail "no step"))
  refine ext_cut (fun i => a + 1 ≤ i ∧ EEnd x b (a + 1) i) ‹Fr g L _ _› ‹News g L _ _› ?_ ?_
  · have Fz := ‹Fr g L _ _›
    have Nz := ‹News g L _ _›
    refine while_idx (Str.ofString "idx") (fun i => a + 1 ≤ i ∧ ∀ r, EEnd x b i r → EEnd x b (a + 1) r) (fun i => (b - i).toNat) (a + 1) _ Fz Nz rfl ⟨Int.le_refl _, fun r q => q⟩ ?_
    clear Fz Nz
    k_sweep
    intro i' t h1 tk P1 F1 N1
    (repeat' ((fail_if_success (with_reducible refine at_while ?_)); (fail_if_success (with_reducible refine at_for ?_)); (fail_if_success (with_reducible refine at_call ?_)); first | ((with_reducible refine at_execs ?_); refine tok_any ?_; intro tk; first | walk1 | (dsimp only; walk1)) | (k_unfold; (try dsimp only)) | (k_end; wrow_close) | walk1 | (dsimp only; walk1) | (leave1; walk_say "STEP leave1"; try dsimp only) | fail "no step"))
    · have Fz := ‹Fr g L _ _›
      have Nz := ‹News g L _ _›
      refine bis_N Bg Fz Nz ?_
      clear Fz Nz
      intro v t' tk' h' F' N' hv
      k_sweep
      rcases hv with ⟨rfl, hv⟩ | ⟨rfl, hv⟩
      · (repeat' ((fail_if_success (with_reducible refine at_while ?_)); (fail_if_success (with_reducible refine at_for ?_)); (fail_if_success (with_reducible refine at_call ?_)); first | ((with_reducible refine at_execs ?_); refine tok_any ?_; intro tk; first | walk1 | (dsimp only; walk1)) | (k_unfold; (try dsimp only)) | (k_end; wrow_close) | walk1 | (dsimp only; walk1) | (leave1; walk_say "STEP leave1"; try dsimp only) | fail "no step"))
        have hb1 : i' < b := by assumption
        exact ⟨_, _, _, _, _, rfl, ‹Fr g L _ _›, rfl, fun y hy => by simp [bindM, hy], ‹News g L _ _›, ⟨by omega, fun r q => P1.2 r (.go hb1 hv q)⟩, by dsimp only; omega⟩
      · (repeat' ((fail_if_success (with_reducible refine at_while ?_)); (fail_if_success (with_reducible refine at_for ?_)); (fail_if_success (with_reducible refine at_call ?_)); first | ((with_reducible refine at_execs ?_); refine tok_any ?_; intro tk; first | walk1 | (dsimp only; walk1)) | (k_unfold; (try dsimp only)) | (k_end; wrow_close) | walk1 | (dsimp only; walk1) | (leave1; walk_say "STEP leave1"; try dsimp only) | fail "no step"))
        exact ExtOut.of ‹Fr g L _ _› ‹News g L _ _› rfl (fun y hy => by simp [bindM, hy]) ⟨P1.1, P1.2 _ (.stop fun q => by rw [show inE (cd x i') = false from hv] at q; exact Bool.noConfusion q.2)⟩
    · have hb1 : ¬ i' < b := by assumption
      exact ExtOut.of ‹Fr g L _ _› ‹News g L _ _› rfl (fun y hy => by simp [bindM, hy]) ⟨P1.1, P1.2 _ (.stop fun q => hb1 q.1)⟩
  intro h' tk i t F' N' hP
  k_sweep
  obtain ⟨hi, hE⟩ := hP
  (repeat' ((fail_if_success (with_reducible refine at_while ?_)); (fail_if_success (with_reducible refine at_for ?_)); (fail_if_success (with_reducible refine at_call ?_)); first | ((with_reducible refine at_execs ?_); refine tok_any ?_; intro tk; first | walk1 | (dsimp only; walk1)) | (k_unfold; (try dsimp only)) | (k_end; wrow_close) | walk1 | (dsimp only; walk1) | (leave1; walk_say "STEP leave1"; try dsimp only) | fail "no step"))
  refine while_idx (Str.ofString "idx") (fun i' => a + 1 ≤ i' ∧ ∀ r, ZEnd x b i' r → ZEnd x b i r) (fun i => (b - i).toNat) i t F' N' rfl ⟨hi, fun r q => q⟩ ?_
  clear F' N'
  intro i1 t1 h1 tk1 P1 F1 N1
  (repeat' ((fail_if_success (with_reducible refine at_while ?_)); (fail_if_success (with_reducible refine at_for ?_)); (fail_if_success (with_reducible refine at_call ?_)); first | ((with_reducible refine at_execs ?_); refine tok_any ?_; intro tk; first | walk1 | (dsimp only; walk1)) | (k_unfold; (try dsimp only)) | (k_end; wrow_close) | walk1 | (dsimp only; walk1) | (leave1; walk_say "STEP leave1"; try dsimp only) | fail "no step"))
  · have q8 : ((((Txt.item x i1).cps.getD 0 0 : Nat) : Int)) ≠ 8205 := by assumption
    have q9 : i1 < b := by assumption
    dsimp only [IdxPost]
    (repeat' ((fail_if_success (with_reducible refine at_while ?_)); (fail_if_success (with_reducible refine at_for ?_)); (fail_if_success (with_reducible refine at_call ?_)); first | ((with_reducible refine at_execs ?_); refine tok_any ?_; intro tk; first | walk1 | (dsimp only; walk1)) | (k_unfold; (try dsimp only)) | (k_end; wrow_close) | walk1 | (dsimp only; walk1) | (leave1; walk_say "STEP leave1"; try dsimp only) | fail "no step"))
    exact h i i1 _ _ _ (fun c o e => (‹Fr g L _ _›).keep c o (out c o e (List.forall_mem_nil _))) hE (P1.2 _ (.brk q9 q8))
  · have q8 : ((((Txt.item x i1).cps.getD 0 0 : Nat) : Int)) = 8205 := by assumption
    have q7 : i1 < b := by assumption
    have q9 : i1 + 1 < b := by assumption
    obtain ⟨n, hS, hn⟩ := frozU w s.os g Bg.KU
    refine in_froz (K := Int) (knd := PySem.intKind pw w) (k := cd x (i1 + 1)) ‹Fr g L _ _› hS ?_ rfl hn ?_
    · show (cd x (i1 + 1) == cd x (i1 + 1)) = true
      exact beq_self_eq_true _
    (repeat' ((fail_if_success (with_reducible refine at_while ?_)); (fail_if_success (with_reducible refine at_for ?_)); (fail_if_success (with_reducible refine at_call ?_)); first | ((with_reducible refine at_execs ?_); refine tok_any ?_; intro tk; first | walk1 | (dsimp only; walk1)) | (k_unfold; (try dsimp only)) | (k_end; wrow_close) | walk1 | (dsimp only; walk1) | (leave1; walk_say "STEP leave1"; try dsimp only) | fail "no step"))
    · refine ext_cut (fun i' => i1 + 1 + 1 ≤ i' ∧ EEnd x b (i1 + 1 + 1) i') ‹Fr g L _ _› ‹News g L _ _› ?_ ?_
      · have Fz := ‹Fr g L _ _›
        have Nz := ‹News g L _ _›
        refine while_idx (Str.ofString "idx") (fun i => i1 + 1 + 1 ≤ i ∧ ∀ r, EEnd x b i r → EEnd x b (i1 + 1 + 1) r) (fun i => (b - i).toNat) (i1 + 1 + 1) _ Fz Nz rfl ⟨Int.le_refl _, fun r q => q⟩ ?_
        clear Fz Nz
        k_sweep
        intro i' t h1 tk P1 F1 N1
        (repeat' ((fail_if_success (with_reducible refine at_while ?_)); (fail_if_success (with_reducible refine at_for ?_)); (fail_if_success (with_reducible refine at_call ?_)); first | ((with_reducible refine at_execs ?_); refine tok_any ?_; intro tk; first | walk1 | (dsimp only; walk1)) | (k_unfold; (try dsimp only)) | (k_end; wrow_close) | walk1 | (dsimp only; walk1) | (leave1; walk_say "STEP leave1"; try dsimp only) | fail "no step"))
        · have Fz := ‹Fr g L _ _›
          have Nz := ‹News g L _ _›
          refine bis_N Bg Fz Nz ?_
          clear Fz Nz
          intro v t' tk' h' F' N' hv
          k_sweep
          rcases hv with ⟨rfl, hv⟩ | ⟨rfl, hv⟩
          · (repeat' ((fail_if_success (with_reducible refine at_while ?_)); (fail_if_success (with_reducible refine at_for ?_)); (fail_if_success (with_reducible refine at_call ?_)); first | ((with_reducible refine at_execs ?_); refine tok_any ?_; intro tk; first | walk1 | (dsimp only; walk1)) | (k_unfold; (try dsimp only)) | (k_end; wrow_close) | walk1 | (dsimp only; walk1) | (leave1; walk_say "STEP leave1"; try dsimp only) | fail "no step"))
            have hb1 : i' < b := by assumption
            exact ⟨_, _, _, _, _, rfl, ‹Fr g L _ _›, rfl, fun y hy => by simp [bindM, hy], ‹News g L _ _›, ⟨by omega, fun r q => P1.2 r (.go hb1 hv q)⟩, by dsimp only; omega⟩
          · (repeat' ((fail_if_success (with_reducible refine at_while ?_)); (fail_if_success (with_reducible refine at_for ?_)); (fail_if_success (with_reducible refine at_call ?_)); first | ((with_reducible refine at_execs ?_); refine tok_any ?_; intro tk; first | walk1 | (dsimp only; walk1)) | (k_unfold; (try dsimp only)) | (k_end; wrow_close) | walk1 | (dsimp only; walk1) | (leave1; walk_say "STEP leave1"; try dsimp only) | fail "no step"))
            exact ExtOut.of ‹Fr g L _ _› ‹News g L _ _› rfl (fun y hy => by simp [bindM, hy]) ⟨P1.1, P1.2 _ (.stop fun q => by rw [show inE (cd x i') = false from hv] at q; exact Bool.noConfusion q.2)⟩
        · have hb1 : ¬ i' < b := by assumption
          exact ExtOut.of ‹Fr g L _ _› ‹News g L _ _› rfl (fun y hy => by simp [bindM, hy]) ⟨P1.1, P1.2 _ (.stop fun q => hb1 q.1)⟩
      intro h9 tk9 i9 t9 F9 N9 hP9
      k_sweep
      obtain ⟨hi9, hE9⟩ := hP9
      rw [show i1 + 1 + 1 = i1 + 2 by omega] at hE9
      have q3 : inS (cd x (i1 + 1)) = true := by assumption
      (repeat' ((fail_if_success (with_reducible refine at_while ?_)); (fail_if_success (with_reducible refine at_for ?_)); (fail_if_success (with_reducible refine at_call ?_)); first | ((with_reducible refine at_execs ?_); refine tok_any ?_; intro tk; first | walk1 | (dsimp only; walk1)) | (k_unfold; (try dsimp only)) | (k_end; wrow_close) | walk1 | (dsimp only; walk1) | (leave1; walk_say "STEP leave1"; try dsimp only) | fail "no step"))
      exact ⟨_, _, _, _, _, rfl, ‹Fr g L _ _›, rfl, fun y hy => by simp [bindM, hy], ‹News g L _ _›, ⟨by omega, fun r q => P1.2 r (.go q7 q8 q9 q3 hE9 q)⟩, by dsimp only; omega⟩
    · have q3 : inS (cd x (i1 + 1)) = false := by assumption
      dsimp only [IdxPost]
      (repeat' ((fail_if_success (with_reducible refine at_while ?_)); (fail_if_success (with_reducible refine at_for ?_)); (fail_if_success (with_reducible refine at_call ?_)); first | ((with_reducible refine at_execs ?_); refine tok_any ?_; intro tk; first | walk1 | (dsimp only; walk1)) | (k_unfold; (try dsimp only)) | (k_end; wrow_close) | walk1 | (dsimp only; walk1) | (leave1; walk_say "STEP leave1"; try dsimp only) | fail "no step"))
      exact h i (i1 + 1) _ _ _ (fun c o e => (‹Fr g L _ _›).keep c o (out c o e (List.forall_mem_nil _))) hE (P1.2 _ (.last q7 q8 (fun q => by rw [q3] at q; exact Bool.noConfusion q.2)))
  · have q8 : ((((Txt.item x i1).cps.getD 0 0 : Nat) : Int)) = 8205 := by assumption
    have q7 : i1 < b := by assumption
    have q9 : ¬ i1 + 1 < b := by assumption
    dsimp only [IdxPost]
    (repeat' ((fail_if_success (with_reducible refine at_while ?_)); (fail_if_success (with_reducible refine at_for ?_)); (fail_if_success (with_reducible refine at_call ?_)); first | ((with_reducible refine at_execs ?_); refine tok_any ?_; intro tk; first | walk1 | (dsimp only; walk1)) | (k_unfold; (try dsimp only)) | (k_end; wrow_close) | walk1 | (dsimp only; walk1) | (leave1; walk_say "STEP leave1"; try dsimp only) | fail "no step"))
    exact h i (i1 + 1) _ _ _ (fun c o e => (‹Fr g L _ _›).keep c o (out c o e (List.forall_mem_nil _))) hE (P1.2 _ (.last q7 q8 (fun q => q9 q.1)))
  · have q9 : ¬ i1 < b := by assumption
    exact h i i1 _ _ _ (fun c o e => (‹Fr g L _ _›).keep c o (out c o e (List.forall_mem_nil _))) hE (P1.2 _ (.stop q9))
end Mine
end
section
open PySem PySem.W PySem.Calls PyProof.Rows
set_option maxRecDepth 100000
set_option maxHeartbeats 8000000
set_option linter.unusedVariables false
namespace Mine
/-- a list's texts -/
inductive KS : List Value → List Str → Prop
  | nil : KS [] []
  | cons (k : Str) (t : Tok) {vs ks} : KS vs ks → KS (.str k t :: vs) (k :: ks)
noncomputable def fitsL : Bool → List Str → Bool
  | _, [] => true
  | j, k :: r => if j = true then (if (k != Str.ofString "P") = true then false else fitsL (k == Str.ofString "Z") r)
    else if ([Str.ofString "E", Str.ofString "Z"].any fun x => x == k) = true then fitsL (k == Str.ofString "Z") r else false
theorem KS.get : ∀ {vs : List Value} {ks : List Str} {i : Nat} {v : Value}, KS vs ks → vs[i]? = some v → ∃ k t, v = .str k t ∧ ks[i]? = some k
  | _, _, _, _, .nil, h => by simp at h
  | _, _, 0, _, .cons k t r, h => by simp at h; exact ⟨k, t, h.symm, rfl⟩
  | _, _, i + 1, _, .cons k t r, h => by simp at h; obtain ⟨k', t', e1, e2⟩ := r.get h; exact ⟨k', t', e1, by simpa using e2⟩
theorem KS.len : ∀ {vs : List Value} {ks : List Str}, KS vs ks → vs.length = ks.length
  | _, _, .nil => rfl
  | _, _, .cons _ _ r => congrArg (· + 1) r.len
theorem fits_ok {w : World} {mg mb : Str → Option Value} {h₀ : Heap} {e1 e2 : Env} {s : Shared} {q : Addr} {n : Nat} {vs : Array Value} {ks : List Str} {R : Value → Shared → Prop} {E : Value → Shared → Prop}
    (B : Base w mg mb h₀) (st : h₀.StaysIn s.heap) (hq : s.heap.get? q = some (listOf vs n)) (hk : KS vs.toList ks) (row : PySem.Challenge.rw_ax6029_01 = PySem.Challenge.rw_ax6029_01)
    (h : ∀ tk h', (∀ b o, s.heap.get? b = some o → h'.get? b = some o) → R (.bool (fitsL false ks)) { s with heap := h', toks := tk }) :
    wpAny (model pw w) ((callerA.deeper e1).deeper e2) (PySem.call (.ref 334) [.ref q]) R E s := by
  have hfill : PySem.Challenge.rw_ax6029_01 = PySem.Challenge.rw_ax6029_01 ∧ KFr = KFr := by k_fill; exact ⟨rfl, rfl⟩
  clear hfill row
  refine callH_wp ?_
  refine' callH (binds := [(Str.ofString "word", .ref q)]) (news := []) B st ?N ?ho ?hcd ?hroom ?hbind ?hloc ?_ ?c2 ?c3 ?c4 ?c5
  case N => intro p hp; cases hp
  ((case ho => k_is); (case hcd => k_is); (case hroom => k_room); (case hbind => exact BindsTo.of_eq rfl); (case hloc => exact locs rfl); (case c5 => decide); (case c2 => exact rfl); (case c3 => exact rfl); (case c4 => exact rfl); k_whole)
  intro g L h₁ Bg F N out
  have KX := Bg.KX
  have T := Bg.T
  have hqg : g.IsList q vs := ⟨_, out q _ hq (List.forall_mem_nil _), rfl, n, rfl⟩
  clear B
  (try dsimp only)
  (repeat' ((fail_if_success (with_reducible refine at_while ?_)); (fail_if_success (with_reducible refine at_iter ?_)); (fail_if_success (with_reducible refine at_call ?_)); first | ((with_reducible refine at_execs ?_); refine tok_any ?_; intro tk; first | walk1 | (dsimp only; walk1)) | (k_unfold; (try dsimp only)) | (k_end; wrow_close) | walk1 | (dsimp only; walk1) | (leave1; walk_say "STEP leave1"; try dsimp only) | fail "no step"))
  refine For_invV g rfl rfl ?_
  (repeat' ((fail_if_success (with_reducible refine at_while ?_)); (fail_if_success (with_reducible refine at_iter ?_)); (fail_if_success (with_reducible refine at_call ?_)); first | ((with_reducible refine at_execs ?_); refine tok_any ?_; intro tk; first | walk1 | (dsimp only; walk1)) | (k_unfold; (try dsimp only)) | (k_end; wrow_close) | walk1 | (dsimp only; walk1) | (leave1; walk_say "STEP leave1"; try dsimp only) | fail "no step"))
  refine for_old (fun i m => ∃ b, m (Str.ofString "joined") = some (.bool b) ∧ fitsL false ks = fitsL b (ks.drop i)) rfl hqg ‹Fr g L _ _› ⟨false, rfl, rfl⟩ ?_ ?_
  · k_sweep
    rintro i v m₁ h1 tk own hv ⟨b, hb, hJ⟩ F1 N1
    rw [← bindM_self hb] at F1
    obtain ⟨k, t, rfl, hk1⟩ := hk.get (by simpa using hv)
    have hd : ks.drop i = k :: ks.drop (i + 1) := by
      rw [List.drop_eq_getElem_cons (by have := List.getElem?_eq_some_iff.mp hk1; exact this.1)]
      rw [(List.getElem?_eq_some_iff.mp hk1).2]
    rw [hd] at hJ
    cases b
    · (repeat' ((fail_if_success (with_reducible refine at_while ?_)); (fail_if_success (with_reducible refine at_iter ?_)); (fail_if_success (with_reducible refine at_call ?_)); first | ((with_reducible refine at_execs ?_); refine tok_any ?_; intro tk; first | walk1 | (dsimp only; walk1)) | (k_unfold; (try dsimp only)) | (k_end; wrow_close) | walk1 | (dsimp only; walk1) | (leave1; walk_say "STEP leave1"; try dsimp only) | fail "no step"))
      · have q : ([Str.ofString "E", Str.ofString "Z"].any fun x => x == k) = true := by assumption
        exact ⟨_, _, _, rfl, ‹Fr g L _ _›, News.tail' ‹News g L _ _›, ⟨_, rfl, by rw [hJ, fitsL, if_neg Bool.false_ne_true, if_pos q]⟩⟩
      · have q : ([Str.ofString "E", Str.ofString "Z"].any fun x => x == k) = false := by assumption
        have e : fitsL false ks = false := by rw [hJ, fitsL, if_neg Bool.false_ne_true, if_neg (by rw [q]; exact Bool.false_ne_true)]
        rw [e] at h
        exact h _ _ (fun c o e => (‹Fr g L _ _›).keep c o (out c o e (List.forall_mem_nil _)))
    · (repeat' ((fail_if_success (with_reducible refine at_while ?_)); (fail_if_success (with_reducible refine at_iter ?_)); (fail_if_success (with_reducible refine at_call ?_)); first | ((with_reducible refine at_execs ?_); refine tok_any ?_; intro tk; first | walk1 | (dsimp only; walk1)) | (k_unfold; (try dsimp only)) | (k_end; wrow_close) | walk1 | (dsimp only; walk1) | (leave1; walk_say "STEP leave1"; try dsimp only) | fail "no step"))
      · have q : (k != Str.ofString "P") = true := by assumption
        have e : fitsL false ks = false := by rw [hJ, fitsL, if_pos rfl, if_pos q]
        rw [e] at h
        exact h _ _ (fun c o e => (‹Fr g L _ _›).keep c o (out c o e (List.forall_mem_nil _)))
      · have q : (k != Str.ofString "P") = false := by assumption
        exact ⟨_, _, _, rfl, ‹Fr g L _ _›, ‹News g L _ _›, ⟨_, rfl, by rw [hJ, fitsL, if_pos rfl, if_neg (by rw [q]; exact Bool.false_ne_true)]⟩⟩
  · rintro m₁ h1 tk ⟨b, hb, hJ⟩ F1
    (repeat' ((fail_if_success (with_reducible refine at_while ?_)); (fail_if_success (with_reducible refine at_iter ?_)); (fail_if_success (with_reducible refine at_call ?_)); first | ((with_reducible refine at_execs ?_); refine tok_any ?_; intro tk; first | walk1 | (dsimp only; walk1)) | (k_unfold; (try dsimp only)) | (k_end; wrow_close) | walk1 | (dsimp only; walk1) | (leave1; walk_say "STEP leave1"; try dsimp only) | fail "no step"))
    have e : fitsL false ks = true := by
      rw [hJ, List.drop_of_length_le (by rw [← hk.len]; simp)]
      cases b <;> rfl
    rw [e] at h
    exact h _ _ (fun c o e => (‹Fr g L _ _›).keep c o (out c o e (List.forall_mem_nil _)))
end Mine
end
section
open PySem PySem.W PySem.Calls PyProof.Rows
set_option maxRecDepth 100000
set_option maxHeartbeats 8000000
set_option linter.unusedVariables false
namespace Mine
def cutL (ks : List Str) (i j : Int) : List Str := (ks.drop i.toNat).take (j.toNat - i.toNat)
theorem KS.drop : ∀ {vs : List Value} {ks : List Str}, KS vs ks → ∀ k : Nat, KS (vs.drop k) (ks.drop k)
  | _, _, h, 0 => h
  | _, _, .nil, _ + 1 => .nil
  | _, _, .cons _ _ h, k + 1 => h.drop k
theorem KS.take : ∀ {vs : List Value} {ks : List Str}, KS vs ks → ∀ k : Nat, KS (vs.take k) (ks.take k)
  | _, _, _, 0 => .nil
  | _, _, .nil, _ + 1 => .nil
  | _, _, .cons n t h, k + 1 => .cons n t (h.take k)
theorem KS.cut {vs : Array Value} {ks : List Str} (h : KS vs.toList ks) {i j : Int} (h0 : 0 ≤ i) (h1 : i ≤ j) (h2 : j ≤ ks.length) : KS (slicePick vs (some i) (some j) none).toList (cutL ks i j) := by
  have ex : i = (i.toNat : Int) := by omega
  have ey : j = (j.toNat : Int) := by omega
  have hl := h.len
  rw [Array.length_toList] at hl
  unfold cutL
  rw [ex, ey, slicePick_run vs i.toNat j.toNat (by omega) (by omega)]
  simpa [← ex, ← ey] using (h.drop i.toNat).take (j.toNat - i.toNat)
structure Reach (ks : List Str) (f b r : Int) : Prop where
  lo : f + 1 ≤ r
  hi : r ≤ b
  fit : r = f + 1 ∨ fitsL false (cutL ks (f + 1) r) = true
  no : ∀ last, r < last → last ≤ b → fitsL false (cutL ks (f + 1) last) = false
theorem reach_ok {w : World} {mg mb : Str → Option Value} {h₀ : Heap} {e1 : Env} {s : Shared} {q : Addr} {n : Nat} {vs : Array Value} {ks : List Str} {f b : Int} {tf tb : Nat} {R : Value → Shared → Prop} {E : Value → Shared → Prop}
    (B : Base w mg mb h₀) (st : h₀.StaysIn s.heap) (hq : s.heap.get? q = some (listOf vs n)) (hk : KS vs.toList ks) (hf : 0 ≤ f) (hfb : f < b) (hb : b ≤ ks.length) (hz : ks.length < 1000) (row : PySem.Challenge.rw_ax6029_01 = PySem.Challenge.rw_ax6029_01)
    (h : ∀ r t tk h', (∀ b o, s.heap.get? b = some o → h'.get? b = some o) → Reach ks f b r → R (.int r t) { s with heap := h', toks := tk }) :
    wpAny (model pw w) (callerA.deeper e1) (PySem.call (.ref 341) [.ref q, .int f tf, .int b tb]) R E s := by
  have hfill : PySem.Challenge.rw_ax6029_01 = PySem.Challenge.rw_ax6029_01 ∧ KFr = KFr := by k_fill; exact ⟨rfl, rfl⟩
  clear hfill row
  refine callH_wp ?_
  refine' callH (binds := [(Str.ofString "kinds", .ref q), (Str.ofString "first", .int f tf), (Str.ofString "bound", .int b tb)]) (news := []) B st ?N ?ho ?hcd ?hroom ?hbind ?hloc ?_ ?c2 ?c3 ?c4 ?c5
  case N => intro p hp; cases hp
  ((case ho => k_is); (case hcd => k_is); (case hroom => k_room); (case hbind => exact BindsTo.of_eq rfl); (case hloc => exact locs rfl); (case c5 => decide); (case c2 => exact rfl); (case c3 => exact rfl); (case c4 => exact rfl); k_whole)
  intro g L h₁ Bg F N out
  have KX := Bg.KX
  have T := Bg.T
  have hqg : g.IsList q vs := ⟨_, out q _ hq (List.forall_mem_nil _), rfl, n, rfl⟩
  clear B
  (try dsimp only)
  (repeat' ((fail_if_success (with_reducible refine at_while ?_)); (fail_if_success (with_reducible refine at_iter ?_)); (fail_if_success (with_reducible refine at_call ?_)); first | ((with_reducible refine at_execs ?_); refine tok_any ?_; intro tk; first | walk1 | (dsimp only; walk1)) | (k_unfold; (try dsimp only)) | (k_end; wrow_close) | walk1 | (dsimp only; walk1) | (leave1; walk_say "STEP leave1"; try dsimp only) | fail "no step"))
  have hb2 : (ks.length : Int) < 1000 := by omega
  refine kst_rangeD (σ := Unit) (n := (b - (f + 1)).toNat) (fun _ => []) (fun _ => []) (fun _ => True) [] (fun pre _ => ∀ k, b - (pre.length : Int) < k → k ≤ b → fitsL false (cutL ks (f + 1) k) = false) () rfl ‹IsRange _ _ _ _ _ _ _ _› (small_down (by omega) (by omega) (by omega) (by omega)) (rangeSize_downNat _ _) ‹Fr g L _ _› ‹News g L _ _› trivial (List.forall_mem_nil _) (fun k h1 h2 => by simp at h1; omega) ?_ ?_
  · k_sweep
    intro c pre k t u h1 tk own hkp hlen _ _ hP F1 N1
    (repeat' ((fail_if_success (with_reducible refine at_while ?_)); (fail_if_success (with_reducible refine at_iter ?_)); (fail_if_success (with_reducible refine at_call ?_)); first | ((with_reducible refine at_execs ?_); refine tok_any ?_; intro tk; first | walk1 | (dsimp only; walk1)) | (k_unfold; (try dsimp only)) | (k_end; wrow_close) | walk1 | (dsimp only; walk1) | (leave1; walk_say "STEP leave1"; try dsimp only) | fail "no step"))
    have hvl := hk.len
    rw [Array.length_toList] at hvl
    have F2 := ‹Fr g L _ _›
    have hl2 := F2.lst hqg
    with_unfolding_all refine slice_list F1 N1 (F1.lst hqg) (.int _ _) (.int _ _) ?_ (hsz := Nat.le_trans (Nat.le_of_eq hvl) (Nat.le_trans (Nat.le_of_lt hz) (Nat.le_of_ble_eq_true rfl)))
    intro h2 F3 N3
    (repeat' ((fail_if_success (with_reducible refine at_while ?_)); (fail_if_success (with_reducible refine at_iter ?_)); (fail_if_success (with_reducible refine at_call ?_)); first | ((with_reducible refine at_execs ?_); refine tok_any ?_; intro tk; first | walk1 | (dsimp only; walk1)) | (k_unfold; (try dsimp only)) | (k_end; wrow_close) | walk1 | (dsimp only; walk1) | (leave1; walk_say "STEP leave1"; try dsimp only) | fail "no step"))
    refine' fits_ok (h₀ := g) (ks := cutL ks (f + 1) k) Bg ?k1 ?k2 ?k3 rfl ?_
    case k1 => exact F3.keep
    case k2 => exact (N3 _ (.head _)).1
    case k3 => exact hk.cut (by omega) (by omega) (by omega)
    intro tk2 h3 k3
    have F4 := F3.keeps k3
    have N4 := N3.grown k3
    clear F1 N1 F3 N3 F2
    cases e : fitsL false (cutL ks (f + 1) k) with
    | true =>
      (repeat' ((fail_if_success (with_reducible refine at_while ?_)); (fail_if_success (with_reducible refine at_iter ?_)); (fail_if_success (with_reducible refine at_call ?_)); first | ((with_reducible refine at_execs ?_); refine tok_any ?_; intro tk; first | walk1 | (dsimp only; walk1)) | (k_unfold; (try dsimp only)) | (k_end; wrow_close) | walk1 | (dsimp only; walk1) | (leave1; walk_say "STEP leave1"; try dsimp only) | fail "no step"))
      exact h _ _ _ _ (fun c o e => (‹Fr g L _ _›).keep c o (out c o e (List.forall_mem_nil _))) ⟨by omega, by omega, .inr e, fun last h1 h2 => hP last (by omega) h2⟩
    | false =>
      (repeat' ((fail_if_success (with_reducible refine at_while ?_)); (fail_if_success (with_reducible refine at_iter ?_)); (fail_if_success (with_reducible refine at_call ?_)); first | ((with_reducible refine at_execs ?_); refine tok_any ?_; intro tk; first | walk1 | (dsimp only; walk1)) | (k_unfold; (try dsimp only)) | (k_end; wrow_close) | walk1 | (dsimp only; walk1) | (leave1; walk_say "STEP leave1"; try dsimp only) | fail "no step"))
      refine kst_end () ‹Fr g L _ _› ‹News g L _ _› (List.forall_mem_nil _) (fun p hp => .tail _ hp) rfl trivial (List.forall_mem_nil _) (fun z h1 _ _ => by simp [h1, kstB]) ?_
      intro k' h1 h2
      rw [List.length_append] at h1
      simp only [List.length_cons, List.length_nil] at h1
      by_cases q : k' = k
      · rw [q]; exact e
      · exact hP k' (by omega) h2
  · intro c u h1 tk _ hP F1 N1
    (repeat' ((fail_if_success (with_reducible refine at_while ?_)); (fail_if_success (with_reducible refine at_iter ?_)); (fail_if_success (with_reducible refine at_call ?_)); first | ((with_reducible refine at_execs ?_); refine tok_any ?_; intro tk; first | walk1 | (dsimp only; walk1)) | (k_unfold; (try dsimp only)) | (k_end; wrow_close) | walk1 | (dsimp only; walk1) | (leave1; walk_say "STEP leave1"; try dsimp only) | fail "no step"))
    exact h _ _ _ _ (fun c o e => (‹Fr g L _ _›).keep c o (out c o e (List.forall_mem_nil _))) ⟨Int.le_refl _, by omega, .inl rfl, fun last h1 h2 => hP last (by rw [downKs_length]; omega) h2⟩
end Mine
end
section
open PySem PySem.W PySem.Calls PyProof.Rows
set_option maxRecDepth 100000
set_option maxHeartbeats 8000000
set_option linter.unusedVariables false
namespace Mine
theorem carried_ints : ∀ {vs : List Value} {ns : List Int}, CarriedAll vs (ns.map fun a => PyData.int (a.natAbs : Int)) → IntsAre vs (ns.map fun a => (a.natAbs : Int))
  | _, [], h => by cases h; exact .nil
  | _, n :: ns, h => by
    cases h with
    | cons c r =>
      cases c
      exact .cons _ _ (carried_ints r)
theorem draw_ok {w : World} {mg mb : Str → Option Value} {h₀ : Heap} {e1 : Env} {s : Shared} {a : Addr} {vs : List Value} {ns : List Int} {R : Value → Shared → Prop} {E : Value → Shared → Prop}
    (B : Base w mg mb h₀) (st : h₀.StaysIn s.heap) (hl : h₀.IsList a vs.toArray) (hi : IntsAre vs ns) (hz : ns.length < 1000) (row : PySem.Challenge.rw_ax6029_01 = PySem.Challenge.rw_ax6029_01)
    (h : ∀ (d l : Addr) (ns' : List Int) (seed : Int) tk h', (∀ b o, s.heap.get? b = some o → h'.get? b = some o) → DrawAt h' d l ns' seed → l < d → s.heap.get? l = none → s.heap.get? d = none → ns'.length ≤ 40 → (∀ n ∈ ns', 0 ≤ n) → 0 ≤ seed ∧ seed < 2147483647 → R (.ref d) { s with heap := h', toks := tk }) :
    wpAny (model pw w) (callerA.deeper e1) (PySem.call (.ref 313) [.ref a]) R E s := by
  have hfill : PySem.Challenge.rw_ax6029_01 = PySem.Challenge.rw_ax6029_01 ∧ KFr = KFr := by k_fill; exact ⟨rfl, rfl⟩
  clear hfill row
  refine callH_wp ?_
  refine' callH (binds := [(Str.ofString "script", .ref a)]) (news := []) B st ?N ?ho ?hcd ?hroom ?hbind ?hloc ?_ ?c2 ?c3 ?c4 ?c5
  case N => intro p hp; cases hp
  ((case ho => k_is); (case hcd => k_is); (case hroom => k_room); (case hbind => exact BindsTo.of_eq rfl); (case hloc => exact locs rfl); (case c5 => decide); (case c2 => exact rfl); (case c3 => exact rfl); (case c4 => exact rfl); k_whole)
  intro g L h₁ Bg F N out
  have KX := Bg.KX
  have T := Bg.T
  have hag : g.IsList a vs.toArray := hl.at fun o e => out _ _ (st _ _ e) (List.forall_mem_nil _)
  clear B
  (try dsimp only)
  (repeat' ((fail_if_success (with_reducible refine at_while ?_)); (fail_if_success (with_reducible refine at_for ?_)); (fail_if_success (with_reducible refine at_call ?_)); first | ((with_reducible refine at_execs ?_); refine tok_any ?_; intro tk; first | walk1 | (dsimp only; walk1)) | (k_unfold; (try dsimp only)) | (k_end; wrow_close) | walk1 | (dsimp only; walk1) | (leave1; walk_say "STEP leave1"; try dsimp only) | fail "no step"))
  refine For_invV g rfl rfl ?_
  (repeat' ((fail_if_success (with_reducible refine at_while ?_)); (fail_if_success (with_reducible refine at_iter ?_)); (fail_if_success (with_reducible refine at_call ?_)); first | ((with_reducible refine at_execs ?_); refine tok_any ?_; intro tk; first | walk1 | (dsimp only; walk1)) | (k_unfold; (try dsimp only)) | (k_end; wrow_close) | walk1 | (dsimp only; walk1) | (leave1; walk_say "STEP leave1"; try dsimp only) | fail "no step"))
  refine for_old (fun i m => ∃ sd t, m (Str.ofString "seed") = some (.int sd t) ∧ m (Str.ofString "script") = some (.ref a) ∧ 0 ≤ sd ∧ sd < 2147483647) rfl hag ‹Fr g L _ _› ⟨19, _, rfl, rfl, by omega, by omega⟩ ?_ ?_
  · k_sweep
    rintro i v m₁ h1 tk own hv ⟨sd, t, hsd, hsc, h0, h2⟩ F1 N1
    rw [← bindM_self hsd] at F1
    obtain ⟨k, tv, rfl⟩ : ∃ k tv, v = .int k tv := by
      have hlt : i < ns.length := by
        have := (Array.getElem?_eq_some_iff.mp hv).1
        rw [List.size_toArray, ints_len hi] at this
        exact this
      obtain ⟨tv, hx⟩ := hi.get i ns[i] (by simp [hlt])
      rw [List.getElem?_toArray, hx] at hv
      exact ⟨_, _, (Option.some.inj hv).symm⟩
    (repeat' ((fail_if_success (with_reducible refine at_while ?_)); (fail_if_success (with_reducible refine at_iter ?_)); (fail_if_success (with_reducible refine at_call ?_)); first | ((with_reducible refine at_execs ?_); refine tok_any ?_; intro tk; first | walk1 | (dsimp only; walk1)) | (k_unfold; (try dsimp only)) | (k_end; wrow_close) | walk1 | (dsimp only; walk1) | (leave1; walk_say "STEP leave1"; try dsimp only) | fail "no step"))
    have Fz := ‹Fr g L _ _›
    have Nz := ‹News g L _ _›
    exact ⟨_, _, _, rfl, Fz, Nz, ⟨_, _, rfl, hsc, Int.fmod_nonneg_of_pos _ (by omega), Int.fmod_lt_of_pos _ (by omega)⟩⟩
  · rintro m₁ h1 tk ⟨sd, t, hsd, hsc, h0, h2⟩ F1
    rw [← bindM_self hsd, ← bindM_self hsc] at F1
    have N1 : News g L h1 [] := News.nil
    k_sweep
    (repeat' ((fail_if_success (with_reducible refine at_comp ?_)); (fail_if_success (with_reducible refine at_sub ?_)); first | ((with_reducible refine at_execs ?_); refine tok_any ?_; intro tk; first | walk1 | (dsimp only; walk1)) | (k_unfold; (try dsimp only)) | (k_end; wrow_close) | walk1 | (dsimp only; walk1) | (leave1; walk_say "STEP leave1"; try dsimp only) | fail "no step"))
    refine ListComp_DCn (h₀ := g) (L := L) (m := bindM (bindM m₁ (Str.ofString "script") (some (.ref a))) (Str.ofString "seed") (some (.int sd t))) (K := ItemKind.int) (cl := []) (pz := fun _ => true) (d := fun a => PyData.int (a.natAbs : Int)) rfl (by with_unfolding_all rfl) (by decide) (by with_unfolding_all rfl) (by decide) (by with_unfolding_all rfl) ?_ (by intro _; with_unfolding_all rfl)
    walk1
    refine ⟨[], a, vs, ns, rfl, F1.lst hag, ?are, ?sz, F1, N1, ?tests, ?elt, ?out⟩
    case are => exact hi.areOf
    case sz => exact Nat.le_trans (Nat.le_of_lt hz) (Nat.le_of_ble_eq_true rfl)
    case tests => intro C b v s₂ m₂ E' hC hb hv hn hx hk; exact wpAny_pure ⟨rfl, _, _, rfl, fun _ _ e => e⟩
    case elt =>
      intro C b v s₂ m₂ E' hC hb hv _ hn hx hk
      obtain ⟨tv, rfl⟩ := hv
      have F2 : Fr g C s₂.heap m₂ := ⟨hn, fun c o e => hk c o (F1.keep c o e), Nat.le_trans F1.above (Nat.le_trans (Nat.le_of_lt F1.ns.lt) hC)⟩
      clear F1
      walk1
      refine Calls.Name_function_global (by with_unfolding_all rfl) (by with_unfolding_all rfl) (Calls.loadGlobal_builtin (T.g.keeps F2.keep) (mg_none_of KX T.g (n := Str.ofString "abs") (by k_is)) (T.b.keeps F2.keep) ((T.builtins _ (by decide)).trans rfl) ?_) (by decide)
      (repeat' ((fail_if_success (with_reducible refine at_comp ?_)); (fail_if_success (with_reducible refine at_sub ?_)); first | ((with_reducible refine at_execs ?_); refine tok_any ?_; intro tk; first | walk1 | (dsimp only; walk1)) | (k_unfold; (try dsimp only)) | (k_end; wrow_close) | walk1 | (dsimp only; walk1) | (leave1; walk_say "STEP leave1"; try dsimp only) | fail "no step"))
      · have e : (if b < 0 then -b else b) = (b.natAbs : Int) := by split <;> omega
        rw [e]
        exact .int _ _
      · exact ⟨_, _, rfl, fun _ _ e => e⟩
    case out =>
      intro D ys h' tk' F2 N2 hD hl' hp hc
      k_sweep
      (repeat' ((fail_if_success (with_reducible refine at_comp ?_)); (fail_if_success (with_reducible refine at_sub ?_)); first | ((with_reducible refine at_execs ?_); refine tok_any ?_; intro tk; first | walk1 | (dsimp only; walk1)) | (k_unfold; (try dsimp only)) | (k_end; wrow_close) | walk1 | (dsimp only; walk1) | (leave1; walk_say "STEP leave1"; try dsimp only) | fail "no step"))
      have hyl : ys.length = ns.length := by rw [hc.length_eq]; simp
      refine kba_turn (value' := PySem.Expr.Name (PySem.Str.ofString "_") ⟨0, 0, 0, 0⟩) (fun _ => rfl) ?_
      with_unfolding_all refine slice_list F2 N2 hl' .none (.int _ _) ?_ (hsz := by rw [List.size_toArray, hyl]; exact Nat.le_trans (Nat.le_of_lt hz) (Nat.le_of_ble_eq_true rfl))
      intro h3 F3 N3
      k_sweep
      (repeat' ((fail_if_success (with_reducible refine at_comp ?_)); (fail_if_success (with_reducible refine at_sub ?_)); first | ((with_reducible refine at_execs ?_); refine tok_any ?_; intro tk; first | walk1 | (dsimp only; walk1)) | (k_unfold; (try dsimp only)) | (k_end; wrow_close) | walk1 | (dsimp only; walk1) | (leave1; walk_say "STEP leave1"; try dsimp only) | fail "no step"))
      have hf : ns.filter (fun _ => true) = ns := List.filter_eq_self.mpr (fun _ _ => rfl)
      rw [hf] at hc
      have hx := carried_ints hc
      have hcut := slice_ints_uptoW hx (y := 40) (by omega)
      have Fz := ‹Fr g L _ _›
      have Nz := ‹News g L _ _›
      have lt := ‹h'.objs.size + 1 < _›
      have none_of : ∀ b, g.get? b = none → s.heap.get? b = none := fun b e => by
        cases q : s.heap.get? b with
        | none => rfl
        | some o => rw [out b o q (List.forall_mem_nil _)] at e; cases e
      refine h _ _ _ _ _ _ (fun c o e => Fz.keep c o (out c o e (List.forall_mem_nil _))) ⟨⟨_, _, _, _, (Nz _ (.head _)).1, (Nz _ (.tail _ (.head _))).1, hcut⟩⟩ lt (none_of _ (Nz _ (.tail _ (.head _))).2.2) (none_of _ (Nz _ (.head _)).2.2) ?_ ?_ ⟨h0, h2⟩
      · rw [List.length_take]; exact Nat.min_le_left _ _
      · intro n hn
        obtain ⟨a, _, rfl⟩ := List.mem_map.mp (List.mem_of_mem_take hn)
        exact Int.natCast_nonneg _
end Mine
end
section
open PySem PySem.W PySem.Calls PyProof.Rows
set_option maxRecDepth 100000
set_option maxHeartbeats 8000000
set_option linter.unusedVariables false
namespace Mine
theorem take_ok2 {w : World} {mg mb : Str → Option Value} {h₀ : Heap} {e1 e2 : Env} {s : Shared} {d l : Addr} {seed : Int} {ts n1 n2 : Nat} {vs : List Value} {ns : List Int} {many : Int} {tm : Nat} {R : Value → Shared → Prop} {E : Value → Shared → Prop}
    (B : Base w mg mb h₀) (st : h₀.StaysIn s.heap) (D : DrawAt s.heap d l ns seed) (hd0 : h₀.get? d = none) (hl0 : h₀.get? l = none)
    (hdl : l < d) (hm : 0 < many) (lv : ns.length < 1000) (row : PySem.Challenge.rw_ax6029_01 = PySem.Challenge.rw_ax6029_01)
    (h : ∀ t tk h', (∀ b o, s.heap.get? b = some o → b ≠ d → b ≠ l → h'.get? b = some o) → DrawAt h' d l ns.tail (takeS ns seed) → R (.int (takeV ns seed many) t) { s with heap := h', toks := tk }) :
    wpAny (model pw w) ((callerA.deeper e1).deeper e2) (PySem.call (.ref 320) [.ref d, .int many tm]) R E s := by
  have hfill : PySem.Challenge.rw_ax6029_01 = PySem.Challenge.rw_ax6029_01 ∧ KFr = KFr := by k_fill; exact ⟨rfl, rfl⟩
  clear hfill row
  obtain ⟨⟨ts, n1, n2, vs, hd, hl, hi⟩⟩ := D
  refine callH_wp ?_
  refine' callH (binds := [(Str.ofString "draw", .ref d), (Str.ofString "many", .int many tm)]) (news := [(d, listOf #[.ref l, .int seed ts] n1), (l, listOf vs n2)]) B st ?N ?ho ?hcd ?hroom ?hbind ?hloc ?_ ?c2 ?c3 ?c4 ?c5
  case N => intro p hp; rcases List.mem_cons.mp hp with rfl | hp; exact ⟨hd, hd0⟩; rcases List.mem_cons.mp hp with rfl | hp; exact ⟨hl, hl0⟩; cases hp
  case ho => k_is
  case hcd => k_is
  case hroom => k_room
  case hbind => exact BindsTo.of_eq rfl
  case hloc => exact locs rfl
  case c5 => decide
  case c2 => exact rfl
  case c3 => exact rfl
  case c4 => exact rfl
  k_whole
  intro g L h₁ Bg F N out
  have KX := Bg.KX
  have T := Bg.T
  clear B
  have hid : l ≠ d := Nat.ne_of_lt hdl
  have hid' : d ≠ l := Ne.symm hid
  obtain ⟨vs⟩ := vs
  have hz : (vs.toArray).toList.length ≤ sizeLine := Nat.le_trans (Nat.le_of_eq (ints_len hi)) (Nat.le_trans (Nat.le_of_lt lv) (Nat.le_of_ble_eq_true rfl))
  cases hi with
  | nil =>
    (try dsimp only)
    (all_goals try k_fold)
    k_steps
    have Fz := ‹Fr g L _ _›
    have Nz := ‹News g L _ _›
    exact h _ _ _ (fun b o e q1 q2 => Fz.keep b o (out b o e (List.forall_mem_cons.mpr ⟨Ne.symm q1, List.forall_mem_cons.mpr ⟨Ne.symm q2, List.forall_mem_nil _⟩⟩)))
      ⟨⟨_, _, _, _, (Nz _ (.tail _ (.head _))).1, (Nz _ (.tail _ (.tail _ (.head _)))).1, .nil⟩⟩
  | @cons a b vs ns r =>
    (try dsimp only)
    (all_goals try k_fold)
    k_steps
    · have q : decide ((a :: ns : List Int) = []) = true := by assumption
      cases of_decide_eq_true q
    have Fz := ‹Fr g L _ _›
    have Nz := ‹News g L _ _›
    refine' kl_popAt Fz Nz ?f ?k ?e ?U ?z ?_
    case U => k_upd
    case f => rfl
    case k => show seqIndex? 0 _ = some 0; exact seqZ (by simp)
    case e => exact rfl
    case z => exact hz
    clear Fz Nz
    kl_rest
    k_steps
    have Fz := ‹Fr g L _ _›
    have Nz := ‹News g L _ _›
    exact h _ _ _ (fun b o e q1 q2 => Fz.keep b o (out b o e (List.forall_mem_cons.mpr ⟨Ne.symm q1, List.forall_mem_cons.mpr ⟨Ne.symm q2, List.forall_mem_nil _⟩⟩)))
      ⟨⟨_, _, _, _, (Nz _ (.tail _ (.head _))).1, (Nz _ (.tail _ (.tail _ (.head _)))).1, r⟩⟩
/-- a draw's two lists stand; what is in them does not matter -/
def Dr (h : Heap) (d l : Addr) : Prop := ∃ ns seed, DrawAt h d l ns seed ∧ ns.length < 1000
theorem takeV_lo (ns : List Int) (seed : Int) {many : Int} (hm : 0 < many) : 0 ≤ takeV ns seed many := by
  unfold takeV; split <;> exact Int.fmod_nonneg_of_pos _ hm
theorem takeV_hi (ns : List Int) (seed : Int) {many : Int} (hm : 0 < many) : takeV ns seed many < many := by
  unfold takeV; split <;> exact Int.fmod_lt_of_pos _ hm
theorem Dr.next {h : Heap} {d l : Addr} {ns : List Int} {seed : Int} (D : DrawAt h d l ns.tail seed) (lv : ns.length < 1000) : Dr h d l :=
  ⟨_, _, D, Nat.lt_of_le_of_lt (by rw [List.length_tail]; exact Nat.sub_le _ _) lv⟩
theorem take_N1 {w : World} {mg mb : Str → Option Value} {g : Heap} {L : Addr} {m : Str → Option Value} {news : List (Addr × Obj)} {e1 : Env} {s : Shared} {d l : Addr} {many : Int} {tm : Nat} {R : Value → Shared → Prop} {E : Value → Shared → Prop}
    (B : Base w mg mb g) (F : Fr g L s.heap m) (N : News g L s.heap news) (D : Dr s.heap d l) (hd0 : g.get? d = none) (hl0 : g.get? l = none) (hdL : d ≠ L) (hlL : l ≠ L) (hdl : l < d) (hm : 0 < many)
    (h : ∀ r t tk h', 0 ≤ r → r < many → Fr g L h' m → (∀ p ∈ news, p.1 ≠ d → p.1 ≠ l → h'.get? p.1 = some p.2 ∧ p.1 ≠ L ∧ g.get? p.1 = none) → Dr h' d l → R (.int r t) { s with heap := h', toks := tk }) :
    wpAny (model pw w) (callerA.deeper e1) (PySem.call (.ref 320) [.ref d, .int many tm]) R E s := by
  obtain ⟨ns, seed, D, lv⟩ := D
  refine take_ok (ts := 0) (n1 := 0) (n2 := 0) (vs := []) B F.keep D hd0 hl0 hdl hm lv rfl fun t tk h' k D' => ?_
  refine h _ _ _ _ (takeV_lo _ _ hm) (takeV_hi _ _ hm) ⟨F.ns.at' fun o e => k _ o e (Ne.symm hdL) (Ne.symm hlL), fun b o e => k b o (F.keep b o e) (fun q => ?_) (fun q => ?_), F.above⟩ (fun p hp h1 h2 => ⟨k _ _ (N p hp).1 h1 h2, (N p hp).2⟩) (Dr.next D' lv)
  · rw [q, hd0] at e; cases e
  · rw [q, hl0] at e; cases e
theorem take_N2 {w : World} {mg mb : Str → Option Value} {g : Heap} {L : Addr} {m : Str → Option Value} {news : List (Addr × Obj)} {e1 e2 : Env} {s : Shared} {d l : Addr} {many : Int} {tm : Nat} {R : Value → Shared → Prop} {E : Value → Shared → Prop}
    (B : Base w mg mb g) (F : Fr g L s.heap m) (N : News g L s.heap news) (D : Dr s.heap d l) (hd0 : g.get? d = none) (hl0 : g.get? l = none) (hdL : d ≠ L) (hlL : l ≠ L) (hdl : l < d) (hm : 0 < many)
    (h : ∀ r t tk h', 0 ≤ r → r < many → Fr g L h' m → (∀ p ∈ news, p.1 ≠ d → p.1 ≠ l → h'.get? p.1 = some p.2 ∧ p.1 ≠ L ∧ g.get? p.1 = none) → Dr h' d l → R (.int r t) { s with heap := h', toks := tk }) :
    wpAny (model pw w) ((callerA.deeper e1).deeper e2) (PySem.call (.ref 320) [.ref d, .int many tm]) R E s := by
  obtain ⟨ns, seed, D, lv⟩ := D
  refine take_ok2 (ts := 0) (n1 := 0) (n2 := 0) (vs := []) B F.keep D hd0 hl0 hdl hm lv rfl fun t tk h' k D' => ?_
  refine h _ _ _ _ (takeV_lo _ _ hm) (takeV_hi _ _ hm) ⟨F.ns.at' fun o e => k _ o e (Ne.symm hdL) (Ne.symm hlL), fun b o e => k b o (F.keep b o e) (fun q => ?_) (fun q => ?_), F.above⟩ (fun p hp h1 h2 => ⟨k _ _ (N p hp).1 h1 h2, (N p hp).2⟩) (Dr.next D' lv)
  · rw [q, hd0] at e; cases e
  · rw [q, hl0] at e; cases e
end Mine
end
section
open PySem PySem.W PySem.Calls PyProof.Rows
set_option maxRecDepth 100000
set_option maxHeartbeats 8000000
set_option linter.unusedVariables false
namespace Mine
def extC : List Nat := [768, 879, 65024, 65039, 127995, 127999, 8204, 917536, 917999]
def picC : List Nat := [169, 10084, 127987, 129340, 128722, 127462, 127487, 127994]
def othC : List Nat := [97, 20013, 880, 65040, 8203, 8206, 127461, 2325]
/-- a sign that is drawn for a kind -/
def SignOf (k : Str) (x : Str) : Prop := ∃ c, x = ⟨#[c]⟩ ∧ (k = Str.ofString "E" ∧ c ∈ extC ∨ k = Str.ofString "P" ∧ c ∈ picC ∨ k = Str.ofString "O" ∧ c ∈ othC ∨ k = Str.ofString "Z" ∧ c = 8205)
theorem sign_E {w : World} {mg mb : Str → Option Value} {h₀ : Heap} {e1 : Env} {s : Shared} {d l : Addr} {tk0 : Nat} {R : Value → Shared → Prop} {E : Value → Shared → Prop}
    (B : Base w mg mb h₀) (st : h₀.StaysIn s.heap) (D : Dr s.heap d l) (hd0 : h₀.get? d = none) (hl0 : h₀.get? l = none) (hdl : l < d) (row : PySem.Challenge.rw_ax6029_01 = PySem.Challenge.rw_ax6029_01)
    (h : ∀ x t tk h', (∀ b o, s.heap.get? b = some o → b ≠ d → b ≠ l → h'.get? b = some o) → Dr h' d l → SignOf (Str.ofString "E") x → R (.str x t) { s with heap := h', toks := tk }) :
    wpAny (model pw w) (callerA.deeper e1) (PySem.call (.ref 327) [.ref d, .str (Str.ofString "E") tk0]) R E s := by
  have hfill : PySem.Challenge.rw_ax6029_01 = PySem.Challenge.rw_ax6029_01 ∧ KFr = KFr := by k_fill; exact ⟨rfl, rfl⟩
  clear hfill row
  obtain ⟨ns, seed, ⟨ts, n1, n2, vs, hd, hl, hi⟩, lv⟩ := D
  refine callH_wp ?_
  refine' callH (binds := [(Str.ofString "draw", .ref d), (Str.ofString "kind", .str (Str.ofString "E") tk0)]) (news := [(d, listOf #[.ref l, .int seed ts] n1), (l, listOf vs n2)]) B st ?N ?ho ?hcd ?hroom ?hbind ?hloc ?_ ?c2 ?c3 ?c4 ?c5
  case N => intro p hp; rcases List.mem_cons.mp hp with rfl | hp; exact ⟨hd, hd0⟩; rcases List.mem_cons.mp hp with rfl | hp; exact ⟨hl, hl0⟩; cases hp
  ((case ho => k_is); (case hcd => k_is); (case hroom => k_room); (case hbind => exact BindsTo.of_eq rfl); (case hloc => exact locs rfl); (case c5 => decide); (case c2 => exact rfl); (case c3 => exact rfl); (case c4 => exact rfl); k_whole)
  intro g L h₁ Bg F N out
  have KX := Bg.KX
  have T := Bg.T
  clear B
  (try dsimp only)
  (repeat' ((fail_if_success (with_reducible refine at_while ?_)); (fail_if_success (with_reducible refine at_iter ?_)); (fail_if_success (with_reducible refine at_call ?_)); first | ((with_reducible refine at_execs ?_); refine tok_any ?_; intro tk; first | walk1 | (dsimp only; walk1)) | (k_unfold; (try dsimp only)) | (k_end; wrow_close) | walk1 | (dsimp only; walk1) | (leave1; walk_say "STEP leave1"; try dsimp only) | fail "no step"))
  have Nz := ‹News g L _ _›
  have nd := Nz _ (.head _)
  have nl := Nz _ (.tail _ (.head _))
  refine take_N2 Bg ‹Fr g L _ _› Nz ⟨ns, seed, ⟨ts, n1, n2, vs, nd.1, nl.1, hi⟩, lv⟩ nd.2.2 nl.2.2 nd.2.1 nl.2.1 hdl (by omega) ?_
  intro r t tk h' r0 r9 F2 N2 D2
  have N3 : News g L h' [] := News.nil
  k_sweep
  obtain rfl | rfl | rfl | rfl | rfl | rfl | rfl | rfl | rfl : r = 0 ∨ r = 1 ∨ r = 2 ∨ r = 3 ∨ r = 4 ∨ r = 5 ∨ r = 6 ∨ r = 7 ∨ r = 8 := by omega
  all_goals (
    (repeat' ((fail_if_success (with_reducible refine at_while ?_)); (fail_if_success (with_reducible refine at_iter ?_)); (fail_if_success (with_reducible refine at_call ?_)); first | ((with_reducible refine at_execs ?_); refine tok_any ?_; intro tk; first | walk1 | (dsimp only; walk1)) | (k_unfold; (try dsimp only)) | (k_end; wrow_close) | walk1 | (dsimp only; walk1) | (leave1; walk_say "STEP leave1"; try dsimp only) | fail "no step"))
    have Fz := ‹Fr g L _ _›
    exact h _ _ _ _ (fun b o e q1 q2 => Fz.keep b o (out b o e (List.forall_mem_cons.mpr ⟨Ne.symm q1, List.forall_mem_cons.mpr ⟨Ne.symm q2, List.forall_mem_nil _⟩⟩))) D2 ⟨_, rfl, .inl ⟨rfl, by decide⟩⟩)
theorem sign_P {w : World} {mg mb : Str → Option Value} {h₀ : Heap} {e1 : Env} {s : Shared} {d l : Addr} {tk0 : Nat} {R : Value → Shared → Prop} {E : Value → Shared → Prop}
    (B : Base w mg mb h₀) (st : h₀.StaysIn s.heap) (D : Dr s.heap d l) (hd0 : h₀.get? d = none) (hl0 : h₀.get? l = none) (hdl : l < d) (row : PySem.Challenge.rw_ax6029_01 = PySem.Challenge.rw_ax6029_01)
    (h : ∀ x t tk h', (∀ b o, s.heap.get? b = some o → b ≠ d → b ≠ l → h'.get? b = some o) → Dr h' d l → SignOf (Str.ofString "P") x → R (.str x t) { s with heap := h', toks := tk }) :
    wpAny (model pw w) (callerA.deeper e1) (PySem.call (.ref 327) [.ref d, .str (Str.ofString "P") tk0]) R E s := by
  have hfill : PySem.Challenge.rw_ax6029_01 = PySem.Challenge.rw_ax6029_01 ∧ KFr = KFr := by k_fill; exact ⟨rfl, rfl⟩
  clear hfill row
  obtain ⟨ns, seed, ⟨ts, n1, n2, vs, hd, hl, hi⟩, lv⟩ := D
  refine callH_wp ?_
  refine' callH (binds := [(Str.ofString "draw", .ref d), (Str.ofString "kind", .str (Str.ofString "P") tk0)]) (news := [(d, listOf #[.ref l, .int seed ts] n1), (l, listOf vs n2)]) B st ?N ?ho ?hcd ?hroom ?hbind ?hloc ?_ ?c2 ?c3 ?c4 ?c5
  case N => intro p hp; rcases List.mem_cons.mp hp with rfl | hp; exact ⟨hd, hd0⟩; rcases List.mem_cons.mp hp with rfl | hp; exact ⟨hl, hl0⟩; cases hp
  ((case ho => k_is); (case hcd => k_is); (case hroom => k_room); (case hbind => exact BindsTo.of_eq rfl); (case hloc => exact locs rfl); (case c5 => decide); (case c2 => exact rfl); (case c3 => exact rfl); (case c4 => exact rfl); k_whole)
  intro g L h₁ Bg F N out
  have KX := Bg.KX
  have T := Bg.T
  clear B
  (try dsimp only)
  (repeat' ((fail_if_success (with_reducible refine at_while ?_)); (fail_if_success (with_reducible refine at_iter ?_)); (fail_if_success (with_reducible refine at_call ?_)); first | ((with_reducible refine at_execs ?_); refine tok_any ?_; intro tk; first | walk1 | (dsimp only; walk1)) | (k_unfold; (try dsimp only)) | (k_end; wrow_close) | walk1 | (dsimp only; walk1) | (leave1; walk_say "STEP leave1"; try dsimp only) | fail "no step"))
  have Nz := ‹News g L _ _›
  have nd := Nz _ (.head _)
  have nl := Nz _ (.tail _ (.head _))
  refine take_N2 Bg ‹Fr g L _ _› Nz ⟨ns, seed, ⟨ts, n1, n2, vs, nd.1, nl.1, hi⟩, lv⟩ nd.2.2 nl.2.2 nd.2.1 nl.2.1 hdl (by omega) ?_
  intro r t tk h' r0 r9 F2 N2 D2
  have N3 : News g L h' [] := News.nil
  k_sweep
  obtain rfl | rfl | rfl | rfl | rfl | rfl | rfl | rfl : r = 0 ∨ r = 1 ∨ r = 2 ∨ r = 3 ∨ r = 4 ∨ r = 5 ∨ r = 6 ∨ r = 7 := by omega
  all_goals (
    (repeat' ((fail_if_success (with_reducible refine at_while ?_)); (fail_if_success (with_reducible refine at_iter ?_)); (fail_if_success (with_reducible refine at_call ?_)); first | ((with_reducible refine at_execs ?_); refine tok_any ?_; intro tk; first | walk1 | (dsimp only; walk1)) | (k_unfold; (try dsimp only)) | (k_end; wrow_close) | walk1 | (dsimp only; walk1) | (leave1; walk_say "STEP leave1"; try dsimp only) | fail "no step"))
    have Fz := ‹Fr g L _ _›
    exact h _ _ _ _ (fun b o e q1 q2 => Fz.keep b o (out b o e (List.forall_mem_cons.mpr ⟨Ne.symm q1, List.forall_mem_cons.mpr ⟨Ne.symm q2, List.forall_mem_nil _⟩⟩))) D2 ⟨_, rfl, .inr (.inl ⟨rfl, by decide⟩)⟩)
theorem sign_O {w : World} {mg mb : Str → Option Value} {h₀ : Heap} {e1 : Env} {s : Shared} {d l : Addr} {tk0 : Nat} {R : Value → Shared → Prop} {E : Value → Shared → Prop}
    (B : Base w mg mb h₀) (st : h₀.StaysIn s.heap) (D : Dr s.heap d l) (hd0 : h₀.get? d = none) (hl0 : h₀.get? l = none) (hdl : l < d) (row : PySem.Challenge.rw_ax6029_01 = PySem.Challenge.rw_ax6029_01)
    (h : ∀ x t tk h', (∀ b o, s.heap.get? b = some o → b ≠ d → b ≠ l → h'.get? b = some o) → Dr h' d l → SignOf (Str.ofString "O") x → R (.str x t) { s with heap := h', toks := tk }) :
    wpAny (model pw w) (callerA.deeper e1) (PySem.call (.ref 327) [.ref d, .str (Str.ofString "O") tk0]) R E s := by
  have hfill : PySem.Challenge.rw_ax6029_01 = PySem.Challenge.rw_ax6029_01 ∧ KFr = KFr := by k_fill; exact ⟨rfl, rfl⟩
  clear hfill row
  obtain ⟨ns, seed, ⟨ts, n1, n2, vs, hd, hl, hi⟩, lv⟩ := D
  refine callH_wp ?_
  refine' callH (binds := [(Str.ofString "draw", .ref d), (Str.ofString "kind", .str (Str.ofString "O") tk0)]) (news := [(d, listOf #[.ref l, .int seed ts] n1), (l, listOf vs n2)]) B st ?N ?ho ?hcd ?hroom ?hbind ?hloc ?_ ?c2 ?c3 ?c4 ?c5
  case N => intro p hp; rcases List.mem_cons.mp hp with rfl | hp; exact ⟨hd, hd0⟩; rcases List.mem_cons.mp hp with rfl | hp; exact ⟨hl, hl0⟩; cases hp
  ((case ho => k_is); (case hcd => k_is); (case hroom => k_room); (case hbind => exact BindsTo.of_eq rfl); (case hloc => exact locs rfl); (case c5 => decide); (case c2 => exact rfl); (case c3 => exact rfl); (case c4 => exact rfl); k_whole)
  intro g L h₁ Bg F N out
  have KX := Bg.KX
  have T := Bg.T
  clear B
  (try dsimp only)
  (repeat' ((fail_if_success (with_reducible refine at_while ?_)); (fail_if_success (with_reducible refine at_iter ?_)); (fail_if_success (with_reducible refine at_call ?_)); first | ((with_reducible refine at_execs ?_); refine tok_any ?_; intro tk; first | walk1 | (dsimp only; walk1)) | (k_unfold; (try dsimp only)) | (k_end; wrow_close) | walk1 | (dsimp only; walk1) | (leave1; walk_say "STEP leave1"; try dsimp only) | fail "no step"))
  have Nz := ‹News g L _ _›
  have nd := Nz _ (.head _)
  have nl := Nz _ (.tail _ (.head _))
  refine take_N2 Bg ‹Fr g L _ _› Nz ⟨ns, seed, ⟨ts, n1, n2, vs, nd.1, nl.1, hi⟩, lv⟩ nd.2.2 nl.2.2 nd.2.1 nl.2.1 hdl (by omega) ?_
  intro r t tk h' r0 r9 F2 N2 D2
  have N3 : News g L h' [] := News.nil
  k_sweep
  obtain rfl | rfl | rfl | rfl | rfl | rfl | rfl | rfl : r = 0 ∨ r = 1 ∨ r = 2 ∨ r = 3 ∨ r = 4 ∨ r = 5 ∨ r = 6 ∨ r = 7 := by omega
  all_goals (
    (repeat' ((fail_if_success (with_reducible refine at_while ?_)); (fail_if_success (with_reducible refine at_iter ?_)); (fail_if_success (with_reducible refine at_call ?_)); first | ((with_reducible refine at_execs ?_); refine tok_any ?_; intro tk; first | walk1 | (dsimp only; walk1)) | (k_unfold; (try dsimp only)) | (k_end; wrow_close) | walk1 | (dsimp only; walk1) | (leave1; walk_say "STEP leave1"; try dsimp only) | fail "no step"))
    have Fz := ‹Fr g L _ _›
    exact h _ _ _ _ (fun b o e q1 q2 => Fz.keep b o (out b o e (List.forall_mem_cons.mpr ⟨Ne.symm q1, List.forall_mem_cons.mpr ⟨Ne.symm q2, List.forall_mem_nil _⟩⟩))) D2 ⟨_, rfl, .inr (.inr (.inl ⟨rfl, by decide⟩))⟩)
theorem sign_Z {w : World} {mg mb : Str → Option Value} {h₀ : Heap} {e1 : Env} {s : Shared} {d l : Addr} {tk0 : Nat} {R : Value → Shared → Prop} {E : Value → Shared → Prop}
    (B : Base w mg mb h₀) (st : h₀.StaysIn s.heap) (D : Dr s.heap d l) (hd0 : h₀.get? d = none) (hl0 : h₀.get? l = none) (hdl : l < d) (row : PySem.Challenge.rw_ax6029_01 = PySem.Challenge.rw_ax6029_01)
    (h : ∀ x t tk h', (∀ b o, s.heap.get? b = some o → b ≠ d → b ≠ l → h'.get? b = some o) → Dr h' d l → SignOf (Str.ofString "Z") x → R (.str x t) { s with heap := h', toks := tk }) :
    wpAny (model pw w) (callerA.deeper e1) (PySem.call (.ref 327) [.ref d, .str (Str.ofString "Z") tk0]) R E s := by
  have hfill : PySem.Challenge.rw_ax6029_01 = PySem.Challenge.rw_ax6029_01 ∧ KFr = KFr := by k_fill; exact ⟨rfl, rfl⟩
  clear hfill row
  obtain ⟨ns, seed, ⟨ts, n1, n2, vs, hd, hl, hi⟩, lv⟩ := D
  refine callH_wp ?_
  refine' callH (binds := [(Str.ofString "draw", .ref d), (Str.ofString "kind", .str (Str.ofString "Z") tk0)]) (news := [(d, listOf #[.ref l, .int seed ts] n1), (l, listOf vs n2)]) B st ?N ?ho ?hcd ?hroom ?hbind ?hloc ?_ ?c2 ?c3 ?c4 ?c5
  case N => intro p hp; rcases List.mem_cons.mp hp with rfl | hp; exact ⟨hd, hd0⟩; rcases List.mem_cons.mp hp with rfl | hp; exact ⟨hl, hl0⟩; cases hp
  ((case ho => k_is); (case hcd => k_is); (case hroom => k_room); (case hbind => exact BindsTo.of_eq rfl); (case hloc => exact locs rfl); (case c5 => decide); (case c2 => exact rfl); (case c3 => exact rfl); (case c4 => exact rfl); k_whole)
  intro g L h₁ Bg F N out
  have KX := Bg.KX
  have T := Bg.T
  clear B
  (try dsimp only)
  (repeat' ((fail_if_success (with_reducible refine at_while ?_)); (fail_if_success (with_reducible refine at_iter ?_)); (fail_if_success (with_reducible refine at_call ?_)); first | ((with_reducible refine at_execs ?_); refine tok_any ?_; intro tk; first | walk1 | (dsimp only; walk1)) | (k_unfold; (try dsimp only)) | (k_end; wrow_close) | walk1 | (dsimp only; walk1) | (leave1; walk_say "STEP leave1"; try dsimp only) | fail "no step"))
  have Nz := ‹News g L _ _›
  have nd := Nz _ (.head _)
  have nl := Nz _ (.tail _ (.head _))
  have Fz := ‹Fr g L _ _›
  exact h _ _ _ _ (fun b o e q1 q2 => Fz.keep b o (out b o e (List.forall_mem_cons.mpr ⟨Ne.symm q1, List.forall_mem_cons.mpr ⟨Ne.symm q2, List.forall_mem_nil _⟩⟩))) ⟨ns, seed, ⟨ts, n1, n2, vs, nd.1, nl.1, hi⟩, lv⟩ ⟨_, rfl, .inr (.inr (.inr ⟨rfl, rfl⟩))⟩
end Mine

end
section
open PySem PySem.W PySem.Calls PyProof.Rows
set_option maxRecDepth 100000
set_option maxHeartbeats 8000000
set_option linter.unusedVariables false
namespace Mine
/-- the draw's two lists in the ledger, with the rest of it -/
structure DrL (h : Heap) (g : Heap) (L d l : Addr) (news : List (Addr × Obj)) : Prop where
  ex : ∃ seed ts n1 n2 vs ns, News g L h ((d, listOf #[.ref l, .int seed ts] n1) :: (l, listOf (vs : List Value).toArray n2) :: news) ∧ IntsAre vs ns ∧ ns.length < 1000
theorem DrL.of {g h : Heap} {L d l : Addr} {m : Str → Option Value} {news : List (Addr × Obj)} (F : Fr g L h m) (D : Dr h d l) (hd0 : g.get? d = none) (hl0 : g.get? l = none) (hdL : d ≠ L) (hlL : l ≠ L) (N : News g L h news) : DrL h g L d l news := by
  obtain ⟨ns, seed, ⟨ts, n1, n2, ⟨vs⟩, hd, hl, hi⟩, lv⟩ := D
  refine ⟨seed, ts, n1, n2, vs, ns, ?_, hi, lv⟩
  intro p hp
  rcases List.mem_cons.mp hp with rfl | hp
  · exact ⟨hd, hdL, hd0⟩
  rcases List.mem_cons.mp hp with rfl | hp
  · exact ⟨hl, hlL, hl0⟩
  exact N p hp
theorem Dr.ofNews {g h : Heap} {L d l : Addr} {news : List (Addr × Obj)} {seed : Int} {ts n1 n2 : Nat} {vs : List Value} {ns : List Int} (N : News g L h news) (h1 : (d, listOf #[.ref l, .int seed ts] n1) ∈ news) (h2 : (l, listOf vs.toArray n2) ∈ news) (hi : IntsAre vs ns) (lv : ns.length < 1000) : Dr h d l :=
  ⟨ns, seed, ⟨ts, n1, n2, vs.toArray, (N _ h1).1, (N _ h2).1, hi⟩, lv⟩
theorem news_mid {g h : Heap} {L : Addr} {a b : Addr × Obj} {pre own : List (Addr × Obj)} (N : News g L h (a :: b :: (pre ++ own))) : News g L h (pre ++ [a, b] ++ own) := fun p hp => N p (by
  rcases List.mem_append.mp hp with hp | hp
  · rcases List.mem_append.mp hp with hp | hp
    · exact .tail _ (.tail _ (List.mem_append_left _ hp))
    · rcases List.mem_cons.mp hp with rfl | hp
      · exact .head _
      · rcases List.mem_cons.mp hp with rfl | hp
        · exact .tail _ (.head _)
        · cases hp
  · exact .tail _ (.tail _ (List.mem_append_right _ hp)))
/-- a take, the rest of the ledger as it stood -/
theorem take_L {w : World} {mg mb : Str → Option Value} {g : Heap} {L : Addr} {m : Str → Option Value} {news pre own : List (Addr × Obj)} {e1 : Env} {s : Shared} {d l : Addr} {many : Int} {tm : Nat} {seed : Int} {ts n1 n2 : Nat} {vs : List Value} {ns : List Int} {R : Value → Shared → Prop} {E : Value → Shared → Prop}
    (B : Base w mg mb g) (F : Fr g L s.heap m) (N : News g L s.heap news) (h1 : (d, listOf #[.ref l, .int seed ts] n1) ∈ news) (h2 : (l, listOf vs.toArray n2) ∈ news) (hi : IntsAre vs ns) (lv : ns.length < 1000) (hdl : l < d) (hm : 0 < many)
    (hr : ∀ p ∈ pre ++ own, p ∈ news ∧ p.1 ≠ d ∧ p.1 ≠ l)
    (h : ∀ r t tk h' seed' ts' n1' n2' vs' ns', 0 ≤ r → r < many → Fr g L h' m → News g L h' (pre ++ [(d, listOf #[.ref l, .int seed' ts'] n1'), (l, listOf vs'.toArray n2')] ++ own) → IntsAre vs' ns' → ns'.length < 1000 → R (.int r t) { s with heap := h', toks := tk }) :
    wpAny (model pw w) (callerA.deeper e1) (PySem.call (.ref 320) [.ref d, .int many tm]) R E s := by
  have Nd := N _ h1
  have Nl := N _ h2
  refine take_N1 B F N (Dr.ofNews N h1 h2 hi lv) Nd.2.2 Nl.2.2 Nd.2.1 Nl.2.1 hdl hm ?_
  intro r t tk h' r0 r1 F' N' D'
  have N9 : News g L h' (pre ++ own) := fun p hp => N' p (hr p hp).1 (hr p hp).2.1 (hr p hp).2.2
  obtain ⟨seed', ts', n1', n2', vs', ns', M, hi', lv'⟩ := DrL.of F' D' Nd.2.2 Nl.2.2 Nd.2.1 Nl.2.1 N9
  exact h r t tk h' seed' ts' n1' n2' vs' ns' r0 r1 F' (news_mid M) hi' lv'
def Kind4 (k : Str) : Prop := k = Str.ofString "E" ∨ k = Str.ofString "P" ∨ k = Str.ofString "O" ∨ k = Str.ofString "Z"
theorem sign_any {w : World} {mg mb : Str → Option Value} {h₀ : Heap} {e1 : Env} {s : Shared} {d l : Addr} {k : Str} {tk0 : Nat} {R : Value → Shared → Prop} {E : Value → Shared → Prop}
    (hk : Kind4 k) (B : Base w mg mb h₀) (st : h₀.StaysIn s.heap) (D : Dr s.heap d l) (hd0 : h₀.get? d = none) (hl0 : h₀.get? l = none) (hdl : l < d)
    (h : ∀ x t tk h', (∀ b o, s.heap.get? b = some o → b ≠ d → b ≠ l → h'.get? b = some o) → Dr h' d l → SignOf k x → R (.str x t) { s with heap := h', toks := tk }) :
    wpAny (model pw w) (callerA.deeper e1) (PySem.call (.ref 327) [.ref d, .str k tk0]) R E s := by
  rcases hk with rfl | rfl | rfl | rfl
  · exact sign_E B st D hd0 hl0 hdl rfl h
  · exact sign_P B st D hd0 hl0 hdl rfl h
  · exact sign_O B st D hd0 hl0 hdl rfl h
  · exact sign_Z B st D hd0 hl0 hdl rfl h
theorem sign_L {w : World} {mg mb : Str → Option Value} {g : Heap} {L : Addr} {m : Str → Option Value} {news pre own : List (Addr × Obj)} {e1 : Env} {s : Shared} {d l : Addr} {k : Str} {tm : Nat} {seed : Int} {ts n1 n2 : Nat} {vs : List Value} {ns : List Int} {R : Value → Shared → Prop} {E : Value → Shared → Prop}
    (hk : Kind4 k) (B : Base w mg mb g) (F : Fr g L s.heap m) (N : News g L s.heap news) (h1 : (d, listOf #[.ref l, .int seed ts] n1) ∈ news) (h2 : (l, listOf vs.toArray n2) ∈ news) (hi : IntsAre vs ns) (lv : ns.length < 1000) (hdl : l < d)
    (hr : ∀ p ∈ pre ++ own, p ∈ news ∧ p.1 ≠ d ∧ p.1 ≠ l)
    (h : ∀ x t tk h' seed' ts' n1' n2' vs' ns', SignOf k x → Fr g L h' m → News g L h' (pre ++ [(d, listOf #[.ref l, .int seed' ts'] n1'), (l, listOf vs'.toArray n2')] ++ own) → IntsAre vs' ns' → ns'.length < 1000 → R (.str x t) { s with heap := h', toks := tk }) :
    wpAny (model pw w) (callerA.deeper e1) (PySem.call (.ref 327) [.ref d, .str k tm]) R E s := by
  have Nd := N _ h1
  have Nl := N _ h2
  refine sign_any hk B F.keep (Dr.ofNews N h1 h2 hi lv) Nd.2.2 Nl.2.2 hdl ?_
  intro x t tk h' k' D' hs
  have F' : Fr g L h' m := ⟨F.ns.at' fun o e => k' _ o e (Ne.symm Nd.2.1) (Ne.symm Nl.2.1), fun b o e => k' b o (F.keep b o e) (fun q => by rw [q, Nd.2.2] at e; cases e) (fun q => by rw [q, Nl.2.2] at e; cases e), F.above⟩
  have N9 : News g L h' (pre ++ own) := fun p hp => ⟨k' _ _ (N p (hr p hp).1).1 (hr p hp).2.1 (hr p hp).2.2, (N p (hr p hp).1).2⟩
  obtain ⟨seed', ts', n1', n2', vs', ns', M, hi', lv'⟩ := DrL.of F' D' Nd.2.2 Nl.2.2 Nd.2.1 Nl.2.1 N9
  exact h x t tk h' seed' ts' n1' n2' vs' ns' hs F' (news_mid M) hi' lv'
theorem KS.snoc : ∀ {vs : List Value} {ks : List Str} (k : Str) (t : Tok), KS vs ks → KS (vs ++ [.str k t]) (ks ++ [k])
  | _, _, k, t, .nil => .cons k t .nil
  | _, _, k, t, .cons a b r => .cons a b (r.snoc k t)
theorem KS.strs : ∀ {vs : List Value} {ks : List Str}, KS vs ks → StrsAre vs ks
  | _, _, .nil => .nil
  | _, _, .cons a b r => .cons a b r.strs
end Mine
namespace Mine
/-- what the first loop has made -/
structure LS where
  kv : List Value
  ks : List Str
  kn : Nat
  sv : List Value
  xs : List Str
  sn : Nat
  seed : Int
  ts : Nat
  n1 : Nat
  n2 : Nat
  dv : List Value
  dns : List Int
def ledS (sA kA d l : Addr) (c : LS) : List (Addr × Obj) := [(sA, listOf c.sv.toArray c.sn), (kA, listOf c.kv.toArray c.kn), (d, listOf #[.ref l, .int c.seed c.ts] c.n1), (l, listOf c.dv.toArray c.n2)]
inductive Signs : List Str → List Str → Prop
  | nil : Signs [] []
  | cons {k x ks xs} : SignOf k x → Signs ks xs → Signs (k :: ks) (x :: xs)
theorem Signs.snoc : ∀ {ks xs : List Str} {k x : Str}, SignOf k x → Signs ks xs → Signs (ks ++ [k]) (xs ++ [x])
  | _, _, _, _, h, .nil => .cons h .nil
  | _, _, _, _, h, .cons a r => .cons a (r.snoc h)
theorem Signs.len : ∀ {ks xs : List Str}, Signs ks xs → xs.length = ks.length
  | _, _, .nil => rfl
  | _, _, .cons _ r => congrArg (· + 1) r.len
structure FactsS (c : LS) : Prop where
  hk : KS c.kv c.ks
  hx : KS c.sv c.xs
  hs : Signs c.ks c.xs
  hi : IntsAre c.dv c.dns
  lv : c.dns.length < 1000
end Mine
namespace Mine
structure Apart (sA kA d l : Addr) (own : List (Addr × Obj)) : Prop where
  ld : l < d
  dk : d < kA
  ks : kA < sA
  off : ∀ p ∈ own, p.1 ≠ sA ∧ p.1 ≠ kA ∧ p.1 ≠ d ∧ p.1 ≠ l
theorem Apart.rest {sA kA d l : Addr} {own : List (Addr × Obj)} (a : Apart sA kA d l own) {p q r t : Obj} : ∀ x ∈ [(sA, p), (kA, q)] ++ own, x ∈ [(sA, p), (kA, q), (d, r), (l, t)] ++ own ∧ x.1 ≠ d ∧ x.1 ≠ l := by
  have ld := a.ld
  have dk := a.dk
  have ks := a.ks
  intro x hx
  rcases List.mem_append.mp hx with hx | hx
  · rcases List.mem_cons.mp hx with rfl | hx
    · exact ⟨.head _, Nat.ne_of_gt (Nat.lt_trans dk ks), Nat.ne_of_gt (Nat.lt_trans ld (Nat.lt_trans dk ks))⟩
    · rcases List.mem_cons.mp hx with rfl | hx
      · exact ⟨.tail _ (.head _), Nat.ne_of_gt dk, Nat.ne_of_gt (Nat.lt_trans ld dk)⟩
      · cases hx
  · exact ⟨List.mem_append_right _ hx, (a.off x hx).2.2.1, (a.off x hx).2.2.2⟩
theorem Apart.updK {sA kA d l : Addr} {own : List (Addr × Obj)} (a : Apart sA kA d l own) {p q q' r t : Obj} : Upd kA q q' ([(sA, p), (kA, q), (d, r), (l, t)] ++ own) ([(sA, p), (kA, q'), (d, r), (l, t)] ++ own) := by
  refine .tail (Nat.ne_of_gt a.ks) (.head ?_)
  intro x hx
  rcases List.mem_cons.mp hx with rfl | hx
  · exact Nat.ne_of_lt a.dk
  · rcases List.mem_cons.mp hx with rfl | hx
    · exact Nat.ne_of_lt (Nat.lt_trans a.ld a.dk)
    · exact (a.off x hx).2.1
theorem Apart.updS {sA kA d l : Addr} {own : List (Addr × Obj)} (a : Apart sA kA d l own) {p p' q r t : Obj} : Upd sA p p' ([(sA, p), (kA, q), (d, r), (l, t)] ++ own) ([(sA, p'), (kA, q), (d, r), (l, t)] ++ own) := by
  refine .head ?_
  intro x hx
  rcases List.mem_cons.mp hx with rfl | hx
  · exact Nat.ne_of_lt a.ks
  rcases List.mem_cons.mp hx with rfl | hx
  · exact Nat.ne_of_lt (Nat.lt_trans a.dk a.ks)
  · rcases List.mem_cons.mp hx with rfl | hx
    · exact Nat.ne_of_lt (Nat.lt_trans (Nat.lt_trans a.ld a.dk) a.ks)
    · exact (a.off x hx).1
theorem app_k {prog : Program} {w : World} {A : Around} {E : Value → Shared → Prop} {s : Shared} {g : Heap} {L : Addr} {m : Str → Option Value} {sA kA d l : Addr} {own : List (Addr × Obj)} {a b c : Obj} {kv : List Value} {kn : Nat} {x : Value} {Q : Value → Shared → Prop}
    (ap : Apart sA kA d l own) (F : Fr g L s.heap m) (N : News g L s.heap ([(sA, a), (kA, listOf kv.toArray kn), (d, b), (l, c)] ++ own)) (hz : kv.length < 1000)
    (h : ∀ h', Fr g L h' m → News g L h' ([(sA, a), (kA, listOf (kv ++ [x]).toArray (kn + 1)), (d, b), (l, c)] ++ own) → Q .none { s with heap := h' }) : wpAny (model prog w) A (PySem.call (.builtin "list.append") [.ref kA, x]) Q E s := by
  refine append_K F N ap.updK (fun h' F' N' => h h' F' (by rw [← List.push_toArray]; exact N')) (by rw [List.size_toArray]; exact Nat.le_trans (Nat.le_of_lt hz) (Nat.le_of_ble_eq_true rfl))
theorem app_s {prog : Program} {w : World} {A : Around} {E : Value → Shared → Prop} {s : Shared} {g : Heap} {L : Addr} {m : Str → Option Value} {sA kA d l : Addr} {own : List (Addr × Obj)} {a b c : Obj} {sv : List Value} {sn : Nat} {x : Value} {Q : Value → Shared → Prop}
    (ap : Apart sA kA d l own) (F : Fr g L s.heap m) (N : News g L s.heap ([(sA, listOf sv.toArray sn), (kA, a), (d, b), (l, c)] ++ own)) (hz : sv.length < 1000)
    (h : ∀ h', Fr g L h' m → News g L h' ([(sA, listOf (sv ++ [x]).toArray (sn + 1)), (kA, a), (d, b), (l, c)] ++ own) → Q .none { s with heap := h' }) : wpAny (model prog w) A (PySem.call (.builtin "list.append") [.ref sA, x]) Q E s := by
  refine append_K F N ap.updS (fun h' F' N' => h h' F' (by rw [← List.push_toArray]; exact N')) (by rw [List.size_toArray]; exact Nat.le_trans (Nat.le_of_lt hz) (Nat.le_of_ble_eq_true rfl))
theorem kind_item {r : Int} (h0 : 0 ≤ r) (h7 : r < 7) : Kind4 (Txt.item (Str.ofString "EZPZPEO") r) := by
  obtain rfl | rfl | rfl | rfl | rfl | rfl | rfl : r = 0 ∨ r = 1 ∨ r = 2 ∨ r = 3 ∨ r = 4 ∨ r = 5 ∨ r = 6 := by omega
  all_goals first | exact .inl (by decide +kernel) | exact .inr (.inl (by decide +kernel)) | exact .inr (.inr (.inl (by decide +kernel))) | exact .inr (.inr (.inr (by decide +kernel)))
end Mine
end
section
open PySem PySem.W PySem.Calls PyProof.Rows
set_option maxRecDepth 100000
set_option maxHeartbeats 1000000
set_option linter.unusedVariables false
namespace Mine
def sE : Str := Str.ofString "E"
def sP : Str := Str.ofString "P"
def sO : Str := Str.ofString "O"
def sZ : Str := Str.ofString "Z"
/-- the length of the longest reading that runs -/
noncomputable def run : Bool → List Str → Nat
  | _, [] => 0
  | true, k :: r => if k = sP then run false r + 1 else 0
  | false, k :: r => if k = sE then run false r + 1 else if k = sZ then run true r + 1 else 0
theorem run_le : ∀ (j : Bool) (w : List Str), run j w ≤ w.length
  | j, [] => by cases j <;> exact Nat.le_refl _
  | true, k :: r => by
    unfold run; split
    · exact Nat.succ_le_succ (run_le _ r)
    · exact Nat.zero_le _
  | false, k :: r => by
    unfold run; split
    · exact Nat.succ_le_succ (run_le _ r)
    · split
      · exact Nat.succ_le_succ (run_le _ r)
      · exact Nat.zero_le _
theorem neEZ : sE ≠ sZ := by decide +kernel
theorem nePZ : sP ≠ sZ := by decide +kernel
theorem neZE : sZ ≠ sE := by decide +kernel
theorem any_EZ (k : Str) : ([Str.ofString "E", Str.ofString "Z"].any fun x => x == k) = true ↔ k = sE ∨ k = sZ := by
  simp only [List.any_cons, List.any_nil, Bool.or_false, Bool.or_eq_true, beq_iff_eq]
  exact ⟨fun h => h.elim (fun e => .inl e.symm) (fun e => .inr e.symm), fun h => h.elim (fun e => .inl e.symm) (fun e => .inr e.symm)⟩
theorem fits_run : ∀ (j : Bool) (w : List Str) (p : Nat), p ≤ w.length → (fitsL j (w.take p) = true ↔ p ≤ run j w)
  | j, w, 0, _ => by
    rw [List.take_zero]
    exact ⟨fun _ => Nat.zero_le _, fun _ => by unfold fitsL; cases j <;> rfl⟩
  | j, [], p + 1, h => absurd h (Nat.not_succ_le_zero _)
  | true, k :: r, p + 1, h => by
    have hp := Nat.le_of_succ_le_succ h
    rw [List.take_succ_cons]
    unfold fitsL run
    rw [if_pos rfl]
    by_cases e : k = sP
    · have e1 : (k != Str.ofString "P") = false := by rw [e]; decide +kernel
      have e2 : (k == Str.ofString "Z") = false := by rw [e]; decide +kernel
      rw [e1, e2, if_neg Bool.false_ne_true, if_pos e, fits_run false r p hp]
      omega
    · have e1 : (k != Str.ofString "P") = true := bne_iff_ne.mpr e
      rw [e1, if_pos rfl, if_neg e]
      exact ⟨fun q => (Bool.false_ne_true q).elim, fun q => absurd q (Nat.not_succ_le_zero _)⟩
  | false, k :: r, p + 1, h => by
    have hp := Nat.le_of_succ_le_succ h
    rw [List.take_succ_cons]
    unfold fitsL run
    rw [if_neg Bool.false_ne_true]
    by_cases e : k = sE
    · have e2 : (k == Str.ofString "Z") = false := by rw [e]; decide +kernel
      rw [if_pos ((any_EZ k).mpr (.inl e)), e2, if_pos e, fits_run false r p hp]
      omega
    · by_cases e3 : k = sZ
      · have e2 : (k == Str.ofString "Z") = true := by rw [e3]; decide +kernel
        rw [if_pos ((any_EZ k).mpr (.inr e3)), e2, if_neg e, if_pos e3, fits_run true r p hp]
        omega
      · rw [if_neg (fun q => ((any_EZ k).mp q).elim e e3), if_neg e, if_neg e3]
        exact ⟨fun q => (Bool.false_ne_true q).elim, fun q => absurd q (Nat.not_succ_le_zero _)⟩
theorem cut_take (ks : List Str) (i j b : Int) (h1 : j ≤ b) : cutL ks i j = (cutL ks i b).take (j.toNat - i.toNat) := by
  unfold cutL
  rw [List.take_take, Nat.min_eq_left (by omega)]
theorem cut_len (ks : List Str) (i b : Int) (hb : b ≤ ks.length) : (cutL ks i b).length = b.toNat - i.toNat := by
  unfold cutL
  rw [List.length_take, List.length_drop]
  omega
theorem cut_nil (ks : List Str) (i b : Int) (h : b ≤ i) : cutL ks i b = [] := by
  unfold cutL
  rw [Nat.sub_eq_zero_of_le (by omega), List.take_zero]
theorem cut_cons (ks : List Str) (i b : Int) (h0 : 0 ≤ i) (h : i < b) (hb : b ≤ ks.length) : ∃ k, ks[i.toNat]? = some k ∧ cutL ks i b = k :: cutL ks (i + 1) b := by
  have hi : i.toNat < ks.length := by omega
  refine ⟨ks[i.toNat], List.getElem?_eq_getElem hi, ?_⟩
  unfold cutL
  rw [List.drop_eq_getElem_cons hi, show b.toNat - i.toNat = (b.toNat - (i + 1).toNat) + 1 by omega, List.take_succ_cons, show i.toNat + 1 = (i + 1).toNat by omega]
/-- what _law_reach gives is the longest run -/
theorem reach_run {ks : List Str} {f b r : Int} (hf : 0 ≤ f) (hfb : f < b) (hb : b ≤ ks.length) (h : Reach ks f b r) : r = f + 1 + run false (cutL ks (f + 1) b) := by
  have hl := cut_len ks (f + 1) b hb
  have hr := run_le false (cutL ks (f + 1) b)
  have key : ∀ last : Int, f + 1 ≤ last → last ≤ b → (fitsL false (cutL ks (f + 1) last) = true ↔ last - (f + 1) ≤ run false (cutL ks (f + 1) b)) := by
    intro last h1 h2
    rw [cut_take ks (f + 1) last b h2, fits_run _ _ _ (by omega)]
    omega
  have lo := h.lo
  have hi := h.hi
  have up : r - (f + 1) ≤ run false (cutL ks (f + 1) b) := by
    rcases h.fit with e | e
    · omega
    · exact (key r lo hi).mp e
  by_cases q : r = f + 1 + run false (cutL ks (f + 1) b)
  · exact q
  · have := h.no (r + 1) (by omega) (by omega)
    rw [(key (r + 1) (by omega) (by omega)).mpr (by omega)] at this
    exact (Bool.noConfusion this)
/-- the text's signs are of the kinds -/
structure Matches (x : Str) (ks : List Str) : Prop where
  all : ∀ (i : Nat) (k : Str), ks[i]? = some k → (inE (cd x i) = true ↔ k = sE) ∧ (cd x i = 8205 ↔ k = sZ) ∧ (inS (cd x i) = true ↔ k = sP)
theorem Matches.at {x : Str} {ks : List Str} (M : Matches x ks) {i : Int} {k : Str} (h0 : 0 ≤ i) (h : ks[i.toNat]? = some k) : (inE (cd x i) = true ↔ k = sE) ∧ (cd x i = 8205 ↔ k = sZ) ∧ (inS (cd x i) = true ↔ k = sP) := by
  have := M.all _ _ h
  rwa [Int.toNat_of_nonneg h0] at this
theorem eend_run {x : Str} {ks : List Str} {b i e : Int} (M : Matches x ks) (hb : b ≤ ks.length) (h0 : 0 ≤ i) (h : EEnd x b i e) : i ≤ e ∧ ¬ (e < b ∧ inE (cd x e) = true) ∧ i + run false (cutL ks i b) = e + run false (cutL ks e b) := by
  induction h with
  | stop h => exact ⟨Int.le_refl _, h, rfl⟩
  | @go i r h1 h2 h3 ih =>
    obtain ⟨a, c, d⟩ := ih (by omega)
    obtain ⟨k, hk, hc⟩ := cut_cons ks i b h0 h1 hb
    refine ⟨by omega, c, ?_⟩
    rw [← d, hc]
    have e : k = sE := (M.at h0 hk).1.mp h2
    show i + ((if k = sE then run false (cutL ks (i + 1) b) + 1 else _ : Nat) : Int) = _
    rw [if_pos e]
    omega
theorem zend_run {x : Str} {ks : List Str} {b i e : Int} (M : Matches x ks) (hb : b ≤ ks.length) (h0 : 0 ≤ i) (hn : ¬ (i < b ∧ inE (cd x i) = true)) (h : ZEnd x b i e) : e = i + run false (cutL ks i b) := by
  induction h with
  | stop h =>
    rw [cut_nil _ _ _ (by omega)]
    exact (Int.add_zero _).symm
  | @brk i h1 h2 =>
    obtain ⟨k, hk, hc⟩ := cut_cons ks i b h0 h1 hb
    rw [hc]
    show i = i + ((if k = sE then _ else if k = sZ then _ else 0 : Nat) : Int)
    rw [if_neg fun e => hn ⟨h1, (M.at h0 hk).1.mpr e⟩, if_neg fun e => h2 ((M.at h0 hk).2.1.mpr e)]
    exact (Int.add_zero _).symm
  | @last i h1 h2 h3 =>
    obtain ⟨k, hk, hc⟩ := cut_cons ks i b h0 h1 hb
    rw [hc]
    have ek : k = sZ := (M.at h0 hk).2.1.mp h2
    show i + 1 = i + ((if k = sE then _ else if k = sZ then run true (cutL ks (i + 1) b) + 1 else 0 : Nat) : Int)
    rw [if_neg (by rw [ek]; exact neZE), if_pos ek]
    have e0 : run true (cutL ks (i + 1) b) = 0 := by
      by_cases q : i + 1 < b
      · obtain ⟨k', hk', hc'⟩ := cut_cons ks (i + 1) b (by omega) q hb
        rw [hc']
        show (if k' = sP then _ else 0) = 0
        rw [if_neg fun e => h3 ⟨q, (M.at (by omega) hk').2.2.mpr e⟩]
      · rw [cut_nil _ _ _ (by omega)]; rfl
    rw [e0]; omega
  | @go i j r h1 h2 h3 h4 h5 h6 ih =>
    obtain ⟨k, hk, hc⟩ := cut_cons ks i b h0 h1 hb
    obtain ⟨k', hk', hc'⟩ := cut_cons ks (i + 1) b (by omega) h3 hb
    obtain ⟨a, c, d⟩ := eend_run M hb (by omega) h5
    rw [ih (by omega) c, ← d, hc]
    have ek : k = sZ := (M.at h0 hk).2.1.mp h2
    have ek' : k' = sP := (M.at (by omega) hk').2.2.mp h4
    show _ = i + ((if k = sE then _ else if k = sZ then run true (cutL ks (i + 1) b) + 1 else 0 : Nat) : Int)
    rw [if_neg (by rw [ek]; exact neZE), if_pos ek, hc']
    show _ = i + (((if k' = sP then run false (cutL ks (i + 1 + 1) b) + 1 else 0) + 1 : Nat) : Int)
    rw [if_pos ek', show i + 1 + 1 = i + 2 by omega]
    omega
/-- THE PLAIN LAW: what the scan gives is what the reading gives -/
theorem scan_reach {x : Str} {ks : List Str} {f b i j r : Int} (M : Matches x ks) (hf : 0 ≤ f) (hfb : f < b) (hb : b ≤ ks.length) (h1 : EEnd x b (f + 1) i) (h2 : ZEnd x b i j) (h3 : Reach ks f b r) : j = r := by
  obtain ⟨a, c, d⟩ := eend_run M hb (by omega) h1
  rw [zend_run M hb (by omega) c h2, ← d, ← reach_run hf hfb hb h3]
/-- and by itself -/
theorem scan_run {x : Str} {ks : List Str} {f b i j : Int} (M : Matches x ks) (hf : 0 ≤ f) (hb : b ≤ ks.length) (h1 : EEnd x b (f + 1) i) (h2 : ZEnd x b i j) : j = f + 1 + run false (cutL ks (f + 1) b) := by
  obtain ⟨a, c, d⟩ := eend_run M hb (by omega) h1
  rw [zend_run M hb (by omega) c h2, ← d]
end Mine
end
section
open PySem PySem.W PySem.Calls PyProof.Rows
set_option maxRecDepth 100000
set_option maxHeartbeats 1000000
set_option linter.unusedVariables false
namespace Mine
noncomputable def okCode (k : Str) (c : Nat) : Bool := (inE (c : Int) == (k == sE)) && (decide ((c : Int) = 8205) == (k == sZ)) && (inS (c : Int) == (k == sP))
inductive OkAll : List Str → List Nat → Prop
  | nil : OkAll [] []
  | cons {k c ks cs} : okCode k c = true → OkAll ks cs → OkAll (k :: ks) (c :: cs)
theorem OkAll.len : ∀ {ks : List Str} {cs : List Nat}, OkAll ks cs → cs.length = ks.length
  | _, _, .nil => rfl
  | _, _, .cons _ r => congrArg (· + 1) r.len
theorem OkAll.app : ∀ {a c : List Str} {b d : List Nat}, OkAll a b → OkAll c d → OkAll (a ++ c) (b ++ d)
  | _, _, _, _, .nil, h => h
  | _, _, _, _, .cons e r, h => .cons e (r.app h)
theorem OkAll.rep {a : List Str} {b : List Nat} (h : OkAll a b) : ∀ n : Nat, OkAll (List.replicate n a).flatten (List.replicate n b).flatten
  | 0 => .nil
  | n + 1 => by rw [List.replicate_succ, List.replicate_succ, List.flatten_cons, List.flatten_cons]; exact h.app (h.rep n)
theorem OkAll.get : ∀ {ks : List Str} {cs : List Nat} {i : Nat} {k : Str}, OkAll ks cs → ks[i]? = some k → ∃ c, cs[i]? = some c ∧ okCode k c = true
  | _, _, _, _, .nil, h => by simp at h
  | _, _, 0, _, .cons e r, h => by simp at h; subst h; exact ⟨_, rfl, e⟩
  | _, _, i + 1, _, .cons e r, h => by simp at h; obtain ⟨c, h1, h2⟩ := r.get h; exact ⟨c, by simpa using h1, h2⟩
theorem cd_at (x : Str) (i : Nat) (c : Nat) (h : x.cps.toList[i]? = some c) : cd x i = c := by
  have hi : i < x.cps.size := by
    have := (List.getElem?_eq_some_iff.mp h).1
    rwa [Array.length_toList] at this
  rw [Array.getElem?_toList] at h
  have e : seqIndex? (i : Int) x.length = some i := by
    have h0 : ¬ ((i : Int) < 0) := by omega
    unfold seqIndex?
    simp [Str.length, hi, h0]
  show ((((Txt.item x i).cps.getD 0 0 : Nat)) : Int) = c
  have e2 : Txt.charAt x i = some c := by
    unfold Txt.charAt
    rw [e]
    exact h
  have e3 : (Txt.item x i).cps = #[c] := by
    unfold Txt.item
    rw [e2]; rfl
  rw [e3]; rfl
theorem matches_of {x : Str} {ks : List Str} (h : OkAll ks x.cps.toList) : Matches x ks := ⟨fun i k hk => by
  obtain ⟨c, h1, h2⟩ := h.get hk
  rw [cd_at x i c h1]
  simp only [okCode, Bool.and_eq_true, beq_iff_eq] at h2
  obtain ⟨⟨a, b⟩, d⟩ := h2
  refine ⟨?_, ?_, ?_⟩
  · rw [a]; exact beq_iff_eq
  · rw [← beq_iff_eq (a := k), ← b, decide_eq_true_eq]
  · rw [d]; exact beq_iff_eq⟩
theorem codes_E : (extC.all fun c => okCode (Str.ofString "E") c) = true := by decide +kernel
theorem codes_P : (picC.all fun c => okCode (Str.ofString "P") c) = true := by decide +kernel
theorem codes_O : (othC.all fun c => okCode (Str.ofString "O") c) = true := by decide +kernel
theorem codes_Z : okCode (Str.ofString "Z") 8205 = true := by decide +kernel
theorem sign_code {k x : Str} (h : SignOf k x) : ∃ c, x = ⟨#[c]⟩ ∧ okCode k c = true := by
  obtain ⟨c, rfl, h⟩ := h
  refine ⟨c, rfl, ?_⟩
  rcases h with ⟨rfl, h⟩ | ⟨rfl, h⟩ | ⟨rfl, h⟩ | ⟨rfl, rfl⟩
  · exact List.all_eq_true.mp codes_E c h
  · exact List.all_eq_true.mp codes_P c h
  · exact List.all_eq_true.mp codes_O c h
  · exact codes_Z
theorem signs_codes : ∀ {ks xs : List Str}, Signs ks xs → OkAll ks (xs.flatMap (·.cps.toList))
  | _, _, .nil => .nil
  | _, _, .cons h r => by
    obtain ⟨c, rfl, hc⟩ := sign_code h
    exact .cons hc (signs_codes r)
theorem foldl_codes (g : Str) (hg : g.cps = #[]) : ∀ (xs : List Str) (acc : Array Nat), (xs.foldl (fun acc p => acc ++ g.cps ++ p.cps) acc).toList = acc.toList ++ xs.flatMap (·.cps.toList)
  | [], acc => by simp
  | x :: xs, acc => by
    rw [List.foldl_cons, foldl_codes g hg xs, hg]
    simp
theorem join_codes (g : Str) (hg : g.cps = #[]) : ∀ xs : List Str, (Txt.join g xs).cps.toList = xs.flatMap (·.cps.toList)
  | [] => rfl
  | x :: xs => by
    show (xs.foldl (fun acc p => acc ++ g.cps ++ p.cps) x.cps).toList = _
    rw [foldl_codes g hg xs, List.flatMap_cons]
theorem empty_cps : (Str.ofString "").cps = #[] := by decide +kernel
theorem written_ok {ks xs : List Str} (h : Signs ks xs) : OkAll ks (Txt.join (Str.ofString "") xs).cps.toList := by
  rw [join_codes _ empty_cps]
  exact signs_codes h
theorem written_len {ks xs : List Str} (h : Signs ks xs) : (Txt.join (Str.ofString "") xs).length = ks.length := by
  have := (written_ok h).len
  rwa [Array.length_toList] at this
theorem signs_sum : ∀ {ks xs : List Str}, Signs ks xs → (xs.map (·.length)).sum = ks.length
  | _, _, .nil => rfl
  | _, _, .cons h r => by
    obtain ⟨c, rfl, hc⟩ := sign_code h
    rw [List.map_cons, List.sum_cons, signs_sum r, List.length_cons]
    show 1 + _ = _
    omega
-- the chain
def chainK (n : Nat) : List Str := [sP] ++ (List.replicate n [sZ, sP, sE]).flatten ++ [sO]
def chainC (n : Nat) : List Nat := [10084] ++ (List.replicate n [8205, 127988, 65039]).flatten ++ [97]
theorem chain_ok (n : Nat) : OkAll (chainK n) (chainC n) :=
  ((OkAll.cons (by decide +kernel) .nil).app (OkAll.rep (.cons (by decide +kernel) (.cons (by decide +kernel) (.cons (by decide +kernel) .nil))) n)).app (.cons (by decide +kernel) .nil)
theorem chain_len (n : Nat) : (chainK n).length = 3 * n + 2 := by
  unfold chainK
  rw [List.length_append, List.length_append, lm_len_rep_flat]
  simp only [List.length_cons, List.length_nil]
  omega
theorem run_chain : ∀ n : Nat, run false ((List.replicate n [sZ, sP, sE]).flatten ++ [sO]) = 3 * n
  | 0 => by decide +kernel
  | n + 1 => by
    rw [List.replicate_succ, List.flatten_cons]
    show (if sZ = sE then _ else if sZ = sZ then (if sP = sP then (if sE = sE then run false ((List.replicate n [sZ, sP, sE]).flatten ++ [sO]) + 1 else _) + 1 else _) + 1 else _) = _
    rw [if_neg neZE, if_pos rfl, if_pos rfl, if_pos rfl, run_chain n]
    omega
theorem cut_chain (n : Nat) : cutL (chainK n) (0 + 1) ((chainK n).length : Int) = (List.replicate n [sZ, sP, sE]).flatten ++ [sO] := by
  have hl := chain_len n
  unfold cutL
  rw [List.take_of_length_le (by rw [List.length_drop]; omega)]
  show (chainK n).drop 1 = _
  unfold chainK
  rfl
/-- the whole chain is read but for its last sign -/
theorem scan_chain {x : Str} {n : Nat} {i j : Int} (hx : x.cps.toList = chainC n) (h1 : EEnd x x.length (0 + 1) i) (h2 : ZEnd x x.length i j) : j = (x.length : Int) - 1 := by
  have ok := chain_ok n
  have hl : x.length = (chainK n).length := by
    have := ok.len
    rw [← hx, Array.length_toList] at this
    exact this
  rw [← hx] at ok
  have := scan_run (matches_of ok) (Int.le_refl 0) (by rw [hl]; exact Int.le_refl _) h1 h2
  rw [hl, cut_chain, run_chain] at this
  have := chain_len n
  omega
end Mine
namespace Mine
/-- the draw's state -/
structure DS where
  seed : Int
  ts : Nat
  n1 : Nat
  n2 : Nat
  dv : List Value
  dns : List Int
def ledD (sA kA d l : Addr) (p q : Obj) (c : DS) : List (Addr × Obj) := [(sA, p), (kA, q), (d, listOf #[.ref l, .int c.seed c.ts] c.n1), (l, listOf c.dv.toArray c.n2)]
structure FactsD (c : DS) : Prop where
  hi : IntsAre c.dv c.dns
  lv : c.dns.length < 1000
end Mine
namespace Mine
theorem foldl_rep (a : Array Nat) : ∀ (k : Nat) (acc : Array Nat), (List.foldl (fun x1 x2 => x1 ++ x2) acc (List.replicate k a)).toList = acc.toList ++ (List.replicate k a.toList).flatten
  | 0, acc => by simp
  | k + 1, acc => by rw [List.replicate_succ, List.foldl_cons, foldl_rep a k, List.replicate_succ, List.flatten_cons]; simp
theorem mul_codes {x : Str} {n : Int} (hn : 1 ≤ n) : (Txt.mul x n).cps.toList = (List.replicate n.toNat x.cps.toList).flatten := by
  unfold Txt.mul
  rw [if_neg (by omega)]
  by_cases h1 : n = 1
  · subst h1
    rw [if_pos (by simp)]
    show x.cps.toList = (List.replicate 1 x.cps.toList).flatten
    simp
  · by_cases h2 : x.length = 0
    · rw [if_pos (by simp [h2])]
      have e : x.cps.toList = [] := by
        have : x.cps.size = 0 := h2
        rw [← Array.length_toList] at this
        exact List.length_eq_zero_iff.mp this
      rw [e, lm_rep_nil]
    · rw [if_neg (by simp [h1, h2])]
      show (List.foldl (fun x1 x2 => x1 ++ x2) #[] (List.replicate n.toNat x.cps)).toList = _
      rw [foldl_rep]; simp
section
variable {prog : Program} {w : World} {A : Around} {E : Value → Shared → Prop} {s : Shared} {h₀ : Heap} {L : Addr} {m : Str → Option Value} {news : List (Addr × Obj)}
theorem mul_K {l : Addr} {vs : List Value} {k : Nat} {x : Int} {u : Tok} {Q : Value → Shared → Prop}
    (F : Fr h₀ L s.heap m) (N : News h₀ L s.heap news) (hl : (l, listOf vs.toArray k) ∈ news) (h0 : 0 ≤ x) (hx : x < 1000) (hv : vs.length < 100)
    (h : ∀ q h', (∀ p ∈ news, p.1 < q) → Fr h₀ L h' m → News h₀ L h' ((q, listOf (List.replicate x.toNat vs).flatten.toArray 0) :: news) → Q (.ref q) { s with heap := h' }) :
    wpAny (model prog w) A (binaryOp .Mult (.ref l) (.int x u)) Q E s := by
  have hsz : vs.toArray.size * x.toNat ≤ 2 ^ 24 := by
    rw [List.size_toArray]
    exact Nat.le_trans (Nat.mul_le_mul (Nat.le_of_lt hv) (show x.toNat ≤ 1000 by omega)) (by decide)
  refine mul_list F N (N _ hl).1 (by omega) (by omega) hsz (fun h' F' N' => h _ h' (fun p hp => Heap.lt_size (N p hp).1) F' ?_)
  rw [listMul_foldl_if] at N'
  exact N'
theorem add_K {l b : Addr} {vs ws : List Value} {k k' : Nat} {Q : Value → Shared → Prop} (F : Fr h₀ L s.heap m) (N : News h₀ L s.heap news) (hl : (l, listOf vs.toArray k) ∈ news) (hb : (b, listOf ws.toArray k') ∈ news) (hz : vs.length + ws.length < 1000)
    (h : ∀ q h', (∀ p ∈ news, p.1 < q) → Fr h₀ L h' m → News h₀ L h' ((q, listOf (vs ++ ws).toArray 0) :: news) → Q (.ref q) { s with heap := h' }) :
    wpAny (model prog w) A (binaryOp .Add (.ref l) (.ref b)) Q E s :=
  add_lists F N (News.isList N hl) (News.isList N hb) (fun h' F' N' => h _ h' (fun p hp => Heap.lt_size (N p hp).1) F' N') (Nat.le_trans (Nat.le_of_lt hz) (Nat.le_of_ble_eq_true rfl))
end
theorem KS.app : ∀ {a b : List Value} {ka kb : List Str}, KS a ka → KS b kb → KS (a ++ b) (ka ++ kb)
  | _, _, _, _, .nil, h => h
  | _, _, _, _, .cons k t r, h => .cons k t (r.app h)
theorem KS.rep {a : List Value} {ka : List Str} (h : KS a ka) : ∀ n : Nat, KS (List.replicate n a).flatten (List.replicate n ka).flatten
  | 0 => .nil
  | n + 1 => by rw [List.replicate_succ, List.replicate_succ, List.flatten_cons, List.flatten_cons]; exact h.app (h.rep n)
end Mine
namespace Mine
theorem chain_news {g h : Heap} {L q : Addr} {cv : List Value} {n k : Nat} {rest : List (Addr × Obj)} (rest' : List (Addr × Obj)) (N : News g L h ((q, listOf cv.toArray k) :: rest)) (hk : KS cv (chainK n)) (hs : ∀ p ∈ rest', p ∈ rest) : ∃ cv k, KS cv (chainK n) ∧ News g L h ((q, listOf cv.toArray k) :: rest') :=
  ⟨cv, k, hk, fun p hp => by
    rcases List.mem_cons.mp hp with rfl | hp
    · exact N _ (.head _)
    · exact N _ (.tail _ (hs p hp))⟩
theorem chain_KS (n : Nat) (a b c d e : Tok) : KS (([Value.str (Str.ofString "P") a] ++ (List.replicate n [Value.str (Str.ofString "Z") b, Value.str (Str.ofString "P") c, Value.str (Str.ofString "E") d]).flatten) ++ [Value.str (Str.ofString "O") e]) (chainK n) :=
  ((KS.cons _ _ .nil).app (KS.rep (.cons _ _ (.cons _ _ (.cons _ _ .nil))) n)).app (.cons _ _ .nil)
def sH : Str := Str.ofString "❤"
def sJ : Str := Str.ofString "\u200d🏴️"
def sA1 : Str := Str.ofString "a"
theorem text_codes {n : Int} (hn : 1 ≤ n) : (Str.ofString "❤" ++ Txt.mul (Str.ofString "\u200d🏴️") n ++ Str.ofString "a").cps.toList = chainC n.toNat := by
  have e1 : (Str.ofString "❤").cps.toList = [10084] := by decide +kernel
  have e2 : (Str.ofString "\u200d🏴️").cps.toList = [8205, 127988, 65039] := by decide +kernel
  have e3 : (Str.ofString "a").cps.toList = [97] := by decide +kernel
  show ((Str.ofString "❤").cps ++ (Txt.mul (Str.ofString "\u200d🏴️") n).cps ++ (Str.ofString "a").cps).toList = _
  rw [Array.toList_append, Array.toList_append, e1, e3, mul_codes hn, e2]
  rfl
theorem chainC_len (n : Nat) : (chainC n).length = 3 * n + 2 := by
  rw [(chain_ok n).len, chain_len]
theorem mul_len {x : Str} {n : Int} (hn : 1 ≤ n) : (Txt.mul x n).length = n.toNat * x.length := by
  have := congrArg List.length (mul_codes (x := x) hn)
  rw [lm_len_rep_flat, Array.length_toList, Array.length_toList] at this
  exact this
end Mine
namespace Mine
/-- a fact put by -/
structure Put (p : Prop) : Prop where
  out : p
end Mine
end
section
open PySem PySem.W PySem.Calls PyProof.Rows
set_option maxRecDepth 100000
set_option maxHeartbeats 8000000
set_option linter.unusedVariables false
namespace Mine
theorem headV : PySem.Challenge.rw_ax6029_01.Holds := by
  w_on
  o_law
  refine holds_openN (q := qV) (loose := looseV) (Xt := XtV) (XP := XL qV []) (Yf := HkV.obs) (Ya := HkV.val) (YP := HkV.says) (N := 20000) leftV HkV.of HkV.keeps (fun s e => xl_of s (Bool.and_eq_true_iff.mp e).1) XL.keeps (by rfl) (by rfl) (by rfl) (fun s e => recFacts_of (Bool.and_eq_true_iff.mp e).2) (by rfl) (by first | assumption | decide +kernel) (by decide +kernel) ⟨rfl, rfl, rfl, rfl, rfl, by decide +kernel⟩ ?hw ?hc
  case hw => w_witness2
  k_fill
  intro w s₀ s₁ mg mb G Y fa o pm cd doc dV kV ho hd hcd hD hmg hg args vals as hpre hlay hrd hwl hlo
  have KX : (KFr w.params).In s₁.heap := Y.1
  have KU := Y.2
  k_behind G ho hd hcd hD hmg hpre hlay hrd hwl hlo cd
  all_goals try k_fold
  have Bg : Base w mg mb s₁.heap := ⟨KX, topRead_of ‹Top qV (looseW qV looseV) _ mg mb s₁.heap›, KU⟩
  have F9 := ‹Fr s₁.heap s₁.heap.objs.size _ _›
  have N9 : News s₁.heap s₁.heap.objs.size _ [] := ‹News s₁.heap s₁.heap.objs.size _ []›
  have hI9 := ‹IntsAre _ _›
  have hL9 := ‹Heap.IsList s₁.heap _ _›
  have hc9 := ‹¬ (_ : Int) < _›
  have hg9 : Put (s₁.gens = #[]) := ⟨hg⟩
  clear hg
  rename_i said9 X9 V9 GL9 T9 B9 TE9 TW9 a335 o337 M9 cd9 a371 ns9 hs9 hla9 hl9 hr9 hl29 b1160 b1162 sc9 vs9 b1881 hL8 ra9 w19 r09 hI8 hr8 hc8 hc7 K09 h9 F8 N8
  clear said9 X9 V9 GL9 T9 B9 TE9 TW9 M9 hs9 hla9 hl9 hr9 hl29 hL8 ra9 w19 r09 hI8 hr8 hc8 hc7 K09 F8 N8 G Y ho KX KU hcd hD a335 o337 a371 b1160 b1162 b1881 o pm doc kV

  have hfill : PySem.Challenge.rw_ax6029_01 = PySem.Challenge.rw_ax6029_01 ∧ KFr = KFr := by k_fill; exact ⟨rfl, rfl⟩
  clear hfill
  have KX := Bg.KX
  have T := Bg.T
  change wpAny (model pw w) _ _ _ _ _
  (repeat' ((fail_if_success (with_reducible refine at_while ?_)); (fail_if_success (with_reducible refine at_iter ?_)); (fail_if_success (with_reducible refine at_call ?_)); first | ((with_reducible refine at_execs ?_); refine tok_any ?_; intro tk; first | walk1 | (dsimp only; walk1)) | (k_unfold; (try dsimp only)) | (k_end; wrow_close) | walk1 | (dsimp only; walk1) | (leave1; walk_say "STEP leave1"; try dsimp only) | fail "no step"))
  have Fy := ‹Fr s₁.heap s₁.heap.objs.size _ _›
  refine draw_ok Bg Fy.keep hL9 hI9 (by omega) rfl ?_
  intro d l ns' seed tk h' k0 D0 hld hl0 hd0 hn40 hnn hseed
  have Fz := Fy.keeps k0
  have Nz : ∃ ts n1 n2 vs, News s₁.heap s₁.heap.objs.size h' [(d, listOf #[.ref l, .int seed ts] n1), (l, listOf (vs : List Value).toArray n2)] ∧ IntsAre vs ns' := by
    obtain ⟨ts, n1, n2, ⟨vs⟩, hd, hl, hi⟩ := D0
    have off : ∀ {b : Addr}, (∀ o, s₁.heap.get? b = some o → False) → s₁.heap.get? b = none := fun {b} q => by
      cases e : s₁.heap.get? b with
      | none => rfl
      | some o => exact (q o e).elim
    obtain ⟨_, _, _, ho, _⟩ := Fy.ns
    refine ⟨ts, n1, n2, vs, ?_, hi⟩
    intro p hp
    rcases List.mem_cons.mp hp with rfl | hp
    · exact ⟨hd, (fun e => by rw [show d = _ from e, ho] at hd0; cases hd0), off fun o e => by rw [Fy.keep _ _ e] at hd0; cases hd0⟩
    rcases List.mem_cons.mp hp with rfl | hp
    · exact ⟨hl, (fun e => by rw [show l = _ from e, ho] at hl0; cases hl0), off fun o e => by rw [Fy.keep _ _ e] at hl0; cases hl0⟩
    cases hp
  obtain ⟨ts, n1, n2, vs, N1, hi1⟩ := Nz
  have lv1 : ns'.length < 1000 := by omega
  have hdlt : d < h'.objs.size := Heap.lt_size (N1 _ (.head _)).1
  clear Fy k0 D0 hd0 hl0 hn40 hnn hseed F9 N9
  k_sweep
  (repeat' ((fail_if_success (with_reducible refine at_while ?_)); (fail_if_success (with_reducible refine at_iter ?_)); (fail_if_success (with_reducible refine at_call ?_)); first | ((with_reducible refine at_execs ?_); refine tok_any ?_; intro tk; first | walk1 | (dsimp only; walk1)) | (k_unfold; (try dsimp only)) | (k_end; wrow_close) | walk1 | (dsimp only; walk1) | (leave1; walk_say "STEP leave1"; try dsimp only) | fail "no step"))
  have Fz := ‹Fr s₁.heap s₁.heap.objs.size _ _›
  have Nz := ‹News s₁.heap s₁.heap.objs.size _ _›
  refine take_L (pre := []) (own := []) Bg Fz Nz (.head _) (.tail _ (.head _)) hi1 lv1 hld (by omega) (fun p hp => (nomatch hp)) ?_
  clear Fz Nz hi1 lv1 hdlt
  intro r0 tr0 tk0 h0 seed0 ts0 n10 n20 vs0 ns0 r0lo r0hi F0 N0 hi0 lv0
  have N0 : News s₁.heap _ h0 [(d, listOf #[.ref l, .int seed0 ts0] n10), (l, listOf vs0.toArray n20)] := N0
  k_sweep
  (repeat' ((fail_if_success (with_reducible refine at_while ?_)); (fail_if_success (with_reducible refine at_iter ?_)); (fail_if_success (with_reducible refine at_call ?_)); first | ((with_reducible refine at_execs ?_); refine tok_any ?_; intro tk; first | walk1 | (dsimp only; walk1)) | (k_unfold; (try dsimp only)) | (k_end; wrow_close) | walk1 | (dsimp only; walk1) | (leave1; walk_say "STEP leave1"; try dsimp only) | fail "no step"))
  rename_i kA _ l1a _ _ sA _ l1b _ _ _ _ _ t1 u1 v1 hR F1 N1 _
  have l1 : d < kA := l1a.1
  have l2 : kA < sA := l1b.1
  clear l1a l1b
  have hn : Builtin.Range.rangeSize 0 (2 + r0) 1 = ((2 + r0).toNat : Int) := by
    have h := rangeSize_nat 0 (2 + r0)
    rwa [Int.sub_zero] at h
  refine kst_range (σ := LS) (n := (2 + r0).toNat) (ledS sA kA d l) (fun _ => []) FactsS [] (fun pre c => c.ks.length = pre.length) ⟨[], [], 0, [], [], 0, seed0, ts0, n10, n20, vs0, ns0⟩ rfl hR (small_one (by omega) (by omega) (by omega) (by omega)) hn F1 N1 ⟨.nil, .nil, .nil, hi0, lv0⟩ (List.forall_mem_nil _) rfl ?_ ?_
  · clear hR F1 N1
    k_sweep
    rintro ⟨kv, ks, kn, sv, xs, sn, seed, ts, n1, n2, dv, dns⟩ pre k t u h1 tk own hkp hlen hown ⟨hk, hx, hs, hi, lv⟩ hP F1 N1
    dsimp only [ledS] at hk hx hs hi lv hP F1 N1 hown
    have KsT := hk.strs
    have XsT := hx.strs
    (repeat' ((fail_if_success (with_reducible refine at_while ?_)); (fail_if_success (with_reducible refine at_iter ?_)); (fail_if_success (with_reducible refine at_call ?_)); (fail_if_success (with_reducible refine at_append ?_)); first | ((with_reducible refine at_execs ?_); refine tok_any ?_; intro tk; first | walk1 | (dsimp only; walk1)) | (k_unfold; (try dsimp only)) | (k_end; wrow_close) | walk1 | (dsimp only; walk1) | (leave1; walk_say "STEP leave1"; try dsimp only) | fail "no step"))
    have ap : Apart sA kA d l own := ⟨hld, l1, l2, fun p hp => ⟨hown p hp _ (.head _), hown p hp _ (.tail _ (.head _)), hown p hp _ (.tail _ (.tail _ (.head _))), hown p hp _ (.tail _ (.tail _ (.tail _ (.head _))))⟩⟩
    have hzk : kv.length < 1000 := by have := hk.len; omega
    have hzs : sv.length < 1000 := by have := hx.len; have := hs.len; omega
    have Fz := ‹Fr s₁.heap _ _ _›
    have Nz := ‹News s₁.heap _ _ _›
    refine take_L (pre := [(sA, listOf sv.toArray sn), (kA, listOf kv.toArray kn)]) (own := own) Bg Fz Nz (.tail _ (.tail _ (.head _))) (.tail _ (.tail _ (.tail _ (.head _)))) hi lv hld (by omega) ap.rest ?_
    clear Fz Nz F1 N1 hi lv
    intro r tr tk1 h2 seed1 ts1 n11 n21 vs1 ns1 rlo rhi F2 N2 hi1 lv1
    replace N2 : News s₁.heap _ h2 ([(sA, listOf sv.toArray sn), (kA, listOf kv.toArray kn), (d, listOf #[.ref l, .int seed1 ts1] n11), (l, listOf vs1.toArray n21)] ++ own) := N2
    k_sweep
    (repeat' ((fail_if_success (with_reducible refine at_while ?_)); (fail_if_success (with_reducible refine at_iter ?_)); (fail_if_success (with_reducible refine at_call ?_)); (fail_if_success (with_reducible refine at_append ?_)); first | ((with_reducible refine at_execs ?_); refine tok_any ?_; intro tk; first | walk1 | (dsimp only; walk1)) | (k_unfold; (try dsimp only)) | (k_end; wrow_close) | walk1 | (dsimp only; walk1) | (leave1; walk_say "STEP leave1"; try dsimp only) | fail "no step"))
    have Fz := ‹Fr s₁.heap _ _ _›
    have Nz := ‹News s₁.heap _ _ _›
    refine app_k ap Fz Nz hzk ?_
    clear Fz Nz F2 N2
    intro h3 F2 N2
    k_sweep
    (repeat' ((fail_if_success (with_reducible refine at_while ?_)); (fail_if_success (with_reducible refine at_iter ?_)); (fail_if_success (with_reducible refine at_call ?_)); (fail_if_success (with_reducible refine at_append ?_)); (fail_if_success (with_reducible refine at_sub ?_)); first | ((with_reducible refine at_execs ?_); refine tok_any ?_; intro tk; first | walk1 | (dsimp only; walk1)) | (k_unfold; (try dsimp only)) | (k_end; wrow_close) | walk1 | (dsimp only; walk1) | (leave1; walk_say "STEP leave1"; try dsimp only) | fail "no step"))
    have hkl := hk.len
    have k0 : 0 ≤ k := by omega
    have k9 : k < 2 ^ 63 := by omega
    have hget : (kv ++ [Value.str (Txt.item (Str.ofString "EZPZPEO") r) tk1])[k.toNat]? = some (Value.str (Txt.item (Str.ofString "EZPZPEO") r) tk1) := by
      have e : k.toNat = kv.length := by omega
      rw [e, List.getElem?_append_right (Nat.le_refl _), Nat.sub_self]; rfl
    with_unfolding_all refine item_litK (News.isList N2 (.tail _ (.head _))) k0 k9 hget ?_ (by with_unfolding_all rfl)
    clear k0 k9 hget
    (repeat' ((fail_if_success (with_reducible refine at_while ?_)); (fail_if_success (with_reducible refine at_iter ?_)); (fail_if_success (with_reducible refine at_call ?_)); (fail_if_success (with_reducible refine at_append ?_)); first | ((with_reducible refine at_execs ?_); refine tok_any ?_; intro tk; first | walk1 | (dsimp only; walk1)) | (k_unfold; (try dsimp only)) | (k_end; wrow_close) | walk1 | (dsimp only; walk1) | (leave1; walk_say "STEP leave1"; try dsimp only) | fail "no step"))
    have Fz := ‹Fr s₁.heap _ _ _›
    have Nz := ‹News s₁.heap _ _ _›
    refine sign_L (pre := [(sA, listOf sv.toArray sn), (kA, listOf (kv ++ [Value.str (Txt.item (Str.ofString "EZPZPEO") r) tk1]).toArray (kn + 1))]) (own := own) (kind_item rlo rhi) Bg Fz Nz (.tail _ (.tail _ (.head _))) (.tail _ (.tail _ (.tail _ (.head _)))) hi1 lv1 hld ap.rest ?_
    clear Fz Nz F2 N2 hi1 lv1
    intro x tx tk2 h4 seed2 ts2 n12 n22 vs2 ns2 hsx' F2 N2 hi2 lv2
    have hsx := Put.mk hsx'
    clear hsx'
    replace N2 : News s₁.heap _ h4 ([(sA, listOf sv.toArray sn), (kA, listOf (kv ++ [Value.str (Txt.item (Str.ofString "EZPZPEO") r) tk1]).toArray (kn + 1)), (d, listOf #[.ref l, .int seed2 ts2] n12), (l, listOf vs2.toArray n22)] ++ own) := N2
    k_sweep
    (repeat' ((fail_if_success (with_reducible refine at_while ?_)); (fail_if_success (with_reducible refine at_iter ?_)); (fail_if_success (with_reducible refine at_call ?_)); (fail_if_success (with_reducible refine at_append ?_)); first | ((with_reducible refine at_execs ?_); refine tok_any ?_; intro tk; first | walk1 | (dsimp only; walk1)) | (k_unfold; (try dsimp only)) | (k_end; wrow_close) | walk1 | (dsimp only; walk1) | (leave1; walk_say "STEP leave1"; try dsimp only) | fail "no step"))
    have Fz := ‹Fr s₁.heap _ _ _›
    have Nz := ‹News s₁.heap _ _ _›
    refine app_s ap Fz Nz hzs ?_
    clear Fz Nz F2 N2
    intro h5 F2 N2
    k_sweep
    (repeat' ((fail_if_success (with_reducible refine at_while ?_)); (fail_if_success (with_reducible refine at_iter ?_)); (fail_if_success (with_reducible refine at_call ?_)); (fail_if_success (with_reducible refine at_append ?_)); first | ((with_reducible refine at_execs ?_); refine tok_any ?_; intro tk; first | walk1 | (dsimp only; walk1)) | (k_unfold; (try dsimp only)) | (k_end; wrow_close) | walk1 | (dsimp only; walk1) | (leave1; walk_say "STEP leave1"; try dsimp only) | fail "no step"))
    refine kst_end ⟨kv ++ [Value.str (Txt.item (Str.ofString "EZPZPEO") r) tk1], ks ++ [Txt.item (Str.ofString "EZPZPEO") r], kn + 1, sv ++ [Value.str x tx], xs ++ [x], sn + 1, seed2, ts2, n12, n22, vs2, ns2⟩ F2 N2 (by intro p hp; exact List.mem_append_left _ hp) (by intro p hp; exact List.mem_append_right _ hp) rfl ⟨hk.snoc _ _, hx.snoc _ _, hs.snoc hsx.out, hi2, lv2⟩ (List.forall_mem_nil _) (fun z h1 _ _ => by simp [h1, kstB]) ?_
    rw [List.length_append, List.length_append, hP]; rfl
  · clear hR F1 N1
    k_sweep
    rintro ⟨kv, ks, kn, sv, xs, sn, seed, ts, n1, n2, dv, dns⟩ u h1 tk ⟨hk, hx, hs, hi, lv⟩ hP F1 N1
    dsimp only [ledS] at hk hx hs hi lv hP F1 N1
    rw [rangeKs_length] at hP
    have KsT := hk.strs
    have XsT := hx.strs
    (repeat' ((fail_if_success (with_reducible refine at_while ?_)); (fail_if_success (with_reducible refine at_iter ?_)); (fail_if_success (with_reducible refine at_call ?_)); first | ((with_reducible refine at_execs ?_); refine tok_any ?_; intro tk; first | walk1 | (dsimp only; walk1)) | (k_unfold; (try dsimp only)) | (k_end; wrow_close) | walk1 | (dsimp only; walk1) | (leave1; walk_say "STEP leave1"; try dsimp only) | fail "no step"))
    have hks : (ks.length : Int) = 2 + r0 := by omega
    have hxl := hs.len
    refine PyProof.Rows.join_list (News.isList N1 (.head _)) XsT (by rw [signs_sum hs, hxl]; show ks.length + ks.length * 0 ≤ 16777216; omega) ?_
    intro tw kw
    have hwl := written_len hs
    have hwo := written_ok hs
    generalize Txt.join (Str.ofString "") xs = wr at hwl hwo ⊢
    have hM := matches_of hwo
    k_sweep
    (repeat' ((fail_if_success (with_reducible refine at_while ?_)); (fail_if_success (with_reducible refine at_iter ?_)); (fail_if_success (with_reducible refine at_call ?_)); first | ((with_reducible refine at_execs ?_); refine tok_any ?_; intro tk; first | walk1 | (dsimp only; walk1)) | (k_unfold; (try dsimp only)) | (k_end; wrow_close) | walk1 | (dsimp only; walk1) | (leave1; walk_say "STEP leave1"; try dsimp only) | fail "no step"))
    rename_i t1 u1 v1 hR F1 N1 _
    have hxl2 : wr.length < 1000 := by omega
    refine kst_range (σ := DS) (n := 3) (ledD sA kA d l (listOf sv.toArray sn) (listOf kv.toArray kn)) (fun _ => []) FactsD [Str.ofString "first", Str.ofString "bound"] (fun _ _ => True) ⟨seed, ts, n1, n2, dv, dns⟩ rfl hR (small_one (by decide) (by decide) (by decide) (by decide)) (rangeSize_nat 0 3) F1 N1 ⟨hi, lv⟩ (List.forall_mem_nil _) trivial ?_ ?_
    · clear hR F1 N1 hi lv
      k_sweep
      rintro ⟨seed, ts, n1, n2, dv, dns⟩ pre k t u h1 tk own hkp hlen hown ⟨hi, lv⟩ - F1 N1
      dsimp only [ledD] at hi lv F1 N1 hown
      have ap : Apart sA kA d l own := ⟨hld, l1, l2, fun p hp => ⟨hown p hp _ (.head _), hown p hp _ (.tail _ (.head _)), hown p hp _ (.tail _ (.tail _ (.head _))), hown p hp _ (.tail _ (.tail _ (.tail _ (.head _))))⟩⟩
      (repeat' ((fail_if_success (with_reducible refine at_while ?_)); (fail_if_success (with_reducible refine at_iter ?_)); (fail_if_success (with_reducible refine at_call ?_)); first | ((with_reducible refine at_execs ?_); refine tok_any ?_; intro tk; first | walk1 | (dsimp only; walk1)) | (k_unfold; (try dsimp only)) | (k_end; wrow_close) | walk1 | (dsimp only; walk1) | (leave1; walk_say "STEP leave1"; try dsimp only) | fail "no step"))
      have Fz := ‹Fr s₁.heap _ _ _›
      have Nz := ‹News s₁.heap _ _ _›
      refine take_L (pre := [(sA, listOf sv.toArray sn), (kA, listOf kv.toArray kn)]) (own := own) Bg Fz Nz (.tail _ (.tail _ (.head _))) (.tail _ (.tail _ (.tail _ (.head _)))) hi lv hld (by omega) ap.rest ?_
      clear Fz Nz F1 N1 hi lv
      intro f tf tk1 h2 seed1 ts1 n11 n21 vs1 ns1 flo fhi F2 N2 hi1 lv1
      replace N2 : News s₁.heap _ h2 ([(sA, listOf sv.toArray sn), (kA, listOf kv.toArray kn), (d, listOf #[.ref l, .int seed1 ts1] n11), (l, listOf vs1.toArray n21)] ++ own) := N2
      k_sweep
      (repeat' ((fail_if_success (with_reducible refine at_while ?_)); (fail_if_success (with_reducible refine at_iter ?_)); (fail_if_success (with_reducible refine at_call ?_)); first | ((with_reducible refine at_execs ?_); refine tok_any ?_; intro tk; first | walk1 | (dsimp only; walk1)) | (k_unfold; (try dsimp only)) | (k_end; wrow_close) | walk1 | (dsimp only; walk1) | (leave1; walk_say "STEP leave1"; try dsimp only) | fail "no step"))
      have Fz := ‹Fr s₁.heap _ _ _›
      have Nz := ‹News s₁.heap _ _ _›
      refine take_L (pre := [(sA, listOf sv.toArray sn), (kA, listOf kv.toArray kn)]) (own := own) Bg Fz Nz (.tail _ (.tail _ (.head _))) (.tail _ (.tail _ (.tail _ (.head _)))) hi1 lv1 hld (by omega) ap.rest ?_
      clear Fz Nz F2 N2 hi1 lv1
      intro g tg tk2 h3 seed2 ts2 n12 n22 vs2 ns2 glo ghi F2 N2 hi2 lv2
      replace N2 : News s₁.heap _ h3 ([(sA, listOf sv.toArray sn), (kA, listOf kv.toArray kn), (d, listOf #[.ref l, .int seed2 ts2] n12), (l, listOf vs2.toArray n22)] ++ own) := N2
      k_sweep
      (repeat' ((fail_if_success (with_reducible refine at_while ?_)); (fail_if_success (with_reducible refine at_iter ?_)); (fail_if_success (with_reducible refine at_call ?_)); first | ((with_reducible refine at_execs ?_); refine tok_any ?_; intro tk; first | walk1 | (dsimp only; walk1)) | (k_unfold; (try dsimp only)) | (k_end; wrow_close) | walk1 | (dsimp only; walk1) | (leave1; walk_say "STEP leave1"; try dsimp only) | fail "no step"))
      have Fz := ‹Fr s₁.heap _ _ _›
      have Nz := ‹News s₁.heap _ _ _›
      have b0 : f < f + 1 + g := by omega
      have b1 : f + 1 + g ≤ (ks.length : Int) := by omega
      refine scan_ok Bg Fz.keep flo b0 (by rw [hwl]; exact b1) hxl2 rfl ?_
      intro i j tj tk3 h4 k4 hE hZ
      have F2 := Fz.keeps k4
      have N2 := Nz.grown k4
      clear Fz Nz k4
      k_sweep
      (repeat' ((fail_if_success (with_reducible refine at_while ?_)); (fail_if_success (with_reducible refine at_iter ?_)); (fail_if_success (with_reducible refine at_call ?_)); first | ((with_reducible refine at_execs ?_); refine tok_any ?_; intro tk; first | walk1 | (dsimp only; walk1)) | (k_unfold; (try dsimp only)) | (k_end; wrow_close) | walk1 | (dsimp only; walk1) | (leave1; walk_say "STEP leave1"; try dsimp only) | fail "no step"))
      have Fz := ‹Fr s₁.heap _ _ _›
      have Nz := ‹News s₁.heap _ _ _›
      refine reach_ok (vs := kv.toArray) (n := kn) (ks := ks) Bg Fz.keep (Nz _ (.tail _ (.head _))).1 hk flo b0 b1 (by omega) rfl ?_
      intro r tr tk4 h5 k5 hRe
      have F2 := Fz.keeps k5
      have N2 := Nz.grown k5
      clear Fz Nz k5
      have e : j = r := scan_reach hM flo b0 b1 hE hZ hRe
      subst e
      clear hE hZ hRe
      k_sweep
      (repeat' ((fail_if_success (with_reducible refine at_while ?_)); (fail_if_success (with_reducible refine at_iter ?_)); (fail_if_success (with_reducible refine at_call ?_)); first | ((with_reducible refine at_execs ?_); refine tok_any ?_; intro tk; first | walk1 | (dsimp only; walk1)) | (k_unfold; (try dsimp only)) | (k_end; wrow_close) | walk1 | (dsimp only; walk1) | (leave1; walk_say "STEP leave1"; try dsimp only) | fail "no step"))
      · exact absurd rfl ‹j ≠ j›
      · refine kst_end ⟨seed2, ts2, n12, n22, vs2, ns2⟩ F2 N2 (by intro p hp; exact List.mem_append_left _ hp) (by intro p hp; exact List.mem_append_right _ hp) rfl ⟨hi2, lv2⟩ (List.forall_mem_nil _) (fun z h1 _ h3 => ?_) trivial
        have h4 : z ≠ Str.ofString "first" := fun e => by rw [e] at h3; revert h3; decide +kernel
        have h5 : z ≠ Str.ofString "bound" := fun e => by rw [e] at h3; revert h3; decide +kernel
        simp only [if_neg h1, if_neg h4, if_neg h5, kstB, h3, Bool.false_eq_true, if_false]
    · clear hR F1 N1 hi lv
      k_sweep
      rintro ⟨seed, ts, n1, n2, dv, dns⟩ u h1 tk ⟨hi, lv⟩ - F1 N1
      dsimp only [ledD] at hi lv F1 N1
      (repeat' ((fail_if_success (with_reducible refine at_while ?_)); (fail_if_success (with_reducible refine at_iter ?_)); (fail_if_success (with_reducible refine at_call ?_)); first | ((with_reducible refine at_execs ?_); refine tok_any ?_; intro tk; first | walk1 | (dsimp only; walk1)) | (k_unfold; (try dsimp only)) | (k_end; wrow_close) | walk1 | (dsimp only; walk1) | (leave1; walk_say "STEP leave1"; try dsimp only) | fail "no step"))
      have Fz := ‹Fr s₁.heap _ _ _›
      have Nz := ‹News s₁.heap _ _ _›
      refine take_L (pre := [(sA, listOf sv.toArray sn), (kA, listOf kv.toArray kn)]) (own := []) Bg Fz Nz (.tail _ (.tail _ (.head _))) (.tail _ (.tail _ (.tail _ (.head _)))) hi lv hld (by omega) (Apart.rest ⟨hld, l1, l2, List.forall_mem_nil _⟩) ?_
      clear Fz Nz F1 N1 hi lv
      intro lo tlo tk1 h2 seed1 ts1 n11 n21 vs1 ns1 llo lhi F2 N2 hi1 lv1
      replace N2 : News s₁.heap _ h2 [(sA, listOf sv.toArray sn), (kA, listOf kv.toArray kn), (d, listOf #[.ref l, .int seed1 ts1] n11), (l, listOf vs1.toArray n21)] := N2
      k_sweep
      (repeat' ((fail_if_success (with_reducible refine at_call ?_)); (fail_if_success (with_reducible refine at_while ?_)); (fail_if_success (with_reducible refine at_iter ?_)); (fail_if_success (with_reducible refine at_bin ?_)); (fail_if_success (with_reducible refine at_binS ?_)); first | ((with_reducible refine at_execs ?_); refine tok_any ?_; intro tk; first | walk1 | (dsimp only; walk1)) | (k_unfold; (try dsimp only)) | (k_end; wrow_close) | walk1 | (dsimp only; walk1) | (leave1; walk_say "STEP leave1"; try dsimp only) | fail "no step"))
      rename_i pA _ l1p zA _ F3 N3 l1z
      refine mul_K F3 N3 (.head _) (by omega) (by omega) (Nat.le_of_ble_eq_true rfl) ?_
      intro q1 h3 lt1 F4 N4
      clear F3 N3
      k_sweep
      refine add_K F4 N4 (.tail _ (.tail _ (.head _))) (.head _) ?hz ?_
      case hz => rw [lm_len_rep_flat]; simp only [List.length_cons, List.length_nil]; omega
      intro q2 h4 lt2 F5 N5
      replace N5 := kst_newsOf N5 (l' := [_, (sA, listOf sv.toArray sn), (kA, listOf kv.toArray kn), (d, listOf #[.ref l, .int seed1 ts1] n11), (l, listOf vs1.toArray n21)]) (by intro p hp; exact List.mem_cons.mpr ((List.mem_cons.mp hp).imp id fun hp => .tail _ (.tail _ (.tail _ hp))))
      clear F4 N4
      k_sweep
      (repeat' ((fail_if_success (with_reducible refine at_call ?_)); (fail_if_success (with_reducible refine at_while ?_)); (fail_if_success (with_reducible refine at_iter ?_)); (fail_if_success (with_reducible refine at_bin ?_)); (fail_if_success (with_reducible refine at_binS ?_)); first | ((with_reducible refine at_execs ?_); refine tok_any ?_; intro tk; first | walk1 | (dsimp only; walk1)) | (k_unfold; (try dsimp only)) | (k_end; wrow_close) | walk1 | (dsimp only; walk1) | (leave1; walk_say "STEP leave1"; try dsimp only) | fail "no step"))
      have F6 := ‹Fr s₁.heap _ _ _›
      have N6 := ‹News s₁.heap _ _ _›
      refine add_K F6 N6 (.tail _ (.head _)) (.head _) ?hz ?_
      case hz => rw [List.length_append, lm_len_rep_flat]; simp only [List.length_cons, List.length_nil]; omega
      intro q3 h5 lt3 F7 N7
      obtain ⟨cv, cn, hck, N8⟩ := chain_news [(d, listOf #[.ref l, .int seed1 ts1] n11), (l, listOf vs1.toArray n21)] N7 (chain_KS _ _ _ _ _ _) (by intro p hp; exact .tail _ (.tail _ (.tail _ (.tail _ hp))))
      have ltd : d < q3 := lt3 _ (.tail _ (.tail _ (.tail _ (.tail _ (.head _)))))
      have ltl : l < q3 := lt3 _ (.tail _ (.tail _ (.tail _ (.tail _ (.tail _ (.head _))))))
      clear F6 N6 N7 lt1 lt2 lt3
      k_sweep
      (repeat' ((fail_if_success (with_reducible refine at_call ?_)); (fail_if_success (with_reducible refine at_while ?_)); (fail_if_success (with_reducible refine at_iter ?_)); (fail_if_success (with_reducible refine at_bin ?_)); (fail_if_success (with_reducible refine at_binS ?_)); first | ((with_reducible refine at_execs ?_); refine tok_any ?_; intro tk; first | walk1 | (dsimp only; walk1)) | (k_unfold; (try dsimp only)) | (k_end; wrow_close) | walk1 | (dsimp only; walk1) | (leave1; walk_say "STEP leave1"; try dsimp only) | fail "no step"))
      have hn1 : 1 ≤ 1 + lo := by omega
      have hml := mul_len (x := Str.ofString "\u200d🏴️") hn1
      have hl3 : (Str.ofString "\u200d🏴️").length = 3 := by decide +kernel
      have hl1 : (Str.ofString "❤").length = 1 := by decide +kernel
      have hla : (Str.ofString "a").length = 1 := by decide +kernel
      rw [hl3] at hml
      have htc := text_codes hn1
      refine PySem.SB.mul (mulOk_of 16 16 (by rw [hl3]; decide) (by omega) (by omega) (by decide) (by decide)) ?_
      intro t2 k2
      refine PyProof.Rows.add_str (fun t3 k3 => ?_) (by rw [hl1, hml]; exact Nat.le_trans (show _ ≤ 1000 by omega) (Nat.le_of_ble_eq_true rfl))
      (repeat' ((fail_if_success (with_reducible refine at_call ?_)); (fail_if_success (with_reducible refine at_while ?_)); (fail_if_success (with_reducible refine at_iter ?_)); (fail_if_success (with_reducible refine at_bin ?_)); (fail_if_success (with_reducible refine at_binS ?_)); first | ((with_reducible refine at_execs ?_); refine tok_any ?_; intro tk; first | walk1 | (dsimp only; walk1)) | (k_unfold; (try dsimp only)) | (k_end; wrow_close) | walk1 | (dsimp only; walk1) | (leave1; walk_say "STEP leave1"; try dsimp only) | fail "no step"))
      refine PyProof.Rows.add_str (fun t4 k4 => ?_) (by rw [show ∀ a b : Str, (a ++ b).length = a.length + b.length from fun a b => Array.size_append, hl1, hml, hla]; exact Nat.le_trans (show _ ≤ 1000 by omega) (Nat.le_of_ble_eq_true rfl))
      generalize (Str.ofString "❤" ++ Txt.mul (Str.ofString "\u200d🏴️") (1 + lo) ++ Str.ofString "a") = w2 at htc ⊢
      have hcl := chain_len (1 + lo).toNat
      have hw2 : w2.length = (chainK (1 + lo).toNat).length := by
        have e := congrArg List.length htc
        rw [Array.length_toList, chainC_len] at e
        rw [hcl]; exact e
      clear hml
      k_sweep
      (repeat' ((fail_if_success (with_reducible refine at_call ?_)); (fail_if_success (with_reducible refine at_while ?_)); (fail_if_success (with_reducible refine at_iter ?_)); (fail_if_success (with_reducible refine at_bin ?_)); (fail_if_success (with_reducible refine at_binS ?_)); first | ((with_reducible refine at_execs ?_); refine tok_any ?_; intro tk; first | walk1 | (dsimp only; walk1)) | (k_unfold; (try dsimp only)) | (k_end; wrow_close) | walk1 | (dsimp only; walk1) | (leave1; walk_say "STEP leave1"; try dsimp only) | fail "no step"))
      have F8 := ‹Fr s₁.heap _ _ _›
      have N9 := ‹News s₁.heap _ _ _›
      refine scan_ok Bg F8.keep (Int.le_refl 0) (by omega) (Int.le_refl _) (by omega) rfl ?_
      intro i1 j1 tj1 tk3 h6 k6 hE hZ
      have e1 := scan_chain htc hE hZ
      subst e1
      have F9 := F8.keeps k6
      have N10 := N9.grown k6
      clear F8 N9 k6 hE hZ
      k_sweep
      (repeat' ((fail_if_success (with_reducible refine at_call ?_)); (fail_if_success (with_reducible refine at_while ?_)); (fail_if_success (with_reducible refine at_iter ?_)); (fail_if_success (with_reducible refine at_bin ?_)); (fail_if_success (with_reducible refine at_binS ?_)); first | ((with_reducible refine at_execs ?_); refine tok_any ?_; intro tk; first | walk1 | (dsimp only; walk1)) | (k_unfold; (try dsimp only)) | (k_end; wrow_close) | walk1 | (dsimp only; walk1) | (leave1; walk_say "STEP leave1"; try dsimp only) | fail "no step"))
      · exact absurd rfl ‹(_ : Int) ≠ _›
      have F8 := ‹Fr s₁.heap _ _ _›
      have N9 := ‹News s₁.heap _ _ _›
      refine take_L (pre := [(q3, listOf cv.toArray cn)]) (own := []) Bg F8 N9 (.tail _ (.head _)) (.tail _ (.tail _ (.head _))) hi1 lv1 hld (by omega) (by intro p hp; rcases List.mem_cons.mp hp with rfl | hp; exact ⟨.head _, Nat.ne_of_gt ltd, Nat.ne_of_gt ltl⟩; cases hp) ?_
      clear F8 N9 F9 N10 hi1 lv1
      intro bo tbo tk4 h7 seed2 ts2 n12 n22 vs2 ns2 blo bhi F8 N9 hi2 lv2
      replace N9 : News s₁.heap _ h7 [(q3, listOf cv.toArray cn), (d, listOf #[.ref l, .int seed2 ts2] n12), (l, listOf vs2.toArray n22)] := N9
      k_sweep
      (repeat' ((fail_if_success (with_reducible refine at_call ?_)); (fail_if_success (with_reducible refine at_while ?_)); (fail_if_success (with_reducible refine at_iter ?_)); (fail_if_success (with_reducible refine at_bin ?_)); (fail_if_success (with_reducible refine at_binS ?_)); first | ((with_reducible refine at_execs ?_); refine tok_any ?_; intro tk; first | walk1 | (dsimp only; walk1)) | (k_unfold; (try dsimp only)) | (k_end; wrow_close) | walk1 | (dsimp only; walk1) | (leave1; walk_say "STEP leave1"; try dsimp only) | fail "no step"))
      have F8 := ‹Fr s₁.heap _ _ _›
      have N9 := ‹News s₁.heap _ _ _›
      have b0 : (0 : Int) < 1 + bo := by omega
      have b1 : 1 + bo ≤ (w2.length : Int) := by omega
      have b2 : 1 + bo ≤ ((chainK (1 + lo).toNat).length : Int) := by omega
      refine scan_ok Bg F8.keep (Int.le_refl 0) b0 b1 (by omega) rfl ?_
      intro i2 j2 tj2 tk5 h8 k8 hE hZ
      have F9 := F8.keeps k8
      have N10 := N9.grown k8
      clear F8 N9 k8
      k_sweep
      (repeat' ((fail_if_success (with_reducible refine at_call ?_)); (fail_if_success (with_reducible refine at_while ?_)); (fail_if_success (with_reducible refine at_iter ?_)); (fail_if_success (with_reducible refine at_bin ?_)); (fail_if_success (with_reducible refine at_binS ?_)); first | ((with_reducible refine at_execs ?_); refine tok_any ?_; intro tk; first | walk1 | (dsimp only; walk1)) | (k_unfold; (try dsimp only)) | (k_end; wrow_close) | walk1 | (dsimp only; walk1) | (leave1; walk_say "STEP leave1"; try dsimp only) | fail "no step"))
      have F8 := ‹Fr s₁.heap _ _ _›
      have N9 := ‹News s₁.heap _ _ _›
      refine reach_ok (vs := cv.toArray) (n := cn) (ks := chainK (1 + lo).toNat) Bg F8.keep (N9 _ (.head _)).1 hck (Int.le_refl 0) b0 b2 (by omega) rfl ?_
      intro r2 tr2 tk6 h9 k9 hRe
      have F9 := F8.keeps k9
      have N10 := N9.grown k9
      clear F8 N9 k9
      have ok := chain_ok (1 + lo).toNat
      rw [← htc] at ok
      have e : j2 = r2 := scan_reach (matches_of ok) (Int.le_refl 0) b0 b2 hE hZ hRe
      subst e
      clear hE hZ hRe
      k_sweep
      (repeat' ((fail_if_success (with_reducible refine at_call ?_)); (fail_if_success (with_reducible refine at_while ?_)); (fail_if_success (with_reducible refine at_iter ?_)); (fail_if_success (with_reducible refine at_bin ?_)); (fail_if_success (with_reducible refine at_binS ?_)); first | ((with_reducible refine at_execs ?_); refine tok_any ?_; intro tk; first | walk1 | (dsimp only; walk1)) | (k_unfold; (try dsimp only)) | (k_end; wrow_close) | walk1 | (dsimp only; walk1) | (leave1; walk_say "STEP leave1"; try dsimp only) | fail "no step"))
      rw [beq_self_eq_true]
      have hg := hg9.out
      k_end
      wrow_close
end Mine
end
theorem PySem.Challenge.cw_ax6029_01_holds : PySem.Challenge.rw_ax6029_01.Holds :=
  Mine.headV
