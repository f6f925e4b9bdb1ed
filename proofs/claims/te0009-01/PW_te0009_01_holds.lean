import PyProof.Rows.All
import ObjForm.ListNI
import Wide.All
import OpenK.AllK
import Wide.FinOn
import Lean
import PyProof.StrLawsChain
import Wide.Txt
import PySem.Challenge.RW_te0009_01
set_option Elab.async false
set_option maxRecDepth 100000
set_option linter.all false
namespace Mine
open PySem PySem.W PyProof.Rows PySem.Calls
noncomputable def hp:Program:=PySem.Challenge.rw_te0009_01.row.toRowW.1
noncomputable def hM:List Stmt:=hp.main.body
noncomputable def hB:List Stmt:=behindTheImports hp
noncomputable def hann:Option Value:=some (.ref 6)
noncomputable def henv:Env:={ scope:=hp.main.scope,locals:=mainNs,globals:=mainNs,cells:=[],code:=.ref 13,frame:=some 14 }
noncomputable def nd:List Stmt → Nat → Stmt
  | [],_=>.Pass ⟨0,0,0,0⟩
  | s :: r,i=>match Nat.beq i 0 with
    | true=>s
    | false=>nd r (i - 1)
noncomputable def cb (l:List Stmt) (i:Nat):List Stmt:=match nd l i with
  | .ClassDef _ _ _ b _ _ _ _ _ _ _=>b
  | _=>[]
noncomputable def fo (c:Value) (st:Stmt) (qn:Str) (g:Nat) (df kd doc md:Value) (an:Option Addr) (cd ct:Value) (bl:Nat):Obj:=match st with
  | .FunctionDef name args body _ _ _ sc _ _ _=>⟨c,none,.func ⟨name,qn,args,.stmts body,sc,g,[],df,kd,doc,md,an,cd,ct,bl⟩,#[]⟩
  | _=>⟨c,none,.plain,#[]⟩
noncomputable def co (a b:Str) (k:Nat) (i0 i1 i4:Int) (r:Nat) (bb:Bool) (r2:Nat) (v13 v14 v15:Value) (i5:Int) (k3:Nat):Obj:=
  ⟨.type "code",none,.fields #[.str a k,.str b (k + 1),.str "/claim/cut.py" (k + 2),.int i0 0,.int i1 0,.int 0 0,.int 0 0,.int i4 0,.ref r,.bool bb,.int 181 0,.ref r2,.none,v13,v14,v15,.int i5 0,.int i0 0,.str "/claim/cut.py" k3],#[]⟩
noncomputable def de (P:Params) (k:Str) (t:Nat) (v:Value):DictEntry:=⟨PyData.keyHash P k,.str k t,v⟩
noncomputable def spl:List Obj → List Obj × List Obj
  | []=>([],[])
  | x :: r=>(x :: (spl r).2,(spl r).1)
noncomputable def mkT:Nat → List Obj → BT
  | 0,_=>.nil
  | _ + 1,[]=>.nil
  | n + 1,x :: r=>.node x (mkT n (spl r).1) (mkT n (spl r).2)
noncomputable def sT (l:List Obj) (n k:Nat) (os:OsState):SharedT:=⟨mkT 11 l,n,{},#[],{},k,os⟩
theorem fastSeg {p:Program} {w:World} {n₀:Nat} {ann:Option Value} {b n:Nat} {s:OsState → SharedT} {t:Thread} {r:OsState → Option (Flow × SharedT × Code × Pos)}
    (h:(fun os=>PySem.W.Fast.tw10110043849684766642 PySem.W.Fast.tw14364793385576792824 p w n₀ ann b n (s os) t) = r):(fun os=>segRunT treeTable p w n₀ ann b n (s os) t) = r:=by
  rw [PySem.W.Fast.te10110043849684766642,PySem.W.Fast.te14364793385576792824];exact h
noncomputable def o0 (P:Params):Obj:=⟨(.type "tuple"),none,(.seq #[] 0),#[]⟩
noncomputable def o1 (P:Params):Obj:=⟨.none,none,(.fields #[]),#[]⟩
noncomputable def o2 (P:Params):Obj:=co "<module>" "<module>" 182 1 0 0 11 false 12 .none .none .none 185 186
noncomputable def o3 (P:Params):Obj:=⟨(.type "frame"),none,.plain,#[(some (.ref 13)),(some (.ref 3)),(some (.ref 3)),none,(some (.str "__main__" 164)),none,(some (.ref 0))]⟩
noncomputable def La (P:Params):List Obj:=[boot_o_0 P,boot_o_1 P,boot_o_2 P,boot_o_3 P,boot_o_4 P,boot_o_5 P,boot_o_6 P,boot_o_7 P,boot_o_8 P,boot_o_9 P,boot_o_10 P,o0 P,o1 P,o2 P,o3 P]
noncomputable def Lb (P:Params):List Obj:=[boot_o_0 P,boot_o_1 P,boot_o_2 P,boot_o_3 P,boot_o_4 P,boot_o_5 P,boot_o_6 P,boot_o_7 P,boot_o_8 P,boot_o_9 P,boot_o_10 P,o0 P,o1 P,o2 P,o3 P]
noncomputable def o4 (P:Params):Obj:=⟨.none,none,(.dict #[(de P "type.__subclasses__.Exception.0" 212 (.int 31 0)),(de P "type.__subclasses__.Exception.n" 213 (.int 1 0))] 2),#[]⟩
noncomputable def o5 (P:Params):Obj:=⟨(.type "dict"),none,(.dict #[(de P "__name__" 165 (.str "yaml.events" 216)),(de P "__doc__" 166 .none),(de P "__package__" 167 .none),(de P "__loader__" 168 (.builtin "__main__.__loader__#opaque")),(de P "__spec__" 169 .none),(de P "__annotations__" 170 (.ref 6)),(de P "__builtins__" 171 (.ref 4)),(de P "__file__" 173 (.str "/claim/cut.py" 172)),(de P "__cached__" 174 .none),(de P "_wall" 193 (.ref 21)),(de P "YAMLError" 215 (.ref 31)),(de P "Event" 255 (.ref 59)),(de P "NodeEvent" 284 (.ref 81)),(de P "CollectionStartEvent" 319 (.ref 101)),(de P "CollectionEndEvent" 335 (.ref 113)),(de P "StreamStartEvent" 364 (.ref 133)),(de P "StreamEndEvent" 380 (.ref 145)),(de P "DocumentStartEvent" 413 (.ref 165))] 18),#[]⟩
noncomputable def o6 (P:Params):Obj:=⟨.none,none,(.fields #[(.int 1 0),(.int 0 0),(.ref 20),(.int 5 0),(.int 0 0),(.ref 27),(.int 8 0),(.int 0 0),(.ref 40),(.int 16 0),(.int 0 0),(.ref 69),(.int 22 0),(.int 0 0),(.ref 89),(.int 31 0),(.int 0 0),(.ref 109),(.int 33 0),(.int 0 0),(.ref 121),(.int 39 0),(.int 0 0),(.ref 141),(.int 41 0),(.int 0 0),(.ref 153)]),#[]⟩
noncomputable def o7 (P:Params):Obj:=⟨(.type "tuple"),none,(.seq #[(.str "k" 190)] 0),#[]⟩
noncomputable def o8 (P:Params):Obj:=fo .none (nd hM 0) "_wall" 0 .none .none .none .none none .none .none 0
noncomputable def o9 (P:Params):Obj:=co "_wall" "_wall" 187 1 1 3 15 true 16 (.ref 17) (.ref 18) (.ref 19) 191 192
noncomputable def o10 (P:Params):Obj:=fo (.type "function") (nd hM 0) "_wall" 3 .none .none .none (.str "__main__" 164) none (.ref 20) .none 0
noncomputable def o11 (P:Params):Obj:=⟨(.type "tuple"),none,(.seq #[(.type "Exception")] 0),#[]⟩
noncomputable def o12 (P:Params):Obj:=⟨(.type "builtin_function_or_method"),none,(.fields #[(.builtin "type.__prepare__"),(.type "type")]),#[]⟩
noncomputable def o13 (P:Params):Obj:=⟨(.type "dict"),none,(.dict #[(de P "__module__" 203 (.str "yaml.error" 194)),(de P "__qualname__" 205 (.str "YAMLError" 204)),(de P "__firstlineno__" 207 (.int 5 206)),(de P "__static_attributes__" 208 (.ref 29))] 4),#[]⟩
noncomputable def o14 (P:Params):Obj:=co "YAMLError" "YAMLError" 198 5 0 0 25 false 26 .none .none .none 201 202
noncomputable def o15 (P:Params):Obj:=⟨(.type "frame"),none,.plain,#[(some (.ref 27)),(some (.ref 3)),(some (.ref 24)),none,(some (.str "yaml.error" 194)),none,(some (.ref 0))]⟩
noncomputable def o16 (P:Params):Obj:=⟨(.type "dict"),none,(.dict #[(de P "__module__" 203 (.str "yaml.error" 194)),(de P "__firstlineno__" 207 (.int 5 206)),(de P "__static_attributes__" 208 (.ref 29)),(de P "__weakref__" 210 (.ref 32)),(de P "__doc__" 211 .none)] 3),#[]⟩
noncomputable def o17 (P:Params):Obj:=⟨(.type "type"),none,(.cls (PySem.ClassData.mk "YAMLError" [(.type "Exception")] [(.ref 31),(.type "Exception"),(.type "BaseException"),(.type "object")] 30 "YAMLError" true [] [] false none false)),#[(some (.ref 22)),none,(some (.str "YAMLError" 196)),(some (.str "YAMLError" 204)),(some (.builtin "Exception.__new__")),(some (.bool true))]⟩
noncomputable def o18 (P:Params):Obj:=⟨(.type "getset_descriptor"),none,(.fields #[(.str "__weakref__" 209),(.ref 31),(.builtin "ExceptionGroup.__weakref__"),.none]),#[]⟩
noncomputable def o19 (P:Params):Obj:=⟨(.type "super"),none,(.fields #[(.ref 31),(.ref 31),(.ref 31)]),#[]⟩
noncomputable def o20 (P:Params):Obj:=⟨(.type "builtin_function_or_method"),none,(.fields #[(.builtin "object.__init_subclass__"),(.ref 31)]),#[]⟩
noncomputable def o21 (P:Params):Obj:=⟨(.type "tuple"),none,(.seq #[(.type "object")] 0),#[]⟩
noncomputable def o22 (P:Params):Obj:=⟨(.type "dict"),none,(.dict #[(de P "__module__" 225 (.str "yaml.events" 216)),(de P "__qualname__" 227 (.str "Event" 226)),(de P "__firstlineno__" 229 (.int 8 228)),(de P "__init__" 238 (.ref 49)),(de P "__repr__" 245 (.ref 56)),(de P "__static_attributes__" 248 (.ref 57))] 6),#[]⟩
noncomputable def o23 (P:Params):Obj:=⟨.none,none,(.fields #[(.int 10 0),(.int 4 0),(.ref 48),(.int 14 0),(.int 4 0),(.ref 55)]),#[]⟩
noncomputable def o24 (P:Params):Obj:=co "Event" "Event" 220 8 0 0 38 false 39 .none .none .none 223 224
noncomputable def o25 (P:Params):Obj:=⟨(.type "frame"),none,.plain,#[(some (.ref 40)),(some (.ref 3)),(some (.ref 37)),none,(some (.str "yaml.events" 216)),none,(some (.ref 0))]⟩
noncomputable def o26 (P:Params):Obj:=⟨(.type "tuple"),none,(.seq #[.none,.none] 0),#[]⟩
noncomputable def o27 (P:Params):Obj:=⟨(.type "tuple"),none,(.seq #[(.str "self" 233),(.str "start_mark" 234),(.str "end_mark" 235)] 0),#[]⟩
noncomputable def o28 (P:Params):Obj:=fo .none (nd (cb hM 4) 0) "Event.__init__" 0 .none .none .none .none none .none .none 0
noncomputable def o29 (P:Params):Obj:=co "__init__" "Event.__init__" 230 10 3 3 43 true 44 (.ref 45) (.ref 46) (.ref 47) 236 237
noncomputable def o30 (P:Params):Obj:=fo (.type "function") (nd (cb hM 4) 0) "Event.__init__" 3 (.ref 42) .none .none (.str "yaml.events" 216) none (.ref 48) .none 0
noncomputable def o31 (P:Params):Obj:=⟨(.type "tuple"),none,(.seq #[(.str "self" 242)] 0),#[]⟩
noncomputable def o32 (P:Params):Obj:=fo .none (nd (cb hM 4) 1) "Event.__repr__" 0 .none .none .none .none none .none .none 0
noncomputable def o33 (P:Params):Obj:=co "__repr__" "Event.__repr__" 239 14 1 3 50 true 51 (.ref 52) (.ref 53) (.ref 54) 243 244
noncomputable def o34 (P:Params):Obj:=fo (.type "function") (nd (cb hM 4) 1) "Event.__repr__" 3 .none .none .none (.str "yaml.events" 216) none (.ref 55) .none 0
noncomputable def o35 (P:Params):Obj:=⟨(.type "tuple"),none,(.seq #[(.str "end_mark" 246),(.str "start_mark" 247)] 0),#[]⟩
noncomputable def o36 (P:Params):Obj:=⟨(.type "dict"),none,(.dict #[(de P "__module__" 225 (.str "yaml.events" 216)),(de P "__firstlineno__" 229 (.int 8 228)),(de P "__init__" 238 (.ref 49)),(de P "__repr__" 245 (.ref 56)),(de P "__static_attributes__" 248 (.ref 57)),(de P "__dict__" 250 (.ref 60)),(de P "__weakref__" 252 (.ref 61)),(de P "__doc__" 253 .none)] 4),#[]⟩
noncomputable def o37 (P:Params):Obj:=⟨(.type "type"),none,(.cls (PySem.ClassData.mk "Event" [(.type "object")] [(.ref 59),(.type "object")] 58 "Event" true [] [(.ref 81),(.ref 113),(.ref 133),(.ref 145),(.ref 165)] false none false)),#[(some (.ref 35)),none,(some (.str "Event" 218)),(some (.str "Event" 226)),(some (.builtin "object.__new__")),(some (.bool true))]⟩
noncomputable def o38 (P:Params):Obj:=⟨(.type "getset_descriptor"),none,(.fields #[(.str "__dict__" 249),(.ref 59),(.builtin "function.__dict__"),(.builtin "function.__dict__#set")]),#[]⟩
noncomputable def o39 (P:Params):Obj:=⟨(.type "getset_descriptor"),none,(.fields #[(.str "__weakref__" 251),(.ref 59),(.builtin "ExceptionGroup.__weakref__"),.none]),#[]⟩
noncomputable def o40 (P:Params):Obj:=⟨(.type "super"),none,(.fields #[(.ref 59),(.ref 59),(.ref 59)]),#[]⟩
noncomputable def o41 (P:Params):Obj:=⟨(.type "builtin_function_or_method"),none,(.fields #[(.builtin "object.__init_subclass__"),(.ref 59)]),#[]⟩
noncomputable def o42 (P:Params):Obj:=⟨(.type "tuple"),none,(.seq #[(.ref 59)] 0),#[]⟩
noncomputable def o43 (P:Params):Obj:=⟨(.type "dict"),none,(.dict #[(de P "__module__" 263 (.str "yaml.events" 216)),(de P "__qualname__" 265 (.str "NodeEvent" 264)),(de P "__firstlineno__" 267 (.int 16 266)),(de P "__init__" 277 (.ref 78)),(de P "__static_attributes__" 281 (.ref 79))] 5),#[]⟩
noncomputable def o44 (P:Params):Obj:=⟨.none,none,(.fields #[(.int 18 0),(.int 4 0),(.ref 77)]),#[]⟩
noncomputable def o45 (P:Params):Obj:=co "NodeEvent" "NodeEvent" 258 16 0 0 67 false 68 .none .none .none 261 262
noncomputable def o46 (P:Params):Obj:=⟨(.type "frame"),none,.plain,#[(some (.ref 69)),(some (.ref 3)),(some (.ref 66)),none,(some (.str "yaml.events" 216)),none,(some (.ref 0))]⟩
noncomputable def o47 (P:Params):Obj:=⟨(.type "tuple"),none,(.seq #[(.str "self" 271),(.str "anchor" 272),(.str "start_mark" 273),(.str "end_mark" 274)] 0),#[]⟩
noncomputable def o48 (P:Params):Obj:=fo .none (nd (cb hM 5) 0) "NodeEvent.__init__" 0 .none .none .none .none none .none .none 0
noncomputable def o49 (P:Params):Obj:=co "__init__" "NodeEvent.__init__" 268 18 4 3 72 true 73 (.ref 74) (.ref 75) (.ref 76) 275 276
noncomputable def o50 (P:Params):Obj:=fo (.type "function") (nd (cb hM 5) 0) "NodeEvent.__init__" 3 (.ref 71) .none .none (.str "yaml.events" 216) none (.ref 77) .none 0
noncomputable def o51 (P:Params):Obj:=⟨(.type "tuple"),none,(.seq #[(.str "anchor" 278),(.str "end_mark" 279),(.str "start_mark" 280)] 0),#[]⟩
noncomputable def o52 (P:Params):Obj:=⟨(.type "dict"),none,(.dict #[(de P "__module__" 263 (.str "yaml.events" 216)),(de P "__firstlineno__" 267 (.int 16 266)),(de P "__init__" 277 (.ref 78)),(de P "__static_attributes__" 281 (.ref 79)),(de P "__doc__" 282 .none)] 2),#[]⟩
noncomputable def o53 (P:Params):Obj:=⟨(.type "type"),none,(.cls (PySem.ClassData.mk "NodeEvent" [(.ref 59)] [(.ref 81),(.ref 59),(.type "object")] 80 "NodeEvent" true [] [(.ref 101)] false none false)),#[(some (.ref 64)),none,(some (.str "NodeEvent" 256)),(some (.str "NodeEvent" 264)),(some (.builtin "object.__new__")),(some (.bool true))]⟩
noncomputable def o54 (P:Params):Obj:=⟨(.type "super"),none,(.fields #[(.ref 81),(.ref 81),(.ref 81)]),#[]⟩
noncomputable def o55 (P:Params):Obj:=⟨(.type "builtin_function_or_method"),none,(.fields #[(.builtin "object.__init_subclass__"),(.ref 81)]),#[]⟩
noncomputable def o56 (P:Params):Obj:=⟨(.type "tuple"),none,(.seq #[(.ref 81)] 0),#[]⟩
noncomputable def o57 (P:Params):Obj:=⟨(.type "dict"),none,(.dict #[(de P "__module__" 292 (.str "yaml.events" 216)),(de P "__qualname__" 294 (.str "CollectionStartEvent" 293)),(de P "__firstlineno__" 296 (.int 22 295)),(de P "__init__" 309 (.ref 98)),(de P "__static_attributes__" 316 (.ref 99))] 5),#[]⟩
noncomputable def o58 (P:Params):Obj:=⟨.none,none,(.fields #[(.int 24 0),(.int 4 0),(.ref 97)]),#[]⟩
noncomputable def o59 (P:Params):Obj:=co "CollectionStartEvent" "CollectionStartEvent" 287 22 0 0 87 false 88 .none .none .none 290 291
noncomputable def o60 (P:Params):Obj:=⟨(.type "frame"),none,.plain,#[(some (.ref 89)),(some (.ref 3)),(some (.ref 86)),none,(some (.str "yaml.events" 216)),none,(some (.ref 0))]⟩
noncomputable def o61 (P:Params):Obj:=⟨(.type "tuple"),none,(.seq #[.none,.none,.none] 0),#[]⟩
noncomputable def o62 (P:Params):Obj:=⟨(.type "tuple"),none,(.seq #[(.str "self" 300),(.str "anchor" 301),(.str "tag" 302),(.str "implicit" 303),(.str "start_mark" 304),(.str "end_mark" 305),(.str "flow_style" 306)] 0),#[]⟩
noncomputable def o63 (P:Params):Obj:=fo .none (nd (cb hM 6) 0) "CollectionStartEvent.__init__" 0 .none .none .none .none none .none .none 0
noncomputable def o64 (P:Params):Obj:=co "__init__" "CollectionStartEvent.__init__" 297 24 7 3 92 true 93 (.ref 94) (.ref 95) (.ref 96) 307 308
noncomputable def o65 (P:Params):Obj:=fo (.type "function") (nd (cb hM 6) 0) "CollectionStartEvent.__init__" 3 (.ref 91) .none .none (.str "yaml.events" 216) none (.ref 97) .none 0
noncomputable def o66 (P:Params):Obj:=⟨(.type "tuple"),none,(.seq #[(.str "anchor" 310),(.str "end_mark" 311),(.str "flow_style" 312),(.str "implicit" 313),(.str "start_mark" 314),(.str "tag" 315)] 0),#[]⟩
noncomputable def o67 (P:Params):Obj:=⟨(.type "dict"),none,(.dict #[(de P "__module__" 292 (.str "yaml.events" 216)),(de P "__firstlineno__" 296 (.int 22 295)),(de P "__init__" 309 (.ref 98)),(de P "__static_attributes__" 316 (.ref 99)),(de P "__doc__" 317 .none)] 2),#[]⟩
noncomputable def o68 (P:Params):Obj:=⟨(.type "type"),none,(.cls (PySem.ClassData.mk "CollectionStartEvent" [(.ref 81)] [(.ref 101),(.ref 81),(.ref 59),(.type "object")] 100 "CollectionStartEvent" true [] [] false none false)),#[(some (.ref 84)),none,(some (.str "CollectionStartEvent" 285)),(some (.str "CollectionStartEvent" 293)),(some (.builtin "object.__new__")),(some (.bool true))]⟩
noncomputable def o69 (P:Params):Obj:=⟨(.type "super"),none,(.fields #[(.ref 101),(.ref 101),(.ref 101)]),#[]⟩
noncomputable def o70 (P:Params):Obj:=⟨(.type "builtin_function_or_method"),none,(.fields #[(.builtin "object.__init_subclass__"),(.ref 101)]),#[]⟩
noncomputable def o71 (P:Params):Obj:=⟨(.type "dict"),none,(.dict #[(de P "__module__" 327 (.str "yaml.events" 216)),(de P "__qualname__" 329 (.str "CollectionEndEvent" 328)),(de P "__firstlineno__" 331 (.int 31 330)),(de P "__static_attributes__" 332 (.ref 111))] 4),#[]⟩
noncomputable def o72 (P:Params):Obj:=co "CollectionEndEvent" "CollectionEndEvent" 322 31 0 0 107 false 108 .none .none .none 325 326
noncomputable def o73 (P:Params):Obj:=⟨(.type "frame"),none,.plain,#[(some (.ref 109)),(some (.ref 3)),(some (.ref 106)),none,(some (.str "yaml.events" 216)),none,(some (.ref 0))]⟩
noncomputable def o74 (P:Params):Obj:=⟨(.type "dict"),none,(.dict #[(de P "__module__" 327 (.str "yaml.events" 216)),(de P "__firstlineno__" 331 (.int 31 330)),(de P "__static_attributes__" 332 (.ref 111)),(de P "__doc__" 333 .none)] 2),#[]⟩
noncomputable def o75 (P:Params):Obj:=⟨(.type "type"),none,(.cls (PySem.ClassData.mk "CollectionEndEvent" [(.ref 59)] [(.ref 113),(.ref 59),(.type "object")] 112 "CollectionEndEvent" true [] [] false none false)),#[(some (.ref 104)),none,(some (.str "CollectionEndEvent" 320)),(some (.str "CollectionEndEvent" 328)),(some (.builtin "object.__new__")),(some (.bool true))]⟩
noncomputable def o76 (P:Params):Obj:=⟨(.type "super"),none,(.fields #[(.ref 113),(.ref 113),(.ref 113)]),#[]⟩
noncomputable def o77 (P:Params):Obj:=⟨(.type "builtin_function_or_method"),none,(.fields #[(.builtin "object.__init_subclass__"),(.ref 113)]),#[]⟩
noncomputable def o78 (P:Params):Obj:=⟨(.type "dict"),none,(.dict #[(de P "__module__" 343 (.str "yaml.events" 216)),(de P "__qualname__" 345 (.str "StreamStartEvent" 344)),(de P "__firstlineno__" 347 (.int 33 346)),(de P "__init__" 357 (.ref 130)),(de P "__static_attributes__" 361 (.ref 131))] 5),#[]⟩
noncomputable def o79 (P:Params):Obj:=⟨.none,none,(.fields #[(.int 35 0),(.int 4 0),(.ref 129)]),#[]⟩
noncomputable def o80 (P:Params):Obj:=co "StreamStartEvent" "StreamStartEvent" 338 33 0 0 119 false 120 .none .none .none 341 342
noncomputable def o81 (P:Params):Obj:=⟨(.type "frame"),none,.plain,#[(some (.ref 121)),(some (.ref 3)),(some (.ref 118)),none,(some (.str "yaml.events" 216)),none,(some (.ref 0))]⟩
noncomputable def o82 (P:Params):Obj:=⟨(.type "tuple"),none,(.seq #[(.str "self" 351),(.str "start_mark" 352),(.str "end_mark" 353),(.str "encoding" 354)] 0),#[]⟩
noncomputable def o83 (P:Params):Obj:=fo .none (nd (cb hM 8) 0) "StreamStartEvent.__init__" 0 .none .none .none .none none .none .none 0
noncomputable def o84 (P:Params):Obj:=co "__init__" "StreamStartEvent.__init__" 348 35 4 3 124 true 125 (.ref 126) (.ref 127) (.ref 128) 355 356
noncomputable def o85 (P:Params):Obj:=fo (.type "function") (nd (cb hM 8) 0) "StreamStartEvent.__init__" 3 (.ref 123) .none .none (.str "yaml.events" 216) none (.ref 129) .none 0
noncomputable def o86 (P:Params):Obj:=⟨(.type "tuple"),none,(.seq #[(.str "encoding" 358),(.str "end_mark" 359),(.str "start_mark" 360)] 0),#[]⟩
noncomputable def o87 (P:Params):Obj:=⟨(.type "dict"),none,(.dict #[(de P "__module__" 343 (.str "yaml.events" 216)),(de P "__firstlineno__" 347 (.int 33 346)),(de P "__init__" 357 (.ref 130)),(de P "__static_attributes__" 361 (.ref 131)),(de P "__doc__" 362 .none)] 2),#[]⟩
noncomputable def o88 (P:Params):Obj:=⟨(.type "type"),none,(.cls (PySem.ClassData.mk "StreamStartEvent" [(.ref 59)] [(.ref 133),(.ref 59),(.type "object")] 132 "StreamStartEvent" true [] [] false none false)),#[(some (.ref 116)),none,(some (.str "StreamStartEvent" 336)),(some (.str "StreamStartEvent" 344)),(some (.builtin "object.__new__")),(some (.bool true))]⟩
noncomputable def o89 (P:Params):Obj:=⟨(.type "super"),none,(.fields #[(.ref 133),(.ref 133),(.ref 133)]),#[]⟩
noncomputable def o90 (P:Params):Obj:=⟨(.type "builtin_function_or_method"),none,(.fields #[(.builtin "object.__init_subclass__"),(.ref 133)]),#[]⟩
noncomputable def o91 (P:Params):Obj:=⟨(.type "dict"),none,(.dict #[(de P "__module__" 372 (.str "yaml.events" 216)),(de P "__qualname__" 374 (.str "StreamEndEvent" 373)),(de P "__firstlineno__" 376 (.int 39 375)),(de P "__static_attributes__" 377 (.ref 143))] 4),#[]⟩
noncomputable def o92 (P:Params):Obj:=co "StreamEndEvent" "StreamEndEvent" 367 39 0 0 139 false 140 .none .none .none 370 371
noncomputable def o93 (P:Params):Obj:=⟨(.type "frame"),none,.plain,#[(some (.ref 141)),(some (.ref 3)),(some (.ref 138)),none,(some (.str "yaml.events" 216)),none,(some (.ref 0))]⟩
noncomputable def o94 (P:Params):Obj:=⟨(.type "dict"),none,(.dict #[(de P "__module__" 372 (.str "yaml.events" 216)),(de P "__firstlineno__" 376 (.int 39 375)),(de P "__static_attributes__" 377 (.ref 143)),(de P "__doc__" 378 .none)] 2),#[]⟩
noncomputable def o95 (P:Params):Obj:=⟨(.type "type"),none,(.cls (PySem.ClassData.mk "StreamEndEvent" [(.ref 59)] [(.ref 145),(.ref 59),(.type "object")] 144 "StreamEndEvent" true [] [] false none false)),#[(some (.ref 136)),none,(some (.str "StreamEndEvent" 365)),(some (.str "StreamEndEvent" 373)),(some (.builtin "object.__new__")),(some (.bool true))]⟩
noncomputable def o96 (P:Params):Obj:=⟨(.type "super"),none,(.fields #[(.ref 145),(.ref 145),(.ref 145)]),#[]⟩
noncomputable def o97 (P:Params):Obj:=⟨(.type "builtin_function_or_method"),none,(.fields #[(.builtin "object.__init_subclass__"),(.ref 145)]),#[]⟩
noncomputable def o98 (P:Params):Obj:=⟨(.type "dict"),none,(.dict #[(de P "__module__" 388 (.str "yaml.events" 216)),(de P "__qualname__" 390 (.str "DocumentStartEvent" 389)),(de P "__firstlineno__" 392 (.int 41 391)),(de P "__init__" 404 (.ref 162)),(de P "__static_attributes__" 410 (.ref 163))] 5),#[]⟩
noncomputable def o99 (P:Params):Obj:=⟨.none,none,(.fields #[(.int 43 0),(.int 4 0),(.ref 161)]),#[]⟩
noncomputable def o100 (P:Params):Obj:=co "DocumentStartEvent" "DocumentStartEvent" 383 41 0 0 151 false 152 .none .none .none 386 387
noncomputable def o101 (P:Params):Obj:=⟨(.type "frame"),none,.plain,#[(some (.ref 153)),(some (.ref 3)),(some (.ref 150)),none,(some (.str "yaml.events" 216)),none,(some (.ref 0))]⟩
noncomputable def o102 (P:Params):Obj:=⟨(.type "tuple"),none,(.seq #[.none,.none,.none,.none,.none] 0),#[]⟩
noncomputable def o103 (P:Params):Obj:=⟨(.type "tuple"),none,(.seq #[(.str "self" 396),(.str "start_mark" 397),(.str "end_mark" 398),(.str "explicit" 399),(.str "version" 400),(.str "tags" 401)] 0),#[]⟩
noncomputable def o104 (P:Params):Obj:=fo .none (nd (cb hM 10) 0) "DocumentStartEvent.__init__" 0 .none .none .none .none none .none .none 0
noncomputable def o105 (P:Params):Obj:=co "__init__" "DocumentStartEvent.__init__" 393 43 6 3 156 true 157 (.ref 158) (.ref 159) (.ref 160) 402 403
noncomputable def o106 (P:Params):Obj:=fo (.type "function") (nd (cb hM 10) 0) "DocumentStartEvent.__init__" 3 (.ref 155) .none .none (.str "yaml.events" 216) none (.ref 161) .none 0
noncomputable def o107 (P:Params):Obj:=⟨(.type "tuple"),none,(.seq #[(.str "end_mark" 405),(.str "explicit" 406),(.str "start_mark" 407),(.str "tags" 408),(.str "version" 409)] 0),#[]⟩
noncomputable def o108 (P:Params):Obj:=⟨(.type "dict"),none,(.dict #[(de P "__module__" 388 (.str "yaml.events" 216)),(de P "__firstlineno__" 392 (.int 41 391)),(de P "__init__" 404 (.ref 162)),(de P "__static_attributes__" 410 (.ref 163)),(de P "__doc__" 411 .none)] 2),#[]⟩
noncomputable def o109 (P:Params):Obj:=⟨(.type "type"),none,(.cls (PySem.ClassData.mk "DocumentStartEvent" [(.ref 59)] [(.ref 165),(.ref 59),(.type "object")] 164 "DocumentStartEvent" true [] [] false none false)),#[(some (.ref 148)),none,(some (.str "DocumentStartEvent" 381)),(some (.str "DocumentStartEvent" 389)),(some (.builtin "object.__new__")),(some (.bool true))]⟩
noncomputable def o110 (P:Params):Obj:=⟨(.type "super"),none,(.fields #[(.ref 165),(.ref 165),(.ref 165)]),#[]⟩
noncomputable def o111 (P:Params):Obj:=⟨(.type "builtin_function_or_method"),none,(.fields #[(.builtin "object.__init_subclass__"),(.ref 165)]),#[]⟩
noncomputable def L0 (P:Params):List Obj:=[boot_o_0 P,boot_o_1 P,o4 P,o5 P,boot_o_4 P,boot_o_5 P,boot_o_6 P,boot_o_7 P,boot_o_8 P,boot_o_9 P,boot_o_10 P,o0 P,o6 P,o2 P,o3 P,o0 P,o1 P,o7 P,o0 P,o8 P,o9 P,o10 P,o11 P,o12 P,o13 P,o0 P,o1 P,o14 P,o15 P,o0 P,o16 P,o17 P,o18 P,o19 P,o20 P,o21 P,o12 P,o22 P,o0 P,o23 P,o24 P,o25 P,o26 P,o0 P,o1 P,o27 P,o0 P,o28 P,o29 P,o30 P,o0 P,o1 P,o31 P,o0 P,o32 P,o33 P,o34 P,o35 P,o36 P,o37 P,o38 P,o39 P,o40 P,o41 P,o42 P,o12 P,o43 P,o0 P,o44 P,o45 P,o46 P,o26 P,o0 P,o1 P,o47 P,o0 P,o48 P,o49 P,o50 P,o51 P,o52 P,o53 P,o54 P,o55 P,o56 P,o12 P,o57 P,o0 P,o58 P,o59 P,o60 P,o61 P,o0 P,o1 P,o62 P,o0 P,o63 P,o64 P,o65 P,o66 P,o67 P,o68 P,o69 P,o70 P,o42 P,o12 P,o71 P,o0 P,o1 P,o72 P,o73 P,o0 P,o74 P,o75 P,o76 P,o77 P,o42 P,o12 P,o78 P,o0 P,o79 P,o80 P,o81 P,o61 P,o0 P,o1 P,o82 P,o0 P,o83 P,o84 P,o85 P,o86 P,o87 P,o88 P,o89 P,o90 P,o42 P,o12 P,o91 P,o0 P,o1 P,o92 P,o93 P,o0 P,o94 P,o95 P,o96 P,o97 P,o42 P,o12 P,o98 P,o0 P,o99 P,o100 P,o101 P,o102 P,o0 P,o1 P,o103 P,o0 P,o104 P,o105 P,o106 P,o107 P,o108 P,o109 P,o110 P,o111 P]
noncomputable def o112 (P:Params):Obj:=⟨(.type "dict"),none,(.dict #[(de P "__name__" 165 (.str "yaml.emitter" 560)),(de P "__doc__" 166 .none),(de P "__package__" 167 .none),(de P "__loader__" 168 (.builtin "__main__.__loader__#opaque")),(de P "__spec__" 169 .none),(de P "__annotations__" 170 (.ref 6)),(de P "__builtins__" 171 (.ref 4)),(de P "__file__" 173 (.str "/claim/cut.py" 172)),(de P "__cached__" 174 .none),(de P "_wall" 193 (.ref 21)),(de P "YAMLError" 215 (.ref 31)),(de P "Event" 255 (.ref 59)),(de P "NodeEvent" 284 (.ref 81)),(de P "CollectionStartEvent" 319 (.ref 101)),(de P "CollectionEndEvent" 335 (.ref 113)),(de P "StreamStartEvent" 364 (.ref 133)),(de P "StreamEndEvent" 380 (.ref 145)),(de P "DocumentStartEvent" 413 (.ref 165)),(de P "DocumentEndEvent" 442 (.ref 185)),(de P "AliasEvent" 458 (.ref 197)),(de P "ScalarEvent" 495 (.ref 217)),(de P "SequenceStartEvent" 511 (.ref 229)),(de P "SequenceEndEvent" 527 (.ref 241)),(de P "MappingStartEvent" 543 (.ref 253)),(de P "MappingEndEvent" 559 (.ref 265)),(de P "EmitterError" 577 (.ref 277))] 26),#[]⟩
noncomputable def o113 (P:Params):Obj:=⟨.none,none,(.fields #[(.int 1 0),(.int 0 0),(.ref 20),(.int 5 0),(.int 0 0),(.ref 27),(.int 8 0),(.int 0 0),(.ref 40),(.int 16 0),(.int 0 0),(.ref 69),(.int 22 0),(.int 0 0),(.ref 89),(.int 31 0),(.int 0 0),(.ref 109),(.int 33 0),(.int 0 0),(.ref 121),(.int 39 0),(.int 0 0),(.ref 141),(.int 41 0),(.int 0 0),(.ref 153),(.int 49 0),(.int 0 0),(.ref 173),(.int 55 0),(.int 0 0),(.ref 193),(.int 57 0),(.int 0 0),(.ref 205),(.int 67 0),(.int 0 0),(.ref 225),(.int 69 0),(.int 0 0),(.ref 237),(.int 71 0),(.int 0 0),(.ref 249),(.int 73 0),(.int 0 0),(.ref 261),(.int 76 0),(.int 0 0),(.ref 273)]),#[]⟩
noncomputable def o114 (P:Params):Obj:=⟨(.type "type"),none,(.cls (PySem.ClassData.mk "YAMLError" [(.type "Exception")] [(.ref 31),(.type "Exception"),(.type "BaseException"),(.type "object")] 30 "YAMLError" true [] [(.ref 277)] false none false)),#[(some (.ref 22)),none,(some (.str "YAMLError" 196)),(some (.str "YAMLError" 204)),(some (.builtin "Exception.__new__")),(some (.bool true))]⟩
noncomputable def o115 (P:Params):Obj:=⟨(.type "type"),none,(.cls (PySem.ClassData.mk "Event" [(.type "object")] [(.ref 59),(.type "object")] 58 "Event" true [] [(.ref 81),(.ref 113),(.ref 133),(.ref 145),(.ref 165),(.ref 185)] false none false)),#[(some (.ref 35)),none,(some (.str "Event" 218)),(some (.str "Event" 226)),(some (.builtin "object.__new__")),(some (.bool true))]⟩
noncomputable def o116 (P:Params):Obj:=⟨(.type "type"),none,(.cls (PySem.ClassData.mk "NodeEvent" [(.ref 59)] [(.ref 81),(.ref 59),(.type "object")] 80 "NodeEvent" true [] [(.ref 101),(.ref 197),(.ref 217)] false none false)),#[(some (.ref 64)),none,(some (.str "NodeEvent" 256)),(some (.str "NodeEvent" 264)),(some (.builtin "object.__new__")),(some (.bool true))]⟩
noncomputable def o117 (P:Params):Obj:=⟨(.type "type"),none,(.cls (PySem.ClassData.mk "CollectionStartEvent" [(.ref 81)] [(.ref 101),(.ref 81),(.ref 59),(.type "object")] 100 "CollectionStartEvent" true [] [(.ref 229),(.ref 253)] false none false)),#[(some (.ref 84)),none,(some (.str "CollectionStartEvent" 285)),(some (.str "CollectionStartEvent" 293)),(some (.builtin "object.__new__")),(some (.bool true))]⟩
noncomputable def o118 (P:Params):Obj:=⟨(.type "type"),none,(.cls (PySem.ClassData.mk "CollectionEndEvent" [(.ref 59)] [(.ref 113),(.ref 59),(.type "object")] 112 "CollectionEndEvent" true [] [(.ref 241),(.ref 265)] false none false)),#[(some (.ref 104)),none,(some (.str "CollectionEndEvent" 320)),(some (.str "CollectionEndEvent" 328)),(some (.builtin "object.__new__")),(some (.bool true))]⟩
noncomputable def o119 (P:Params):Obj:=⟨(.type "dict"),none,(.dict #[(de P "__module__" 421 (.str "yaml.events" 216)),(de P "__qualname__" 423 (.str "DocumentEndEvent" 422)),(de P "__firstlineno__" 425 (.int 49 424)),(de P "__init__" 435 (.ref 182)),(de P "__static_attributes__" 439 (.ref 183))] 5),#[]⟩
noncomputable def o120 (P:Params):Obj:=⟨.none,none,(.fields #[(.int 51 0),(.int 4 0),(.ref 181)]),#[]⟩
noncomputable def o121 (P:Params):Obj:=co "DocumentEndEvent" "DocumentEndEvent" 416 49 0 0 171 false 172 .none .none .none 419 420
noncomputable def o122 (P:Params):Obj:=⟨(.type "frame"),none,.plain,#[(some (.ref 173)),(some (.ref 3)),(some (.ref 170)),none,(some (.str "yaml.events" 216)),none,(some (.ref 0))]⟩
noncomputable def o123 (P:Params):Obj:=⟨(.type "tuple"),none,(.seq #[(.str "self" 429),(.str "start_mark" 430),(.str "end_mark" 431),(.str "explicit" 432)] 0),#[]⟩
noncomputable def o124 (P:Params):Obj:=fo .none (nd (cb hM 11) 0) "DocumentEndEvent.__init__" 0 .none .none .none .none none .none .none 0
noncomputable def o125 (P:Params):Obj:=co "__init__" "DocumentEndEvent.__init__" 426 51 4 3 176 true 177 (.ref 178) (.ref 179) (.ref 180) 433 434
noncomputable def o126 (P:Params):Obj:=fo (.type "function") (nd (cb hM 11) 0) "DocumentEndEvent.__init__" 3 (.ref 175) .none .none (.str "yaml.events" 216) none (.ref 181) .none 0
noncomputable def o127 (P:Params):Obj:=⟨(.type "tuple"),none,(.seq #[(.str "end_mark" 436),(.str "explicit" 437),(.str "start_mark" 438)] 0),#[]⟩
noncomputable def o128 (P:Params):Obj:=⟨(.type "dict"),none,(.dict #[(de P "__module__" 421 (.str "yaml.events" 216)),(de P "__firstlineno__" 425 (.int 49 424)),(de P "__init__" 435 (.ref 182)),(de P "__static_attributes__" 439 (.ref 183)),(de P "__doc__" 440 .none)] 2),#[]⟩
noncomputable def o129 (P:Params):Obj:=⟨(.type "type"),none,(.cls (PySem.ClassData.mk "DocumentEndEvent" [(.ref 59)] [(.ref 185),(.ref 59),(.type "object")] 184 "DocumentEndEvent" true [] [] false none false)),#[(some (.ref 168)),none,(some (.str "DocumentEndEvent" 414)),(some (.str "DocumentEndEvent" 422)),(some (.builtin "object.__new__")),(some (.bool true))]⟩
noncomputable def o130 (P:Params):Obj:=⟨(.type "super"),none,(.fields #[(.ref 185),(.ref 185),(.ref 185)]),#[]⟩
noncomputable def o131 (P:Params):Obj:=⟨(.type "builtin_function_or_method"),none,(.fields #[(.builtin "object.__init_subclass__"),(.ref 185)]),#[]⟩
noncomputable def o132 (P:Params):Obj:=⟨(.type "dict"),none,(.dict #[(de P "__module__" 450 (.str "yaml.events" 216)),(de P "__qualname__" 452 (.str "AliasEvent" 451)),(de P "__firstlineno__" 454 (.int 55 453)),(de P "__static_attributes__" 455 (.ref 195))] 4),#[]⟩
noncomputable def o133 (P:Params):Obj:=co "AliasEvent" "AliasEvent" 445 55 0 0 191 false 192 .none .none .none 448 449
noncomputable def o134 (P:Params):Obj:=⟨(.type "frame"),none,.plain,#[(some (.ref 193)),(some (.ref 3)),(some (.ref 190)),none,(some (.str "yaml.events" 216)),none,(some (.ref 0))]⟩
noncomputable def o135 (P:Params):Obj:=⟨(.type "dict"),none,(.dict #[(de P "__module__" 450 (.str "yaml.events" 216)),(de P "__firstlineno__" 454 (.int 55 453)),(de P "__static_attributes__" 455 (.ref 195)),(de P "__doc__" 456 .none)] 2),#[]⟩
noncomputable def o136 (P:Params):Obj:=⟨(.type "type"),none,(.cls (PySem.ClassData.mk "AliasEvent" [(.ref 81)] [(.ref 197),(.ref 81),(.ref 59),(.type "object")] 196 "AliasEvent" true [] [] false none false)),#[(some (.ref 188)),none,(some (.str "AliasEvent" 443)),(some (.str "AliasEvent" 451)),(some (.builtin "object.__new__")),(some (.bool true))]⟩
noncomputable def o137 (P:Params):Obj:=⟨(.type "super"),none,(.fields #[(.ref 197),(.ref 197),(.ref 197)]),#[]⟩
noncomputable def o138 (P:Params):Obj:=⟨(.type "builtin_function_or_method"),none,(.fields #[(.builtin "object.__init_subclass__"),(.ref 197)]),#[]⟩
noncomputable def o139 (P:Params):Obj:=⟨(.type "dict"),none,(.dict #[(de P "__module__" 466 (.str "yaml.events" 216)),(de P "__qualname__" 468 (.str "ScalarEvent" 467)),(de P "__firstlineno__" 470 (.int 57 469)),(de P "__init__" 484 (.ref 214)),(de P "__static_attributes__" 492 (.ref 215))] 5),#[]⟩
noncomputable def o140 (P:Params):Obj:=⟨.none,none,(.fields #[(.int 59 0),(.int 4 0),(.ref 213)]),#[]⟩
noncomputable def o141 (P:Params):Obj:=co "ScalarEvent" "ScalarEvent" 461 57 0 0 203 false 204 .none .none .none 464 465
noncomputable def o142 (P:Params):Obj:=⟨(.type "frame"),none,.plain,#[(some (.ref 205)),(some (.ref 3)),(some (.ref 202)),none,(some (.str "yaml.events" 216)),none,(some (.ref 0))]⟩
noncomputable def o143 (P:Params):Obj:=⟨(.type "tuple"),none,(.seq #[(.str "self" 474),(.str "anchor" 475),(.str "tag" 476),(.str "implicit" 477),(.str "value" 478),(.str "start_mark" 479),(.str "end_mark" 480),(.str "style" 481)] 0),#[]⟩
noncomputable def o144 (P:Params):Obj:=fo .none (nd (cb hM 13) 0) "ScalarEvent.__init__" 0 .none .none .none .none none .none .none 0
noncomputable def o145 (P:Params):Obj:=co "__init__" "ScalarEvent.__init__" 471 59 8 3 208 true 209 (.ref 210) (.ref 211) (.ref 212) 482 483
noncomputable def o146 (P:Params):Obj:=fo (.type "function") (nd (cb hM 13) 0) "ScalarEvent.__init__" 3 (.ref 207) .none .none (.str "yaml.events" 216) none (.ref 213) .none 0
noncomputable def o147 (P:Params):Obj:=⟨(.type "tuple"),none,(.seq #[(.str "anchor" 485),(.str "end_mark" 486),(.str "implicit" 487),(.str "start_mark" 488),(.str "style" 489),(.str "tag" 490),(.str "value" 491)] 0),#[]⟩
noncomputable def o148 (P:Params):Obj:=⟨(.type "dict"),none,(.dict #[(de P "__module__" 466 (.str "yaml.events" 216)),(de P "__firstlineno__" 470 (.int 57 469)),(de P "__init__" 484 (.ref 214)),(de P "__static_attributes__" 492 (.ref 215)),(de P "__doc__" 493 .none)] 2),#[]⟩
noncomputable def o149 (P:Params):Obj:=⟨(.type "type"),none,(.cls (PySem.ClassData.mk "ScalarEvent" [(.ref 81)] [(.ref 217),(.ref 81),(.ref 59),(.type "object")] 216 "ScalarEvent" true [] [] false none false)),#[(some (.ref 200)),none,(some (.str "ScalarEvent" 459)),(some (.str "ScalarEvent" 467)),(some (.builtin "object.__new__")),(some (.bool true))]⟩
noncomputable def o150 (P:Params):Obj:=⟨(.type "super"),none,(.fields #[(.ref 217),(.ref 217),(.ref 217)]),#[]⟩
noncomputable def o151 (P:Params):Obj:=⟨(.type "builtin_function_or_method"),none,(.fields #[(.builtin "object.__init_subclass__"),(.ref 217)]),#[]⟩
noncomputable def o152 (P:Params):Obj:=⟨(.type "tuple"),none,(.seq #[(.ref 101)] 0),#[]⟩
noncomputable def o153 (P:Params):Obj:=⟨(.type "dict"),none,(.dict #[(de P "__module__" 503 (.str "yaml.events" 216)),(de P "__qualname__" 505 (.str "SequenceStartEvent" 504)),(de P "__firstlineno__" 507 (.int 67 506)),(de P "__static_attributes__" 508 (.ref 227))] 4),#[]⟩
noncomputable def o154 (P:Params):Obj:=co "SequenceStartEvent" "SequenceStartEvent" 498 67 0 0 223 false 224 .none .none .none 501 502
noncomputable def o155 (P:Params):Obj:=⟨(.type "frame"),none,.plain,#[(some (.ref 225)),(some (.ref 3)),(some (.ref 222)),none,(some (.str "yaml.events" 216)),none,(some (.ref 0))]⟩
noncomputable def o156 (P:Params):Obj:=⟨(.type "dict"),none,(.dict #[(de P "__module__" 503 (.str "yaml.events" 216)),(de P "__firstlineno__" 507 (.int 67 506)),(de P "__static_attributes__" 508 (.ref 227)),(de P "__doc__" 509 .none)] 2),#[]⟩
noncomputable def o157 (P:Params):Obj:=⟨(.type "type"),none,(.cls (PySem.ClassData.mk "SequenceStartEvent" [(.ref 101)] [(.ref 229),(.ref 101),(.ref 81),(.ref 59),(.type "object")] 228 "SequenceStartEvent" true [] [] false none false)),#[(some (.ref 220)),none,(some (.str "SequenceStartEvent" 496)),(some (.str "SequenceStartEvent" 504)),(some (.builtin "object.__new__")),(some (.bool true))]⟩
noncomputable def o158 (P:Params):Obj:=⟨(.type "super"),none,(.fields #[(.ref 229),(.ref 229),(.ref 229)]),#[]⟩
noncomputable def o159 (P:Params):Obj:=⟨(.type "builtin_function_or_method"),none,(.fields #[(.builtin "object.__init_subclass__"),(.ref 229)]),#[]⟩
noncomputable def o160 (P:Params):Obj:=⟨(.type "tuple"),none,(.seq #[(.ref 113)] 0),#[]⟩
noncomputable def o161 (P:Params):Obj:=⟨(.type "dict"),none,(.dict #[(de P "__module__" 519 (.str "yaml.events" 216)),(de P "__qualname__" 521 (.str "SequenceEndEvent" 520)),(de P "__firstlineno__" 523 (.int 69 522)),(de P "__static_attributes__" 524 (.ref 239))] 4),#[]⟩
noncomputable def o162 (P:Params):Obj:=co "SequenceEndEvent" "SequenceEndEvent" 514 69 0 0 235 false 236 .none .none .none 517 518
noncomputable def o163 (P:Params):Obj:=⟨(.type "frame"),none,.plain,#[(some (.ref 237)),(some (.ref 3)),(some (.ref 234)),none,(some (.str "yaml.events" 216)),none,(some (.ref 0))]⟩
noncomputable def o164 (P:Params):Obj:=⟨(.type "dict"),none,(.dict #[(de P "__module__" 519 (.str "yaml.events" 216)),(de P "__firstlineno__" 523 (.int 69 522)),(de P "__static_attributes__" 524 (.ref 239)),(de P "__doc__" 525 .none)] 2),#[]⟩
noncomputable def o165 (P:Params):Obj:=⟨(.type "type"),none,(.cls (PySem.ClassData.mk "SequenceEndEvent" [(.ref 113)] [(.ref 241),(.ref 113),(.ref 59),(.type "object")] 240 "SequenceEndEvent" true [] [] false none false)),#[(some (.ref 232)),none,(some (.str "SequenceEndEvent" 512)),(some (.str "SequenceEndEvent" 520)),(some (.builtin "object.__new__")),(some (.bool true))]⟩
noncomputable def o166 (P:Params):Obj:=⟨(.type "super"),none,(.fields #[(.ref 241),(.ref 241),(.ref 241)]),#[]⟩
noncomputable def o167 (P:Params):Obj:=⟨(.type "builtin_function_or_method"),none,(.fields #[(.builtin "object.__init_subclass__"),(.ref 241)]),#[]⟩
noncomputable def o168 (P:Params):Obj:=⟨(.type "dict"),none,(.dict #[(de P "__module__" 535 (.str "yaml.events" 216)),(de P "__qualname__" 537 (.str "MappingStartEvent" 536)),(de P "__firstlineno__" 539 (.int 71 538)),(de P "__static_attributes__" 540 (.ref 251))] 4),#[]⟩
noncomputable def o169 (P:Params):Obj:=co "MappingStartEvent" "MappingStartEvent" 530 71 0 0 247 false 248 .none .none .none 533 534
noncomputable def o170 (P:Params):Obj:=⟨(.type "frame"),none,.plain,#[(some (.ref 249)),(some (.ref 3)),(some (.ref 246)),none,(some (.str "yaml.events" 216)),none,(some (.ref 0))]⟩
noncomputable def o171 (P:Params):Obj:=⟨(.type "dict"),none,(.dict #[(de P "__module__" 535 (.str "yaml.events" 216)),(de P "__firstlineno__" 539 (.int 71 538)),(de P "__static_attributes__" 540 (.ref 251)),(de P "__doc__" 541 .none)] 2),#[]⟩
noncomputable def o172 (P:Params):Obj:=⟨(.type "type"),none,(.cls (PySem.ClassData.mk "MappingStartEvent" [(.ref 101)] [(.ref 253),(.ref 101),(.ref 81),(.ref 59),(.type "object")] 252 "MappingStartEvent" true [] [] false none false)),#[(some (.ref 244)),none,(some (.str "MappingStartEvent" 528)),(some (.str "MappingStartEvent" 536)),(some (.builtin "object.__new__")),(some (.bool true))]⟩
noncomputable def o173 (P:Params):Obj:=⟨(.type "super"),none,(.fields #[(.ref 253),(.ref 253),(.ref 253)]),#[]⟩
noncomputable def o174 (P:Params):Obj:=⟨(.type "builtin_function_or_method"),none,(.fields #[(.builtin "object.__init_subclass__"),(.ref 253)]),#[]⟩
noncomputable def o175 (P:Params):Obj:=⟨(.type "dict"),none,(.dict #[(de P "__module__" 551 (.str "yaml.events" 216)),(de P "__qualname__" 553 (.str "MappingEndEvent" 552)),(de P "__firstlineno__" 555 (.int 73 554)),(de P "__static_attributes__" 556 (.ref 263))] 4),#[]⟩
noncomputable def o176 (P:Params):Obj:=co "MappingEndEvent" "MappingEndEvent" 546 73 0 0 259 false 260 .none .none .none 549 550
noncomputable def o177 (P:Params):Obj:=⟨(.type "frame"),none,.plain,#[(some (.ref 261)),(some (.ref 3)),(some (.ref 258)),none,(some (.str "yaml.events" 216)),none,(some (.ref 0))]⟩
noncomputable def o178 (P:Params):Obj:=⟨(.type "dict"),none,(.dict #[(de P "__module__" 551 (.str "yaml.events" 216)),(de P "__firstlineno__" 555 (.int 73 554)),(de P "__static_attributes__" 556 (.ref 263)),(de P "__doc__" 557 .none)] 2),#[]⟩
noncomputable def o179 (P:Params):Obj:=⟨(.type "type"),none,(.cls (PySem.ClassData.mk "MappingEndEvent" [(.ref 113)] [(.ref 265),(.ref 113),(.ref 59),(.type "object")] 264 "MappingEndEvent" true [] [] false none false)),#[(some (.ref 256)),none,(some (.str "MappingEndEvent" 544)),(some (.str "MappingEndEvent" 552)),(some (.builtin "object.__new__")),(some (.bool true))]⟩
noncomputable def o180 (P:Params):Obj:=⟨(.type "super"),none,(.fields #[(.ref 265),(.ref 265),(.ref 265)]),#[]⟩
noncomputable def o181 (P:Params):Obj:=⟨(.type "builtin_function_or_method"),none,(.fields #[(.builtin "object.__init_subclass__"),(.ref 265)]),#[]⟩
noncomputable def o182 (P:Params):Obj:=⟨(.type "tuple"),none,(.seq #[(.ref 31)] 0),#[]⟩
noncomputable def o183 (P:Params):Obj:=⟨(.type "dict"),none,(.dict #[(de P "__module__" 569 (.str "yaml.emitter" 560)),(de P "__qualname__" 571 (.str "EmitterError" 570)),(de P "__firstlineno__" 573 (.int 76 572)),(de P "__static_attributes__" 574 (.ref 275))] 4),#[]⟩
noncomputable def o184 (P:Params):Obj:=co "EmitterError" "EmitterError" 564 76 0 0 271 false 272 .none .none .none 567 568
noncomputable def o185 (P:Params):Obj:=⟨(.type "frame"),none,.plain,#[(some (.ref 273)),(some (.ref 3)),(some (.ref 270)),none,(some (.str "yaml.emitter" 560)),none,(some (.ref 0))]⟩
noncomputable def o186 (P:Params):Obj:=⟨(.type "dict"),none,(.dict #[(de P "__module__" 569 (.str "yaml.emitter" 560)),(de P "__firstlineno__" 573 (.int 76 572)),(de P "__static_attributes__" 574 (.ref 275)),(de P "__doc__" 575 .none)] 2),#[]⟩
noncomputable def o187 (P:Params):Obj:=⟨(.type "type"),none,(.cls (PySem.ClassData.mk "EmitterError" [(.ref 31)] [(.ref 277),(.ref 31),(.type "Exception"),(.type "BaseException"),(.type "object")] 276 "EmitterError" true [] [] false none false)),#[(some (.ref 268)),none,(some (.str "EmitterError" 562)),(some (.str "EmitterError" 570)),(some (.builtin "Exception.__new__")),(some (.bool true))]⟩
noncomputable def o188 (P:Params):Obj:=⟨(.type "super"),none,(.fields #[(.ref 277),(.ref 277),(.ref 277)]),#[]⟩
noncomputable def o189 (P:Params):Obj:=⟨(.type "builtin_function_or_method"),none,(.fields #[(.builtin "object.__init_subclass__"),(.ref 277)]),#[]⟩
noncomputable def L1 (P:Params):List Obj:=[boot_o_0 P,boot_o_1 P,o4 P,o112 P,boot_o_4 P,boot_o_5 P,boot_o_6 P,boot_o_7 P,boot_o_8 P,boot_o_9 P,boot_o_10 P,o0 P,o113 P,o2 P,o3 P,o0 P,o1 P,o7 P,o0 P,o8 P,o9 P,o10 P,o11 P,o12 P,o13 P,o0 P,o1 P,o14 P,o15 P,o0 P,o16 P,o114 P,o18 P,o19 P,o20 P,o21 P,o12 P,o22 P,o0 P,o23 P,o24 P,o25 P,o26 P,o0 P,o1 P,o27 P,o0 P,o28 P,o29 P,o30 P,o0 P,o1 P,o31 P,o0 P,o32 P,o33 P,o34 P,o35 P,o36 P,o115 P,o38 P,o39 P,o40 P,o41 P,o42 P,o12 P,o43 P,o0 P,o44 P,o45 P,o46 P,o26 P,o0 P,o1 P,o47 P,o0 P,o48 P,o49 P,o50 P,o51 P,o52 P,o116 P,o54 P,o55 P,o56 P,o12 P,o57 P,o0 P,o58 P,o59 P,o60 P,o61 P,o0 P,o1 P,o62 P,o0 P,o63 P,o64 P,o65 P,o66 P,o67 P,o117 P,o69 P,o70 P,o42 P,o12 P,o71 P,o0 P,o1 P,o72 P,o73 P,o0 P,o74 P,o118 P,o76 P,o77 P,o42 P,o12 P,o78 P,o0 P,o79 P,o80 P,o81 P,o61 P,o0 P,o1 P,o82 P,o0 P,o83 P,o84 P,o85 P,o86 P,o87 P,o88 P,o89 P,o90 P,o42 P,o12 P,o91 P,o0 P,o1 P,o92 P,o93 P,o0 P,o94 P,o95 P,o96 P,o97 P,o42 P,o12 P,o98 P,o0 P,o99 P,o100 P,o101 P,o102 P,o0 P,o1 P,o103 P,o0 P,o104 P,o105 P,o106 P,o107 P,o108 P,o109 P,o110 P,o111 P,o42 P,o12 P,o119 P,o0 P,o120 P,o121 P,o122 P,o61 P,o0 P,o1 P,o123 P,o0 P,o124 P,o125 P,o126 P,o127 P,o128 P,o129 P,o130 P,o131 P,o56 P,o12 P,o132 P,o0 P,o1 P,o133 P,o134 P,o0 P,o135 P,o136 P,o137 P,o138 P,o56 P,o12 P,o139 P,o0 P,o140 P,o141 P,o142 P,o61 P,o0 P,o1 P,o143 P,o0 P,o144 P,o145 P,o146 P,o147 P,o148 P,o149 P,o150 P,o151 P,o152 P,o12 P,o153 P,o0 P,o1 P,o154 P,o155 P,o0 P,o156 P,o157 P,o158 P,o159 P,o160 P,o12 P,o161 P,o0 P,o1 P,o162 P,o163 P,o0 P,o164 P,o165 P,o166 P,o167 P,o152 P,o12 P,o168 P,o0 P,o1 P,o169 P,o170 P,o0 P,o171 P,o172 P,o173 P,o174 P,o160 P,o12 P,o175 P,o0 P,o1 P,o176 P,o177 P,o0 P,o178 P,o179 P,o180 P,o181 P,o182 P,o12 P,o183 P,o0 P,o1 P,o184 P,o185 P,o0 P,o186 P,o187 P,o188 P,o189 P]
noncomputable def o190 (P:Params):Obj:=⟨(.type "dict"),none,(.dict #[(de P "__name__" 165 (.str "yaml.emitter" 560)),(de P "__doc__" 166 .none),(de P "__package__" 167 .none),(de P "__loader__" 168 (.builtin "__main__.__loader__#opaque")),(de P "__spec__" 169 .none),(de P "__annotations__" 170 (.ref 6)),(de P "__builtins__" 171 (.ref 4)),(de P "__file__" 173 (.str "/claim/cut.py" 172)),(de P "__cached__" 174 .none),(de P "_wall" 193 (.ref 21)),(de P "YAMLError" 215 (.ref 31)),(de P "Event" 255 (.ref 59)),(de P "NodeEvent" 284 (.ref 81)),(de P "CollectionStartEvent" 319 (.ref 101)),(de P "CollectionEndEvent" 335 (.ref 113)),(de P "StreamStartEvent" 364 (.ref 133)),(de P "StreamEndEvent" 380 (.ref 145)),(de P "DocumentStartEvent" 413 (.ref 165)),(de P "DocumentEndEvent" 442 (.ref 185)),(de P "AliasEvent" 458 (.ref 197)),(de P "ScalarEvent" 495 (.ref 217)),(de P "SequenceStartEvent" 511 (.ref 229)),(de P "SequenceEndEvent" 527 (.ref 241)),(de P "MappingStartEvent" 543 (.ref 253)),(de P "MappingEndEvent" 559 (.ref 265)),(de P "EmitterError" 577 (.ref 277)),(de P "ScalarAnalysis" 620 (.ref 296))] 27),#[]⟩
noncomputable def o191 (P:Params):Obj:=⟨.none,none,(.fields #[(.int 1 0),(.int 0 0),(.ref 20),(.int 5 0),(.int 0 0),(.ref 27),(.int 8 0),(.int 0 0),(.ref 40),(.int 16 0),(.int 0 0),(.ref 69),(.int 22 0),(.int 0 0),(.ref 89),(.int 31 0),(.int 0 0),(.ref 109),(.int 33 0),(.int 0 0),(.ref 121),(.int 39 0),(.int 0 0),(.ref 141),(.int 41 0),(.int 0 0),(.ref 153),(.int 49 0),(.int 0 0),(.ref 173),(.int 55 0),(.int 0 0),(.ref 193),(.int 57 0),(.int 0 0),(.ref 205),(.int 67 0),(.int 0 0),(.ref 225),(.int 69 0),(.int 0 0),(.ref 237),(.int 71 0),(.int 0 0),(.ref 249),(.int 73 0),(.int 0 0),(.ref 261),(.int 76 0),(.int 0 0),(.ref 273),(.int 78 0),(.int 0 0),(.ref 285)]),#[]⟩
noncomputable def o192 (P:Params):Obj:=⟨(.type "dict"),none,(.dict #[(de P "__module__" 585 (.str "yaml.emitter" 560)),(de P "__qualname__" 587 (.str "ScalarAnalysis" 586)),(de P "__firstlineno__" 589 (.int 78 588)),(de P "__init__" 604 (.ref 293)),(de P "__static_attributes__" 613 (.ref 294))] 5),#[]⟩
noncomputable def o193 (P:Params):Obj:=⟨.none,none,(.fields #[(.int 80 0),(.int 4 0),(.ref 292)]),#[]⟩
noncomputable def o194 (P:Params):Obj:=co "ScalarAnalysis" "ScalarAnalysis" 580 78 0 0 283 false 284 .none .none .none 583 584
noncomputable def o195 (P:Params):Obj:=⟨(.type "frame"),none,.plain,#[(some (.ref 285)),(some (.ref 3)),(some (.ref 282)),none,(some (.str "yaml.emitter" 560)),none,(some (.ref 0))]⟩
noncomputable def o196 (P:Params):Obj:=⟨(.type "tuple"),none,(.seq #[(.str "self" 593),(.str "scalar" 594),(.str "empty" 595),(.str "multiline" 596),(.str "allow_flow_plain" 597),(.str "allow_block_plain" 598),(.str "allow_single_quoted" 599),(.str "allow_double_quoted" 600),(.str "allow_block" 601)] 0),#[]⟩
noncomputable def o197 (P:Params):Obj:=fo .none (nd (cb hM 20) 0) "ScalarAnalysis.__init__" 0 .none .none .none .none none .none .none 0
noncomputable def o198 (P:Params):Obj:=co "__init__" "ScalarAnalysis.__init__" 590 80 9 3 287 true 288 (.ref 289) (.ref 290) (.ref 291) 602 603
noncomputable def o199 (P:Params):Obj:=fo (.type "function") (nd (cb hM 20) 0) "ScalarAnalysis.__init__" 3 .none .none .none (.str "yaml.emitter" 560) none (.ref 292) .none 0
noncomputable def o200 (P:Params):Obj:=⟨(.type "tuple"),none,(.seq #[(.str "allow_block" 605),(.str "allow_block_plain" 606),(.str "allow_double_quoted" 607),(.str "allow_flow_plain" 608),(.str "allow_single_quoted" 609),(.str "empty" 610),(.str "multiline" 611),(.str "scalar" 612)] 0),#[]⟩
noncomputable def o201 (P:Params):Obj:=⟨(.type "dict"),none,(.dict #[(de P "__module__" 585 (.str "yaml.emitter" 560)),(de P "__firstlineno__" 589 (.int 78 588)),(de P "__init__" 604 (.ref 293)),(de P "__static_attributes__" 613 (.ref 294)),(de P "__dict__" 615 (.ref 297)),(de P "__weakref__" 617 (.ref 298)),(de P "__doc__" 618 .none)] 4),#[]⟩
noncomputable def o202 (P:Params):Obj:=⟨(.type "type"),none,(.cls (PySem.ClassData.mk "ScalarAnalysis" [(.type "object")] [(.ref 296),(.type "object")] 295 "ScalarAnalysis" true [] [] false none false)),#[none,none,(some (.str "ScalarAnalysis" 578)),(some (.str "ScalarAnalysis" 586)),(some (.builtin "object.__new__")),(some (.bool true))]⟩
noncomputable def o203 (P:Params):Obj:=⟨(.type "getset_descriptor"),none,(.fields #[(.str "__dict__" 614),(.ref 296),(.builtin "function.__dict__"),(.builtin "function.__dict__#set")]),#[]⟩
noncomputable def o204 (P:Params):Obj:=⟨(.type "getset_descriptor"),none,(.fields #[(.str "__weakref__" 616),(.ref 296),(.builtin "ExceptionGroup.__weakref__"),.none]),#[]⟩
noncomputable def o205 (P:Params):Obj:=⟨(.type "super"),none,(.fields #[(.ref 296),(.ref 296),(.ref 296)]),#[]⟩
noncomputable def o206 (P:Params):Obj:=⟨(.type "builtin_function_or_method"),none,(.fields #[(.builtin "object.__init_subclass__"),(.ref 296)]),#[]⟩
noncomputable def L2 (P:Params):List Obj:=[boot_o_0 P,boot_o_1 P,o4 P,o190 P,boot_o_4 P,boot_o_5 P,boot_o_6 P,boot_o_7 P,boot_o_8 P,boot_o_9 P,boot_o_10 P,o0 P,o191 P,o2 P,o3 P,o0 P,o1 P,o7 P,o0 P,o8 P,o9 P,o10 P,o11 P,o12 P,o13 P,o0 P,o1 P,o14 P,o15 P,o0 P,o16 P,o114 P,o18 P,o19 P,o20 P,o21 P,o12 P,o22 P,o0 P,o23 P,o24 P,o25 P,o26 P,o0 P,o1 P,o27 P,o0 P,o28 P,o29 P,o30 P,o0 P,o1 P,o31 P,o0 P,o32 P,o33 P,o34 P,o35 P,o36 P,o115 P,o38 P,o39 P,o40 P,o41 P,o42 P,o12 P,o43 P,o0 P,o44 P,o45 P,o46 P,o26 P,o0 P,o1 P,o47 P,o0 P,o48 P,o49 P,o50 P,o51 P,o52 P,o116 P,o54 P,o55 P,o56 P,o12 P,o57 P,o0 P,o58 P,o59 P,o60 P,o61 P,o0 P,o1 P,o62 P,o0 P,o63 P,o64 P,o65 P,o66 P,o67 P,o117 P,o69 P,o70 P,o42 P,o12 P,o71 P,o0 P,o1 P,o72 P,o73 P,o0 P,o74 P,o118 P,o76 P,o77 P,o42 P,o12 P,o78 P,o0 P,o79 P,o80 P,o81 P,o61 P,o0 P,o1 P,o82 P,o0 P,o83 P,o84 P,o85 P,o86 P,o87 P,o88 P,o89 P,o90 P,o42 P,o12 P,o91 P,o0 P,o1 P,o92 P,o93 P,o0 P,o94 P,o95 P,o96 P,o97 P,o42 P,o12 P,o98 P,o0 P,o99 P,o100 P,o101 P,o102 P,o0 P,o1 P,o103 P,o0 P,o104 P,o105 P,o106 P,o107 P,o108 P,o109 P,o110 P,o111 P,o42 P,o12 P,o119 P,o0 P,o120 P,o121 P,o122 P,o61 P,o0 P,o1 P,o123 P,o0 P,o124 P,o125 P,o126 P,o127 P,o128 P,o129 P,o130 P,o131 P,o56 P,o12 P,o132 P,o0 P,o1 P,o133 P,o134 P,o0 P,o135 P,o136 P,o137 P,o138 P,o56 P,o12 P,o139 P,o0 P,o140 P,o141 P,o142 P,o61 P,o0 P,o1 P,o143 P,o0 P,o144 P,o145 P,o146 P,o147 P,o148 P,o149 P,o150 P,o151 P,o152 P,o12 P,o153 P,o0 P,o1 P,o154 P,o155 P,o0 P,o156 P,o157 P,o158 P,o159 P,o160 P,o12 P,o161 P,o0 P,o1 P,o162 P,o163 P,o0 P,o164 P,o165 P,o166 P,o167 P,o152 P,o12 P,o168 P,o0 P,o1 P,o169 P,o170 P,o0 P,o171 P,o172 P,o173 P,o174 P,o160 P,o12 P,o175 P,o0 P,o1 P,o176 P,o177 P,o0 P,o178 P,o179 P,o180 P,o181 P,o182 P,o12 P,o183 P,o0 P,o1 P,o184 P,o185 P,o0 P,o186 P,o187 P,o188 P,o189 P,o0 P,o12 P,o192 P,o0 P,o193 P,o194 P,o195 P,o0 P,o1 P,o196 P,o0 P,o197 P,o198 P,o199 P,o200 P,o201 P,o202 P,o203 P,o204 P,o205 P,o206 P]
noncomputable def o207 (P:Params):Obj:=⟨(.type "dict"),none,(.dict #[(de P "__name__" 165 (.str "yaml.emitter" 560)),(de P "__doc__" 166 .none),(de P "__package__" 167 .none),(de P "__loader__" 168 (.builtin "__main__.__loader__#opaque")),(de P "__spec__" 169 .none),(de P "__annotations__" 170 (.ref 6)),(de P "__builtins__" 171 (.ref 4)),(de P "__file__" 173 (.str "/claim/cut.py" 172)),(de P "__cached__" 174 .none),(de P "_wall" 193 (.ref 21)),(de P "YAMLError" 215 (.ref 31)),(de P "Event" 255 (.ref 59)),(de P "NodeEvent" 284 (.ref 81)),(de P "CollectionStartEvent" 319 (.ref 101)),(de P "CollectionEndEvent" 335 (.ref 113)),(de P "StreamStartEvent" 364 (.ref 133)),(de P "StreamEndEvent" 380 (.ref 145)),(de P "DocumentStartEvent" 413 (.ref 165)),(de P "DocumentEndEvent" 442 (.ref 185)),(de P "AliasEvent" 458 (.ref 197)),(de P "ScalarEvent" 495 (.ref 217)),(de P "SequenceStartEvent" 511 (.ref 229)),(de P "SequenceEndEvent" 527 (.ref 241)),(de P "MappingStartEvent" 543 (.ref 253)),(de P "MappingEndEvent" 559 (.ref 265)),(de P "EmitterError" 577 (.ref 277)),(de P "ScalarAnalysis" 620 (.ref 296)),(de P "Emitter" 1271 (.ref 736))] 28),#[]⟩
noncomputable def o208 (P:Params):Obj:=⟨.none,none,(.fields #[(.int 1 0),(.int 0 0),(.ref 20),(.int 5 0),(.int 0 0),(.ref 27),(.int 8 0),(.int 0 0),(.ref 40),(.int 16 0),(.int 0 0),(.ref 69),(.int 22 0),(.int 0 0),(.ref 89),(.int 31 0),(.int 0 0),(.ref 109),(.int 33 0),(.int 0 0),(.ref 121),(.int 39 0),(.int 0 0),(.ref 141),(.int 41 0),(.int 0 0),(.ref 153),(.int 49 0),(.int 0 0),(.ref 173),(.int 55 0),(.int 0 0),(.ref 193),(.int 57 0),(.int 0 0),(.ref 205),(.int 67 0),(.int 0 0),(.ref 225),(.int 69 0),(.int 0 0),(.ref 237),(.int 71 0),(.int 0 0),(.ref 249),(.int 73 0),(.int 0 0),(.ref 261),(.int 76 0),(.int 0 0),(.ref 273),(.int 78 0),(.int 0 0),(.ref 285),(.int 89 0),(.int 0 0),(.ref 306)]),#[]⟩
noncomputable def o209 (P:Params):Obj:=⟨(.type "dict"),none,(.dict #[(de P "__module__" 628 (.str "yaml.emitter" 560)),(de P "__qualname__" 630 (.str "Emitter" 629)),(de P "__firstlineno__" 632 (.int 89 631)),(de P "DEFAULT_TAG_PREFIXES" 639 (.ref 308)),(de P "__init__" 652 (.ref 316)),(de P "dispose" 659 (.ref 323)),(de P "emit" 667 (.ref 330)),(de P "need_more_events" 675 (.ref 337)),(de P "need_events" 685 (.ref 344)),(de P "increase_indent" 694 (.ref 352)),(de P "expect_stream_start" 701 (.ref 359)),(de P "expect_nothing" 708 (.ref 366)),(de P "expect_first_document_start" 715 (.ref 373)),(de P "expect_document_start" 730 (.ref 381)),(de P "expect_document_end" 737 (.ref 388)),(de P "expect_document_root" 744 (.ref 395)),(de P "expect_node" 755 (.ref 403)),(de P "expect_alias" 762 (.ref 410)),(de P "expect_scalar" 769 (.ref 417)),(de P "expect_flow_sequence" 776 (.ref 424)),(de P "expect_first_flow_sequence_item" 783 (.ref 431)),(de P "expect_flow_sequence_item" 790 (.ref 438)),(de P "expect_flow_mapping" 797 (.ref 445)),(de P "expect_first_flow_mapping_key" 804 (.ref 452)),(de P "expect_flow_mapping_key" 811 (.ref 459)),(de P "expect_flow_mapping_simple_value" 818 (.ref 466)),(de P "expect_flow_mapping_value" 825 (.ref 473)),(de P "expect_block_sequence" 833 (.ref 480)),(de P "expect_first_block_sequence_item" 840 (.ref 487)),(de P "expect_block_sequence_item" 848 (.ref 495)),(de P "expect_block_mapping" 855 (.ref 502)),(de P "expect_first_block_mapping_key" 862 (.ref 509)),(de P "expect_block_mapping_key" 870 (.ref 517)),(de P "expect_block_mapping_simple_value" 877 (.ref 524)),(de P "expect_block_mapping_value" 884 (.ref 531)),(de P "check_empty_sequence" 891 (.ref 538)),(de P "check_empty_mapping" 898 (.ref 545)),(de P "check_empty_document" 906 (.ref 552)),(de P "check_simple_key" 914 (.ref 559)),(de P "process_anchor" 922 (.ref 566)),(de P "process_tag" 930 (.ref 573)),(de P "choose_scalar_style" 937 (.ref 580)),(de P "process_scalar" 945 (.ref 587)),(de P "prepare_version" 955 (.ref 594)),(de P "prepare_tag_handle" 964 (.ref 601)),(de P "prepare_tag_prefix" 977 (.ref 608)),(de P "prepare_tag" 995 (.ref 615)),(de P "prepare_anchor" 1004 (.ref 622)),(de P "analyze_scalar" 1034 (.ref 629)),(de P "flush_stream" 1041 (.ref 636)),(de P "write_stream_start" 1048 (.ref 643)),(de P "write_stream_end" 1055 (.ref 650)),(de P "write_indicator" 1067 (.ref 658)),(de P "write_indent" 1076 (.ref 665)),(de P "write_line_break" 1084 (.ref 673)),(de P "write_version_directive" 1093 (.ref 680)),(de P "write_tag_directive" 1103 (.ref 687)),(de P "write_single_quoted" 1119 (.ref 695)),(de P "ESCAPE_REPLACEMENTS" 1165 (.ref 696)),(de P "write_double_quoted" 1178 (.ref 704)),(de P "determine_block_hints" 1187 (.ref 711)),(de P "write_folded" 1204 (.ref 718)),(de P "write_literal" 1219 (.ref 725)),(de P "write_plain" 1235 (.ref 733)),(de P "__static_attributes__" 1264 (.ref 734))] 65),#[]⟩
noncomputable def o210 (P:Params):Obj:=⟨.none,none,(.fields #[(.int 92 0),(.int 4 0),(.ref 315),(.int 128 0),(.int 4 0),(.ref 322),(.int 131 0),(.int 4 0),(.ref 329),(.int 138 0),(.int 4 0),(.ref 336),(.int 151 0),(.int 4 0),(.ref 343),(.int 164 0),(.int 4 0),(.ref 351),(.int 174 0),(.int 4 0),(.ref 358),(.int 181 0),(.int 4 0),(.ref 365),(.int 184 0),(.int 4 0),(.ref 372),(.int 187 0),(.int 4 0),(.ref 380),(.int 220 0),(.int 4 0),(.ref 387),(.int 231 0),(.int 4 0),(.ref 394),(.int 235 0),(.int 4 0),(.ref 402),(.int 260 0),(.int 4 0),(.ref 409),(.int 266 0),(.int 4 0),(.ref 416),(.int 272 0),(.int 4 0),(.ref 423),(.int 278 0),(.int 4 0),(.ref 430),(.int 290 0),(.int 4 0),(.ref 437),(.int 306 0),(.int 4 0),(.ref 444),(.int 312 0),(.int 4 0),(.ref 451),(.int 329 0),(.int 4 0),(.ref 458),(.int 350 0),(.int 4 0),(.ref 465),(.int 355 0),(.int 4 0),(.ref 472),(.int 362 0),(.int 4 0),(.ref 479),(.int 367 0),(.int 4 0),(.ref 486),(.int 370 0),(.int 4 0),(.ref 494),(.int 380 0),(.int 4 0),(.ref 501),(.int 384 0),(.int 4 0),(.ref 508),(.int 387 0),(.int 4 0),(.ref 516),(.int 401 0),(.int 4 0),(.ref 523),(.int 406 0),(.int 4 0),(.ref 530),(.int 412 0),(.int 4 0),(.ref 537),(.int 415 0),(.int 4 0),(.ref 544),(.int 418 0),(.int 4 0),(.ref 551),(.int 424 0),(.int 4 0),(.ref 558),(.int 440 0),(.int 4 0),(.ref 565),(.int 450 0),(.int 4 0),(.ref 572),(.int 472 0),(.int 4 0),(.ref 579),(.int 488 0),(.int 4 0),(.ref 586),(.int 507 0),(.int 4 0),(.ref 593),(.int 513 0),(.int 4 0),(.ref 600),(.int 523 0),(.int 4 0),(.ref 607),(.int 545 0),(.int 4 0),(.ref 614),(.int 578 0),(.int 4 0),(.ref 621),(.int 586 0),(.int 4 0),(.ref 628),(.int 684 0),(.int 4 0),(.ref 635),(.int 687 0),(.int 4 0),(.ref 642),(.int 690 0),(.int 4 0),(.ref 649),(.int 693 0),(.int 4 0),(.ref 657),(.int 704 0),(.int 4 0),(.ref 664),(.int 714 0),(.int 4 0),(.ref 672),(.int 723 0),(.int 4 0),(.ref 679),(.int 728 0),(.int 4 0),(.ref 686),(.int 733 0),(.int 4 0),(.ref 694),(.int 780 0),(.int 4 0),(.ref 703),(.int 821 0),(.int 4 0),(.ref 710),(.int 832 0),(.int 4 0),(.ref 717),(.int 880 0),(.int 4 0),(.ref 724),(.int 912 0),(.int 4 0),(.ref 732)]),#[]⟩
noncomputable def o211 (P:Params):Obj:=co "Emitter" "Emitter" 623 89 0 0 304 false 305 .none .none .none 626 627
noncomputable def o212 (P:Params):Obj:=⟨(.type "frame"),none,.plain,#[(some (.ref 306)),(some (.ref 3)),(some (.ref 303)),none,(some (.str "yaml.emitter" 560)),none,(some (.ref 0))]⟩
noncomputable def o213 (P:Params):Obj:=⟨(.type "dict"),none,(.dict #[(de P "!" 633 (.str "!" 634)),(de P "tag:yaml.org,2002:" 635 (.str "!!" 636))] 2),#[]⟩
noncomputable def o214 (P:Params):Obj:=⟨(.type "tuple"),none,(.seq #[(.str "self" 643),(.str "stream" 644),(.str "canonical" 645),(.str "indent" 646),(.str "width" 647),(.str "allow_unicode" 648),(.str "line_break" 649)] 0),#[]⟩
noncomputable def o215 (P:Params):Obj:=fo .none (nd (cb hM 21) 1) "Emitter.__init__" 0 .none .none .none .none none .none .none 0
noncomputable def o216 (P:Params):Obj:=co "__init__" "Emitter.__init__" 640 92 7 3 310 true 311 (.ref 312) (.ref 313) (.ref 314) 650 651
noncomputable def o217 (P:Params):Obj:=fo (.type "function") (nd (cb hM 21) 1) "Emitter.__init__" 3 (.ref 309) .none .none (.str "yaml.emitter" 560) none (.ref 315) .none 0
noncomputable def o218 (P:Params):Obj:=⟨(.type "tuple"),none,(.seq #[(.str "self" 656)] 0),#[]⟩
noncomputable def o219 (P:Params):Obj:=fo .none (nd (cb hM 21) 2) "Emitter.dispose" 0 .none .none .none .none none .none .none 0
noncomputable def o220 (P:Params):Obj:=co "dispose" "Emitter.dispose" 653 128 1 3 317 true 318 (.ref 319) (.ref 320) (.ref 321) 657 658
noncomputable def o221 (P:Params):Obj:=fo (.type "function") (nd (cb hM 21) 2) "Emitter.dispose" 3 .none .none .none (.str "yaml.emitter" 560) none (.ref 322) .none 0
noncomputable def o222 (P:Params):Obj:=⟨(.type "tuple"),none,(.seq #[(.str "self" 663),(.str "event" 664)] 0),#[]⟩
noncomputable def o223 (P:Params):Obj:=fo .none (nd (cb hM 21) 3) "Emitter.emit" 0 .none .none .none .none none .none .none 0
noncomputable def o224 (P:Params):Obj:=co "emit" "Emitter.emit" 660 131 2 3 324 true 325 (.ref 326) (.ref 327) (.ref 328) 665 666
noncomputable def o225 (P:Params):Obj:=fo (.type "function") (nd (cb hM 21) 3) "Emitter.emit" 3 .none .none .none (.str "yaml.emitter" 560) none (.ref 329) .none 0
noncomputable def o226 (P:Params):Obj:=⟨(.type "tuple"),none,(.seq #[(.str "self" 671),(.str "event" 672)] 0),#[]⟩
noncomputable def o227 (P:Params):Obj:=fo .none (nd (cb hM 21) 4) "Emitter.need_more_events" 0 .none .none .none .none none .none .none 0
noncomputable def o228 (P:Params):Obj:=co "need_more_events" "Emitter.need_more_events" 668 138 1 3 331 true 332 (.ref 333) (.ref 334) (.ref 335) 673 674
noncomputable def o229 (P:Params):Obj:=fo (.type "function") (nd (cb hM 21) 4) "Emitter.need_more_events" 3 .none .none .none (.str "yaml.emitter" 560) none (.ref 336) .none 0
noncomputable def o230 (P:Params):Obj:=⟨(.type "tuple"),none,(.seq #[(.str "self" 679),(.str "count" 680),(.str "level" 681),(.str "event" 682)] 0),#[]⟩
noncomputable def o231 (P:Params):Obj:=fo .none (nd (cb hM 21) 5) "Emitter.need_events" 0 .none .none .none .none none .none .none 0
noncomputable def o232 (P:Params):Obj:=co "need_events" "Emitter.need_events" 676 151 2 3 338 true 339 (.ref 340) (.ref 341) (.ref 342) 683 684
noncomputable def o233 (P:Params):Obj:=fo (.type "function") (nd (cb hM 21) 5) "Emitter.need_events" 3 .none .none .none (.str "yaml.emitter" 560) none (.ref 343) .none 0
noncomputable def o234 (P:Params):Obj:=⟨(.type "tuple"),none,(.seq #[(.bool false),(.bool false)] 0),#[]⟩
noncomputable def o235 (P:Params):Obj:=⟨(.type "tuple"),none,(.seq #[(.str "self" 689),(.str "flow" 690),(.str "indentless" 691)] 0),#[]⟩
noncomputable def o236 (P:Params):Obj:=fo .none (nd (cb hM 21) 6) "Emitter.increase_indent" 0 .none .none .none .none none .none .none 0
noncomputable def o237 (P:Params):Obj:=co "increase_indent" "Emitter.increase_indent" 686 164 3 3 346 true 347 (.ref 348) (.ref 349) (.ref 350) 692 693
noncomputable def o238 (P:Params):Obj:=fo (.type "function") (nd (cb hM 21) 6) "Emitter.increase_indent" 3 (.ref 345) .none .none (.str "yaml.emitter" 560) none (.ref 351) .none 0
noncomputable def o239 (P:Params):Obj:=⟨(.type "tuple"),none,(.seq #[(.str "self" 698)] 0),#[]⟩
noncomputable def o240 (P:Params):Obj:=fo .none (nd (cb hM 21) 7) "Emitter.expect_stream_start" 0 .none .none .none .none none .none .none 0
noncomputable def o241 (P:Params):Obj:=co "expect_stream_start" "Emitter.expect_stream_start" 695 174 1 3 353 true 354 (.ref 355) (.ref 356) (.ref 357) 699 700
noncomputable def o242 (P:Params):Obj:=fo (.type "function") (nd (cb hM 21) 7) "Emitter.expect_stream_start" 3 .none .none .none (.str "yaml.emitter" 560) none (.ref 358) .none 0
noncomputable def o243 (P:Params):Obj:=⟨(.type "tuple"),none,(.seq #[(.str "self" 705)] 0),#[]⟩
noncomputable def o244 (P:Params):Obj:=fo .none (nd (cb hM 21) 8) "Emitter.expect_nothing" 0 .none .none .none .none none .none .none 0
noncomputable def o245 (P:Params):Obj:=co "expect_nothing" "Emitter.expect_nothing" 702 181 1 3 360 true 361 (.ref 362) (.ref 363) (.ref 364) 706 707
noncomputable def o246 (P:Params):Obj:=fo (.type "function") (nd (cb hM 21) 8) "Emitter.expect_nothing" 3 .none .none .none (.str "yaml.emitter" 560) none (.ref 365) .none 0
noncomputable def o247 (P:Params):Obj:=⟨(.type "tuple"),none,(.seq #[(.str "self" 712)] 0),#[]⟩
noncomputable def o248 (P:Params):Obj:=fo .none (nd (cb hM 21) 9) "Emitter.expect_first_document_start" 0 .none .none .none .none none .none .none 0
noncomputable def o249 (P:Params):Obj:=co "expect_first_document_start" "Emitter.expect_first_document_start" 709 184 1 3 367 true 368 (.ref 369) (.ref 370) (.ref 371) 713 714
noncomputable def o250 (P:Params):Obj:=fo (.type "function") (nd (cb hM 21) 9) "Emitter.expect_first_document_start" 3 .none .none .none (.str "yaml.emitter" 560) none (.ref 372) .none 0
noncomputable def o251 (P:Params):Obj:=⟨(.type "tuple"),none,(.seq #[(.bool false)] 0),#[]⟩
noncomputable def o252 (P:Params):Obj:=⟨(.type "tuple"),none,(.seq #[(.str "self" 719),(.str "first" 720),(.str "version_text" 721),(.str "handles" 722),(.str "handle" 723),(.str "prefix" 724),(.str "handle_text" 725),(.str "prefix_text" 726),(.str "implicit" 727)] 0),#[]⟩
noncomputable def o253 (P:Params):Obj:=fo .none (nd (cb hM 21) 10) "Emitter.expect_document_start" 0 .none .none .none .none none .none .none 0
noncomputable def o254 (P:Params):Obj:=co "expect_document_start" "Emitter.expect_document_start" 716 187 2 3 375 true 376 (.ref 377) (.ref 378) (.ref 379) 728 729
noncomputable def o255 (P:Params):Obj:=fo (.type "function") (nd (cb hM 21) 10) "Emitter.expect_document_start" 3 (.ref 374) .none .none (.str "yaml.emitter" 560) none (.ref 380) .none 0
noncomputable def o256 (P:Params):Obj:=⟨(.type "tuple"),none,(.seq #[(.str "self" 734)] 0),#[]⟩
noncomputable def o257 (P:Params):Obj:=fo .none (nd (cb hM 21) 11) "Emitter.expect_document_end" 0 .none .none .none .none none .none .none 0
noncomputable def o258 (P:Params):Obj:=co "expect_document_end" "Emitter.expect_document_end" 731 220 1 3 382 true 383 (.ref 384) (.ref 385) (.ref 386) 735 736
noncomputable def o259 (P:Params):Obj:=fo (.type "function") (nd (cb hM 21) 11) "Emitter.expect_document_end" 3 .none .none .none (.str "yaml.emitter" 560) none (.ref 387) .none 0
noncomputable def o260 (P:Params):Obj:=⟨(.type "tuple"),none,(.seq #[(.str "self" 741)] 0),#[]⟩
noncomputable def o261 (P:Params):Obj:=fo .none (nd (cb hM 21) 12) "Emitter.expect_document_root" 0 .none .none .none .none none .none .none 0
noncomputable def o262 (P:Params):Obj:=co "expect_document_root" "Emitter.expect_document_root" 738 231 1 3 389 true 390 (.ref 391) (.ref 392) (.ref 393) 742 743
noncomputable def o263 (P:Params):Obj:=fo (.type "function") (nd (cb hM 21) 12) "Emitter.expect_document_root" 3 .none .none .none (.str "yaml.emitter" 560) none (.ref 394) .none 0
noncomputable def o264 (P:Params):Obj:=⟨(.type "tuple"),none,(.seq #[(.bool false),(.bool false),(.bool false),(.bool false)] 0),#[]⟩
noncomputable def o265 (P:Params):Obj:=⟨(.type "tuple"),none,(.seq #[(.str "self" 748),(.str "root" 749),(.str "sequence" 750),(.str "mapping" 751),(.str "simple_key" 752)] 0),#[]⟩
noncomputable def o266 (P:Params):Obj:=fo .none (nd (cb hM 21) 13) "Emitter.expect_node" 0 .none .none .none .none none .none .none 0
noncomputable def o267 (P:Params):Obj:=co "expect_node" "Emitter.expect_node" 745 235 5 3 397 true 398 (.ref 399) (.ref 400) (.ref 401) 753 754
noncomputable def o268 (P:Params):Obj:=fo (.type "function") (nd (cb hM 21) 13) "Emitter.expect_node" 3 (.ref 396) .none .none (.str "yaml.emitter" 560) none (.ref 402) .none 0
noncomputable def o269 (P:Params):Obj:=⟨(.type "tuple"),none,(.seq #[(.str "self" 759)] 0),#[]⟩
noncomputable def o270 (P:Params):Obj:=fo .none (nd (cb hM 21) 14) "Emitter.expect_alias" 0 .none .none .none .none none .none .none 0
noncomputable def o271 (P:Params):Obj:=co "expect_alias" "Emitter.expect_alias" 756 260 1 3 404 true 405 (.ref 406) (.ref 407) (.ref 408) 760 761
noncomputable def o272 (P:Params):Obj:=fo (.type "function") (nd (cb hM 21) 14) "Emitter.expect_alias" 3 .none .none .none (.str "yaml.emitter" 560) none (.ref 409) .none 0
noncomputable def o273 (P:Params):Obj:=⟨(.type "tuple"),none,(.seq #[(.str "self" 766)] 0),#[]⟩
noncomputable def o274 (P:Params):Obj:=fo .none (nd (cb hM 21) 15) "Emitter.expect_scalar" 0 .none .none .none .none none .none .none 0
noncomputable def o275 (P:Params):Obj:=co "expect_scalar" "Emitter.expect_scalar" 763 266 1 3 411 true 412 (.ref 413) (.ref 414) (.ref 415) 767 768
noncomputable def o276 (P:Params):Obj:=fo (.type "function") (nd (cb hM 21) 15) "Emitter.expect_scalar" 3 .none .none .none (.str "yaml.emitter" 560) none (.ref 416) .none 0
noncomputable def o277 (P:Params):Obj:=⟨(.type "tuple"),none,(.seq #[(.str "self" 773)] 0),#[]⟩
noncomputable def o278 (P:Params):Obj:=fo .none (nd (cb hM 21) 16) "Emitter.expect_flow_sequence" 0 .none .none .none .none none .none .none 0
noncomputable def o279 (P:Params):Obj:=co "expect_flow_sequence" "Emitter.expect_flow_sequence" 770 272 1 3 418 true 419 (.ref 420) (.ref 421) (.ref 422) 774 775
noncomputable def o280 (P:Params):Obj:=fo (.type "function") (nd (cb hM 21) 16) "Emitter.expect_flow_sequence" 3 .none .none .none (.str "yaml.emitter" 560) none (.ref 423) .none 0
noncomputable def o281 (P:Params):Obj:=⟨(.type "tuple"),none,(.seq #[(.str "self" 780)] 0),#[]⟩
noncomputable def o282 (P:Params):Obj:=fo .none (nd (cb hM 21) 17) "Emitter.expect_first_flow_sequence_item" 0 .none .none .none .none none .none .none 0
noncomputable def o283 (P:Params):Obj:=co "expect_first_flow_sequence_item" "Emitter.expect_first_flow_sequence_item" 777 278 1 3 425 true 426 (.ref 427) (.ref 428) (.ref 429) 781 782
noncomputable def o284 (P:Params):Obj:=fo (.type "function") (nd (cb hM 21) 17) "Emitter.expect_first_flow_sequence_item" 3 .none .none .none (.str "yaml.emitter" 560) none (.ref 430) .none 0
noncomputable def o285 (P:Params):Obj:=⟨(.type "tuple"),none,(.seq #[(.str "self" 787)] 0),#[]⟩
noncomputable def o286 (P:Params):Obj:=fo .none (nd (cb hM 21) 18) "Emitter.expect_flow_sequence_item" 0 .none .none .none .none none .none .none 0
noncomputable def o287 (P:Params):Obj:=co "expect_flow_sequence_item" "Emitter.expect_flow_sequence_item" 784 290 1 3 432 true 433 (.ref 434) (.ref 435) (.ref 436) 788 789
noncomputable def o288 (P:Params):Obj:=fo (.type "function") (nd (cb hM 21) 18) "Emitter.expect_flow_sequence_item" 3 .none .none .none (.str "yaml.emitter" 560) none (.ref 437) .none 0
noncomputable def o289 (P:Params):Obj:=⟨(.type "tuple"),none,(.seq #[(.str "self" 794)] 0),#[]⟩
noncomputable def o290 (P:Params):Obj:=fo .none (nd (cb hM 21) 19) "Emitter.expect_flow_mapping" 0 .none .none .none .none none .none .none 0
noncomputable def o291 (P:Params):Obj:=co "expect_flow_mapping" "Emitter.expect_flow_mapping" 791 306 1 3 439 true 440 (.ref 441) (.ref 442) (.ref 443) 795 796
noncomputable def o292 (P:Params):Obj:=fo (.type "function") (nd (cb hM 21) 19) "Emitter.expect_flow_mapping" 3 .none .none .none (.str "yaml.emitter" 560) none (.ref 444) .none 0
noncomputable def o293 (P:Params):Obj:=⟨(.type "tuple"),none,(.seq #[(.str "self" 801)] 0),#[]⟩
noncomputable def o294 (P:Params):Obj:=fo .none (nd (cb hM 21) 20) "Emitter.expect_first_flow_mapping_key" 0 .none .none .none .none none .none .none 0
noncomputable def o295 (P:Params):Obj:=co "expect_first_flow_mapping_key" "Emitter.expect_first_flow_mapping_key" 798 312 1 3 446 true 447 (.ref 448) (.ref 449) (.ref 450) 802 803
noncomputable def o296 (P:Params):Obj:=fo (.type "function") (nd (cb hM 21) 20) "Emitter.expect_first_flow_mapping_key" 3 .none .none .none (.str "yaml.emitter" 560) none (.ref 451) .none 0
noncomputable def o297 (P:Params):Obj:=⟨(.type "tuple"),none,(.seq #[(.str "self" 808)] 0),#[]⟩
noncomputable def o298 (P:Params):Obj:=fo .none (nd (cb hM 21) 21) "Emitter.expect_flow_mapping_key" 0 .none .none .none .none none .none .none 0
noncomputable def o299 (P:Params):Obj:=co "expect_flow_mapping_key" "Emitter.expect_flow_mapping_key" 805 329 1 3 453 true 454 (.ref 455) (.ref 456) (.ref 457) 809 810
noncomputable def o300 (P:Params):Obj:=fo (.type "function") (nd (cb hM 21) 21) "Emitter.expect_flow_mapping_key" 3 .none .none .none (.str "yaml.emitter" 560) none (.ref 458) .none 0
noncomputable def o301 (P:Params):Obj:=⟨(.type "tuple"),none,(.seq #[(.str "self" 815)] 0),#[]⟩
noncomputable def o302 (P:Params):Obj:=fo .none (nd (cb hM 21) 22) "Emitter.expect_flow_mapping_simple_value" 0 .none .none .none .none none .none .none 0
noncomputable def o303 (P:Params):Obj:=co "expect_flow_mapping_simple_value" "Emitter.expect_flow_mapping_simple_value" 812 350 1 3 460 true 461 (.ref 462) (.ref 463) (.ref 464) 816 817
noncomputable def o304 (P:Params):Obj:=fo (.type "function") (nd (cb hM 21) 22) "Emitter.expect_flow_mapping_simple_value" 3 .none .none .none (.str "yaml.emitter" 560) none (.ref 465) .none 0
noncomputable def o305 (P:Params):Obj:=⟨(.type "tuple"),none,(.seq #[(.str "self" 822)] 0),#[]⟩
noncomputable def o306 (P:Params):Obj:=fo .none (nd (cb hM 21) 23) "Emitter.expect_flow_mapping_value" 0 .none .none .none .none none .none .none 0
noncomputable def o307 (P:Params):Obj:=co "expect_flow_mapping_value" "Emitter.expect_flow_mapping_value" 819 355 1 3 467 true 468 (.ref 469) (.ref 470) (.ref 471) 823 824
noncomputable def o308 (P:Params):Obj:=fo (.type "function") (nd (cb hM 21) 23) "Emitter.expect_flow_mapping_value" 3 .none .none .none (.str "yaml.emitter" 560) none (.ref 472) .none 0
noncomputable def o309 (P:Params):Obj:=⟨(.type "tuple"),none,(.seq #[(.str "self" 829),(.str "indentless" 830)] 0),#[]⟩
noncomputable def o310 (P:Params):Obj:=fo .none (nd (cb hM 21) 24) "Emitter.expect_block_sequence" 0 .none .none .none .none none .none .none 0
noncomputable def o311 (P:Params):Obj:=co "expect_block_sequence" "Emitter.expect_block_sequence" 826 362 1 3 474 true 475 (.ref 476) (.ref 477) (.ref 478) 831 832
noncomputable def o312 (P:Params):Obj:=fo (.type "function") (nd (cb hM 21) 24) "Emitter.expect_block_sequence" 3 .none .none .none (.str "yaml.emitter" 560) none (.ref 479) .none 0
noncomputable def o313 (P:Params):Obj:=⟨(.type "tuple"),none,(.seq #[(.str "self" 837)] 0),#[]⟩
noncomputable def o314 (P:Params):Obj:=fo .none (nd (cb hM 21) 25) "Emitter.expect_first_block_sequence_item" 0 .none .none .none .none none .none .none 0
noncomputable def o315 (P:Params):Obj:=co "expect_first_block_sequence_item" "Emitter.expect_first_block_sequence_item" 834 367 1 3 481 true 482 (.ref 483) (.ref 484) (.ref 485) 838 839
noncomputable def o316 (P:Params):Obj:=fo (.type "function") (nd (cb hM 21) 25) "Emitter.expect_first_block_sequence_item" 3 .none .none .none (.str "yaml.emitter" 560) none (.ref 486) .none 0
noncomputable def o317 (P:Params):Obj:=⟨(.type "tuple"),none,(.seq #[(.str "self" 844),(.str "first" 845)] 0),#[]⟩
noncomputable def o318 (P:Params):Obj:=fo .none (nd (cb hM 21) 26) "Emitter.expect_block_sequence_item" 0 .none .none .none .none none .none .none 0
noncomputable def o319 (P:Params):Obj:=co "expect_block_sequence_item" "Emitter.expect_block_sequence_item" 841 370 2 3 489 true 490 (.ref 491) (.ref 492) (.ref 493) 846 847
noncomputable def o320 (P:Params):Obj:=fo (.type "function") (nd (cb hM 21) 26) "Emitter.expect_block_sequence_item" 3 (.ref 488) .none .none (.str "yaml.emitter" 560) none (.ref 494) .none 0
noncomputable def o321 (P:Params):Obj:=⟨(.type "tuple"),none,(.seq #[(.str "self" 852)] 0),#[]⟩
noncomputable def o322 (P:Params):Obj:=fo .none (nd (cb hM 21) 27) "Emitter.expect_block_mapping" 0 .none .none .none .none none .none .none 0
noncomputable def o323 (P:Params):Obj:=co "expect_block_mapping" "Emitter.expect_block_mapping" 849 380 1 3 496 true 497 (.ref 498) (.ref 499) (.ref 500) 853 854
noncomputable def o324 (P:Params):Obj:=fo (.type "function") (nd (cb hM 21) 27) "Emitter.expect_block_mapping" 3 .none .none .none (.str "yaml.emitter" 560) none (.ref 501) .none 0
noncomputable def o325 (P:Params):Obj:=⟨(.type "tuple"),none,(.seq #[(.str "self" 859)] 0),#[]⟩
noncomputable def o326 (P:Params):Obj:=fo .none (nd (cb hM 21) 28) "Emitter.expect_first_block_mapping_key" 0 .none .none .none .none none .none .none 0
noncomputable def o327 (P:Params):Obj:=co "expect_first_block_mapping_key" "Emitter.expect_first_block_mapping_key" 856 384 1 3 503 true 504 (.ref 505) (.ref 506) (.ref 507) 860 861
noncomputable def o328 (P:Params):Obj:=fo (.type "function") (nd (cb hM 21) 28) "Emitter.expect_first_block_mapping_key" 3 .none .none .none (.str "yaml.emitter" 560) none (.ref 508) .none 0
noncomputable def o329 (P:Params):Obj:=⟨(.type "tuple"),none,(.seq #[(.str "self" 866),(.str "first" 867)] 0),#[]⟩
noncomputable def o330 (P:Params):Obj:=fo .none (nd (cb hM 21) 29) "Emitter.expect_block_mapping_key" 0 .none .none .none .none none .none .none 0
noncomputable def o331 (P:Params):Obj:=co "expect_block_mapping_key" "Emitter.expect_block_mapping_key" 863 387 2 3 511 true 512 (.ref 513) (.ref 514) (.ref 515) 868 869
noncomputable def o332 (P:Params):Obj:=fo (.type "function") (nd (cb hM 21) 29) "Emitter.expect_block_mapping_key" 3 (.ref 510) .none .none (.str "yaml.emitter" 560) none (.ref 516) .none 0
noncomputable def o333 (P:Params):Obj:=⟨(.type "tuple"),none,(.seq #[(.str "self" 874)] 0),#[]⟩
noncomputable def o334 (P:Params):Obj:=fo .none (nd (cb hM 21) 30) "Emitter.expect_block_mapping_simple_value" 0 .none .none .none .none none .none .none 0
noncomputable def o335 (P:Params):Obj:=co "expect_block_mapping_simple_value" "Emitter.expect_block_mapping_simple_value" 871 401 1 3 518 true 519 (.ref 520) (.ref 521) (.ref 522) 875 876
noncomputable def o336 (P:Params):Obj:=fo (.type "function") (nd (cb hM 21) 30) "Emitter.expect_block_mapping_simple_value" 3 .none .none .none (.str "yaml.emitter" 560) none (.ref 523) .none 0
noncomputable def o337 (P:Params):Obj:=⟨(.type "tuple"),none,(.seq #[(.str "self" 881)] 0),#[]⟩
noncomputable def o338 (P:Params):Obj:=fo .none (nd (cb hM 21) 31) "Emitter.expect_block_mapping_value" 0 .none .none .none .none none .none .none 0
noncomputable def o339 (P:Params):Obj:=co "expect_block_mapping_value" "Emitter.expect_block_mapping_value" 878 406 1 3 525 true 526 (.ref 527) (.ref 528) (.ref 529) 882 883
noncomputable def o340 (P:Params):Obj:=fo (.type "function") (nd (cb hM 21) 31) "Emitter.expect_block_mapping_value" 3 .none .none .none (.str "yaml.emitter" 560) none (.ref 530) .none 0
noncomputable def o341 (P:Params):Obj:=⟨(.type "tuple"),none,(.seq #[(.str "self" 888)] 0),#[]⟩
noncomputable def o342 (P:Params):Obj:=fo .none (nd (cb hM 21) 32) "Emitter.check_empty_sequence" 0 .none .none .none .none none .none .none 0
noncomputable def o343 (P:Params):Obj:=co "check_empty_sequence" "Emitter.check_empty_sequence" 885 412 1 3 532 true 533 (.ref 534) (.ref 535) (.ref 536) 889 890
noncomputable def o344 (P:Params):Obj:=fo (.type "function") (nd (cb hM 21) 32) "Emitter.check_empty_sequence" 3 .none .none .none (.str "yaml.emitter" 560) none (.ref 537) .none 0
noncomputable def o345 (P:Params):Obj:=⟨(.type "tuple"),none,(.seq #[(.str "self" 895)] 0),#[]⟩
noncomputable def o346 (P:Params):Obj:=fo .none (nd (cb hM 21) 33) "Emitter.check_empty_mapping" 0 .none .none .none .none none .none .none 0
noncomputable def o347 (P:Params):Obj:=co "check_empty_mapping" "Emitter.check_empty_mapping" 892 415 1 3 539 true 540 (.ref 541) (.ref 542) (.ref 543) 896 897
noncomputable def o348 (P:Params):Obj:=fo (.type "function") (nd (cb hM 21) 33) "Emitter.check_empty_mapping" 3 .none .none .none (.str "yaml.emitter" 560) none (.ref 544) .none 0
noncomputable def o349 (P:Params):Obj:=⟨(.type "tuple"),none,(.seq #[(.str "self" 902),(.str "event" 903)] 0),#[]⟩
noncomputable def o350 (P:Params):Obj:=fo .none (nd (cb hM 21) 34) "Emitter.check_empty_document" 0 .none .none .none .none none .none .none 0
noncomputable def o351 (P:Params):Obj:=co "check_empty_document" "Emitter.check_empty_document" 899 418 1 3 546 true 547 (.ref 548) (.ref 549) (.ref 550) 904 905
noncomputable def o352 (P:Params):Obj:=fo (.type "function") (nd (cb hM 21) 34) "Emitter.check_empty_document" 3 .none .none .none (.str "yaml.emitter" 560) none (.ref 551) .none 0
noncomputable def o353 (P:Params):Obj:=⟨(.type "tuple"),none,(.seq #[(.str "self" 910),(.str "length" 911)] 0),#[]⟩
noncomputable def o354 (P:Params):Obj:=fo .none (nd (cb hM 21) 35) "Emitter.check_simple_key" 0 .none .none .none .none none .none .none 0
noncomputable def o355 (P:Params):Obj:=co "check_simple_key" "Emitter.check_simple_key" 907 424 1 3 553 true 554 (.ref 555) (.ref 556) (.ref 557) 912 913
noncomputable def o356 (P:Params):Obj:=fo (.type "function") (nd (cb hM 21) 35) "Emitter.check_simple_key" 3 .none .none .none (.str "yaml.emitter" 560) none (.ref 558) .none 0
noncomputable def o357 (P:Params):Obj:=⟨(.type "tuple"),none,(.seq #[(.str "self" 918),(.str "indicator" 919)] 0),#[]⟩
noncomputable def o358 (P:Params):Obj:=fo .none (nd (cb hM 21) 36) "Emitter.process_anchor" 0 .none .none .none .none none .none .none 0
noncomputable def o359 (P:Params):Obj:=co "process_anchor" "Emitter.process_anchor" 915 440 2 3 560 true 561 (.ref 562) (.ref 563) (.ref 564) 920 921
noncomputable def o360 (P:Params):Obj:=fo (.type "function") (nd (cb hM 21) 36) "Emitter.process_anchor" 3 .none .none .none (.str "yaml.emitter" 560) none (.ref 565) .none 0
noncomputable def o361 (P:Params):Obj:=⟨(.type "tuple"),none,(.seq #[(.str "self" 926),(.str "tag" 927)] 0),#[]⟩
noncomputable def o362 (P:Params):Obj:=fo .none (nd (cb hM 21) 37) "Emitter.process_tag" 0 .none .none .none .none none .none .none 0
noncomputable def o363 (P:Params):Obj:=co "process_tag" "Emitter.process_tag" 923 450 1 3 567 true 568 (.ref 569) (.ref 570) (.ref 571) 928 929
noncomputable def o364 (P:Params):Obj:=fo (.type "function") (nd (cb hM 21) 37) "Emitter.process_tag" 3 .none .none .none (.str "yaml.emitter" 560) none (.ref 572) .none 0
noncomputable def o365 (P:Params):Obj:=⟨(.type "tuple"),none,(.seq #[(.str "self" 934)] 0),#[]⟩
noncomputable def o366 (P:Params):Obj:=fo .none (nd (cb hM 21) 38) "Emitter.choose_scalar_style" 0 .none .none .none .none none .none .none 0
noncomputable def o367 (P:Params):Obj:=co "choose_scalar_style" "Emitter.choose_scalar_style" 931 472 1 3 574 true 575 (.ref 576) (.ref 577) (.ref 578) 935 936
noncomputable def o368 (P:Params):Obj:=fo (.type "function") (nd (cb hM 21) 38) "Emitter.choose_scalar_style" 3 .none .none .none (.str "yaml.emitter" 560) none (.ref 579) .none 0
noncomputable def o369 (P:Params):Obj:=⟨(.type "tuple"),none,(.seq #[(.str "self" 941),(.str "split" 942)] 0),#[]⟩
noncomputable def o370 (P:Params):Obj:=fo .none (nd (cb hM 21) 39) "Emitter.process_scalar" 0 .none .none .none .none none .none .none 0
noncomputable def o371 (P:Params):Obj:=co "process_scalar" "Emitter.process_scalar" 938 488 1 3 581 true 582 (.ref 583) (.ref 584) (.ref 585) 943 944
noncomputable def o372 (P:Params):Obj:=fo (.type "function") (nd (cb hM 21) 39) "Emitter.process_scalar" 3 .none .none .none (.str "yaml.emitter" 560) none (.ref 586) .none 0
noncomputable def o373 (P:Params):Obj:=⟨(.type "tuple"),none,(.seq #[(.str "self" 949),(.str "version" 950),(.str "major" 951),(.str "minor" 952)] 0),#[]⟩
noncomputable def o374 (P:Params):Obj:=fo .none (nd (cb hM 21) 40) "Emitter.prepare_version" 0 .none .none .none .none none .none .none 0
noncomputable def o375 (P:Params):Obj:=co "prepare_version" "Emitter.prepare_version" 946 507 2 3 588 true 589 (.ref 590) (.ref 591) (.ref 592) 953 954
noncomputable def o376 (P:Params):Obj:=fo (.type "function") (nd (cb hM 21) 40) "Emitter.prepare_version" 3 .none .none .none (.str "yaml.emitter" 560) none (.ref 593) .none 0
noncomputable def o377 (P:Params):Obj:=⟨(.type "tuple"),none,(.seq #[(.str "self" 959),(.str "handle" 960),(.str "ch" 961)] 0),#[]⟩
noncomputable def o378 (P:Params):Obj:=fo .none (nd (cb hM 21) 41) "Emitter.prepare_tag_handle" 0 .none .none .none .none none .none .none 0
noncomputable def o379 (P:Params):Obj:=co "prepare_tag_handle" "Emitter.prepare_tag_handle" 956 513 2 3 595 true 596 (.ref 597) (.ref 598) (.ref 599) 962 963
noncomputable def o380 (P:Params):Obj:=fo (.type "function") (nd (cb hM 21) 41) "Emitter.prepare_tag_handle" 3 .none .none .none (.str "yaml.emitter" 560) none (.ref 600) .none 0
noncomputable def o381 (P:Params):Obj:=⟨(.type "tuple"),none,(.seq #[(.str "self" 968),(.str "prefix" 969),(.str "chunks" 970),(.str "start" 971),(.str "end" 972),(.str "ch" 973),(.str "data" 974)] 0),#[]⟩
noncomputable def o382 (P:Params):Obj:=fo .none (nd (cb hM 21) 42) "Emitter.prepare_tag_prefix" 0 .none .none .none .none none .none .none 0
noncomputable def o383 (P:Params):Obj:=co "prepare_tag_prefix" "Emitter.prepare_tag_prefix" 965 523 2 3 602 true 603 (.ref 604) (.ref 605) (.ref 606) 975 976
noncomputable def o384 (P:Params):Obj:=fo (.type "function") (nd (cb hM 21) 42) "Emitter.prepare_tag_prefix" 3 .none .none .none (.str "yaml.emitter" 560) none (.ref 607) .none 0
noncomputable def o385 (P:Params):Obj:=⟨(.type "tuple"),none,(.seq #[(.str "self" 981),(.str "tag" 982),(.str "handle" 983),(.str "suffix" 984),(.str "prefixes" 985),(.str "prefix" 986),(.str "chunks" 987),(.str "start" 988),(.str "end" 989),(.str "ch" 990),(.str "data" 991),(.str "suffix_text" 992)] 0),#[]⟩
noncomputable def o386 (P:Params):Obj:=fo .none (nd (cb hM 21) 43) "Emitter.prepare_tag" 0 .none .none .none .none none .none .none 0
noncomputable def o387 (P:Params):Obj:=co "prepare_tag" "Emitter.prepare_tag" 978 545 2 3 609 true 610 (.ref 611) (.ref 612) (.ref 613) 993 994
noncomputable def o388 (P:Params):Obj:=fo (.type "function") (nd (cb hM 21) 43) "Emitter.prepare_tag" 3 .none .none .none (.str "yaml.emitter" 560) none (.ref 614) .none 0
noncomputable def o389 (P:Params):Obj:=⟨(.type "tuple"),none,(.seq #[(.str "self" 999),(.str "anchor" 1000),(.str "ch" 1001)] 0),#[]⟩
noncomputable def o390 (P:Params):Obj:=fo .none (nd (cb hM 21) 44) "Emitter.prepare_anchor" 0 .none .none .none .none none .none .none 0
noncomputable def o391 (P:Params):Obj:=co "prepare_anchor" "Emitter.prepare_anchor" 996 578 2 3 616 true 617 (.ref 618) (.ref 619) (.ref 620) 1002 1003
noncomputable def o392 (P:Params):Obj:=fo (.type "function") (nd (cb hM 21) 44) "Emitter.prepare_anchor" 3 .none .none .none (.str "yaml.emitter" 560) none (.ref 621) .none 0
noncomputable def o393 (P:Params):Obj:=⟨(.type "tuple"),none,(.seq #[(.str "self" 1008),(.str "scalar" 1009),(.str "block_indicators" 1010),(.str "flow_indicators" 1011),(.str "line_breaks" 1012),(.str "special_characters" 1013),(.str "leading_space" 1014),(.str "leading_break" 1015),(.str "trailing_space" 1016),(.str "trailing_break" 1017),(.str "break_space" 1018),(.str "space_break" 1019),(.str "preceded_by_whitespace" 1020),(.str "followed_by_whitespace" 1021),(.str "previous_space" 1022),(.str "previous_break" 1023),(.str "index" 1024),(.str "ch" 1025),(.str "unicode_characters" 1026),(.str "allow_flow_plain" 1027),(.str "allow_block_plain" 1028),(.str "allow_single_quoted" 1029),(.str "allow_double_quoted" 1030),(.str "allow_block" 1031)] 0),#[]⟩
noncomputable def o394 (P:Params):Obj:=fo .none (nd (cb hM 21) 45) "Emitter.analyze_scalar" 0 .none .none .none .none none .none .none 0
noncomputable def o395 (P:Params):Obj:=co "analyze_scalar" "Emitter.analyze_scalar" 1005 586 2 3 623 true 624 (.ref 625) (.ref 626) (.ref 627) 1032 1033
noncomputable def o396 (P:Params):Obj:=fo (.type "function") (nd (cb hM 21) 45) "Emitter.analyze_scalar" 3 .none .none .none (.str "yaml.emitter" 560) none (.ref 628) .none 0
noncomputable def o397 (P:Params):Obj:=⟨(.type "tuple"),none,(.seq #[(.str "self" 1038)] 0),#[]⟩
noncomputable def o398 (P:Params):Obj:=fo .none (nd (cb hM 21) 46) "Emitter.flush_stream" 0 .none .none .none .none none .none .none 0
noncomputable def o399 (P:Params):Obj:=co "flush_stream" "Emitter.flush_stream" 1035 684 1 3 630 true 631 (.ref 632) (.ref 633) (.ref 634) 1039 1040
noncomputable def o400 (P:Params):Obj:=fo (.type "function") (nd (cb hM 21) 46) "Emitter.flush_stream" 3 .none .none .none (.str "yaml.emitter" 560) none (.ref 635) .none 0
noncomputable def o401 (P:Params):Obj:=⟨(.type "tuple"),none,(.seq #[(.str "self" 1045)] 0),#[]⟩
noncomputable def o402 (P:Params):Obj:=fo .none (nd (cb hM 21) 47) "Emitter.write_stream_start" 0 .none .none .none .none none .none .none 0
noncomputable def o403 (P:Params):Obj:=co "write_stream_start" "Emitter.write_stream_start" 1042 687 1 3 637 true 638 (.ref 639) (.ref 640) (.ref 641) 1046 1047
noncomputable def o404 (P:Params):Obj:=fo (.type "function") (nd (cb hM 21) 47) "Emitter.write_stream_start" 3 .none .none .none (.str "yaml.emitter" 560) none (.ref 642) .none 0
noncomputable def o405 (P:Params):Obj:=⟨(.type "tuple"),none,(.seq #[(.str "self" 1052)] 0),#[]⟩
noncomputable def o406 (P:Params):Obj:=fo .none (nd (cb hM 21) 48) "Emitter.write_stream_end" 0 .none .none .none .none none .none .none 0
noncomputable def o407 (P:Params):Obj:=co "write_stream_end" "Emitter.write_stream_end" 1049 690 1 3 644 true 645 (.ref 646) (.ref 647) (.ref 648) 1053 1054
noncomputable def o408 (P:Params):Obj:=fo (.type "function") (nd (cb hM 21) 48) "Emitter.write_stream_end" 3 .none .none .none (.str "yaml.emitter" 560) none (.ref 649) .none 0
noncomputable def o409 (P:Params):Obj:=⟨(.type "tuple"),none,(.seq #[(.str "self" 1059),(.str "indicator" 1060),(.str "need_whitespace" 1061),(.str "whitespace" 1062),(.str "indention" 1063),(.str "data" 1064)] 0),#[]⟩
noncomputable def o410 (P:Params):Obj:=fo .none (nd (cb hM 21) 49) "Emitter.write_indicator" 0 .none .none .none .none none .none .none 0
noncomputable def o411 (P:Params):Obj:=co "write_indicator" "Emitter.write_indicator" 1056 693 5 3 652 true 653 (.ref 654) (.ref 655) (.ref 656) 1065 1066
noncomputable def o412 (P:Params):Obj:=fo (.type "function") (nd (cb hM 21) 49) "Emitter.write_indicator" 3 (.ref 651) .none .none (.str "yaml.emitter" 560) none (.ref 657) .none 0
noncomputable def o413 (P:Params):Obj:=⟨(.type "tuple"),none,(.seq #[(.str "self" 1071),(.str "indent" 1072),(.str "data" 1073)] 0),#[]⟩
noncomputable def o414 (P:Params):Obj:=fo .none (nd (cb hM 21) 50) "Emitter.write_indent" 0 .none .none .none .none none .none .none 0
noncomputable def o415 (P:Params):Obj:=co "write_indent" "Emitter.write_indent" 1068 704 1 3 659 true 660 (.ref 661) (.ref 662) (.ref 663) 1074 1075
noncomputable def o416 (P:Params):Obj:=fo (.type "function") (nd (cb hM 21) 50) "Emitter.write_indent" 3 .none .none .none (.str "yaml.emitter" 560) none (.ref 664) .none 0
noncomputable def o417 (P:Params):Obj:=⟨(.type "tuple"),none,(.seq #[.none] 0),#[]⟩
noncomputable def o418 (P:Params):Obj:=⟨(.type "tuple"),none,(.seq #[(.str "self" 1080),(.str "data" 1081)] 0),#[]⟩
noncomputable def o419 (P:Params):Obj:=fo .none (nd (cb hM 21) 51) "Emitter.write_line_break" 0 .none .none .none .none none .none .none 0
noncomputable def o420 (P:Params):Obj:=co "write_line_break" "Emitter.write_line_break" 1077 714 2 3 667 true 668 (.ref 669) (.ref 670) (.ref 671) 1082 1083
noncomputable def o421 (P:Params):Obj:=fo (.type "function") (nd (cb hM 21) 51) "Emitter.write_line_break" 3 (.ref 666) .none .none (.str "yaml.emitter" 560) none (.ref 672) .none 0
noncomputable def o422 (P:Params):Obj:=⟨(.type "tuple"),none,(.seq #[(.str "self" 1088),(.str "version_text" 1089),(.str "data" 1090)] 0),#[]⟩
noncomputable def o423 (P:Params):Obj:=fo .none (nd (cb hM 21) 52) "Emitter.write_version_directive" 0 .none .none .none .none none .none .none 0
noncomputable def o424 (P:Params):Obj:=co "write_version_directive" "Emitter.write_version_directive" 1085 723 2 3 674 true 675 (.ref 676) (.ref 677) (.ref 678) 1091 1092
noncomputable def o425 (P:Params):Obj:=fo (.type "function") (nd (cb hM 21) 52) "Emitter.write_version_directive" 3 .none .none .none (.str "yaml.emitter" 560) none (.ref 679) .none 0
noncomputable def o426 (P:Params):Obj:=⟨(.type "tuple"),none,(.seq #[(.str "self" 1097),(.str "handle_text" 1098),(.str "prefix_text" 1099),(.str "data" 1100)] 0),#[]⟩
noncomputable def o427 (P:Params):Obj:=fo .none (nd (cb hM 21) 53) "Emitter.write_tag_directive" 0 .none .none .none .none none .none .none 0
noncomputable def o428 (P:Params):Obj:=co "write_tag_directive" "Emitter.write_tag_directive" 1094 728 3 3 681 true 682 (.ref 683) (.ref 684) (.ref 685) 1101 1102
noncomputable def o429 (P:Params):Obj:=fo (.type "function") (nd (cb hM 21) 53) "Emitter.write_tag_directive" 3 .none .none .none (.str "yaml.emitter" 560) none (.ref 686) .none 0
noncomputable def o430 (P:Params):Obj:=⟨(.type "tuple"),none,(.seq #[(.bool true)] 0),#[]⟩
noncomputable def o431 (P:Params):Obj:=⟨(.type "tuple"),none,(.seq #[(.str "self" 1107),(.str "text" 1108),(.str "split" 1109),(.str "spaces" 1110),(.str "breaks" 1111),(.str "start" 1112),(.str "end" 1113),(.str "ch" 1114),(.str "data" 1115),(.str "br" 1116)] 0),#[]⟩
noncomputable def o432 (P:Params):Obj:=fo .none (nd (cb hM 21) 54) "Emitter.write_single_quoted" 0 .none .none .none .none none .none .none 0
noncomputable def o433 (P:Params):Obj:=co "write_single_quoted" "Emitter.write_single_quoted" 1104 733 3 3 689 true 690 (.ref 691) (.ref 692) (.ref 693) 1117 1118
noncomputable def o434 (P:Params):Obj:=fo (.type "function") (nd (cb hM 21) 54) "Emitter.write_single_quoted" 3 (.ref 688) .none .none (.str "yaml.emitter" 560) none (.ref 694) .none 0
noncomputable def o435 (P:Params):Obj:=⟨(.type "dict"),none,(.dict #[(de P "\x00" 1120 (.str "0" 1121)),(de P "\x07" 1122 (.str "a" 1123)),(de P "\x08" 1124 (.str "b" 1125)),(de P "\t" 1126 (.str "t" 1127)),(de P "\n" 1128 (.str "n" 1129)),(de P "\x0b" 1130 (.str "v" 1131)),(de P "\x0c" 1132 (.str "f" 1133)),(de P "\x0d" 1134 (.str "r" 1135)),(de P "\x1b" 1136 (.str "e" 1137)),(de P "\"" 1138 (.str "\"" 1139)),(de P "\\" 1140 (.str "\\" 1141)),(de P "" 1142 (.str "N" 1143)),(de P " " 1144 (.str "_" 1145)),(de P " " 1146 (.str "L" 1147)),(de P " " 1148 (.str "P" 1149))] 15),#[]⟩
noncomputable def o436 (P:Params):Obj:=⟨(.type "tuple"),none,(.seq #[(.str "self" 1169),(.str "text" 1170),(.str "split" 1171),(.str "start" 1172),(.str "end" 1173),(.str "ch" 1174),(.str "data" 1175)] 0),#[]⟩
noncomputable def o437 (P:Params):Obj:=fo .none (nd (cb hM 21) 56) "Emitter.write_double_quoted" 0 .none .none .none .none none .none .none 0
noncomputable def o438 (P:Params):Obj:=co "write_double_quoted" "Emitter.write_double_quoted" 1166 780 3 3 698 true 699 (.ref 700) (.ref 701) (.ref 702) 1176 1177
noncomputable def o439 (P:Params):Obj:=fo (.type "function") (nd (cb hM 21) 56) "Emitter.write_double_quoted" 3 (.ref 697) .none .none (.str "yaml.emitter" 560) none (.ref 703) .none 0
noncomputable def o440 (P:Params):Obj:=⟨(.type "tuple"),none,(.seq #[(.str "self" 1182),(.str "text" 1183),(.str "hints" 1184)] 0),#[]⟩
noncomputable def o441 (P:Params):Obj:=fo .none (nd (cb hM 21) 57) "Emitter.determine_block_hints" 0 .none .none .none .none none .none .none 0
noncomputable def o442 (P:Params):Obj:=co "determine_block_hints" "Emitter.determine_block_hints" 1179 821 2 3 705 true 706 (.ref 707) (.ref 708) (.ref 709) 1185 1186
noncomputable def o443 (P:Params):Obj:=fo (.type "function") (nd (cb hM 21) 57) "Emitter.determine_block_hints" 3 .none .none .none (.str "yaml.emitter" 560) none (.ref 710) .none 0
noncomputable def o444 (P:Params):Obj:=⟨(.type "tuple"),none,(.seq #[(.str "self" 1191),(.str "text" 1192),(.str "hints" 1193),(.str "leading_space" 1194),(.str "spaces" 1195),(.str "breaks" 1196),(.str "start" 1197),(.str "end" 1198),(.str "ch" 1199),(.str "br" 1200),(.str "data" 1201)] 0),#[]⟩
noncomputable def o445 (P:Params):Obj:=fo .none (nd (cb hM 21) 58) "Emitter.write_folded" 0 .none .none .none .none none .none .none 0
noncomputable def o446 (P:Params):Obj:=co "write_folded" "Emitter.write_folded" 1188 832 2 3 712 true 713 (.ref 714) (.ref 715) (.ref 716) 1202 1203
noncomputable def o447 (P:Params):Obj:=fo (.type "function") (nd (cb hM 21) 58) "Emitter.write_folded" 3 .none .none .none (.str "yaml.emitter" 560) none (.ref 717) .none 0
noncomputable def o448 (P:Params):Obj:=⟨(.type "tuple"),none,(.seq #[(.str "self" 1208),(.str "text" 1209),(.str "hints" 1210),(.str "breaks" 1211),(.str "start" 1212),(.str "end" 1213),(.str "ch" 1214),(.str "br" 1215),(.str "data" 1216)] 0),#[]⟩
noncomputable def o449 (P:Params):Obj:=fo .none (nd (cb hM 21) 59) "Emitter.write_literal" 0 .none .none .none .none none .none .none 0
noncomputable def o450 (P:Params):Obj:=co "write_literal" "Emitter.write_literal" 1205 880 2 3 719 true 720 (.ref 721) (.ref 722) (.ref 723) 1217 1218
noncomputable def o451 (P:Params):Obj:=fo (.type "function") (nd (cb hM 21) 59) "Emitter.write_literal" 3 .none .none .none (.str "yaml.emitter" 560) none (.ref 724) .none 0
noncomputable def o452 (P:Params):Obj:=⟨(.type "tuple"),none,(.seq #[(.str "self" 1223),(.str "text" 1224),(.str "split" 1225),(.str "data" 1226),(.str "spaces" 1227),(.str "breaks" 1228),(.str "start" 1229),(.str "end" 1230),(.str "ch" 1231),(.str "br" 1232)] 0),#[]⟩
noncomputable def o453 (P:Params):Obj:=fo .none (nd (cb hM 21) 60) "Emitter.write_plain" 0 .none .none .none .none none .none .none 0
noncomputable def o454 (P:Params):Obj:=co "write_plain" "Emitter.write_plain" 1220 912 3 3 727 true 728 (.ref 729) (.ref 730) (.ref 731) 1233 1234
noncomputable def o455 (P:Params):Obj:=fo (.type "function") (nd (cb hM 21) 60) "Emitter.write_plain" 3 (.ref 726) .none .none (.str "yaml.emitter" 560) none (.ref 732) .none 0
noncomputable def o456 (P:Params):Obj:=⟨(.type "tuple"),none,(.seq #[(.str "allow_unicode" 1236),(.str "analysis" 1237),(.str "best_indent" 1238),(.str "best_line_break" 1239),(.str "best_width" 1240),(.str "canonical" 1241),(.str "column" 1242),(.str "encoding" 1243),(.str "event" 1244),(.str "events" 1245),(.str "flow_level" 1246),(.str "indent" 1247),(.str "indention" 1248),(.str "indents" 1249),(.str "line" 1250),(.str "mapping_context" 1251),(.str "open_ended" 1252),(.str "prepared_anchor" 1253),(.str "prepared_tag" 1254),(.str "root_context" 1255),(.str "sequence_context" 1256),(.str "simple_key_context" 1257),(.str "state" 1258),(.str "states" 1259),(.str "stream" 1260),(.str "style" 1261),(.str "tag_prefixes" 1262),(.str "whitespace" 1263)] 0),#[]⟩
noncomputable def o457 (P:Params):Obj:=⟨(.type "dict"),none,(.dict #[(de P "__module__" 628 (.str "yaml.emitter" 560)),(de P "__firstlineno__" 632 (.int 89 631)),(de P "DEFAULT_TAG_PREFIXES" 639 (.ref 308)),(de P "__init__" 652 (.ref 316)),(de P "dispose" 659 (.ref 323)),(de P "emit" 667 (.ref 330)),(de P "need_more_events" 675 (.ref 337)),(de P "need_events" 685 (.ref 344)),(de P "increase_indent" 694 (.ref 352)),(de P "expect_stream_start" 701 (.ref 359)),(de P "expect_nothing" 708 (.ref 366)),(de P "expect_first_document_start" 715 (.ref 373)),(de P "expect_document_start" 730 (.ref 381)),(de P "expect_document_end" 737 (.ref 388)),(de P "expect_document_root" 744 (.ref 395)),(de P "expect_node" 755 (.ref 403)),(de P "expect_alias" 762 (.ref 410)),(de P "expect_scalar" 769 (.ref 417)),(de P "expect_flow_sequence" 776 (.ref 424)),(de P "expect_first_flow_sequence_item" 783 (.ref 431)),(de P "expect_flow_sequence_item" 790 (.ref 438)),(de P "expect_flow_mapping" 797 (.ref 445)),(de P "expect_first_flow_mapping_key" 804 (.ref 452)),(de P "expect_flow_mapping_key" 811 (.ref 459)),(de P "expect_flow_mapping_simple_value" 818 (.ref 466)),(de P "expect_flow_mapping_value" 825 (.ref 473)),(de P "expect_block_sequence" 833 (.ref 480)),(de P "expect_first_block_sequence_item" 840 (.ref 487)),(de P "expect_block_sequence_item" 848 (.ref 495)),(de P "expect_block_mapping" 855 (.ref 502)),(de P "expect_first_block_mapping_key" 862 (.ref 509)),(de P "expect_block_mapping_key" 870 (.ref 517)),(de P "expect_block_mapping_simple_value" 877 (.ref 524)),(de P "expect_block_mapping_value" 884 (.ref 531)),(de P "check_empty_sequence" 891 (.ref 538)),(de P "check_empty_mapping" 898 (.ref 545)),(de P "check_empty_document" 906 (.ref 552)),(de P "check_simple_key" 914 (.ref 559)),(de P "process_anchor" 922 (.ref 566)),(de P "process_tag" 930 (.ref 573)),(de P "choose_scalar_style" 937 (.ref 580)),(de P "process_scalar" 945 (.ref 587)),(de P "prepare_version" 955 (.ref 594)),(de P "prepare_tag_handle" 964 (.ref 601)),(de P "prepare_tag_prefix" 977 (.ref 608)),(de P "prepare_tag" 995 (.ref 615)),(de P "prepare_anchor" 1004 (.ref 622)),(de P "analyze_scalar" 1034 (.ref 629)),(de P "flush_stream" 1041 (.ref 636)),(de P "write_stream_start" 1048 (.ref 643)),(de P "write_stream_end" 1055 (.ref 650)),(de P "write_indicator" 1067 (.ref 658)),(de P "write_indent" 1076 (.ref 665)),(de P "write_line_break" 1084 (.ref 673)),(de P "write_version_directive" 1093 (.ref 680)),(de P "write_tag_directive" 1103 (.ref 687)),(de P "write_single_quoted" 1119 (.ref 695)),(de P "ESCAPE_REPLACEMENTS" 1165 (.ref 696)),(de P "write_double_quoted" 1178 (.ref 704)),(de P "determine_block_hints" 1187 (.ref 711)),(de P "write_folded" 1204 (.ref 718)),(de P "write_literal" 1219 (.ref 725)),(de P "write_plain" 1235 (.ref 733)),(de P "__static_attributes__" 1264 (.ref 734)),(de P "__dict__" 1266 (.ref 737)),(de P "__weakref__" 1268 (.ref 738)),(de P "__doc__" 1269 .none)] 4),#[]⟩
noncomputable def o458 (P:Params):Obj:=⟨(.type "type"),none,(.cls (PySem.ClassData.mk "Emitter" [(.type "object")] [(.ref 736),(.type "object")] 735 "Emitter" true [] [] false none false)),#[none,none,(some (.str "Emitter" 621)),(some (.str "Emitter" 629)),(some (.builtin "object.__new__")),(some (.bool true))]⟩
noncomputable def o459 (P:Params):Obj:=⟨(.type "getset_descriptor"),none,(.fields #[(.str "__dict__" 1265),(.ref 736),(.builtin "function.__dict__"),(.builtin "function.__dict__#set")]),#[]⟩
noncomputable def o460 (P:Params):Obj:=⟨(.type "getset_descriptor"),none,(.fields #[(.str "__weakref__" 1267),(.ref 736),(.builtin "ExceptionGroup.__weakref__"),.none]),#[]⟩
noncomputable def o461 (P:Params):Obj:=⟨(.type "super"),none,(.fields #[(.ref 736),(.ref 736),(.ref 736)]),#[]⟩
noncomputable def o462 (P:Params):Obj:=⟨(.type "builtin_function_or_method"),none,(.fields #[(.builtin "object.__init_subclass__"),(.ref 736)]),#[]⟩
noncomputable def L3 (P:Params):List Obj:=[boot_o_0 P,boot_o_1 P,o4 P,o207 P,boot_o_4 P,boot_o_5 P,boot_o_6 P,boot_o_7 P,boot_o_8 P,boot_o_9 P,boot_o_10 P,o0 P,o208 P,o2 P,o3 P,o0 P,o1 P,o7 P,o0 P,o8 P,o9 P,o10 P,o11 P,o12 P,o13 P,o0 P,o1 P,o14 P,o15 P,o0 P,o16 P,o114 P,o18 P,o19 P,o20 P,o21 P,o12 P,o22 P,o0 P,o23 P,o24 P,o25 P,o26 P,o0 P,o1 P,o27 P,o0 P,o28 P,o29 P,o30 P,o0 P,o1 P,o31 P,o0 P,o32 P,o33 P,o34 P,o35 P,o36 P,o115 P,o38 P,o39 P,o40 P,o41 P,o42 P,o12 P,o43 P,o0 P,o44 P,o45 P,o46 P,o26 P,o0 P,o1 P,o47 P,o0 P,o48 P,o49 P,o50 P,o51 P,o52 P,o116 P,o54 P,o55 P,o56 P,o12 P,o57 P,o0 P,o58 P,o59 P,o60 P,o61 P,o0 P,o1 P,o62 P,o0 P,o63 P,o64 P,o65 P,o66 P,o67 P,o117 P,o69 P,o70 P,o42 P,o12 P,o71 P,o0 P,o1 P,o72 P,o73 P,o0 P,o74 P,o118 P,o76 P,o77 P,o42 P,o12 P,o78 P,o0 P,o79 P,o80 P,o81 P,o61 P,o0 P,o1 P,o82 P,o0 P,o83 P,o84 P,o85 P,o86 P,o87 P,o88 P,o89 P,o90 P,o42 P,o12 P,o91 P,o0 P,o1 P,o92 P,o93 P,o0 P,o94 P,o95 P,o96 P,o97 P,o42 P,o12 P,o98 P,o0 P,o99 P,o100 P,o101 P,o102 P,o0 P,o1 P,o103 P,o0 P,o104 P,o105 P,o106 P,o107 P,o108 P,o109 P,o110 P,o111 P,o42 P,o12 P,o119 P,o0 P,o120 P,o121 P,o122 P,o61 P,o0 P,o1 P,o123 P,o0 P,o124 P,o125 P,o126 P,o127 P,o128 P,o129 P,o130 P,o131 P,o56 P,o12 P,o132 P,o0 P,o1 P,o133 P,o134 P,o0 P,o135 P,o136 P,o137 P,o138 P,o56 P,o12 P,o139 P,o0 P,o140 P,o141 P,o142 P,o61 P,o0 P,o1 P,o143 P,o0 P,o144 P,o145 P,o146 P,o147 P,o148 P,o149 P,o150 P,o151 P,o152 P,o12 P,o153 P,o0 P,o1 P,o154 P,o155 P,o0 P,o156 P,o157 P,o158 P,o159 P,o160 P,o12 P,o161 P,o0 P,o1 P,o162 P,o163 P,o0 P,o164 P,o165 P,o166 P,o167 P,o152 P,o12 P,o168 P,o0 P,o1 P,o169 P,o170 P,o0 P,o171 P,o172 P,o173 P,o174 P,o160 P,o12 P,o175 P,o0 P,o1 P,o176 P,o177 P,o0 P,o178 P,o179 P,o180 P,o181 P,o182 P,o12 P,o183 P,o0 P,o1 P,o184 P,o185 P,o0 P,o186 P,o187 P,o188 P,o189 P,o0 P,o12 P,o192 P,o0 P,o193 P,o194 P,o195 P,o0 P,o1 P,o196 P,o0 P,o197 P,o198 P,o199 P,o200 P,o201 P,o202 P,o203 P,o204 P,o205 P,o206 P,o0 P,o12 P,o209 P,o0 P,o210 P,o211 P,o212 P,o213 P,o102 P,o0 P,o1 P,o214 P,o0 P,o215 P,o216 P,o217 P,o0 P,o1 P,o218 P,o0 P,o219 P,o220 P,o221 P,o0 P,o1 P,o222 P,o0 P,o223 P,o224 P,o225 P,o0 P,o1 P,o226 P,o0 P,o227 P,o228 P,o229 P,o0 P,o1 P,o230 P,o0 P,o231 P,o232 P,o233 P,o234 P,o0 P,o1 P,o235 P,o0 P,o236 P,o237 P,o238 P,o0 P,o1 P,o239 P,o0 P,o240 P,o241 P,o242 P,o0 P,o1 P,o243 P,o0 P,o244 P,o245 P,o246 P,o0 P,o1 P,o247 P,o0 P,o248 P,o249 P,o250 P,o251 P,o0 P,o1 P,o252 P,o0 P,o253 P,o254 P,o255 P,o0 P,o1 P,o256 P,o0 P,o257 P,o258 P,o259 P,o0 P,o1 P,o260 P,o0 P,o261 P,o262 P,o263 P,o264 P,o0 P,o1 P,o265 P,o0 P,o266 P,o267 P,o268 P,o0 P,o1 P,o269 P,o0 P,o270 P,o271 P,o272 P,o0 P,o1 P,o273 P,o0 P,o274 P,o275 P,o276 P,o0 P,o1 P,o277 P,o0 P,o278 P,o279 P,o280 P,o0 P,o1 P,o281 P,o0 P,o282 P,o283 P,o284 P,o0 P,o1 P,o285 P,o0 P,o286 P,o287 P,o288 P,o0 P,o1 P,o289 P,o0 P,o290 P,o291 P,o292 P,o0 P,o1 P,o293 P,o0 P,o294 P,o295 P,o296 P,o0 P,o1 P,o297 P,o0 P,o298 P,o299 P,o300 P,o0 P,o1 P,o301 P,o0 P,o302 P,o303 P,o304 P,o0 P,o1 P,o305 P,o0 P,o306 P,o307 P,o308 P,o0 P,o1 P,o309 P,o0 P,o310 P,o311 P,o312 P,o0 P,o1 P,o313 P,o0 P,o314 P,o315 P,o316 P,o251 P,o0 P,o1 P,o317 P,o0 P,o318 P,o319 P,o320 P,o0 P,o1 P,o321 P,o0 P,o322 P,o323 P,o324 P,o0 P,o1 P,o325 P,o0 P,o326 P,o327 P,o328 P,o251 P,o0 P,o1 P,o329 P,o0 P,o330 P,o331 P,o332 P,o0 P,o1 P,o333 P,o0 P,o334 P,o335 P,o336 P,o0 P,o1 P,o337 P,o0 P,o338 P,o339 P,o340 P,o0 P,o1 P,o341 P,o0 P,o342 P,o343 P,o344 P,o0 P,o1 P,o345 P,o0 P,o346 P,o347 P,o348 P,o0 P,o1 P,o349 P,o0 P,o350 P,o351 P,o352 P,o0 P,o1 P,o353 P,o0 P,o354 P,o355 P,o356 P,o0 P,o1 P,o357 P,o0 P,o358 P,o359 P,o360 P,o0 P,o1 P,o361 P,o0 P,o362 P,o363 P,o364 P,o0 P,o1 P,o365 P,o0 P,o366 P,o367 P,o368 P,o0 P,o1 P,o369 P,o0 P,o370 P,o371 P,o372 P,o0 P,o1 P,o373 P,o0 P,o374 P,o375 P,o376 P,o0 P,o1 P,o377 P,o0 P,o378 P,o379 P,o380 P,o0 P,o1 P,o381 P,o0 P,o382 P,o383 P,o384 P,o0 P,o1 P,o385 P,o0 P,o386 P,o387 P,o388 P,o0 P,o1 P,o389 P,o0 P,o390 P,o391 P,o392 P,o0 P,o1 P,o393 P,o0 P,o394 P,o395 P,o396 P,o0 P,o1 P,o397 P,o0 P,o398 P,o399 P,o400 P,o0 P,o1 P,o401 P,o0 P,o402 P,o403 P,o404 P,o0 P,o1 P,o405 P,o0 P,o406 P,o407 P,o408 P,o234 P,o0 P,o1 P,o409 P,o0 P,o410 P,o411 P,o412 P,o0 P,o1 P,o413 P,o0 P,o414 P,o415 P,o416 P,o417 P,o0 P,o1 P,o418 P,o0 P,o419 P,o420 P,o421 P,o0 P,o1 P,o422 P,o0 P,o423 P,o424 P,o425 P,o0 P,o1 P,o426 P,o0 P,o427 P,o428 P,o429 P,o430 P,o0 P,o1 P,o431 P,o0 P,o432 P,o433 P,o434 P,o435 P,o430 P,o0 P,o1 P,o436 P,o0 P,o437 P,o438 P,o439 P,o0 P,o1 P,o440 P,o0 P,o441 P,o442 P,o443 P,o0 P,o1 P,o444 P,o0 P,o445 P,o446 P,o447 P,o0 P,o1 P,o448 P,o0 P,o449 P,o450 P,o451 P,o430 P,o0 P,o1 P,o452 P,o0 P,o453 P,o454 P,o455 P,o456 P,o457 P,o458 P,o459 P,o460 P,o461 P,o462 P]
noncomputable def o463 (P:Params):Obj:=⟨(.type "dict"),none,(.dict #[(de P "__name__" 165 (.str "law_te0009_01" 1315)),(de P "__doc__" 166 .none),(de P "__package__" 167 .none),(de P "__loader__" 168 (.builtin "__main__.__loader__#opaque")),(de P "__spec__" 169 .none),(de P "__annotations__" 170 (.ref 6)),(de P "__builtins__" 171 (.ref 4)),(de P "__file__" 173 (.str "/claim/cut.py" 172)),(de P "__cached__" 174 .none),(de P "_wall" 193 (.ref 21)),(de P "YAMLError" 215 (.ref 31)),(de P "Event" 255 (.ref 59)),(de P "NodeEvent" 284 (.ref 81)),(de P "CollectionStartEvent" 319 (.ref 101)),(de P "CollectionEndEvent" 335 (.ref 113)),(de P "StreamStartEvent" 364 (.ref 133)),(de P "StreamEndEvent" 380 (.ref 145)),(de P "DocumentStartEvent" 413 (.ref 165)),(de P "DocumentEndEvent" 442 (.ref 185)),(de P "AliasEvent" 458 (.ref 197)),(de P "ScalarEvent" 495 (.ref 217)),(de P "SequenceStartEvent" 511 (.ref 229)),(de P "SequenceEndEvent" 527 (.ref 241)),(de P "MappingStartEvent" 543 (.ref 253)),(de P "MappingEndEvent" 559 (.ref 265)),(de P "EmitterError" 577 (.ref 277)),(de P "ScalarAnalysis" 620 (.ref 296)),(de P "Emitter" 1271 (.ref 736)),(de P "Rows" 1314 (.ref 771)),(de P "_law_TAGS" 1322 (.ref 782)),(de P "_law_key" 1335 (.ref 789)),(de P "_law_events" 1351 (.ref 796)),(de P "_law_parts" 1370 (.ref 803)),(de P "_law_column" 1378 (.ref 810)),(de P "_law_block" 1391 (.ref 817)),(de P "_law_braces" 1405 (.ref 824)),(de P "law" 1411 (.ref 829))] 37),#[]⟩
noncomputable def o464 (P:Params):Obj:=⟨.none,none,(.fields #[(.int 1 0),(.int 0 0),(.ref 20),(.int 5 0),(.int 0 0),(.ref 27),(.int 8 0),(.int 0 0),(.ref 40),(.int 16 0),(.int 0 0),(.ref 69),(.int 22 0),(.int 0 0),(.ref 89),(.int 31 0),(.int 0 0),(.ref 109),(.int 33 0),(.int 0 0),(.ref 121),(.int 39 0),(.int 0 0),(.ref 141),(.int 41 0),(.int 0 0),(.ref 153),(.int 49 0),(.int 0 0),(.ref 173),(.int 55 0),(.int 0 0),(.ref 193),(.int 57 0),(.int 0 0),(.ref 205),(.int 67 0),(.int 0 0),(.ref 225),(.int 69 0),(.int 0 0),(.ref 237),(.int 71 0),(.int 0 0),(.ref 249),(.int 73 0),(.int 0 0),(.ref 261),(.int 76 0),(.int 0 0),(.ref 273),(.int 78 0),(.int 0 0),(.ref 285),(.int 89 0),(.int 0 0),(.ref 306),(.int 963 0),(.int 0 0),(.ref 746),(.int 974 0),(.int 0 0),(.ref 781),(.int 976 0),(.int 0 0),(.ref 788),(.int 983 0),(.int 0 0),(.ref 795),(.int 995 0),(.int 0 0),(.ref 802),(.int 1009 0),(.int 0 0),(.ref 809),(.int 1011 0),(.int 0 0),(.ref 816),(.int 1020 0),(.int 0 0),(.ref 823),(.int 1033 0),(.int 0 0),(.ref 828)]),#[]⟩
noncomputable def o465 (P:Params):Obj:=⟨(.type "dict"),none,(.dict #[(de P "__module__" 1279 (.str "yaml.emitter" 560)),(de P "__qualname__" 1281 (.str "Rows" 1280)),(de P "__firstlineno__" 1283 (.int 963 1282)),(de P "__init__" 1290 (.ref 754)),(de P "write" 1298 (.ref 761)),(de P "text" 1305 (.ref 768)),(de P "__static_attributes__" 1307 (.ref 769))] 7),#[]⟩
noncomputable def o466 (P:Params):Obj:=⟨.none,none,(.fields #[(.int 965 0),(.int 4 0),(.ref 753),(.int 968 0),(.int 4 0),(.ref 760),(.int 971 0),(.int 4 0),(.ref 767)]),#[]⟩
noncomputable def o467 (P:Params):Obj:=co "Rows" "Rows" 1274 963 0 0 744 false 745 .none .none .none 1277 1278
noncomputable def o468 (P:Params):Obj:=⟨(.type "frame"),none,.plain,#[(some (.ref 746)),(some (.ref 3)),(some (.ref 743)),none,(some (.str "yaml.emitter" 560)),none,(some (.ref 0))]⟩
noncomputable def o469 (P:Params):Obj:=⟨(.type "tuple"),none,(.seq #[(.str "self" 1287)] 0),#[]⟩
noncomputable def o470 (P:Params):Obj:=fo .none (nd (cb hM 22) 0) "Rows.__init__" 0 .none .none .none .none none .none .none 0
noncomputable def o471 (P:Params):Obj:=co "__init__" "Rows.__init__" 1284 965 1 3 748 true 749 (.ref 750) (.ref 751) (.ref 752) 1288 1289
noncomputable def o472 (P:Params):Obj:=fo (.type "function") (nd (cb hM 22) 0) "Rows.__init__" 3 .none .none .none (.str "yaml.emitter" 560) none (.ref 753) .none 0
noncomputable def o473 (P:Params):Obj:=⟨(.type "tuple"),none,(.seq #[(.str "self" 1294),(.str "data" 1295)] 0),#[]⟩
noncomputable def o474 (P:Params):Obj:=fo .none (nd (cb hM 22) 1) "Rows.write" 0 .none .none .none .none none .none .none 0
noncomputable def o475 (P:Params):Obj:=co "write" "Rows.write" 1291 968 2 3 755 true 756 (.ref 757) (.ref 758) (.ref 759) 1296 1297
noncomputable def o476 (P:Params):Obj:=fo (.type "function") (nd (cb hM 22) 1) "Rows.write" 3 .none .none .none (.str "yaml.emitter" 560) none (.ref 760) .none 0
noncomputable def o477 (P:Params):Obj:=⟨(.type "tuple"),none,(.seq #[(.str "self" 1302)] 0),#[]⟩
noncomputable def o478 (P:Params):Obj:=fo .none (nd (cb hM 22) 2) "Rows.text" 0 .none .none .none .none none .none .none 0
noncomputable def o479 (P:Params):Obj:=co "text" "Rows.text" 1299 971 1 3 762 true 763 (.ref 764) (.ref 765) (.ref 766) 1303 1304
noncomputable def o480 (P:Params):Obj:=fo (.type "function") (nd (cb hM 22) 2) "Rows.text" 3 .none .none .none (.str "yaml.emitter" 560) none (.ref 767) .none 0
noncomputable def o481 (P:Params):Obj:=⟨(.type "tuple"),none,(.seq #[(.str "rows" 1306)] 0),#[]⟩
noncomputable def o482 (P:Params):Obj:=⟨(.type "dict"),none,(.dict #[(de P "__module__" 1279 (.str "yaml.emitter" 560)),(de P "__firstlineno__" 1283 (.int 963 1282)),(de P "__init__" 1290 (.ref 754)),(de P "write" 1298 (.ref 761)),(de P "text" 1305 (.ref 768)),(de P "__static_attributes__" 1307 (.ref 769)),(de P "__dict__" 1309 (.ref 772)),(de P "__weakref__" 1311 (.ref 773)),(de P "__doc__" 1312 .none)] 4),#[]⟩
noncomputable def o483 (P:Params):Obj:=⟨(.type "type"),none,(.cls (PySem.ClassData.mk "Rows" [(.type "object")] [(.ref 771),(.type "object")] 770 "Rows" true [] [] false none false)),#[none,none,(some (.str "Rows" 1272)),(some (.str "Rows" 1280)),(some (.builtin "object.__new__")),(some (.bool true))]⟩
noncomputable def o484 (P:Params):Obj:=⟨(.type "getset_descriptor"),none,(.fields #[(.str "__dict__" 1308),(.ref 771),(.builtin "function.__dict__"),(.builtin "function.__dict__#set")]),#[]⟩
noncomputable def o485 (P:Params):Obj:=⟨(.type "getset_descriptor"),none,(.fields #[(.str "__weakref__" 1310),(.ref 771),(.builtin "ExceptionGroup.__weakref__"),.none]),#[]⟩
noncomputable def o486 (P:Params):Obj:=⟨(.type "super"),none,(.fields #[(.ref 771),(.ref 771),(.ref 771)]),#[]⟩
noncomputable def o487 (P:Params):Obj:=⟨(.type "builtin_function_or_method"),none,(.fields #[(.builtin "object.__init_subclass__"),(.ref 771)]),#[]⟩
noncomputable def o488 (P:Params):Obj:=fo .none (nd hM 24) "_law_TAGS" 0 .none .none .none .none none .none .none 0
noncomputable def o489 (P:Params):Obj:=co "_law_TAGS" "_law_TAGS" 1317 974 0 3 776 true 777 (.ref 778) (.ref 779) (.ref 780) 1320 1321
noncomputable def o490 (P:Params):Obj:=fo (.type "function") (nd hM 24) "_law_TAGS" 3 .none .none .none (.str "law_te0009_01" 1315) none (.ref 781) .none 0
noncomputable def o491 (P:Params):Obj:=⟨(.type "tuple"),none,(.seq #[(.str "numbers" 1326),(.str "kind" 1327),(.str "size" 1328),(.str "anchor" 1329),(.str "tag" 1330),(.str "told" 1331),(.str "said" 1332)] 0),#[]⟩
noncomputable def o492 (P:Params):Obj:=fo .none (nd hM 25) "_law_key" 0 .none .none .none .none none .none .none 0
noncomputable def o493 (P:Params):Obj:=co "_law_key" "_law_key" 1323 976 1 3 783 true 784 (.ref 785) (.ref 786) (.ref 787) 1333 1334
noncomputable def o494 (P:Params):Obj:=fo (.type "function") (nd hM 25) "_law_key" 3 .none .none .none (.str "law_te0009_01" 1315) none (.ref 788) .none 0
noncomputable def o495 (P:Params):Obj:=⟨(.type "tuple"),none,(.seq #[(.str "key" 1339),(.str "kind" 1340),(.str "size" 1341),(.str "anchor" 1342),(.str "tag" 1343),(.str "told" 1344),(.str "said" 1345),(.str "name" 1346),(.str "value" 1347),(.str "style" 1348)] 0),#[]⟩
noncomputable def o496 (P:Params):Obj:=fo .none (nd hM 26) "_law_events" 0 .none .none .none .none none .none .none 0
noncomputable def o497 (P:Params):Obj:=co "_law_events" "_law_events" 1336 983 1 3 790 true 791 (.ref 792) (.ref 793) (.ref 794) 1349 1350
noncomputable def o498 (P:Params):Obj:=fo (.type "function") (nd hM 26) "_law_events" 3 .none .none .none (.str "law_te0009_01" 1315) none (.ref 795) .none 0
noncomputable def o499 (P:Params):Obj:=⟨(.type "tuple"),none,(.seq #[(.str "key" 1355),(.str "flow" 1356),(.str "indent" 1357),(.str "end" 1358),(.str "kind" 1359),(.str "size" 1360),(.str "anchor" 1361),(.str "tag" 1362),(.str "told" 1363),(.str "said" 1364),(.str "parts" 1365),(.str "count" 1366),(.str "mark" 1367)] 0),#[]⟩
noncomputable def o500 (P:Params):Obj:=fo .none (nd hM 27) "_law_parts" 0 .none .none .none .none none .none .none 0
noncomputable def o501 (P:Params):Obj:=co "_law_parts" "_law_parts" 1352 995 4 3 797 true 798 (.ref 799) (.ref 800) (.ref 801) 1368 1369
noncomputable def o502 (P:Params):Obj:=fo (.type "function") (nd hM 27) "_law_parts" 3 .none .none .none (.str "law_te0009_01" 1315) none (.ref 802) .none 0
noncomputable def o503 (P:Params):Obj:=⟨(.type "tuple"),none,(.seq #[(.str "text" 1374),(.str "end" 1375)] 0),#[]⟩
noncomputable def o504 (P:Params):Obj:=fo .none (nd hM 28) "_law_column" 0 .none .none .none .none none .none .none 0
noncomputable def o505 (P:Params):Obj:=co "_law_column" "_law_column" 1371 1009 2 3 804 true 805 (.ref 806) (.ref 807) (.ref 808) 1376 1377
noncomputable def o506 (P:Params):Obj:=fo (.type "function") (nd hM 28) "_law_column" 3 .none .none .none (.str "law_te0009_01" 1315) none (.ref 809) .none 0
noncomputable def o507 (P:Params):Obj:=⟨(.type "tuple"),none,(.seq #[(.str "keys" 1382),(.str "step" 1383),(.str "end" 1384),(.str "text" 1385),(.str "key" 1386),(.str "parts" 1387),(.str "simple" 1388)] 0),#[]⟩
noncomputable def o508 (P:Params):Obj:=fo .none (nd hM 29) "_law_block" 0 .none .none .none .none none .none .none 0
noncomputable def o509 (P:Params):Obj:=co "_law_block" "_law_block" 1379 1011 3 3 811 true 812 (.ref 813) (.ref 814) (.ref 815) 1389 1390
noncomputable def o510 (P:Params):Obj:=fo (.type "function") (nd hM 29) "_law_block" 3 .none .none .none (.str "law_te0009_01" 1315) none (.ref 816) .none 0
noncomputable def o511 (P:Params):Obj:=⟨(.type "tuple"),none,(.seq #[(.str "keys" 1395),(.str "step" 1396),(.str "limit" 1397),(.str "end" 1398),(.str "text" 1399),(.str "k" 1400),(.str "parts" 1401),(.str "simple" 1402)] 0),#[]⟩
noncomputable def o512 (P:Params):Obj:=fo .none (nd hM 30) "_law_braces" 0 .none .none .none .none none .none .none 0
noncomputable def o513 (P:Params):Obj:=co "_law_braces" "_law_braces" 1392 1020 4 3 818 true 819 (.ref 820) (.ref 821) (.ref 822) 1403 1404
noncomputable def o514 (P:Params):Obj:=fo (.type "function") (nd hM 30) "_law_braces" 3 .none .none .none (.str "law_te0009_01" 1315) none (.ref 823) .none 0
noncomputable def o515 (P:Params):Obj:=fo .none (nd hM 31) "law" 0 .none .none .none .none none .none .none 0
noncomputable def o516 (P:Params):Obj:=co "law" "law" 1406 1033 1 3 825 true 826 .none .none (.ref 827) 1409 1410
noncomputable def o517 (P:Params):Obj:=fo (.type "function") (nd hM 31) "law" 3 .none .none .none (.str "law_te0009_01" 1315) none (.ref 828) .none 0
noncomputable def L4 (P:Params):List Obj:=[boot_o_0 P,boot_o_1 P,o4 P,o463 P,boot_o_4 P,boot_o_5 P,boot_o_6 P,boot_o_7 P,boot_o_8 P,boot_o_9 P,boot_o_10 P,o0 P,o464 P,o2 P,o3 P,o0 P,o1 P,o7 P,o0 P,o8 P,o9 P,o10 P,o11 P,o12 P,o13 P,o0 P,o1 P,o14 P,o15 P,o0 P,o16 P,o114 P,o18 P,o19 P,o20 P,o21 P,o12 P,o22 P,o0 P,o23 P,o24 P,o25 P,o26 P,o0 P,o1 P,o27 P,o0 P,o28 P,o29 P,o30 P,o0 P,o1 P,o31 P,o0 P,o32 P,o33 P,o34 P,o35 P,o36 P,o115 P,o38 P,o39 P,o40 P,o41 P,o42 P,o12 P,o43 P,o0 P,o44 P,o45 P,o46 P,o26 P,o0 P,o1 P,o47 P,o0 P,o48 P,o49 P,o50 P,o51 P,o52 P,o116 P,o54 P,o55 P,o56 P,o12 P,o57 P,o0 P,o58 P,o59 P,o60 P,o61 P,o0 P,o1 P,o62 P,o0 P,o63 P,o64 P,o65 P,o66 P,o67 P,o117 P,o69 P,o70 P,o42 P,o12 P,o71 P,o0 P,o1 P,o72 P,o73 P,o0 P,o74 P,o118 P,o76 P,o77 P,o42 P,o12 P,o78 P,o0 P,o79 P,o80 P,o81 P,o61 P,o0 P,o1 P,o82 P,o0 P,o83 P,o84 P,o85 P,o86 P,o87 P,o88 P,o89 P,o90 P,o42 P,o12 P,o91 P,o0 P,o1 P,o92 P,o93 P,o0 P,o94 P,o95 P,o96 P,o97 P,o42 P,o12 P,o98 P,o0 P,o99 P,o100 P,o101 P,o102 P,o0 P,o1 P,o103 P,o0 P,o104 P,o105 P,o106 P,o107 P,o108 P,o109 P,o110 P,o111 P,o42 P,o12 P,o119 P,o0 P,o120 P,o121 P,o122 P,o61 P,o0 P,o1 P,o123 P,o0 P,o124 P,o125 P,o126 P,o127 P,o128 P,o129 P,o130 P,o131 P,o56 P,o12 P,o132 P,o0 P,o1 P,o133 P,o134 P,o0 P,o135 P,o136 P,o137 P,o138 P,o56 P,o12 P,o139 P,o0 P,o140 P,o141 P,o142 P,o61 P,o0 P,o1 P,o143 P,o0 P,o144 P,o145 P,o146 P,o147 P,o148 P,o149 P,o150 P,o151 P,o152 P,o12 P,o153 P,o0 P,o1 P,o154 P,o155 P,o0 P,o156 P,o157 P,o158 P,o159 P,o160 P,o12 P,o161 P,o0 P,o1 P,o162 P,o163 P,o0 P,o164 P,o165 P,o166 P,o167 P,o152 P,o12 P,o168 P,o0 P,o1 P,o169 P,o170 P,o0 P,o171 P,o172 P,o173 P,o174 P,o160 P,o12 P,o175 P,o0 P,o1 P,o176 P,o177 P,o0 P,o178 P,o179 P,o180 P,o181 P,o182 P,o12 P,o183 P,o0 P,o1 P,o184 P,o185 P,o0 P,o186 P,o187 P,o188 P,o189 P,o0 P,o12 P,o192 P,o0 P,o193 P,o194 P,o195 P,o0 P,o1 P,o196 P,o0 P,o197 P,o198 P,o199 P,o200 P,o201 P,o202 P,o203 P,o204 P,o205 P,o206 P,o0 P,o12 P,o209 P,o0 P,o210 P,o211 P,o212 P,o213 P,o102 P,o0 P,o1 P,o214 P,o0 P,o215 P,o216 P,o217 P,o0 P,o1 P,o218 P,o0 P,o219 P,o220 P,o221 P,o0 P,o1 P,o222 P,o0 P,o223 P,o224 P,o225 P,o0 P,o1 P,o226 P,o0 P,o227 P,o228 P,o229 P,o0 P,o1 P,o230 P,o0 P,o231 P,o232 P,o233 P,o234 P,o0 P,o1 P,o235 P,o0 P,o236 P,o237 P,o238 P,o0 P,o1 P,o239 P,o0 P,o240 P,o241 P,o242 P,o0 P,o1 P,o243 P,o0 P,o244 P,o245 P,o246 P,o0 P,o1 P,o247 P,o0 P,o248 P,o249 P,o250 P,o251 P,o0 P,o1 P,o252 P,o0 P,o253 P,o254 P,o255 P,o0 P,o1 P,o256 P,o0 P,o257 P,o258 P,o259 P,o0 P,o1 P,o260 P,o0 P,o261 P,o262 P,o263 P,o264 P,o0 P,o1 P,o265 P,o0 P,o266 P,o267 P,o268 P,o0 P,o1 P,o269 P,o0 P,o270 P,o271 P,o272 P,o0 P,o1 P,o273 P,o0 P,o274 P,o275 P,o276 P,o0 P,o1 P,o277 P,o0 P,o278 P,o279 P,o280 P,o0 P,o1 P,o281 P,o0 P,o282 P,o283 P,o284 P,o0 P,o1 P,o285 P,o0 P,o286 P,o287 P,o288 P,o0 P,o1 P,o289 P,o0 P,o290 P,o291 P,o292 P,o0 P,o1 P,o293 P,o0 P,o294 P,o295 P,o296 P,o0 P,o1 P,o297 P,o0 P,o298 P,o299 P,o300 P,o0 P,o1 P,o301 P,o0 P,o302 P,o303 P,o304 P,o0 P,o1 P,o305 P,o0 P,o306 P,o307 P,o308 P,o0 P,o1 P,o309 P,o0 P,o310 P,o311 P,o312 P,o0 P,o1 P,o313 P,o0 P,o314 P,o315 P,o316 P,o251 P,o0 P,o1 P,o317 P,o0 P,o318 P,o319 P,o320 P,o0 P,o1 P,o321 P,o0 P,o322 P,o323 P,o324 P,o0 P,o1 P,o325 P,o0 P,o326 P,o327 P,o328 P,o251 P,o0 P,o1 P,o329 P,o0 P,o330 P,o331 P,o332 P,o0 P,o1 P,o333 P,o0 P,o334 P,o335 P,o336 P,o0 P,o1 P,o337 P,o0 P,o338 P,o339 P,o340 P,o0 P,o1 P,o341 P,o0 P,o342 P,o343 P,o344 P,o0 P,o1 P,o345 P,o0 P,o346 P,o347 P,o348 P,o0 P,o1 P,o349 P,o0 P,o350 P,o351 P,o352 P,o0 P,o1 P,o353 P,o0 P,o354 P,o355 P,o356 P,o0 P,o1 P,o357 P,o0 P,o358 P,o359 P,o360 P,o0 P,o1 P,o361 P,o0 P,o362 P,o363 P,o364 P,o0 P,o1 P,o365 P,o0 P,o366 P,o367 P,o368 P,o0 P,o1 P,o369 P,o0 P,o370 P,o371 P,o372 P,o0 P,o1 P,o373 P,o0 P,o374 P,o375 P,o376 P,o0 P,o1 P,o377 P,o0 P,o378 P,o379 P,o380 P,o0 P,o1 P,o381 P,o0 P,o382 P,o383 P,o384 P,o0 P,o1 P,o385 P,o0 P,o386 P,o387 P,o388 P,o0 P,o1 P,o389 P,o0 P,o390 P,o391 P,o392 P,o0 P,o1 P,o393 P,o0 P,o394 P,o395 P,o396 P,o0 P,o1 P,o397 P,o0 P,o398 P,o399 P,o400 P,o0 P,o1 P,o401 P,o0 P,o402 P,o403 P,o404 P,o0 P,o1 P,o405 P,o0 P,o406 P,o407 P,o408 P,o234 P,o0 P,o1 P,o409 P,o0 P,o410 P,o411 P,o412 P,o0 P,o1 P,o413 P,o0 P,o414 P,o415 P,o416 P,o417 P,o0 P,o1 P,o418 P,o0 P,o419 P,o420 P,o421 P,o0 P,o1 P,o422 P,o0 P,o423 P,o424 P,o425 P,o0 P,o1 P,o426 P,o0 P,o427 P,o428 P,o429 P,o430 P,o0 P,o1 P,o431 P,o0 P,o432 P,o433 P,o434 P,o435 P,o430 P,o0 P,o1 P,o436 P,o0 P,o437 P,o438 P,o439 P,o0 P,o1 P,o440 P,o0 P,o441 P,o442 P,o443 P,o0 P,o1 P,o444 P,o0 P,o445 P,o446 P,o447 P,o0 P,o1 P,o448 P,o0 P,o449 P,o450 P,o451 P,o430 P,o0 P,o1 P,o452 P,o0 P,o453 P,o454 P,o455 P,o456 P,o457 P,o458 P,o459 P,o460 P,o461 P,o462 P,o0 P,o12 P,o465 P,o0 P,o466 P,o467 P,o468 P,o0 P,o1 P,o469 P,o0 P,o470 P,o471 P,o472 P,o0 P,o1 P,o473 P,o0 P,o474 P,o475 P,o476 P,o0 P,o1 P,o477 P,o0 P,o478 P,o479 P,o480 P,o481 P,o482 P,o483 P,o484 P,o485 P,o486 P,o487 P,o0 P,o1 P,o0 P,o0 P,o488 P,o489 P,o490 P,o0 P,o1 P,o491 P,o0 P,o492 P,o493 P,o494 P,o0 P,o1 P,o495 P,o0 P,o496 P,o497 P,o498 P,o0 P,o1 P,o499 P,o0 P,o500 P,o501 P,o502 P,o0 P,o1 P,o503 P,o0 P,o504 P,o505 P,o506 P,o0 P,o1 P,o507 P,o0 P,o508 P,o509 P,o510 P,o0 P,o1 P,o511 P,o0 P,o512 P,o513 P,o514 P,o0 P,o1 P,o515 P,o516 P,o517 P]
noncomputable def hK (P:Params):Frag:=[(2,o4 P),(3,o463 P),(15,o0 P),(17,o7 P),(18,o0 P),(20,o9 P),(21,o10 P),(22,o11 P),(29,o0 P),(30,o16 P),(31,o114 P),(32,o18 P),(35,o21 P),(42,o26 P),(43,o0 P),(45,o27 P),(46,o0 P),(48,o29 P),(49,o30 P),(50,o0 P),(52,o31 P),(53,o0 P),(55,o33 P),(56,o34 P),(57,o35 P),(58,o36 P),(59,o115 P),(60,o38 P),(61,o39 P),(64,o42 P),(71,o26 P),(72,o0 P),(74,o47 P),(75,o0 P),(77,o49 P),(78,o50 P),(79,o51 P),(80,o52 P),(81,o116 P),(84,o56 P),(91,o61 P),(92,o0 P),(94,o62 P),(95,o0 P),(97,o64 P),(98,o65 P),(99,o66 P),(100,o67 P),(101,o117 P),(104,o42 P),(111,o0 P),(112,o74 P),(113,o118 P),(116,o42 P),(123,o61 P),(124,o0 P),(126,o82 P),(127,o0 P),(129,o84 P),(130,o85 P),(131,o86 P),(132,o87 P),(133,o88 P),(136,o42 P),(143,o0 P),(144,o94 P),(145,o95 P),(148,o42 P),(155,o102 P),(156,o0 P),(158,o103 P),(159,o0 P),(161,o105 P),(162,o106 P),(163,o107 P),(164,o108 P),(165,o109 P),(168,o42 P),(175,o61 P),(176,o0 P),(178,o123 P),(179,o0 P),(181,o125 P),(182,o126 P),(183,o127 P),(184,o128 P),(185,o129 P),(188,o56 P),(195,o0 P),(196,o135 P),(197,o136 P),(200,o56 P),(207,o61 P),(208,o0 P),(210,o143 P),(211,o0 P),(213,o145 P),(214,o146 P),(215,o147 P),(216,o148 P),(217,o149 P),(220,o152 P),(227,o0 P),(228,o156 P),(229,o157 P),(232,o160 P),(239,o0 P),(240,o164 P),(241,o165 P),(244,o152 P),(251,o0 P),(252,o171 P),(253,o172 P),(256,o160 P),(263,o0 P),(264,o178 P),(265,o179 P),(268,o182 P),(275,o0 P),(276,o186 P),(277,o187 P),(287,o0 P),(289,o196 P),(290,o0 P),(292,o198 P),(293,o199 P),(294,o200 P),(295,o201 P),(296,o202 P),(297,o203 P),(298,o204 P),(308,o213 P),(309,o102 P),(310,o0 P),(312,o214 P),(313,o0 P),(315,o216 P),(316,o217 P),(317,o0 P),(319,o218 P),(320,o0 P),(322,o220 P),(323,o221 P),(324,o0 P),(326,o222 P),(327,o0 P),(329,o224 P),(330,o225 P),(331,o0 P),(333,o226 P),(334,o0 P),(336,o228 P),(337,o229 P),(338,o0 P),(340,o230 P),(341,o0 P),(343,o232 P),(344,o233 P),(345,o234 P),(346,o0 P),(348,o235 P),(349,o0 P),(351,o237 P),(352,o238 P),(353,o0 P),(355,o239 P),(356,o0 P),(358,o241 P),(359,o242 P),(360,o0 P),(362,o243 P),(363,o0 P),(365,o245 P),(366,o246 P),(367,o0 P),(369,o247 P),(370,o0 P),(372,o249 P),(373,o250 P),(374,o251 P),(375,o0 P),(377,o252 P),(378,o0 P),(380,o254 P),(381,o255 P),(382,o0 P),(384,o256 P),(385,o0 P),(387,o258 P),(388,o259 P),(389,o0 P),(391,o260 P),(392,o0 P),(394,o262 P),(395,o263 P),(396,o264 P),(397,o0 P),(399,o265 P),(400,o0 P),(402,o267 P),(403,o268 P),(404,o0 P),(406,o269 P),(407,o0 P),(409,o271 P),(410,o272 P),(411,o0 P),(413,o273 P),(414,o0 P),(416,o275 P),(417,o276 P),(418,o0 P),(420,o277 P),(421,o0 P),(423,o279 P),(424,o280 P),(425,o0 P),(427,o281 P),(428,o0 P),(430,o283 P),(431,o284 P),(432,o0 P),(434,o285 P),(435,o0 P),(437,o287 P),(438,o288 P),(439,o0 P),(441,o289 P),(442,o0 P),(444,o291 P),(445,o292 P),(446,o0 P),(448,o293 P),(449,o0 P),(451,o295 P),(452,o296 P),(453,o0 P),(455,o297 P),(456,o0 P),(458,o299 P),(459,o300 P),(460,o0 P),(462,o301 P),(463,o0 P),(465,o303 P),(466,o304 P),(467,o0 P),(469,o305 P),(470,o0 P),(472,o307 P),(473,o308 P),(474,o0 P),(476,o309 P),(477,o0 P),(479,o311 P),(480,o312 P),(481,o0 P),(483,o313 P),(484,o0 P),(486,o315 P),(487,o316 P),(488,o251 P),(489,o0 P),(491,o317 P),(492,o0 P),(494,o319 P),(495,o320 P),(496,o0 P),(498,o321 P),(499,o0 P),(501,o323 P),(502,o324 P),(503,o0 P),(505,o325 P),(506,o0 P),(508,o327 P),(509,o328 P),(510,o251 P),(511,o0 P),(513,o329 P),(514,o0 P),(516,o331 P),(517,o332 P),(518,o0 P),(520,o333 P),(521,o0 P),(523,o335 P),(524,o336 P),(525,o0 P),(527,o337 P),(528,o0 P),(530,o339 P),(531,o340 P),(532,o0 P),(534,o341 P),(535,o0 P),(537,o343 P),(538,o344 P),(539,o0 P),(541,o345 P),(542,o0 P),(544,o347 P),(545,o348 P),(546,o0 P),(548,o349 P),(549,o0 P),(551,o351 P),(552,o352 P),(553,o0 P),(555,o353 P),(556,o0 P),(558,o355 P),(559,o356 P),(560,o0 P),(562,o357 P),(563,o0 P),(565,o359 P),(566,o360 P),(567,o0 P),(569,o361 P),(570,o0 P),(572,o363 P),(573,o364 P),(574,o0 P),(576,o365 P),(577,o0 P),(579,o367 P),(580,o368 P),(581,o0 P),(583,o369 P),(584,o0 P),(586,o371 P),(587,o372 P),(588,o0 P),(590,o373 P),(591,o0 P),(593,o375 P),(594,o376 P),(595,o0 P),(597,o377 P),(598,o0 P),(600,o379 P),(601,o380 P),(602,o0 P),(604,o381 P),(605,o0 P),(607,o383 P),(608,o384 P),(609,o0 P),(611,o385 P),(612,o0 P),(614,o387 P),(615,o388 P),(616,o0 P),(618,o389 P),(619,o0 P),(621,o391 P),(622,o392 P),(623,o0 P),(625,o393 P),(626,o0 P),(628,o395 P),(629,o396 P),(630,o0 P),(632,o397 P),(633,o0 P),(635,o399 P),(636,o400 P),(637,o0 P),(639,o401 P),(640,o0 P),(642,o403 P),(643,o404 P),(644,o0 P),(646,o405 P),(647,o0 P),(649,o407 P),(650,o408 P),(651,o234 P),(652,o0 P),(654,o409 P),(655,o0 P),(657,o411 P),(658,o412 P),(659,o0 P),(661,o413 P),(662,o0 P),(664,o415 P),(665,o416 P),(666,o417 P),(667,o0 P),(669,o418 P),(670,o0 P),(672,o420 P),(673,o421 P),(674,o0 P),(676,o422 P),(677,o0 P),(679,o424 P),(680,o425 P),(681,o0 P),(683,o426 P),(684,o0 P),(686,o428 P),(687,o429 P),(688,o430 P),(689,o0 P),(691,o431 P),(692,o0 P),(694,o433 P),(695,o434 P),(696,o435 P),(697,o430 P),(698,o0 P),(700,o436 P),(701,o0 P),(703,o438 P),(704,o439 P),(705,o0 P),(707,o440 P),(708,o0 P),(710,o442 P),(711,o443 P),(712,o0 P),(714,o444 P),(715,o0 P),(717,o446 P),(718,o447 P),(719,o0 P),(721,o448 P),(722,o0 P),(724,o450 P),(725,o451 P),(726,o430 P),(727,o0 P),(729,o452 P),(730,o0 P),(732,o454 P),(733,o455 P),(734,o456 P),(735,o457 P),(736,o458 P),(737,o459 P),(738,o460 P),(748,o0 P),(750,o469 P),(751,o0 P),(753,o471 P),(754,o472 P),(755,o0 P),(757,o473 P),(758,o0 P),(760,o475 P),(761,o476 P),(762,o0 P),(764,o477 P),(765,o0 P),(767,o479 P),(768,o480 P),(769,o481 P),(770,o482 P),(771,o483 P),(772,o484 P),(773,o485 P),(776,o0 P),(778,o0 P),(779,o0 P),(781,o489 P),(782,o490 P),(783,o0 P),(785,o491 P),(786,o0 P),(788,o493 P),(789,o494 P),(790,o0 P),(792,o495 P),(793,o0 P),(795,o497 P),(796,o498 P),(797,o0 P),(799,o499 P),(800,o0 P),(802,o501 P),(803,o502 P),(804,o0 P),(806,o503 P),(807,o0 P),(809,o505 P),(810,o506 P),(811,o0 P),(813,o507 P),(814,o0 P),(816,o509 P),(817,o510 P),(818,o0 P),(820,o511 P),(821,o0 P),(823,o513 P),(824,o514 P),(825,o0 P),(828,o516 P),(829,o517 P)]
noncomputable def hAs:List Nat:=[2,3,15,17,18,20,21,22,29,30,31,32,35,42,43,45,46,48,49,50,52,53,55,56,57,58,59,60,61,64,71,72,74,75,77,78,79,80,81,84,91,92,94,95,97,98,99,100,101,104,111,112,113,116,123,124,126,127,129,130,131,132,133,136,143,144,145,148,155,156,158,159,161,162,163,164,165,168,175,176,178,179,181,182,183,184,185,188,195,196,197,200,207,208,210,211,213,214,215,216,217,220,227,228,229,232,239,240,241,244,251,252,253,256,263,264,265,268,275,276,277,287,289,290,292,293,294,295,296,297,298,308,309,310,312,313,315,316,317,319,320,322,323,324,326,327,329,330,331,333,334,336,337,338,340,341,343,344,345,346,348,349,351,352,353,355,356,358,359,360,362,363,365,366,367,369,370,372,373,374,375,377,378,380,381,382,384,385,387,388,389,391,392,394,395,396,397,399,400,402,403,404,406,407,409,410,411,413,414,416,417,418,420,421,423,424,425,427,428,430,431,432,434,435,437,438,439,441,442,444,445,446,448,449,451,452,453,455,456,458,459,460,462,463,465,466,467,469,470,472,473,474,476,477,479,480,481,483,484,486,487,488,489,491,492,494,495,496,498,499,501,502,503,505,506,508,509,510,511,513,514,516,517,518,520,521,523,524,525,527,528,530,531,532,534,535,537,538,539,541,542,544,545,546,548,549,551,552,553,555,556,558,559,560,562,563,565,566,567,569,570,572,573,574,576,577,579,580,581,583,584,586,587,588,590,591,593,594,595,597,598,600,601,602,604,605,607,608,609,611,612,614,615,616,618,619,621,622,623,625,626,628,629,630,632,633,635,636,637,639,640,642,643,644,646,647,649,650,651,652,654,655,657,658,659,661,662,664,665,666,667,669,670,672,673,674,676,677,679,680,681,683,684,686,687,688,689,691,692,694,695,696,697,698,700,701,703,704,705,707,708,710,711,712,714,715,717,718,719,721,722,724,725,726,727,729,730,732,733,734,735,736,737,738,748,750,751,753,754,755,757,758,760,761,762,764,765,767,768,769,770,771,772,773,776,778,779,781,782,783,785,786,788,789,790,792,793,795,796,797,799,800,802,803,804,806,807,809,810,811,813,814,816,817,818,820,821,823,824,825,828,829]
open PySem PySem.W PyProof.Rows PySem.Calls
theorem pc0:∀ w:World,(fun os=>segRunT treeTable hp w 11 hann 1 1954 (sT (Lb w.params) 15 187 os) (piecesOf ((hB.drop 0).take 11) henv (.body hB henv) ⟨0,0,0,0⟩ [topFrame ⟨0,0,0,0⟩])) = fun os=>some (Flow.next,sT (L0 w.params) 168 414 os,Code.body hB henv,⟨41,0,48,24⟩):=fun w=>fastSeg (by kernel_rfl)
theorem pc1:∀ w:World,(fun os=>segRunT treeTable hp w 11 hann 1 1908 (sT (L0 w.params) 168 414 os) (piecesOf ((hB.drop 11).take 9) henv (.body hB henv) ⟨41,0,48,24⟩ [topFrame ⟨0,0,0,0⟩])) = fun os=>some (Flow.next,sT (L1 w.params) 280 578 os,Code.body hB henv,⟨76,0,77,8⟩):=fun w=>fastSeg (by kernel_rfl)
theorem pc2:∀ w:World,(fun os=>segRunT treeTable hp w 11 hann 1 237 (sT (L1 w.params) 280 578 os) (piecesOf ((hB.drop 20).take 1) henv (.body hB henv) ⟨76,0,77,8⟩ [topFrame ⟨0,0,0,0⟩])) = fun os=>some (Flow.next,sT (L2 w.params) 301 621 os,Code.body hB henv,⟨78,0,88,38⟩):=fun w=>fastSeg (by kernel_rfl)
theorem pc3:∀ w:World,(fun os=>segRunT treeTable hp w 11 hann 1 2474 (sT (L2 w.params) 301 621 os) (piecesOf ((hB.drop 21).take 1) henv (.body hB henv) ⟨78,0,88,38⟩ [topFrame ⟨0,0,0,0⟩])) = fun os=>some (Flow.next,sT (L3 w.params) 741 1272 os,Code.body hB henv,⟨89,0,962,20⟩):=fun w=>byRow2 "special-get-raises" (P:=fun w=>(fun os=>segRunT treeTable hp w 11 hann 1 2474 (sT (L2 w.params) 301 621 os) (piecesOf ((hB.drop 21).take 1) henv (.body hB henv) ⟨78,0,88,38⟩ [topFrame ⟨0,0,0,0⟩])) = fun os=>some (Flow.next,sT (L3 w.params) 741 1272 os,Code.body hB henv,⟨89,0,962,20⟩)) (fun w=>fastSeg (by kernel_rfl)) (fun w=>fastSeg (by kernel_rfl)) w
theorem pc4:∀ w:World,(fun os=>segRunT treeTable hp w 11 hann 1 563 (sT (L3 w.params) 741 1272 os) (piecesOf ((hB.drop 22).take 10) henv (.body hB henv) ⟨89,0,962,20⟩ [topFrame ⟨0,0,0,0⟩])) = fun os=>some (Flow.next,sT (L4 w.params) 830 1412 os,Code.body hB henv,⟨1033,0,1055,59⟩):=fun w=>fastSeg (by kernel_rfl)
open PySem PySem.W PyProof.Rows PySem.Calls
noncomputable def hS (l:List Obj) (k:Nat) (os:OsState):Shared:=⟨⟨l.toArray,{}⟩,#[],{},k,os⟩
theorem preTop:∀ w:World,(fun os=>topGo treeTable hp w 11 hann 12 ⟨boot_heap w.params,#[],boot_drawn,boot_toks,os⟩ (topStub hp)) = fun os=>some (hS (La w.params) 187 os,⟨denote treeTable (.body hB henv),.body hB henv,⟨0,0,0,0⟩,[topFrame ⟨0,0,0,0⟩]⟩):=fun w=>by
  rw [PySem.W.Fast.te15667345088766844465,PySem.W.Fast.te11892475500146522536,PySem.W.Fast.te14364793385576792824];kernel_rfl
theorem block:∀ w:World,(fun os=>segRun treeTable hp w 11 hann 1 1 (hS (La w.params) 187 os) (blockOf hB henv (.body hB henv) ⟨0,0,0,0⟩ [topFrame ⟨0,0,0,0⟩])) = fun os=>some (Flow.next,(sT (Lb w.params) 15 187 os).abs,Code.body hB henv,⟨0,0,0,0⟩):=fun w=>by
  rw [PySem.W.Fast.te14374325043358763698,PySem.W.Fast.te14364793385576792824];kernel_rfl
theorem fin:∀ w:World,(fun os=>topRun treeTable hp w 11 hann 2 (sT (L4 w.params) 830 1412 os).abs ⟨doneF .next,.body hB henv,⟨1033,0,1055,59⟩,[topFrame ⟨0,0,0,0⟩]⟩) = fun os=>some (hS (L4 w.params) 1412 os):=fun w=>by
  rw [PySem.W.Fast.te14082659384304107361,PySem.W.Fast.te14364793385576792824];kernel_rfl
theorem plain_:opening hp = plainProg hp.main.scope.names:=by kernel_rfl
theorem fence_:∀ s,fenceModules? hp s = some s:=fun s=>by kernel_rfl
theorem size_:∀ w:World,((boot_heap w.params).isNs mainGlobals && (#[]:Array GenState).size == 0,(boot_heap w.params).objs.size,(boot_heap w.params).nsMap mainGlobals "__annotations__") = (true,11,hann):=fun w=>by
  rw [PySem.W.Fast.te8920871248978507458];kernel_rfl
theorem cut_:hB = (hB.drop 0).take 11 ++ ((hB.drop 11).take 9 ++ ((hB.drop 20).take 1 ++ ((hB.drop 21).take 1 ++ ((hB.drop 22).take 10 ++ [])))):=by kernel_rfl
open PySem PySem.W PyProof.Rows PySem.Calls
noncomputable def hH1 (P:Params):Heap:=⟨(L4 P).toArray,{}⟩
noncomputable def hq:Program:=view hp [0,2,4,5,6,7,8,9,10,11,12,13,14,15,16,17,19,20,21,22,24,25,26,27,28,29,30,31]
noncomputable def hLoose:List Str:=["Event","NodeEvent","CollectionStartEvent","StreamStartEvent","DocumentStartEvent","DocumentEndEvent","ScalarEvent","Emitter"]
noncomputable def hXt (s:Shared):Bool:=xlAt hq [] s && recOk PySem.Challenge.rw_te0009_01.row.records s
noncomputable def hHook:Hook:=kHook hK hAs (fun _=>by kernel_rfl)
theorem run_ (w:World) (os:OsState):topRun treeTable hp w 11 hann (12 + (1 + (1954 + (1908 + (237 + (2474 + (563 + 2))))))) ⟨boot_heap w.params,#[],boot_drawn,boot_toks,os⟩ (topStub hp) = some ⟨hH1 w.params,#[],{},1412,os⟩:=by
  refine go_top (congrFun (preTop w) os) ?_
  refine piece_block (congrFun (block w) os) ?_
  refine (congrArg (fun l=>topRun treeTable hp w 11 hann (1954 + (1908 + (237 + (2474 + (563 + 2))))) (sT (Lb w.params) 15 187 os).abs (restOf l henv (.body hB henv) ⟨0,0,0,0⟩ [topFrame ⟨0,0,0,0⟩])) cut_).trans ?_
  exact piece_app (segRun_of (congrFun (pc0 w) os)) (piece_app (segRun_of (congrFun (pc1 w) os)) (piece_app (segRun_of (congrFun (pc2 w) os)) (piece_app (segRun_of (congrFun (pc3 w) os)) (piece_app (segRun_of (congrFun (pc4 w) os)) (piece_nil (congrFun (fin w) os))))))
theorem le_:Nat.ble (12 + (1 + (1954 + (1908 + (237 + (2474 + (563 + 2))))))) 14388 = true:=by kernel_rfl
theorem look1 (w:World):(fun os:OsState=>(staticsOk (importedModules hp.main.body) (boot_heap w.params) (hH1 w.params) && namesBound hp (hH1 w.params) && gensDone ⟨hH1 w.params,#[],{},1412,os⟩ && laidKept (boot_heap w.params) (hH1 w.params))) = fun _=>true:=by
  rw [PySem.W.Fast.te5923862056798008813];kernel_rfl
noncomputable def pk:Nat→List Nat→List Obj→Frag
  | _,[],_=>[]
  | a,g :: gs,l=>match l.drop g with
    | []=>[]
    | x :: r=>(a + g,x) :: pk (a + g + 1) gs r
noncomputable def gp:Nat→List Nat→List Nat
  | _,[]=>[]
  | a,b :: r=>(b - a) :: gp (b + 1) r
theorem pk_get (H:List Obj):∀ (gs:List Nat) (a:Nat) (l:List Obj),H.drop a = l→∀ p ∈ pk a gs l,H[p.1]? = some p.2
  | [],_,_,_,_,m=>(List.not_mem_nil m).elim
  | g :: gs,a,l,e,p,m=>by
    unfold pk at m
    cases h:l.drop g with
    | nil=>rw [h] at m;exact (List.not_mem_nil m).elim
    | cons x r=>
      rw [h] at m
      have k:H.drop (a + g) = x :: r:=by rw [← List.drop_drop,e,h]
      rcases List.mem_cons.mp m with rfl | m
      · show H[a + g]? = some x
        rw [← List.head?_drop,k];rfl
      · exact pk_get H gs (a + g + 1) r (by rw [← List.drop_drop,k];rfl) p m
theorem hKe (P:Params):hK P = pk 0 (gp 0 hAs) (L4 P):=by kernel_rfl
theorem hKf (P:Params):(hK P).all (fun p=>!p.2.isFreed) = true:=by kernel_rfl
theorem hKa (P:Params):hAs = (hK P).map (·.1):=by kernel_rfl
theorem look3 (w:World):(fun os:OsState=>Hook.obs hHook ⟨hH1 w.params,#[],{},1412,os⟩) = fun _=>Hook.val hHook w:=by
  funext os
  show hAs.map (hH1 w.params).get? = (hK w.params).map fun p=>some p.2
  rw [hKa w.params,List.map_map]
  exact List.map_congr_left fun p m=>Heap.get?_some_iff.mpr ⟨List.getElem?_toArray.trans (pk_get (L4 w.params) _ 0 _ rfl p (hKe w.params ▸ m)),(Bool.not_eq_true' _).mp (List.all_eq_true.mp (hKf w.params) p m)⟩
open PySem PySem.W PyProof.Rows PySem.Calls
theorem look2 (w:World):(fun os:OsState=>openSeen hq hLoose (importedModules hp.main.body) hXt true ⟨hH1 w.params,#[],{},1412,os⟩) = fun _=>openGood hq hLoose:=by
  rw [PySem.W.Fast.te4187177175401517315,PySem.W.Fast.te5923862056798008813];kernel_rfl
theorem sd1:readsOut hp hM "vars" = false:=by rw [Fast.te13343964577679436407];kernel_rfl
theorem sd2:readsOut hp hM "dir" = false:=by rw [Fast.te13343964577679436407];kernel_rfl
theorem sd3:readsOut hp hM "locals" = false:=by rw [Fast.te13343964577679436407];kernel_rfl
theorem sd4:noRoadLSs {strict:=!(importedModules hM).all cThrough.contains,foot:=none,bare:=(["vars","dir","locals"]:List Str).filter (readsOut hp hM)} hM = true:=by
  rw [List.filter_cons_of_neg (by rw [sd1];decide),List.filter_cons_of_neg (by rw [sd2];decide),List.filter_cons_of_neg (by rw [sd3];decide),Fast.te8326940854005059898];kernel_rfl
theorem sd5:namesMeet hp PySem.Challenge.rw_te0009_01.above (fun _ n=>!PySem.Challenge.rw_te0009_01.own.contains n) = true:=by rw [Fast.te17119622794617984870,Fast.te10792542408131684335];kernel_rfl
theorem sd6:namesResolve hp = true:=by rw [Fast.te8377067652309620493];kernel_rfl
theorem sd7:namesMeet hp hM (fun _ n=>attrL n) = true:=by rw [Fast.te17119622794617984870,Fast.te17868728402115742887];kernel_rfl
theorem sd8:looksOpen PySem.Challenge.rw_te0009_01.row.prog = true:=by
  show looksOpen hp = true
  unfold looksOpen
  rw [sd6,show namesMeet hp hp.main.body (fun _ n=>attrL n) = true from sd7,show noRoadLSs {strict:=!(importedModules hp.main.body).all cThrough.contains,foot:=none,bare:=(["vars","dir","locals"]:List Str).filter (readsOut hp hp.main.body)} hp.main.body = true from sd4];kernel_rfl
theorem said_:PySem.Challenge.rw_te0009_01.wellSaid = true:=by
  unfold OpenLaw.wellSaid OpenRow.wellSaid
  rw [show OpenRow.partSaid PySem.Challenge.rw_te0009_01.row = true by unfold OpenRow.partSaid;rw [sd8];kernel_rfl,show namesMeet PySem.Challenge.rw_te0009_01.prog PySem.Challenge.rw_te0009_01.above (fun _ n=>!PySem.Challenge.rw_te0009_01.own.contains n) = true from sd5,Fast.te17119622794617984870,Fast.te8326940854005059898];kernel_rfl
theorem wx1 {top:Scope} {cx:TablesWhole.Ctx} {sc:Scope}:∀ a b:List Stmt,TablesWhole.wSs TablesWhole.holds top cx sc (a ++ b) = (TablesWhole.wSs TablesWhole.holds top cx sc a && TablesWhole.wSs TablesWhole.holds top cx sc b)
  | [],b=>by kernel_rfl
  | s :: a,b=>((by kernel_rfl:TablesWhole.wSs TablesWhole.holds top cx sc (s :: (a ++ b)) = (TablesWhole.wS TablesWhole.holds top cx sc s && TablesWhole.wSs TablesWhole.holds top cx sc (a ++ b))).trans (congrArg _ (wx1 a b))).trans ((Bool.and_assoc _ _ _).symm.trans (congrArg (· && TablesWhole.wSs TablesWhole.holds top cx sc b) (by kernel_rfl:(TablesWhole.wS TablesWhole.holds top cx sc s && TablesWhole.wSs TablesWhole.holds top cx sc a) = TablesWhole.wSs TablesWhole.holds top cx sc (s :: a))))
noncomputable def wxa (l:List Stmt):Bool:=TablesWhole.wSs TablesWhole.holds hp.main.scope ⟨hp.main.scope,[],[],[],none⟩ hp.main.scope l
theorem wx2:TablesWhole.wSs TablesWhole.gather hp.main.scope ⟨hp.main.scope,[],[],[],none⟩ hp.main.scope hM = []:=by kernel_rfl
theorem wx3:wxa (hM.take 21) = true:=by kernel_rfl
theorem wx4:wxa ((hM.drop 21).take 1) = true:=by kernel_rfl
theorem wx5:wxa (hM.drop 22) = true:=by kernel_rfl
theorem wx6:hM = hM.take 21 ++ ((hM.drop 21).take 1 ++ hM.drop 22):=by kernel_rfl
theorem wx7:wxa hM = true:=by rw [wx6];exact (wx1 _ _).trans (look_both wx3 ((wx1 _ _).trans (look_both wx4 wx5)))
theorem wx8 {p:Program} (t:TablesWhole.wSs TablesWhole.gather p.main.scope ⟨p.main.scope,[],[],[],none⟩ p.main.scope p.main.body = []) (n:TablesWhole.noTwice p.main.scope = true) (b:TablesWhole.wSs TablesWhole.holds p.main.scope ⟨p.main.scope,[],[],[],none⟩ p.main.scope p.main.body = true) (x:p.modules = []) (y:p.parses = []) (z:p.harvested = []):p.tablesWhole = true:=by
  unfold Program.tablesWhole TablesWhole.wProgram TablesWhole.wModule;rw [x,y,z]
  show ((true && (TablesWhole.noTwice p.main.scope && (TablesWhole.wSs TablesWhole.holds p.main.scope ⟨p.main.scope,[],TablesWhole.wSs TablesWhole.gather p.main.scope ⟨p.main.scope,[],[],[],none⟩ p.main.scope p.main.body,[],none⟩ p.main.scope p.main.body && true))) && true) = true
  rw [t,n,b];rfl
theorem wx9:hp.tablesWhole = true:=wx8 wx2 (by kernel_rfl) wx7 rfl rfl rfl
end Mine
set_option genSizeOf false
set_option genInjectivity false
namespace Mine
noncomputable abbrev Tx:=List Nat
inductive Loc | em | emD | tmp | tmpD | states | events | indents | rows
  deriving DecidableEq
inductive MV
  | none | bool (b:Bool) | int (i:Int) | str (s:Tx)
  | loc (l:Loc) | fn (f:Nat) | cls (c:Nat) | bi (b:Nat)
  | meth (f:Nat) (l:Loc)
  | inst (c:Nat) (fs:List MV)
  | lst (vs:List MV) | tup (vs:List MV)
  | sd (kvs:List (Tx × Tx))
  deriving Inhabited
inductive Cell | unset | val (v:MV) | own (vs:List MV)
  deriving Inhabited
structure Sto where
  em:Option (List MV)
  tmp:Option (Nat × List (Option MV))
  states:Option (List MV)
  events:Option (List MV)
  indents:Option (List MV)
  rows:Option (List MV)
  deriving Inhabited
structure St where
  sh:Sto
  vars:List Cell
  deriving Inhabited
inductive Bop | add | sub | mul | fdiv | mod
  deriving DecidableEq
inductive Cop | eq | ne | lt | le | gt | ge | is | isNot | inn | notIn
  deriving DecidableEq
mutual
inductive ME
  | k (v:MV) | v (i:Nat) | g (x:Nat)
  | at (e:ME) (a:Nat)
  | bo (and:Bool) (es:MEs)
  | bin (op:Bop) (l r:ME)
  | not (e:ME) | neg (e:ME)
  | ife (t:MB) (a b:ME)
  | cmp (l:ME) (r:MCs)
  | call (g:Nat) (args:MEs) (kws:MKs)
  | mc (o:ME) (a:Nat) (args:MEs) (kws:MKs)
  | sub (e i:ME)
  | sl (e lo hi:ME)
  | abs
  | list (at_:Option Loc) (es:MEs)
  | tup (es:MEs)
  | subd (keys:List Int) (es:MEs) (i:ME)
  | comp (m:Int) (src:ME)
  | skeys (e:ME)
  | fmt2 (a b:ME) | fmtT (e:ME)
  | dead
inductive MB | not (b:MB) | bo (and:Bool) (bs:MBs) | ife (t a b:MB) | cmp (l:ME) (r:MCs) | val (e:ME)
inductive MBs | nil | cons (b:MB) (r:MBs)
inductive MEs | nil | cons (e:ME) (r:MEs)
inductive MCs | nil | cons (op:Cop) (e:ME) (r:MCs)
inductive MKs | nil | cons (n:Nat) (e:ME) (r:MKs)
end
inductive MT | v (i:Nat) | at (e:ME) (a:Nat) | tup (is:List Nat)
mutual
inductive MS
  | expr (e:ME)
  | asg (ts:List MT) (e:ME)
  | asgo (i:Nat) (es:MEs)
  | augv (i:Nat) (op:Bop) (e:ME)
  | augo (i:Nat) (e:ME)
  | auga (o:ME) (a:Nat) (op:Bop) (e:ME)
  | app (i:Nat) (e:ME)
  | ife (t:MB) (a b:MSs)
  | whl (t:MB) (b:MSs)
  | for (i:Nat) (e:ME) (b:MSs)
  | forr (i:Nat) (e:ME) (b:MSs)
  | ret (e:ME)
  | ret0
  | pass
  | dead
inductive MSs | nil | cons (s:MS) (r:MSs)
end
structure Tab where
  fnPar:Nat → List (Nat × Option MV)
  clsFields:Nat → List Nat
  clsMeth:Nat → Nat → Option Nat
  clsAttr:Nat → Nat → Option MV
  clsInit:Nat → Option Nat
  clsSub:Nat → Nat → Bool
  gval:Nat → Option MV
  emC:Nat
  body:Nat → Option (Nat × MSs)
noncomputable def lim:Nat:=16777216
noncomputable def leN (a b:Nat):Bool:=Nat.ble a b
noncomputable def chk {α:Type} (b:Bool) (o:Option α):Option α:=match b with
  | true=>o
  | false=>none
noncomputable def ltI (a b:Int):Bool:=decide (a < b)
noncomputable def leI (a b:Int):Bool:=decide (a ≤ b)
noncomputable def eqI (a b:Int):Bool:=decide (a = b)
noncomputable def nth {α:Type} (l:List α):Nat → Option α:=List.rec (motive:=fun _=>Nat → Option α) (fun _=>none) (fun a _ ih n=>Nat.casesOn (motive:=fun _=>Option α) n (some a) ih) l
noncomputable def setN {α:Type} (l:List α):Nat → α → List α:=List.rec (motive:=fun _=>Nat → α → List α) (fun _ _=>[]) (fun a r ih n x=>Nat.casesOn (motive:=fun _=>List α) n (x :: r) fun n=>a :: ih n x) l
noncomputable def lookN {α:Type} (l:List (Nat × α)) (n:Nat):Option α:=List.rec (motive:=fun _=>Option α) none (fun p _ ih=>bif Nat.beq p.1 n then some p.2 else ih) l
theorem nth_eq {α:Type}:∀ (l:List α) (n:Nat),nth l n = l[n]?
  | [],_=>rfl
  | _ :: _,0=>rfl
  | _ :: r,n + 1=>nth_eq r n
theorem setN_eq {α:Type}:∀ (l:List α) (n:Nat) (x:α),setN l n x = l.set n x
  | [],_,_=>rfl
  | _ :: _,0,_=>rfl
  | a :: r,n + 1,x=>congrArg (List.cons a) (setN_eq r n x)
noncomputable def asInt (v:MV):Option Int:=MV.casesOn (motive_1:=fun _=>Option Int) v none (fun _=>none) some (fun _=>none) (fun _=>none) (fun _=>none) (fun _=>none) (fun _=>none) (fun _ _=>none) (fun _ _=>none) (fun _=>none) (fun _=>none) (fun _=>none)
noncomputable def asStr (v:MV):Option Tx:=MV.casesOn (motive_1:=fun _=>Option Tx) v none (fun _=>none) (fun _=>none) some (fun _=>none) (fun _=>none) (fun _=>none) (fun _=>none) (fun _ _=>none) (fun _ _=>none) (fun _=>none) (fun _=>none) (fun _=>none)
noncomputable def asLoc (v:MV):Option Loc:=MV.casesOn (motive_1:=fun _=>Option Loc) v none (fun _=>none) (fun _=>none) (fun _=>none) some (fun _=>none) (fun _=>none) (fun _=>none) (fun _ _=>none) (fun _ _=>none) (fun _=>none) (fun _=>none) (fun _=>none)
noncomputable def asLst (v:MV):Option (List MV):=MV.casesOn (motive_1:=fun _=>Option (List MV)) v none (fun _=>none) (fun _=>none) (fun _=>none) (fun _=>none) (fun _=>none) (fun _=>none) (fun _=>none) (fun _ _=>none) (fun _ _=>none) some (fun _=>none) (fun _=>none)
noncomputable def asTup (v:MV):Option (List MV):=MV.casesOn (motive_1:=fun _=>Option (List MV)) v none (fun _=>none) (fun _=>none) (fun _=>none) (fun _=>none) (fun _=>none) (fun _=>none) (fun _=>none) (fun _ _=>none) (fun _ _=>none) (fun _=>none) some (fun _=>none)
noncomputable def asSd (v:MV):Option (List (Tx × Tx)):=MV.casesOn (motive_1:=fun _=>Option (List (Tx × Tx))) v none (fun _=>none) (fun _=>none) (fun _=>none) (fun _=>none) (fun _=>none) (fun _=>none) (fun _=>none) (fun _ _=>none) (fun _ _=>none) (fun _=>none) (fun _=>none) some
noncomputable def asCls (v:MV):Option Nat:=MV.casesOn (motive_1:=fun _=>Option Nat) v none (fun _=>none) (fun _=>none) (fun _=>none) (fun _=>none) (fun _=>none) some (fun _=>none) (fun _ _=>none) (fun _ _=>none) (fun _=>none) (fun _=>none) (fun _=>none)
noncomputable def asInst (v:MV):Option (Nat × List MV):=MV.casesOn (motive_1:=fun _=>Option (Nat × List MV)) v none (fun _=>none) (fun _=>none) (fun _=>none) (fun _=>none) (fun _=>none) (fun _=>none) (fun _=>none) (fun _ _=>none) (fun c fs=>some (c,fs)) (fun _=>none) (fun _=>none) (fun _=>none)
noncomputable def asFn (v:MV):Option Nat:=MV.casesOn (motive_1:=fun _=>Option Nat) v none (fun _=>none) (fun _=>none) (fun _=>none) (fun _=>none) some (fun _=>none) (fun _=>none) (fun _ _=>none) (fun _ _=>none) (fun _=>none) (fun _=>none) (fun _=>none)
noncomputable def isNone (v:MV):Bool:=MV.casesOn (motive_1:=fun _=>Bool) v true (fun _=>false) (fun _=>false) (fun _=>false) (fun _=>false) (fun _=>false) (fun _=>false) (fun _=>false) (fun _ _=>false) (fun _ _=>false) (fun _=>false) (fun _=>false) (fun _=>false)
noncomputable def isBi (v:MV):Bool:=MV.casesOn (motive_1:=fun _=>Bool) v false (fun _=>false) (fun _=>false) (fun _=>false) (fun _=>false) (fun _=>false) (fun _=>false) (fun _=>true) (fun _ _=>false) (fun _ _=>false) (fun _=>false) (fun _=>false) (fun _=>false)
noncomputable def orO {α:Type} (o p:Option α):Option α:=Option.casesOn (motive:=fun _=>Option α) o p some
noncomputable def int2 {α:Type} (f:Int → Int → α) (a b:MV):Option α:=(asInt a).bind fun i=>(asInt b).map fun j=>f i j
noncomputable def str2 {α:Type} (f:Tx → Tx → α) (a b:MV):Option α:=(asStr a).bind fun i=>(asStr b).map fun j=>f i j
noncomputable def lst2 {α:Type} (f:List MV → List MV → α) (a b:MV):Option α:=(asLst a).bind fun i=>(asLst b).map fun j=>f i j
noncomputable def strInt {α:Type} (f:Tx → Int → α) (a b:MV):Option α:=(asStr a).bind fun i=>(asInt b).map fun j=>f i j
noncomputable def one {α:Type} (l:List α):Option α:=List.casesOn (motive:=fun _=>Option α) l none fun a r=>List.casesOn (motive:=fun _=>Option α) r (some a) fun _ _=>none
noncomputable def ltX:Tx → Tx → Bool
  | [],[]=>false
  | [],_ :: _=>true
  | _ :: _,[]=>false
  | a :: r,b :: q=>if a < b then true else if b < a then false else ltX r q
noncomputable def eqX (a b:Tx):Bool:=decide (a = b)
noncomputable def ascX:List Tx → Bool
  | []=>true
  | [_]=>true
  | a :: b :: r=>ltX a b && ascX (b :: r)
noncomputable def prefX:Tx → Tx → Bool
  | [],_=>true
  | _ :: _,[]=>false
  | a :: r,b :: q=>a == b && prefX r q
noncomputable def repX (s:Tx):Nat → Tx
  | 0=>[]
  | n + 1=>s ++ repX s n
noncomputable def joinX (sep:Tx):List Tx → Tx
  | []=>[]
  | [x]=>x
  | x :: y :: r=>x ++ sep ++ joinX sep (y :: r)
noncomputable def splitX (s sep:Tx):List Tx:=(PySem.Txt.split ⟨s.toArray⟩ ⟨sep.toArray⟩).map (·.cps.toList)
noncomputable def strsOf:List MV → Option (List Tx)
  | []=>some []
  | v :: r=>(asStr v).bind fun s=>(strsOf r).map (s :: ·)
noncomputable def cut (n:Nat) (dflt:Nat) (v:MV):Option Nat:=bif isNone v then some dflt else (asInt v).map (PySem.clipAt n)
noncomputable def sliceL {α:Type} (xs:List α) (lo hi:MV):Option (List α):=do
  let a ← cut xs.length 0 lo
  let b ← cut xs.length xs.length hi
  return (xs.take b).drop a
noncomputable def idx (n:Nat) (i:Int):Option Nat:=if 0 ≤ i then (if i < n then some i.toNat else none) else (if 0 ≤ i + n then some (i + n).toNat else none)
noncomputable def getList (sh:Sto) (l:Loc):Option (List MV):=Loc.casesOn (motive:=fun _=>Option (List MV)) l none none none none sh.states sh.events sh.indents sh.rows
noncomputable def items (sh:Sto) (v:MV):Option (List MV):=orO (asLst v) ((asLoc v).bind (getList sh))
noncomputable def setList (sh:Sto) (vs:List MV) (l:Loc):Option Sto:=Loc.casesOn (motive:=fun _=>Option Sto) l none none none none (some { sh with states:=some vs }) (some { sh with events:=some vs }) (some { sh with indents:=some vs }) (some { sh with rows:=some vs })
noncomputable def truthy (sh:Sto) (v:MV):Option Bool:=MV.casesOn (motive_1:=fun _=>Option Bool) v (some false) some (fun i=>some (!eqI i 0)) (fun s=>some (!s.isEmpty)) (fun l=>(getList sh l).map (!·.isEmpty)) (fun _=>none) (fun _=>none) (fun _=>none) (fun _ _=>none) (fun _ _=>none) (fun vs=>some (!vs.isEmpty)) (fun _=>none) (fun _=>none)
noncomputable def binop (op:Bop) (a b:MV):Option MV:=Bop.casesOn (motive:=fun _=>Option MV) op
  (orO (int2 (fun i j=>.int (i + j)) a b) (orO (str2 (fun s t=>.str (s ++ t)) a b) (lst2 (fun s t=>.lst (s ++ t)) a b))) (int2 (fun i j=>.int (i - j)) a b)
  (orO (int2 (fun i j=>.int (i * j)) a b) (strInt (fun s j=>.str (repX s j.toNat)) a b)) (int2 (fun i j=>.int (Int.fdiv i j)) a b) (int2 (fun i j=>.int (Int.fmod i j)) a b)
noncomputable def is3 (v:MV):Bool:=MV.casesOn (motive_1:=fun _=>Bool) v true (fun _=>false) (fun _=>true) (fun _=>true) (fun _=>false) (fun _=>false) (fun _=>false) (fun _=>false) (fun _ _=>false) (fun _ _=>false) (fun _=>false) (fun _=>false) (fun _=>false)
noncomputable def eq3 (a b:MV):Option Bool:=bif isNone a then bif isNone b then some true else some false else bif isNone b then some false else orO (int2 eqI a b) (str2 eqX a b)
noncomputable def eqV (a b:MV):Option Bool:=bif is3 a && is3 b then eq3 a b else none
noncomputable def inL (v:MV) (l:List MV):Option Bool:=List.rec (motive:=fun _=>Option Bool) (some false) (fun x _ ih=>(eqV x v).bind fun b=>ih.map (b || ·)) l
noncomputable def is2 (f:Int → Int → Bool) (g:Tx → Tx → Bool) (a b:MV):Option Bool:=orO (int2 f a b) (str2 g a b)
noncomputable def inV (a b:MV):Option Bool:=orO ((asStr a).bind fun s=>(one s).bind fun c=>(asStr b).map fun t=>t.contains c) ((asLst b).bind (inL a))
noncomputable def isV (a b:MV):Option Bool:=bif isNone b && !isBi a then some (isNone a) else none
noncomputable def cmpop (op:Cop) (a b:MV):Option Bool:=Cop.casesOn (motive:=fun _=>Option Bool) op (eqV a b) (is2 (fun i j=>!eqI i j) (fun s t=>!eqX s t) a b) (is2 ltI ltX a b) (is2 leI (fun s t=>!ltX t s) a b)
  (is2 (fun i j=>ltI j i) (fun s t=>ltX t s) a b) (is2 (fun i j=>leI j i) (fun s t=>!ltX s t) a b) (isV a b) ((isV a b).map (!·)) (inV a b) ((inV a b).map (!·))
noncomputable def subV (sh:Sto) (v i:MV):Option MV:=orO ((asInt i).bind fun i=>orO ((items sh v).bind fun vs=>(idx vs.length i).bind (nth vs)) (orO ((asTup v).bind fun vs=>(idx vs.length i).bind (nth vs))
    ((asStr v).bind fun s=>(idx s.length i).bind fun j=>(nth s j).map fun c=>.str [c])))
  ((asStr i).bind fun k=>(asSd v).bind fun kvs=>(kvs.lookup k).map .str)
noncomputable def slV (sh:Sto) (v lo hi:MV):Option MV:=orO ((items sh v).bind fun vs=>(sliceL vs lo hi).map .lst) ((asStr v).bind fun s=>(sliceL s lo hi).map .str)
noncomputable def fieldIx (fs:List Nat) (a:Nat):Option Nat:=List.rec (motive:=fun _=>Nat → Option Nat) (fun _=>none) (fun x _ ih n=>bif Nat.beq x a then some n else ih (n + 1)) fs 0
noncomputable def tmpAt (T:Tab) (c:Nat) (fs:List (Option MV)) (n:Nat):Option MV:=(fieldIx (T.clsFields c) n).bind fun i=>(nth fs i).bind id
noncomputable def emAt (T:Tab) (E:List MV) (n:Nat):Option MV:=(fieldIx (T.clsFields T.emC) n).bind (nth E)
noncomputable def slot (T:Tab) (sh:Sto) (l:Loc):Option (Nat × (Nat → Option MV)):=Loc.casesOn (motive:=fun _=>Option (Nat × (Nat → Option MV))) l (sh.em.map fun E=>(T.emC,emAt T E)) none (sh.tmp.map fun p=>(p.1,tmpAt T p.1 p.2)) none none none none none
noncomputable def getS (T:Tab) (l:Loc) (c a:Nat) (o:Option MV):Option MV:=orO o (orO (T.clsAttr c a) ((T.clsMeth c a).map (.meth · l)))
noncomputable def getA (T:Tab) (sh:Sto) (v:MV) (a:Nat):Option MV:=orO ((asInst v).bind fun p=>Option.casesOn (motive:=fun _=>Option MV) (fieldIx (T.clsFields p.1) a) (T.clsAttr p.1 a) (nth p.2))
  ((asLoc v).bind fun l=>(slot T sh l).bind fun p=>getS T l p.1 a (p.2 a))
noncomputable def setF {α:Type} (T:Tab) (c:Nat) (l:List α) (a:Nat) (x:α):Option (List α):=(fieldIx (T.clsFields c) a).bind fun i=>(nth l i).map fun _=>setN l i x
noncomputable def setA (T:Tab) (sh:Sto) (v:MV) (a:Nat) (x:MV):Option Sto:=(asLoc v).bind fun l=>Loc.casesOn (motive:=fun _=>Option Sto) l (sh.em.bind fun E=>(setF T T.emC E a x).map fun E'=>{ sh with em:=some E' }) none
  (sh.tmp.bind fun p=>(setF T p.1 p.2 a (some x)).map fun fs=>{ sh with tmp:=some (p.1,fs) }) none none none none none
noncomputable def dfl:List (Nat × Option MV) → List (Nat × MV)
  | []=>[]
  | (n,some v) :: r=>(n,v) :: dfl r
  | (_,none) :: r=>dfl r
noncomputable def allLook (l:List (Nat × MV)):List Nat → Option (List MV)
  | []=>some []
  | n :: r=>(l.lookup n).bind fun v=>(allLook l r).map (v :: ·)
noncomputable def kwsOk (names taken:List Nat):List (Nat × MV) → Bool
  | []=>true
  | (n,_) :: r=>names.contains n && !taken.contains n && kwsOk names (n :: taken) r
noncomputable def norm (ps:List (Nat × Option MV)) (pos:List MV) (kws:List (Nat × MV)):Option (List MV):=
  chk (leN pos.length ps.length && kwsOk (ps.map (·.1)) ((ps.map (·.1)).take pos.length) kws) (allLook ((ps.map (·.1)).zip pos ++ kws ++ dfl ps) (ps.map (·.1)))
noncomputable def mulOk (a b:Int):Bool:=Nat.ble a.natAbs 1048576 && Nat.ble b.natAbs 1048576
noncomputable def binOk (op:Bop) (a b:MV):Bool:=Bop.casesOn (motive:=fun _=>Bool) op ((orO (str2 (fun s t=>leN (s.length + t.length) lim) a b) (lst2 (fun s t=>leN (s.length + t.length) lim) a b)).getD true) true
  ((orO (int2 mulOk a b) (strInt (fun s j=>leN (s.length * j.toNat) lim && leN j.natAbs lim) a b)).getD true) ((int2 (fun _ j=>leN 1 j.toNat && leN j.toNat 1000000) a b).getD true) ((int2 (fun _ j=>leN 1 j.toNat) a b).getD true)
noncomputable def ipOk (op:Bop) (a b:MV):Bool:=Bop.casesOn (motive:=fun _=>Bool) op ((orO (int2 (fun _ _=>true) a b) (str2 (fun _ _=>true) a b)).getD false) ((int2 (fun _ _=>true) a b).getD false) false false false
noncomputable abbrev Phi:=Nat → List MV → Sto → Option (MV × Sto)
noncomputable def callF (T:Tab) (Φ:Phi) (f:Nat) (pos:List MV) (kws:List (Nat × MV)) (sh:Sto):Option (MV × Sto):=
  (norm (T.fnPar f) pos kws).bind fun as=>Φ f as sh
noncomputable def allSome:List (Option MV) → Option (List MV)
  | []=>some []
  | some v :: r=>(allSome r).map (v :: ·)
  | none :: _=>none
noncomputable def intsTo:Nat → List MV
  | 0=>[]
  | n + 1=>intsTo n ++ [.int n]
noncomputable def lenV (sh:Sto) (v:MV):Option Nat:=orO ((asStr v).map List.length) ((items sh v).map List.length)
noncomputable def clsOf (T:Tab) (v:MV):Option Nat:=(asCls v).bind fun d=>chk (T.clsInit d).isSome (some d)
noncomputable def isiV (T:Tab) (c:Nat) (v:MV):Option Bool:=orO ((clsOf T v).map (T.clsSub c)) ((asTup v).bind fun l=>List.casesOn (motive:=fun _=>Option Bool) l none fun d r=>(one r).bind fun e=>
  (clsOf T d).bind fun d=>(clsOf T e).map fun e=>T.clsSub c d || T.clsSub c e)
noncomputable def builtin (T:Tab) (sh:Sto) (b:Nat) (vs:List MV):Option MV:=Nat.casesOn (motive:=fun _=>Option MV) b ((one vs).bind fun v=>(lenV sh v).map fun (n:Nat)=>MV.int (Int.ofNat n)) fun b=>Nat.casesOn (motive:=fun _=>Option MV) b
  (List.casesOn (motive:=fun _=>Option MV) vs none fun x r=>(one r).bind fun d=>(asInst x).bind fun p=>(isiV T p.1 d).map .bool) fun _=>none
noncomputable def noTL (l:Loc):Bool:=Loc.casesOn (motive:=fun _=>Bool) l true true false false true true true true
section
variable (v:MV) (vs:List MV)
noncomputable def noT:Bool:=MV.rec (motive_1:=fun _=>Bool) (motive_2:=fun _=>Bool) true (fun _=>true) (fun _=>true) (fun _=>true) noTL (fun _=>true) (fun _=>true) (fun _=>true) (fun _=>noTL) (fun _ _ ih=>ih) (fun _ ih=>ih) (fun _ ih=>ih) (fun _=>true) true (fun _ _ i1 i2=>i1 && i2) v
noncomputable def noTs:Bool:=MV.rec_1 (motive_1:=fun _=>Bool) (motive_2:=fun _=>Bool) true (fun _=>true) (fun _=>true) (fun _=>true) noTL (fun _=>true) (fun _=>true) (fun _=>true) (fun _=>noTL) (fun _ _ ih=>ih) (fun _ ih=>ih) (fun _ ih=>ih) (fun _=>true) true (fun _ _ i1 i2=>i1 && i2) vs
end
noncomputable def isTmp (l:Loc):Bool:=Loc.casesOn (motive:=fun _=>Bool) l false false true false false false false false
noncomputable def retmp (v:MV):MV:=MV.casesOn (motive_1:=fun _=>MV) v v (fun _=>v) (fun _=>v) (fun _=>v) (fun _=>v) (fun _=>v) (fun _=>v) (fun _=>v) (fun f l=>bif isTmp l then .meth f .em else v) (fun _ _=>v) (fun _=>v) (fun _=>v) (fun _=>v)
noncomputable def endInst (T:Tab) (c:Nat) (vs:List MV) (sh:Sto):Option (MV × Sto):=bif c == T.emC then bif noTs (vs.map retmp) && sh.em.isNone then some (.loc .em,{ sh with em:=some (vs.map retmp),tmp:=none }) else none
  else bif noTs vs then some (.inst c vs,{ sh with tmp:=none }) else none
noncomputable def mkInst (T:Tab) (Φ:Phi) (c:Nat) (pos:List MV) (kws:List (Nat × MV)) (sh:Sto):Option (MV × Sto):=bif sh.tmp.isNone then (T.clsInit c).bind fun f=>
    (callF T Φ f (.loc .tmp :: pos) kws { sh with tmp:=some (c,List.replicate (T.clsFields c).length none) }).bind fun r=>bif isNone r.1 then r.2.tmp.bind fun p=>bif p.1 == c then (allSome p.2).bind fun vs=>endInst T c vs r.2 else none else none
  else none
noncomputable def callV (T:Tab) (Φ:Phi) (fv:MV) (pos:List MV) (kws:List (Nat × MV)) (sh:Sto):Option (MV × Sto):=MV.casesOn (motive_1:=fun _=>Option (MV × Sto)) fv none (fun _=>none) (fun _=>none) (fun _=>none) (fun _=>none)
  (fun f=>callF T Φ f pos kws sh) (fun c=>mkInst T Φ c pos kws sh) (fun b=>List.casesOn (motive:=fun _=>Option (MV × Sto)) kws ((builtin T sh b pos).map (·,sh)) fun _ _=>none) (fun f l=>callF T Φ f (.loc l :: pos) kws sh)
  (fun _ _=>none) (fun _=>none) (fun _=>none) (fun _=>none)
noncomputable def bAppend (sh:Sto) (o:MV) (as:List MV):Option (MV × Sto):=(asLoc o).bind fun l=>(one as).bind fun v=>(getList sh l).bind fun vs=>(setList sh (vs ++ [v]) l).map fun sh'=>(.none,sh')
noncomputable def isRows (l:Loc):Bool:=Loc.casesOn (motive:=fun _=>Bool) l false false false false false false false true
noncomputable def bPop (sh:Sto) (o:MV) (as:List MV):Option (MV × Sto):=(asLoc o).bind fun l=>bif isRows l then none else (getList sh l).bind fun vs=>bif as.isEmpty then vs.getLast?.bind fun v=>(setList sh vs.dropLast l).map fun sh'=>(v,sh')
  else (one as).bind fun i=>(asInt i).bind fun i=>bif eqI i 0 then List.casesOn (motive:=fun _=>Option (MV × Sto)) vs none fun v r=>(setList sh r l).map fun sh'=>(v,sh') else none
noncomputable def bStarts (sh:Sto) (o:MV) (as:List MV):Option (MV × Sto):=(one as).bind fun p=>str2 (fun s p=>(.bool (prefX p s),sh)) o p
noncomputable def bJoin (sh:Sto) (o:MV) (as:List MV):Option (MV × Sto):=(asStr o).bind fun s=>(one as).bind fun l=>(items sh l).bind fun vs=>(strsOf vs).map fun xs=>(.str (joinX s xs),sh)
noncomputable def bSplit (sh:Sto) (o:MV) (as:List MV):Option (MV × Sto):=(one as).bind fun p=>(asStr o).bind fun s=>(asStr p).bind fun p=>bif p.isEmpty then none else some (.lst ((splitX s p).map .str),sh)
noncomputable def bCopy (sh:Sto) (o:MV) (as:List MV):Option (MV × Sto):=bif as.isEmpty then (asSd o).map fun kvs=>(.sd kvs,sh) else none
noncomputable def methB (sh:Sto) (o:MV) (a:Nat) (as:List MV):Option (MV × Sto):=(nth ([bAppend,bPop,bStarts,bJoin,bSplit,bCopy]:List (Sto → MV → List MV → Option (MV × Sto))) a).bind fun f=>f sh o as
noncomputable def okAppend (sh:Sto) (o:MV) (_:List MV):Bool:=((asLoc o).bind fun l=>bif isRows l then none else (getList sh l).map fun vs=>leN (vs.length + 1) lim).getD true
noncomputable def okJoin (sh:Sto) (o:MV) (as:List MV):Bool:=((asStr o).bind fun s=>(one as).bind fun l=>(items sh l).bind fun vs=>(strsOf vs).map fun xs=>leN ((xs.map List.length).sum + xs.length * s.length) lim).getD true
noncomputable def okSplit (_:Sto) (o:MV) (_:List MV):Bool:=((asStr o).map fun s=>leN (s.length + 1) lim).getD true
noncomputable def okCopy (_:Sto) (o:MV) (_:List MV):Bool:=((asSd o).map fun s=>leN s.length lim).getD true
noncomputable def okYes (_:Sto) (_:MV) (_:List MV):Bool:=true
noncomputable def methOk (sh:Sto) (o:MV) (a:Nat) (as:List MV):Bool:=((nth ([okAppend,okYes,okYes,okJoin,okSplit,okCopy]:List (Sto → MV → List MV → Bool)) a).map fun f=>f sh o as).getD true
noncomputable def asMeth (v:MV):Option (Nat × Loc):=MV.casesOn (motive_1:=fun _=>Option (Nat × Loc)) v none (fun _=>none) (fun _=>none) (fun _=>none) (fun _=>none) (fun _=>none) (fun _=>none) (fun _=>none) (fun f l=>some (f,l)) (fun _ _=>none) (fun _=>none) (fun _=>none) (fun _=>none)
noncomputable def isEm (v:MV):Bool:=((asLoc v).map fun l=>Loc.casesOn (motive:=fun _=>Bool) l true false false false false false false false).getD false
noncomputable def isListL (l:Loc):Bool:=Loc.casesOn (motive:=fun _=>Bool) l false false false false true true true true
noncomputable def bKind (o:MV) (a:Nat):Bool:=(nth [(asLoc o).any isListL,(asLoc o).any isListL,(asStr o).isSome,(asStr o).isSome,(asStr o).isSome,(asSd o).isSome] a).getD false
noncomputable abbrev Cal:=Option (Nat × List MV)
noncomputable def resolve (T:Tab) (sh:Sto) (o:MV) (a:Nat):Option Cal:=
  bif isEm o then sh.em.bind fun E=>Option.casesOn (motive:=fun _=>Option Cal) (fieldIx (T.clsFields T.emC) a) ((T.clsMeth T.emC a).map fun f=>some (f,[o])) fun i=>(nth E i).bind fun v=>(asMeth v).map fun p=>some (p.1,[.loc p.2])
  else Option.casesOn (motive:=fun _=>Option Cal) (asInst o) (bif bKind o a then some none else none) fun p=>(T.clsMeth p.1 a).map fun f=>some (f,[o])
noncomputable def callC (T:Tab) (Φ:Phi) (c:Cal) (o:MV) (a:Nat) (vs:List MV) (kv:List (Nat × MV)) (sh:Sto):Option (MV × Sto):=
  Option.casesOn (motive:=fun _=>Option (MV × Sto)) c (bif kv.isEmpty then methB sh o a vs else none) fun p=>callF T Φ p.1 (p.2 ++ vs) kv sh
noncomputable def getVar (st:St) (i:Nat):Option (MV × St):=(nth st.vars i).bind fun c=>Cell.casesOn (motive:=fun _=>Option (MV × St)) c none (fun v=>some (v,st)) fun vs=>some (.lst vs,{ st with vars:=setN st.vars i (.val (.lst vs)) })
noncomputable def setVar (st:St) (i:Nat) (v:MV):St:={ st with vars:=setN st.vars i (.val v) }
noncomputable def addList (st:St) (l:Loc) (vs:List MV):Option (MV × St):=bif (getList st.sh l).isNone then (setList st.sh vs l).map fun sh=>(.loc l,{ st with sh:=sh }) else none
noncomputable def dispAt (keys:List Int) (vs:List MV) (v:MV):Option MV:=(asInt v).bind fun i=>(keys.zip vs).findSome? fun kv=>if kv.1 = i then some kv.2 else none
noncomputable def compInts (m:Int) (l:List MV):Option (List MV):=List.rec (motive:=fun _=>Option (List MV)) (some []) (fun v _ ih=>(asInt v).bind fun i=>ih.map (.int (Int.fmod i m) :: ·)) l
noncomputable def itemsOf (v:MV):Option (List MV):=orO (asLst v) ((asStr v).map fun s=>s.map fun c=>.str [c])
noncomputable def asOwn (c:Cell):Option (List MV):=Cell.casesOn (motive:=fun _=>Option (List MV)) c none (fun _=>none) some
noncomputable def ownAt (st:St) (i:Nat):Option (List MV):=(nth st.vars i).bind asOwn
noncomputable def extendVar (st:St) (i:Nat) (v:MV):Option St:=(asLst v).bind fun ws=>(ownAt st i).bind fun vs=>chk (leN (vs.length + ws.length) lim) (some { st with vars:=setN st.vars i (.own (vs ++ ws)) })
noncomputable def isOwn (st:St) (i:Nat):Bool:=(ownAt st i).isSome
noncomputable def appendVar (st:St) (i:Nat) (v:MV):Option St:=(ownAt st i).bind fun vs=>chk (leN (vs.length + 1) lim) (some { st with vars:=setN st.vars i (.own (vs ++ [v])) })
noncomputable abbrev Ds:=List (Nat × Bool)
inductive R
  | fin (v:MV) (sh:Sto)
  | cst (b d:Bool) (r:R)
  | bad
noncomputable def Good (r:R):MV → Sto → Prop:=R.rec (motive:=fun _=>MV → Sto → Prop) (fun v sh v' sh'=>v = v' ∧ sh = sh') (fun b d _ ih v sh=>b = d ∧ ih v sh) (fun _ _=>False) r
noncomputable def brT (b:Bool) (x y:Ds → R) (ds:Ds):R:=List.casesOn (motive:=fun _=>R) ds (bif b then x [] else y []) fun p t=>Nat.casesOn (motive:=fun _=>R) p.1 (.cst b p.2 (bif p.2 then x t else y t)) fun n=>bif b then x ((n,p.2) :: t) else y ((n,p.2) :: t)
noncomputable def badT:Ds → R:=fun _=>.bad
noncomputable def chkT (b:Bool) (x:Ds → R) (ds:Ds):R:=.cst b true (x ds)
noncomputable def onT {α:Type} (o:Option α) (k:α → Ds → R) (ds:Ds):R:=Option.casesOn (motive:=fun _=>R) o .bad fun a=>k a ds
noncomputable def orK (r:Option MV) (k:Option MV → St → Ds → R) (go:St → Ds → R) (st:St):Ds → R:=Option.casesOn (motive:=fun _=>Ds → R) r (go st) fun v=>k (some v) st
noncomputable def whileT (t:St → (Bool → St → Ds → R) → Ds → R) (b:St → (Option MV → St → Ds → R) → Ds → R) (k:Option MV → St → Ds → R) (n:Nat):St → Ds → R:=
  Nat.rec (motive:=fun _=>St → Ds → R) (fun _ _=>.bad) (fun _ ih st ds=>t st (fun c st=>brT c (b st fun r st=>orK r k ih st) (k none st)) ds) n
noncomputable def forT (b:St → (Option MV → St → Ds → R) → Ds → R) (k:Option MV → St → Ds → R) (i:Nat) (l:List MV):St → Ds → R:=
  List.rec (motive:=fun _=>St → Ds → R) (fun st ds=>k none st ds) (fun v _ ih st ds=>b (setVar st i v) (fun r st=>orK r k ih st) ds) l
noncomputable def subD (v iv:MV) (c:MV → Ds → R) (ds:Ds) (d:Bool) (q:Nat × Bool) (t:Ds):R:=bif d && Nat.ble 1000000 q.1 && (asLst v).isSome then onT (asInt iv) (fun i t=>.cst (eqI i ((q.1 - 1000000:Nat):Int)) true (c (.int ((q.1 - 1000000:Nat):Int)) t)) t else c iv ds
noncomputable def subT (v iv:MV) (c:MV → Ds → R) (ds:Ds):R:=List.casesOn (motive:=fun _=>R) ds (c iv ds) fun p r=>Nat.casesOn (motive:=fun _=>R) p.1 (List.casesOn (motive:=fun _=>R) r (c iv ds) fun q t=>subD v iv c ds p.2 q t) fun _=>c iv ds
noncomputable abbrev Psi:=Nat → List MV → Sto → Option (Bool × MV × Sto)
noncomputable def unG (o:Option (Bool × MV × Sto)):Option (MV × Sto):=o.bind fun p=>bif p.1 then some p.2 else none
noncomputable def Psi.phi (Ψ:Psi):Phi:=fun f as sh=>unG (Ψ f as sh)
noncomputable def callFT (T:Tab) (Ψ:Psi) (f:Nat) (pos:List MV) (kws:List (Nat × MV)) (sh:Sto):Option (Bool × MV × Sto):=
  (norm (T.fnPar f) pos kws).bind fun as=>Ψ f as sh
noncomputable def yesT (o:Option (MV × Sto)):Option (Bool × MV × Sto):=o.map fun p=>(true,p)
noncomputable def callVT (T:Tab) (Ψ:Psi) (fv:MV) (pos:List MV) (kws:List (Nat × MV)) (sh:Sto):Option (Bool × MV × Sto):=
  Option.casesOn (motive:=fun _=>Option (Bool × MV × Sto)) (asFn fv) (yesT (callV T Ψ.phi fv pos kws sh)) fun f=>callFT T Ψ f pos kws sh
noncomputable def callCT (T:Tab) (Ψ:Psi) (c:Cal) (o:MV) (a:Nat) (vs:List MV) (kv:List (Nat × MV)) (sh:Sto):Option (Bool × MV × Sto):=
  Option.casesOn (motive:=fun _=>Option (Bool × MV × Sto)) c (bif kv.isEmpty then yesT (methB sh o a vs) else none) fun p=>callFT T Ψ p.1 (p.2 ++ vs) kv sh
mutual
noncomputable def evT (T:Tab) (Ψ:Psi):ME → St → (MV → St → Ds → R) → Ds → R
  | .k v,st,k=>k v st
  | .v i,st,k=>onT (getVar st i) fun p=>k p.1 p.2
  | .g x,st,k=>onT (T.gval x) fun v=>k v st
  | .at e a,st,k=>evT T Ψ e st fun v st=>onT (getA T st.sh v a) fun r=>k r st
  | .bo and es,st,k=>evBoT T Ψ and es st k
  | .bin op l r,st,k=>evT T Ψ l st fun a st=>evT T Ψ r st fun b st=>chkT (binOk op a b) (onT (binop op a b) fun v=>k v st)
  | .not e,st,k=>evT T Ψ e st fun v st=>onT (truthy st.sh v) fun b=>k (.bool (!b)) st
  | .neg e,st,k=>evT T Ψ e st fun v st=>onT (asInt v) fun i=>k (.int (-i)) st
  | .ife t a b,st,k=>tstT T Ψ t st fun c st=>brT c (evT T Ψ a st k) (evT T Ψ b st k)
  | .cmp l r,st,k=>evT T Ψ l st fun v st=>evCmpT T Ψ v r st fun b st=>k (.bool b) st
  | .call g as ks,st,k=>onT (T.gval g) fun fv=>evsT T Ψ as st fun vs st=>evkT T Ψ ks st fun kv st=>
      onT (callVT T Ψ fv vs kv st.sh) fun p=>chkT p.1 (k p.2.1 { st with sh:=p.2.2 })
  | .mc o a as ks,st,k=>evT T Ψ o st fun ov st=>onT (resolve T st.sh ov a) fun c=>evsT T Ψ as st fun vs st=>evkT T Ψ ks st fun kv st=>
      chkT (methOk st.sh ov a vs) (onT (callCT T Ψ c ov a vs kv st.sh) fun p=>chkT p.1 (k p.2.1 { st with sh:=p.2.2 }))
  | .subd keys es i,st,k=>evsT T Ψ es st fun vs st=>evT T Ψ i st fun iv st=>onT (dispAt keys vs iv) fun v=>k v st
  | .sub e i,st,k=>evT T Ψ e st fun v st=>evT T Ψ i st fun iv st=>subT v iv fun iv=>onT (subV st.sh v iv) fun r=>k r st
  | .sl e lo hi,st,k=>evT T Ψ e st fun v st=>evT T Ψ lo st fun a st=>evT T Ψ hi st fun b st=>onT (slV st.sh v a b) fun r=>k r st
  | .abs,st,k=>k .none st
  | .list none es,st,k=>evsT T Ψ es st fun vs st=>k (.lst vs) st
  | .list (some l) es,st,k=>evsT T Ψ es st fun vs st=>onT (addList st l vs) fun p=>k p.1 p.2
  | .tup es,st,k=>evsT T Ψ es st fun vs st=>k (.tup vs) st
  | .comp m e,st,k=>evT T Ψ e st fun v st=>onT (asLst v) fun vs=>chkT (leN vs.length lim) (onT (compInts m vs) fun ws=>k (.lst ws) st)
  | .skeys e,st,k=>evT T Ψ e st fun v st=>onT (asSd v) fun kvs=>chkT (leN kvs.length 60 && ascX (kvs.map fun kv=>kv.1)) (k (.lst (kvs.map fun kv=>.str kv.1)) st)
  | .fmt2 a b,st,k=>evT T Ψ a st fun x st=>onT (asStr x) fun s=>chkT (leN s.length 1000000) (evT T Ψ b st fun y st=>onT (asStr y) fun t=>chkT (leN (s.length + t.length) 1000000) (k (.str (s ++ t)) st))
  | .fmtT e,st,k=>evT T Ψ e st fun v st=>onT (asStr v) fun s=>chkT (leN (s.length + 3) 1000000) (k (.str ([33,60] ++ s ++ [62])) st)
  | .dead,_,_=>badT
noncomputable def evsT (T:Tab) (Ψ:Psi):MEs → St → (List MV → St → Ds → R) → Ds → R
  | .nil,st,k=>k [] st
  | .cons e r,st,k=>evT T Ψ e st fun v st=>evsT T Ψ r st fun vs st=>k (v :: vs) st
noncomputable def evkT (T:Tab) (Ψ:Psi):MKs → St → (List (Nat × MV) → St → Ds → R) → Ds → R
  | .nil,st,k=>k [] st
  | .cons n e r,st,k=>evT T Ψ e st fun v st=>evkT T Ψ r st fun vs st=>k ((n,v) :: vs) st
noncomputable def evBoT (T:Tab) (Ψ:Psi) (and:Bool):MEs → St → (MV → St → Ds → R) → Ds → R
  | .nil,_,_=>badT
  | .cons e .nil,st,k=>evT T Ψ e st k
  | .cons e (.cons f r),st,k=>evT T Ψ e st fun v st=>onT (truthy st.sh v) fun b=>brT (b == and) (evBoT T Ψ and (.cons f r) st k) (k v st)
noncomputable def evCmpT (T:Tab) (Ψ:Psi) (l:MV):MCs → St → (Bool → St → Ds → R) → Ds → R
  | .nil,_,_=>badT
  | .cons op e .nil,st,k=>evT T Ψ e st fun v st=>onT (cmpop op l v) fun b=>k b st
  | .cons op e (.cons op' e' r),st,k=>evT T Ψ e st fun v st=>onT (cmpop op l v) fun b=>brT b (evCmpT T Ψ v (.cons op' e' r) st k) (k false st)
noncomputable def tstT (T:Tab) (Ψ:Psi):MB → St → (Bool → St → Ds → R) → Ds → R
  | .not e,st,k=>tstT T Ψ e st fun b st=>k (!b) st
  | .bo and es,st,k=>tstBoT T Ψ and es st k
  | .ife t a b,st,k=>tstT T Ψ t st fun c st=>brT c (tstT T Ψ a st k) (tstT T Ψ b st k)
  | .cmp l r,st,k=>evT T Ψ l st fun v st=>evCmpT T Ψ v r st k
  | .val e,st,k=>evT T Ψ e st fun v st=>onT (truthy st.sh v) fun b=>k b st
noncomputable def tstBoT (T:Tab) (Ψ:Psi) (and:Bool):MBs → St → (Bool → St → Ds → R) → Ds → R
  | .nil,st,k=>k and st
  | .cons e r,st,k=>tstT T Ψ e st fun b st=>brT (b == and) (tstBoT T Ψ and r st k) (k b st)
end
noncomputable def stores1 (st:St) (is:List Nat) (v:MV):Option St:=(asTup v).bind fun vs=>bif vs.length == is.length then some ((is.zip vs).foldl (fun st iv=>setVar st iv.1 iv.2) st) else none
noncomputable def store1T (T:Tab) (Ψ:Psi) (v:MV) (m:MT) (st:St) (k:St → Ds → R):Ds → R:=MT.casesOn (motive:=fun _=>Ds → R) m (fun i=>k (setVar st i v)) (fun e a=>evT T Ψ e st fun o st=>onT (setA T st.sh o a v) fun sh=>k { st with sh:=sh }) (fun is=>onT (stores1 st is v) k)
noncomputable def storesT (T:Tab) (Ψ:Psi) (v:MV) (ts:List MT):St → (St → Ds → R) → Ds → R:=List.rec (motive:=fun _=>St → (St → Ds → R) → Ds → R) (fun st k=>k st) (fun m _ ih st k=>store1T T Ψ v m st fun st=>ih st k) ts
mutual
noncomputable def exT (T:Tab) (Ψ:Psi):MS → St → (Option MV → St → Ds → R) → Ds → R
  | .expr e,st,k=>evT T Ψ e st fun _ st=>k none st
  | .asgo i es,st,k=>evsT T Ψ es st fun vs st=>k none { st with vars:=setN st.vars i (.own vs) }
  | .asg ts e,st,k=>evT T Ψ e st fun v st=>storesT T Ψ v ts st fun st=>k none st
  | .augv i op e,st,k=>onT (getVar st i) fun p=>evT T Ψ e p.2 fun b st=>chkT (ipOk op p.1 b && binOk op p.1 b) (onT (binop op p.1 b) fun v=>k none (setVar st i v))
  | .augo i e,st,k=>chkT (isOwn st i) (evT T Ψ e st fun v st=>onT (extendVar st i v) fun st=>k none st)
  | .auga o a op e,st,k=>evT T Ψ o st fun ov st=>onT (getA T st.sh ov a) fun x=>evT T Ψ e st fun y st=>chkT (ipOk op x y && binOk op x y) (onT (binop op x y) fun v=>
      onT (setA T st.sh ov a v) fun sh=>k none { st with sh:=sh })
  | .app i e,st,k=>chkT (isOwn st i) (evT T Ψ e st fun v st=>onT (appendVar st i v) fun st=>k none st)
  | .ife t a b,st,k=>tstT T Ψ t st fun c st=>brT c (exsT T Ψ a st k) (exsT T Ψ b st k)
  | .whl t b,st,k=>whileT (fun st k=>tstT T Ψ t st k) (fun st k=>exsT T Ψ b st k) k 100000 st
  | .for i e b,st,k=>evT T Ψ e st fun v st=>onT (itemsOf v) fun vs=>forT (fun st k=>exsT T Ψ b st k) k i vs st
  | .forr i e b,st,k=>evT T Ψ e st fun v st=>onT (asInt v) fun n=>chkT (leN n.natAbs 1000) (forT (fun st k=>exsT T Ψ b st k) k i (intsTo n.toNat) st)
  | .ret e,st,k=>evT T Ψ e st fun v st=>k (some v) st
  | .ret0,st,k=>k (some .none) st
  | .pass,st,k=>k none st
  | .dead,_,_=>badT
noncomputable def exsT (T:Tab) (Ψ:Psi):MSs → St → (Option MV → St → Ds → R) → Ds → R
  | .nil,st,k=>k none st
  | .cons s r,st,k=>exT T Ψ s st fun v st=>orK v k (fun st=>exsT T Ψ r st k) st
end
noncomputable def runT (T:Tab) (Ψ:Psi) (f:Nat) (as:List MV) (sh:Sto) (ds:Ds):R:=onT (T.body f) (fun p=>exsT T Ψ p.2 ⟨sh,as.map .val ++ List.replicate (p.1 - as.length) .unset⟩ fun r st _=>.fin (r.getD .none) st.sh) ds
theorem noS {α:Type} {a:α} {G:Prop} (h:none = some a):G:=nomatch h
theorem noB {G:Prop} (h:false = true):G:=nomatch h
theorem someI {α:Type} {a b:α} {p:α → Prop} (h:some a = some b) (k:p a):p b:=Option.some.inj h ▸ k
section
variable {α β:Type} {x y:Option α} {f:α → Option β} {g:α → β} {G:Prop}
theorem bindE {b:β} (h:x.bind f = some b) (k:∀ a,x = some a → f a = some b → G):G:=by
  cases x with
  | none=>exact noS h
  | some a=>exact k a rfl h
theorem mapE {b:β} (h:x.map g = some b) (k:∀ a,x = some a → g a = b → G):G:=by
  cases x with
  | none=>exact noS h
  | some a=>exact k a rfl (Option.some.inj h)
theorem orE {b:α} (h:orO x y = some b) (k1:x = some b → G) (k2:y = some b → G):G:=by
  cases x with
  | none=>exact k2 h
  | some a=>exact k1 h
theorem ifE {p:Bool} {b:α} (h:(bif p then x else y) = some b) (k1:p = true → x = some b → G) (k2:p = false → y = some b → G):G:=by
  cases p with
  | true=>exact k1 rfl h
  | false=>exact k2 rfl h
theorem ifT {p:Bool} {b:α} (h:(bif p then x else none) = some b):p = true ∧ x = some b:=ifE h (fun e h=>⟨e,h⟩) fun _ h=>noS h
theorem chk_some {b:Bool} {a:α} (h:chk b x = some a):b = true ∧ x = some a:=by
  cases b
  · cases h
  · exact ⟨rfl,h⟩
theorem bind_some {b:β} (h:x.bind f = some b):∃ a,x = some a ∧ f a = some b:=bindE h fun a h1 h2=>⟨a,h1,h2⟩
theorem map_some {b:β} (h:x.map g = some b):∃ a,x = some a ∧ g a = b:=mapE h fun a h1 h2=>⟨a,h1,h2⟩
theorem one_eq {l:List α} {a:α} (h:one l = some a):l = [a]:=by
  match l,h with
  | [],h=>exact noS h
  | [b],h=>exact someI (p:=fun x=>[b] = [x]) h rfl
  | _ :: _ :: _,h=>exact noS h
end
theorem andL {a b:Bool} (h:(a && b) = true):a = true:=(Bool.and_eq_true_iff.mp h).1
theorem andR {a b:Bool} (h:(a && b) = true):b = true:=(Bool.and_eq_true_iff.mp h).2
section
variable {b:Bool} {x y:Ds → R} {v:MV} {sh:Sto} {ds:Ds}
theorem brE {G:Prop} (h:Good (brT b x y ds) v sh) (k1:b = true → ∀ ds',Good (x ds') v sh → G) (k2:b = false → ∀ ds',Good (y ds') v sh → G):G:=by
  cases ds with
  | nil=>cases b with
    | true=>exact k1 rfl _ h
    | false=>exact k2 rfl _ h
  | cons p t=>obtain ⟨n,d⟩:=p;cases n with
    | zero=>
      have h1:b = d:=h.1
      subst h1
      cases b with
      | true=>exact k1 rfl _ h.2
      | false=>exact k2 rfl _ h.2
    | succ n=>cases b with
      | true=>exact k1 rfl _ h
      | false=>exact k2 rfl _ h
theorem brC {G:Prop} (h:Good (chkT b x ds) v sh) (k:b = true → ∀ ds',Good (x ds') v sh → G):G:=k h.1 ds h.2
theorem onE {α:Type} {o:Option α} {k:α → Ds → R} {G:Prop} (h:Good (onT o k ds) v sh) (f:∀ a,o = some a → Good (k a ds) v sh → G):G:=by
  cases o with
  | none=>exact (h:False).elim
  | some a=>exact f a rfl h
theorem subT_ok {w i:MV} {c:MV → Ds → R} (h:Good (subT w i c ds) v sh):∃ ds',Good (c i ds') v sh:=by
  cases ds with
  | nil=>exact ⟨_,h⟩
  | cons p r=>obtain ⟨n,d⟩:=p;cases n with
    | succ n=>exact ⟨_,h⟩
    | zero=>cases r with
      | nil=>exact ⟨_,h⟩
      | cons q t=>
        have h:Good (subD w i c _ d q t) v sh:=h
        unfold subD at h
        generalize (d && Nat.ble 1000000 q.1 && (asLst w).isSome) = z at h
        cases z with
        | false=>exact ⟨_,h⟩
        | true=>
          rw [cond_true] at h
          refine onE h fun j e h=>?_
          have h1:=of_decide_eq_true (h.1:decide (_ = _) = true)
          have h2:=h.2
          rw [← h1] at h2
          cases i with
          | int i=>exact someI (p:=fun j=>Good (c (.int j) t) v sh → ∃ ds',Good (c (.int i) ds') v sh) e (fun h=>⟨t,h⟩) h2
          | _=>exact noS e
end
section
variable {T:Tab} {Ψ:Psi} {pos:List MV} {kws:List (Nat × MV)} {sh:Sto} {p:Bool × MV × Sto}
theorem unG_ok {o:Option (Bool × MV × Sto)} (h:o = some p) (h2:p.1 = true):unG o = some p.2:=by
  obtain ⟨b,r⟩:=p
  cases h2
  rw [h];rfl
theorem callFT_ok {f:Nat} (h:callFT T Ψ f pos kws sh = some p) (h2:p.1 = true):callF T Ψ.phi f pos kws sh = some p.2:=bindE h fun as h1 h=>by
  show (norm (T.fnPar f) pos kws).bind _ = _
  rw [h1];exact unG_ok h h2
theorem yesT_ok {o:Option (MV × Sto)} (h:yesT o = some p):o = some p.2:=mapE h fun q h1 h=>h ▸ h1
theorem callVT_ok {v:MV} (h:callVT T Ψ v pos kws sh = some p) (h2:p.1 = true):callV T Ψ.phi v pos kws sh = some p.2:=by
  cases v with
  | fn f=>exact callFT_ok h h2
  | _=>exact yesT_ok h
theorem callCT_ok {c:Cal} {o:MV} {a:Nat} (h:callCT T Ψ c o a pos kws sh = some p) (h2:p.1 = true):callC T Ψ.phi c o a pos kws sh = some p.2:=by
  cases c with
  | some q=>exact callFT_ok h h2
  | none=>exact ifE h (fun e h=>by show (bif _ then _ else none) = _;rw [e];exact yesT_ok h) fun _ h=>noS h
end
noncomputable def Gd (T:Tab) (Ψ:Psi) (f:Nat) (as:List MV) (sh:Sto) (v:MV) (sh':Sto):Prop:=∃ ds,Good (runT T Ψ f as sh ds) v sh'
section
variable {T:Tab} {Ψ:Psi} {f:Nat} {as:List MV} {sh:Sto} {v:MV} {sh':Sto}
theorem go0 (h:runT T Ψ f as sh [] = .fin v sh'):Gd T Ψ f as sh v sh':=⟨[],h ▸ ⟨rfl,rfl⟩⟩
end
end Mine
namespace Mine.L1
noncomputable def b_Event_init:MSs:=(.cons (.asg [.at (.v 0) 11] (.v 1)) (.cons (.asg [.at (.v 0) 12] (.v 2)) .nil))
noncomputable def b_NodeEvent_init:MSs:=(.cons (.asg [.at (.v 0) 13] (.v 1)) (.cons (.asg [.at (.v 0) 11] (.v 2)) (.cons (.asg [.at (.v 0) 12] (.v 3)) .nil)))
noncomputable def b_CollectionStartEvent_init:MSs:=(.cons (.asg [.at (.v 0) 13] (.v 1)) (.cons (.asg [.at (.v 0) 14] (.v 2)) (.cons (.asg [.at (.v 0) 15] (.v 3)) (.cons (.asg [.at (.v 0) 11] (.v 4)) (.cons (.asg [.at (.v 0) 12] (.v 5)) (.cons (.asg [.at (.v 0) 16] (.v 6)) .nil))))))
noncomputable def b_StreamStartEvent_init:MSs:=(.cons (.asg [.at (.v 0) 11] (.v 1)) (.cons (.asg [.at (.v 0) 12] (.v 2)) (.cons (.asg [.at (.v 0) 17] (.v 3)) .nil)))
noncomputable def b_DocumentStartEvent_init:MSs:=(.cons (.asg [.at (.v 0) 11] (.v 1)) (.cons (.asg [.at (.v 0) 12] (.v 2)) (.cons (.asg [.at (.v 0) 18] (.v 3)) (.cons (.asg [.at (.v 0) 19] (.v 4)) (.cons (.asg [.at (.v 0) 20] (.v 5)) .nil)))))
noncomputable def b_DocumentEndEvent_init:MSs:=(.cons (.asg [.at (.v 0) 11] (.v 1)) (.cons (.asg [.at (.v 0) 12] (.v 2)) (.cons (.asg [.at (.v 0) 18] (.v 3)) .nil)))
noncomputable def b_ScalarEvent_init:MSs:=(.cons (.asg [.at (.v 0) 13] (.v 1)) (.cons (.asg [.at (.v 0) 14] (.v 2)) (.cons (.asg [.at (.v 0) 15] (.v 3)) (.cons (.asg [.at (.v 0) 21] (.v 4)) (.cons (.asg [.at (.v 0) 11] (.v 5)) (.cons (.asg [.at (.v 0) 12] (.v 6)) (.cons (.asg [.at (.v 0) 22] (.v 7)) .nil)))))))
noncomputable def b_ScalarAnalysis_init:MSs:=(.cons (.asg [.at (.v 0) 23] (.v 1)) (.cons (.asg [.at (.v 0) 24] (.v 2)) (.cons (.asg [.at (.v 0) 25] (.v 3)) (.cons (.asg [.at (.v 0) 26] (.v 4)) (.cons (.asg [.at (.v 0) 27] (.v 5)) (.cons (.asg [.at (.v 0) 28] (.v 6)) (.cons (.asg [.at (.v 0) 29] (.v 7)) (.cons (.asg [.at (.v 0) 30] (.v 8)) .nil))))))))
noncomputable def b_Emitter_init:MSs:=(.cons (.asg [.at (.v 0) 31] (.v 1)) (.cons (.asg [.at (.v 0) 17] (.k (.none))) (.cons (.asg [.at (.v 0) 74] (.list (some .states) .nil)) (.cons (.asg [.at (.v 0) 58] (.at (.v 0) 78)) (.cons (.asg [.at (.v 0) 75] (.list (some .events) .nil)) (.cons (.asg [.at (.v 0) 37] (.k (.none))) (.cons (.asg [.at (.v 0) 76] (.list (some .indents) .nil)) (.cons (.asg [.at (.v 0) 33] (.k (.none))) (.cons (.asg [.at (.v 0) 59] (.k (.int 0))) (.cons (.asg [.at (.v 0) 60] (.k (.bool false))) (.cons (.asg [.at (.v 0) 61] (.k (.bool false))) (.cons (.asg [.at (.v 0) 62] (.k (.bool false))) (.cons (.asg [.at (.v 0) 63] (.k (.bool false))) (.cons (.asg [.at (.v 0) 64] (.k (.int 0))) (.cons (.asg [.at (.v 0) 65] (.k (.int 0))) (.cons (.asg [.at (.v 0) 48] (.k (.bool true))) (.cons (.asg [.at (.v 0) 49] (.k (.bool true))) (.cons (.asg [.at (.v 0) 66] (.k (.bool false))) (.cons (.asg [.at (.v 0) 32] (.v 2)) (.cons (.asg [.at (.v 0) 35] (.v 5)) (.cons (.asg [.at (.v 0) 67] (.k (.int 2))) (.cons (.ife (.bo true (.cons (.val (.v 3)) (.cons (.cmp (.k (.int 1)) (.cons .lt (.v 3) (.cons .lt (.k (.int 10)) .nil))) .nil))) (.cons (.asg [.at (.v 0) 67] (.v 3)) .nil) .nil) (.cons (.asg [.at (.v 0) 68] (.k (.int 80))) (.cons (.ife (.bo true (.cons (.val (.v 4)) (.cons (.cmp (.v 4) (.cons .gt (.bin .mul (.at (.v 0) 67) (.k (.int 2))) .nil)) .nil))) (.cons (.asg [.at (.v 0) 68] (.v 4)) .nil) .nil) (.cons (.asg [.at (.v 0) 69] (.k (.str [10]))) (.cons (.ife (.cmp (.v 6) (.cons .inn (.list none (.cons (.k (.str [13])) (.cons (.k (.str [10])) (.cons (.k (.str [13,10])) .nil)))) .nil)) (.cons (.asg [.at (.v 0) 69] (.v 6)) .nil) .nil) (.cons (.asg [.at (.v 0) 70] (.k (.none))) (.cons (.asg [.at (.v 0) 71] (.k (.none))) (.cons (.asg [.at (.v 0) 72] (.k (.none))) (.cons (.asg [.at (.v 0) 73] (.k (.none))) (.cons (.asg [.at (.v 0) 22] (.k (.none))) .nil)))))))))))))))))))))))))))))))
noncomputable def b_Emitter_emit:MSs:=(.cons (.expr (.mc (.at (.v 0) 75) 0 (.cons (.v 1) .nil) .nil)) (.cons (.whl (.not (.val (.mc (.v 0) 79 .nil .nil))) (.cons (.asg [.at (.v 0) 37] (.mc (.at (.v 0) 75) 1 (.cons (.k (.int 0)) .nil) .nil)) (.cons (.expr (.mc (.v 0) 58 .nil .nil)) (.cons (.asg [.at (.v 0) 37] (.k (.none))) .nil)))) .nil))
noncomputable def b_Emitter_need_more_events:MSs:=(.cons (.ife (.not (.val (.at (.v 0) 75))) (.cons (.ret (.k (.bool true))) .nil) .nil) (.cons (.asg [.v 1] (.sub (.at (.v 0) 75) (.k (.int 0)))) (.cons (.ife (.val (.call 0 (.cons (.v 1) (.cons (.g 1) .nil)) .nil)) (.cons (.ret (.mc (.v 0) 80 (.cons (.k (.int 1)) .nil) .nil)) .nil) (.cons (.ife (.val (.call 0 (.cons (.v 1) (.cons (.g 2) .nil)) .nil)) (.cons (.ret (.mc (.v 0) 80 (.cons (.k (.int 2)) .nil) .nil)) .nil) (.cons (.ife (.val (.call 0 (.cons (.v 1) (.cons (.g 3) .nil)) .nil)) (.cons (.ret (.mc (.v 0) 80 (.cons (.k (.int 3)) .nil) .nil)) .nil) (.cons (.ret (.k (.bool false))) .nil)) .nil)) .nil)) .nil)))
noncomputable def b_Emitter_need_events:MSs:=(.cons (.asg [.v 2] (.k (.int 0))) (.cons (.for 3 (.sl (.at (.v 0) 75) (.k (.int 1)) .abs) (.cons (.ife (.val (.call 0 (.cons (.v 3) (.cons (.tup (.cons (.g 1) (.cons (.g 5) .nil))) .nil)) .nil)) (.cons (.augv 2 .add (.k (.int 1))) .nil) (.cons (.ife (.val (.call 0 (.cons (.v 3) (.cons (.tup (.cons (.g 7) (.cons (.g 6) .nil))) .nil)) .nil)) (.cons (.augv 2 .sub (.k (.int 1))) .nil) (.cons (.ife (.val (.call 0 (.cons (.v 3) (.cons (.g 8) .nil)) .nil)) (.cons (.asg [.v 2] (.neg (.k (.int 1)))) .nil) .nil) .nil)) .nil)) (.cons (.ife (.cmp (.v 2) (.cons .lt (.k (.int 0)) .nil)) (.cons (.ret (.k (.bool false))) .nil) .nil) .nil))) (.cons (.ret (.cmp (.call 4 (.cons (.at (.v 0) 75) .nil) .nil) (.cons .lt (.bin .add (.v 1) (.k (.int 1))) .nil))) .nil)))
noncomputable def b_Emitter_increase_indent:MSs:=(.cons (.expr (.mc (.at (.v 0) 76) 0 (.cons (.at (.v 0) 33) .nil) .nil)) (.cons (.ife (.cmp (.at (.v 0) 33) (.cons .is (.k (.none)) .nil)) (.cons (.ife (.val (.v 1)) (.cons (.asg [.at (.v 0) 33] (.at (.v 0) 67)) .nil) (.cons (.asg [.at (.v 0) 33] (.k (.int 0))) .nil)) .nil) (.cons (.ife (.not (.val (.v 2))) (.cons (.auga (.v 0) 33 .add (.at (.v 0) 67)) .nil) .nil) .nil)) .nil))
noncomputable def b_Emitter_expect_stream_start:MSs:=(.cons (.ife (.val (.call 0 (.cons (.at (.v 0) 37) (.cons (.g 9) .nil)) .nil)) (.cons (.expr (.mc (.v 0) 82 .nil .nil)) (.cons (.asg [.at (.v 0) 58] (.at (.v 0) 81)) .nil)) (.cons .dead .nil)) .nil)
noncomputable def b_Emitter_expect_nothing:MSs:=(.cons .dead .nil)
noncomputable def b_Emitter_expect_first_document_start:MSs:=(.cons (.ret (.mc (.v 0) 83 .nil (.cons 41 (.k (.bool true)) .nil))) .nil)
noncomputable def b_Emitter_expect_document_start:MSs:=(.cons (.ife (.val (.call 0 (.cons (.at (.v 0) 37) (.cons (.g 1) .nil)) .nil)) (.cons (.ife (.bo true (.cons (.bo false (.cons (.val (.at (.at (.v 0) 37) 19)) (.cons (.val (.at (.at (.v 0) 37) 20)) .nil))) (.cons (.val (.at (.v 0) 66)) .nil))) (.cons (.expr (.mc (.v 0) 86 (.cons (.k (.str [46,46,46])) (.cons (.k (.bool true)) .nil)) .nil)) (.cons (.expr (.mc (.v 0) 85 .nil .nil)) .nil)) .nil) (.cons (.ife (.val (.at (.at (.v 0) 37) 19)) (.cons (.asg [.v 3] (.mc (.v 0) 93 (.cons (.at (.at (.v 0) 37) 19) .nil) .nil)) (.cons (.expr (.mc (.v 0) 92 (.cons (.v 3) .nil) .nil)) .nil)) .nil) (.cons (.asg [.at (.v 0) 70] (.mc (.at (.v 0) 91) 5 .nil .nil)) (.cons (.ife (.val (.at (.at (.v 0) 37) 20)) (.cons (.asg [.v 4] (.skeys (.at (.at (.v 0) 37) 20))) (.cons (.for 5 (.v 4) (.cons (.asg [.v 6] (.sub (.at (.at (.v 0) 37) 20) (.v 5))) (.cons .dead (.cons (.asg [.v 7] (.mc (.v 0) 90 (.cons (.v 5) .nil) .nil)) (.cons (.asg [.v 8] (.mc (.v 0) 89 (.cons (.v 6) .nil) .nil)) (.cons (.expr (.mc (.v 0) 88 (.cons (.v 7) (.cons (.v 8) .nil)) .nil)) .nil)))))) .nil)) .nil) (.cons (.asg [.v 2] (.bo true (.cons (.v 1) (.cons (.not (.at (.at (.v 0) 37) 18)) (.cons (.not (.at (.v 0) 32)) (.cons (.not (.at (.at (.v 0) 37) 19)) (.cons (.not (.at (.at (.v 0) 37) 20)) (.cons (.not (.mc (.v 0) 87 .nil .nil)) .nil)))))))) (.cons (.ife (.not (.val (.v 2))) (.cons (.expr (.mc (.v 0) 85 .nil .nil)) (.cons (.expr (.mc (.v 0) 86 (.cons (.k (.str [45,45,45])) (.cons (.k (.bool true)) .nil)) .nil)) (.cons (.ife (.val (.at (.v 0) 32)) (.cons (.expr (.mc (.v 0) 85 .nil .nil)) .nil) .nil) .nil))) .nil) (.cons (.asg [.at (.v 0) 58] (.at (.v 0) 84)) .nil))))))) (.cons (.ife (.val (.call 0 (.cons (.at (.v 0) 37) (.cons (.g 8) .nil)) .nil)) (.cons (.ife (.val (.at (.v 0) 66)) (.cons (.expr (.mc (.v 0) 86 (.cons (.k (.str [46,46,46])) (.cons (.k (.bool true)) .nil)) .nil)) (.cons (.expr (.mc (.v 0) 85 .nil .nil)) .nil)) .nil) (.cons (.expr (.mc (.v 0) 95 .nil .nil)) (.cons (.asg [.at (.v 0) 58] (.at (.v 0) 94)) .nil))) (.cons .dead .nil)) .nil)) .nil)
noncomputable def b_Emitter_expect_document_end:MSs:=(.cons (.ife (.val (.call 0 (.cons (.at (.v 0) 37) (.cons (.g 7) .nil)) .nil)) (.cons (.expr (.mc (.v 0) 85 .nil .nil)) (.cons (.ife (.val (.at (.at (.v 0) 37) 18)) (.cons (.expr (.mc (.v 0) 86 (.cons (.k (.str [46,46,46])) (.cons (.k (.bool true)) .nil)) .nil)) (.cons (.expr (.mc (.v 0) 85 .nil .nil)) .nil)) .nil) (.cons (.expr (.mc (.v 0) 96 .nil .nil)) (.cons (.asg [.at (.v 0) 58] (.at (.v 0) 83)) .nil)))) (.cons .dead .nil)) .nil)
noncomputable def b_Emitter_expect_document_root:MSs:=(.cons (.expr (.mc (.at (.v 0) 74) 0 (.cons (.at (.v 0) 98) .nil) .nil)) (.cons (.expr (.mc (.v 0) 97 .nil (.cons 42 (.k (.bool true)) .nil))) .nil))
noncomputable def b_Emitter_expect_node:MSs:=(.cons (.asg [.at (.v 0) 60] (.v 1)) (.cons (.asg [.at (.v 0) 61] (.v 2)) (.cons (.asg [.at (.v 0) 62] (.v 3)) (.cons (.asg [.at (.v 0) 63] (.v 4)) (.cons (.ife (.val (.call 0 (.cons (.at (.v 0) 37) (.cons (.g 10) .nil)) .nil)) (.cons (.expr (.mc (.v 0) 99 .nil .nil)) .nil) (.cons (.ife (.val (.call 0 (.cons (.at (.v 0) 37) (.cons (.tup (.cons (.g 11) (.cons (.g 5) .nil))) .nil)) .nil)) (.cons (.expr (.mc (.v 0) 108 (.cons (.k (.str [38])) .nil) .nil)) (.cons (.expr (.mc (.v 0) 107 .nil .nil)) (.cons (.ife (.val (.call 0 (.cons (.at (.v 0) 37) (.cons (.g 11) .nil)) .nil)) (.cons (.expr (.mc (.v 0) 100 .nil .nil)) .nil) (.cons (.ife (.val (.call 0 (.cons (.at (.v 0) 37) (.cons (.g 2) .nil)) .nil)) (.cons (.ife (.bo false (.cons (.val (.at (.v 0) 59)) (.cons (.val (.at (.v 0) 32)) (.cons (.val (.at (.at (.v 0) 37) 16)) (.cons (.val (.mc (.v 0) 101 .nil .nil)) .nil))))) (.cons (.expr (.mc (.v 0) 102 .nil .nil)) .nil) (.cons (.expr (.mc (.v 0) 103 .nil .nil)) .nil)) .nil) (.cons (.ife (.val (.call 0 (.cons (.at (.v 0) 37) (.cons (.g 3) .nil)) .nil)) (.cons (.ife (.bo false (.cons (.val (.at (.v 0) 59)) (.cons (.val (.at (.v 0) 32)) (.cons (.val (.at (.at (.v 0) 37) 16)) (.cons (.val (.mc (.v 0) 104 .nil .nil)) .nil))))) (.cons (.expr (.mc (.v 0) 105 .nil .nil)) .nil) (.cons (.expr (.mc (.v 0) 106 .nil .nil)) .nil)) .nil) .nil) .nil)) .nil)) .nil))) (.cons .dead .nil)) .nil)) .nil)))))
noncomputable def b_Emitter_expect_alias:MSs:=(.cons (.ife (.cmp (.at (.at (.v 0) 37) 13) (.cons .is (.k (.none)) .nil)) (.cons .dead .nil) .nil) (.cons (.expr (.mc (.v 0) 108 (.cons (.k (.str [42])) .nil) .nil)) (.cons (.asg [.at (.v 0) 58] (.mc (.at (.v 0) 74) 1 .nil .nil)) .nil)))
noncomputable def b_Emitter_expect_scalar:MSs:=(.cons (.expr (.mc (.v 0) 110 .nil (.cons 39 (.k (.bool true)) .nil))) (.cons (.expr (.mc (.v 0) 109 .nil .nil)) (.cons (.asg [.at (.v 0) 33] (.mc (.at (.v 0) 76) 1 .nil .nil)) (.cons (.asg [.at (.v 0) 58] (.mc (.at (.v 0) 74) 1 .nil .nil)) .nil))))
noncomputable def b_Emitter_expect_flow_sequence:MSs:=(.cons (.expr (.mc (.v 0) 86 (.cons (.k (.str [91])) (.cons (.k (.bool true)) .nil)) (.cons 48 (.k (.bool true)) .nil))) (.cons (.auga (.v 0) 59 .add (.k (.int 1))) (.cons (.expr (.mc (.v 0) 110 .nil (.cons 39 (.k (.bool true)) .nil))) (.cons (.asg [.at (.v 0) 58] (.at (.v 0) 111)) .nil))))
noncomputable def b_Emitter_expect_first_flow_sequence_item:MSs:=(.cons (.ife (.val (.call 0 (.cons (.at (.v 0) 37) (.cons (.g 12) .nil)) .nil)) (.cons (.asg [.at (.v 0) 33] (.mc (.at (.v 0) 76) 1 .nil .nil)) (.cons (.auga (.v 0) 59 .sub (.k (.int 1))) (.cons (.expr (.mc (.v 0) 86 (.cons (.k (.str [93])) (.cons (.k (.bool false)) .nil)) .nil)) (.cons (.asg [.at (.v 0) 58] (.mc (.at (.v 0) 74) 1 .nil .nil)) .nil)))) (.cons (.ife (.bo false (.cons (.val (.at (.v 0) 32)) (.cons (.cmp (.at (.v 0) 65) (.cons .gt (.at (.v 0) 68) .nil)) .nil))) (.cons (.expr (.mc (.v 0) 85 .nil .nil)) .nil) .nil) (.cons (.expr (.mc (.at (.v 0) 74) 0 (.cons (.at (.v 0) 112) .nil) .nil)) (.cons (.expr (.mc (.v 0) 97 .nil (.cons 43 (.k (.bool true)) .nil))) .nil)))) .nil)
noncomputable def b_Emitter_expect_flow_sequence_item:MSs:=(.cons (.ife (.val (.call 0 (.cons (.at (.v 0) 37) (.cons (.g 12) .nil)) .nil)) (.cons (.asg [.at (.v 0) 33] (.mc (.at (.v 0) 76) 1 .nil .nil)) (.cons (.auga (.v 0) 59 .sub (.k (.int 1))) (.cons (.ife (.val (.at (.v 0) 32)) (.cons (.expr (.mc (.v 0) 86 (.cons (.k (.str [44])) (.cons (.k (.bool false)) .nil)) .nil)) (.cons (.expr (.mc (.v 0) 85 .nil .nil)) .nil)) .nil) (.cons (.expr (.mc (.v 0) 86 (.cons (.k (.str [93])) (.cons (.k (.bool false)) .nil)) .nil)) (.cons (.asg [.at (.v 0) 58] (.mc (.at (.v 0) 74) 1 .nil .nil)) .nil))))) (.cons (.expr (.mc (.v 0) 86 (.cons (.k (.str [44])) (.cons (.k (.bool false)) .nil)) .nil)) (.cons (.ife (.bo false (.cons (.val (.at (.v 0) 32)) (.cons (.cmp (.at (.v 0) 65) (.cons .gt (.at (.v 0) 68) .nil)) .nil))) (.cons (.expr (.mc (.v 0) 85 .nil .nil)) .nil) .nil) (.cons (.expr (.mc (.at (.v 0) 74) 0 (.cons (.at (.v 0) 112) .nil) .nil)) (.cons (.expr (.mc (.v 0) 97 .nil (.cons 43 (.k (.bool true)) .nil))) .nil))))) .nil)
noncomputable def b_Emitter_expect_flow_mapping:MSs:=(.cons (.expr (.mc (.v 0) 86 (.cons (.k (.str [123])) (.cons (.k (.bool true)) .nil)) (.cons 48 (.k (.bool true)) .nil))) (.cons (.auga (.v 0) 59 .add (.k (.int 1))) (.cons (.expr (.mc (.v 0) 110 .nil (.cons 39 (.k (.bool true)) .nil))) (.cons (.asg [.at (.v 0) 58] (.at (.v 0) 113)) .nil))))
noncomputable def b_Emitter_expect_first_flow_mapping_key:MSs:=(.cons (.ife (.val (.call 0 (.cons (.at (.v 0) 37) (.cons (.g 13) .nil)) .nil)) (.cons (.asg [.at (.v 0) 33] (.mc (.at (.v 0) 76) 1 .nil .nil)) (.cons (.auga (.v 0) 59 .sub (.k (.int 1))) (.cons (.expr (.mc (.v 0) 86 (.cons (.k (.str [125])) (.cons (.k (.bool false)) .nil)) .nil)) (.cons (.asg [.at (.v 0) 58] (.mc (.at (.v 0) 74) 1 .nil .nil)) .nil)))) (.cons (.ife (.bo false (.cons (.val (.at (.v 0) 32)) (.cons (.cmp (.at (.v 0) 65) (.cons .gt (.at (.v 0) 68) .nil)) .nil))) (.cons (.expr (.mc (.v 0) 85 .nil .nil)) .nil) .nil) (.cons (.ife (.bo true (.cons (.not (.val (.at (.v 0) 32))) (.cons (.val (.mc (.v 0) 114 .nil .nil)) .nil))) (.cons (.expr (.mc (.at (.v 0) 74) 0 (.cons (.at (.v 0) 115) .nil) .nil)) (.cons (.expr (.mc (.v 0) 97 .nil (.cons 44 (.k (.bool true)) (.cons 45 (.k (.bool true)) .nil)))) .nil)) (.cons (.expr (.mc (.v 0) 86 (.cons (.k (.str [63])) (.cons (.k (.bool true)) .nil)) .nil)) (.cons (.expr (.mc (.at (.v 0) 74) 0 (.cons (.at (.v 0) 116) .nil) .nil)) (.cons (.expr (.mc (.v 0) 97 .nil (.cons 44 (.k (.bool true)) .nil))) .nil)))) .nil))) .nil)
noncomputable def b_Emitter_expect_flow_mapping_key:MSs:=(.cons (.ife (.val (.call 0 (.cons (.at (.v 0) 37) (.cons (.g 13) .nil)) .nil)) (.cons (.asg [.at (.v 0) 33] (.mc (.at (.v 0) 76) 1 .nil .nil)) (.cons (.auga (.v 0) 59 .sub (.k (.int 1))) (.cons (.ife (.val (.at (.v 0) 32)) (.cons (.expr (.mc (.v 0) 86 (.cons (.k (.str [44])) (.cons (.k (.bool false)) .nil)) .nil)) (.cons (.expr (.mc (.v 0) 85 .nil .nil)) .nil)) .nil) (.cons (.expr (.mc (.v 0) 86 (.cons (.k (.str [125])) (.cons (.k (.bool false)) .nil)) .nil)) (.cons (.asg [.at (.v 0) 58] (.mc (.at (.v 0) 74) 1 .nil .nil)) .nil))))) (.cons (.expr (.mc (.v 0) 86 (.cons (.k (.str [44])) (.cons (.k (.bool false)) .nil)) .nil)) (.cons (.ife (.bo false (.cons (.val (.at (.v 0) 32)) (.cons (.cmp (.at (.v 0) 65) (.cons .gt (.at (.v 0) 68) .nil)) .nil))) (.cons (.expr (.mc (.v 0) 85 .nil .nil)) .nil) .nil) (.cons (.ife (.bo true (.cons (.not (.val (.at (.v 0) 32))) (.cons (.val (.mc (.v 0) 114 .nil .nil)) .nil))) (.cons (.expr (.mc (.at (.v 0) 74) 0 (.cons (.at (.v 0) 115) .nil) .nil)) (.cons (.expr (.mc (.v 0) 97 .nil (.cons 44 (.k (.bool true)) (.cons 45 (.k (.bool true)) .nil)))) .nil)) (.cons (.expr (.mc (.v 0) 86 (.cons (.k (.str [63])) (.cons (.k (.bool true)) .nil)) .nil)) (.cons (.expr (.mc (.at (.v 0) 74) 0 (.cons (.at (.v 0) 116) .nil) .nil)) (.cons (.expr (.mc (.v 0) 97 .nil (.cons 44 (.k (.bool true)) .nil))) .nil)))) .nil)))) .nil)
noncomputable def b_Emitter_expect_flow_mapping_simple_value:MSs:=(.cons (.expr (.mc (.v 0) 86 (.cons (.k (.str [58])) (.cons (.k (.bool false)) .nil)) .nil)) (.cons (.expr (.mc (.at (.v 0) 74) 0 (.cons (.at (.v 0) 117) .nil) .nil)) (.cons (.expr (.mc (.v 0) 97 .nil (.cons 44 (.k (.bool true)) .nil))) .nil)))
noncomputable def b_Emitter_expect_flow_mapping_value:MSs:=(.cons (.ife (.bo false (.cons (.val (.at (.v 0) 32)) (.cons (.cmp (.at (.v 0) 65) (.cons .gt (.at (.v 0) 68) .nil)) .nil))) (.cons (.expr (.mc (.v 0) 85 .nil .nil)) .nil) .nil) (.cons (.expr (.mc (.v 0) 86 (.cons (.k (.str [58])) (.cons (.k (.bool true)) .nil)) .nil)) (.cons (.expr (.mc (.at (.v 0) 74) 0 (.cons (.at (.v 0) 117) .nil) .nil)) (.cons (.expr (.mc (.v 0) 97 .nil (.cons 44 (.k (.bool true)) .nil))) .nil))))
noncomputable def b_Emitter_expect_block_sequence:MSs:=(.cons (.asg [.v 1] (.bo true (.cons (.at (.v 0) 62) (.cons (.not (.at (.v 0) 49)) .nil)))) (.cons (.expr (.mc (.v 0) 110 .nil (.cons 39 (.k (.bool false)) (.cons 40 (.v 1) .nil)))) (.cons (.asg [.at (.v 0) 58] (.at (.v 0) 118)) .nil)))
noncomputable def b_Emitter_expect_first_block_sequence_item:MSs:=(.cons (.ret (.mc (.v 0) 119 .nil (.cons 41 (.k (.bool true)) .nil))) .nil)
noncomputable def b_Emitter_expect_block_sequence_item:MSs:=(.cons (.ife (.bo true (.cons (.not (.val (.v 1))) (.cons (.val (.call 0 (.cons (.at (.v 0) 37) (.cons (.g 12) .nil)) .nil)) .nil))) (.cons (.asg [.at (.v 0) 33] (.mc (.at (.v 0) 76) 1 .nil .nil)) (.cons (.asg [.at (.v 0) 58] (.mc (.at (.v 0) 74) 1 .nil .nil)) .nil)) (.cons (.expr (.mc (.v 0) 85 .nil .nil)) (.cons (.expr (.mc (.v 0) 86 (.cons (.k (.str [45])) (.cons (.k (.bool true)) .nil)) (.cons 49 (.k (.bool true)) .nil))) (.cons (.expr (.mc (.at (.v 0) 74) 0 (.cons (.at (.v 0) 119) .nil) .nil)) (.cons (.expr (.mc (.v 0) 97 .nil (.cons 43 (.k (.bool true)) .nil))) .nil))))) .nil)
noncomputable def b_Emitter_expect_block_mapping:MSs:=(.cons (.expr (.mc (.v 0) 110 .nil (.cons 39 (.k (.bool false)) .nil))) (.cons (.asg [.at (.v 0) 58] (.at (.v 0) 120)) .nil))
noncomputable def b_Emitter_expect_first_block_mapping_key:MSs:=(.cons (.ret (.mc (.v 0) 121 .nil (.cons 41 (.k (.bool true)) .nil))) .nil)
noncomputable def b_Emitter_expect_block_mapping_key:MSs:=(.cons (.ife (.bo true (.cons (.not (.val (.v 1))) (.cons (.val (.call 0 (.cons (.at (.v 0) 37) (.cons (.g 13) .nil)) .nil)) .nil))) (.cons (.asg [.at (.v 0) 33] (.mc (.at (.v 0) 76) 1 .nil .nil)) (.cons (.asg [.at (.v 0) 58] (.mc (.at (.v 0) 74) 1 .nil .nil)) .nil)) (.cons (.expr (.mc (.v 0) 85 .nil .nil)) (.cons (.ife (.val (.mc (.v 0) 114 .nil .nil)) (.cons (.expr (.mc (.at (.v 0) 74) 0 (.cons (.at (.v 0) 122) .nil) .nil)) (.cons (.expr (.mc (.v 0) 97 .nil (.cons 44 (.k (.bool true)) (.cons 45 (.k (.bool true)) .nil)))) .nil)) (.cons (.expr (.mc (.v 0) 86 (.cons (.k (.str [63])) (.cons (.k (.bool true)) .nil)) (.cons 49 (.k (.bool true)) .nil))) (.cons (.expr (.mc (.at (.v 0) 74) 0 (.cons (.at (.v 0) 123) .nil) .nil)) (.cons (.expr (.mc (.v 0) 97 .nil (.cons 44 (.k (.bool true)) .nil))) .nil)))) .nil))) .nil)
noncomputable def b_Emitter_expect_block_mapping_simple_value:MSs:=(.cons (.expr (.mc (.v 0) 86 (.cons (.k (.str [58])) (.cons (.k (.bool false)) .nil)) .nil)) (.cons (.expr (.mc (.at (.v 0) 74) 0 (.cons (.at (.v 0) 121) .nil) .nil)) (.cons (.expr (.mc (.v 0) 97 .nil (.cons 44 (.k (.bool true)) .nil))) .nil)))
noncomputable def b_Emitter_expect_block_mapping_value:MSs:=(.cons (.expr (.mc (.v 0) 85 .nil .nil)) (.cons (.expr (.mc (.v 0) 86 (.cons (.k (.str [58])) (.cons (.k (.bool true)) .nil)) (.cons 49 (.k (.bool true)) .nil))) (.cons (.expr (.mc (.at (.v 0) 74) 0 (.cons (.at (.v 0) 121) .nil) .nil)) (.cons (.expr (.mc (.v 0) 97 .nil (.cons 44 (.k (.bool true)) .nil))) .nil))))
noncomputable def b_Emitter_check_empty_sequence:MSs:=(.cons (.ret (.bo true (.cons (.call 0 (.cons (.at (.v 0) 37) (.cons (.g 2) .nil)) .nil) (.cons (.at (.v 0) 75) (.cons (.call 0 (.cons (.sub (.at (.v 0) 75) (.k (.int 0))) (.cons (.g 12) .nil)) .nil) .nil))))) .nil)
noncomputable def b_Emitter_check_empty_mapping:MSs:=(.cons (.ret (.bo true (.cons (.call 0 (.cons (.at (.v 0) 37) (.cons (.g 3) .nil)) .nil) (.cons (.at (.v 0) 75) (.cons (.call 0 (.cons (.sub (.at (.v 0) 75) (.k (.int 0))) (.cons (.g 13) .nil)) .nil) .nil))))) .nil)
noncomputable def b_Emitter_check_empty_document:MSs:=(.cons (.ife (.bo false (.cons (.not (.val (.call 0 (.cons (.at (.v 0) 37) (.cons (.g 1) .nil)) .nil))) (.cons (.not (.val (.at (.v 0) 75))) .nil))) (.cons (.ret (.k (.bool false))) .nil) .nil) (.cons (.asg [.v 1] (.sub (.at (.v 0) 75) (.k (.int 0)))) (.cons (.ret (.bo true (.cons (.call 0 (.cons (.v 1) (.cons (.g 11) .nil)) .nil) (.cons (.cmp (.at (.v 1) 13) (.cons .is (.k (.none)) .nil)) (.cons (.cmp (.at (.v 1) 14) (.cons .is (.k (.none)) .nil)) (.cons (.at (.v 1) 15) (.cons (.cmp (.at (.v 1) 21) (.cons .eq (.k (.str [])) .nil)) .nil))))))) .nil)))
noncomputable def b_Emitter_check_simple_key:MSs:=(.cons (.asg [.v 1] (.k (.int 0))) (.cons (.ife (.bo true (.cons (.val (.call 0 (.cons (.at (.v 0) 37) (.cons (.g 14) .nil)) .nil)) (.cons (.cmp (.at (.at (.v 0) 37) 13) (.cons .isNot (.k (.none)) .nil)) .nil))) (.cons (.ife (.cmp (.at (.v 0) 71) (.cons .is (.k (.none)) .nil)) (.cons (.asg [.at (.v 0) 71] (.mc (.v 0) 126 (.cons (.at (.at (.v 0) 37) 13) .nil) .nil)) .nil) .nil) (.cons (.augv 1 .add (.call 4 (.cons (.at (.v 0) 71) .nil) .nil)) .nil)) .nil) (.cons (.ife (.bo true (.cons (.val (.call 0 (.cons (.at (.v 0) 37) (.cons (.tup (.cons (.g 11) (.cons (.g 5) .nil))) .nil)) .nil)) (.cons (.cmp (.at (.at (.v 0) 37) 14) (.cons .isNot (.k (.none)) .nil)) .nil))) (.cons (.ife (.cmp (.at (.v 0) 72) (.cons .is (.k (.none)) .nil)) (.cons (.asg [.at (.v 0) 72] (.mc (.v 0) 125 (.cons (.at (.at (.v 0) 37) 14) .nil) .nil)) .nil) .nil) (.cons (.augv 1 .add (.call 4 (.cons (.at (.v 0) 72) .nil) .nil)) .nil)) .nil) (.cons (.ife (.val (.call 0 (.cons (.at (.v 0) 37) (.cons (.g 11) .nil)) .nil)) (.cons (.ife (.cmp (.at (.v 0) 73) (.cons .is (.k (.none)) .nil)) (.cons (.asg [.at (.v 0) 73] (.mc (.v 0) 124 (.cons (.at (.at (.v 0) 37) 21) .nil) .nil)) .nil) .nil) (.cons (.augv 1 .add (.call 4 (.cons (.at (.at (.v 0) 73) 23) .nil) .nil)) .nil)) .nil) (.cons (.ret (.bo true (.cons (.cmp (.v 1) (.cons .lt (.k (.int 128)) .nil)) (.cons (.bo false (.cons (.call 0 (.cons (.at (.v 0) 37) (.cons (.g 10) .nil)) .nil) (.cons (.bo true (.cons (.call 0 (.cons (.at (.v 0) 37) (.cons (.g 11) .nil)) .nil) (.cons (.not (.at (.at (.v 0) 73) 24)) (.cons (.not (.at (.at (.v 0) 73) 25)) .nil)))) (.cons (.mc (.v 0) 101 .nil .nil) (.cons (.mc (.v 0) 104 .nil .nil) .nil))))) .nil)))) .nil)))))
noncomputable def b_Emitter_process_anchor:MSs:=(.cons (.ife (.cmp (.at (.at (.v 0) 37) 13) (.cons .is (.k (.none)) .nil)) (.cons (.asg [.at (.v 0) 71] (.k (.none))) (.cons .ret0 .nil)) .nil) (.cons (.ife (.cmp (.at (.v 0) 71) (.cons .is (.k (.none)) .nil)) (.cons (.asg [.at (.v 0) 71] (.mc (.v 0) 126 (.cons (.at (.at (.v 0) 37) 13) .nil) .nil)) .nil) .nil) (.cons (.ife (.val (.at (.v 0) 71)) (.cons (.expr (.mc (.v 0) 86 (.cons (.bin .add (.v 1) (.at (.v 0) 71)) (.cons (.k (.bool true)) .nil)) .nil)) .nil) .nil) (.cons (.asg [.at (.v 0) 71] (.k (.none))) .nil))))
noncomputable def b_Emitter_process_tag:MSs:=(.cons (.asg [.v 1] (.at (.at (.v 0) 37) 14)) (.cons (.ife (.val (.call 0 (.cons (.at (.v 0) 37) (.cons (.g 11) .nil)) .nil)) (.cons (.ife (.cmp (.at (.v 0) 22) (.cons .is (.k (.none)) .nil)) (.cons (.asg [.at (.v 0) 22] (.mc (.v 0) 127 .nil .nil)) .nil) .nil) (.cons (.ife (.bo true (.cons (.bo false (.cons (.not (.val (.at (.v 0) 32))) (.cons (.cmp (.v 1) (.cons .is (.k (.none)) .nil)) .nil))) (.cons (.bo false (.cons (.bo true (.cons (.cmp (.at (.v 0) 22) (.cons .eq (.k (.str [])) .nil)) (.cons (.val (.sub (.at (.at (.v 0) 37) 15) (.k (.int 0)))) .nil))) (.cons (.bo true (.cons (.cmp (.at (.v 0) 22) (.cons .ne (.k (.str [])) .nil)) (.cons (.val (.sub (.at (.at (.v 0) 37) 15) (.k (.int 1)))) .nil))) .nil))) .nil))) (.cons (.asg [.at (.v 0) 72] (.k (.none))) (.cons .ret0 .nil)) .nil) (.cons (.ife (.bo true (.cons (.val (.sub (.at (.at (.v 0) 37) 15) (.k (.int 0)))) (.cons (.cmp (.v 1) (.cons .is (.k (.none)) .nil)) .nil))) (.cons (.asg [.v 1] (.k (.str [33]))) (.cons (.asg [.at (.v 0) 72] (.k (.none))) .nil)) .nil) .nil))) (.cons (.ife (.bo true (.cons (.bo false (.cons (.not (.val (.at (.v 0) 32))) (.cons (.cmp (.v 1) (.cons .is (.k (.none)) .nil)) .nil))) (.cons (.val (.at (.at (.v 0) 37) 15)) .nil))) (.cons (.asg [.at (.v 0) 72] (.k (.none))) (.cons .ret0 .nil)) .nil) .nil)) (.cons (.ife (.cmp (.v 1) (.cons .is (.k (.none)) .nil)) (.cons .dead .nil) .nil) (.cons (.ife (.cmp (.at (.v 0) 72) (.cons .is (.k (.none)) .nil)) (.cons (.asg [.at (.v 0) 72] (.mc (.v 0) 125 (.cons (.v 1) .nil) .nil)) .nil) .nil) (.cons (.ife (.val (.at (.v 0) 72)) (.cons (.expr (.mc (.v 0) 86 (.cons (.at (.v 0) 72) (.cons (.k (.bool true)) .nil)) .nil)) .nil) .nil) (.cons (.asg [.at (.v 0) 72] (.k (.none))) .nil))))))
noncomputable def b_Emitter_choose_scalar_style:MSs:=(.cons (.ife (.cmp (.at (.v 0) 73) (.cons .is (.k (.none)) .nil)) (.cons (.asg [.at (.v 0) 73] (.mc (.v 0) 124 (.cons (.at (.at (.v 0) 37) 21) .nil) .nil)) .nil) .nil) (.cons (.ife (.bo false (.cons (.cmp (.at (.at (.v 0) 37) 22) (.cons .eq (.k (.str [34])) .nil)) (.cons (.val (.at (.v 0) 32)) .nil))) (.cons (.ret (.k (.str [34]))) .nil) .nil) (.cons (.ife (.bo true (.cons (.not (.val (.at (.at (.v 0) 37) 22))) (.cons (.val (.sub (.at (.at (.v 0) 37) 15) (.k (.int 0)))) .nil))) (.cons (.ife (.bo true (.cons (.not (.bo true (.cons (.val (.at (.v 0) 63)) (.cons (.bo false (.cons (.val (.at (.at (.v 0) 73) 24)) (.cons (.val (.at (.at (.v 0) 73) 25)) .nil))) .nil)))) (.cons (.bo false (.cons (.bo true (.cons (.val (.at (.v 0) 59)) (.cons (.val (.at (.at (.v 0) 73) 26)) .nil))) (.cons (.bo true (.cons (.not (.val (.at (.v 0) 59))) (.cons (.val (.at (.at (.v 0) 73) 27)) .nil))) .nil))) .nil))) (.cons (.ret (.k (.str []))) .nil) .nil) .nil) .nil) (.cons (.ife (.bo true (.cons (.val (.at (.at (.v 0) 37) 22)) (.cons (.cmp (.at (.at (.v 0) 37) 22) (.cons .inn (.k (.str [124,62])) .nil)) .nil))) (.cons (.ife (.bo true (.cons (.not (.val (.at (.v 0) 59))) (.cons (.not (.val (.at (.v 0) 63))) (.cons (.val (.at (.at (.v 0) 73) 30)) .nil)))) (.cons (.ret (.at (.at (.v 0) 37) 22)) .nil) .nil) .nil) .nil) (.cons (.ife (.bo false (.cons (.not (.val (.at (.at (.v 0) 37) 22))) (.cons (.cmp (.at (.at (.v 0) 37) 22) (.cons .eq (.k (.str [39])) .nil)) .nil))) (.cons (.ife (.bo true (.cons (.val (.at (.at (.v 0) 73) 28)) (.cons (.not (.bo true (.cons (.val (.at (.v 0) 63)) (.cons (.val (.at (.at (.v 0) 73) 25)) .nil)))) .nil))) (.cons (.ret (.k (.str [39]))) .nil) .nil) .nil) .nil) (.cons (.ret (.k (.str [34]))) .nil))))))
noncomputable def b_Emitter_process_scalar:MSs:=(.cons (.ife (.cmp (.at (.v 0) 73) (.cons .is (.k (.none)) .nil)) (.cons (.asg [.at (.v 0) 73] (.mc (.v 0) 124 (.cons (.at (.at (.v 0) 37) 21) .nil) .nil)) .nil) .nil) (.cons (.ife (.cmp (.at (.v 0) 22) (.cons .is (.k (.none)) .nil)) (.cons (.asg [.at (.v 0) 22] (.mc (.v 0) 127 .nil .nil)) .nil) .nil) (.cons (.asg [.v 1] (.not (.at (.v 0) 63))) (.cons (.ife (.cmp (.at (.v 0) 22) (.cons .eq (.k (.str [34])) .nil)) (.cons (.expr (.mc (.v 0) 128 (.cons (.at (.at (.v 0) 73) 23) (.cons (.v 1) .nil)) .nil)) .nil) (.cons (.ife (.cmp (.at (.v 0) 22) (.cons .eq (.k (.str [39])) .nil)) (.cons (.expr (.mc (.v 0) 129 (.cons (.at (.at (.v 0) 73) 23) (.cons (.v 1) .nil)) .nil)) .nil) (.cons (.ife (.cmp (.at (.v 0) 22) (.cons .eq (.k (.str [62])) .nil)) (.cons (.expr (.mc (.v 0) 130 (.cons (.at (.at (.v 0) 73) 23) .nil) .nil)) .nil) (.cons (.ife (.cmp (.at (.v 0) 22) (.cons .eq (.k (.str [124])) .nil)) (.cons (.expr (.mc (.v 0) 131 (.cons (.at (.at (.v 0) 73) 23) .nil) .nil)) .nil) (.cons (.expr (.mc (.v 0) 132 (.cons (.at (.at (.v 0) 73) 23) (.cons (.v 1) .nil)) .nil)) .nil)) .nil)) .nil)) .nil)) (.cons (.asg [.at (.v 0) 73] (.k (.none))) (.cons (.asg [.at (.v 0) 22] (.k (.none))) .nil))))))
noncomputable def b_Emitter_prepare_tag:MSs:=(.cons (.ife (.not (.val (.v 1))) (.cons .dead .nil) .nil) (.cons (.ife (.cmp (.v 1) (.cons .eq (.k (.str [33])) .nil)) (.cons (.ret (.v 1)) .nil) .nil) (.cons (.asg [.v 2] (.k (.none))) (.cons (.asg [.v 3] (.v 1)) (.cons (.asg [.v 4] (.skeys (.at (.v 0) 70))) (.cons (.for 5 (.v 4) (.cons (.ife (.bo true (.cons (.val (.mc (.v 1) 2 (.cons (.v 5) .nil) .nil)) (.cons (.bo false (.cons (.cmp (.v 5) (.cons .eq (.k (.str [33])) .nil)) (.cons (.cmp (.call 4 (.cons (.v 5) .nil) .nil) (.cons .lt (.call 4 (.cons (.v 1) .nil) .nil) .nil)) .nil))) .nil))) (.cons (.asg [.v 2] (.sub (.at (.v 0) 70) (.v 5))) (.cons (.asg [.v 3] (.sl (.v 1) (.call 4 (.cons (.v 5) .nil) .nil) .abs)) .nil)) .nil) .nil)) (.cons (.asgo 6 .nil) (.cons (.asg [.v 7,.v 8] (.k (.int 0))) (.cons (.whl (.cmp (.v 8) (.cons .lt (.call 4 (.cons (.v 3) .nil) .nil) .nil)) (.cons (.asg [.v 9] (.sub (.v 3) (.v 8))) (.cons (.ife (.bo false (.cons (.cmp (.k (.str [48])) (.cons .le (.v 9) (.cons .le (.k (.str [57])) .nil))) (.cons (.cmp (.k (.str [65])) (.cons .le (.v 9) (.cons .le (.k (.str [90])) .nil))) (.cons (.cmp (.k (.str [97])) (.cons .le (.v 9) (.cons .le (.k (.str [122])) .nil))) (.cons (.cmp (.v 9) (.cons .inn (.k (.str [45,59,47,63,58,64,38,61,43,36,44,95,46,126,42,39,40,41,91,93])) .nil)) (.cons (.bo true (.cons (.cmp (.v 9) (.cons .eq (.k (.str [33])) .nil)) (.cons (.cmp (.v 2) (.cons .ne (.k (.str [33])) .nil)) .nil))) .nil)))))) (.cons (.augv 8 .add (.k (.int 1))) .nil) (.cons (.ife (.cmp (.v 7) (.cons .lt (.v 8) .nil)) (.cons (.app 6 (.sl (.v 3) (.v 7) (.v 8))) .nil) .nil) (.cons (.asg [.v 7,.v 8] (.bin .add (.v 8) (.k (.int 1)))) (.cons (.asg [.v 10] (.mc (.v 9) 133 (.cons (.k (.str [117,116,102,45,56])) .nil) .nil)) (.cons (.for 9 (.v 10) (.cons (.app 6 .dead) .nil)) .nil))))) .nil))) (.cons (.ife (.cmp (.v 7) (.cons .lt (.v 8) .nil)) (.cons (.app 6 (.sl (.v 3) (.v 7) (.v 8))) .nil) .nil) (.cons (.asg [.v 11] (.mc (.k (.str [])) 3 (.cons (.v 6) .nil) .nil)) (.cons (.ife (.val (.v 2)) (.cons (.ret (.fmt2 (.v 2) (.v 11))) .nil) (.cons (.ret (.fmtT (.v 11))) .nil)) .nil))))))))))))
noncomputable def b_Emitter_prepare_anchor:MSs:=(.cons (.ife (.not (.val (.v 1))) (.cons .dead .nil) .nil) (.cons (.for 2 (.v 1) (.cons (.ife (.not (.bo false (.cons (.cmp (.k (.str [48])) (.cons .le (.v 2) (.cons .le (.k (.str [57])) .nil))) (.cons (.cmp (.k (.str [65])) (.cons .le (.v 2) (.cons .le (.k (.str [90])) .nil))) (.cons (.cmp (.k (.str [97])) (.cons .le (.v 2) (.cons .le (.k (.str [122])) .nil))) (.cons (.cmp (.v 2) (.cons .inn (.k (.str [45,95])) .nil)) .nil)))))) (.cons .dead .nil) .nil) .nil)) (.cons (.ret (.v 1)) .nil)))
noncomputable def b_Emitter_analyze_scalar:MSs:=(.cons (.ife (.not (.val (.v 1))) (.cons (.ret (.call 15 .nil (.cons 23 (.v 1) (.cons 24 (.k (.bool true)) (.cons 25 (.k (.bool false)) (.cons 26 (.k (.bool false)) (.cons 27 (.k (.bool true)) (.cons 28 (.k (.bool true)) (.cons 29 (.k (.bool true)) (.cons 30 (.k (.bool false)) .nil)))))))))) .nil) .nil) (.cons (.asg [.v 2] (.k (.bool false))) (.cons (.asg [.v 3] (.k (.bool false))) (.cons (.asg [.v 4] (.k (.bool false))) (.cons (.asg [.v 5] (.k (.bool false))) (.cons (.asg [.v 6] (.k (.bool false))) (.cons (.asg [.v 7] (.k (.bool false))) (.cons (.asg [.v 8] (.k (.bool false))) (.cons (.asg [.v 9] (.k (.bool false))) (.cons (.asg [.v 10] (.k (.bool false))) (.cons (.asg [.v 11] (.k (.bool false))) (.cons (.ife (.bo false (.cons (.val (.mc (.v 1) 2 (.cons (.k (.str [45,45,45])) .nil) .nil)) (.cons (.val (.mc (.v 1) 2 (.cons (.k (.str [46,46,46])) .nil) .nil)) .nil))) (.cons (.asg [.v 2] (.k (.bool true))) (.cons (.asg [.v 3] (.k (.bool true))) .nil)) .nil) (.cons (.asg [.v 12] (.k (.bool true))) (.cons (.asg [.v 13] (.bo false (.cons (.cmp (.call 4 (.cons (.v 1) .nil) .nil) (.cons .eq (.k (.int 1)) .nil)) (.cons (.cmp (.sub (.v 1) (.k (.int 1))) (.cons .inn (.k (.str [0,32,9,13,10,133,8232,8233])) .nil)) .nil)))) (.cons (.asg [.v 14] (.k (.bool false))) (.cons (.asg [.v 15] (.k (.bool false))) (.cons (.asg [.v 16] (.k (.int 0))) (.cons (.whl (.cmp (.v 16) (.cons .lt (.call 4 (.cons (.v 1) .nil) .nil) .nil)) (.cons (.asg [.v 17] (.sub (.v 1) (.v 16))) (.cons (.ife (.cmp (.v 16) (.cons .eq (.k (.int 0)) .nil)) (.cons (.ife (.cmp (.v 17) (.cons .inn (.k (.str [35,44,91,93,123,125,38,42,33,124,62,39,34,37,64,96])) .nil)) (.cons (.asg [.v 3] (.k (.bool true))) (.cons (.asg [.v 2] (.k (.bool true))) .nil)) .nil) (.cons (.ife (.cmp (.v 17) (.cons .inn (.k (.str [63,58])) .nil)) (.cons (.asg [.v 3] (.k (.bool true))) (.cons (.ife (.val (.v 13)) (.cons (.asg [.v 2] (.k (.bool true))) .nil) .nil) .nil)) .nil) (.cons (.ife (.bo true (.cons (.cmp (.v 17) (.cons .eq (.k (.str [45])) .nil)) (.cons (.val (.v 13)) .nil))) (.cons (.asg [.v 3] (.k (.bool true))) (.cons (.asg [.v 2] (.k (.bool true))) .nil)) .nil) .nil))) (.cons (.ife (.cmp (.v 17) (.cons .inn (.k (.str [44,63,91,93,123,125])) .nil)) (.cons (.asg [.v 3] (.k (.bool true))) .nil) .nil) (.cons (.ife (.cmp (.v 17) (.cons .eq (.k (.str [58])) .nil)) (.cons (.asg [.v 3] (.k (.bool true))) (.cons (.ife (.val (.v 13)) (.cons (.asg [.v 2] (.k (.bool true))) .nil) .nil) .nil)) .nil) (.cons (.ife (.bo true (.cons (.cmp (.v 17) (.cons .eq (.k (.str [35])) .nil)) (.cons (.val (.v 12)) .nil))) (.cons (.asg [.v 3] (.k (.bool true))) (.cons (.asg [.v 2] (.k (.bool true))) .nil)) .nil) .nil)))) (.cons (.ife (.cmp (.v 17) (.cons .inn (.k (.str [10,133,8232,8233])) .nil)) (.cons (.asg [.v 4] (.k (.bool true))) .nil) .nil) (.cons (.ife (.not (.bo false (.cons (.cmp (.v 17) (.cons .eq (.k (.str [10])) .nil)) (.cons (.cmp (.k (.str [32])) (.cons .le (.v 17) (.cons .le (.k (.str [126])) .nil))) .nil)))) (.cons (.ife (.bo true (.cons (.bo false (.cons (.cmp (.v 17) (.cons .eq (.k (.str [133])) .nil)) (.cons (.cmp (.k (.str [160])) (.cons .le (.v 17) (.cons .le (.k (.str [55295])) .nil))) (.cons (.cmp (.k (.str [57344])) (.cons .le (.v 17) (.cons .le (.k (.str [65533])) .nil))) (.cons (.cmp (.k (.str [65536])) (.cons .le (.v 17) (.cons .lt (.k (.str [1114111])) .nil))) .nil))))) (.cons (.cmp (.v 17) (.cons .ne (.k (.str [65279])) .nil)) .nil))) (.cons (.asg [.v 18] (.k (.bool true))) (.cons (.ife (.not (.val (.at (.v 0) 35))) (.cons (.asg [.v 5] (.k (.bool true))) .nil) .nil) .nil)) (.cons (.asg [.v 5] (.k (.bool true))) .nil)) .nil) .nil) (.cons (.ife (.cmp (.v 17) (.cons .eq (.k (.str [32])) .nil)) (.cons (.ife (.cmp (.v 16) (.cons .eq (.k (.int 0)) .nil)) (.cons (.asg [.v 6] (.k (.bool true))) .nil) .nil) (.cons (.ife (.cmp (.v 16) (.cons .eq (.bin .sub (.call 4 (.cons (.v 1) .nil) .nil) (.k (.int 1))) .nil)) (.cons (.asg [.v 8] (.k (.bool true))) .nil) .nil) (.cons (.ife (.val (.v 15)) (.cons (.asg [.v 10] (.k (.bool true))) .nil) .nil) (.cons (.asg [.v 14] (.k (.bool true))) (.cons (.asg [.v 15] (.k (.bool false))) .nil))))) (.cons (.ife (.cmp (.v 17) (.cons .inn (.k (.str [10,133,8232,8233])) .nil)) (.cons (.ife (.cmp (.v 16) (.cons .eq (.k (.int 0)) .nil)) (.cons (.asg [.v 7] (.k (.bool true))) .nil) .nil) (.cons (.ife (.cmp (.v 16) (.cons .eq (.bin .sub (.call 4 (.cons (.v 1) .nil) .nil) (.k (.int 1))) .nil)) (.cons (.asg [.v 9] (.k (.bool true))) .nil) .nil) (.cons (.ife (.val (.v 14)) (.cons (.asg [.v 11] (.k (.bool true))) .nil) .nil) (.cons (.asg [.v 14] (.k (.bool false))) (.cons (.asg [.v 15] (.k (.bool true))) .nil))))) (.cons (.asg [.v 14] (.k (.bool false))) (.cons (.asg [.v 15] (.k (.bool false))) .nil))) .nil)) (.cons (.augv 16 .add (.k (.int 1))) (.cons (.asg [.v 12] (.cmp (.v 17) (.cons .inn (.k (.str [0,32,9,13,10,133,8232,8233])) .nil))) (.cons (.asg [.v 13] (.bo false (.cons (.cmp (.bin .add (.v 16) (.k (.int 1))) (.cons .ge (.call 4 (.cons (.v 1) .nil) .nil) .nil)) (.cons (.cmp (.sub (.v 1) (.bin .add (.v 16) (.k (.int 1)))) (.cons .inn (.k (.str [0,32,9,13,10,133,8232,8233])) .nil)) .nil)))) .nil))))))))) (.cons (.asg [.v 19] (.k (.bool true))) (.cons (.asg [.v 20] (.k (.bool true))) (.cons (.asg [.v 21] (.k (.bool true))) (.cons (.asg [.v 22] (.k (.bool true))) (.cons (.asg [.v 23] (.k (.bool true))) (.cons (.ife (.bo false (.cons (.val (.v 6)) (.cons (.val (.v 7)) (.cons (.val (.v 8)) (.cons (.val (.v 9)) .nil))))) (.cons (.asg [.v 19,.v 20] (.k (.bool false))) .nil) .nil) (.cons (.ife (.val (.v 8)) (.cons (.asg [.v 23] (.k (.bool false))) .nil) .nil) (.cons (.ife (.val (.v 10)) (.cons (.asg [.v 19,.v 20,.v 21] (.k (.bool false))) .nil) .nil) (.cons (.ife (.bo false (.cons (.val (.v 11)) (.cons (.val (.v 5)) .nil))) (.cons (.asg [.v 19,.v 20,.v 21,.v 23] (.k (.bool false))) .nil) .nil) (.cons (.ife (.val (.v 4)) (.cons (.asg [.v 19,.v 20] (.k (.bool false))) .nil) .nil) (.cons (.ife (.val (.v 3)) (.cons (.asg [.v 19] (.k (.bool false))) .nil) .nil) (.cons (.ife (.val (.v 2)) (.cons (.asg [.v 20] (.k (.bool false))) .nil) .nil) (.cons (.ret (.call 15 .nil (.cons 23 (.v 1) (.cons 24 (.k (.bool false)) (.cons 25 (.v 4) (.cons 26 (.v 19) (.cons 27 (.v 20) (.cons 28 (.v 21) (.cons 29 (.v 22) (.cons 30 (.v 23) .nil)))))))))) .nil)))))))))))))))))))))))))))))))
noncomputable def b_Emitter_flush_stream:MSs:=(.cons .pass .nil)
noncomputable def b_Emitter_write_stream_start:MSs:=(.cons .pass .nil)
noncomputable def b_Emitter_write_stream_end:MSs:=(.cons (.expr (.mc (.v 0) 96 .nil .nil)) .nil)
noncomputable def b_Emitter_write_indicator:MSs:=(.cons (.ife (.bo false (.cons (.val (.at (.v 0) 48)) (.cons (.not (.val (.v 2))) .nil))) (.cons (.asg [.v 5] (.v 1)) .nil) (.cons (.asg [.v 5] (.bin .add (.k (.str [32])) (.v 1))) .nil)) (.cons (.asg [.at (.v 0) 48] (.v 3)) (.cons (.asg [.at (.v 0) 49] (.bo true (.cons (.at (.v 0) 49) (.cons (.v 4) .nil)))) (.cons (.auga (.v 0) 65 .add (.call 4 (.cons (.v 5) .nil) .nil)) (.cons (.asg [.at (.v 0) 66] (.k (.bool false))) (.cons (.expr (.mc (.at (.v 0) 31) 134 (.cons (.v 5) .nil) .nil)) .nil))))))
noncomputable def b_Emitter_write_indent:MSs:=(.cons (.asg [.v 1] (.bo false (.cons (.at (.v 0) 33) (.cons (.k (.int 0)) .nil)))) (.cons (.ife (.bo false (.cons (.not (.val (.at (.v 0) 49))) (.cons (.cmp (.at (.v 0) 65) (.cons .gt (.v 1) .nil)) (.cons (.bo true (.cons (.cmp (.at (.v 0) 65) (.cons .eq (.v 1) .nil)) (.cons (.not (.val (.at (.v 0) 48))) .nil))) .nil)))) (.cons (.expr (.mc (.v 0) 135 .nil .nil)) .nil) .nil) (.cons (.ife (.cmp (.at (.v 0) 65) (.cons .lt (.v 1) .nil)) (.cons (.asg [.at (.v 0) 48] (.k (.bool true))) (.cons (.asg [.v 2] (.bin .mul (.k (.str [32])) (.bin .sub (.v 1) (.at (.v 0) 65)))) (.cons (.asg [.at (.v 0) 65] (.v 1)) (.cons (.expr (.mc (.at (.v 0) 31) 134 (.cons (.v 2) .nil) .nil)) .nil)))) .nil) .nil)))
noncomputable def b_Emitter_write_line_break:MSs:=(.cons (.ife (.cmp (.v 1) (.cons .is (.k (.none)) .nil)) (.cons (.asg [.v 1] (.at (.v 0) 69)) .nil) .nil) (.cons (.asg [.at (.v 0) 48] (.k (.bool true))) (.cons (.asg [.at (.v 0) 49] (.k (.bool true))) (.cons (.auga (.v 0) 64 .add (.k (.int 1))) (.cons (.asg [.at (.v 0) 65] (.k (.int 0))) (.cons (.expr (.mc (.at (.v 0) 31) 134 (.cons (.v 1) .nil) .nil)) .nil))))))
noncomputable def b_Emitter_write_single_quoted:MSs:=(.cons (.expr (.mc (.v 0) 86 (.cons (.k (.str [39])) (.cons (.k (.bool true)) .nil)) .nil)) (.cons (.asg [.v 3] (.k (.bool false))) (.cons (.asg [.v 4] (.k (.bool false))) (.cons (.asg [.v 5,.v 6] (.k (.int 0))) (.cons (.whl (.cmp (.v 6) (.cons .le (.call 4 (.cons (.v 1) .nil) .nil) .nil)) (.cons (.asg [.v 7] (.k (.none))) (.cons (.ife (.cmp (.v 6) (.cons .lt (.call 4 (.cons (.v 1) .nil) .nil) .nil)) (.cons (.asg [.v 7] (.sub (.v 1) (.v 6))) .nil) .nil) (.cons (.ife (.val (.v 3)) (.cons (.ife (.bo false (.cons (.cmp (.v 7) (.cons .is (.k (.none)) .nil)) (.cons (.cmp (.v 7) (.cons .ne (.k (.str [32])) .nil)) .nil))) (.cons (.ife (.bo true (.cons (.cmp (.bin .add (.v 5) (.k (.int 1))) (.cons .eq (.v 6) .nil)) (.cons (.cmp (.at (.v 0) 65) (.cons .gt (.at (.v 0) 68) .nil)) (.cons (.val (.v 2)) (.cons (.cmp (.v 5) (.cons .ne (.k (.int 0)) .nil)) (.cons (.cmp (.v 6) (.cons .ne (.call 4 (.cons (.v 1) .nil) .nil) .nil)) .nil)))))) (.cons (.expr (.mc (.v 0) 85 .nil .nil)) .nil) (.cons (.asg [.v 8] (.sl (.v 1) (.v 5) (.v 6))) (.cons (.auga (.v 0) 65 .add (.call 4 (.cons (.v 8) .nil) .nil)) (.cons (.expr (.mc (.at (.v 0) 31) 134 (.cons (.v 8) .nil) .nil)) .nil)))) (.cons (.asg [.v 5] (.v 6)) .nil)) .nil) .nil) (.cons (.ife (.val (.v 4)) (.cons (.ife (.bo false (.cons (.cmp (.v 7) (.cons .is (.k (.none)) .nil)) (.cons (.cmp (.v 7) (.cons .notIn (.k (.str [10,133,8232,8233])) .nil)) .nil))) (.cons (.ife (.cmp (.sub (.v 1) (.v 5)) (.cons .eq (.k (.str [10])) .nil)) (.cons (.expr (.mc (.v 0) 135 .nil .nil)) .nil) .nil) (.cons (.for 9 (.sl (.v 1) (.v 5) (.v 6)) (.cons (.ife (.cmp (.v 9) (.cons .eq (.k (.str [10])) .nil)) (.cons (.expr (.mc (.v 0) 135 .nil .nil)) .nil) (.cons (.expr (.mc (.v 0) 135 (.cons (.v 9) .nil) .nil)) .nil)) .nil)) (.cons (.expr (.mc (.v 0) 85 .nil .nil)) (.cons (.asg [.v 5] (.v 6)) .nil)))) .nil) .nil) (.cons (.ife (.bo false (.cons (.cmp (.v 7) (.cons .is (.k (.none)) .nil)) (.cons (.cmp (.v 7) (.cons .inn (.k (.str [32,10,133,8232,8233])) .nil)) (.cons (.cmp (.v 7) (.cons .eq (.k (.str [39])) .nil)) .nil)))) (.cons (.ife (.cmp (.v 5) (.cons .lt (.v 6) .nil)) (.cons (.asg [.v 8] (.sl (.v 1) (.v 5) (.v 6))) (.cons (.auga (.v 0) 65 .add (.call 4 (.cons (.v 8) .nil) .nil)) (.cons (.expr (.mc (.at (.v 0) 31) 134 (.cons (.v 8) .nil) .nil)) (.cons (.asg [.v 5] (.v 6)) .nil)))) .nil) .nil) .nil) .nil)) .nil)) (.cons (.ife (.cmp (.v 7) (.cons .eq (.k (.str [39])) .nil)) (.cons (.asg [.v 8] (.k (.str [39,39]))) (.cons (.auga (.v 0) 65 .add (.k (.int 2))) (.cons (.expr (.mc (.at (.v 0) 31) 134 (.cons (.v 8) .nil) .nil)) (.cons (.asg [.v 5] (.bin .add (.v 6) (.k (.int 1)))) .nil)))) .nil) (.cons (.ife (.cmp (.v 7) (.cons .isNot (.k (.none)) .nil)) (.cons (.asg [.v 3] (.cmp (.v 7) (.cons .eq (.k (.str [32])) .nil))) (.cons (.asg [.v 4] (.cmp (.v 7) (.cons .inn (.k (.str [10,133,8232,8233])) .nil))) .nil)) .nil) (.cons (.augv 6 .add (.k (.int 1))) .nil))))))) (.cons (.expr (.mc (.v 0) 86 (.cons (.k (.str [39])) (.cons (.k (.bool false)) .nil)) .nil)) .nil))))))
noncomputable def b_Emitter_write_double_quoted:MSs:=(.cons (.expr (.mc (.v 0) 86 (.cons (.k (.str [34])) (.cons (.k (.bool true)) .nil)) .nil)) (.cons (.asg [.v 3,.v 4] (.k (.int 0))) (.cons (.whl (.cmp (.v 4) (.cons .le (.call 4 (.cons (.v 1) .nil) .nil) .nil)) (.cons (.asg [.v 5] (.k (.none))) (.cons (.ife (.cmp (.v 4) (.cons .lt (.call 4 (.cons (.v 1) .nil) .nil) .nil)) (.cons (.asg [.v 5] (.sub (.v 1) (.v 4))) .nil) .nil) (.cons (.ife (.bo false (.cons (.cmp (.v 5) (.cons .is (.k (.none)) .nil)) (.cons (.cmp (.v 5) (.cons .inn (.k (.str [34,92,133,8232,8233,65279])) .nil)) (.cons (.not (.bo false (.cons (.cmp (.k (.str [32])) (.cons .le (.v 5) (.cons .le (.k (.str [126])) .nil))) (.cons (.bo true (.cons (.val (.at (.v 0) 35)) (.cons (.bo false (.cons (.cmp (.k (.str [160])) (.cons .le (.v 5) (.cons .le (.k (.str [55295])) .nil))) (.cons (.cmp (.k (.str [57344])) (.cons .le (.v 5) (.cons .le (.k (.str [65533])) .nil))) .nil))) .nil))) .nil)))) .nil)))) (.cons (.ife (.cmp (.v 3) (.cons .lt (.v 4) .nil)) (.cons (.asg [.v 6] (.sl (.v 1) (.v 3) (.v 4))) (.cons (.auga (.v 0) 65 .add (.call 4 (.cons (.v 6) .nil) .nil)) (.cons (.expr (.mc (.at (.v 0) 31) 134 (.cons (.v 6) .nil) .nil)) (.cons (.asg [.v 3] (.v 4)) .nil)))) .nil) (.cons (.ife (.cmp (.v 5) (.cons .isNot (.k (.none)) .nil)) (.cons (.ife (.cmp (.v 5) (.cons .inn (.at (.v 0) 136) .nil)) (.cons (.asg [.v 6] (.bin .add (.k (.str [92])) (.sub (.at (.v 0) 136) (.v 5)))) .nil) (.cons (.ife (.cmp (.v 5) (.cons .le (.k (.str [255])) .nil)) (.cons (.asg [.v 6] .dead) .nil) (.cons (.ife (.cmp (.v 5) (.cons .le (.k (.str [65535])) .nil)) (.cons (.asg [.v 6] .dead) .nil) (.cons (.asg [.v 6] .dead) .nil)) .nil)) .nil)) (.cons (.auga (.v 0) 65 .add (.call 4 (.cons (.v 6) .nil) .nil)) (.cons (.expr (.mc (.at (.v 0) 31) 134 (.cons (.v 6) .nil) .nil)) (.cons (.asg [.v 3] (.bin .add (.v 4) (.k (.int 1)))) .nil)))) .nil) .nil)) .nil) (.cons (.ife (.bo true (.cons (.cmp (.k (.int 0)) (.cons .lt (.v 4) (.cons .lt (.bin .sub (.call 4 (.cons (.v 1) .nil) .nil) (.k (.int 1))) .nil))) (.cons (.bo false (.cons (.cmp (.v 5) (.cons .eq (.k (.str [32])) .nil)) (.cons (.cmp (.v 3) (.cons .ge (.v 4) .nil)) .nil))) (.cons (.cmp (.bin .add (.at (.v 0) 65) (.bin .sub (.v 4) (.v 3))) (.cons .gt (.at (.v 0) 68) .nil)) (.cons (.val (.v 2)) .nil))))) (.cons (.asg [.v 6] (.bin .add (.sl (.v 1) (.v 3) (.v 4)) (.k (.str [92])))) (.cons (.ife (.cmp (.v 3) (.cons .lt (.v 4) .nil)) (.cons (.asg [.v 3] (.v 4)) .nil) .nil) (.cons (.auga (.v 0) 65 .add (.call 4 (.cons (.v 6) .nil) .nil)) (.cons (.expr (.mc (.at (.v 0) 31) 134 (.cons (.v 6) .nil) .nil)) (.cons (.expr (.mc (.v 0) 85 .nil .nil)) (.cons (.asg [.at (.v 0) 48] (.k (.bool false))) (.cons (.asg [.at (.v 0) 49] (.k (.bool false))) (.cons (.ife (.cmp (.sub (.v 1) (.v 3)) (.cons .eq (.k (.str [32])) .nil)) (.cons (.asg [.v 6] (.k (.str [92]))) (.cons (.auga (.v 0) 65 .add (.call 4 (.cons (.v 6) .nil) .nil)) (.cons (.expr (.mc (.at (.v 0) 31) 134 (.cons (.v 6) .nil) .nil)) .nil))) .nil) .nil)))))))) .nil) (.cons (.augv 4 .add (.k (.int 1))) .nil)))))) (.cons (.expr (.mc (.v 0) 86 (.cons (.k (.str [34])) (.cons (.k (.bool false)) .nil)) .nil)) .nil))))
noncomputable def b_Emitter_determine_block_hints:MSs:=(.cons (.asg [.v 2] (.k (.str []))) (.cons (.ife (.val (.v 1)) (.cons (.ife (.cmp (.sub (.v 1) (.k (.int 0))) (.cons .inn (.k (.str [32,10,133,8232,8233])) .nil)) (.cons (.augv 2 .add (.call 16 (.cons (.at (.v 0) 67) .nil) .nil)) .nil) .nil) (.cons (.ife (.cmp (.sub (.v 1) (.neg (.k (.int 1)))) (.cons .notIn (.k (.str [10,133,8232,8233])) .nil)) (.cons (.augv 2 .add (.k (.str [45]))) .nil) (.cons (.ife (.bo false (.cons (.cmp (.call 4 (.cons (.v 1) .nil) .nil) (.cons .eq (.k (.int 1)) .nil)) (.cons (.cmp (.sub (.v 1) (.neg (.k (.int 2)))) (.cons .inn (.k (.str [10,133,8232,8233])) .nil)) .nil))) (.cons (.augv 2 .add (.k (.str [43]))) .nil) .nil) .nil)) .nil)) .nil) (.cons (.ret (.v 2)) .nil)))
noncomputable def b_Emitter_write_literal:MSs:=(.cons (.asg [.v 2] (.mc (.v 0) 137 (.cons (.v 1) .nil) .nil)) (.cons (.expr (.mc (.v 0) 86 (.cons (.bin .add (.k (.str [124])) (.v 2)) (.cons (.k (.bool true)) .nil)) .nil)) (.cons (.ife (.cmp (.sl (.v 2) (.neg (.k (.int 1))) .abs) (.cons .eq (.k (.str [43])) .nil)) (.cons (.asg [.at (.v 0) 66] (.k (.bool true))) .nil) .nil) (.cons (.expr (.mc (.v 0) 135 .nil .nil)) (.cons (.asg [.v 3] (.k (.bool true))) (.cons (.asg [.v 4,.v 5] (.k (.int 0))) (.cons (.whl (.cmp (.v 5) (.cons .le (.call 4 (.cons (.v 1) .nil) .nil) .nil)) (.cons (.asg [.v 6] (.k (.none))) (.cons (.ife (.cmp (.v 5) (.cons .lt (.call 4 (.cons (.v 1) .nil) .nil) .nil)) (.cons (.asg [.v 6] (.sub (.v 1) (.v 5))) .nil) .nil) (.cons (.ife (.val (.v 3)) (.cons (.ife (.bo false (.cons (.cmp (.v 6) (.cons .is (.k (.none)) .nil)) (.cons (.cmp (.v 6) (.cons .notIn (.k (.str [10,133,8232,8233])) .nil)) .nil))) (.cons (.for 7 (.sl (.v 1) (.v 4) (.v 5)) (.cons (.ife (.cmp (.v 7) (.cons .eq (.k (.str [10])) .nil)) (.cons (.expr (.mc (.v 0) 135 .nil .nil)) .nil) (.cons (.expr (.mc (.v 0) 135 (.cons (.v 7) .nil) .nil)) .nil)) .nil)) (.cons (.ife (.cmp (.v 6) (.cons .isNot (.k (.none)) .nil)) (.cons (.expr (.mc (.v 0) 85 .nil .nil)) .nil) .nil) (.cons (.asg [.v 4] (.v 5)) .nil))) .nil) .nil) (.cons (.ife (.bo false (.cons (.cmp (.v 6) (.cons .is (.k (.none)) .nil)) (.cons (.cmp (.v 6) (.cons .inn (.k (.str [10,133,8232,8233])) .nil)) .nil))) (.cons (.asg [.v 8] (.sl (.v 1) (.v 4) (.v 5))) (.cons (.expr (.mc (.at (.v 0) 31) 134 (.cons (.v 8) .nil) .nil)) (.cons (.ife (.cmp (.v 6) (.cons .is (.k (.none)) .nil)) (.cons (.expr (.mc (.v 0) 135 .nil .nil)) .nil) .nil) (.cons (.asg [.v 4] (.v 5)) .nil)))) .nil) .nil)) (.cons (.ife (.cmp (.v 6) (.cons .isNot (.k (.none)) .nil)) (.cons (.asg [.v 3] (.cmp (.v 6) (.cons .inn (.k (.str [10,133,8232,8233])) .nil))) .nil) .nil) (.cons (.augv 5 .add (.k (.int 1))) .nil)))))) .nil)))))))
noncomputable def b_Emitter_write_plain:MSs:=(.cons (.ife (.val (.at (.v 0) 60)) (.cons (.asg [.at (.v 0) 66] (.k (.bool true))) .nil) .nil) (.cons (.ife (.not (.val (.v 1))) (.cons .ret0 .nil) .nil) (.cons (.ife (.not (.val (.at (.v 0) 48))) (.cons (.asg [.v 3] (.k (.str [32]))) (.cons (.auga (.v 0) 65 .add (.call 4 (.cons (.v 3) .nil) .nil)) (.cons (.expr (.mc (.at (.v 0) 31) 134 (.cons (.v 3) .nil) .nil)) .nil))) .nil) (.cons (.asg [.at (.v 0) 48] (.k (.bool false))) (.cons (.asg [.at (.v 0) 49] (.k (.bool false))) (.cons (.asg [.v 4] (.k (.bool false))) (.cons (.asg [.v 5] (.k (.bool false))) (.cons (.asg [.v 6,.v 7] (.k (.int 0))) (.cons (.whl (.cmp (.v 7) (.cons .le (.call 4 (.cons (.v 1) .nil) .nil) .nil)) (.cons (.asg [.v 8] (.k (.none))) (.cons (.ife (.cmp (.v 7) (.cons .lt (.call 4 (.cons (.v 1) .nil) .nil) .nil)) (.cons (.asg [.v 8] (.sub (.v 1) (.v 7))) .nil) .nil) (.cons (.ife (.val (.v 4)) (.cons (.ife (.cmp (.v 8) (.cons .ne (.k (.str [32])) .nil)) (.cons (.ife (.bo true (.cons (.cmp (.bin .add (.v 6) (.k (.int 1))) (.cons .eq (.v 7) .nil)) (.cons (.cmp (.at (.v 0) 65) (.cons .gt (.at (.v 0) 68) .nil)) (.cons (.val (.v 2)) .nil)))) (.cons (.expr (.mc (.v 0) 85 .nil .nil)) (.cons (.asg [.at (.v 0) 48] (.k (.bool false))) (.cons (.asg [.at (.v 0) 49] (.k (.bool false))) .nil))) (.cons (.asg [.v 3] (.sl (.v 1) (.v 6) (.v 7))) (.cons (.auga (.v 0) 65 .add (.call 4 (.cons (.v 3) .nil) .nil)) (.cons (.expr (.mc (.at (.v 0) 31) 134 (.cons (.v 3) .nil) .nil)) .nil)))) (.cons (.asg [.v 6] (.v 7)) .nil)) .nil) .nil) (.cons (.ife (.val (.v 5)) (.cons (.ife (.cmp (.v 8) (.cons .notIn (.k (.str [10,133,8232,8233])) .nil)) (.cons (.ife (.cmp (.sub (.v 1) (.v 6)) (.cons .eq (.k (.str [10])) .nil)) (.cons (.expr (.mc (.v 0) 135 .nil .nil)) .nil) .nil) (.cons (.for 9 (.sl (.v 1) (.v 6) (.v 7)) (.cons (.ife (.cmp (.v 9) (.cons .eq (.k (.str [10])) .nil)) (.cons (.expr (.mc (.v 0) 135 .nil .nil)) .nil) (.cons (.expr (.mc (.v 0) 135 (.cons (.v 9) .nil) .nil)) .nil)) .nil)) (.cons (.expr (.mc (.v 0) 85 .nil .nil)) (.cons (.asg [.at (.v 0) 48] (.k (.bool false))) (.cons (.asg [.at (.v 0) 49] (.k (.bool false))) (.cons (.asg [.v 6] (.v 7)) .nil)))))) .nil) .nil) (.cons (.ife (.bo false (.cons (.cmp (.v 8) (.cons .is (.k (.none)) .nil)) (.cons (.cmp (.v 8) (.cons .inn (.k (.str [32,10,133,8232,8233])) .nil)) .nil))) (.cons (.asg [.v 3] (.sl (.v 1) (.v 6) (.v 7))) (.cons (.auga (.v 0) 65 .add (.call 4 (.cons (.v 3) .nil) .nil)) (.cons (.expr (.mc (.at (.v 0) 31) 134 (.cons (.v 3) .nil) .nil)) (.cons (.asg [.v 6] (.v 7)) .nil)))) .nil) .nil)) .nil)) (.cons (.ife (.cmp (.v 8) (.cons .isNot (.k (.none)) .nil)) (.cons (.asg [.v 4] (.cmp (.v 8) (.cons .eq (.k (.str [32])) .nil))) (.cons (.asg [.v 5] (.cmp (.v 8) (.cons .inn (.k (.str [10,133,8232,8233])) .nil))) .nil)) .nil) (.cons (.augv 7 .add (.k (.int 1))) .nil)))))) .nil)))))))))
noncomputable def b_Rows_init:MSs:=(.cons (.asg [.at (.v 0) 77] (.list (some .rows) .nil)) .nil)
noncomputable def b_Rows_write:MSs:=(.cons (.expr (.mc (.at (.v 0) 77) 0 (.cons (.v 1) .nil) .nil)) .nil)
noncomputable def b_Rows_text:MSs:=(.cons (.ret (.mc (.k (.str [])) 3 (.cons (.at (.v 0) 77) .nil) .nil)) .nil)
noncomputable def b__law_TAGS:MSs:=(.cons (.ret (.list none (.cons (.tup (.cons (.k (.none)) (.cons (.k (.str [])) .nil))) (.cons (.tup (.cons (.k (.str [33,116])) (.cons (.k (.str [33,116])) .nil))) (.cons (.tup (.cons (.k (.str [116,97,103,58,121,97,109,108,46,111,114,103,44,50,48,48,50,58,115,116,114])) (.cons (.k (.str [33,33,115,116,114])) .nil))) (.cons (.tup (.cons (.k (.str [120,58,121])) (.cons (.k (.str [33,60,120,58,121,62])) .nil))) .nil)))))) .nil)
noncomputable def b__law_key:MSs:=(.cons (.asg [.v 1] (.bin .mod (.sub (.v 0) (.k (.int 0))) (.k (.int 8)))) (.cons (.asg [.v 2] (.bin .add (.k (.int 1)) (.bin .mod (.bin .fdiv (.sub (.v 0) (.k (.int 0))) (.k (.int 8))) (.k (.int 5))))) (.cons (.asg [.v 3] (.bin .mul (.k (.str [110])) (.sub (.list none (.cons (.k (.int 0)) (.cons (.bin .add (.k (.int 1)) (.bin .mod (.bin .fdiv (.sub (.v 0) (.k (.int 1))) (.k (.int 3))) (.k (.int 4)))) (.cons (.bin .add (.k (.int 110)) (.bin .mod (.bin .fdiv (.sub (.v 0) (.k (.int 1))) (.k (.int 3))) (.k (.int 20)))) .nil)))) (.bin .mod (.sub (.v 0) (.k (.int 1))) (.k (.int 3)))))) (.cons (.asg [.tup [4,5]] (.sub (.call 17 .nil .nil) (.bin .mod (.sub (.v 0) (.k (.int 2))) (.k (.int 4))))) (.cons (.asg [.v 6] (.bo true (.cons (.cmp (.v 4) (.cons .isNot (.k (.none)) .nil)) (.cons (.cmp (.bin .mod (.bin .fdiv (.sub (.v 0) (.k (.int 2))) (.k (.int 4))) (.k (.int 2))) (.cons .eq (.k (.int 0)) .nil)) .nil)))) (.cons (.ret (.tup (.cons (.v 1) (.cons (.v 2) (.cons (.v 3) (.cons (.v 4) (.cons (.v 5) (.cons (.v 6) .nil)))))))) .nil))))))
noncomputable def b__law_events:MSs:=(.cons (.asg [.tup [1,2,3,4,5,6]] (.v 0)) (.cons (.asg [.v 7] (.ife (.val (.v 3)) (.v 3) (.k (.none)))) (.cons (.ife (.cmp (.v 1) (.cons .eq (.k (.int 3)) .nil)) (.cons (.ret (.list none (.cons (.call 10 (.cons (.ife (.val (.v 3)) (.v 3) (.k (.str [110]))) .nil) .nil) .nil))) .nil) .nil) (.cons (.ife (.cmp (.v 1) (.cons .eq (.k (.int 4)) .nil)) (.cons (.ret (.list none (.cons (.call 2 (.cons (.v 7) (.cons (.v 4) (.cons (.not (.v 6)) .nil))) (.cons 16 (.k (.bool false)) .nil)) (.cons (.call 12 .nil .nil) .nil)))) .nil) .nil) (.cons (.ife (.cmp (.v 1) (.cons .eq (.k (.int 5)) .nil)) (.cons (.ret (.list none (.cons (.call 3 (.cons (.v 7) (.cons (.v 4) (.cons (.not (.v 6)) .nil))) (.cons 16 (.k (.bool false)) .nil)) (.cons (.call 13 .nil .nil) .nil)))) .nil) .nil) (.cons (.asg [.v 8] (.subd [0,1,2,6,7] (.cons (.bin .mul (.k (.str [97])) (.v 2)) (.cons (.bin .mul (.k (.str [97])) (.v 2)) (.cons (.bin .mul (.k (.str [97])) (.v 2)) (.cons (.k (.str [])) (.cons (.k (.str [97,10,98])) .nil))))) (.v 1))) (.cons (.asg [.v 9] (.subd [0,1,2,6,7] (.cons (.k (.none)) (.cons (.k (.str [39])) (.cons (.k (.str [34])) (.cons (.k (.none)) (.cons (.k (.str [39])) .nil))))) (.v 1))) (.cons (.ret (.list none (.cons (.call 11 (.cons (.v 7) (.cons (.v 4) (.cons (.tup (.cons (.not (.v 6)) (.cons (.not (.v 6)) .nil))) (.cons (.v 8) .nil)))) (.cons 22 (.v 9) .nil)) .nil))) .nil))))))))
noncomputable def b__law_parts:MSs:=(.cons (.asg [.tup [4,5,6,7,8,9]] (.v 0)) (.cons (.ife (.cmp (.v 4) (.cons .eq (.k (.int 3)) .nil)) (.cons (.ret (.tup (.cons (.list none (.cons (.bin .add (.k (.str [42])) (.ife (.val (.v 6)) (.v 6) (.k (.str [110])))) .nil)) (.cons (.cmp (.call 4 (.cons (.v 6) .nil) .nil) (.cons .lt (.k (.int 128)) .nil)) .nil)))) .nil) .nil) (.cons (.asg [.v 10] (.bin .add (.ife (.val (.v 6)) (.list none (.cons (.bin .add (.k (.str [38])) (.v 6)) .nil)) (.list none .nil)) (.ife (.val (.v 9)) (.list none (.cons (.v 8) .nil)) (.list none .nil)))) (.cons (.asg [.v 11] (.bin .add (.call 4 (.cons (.v 6) .nil) .nil) (.call 4 (.cons (.v 8) .nil) .nil))) (.cons (.ife (.bo false (.cons (.cmp (.v 4) (.cons .eq (.k (.int 4)) .nil)) (.cons (.cmp (.v 4) (.cons .eq (.k (.int 5)) .nil)) .nil))) (.cons (.ret (.tup (.cons (.bin .add (.v 10) (.list none (.cons (.ife (.cmp (.v 4) (.cons .eq (.k (.int 4)) .nil)) (.k (.str [91,93])) (.k (.str [123,125]))) .nil))) (.cons (.cmp (.v 11) (.cons .lt (.k (.int 128)) .nil)) .nil)))) .nil) .nil) (.cons (.ife (.cmp (.v 4) (.cons .eq (.k (.int 6)) .nil)) (.cons (.ret (.tup (.cons (.ife (.bo false (.cons (.val (.v 1)) (.cons (.val (.v 9)) .nil))) (.bin .add (.v 10) (.list none (.cons (.k (.str [39,39])) .nil))) (.v 10)) (.cons (.k (.bool false)) .nil)))) .nil) .nil) (.cons (.ife (.cmp (.v 4) (.cons .eq (.k (.int 7)) .nil)) (.cons (.ret (.tup (.cons (.bin .add (.v 10) (.list none (.cons (.bin .add (.bin .add (.bin .add (.bin .add (.k (.str [39,97])) (.v 3)) (.v 3)) (.bin .mul (.k (.str [32])) (.v 2))) (.k (.str [98,39]))) .nil))) (.cons (.k (.bool false)) .nil)))) .nil) .nil) (.cons (.asg [.v 12] (.ife (.cmp (.v 4) (.cons .eq (.k (.int 2)) .nil)) (.k (.str [34])) (.ife (.bo false (.cons (.cmp (.v 4) (.cons .eq (.k (.int 1)) .nil)) (.cons (.val (.v 9)) .nil))) (.k (.str [39])) (.k (.str []))))) (.cons (.ret (.tup (.cons (.bin .add (.v 10) (.list none (.cons (.bin .add (.bin .add (.v 12) (.bin .mul (.k (.str [97])) (.v 5))) (.v 12)) .nil))) (.cons (.cmp (.bin .add (.v 11) (.v 5)) (.cons .lt (.k (.int 128)) .nil)) .nil)))) .nil)))))))))
noncomputable def b__law_column:MSs:=(.cons (.ret (.call 4 (.cons (.sub (.mc (.v 0) 4 (.cons (.v 1) .nil) .nil) (.neg (.k (.int 1)))) .nil) .nil)) .nil)
noncomputable def b__law_block:MSs:=(.cons (.asg [.v 3] (.k (.str [45,45,45]))) (.cons (.for 4 (.v 0) (.cons (.asg [.tup [5,6]] (.call 18 (.cons (.v 4) (.cons (.k (.bool false)) (.cons (.v 1) (.cons (.v 2) .nil)))) .nil)) (.cons (.ife (.val (.v 6)) (.cons (.augv 3 .add (.bin .add (.bin .add (.v 2) (.mc (.k (.str [32])) 3 (.cons (.v 5) .nil) .nil)) (.k (.str [58,32,118])))) .nil) (.cons (.augv 3 .add (.bin .add (.bin .add (.bin .add (.v 2) (.mc (.k (.str [32])) 3 (.cons (.bin .add (.list none (.cons (.k (.str [63])) .nil)) (.v 5)) .nil) .nil)) (.v 2)) (.k (.str [58,32,118])))) .nil)) .nil))) (.cons (.ret (.v 3)) .nil)))
noncomputable def b__law_braces:MSs:=(.cons (.asg [.v 4] (.k (.str [45,45,45,32,123]))) (.cons (.forr 5 (.call 4 (.cons (.v 0) .nil) .nil) (.cons (.asg [.tup [6,7]] (.call 18 (.cons (.sub (.v 0) (.v 5)) (.cons (.k (.bool true)) (.cons (.bin .mul (.k (.int 2)) (.v 1)) (.cons (.v 3) .nil)))) .nil)) (.cons (.ife (.cmp (.v 5) (.cons .gt (.k (.int 0)) .nil)) (.cons (.augv 4 .add (.k (.str [44]))) (.cons (.augv 4 .add (.ife (.cmp (.call 19 (.cons (.v 4) (.cons (.v 3) .nil)) .nil) (.cons .gt (.v 2) .nil)) (.bin .add (.v 3) (.bin .mul (.k (.str [32])) (.v 1))) (.k (.str [32])))) .nil)) .nil) (.cons (.ife (.val (.v 7)) (.cons (.augv 4 .add (.bin .add (.mc (.k (.str [32])) 3 (.cons (.v 6) .nil) .nil) (.k (.str [58,32,118])))) .nil) (.cons (.augv 4 .add (.mc (.k (.str [32])) 3 (.cons (.bin .add (.list none (.cons (.k (.str [63])) .nil)) (.v 6)) .nil) .nil)) (.cons (.augv 4 .add (.bin .add (.ife (.cmp (.call 19 (.cons (.v 4) (.cons (.v 3) .nil)) .nil) (.cons .gt (.v 2) .nil)) (.bin .add (.v 3) (.bin .mul (.k (.str [32])) (.v 1))) (.k (.str [32]))) (.k (.str [58,32,118])))) .nil))) .nil)))) (.cons (.ret (.bin .add (.v 4) (.k (.str [125])))) .nil)))
noncomputable def b__law:MSs:=(.cons (.asg [.v 1] (.bin .add (.comp 5040 (.sl (.v 0) .abs (.k (.int 2)))) (.list none (.cons (.k (.int 0)) (.cons (.k (.int 0)) .nil))))) (.cons (.asg [.v 2] (.cmp (.bin .mod (.sub (.v 1) (.k (.int 0))) (.k (.int 2))) (.cons .eq (.k (.int 1)) .nil))) (.cons (.asg [.v 3] (.sub (.list none (.cons (.k (.none)) (.cons (.k (.int 4)) (.cons (.k (.int 2)) (.cons (.k (.int 9)) (.cons (.k (.int 1)) (.cons (.k (.int 3)) (.cons (.k (.int 10)) (.cons (.k (.int 0)) .nil))))))))) (.bin .mod (.bin .fdiv (.sub (.v 1) (.k (.int 0))) (.k (.int 2))) (.k (.int 8))))) (.cons (.asg [.v 4] (.sub (.list none (.cons (.k (.none)) (.cons (.k (.str [13,10])) (.cons (.k (.str [13])) (.cons (.k (.str [10])) (.cons (.k (.str [133])) .nil)))))) (.bin .mod (.sub (.v 1) (.k (.int 1))) (.k (.int 5))))) (.cons (.asg [.v 5] (.sub (.list none (.cons (.k (.none)) (.cons (.k (.int 9)) (.cons (.k (.int 20)) (.cons (.k (.int 5)) (.cons (.k (.int 12)) (.cons (.k (.int 30)) (.cons (.k (.int 120)) (.cons (.k (.int 0)) .nil))))))))) (.bin .mod (.bin .fdiv (.sub (.v 1) (.k (.int 1))) (.k (.int 5))) (.k (.int 8))))) (.cons (.asg [.v 6] (.ife (.cmp (.v 3) (.cons .inn (.list none (.cons (.k (.int 2)) (.cons (.k (.int 3)) (.cons (.k (.int 4)) (.cons (.k (.int 9)) .nil))))) .nil)) (.v 3) (.k (.int 2)))) (.cons (.asg [.v 7] (.ife (.bo true (.cons (.cmp (.v 5) (.cons .isNot (.k (.none)) .nil)) (.cons (.cmp (.v 5) (.cons .gt (.bin .mul (.k (.int 2)) (.v 6)) .nil)) .nil))) (.v 5) (.k (.int 80)))) (.cons (.asg [.v 8] (.ife (.cmp (.v 4) (.cons .inn (.list none (.cons (.k (.str [13,10])) (.cons (.k (.str [13])) (.cons (.k (.str [10])) .nil)))) .nil)) (.v 4) (.k (.str [10])))) (.cons (.asgo 9 .nil) (.cons (.forr 10 (.k (.int 4)) (.cons (.asg [.v 11] (.comp 5040 (.sl (.v 0) (.bin .add (.k (.int 2)) (.bin .mul (.k (.int 3)) (.v 10))) (.bin .add (.k (.int 5)) (.bin .mul (.k (.int 3)) (.v 10)))))) (.cons (.ife (.bo false (.cons (.val (.v 11)) (.cons (.cmp (.v 10) (.cons .eq (.k (.int 0)) .nil)) .nil))) (.cons (.app 9 (.call 25 (.cons (.bin .add (.v 11) (.list none (.cons (.k (.int 0)) (.cons (.k (.int 0)) (.cons (.k (.int 0)) .nil))))) .nil) .nil)) .nil) .nil) .nil))) (.cons (.asgo 12 (.cons (.call 9 .nil .nil) (.cons (.call 1 .nil (.cons 18 (.k (.bool true)) .nil)) (.cons (.call 3 (.cons (.k (.none)) (.cons (.k (.none)) (.cons (.k (.bool true)) .nil))) (.cons 16 (.v 2) .nil)) .nil)))) (.cons (.for 13 (.v 9) (.cons (.augo 12 (.bin .add (.call 24 (.cons (.v 13) .nil) .nil) (.list none (.cons (.call 11 (.cons (.k (.none)) (.cons (.k (.none)) (.cons (.tup (.cons (.k (.bool true)) (.cons (.k (.bool false)) .nil))) (.cons (.k (.str [118])) .nil)))) .nil) .nil)))) .nil)) (.cons (.augo 12 (.list none (.cons (.call 13 .nil .nil) (.cons (.call 7 .nil (.cons 18 (.k (.bool true)) .nil)) (.cons (.call 8 .nil .nil) .nil))))) (.cons (.asg [.v 14] (.call 22 (.cons (.call 23 .nil .nil) .nil) (.cons 33 (.v 3) (.cons 34 (.v 5) (.cons 36 (.v 4) .nil))))) (.cons (.for 15 (.v 12) (.cons (.expr (.mc (.v 14) 138 (.cons (.v 15) .nil) .nil)) .nil)) (.cons (.asg [.v 16] (.ife (.val (.v 2)) (.call 20 (.cons (.v 9) (.cons (.v 6) (.cons (.v 7) (.cons (.v 8) .nil)))) .nil) (.call 21 (.cons (.v 9) (.cons (.v 6) (.cons (.v 8) .nil))) .nil))) (.cons (.ret (.cmp (.mc (.at (.v 14) 31) 51 .nil .nil) (.cons .eq (.bin .add (.bin .add (.bin .add (.v 16) (.v 8)) (.k (.str [46,46,46]))) (.v 8)) .nil))) .nil)))))))))))))))))
noncomputable def bodyL:List (Nat × MSs):=[(3,b_Event_init),(4,b_NodeEvent_init),(7,b_CollectionStartEvent_init),(4,b_StreamStartEvent_init),(6,b_DocumentStartEvent_init),(4,b_DocumentEndEvent_init),(8,b_ScalarEvent_init),(9,b_ScalarAnalysis_init),(7,b_Emitter_init),(2,b_Emitter_emit),(2,b_Emitter_need_more_events),(4,b_Emitter_need_events),(3,b_Emitter_increase_indent),(1,b_Emitter_expect_stream_start),(1,b_Emitter_expect_nothing),(1,b_Emitter_expect_first_document_start),(9,b_Emitter_expect_document_start),(1,b_Emitter_expect_document_end),(1,b_Emitter_expect_document_root),(5,b_Emitter_expect_node),(1,b_Emitter_expect_alias),(1,b_Emitter_expect_scalar),(1,b_Emitter_expect_flow_sequence),(1,b_Emitter_expect_first_flow_sequence_item),(1,b_Emitter_expect_flow_sequence_item),(1,b_Emitter_expect_flow_mapping),(1,b_Emitter_expect_first_flow_mapping_key),(1,b_Emitter_expect_flow_mapping_key),(1,b_Emitter_expect_flow_mapping_simple_value),(1,b_Emitter_expect_flow_mapping_value),(2,b_Emitter_expect_block_sequence),(1,b_Emitter_expect_first_block_sequence_item),(2,b_Emitter_expect_block_sequence_item),(1,b_Emitter_expect_block_mapping),(1,b_Emitter_expect_first_block_mapping_key),(2,b_Emitter_expect_block_mapping_key),(1,b_Emitter_expect_block_mapping_simple_value),(1,b_Emitter_expect_block_mapping_value),(1,b_Emitter_check_empty_sequence),(1,b_Emitter_check_empty_mapping),(2,b_Emitter_check_empty_document),(2,b_Emitter_check_simple_key),(2,b_Emitter_process_anchor),(2,b_Emitter_process_tag),(1,b_Emitter_choose_scalar_style),(2,b_Emitter_process_scalar),(12,b_Emitter_prepare_tag),(3,b_Emitter_prepare_anchor),(24,b_Emitter_analyze_scalar),(1,b_Emitter_flush_stream),(1,b_Emitter_write_stream_start),(1,b_Emitter_write_stream_end),(6,b_Emitter_write_indicator),(3,b_Emitter_write_indent),(2,b_Emitter_write_line_break),(10,b_Emitter_write_single_quoted),(7,b_Emitter_write_double_quoted),(3,b_Emitter_determine_block_hints),(9,b_Emitter_write_literal),(10,b_Emitter_write_plain),(1,b_Rows_init),(2,b_Rows_write),(1,b_Rows_text),(0,b__law_TAGS),(7,b__law_key),(10,b__law_events),(13,b__law_parts),(2,b__law_column),(7,b__law_block),(8,b__law_braces),(17,b__law)]
noncomputable def body (f:Nat):Option (Nat × MSs):=nth bodyL f
noncomputable def fnParL:List (List (Nat × Option MV)):=[[(10,none),(11,some (.none)),(12,some (.none))],[(10,none),(13,none),(11,some (.none)),(12,some (.none))],[(10,none),(13,none),(14,none),(15,none),(11,some (.none)),(12,some (.none)),(16,some (.none))],[(10,none),(11,some (.none)),(12,some (.none)),(17,some (.none))],[(10,none),(11,some (.none)),(12,some (.none)),(18,some (.none)),(19,some (.none)),(20,some (.none))],[(10,none),(11,some (.none)),(12,some (.none)),(18,some (.none))],[(10,none),(13,none),(14,none),(15,none),(21,none),(11,some (.none)),(12,some (.none)),(22,some (.none))],[(10,none),(23,none),(24,none),(25,none),(26,none),(27,none),(28,none),(29,none),(30,none)],[(10,none),(31,none),(32,some (.none)),(33,some (.none)),(34,some (.none)),(35,some (.none)),(36,some (.none))],[(10,none),(37,none)],[(10,none)],[(10,none),(38,none)],[(10,none),(39,some (.bool false)),(40,some (.bool false))],[(10,none)],[(10,none)],[(10,none)],[(10,none),(41,some (.bool false))],[(10,none)],[(10,none)],[(10,none),(42,some (.bool false)),(43,some (.bool false)),(44,some (.bool false)),(45,some (.bool false))],[(10,none)],[(10,none)],[(10,none)],[(10,none)],[(10,none)],[(10,none)],[(10,none)],[(10,none)],[(10,none)],[(10,none)],[(10,none)],[(10,none)],[(10,none),(41,some (.bool false))],[(10,none)],[(10,none)],[(10,none),(41,some (.bool false))],[(10,none)],[(10,none)],[(10,none)],[(10,none)],[(10,none)],[(10,none)],[(10,none),(46,none)],[(10,none)],[(10,none)],[(10,none)],[(10,none),(14,none)],[(10,none),(13,none)],[(10,none),(23,none)],[(10,none)],[(10,none)],[(10,none)],[(10,none),(46,none),(47,none),(48,some (.bool false)),(49,some (.bool false))],[(10,none)],[(10,none),(50,some (.none))],[(10,none),(51,none),(4,some (.bool true))],[(10,none),(51,none),(4,some (.bool true))],[(10,none),(51,none)],[(10,none),(51,none)],[(10,none),(51,none),(4,some (.bool true))],[(10,none)],[(10,none),(50,none)],[(10,none)],[],[(52,none)],[(53,none)],[(53,none),(39,none),(33,none),(54,none)],[(51,none),(54,none)],[(6,none),(55,none),(54,none)],[(6,none),(55,none),(56,none),(54,none)],[(57,none)]]
noncomputable def fnPar (f:Nat):List (Nat × Option MV):=(nth fnParL f).getD []
noncomputable def clsFieldsL:List (List Nat):=[[],[11,12],[13,11,12],[13,14,15,11,12,16],[11,12],[11,12,17],[11,12],[11,12,18,19,20],[11,12,18],[13,11,12],[13,14,15,21,11,12,22],[13,14,15,11,12,16],[11,12],[13,14,15,11,12,16],[11,12],[],[23,24,25,26,27,28,29,30],[31,17,74,58,75,37,76,33,59,60,61,62,63,64,65,48,49,66,32,35,67,68,69,70,71,72,73,22],[77]]
noncomputable def clsFields (c:Nat):List Nat:=(nth clsFieldsL c).getD []
noncomputable def clsInitL:List (Option Nat):=[none,some 0,some 1,some 2,some 0,some 3,some 0,some 4,some 5,some 1,some 6,some 2,some 0,some 2,some 0,none,some 7,some 8,some 60]
noncomputable def clsInit (c:Nat):Option Nat:=(nth clsInitL c).getD none
noncomputable def clsMethL:List (List (Nat × Nat)):=[[],[],[],[],[],[],[],[],[],[],[],[],[],[],[],[],[],[(138,9),(79,10),(80,11),(110,12),(78,13),(94,14),(81,15),(83,16),(98,17),(84,18),(97,19),(99,20),(100,21),(102,22),(111,23),(112,24),(105,25),(113,26),(117,27),(115,28),(116,29),(103,30),(118,31),(119,32),(106,33),(120,34),(121,35),(122,36),(123,37),(101,38),(104,39),(87,40),(114,41),(108,42),(107,43),(127,44),(109,45),(125,46),(126,47),(124,48),(96,49),(82,50),(95,51),(86,52),(85,53),(135,54),(129,55),(128,56),(137,57),(131,58),(132,59)],[(134,61),(51,62)]]
noncomputable def clsMeth (c n:Nat):Option Nat:=(nth clsMethL c).bind fun l=>lookN l n
noncomputable def clsAttrL:List (List (Nat × MV)):=[[],[],[],[],[],[],[],[],[],[],[],[],[],[],[],[],[],[(91,.sd [([33],[33]),([116,97,103,58,121,97,109,108,46,111,114,103,44,50,48,48,50,58],[33,33])])],[]]
noncomputable def clsAttr (c n:Nat):Option MV:=(nth clsAttrL c).bind fun l=>lookN l n
noncomputable def clsSubL:List (List Nat):=[[0],[1],[2,1],[3,2,1],[4,1],[5,1],[6,1],[7,1],[8,1],[9,2,1],[10,2,1],[11,3,2,1],[12,4,1],[13,3,2,1],[14,4,1],[15,0],[16],[17],[18]]
noncomputable def clsSub (c d:Nat):Bool:=((nth clsSubL c).getD []).any (Nat.beq d)
noncomputable def gvalL:List (Option MV):=[some (.bi 1),some (.cls 7),some (.cls 11),some (.cls 13),some (.bi 0),some (.cls 3),some (.cls 4),some (.cls 8),some (.cls 6),some (.cls 5),some (.cls 9),some (.cls 10),some (.cls 12),some (.cls 14),some (.cls 2),some (.cls 16),none,some (.fn 63),some (.fn 66),some (.fn 67),some (.fn 69),some (.fn 68),some (.cls 17),some (.cls 18),some (.fn 65),some (.fn 64)]
noncomputable def gval (x:Nat):Option MV:=(nth gvalL x).getD none
noncomputable def T:Tab:={ fnPar,clsFields,clsMeth,clsAttr,clsInit,clsSub,gval,emC:=17,body }
end Mine.L1
namespace Mine
open PySem PySem.W PyProof.Rows
structure Nm where
  T:Tab
  nm:Nat → Str
  natr:Nat
  fna:Nat → Addr
  cla:Nat → Addr
  bin:Nat → Value
  P:Params
  h₀:Heap
structure Wd where
  ρ:Loc → Option Addr
  G:Addr → Option Obj
structure Wd.Ext (w w':Wd):Prop where
  ρ:∀ l a,w.ρ l = some a → w'.ρ l = some a
  G:∀ a o,w.G a = some o → w'.G a = some o
theorem Wd.Ext.refl (w:Wd):w.Ext w:=⟨fun _ _ h=>h,fun _ _ h=>h⟩
theorem Wd.Ext.trans {a b c:Wd} (x:a.Ext b) (y:b.Ext c):a.Ext c:=⟨fun l v h=>y.ρ _ _ (x.ρ _ _ h),fun l v h=>y.G _ _ (x.G _ _ h)⟩
noncomputable def strOf (s:Tx):Str:=⟨s.toArray⟩
noncomputable def isListO (o:Obj) (vals:List Value):Prop:=vals.length ≤ lim ∧ o.cls = .type "list" ∧ ∃ n,o.data = .seq vals.toArray n
noncomputable def isTupO (o:Obj) (vals:List Value):Prop:=vals.length ≤ lim ∧ o.cls = .type "tuple" ∧ ∃ n,o.data = .seq vals.toArray n
noncomputable def isNsO (o:Obj) (m:Str → Option Value):Prop:=∃ es ep,o.data = .dict es ep ∧ StrKeys es ∧ ∀ name,nsFind es name = m name
noncomputable def isNsB (o:Obj) (m:Str → Option Value) (b:Nat):Prop:=∃ es ep,o.data = .dict es ep ∧ es.size ≤ b ∧ StrKeys es ∧ ∀ name,nsFind es name = m name
theorem isNsB.ns {o:Obj} {m:Str → Option Value} {b:Nat} (h:isNsB o m b):isNsO o m:=let ⟨es,ep,h1,_,h3⟩:=h;⟨es,ep,h1,h3⟩
noncomputable def cnt (fs:List (Option MV)):Nat:=(fs.filter (·.isSome)).length
noncomputable def SdRel (P:Params) (l:List (Tx × Tx)):List DictEntry → Prop:=
  List.rec (motive:=fun _=>List DictEntry → Prop) (fun es=>es = []) (fun p _ ih es=>∃ t t' r,p.1.length ≤ lim ∧ p.2.length ≤ lim ∧ es = ⟨PyData.keyHash P (strOf p.1),.str (strOf p.1) t,.str (strOf p.2) t'⟩ :: r ∧ ih r) l
noncomputable def metO (N:Nm) (f:Nat) (a:Addr):Obj:=methodObj (.ref (N.fna f)) (.ref a)
inductive InstR (N:Nm) (w:Wd) (c:Nat) (vals:List Value):Value → Prop
  | mk {q dx:Addr} {od:Obj} {m:Str → Option Value} (hc:(N.T.clsInit c).isSome = true) (hq:w.G q = some (instObj (N.cla c) dx)) (hd:w.G dx = some od) (hm:isNsO od m) (hf:∀ n,n < N.natr → m (N.nm n) = (fieldIx (N.T.clsFields c) n).bind (nth vals)):InstR N w c vals (.ref q)
inductive SeqR (w:Wd) (p:Obj → List Value → Prop) (vals:List Value):Value → Prop
  | mk {q:Addr} {o:Obj} (hq:w.G q = some o) (ho:p o vals):SeqR w p vals (.ref q)
inductive MethR (N:Nm) (w:Wd) (f:Nat) (l:Loc):Value → Prop
  | mk {x q:Addr} (hb:(N.T.body f).isSome = true) (hl:w.ρ l = some x) (hq:w.G q = some (metO N f x)):MethR N w f l (.ref q)
inductive SdR (N:Nm) (w:Wd) (kvs:List (Tx × Tx)):Value → Prop
  | mk {es:List DictEntry} {n:Nat} {q:Addr} (hnd:(kvs.map (·.1)).Nodup) (hlo:(q == sysModules) = false) (hq:w.G q = some ⟨.type "dict",Option.none,.dict es.toArray n,#[]⟩) (hr:SdRel N.P kvs es):SdR N w kvs (.ref q)
section
variable (N:Nm) (w:Wd)
noncomputable def VRel (v:MV):Value → Prop:=MV.rec (motive_1:=fun _=>Value → Prop) (motive_2:=fun _=>List Value → Prop)
  (fun a=>a = .none) (fun b a=>a = .bool b) (fun i a=>∃ t,a = .int i t) (fun s a=>s.length ≤ lim ∧ ∃ t,a = .str (strOf s) t) (fun l a=>∃ q,w.ρ l = some q ∧ a = .ref q)
  (fun f a=>a = .ref (N.fna f)) (fun c a=>a = .ref (N.cla c)) (fun b a=>a = N.bin b) (fun f l=>MethR N w f l) (fun c _ ih a=>∃ vals,ih vals ∧ InstR N w c vals a)
  (fun _ ih a=>∃ vals,ih vals ∧ SeqR w isListO vals a) (fun _ ih a=>∃ vals,ih vals ∧ SeqR w isTupO vals a) (fun kvs=>SdR N w kvs)
  (fun as=>as = []) (fun _ _ i1 i2 as=>∃ a r,as = a :: r ∧ i1 a ∧ i2 r) v
noncomputable def VRels (vs:List MV):List Value → Prop:=List.rec (motive:=fun _=>List Value → Prop) (fun as=>as = []) (fun v _ ih as=>∃ a r,as = a :: r ∧ VRel N w v a ∧ ih r) vs
end
section
variable {N:Nm} {w w':Wd}
theorem vrels_eq (vs:List MV):MV.rec_1 (motive_1:=fun _=>Value → Prop) (motive_2:=fun _=>List Value → Prop)
  (fun a=>a = .none) (fun b a=>a = .bool b) (fun i a=>∃ t,a = .int i t) (fun s a=>s.length ≤ lim ∧ ∃ t,a = .str (strOf s) t) (fun l a=>∃ q,w.ρ l = some q ∧ a = .ref q)
  (fun f a=>a = .ref (N.fna f)) (fun c a=>a = .ref (N.cla c)) (fun b a=>a = N.bin b) (fun f l=>MethR N w f l) (fun c _ ih a=>∃ vals,ih vals ∧ InstR N w c vals a)
  (fun _ ih a=>∃ vals,ih vals ∧ SeqR w isListO vals a) (fun _ ih a=>∃ vals,ih vals ∧ SeqR w isTupO vals a) (fun kvs=>SdR N w kvs)
  (fun as=>as = []) (fun _ _ i1 i2 as=>∃ a r,as = a :: r ∧ i1 a ∧ i2 r) vs = VRels N w vs:=by
  induction vs with
  | nil=>rfl
  | cons v vs ih=>exact congrArg (fun X=>fun as=>∃ a r,as = a :: r ∧ VRel N w v a ∧ X r) ih
theorem VRel.inst_eq {c:Nat} {fs:List MV} {a:Value}:VRel N w (.inst c fs) a = ∃ vals,VRels N w fs vals ∧ InstR N w c vals a:=congrArg (fun X:List Value → Prop=>∃ vals,X vals ∧ InstR N w c vals a) (vrels_eq fs)
theorem VRel.lst_eq {vs:List MV} {a:Value}:VRel N w (.lst vs) a = ∃ vals,VRels N w vs vals ∧ SeqR w isListO vals a:=congrArg (fun X:List Value → Prop=>∃ vals,X vals ∧ SeqR w isListO vals a) (vrels_eq vs)
theorem VRel.tup_eq {vs:List MV} {a:Value}:VRel N w (.tup vs) a = ∃ vals,VRels N w vs vals ∧ SeqR w isTupO vals a:=congrArg (fun X:List Value → Prop=>∃ vals,X vals ∧ SeqR w isTupO vals a) (vrels_eq vs)
theorem VRel.none:VRel N w .none .none:=rfl
theorem VRel.bool (b:Bool):VRel N w (.bool b) (.bool b):=rfl
theorem VRel.int (i:Int) (t:Tok):VRel N w (.int i) (.int i t):=⟨t,rfl⟩
theorem VRel.str {s:Tx} (t:Tok) (hs:s.length ≤ lim):VRel N w (.str s) (.str (strOf s) t):=⟨hs,t,rfl⟩
theorem VRel.loc {l:Loc} {a:Addr} (h:w.ρ l = some a):VRel N w (.loc l) (.ref a):=⟨a,h,rfl⟩
theorem VRel.fn (f:Nat):VRel N w (.fn f) (.ref (N.fna f)):=rfl
theorem VRel.cls (c:Nat):VRel N w (.cls c) (.ref (N.cla c)):=rfl
theorem VRel.bi (b:Nat):VRel N w (.bi b) (N.bin b):=rfl
theorem VRel.lst {vs:List MV} {vals:List Value} {q:Addr} {o:Obj} (hq:w.G q = some o) (ho:isListO o vals) (hr:VRels N w vs vals):VRel N w (.lst vs) (.ref q):=VRel.lst_eq.mpr ⟨vals,hr,hq,ho⟩
theorem VRels.nil:VRels N w [] []:=rfl
theorem VRels.cons {v a vs as} (h:VRel N w v a) (r:VRels N w vs as):VRels N w (v :: vs) (a :: as):=⟨a,as,rfl,h,r⟩
theorem VRels.cons_inv {v:MV} {vs:List MV} {as:List Value} (h:VRels N w (v :: vs) as):∃ a r,as = a :: r ∧ VRel N w v a ∧ VRels N w vs r:=h
theorem VRels.one_inv {v:MV} {as:List Value} (h:VRels N w [v] as):∃ a,as = [a] ∧ VRel N w v a:=by obtain ⟨a,_,rfl,h,rfl⟩:=h;exact ⟨a,rfl,h⟩
theorem VRel.int_inv {i:Int} {a:Value} (h:VRel N w (.int i) a):∃ t,a = .int i t:=h
theorem VRel.str_inv {s:Tx} {a:Value} (h:VRel N w (.str s) a):s.length ≤ lim ∧ ∃ t,a = .str (strOf s) t:=h
theorem VRel.loc_inv {l:Loc} {a:Value} (h:VRel N w (.loc l) a):∃ q,w.ρ l = some q ∧ a = .ref q:=h
theorem InstR.map (hG:∀ a o,w.G a = some o → w'.G a = some o) {c:Nat} {vals:List Value} {a:Value} (h:InstR N w c vals a):InstR N w' c vals a:=by cases h with | mk k1 k2 k3 k4 k5=>exact ⟨k1,hG _ _ k2,hG _ _ k3,k4,k5⟩
theorem SeqR.map (hG:∀ a o,w.G a = some o → w'.G a = some o) {p:Obj → List Value → Prop} {vals:List Value} {a:Value} (h:SeqR w p vals a):SeqR w' p vals a:=by cases h with | mk k1 k2=>exact ⟨hG _ _ k1,k2⟩
theorem MethR.map {f:Nat} {l:Loc} (hl:∀ a,w.ρ l = some a → w'.ρ l = some a) (hG:∀ a o,w.G a = some o → w'.G a = some o) {a:Value} (h:MethR N w f l a):MethR N w' f l a:=by cases h with | mk k1 k2 k3=>exact ⟨k1,hl _ k2,hG _ _ k3⟩
theorem SdR.map (hG:∀ a o,w.G a = some o → w'.G a = some o) {kvs:List (Tx × Tx)} {a:Value} (h:SdR N w kvs a):SdR N w' kvs a:=by cases h with | mk k1 k2 k3 k4=>exact ⟨k1,k2,hG _ _ k3,k4⟩
theorem exMap {α:Type} {p p' r r':α → Prop} (h1:∀ x,p x → p' x) (h2:∀ x,r x → r' x) (h:∃ x,p x ∧ r x):∃ x,p' x ∧ r' x:=h.elim fun x h=>⟨x,h1 x h.1,h2 x h.2⟩
theorem consMap {p p':Value → Prop} {r r':List Value → Prop} {as:List Value} (h1:∀ x,p x → p' x) (h2:∀ x,r x → r' x) (h:∃ a s,as = a :: s ∧ p a ∧ r s):∃ a s,as = a :: s ∧ p' a ∧ r' s:=h.elim fun a h=>h.elim fun s h=>⟨a,s,h.1,h1 a h.2.1,h2 s h.2.2⟩
theorem VRel.map {p:MV → Prop} {ps:List MV → Prop} (hl:∀ l a,p (.loc l) → w.ρ l = some a → w'.ρ l = some a) (hm:∀ f l a,p (.meth f l) → w.ρ l = some a → w'.ρ l = some a) (hG:∀ a o,w.G a = some o → w'.G a = some o)
    (h1:∀ c fs,p (.inst c fs) → ps fs) (h2:∀ vs,p (.lst vs) → ps vs) (h3:∀ vs,p (.tup vs) → ps vs) (h4:∀ v vs,ps (v :: vs) → p v ∧ ps vs) (v:MV):p v → ∀ {a},VRel N w v a → VRel N w' v a:=
  MV.rec (motive_1:=fun v=>p v → ∀ {a},VRel N w v a → VRel N w' v a) (motive_2:=fun vs=>ps vs → ∀ {as},VRels N w vs as → VRels N w' vs as)
    (fun _ _ h=>h) (fun _ _ _ h=>h) (fun _ _ _ h=>h) (fun _ _ _ h=>h) (fun l e _ h=>exMap (fun q=>hl l q e) (fun _ h=>h) h) (fun _ _ _ h=>h) (fun _ _ _ h=>h) (fun _ _ _ h=>h)
    (fun f l e _ h=>MethR.map (fun a=>hm f l a e) hG h)
    (fun c fs ih e _ h=>VRel.inst_eq.mpr (exMap (fun _=>ih (h1 c fs e)) (fun _=>InstR.map hG) (VRel.inst_eq.mp h)))
    (fun vs ih e _ h=>VRel.lst_eq.mpr (exMap (fun _=>ih (h2 vs e)) (fun _=>SeqR.map hG) (VRel.lst_eq.mp h)))
    (fun vs ih e _ h=>VRel.tup_eq.mpr (exMap (fun _=>ih (h3 vs e)) (fun _=>SeqR.map hG) (VRel.tup_eq.mp h)))
    (fun _ _ _ h=>SdR.map hG h)
    (fun _ _ h=>h) (fun v vs i1 i2 e _ h=>consMap (fun _=>i1 (h4 v vs e).1) (fun _=>i2 (h4 v vs e).2) h) v
theorem VRels.all {p:MV → Prop} {ps:List MV → Prop} (h4:∀ v vs,ps (v :: vs) → p v ∧ ps vs) (k:∀ v,p v → ∀ {a},VRel N w v a → VRel N w' v a):∀ vs,ps vs → ∀ {as},VRels N w vs as → VRels N w' vs as:=fun vs=>
  List.rec (motive:=fun vs=>ps vs → ∀ {as},VRels N w vs as → VRels N w' vs as) (fun _ _ h=>h) (fun v vs ih e _ h=>consMap (fun _=>k v (h4 v vs e).1) (fun _=>ih (h4 v vs e).2) h) vs
theorem VRel.mono (x:w.Ext w') {v:MV} {a:Value} (h:VRel N w v a):VRel N w' v a:=
  VRel.map (p:=fun _=>True) (ps:=fun _=>True) (fun l a _=>x.ρ l a) (fun _ l a _=>x.ρ l a) x.G (fun _ _ _=>trivial) (fun _ _=>trivial) (fun _ _=>trivial) (fun _ _ _=>⟨trivial,trivial⟩) v trivial h
theorem VRels.mono (x:w.Ext w') {vs:List MV} {as:List Value} (h:VRels N w vs as):VRels N w' vs as:=
  VRels.all (p:=fun _=>True) (ps:=fun _=>True) (fun _ _ _=>⟨trivial,trivial⟩) (fun v _ _ h=>h.mono x) vs trivial h
end
noncomputable def ORel (N:Nm) (w:Wd) (o:Option MV) (x:Option Value):Prop:=Option.casesOn (motive:=fun _=>Prop) o (x = none) (fun v=>∃ a,x = some a ∧ VRel N w v a)
theorem ORel.mono {N:Nm} {w w':Wd} (x:w.Ext w') {v:Option MV} {a:Option Value} (h:ORel N w v a):ORel N w' v a:=by
  cases v with
  | none=>exact h
  | some v=>exact exMap (fun _ h=>h) (fun _=>VRel.mono x) h
noncomputable def alive (sh:Sto) (l:Loc):Bool:=Loc.casesOn (motive:=fun _=>Bool) l sh.em.isSome sh.em.isSome sh.tmp.isSome sh.tmp.isSome sh.states.isSome sh.events.isSome sh.indents.isSome sh.rows.isSome
noncomputable def ObjR (N:Nm) (w:Wd) (c:Nat) (l:Loc) (o:Obj):Prop:=∃ d,w.ρ l = some d ∧ o = instObj (N.cla c) d
noncomputable def DictR (N:Nm) (w:Wd) (b:Nat) (g:Nat → Option MV) (o:Obj):Prop:=∃ m,isNsB o m b ∧ ∀ n,n < N.natr → ORel N w (g n) (m (N.nm n))
inductive ListR (N:Nm) (w:Wd) (ls:Option (List MV)):Obj → Prop
  | mk {vs:List MV} {vals:List Value} {n:Nat} (he:ls = some vs) (hl:vals.length ≤ lim) (hr:VRels N w vs vals):ListR N w ls (listOf vals.toArray n)
noncomputable def Cont (N:Nm) (w:Wd) (sh:Sto) (l:Loc) (o:Obj):Prop:=Loc.casesOn (motive:=fun _=>Prop) l (ObjR N w N.T.emC .emD o) (∃ E,sh.em = some E ∧ DictR N w 1000 (emAt N.T E) o)
  (∃ p,sh.tmp = some p ∧ (N.T.clsInit p.1).isSome = true ∧ ObjR N w p.1 .tmpD o) (∃ p,sh.tmp = some p ∧ p.2.length = (N.T.clsFields p.1).length ∧ DictR N w (cnt p.2) (tmpAt N.T p.1 p.2) o)
  (ListR N w sh.states o) (ListR N w sh.events o) (ListR N w sh.indents o) (ListR N w sh.rows o)
noncomputable abbrev PMap:=Addr → Option Obj
structure Sh (N:Nm) (w:Wd) (P:PMap) (sh:Sto) (h:Heap):Prop where
  base:∀ a o,N.h₀.get? a = some o → w.G a = some o
  frz:∀ a o,w.G a = some o → h.get? a = some o
  prot:∀ a o,P a = some o → h.get? a = some o
  dis:∀ a o,w.G a = some o → P a = none
  dom:∀ l,(w.ρ l).isSome = alive sh l
  inj:∀ l l' a,w.ρ l = some a → w.ρ l' = some a → l = l'
  sepG:∀ l a,w.ρ l = some a → w.G a = none
  sepP:∀ l a,w.ρ l = some a → P a = none
  cont:∀ l a,w.ρ l = some a → ∃ o,h.get? a = some o ∧ Cont N w sh l o
theorem ObjR.mono {N:Nm} {w w':Wd} (x:w.Ext w') {c:Nat} {l:Loc} {o:Obj} (h:ObjR N w c l o):ObjR N w' c l o:=exMap (fun _=>x.ρ _ _) (fun _ h=>h) h
theorem DictR.mono {N:Nm} {w w':Wd} (x:w.Ext w') {b:Nat} {g:Nat → Option MV} {o:Obj} (h:DictR N w b g o):DictR N w' b g o:=exMap (fun _ h=>h) (fun _ h3 n hn=>(h3 n hn).mono x) h
theorem ListR.mono {N:Nm} {w w':Wd} (x:w.Ext w') {ls:Option (List MV)} {o:Obj} (h:ListR N w ls o):ListR N w' ls o:=by cases h with | mk h1 h2 h3=>exact ⟨h1,h2,h3.mono x⟩
theorem Cont.mono {N:Nm} {w w':Wd} {sh:Sto} (x:w.Ext w') {l:Loc} {o:Obj} (h:Cont N w sh l o):Cont N w' sh l o:=by
  cases l with
  | em=>exact ObjR.mono x h
  | emD=>exact exMap (fun _ h=>h) (fun _=>DictR.mono x) h
  | tmp=>exact exMap (fun _ h=>h) (fun _ h=>⟨h.1,h.2.mono x⟩) h
  | tmpD=>exact exMap (fun _ h=>h) (fun _ h=>⟨h.1,h.2.mono x⟩) h
  | _=>exact ListR.mono x h
section
variable {N:Nm} {w:Wd} {P:PMap} {sh:Sto} {h h':Heap}
theorem Sh.keeps (S:Sh N w P sh h) (k:∀ b o,h.get? b = some o → h'.get? b = some o):Sh N w P sh h':=
  ⟨S.base,fun a o e=>k _ _ (S.frz a o e),fun a o e=>k _ _ (S.prot a o e),S.dis,S.dom,S.inj,S.sepG,S.sepP,fun l a e=>let ⟨o,h1,h2⟩:=S.cont l a e;⟨o,k _ _ h1,h2⟩⟩
noncomputable def Wd.add (w:Wd) (a:Addr) (o:Obj):Wd:={ w with G:=fun b=>if b = a then some o else w.G b }
theorem Wd.add_ext {w:Wd} {a:Addr} {o:Obj} (h:w.G a = none):w.Ext (w.add a o):=⟨fun _ _ e=>e,fun b o' e=>by
  show (if b = a then some o else w.G b) = some o'
  by_cases q:b = a
  · subst q;rw [h] at e;cases e
  · rw [if_neg q];exact e⟩
theorem Wd.add_at {w:Wd} {a:Addr} {o:Obj}:(w.add a o).G a = some o:=if_pos rfl
theorem Sh.add (S:Sh N w P sh h) {a:Addr} {o:Obj} (ho:h.get? a = some o) (hG:w.G a = none) (hP:P a = none) (hρ:∀ l b,w.ρ l = some b → b ≠ a):Sh N (w.add a o) P sh h:=by
  have x:=Wd.add_ext (o:=o) hG
  refine ⟨fun b o' e=>x.G _ _ (S.base b o' e),fun b o' e=>?_,S.prot,fun b o' e=>?_,S.dom,S.inj,fun l b e=>?_,S.sepP,fun l b e=>let ⟨o,h1,h2⟩:=S.cont l b e;⟨o,h1,h2.mono x⟩⟩
  · change (if b = a then some o else w.G b) = some o' at e
    by_cases q:b = a
    · subst q;rw [if_pos rfl] at e;cases e;exact ho
    · rw [if_neg q] at e;exact S.frz _ _ e
  · change (if b = a then some o else w.G b) = some o' at e
    by_cases q:b = a
    · subst q;exact hP
    · rw [if_neg q] at e;exact S.dis _ _ e
  · show (if b = a then some o else w.G b) = none
    rw [if_neg (hρ _ _ e)];exact S.sepG _ _ e
theorem Sh.fresh (S:Sh N w P sh h) {a:Addr} (e:h.get? a = none):w.G a = none ∧ P a = none ∧ ∀ l b,w.ρ l = some b → b ≠ a:=by
  refine ⟨?_,?_,fun l b q z=>?_⟩
  · cases q:w.G a with
    | none=>rfl
    | some o=>rw [S.frz _ _ q] at e;cases e
  · cases q:P a with
    | none=>rfl
    | some o=>rw [S.prot _ _ q] at e;cases e
  · obtain ⟨o,h1,_⟩:=S.cont l b q
    rw [z,e] at h1;cases h1
theorem Sh.addNew (S:Sh N w P sh h) (k:∀ b o,h.get? b = some o → h'.get? b = some o) {a:Addr} {o:Obj} (e:h.get? a = none) (ho:h'.get? a = some o):w.Ext (w.add a o) ∧ Sh N (w.add a o) P sh h':=
  let ⟨f1,f2,f3⟩:=S.fresh e
  ⟨Wd.add_ext f1,(S.keeps k).add ho f1 f2 f3⟩
theorem Sh.set (S:Sh N w P sh h) {sh':Sto} {l:Loc} {a:Addr} {o':Obj} (hl:w.ρ l = some a) (hs:Heap.SameBut a h h') (ho:h'.get? a = some o') (hc:Cont N w sh' l o')
    (hr:∀ l',l' ≠ l → ∀ o,Cont N w sh l' o → Cont N w sh' l' o) (hd:∀ l',alive sh' l' = alive sh l'):Sh N w P sh' h':=by
  refine ⟨S.base,fun b o e=>(hs.2 b fun z=>?_).trans (S.frz _ _ e),fun b o e=>(hs.2 b fun z=>?_).trans (S.prot _ _ e),S.dis,fun l'=>(S.dom l').trans (hd l').symm,S.inj,S.sepG,S.sepP,fun l' b e=>?_⟩
  · rw [z,S.sepG _ _ hl] at e;cases e
  · rw [z,S.sepP _ _ hl] at e;cases e
  · by_cases q:l' = l
    · subst q
      rw [hl] at e;cases e
      exact ⟨o',ho,hc⟩
    · obtain ⟨o,h1,h2⟩:=S.cont l' b e
      refine ⟨o,(hs.2 b fun z=>?_).trans h1,hr l' q o h2⟩
      subst z
      exact q (S.inj _ _ _ e hl)
theorem Sh.other (S:Sh N w P sh h) {a:Addr} (hs:Heap.SameBut a h h') (hG:w.G a = none) (hP:P a = none) (hρ:∀ l b,w.ρ l = some b → b ≠ a):Sh N w P sh h':=by
  refine ⟨S.base,fun b o e=>(hs.2 b fun z=>?_).trans (S.frz _ _ e),fun b o e=>(hs.2 b fun z=>?_).trans (S.prot _ _ e),S.dis,S.dom,S.inj,S.sepG,S.sepP,fun l' b e=>?_⟩
  · rw [z,hG] at e;cases e
  · rw [z,hP] at e;cases e
  · obtain ⟨o,h1,h2⟩:=S.cont l' b e
    exact ⟨o,(hs.2 b (hρ _ _ e)).trans h1,h2⟩
end
inductive OwnR (N:Nm) (w:Wd) (h:Heap) (at_:Option Addr) (vs:List MV):Option Value → Prop
  | mk {vals:List Value} {a:Addr} {n:Nat} (hl:vals.length ≤ lim) (ha:at_ = some a) (ho:h.get? a = some (listOf vals.toArray n)) (hr:VRels N w vs vals):OwnR N w h at_ vs (some (.ref a))
noncomputable def CRel (N:Nm) (w:Wd) (h:Heap) (at_:Option Addr) (c:Cell) (x:Option Value):Prop:=
  Cell.casesOn (motive:=fun _=>Prop) c True (fun v=>∃ a,x = some a ∧ VRel N w v a) fun vs=>OwnR N w h at_ vs x
structure FL where
  a:Addr
  m:Str → Option Value
structure Fm (N:Nm) (w:Wd) (ω:Nat → Option Addr) (P:PMap) (L:FL) (nms:List Str) (st:St) (h:Heap):Prop where
  sh:Sh N w P st.sh h
  LG:w.G L.a = none
  LP:P L.a = none
  Lρ:∀ l b,w.ρ l = some b → b ≠ L.a
  ns:h.Ns L.a L.m
  vs:∀ i x c,nms[i]? = some x → st.vars[i]? = some c → CRel N w h (ω i) c (L.m x)
  ωG:∀ i a,ω i = some a → w.G a = none ∧ P a = none ∧ (∀ l b,w.ρ l = some b → b ≠ a) ∧ a ≠ L.a
  ωi:∀ i j a,ω i = some a → ω j = some a → i = j
  ωo:∀ i a,ω i = some a → (h.get? a).isSome = true
theorem OwnR.mono {N:Nm} {w w':Wd} {h h':Heap} {at_:Option Addr} {c:List MV} {a:Option Value} (x:w.Ext w') (k:∀ b o,at_ = some b → h.get? b = some o → h'.get? b = some o) (r:OwnR N w h at_ c a):OwnR N w' h' at_ c a:=by cases r with | mk k1 k2 k3 k4=>exact ⟨k1,k2,k _ _ k2 k3,k4.mono x⟩
theorem CRel.mono {N:Nm} {w w':Wd} {h h':Heap} {at_:Option Addr} {c:Cell} {a:Option Value} (x:w.Ext w') (k:∀ b o,at_ = some b → h.get? b = some o → h'.get? b = some o) (r:CRel N w h at_ c a):CRel N w' h' at_ c a:=by
  cases c with
  | unset=>trivial
  | val v=>exact exMap (fun _ h=>h) (fun _=>VRel.mono x) r
  | own vs=>exact OwnR.mono x k r
open PySem PySem.W PyProof.Rows
section
variable {N:Nm} {w w':Wd} {ω:Nat → Option Addr} {P:PMap} {L:FL} {nms:List Str} {st:St} {h h':Heap}
theorem Fm.keeps (F:Fm N w ω P L nms st h) (k:∀ b o,h.get? b = some o → h'.get? b = some o):Fm N w ω P L nms st h':=by
  refine ⟨F.sh.keeps k,F.LG,F.LP,F.Lρ,F.ns.keeps k,fun i x c e1 e2=>(F.vs i x c e1 e2).mono (.refl w) fun b o _=>k b o,F.ωG,F.ωi,fun i a e=>?_⟩
  · obtain ⟨o,ho⟩:=Option.isSome_iff_exists.mp (F.ωo i a e)
    rw [k _ _ ho];rfl
theorem Fm.Lsome (F:Fm N w ω P L nms st h):∃ o,h.get? L.a = some o:=let ⟨o,_,_,ho,_⟩:=F.ns;⟨o,ho⟩
theorem Fm.withSh (F:Fm N w ω P L nms st h) {sh':Sto} (x:w.Ext w') (S:Sh N w' P sh' h') (hL:h'.get? L.a = h.get? L.a) (ho:∀ i a,ω i = some a → h'.get? a = h.get? a)
    (gL:w'.G L.a = none) (rL:∀ l b,w'.ρ l = some b → b ≠ L.a) (gω:∀ i a,ω i = some a → w'.G a = none ∧ ∀ l b,w'.ρ l = some b → b ≠ a):Fm N w' ω P L nms { st with sh:=sh' } h':=by
  refine ⟨S,gL,F.LP,rL,?_,fun i x' c e1 e2=>(F.vs i x' c e1 e2).mono x fun b o e3 e4=>(ho i b e3).trans e4,fun i a e=>⟨(gω i a e).1,(F.ωG i a e).2.1,(gω i a e).2,(F.ωG i a e).2.2.2⟩,F.ωi,fun i a e=>?_⟩
  · obtain ⟨o,es,ep,h1,h2⟩:=F.ns
    exact ⟨o,es,ep,hL.trans h1,h2⟩
  · rw [ho i a e];exact F.ωo i a e
theorem Fm.addNew (F:Fm N w ω P L nms st h) (k:∀ b o,h.get? b = some o → h'.get? b = some o) {a:Addr} {o:Obj} (e:h.get? a = none) (ho:h'.get? a = some o) :
    w.Ext (w.add a o) ∧ Fm N (w.add a o) ω P L nms st h':=by
  obtain ⟨x,S⟩:=F.sh.addNew k e ho
  obtain ⟨oL,hL⟩:=F.Lsome
  have q:∀ b,(h.get? b).isSome = true → b ≠ a:=fun b hb z=>by rw [z,e] at hb;cases hb
  refine ⟨x,F.withSh (sh':=st.sh) x S ((k _ _ hL).trans hL.symm) (fun i b hb=>?_) ?_ F.Lρ fun i b hb=>⟨?_,(F.ωG i b hb).2.2.1⟩⟩
  · obtain ⟨o',ho'⟩:=Option.isSome_iff_exists.mp (F.ωo i b hb)
    rw [ho',k _ _ ho']
  · show (if L.a = a then some o else w.G L.a) = none
    rw [if_neg (q L.a (by rw [hL];rfl))];exact F.LG
  · show (if b = a then some o else w.G b) = none
    rw [if_neg (q b (F.ωo i b hb))];exact (F.ωG i b hb).1
theorem Fm.setSh (F:Fm N w ω P L nms st h) {sh':Sto} {l:Loc} {a:Addr} {o':Obj} (hl:w.ρ l = some a) (hs:Heap.SameBut a h h') (ho:h'.get? a = some o') (hc:Cont N w sh' l o')
    (hr:∀ l',l' ≠ l → ∀ o,Cont N w st.sh l' o → Cont N w sh' l' o) (hd:∀ l',alive sh' l' = alive st.sh l'):Fm N w ω P L nms { st with sh:=sh' } h':=
  F.withSh (.refl w) (F.sh.set hl hs ho hc hr hd) (hs.2 _ fun z=>F.Lρ _ _ hl z.symm) (fun i b e=>hs.2 _ fun z=>(F.ωG i b e).2.2.1 _ _ hl z.symm) F.LG F.Lρ fun i b e=>⟨(F.ωG i b e).1,(F.ωG i b e).2.2.1⟩
theorem nodup_inj {α:Type} {l:List α} (h:l.Nodup) {i j:Nat} {x:α} (e:l[i]? = some x) (e':l[j]? = some x):i = j:=
  (List.getElem?_inj (List.getElem?_eq_some_iff.mp e).1 h).mp (e.trans e'.symm)
theorem set_get {α:Type} {l:List α} {i j:Nat} {x y:α} (e:(setN l i x)[j]? = some y):(i = j ∧ y = x) ∨ (i ≠ j ∧ l[j]? = some y):=by
  rw [setN_eq,List.getElem?_set] at e
  by_cases q:i = j
  · rw [if_pos q] at e
    split at e
    · exact .inl ⟨q,(Option.some.inj e).symm⟩
    · exact noS e
  · rw [if_neg q] at e;exact .inr ⟨q,e⟩
noncomputable def upω (ω:Nat → Option Addr) (i:Nat) (o:Option Addr) (j:Nat):Option Addr:=if j = i then o else ω j
noncomputable def upm (m:Str → Option Value) (x:Str) (a:Value) (y:Str):Option Value:=if y = x then some a else m y
theorem Fm.put (F:Fm N w ω P L nms st h) (hnd:nms.Nodup) {i:Nat} {x:Str} {c:Cell} {a:Value} {o:Option Addr} (hx:nms[i]? = some x) (hv:CRel N w h' o c (some a)) (hs:Heap.SameBut L.a h h') (hn:h'.Ns L.a (upm L.m x a))
    (ho:∀ b,o = some b → (w.G b = none ∧ P b = none ∧ (∀ l b',w.ρ l = some b' → b' ≠ b) ∧ b ≠ L.a) ∧ (∀ j,ω j ≠ some b) ∧ (h'.get? b).isSome = true):Fm N w (upω ω i o) P ⟨L.a,upm L.m x a⟩ nms { st with vars:=setN st.vars i c } h':=by
  have k:∀ b,b ≠ L.a → h'.get? b = h.get? b:=hs.2
  have cs:∀ {j b},upω ω i o j = some b → (j = i ∧ o = some b) ∨ (j ≠ i ∧ ω j = some b):=fun {j b} e=>by
    unfold upω at e
    by_cases q:j = i
    · rw [if_pos q] at e;exact .inl ⟨q,e⟩
    · rw [if_neg q] at e;exact .inr ⟨q,e⟩
  refine ⟨F.sh.other hs F.LG F.LP F.Lρ,F.LG,F.LP,F.Lρ,hn,fun j y c' e1 e2=>?_,fun j b e=>?_,fun j j' b e e'=>?_,fun j b e=>?_⟩
  · show CRel N w h' (upω ω i o j) c' (upm L.m x a y)
    unfold upω upm
    rcases set_get e2 with ⟨q,rfl⟩ | ⟨q,e2⟩
    · subst q
      rw [hx] at e1
      rw [if_pos rfl,if_pos (Option.some.inj e1).symm];exact hv
    · have ne:¬ y = x:=fun z=>q (nodup_inj hnd hx (z ▸ e1))
      rw [if_neg (Ne.symm q),if_neg ne]
      exact (F.vs j y c' e1 e2).mono (.refl w) fun b o e3 e4=>(k b (F.ωG j b e3).2.2.2).trans e4
  · rcases cs e with ⟨_,q⟩ | ⟨_,q⟩
    · exact (ho b q).1
    · exact F.ωG j b q
  · rcases cs e with ⟨q,z⟩ | ⟨_,z⟩ <;> rcases cs e' with ⟨q',z'⟩ | ⟨_,z'⟩
    · exact q.trans q'.symm
    · exact absurd z' ((ho b z).2.1 j')
    · exact absurd z ((ho b z').2.1 j)
    · exact F.ωi j j' b z z'
  · rcases cs e with ⟨_,q⟩ | ⟨_,q⟩
    · exact (ho b q).2.2
    · rw [k b (F.ωG j b q).2.2.2];exact F.ωo j b q
theorem Fm.store (F:Fm N w ω P L nms st h) (hnd:nms.Nodup) {i:Nat} {x:Str} {v:MV} {a:Value} (hx:nms[i]? = some x) (hv:VRel N w v a) (hs:Heap.SameBut L.a h h') (hn:h'.Ns L.a (upm L.m x a)) :
    Fm N w (upω ω i none) P ⟨L.a,upm L.m x a⟩ nms (setVar st i v) h':=F.put hnd hx ⟨a,rfl,hv⟩ hs hn nofun
theorem Fm.storeOwn (F:Fm N w ω P L nms st h) (hnd:nms.Nodup) {i:Nat} {x:Str} {vs:List MV} {vals:List Value} {n:Nat} {a:Addr} (hx:nms[i]? = some x) (hv:VRels N w vs vals)
    (hl:vals.length ≤ lim) (ho:h.get? a = some (listOf vals.toArray n)) (f:w.G a = none ∧ P a = none ∧ (∀ l b,w.ρ l = some b → b ≠ a) ∧ a ≠ L.a) (f5:∀ j,ω j ≠ some a) (hs:Heap.SameBut L.a h h')
    (hn:h'.Ns L.a (upm L.m x (.ref a))):Fm N w (upω ω i (some a)) P ⟨L.a,upm L.m x (.ref a)⟩ nms { st with vars:=setN st.vars i (.own vs) } h':=
  have ho':=(hs.2 a f.2.2.2).trans ho
  F.put hnd hx (OwnR.mk hl rfl ho' hv) hs hn fun b e=>Option.some.inj e ▸ ⟨f,f5,by rw [ho'];rfl⟩
theorem Fm.setOwn (F:Fm N w ω P L nms st h) {i:Nat} {vs':List MV} {vals:List Value} {n:Nat} {a:Addr} (hi:ω i = some a) (hl:vals.length ≤ lim) (hv:VRels N w vs' vals) (hs:Heap.SameBut a h h')
    (ho:h'.get? a = some (listOf vals.toArray n)) (hm:∀ x,nms[i]? = some x → L.m x = some (.ref a)) :
    Fm N w ω P L nms { st with vars:=setN st.vars i (.own vs') } h':=by
  obtain ⟨g1,g2,g3,g4⟩:=F.ωG i a hi
  have k:∀ b,b ≠ a → h'.get? b = h.get? b:=hs.2
  refine ⟨F.sh.other hs g1 g2 g3,F.LG,F.LP,F.Lρ,?_,fun j y c e1 e2=>?_,F.ωG,F.ωi,fun j b e=>?_⟩
  · obtain ⟨o,es,ep,h1,h2⟩:=F.ns
    exact ⟨o,es,ep,(k L.a (Ne.symm g4)).trans h1,h2⟩
  · have h3:=F.vs
    rcases set_get e2 with ⟨q,rfl⟩ | ⟨q,e2⟩
    · subst q
      rw [hm y e1]
      exact OwnR.mk hl hi ho hv
    · exact (h3 j y c e1 e2).mono (.refl w) fun b o e3 e4=>(k b fun z=>q (F.ωi i j a hi (by rw [e3,z]))).trans e4
  · by_cases q:b = a
    · subst q;rw [ho];rfl
    · rw [k b q];exact F.ωo j b e
theorem Fm.freeze (F:Fm N w ω P L nms st h) {i:Nat} {vs:List MV} {vals:List Value} {n:Nat} {a:Addr} (hi:ω i = some a) (hl:vals.length ≤ lim) (hv:VRels N w vs vals) (ho:h.get? a = some (listOf vals.toArray n))
    (hm:∀ x,nms[i]? = some x → L.m x = some (.ref a)) :
    w.Ext (w.add a (listOf vals.toArray n)) ∧ VRel N (w.add a (listOf vals.toArray n)) (.lst vs) (.ref a) ∧
    Fm N (w.add a (listOf vals.toArray n)) (upω ω i none) P L nms (setVar st i (.lst vs)) h:=by
  obtain ⟨g1,g2,g3,g4⟩:=F.ωG i a hi
  have x:=Wd.add_ext (o:=listOf vals.toArray n) g1
  have V:VRel N (w.add a (listOf vals.toArray n)) (.lst vs) (.ref a):=.lst Wd.add_at ⟨hl,rfl,n,rfl⟩ (hv.mono x)
  have gne:∀ b,b ≠ a → (w.add a (listOf vals.toArray n)).G b = w.G b:=fun b q=>if_neg q
  have cs:∀ {j b},upω ω i none j = some b → j ≠ i ∧ ω j = some b:=fun {j b} e=>by
    unfold upω at e
    by_cases q:j = i
    · rw [if_pos q] at e;exact noS e
    · rw [if_neg q] at e;exact ⟨q,e⟩
  refine ⟨x,V,F.sh.add ho g1 g2 g3,(gne L.a (Ne.symm g4)).trans F.LG,F.LP,F.Lρ,F.ns,fun j y c e1 e2=>?_,fun j b e=>?_,fun j j' b e e'=>F.ωi j j' b (cs e).2 (cs e').2,fun j b e=>F.ωo j b (cs e).2⟩
  · rcases set_get e2 with ⟨q,rfl⟩ | ⟨q,e2⟩
    · subst q
      exact ⟨_,hm y e1,V⟩
    · show CRel _ _ _ (upω ω i none j) _ _
      unfold upω
      rw [if_neg (Ne.symm q)]
      exact (F.vs j y c e1 e2).mono x fun b o _ e4=>e4
  · obtain ⟨q,e⟩:=cs e
    exact ⟨(gne b fun z=>q (F.ωi j i a (z ▸ e) hi)).trans (F.ωG j b e).1,(F.ωG j b e).2⟩
open Classical in
noncomputable def guard (ω:Nat → Option Addr) (P:PMap) (L:FL) (h:Heap):PMap:=fun a=>if a = L.a ∨ ∃ i,ω i = some a then h.get? a else P a
theorem guard_L:guard ω P L h L.a = h.get? L.a:=if_pos (.inl rfl)
theorem guard_ω {i:Nat} {a:Addr} (e:ω i = some a):guard ω P L h a = h.get? a:=if_pos (.inr ⟨i,e⟩)
theorem Fm.guard_of (F:Fm N w ω P L nms st h) {a:Addr} {o:Obj} (e:P a = some o):guard ω P L h a = some o:=by
  refine (if_neg ?_).trans e
  rintro (rfl | ⟨i,q⟩)
  · rw [F.LP] at e;cases e
  · rw [(F.ωG i a q).2.1] at e;cases e
theorem Fm.enter (F:Fm N w ω P L nms st h):Sh N w (guard ω P L h) st.sh h:=by
  have S:=F.sh
  have none_of:∀ a,a ≠ L.a → (∀ i,ω i ≠ some a) → guard ω P L h a = P a:=fun a q1 q2=>if_neg (by rintro (z | ⟨i,z⟩);exact q1 z;exact q2 i z)
  refine ⟨S.base,S.frz,fun a o e=>?_,fun a o e=>?_,S.dom,S.inj,S.sepG,fun l a e=>?_,S.cont⟩
  · unfold guard at e
    split at e
    · exact e
    · exact S.prot a o e
  · exact (none_of a (fun z=>by rw [z,F.LG] at e;cases e) fun i z=>by rw [(F.ωG i a z).1] at e;cases e).trans (S.dis a o e)
  · exact (none_of a (F.Lρ l a e) fun i z=>(F.ωG i a z).2.2.1 l a e rfl).trans (S.sepP l a e)
theorem Fm.back (F:Fm N w ω P L nms st h) {sh':Sto} (x:w.Ext w') (S:Sh N w' (guard ω P L h) sh' h'):Fm N w' ω P L nms { st with sh:=sh' } h':=by
  obtain ⟨oL,hL⟩:=F.Lsome
  have gL:guard ω P L h L.a = some oL:=guard_L.trans hL
  have pn:∀ a,guard ω P L h a = none → P a = none:=fun a q=>by
    cases e:P a with
    | none=>rfl
    | some o=>rw [F.guard_of e] at q;cases q
  have gω:∀ i a,ω i = some a → ∃ o,h.get? a = some o ∧ guard ω P L h a = some o:=fun i a e=>by
    obtain ⟨o,ho⟩:=Option.isSome_iff_exists.mp (F.ωo i a e)
    exact ⟨o,ho,(guard_ω e).trans ho⟩
  refine F.withSh x ⟨S.base,S.frz,fun a o e=>S.prot a o (F.guard_of e),fun a o e=>pn a (S.dis a o e),S.dom,S.inj,S.sepG,fun l a e=>pn a (S.sepP l a e),S.cont⟩
    ((S.prot _ _ gL).trans hL.symm) (fun i a e=>?_) ?_ (fun l b e z=>?_) fun i a e=>⟨?_,fun l b e' z=>?_⟩
  · obtain ⟨o,ho,hg⟩:=gω i a e
    exact (S.prot _ _ hg).trans ho.symm
  · cases q:w'.G L.a with
    | none=>rfl
    | some o=>rw [S.dis _ _ q] at gL;cases gL
  · subst z;rw [S.sepP _ _ e] at gL;cases gL
  · obtain ⟨o,ho,hg⟩:=gω i a e
    cases q:w'.G a with
    | none=>rfl
    | some o=>rw [S.dis _ _ q] at hg;cases hg
  · obtain ⟨o,ho,hg⟩:=gω i a e
    subst z;rw [S.sepP _ _ e'] at hg;cases hg
end
open PySem PySem.W PyProof.Rows PySem.Builtin.Str
theorem sizeLine_lim:sizeLine = lim:=rfl
theorem leN_le {a b:Nat} (h:leN a b = true):a ≤ b:=Nat.le_of_ble_eq_true h
theorem strOf_length (s:Tx):(strOf s).length = s.length:=by show s.toArray.size = s.length;simp
theorem strOf_cps (s:Tx):(strOf s).cps.toList = s:=by show s.toArray.toList = s;simp
theorem strOf_append (a b:Tx):strOf a ++ strOf b = strOf (a ++ b):=by
  show (⟨(strOf a).cps ++ (strOf b).cps⟩:Str) = ⟨(a ++ b).toArray⟩
  show (⟨a.toArray ++ b.toArray⟩:Str) = ⟨(a ++ b).toArray⟩
  rw [List.append_toArray]
theorem strOf_inj {a b:Tx} (h:strOf a = strOf b):a = b:=by
  have:=congrArg (fun s:Str=>s.cps.toList) h
  simpa [strOf_cps] using this
theorem ltX_eq:∀ a b:Tx,ltX a b = decide (a < b)
  | [],[]=>by simp [ltX]
  | [],_ :: _=>by simp [ltX]
  | _ :: _,[]=>by simp [ltX]
  | a :: r,b :: q=>by
    unfold ltX
    rw [ltX_eq r q]
    by_cases h:a < b
    · rw [if_pos h];symm;rw [decide_eq_true_eq];exact List.Lex.rel h
    · rw [if_neg h]
      by_cases h':b < a
      · rw [if_pos h'];symm;rw [decide_eq_false_iff_not]
        intro x
        rw [List.cons_lt_cons_iff] at x
        rcases x with x | ⟨x,_⟩
        · exact h x
        · omega
      · rw [if_neg h']
        have:a = b:=by omega
        subst this
        congr 1
        rw [List.cons_lt_cons_iff]
        simp
theorem repX_length (s:Tx):∀ n,(repX s n).length = s.length * n
  | 0=>rfl
  | n + 1=>by show (s ++ repX s n).length = _;rw [List.length_append,repX_length s n,Nat.mul_succ];omega
theorem asInt_eq {v:MV} {i:Int} (h:asInt v = some i):v = .int i:=by cases v with | int j=>exact congrArg MV.int (Option.some.inj h) | _=>exact noS h
theorem asStr_eq {v:MV} {i:Tx} (h:asStr v = some i):v = .str i:=by cases v with | str j=>exact congrArg MV.str (Option.some.inj h) | _=>exact noS h
theorem asLoc_eq {v:MV} {i:Loc} (h:asLoc v = some i):v = .loc i:=by cases v with | loc j=>exact congrArg MV.loc (Option.some.inj h) | _=>exact noS h
theorem asLst_eq {v:MV} {i:List MV} (h:asLst v = some i):v = .lst i:=by cases v with | lst j=>exact congrArg MV.lst (Option.some.inj h) | _=>exact noS h
theorem asTup_eq {v:MV} {i:List MV} (h:asTup v = some i):v = .tup i:=by cases v with | tup j=>exact congrArg MV.tup (Option.some.inj h) | _=>exact noS h
theorem asSd_eq {v:MV} {i:List (Tx × Tx)} (h:asSd v = some i):v = .sd i:=by cases v with | sd j=>exact congrArg MV.sd (Option.some.inj h) | _=>exact noS h
theorem asCls_eq {v:MV} {i:Nat} (h:asCls v = some i):v = .cls i:=by cases v with | cls j=>exact congrArg MV.cls (Option.some.inj h) | _=>exact noS h
theorem asInst_eq {v:MV} {p:Nat × List MV} (h:asInst v = some p):v = .inst p.1 p.2:=by cases v with | inst c fs=>exact congrArg (fun p:Nat × List MV=>MV.inst p.1 p.2) (Option.some.inj h) | _=>exact noS h
theorem asMeth_eq {v:MV} {p:Nat × Loc} (h:asMeth v = some p):v = .meth p.1 p.2:=by cases v with | meth c fs=>exact congrArg (fun p:Nat × Loc=>MV.meth p.1 p.2) (Option.some.inj h) | _=>exact noS h
theorem isNone_eq {v:MV} (h:isNone v = true):v = .none:=by cases v with | none=>rfl | _=>exact noB h
section
variable {N:Nm} {w:Wd} {P:PMap} {prog:Program} {wd:World} {A:Around} {E:Value → Shared → Prop} {s:Shared} {sh:Sto} {v x:MV} {a b:Value}
theorem VRels.length_eq:∀ {vs:List MV} {as:List Value},VRels N w vs as → vs.length = as.length:=fun {vs}=>by
  induction vs with
  | nil=>intro as h;exact h ▸ rfl
  | cons v vs ih=>intro as h;obtain ⟨a,r,rfl,_,h⟩:=h.cons_inv;exact congrArg (· + 1) (ih h)
theorem VRels.get {vs:List MV}:∀ {as:List Value},VRels N w vs as → ∀ {i:Nat} {v:MV},vs[i]? = some v → ∃ a,as[i]? = some a ∧ VRel N w v a:=by
  induction vs with
  | nil=>intro as h i v e;exact noS e
  | cons v vs ih=>
    intro as h i u e
    obtain ⟨a,r,rfl,h1,h⟩:=h.cons_inv
    cases i with
    | zero=>exact ⟨a,rfl,Option.some.inj e ▸ h1⟩
    | succ i=>exact ih h e
theorem VRels.getN {vs:List MV} {as:List Value} (h:VRels N w vs as) {i:Nat} {v:MV} (e:nth vs i = some v):∃ a,as[i]? = some a ∧ VRel N w v a:=h.get ((nth_eq vs i).symm.trans e)
theorem VRels.append {vs vs':List MV} {as':List Value}:∀ {as:List Value},VRels N w vs as → VRels N w vs' as' → VRels N w (vs ++ vs') (as ++ as'):=by
  induction vs with
  | nil=>intro as h h';exact h ▸ h'
  | cons v vs ih=>intro as h h';obtain ⟨a,r,rfl,h1,h⟩:=h.cons_inv;exact .cons h1 (ih h h')
theorem VRels.take {vs:List MV}:∀ {as:List Value},VRels N w vs as → ∀ n,VRels N w (vs.take n) (as.take n):=by
  induction vs with
  | nil=>intro as h n;cases h;cases n <;> exact .nil
  | cons v vs ih=>intro as h n;obtain ⟨a,r,rfl,h1,h⟩:=h.cons_inv;cases n with | zero=>exact .nil | succ n=>exact .cons h1 (ih h n)
theorem VRels.drop {vs:List MV}:∀ {as:List Value},VRels N w vs as → ∀ n,VRels N w (vs.drop n) (as.drop n):=by
  induction vs with
  | nil=>intro as h n;cases h;cases n <;> exact .nil
  | cons v vs ih=>intro as h n;obtain ⟨a,r,rfl,h1,h⟩:=h.cons_inv;cases n with | zero=>exact .cons h1 h | succ n=>exact ih h n
inductive LstAt (N:Nm) (w:Wd) (h:Heap) (vs:List MV):Value → Prop
  | mk {q:Addr} {vals:List Value} (hl:h.IsList q vals.toArray) (hr:VRels N w vs vals) (hn:vals.length ≤ lim):LstAt N w h vs (.ref q)
theorem lst_at (S:Sh N w P sh s.heap) {vs:List MV} (h:VRel N w (.lst vs) a):LstAt N w s.heap vs a:=(VRel.lst_eq.mp h).elim fun vals h=>by
  obtain ⟨hr,⟨hq,hl,h1,n,h2⟩⟩:=h
  exact ⟨⟨_,S.frz _ _ hq,h1,n,h2⟩,hr,hl⟩
inductive TupAt (N:Nm) (w:Wd) (h:Heap) (vs:List MV):Value → Prop
  | mk {q:Addr} {o:Obj} {vals:List Value} {n:Nat} (hq:h.get? q = some o) (hc:o.cls = .type "tuple") (hd:o.data = .seq vals.toArray n) (hr:VRels N w vs vals) (hn:vals.length ≤ lim):TupAt N w h vs (.ref q)
theorem tup_at (S:Sh N w P sh s.heap) {vs:List MV} (h:VRel N w (.tup vs) a):TupAt N w s.heap vs a:=(VRel.tup_eq.mp h).elim fun vals h=>by
  obtain ⟨hr,⟨hq,hl,h1,n,h2⟩⟩:=h
  exact ⟨S.frz _ _ hq,h1,h2,hr,hl⟩
theorem cont_list {l:Loc} {vs:List MV} {o:Obj} (e:getList sh l = some vs) (h:Cont N w sh l o):ListR N w (some vs) o:=by
  cases l with
  | em | emD | tmp | tmpD=>exact noS e
  | states=>exact (e ▸ (h:ListR N w (getList sh .states) o))
  | events=>exact (e ▸ (h:ListR N w (getList sh .events) o))
  | indents=>exact (e ▸ (h:ListR N w (getList sh .indents) o))
  | rows=>exact (e ▸ (h:ListR N w (getList sh .rows) o))
inductive SlotL (N:Nm) (w:Wd) (h:Heap) (l:Loc) (vs:List MV):Value → Prop
  | mk {q:Addr} {vals:List Value} {n:Nat} (hρ:w.ρ l = some q) (hq:h.get? q = some (listOf vals.toArray n)) (hr:VRels N w vs vals) (hn:vals.length ≤ lim):SlotL N w h l vs (.ref q)
theorem slotL (S:Sh N w P sh s.heap) {l:Loc} {vs:List MV} (e:getList sh l = some vs) (h:VRel N w (.loc l) a):SlotL N w s.heap l vs a:=by
  obtain ⟨q,hl,rfl⟩:=h.loc_inv
  obtain ⟨o,h1,h2⟩:=S.cont _ _ hl
  cases cont_list e h2 with
  | mk he hn hr=>exact ⟨hl,h1,Option.some.inj he ▸ hr,hn⟩
theorem isList_of_at {h:Heap} {q:Addr} {vals:List Value} {n:Nat} (e:h.get? q = some (listOf vals.toArray n)):h.IsList q vals.toArray:=⟨_,e,rfl,n,rfl⟩
theorem items_at (S:Sh N w P sh s.heap) {vs:List MV} (e:items sh v = some vs) (h:VRel N w v a):LstAt N w s.heap vs a:=
  orE e (fun e=>lst_at S (asLst_eq e ▸ h)) fun e=>bindE e fun l e1 e2=>by
    cases slotL S e2 (asLoc_eq e1 ▸ h:VRel N w (.loc l) a) with
    | mk _ hq hr hn=>exact ⟨isList_of_at hq,hr,hn⟩
theorem lim_lt {n:Nat} (h:n ≤ lim):(n:Int) < 9223372036854775808:=by unfold lim at h;omega
theorem truthy_lst {vs:List MV} {Q:Bool → Shared → Prop} (h:LstAt N w s.heap vs a) (k:∀ tk,Q (!vs.isEmpty) { s with toks:=tk }):wpAny (model prog wd) A (PySem.truthy a) Q E s:=by
  cases h with
  | @mk q vals hl hr hn=>
    refine wpAny_truthy_list hl (by rw [List.size_toArray];exact lim_lt hn) ?_
    have:vals.toArray.isEmpty = vs.isEmpty:=by
      have:=hr.length_eq
      cases vs <;> cases vals <;> first | rfl | (exact absurd this (by simp))
    rw [this];exact k _
theorem truthy_ok {r:Bool} {Q:Bool → Shared → Prop} (S:Sh N w P sh s.heap) (h:VRel N w v a) (e:Mine.truthy sh v = some r) (k:∀ tk,Q r { s with toks:=tk }):wpAny (model prog wd) A (PySem.truthy a) Q E s:=by
  cases v with
  | none=>obtain rfl:=Option.some.inj e;obtain rfl:=h;exact truthy_none (k s.toks)
  | bool c=>obtain rfl:=Option.some.inj e;obtain rfl:=h;exact wpAny_truthy_bool (k s.toks)
  | int i=>
    obtain ⟨t,rfl⟩:=h.int_inv
    refine truthy_int ?_
    have:(i != 0) = !eqI i 0:=by unfold eqI;by_cases q:i = 0 <;> simp [q]
    obtain rfl:=Option.some.inj e;rw [this];exact k s.toks
  | str x=>
    obtain ⟨hs,t,rfl⟩:=h.str_inv
    refine SBL.truthy (by rw [strOf_length];exact lim_lt hs) ?_
    have:(((strOf x).length:Int) != 0) = !x.isEmpty:=by
      rw [strOf_length]
      cases x with
      | nil=>rfl
      | cons c r=>simp only [List.length_cons,List.isEmpty_cons,Bool.not_false,bne_iff_ne,ne_eq];omega
    obtain rfl:=Option.some.inj e;rw [this];exact k _
  | lst vs=>obtain rfl:=Option.some.inj e;exact truthy_lst (lst_at S h) k
  | loc l=>exact mapE (e:(getList sh l).map _ = _) fun vs h1 h2=>truthy_lst (items_at S (sh:=sh) (v:=.loc l) (by exact h1) h) fun tk=>h2 ▸ k tk
  | _=>exact noS e
theorem str_beq (a b:Tx):(strOf a == strOf b) = eqX a b:=by
  unfold eqX
  by_cases q:a = b
  · subst q;simp
  · rw [decide_eq_false q,beq_eq_false_iff_ne]
    exact fun z=>q (strOf_inj z)
theorem eqI_beq (i j:Int):(i == j) = eqI i j:=by unfold eqI;by_cases q:i = j <;> simp [q]
inductive Int2 {α:Type} (f:Int → Int → α):MV → MV → Value → Value → α → Prop
  | mk (i j:Int) (t u:Tok):Int2 f (.int i) (.int j) (.int i t) (.int j u) (f i j)
theorem int2_ok {α:Type} {f:Int → Int → α} {r:α} (h:VRel N w v a) (h':VRel N w x b) (e:int2 f v x = some r):Int2 f v x a b r:=bindE e fun i e1 e=>mapE e fun j e2 e3=>by
  obtain ⟨t,rfl⟩:=(asInt_eq e1 ▸ h:VRel N w (.int i) a).int_inv
  obtain ⟨u,rfl⟩:=(asInt_eq e2 ▸ h':VRel N w (.int j) b).int_inv
  rw [asInt_eq e1,asInt_eq e2,← e3];exact ⟨i,j,t,u⟩
inductive Str2 {α:Type} (f:Tx → Tx → α):MV → MV → Value → Value → α → Prop
  | mk (i j:Tx) (t u:Tok) (h:i.length ≤ lim) (h':j.length ≤ lim):Str2 f (.str i) (.str j) (.str (strOf i) t) (.str (strOf j) u) (f i j)
theorem str2_ok {α:Type} {f:Tx → Tx → α} {r:α} (h:VRel N w v a) (h':VRel N w x b) (e:str2 f v x = some r):Str2 f v x a b r:=bindE e fun i e1 e=>mapE e fun j e2 e3=>by
  obtain ⟨k,t,rfl⟩:=(asStr_eq e1 ▸ h:VRel N w (.str i) a).str_inv
  obtain ⟨k',u,rfl⟩:=(asStr_eq e2 ▸ h':VRel N w (.str j) b).str_inv
  rw [asStr_eq e1,asStr_eq e2,← e3];exact ⟨i,j,t,u,k,k'⟩
inductive StrInt {α:Type} (f:Tx → Int → α):MV → MV → Value → Value → α → Prop
  | mk (i:Tx) (j:Int) (t u:Tok) (h:i.length ≤ lim):StrInt f (.str i) (.int j) (.str (strOf i) t) (.int j u) (f i j)
theorem strInt_ok {α:Type} {f:Tx → Int → α} {r:α} (h:VRel N w v a) (h':VRel N w x b) (e:strInt f v x = some r):StrInt f v x a b r:=bindE e fun i e1 e=>mapE e fun j e2 e3=>by
  obtain ⟨k,t,rfl⟩:=(asStr_eq e1 ▸ h:VRel N w (.str i) a).str_inv
  obtain ⟨u,rfl⟩:=(asInt_eq e2 ▸ h':VRel N w (.int j) b).int_inv
  rw [asStr_eq e1,asInt_eq e2,← e3];exact ⟨i,j,t,u,k⟩
inductive Three:MV → Value → Prop
  | none:Three .none .none
  | int (i:Int) (t:Tok):Three (.int i) (.int i t)
  | str (s:Tx) (t:Tok):Three (.str s) (.str (strOf s) t)
theorem three_ok (h:VRel N w v a) (e:is3 v = true):Three v a:=by
  cases v with
  | none=>exact h ▸ .none
  | int i=>obtain ⟨t,rfl⟩:=h.int_inv;exact .int i t
  | str s=>obtain ⟨_,t,rfl⟩:=h.str_inv;exact .str s t
  | _=>exact noB e
noncomputable def eqVal (a b:Value):Bool:=match a,b with
  | .none,.none=>true
  | .int i _,.int j _=>i == j
  | .str a _,.str b _=>a == b
  | _,_=>false
theorem eqAt_ok {r:Bool} (h:VRel N w v a) (h':VRel N w x b) (e:eqV v x = some r):eqVal a b = r ∧ SeqAt.EqAt A s a b r:=by
  obtain ⟨e1,e⟩:=ifT e
  have h1:=three_ok h (andL e1)
  have h2:=three_ok h' (andR e1)
  cases h1 with
  | none=>cases h2 with
    | none=>obtain rfl:=Option.some.inj e;exact ⟨rfl,SeqAt.EqAt.same _⟩
    | int i t=>obtain rfl:=Option.some.inj e;exact ⟨rfl,SeqAt.EqAt.none_int _ _⟩
    | str y t=>obtain rfl:=Option.some.inj e;exact ⟨rfl,SeqAt.EqAt.none_str _ _⟩
  | int i t=>cases h2 with
    | none=>obtain rfl:=Option.some.inj e;exact ⟨rfl,SeqAt.EqAt.int_none _ _⟩
    | int j t=>obtain rfl:=Option.some.inj e;exact ⟨eqI_beq i j,(eqI_beq i j ▸ SeqAt.EqAt.int_int i _ j _:SeqAt.EqAt A s _ _ (eqI i j))⟩
    | str y t=>exact noS e
  | str y t=>cases h2 with
    | none=>obtain rfl:=Option.some.inj e;exact ⟨rfl,SeqAt.EqAt.str_none _ _⟩
    | int j t=>exact noS e
    | str z t=>obtain rfl:=Option.some.inj e;exact ⟨str_beq y z,(str_beq y z ▸ SeqAt.EqAt.str_str (strOf y) _ (strOf z) _:SeqAt.EqAt A s _ _ (eqX y z))⟩
theorem inL_ok (h':VRel N w x b) {vs:List MV}:∀ {vals:List Value} {r:Bool},VRels N w vs vals → inL x vs = some r → (∀ y,y ∈ vals → SeqAt.EqAt A s y b (eqVal y b)) ∧ vals.any (eqVal · b) = r:=by
  induction vs with
  | nil=>intro vals r h e;cases h;obtain rfl:=Option.some.inj e;exact ⟨fun y m=>absurd m List.not_mem_nil,rfl⟩
  | cons v vs ih=>
    intro vals r h e
    obtain ⟨a,as,rfl,h,t⟩:=h.cons_inv
    refine bindE e fun c h1 e=>mapE e fun d h3 h4=>?_
    obtain ⟨k1,k2⟩:=eqAt_ok (A:=A) (s:=s) h h' h1
    obtain ⟨k3,k4⟩:=ih t h3
    refine ⟨fun y m=>?_,by rw [List.any_cons,k1,k4,h4]⟩
    rcases List.mem_cons.mp m with rfl | m
    · rw [k1];exact k2
    · exact k3 y m
noncomputable def copOf:Cop → CmpOp
  | .eq=>.Eq | .ne=>.NotEq | .lt=>.Lt | .le=>.LtE | .gt=>.Gt | .ge=>.GtE | .is=>.Is | .isNot=>.IsNot | .inn=>.In | .notIn=>.NotIn
noncomputable def bopOf:Bop → Operator
  | .add=>.Add | .sub=>.Sub | .mul=>.Mult | .fdiv=>.FloorDiv | .mod=>.Mod
variable {r:Bool} {Q:Value → Shared → Prop}
theorem txt_beq (y z:Tx):(y == z) = eqX y z:=by unfold eqX;by_cases q:y = z <;> simp [q]
theorem eq_ok (h:VRel N w v a) (h':VRel N w x b) (e:eqV v x = some r) (k:Q (.bool r) s):wpAny (model prog wd) A (compareOp .Eq a b) Q E s:=by
  obtain ⟨e1,e⟩:=ifT e
  have h1:=three_ok h (andL e1)
  have h2:=three_ok h' (andR e1)
  cases h1 with
  | none=>cases h2 with
    | none=>obtain rfl:=Option.some.inj e;exact EqNone.eq_none_none k
    | int i t=>obtain rfl:=Option.some.inj e;exact EqNone.eq_none_int k
    | str y t=>obtain rfl:=Option.some.inj e;exact EqNone.eq_none_str k
  | int i t=>cases h2 with
    | none=>obtain rfl:=Option.some.inj e;exact EqNone.eq_int_none k
    | int j t=>obtain rfl:=Option.some.inj e;exact PySem.P.eq_int (eqI_beq i j ▸ k)
    | str y t=>exact noS e
  | str y t=>cases h2 with
    | none=>obtain rfl:=Option.some.inj e;exact EqNone.eq_str_none k
    | int j t=>exact noS e
    | str z t=>obtain rfl:=Option.some.inj e;exact PySem.P.eq_str (by rw [strOf_cps,strOf_cps];exact txt_beq y z ▸ k)
theorem is2_ok {f:Int → Int → Bool} {g:Tx → Tx → Bool} {op:CmpOp} (h:VRel N w v a) (h':VRel N w x b) (e:is2 f g v x = some r) (k:Q (.bool r) s)
    (kf:∀ i j t u,Q (.bool (f i j)) s → wpAny (model prog wd) A (compareOp op (.int i t) (.int j u)) Q E s)
    (kg:∀ i j t u,Q (.bool (g i j)) s → wpAny (model prog wd) A (compareOp op (.str (strOf i) t) (.str (strOf j) u)) Q E s):wpAny (model prog wd) A (compareOp op a b) Q E s:=
  orE e (fun e=>by cases int2_ok h h' e with | mk i j t u=>exact kf i j t u k) fun e=>by cases str2_ok h h' e with | mk i j t u=>exact kg i j t u k
theorem isV_ok (h:VRel N w v a) (h':VRel N w x b) (e:isV v x = some r):b = .none ∧ (a == .none) = r ∧ plainIs a .none = true:=by
  obtain ⟨e1,e⟩:=ifT e
  have hx:=isNone_eq (andL e1)
  subst hx
  refine ⟨h',?_⟩
  have hb:=andR e1
  cases v with
  | none=>obtain rfl:=Option.some.inj e;obtain rfl:=h;exact ⟨rfl,rfl⟩
  | bool b=>obtain rfl:=Option.some.inj e;obtain rfl:=h;exact ⟨rfl,rfl⟩
  | int i=>obtain ⟨t,rfl⟩:=h.int_inv;obtain rfl:=Option.some.inj e;exact ⟨rfl,rfl⟩
  | str i=>obtain ⟨_,t,rfl⟩:=h.str_inv;obtain rfl:=Option.some.inj e;exact ⟨rfl,rfl⟩
  | loc i=>obtain ⟨t,_,rfl⟩:=h.loc_inv;obtain rfl:=Option.some.inj e;exact ⟨rfl,rfl⟩
  | fn f=>obtain rfl:=Option.some.inj e;obtain rfl:=h;exact ⟨rfl,rfl⟩
  | cls f=>obtain rfl:=Option.some.inj e;obtain rfl:=h;exact ⟨rfl,rfl⟩
  | bi b=>exact noB hb
  | meth f l=>cases (h:MethR N w f l a);obtain rfl:=Option.some.inj e;exact ⟨rfl,rfl⟩
  | inst c fs=>obtain ⟨_,_,⟨_⟩⟩:=VRel.inst_eq.mp h;obtain rfl:=Option.some.inj e;exact ⟨rfl,rfl⟩
  | lst vs=>obtain ⟨_,_,⟨_⟩⟩:=VRel.lst_eq.mp h;obtain rfl:=Option.some.inj e;exact ⟨rfl,rfl⟩
  | tup vs=>obtain ⟨_,_,⟨_⟩⟩:=VRel.tup_eq.mp h;obtain rfl:=Option.some.inj e;exact ⟨rfl,rfl⟩
  | sd kvs=>cases (h:SdR N w kvs a);obtain rfl:=Option.some.inj e;exact ⟨rfl,rfl⟩
inductive InW (N:Nm) (w:Wd) (h:Heap) (A:Around) (s:Shared) (r:Bool):Value → Value → Prop
  | str {c:Nat} {y:Tx} {t u:Tok} (e:y.contains c = r):InW N w h A s r (.str (strOf [c]) t) (.str (strOf y) u)
  | lst {a:Value} {q:Addr} {vals:List Value} (hl:h.IsList q vals.toArray) (k1:∀ y,y ∈ vals.toArray → SeqAt.EqAt A.in1 s y a (eqVal y a)) (k2:vals.toArray.any (eqVal · a) = r):InW N w h A s r a (.ref q)
theorem inV_ok (S:Sh N w P sh s.heap) (h:VRel N w v a) (h':VRel N w x b) (e:inV v x = some r):InW N w s.heap A s r a b:=
  orE e (fun e=>bindE e fun y e1 e=>bindE e fun c e2 e=>mapE e fun z e3 e4=>by
    rw [one_eq e2] at e1
    obtain ⟨_,t,rfl⟩:=(asStr_eq e1 ▸ h:VRel N w (.str [c]) a).str_inv
    obtain ⟨_,u,rfl⟩:=(asStr_eq e3 ▸ h':VRel N w (.str z) b).str_inv
    exact .str e4) fun e=>bindE e fun vs e1 e=>by
    cases lst_at S (asLst_eq e1 ▸ h') with
    | mk hl hr _=>
      obtain ⟨k1,k2⟩:=inL_ok (A:=A.in1) (s:=s) h hr e
      exact .lst hl (fun y m=>k1 y (List.mem_toArray.mp m)) (by rw [← Array.any_toList];exact k2)
theorem in_ok {op:CmpOp} {g:Bool → Bool} (S:Sh N w P sh s.heap) (h:VRel N w v a) (h':VRel N w x b) (e:inV v x = some r) (k:Q (.bool (g r)) s)
    (ks:∀ c y t u,Q (.bool (g (y.contains c))) s → wpAny (model prog wd) A (compareOp op (.str (strOf [c]) t) (.str (strOf y) u)) Q E s)
    (kl:∀ a q vals,s.heap.IsList q vals → (∀ y,y ∈ vals → SeqAt.EqAt A.in1 s y a (eqVal y a)) → Q (.bool (g (vals.any (eqVal · a)))) s → wpAny (model prog wd) A (compareOp op a (.ref q)) Q E s):wpAny (model prog wd) A (compareOp op a b) Q E s:=by
  cases inV_ok (A:=A) S h h' e with
  | str e=>exact ks _ _ _ _ (e ▸ k)
  | lst hl k1 k2=>exact kl _ _ _ hl k1 (k2 ▸ k)
theorem ne_not {α:Type} [BEq α] {f:α → α → Bool} (h:∀ i j:α,(i == j) = f i j) (i j:α):(i != j) = !f i j:=congrArg (!·) (h i j)
theorem found (c:Nat) (y:Tx):(!(occurrences (strOf y) (strOf [c]) 0 (strOf y).length 1).isEmpty) = y.contains c:=by
  show (!(occurrences _ ⟨#[_]⟩ 0 _ 1).isEmpty) = _
  rw [StrLaws.found_one,strOf_cps,← List.elem_eq_mem]
theorem cmp_ok {op:Cop} (S:Sh N w P sh s.heap) (h:VRel N w v a) (h':VRel N w x b) (e:cmpop op v x = some r) (k:Q (.bool r) s):wpAny (model prog wd) A (compareOp (copOf op) a b) Q E s:=by
  cases op with
  | eq=>exact eq_ok h h' e k
  | ne=>exact is2_ok h h' e k (fun i j t u q=>PySem.P.ne_int ((ne_not eqI_beq i j) ▸ q)) fun i j t u q=>PySem.P.ne_str (by rw [strOf_cps,strOf_cps];exact (ne_not txt_beq i j) ▸ q)
  | lt=>exact is2_ok h h' e k (fun i j t u q=>PySem.P.lt_int q) fun i j t u q=>PySem.P.lt_str (by rw [strOf_cps,strOf_cps,← ltX_eq];exact q)
  | le=>exact is2_ok h h' e k (fun i j t u q=>PySem.P.le_int q) fun i j t u q=>PySem.P.le_str (by rw [strOf_cps,strOf_cps,← ltX_eq];exact q)
  | gt=>exact is2_ok h h' e k (fun i j t u q=>PySem.P.gt_int q) fun i j t u q=>PySem.P.gt_str (by rw [strOf_cps,strOf_cps,← ltX_eq];exact q)
  | ge=>exact is2_ok h h' e k (fun i j t u q=>PySem.P.ge_int q) fun i j t u q=>PySem.P.ge_str (by rw [strOf_cps,strOf_cps,← ltX_eq];exact q)
  | is=>
    obtain ⟨rfl,h1,h2⟩:=isV_ok h h' e
    exact wpAny_is_plain h2 (h1 ▸ k)
  | isNot=>
    refine mapE e fun q e1 e2=>?_
    obtain ⟨rfl,h1,h2⟩:=isV_ok h h' e1
    subst e2
    exact wpAny_isNot_plain h2 (h1 ▸ k)
  | inn=>exact in_ok (g:=id) S h h' e k (fun c y t u q=>PySem.P.in_str (found c y ▸ q)) fun a q vals hl k1 k=>SeqAt.in_listAt (eqVal · a) hl k1 k
  | notIn=>exact mapE e fun q e1 e2=>in_ok (g:=not) S h h' e1 (e2 ▸ k) (fun c y t u q=>PySem.P.notIn_str (found c y ▸ q)) fun a q vals hl k1 k=>SeqAt.notIn_listAt (eqVal · a) hl k1 k
end
theorem rep_cps:∀ (n:Nat) (x:Tx) (acc:Array Nat),(List.replicate n x.toArray).foldl (· ++ ·) acc = acc ++ (repX x n).toArray
  | 0,x,acc=>by simp [repX]
  | n + 1,x,acc=>by
    rw [List.replicate_succ,List.foldl_cons,rep_cps n x]
    show acc ++ x.toArray ++ (repX x n).toArray = acc ++ (x ++ repX x n).toArray
    rw [← List.append_toArray,Array.append_assoc]
theorem txt_mul (x:Tx) (n:Int):Txt.mul (strOf x) n = strOf (repX x n.toNat):=by
  unfold Txt.mul
  split
  · rename_i h
    have:n.toNat = 0:=by omega
    rw [this];rfl
  · rename_i h
    split
    · rename_i h2
      rcases Bool.or_eq_true_iff.mp h2 with q | q
      · have:n = 1:=by simpa using q
        subst this
        show strOf x = strOf (x ++ [])
        rw [List.append_nil]
      · have:x = []:=by
          rw [strOf_length] at q
          exact List.eq_nil_of_length_eq_zero (by simpa using q)
        subst this
        have:∀ k,repX ([]:Tx) k = []:=by intro k;induction k with | zero=>rfl | succ k ih=>show [] ++ repX [] k = [];rw [ih];rfl
        rw [this]
    · show (⟨(List.replicate n.toNat x.toArray).foldl (· ++ ·) #[]⟩:Str) = strOf (repX x n.toNat)
      rw [rep_cps];simp [strOf]
section
variable {N:Nm} {w:Wd} {prog:Program} {wd:World} {A:Around} {E:Value → Shared → Prop} {s:Shared} {v x:MV} {a b:Value}
theorem mul_fits {x:Tx} {n:Int} (k1:x.length * n.toNat ≤ lim) (k2:n.natAbs ≤ lim) (hs:x.length ≤ lim):¬ n < 1 → ((strOf x).length:Int) ≤ (2 ^ 63 - 1) / n:=fun h1=>by
  rw [strOf_length]
  have h3:(lim:Int) ≤ (2 ^ 63 - 1) / n:=by
    refine (Int.le_ediv_iff_mul_le (by omega)).mpr ?_
    have:n ≤ 16777216:=by unfold lim at k2;omega
    have h4:(lim:Int) * n ≤ lim * 16777216:=Int.mul_le_mul_of_nonneg_left this (by unfold lim;omega)
    unfold lim at h4 ⊢;omega
  unfold lim at h3;unfold lim at hs;omega
noncomputable abbrev BinK (N:Nm) (w:Wd) (s:Shared) (r:MV) (Q:Value → Shared → Prop):Prop:=∀ c tk,VRel N w r c → Q c { s with toks:=tk }
variable {r:MV} {Q:Value → Shared → Prop}
theorem bin_add (h:VRel N w v a) (h':VRel N w x b) (hk:binOk .add v x = true) (e:str2 (fun s t=>.str (s ++ t)) v x = some r) (k:BinK N w s r Q):wpAny (model prog wd) A (binaryOp .Add a b) Q E s:=by
  have H:=str2_ok h h' e
  clear h h' e
  cases H with | mk i j t u _ _=>
  have k1:=leN_le hk
  refine SB.add (fun t' tk=>?_) (by rw [strOf_length,strOf_length];exact k1)
  rw [strOf_append]
  exact k _ _ (.str _ (by rw [List.length_append];exact k1))
theorem bin_rep (h:VRel N w v a) (h':VRel N w x b) (hk:binOk .mul v x = true) (e:strInt (fun s j=>.str (repX s j.toNat)) v x = some r) (k:BinK N w s r Q):wpAny (model prog wd) A (binaryOp .Mult a b) Q E s:=by
  have H:=strInt_ok h h' e
  clear h h' e
  cases H with | mk x n t u hs=>
  have k1:=leN_le (andL hk)
  have k2:=leN_le (andR hk)
  refine SB.mul ⟨?_,fun h1 _=>Int.not_lt.mpr (mul_fits k1 k2 hs h1),fun h1 _=>?_⟩ (fun t' tk=>?_)
  · unfold lim at k2;simp;omega
  · rw [strOf_length]
    show decide (_ > sizeLine) = false
    rw [decide_eq_false_iff_not,sizeLine_lim];omega
  · rw [txt_mul];exact k _ _ (.str _ (by rw [repX_length];exact k1))
theorem bin_int {op:Operator} {f:Int → Int → Int} (h:VRel N w v a) (h':VRel N w x b) (e:int2 (fun i j=>.int (f i j)) v x = some r) (k:BinK N w s r Q)
    (g:∀ i j t u,v = .int i → x = .int j → (∀ t tk,Q (.int (f i j) t) { s with toks:=tk }) → wpAny (model prog wd) A (binaryOp op (.int i t) (.int j u)) Q E s):wpAny (model prog wd) A (binaryOp op a b) Q E s:=by
  have H:=int2_ok h h' e
  clear h h' e
  cases H with | mk i j t u=>exact g i j t u rfl rfl fun t tk=>k _ tk (.int _ _)
theorem bin_ok {op:Bop} (h:VRel N w v a) (h':VRel N w x b) (hk:binOk op v x = true) (e:binop op v x = some r) (hl:asLst v = none) (k:BinK N w s r Q):wpAny (model prog wd) A (binaryOp (bopOf op) a b) Q E s:=by
  cases op with
  | add=>exact orE e (fun e=>bin_int h h' e k fun i j t u _ _ k=>PySem.P.add_int (k _ _)) fun e=>orE e (fun e=>bin_add h h' hk e k) fun e=>bindE e fun vs e _=>noS (hl.symm.trans e)
  | sub=>exact bin_int h h' e k fun i j t u _ _ k=>PySem.P.sub_int (k _ _)
  | mul=>
    refine orE e (fun e=>bin_int h h' e k fun i j t u e1 e2 k=>?_) fun e=>bin_rep h h' hk e k
    have k1:=Nat.le_of_ble_eq_true (andL ((e1 ▸ e2 ▸ hk:binOk .mul (.int i) (.int j) = true):mulOk i j = true))
    exact PySem.P.mul_int (k _ _) (IntMulOk.of_left (intBits_le_64 (by omega) (by omega)))
  | fdiv=>
    refine bin_int h h' e k fun i j t u e1 e2 k=>?_
    have hk:(leN _ _ && leN _ _) = true:=(e1 ▸ e2 ▸ hk:binOk .fdiv (.int i) (.int j) = true)
    have k1:=leN_le (andL hk)
    have k2:=leN_le (andR hk)
    exact floordiv_int (by omega) (k _ _) (.inl (PyProof.noPylong_small (by omega)))
  | mod=>
    refine bin_int h h' e k fun i j t u e1 e2 k=>?_
    have k1:=leN_le (e1 ▸ e2 ▸ hk:binOk .mod (.int i) (.int j) = true)
    exact mod_int' (by omega) (k _ _)
end
open PySem PySem.W PyProof.Rows
structure Cx where
  N:Nm
  prog:Program
  wd:World
  K:Frag
  mg:Str → Option Value
  mb:Str → Option Value
  p:Program
  loose:List Str
  gnm:Nat → Str
structure Fc where
  sc:Scope
  nms:List Str
noncomputable section
noncomputable def dE:Expr:=.Constant .none 0 ⟨0,0,0,0⟩
noncomputable def subs (t:Expr):List Expr:=Expr.casesOn (motive_1:=fun _=>List Expr) t (fun op vs p=>vs) (fun _ _ _=>[]) (fun l op r p=>[l,r]) (fun op e p=>[e]) (fun _ _ _ _=>[]) (fun t a b p=>[t,a,b]) (fun ks vs p=>vs) (fun _ _ _=>[]) (fun e g s p=>[e]) (fun _ _ _ _=>[]) (fun _ _ _ _ _=>[]) (fun _ _ _ _=>[]) (fun _ _=>[]) (fun _ _=>[]) (fun _ _=>[]) (fun l ops rs p=>l :: rs) (fun f as ks p=>f :: as) (fun e c fs p=>[e]) (fun vs p=>vs) (fun _ _ _=>[]) (fun e a p=>[e]) (fun e s p=>[e,s]) (fun _ _=>[]) (fun _ _=>[]) (fun vs p=>vs) (fun vs k p=>vs) (fun lo hi st p=>[lo.getD dE,hi.getD dE])
noncomputable def kwds (t:Expr):List Keyword:=Expr.casesOn (motive_1:=fun _=>List Keyword) t (fun _ _ _=>[]) (fun _ _ _=>[]) (fun _ _ _ _=>[]) (fun _ _ _=>[]) (fun _ _ _ _=>[]) (fun _ _ _ _=>[]) (fun _ _ _=>[]) (fun _ _ _=>[]) (fun _ _ _ _=>[]) (fun _ _ _ _=>[]) (fun _ _ _ _ _=>[]) (fun _ _ _ _=>[]) (fun _ _=>[]) (fun _ _=>[]) (fun _ _=>[]) (fun _ _ _ _=>[]) (fun f as ks p=>ks) (fun _ _ _ _=>[]) (fun _ _=>[]) (fun _ _ _=>[]) (fun _ _ _=>[]) (fun _ _ _=>[]) (fun _ _=>[]) (fun _ _=>[]) (fun _ _=>[]) (fun _ _ _=>[]) (fun _ _ _ _=>[])
noncomputable def dkeys (t:Expr):List (Option Expr):=Expr.casesOn (motive_1:=fun _=>List (Option Expr)) t (fun _ _ _=>[]) (fun _ _ _=>[]) (fun _ _ _ _=>[]) (fun _ _ _=>[]) (fun _ _ _ _=>[]) (fun _ _ _ _=>[]) (fun ks vs p=>ks) (fun _ _ _=>[]) (fun _ _ _ _=>[]) (fun _ _ _ _=>[]) (fun _ _ _ _ _=>[]) (fun _ _ _ _=>[]) (fun _ _=>[]) (fun _ _=>[]) (fun _ _=>[]) (fun _ _ _ _=>[]) (fun _ _ _ _=>[]) (fun _ _ _ _=>[]) (fun _ _=>[]) (fun _ _ _=>[]) (fun _ _ _=>[]) (fun _ _ _=>[]) (fun _ _=>[]) (fun _ _=>[]) (fun _ _=>[]) (fun _ _ _=>[]) (fun _ _ _ _=>[])
noncomputable def kOf (t:Expr):Nat:=Expr.casesOn (motive_1:=fun _=>Nat) t (fun _ _ _=>0) (fun _ _ _=>0) (fun _ _ _ _=>0) (fun _ _ _=>0) (fun _ _ _ _=>0) (fun _ _ _ _=>0) (fun _ _ _=>0) (fun _ _ _=>0) (fun _ _ _ _=>0) (fun _ _ _ _=>0) (fun _ _ _ _ _=>0) (fun _ _ _ _=>0) (fun _ _=>0) (fun _ _=>0) (fun _ _=>0) (fun _ _ _ _=>0) (fun _ _ _ _=>0) (fun _ _ _ _=>0) (fun _ _=>0) (fun c k p=>k) (fun _ _ _=>0) (fun _ _ _=>0) (fun _ _=>0) (fun _ _=>0) (fun _ _=>0) (fun vs k p=>k) (fun _ _ _ _=>0)
noncomputable def nOf (t:Expr):Str:=Expr.casesOn (motive_1:=fun _=>Str) t (fun _ _ _=>Str.empty) (fun _ _ _=>Str.empty) (fun _ _ _ _=>Str.empty) (fun _ _ _=>Str.empty) (fun _ _ _ _=>Str.empty) (fun _ _ _ _=>Str.empty) (fun _ _ _=>Str.empty) (fun _ _ _=>Str.empty) (fun _ _ _ _=>Str.empty) (fun _ _ _ _=>Str.empty) (fun _ _ _ _ _=>Str.empty) (fun _ _ _ _=>Str.empty) (fun _ _=>Str.empty) (fun _ _=>Str.empty) (fun _ _=>Str.empty) (fun _ _ _ _=>Str.empty) (fun _ _ _ _=>Str.empty) (fun _ _ _ _=>Str.empty) (fun _ _=>Str.empty) (fun _ _ _=>Str.empty) (fun _ _ _=>Str.empty) (fun _ _ _=>Str.empty) (fun _ _=>Str.empty) (fun x p=>x) (fun _ _=>Str.empty) (fun _ _ _=>Str.empty) (fun _ _ _ _=>Str.empty)
noncomputable def lcOf (t:Expr):List Comprehension × Scope:=Expr.casesOn (motive_1:=fun _=>List Comprehension × Scope) t (fun _ _ _=>([],⟨.module,[],false,false,[]⟩)) (fun _ _ _=>([],⟨.module,[],false,false,[]⟩)) (fun _ _ _ _=>([],⟨.module,[],false,false,[]⟩)) (fun _ _ _=>([],⟨.module,[],false,false,[]⟩)) (fun _ _ _ _=>([],⟨.module,[],false,false,[]⟩)) (fun _ _ _ _=>([],⟨.module,[],false,false,[]⟩)) (fun _ _ _=>([],⟨.module,[],false,false,[]⟩)) (fun _ _ _=>([],⟨.module,[],false,false,[]⟩)) (fun e g s p=>(g,s)) (fun _ _ _ _=>([],⟨.module,[],false,false,[]⟩)) (fun _ _ _ _ _=>([],⟨.module,[],false,false,[]⟩)) (fun _ _ _ _=>([],⟨.module,[],false,false,[]⟩)) (fun _ _=>([],⟨.module,[],false,false,[]⟩)) (fun _ _=>([],⟨.module,[],false,false,[]⟩)) (fun _ _=>([],⟨.module,[],false,false,[]⟩)) (fun _ _ _ _=>([],⟨.module,[],false,false,[]⟩)) (fun _ _ _ _=>([],⟨.module,[],false,false,[]⟩)) (fun _ _ _ _=>([],⟨.module,[],false,false,[]⟩)) (fun _ _=>([],⟨.module,[],false,false,[]⟩)) (fun _ _ _=>([],⟨.module,[],false,false,[]⟩)) (fun _ _ _=>([],⟨.module,[],false,false,[]⟩)) (fun _ _ _=>([],⟨.module,[],false,false,[]⟩)) (fun _ _=>([],⟨.module,[],false,false,[]⟩)) (fun _ _=>([],⟨.module,[],false,false,[]⟩)) (fun _ _=>([],⟨.module,[],false,false,[]⟩)) (fun _ _ _=>([],⟨.module,[],false,false,[]⟩)) (fun _ _ _ _=>([],⟨.module,[],false,false,[]⟩))
noncomputable def plainEx (t:Expr):Bool:=Expr.casesOn (motive_1:=fun _=>Bool) t (fun _ _ _=>true) (fun _ _ _=>true) (fun _ _ _ _=>true) (fun _ _ _=>true) (fun _ _ _ _=>true) (fun _ _ _ _=>true) (fun _ _ _=>true) (fun _ _ _=>true) (fun _ _ _ _=>true) (fun _ _ _ _=>true) (fun _ _ _ _ _=>true) (fun _ _ _ _=>true) (fun _ _=>true) (fun _ _=>true) (fun _ _=>true) (fun _ _ _ _=>true) (fun _ _ _ _=>true) (fun _ _ _ _=>true) (fun _ _=>true) (fun _ _ _=>true) (fun _ _ _=>true) (fun _ _ _=>true) (fun e p=>false) (fun _ _=>true) (fun _ _=>true) (fun _ _ _=>true) (fun lo hi st p=>false)
noncomputable def plainTrue (t:Expr):Bool:=Expr.casesOn (motive_1:=fun _=>Bool) t (fun op vs p=>false) (fun _ _ _=>true) (fun _ _ _ _=>true) (fun op e p=>false) (fun _ _ _ _=>true) (fun t a b p=>false) (fun _ _ _=>true) (fun _ _ _=>true) (fun _ _ _ _=>true) (fun _ _ _ _=>true) (fun _ _ _ _ _=>true) (fun _ _ _ _=>true) (fun _ _=>true) (fun _ _=>true) (fun _ _=>true) (fun l ops rs p=>false) (fun _ _ _ _=>true) (fun _ _ _ _=>true) (fun _ _=>true) (fun _ _ _=>true) (fun _ _ _=>true) (fun _ _ _=>true) (fun _ _=>true) (fun _ _=>true) (fun _ _=>true) (fun _ _ _=>true) (fun _ _ _ _=>true)
noncomputable def notComp (t:Expr):Bool:=Expr.casesOn (motive_1:=fun _=>Bool) t (fun _ _ _=>true) (fun _ _ _=>true) (fun _ _ _ _=>true) (fun _ _ _=>true) (fun _ _ _ _=>true) (fun _ _ _ _=>true) (fun _ _ _=>true) (fun _ _ _=>true) (fun e g s p=>false) (fun e g s p=>false) (fun k v g s p=>false) (fun _ _ _ _=>true) (fun _ _=>true) (fun _ _=>true) (fun _ _=>true) (fun _ _ _ _=>true) (fun _ _ _ _=>true) (fun _ _ _ _=>true) (fun _ _=>true) (fun _ _ _=>true) (fun _ _ _=>true) (fun _ _ _=>true) (fun _ _=>true) (fun _ _=>true) (fun _ _=>true) (fun _ _ _=>true) (fun _ _ _ _=>true)
noncomputable def isSeqEx (t:Expr):Bool:=Expr.casesOn (motive_1:=fun _=>Bool) t (fun _ _ _=>false) (fun _ _ _=>false) (fun _ _ _ _=>false) (fun _ _ _=>false) (fun _ _ _ _=>false) (fun _ _ _ _=>false) (fun _ _ _=>false) (fun _ _ _=>false) (fun _ _ _ _=>false) (fun _ _ _ _=>false) (fun _ _ _ _ _=>false) (fun _ _ _ _=>false) (fun _ _=>false) (fun _ _=>false) (fun _ _=>false) (fun _ _ _ _=>false) (fun _ _ _ _=>false) (fun _ _ _ _=>false) (fun _ _=>false) (fun _ _ _=>false) (fun _ _ _=>false) (fun _ _ _=>false) (fun _ _=>false) (fun _ _=>false) (fun vs p=>true) (fun vs k p=>true) (fun _ _ _ _=>false)
noncomputable def sAll (s:Stmt):List Expr × Expr × List Stmt × List Stmt:=Stmt.casesOn (motive_2:=fun _=>List Expr × Expr × List Stmt × List Stmt) s (fun _ _ _ _ _ _ _ _ _ _=>([],dE,[],[])) (fun _ _ _ _ _ _ _ _ _ _=>([],dE,[],[])) (fun _ _ _ _ _ _ _ _ _ _ _=>([],dE,[],[])) (fun o p=>([],o.getD dE,[],[])) (fun _ _=>([],dE,[],[])) (fun ts e p=>(ts,e,[],[])) (fun _ _ _ _ _ _ _=>([],dE,[],[])) (fun t op e p=>([t],e,[],[])) (fun _ _ _ _ _=>([],dE,[],[])) (fun t e b o p=>([t],e,b,o)) (fun _ _ _ _ _=>([],dE,[],[])) (fun e b o p=>([],e,b,o)) (fun e b o p=>([],e,b,o)) (fun _ _ _=>([],dE,[],[])) (fun _ _ _=>([],dE,[],[])) (fun _ _ _=>([],dE,[],[])) (fun _ _ _=>([],dE,[],[])) (fun _ _ _ _ _=>([],dE,[],[])) (fun _ _ _ _ _=>([],dE,[],[])) (fun _ _ _=>([],dE,[],[])) (fun _ _=>([],dE,[],[])) (fun _ _ _ _=>([],dE,[],[])) (fun _ _=>([],dE,[],[])) (fun _ _=>([],dE,[],[])) (fun e p=>([],e,[],[])) (fun _=>([],dE,[],[])) (fun _=>([],dE,[],[])) (fun _=>([],dE,[],[]))
noncomputable def isPlainName (x:Str):Bool:=!(x == ("__debug__":Str)) && !(x == ("super":Str))
noncomputable def hdE (l:List Expr):Expr:=List.casesOn (motive:=fun _=>Expr) l dE fun e _=>e
noncomputable def tlL {α:Type} (l:List α):List α:=List.casesOn (motive:=fun _=>List α) l [] fun _ r=>r
noncomputable def kid0 (t:Expr):Expr:=hdE (subs t)
noncomputable def kid1 (t:Expr):Expr:=hdE (tlL (subs t))
noncomputable def kid2 (t:Expr):Expr:=hdE (tlL (tlL (subs t)))
noncomputable def kids1 (t:Expr):List Expr:=tlL (subs t)
noncomputable def gen0 (t:Expr):Comprehension:=List.casesOn (motive:=fun _=>Comprehension) (lcOf t).1 ⟨dE,dE,[],0⟩ fun g _=>g
noncomputable def scOf (t:Expr):Scope:=(lcOf t).2
noncomputable def sE (s:Stmt):Expr:=(sAll s).2.1
noncomputable def sTs (s:Stmt):List Expr:=(sAll s).1
noncomputable def sTg (s:Stmt):Expr:=hdE (sAll s).1
noncomputable def sB (s:Stmt):List Stmt:=(sAll s).2.2.1
noncomputable def sO (s:Stmt):List Stmt:=(sAll s).2.2.2
noncomputable def hdS (l:List Stmt):Stmt:=List.casesOn (motive:=fun _=>Stmt) l (.Pass ⟨0,0,0,0⟩) fun e _=>e
noncomputable def hdK (l:List Keyword):Keyword:=List.casesOn (motive:=fun _=>Keyword) l ⟨none,dE,⟨0,0,0,0⟩⟩ fun e _=>e
noncomputable def hdO (l:List (Option Expr)):Expr:=List.casesOn (motive:=fun _=>Expr) l dE fun e _=>e.getD dE
noncomputable def isAbs (e:ME):Bool:=ME.casesOn (motive_1:=fun _=>Bool) e (fun _=>false) (fun _=>false) (fun _=>false) (fun _ _=>false) (fun _ _=>false) (fun _ _ _=>false) (fun _=>false) (fun _=>false) (fun _ _ _=>false) (fun _ _=>false) (fun _ _ _=>false) (fun _ _ _ _=>false) (fun _ _=>false) (fun _ _ _=>false) true (fun _ _=>false) (fun _=>false) (fun _ _ _=>false) (fun _ _=>false) (fun _=>false) (fun _ _=>false) (fun _=>false) false
noncomputable def kC (v:MV):Const:=MV.casesOn (motive_1:=fun _=>Const) v .none .bool .int (fun s=>.str (strOf s)) (fun _=>.none) (fun _=>.none) (fun _=>.none) (fun _=>.none) (fun _ _=>.none) (fun _ _=>.none) (fun _=>.none) (fun _=>.none) (fun _=>.none)
noncomputable def kOk (v:MV):Bool:=MV.casesOn (motive_1:=fun _=>Bool) v true (fun _=>true) (fun _=>true) (fun s=>leN s.length lim) (fun _=>false) (fun _=>false) (fun _=>false) (fun _=>false) (fun _ _=>false) (fun _ _=>false) (fun _=>false) (fun _=>false) (fun _=>false)
noncomputable def boOf (b:Bool):BoolOp:=bif b then .And else .Or
noncomputable def opsOf:MCs → List CmpOp
  | .nil=>[]
  | .cons op _ r=>copOf op :: opsOf r
noncomputable def toKx:List Int → List (Option Expr) → List (Option Expr)
  | [],_=>[]
  | k :: r,ts=>some (.Constant (.int k) (kOf (hdO ts)) (hdO ts).pos) :: toKx r (tlL ts)
section
variable (C:Cx) (f:Fc)
noncomputable def nmAt (i:Nat):Str:=(f.nms[i]?).getD Str.empty
mutual
noncomputable def toE:ME → Expr → Expr
  | .k v,t=>.Constant (kC v) (kOf t) t.pos
  | .v i,t=>.Name (nmAt f i) t.pos
  | .g i,t=>.Name (C.gnm i) t.pos
  | .at e a,t=>.Attribute (toE e (kid0 t)) (C.N.nm a) t.pos
  | .bo b es,t=>.BoolOp (boOf b) (toEs es (subs t)) t.pos
  | .bin op l r,t=>.BinOp (toE l (kid0 t)) (bopOf op) (toE r (kid1 t)) t.pos
  | .not e,t=>.UnaryOp .Not (toE e (kid0 t)) t.pos
  | .neg e,t=>.UnaryOp .USub (toE e (kid0 t)) t.pos
  | .ife c a b,t=>.IfExp (toB c (kid0 t)) (toE a (kid1 t)) (toE b (kid2 t)) t.pos
  | .cmp l r,t=>.Compare (toE l (kid0 t)) (opsOf r) (toCs r (kids1 t)) t.pos
  | .call g as ks,t=>.Call (.Name (C.gnm g) (kid0 t).pos) (toEs as (kids1 t)) (toKs ks (kwds t)) t.pos
  | .mc o a as ks,t=>.Call (.Attribute (toE o (kid0 (kid0 t))) (C.N.nm a) (kid0 t).pos) (toEs as (kids1 t)) (toKs ks (kwds t)) t.pos
  | .sub e i,t=>.Subscript (toE e (kid0 t)) (toE i (kid1 t)) t.pos
  | .sl e lo hi,t=>.Subscript (toE e (kid0 t)) (.Slice (bif isAbs lo then none else some (toE lo (kid0 (kid1 t)))) (bif isAbs hi then none else some (toE hi (kid1 (kid1 t)))) none (kid1 t).pos) t.pos
  | .abs,t=>t
  | .list _ es,t=>.List (toEs es (subs t)) t.pos
  | .tup es,t=>.Tuple (toEs es (subs t)) (kOf t) t.pos
  | .subd keys es i,t=>.Subscript (.Dict (toKx keys (dkeys (kid0 t))) (toEs es (subs (kid0 t))) (kid0 t).pos) (toE i (kid1 t)) t.pos
  | .comp m src,t=>.ListComp (.BinOp (.Name (nOf (kid0 (kid0 t))) (kid0 (kid0 t)).pos) .Mod (.Constant (.int m) (kOf (kid1 (kid0 t))) (kid1 (kid0 t)).pos) (kid0 t).pos)
      [⟨.Name (nOf (kid0 (kid0 t))) (gen0 t).target.pos,toE src (gen0 t).iter,[],0⟩] (scOf t) t.pos
  | .skeys e,t=>.Call (.Name "sorted" (kid0 t).pos) [.Call (.Attribute (toE e (kid0 (kid0 (kid1 t)))) "keys" (kid0 (kid1 t)).pos) [] [] (kid1 t).pos] [] t.pos
  | .fmt2 a b,t=>.JoinedStr [.FormattedValue (toE a (kid0 (hdE (subs t)))) 115 none (hdE (subs t)).pos,.FormattedValue (toE b (kid0 (hdE (tlL (subs t))))) 115 none (hdE (tlL (subs t))).pos] t.pos
  | .fmtT a,t=>.BinOp (.Constant (.str "!<%s>") (kOf (kid0 t)) (kid0 t).pos) .Mod (toE a (kid1 t)) t.pos
  | .dead,t=>t
noncomputable def toEs:MEs → List Expr → List Expr
  | .nil,_=>[]
  | .cons e r,ts=>toE e (hdE ts) :: toEs r (tlL ts)
noncomputable def toCs:MCs → List Expr → List Expr
  | .nil,_=>[]
  | .cons _ e r,ts=>toE e (hdE ts) :: toCs r (tlL ts)
noncomputable def toKs:MKs → List Keyword → List Keyword
  | .nil,_=>[]
  | .cons n e r,ts=>⟨some (C.N.nm n),toE e (hdK ts).value,(hdK ts).pos⟩ :: toKs r (tlL ts)
noncomputable def toB:MB → Expr → Expr
  | .not b,t=>.UnaryOp .Not (toB b (kid0 t)) t.pos
  | .bo b bs,t=>.BoolOp (boOf b) (toBs bs (subs t)) t.pos
  | .ife c a b,t=>.IfExp (toB c (kid0 t)) (toB a (kid1 t)) (toB b (kid2 t)) t.pos
  | .cmp l r,t=>.Compare (toE l (kid0 t)) (opsOf r) (toCs r (kids1 t)) t.pos
  | .val e,t=>toE e t
noncomputable def toBs:MBs → List Expr → List Expr
  | .nil,_=>[]
  | .cons b r,ts=>toB b (hdE ts) :: toBs r (tlL ts)
end
noncomputable def toT:MT → Expr → Expr
  | .v i,t=>.Name (nmAt f i) t.pos
  | .at e a,t=>.Attribute (toE C f e (kid0 t)) (C.N.nm a) t.pos
  | .tup is,t=>.Tuple (is.zipWith (fun i x=>.Name (nmAt f i) x.pos) (subs t)) (kOf t) t.pos
noncomputable def toTs:List MT → List Expr → List Expr
  | [],_=>[]
  | m :: r,ts=>toT C f m (hdE ts) :: toTs r (tlL ts)
mutual
noncomputable def toS:MS → Stmt → Stmt
  | .expr e,t=>.Expr (toE C f e (sE t)) t.pos
  | .asg ts e,t=>.Assign (toTs C f ts (sTs t)) (toE C f e (sE t)) t.pos
  | .asgo i es,t=>.Assign [.Name (nmAt f i) (sTg t).pos] (.List (toEs C f es (subs (sE t))) (sE t).pos) t.pos
  | .augv i op e,t=>.AugAssign (.Name (nmAt f i) (sTg t).pos) (bopOf op) (toE C f e (sE t)) t.pos
  | .augo i e,t=>.AugAssign (.Name (nmAt f i) (sTg t).pos) .Add (toE C f e (sE t)) t.pos
  | .auga o a op e,t=>.AugAssign (.Attribute (toE C f o (kid0 (sTg t))) (C.N.nm a) (sTg t).pos) (bopOf op) (toE C f e (sE t)) t.pos
  | .app i e,t=>.Expr (.Call (.Attribute (.Name (nmAt f i) (kid0 (kid0 (sE t))).pos) "append" (kid0 (sE t)).pos) [toE C f e (hdE (kids1 (sE t)))] [] (sE t).pos) t.pos
  | .ife c a b,t=>.If (toB C f c (sE t)) (toSs a (sB t)) (toSs b (sO t)) t.pos
  | .whl c b,t=>.While (toB C f c (sE t)) (toSs b (sB t)) [] t.pos
  | .for i e b,t=>.For (.Name (nmAt f i) (sTg t).pos) (toE C f e (sE t)) (toSs b (sB t)) [] t.pos
  | .forr i e b,t=>.For (.Name (nmAt f i) (sTg t).pos) (.Call (.Name "range" (kid0 (sE t)).pos) [toE C f e (hdE (kids1 (sE t)))] [] (sE t).pos) (toSs b (sB t)) [] t.pos
  | .ret e,t=>.Return (some (toE C f e (sE t))) t.pos
  | .ret0,t=>.Return none t.pos
  | .pass,t=>.Pass t.pos
  | .dead,t=>t
noncomputable def toSs:MSs → List Stmt → List Stmt
  | .nil,_=>[]
  | .cons s r,ts=>toS s (hdS ts) :: toSs r (tlL ts)
end
end
noncomputable def eqT:Tx → Tx → Bool
  | [],[]=>true
  | a :: r,b :: q=>Nat.beq a b && eqT r q
  | _,_=>false
noncomputable def eqS (x y:Str):Bool:=eqT x.cps.toList y.cps.toList
noncomputable def lookL (x:Str) (l:List (Str × NameKind)):Option NameKind:=List.rec (motive:=fun _=>Option NameKind) none (fun p _ ih=>bif eqS x p.1 then some p.2 else ih) l
noncomputable def isK (k:NameKind) (o:Option NameKind):Bool:=(o.map fun j=>Nat.beq j.ctorIdx k.ctorIdx).getD false
noncomputable def isLoc (o:Option NameKind):Bool:=isK .local o
noncomputable def isGlo (o:Option NameKind):Bool:=isK .globalImplicit o
noncomputable def ltN (a b:Nat):Bool:=Nat.ble (a + 1) b
noncomputable def plainN (x:Str):Bool:=!(eqS x "__debug__") && !(eqS x "super")
noncomputable def sc2B (sc:Scope) (x:Str):Bool:=Nat.beq sc.names.length 2 && (eqS ((nth sc.names 0).elim Str.empty Prod.fst) ".0" && isLoc ((nth sc.names 0).map Prod.snd) && (eqS ((nth sc.names 1).elim Str.empty Prod.fst) x && isLoc ((nth sc.names 1).map Prod.snd)))
noncomputable def funB (k:ScopeKind):Bool:=Nat.beq k.ctorIdx ScopeKind.function.ctorIdx
noncomputable def ndI (l:List Int):Bool:=List.rec (motive:=fun _=>Bool) true (fun k r ih=>r.all (fun j=>!eqI k j) && ih) l
noncomputable def asgOk (ts:List Expr) (ex:Expr):Bool:=notComp ex && !(isSeqEx (hdE ts) && isSeqEx ex)
noncomputable def swapB (x:Str) (p:Pos) (ex:Expr):Bool:=p.line == ex.pos.line && !((scOf ex).names.any fun q=>q.1 == x && (q.2 == .local || q.2 == .cell))
noncomputable def isCm (e:ME):Bool:=ME.casesOn (motive_1:=fun _=>Bool) e (fun _=>false) (fun _=>false) (fun _=>false) (fun _ _=>false) (fun _ _=>false) (fun _ _ _=>false) (fun _=>false) (fun _=>false) (fun _ _ _=>false) (fun _ _=>false) (fun _ _ _=>false) (fun _ _ _ _=>false) (fun _ _=>false) (fun _ _ _=>false) false (fun _ _=>false) (fun _=>false) (fun _ _ _=>false) (fun _ _=>true) (fun _=>false) (fun _ _=>false) (fun _=>false) false
noncomputable def isV1 (l:List MT):Bool:=((one l).map fun m=>MT.casesOn (motive:=fun _=>Bool) m (fun _=>true) (fun _ _=>false) fun _=>false).getD false
noncomputable def mEs:MEs → Nat
  | .nil=>0
  | .cons _ r=>mEs r + 1
noncomputable def mKs:MKs → Nat
  | .nil=>0
  | .cons _ _ r=>mKs r + 1
section
variable (C:Cx) (f:Fc)
noncomputable def locB (i:Nat):Bool:=ltN i f.nms.length && isLoc (lookL (nmAt f i) f.sc.names)
noncomputable def plocB (i:Nat):Bool:=locB f i && plainN (nmAt f i)
mutual
noncomputable def okE:ME → Expr → Bool
  | .k v,_=>kOk v
  | .v i,_=>plocB f i
  | .g i,_=>isGlo (lookL (C.gnm i) f.sc.names) && plainN (C.gnm i)
  | .at e a,t=>okE e (kid0 t) && ltN a C.N.natr
  | .bo _ es,t=>okEs es (subs t)
  | .bin _ l r,t=>okE l (kid0 t) && okE r (kid1 t)
  | .not e,t=>okE e (kid0 t)
  | .neg e,t=>okE e (kid0 t)
  | .ife c a b,t=>okB c (kid0 t) && (okE a (kid1 t) && okE b (kid2 t))
  | .cmp l r,t=>okE l (kid0 t) && okCs r (kids1 t)
  | .call g as ks,t=>isGlo (lookL (C.gnm g) f.sc.names) && (plainN (C.gnm g) && (okEs as (kids1 t) && okKs ks (kwds t)))
  | .mc o a as ks,t=>okE o (kid0 (kid0 t)) && (ltN a C.N.natr && (okEs as (kids1 t) && (okKs ks (kwds t) && (ltN (mEs as + mKs ks) 20 && (kid0 t).pos.endLine == t.pos.line))))
  | .sub e i,t=>okE e (kid0 t) && okE i (kid1 t)
  | .sl e lo hi,t=>okE e (kid0 t) && ((isAbs lo || okE lo (kid0 (kid1 t))) && (isAbs hi || okE hi (kid1 (kid1 t))))
  | .abs,_=>false
  | .list _ es,t=>okEs es (subs t) && ltN (mEs es) 1000
  | .tup es,t=>okEs es (subs t) && ltN (mEs es) 1000
  | .subd keys es i,t=>okEs es (subs (kid0 t)) && (ltN keys.length 15 && (Nat.beq keys.length (mEs es) && (ndI keys && (!keys.isEmpty && okE i (kid1 t)))))
  | .comp m src,t=>ltI 0 m && (okE src (gen0 t).iter && (funB (scOf t).kind && (sc2B (scOf t) (nOf (kid0 (kid0 t))) && (!(eqS (nOf (kid0 (kid0 t))) ".0") && (plainN (nOf (kid0 (kid0 t))) && (!(scOf t).isGenerator && !(scOf t).isCoroutine))))))
  | .skeys e,t=>okE e (kid0 (kid0 (kid1 t))) && (isGlo (lookL "sorted" f.sc.names) && (kid0 (kid1 t)).pos.endLine == (kid1 t).pos.line)
  | .fmt2 a b,t=>okE a (kid0 (hdE (subs t))) && okE b (kid0 (hdE (tlL (subs t))))
  | .fmtT a,t=>okE a (kid1 t)
  | .dead,t=>plainEx t
noncomputable def okEs:MEs → List Expr → Bool
  | .nil,_=>true
  | .cons e r,ts=>okE e (hdE ts) && okEs r (tlL ts)
noncomputable def okCs:MCs → List Expr → Bool
  | .nil,_=>true
  | .cons op e r,ts=>okE e (hdE ts) && (!behindInMarks (copOf op) (toE C f e (hdE ts)) && okCs r (tlL ts))
noncomputable def okKs:MKs → List Keyword → Bool
  | .nil,_=>true
  | .cons n e r,ts=>ltN n C.N.natr && (okE e (hdK ts).value && okKs r (tlL ts))
noncomputable def okB:MB → Expr → Bool
  | .not b,t=>okB b (kid0 t)
  | .bo _ bs,t=>okBs bs (subs t)
  | .ife c a b,t=>okB c (kid0 t) && (okB a (kid1 t) && okB b (kid2 t))
  | .cmp l r,t=>okE l (kid0 t) && okCs r (kids1 t)
  | .val e,t=>plainTrue (toE C f e t) && okE e t
noncomputable def okBs:MBs → List Expr → Bool
  | .nil,_=>true
  | .cons b r,ts=>okB b (hdE ts) && okBs r (tlL ts)
end
noncomputable def okT:MT → Expr → Bool
  | .v i,_=>locB f i
  | .at e a,t=>okE C f e (kid0 t) && ltN a C.N.natr
  | .tup is,t=>is.all (locB f) && Nat.beq is.length (subs t).length
noncomputable def okTs:List MT → List Expr → Bool
  | [],_=>true
  | m :: r,ts=>okT C f m (hdE ts) && okTs r (tlL ts)
mutual
noncomputable def okS:MS → Stmt → Bool
  | .expr e,t=>okE C f e (sE t) && notComp (toE C f e (sE t))
  | .asg ts e,t=>okE C f e (sE t) && (okTs C f ts (sTs t) && (bif isCm e then isV1 ts && swapB (nOf (hdE (toTs C f ts (sTs t)))) (hdE (sTs t)).pos (toE C f e (sE t)) else asgOk (toTs C f ts (sTs t)) (toE C f e (sE t))))
  | .asgo i es,t=>locB f i && (okEs C f es (subs (sE t)) && ltN (mEs es) 1000)
  | .augv i _ e,t=>plocB f i && okE C f e (sE t)
  | .augo i e,t=>plocB f i && okE C f e (sE t)
  | .auga o a _ e,t=>okE C f o (kid0 (sTg t)) && (ltN a C.N.natr && okE C f e (sE t))
  | .app i e,t=>plocB f i && (okE C f e (hdE (kids1 (sE t))) && (kid0 (sE t)).pos.endLine == (sE t).pos.line)
  | .ife c a b,t=>okB C f c (sE t) && (okSs a (sB t) && okSs b (sO t))
  | .whl c b,t=>okB C f c (sE t) && okSs b (sB t)
  | .for i e b,t=>locB f i && (okE C f e (sE t) && okSs b (sB t))
  | .forr i e b,t=>locB f i && (isGlo (lookL "range" f.sc.names) && (okE C f e (hdE (kids1 (sE t))) && okSs b (sB t)))
  | .ret e,t=>okE C f e (sE t)
  | .ret0,_=>true
  | .pass,_=>true
  | .dead,_=>true
noncomputable def okSs:MSs → List Stmt → Bool
  | .nil,_=>true
  | .cons s r,ts=>okS s (hdS ts) && okSs r (tlL ts)
end
end
end
noncomputable def rl (sh:Sto):Nat:=(sh.rows.map List.length).getD 0
noncomputable abbrev PhiMono (Φ:Phi):Prop:=∀ f as sh v sh',Φ f as sh = some (v,sh') → rl sh' ≤ lim → rl sh ≤ rl sh'
section
variable {T:Tab} {Φ:Phi} {sh:Sto}
theorem mapRl {α:Type} {x:Option α} {g:α → MV × Sto} {r:MV × Sto} (h:x.map g = some r) (k:∀ a,x = some a → rl sh ≤ rl (g a).2):rl sh ≤ rl r.2:=mapE h fun a e1 e2=>e2 ▸ k a e1
theorem setList_mono {sh':Sto} {l:Loc} {vs ws:List MV} (h0:getList sh l = some vs) (h:setList sh ws l = some sh') (hl:isRows l = false ∨ vs.length ≤ ws.length):rl sh ≤ rl sh':=by
  cases l with
  | rows=>
    obtain rfl:=Option.some.inj h
    rcases hl with hl | hl
    · exact noB hl.symm
    · show (sh.rows.map List.length).getD 0 ≤ ws.length
      rw [show sh.rows = some vs from h0];exact hl
  | states | events | indents=>obtain rfl:=Option.some.inj h;exact Nat.le_refl _
  | em | emD | tmp | tmpD=>exact noS h
theorem methB_mono {o a pos r} (h:methB sh o a pos = some r):rl sh ≤ rl r.2:=bindE h fun f h1 h=>by
  match a,h1 with
  | 0,h1=>
    obtain rfl:=Option.some.inj h1
    exact bindE h fun l _ h=>bindE h fun v _ h=>bindE h fun vs h1 h=>mapRl h fun a h2=>setList_mono h1 h2 (.inr (by rw [List.length_append];exact Nat.le_add_right _ _))
  | 1,h1=>
    obtain rfl:=Option.some.inj h1
    exact bindE h fun l _ h=>ifE h (fun _ h=>noS h) fun hl h=>bindE h fun vs h1 h=>ifE h (fun _ h=>bindE h fun v _ h=>mapRl h fun a h2=>setList_mono h1 h2 (.inl hl)) fun _ h=>bindE h fun v _ h=>bindE h fun i _ h=>ifE h (fun _ h=>by
      cases vs with
      | nil=>exact noS h
      | cons v vs=>exact mapRl h fun a h2=>setList_mono h1 h2 (.inl hl)) fun _ h=>noS h
  | 2,h1=>obtain rfl:=Option.some.inj h1;exact bindE h fun l _ h=>bindE h fun v _ h=>mapRl h fun a _=>Nat.le_refl _
  | 3,h1=>obtain rfl:=Option.some.inj h1;exact bindE h fun l _ h=>bindE h fun v _ h=>bindE h fun v _ h=>mapRl h fun a _=>Nat.le_refl _
  | 4,h1=>obtain rfl:=Option.some.inj h1;exact bindE h fun l _ h=>bindE h fun v _ h=>bindE h fun v _ h=>ifE h (fun _ h=>noS h) fun _ h=>Option.some.inj h ▸ Nat.le_refl _
  | 5,h1=>obtain rfl:=Option.some.inj h1;exact ifE h (fun _ h=>mapRl h fun a _=>Nat.le_refl _) fun _ h=>noS h
  | n + 6,h1=>exact noS h1
theorem setA_mono {o a v sh'} (h:setA T sh o a v = some sh'):rl sh ≤ rl sh':=bindE h fun l _ h=>by
  cases l with
  | em=>exact bindE h fun E _ h=>mapE h fun E' _ h=>h ▸ Nat.le_refl _
  | tmp=>exact bindE h fun E _ h=>mapE h fun E' _ h=>h ▸ Nat.le_refl _
  | _=>exact noS h
theorem getVar_sh {st i v st'} (h:getVar st i = some (v,st')):st'.sh = st.sh:=bindE h fun c _ h=>by
  cases c with
  | unset=>exact noS h
  | _=>exact (congrArg (fun p:MV × St=>p.2.sh) (Option.some.inj h)).symm
theorem endInst_rl {c vs r} (h:endInst T c vs sh = some r):rl r.2 = rl sh:=
  ifE h (fun _ h=>ifE h (fun _ h=>Option.some.inj h ▸ rfl) fun _ h=>noS h) fun _ h=>ifE h (fun _ h=>Option.some.inj h ▸ rfl) fun _ h=>noS h
variable (hΦ:PhiMono Φ)
include hΦ
theorem callF_mono {f pos kws r} (h:callF T Φ f pos kws sh = some r) (hr:rl r.2 ≤ lim):rl sh ≤ rl r.2:=bindE h fun as _ h=>hΦ _ _ _ _ _ h hr
theorem callV_mono {fv pos kws r} (h:callV T Φ fv pos kws sh = some r) (hr:rl r.2 ≤ lim):rl sh ≤ rl r.2:=by
  cases fv with
  | fn f=>exact callF_mono hΦ h hr
  | meth f l=>exact callF_mono hΦ h hr
  | bi b=>cases kws with
    | nil=>exact mapRl (g:=fun v=>(v,sh)) h fun a _=>Nat.le_refl _
    | cons _ _=>exact noS h
  | cls c=>
    refine ifE h (fun _ h=>?_) fun _ h=>noS h
    refine bindE h fun f _ h=>bindE h fun q h1 h=>?_
    have m:=callF_mono hΦ h1
    exact ifE h (fun _ h=>bindE h fun p _ h=>ifE h (fun _ h=>bindE h fun vs _ h=>(endInst_rl h).symm ▸ m ((endInst_rl h) ▸ hr)) fun _ h=>noS h) fun _ h=>noS h
  | _=>exact noS h
theorem callC_mono {c o a pos kws r} (h:callC T Φ c o a pos kws sh = some r) (hr:rl r.2 ≤ lim):rl sh ≤ rl r.2:=by
  cases c with
  | some q=>exact callF_mono hΦ h hr
  | none=>exact ifE h (fun _ h=>methB_mono h) fun _ h=>noS h
end
open PySem PySem.W PyProof.Rows PySem.Calls PySem.Builtin PySem.Builtin.ObjectAttr
theorem lookIn_of_ns {o:Obj} {m:Str → Option Value} (h:isNsO o m) (name:Str):lookIn name o = some (m name):=by
  obtain ⟨es,ep,hd,hk,hf⟩:=h
  unfold lookIn
  rw [hd]
  dsimp only
  rw [← hf name]
  have hany:(es.toList.any fun e=>e.refKey) = false:=by
    rw [List.any_eq_false]
    intro e he
    obtain ⟨n,t,q⟩:=hk e (Array.mem_toList_iff.mp he)
    simp [DictEntry.refKey,q]
  rw [hany]
  unfold nsFind findBy
  rw [← Array.find?_toList]
  cases es.toList.find? fun e=>e.key.isStr name <;> simp
theorem cnt_set:∀ {fs:List (Option MV)} {i:Nat} {v:MV},i < fs.length → cnt (fs.set i (some v)) = if ((fs[i]?).join).isSome then cnt fs else cnt fs + 1
  | [],i,v,h=>by simp at h
  | x :: r,0,v,h=>by cases x <;> simp [cnt]
  | x :: r,i + 1,v,h=>by
    have ih:=cnt_set (fs:=r) (i:=i) (v:=v) (by simpa using h)
    cases x with
    | none=>simpa [cnt] using ih
    | some y=>
      simp only [List.set_cons_succ,List.getElem?_cons_succ]
      unfold cnt at ih ⊢
      rw [List.filter_cons_of_pos (by rfl),List.filter_cons_of_pos (by rfl),List.length_cons,List.length_cons,ih]
      split <;> rfl
theorem cnt_le (fs:List (Option MV)):cnt fs ≤ fs.length:=List.length_filter_le ..
section
variable {M:Model} {A:Around} {E:Value → Shared → Prop} {s:Shared}
theorem nsSet_ok {a:Addr} {o:Obj} {m:Str → Option Value} {b:Nat} {name:Str} {v:Value} {Q:Unit → Shared → Prop} (ho:s.heap.get? a = some o) (hm:isNsB o m b)
    (h:∀ h' o',Heap.SameBut a s.heap h' → h'.get? a = some o' → isNsB o' (fun x=>if x = name then some v else m x) (if (m name).isSome then b else b + 1) → Q () { s with heap:=h',toks:=s.toks + 1 }):wpAny M A (nsSet a name v) Q E s:=by
  obtain ⟨es,ep,hd,hb,hk,hf⟩:=hm
  have hany:es.any (·.refKey) = false:=by
    rw [Array.any_eq_false'];intro e he;obtain ⟨n,t,h⟩:=hk e he;simp [DictEntry.refKey,h]
  unfold nsSet strHash
  refine wpAny_bind (wpAny_bind (wpAny_askSetting (wpAny_pure (wpAny_bind (wpAny_mkText (wpAny_bind (wpAny_loadPart ho ?_)))))))
  rw [hd]
  dsimp only
  rw [aRefKeyMayBeTheName_at,hany,Bool.and_false]
  refine wpAny_updatePart ho ?_
  have hsome:(m name).isSome = (es.findIdx? (·.key.isStr name)).isSome:=by
    rw [← hf name];unfold nsFind;rw [findBy_of_findIdx?]
    cases hi:es.findIdx? (fun e=>e.key.isStr name) with
    | none=>rfl
    | some i=>
      have:=Array.findIdx?_eq_some_iff_getElem.mp hi
      obtain ⟨h1,_⟩:=this
      simp [Array.getElem?_eq_getElem h1]
  obtain ⟨c,d,dt,sl⟩:=o
  dsimp only at hd
  subst hd
  cases hi:es.findIdx? (·.key.isStr name) with
  | some i=>
    refine h _ _ (Heap.SameBut.update ..) (Heap.get?_update_self _ ho (by simp only [Obj.putName_eq,Obj.putNameByArray,hi];rfl)) ?_
    refine ⟨_,ep,by simp only [Obj.putName_eq,Obj.putNameByArray,hi];rfl,by rw [hsome,hi];simpa using hb,hk.modify _ _,fun x=>?_⟩
    show _ = if x = name then some v else m x
    rw [← hf];exact findBy_modify (fun n v=>v.isStr n) Value.isStr_inj es name x v i hi
  | none=>
    refine h _ _ (Heap.SameBut.update ..) (Heap.get?_update_self _ ho (by simp only [Obj.putName_eq,Obj.putNameByArray,hi];rfl)) ?_
    refine ⟨_,ep + 1,by simp only [Obj.putName_eq,Obj.putNameByArray,hi];rfl,by rw [hsome,hi];simpa using hb,hk.push _ _ _ _,fun x=>?_⟩
    show _ = if x = name then some v else m x
    rw [← hf]
    exact findBy_push (fun n v=>v.isStr n) es name x _ _ v (fun y=>by
      show (name == y) = decide (y = name)
      by_cases h:y = name
      · subst h;simp
      · have:¬ name = y:=fun e=>h e.symm
        simp [h,this]) hi
end
structure ClsOk (C:Cx) (c:Nat):Prop where
  ga:findIn C.K (.ref (C.N.cla c)) "__getattribute__" = some (some (.builtin "object.__getattribute__"))
  gk:findIn C.K (.ref (C.N.cla c)) "__getattr__" = some none
  sa:findIn C.K (.ref (C.N.cla c)) "__setattr__" = some (some (.builtin "object.__setattr__"))
  hd:hasDictIn C.K (C.N.cla c) = true
  po:plainOver C.K (C.N.cla c) = true
  fld:∀ n i,n < C.N.natr → fieldIx (C.N.T.clsFields c) n = some i → findIn C.K (.ref (C.N.cla c)) (C.N.nm n) = some none
  mth:∀ n f,n < C.N.natr → C.N.T.clsMeth c n = some f → fieldIx (C.N.T.clsFields c) n = none ∧ findIn C.K (.ref (C.N.cla c)) (C.N.nm n) = some (some (.ref (C.N.fna f))) ∧ isFn C.K (.ref (C.N.fna f)) = true ∧
    specialIn C.K (.ref (C.N.fna f)) "__get__" = some (some (.builtin "function.__get__")) ∧ takesIn C.K (.ref (C.N.fna f)) = some false ∧ copiedNames.contains (C.N.nm n) = false ∧ (C.N.T.body f).isSome = true
  att:∀ n v,n < C.N.natr → C.N.T.clsAttr c n = some v → ∃ a,fieldIx (C.N.T.clsFields c) n = none ∧ findIn C.K (.ref (C.N.cla c)) (C.N.nm n) = some (some a) ∧ specialIn C.K a "__get__" = some none ∧ handedIn a = true ∧
    copiedNames.contains (C.N.nm n) = false ∧ ∀ w:Wd,(∀ a o,C.N.h₀.get? a = some o → w.G a = some o) → VRel C.N w v a
  len:(C.N.T.clsFields c).length ≤ 900
  fn:∀ n ∈ C.N.T.clsFields c,n < C.N.natr
  fnd:(C.N.T.clsFields c).Nodup
structure CxOk (C:Cx):Prop where
  X:C.K.In C.N.h₀
  top:TopRead C.p C.loose C.mg C.mb C.N.h₀
  cls:∀ c,(C.N.T.clsInit c).isSome = true → ClsOk C c
  em:(C.N.T.clsInit C.N.T.emC).isSome = true
  inj:∀ n m,n < C.N.natr → m < C.N.natr → C.N.nm n = C.N.nm m → n = m
  handed:∀ b,handedIn (C.N.bin b) = true
  par:C.wd.params = C.N.P
theorem CxOk.In {C:Cx} (O:CxOk C) {w:Wd} {P:PMap} {sh:Sto} {h:Heap} (S:Sh C.N w P sh h):C.K.In h:=O.X.keeps fun a o e=>S.frz _ _ (S.base _ _ e)
theorem CxOk.topIn {C:Cx} (O:CxOk C) {w:Wd} {P:PMap} {sh:Sto} {h:Heap} (S:Sh C.N w P sh h):TopRead C.p C.loose C.mg C.mb h:=O.top.keeps fun a o e=>S.frz _ _ (S.base _ _ e)
theorem handed_of {C:Cx} (O:CxOk C) {w:Wd} {v:MV} {a:Value} (h:VRel C.N w v a):handedIn a = true:=by
  cases v with
  | bi b=>exact (h:a = _) ▸ O.handed b
  | int i=>obtain ⟨t,rfl⟩:=h.int_inv;rfl
  | str i=>obtain ⟨_,t,rfl⟩:=h.str_inv;rfl
  | loc i=>obtain ⟨t,_,rfl⟩:=h.loc_inv;rfl
  | meth f l=>cases (h:MethR _ w f l a);rfl
  | inst c fs=>obtain ⟨_,_,⟨_⟩⟩:=VRel.inst_eq.mp h;rfl
  | lst vs=>obtain ⟨_,_,⟨_⟩⟩:=VRel.lst_eq.mp h;rfl
  | tup vs=>obtain ⟨_,_,⟨_⟩⟩:=VRel.tup_eq.mp h;rfl
  | sd kvs=>cases (h:SdR _ w kvs a);rfl
  | _=>exact h ▸ rfl
theorem field_go {a:Nat} {fs:List Nat}:∀ {k i:Nat},List.rec (motive:=fun _=>Nat → Option Nat) (fun _=>none) (fun x _ ih n=>bif Nat.beq x a then some n else ih (n + 1)) fs k = some i → ∃ j,i = k + j ∧ fs[j]? = some a:=by
  induction fs with
  | nil=>intro k i h;exact noS h
  | cons x r ih=>exact fun {k i} h=>ifE h (fun e h=>⟨0,(Option.some.inj h).symm,congrArg some (Nat.eq_of_beq_eq_true e)⟩) fun _ h=>let ⟨j,h1,h2⟩:=ih h;⟨j + 1,h1.trans (Nat.add_right_comm ..),h2⟩
theorem field_ix {fs:List Nat} {n i:Nat} (h:fieldIx fs n = some i):fs[i]? = some n:=by
  obtain ⟨j,h1,h2⟩:=field_go h
  rw [h1,Nat.zero_add];exact h2
theorem field_inj {fs:List Nat} {n m i:Nat} (h:fieldIx fs n = some i) (h':fieldIx fs m = some i):n = m:=Option.some.inj ((field_ix h).symm.trans (field_ix h'))
section
variable {C:Cx} {w:Wd} {ω:Nat → Option Addr} {P:PMap} {L:FL} {nms:List Str} {st:St} {A:Around} {E:Value → Shared → Prop} {s:Shared}
noncomputable abbrev Go (C:Cx) (w:Wd) (P:PMap) (L:FL) (nms:List Str) (st':St) (v:MV) (s:Shared) (Q:Value → Shared → Prop):Prop:=
  ∀ w' ω' h' tk a,w.Ext w' → Fm C.N w' ω' P L nms st' h' → VRel C.N w' v a → Q a { s with heap:=h',toks:=tk }
theorem orel_some {N:Nm} {w:Wd} {v:MV} {x:Option Value} (h:ORel N w (some v) x):∃ a,x = some a ∧ VRel N w v a:=h
theorem orel_none {N:Nm} {w:Wd} {x:Option Value} (h:ORel N w none x):x = none:=h
theorem instAt_of {N:Nm} {h:Heap} {x C dx:Addr} {od:Obj} (hx:h.get? x = some (instObj C dx)) (hd:h.get? dx = some od):InstAt h x (instObj C dx) C (some od):=⟨hx,rfl,rfl,hd⟩
theorem getA_val (O:CxOk C) (F:Fm C.N w ω P L nms st s.heap) {x dx:Addr} {c n i:Nat} {od:Obj} {m:Str → Option Value} {v:MV} {a:Value} {Q:Value → Shared → Prop} {expr:Bool}
    (K:ClsOk C c) (hx:s.heap.get? x = some (instObj (C.N.cla c) dx)) (hd:s.heap.get? dx = some od) (hm:isNsO od m) (hn:n < C.N.natr) (hi:fieldIx (C.N.T.clsFields c) n = some i)
    (e:m (C.N.nm n) = some a) (hr:VRel C.N w v a) (k:Go C w P L nms st v s Q):wpAny (model C.prog C.wd) A (getAttr (.ref x) (C.N.nm n) expr) Q E s:=
  get_value (O.In F.sh) (instAt_of (N:=C.N) hx hd) K.ga (findObj_own K.hd (K.fld n i hn hi) rfl (by rw [lookIn_of_ns hm,e])) (handed_of O hr) (k w ω s.heap _ a (.refl w) F hr)
theorem getA_att (O:CxOk C) (F:Fm C.N w ω P L nms st s.heap) {x dx:Addr} {c n:Nat} {od:Obj} {m:Str → Option Value} {v:MV} {Q:Value → Shared → Prop} {expr:Bool}
    (K:ClsOk C c) (hx:s.heap.get? x = some (instObj (C.N.cla c) dx)) (hd:s.heap.get? dx = some od) (hm:isNsO od m) (hn:n < C.N.natr) (hv:C.N.T.clsAttr c n = some v)
    (e:m (C.N.nm n) = none) (k:Go C w P L nms st v s Q):wpAny (model C.prog C.wd) A (getAttr (.ref x) (C.N.nm n) expr) Q E s:=by
  obtain ⟨a,_,k1,k2,k3,k4,k5⟩:=K.att n v hn hv
  exact get_value (O.In F.sh) (instAt_of (N:=C.N) hx hd) K.ga (findObj_cls K.hd k1 k2 k3 k4 (by rw [lookIn_of_ns hm,e])) k3 (k w ω s.heap _ a (.refl w) F (k5 w F.sh.base))
theorem getA_meth (O:CxOk C) (F:Fm C.N w ω P L nms st s.heap) {x dx:Addr} {c n f:Nat} {l:Loc} {od:Obj} {m:Str → Option Value} {Q:Value → Shared → Prop} {expr:Bool}
    (K:ClsOk C c) (hl:w.ρ l = some x) (hx:s.heap.get? x = some (instObj (C.N.cla c) dx)) (hd:s.heap.get? dx = some od) (hm:isNsO od m) (hn:n < C.N.natr) (hv:C.N.T.clsMeth c n = some f)
    (e:m (C.N.nm n) = none) (k:Go C w P L nms st (.meth f l) s Q):wpAny (model C.prog C.wd) A (getAttr (.ref x) (C.N.nm n) expr) Q E s:=by
  obtain ⟨_,k1,k2,k3,k4,k5,k6⟩:=K.mth n f hn hv
  refine get_bind (O.In F.sh) (instAt_of (N:=C.N) hx hd) K.ga (findObj_fn K.hd k1 k3 k4 k5 (by rw [lookIn_of_ns hm,e])) K.gk
    (wpAny_call (fn_get (s:={ s with toks:=s.toks + 1 }) (O.In F.sh) (beq_iff_eq.mp k2) (handed_on rfl ?_)))
  obtain ⟨x',F'⟩:=F.addNew (h':=s.heap.push (methodObj (.ref (C.N.fna f)) (.ref x))) (fun b o e=>Heap.get?_push_of_some _ e) (a:=s.heap.objs.size) (o:=methodObj (.ref (C.N.fna f)) (.ref x))
    (Heap.get?_none_of_le (Nat.le_refl _)) (Heap.get?_push_size _ rfl)
  exact k _ _ _ _ _ x' F' (MethR.mk k6 (x'.ρ _ _ hl) Wd.add_at)
inductive SlotAt (C:Cx) (w:Wd) (h:Heap) (x:Addr) (c:Nat) (g:Nat → Option MV):Prop
  | mk {dx:Addr} {od:Obj} {m:Str → Option Value} {b:Nat} (K:ClsOk C c) (hx:h.get? x = some (instObj (C.N.cla c) dx)) (hd:h.get? dx = some od) (hm:isNsB od m b) (hf:∀ n,n < C.N.natr → ORel C.N w (g n) (m (C.N.nm n)))
    (hg:∀ n v,g n = some v → ∃ i,fieldIx (C.N.T.clsFields c) n = some i)
theorem slot_at (O:CxOk C) {sh:Sto} (S:Sh C.N w P sh s.heap) {l:Loc} {x:Addr} (hl:w.ρ l = some x) {p:Nat × (Nat → Option MV)} (e:slot C.N.T sh l = some p):SlotAt C w s.heap x p.1 p.2:=by
  cases l with
  | em=>
      obtain ⟨E,h1,rfl⟩:=map_some e
      obtain ⟨o,hx,d,hd,rfl⟩:=S.cont _ _ hl
      obtain ⟨od,hdx,E',hE',m,hm,hf⟩:=S.cont _ _ hd
      rw [Option.some.inj (h1.symm.trans hE')]
      exact ⟨O.cls _ O.em,hx,hdx,hm,hf,fun n v h=>bindE h fun i h _=>⟨i,h⟩⟩
  | tmp=>
      obtain ⟨E,h1,rfl⟩:=map_some e
      obtain ⟨o,hx,p,hE',hc,d,hd,rfl⟩:=S.cont _ _ hl
      obtain rfl:=Option.some.inj (h1.symm.trans hE')
      obtain ⟨od,hdx,p',hE',_,m,hm,hf⟩:=S.cont _ _ hd
      obtain rfl:=Option.some.inj (h1.symm.trans hE')
      exact ⟨O.cls _ hc,hx,hdx,hm,hf,fun n v h=>bindE h fun i h _=>⟨i,h⟩⟩
  | _=>exact noS e
theorem getA_ok (O:CxOk C) {v r:MV} {n:Nat} {a:Value} {Q:Value → Shared → Prop} {expr:Bool} (F:Fm C.N w ω P L nms st s.heap) (h:VRel C.N w v a) (e:getA C.N.T st.sh v n = some r) (hn:n < C.N.natr)
    (k:Go C w P L nms st r s Q):wpAny (model C.prog C.wd) A (getAttr a (C.N.nm n) expr) Q E s:=by
  have S:=F.sh
  refine orE e (fun e=>bindE e fun p h1 e=>?_) fun e=>bindE e fun l h1 e=>bindE e fun p h2 e=>?_
  · obtain ⟨vals,hr,⟨hc,hq,hd,hm,hf⟩⟩:=VRel.inst_eq.mp (asInst_eq h1 ▸ h)
    have hf:=hf n hn
    cases hi:fieldIx (C.N.T.clsFields p.1) n with
    | some i=>
      rw [hi] at e hf
      obtain ⟨b,hb,rb⟩:=hr.getN e
      exact getA_val O F (O.cls _ hc) (S.frz _ _ hq) (S.frz _ _ hd) hm hn hi (hf.trans ((nth_eq _ _).trans hb)) rb k
    | none=>rw [hi] at e hf;exact getA_att O F (O.cls _ hc) (S.frz _ _ hq) (S.frz _ _ hd) hm hn e hf k
  · obtain ⟨x,hl,rfl⟩:=(asLoc_eq h1 ▸ h:VRel C.N w (.loc l) a).loc_inv
    obtain ⟨K,hx,hdx,hm,hf,hg⟩:=slot_at O S hl h2
    have hf:=hf n hn
    have hg:=hg n
    cases hv:p.2 n with
    | some u=>
      rw [hv] at e hf
      obtain ⟨i,hi⟩:=hg _ hv
      obtain ⟨b,hb,rb⟩:=orel_some hf
      exact getA_val O F K hx hdx hm.ns hn hi hb (Option.some.inj e ▸ rb) k
    | none=>
      rw [hv] at e hf
      refine orE (x:=C.N.T.clsAttr p.1 n) (y:=(C.N.T.clsMeth p.1 n).map (.meth · l)) e (fun e=>getA_att O F K hx hdx hm.ns hn e hf k) fun e=>mapE e fun f e1 e2=>getA_meth O F K hl hx hdx hm.ns hn e1 hf (e2 ▸ k)
end
open PySem PySem.W PyProof.Rows PySem.Calls PySem.Builtin PySem.Builtin.ObjectAttr
theorem set_core {prog:Program} {wd:World} {A:Around} {E:Value → Shared → Prop} {s:Shared} {K:Frag} {x C dx:Addr} {od:Obj} {m:Str → Option Value} {b:Nat} {name:Str} {v:Value} {Q:Unit → Shared → Prop}
    (X:K.In s.heap) (hx:s.heap.get? x = some (instObj C dx)) (hd:s.heap.get? dx = some od) (hm:isNsB od m b) (hb:b ≤ 2000)
    (hs:findIn K (.ref C) "__setattr__" = some (some (.builtin "object.__setattr__"))) (hp:plainOver K C = true) (hf:findIn K (.ref C) name = some none) (hh:hasDictIn K C = true)
    (h:∀ h' o' tk,Heap.SameBut dx s.heap h' → h'.get? dx = some o' → isNsB o' (fun x=>if x = name then some v else m x) (if (m name).isSome then b else b + 1) → Q () { s with heap:=h',toks:=tk }) :
    wpAny (model prog wd) A (setAttr (.ref x) name v) Q E s:=by
  have I:InstAt s.heap x (instObj C dx) C (some od):=⟨hx,rfl,rfl,hd⟩
  refine set_plain X I hs (osa_open (s:={ s with toks:=s.toks + 1 }) X I hp (by unfold takerIn;rw [hf];rfl) fun bb=>?_)
  obtain ⟨cd,hc,hd'⟩:=any_some hh
  refine wpAny_bind (wpAny_pure (wpAny_bind (wpAny_bind (wpAny_loadPart hx (wpAny_bind (Looks.here (s:={ s with toks:=s.toks + 1 }) (looks_clsIn X hc) ?_))))))
  rw [hd']
  refine wpAny_pure (a:=some dx) (wpAny_bind (wpAny_pure (wpAny_bind (nsSet_ok (s:={ s with toks:=s.toks + 1 }) hd hm fun h' o' hs' ho' hm'=>?_))))
  obtain ⟨es,ep,k1,k2,_⟩:=hm'
  refine wpAny_bind (wpAny_lookBehind (s:={ s with heap:=h',toks:=s.toks + 1 + 1 }) ho' (by rw [k1];exact pastItsLine_dict (by rw [sizeLine_eq];split at k2 <;> omega)) ?_)
  exact wpAny_pure (h _ _ _ hs' ho' ⟨es,ep,k1,k2,by assumption⟩)
section
variable {C:Cx} {w:Wd} {ω:Nat → Option Addr} {P:PMap} {L:FL} {nms:List Str} {st:St} {A:Around} {E:Value → Shared → Prop} {s:Shared}
theorem cont_other {N:Nm} {w:Wd} {sh sh':Sto} {l d:Loc} {o:Obj} (hd:(d = .emD ∧ sh'.tmp = sh.tmp) ∨ (d = .tmpD ∧ sh'.em = sh.em ∧ ∃ c fs fs',sh.tmp = some (c,fs) ∧ sh'.tmp = some (c,fs'))) (hne:l ≠ d) (hl:∀ l,isListL l = true → getList sh' l = getList sh l)
    (h:Cont N w sh l o):Cont N w sh' l o:=by
  cases l with
  | em=>exact h
  | emD=>
    rcases hd with ⟨rfl,_⟩ | ⟨_,e,_⟩
    · exact absurd rfl hne
    · exact (by rw [e];exact h:∃ E,sh'.em = some E ∧ _)
  | tmp=>
    rcases hd with ⟨_,e⟩ | ⟨_,_,c,fs,fs',e,e'⟩
    · exact (by rw [e];exact h:∃ p,sh'.tmp = some p ∧ _)
    · obtain ⟨p,h1,h2⟩:=h
      obtain rfl:=Option.some.inj (e.symm.trans h1)
      exact ⟨_,e',h2⟩
  | tmpD=>
    rcases hd with ⟨_,e⟩ | ⟨rfl,_⟩
    · exact (by rw [e];exact h:∃ p,sh'.tmp = some p ∧ _)
    · exact absurd rfl hne
  | states=>exact (by rw [show sh'.states = _ from hl .states rfl];exact h:ListR N w sh'.states o)
  | events=>exact (by rw [show sh'.events = _ from hl .events rfl];exact h:ListR N w sh'.events o)
  | indents=>exact (by rw [show sh'.indents = _ from hl .indents rfl];exact h:ListR N w sh'.indents o)
  | rows=>exact (by rw [show sh'.rows = _ from hl .rows rfl];exact h:ListR N w sh'.rows o)
theorem set_at {α:Type} {fs:List Nat} {l:List α} {n i:Nat} {x z:α} (hi:fieldIx fs n = some i) (hz:nth l i = some z) (q:Nat):(fieldIx fs q).bind (nth (setN l i x)) = if q = n then some x else (fieldIx fs q).bind (nth l):=by
  have hl:i < l.length:=(List.getElem?_eq_some_iff.mp ((nth_eq l i).symm.trans hz)).1
  by_cases e:q = n
  · rw [if_pos e,e,hi,Option.bind_some,nth_eq,setN_eq,List.getElem?_set,if_pos rfl,if_pos hl]
  · rw [if_neg e]
    cases hj:fieldIx fs q with
    | none=>rfl
    | some j=>
      have ne:¬ i = j:=fun z=>e (field_inj hj (z ▸ hi))
      rw [Option.bind_some,Option.bind_some,nth_eq,nth_eq,setN_eq,List.getElem?_set,if_neg ne]
theorem dict_set {C:Cx} {w:Wd} {b:Nat} {g g':Nat → Option MV} {m:Str → Option Value} {o:Obj} {n:Nat} {y:MV} {v:Value} (O:CxOk C) (hn:n < C.N.natr) (hm:isNsB o (fun x=>if x = C.N.nm n then some v else m x) b) (hy:VRel C.N w y v)
    (hf:∀ n,n < C.N.natr → ORel C.N w (g n) (m (C.N.nm n))) (hg:∀ q,g' q = if q = n then some y else g q):DictR C.N w b g' o:=by
  refine ⟨_,hm,fun q hq=>?_⟩
  rw [hg q]
  by_cases e:q = n
  · rw [if_pos e,if_pos (congrArg C.N.nm e)];exact ⟨_,rfl,hy⟩
  · rw [if_neg e,if_neg fun z=>e (O.inj _ _ hq hn z)];exact hf q hq
theorem setA_ok (O:CxOk C) {v y:MV} {n:Nat} {a b:Value} {sh':Sto} {Q:Unit → Shared → Prop} (F:Fm C.N w ω P L nms st s.heap) (h:VRel C.N w v a) (hy:VRel C.N w y b)
    (e:setA C.N.T st.sh v n y = some sh') (hn:n < C.N.natr)
    (k:∀ h' tk,Fm C.N w ω P L nms { st with sh:=sh' } h' → Q () { s with heap:=h',toks:=tk }):wpAny (model C.prog C.wd) A (setAttr a (C.N.nm n) b) Q E s:=by
  have S:=F.sh
  obtain ⟨l,h1,e⟩:=bind_some e
  obtain ⟨x,hl,rfl⟩:=(asLoc_eq h1 ▸ h:VRel C.N w (.loc l) a).loc_inv
  cases l with
  | em=>
    obtain ⟨Em,hE,e⟩:=bind_some e
    obtain ⟨Em',hE',rfl⟩:=map_some e
    obtain ⟨i,hi,e⟩:=bind_some hE'
    obtain ⟨z,hz,rfl⟩:=map_some e
    have K:=O.cls _ O.em
    obtain ⟨o,hx,d,hd,rfl⟩:=S.cont _ _ hl
    obtain ⟨od,hdx,E2,h2,m,hm,hf⟩:=S.cont _ _ hd
    obtain rfl:=Option.some.inj (hE.symm.trans h2)
    have hfn:=hf n hn
    unfold emAt at hfn
    rw [hi,Option.bind_some,hz] at hfn
    obtain ⟨bo,hbo,_⟩:=orel_some hfn
    refine set_core (O.In S) hx hdx hm (by omega) K.sa K.po (K.fld n i hn hi) K.hd fun h' o' tk hs ho' hm'=>k h' tk ?_
    rw [hbo] at hm'
    exact F.setSh hd hs ho' ⟨_,rfl,dict_set O hn hm' hy hf fun q=>set_at hi hz q⟩ (fun l' hl' o h=>cont_other (sh:=st.sh) (.inl ⟨rfl,rfl⟩) hl' (fun l h=>by cases l <;> first | rfl | exact noB h) h) fun l'=>by
      cases l' <;> first | rfl | (show true = st.sh.em.isSome;rw [hE];rfl)
  | tmp=>
    obtain ⟨⟨c,fs⟩,hE,e⟩:=bind_some e
    obtain ⟨fs',hE',rfl⟩:=map_some e
    obtain ⟨i,hi,e⟩:=bind_some hE'
    obtain ⟨z,hz,rfl⟩:=map_some e
    obtain ⟨o,hx,p,hp,hc,d,hd,rfl⟩:=S.cont _ _ hl
    obtain rfl:=Option.some.inj (hE.symm.trans hp)
    have K:=O.cls _ hc
    obtain ⟨od,hdx,p,hp,hlen,m,hm,hf⟩:=S.cont _ _ hd
    obtain rfl:=Option.some.inj (hE.symm.trans hp)
    have hfn:=hf n hn
    unfold tmpAt at hfn
    rw [hi,Option.bind_some,hz] at hfn
    have hz':=(nth_eq _ _).symm.trans hz
    have hcl:=cnt_le fs
    have hK:(C.N.T.clsFields c).length ≤ 900:=K.len
    refine set_core (O.In S) hx hdx hm (by dsimp only at hlen ⊢;omega) K.sa K.po (K.fld n i hn hi) K.hd fun h' o' tk hs ho' hm'=>k h' tk ?_
    have hb:(if (m (C.N.nm n)).isSome then cnt fs else cnt fs + 1) = cnt (setN fs i (some y)):=by
      rw [setN_eq,cnt_set (List.getElem?_eq_some_iff.mp hz').1,hz']
      cases z with
      | none=>rw [show m _ = none from hfn];rfl
      | some z=>obtain ⟨bo,hbo,_⟩:=orel_some hfn;rw [hbo];rfl
    rw [hb] at hm'
    refine F.setSh hd hs ho' ⟨_,rfl,by rw [setN_eq,List.length_set];exact hlen,dict_set O hn hm' hy hf fun q=>?_⟩ (fun l' hl' o h=>cont_other (sh:=st.sh) (.inr ⟨rfl,rfl,c,fs,_,hE,rfl⟩) hl' (fun l h=>by cases l <;> first | rfl | exact noB h) h) fun l'=>?_
    · have:=congrArg (·.bind id) (set_at (x:=some y) hi hz q)
      unfold tmpAt
      rw [← Option.bind_assoc,← Option.bind_assoc]
      refine this.trans ?_
      by_cases e:q = n
      · rw [if_pos e,if_pos e];rfl
      · rw [if_neg e,if_neg e]
    · cases l' <;> first | rfl | (show true = st.sh.tmp.isSome;rw [hE];rfl)
  | _=>exact noS e
end
open PySem PySem.W PyProof.Rows PySem.Calls PySem.Builtin
theorem idx_eq (n:Nat) (i:Int):idx n i = seqIndex? i n:=by
  unfold idx seqIndex?
  by_cases h:i < 0
  · rw [if_neg (by omega)];simp only [h,if_true]
    by_cases h2:0 ≤ i + n
    · rw [if_pos h2,if_pos (by simp only [Bool.and_eq_true,decide_eq_true_eq];omega)]
    · rw [if_neg h2,if_neg (by simp only [Bool.and_eq_true,decide_eq_true_eq];omega)]
  · rw [if_pos (by omega)];simp only [h,if_false]
    by_cases h2:i < n
    · rw [if_pos h2,if_pos (by simp only [Bool.and_eq_true,decide_eq_true_eq];omega)]
    · rw [if_neg h2,if_neg (by simp only [Bool.and_eq_true,decide_eq_true_eq];omega)]
theorem idx_bound {n:Nat} {i:Int} {j:Nat} (h:idx n i = some j):-(n:Int) ≤ i ∧ i < n ∧ j < n:=by
  unfold idx at h
  split at h
  · split at h
    · cases h;omega
    · cases h
  · split at h
    · cases h;omega
    · cases h
section
variable {prog:Program} {wd:World} {A:Around} {E:Value → Shared → Prop} {s:Shared}
theorem list_item {q:Addr} {vals:List Value} {i:Int} {t:Tok} {j:Nat} {x:Value} {Q:Value → Shared → Prop} (hl:s.heap.IsList q vals.toArray) (hn:vals.length ≤ lim)
    (hi:idx vals.length i = some j) (hx:vals[j]? = some x) (h:Q x s):wpAny (model prog wd) A (getItem (.ref q) (.int i t)) Q E s:=by
  obtain ⟨h1,h2,h3⟩:=idx_bound hi
  unfold idx at hi
  unfold lim at hn
  by_cases h0:0 ≤ i
  · rw [if_pos h0,if_pos h2] at hi;cases hi
    exact wpAny_getItem_list hl (by omega) (by omega) (by simpa using hx) h
  · rw [if_neg h0,if_pos (by omega)] at hi;cases hi
    exact wpAny_getItem_list_neg hl (by omega) (by simpa using h1) (by omega) (by simpa using hx) h
theorem tup_item {q:Addr} {vals:List Value} {i:Int} {t:Tok} {j:Nat} {x:Value} {Q:Value → Shared → Prop} (hl:IsTup s.heap q vals.toArray) (hn:vals.length ≤ lim)
    (hi:idx vals.length i = some j) (hx:vals[j]? = some x) (h:Q x s):wpAny (model prog wd) A (getItem (.ref q) (.int i t)) Q E s:=by
  obtain ⟨h1,h2,h3⟩:=idx_bound hi
  unfold lim at hn
  exact getItem_tuple hl (by omega) (by omega) (by rw [List.size_toArray,← idx_eq];exact hi) (by simpa using hx) h
theorem str_item {x:Tx} {t u:Tok} {i:Int} {j c:Nat} {Q:Value → Shared → Prop} (hn:x.length ≤ lim) (hi:idx x.length i = some j) (hx:x[j]? = some c)
    (h:∀ t tk,Q (.str (strOf [c]) t) { s with toks:=tk }):wpAny (model prog wd) A (getItem (.str (strOf x) t) (.int i u)) Q E s:=by
  obtain ⟨h1,h2,h3⟩:=idx_bound hi
  unfold lim at hn
  refine PySem.P.getItem_str (c:=c) ?_ ?_ (h _ _)
  · simp only [Bool.or_eq_false_iff,decide_eq_false_iff_not];omega
  · rw [strOf_length,← idx_eq,hi]
    show x.toArray[j]? = some c
    simpa using hx
end
noncomputable def isPlainSlice (ex:Expr):Prop:=∀ o i,subscripted ex false o i = operate [o,i] (getItem o i)
noncomputable def SdEs (kvs:List (Tx × Tx)):List (Str × Value) → Prop:=List.rec (motive:=fun _=>List (Str × Value) → Prop) (fun vs=>vs = []) (fun p _ ih vs=>∃ t r,p.2.length ≤ lim ∧ vs = (strOf p.1,.str (strOf p.2) t) :: r ∧ ih r) kvs
theorem sd_pairs {prog:Program} {wd:World} {kvs:List (Tx × Tx)}:∀ {es},SdRel wd.params kvs es → ∃ vs,SdEs kvs vs ∧ Pairs (strKind prog wd) es vs ∧ KeysOf (strKind prog wd) es.toArray:=by
  induction kvs with
  | nil=>intro es h;obtain rfl:=h;exact ⟨[],rfl,.nil,fun e he=>absurd (List.mem_toArray.mp he) List.not_mem_nil⟩
  | cons p r ih=>
    intro es h
    obtain ⟨t,t',r',hk,hv,rfl,h⟩:=h
    obtain ⟨vs,h1,h2,h3⟩:=ih h
    refine ⟨_,⟨t',vs,hv,rfl,h1⟩,.cons (strKind_is prog wd (strOf p.1) t) rfl h2,fun e he=>?_⟩
    rcases List.mem_cons.mp (List.mem_toArray.mp he) with rfl | he
    · exact ⟨strOf p.1,strKind_is prog wd (strOf p.1) t,rfl⟩
    · exact h3 e (List.mem_toArray.mpr he)
theorem sd_at {k x:Tx} {kvs:List (Tx × Tx)}:∀ {vs},SdEs kvs vs → kvs.lookup k = some x → x.length ≤ lim ∧ ∃ t,valueAt vs (strOf k) = some (.str (strOf x) t):=by
  induction kvs with
  | nil=>intro vs _ h;exact noS h
  | cons p r ih=>
    intro vs q h
    obtain ⟨t,r',hv,rfl,q⟩:=q
    by_cases e:k = p.1
    · subst e
      rw [List.lookup_cons,beq_self_eq_true] at h
      obtain rfl:=Option.some.inj h
      exact ⟨hv,t,by unfold valueAt;simp⟩
    · rw [List.lookup_cons,show (k == p.1) = false from beq_eq_false_iff_ne.mpr e] at h
      obtain ⟨hx,t,ht⟩:=ih q h
      refine ⟨hx,t,?_⟩
      unfold valueAt at ht ⊢
      rw [List.find?_cons_of_neg (by simpa using fun z=>e (strOf_inj z).symm)]
      exact ht
open PySem PySem.W PyProof.Rows PySem.Calls PySem.Builtin PySem.Builtin.Str
section
variable {C:Cx} {w:Wd} {ω:Nat → Option Addr} {P:PMap} {L:FL} {nms:List Str} {st:St} {A:Around} {E:Value → Shared → Prop} {s:Shared}
theorem Go.here {r:MV} {a:Value} {Q:Value → Shared → Prop} (k:Go C w P L nms st r s Q) (F:Fm C.N w ω P L nms st s.heap) (h:VRel C.N w r a):∀ tk,Q a { s with toks:=tk }:=fun tk=>
  k w ω s.heap tk a (.refl w) F h
theorem sub_ok (O:CxOk C) {v i r:MV} {a b:Value} {vx ex:Expr} {Q:Value → Shared → Prop} (F:Fm C.N w ω P L nms st s.heap) (h:VRel C.N w v a) (hi:VRel C.N w i b) (e:subV st.sh v i = some r)
    (hs:isPlainSlice ex) (k:Go C w P L nms st r s Q):wpAny (model C.prog C.wd) A (subscriptTail vx ex a b) Q E s:=by
  have S:=F.sh
  refine orE e (fun e=>bindE e fun i h1 e=>?_) fun e=>bindE e fun x h1 e=>bindE e fun kvs h2 e=>mapE e fun y h3 e=>?_
  · obtain ⟨t,rfl⟩:=(asInt_eq h1 ▸ hi:VRel C.N w (.int i) b).int_inv
    refine orE e (fun e=>bindE e fun vs h2 e=>bindE e fun j hj e=>?_) fun e=>orE e (fun e=>bindE e fun vs h2 e=>bindE e fun j hj e=>?_) fun e=>bindE e fun x h2 e=>bindE e fun j hj e=>mapE e fun c hc e=>?_
    · obtain ⟨hl,hr,hn⟩:=items_at S h2 h
      obtain ⟨x,hx,rx⟩:=hr.getN e
      exact tail_any hl.typeIs slot_list_getitem.lookup (list_item hl hn (hr.length_eq ▸ hj) hx (k.here F rx s.toks)) (hs _ _)
    · obtain ⟨hq,hc,hd,hr,hn⟩:=tup_at S (asTup_eq h2 ▸ h)
      obtain ⟨x,hx,rx⟩:=hr.getN e
      have hl:IsTup s.heap _ _:=⟨_,hq,hc,_,hd⟩
      exact tail_any hl.typeIs PyProof.Rows.slot_tuple_getitem.lookup (tup_item hl hn (hr.length_eq ▸ hj) hx (k.here F rx s.toks)) (hs _ _)
    · obtain ⟨hl,t,rfl⟩:=(asStr_eq h2 ▸ h:VRel C.N w (.str x) a).str_inv
      subst e
      exact tail_any (typeIs_str _ _ _) PySem.F.slot_str_getitem.lookup (str_item hl hj ((nth_eq _ _).symm.trans hc) fun t tk=>k.here F (.str t (by show 1 ≤ lim;decide)) tk) (hs _ _)
  · obtain ⟨_,t,rfl⟩:=(asStr_eq h1 ▸ hi:VRel C.N w (.str x) b).str_inv
    subst e
    cases ((asSd_eq h2 ▸ h:VRel C.N w (.sd kvs) a):SdR C.N w kvs a) with | mk hnd hlo hq hr=>
    rw [← O.par] at hr
    obtain ⟨vs,h1,h2,h3'⟩:=sd_pairs (prog:=C.prog) hr
    obtain ⟨hx,t',hv⟩:=sd_at h1 h3
    have hm:s.heap.MapOf (strKind C.prog C.wd) _ (valueAt vs):=⟨_,_,_,S.frz _ _ hq,⟨rfl,rfl,rfl⟩,rfl,h3',fun k=>by rw [← h2.find k];unfold findBy;rw [← Array.find?_toList]⟩
    exact tail_any hm.typeIs slot_dict_getitem.lookup (wpAny_getItem_of (strKind_is _ _ _ _) hm hv (k.here F (.str t' hx) _)) (hs _ _)
theorem cut_part {N:Nm} {n d k:Nat} {m:MV} {v:Value} (h:VRel N w m v) (e:cut n d m = some k):∃ p:Option (Int × Tok),v = partValue p ∧ k = (p.map (·.1)).elim d (clipAt n):=by
  refine ifE e (fun e1 e=>?_) fun _ e=>mapE e fun i h1 e=>?_
  · obtain rfl:=isNone_eq e1
    exact ⟨none,h,(Option.some.inj e).symm⟩
  · obtain ⟨t,rfl⟩:=(asInt_eq h1 ▸ h:VRel N w (.int i) v).int_inv
    exact ⟨some (i,t),rfl,e.symm⟩
theorem clip_le {n:Nat} {p:Option Int}:p.elim n (clipAt n) ≤ n:=by
  cases p with
  | none=>exact Nat.le_refl _
  | some i=>
    have:=clipAt_cast n i
    show clipAt n i ≤ n
    split at this <;> omega
theorem isPart_of (p:Option (Int × Tok)):IsPart (partValue p) (p.map (·.1)):=by
  rcases p with _ | ⟨i,t⟩
  · exact .none
  · exact .int i t
theorem sliceL_parts {N:Nm} {α:Type} {xs r:List α} {lo hi:MV} {vl vh:Value} (h1:VRel N w lo vl) (h2:VRel N w hi vh) (e:sliceL xs lo hi = some r) :
    ∃ p q:Option (Int × Tok),vl = partValue p ∧ vh = partValue q ∧ r = (xs.drop ((p.map (·.1)).elim 0 (clipAt xs.length))).take ((q.map (·.1)).elim xs.length (clipAt xs.length) - (p.map (·.1)).elim 0 (clipAt xs.length)):=by
  obtain ⟨a,ha,e⟩:=bind_some e
  obtain ⟨b,hb,e⟩:=bind_some e
  cases e
  obtain ⟨p,rfl,rfl⟩:=cut_part h1 ha
  obtain ⟨q,rfl,rfl⟩:=cut_part h2 hb
  exact ⟨p,q,rfl,rfl,by rw [List.drop_take]⟩
theorem VRels.slice {N:Nm} {vs:List MV} {vals:List Value} (h:VRels N w vs vals) (a b:Nat):VRels N w ((vs.drop a).take b) ((vals.drop a).take b):=(h.drop a).take b
theorem strIx (lo hi:Option Int) (n:Nat):strSliceIndices lo hi 1 n = (List.range (hi.elim n (clipAt n) - lo.elim 0 (clipAt n))).map (lo.elim 0 (clipAt n) + ·):=by
  rw [← sliceRange_one]
  unfold strSliceIndices
  cases lo <;> cases hi <;> simp [clipAt_cast]
theorem str_slice {x r:Tx} {t:Tok} (hxl:x.length ≤ lim) {p q:Option (Int × Tok)} {sl:Addr} {Q:Value → Shared → Prop} (hs:s.heap.IsSlice sl p q none)
    (e:r = (x.drop ((p.map (·.1)).elim 0 (clipAt x.length))).take ((q.map (·.1)).elim x.length (clipAt x.length) - (p.map (·.1)).elim 0 (clipAt x.length)))
    (h:∀ t tk,Q (.str (strOf r) t) { s with toks:=tk }):wpAny (model C.prog C.wd) A (getItem (.str (strOf x) t) (.ref sl)) Q E s:=by
  refine wpAny_getItem_str_slice hs rfl ?_
  have hle:(q.map (·.1)).elim x.length (clipAt x.length) ≤ x.length:=clip_le
  unfold sliceMade slicePicked
  rw [strOf_length]
  show Made.post (if ((1:Int) == 1 && (strSliceIndices (p.map (·.1)) (q.map (·.1)) 1 x.length).length == x.length) = true then _ else Made.str ⟨((strSliceIndices (p.map (·.1)) (q.map (·.1)) 1 x.length).filterMap _).toArray⟩) Q s
  rw [strIx,PySem.pick_run,strOf_cps]
  generalize (q.map (·.1)).elim x.length (clipAt x.length) = b at *
  split
  · rename_i hb
    have hb:b - ((p.map (·.1)).elim 0 (clipAt x.length)) = x.length:=by simpa using hb
    have ha:(p.map (·.1)).elim 0 (clipAt x.length) = 0 ∨ x.length = 0:=by omega
    have:r = x:=by
      rw [e]
      rcases ha with ha | ha
      · rw [ha] at hb ⊢
        rw [List.drop_zero,List.take_of_length_le (by omega)]
      · have:x = []:=List.eq_nil_of_length_eq_zero ha
        subst this;simp
    subst this
    exact h t s.toks
  · subst e
    exact ⟨by show (List.toArray _).size ≤ sizeLine;rw [List.size_toArray,List.length_take,List.length_drop,sizeLine_lim];omega,h _ _⟩
theorem sl_ok (O:CxOk C) {v lo hi r:MV} {a vl vh:Value} {vx:Expr} {lx hx:Option Expr} {p:Pos} {sl:Addr} {Q:Value → Shared → Prop} (F:Fm C.N w ω P L nms st s.heap) (h:VRel C.N w v a)
    (h1:VRel C.N w lo vl) (h2:VRel C.N w hi vh) (hsl:s.heap.get? sl = some { cls:=.type "slice",data:=.fields #[vl,vh,.none] }) (e:slV st.sh v lo hi = some r)
    (k:Go C w P L nms st r s Q):wpAny (model C.prog C.wd) A (subscriptTail vx (.Slice lx hx none p) a (.ref sl)) Q E s:=by
  have S:=F.sh
  have lists:∀ {q:Addr} {vs ws:List MV} {vals:List Value},s.heap.IsList q vals.toArray → VRels C.N w vs vals → vals.length ≤ lim → sliceL vs lo hi = some ws → r = .lst ws → wpAny (model C.prog C.wd) A (subscriptTail vx (.Slice lx hx none p) (.ref q) (.ref sl)) Q E s:=by
    intro q vs ws vals hl hr hn e' er
    subst er
    obtain ⟨p1,p2,rfl,rfl,hw⟩:=sliceL_parts h1 h2 e'
    refine tail_any hl.typeIs slot_list_getitem.lookup (wpAny_getItem_list_slice hl ⟨_,hsl,rfl,rfl⟩ (isPart_of p1) (isPart_of p2) (.none) (by intro z;cases z) ?_ (by rw [List.size_toArray];exact hn)) rfl
    rw [slicePick_plain,List.size_toArray]
    rw [hr.length_eq] at hw
    obtain ⟨x,F'⟩:=F.addNew (h':=s.heap.push (listOf ((vals.drop ((p1.map (·.1)).elim 0 (clipAt vals.length))).take ((p2.map (·.1)).elim vals.length (clipAt vals.length) - (p1.map (·.1)).elim 0 (clipAt vals.length))).toArray 0)) (fun b o e=>Heap.get?_push_of_some _ e) (a:=s.heap.objs.size) (Heap.get?_none_of_le (Nat.le_refl _)) (Heap.get?_push_size _ rfl)
    refine k _ _ _ s.toks _ x F' (.lst Wd.add_at ⟨?_,rfl,0,rfl⟩ ?_)
    · exact Nat.le_trans (Nat.le_trans (List.length_take_le' ..) (by rw [List.length_drop];exact Nat.sub_le ..)) hn
    · rw [hw];exact (hr.slice _ _).mono x
  refine orE e (fun e=>bindE e fun vs h3 e=>mapE e fun ws he er=>?_) fun e=>bindE e fun x h3 e=>mapE e fun ws he er=>?_
  · obtain ⟨hl,hr,hn⟩:=items_at S h3 h
    exact lists hl hr hn he er.symm
  · subst er
    obtain ⟨p1,p2,rfl,rfl,hw⟩:=sliceL_parts h1 h2 he
    obtain ⟨hl,t,rfl⟩:=(asStr_eq h3 ▸ h:VRel C.N w (.str x) a).str_inv
    refine tail_any (typeIs_str _ _ _) PySem.F.slot_str_getitem.lookup (str_slice hl ⟨_,hsl,rfl,rfl⟩ hw fun t tk=>k.here F (.str t ?_) tk) rfl
    rw [hw];exact Nat.le_trans (Nat.le_trans (List.length_take_le' ..) (by rw [List.length_drop];exact Nat.sub_le ..)) hl
end
open PySem PySem.W PyProof.Rows PySem.Calls PySem.Builtin
noncomputable def kwsOkS (names taken:List Str):List (Str × Value) → Bool
  | []=>true
  | (n,_) :: r=>names.contains n && !taken.contains n && kwsOkS names (n :: taken) r
theorem lookup_app {n:Str}:∀ {l r:List (Str × Value)},(l ++ r).lookup n = match l.lookup n with | some v=>some v | none=>r.lookup n
  | [],r=>rfl
  | (k,v) :: l,r=>by
    rw [List.cons_append,List.lookup_cons,List.lookup_cons]
    cases q:(n == k) with
    | true=>rfl
    | false=>exact lookup_app
section
variable {M:Model} {A:Around} {E:Value → Shared → Prop} {s:Shared}
theorem kwLoop {names:List Str} {body:Str × Value → List (Str × Value) × List (Str × Value) → Sem (ForInStep (List (Str × Value) × List (Str × Value)))}
    (hb:∀ k v sl,names.contains k = true → (sl.lookup k).isSome = false → body (k,v) (sl,[]) = pure (.yield (sl ++ [(k,v)],[]))) {Q:List (Str × Value) × List (Str × Value) → Shared → Prop} :
    ∀ {kws slots:List (Str × Value)} {taken:List Str},kwsOkS names taken kws = true → (∀ n,(slots.lookup n).isSome = true → taken.contains n = true) → Q (slots ++ kws,[]) s → wpAny M A (forIn kws (slots,[]) body) Q E s
  | [],slots,taken,_,_,h=>by rw [List.forIn_nil];rw [List.append_nil] at h;exact wpAny_pure h
  | (k,v) :: r,slots,taken,hk,ht,h=>by
    simp only [kwsOkS,Bool.and_eq_true,Bool.not_eq_true'] at hk
    obtain ⟨⟨k1,k2⟩,k3⟩:=hk
    have k4:(slots.lookup k).isSome = false:=by
      cases q:(slots.lookup k).isSome with
      | false=>rfl
      | true=>rw [ht k q] at k2;cases k2
    rw [List.forIn_cons,hb k v slots k1 k4]
    refine wpAny_bind (wpAny_pure (kwLoop hb k3 (fun n hn=>?_) (by rw [List.append_assoc];exact h)))
    rw [lookup_app] at hn
    cases q:slots.lookup n with
    | some x=>rw [List.contains_cons,ht n (by rw [q];rfl),Bool.or_true]
    | none=>
      rw [q] at hn
      dsimp only at hn
      rw [List.lookup_cons] at hn
      cases q2:(n == k) with
      | true=>rw [List.contains_cons,q2];rfl
      | false=>rw [q2] at hn;cases hn
theorem dfLoop {body:Str × Value → List (Str × Value) → Sem (ForInStep (List (Str × Value)))}
    (hb:∀ k v sl,body (k,v) sl = if (sl.lookup k).isNone = true then pure (.yield (sl ++ [(k,v)])) else pure (.yield sl)) {Q:List (Str × Value) → Shared → Prop} :
    ∀ {ds slots:List (Str × Value)},(∀ sl,(∀ n,sl.lookup n = (slots ++ ds).lookup n) → Q sl s) → wpAny M A (forIn ds slots body) Q E s
  | [],slots,h=>by rw [List.forIn_nil];exact wpAny_pure (h _ fun n=>by rw [List.append_nil])
  | (k,v) :: r,slots,h=>by
    rw [List.forIn_cons,hb k v slots]
    split
    · exact wpAny_bind (wpAny_pure (dfLoop hb fun sl hs=>h sl fun n=>by rw [hs,List.append_assoc];rfl))
    · rename_i q
      refine wpAny_bind (wpAny_pure (dfLoop hb fun sl hs=>h sl fun n=>?_))
      rw [hs,lookup_app,lookup_app]
      cases q1:slots.lookup n with
      | some x=>rfl
      | none=>
        dsimp only
        rw [List.lookup_cons]
        cases q2:(n == k) with
        | false=>rfl
        | true=>
          rw [beq_iff_eq.mp q2] at q1
          rw [q1] at q
          exact absurd rfl q
end
theorem zip_taken {n:Str}:∀ {xs:List Str} {pos:List Value},((xs.zip pos).lookup n).isSome = true → (xs.take pos.length).contains n = true
  | [],_,h=>by cases h
  | x :: xs,[],h=>by cases h
  | x :: xs,p :: pos,h=>by
    rw [List.zip_cons_cons,List.lookup_cons] at h
    rw [List.length_cons,List.take_succ_cons,List.contains_cons]
    cases q:(n == x) with
    | true=>rfl
    | false=>rw [q] at h;rw [zip_taken h];rfl
theorem wpIfN {M:Model} {A:Around} {E:Value → Shared → Prop} {s:Shared} {α:Type} {c:Prop} [Decidable c] {x y:Sem α} {Q:α → Shared → Prop} (hc:¬ c) (h:wpAny M A y Q E s):wpAny M A (if c then x else y) Q E s:=by rw [if_neg hc];exact h
theorem bind_ok {s:Shared} {fd:FuncData} {xs:List Str} {pos:List Value} {kws:List (Str × Value)} {ds:List Value}
    (h1:fd.params.posonlyargs = []) (h2:fd.params.args.map (·.arg) = xs) (h3:fd.params.kwonlyargs = []) (h4:fd.params.vararg = none) (h5:fd.params.kwarg = none)
    (hlen:pos.length ≤ xs.length) (hk:kwsOkS xs (xs.take pos.length) kws = true)
    (hd:∀ (M:Model) (A:Around) (E:Value → Shared → Prop) (Q:Option (Array Value) → Shared → Prop),(∀ o:Option (Array Value),(o.getD #[]).toList = ds → Q o s) → wpAny M A (seqItems? fd.defaults) Q E s)
    (hdl:ds.length ≤ xs.length)
    (hall:∀ x ∈ xs,((xs.zip pos ++ kws ++ (xs.drop (xs.length - ds.length)).zip ds).lookup x).isSome = true)
    (hreq:∀ x ∈ xs.take (xs.length - ds.length),((xs.zip pos ++ kws).lookup x).isSome = true) :
    BindsTo s fd ⟨pos,kws⟩ (xs.filterMap fun n=>((xs.zip pos ++ kws ++ (xs.drop (xs.length - ds.length)).zip ds).lookup n).map (n,·)):=by
  obtain ⟨nm,qn,⟨po,as,va,ko,kd,kw,dfs⟩,bd,sc,cl,dV,kV⟩:=fd
  dsimp only at h1 h2 h3 h4 h5 hd
  subst h1 h2 h3 h4 h5
  intro M A E Q hq
  have hds:ds.drop (ds.length - (as.map (·.arg)).length) = ds:=by rw [show ds.length - (as.map (·.arg)).length = 0 by omega];rfl
  have hmiss:(List.filter (fun n=>(List.lookup n ((as.map (·.arg)).zip pos ++ kws)).isNone) (List.take ((as.map (·.arg)).length - ds.length) (as.map (·.arg)))) = []:=by
    rw [List.filter_eq_nil_iff]
    intro x hx
    rw [← Option.not_isSome,hreq x hx];decide
  unfold bindArgs
  refine wpAny_bind (kwLoop (names:=as.map (·.arg)) (fun k v sl q1 q2=>?_) hk (fun n=>zip_taken) ?_)
  · exact (if_pos (by show ((as.map (·.arg)).contains k || _) = true;rw [q1];rfl)).trans (if_neg (by rw [q2];decide))
  refine wpAny_bind (hd _ _ _ _ fun o ho=>?_)
  refine wpIfN (fun z=>Nat.not_lt.mpr hlen (of_decide_eq_true (andL z))) ?_
  subst ho
  have hdsl:=congrArg List.length hds
  refine wpIfN (fun z=>?_) (wpAny_bind (dfLoop (fun k v sl=>rfl) fun sl hs=>?_))
  · have z:(!(List.filter (fun n=>(List.lookup n ((as.map (·.arg)).zip pos ++ kws)).isNone) (List.take ((as.map (·.arg)).length - (List.drop ((o.getD #[]).toList.length - (as.map (·.arg)).length) (o.getD #[]).toList).length) (as.map (·.arg)))).isEmpty) = true:=z
    rw [hdsl,hmiss] at z
    exact noB z
  refine wpAny_bind (wpAny_pure (wpAny_pure ?_))
  have e:(fun n=>(sl.lookup n).map (n,·)) = fun n=>(((as.map (·.arg)).zip pos ++ kws ++ ((as.map (·.arg)).drop ((as.map (·.arg)).length - (o.getD #[]).toList.length)).zip (o.getD #[]).toList).lookup n).map (n,·):=funext fun n=>by
    rw [hs n]
    exact congrArg (fun d=>((((as.map (·.arg)).zip pos ++ kws ++ ((as.map (·.arg)).drop ((as.map (·.arg)).length - List.length d)).zip d).lookup n).map (n,·))) hds
  show Q (((as.map Arg.arg) ++ []).filterMap fun n=>(sl.lookup n).map (n,·)) s
  rw [e,List.append_nil]
  exact hq
open PySem PySem.W PyProof.Rows PySem.Calls PySem.Builtin
noncomputable def LRel (N:Nm) (w:Wd) (l:List (Nat × MV)):List (Str × Value) → Prop:=List.rec (motive:=fun _=>List (Str × Value) → Prop) (fun r=>r = []) (fun p _ ih r=>∃ a r',p.1 < N.natr ∧ r = (N.nm p.1,a) :: r' ∧ VRel N w p.2 a ∧ ih r') l
section
variable {N:Nm} {w:Wd} (inj:∀ n m,n < N.natr → m < N.natr → N.nm n = N.nm m → n = m)
theorem LRel.nil:LRel N w [] []:=rfl
theorem LRel.cons {n v a r r'} (hn:n < N.natr) (h:VRel N w v a) (t:LRel N w r r'):LRel N w ((n,v) :: r) ((N.nm n,a) :: r'):=⟨a,r',hn,rfl,h,t⟩
theorem LRel.cons_inv {p:Nat × MV} {r:List (Nat × MV)} {l:List (Str × Value)} (h:LRel N w (p :: r) l):∃ a r',p.1 < N.natr ∧ l = (N.nm p.1,a) :: r' ∧ VRel N w p.2 a ∧ LRel N w r r':=h
theorem LRel.mono {w':Wd} (x:w.Ext w') {l}:∀ {l'},LRel N w l l' → LRel N w' l l':=by
  induction l with
  | nil=>exact fun h=>h
  | cons p r ih=>intro l' h;obtain ⟨a,r',hn,rfl,h,t⟩:=h.cons_inv;exact ⟨a,r',hn,rfl,h.mono x,ih t⟩
theorem LRel.append {l r r'} (q:LRel N w r r'):∀ {l'},LRel N w l l' → LRel N w (l ++ r) (l' ++ r'):=by
  induction l with
  | nil=>intro l' h;obtain rfl:=h;exact q
  | cons p r ih=>intro l' h;obtain ⟨a,r',hn,rfl,h,t⟩:=h.cons_inv;exact ⟨a,_,hn,rfl,h,ih t⟩
theorem LRel.zip {ids:List Nat}:∀ {vs as},(∀ n ∈ ids,n < N.natr) → VRels N w vs as → LRel N w (ids.zip vs) ((ids.map N.nm).zip as):=by
  induction ids with
  | nil=>exact fun _ _=>rfl
  | cons n ids ih=>
    intro vs as h q
    cases vs with
    | nil=>obtain rfl:=q;exact rfl
    | cons v vs=>obtain ⟨a,r,rfl,q,t⟩:=q.cons_inv;exact .cons (h n (.head _)) q (ih (fun m hm=>h m (.tail _ hm)) t)
include inj in
theorem beq_nm {n m:Nat} (hn:n < N.natr) (hm:m < N.natr):(N.nm n == N.nm m) = (n == m):=by
  by_cases q:n = m
  · subst q;simp
  · rw [show (n == m) = false from by simpa using q,beq_eq_false_iff_ne]
    exact fun z=>q (inj n m hn hm z)
include inj in
theorem LRel.look {n:Nat} (hn:n < N.natr) {l}:∀ {l'},LRel N w l l' → ORel N w (l.lookup n) (l'.lookup (N.nm n)):=by
  induction l with
  | nil=>intro l' h;obtain rfl:=h;exact rfl
  | cons p r ih=>
    intro l' h
    obtain ⟨a,r',hm,rfl,h,t⟩:=h.cons_inv
    rw [List.lookup_cons,List.lookup_cons,beq_nm inj hn hm]
    cases q:(n == p.1) with
    | true=>exact ⟨_,rfl,h⟩
    | false=>exact ih t
include inj in
theorem contains_nm {n:Nat} (hn:n < N.natr):∀ {ids:List Nat},(∀ m ∈ ids,m < N.natr) → (ids.map N.nm).contains (N.nm n) = ids.contains n
  | [],_=>rfl
  | m :: ids,h=>by
    rw [List.map_cons,List.contains_cons,List.contains_cons,beq_nm inj hn (h m (.head _)),contains_nm hn fun k hk=>h k (.tail _ hk)]
include inj in
theorem kws_nm {ids:List Nat} (hi:∀ m ∈ ids,m < N.natr) {kws}:∀ {kvals} {taken:List Nat},(∀ m ∈ taken,m < N.natr) → LRel N w kws kvals → kwsOk ids taken kws = true → kwsOkS (ids.map N.nm) (taken.map N.nm) kvals = true:=by
  induction kws with
  | nil=>intro kvals taken _ h _;obtain rfl:=h;exact rfl
  | cons p r ih=>
    intro kvals taken ht h e
    obtain ⟨a,r',hn,rfl,h,t⟩:=h.cons_inv
    show (((ids.map N.nm).contains _ && !(taken.map N.nm).contains _) && kwsOkS _ _ _) = true
    rw [contains_nm inj hn hi,contains_nm inj hn ht]
    have e:((ids.contains p.1 && !taken.contains p.1) && kwsOk ids (p.1 :: taken) r) = true:=e
    rw [andL e]
    exact ih (taken:=p.1 :: taken) (fun m hm=>by rcases List.mem_cons.mp hm with rfl | hm;exact hn;exact ht m hm) t (andR e)
theorem allLook_get {l:List (Nat × MV)}:∀ {ids:List Nat} {as:List MV},allLook l ids = some as → as.length = ids.length ∧ ∀ (i:Nat) (n:Nat),ids[i]? = some n → ∃ v,as[i]? = some v ∧ l.lookup n = some v
  | [],_,e=>by cases e;exact ⟨rfl,fun i n h=>by simp at h⟩
  | n :: ids,_,e=>by
    obtain ⟨v,hv,e⟩:=bind_some e
    obtain ⟨as,ha,e⟩:=map_some e
    subst e
    obtain ⟨h1,h2⟩:=allLook_get ha
    refine ⟨by rw [List.length_cons,List.length_cons,h1],fun i m h=>?_⟩
    cases i with
    | zero=>cases h;exact ⟨v,rfl,hv⟩
    | succ i=>exact h2 i m h
end
theorem rev_lookup {g:Str → Value} {x:Str}:∀ {l:List Str},x ∈ l → (l.map fun y=>(y,g y)).reverse.lookup x = some (g x)
  | y :: l,h=>by
    rw [List.map_cons,List.reverse_cons,lookup_app]
    by_cases q:x ∈ l
    · rw [rev_lookup q]
    · rcases List.mem_cons.mp h with rfl | h
      · cases e:List.lookup x (List.map (fun y=>(y,g y)) l).reverse with
        | some v=>
          have:(x,v) ∈ (List.map (fun y=>(y,g y)) l).reverse:=by
            have:=List.lookup_eq_some_iff.mp e
            obtain ⟨l1,l2,h1,_⟩:=this
            rw [h1];simp
          rw [List.mem_reverse,List.mem_map] at this
          obtain ⟨y,hy,he⟩:=this
          cases he;exact absurd hy q
        | none=>simp [List.lookup]
      · exact absurd h q
theorem filterMap_all {g:Str → Option Value}:∀ {l:List Str},(∀ x ∈ l,(g x).isSome = true) → (l.filterMap fun n=>(g n).map (n,·)) = l.map fun y=>(y,(g y).getD .none)
  | [],_=>rfl
  | x :: l,h=>by
    obtain ⟨v,hv⟩:=Option.isSome_iff_exists.mp (h x (.head _))
    rw [List.filterMap_cons,hv,List.map_cons,hv]
    exact congrArg _ (filterMap_all fun y hy=>h y (.tail _ hy))
structure FnRow where
  name:Str
  qual:Str
  params:Arguments
  body:List Stmt
  scope:Scope
  dV:Value
  kV:Value
  doc:Value
  pm:Value
  an:Option Addr
  cdv:Value
  ct:Value
noncomputable abbrev FnRow.fd (r:FnRow):FuncData:=fnOf r.name r.qual r.params r.body r.scope r.dV r.kV r.doc r.pm r.an r.cdv r.ct
structure FnOk (C:Cx) (f:Nat) (r:FnRow) (nms:List Str) (reqs:List Nat) (opts:List (Nat × MV)) (ds:List Value):Prop where
  at_:∃ oc od osl,C.K.lookup (C.N.fna f) = some ⟨oc,od,.func r.fd,osl⟩
  code:codeIn C.K r.cdv r.qual = true
  p1:r.params.posonlyargs = []
  p2:r.params.args.map (·.arg) = (reqs ++ opts.map (·.1)).map C.N.nm
  p3:r.params.kwonlyargs = []
  p4:r.params.vararg = none
  p5:r.params.kwarg = none
  par:C.N.T.fnPar f = reqs.map (fun n=>(n,none)) ++ opts.map (fun p=>(p.1,some p.2))
  lt:∀ n ∈ reqs ++ opts.map (·.1),n < C.N.natr
  nd:(reqs ++ opts.map (·.1)).Nodup
  dfl:(r.dV = .none ∧ ds = []) ∨ ∃ T oc od k sl,r.dV = .ref T ∧ C.K.lookup T = some ⟨oc,od,.seq ds.toArray k,sl⟩
  dval:∀ w:Wd,VRels C.N w (opts.map (·.2)) ds
  nodup:nms.Nodup
  pre:nms.take (reqs ++ opts.map (·.1)).length = (reqs ++ opts.map (·.1)).map C.N.nm
  loc:∀ x ∈ nms,r.scope.names.lookup x = some .local
  hco:r.scope.isCoroutine = false
  hgen:r.scope.isGenerator = false
  hk:r.scope.kind = .function
  hcell:∀ x ∈ r.scope.names,x.2 ≠ .cell
theorem dfl_app:∀ (a b:List (Nat × Option MV)),dfl (a ++ b) = dfl a ++ dfl b
  | [],_=>rfl
  | (n,none) :: a,b=>dfl_app a b
  | (n,some v) :: a,b=>congrArg _ (dfl_app a b)
theorem dfl_req:∀ (l:List Nat),dfl (l.map fun n=>(n,none)) = []
  | []=>rfl
  | _ :: r=>dfl_req r
theorem dfl_opt:∀ (l:List (Nat × MV)),dfl (l.map fun p=>(p.1,some p.2)) = l
  | []=>rfl
  | (n,v) :: r=>congrArg _ (dfl_opt r)
theorem map_fst_par (reqs:List Nat) (opts:List (Nat × MV)):(reqs.map (fun n=>(n,(none:Option MV))) ++ opts.map (fun p=>(p.1,some p.2))).map (·.1) = reqs ++ opts.map (·.1):=by
  rw [List.map_append,List.map_map,List.map_map]
  congr 1
  · exact List.map_id' _
theorem zip_fst_snd:∀ (l:List (Nat × MV)),(l.map (·.1)).zip (l.map (·.2)) = l
  | []=>rfl
  | (n,v) :: r=>congrArg _ (zip_fst_snd r)
theorem lookup_none_of {n:Nat}:∀ {l:List (Nat × MV)},n ∉ l.map (·.1) → l.lookup n = none
  | [],_=>rfl
  | (k,v) :: r,h=>by
    rw [List.lookup_cons,show (n == k) = false from by
      rw [beq_eq_false_iff_ne];intro z;subst z;exact h (by simp)]
    exact lookup_none_of fun z=>h (by rw [List.map_cons];exact .tail _ z)
theorem lookup_appN {n:Nat}:∀ {l r:List (Nat × MV)},(l ++ r).lookup n = match l.lookup n with | some v=>some v | none=>r.lookup n
  | [],r=>rfl
  | (k,v) :: l,r=>by
    rw [List.cons_append,List.lookup_cons,List.lookup_cons]
    cases q:(n == k) with
    | true=>rfl
    | false=>exact lookup_appN
structure Bound (C:Cx) (w:Wd) (xs:List Str) (as:List MV) (binds:List (Str × Value)):Prop where
  sub:∀ y ∈ binds,y.1 ∈ xs
  at_:∀ (i:Nat) (x:Str) (v:MV),xs[i]? = some x → as[i]? = some v → ∃ a,binds.reverse.lookup x = some a ∧ VRel C.N w v a
  len:as.length = xs.length
theorem binds_ok {C:Cx} (O:CxOk C) {w:Wd} {P:PMap} {sh:Sto} {s:Shared} (S:Sh C.N w P sh s.heap) {f:Nat} {r:FnRow} {nms:List Str} {reqs:List Nat} {opts:List (Nat × MV)} {ds:List Value} (H:FnOk C f r nms reqs opts ds)
    {pos as:List MV} {kws:List (Nat × MV)} {pvals:List Value} {kvals:List (Str × Value)} (hp:VRels C.N w pos pvals) (hk:LRel C.N w kws kvals) (e:norm (C.N.T.fnPar f) pos kws = some as) :
    ∃ binds,BindsTo s r.fd ⟨pvals,kvals⟩ binds ∧ Bound C w ((reqs ++ opts.map (·.1)).map C.N.nm) as binds:=by
  have inj:=O.inj
  have hlt:=H.lt
  have hp2:=H.p2
  unfold norm at e
  obtain ⟨e1,e2⟩:=chk_some e
  obtain ⟨e0,e1⟩:=Bool.and_eq_true_iff.mp e1
  rw [H.par] at e1 e2 e0
  have hdl:=VRels.length_eq (H.dval w)
  rw [List.length_map] at hdl
  rw [map_fst_par] at e1 e2
  rw [dfl_app,dfl_req,List.nil_append,dfl_opt] at e2
  have e0:=leN_le e0
  generalize hids:reqs ++ opts.map (·.1) = ids at *
  have hidl:ids.length = reqs.length + opts.length:=by rw [← hids];simp
  rw [List.length_append,List.length_map,List.length_map,← hidl] at e0
  have hplen:=VRels.length_eq hp
  have hdrop:(ids.map C.N.nm).drop ((ids.map C.N.nm).length - ds.length) = (opts.map (·.1)).map C.N.nm:=by
    rw [List.length_map,← hdl,hidl,Nat.add_sub_cancel,← hids,List.map_append,List.drop_append_of_le_length (by simp),List.drop_of_length_le (by simp),List.nil_append]
  have htake:(ids.map C.N.nm).take ((ids.map C.N.nm).length - ds.length) = reqs.map C.N.nm:=by
    rw [List.length_map,← hdl,hidl,Nat.add_sub_cancel,← hids,List.map_append,List.take_append_of_le_length (by simp),List.take_of_length_le (by simp)]
  have R1:LRel C.N w (ids.zip pos ++ kws) ((ids.map C.N.nm).zip pvals ++ kvals):=LRel.append hk (LRel.zip hlt hp)
  have R2:LRel C.N w opts (((opts.map (·.1)).map C.N.nm).zip ds):=by
    have:=LRel.zip (N:=C.N) (w:=w) (ids:=opts.map (·.1)) (fun n hn=>hlt n (by rw [← hids];exact List.mem_append_right _ hn)) (H.dval w)
    rwa [zip_fst_snd] at this
  have R:=LRel.append R2 R1
  obtain ⟨hal,hag⟩:=allLook_get e2
  have look:∀ n ∈ ids,∃ v a,(ids.zip pos ++ kws ++ opts).lookup n = some v ∧ (((ids.map C.N.nm).zip pvals ++ kvals) ++ ((opts.map (·.1)).map C.N.nm).zip ds).lookup (C.N.nm n) = some a ∧ VRel C.N w v a:=by
    intro n hn
    obtain ⟨i,hi⟩:=List.getElem?_of_mem hn
    obtain ⟨v,_,hv⟩:=hag i n hi
    have:=R.look inj (hlt n hn)
    rw [hv] at this
    obtain ⟨a,ha,hr⟩:=orel_some this
    exact ⟨v,a,hv,ha,hr⟩
  have hall:∀ x ∈ ids.map C.N.nm,((((ids.map C.N.nm).zip pvals ++ kvals) ++ ((ids.map C.N.nm).drop ((ids.map C.N.nm).length - ds.length)).zip ds).lookup x).isSome = true:=by
    intro x hx
    obtain ⟨n,hn,rfl⟩:=List.mem_map.mp hx
    obtain ⟨v,a,_,ha,_⟩:=look n hn
    rw [hdrop,ha];rfl
  refine ⟨_,bind_ok (xs:=ids.map C.N.nm) (ds:=ds) H.p1 hp2 H.p3 H.p4 H.p5 (by rw [List.length_map,← hplen];exact e0) ?_ ?_ (by rw [List.length_map,← hdl];omega) hall ?_,?_⟩
  · have:=kws_nm inj hlt (taken:=ids.take pos.length) (fun m hm=>hlt m (List.mem_of_mem_take hm)) hk e1
    rwa [List.map_take,hplen] at this
  · intro M A E Q hq
    rcases H.dfl with ⟨h1,h2⟩ | ⟨T,oc,od,k,sl,h1,h2⟩
    · show wpAny M A (seqItems? r.dV) Q E s
      rw [h1]
      exact wpAny_pure (hq none (by rw [h2];rfl))
    · show wpAny M A (seqItems? r.dV) Q E s
      rw [h1]
      exact wpAny_seqItems (O.In S _ _ h2) rfl (hq _ (by simp))
  · intro x hx
    rw [htake] at hx
    obtain ⟨n,hn,rfl⟩:=List.mem_map.mp hx
    obtain ⟨v,a,hv,ha,hr⟩:=look n (by rw [← hids];exact List.mem_append_left _ hn)
    have nm:n ∉ opts.map (·.1):=fun z=>by
      have:=H.nd
      exact (List.nodup_append.mp this).2.2 n hn n z rfl
    rw [lookup_appN] at hv
    cases q:(ids.zip pos ++ kws).lookup n with
    | none=>rw [q,lookup_none_of nm] at hv;cases hv
    | some v'=>
      have:=R1.look inj (hlt n (by rw [← hids];exact List.mem_append_left _ hn))
      rw [q] at this
      obtain ⟨a',ha',_⟩:=orel_some this
      rw [ha'];rfl
  · rw [filterMap_all hall]
    refine ⟨fun y hy=>?_,fun i x v hx hv=>?_,by rw [List.length_map];exact hal⟩
    · obtain ⟨z,hz,rfl⟩:=List.mem_map.mp hy;exact hz
    · rw [List.getElem?_map] at hx
      obtain ⟨n,hn,rfl⟩:=map_some hx
      obtain ⟨v',hv',hl⟩:=hag i n hn
      rw [hv'] at hv;cases hv
      have hmem:=List.mem_of_getElem? hn
      obtain ⟨v2,a,hv2,ha,hr⟩:=look n hmem
      rw [hl] at hv2;cases hv2
      refine ⟨a,?_,hr⟩
      rw [rev_lookup (List.mem_map_of_mem hmem),hdrop,ha];rfl
open PySem PySem.W PyProof.Rows PySem.Calls PySem.Builtin PySem.Builtin.ObjectAttr
noncomputable def clsRead (K:Frag) (C:Addr):Bool:=findIn K (.ref C) "__getattribute__" == some (some (.builtin "object.__getattribute__")) && findIn K (.ref C) "__getattr__" == some none && hasDictIn K C &&
  findIn K (.ref C) "__class__" == some (some (.builtin "object.__class__")) && specialIn K (.builtin "object.__class__") "__get__" == some (some (.builtin "getset_descriptor.__get__")) &&
  takesIn K (.builtin "object.__class__") == some true && mroIn K C (.type "object") == some true && typeIn K (.ref C) == some (.type "type") && instIn K (.ref C) (.type "type") == some true && (clsIn K C).isSome
noncomputable def isNotInC (K:Frag) (C D:Addr):Bool:=!(C == D) && (clsIn K D).isSome && typeIn K (.ref D) == some (.type "type") && instIn K (.ref D) (.type "type") == some true && subIn K (.ref C) (.ref D) == some false
section
variable {prog:Program} {w:World} {A:Around} {E:Value → Shared → Prop} {s:Shared} {K:Frag} {x C D:Addr} {ox:Obj} {od:Obj}
theorem get_classQ {Q:Option Value → Shared → Prop} (X:K.In s.heap) (I:InstAt s.heap x ox C (some od)) (e:clsRead K C = true) (h:∀ tk,Q (some (.ref C)) { s with toks:=tk }) :
    wpAny (model prog w) A (getAttr? (.ref x) "__class__") Q E s:=by
  simp only [clsRead,Bool.and_eq_true,beq_iff_eq] at e
  obtain ⟨⟨⟨⟨⟨⟨⟨⟨⟨e1,e2⟩,e3⟩,e4⟩,e5⟩,e6⟩,e7⟩,_⟩,_⟩,_⟩:=e
  obtain ⟨cd,hc,_⟩:=any_some e3
  have hf:=findObj_data (od:=od) (name:="__class__") (by rw [hc];rfl) e4 e5 e6
  obtain ⟨hh,g,d,t,os⟩:=s
  have L0:=I.type (M:=model prog w)
  have L1:=looks_findIn (M:=model prog w) X e1
  have L2:=looks_find (M:=model prog w) X I hf
  have L3:=looks_findIn (M:=model prog w) X e2
  unfold getAttr? getAttrBy? getAttrBy
  refine wpAny_bind (wpAny_mkText (wpAny_bind (wpAny_attempt (wpAny_holding (wpAny_bind (L0.at (wpAny_bind (L1.at ?_))))))))
  show wpAny _ _ (getAttrEveryday _ _ _) _ _ _
  refine wpAny_bind (wpAny_onRaise (wpAny_runValue (codeAny_builtin F.plainObj_entry_getattr_hooked ?_)))
  refine wpAny_bind (wpAny_pure (wpAny_bind (L0.at (wpAny_bind (L2.at (wpAny_bind (L3.at ?_)))))))
  show wpAny _ _ (holding [_] (call _ [_,.ref x,.ref C]) >>= ret) _ _ _
  refine wpAny_bind (wpAny_holding (wpAny_call (class_get (ox:=ox) (od:=some od) X I e7 ?_)))
  refine wpAny_pure ?_
  show wpAny _ _ (handedOut (.ref C)) _ _ _
  exact handed_on rfl (wpAny_pure (h _))
theorem isf_nested {dep:Int} {tk:Tok} {Q:Fin → Shared → Prop} (X:K.In s.heap) (I:InstAt s.heap x ox C (some od)) (e:isNotInC K C D = true) (hr:clsRead K C = true)
    (h:∀ tk,Q (.done (.ret (.bool false))) { s with toks:=tk }) :
    wpAny (model prog w) A (Builtin.«isinstance.nested» ⟨[.ref x,.ref D,.int dep tk],[]⟩) Q E s:=by
  have X':=X
  have I':=I
  have hr':=hr
  obtain ⟨hh,g,d,tt,os⟩:=s
  unfold Builtin.«isinstance.nested»
  have ht:=I.type (M:=model prog w)
  refine wpAny_bind (ht.at ?_)
  simp only [isNotInC,Bool.and_eq_true,beq_iff_eq,Bool.not_eq_true',beq_eq_false_iff_ne] at e
  obtain ⟨⟨⟨⟨e9,e0⟩,e1⟩,e2⟩,e3⟩:=e
  rw [if_neg (fun q=>by have:=beq_iff_eq.mp q;cases this;exact e9 rfl)]
  simp only [clsRead,Bool.and_eq_true,beq_iff_eq] at hr
  obtain ⟨⟨⟨_,r1⟩,r2⟩,r3⟩:=hr
  have L1:=looks_typeIn (M:=model prog w) X e1
  have L2:=looks_instIn (M:=model prog w) X e2
  have L5:=looks_instIn (M:=model prog w) X r2
  have L4:Looks (model prog w) hh (isSubtype (.ref C) (.ref D)) false:=looks_subIn X e3
  have L3:Looks (model prog w) hh (isInstance (.ref x) (.ref D)) false:=ht.andThen L4
  refine wpAny_bind (L1.at ?_)
  rw [if_pos (by decide)]
  k_delta "plainIsInstance"
  unfold isType
  repeat lk
  unfold clsIn at e0
  split at e0
  · rename_i ho
    refine nd_load (X _ _ ho) (nd_pure (wpAny_pure ?_))
    simp only [Bool.not_true,Bool.false_eq_true,if_false]
    refine wpAny_bind (L3.at ?_)
    simp only [Bool.false_eq_true,if_false]
    refine wpAny_bind (get_classQ (s:=⟨hh,g,d,tt,os⟩) X' I' hr' fun tk'=>?_)
    dsimp only
    unfold clsIn at r3
    split at r3
    · rename_i hoc
      refine nd_load (X _ _ hoc) (wpAny_bind (wpAny_bind (wpAny_pure (wpAny_pure ?_))))
      simp only [Bool.not_true,Bool.false_eq_true,if_false]
      refine wpAny_bind (wpAny_rule ?_)
      exact L4.at (wpAny_pure (h _))
    · cases r3
  · cases e0
noncomputable def InstQ (K:Frag) (x C:Addr) (s:Shared):Prop:=K.In s.heap ∧ ∃ ox od,InstAt s.heap x ox C (some od)
noncomputable def isiOk (K:Frag) (C D:Addr):Bool → Bool
  | true=>isIn K (.ref C) D
  | false=>isNotInC K C D && clsRead K C
theorem isi_answers {b:Bool} (e:isiOk K C D b = true):Answers (InstQ K x C) (.ref x) (.ref D) b:=fun dep tk M A E Q s hs=>by
  obtain ⟨⟨X,ox,od,I⟩,h⟩:=hs
  cases b with
  | true=>exact isi_nested X I.type e (h s.toks)
  | false=>
    obtain ⟨e1,e2⟩:=Bool.and_eq_true_iff.mp e
    exact isf_nested X I e1 e2 h
theorem isi_tuple {tp:Addr} {ot:Obj} {cs:List Value} {nt:Nat} {vs:List Bool} {tk:Tok} {Q:Fin → Shared → Prop} (X:K.In s.heap) (I:InstAt s.heap x ox C (some od)) (htp:s.heap.get? tp = some ot) (hc:ot.cls = .type "tuple") (hd:ot.data = .seq cs.toArray nt)
    (hne:C ≠ tp) (ha:AnswersAll (InstQ K x C) (.ref x) cs vs)
    (hq:∀ tk',Q (.done (.ret (.bool (vs.any id)))) { s with toks:=tk' }):wpAny (model prog w) A (Builtin.«isinstance.nested» ⟨[.ref x,.ref tp,.int 0 tk],[]⟩) Q E s:=by
  have hs:InstQ K x C s:=⟨X,ox,od,I⟩
  have hsq:∀ {A E} {Q:Option (Array Value) → Shared → Prop},Q (some cs.toArray) s → wpAny (model prog w) A (seqItems? (.ref tp)) Q E s:=fun h=>wpAny_seqItems htp hd h
  obtain ⟨h,g,d,t,os⟩:=s
  have hT2:(⟨h,g,d,t,os⟩:Shared).TypeIs (.ref tp) "tuple":=⟨_,htp,hc⟩
  have f1:=F.isi_sub_tuple
  unfold Builtin.«isinstance.nested»
  refine wpAny_bind ((I.type (M:=model prog w)).at ?_)
  rw [if_neg (fun q=>by have:=beq_iff_eq.mp q;cases this;exact hne rfl)]
  repeat (any_goals (first | assumption | (with_reducible refine hsq ?_) | wp_step))
  refine wpAny_arrayLoop ?_
  simp only [Option.getD_some,List.toList_toArray]
  refine isinstance_items (dep:=0) (fun s tk h=>h) cs vs _ _ ha hs fun tk'=>?_
  cases hv:vs.any _root_.id with
  | true=>
    simp only [if_true]
    exact wpAny_pure (hv ▸ hq tk')
  | false=>
    simp only [Bool.false_eq_true,if_false]
    exact wpAny_pure (hv ▸ hq tk')
theorem isi_two {tp:Addr} {ot:Obj} {c1 c2:Addr} {nt:Nat} {b1 b2:Bool} {Q:Value → Shared → Prop} (X:K.In s.heap) (I:InstAt s.heap x ox C (some od)) (htp:s.heap.get? tp = some ot) (hc:ot.cls = .type "tuple") (hd:ot.data = .seq #[.ref c1,.ref c2] nt)
    (hne:C ≠ tp) (e1:isiOk K C c1 b1 = true) (e2:isiOk K C c2 b2 = true) (h:∀ tk,Q (.bool (b1 || b2)) { s with toks:=tk }) :
    wpAny (model prog w) A (call (.builtin "isinstance") [.ref x,.ref tp]) Q E s:=
  call_isinstance (S:=fun _ R s=>(InstQ K x C s ∧ ∃ ot,s.heap.get? tp = some ot ∧ ot.cls = .type "tuple" ∧ ∃ nt,ot.data = .seq #[.ref c1,.ref c2] nt) ∧ ∀ tk,R (.ok (.ret (.bool (b1 || b2)))) { s with toks:=tk })
    (fun _ _ _ _ _ hs=>by
      obtain ⟨⟨⟨X,ox,od,I⟩,ot,h1,h2,nt,h3⟩,hq⟩:=hs
      exact isinstance_outer (isi_tuple (cs:=[.ref c1,.ref c2]) (vs:=[b1,b2]) X I h1 h2 h3 hne ⟨isi_answers e1,isi_answers e2,trivial⟩ fun tk=>by simpa using hq tk) (by intro z;cases z)) ⟨⟨⟨X,ox,od,I⟩,ot,htp,hc,nt,hd⟩,h⟩
theorem isi_one {b:Bool} {Q:Value → Shared → Prop} (X:K.In s.heap) (I:InstAt s.heap x ox C (some od)) (e:isiOk K C D b = true) (h:∀ tk,Q (.bool b) { s with toks:=tk }) :
    wpAny (model prog w) A (call (.builtin "isinstance") [.ref x,.ref D]) Q E s:=
  call_isinstance (S:=fun _ R s=>InstQ K x C s ∧ ∀ tk,R (.ok (.ret (.bool b))) { s with toks:=tk })
    (fun _ _ _ _ _ hs=>isinstance_outer (isi_answers e _ _ _ _ _ _ _ ⟨hs.1,hs.2⟩) (by intro z;cases z)) ⟨⟨X,ox,od,I⟩,h⟩
end
open PySem PySem.W PyProof.Rows PySem.Calls PySem.Builtin
structure Rm (A:Around) (n:Nat):Prop where
  depth:A.depth + n ≤ 999
  units:A.units + 20 * n ≤ 9000
  hand:A.handled = none
noncomputable def PhiOk (C:Cx) (Φ:Phi) (n:Nat):Prop:=∀ {f pos kws sh v sh'},callF C.N.T Φ f pos kws sh = some (v,sh') → rl sh' ≤ lim →
  ∀ {A:Around} {R:Result → Shared → Prop} {s:Shared} {w:Wd} {P:PMap} {pvals:List Value} {kvals:List (Str × Value)},Rm A n → Sh C.N w P sh s.heap → VRels C.N w pos pvals → LRel C.N w kws kvals →
  (∀ w' h' tk a,w.Ext w' → Sh C.N w' P sh' h' → VRel C.N w' v a → R (.ok (.ret a)) { s with heap:=h',toks:=tk }) → codeAny (model C.prog C.wd) A (.call (.ref (C.N.fna f)) ⟨pvals,kvals⟩) R s
structure InitFr (sh sh':Sto):Prop where
  em:sh'.em = sh.em
  lst:∀ l,isListL l = true → getList sh' l = getList sh l ∨ getList sh' l = some []
noncomputable def InitOk (T:Tab) (Φ:Phi):Prop:=∀ {c f as sh r sh'},T.clsInit c = some f → Φ f (.loc .tmp :: as) sh = some (r,sh') → InitFr sh sh'
section
variable {N:Nm} {w w':Wd}
theorem noTL_of (h1:w.ρ .tmp = none) (h2:w.ρ .tmpD = none) {l:Loc} {a:Addr} (h:w.ρ l = some a):noTL l = true:=by
  cases l with
  | tmp=>exact noS (h1.symm.trans h)
  | tmpD=>exact noS (h2.symm.trans h)
  | _=>rfl
theorem noT_of (h1:w.ρ .tmp = none) (h2:w.ρ .tmpD = none) (v:MV):∀ {a},VRel N w v a → noT v = true:=
  MV.rec (motive_1:=fun v=>∀ {a},VRel N w v a → noT v = true) (motive_2:=fun vs=>∀ {as},VRels N w vs as → noTs vs = true) (fun _=>rfl) (fun _ _ _=>rfl) (fun _ _ _=>rfl) (fun _ _ _=>rfl) (fun l _ h=>h.elim fun q h=>noTL_of h1 h2 h.1)
    (fun _ _ _=>rfl) (fun _ _ _=>rfl) (fun _ _ _=>rfl) (fun f l a h=>by cases (h:MethR N w f l a) with | mk _ h _=>exact noTL_of h1 h2 h) (fun c fs ih _ h=>(VRel.inst_eq.mp h).elim fun _ h=>ih h.1)
    (fun vs ih _ h=>(VRel.lst_eq.mp h).elim fun _ h=>ih h.1) (fun vs ih _ h=>(VRel.tup_eq.mp h).elim fun _ h=>ih h.1) (fun _ _ _=>rfl) (fun _=>rfl)
    (fun v vs i1 i2 _ h=>h.elim fun a h=>h.elim fun r h=>Bool.and_eq_true_iff.mpr ⟨i1 h.2.1,i2 h.2.2⟩) v
theorem noTs_of (h1:w.ρ .tmp = none) (h2:w.ρ .tmpD = none) {vs:List MV}:∀ {as},VRels N w vs as → noTs vs = true:=by
  induction vs with
  | nil=>exact fun _=>rfl
  | cons v vs ih=>intro as h;obtain ⟨a,r,_,h,t⟩:=h.cons_inv;exact Bool.and_eq_true_iff.mpr ⟨noT_of h1 h2 v h,ih t⟩
structure Turn (w w':Wd):Prop where
  ρ:∀ l a,noTL l = true → w.ρ l = some a → w'.ρ l = some a
  G:∀ a o,w.G a = some o → w'.G a = some o
theorem noTs_cons (v:MV) (vs:List MV) (h:noTs (v :: vs) = true):noT v = true ∧ noTs vs = true:=⟨andL h,andR h⟩
theorem VRel.turn (t:Turn w w') {v:MV} {a:Value} (h:VRel N w v a) (e:noT v = true):VRel N w' v a:=
  VRel.map (p:=fun v=>noT v = true) (ps:=fun vs=>noTs vs = true) (fun l a e=>t.ρ l a e) (fun _ l a e=>t.ρ l a e) t.G (fun _ _ h=>h) (fun _ h=>h) (fun _ h=>h) noTs_cons v e h
theorem VRels.turn (t:Turn w w') {vs:List MV} {as:List Value} (h:VRels N w vs as) (e:noTs vs = true):VRels N w' vs as:=
  VRels.all (p:=fun v=>noT v = true) (ps:=fun vs=>noTs vs = true) noTs_cons (fun v e _ h=>h.turn t e) vs e h
theorem VRels.of_get {vs:List MV}:∀ {as:List Value},vs.length = as.length → (∀ (i:Nat) (v:MV) (a:Value),vs[i]? = some v → as[i]? = some a → VRel N w v a) → VRels N w vs as:=by
  induction vs with
  | nil=>intro as h _;exact List.eq_nil_of_length_eq_zero h.symm
  | cons v vs ih=>
    intro as h k
    cases as with
    | nil=>exact absurd h (Nat.succ_ne_zero _)
    | cons a as=>exact .cons (k 0 v a rfl rfl) (ih (Nat.succ.inj h) fun i v a h1 h2=>k (i + 1) v a h1 h2)
end
theorem allSome_eq:∀ {fs:List (Option MV)} {vs:List MV},allSome fs = some vs → fs = vs.map some
  | [],_,e=>by cases e;rfl
  | some v :: r,_,e=>by
    obtain ⟨vs,h1,h2⟩:=map_some (x:=allSome r) e
    subst h2
    rw [allSome_eq h1];rfl
  | none :: r,_,e=>by cases e
section
variable {C:Cx} {w:Wd} {P:PMap} {sh:Sto} {h:Heap}
noncomputable def Wd.tmp (w:Wd) (x d:Addr):Wd:={ w with ρ:=fun l=>Loc.casesOn (motive:=fun _=>Option Addr) l (w.ρ .em) (w.ρ .emD) (some x) (some d) (w.ρ .states) (w.ρ .events) (w.ρ .indents) (w.ρ .rows) }
theorem not_tmp {l:Loc} (h:noTL l = true) (x d:Addr):(w.tmp x d).ρ l = w.ρ l:=by
  cases l with
  | tmp | tmpD=>exact noB h
  | _=>rfl
theorem cont_tmp {N:Nm} {t:Option (Nat × List (Option MV))} {l:Loc} (h1:noTL l = true) {o:Obj} (h:Cont N w sh l o):Cont N w { sh with tmp:=t } l o:=by
  cases l with
  | tmp | tmpD=>exact noB h1
  | _=>exact h
theorem tmp_none (S:Sh C.N w P sh h) (ht:sh.tmp = none):w.ρ .tmp = none ∧ w.ρ .tmpD = none:=by
  have n1:sh.tmp.isSome = false:=by rw [ht];rfl
  exact ⟨Option.not_isSome_iff_eq_none.mp (by rw [(S.dom .tmp).trans n1];decide),Option.not_isSome_iff_eq_none.mp (by rw [(S.dom .tmpD).trans n1];decide)⟩
theorem Loc.two {p:Loc → Prop} (h:∀ l,noTL l = true → p l) (h1:p .tmp) (h2:p .tmpD) (l:Loc):p l:=by
  cases l with
  | tmp=>exact h1
  | tmpD=>exact h2
  | _=>exact h _ rfl
theorem cls_enter (S:Sh C.N w P sh h) (ht:sh.tmp = none) {c:Nat} (hc:(C.N.T.clsInit c).isSome = true) :
    w.Ext (w.tmp (h.objs.size + 1) h.objs.size) ∧
    Sh C.N (w.tmp (h.objs.size + 1) h.objs.size) P { sh with tmp:=some (c,List.replicate (C.N.T.clsFields c).length none) } ((h.push emptyDict).push (instObj (C.N.cla c) h.objs.size)):=by
  obtain ⟨d1,d2⟩:=tmp_none S ht
  have k:∀ b o,h.get? b = some o → ((h.push emptyDict).push (instObj (C.N.cla c) h.objs.size)).get? b = some o:=fun b o e=>Heap.get?_push_of_some _ (Heap.get?_push_of_some _ e)
  obtain ⟨g0,p0,r0⟩:=S.fresh (Heap.get?_none_of_le (Nat.le_refl h.objs.size))
  obtain ⟨g1,p1,r1⟩:=S.fresh (a:=h.objs.size + 1) (Heap.get?_none_of_le (Nat.le_succ h.objs.size))
  have hd:((h.push emptyDict).push (instObj (C.N.cla c) h.objs.size)).get? h.objs.size = some emptyDict:=Heap.get?_push_of_some _ (Heap.get?_push_size _ rfl)
  have hx:((h.push emptyDict).push (instObj (C.N.cla c) h.objs.size)).get? (h.objs.size + 1) = some (instObj (C.N.cla c) h.objs.size):=by
    have:=Heap.get?_push_size (h:=h.push emptyDict) (o:=instObj (C.N.cla c) h.objs.size) rfl
    rwa [Heap.size_push] at this
  generalize (h.push emptyDict).push (instObj (C.N.cla c) h.objs.size) = h' at k hd hx ⊢
  generalize e1:h.objs.size = d at *
  have ne:d + 1 ≠ d:=Nat.succ_ne_self d
  generalize d + 1 = y at *
  have x:w.Ext (w.tmp y d):=⟨fun l a=>Loc.two (p:=fun l=>w.ρ l = some a → (w.tmp y d).ρ l = some a) (fun l hl e=>(not_tmp hl y d).trans e) (fun e=>noS (d1.symm.trans e)) (fun e=>noS (d2.symm.trans e)) l,fun _ _ e=>e⟩
  have S':=S.keeps k
  refine ⟨x,S'.base,S'.frz,S'.prot,S'.dis,Loc.two (fun l hl=>?_) rfl rfl,fun l l' a e e'=>?_,fun l a=>?_,fun l a=>?_,fun l a=>?_⟩
  · rw [not_tmp hl,S.dom l];cases l <;> first | rfl | exact noB hl
  · have key:∀ l,(w.tmp y d).ρ l = some a → (noTL l = true ∧ w.ρ l = some a ∧ a ≠ y ∧ a ≠ d) ∨ (l = .tmp ∧ a = y) ∨ (l = .tmpD ∧ a = d):=fun l=>
      Loc.two (p:=fun l=>(w.tmp y d).ρ l = some a → (noTL l = true ∧ w.ρ l = some a ∧ a ≠ y ∧ a ≠ d) ∨ (l = .tmp ∧ a = y) ∨ (l = .tmpD ∧ a = d)) (fun l hl e=>.inl (by rw [not_tmp hl] at e;exact ⟨hl,e,r1 l a e,r0 l a e⟩))
        (fun e=>.inr (.inl ⟨rfl,(Option.some.inj e).symm⟩)) (fun e=>.inr (.inr ⟨rfl,(Option.some.inj e).symm⟩)) l
    rcases key l e with ⟨_,q,z1,z2⟩ | ⟨q,z⟩ | ⟨q,z⟩ <;> rcases key l' e' with ⟨_,q',z1',z2'⟩ | ⟨q',z'⟩ | ⟨q',z'⟩
    · exact S.inj _ _ _ q q'
    · exact absurd z' z1
    · exact absurd z' z2
    · exact absurd z z1'
    · exact q.trans q'.symm
    · exact absurd (z.symm.trans z') ne
    · exact absurd z z2'
    · exact absurd (z'.symm.trans z) ne
    · exact q.trans q'.symm
  · exact Loc.two (p:=fun l=>(w.tmp y d).ρ l = some a → w.G a = none) (fun l hl e=>S.sepG l a (not_tmp hl y d ▸ e)) (fun e=>Option.some.inj e ▸ g1) (fun e=>Option.some.inj e ▸ g0) l
  · exact Loc.two (p:=fun l=>(w.tmp y d).ρ l = some a → P a = none) (fun l hl e=>S.sepP l a (not_tmp hl y d ▸ e)) (fun e=>Option.some.inj e ▸ p1) (fun e=>Option.some.inj e ▸ p0) l
  · refine Loc.two (p:=fun l=>(w.tmp y d).ρ l = some a → ∃ o,h'.get? a = some o ∧ Cont C.N (w.tmp y d) _ l o) (fun l hl e=>?_) (fun e=>?_) (fun e=>?_) l
    · obtain ⟨o,h1,h2⟩:=S'.cont l a (not_tmp hl y d ▸ e)
      exact ⟨o,h1,cont_tmp hl (h2.mono x)⟩
    · obtain rfl:=Option.some.inj e
      exact ⟨_,hx,_,rfl,hc,d,rfl,rfl⟩
    · obtain rfl:=Option.some.inj e
      refine ⟨_,hd,_,rfl,List.length_replicate,fun _=>none,⟨#[],0,rfl,Nat.zero_le _,fun e he=>by simp at he,fun name=>rfl⟩,fun n hn=>?_⟩
      have:tmpAt C.N.T c (List.replicate (C.N.T.clsFields c).length none) n = none:=by
        unfold tmpAt
        cases fieldIx (C.N.T.clsFields c) n with
        | none=>rfl
        | some i=>
          rw [Option.bind_some,nth_eq,List.getElem?_replicate]
          split <;> rfl
      rw [this];exact rfl
end
open PySem PySem.W PyProof.Rows PySem.Calls PySem.Builtin
section
variable {C:Cx} {w w2:Wd} {P:PMap} {sh sh2:Sto} {h h2:Heap} {x d:Addr} {t:Option (Nat × List (Option MV))}
theorem alive_list {sh:Sto} {l:Loc} {vs:List MV} (hl:isListL l = true) (e:getList sh l = some vs):alive sh l = true:=by
  cases l with
  | em | emD | tmp | tmpD=>exact noB hl
  | _=>exact Option.isSome_iff_exists.mpr ⟨vs,e⟩
theorem list_tmp {l:Loc} (hl:isListL l = true):getList { sh with tmp:=t } l = getList sh l:=by
  cases l with
  | em | emD | tmp | tmpD=>exact noB hl
  | _=>rfl
theorem list_noT (S:Sh C.N w P sh h) (ht:sh.tmp = none) (I:InitFr { sh with tmp:=t } sh2) {l:Loc} (hl:isListL l = true) {vs:List MV} (e:getList sh2 l = some vs):noTs vs = true:=by
  obtain ⟨d1,d2⟩:=tmp_none S ht
  rcases I.lst l hl with q | q
  · have e':getList sh l = some vs:=(list_tmp hl).symm.trans (q.symm.trans e)
    obtain ⟨a,ha⟩:=Option.isSome_iff_exists.mp ((S.dom l).trans (alive_list hl e'))
    obtain ⟨o,_,h2⟩:=S.cont l a ha
    cases cont_list e' h2 with | mk he _ hr=>exact Option.some.inj he ▸ noTs_of d1 d2 hr
  · rw [← Option.some.inj (q.symm.trans e)];rfl
theorem cont_turn {w3:Wd} (S:Sh C.N w P sh h) (ht:sh.tmp = none) (I:InitFr { sh with tmp:=t } sh2) (T:Turn w2 w3) {l:Loc} {o:Obj} (hl:isListL l = true) {sh3:Sto} (h3:getList sh3 l = getList sh2 l) (hc:Cont C.N w2 sh2 l o):Cont C.N w3 sh3 l o:=by
  have key:ListR C.N w2 (getList sh2 l) o → ListR C.N w3 (getList sh3 l) o:=fun q=>by cases q with | mk e1 e2 e4=>exact ⟨h3.trans e1,e2,e4.turn T (list_noT S ht I hl e1)⟩
  cases l with
  | em | emD | tmp | tmpD=>exact noB hl
  | _=>exact key hc
theorem dict_turn {w3:Wd} (T:Turn w2 w3) {b:Nat} {g:Nat → Option MV} {o:Obj} (hg:∀ n v,n < C.N.natr → g n = some v → noT v = true) (hc:DictR C.N w2 b g o):DictR C.N w3 b g o:=
  exMap (fun _ h=>h) (fun m k n hn=>by
    have:=k n hn
    cases hv:g n with
    | none=>rw [hv] at this;exact this
    | some v=>rw [hv] at this;obtain ⟨b,hb,hr⟩:=orel_some this;exact ⟨b,hb,hr.turn T (hg n v hn hv)⟩) hc
theorem em_noT (S:Sh C.N w P sh h) (ht:sh.tmp = none) {E:List MV} (e:sh.em = some E) {n:Nat} {v:MV} (hn:n < C.N.natr) (hv:emAt C.N.T E n = some v):noT v = true:=by
  obtain ⟨d1,d2⟩:=tmp_none S ht
  obtain ⟨a,ha⟩:=Option.isSome_iff_exists.mp ((S.dom .emD).trans (by show sh.em.isSome = true;rw [e];rfl))
  obtain ⟨o,_,E',hE,m,_,hf⟩:=S.cont .emD a ha
  obtain rfl:=Option.some.inj (e.symm.trans hE)
  have:=hf n hn
  rw [hv] at this
  obtain ⟨b,_,hr⟩:=orel_some this
  exact noT_of d1 d2 _ hr
inductive TmpEnd (C:Cx) (w:Wd) (h:Heap) (x d:Addr) (c:Nat) (fs:List (Option MV)):Prop
  | mk {od:Obj} {m:Str → Option Value} (r1:w.ρ .tmp = some x) (r2:w.ρ .tmpD = some d) (hx:h.get? x = some (instObj (C.N.cla c) d)) (hc:(C.N.T.clsInit c).isSome = true) (hd:h.get? d = some od) (hlen:fs.length = (C.N.T.clsFields c).length)
    (hm:isNsB od m (cnt fs)) (hat:∀ n,n < C.N.natr → ORel C.N w (tmpAt C.N.T c fs n) (m (C.N.nm n)))
theorem tmp_end (S2:Sh C.N w2 P sh2 h2) (e:(w.tmp x d).Ext w2) {c:Nat} {fs:List (Option MV)} (hf:sh2.tmp = some (c,fs)):TmpEnd C w2 h2 x d c fs:=by
  have r1:w2.ρ .tmp = some x:=e.ρ .tmp x rfl
  have r2:w2.ρ .tmpD = some d:=e.ρ .tmpD d rfl
  obtain ⟨o,hx,p,k2,k4,d',k1,k3⟩:=S2.cont _ _ r1
  obtain rfl:=Option.some.inj (hf.symm.trans k2)
  obtain rfl:=Option.some.inj (r2.symm.trans k1)
  subst k3
  obtain ⟨od,hd,p,k2,k5,m,k6,k7⟩:=S2.cont _ _ r2
  obtain rfl:=Option.some.inj (hf.symm.trans k2)
  exact ⟨r1,r2,hx,k4,hd,k5,k6,k7⟩
theorem ix_go {n:Nat} {fs:List Nat}:∀ {k i:Nat},fs.Nodup → fs[i]? = some n → List.rec (motive:=fun _=>Nat → Option Nat) (fun _=>none) (fun x _ ih j=>bif Nat.beq x n then some j else ih (j + 1)) fs k = some (k + i):=by
  induction fs with
  | nil=>intro k i _ e;exact noS e
  | cons f fs ih=>
    intro k i hn e
    have hn:=List.nodup_cons.mp hn
    cases i with
    | zero=>
      obtain rfl:=Option.some.inj e
      show (bif Nat.beq f f then _ else _) = _
      rw [Nat.beq_refl];rfl
    | succ i=>
      show (bif Nat.beq f n then _ else _) = _
      have:Nat.beq f n = false:=by
        cases q:Nat.beq f n with
        | false=>rfl
        | true=>
          have hm:n ∈ fs:=List.mem_of_getElem? (i:=i) e
          exact absurd (Nat.eq_of_beq_eq_true q ▸ hm) hn.1
      rw [this]
      exact (ih hn.2 e).trans (congrArg some (Nat.add_right_comm ..))
theorem ix_field {fs:List Nat} {n i:Nat} (hn:fs.Nodup) (e:fs[i]? = some n):fieldIx fs n = some i:=(ix_go hn e).trans (congrArg some (Nat.zero_add _))
noncomputable def Wd.gone (w2:Wd) (x d:Addr) (ox od:Obj):Wd:=⟨fun l=>Loc.casesOn (motive:=fun _=>Option Addr) l (w2.ρ .em) (w2.ρ .emD) none none (w2.ρ .states) (w2.ρ .events) (w2.ρ .indents) (w2.ρ .rows),fun b=>if b = x then some ox else if b = d then some od else w2.G b⟩
theorem cls_leave (O:CxOk C) (S:Sh C.N w P sh h) (ht:sh.tmp = none) (S2:Sh C.N w2 P sh2 h2) (x1:w.Ext (w.tmp x d)) (e:(w.tmp x d).Ext w2) {c:Nat} {fs:List (Option MV)} {vs:List MV}
    (I:InitFr { sh with tmp:=t } sh2) (hf:sh2.tmp = some (c,fs)) (hs:allSome fs = some vs) (hn:noTs vs = true) :
    ∃ w3,w.Ext w3 ∧ Sh C.N w3 P { sh2 with tmp:=none } h2 ∧ VRel C.N w3 (.inst c vs) (.ref x):=by
  obtain ⟨r1,r2,hx,hc,hd,hlen,hm,hat⟩:=tmp_end S2 e hf
  rename_i od m
  have K:=O.cls c hc
  have fsE:=allSome_eq hs
  have hne:d ≠ x:=fun z=>by have:=S2.inj _ _ _ r2 (by rw [z];exact r1);cases this
  have gx:=S2.sepG _ _ r1
  have gd:=S2.sepG _ _ r2
  have old:∀ l,noTL l = true → (w2.gone x d (instObj (C.N.cla c) d) od).ρ l = w2.ρ l:=fun l hl=>by
    cases l with
    | tmp | tmpD=>exact noB hl
    | _=>rfl
  have gG:∀ a o,w2.G a = some o → (w2.gone x d (instObj (C.N.cla c) d) od).G a = some o:=fun a o e=>(if_neg fun z=>by rw [z,gx] at e;exact noS e).trans ((if_neg fun z=>by rw [z,gd] at e;exact noS e).trans e)
  have T:Turn w2 (w2.gone x d (instObj (C.N.cla c) d) od):=⟨fun l a q e=>(old l q).trans e,gG⟩
  have hgx:(w2.gone x d (instObj (C.N.cla c) d) od).G x = some (instObj (C.N.cla c) d):=if_pos rfl
  have hgd:(w2.gone x d (instObj (C.N.cla c) d) od).G d = some od:=(if_neg hne).trans (if_pos rfl)
  have Gc:∀ {a o} {p:Prop},(w2.gone x d (instObj (C.N.cla c) d) od).G a = some o → (a = x → instObj (C.N.cla c) d = o → p) → (a = d → od = o → p) → (w2.G a = some o → p) → p:=fun {a o p} q k1 k2 k3=>by
    by_cases z:a = x
    · subst z;exact k1 rfl (Option.some.inj (hgx.symm.trans q))
    · by_cases z':a = d
      · subst z';exact k2 rfl (Option.some.inj (hgd.symm.trans q))
      · exact k3 ((if_neg z').symm.trans ((if_neg z).symm.trans q))
  have none1:(w2.gone x d (instObj (C.N.cla c) d) od).ρ .tmp = none:=rfl
  have none2:(w2.gone x d (instObj (C.N.cla c) d) od).ρ .tmpD = none:=rfl
  have gN:∀ a,a ≠ x → a ≠ d → (w2.gone x d (instObj (C.N.cla c) d) od).G a = w2.G a:=fun a z1 z2=>(if_neg z1).trans (if_neg z2)
  generalize w2.gone x d (instObj (C.N.cla c) d) od = w3 at *
  obtain ⟨d1,d2⟩:=tmp_none S ht
  have x3:w.Ext w3:=⟨fun l a=>Loc.two (p:=fun l=>w.ρ l = some a → w3.ρ l = some a) (fun l hl q=>(old l hl).trans (e.ρ _ _ (x1.ρ _ _ q))) (fun q=>noS (d1.symm.trans q)) (fun q=>noS (d2.symm.trans q)) l,fun a o q=>gG _ _ (e.G _ _ (x1.G _ _ q))⟩
  have sub:∀ l a,w3.ρ l = some a → noTL l = true ∧ w2.ρ l = some a ∧ a ≠ x ∧ a ≠ d:=fun l a=>Loc.two (p:=fun l=>w3.ρ l = some a → noTL l = true ∧ w2.ρ l = some a ∧ a ≠ x ∧ a ≠ d) (fun l hl q=>by
    rw [old l hl] at q
    exact ⟨hl,q,fun z=>by have:=S2.inj _ _ _ r1 (z ▸ q);subst this;exact noB hl,fun z=>by have:=S2.inj _ _ _ r2 (z ▸ q);subst this;exact noB hl⟩) (fun q=>noS (none1.symm.trans q)) (fun q=>noS (none2.symm.trans q)) l
  refine ⟨w3,x3,⟨fun a o q=>gG _ _ (S2.base _ _ q),fun a o q=>Gc q (fun z z'=>z ▸ z' ▸ hx) (fun z z'=>z ▸ z' ▸ hd) fun q=>S2.frz _ _ q,S2.prot,fun a o q=>Gc q (fun z _=>z ▸ S2.sepP _ _ r1) (fun z _=>z ▸ S2.sepP _ _ r2) fun q=>S2.dis _ _ q,
    Loc.two (fun l hl=>?_) (by rw [none1];rfl) (by rw [none2];rfl),fun l l' a q q'=>S2.inj _ _ _ (sub _ _ q).2.1 (sub _ _ q').2.1,fun l a q=>(gN a (sub _ _ q).2.2.1 (sub _ _ q).2.2.2).trans (S2.sepG _ _ (sub _ _ q).2.1),fun l a q=>S2.sepP _ _ (sub _ _ q).2.1,fun l a q=>?_⟩,?_⟩
  · rw [old l hl,S2.dom l];cases l <;> first | rfl | exact noB hl
  · obtain ⟨q0,q1,q2,q3⟩:=sub _ _ q
    obtain ⟨o,ho,k⟩:=S2.cont _ _ q1
    refine ⟨o,ho,?_⟩
    cases l with
    | tmp | tmpD=>exact noB q0
    | em=>exact exMap (fun _ q=>(old .emD rfl).trans q) (fun _ h=>h) (k:ObjR _ _ _ _ _)
    | emD=>exact exMap (fun _ h=>h) (fun E k=>k) ((let ⟨E,k1,k2⟩:=(k:∃ E,sh2.em = some E ∧ _);⟨E,k1,dict_turn T (fun n v hn hv=>em_noT S ht ((I.em ▸ k1:({ sh with tmp:=t }:Sto).em = some E)) hn hv) k2⟩):∃ E,sh2.em = some E ∧ DictR C.N w3 1000 (emAt C.N.T E) o)
    | _=>exact cont_turn S ht I T rfl rfl k
  · have hlen2:vs.length = (C.N.T.clsFields c).length:=by rw [← hlen,fsE,List.length_map]
    have at_:∀ (i n:Nat) (v:MV),(C.N.T.clsFields c)[i]? = some n → vs[i]? = some v → ∃ b,m (C.N.nm n) = some b ∧ VRel C.N w2 v b:=fun i n v q1 q2=>by
      have:=hat n (K.fn n (List.mem_of_getElem? q1))
      unfold tmpAt at this
      rw [ix_field K.fnd q1,Option.bind_some,fsE,nth_eq,List.getElem?_map,q2] at this
      exact orel_some this
    refine VRel.inst_eq.mpr ⟨(C.N.T.clsFields c).map fun n=>(m (C.N.nm n)).getD .none,(VRels.of_get (by rw [List.length_map];exact hlen2) fun i v a q1 q2=>?_).turn T hn,hc,hgx,hgd,hm.ns,fun n hn=>?_⟩
    · rw [List.getElem?_map] at q2
      obtain ⟨n,h1,h2⟩:=map_some q2
      obtain ⟨b,hb,hr⟩:=at_ i n v h1 q1
      rw [← h2,hb];exact hr
    · cases hi:fieldIx (C.N.T.clsFields c) n with
      | none=>
        have:=hat n hn
        unfold tmpAt at this
        rw [hi] at this
        exact orel_none this
      | some i=>
        have hi':=field_ix hi
        have hl:i < vs.length:=hlen2 ▸ (List.getElem?_eq_some_iff.mp hi').1
        obtain ⟨b,hb,_⟩:=at_ i n _ hi' (List.getElem?_eq_getElem hl)
        rw [Option.bind_some,nth_eq,List.getElem?_map,hi',hb]
        show some b = some ((m (C.N.nm n)).getD .none)
        rw [hb];rfl
end
open PySem PySem.W PyProof.Rows PySem.Calls PySem.Builtin
section
variable {C:Cx} {w w2:Wd} {P:PMap} {sh sh2:Sto} {h h2:Heap} {x d:Addr} {t:Option (Nat × List (Option MV))}
theorem VRel.retmp {N:Nm} {w2 w3:Wd} (T:Turn w2 w3) (r1:w2.ρ .tmp = some x) (r3:w3.ρ .em = some x) {v:MV} {a:Value} (h:VRel N w2 v a) (hn:noT (Mine.retmp v) = true):VRel N w3 (Mine.retmp v) a:=by
  cases v with
  | meth f l=>
    cases l with
    | tmp=>
      cases (h:MethR N w2 f .tmp a) with
      | mk hb hl hq=>exact MethR.mk hb r3 (Option.some.inj (r1.symm.trans hl) ▸ T.G _ _ hq)
    | _=>exact h.turn T hn
  | _=>exact h.turn T hn
theorem noTs_get {vs:List MV}:∀ {i:Nat} {v:MV},noTs (vs.map Mine.retmp) = true → vs[i]? = some v → noT (Mine.retmp v) = true:=by
  induction vs with
  | nil=>intro i v _ e;exact noS e
  | cons u r ih=>
    intro i v h e
    cases i with
    | zero=>exact Option.some.inj e ▸ andL h
    | succ i=>exact ih (andR h) e
noncomputable def Wd.asEm (w2:Wd) (x d:Addr):Wd:=⟨fun l=>Loc.casesOn (motive:=fun _=>Option Addr) l (some x) (some d) none none (w2.ρ .states) (w2.ρ .events) (w2.ρ .indents) (w2.ρ .rows),w2.G⟩
theorem Loc.four {p:Loc → Prop} (h:∀ l,isListL l = true → p l) (h1:p .em) (h2:p .emD) (h3:p .tmp) (h4:p .tmpD) (l:Loc):p l:=by
  cases l with
  | em=>exact h1
  | emD=>exact h2
  | tmp=>exact h3
  | tmpD=>exact h4
  | _=>exact h _ rfl
theorem cls_leave_em (O:CxOk C) (S:Sh C.N w P sh h) (ht:sh.tmp = none) (S2:Sh C.N w2 P sh2 h2) (x1:w.Ext (w.tmp x d)) (e:(w.tmp x d).Ext w2) {c:Nat} {fs:List (Option MV)} {vs:List MV}
    (I:InitFr { sh with tmp:=t } sh2) (hf:sh2.tmp = some (c,fs)) (hs:allSome fs = some vs) (hn:noTs (vs.map Mine.retmp) = true) (hc0:c = C.N.T.emC) (he:sh2.em = none) :
    ∃ w3,w.Ext w3 ∧ Sh C.N w3 P { sh2 with em:=some (vs.map Mine.retmp),tmp:=none } h2 ∧ VRel C.N w3 (.loc .em) (.ref x):=by
  obtain ⟨r1,r2,hx,hc,hd,hlen,hm,hat⟩:=tmp_end S2 e hf
  rename_i od m
  have K:=O.cls c hc
  have fsE:=allSome_eq hs
  have n1:sh2.em.isSome = false:=by rw [he];rfl
  have e1:w2.ρ .em = none:=Option.not_isSome_iff_eq_none.mp (by rw [(S2.dom .em).trans n1];decide)
  have e2:w2.ρ .emD = none:=Option.not_isSome_iff_eq_none.mp (by rw [(S2.dom .emD).trans n1];decide)
  obtain ⟨d1,d2⟩:=tmp_none S ht
  have old:∀ l,isListL l = true → (w2.asEm x d).ρ l = w2.ρ l:=fun l hl=>by
    cases l with
    | em | emD | tmp | tmpD=>exact noB hl
    | _=>rfl
  have T:Turn w2 (w2.asEm x d):=⟨fun l a=>Loc.four (p:=fun l=>noTL l = true → w2.ρ l = some a → (w2.asEm x d).ρ l = some a) (fun l hl _ e=>(old l hl).trans e) (fun _ e=>noS (e1.symm.trans e)) (fun _ e=>noS (e2.symm.trans e)) (fun q _=>noB q) (fun q _=>noB q) l,fun _ _ e=>e⟩
  have x3:w.Ext (w2.asEm x d):=⟨fun l a=>Loc.two (p:=fun l=>w.ρ l = some a → (w2.asEm x d).ρ l = some a) (fun l hl q=>T.ρ _ _ hl (e.ρ _ _ (x1.ρ _ _ q))) (fun q=>noS (d1.symm.trans q)) (fun q=>noS (d2.symm.trans q)) l,fun a o q=>e.G _ _ (x1.G _ _ q)⟩
  have sub:∀ l a,(w2.asEm x d).ρ l = some a → (isListL l = true ∧ w2.ρ l = some a) ∨ (l = .em ∧ w2.ρ .tmp = some a) ∨ (l = .emD ∧ w2.ρ .tmpD = some a):=fun l a=>
    Loc.four (p:=fun l=>(w2.asEm x d).ρ l = some a → (isListL l = true ∧ w2.ρ l = some a) ∨ (l = .em ∧ w2.ρ .tmp = some a) ∨ (l = .emD ∧ w2.ρ .tmpD = some a)) (fun l hl q=>.inl ⟨hl,(old l hl).symm.trans q⟩)
      (fun q=>.inr (.inl ⟨rfl,r1.trans q⟩)) (fun q=>.inr (.inr ⟨rfl,r2.trans q⟩)) (fun q=>noS q) (fun q=>noS q) l
  have at_:∀ {l a},(w2.asEm x d).ρ l = some a → ∃ l',w2.ρ l' = some a:=fun q=>by
    rcases sub _ _ q with ⟨_,q⟩ | ⟨_,q⟩ | ⟨_,q⟩ <;> exact ⟨_,q⟩
  refine ⟨_,x3,⟨S2.base,S2.frz,S2.prot,S2.dis,Loc.four (fun l hl=>?_) rfl rfl rfl rfl,fun l l' a q q'=>?_,fun l a q=>(at_ q).elim fun _ q=>S2.sepG _ _ q,fun l a q=>(at_ q).elim fun _ q=>S2.sepP _ _ q,
    fun l a=>Loc.four (p:=fun l=>(w2.asEm x d).ρ l = some a → ∃ o,h2.get? a = some o ∧ Cont C.N (w2.asEm x d) _ l o) (fun l hl q=>?_) (fun q=>?_) (fun q=>?_) (fun q=>noS q) (fun q=>noS q) l⟩,.loc rfl⟩
  · rw [old l hl,S2.dom l];cases l <;> first | rfl | exact noB hl
  · rcases sub _ _ q with ⟨i,q⟩ | ⟨i,q⟩ | ⟨i,q⟩ <;> rcases sub _ _ q' with ⟨i',q'⟩ | ⟨i',q'⟩ | ⟨i',q'⟩ <;> have z:=S2.inj _ _ _ q q'
    · exact z
    · subst z;exact noB i
    · subst z;exact noB i
    · subst z;exact noB i'
    · exact i.trans i'.symm
    · cases z
    · subst z;exact noB i'
    · cases z
    · exact i.trans i'.symm
  · obtain ⟨o,ho,k⟩:=S2.cont _ _ ((old l hl).symm.trans q)
    exact ⟨o,ho,cont_turn S ht I T hl (by cases l <;> first | rfl | exact noB hl) k⟩
  · obtain rfl:=Option.some.inj q;exact ⟨_,hx,d,rfl,by rw [hc0]⟩
  · obtain rfl:=Option.some.inj q
    refine ⟨od,hd,_,rfl,m,?_,fun n hn'=>?_⟩
    · obtain ⟨es,ep,k1,k2,k3⟩:=hm
      exact ⟨es,ep,k1,Nat.le_trans k2 (Nat.le_trans (cnt_le fs) (hlen ▸ Nat.le_trans K.len (by decide))),k3⟩
    · have:=hat n hn'
      unfold tmpAt at this
      unfold emAt
      rw [← hc0]
      cases hi:fieldIx (C.N.T.clsFields c) n with
      | none=>rw [hi] at this;exact this
      | some i=>
        rw [hi,Option.bind_some,fsE,nth_eq,List.getElem?_map] at this
        rw [Option.bind_some,nth_eq,List.getElem?_map]
        cases hv:vs[i]? with
        | none=>rw [hv] at this;exact this
        | some v=>
          rw [hv] at this
          obtain ⟨b,hb,hr⟩:=orel_some this
          exact ⟨b,hb,hr.retmp T r1 rfl (noTs_get hn hv)⟩
end
open PySem PySem.W PyProof.Rows PySem.Calls PySem.Builtin
structure CaOk (C:Cx):Prop where
  made:∀ c,(C.N.T.clsInit c).isSome = true → makesIn C.K (C.N.cla c) = true
  ini:∀ c f,C.N.T.clsInit c = some f → findIn C.K (.ref (C.N.cla c)) "__init__" = some (some (.ref (C.N.fna f))) ∧ typeIn C.K (.ref (C.N.fna f)) = some (.type "function")
  isi:∀ c d,(C.N.T.clsInit c).isSome = true → (C.N.T.clsInit d).isSome = true → isiOk C.K (C.N.cla c) (C.N.cla d) (C.N.T.clsSub c d) = true
  rd:∀ c,(C.N.T.clsInit c).isSome = true → clsRead C.K (C.N.cla c) = true
  keepC:∀ c,(C.N.T.clsInit c).isSome = true → keepIn C.K (.ref (C.N.cla c)) = true
  keepF:∀ f,(C.N.T.body f).isSome = true → keepIn C.K (.ref (C.N.fna f)) = true ∧ fnIn C.K (C.N.fna f) = true
  b0:C.N.bin 0 = .builtin "len"
  b1:C.N.bin 1 = .builtin "isinstance"
section
variable {C:Cx} {Φ:Phi} {n:Nat} {w:Wd} {ω:Nat → Option Addr} {P:PMap} {L:FL} {nms:List Str} {st:St} {A:Around} {E:Value → Shared → Prop} {s:Shared}
noncomputable abbrev GoS (C:Cx) (w:Wd) (ω:Nat → Option Addr) (P:PMap) (L:FL) (nms:List Str) (st:St) (v:MV) (sh':Sto) (s:Shared) (Q:Value → Shared → Prop):Prop:=
  ∀ w' h' tk a,w.Ext w' → Fm C.N w' ω P L nms { st with sh:=sh' } h' → VRel C.N w' v a → Q a { s with heap:=h',toks:=tk }
theorem callF_ok (H:PhiOk C Φ n) (F:Fm C.N w ω P L nms st s.heap) {f:Nat} {pos:List MV} {kws:List (Nat × MV)} {v:MV} {sh':Sto} {pvals:List Value} {kvals:List (Str × Value)} {Q:Value → Shared → Prop}
    (e:callF C.N.T Φ f pos kws st.sh = some (v,sh')) (hr:rl sh' ≤ lim) (hA:Rm A n) (hp:VRels C.N w pos pvals) (hk:LRel C.N w kws kvals) (k:GoS C w ω P L nms st v sh' s Q) :
    codeAny (model C.prog C.wd) A (.call (.ref (C.N.fna f)) ⟨pvals,kvals⟩) (fun r s'=>match r with | .ok (.ret v)=>Q v s' | .ok _=>False | .error e=>E e s') s:=
  H e hr hA F.enter hp hk fun w' h' tk a x S hv=>k w' h' tk a x (F.back x S) hv
theorem len_list {q:Addr} {vals:List Value} {Q:Value → Shared → Prop} (hl:s.heap.IsList q vals.toArray) (hn:vals.length ≤ lim) (h:∀ t tk,Q (.int vals.length t) { s with toks:=tk }) :
    wpAny (model C.prog C.wd) A (call (.builtin "len") [.ref q]) Q E s:=by
  refine Calls.call_len_list hl (by rw [List.size_toArray];exact lim_lt hn) ?_
  rw [List.size_toArray];exact h _ _
theorem len_ok (F:Fm C.N w ω P L nms st s.heap) {v:MV} {a:Value} {m:Nat} {Q:Value → Shared → Prop} (h:VRel C.N w v a) (e:lenV st.sh v = some m) (k:∀ t tk,Q (.int m t) { s with toks:=tk }):wpAny (model C.prog C.wd) A (call (.builtin "len") [a]) Q E s:=by
  refine orE e (fun e=>mapE e fun x h1 e=>?_) fun e=>mapE e fun vs h1 e=>?_
  · obtain ⟨hs,t,rfl⟩:=(asStr_eq h1 ▸ h:VRel C.N w (.str x) a).str_inv
    refine SBL.len (by rw [strOf_length];exact lim_lt hs) ?_
    rw [strOf_length,e];exact k _ _
  · obtain ⟨hl,hr,hn⟩:=items_at F.sh h1 h
    refine len_list hl hn fun t tk=>?_
    rw [← hr.length_eq,e];exact k _ _
theorem clsOf_ok {v:MV} {a:Value} {d:Nat} (h:VRel C.N w v a) (e:clsOf C.N.T v = some d):(C.N.T.clsInit d).isSome = true ∧ a = .ref (C.N.cla d):=bindE e fun d' h1 e=>by
  obtain ⟨h2,e⟩:=chk_some e
  obtain rfl:=Option.some.inj e
  exact ⟨h2,(asCls_eq h1 ▸ h:VRel C.N w (.cls d') a)⟩
theorem cls_not (B:CaOk C) {h:Heap} (X:C.K.In h) {c:Nat} {q:Addr} {o:Obj} {xs:Array Value} {m:Nat} (hc:(C.N.T.clsInit c).isSome = true) (hq:h.get? q = some o) (hd:o.data = .seq xs m):C.N.cla c ≠ q:=fun z=>by
  have hrd:=B.rd _ hc
  have hcl:=andR (hrd:(_ && (clsIn C.K (C.N.cla c)).isSome) = true)
  unfold clsIn at hcl
  split at hcl
  · rename_i hlk
    have h1:=X _ _ hlk
    rw [z,hq] at h1
    rw [Option.some.inj h1] at hd
    cases hd
  · exact noB hcl
theorem isi_ok (O:CxOk C) (B:CaOk C) (F:Fm C.N w ω P L nms st s.heap) {x v:MV} {a b:Value} {p:Nat × List MV} {r:Bool} {Q:Value → Shared → Prop} (h:VRel C.N w x a) (hi:asInst x = some p) (h':VRel C.N w v b) (e:isiV C.N.T p.1 v = some r)
    (k:∀ tk,Q (.bool r) { s with toks:=tk }):wpAny (model C.prog C.wd) A (call (.builtin "isinstance") [a,b]) Q E s:=by
  have S:=F.sh
  obtain ⟨vals,_,⟨hc,hq,hd,hm,hf⟩⟩:=VRel.inst_eq.mp (asInst_eq hi ▸ h)
  have I:=instAt_of (N:=C.N) (S.frz _ _ hq) (S.frz _ _ hd)
  refine orE e (fun e=>mapE e fun d h1 e=>?_) fun e=>bindE e fun l h1 e=>?_
  · obtain ⟨e1,rfl⟩:=clsOf_ok h' h1
    exact isi_one (O.In S) I (B.isi _ _ hc e1) fun tk=>e ▸ k tk
  · cases l with
    | nil=>exact noS e
    | cons d ds=>
      refine bindE e fun e' h2 e=>bindE e fun d' h3 e=>mapE e fun e2 h4 e=>?_
      rw [one_eq h2] at h1
      obtain ⟨hq',hct,hdt,hr',_⟩:=tup_at S (asTup_eq h1 ▸ h')
      obtain ⟨a1,r1,rfl,v1,r1⟩:=hr'.cons_inv
      obtain ⟨a2,rfl,v2⟩:=r1.one_inv
      obtain ⟨e3,rfl⟩:=clsOf_ok v1 h3
      obtain ⟨e4,rfl⟩:=clsOf_ok v2 h4
      exact isi_two (O.In S) I hq' hct hdt (cls_not B (O.In S) hc hq' hdt) (B.isi _ _ hc e3) (B.isi _ _ hc e4) fun tk=>e ▸ k tk
theorem builtin_ok (O:CxOk C) (B:CaOk C) (F:Fm C.N w ω P L nms st s.heap) {b:Nat} {pos:List MV} {v:MV} {pvals:List Value} {Q:Value → Shared → Prop}
    (e:Mine.builtin C.N.T st.sh b pos = some v) (hp:VRels C.N w pos pvals) (k:GoS C w ω P L nms st v st.sh s Q):wpAny (model C.prog C.wd) A (call (C.N.bin b) pvals []) Q E s:=by
  have go:∀ {a},VRel C.N w v a → ∀ tk,Q a { s with toks:=tk }:=fun h tk=>k w s.heap tk _ (.refl w) F h
  match b,e with
  | 0,e=>
    refine bindE e fun x h1 e=>mapE e fun m h2 e=>?_
    obtain ⟨a,rfl,h⟩:=(one_eq h1 ▸ hp:VRels C.N w [x] pvals).one_inv
    rw [B.b0]
    exact len_ok F h h2 fun t tk=>go (e ▸ .int _ _) tk
  | 1,e=>
    cases pos with
    | nil=>exact noS e
    | cons x r=>
      refine bindE e fun d h1 e=>bindE e fun p h2 e=>mapE e fun q h3 e=>?_
      obtain ⟨a,as,rfl,h,hr⟩:=hp.cons_inv
      obtain ⟨b,rfl,h'⟩:=(one_eq h1 ▸ hr:VRels C.N w [d] as).one_inv
      rw [B.b1]
      exact isi_ok O B F h h2 h' h3 fun tk=>go (e ▸ .bool _) tk
  | n + 2,e=>exact noS e
end
open PySem PySem.W PyProof.Rows PySem.Calls PySem.Builtin
theorem Rm.mono {A:Around} {n m:Nat} (h:Rm A n) (hm:m ≤ n):Rm A m:=⟨by have:=h.depth;omega,by have:=h.units;omega,h.hand⟩
theorem cU (a:Addr) (rest:List Value) (kw:List (Str × Value)):Code.cUnits (.builtin "type.__call__" ⟨.ref a :: rest,kw⟩) ≤ 20:=by
  have:Code.cUnits (.builtin "type.__call__" ⟨.ref a :: rest,kw⟩) = 1:=rfl
  omega
theorem Rm.under {A:Around} {n:Nat} {C:Addr} {rest:List Value} {kw:List (Str × Value)} (h:Rm A (n + 1)):Rm (A.under (.builtin "type.__call__" ⟨.ref C :: rest,kw⟩)) n:=by
  have h1:=h.depth
  have h2:=h.units
  refine ⟨by show A.depth + 1 + n ≤ 999;omega,?_,h.hand⟩
  show A.units + Code.cUnits (.builtin "type.__call__" ⟨.ref C :: rest,kw⟩) + 20 * n ≤ 9000
  have:Code.cUnits (.builtin "type.__call__" ⟨.ref C :: rest,kw⟩) ≤ 20:=cU ..
  omega
section
variable {C:Cx} {Φ:Phi} {n:Nat} {w:Wd} {ω:Nat → Option Addr} {P:PMap} {L:FL} {nms:List Str} {st:St} {A:Around} {E:Value → Shared → Prop} {s:Shared}
theorem norm_head {ps:List (Nat × Option MV)} {v:MV} {pos as:List MV} {kws:List (Nat × MV)} (e:norm ps (v :: pos) kws = some as):∃ r,as = v :: r:=by
  obtain ⟨e1,e⟩:=chk_some e
  have e1:=leN_le (andL e1)
  cases ps with
  | nil=>exact absurd e1 (Nat.not_succ_le_zero _)
  | cons p ps=>
    refine bindE e fun u hu e=>mapE e fun r _ e=>?_
    have hu:List.lookup p.1 ((p.1,v) :: ((ps.map (·.1)).zip pos ++ kws ++ dfl (p :: ps))) = some u:=hu
    rw [List.lookup_cons_self] at hu
    exact ⟨r,by rw [Option.some.inj hu];exact e.symm⟩
theorem mkInst_ok (O:CxOk C) (B:CaOk C) (H:PhiOk C Φ n) (HI:InitOk C.N.T Φ) (F:Fm C.N w ω P L nms st s.heap) {c:Nat} {pos:List MV} {kws:List (Nat × MV)} {v:MV} {sh':Sto} {pvals:List Value} {kvals:List (Str × Value)}
    {Q:Value → Shared → Prop} (e:mkInst C.N.T Φ c pos kws st.sh = some (v,sh')) (hr:rl sh' ≤ lim) (hA:Rm A (n + 1)) (hp:VRels C.N w pos pvals) (hk:LRel C.N w kws kvals) (k:GoS C w ω P L nms st v sh' s Q) :
    wpAny (model C.prog C.wd) A (call (.ref (C.N.cla c)) pvals kvals) Q E s:=by
  obtain ⟨ht,e⟩:=ifT e
  have ht:=Option.isNone_iff_eq_none.mp ht
  refine bindE e fun f hf e=>bindE e fun r h1 e=>?_
  obtain ⟨hn,e⟩:=ifT e
  have hn:=isNone_eq hn
  refine bindE e fun p ht2 e=>?_
  obtain ⟨hcc,e⟩:=ifT e
  obtain rfl:=eq_of_beq hcc
  refine bindE e fun vs h3 e=>?_
  have hc:(C.N.T.clsInit p.1).isSome = true:=by rw [hf];rfl
  obtain ⟨k1,k2⟩:=B.ini _ _ hf
  have X:=O.In F.sh
  have S0:=F.enter
  obtain ⟨x1,S1⟩:=cls_enter S0 ht hc
  have hI:InitFr { st.sh with tmp:=some (p.1,List.replicate (C.N.T.clsFields p.1).length none) } r.2:=bindE h1 fun as ha h1=>(norm_head ha).elim fun r' z=>HI hf (z ▸ h1)
  have hr2:rl r.2 ≤ lim:=endInst_rl (T:=C.N.T) e ▸ hr
  obtain ⟨hh,g,dd,tt,os⟩:=s
  refine wpAny_call (make_core (makes_of X (B.made _ hc)) (looks_findIn X k1) (fun self=>bind_fn X self k2) (.inl rfl) ?_)
  refine H h1 hr2 (s:=⟨_,g,dd,tt,os⟩) hA.under S1 (.cons (.loc rfl) (hp.mono x1)) (hk.mono x1) fun w2 h2 tk a x2 S2 hv=>?_
  rw [hn] at hv
  obtain rfl:a = .none:=hv
  refine ⟨rfl,?_⟩
  refine ifE e (fun hq e=>?_) fun hq e=>?_
  · obtain ⟨hq2,e⟩:=ifT e
    obtain ⟨w3,x3,S3,V3⟩:=cls_leave_em O S0 ht S2 x1 x2 hI ht2 h3 (andL hq2) (eq_of_beq hq) (Option.isNone_iff_eq_none.mp (andR hq2))
    have e:=Option.some.inj e
    obtain rfl:=congrArg Prod.fst e
    obtain rfl:=congrArg Prod.snd e
    exact k w3 h2 tk _ x3 (F.back x3 S3) V3
  · obtain ⟨hq2,e⟩:=ifT e
    obtain ⟨w3,x3,S3,V3⟩:=cls_leave O S0 ht S2 x1 x2 hI ht2 h3 hq2
    have e:=Option.some.inj e
    obtain rfl:=congrArg Prod.fst e
    obtain rfl:=congrArg Prod.snd e
    exact k w3 h2 tk _ x3 (F.back x3 S3) V3
theorem callV_ok (O:CxOk C) (B:CaOk C) (H:PhiOk C Φ n) (HI:InitOk C.N.T Φ) (F:Fm C.N w ω P L nms st s.heap) {fv:MV} {fa:Value} {pos:List MV} {kws:List (Nat × MV)} {v:MV} {sh':Sto} {pvals:List Value} {kvals:List (Str × Value)}
    {Q:Value → Shared → Prop} (e:callV C.N.T Φ fv pos kws st.sh = some (v,sh')) (hr:rl sh' ≤ lim) (hA:Rm A (n + 1)) (hv:VRel C.N w fv fa) (hp:VRels C.N w pos pvals) (hk:LRel C.N w kws kvals) (k:GoS C w ω P L nms st v sh' s Q) :
    wpAny (model C.prog C.wd) A (call fa pvals kvals) Q E s:=by
  cases fv with
  | fn f=>
    obtain rfl:fa = _:=hv
    exact wpAny_call (callF_ok H F e hr (hA.mono (Nat.le_succ _)) hp hk k)
  | meth f l=>
    cases (hv:MethR _ w f l fa) with | mk hb hl hq=>
    exact wpAny_call (method_call (F.sh.frz _ _ hq) (callF_ok H F e hr (hA.mono (Nat.le_succ _)) (.cons (.loc hl) hp) hk k))
  | bi b=>
    obtain rfl:fa = _:=hv
    cases kws with
    | nil=>
      obtain rfl:=hk
      refine mapE e fun a h1 e=>?_
      obtain rfl:=congrArg Prod.fst e
      obtain rfl:=congrArg Prod.snd e
      exact builtin_ok O B F h1 hp k
    | cons _ _=>exact noS e
  | cls c=>
    obtain rfl:fa = _:=hv
    exact mkInst_ok O B H HI F e hr hA hp hk k
  | _=>exact noS e
end
open PySem PySem.W PyProof.Rows PySem.Calls PySem.Builtin
structure NmOk (C:Cx):Prop where
  m0:C.N.nm 0 = "append"
  m1:C.N.nm 1 = "pop"
  m2:C.N.nm 2 = "startswith"
  m3:C.N.nm 3 = "join"
  m4:C.N.nm 4 = "split"
  m5:C.N.nm 5 = "copy"
noncomputable def bid (a:Nat):String:=(nth ["list.append","list.pop","str.startswith","str.join","str.split","dict.copy"] a).getD ""
theorem prefX_eq:∀ (p s:Tx),prefX p s = (decide (p.length ≤ s.length) && (s.take p.length == p))
  | [],s=>by simp [prefX]
  | a :: p,[]=>by simp [prefX]
  | a :: p,b :: s=>by
    rw [prefX,prefX_eq p s]
    by_cases h:a = b
    · subst h;simp [Nat.succ_le_succ_iff]
    · have:(b :: List.take p.length s == a :: p) = false:=by
        rw [beq_eq_false_iff_ne];intro z;injection z with z1 _;exact h z1.symm
      simp [h,this,List.take_succ_cons]
theorem startswith_eq (s p:Tx):Txt.startswith (strOf s) (strOf p) = prefX p s:=by
  rw [prefX_eq]
  unfold Txt.startswith Str.subAt
  rw [strOf_length,strOf_length,Nat.zero_add]
  congr 1
  show (s.toArray.extract 0 p.length == p.toArray) = (s.take p.length == p)
  rw [StrLaws.beq_toList]
  simp
theorem join_strs (sep:Tx):∀ xs:List Tx,Str.join (strOf sep) (xs.map strOf) = strOf (joinX sep xs)
  | []=>rfl
  | [x]=>rfl
  | x :: y :: r=>by
    show strOf x ++ strOf sep ++ Str.join (strOf sep) ((y :: r).map strOf) = strOf (x ++ sep ++ joinX sep (y :: r))
    rw [join_strs sep (y :: r),strOf_append,strOf_append]
theorem joinX_len (sep:Tx):∀ xs:List Tx,(joinX sep xs).length ≤ (xs.map List.length).sum + xs.length * sep.length
  | []=>Nat.zero_le _
  | [x]=>by simp [joinX]
  | x :: y :: r=>by
    have:=joinX_len sep (y :: r)
    simp only [joinX,List.length_append,List.map_cons,List.sum_cons,List.length_cons,Nat.add_mul,Nat.one_mul] at *
    omega
theorem strsOf_rel {N:Nm} {w:Wd} {vs:List MV}:∀ {vals:List Value} {xs:List Tx},VRels N w vs vals → strsOf vs = some xs → StrsAre vals (xs.map strOf):=by
  induction vs with
  | nil=>intro vals xs h e;obtain rfl:=h;obtain rfl:=Option.some.inj e;exact .nil
  | cons v vs ih=>
    intro vals xs h e
    obtain ⟨a,r,rfl,h,t⟩:=h.cons_inv
    refine bindE e fun x h1 e=>mapE e fun ys h2 e=>?_
    obtain ⟨_,u,rfl⟩:=(asStr_eq h1 ▸ h:VRel N w (.str x) a).str_inv
    rw [← e];exact .cons _ u (ih t h2)
section
variable {C:Cx} {Φ:Phi} {n:Nat} {w:Wd} {ω:Nat → Option Addr} {P:PMap} {L:FL} {nms:List Str} {st:St} {A:Around} {E:Value → Shared → Prop} {s:Shared}
theorem isList_of {sh:Sto} {l:Loc} {vs:List MV} (h:getList sh l = some vs):isListL l = true:=by
  cases l with
  | em | emD | tmp | tmpD=>exact noS h
  | _=>rfl
theorem loc_list (F:Fm C.N w ω P L nms st s.heap) {l:Loc} {a:Addr} (h:w.ρ l = some a) (hl:isListL l = true):∃ o,s.heap.get? a = some o ∧ ListR C.N w (getList st.sh l) o:=by
  obtain ⟨o,h1,h2⟩:=F.sh.cont l a h
  refine ⟨o,h1,?_⟩
  cases l with
  | em | emD | tmp | tmpD=>exact noB hl
  | _=>exact h2
theorem methB_get (N:NmOk C) (F:Fm C.N w ω P L nms st s.heap) {ov:MV} {oa:Value} {a:Nat} {pl:Sem Bool} {Q:Value × List Value → Shared → Prop} (h:VRel C.N w ov oa) (e:bKind ov a = true)
    (k:Q (.builtin (bid a),[oa]) s):wpAny (model C.prog C.wd) A (getMethod oa (C.N.nm a) pl) Q E s:=by
  have lst:(asLoc ov).any isListL = true → ∃ q n xs,oa = .ref q ∧ s.heap.get? q = some (listOf xs n):=fun e=>by
    cases hl:asLoc ov with
    | none=>rw [hl] at e;exact noB e
    | some l=>
      rw [hl] at e
      obtain ⟨q,hρ,h1⟩:=(asLoc_eq hl ▸ h:VRel C.N w (.loc l) oa).loc_inv
      obtain ⟨_,hq,⟨_⟩⟩:=loc_list F hρ e
      exact ⟨q,_,_,h1,hq⟩
  have str:(asStr ov).isSome = true → ∃ x t,oa = .str x t:=fun e=>by
    obtain ⟨x,hx⟩:=Option.isSome_iff_exists.mp e
    obtain ⟨_,t,h1⟩:=(asStr_eq hx ▸ h:VRel C.N w (.str x) oa).str_inv
    exact ⟨_,t,h1⟩
  match a,e with
  | 0,e=>obtain ⟨q,_,_,rfl,hq⟩:=lst e;rw [N.m0];exact Calls.getMethod_list_append hq rfl rfl k
  | 1,e=>obtain ⟨q,_,_,rfl,hq⟩:=lst e;rw [N.m1];exact Copied.getMethod_pop_at hq rfl rfl k
  | 2,e=>obtain ⟨x,t,rfl⟩:=str e;rw [N.m2];exact GM.startswith k
  | 3,e=>obtain ⟨x,t,rfl⟩:=str e;rw [N.m3];exact GM.join k
  | 4,e=>obtain ⟨x,t,rfl⟩:=str e;rw [N.m4];exact GM.split k
  | 5,e=>
    obtain ⟨kvs,h1⟩:=Option.isSome_iff_exists.mp (e:(asSd ov).isSome = true)
    cases ((asSd_eq h1 ▸ h:VRel C.N w (.sd kvs) oa):SdR C.N w kvs oa) with | mk hnd hlo hq hr=>
    rw [N.m5]
    have ho:=F.sh.frz _ _ hq
    exact getMethod_builtin ⟨_,ho,rfl⟩ PySem.F.plainAttrs_dict PySem.F.slot_dict_copy PySem.F.type_dict_copy (fun a e=>by cases e;exact ⟨_,ho,rfl⟩) k
  | n + 6,e=>exact noB e
end
open PySem PySem.W PyProof.Rows PySem.Calls PySem.Builtin
theorem le_sum_mem {a:Nat}:∀ {l:List Nat},a ∈ l → a ≤ l.sum
  | x :: r,h=>by
    rw [List.sum_cons]
    rcases List.mem_cons.mp h with rfl | h
    · omega
    · have:=le_sum_mem h;omega
section
variable {sh sh':Sto} {l:Loc} {vs us:List MV}
theorem setList_get (e:setList sh vs l = some sh'):getList sh' l = some vs:=by
  cases l with
  | em | emD | tmp | tmpD=>exact noS e
  | _=>obtain rfl:=Option.some.inj e;rfl
theorem setList_alive (h:getList sh l = some us) (e:setList sh vs l = some sh') (l':Loc):alive sh' l' = alive sh l':=by
  have key:∀ {o:Option (List MV)},o = some us → true = o.isSome:=fun h=>h ▸ rfl
  cases l with
  | em | emD | tmp | tmpD=>exact noS e
  | states=>obtain rfl:=Option.some.inj e;cases l' with | states=>exact key h | _=>rfl
  | events=>obtain rfl:=Option.some.inj e;cases l' with | events=>exact key h | _=>rfl
  | indents=>obtain rfl:=Option.some.inj e;cases l' with | indents=>exact key h | _=>rfl
  | rows=>obtain rfl:=Option.some.inj e;cases l' with | rows=>exact key h | _=>rfl
theorem setList_cont {N:Nm} {w:Wd} (e:setList sh vs l = some sh') (l':Loc) (hl:l' ≠ l) (o:Obj) (h:Cont N w sh l' o):Cont N w sh' l' o:=by
  cases l with
  | em | emD | tmp | tmpD=>exact noS e
  | states=>obtain rfl:=Option.some.inj e;cases l' with | states=>exact absurd rfl hl | _=>exact h
  | events=>obtain rfl:=Option.some.inj e;cases l' with | events=>exact absurd rfl hl | _=>exact h
  | indents=>obtain rfl:=Option.some.inj e;cases l' with | indents=>exact absurd rfl hl | _=>exact h
  | rows=>obtain rfl:=Option.some.inj e;cases l' with | rows=>exact absurd rfl hl | _=>exact h
theorem cont_of_list {N:Nm} {w:Wd} {vals:List Value} {n:Nat} (e:getList sh l = some vs) (hl:vals.length ≤ lim) (hr:VRels N w vs vals):Cont N w sh l (listOf vals.toArray n):=by
  cases l with
  | em | emD | tmp | tmpD=>exact noS e
  | _=>exact ListR.mk e hl hr
end
section
variable {C:Cx} {Φ:Phi} {n:Nat} {w:Wd} {ω:Nat → Option Addr} {P:PMap} {L:FL} {nms:List Str} {st:St} {A:Around} {E:Value → Shared → Prop} {s:Shared}
theorem setLoc (F:Fm C.N w ω P L nms st s.heap) {l:Loc} {a:Addr} {us vs:List MV} {vals:List Value} {k:Nat} {sh':Sto} {h':Heap} (hl:w.ρ l = some a) (h:getList st.sh l = some us) (e:setList st.sh vs l = some sh')
    (hs:Heap.SameBut a s.heap h') (ho:h'.get? a = some (listOf vals.toArray k)) (hn:vals.length ≤ lim) (hr:VRels C.N w vs vals):Fm C.N w ω P L nms { st with sh:=sh' } h':=
  F.setSh hl hs ho (cont_of_list (setList_get e) hn hr) (setList_cont e) (setList_alive h e)
theorem append_ok (F:Fm C.N w ω P L nms st s.heap) {l:Loc} {q:Addr} {x:MV} {b:Value} {vs:List MV} {sh':Sto} {Q:Value → Shared → Prop} (hl:w.ρ l = some q) (hx:VRel C.N w x b) (hv:getList st.sh l = some vs)
    (e:setList st.sh (vs ++ [x]) l = some sh') (hn:vs.length + 1 ≤ lim) (k:GoS C w ω P L nms st .none sh' s Q):wpAny (model C.prog C.wd) A (call (.builtin "list.append") [.ref q,b]) Q E s:=by
  obtain ⟨hl,hq,hr,hn'⟩:=slotL F.sh hv (.loc hl)
  rename_i vals m
  have hlen:=hr.length_eq
  refine append_at hq (fun h' hs ho'=>k w h' s.toks _ (.refl w) (setLoc F hl hv e hs (vals:=vals ++ [b]) (k:=m + 1) (by rw [ho'];simp) ?_ (hr.append (.cons hx .nil))) .none) ?_
  · rw [List.length_append,← hlen];exact hn
  · rw [List.size_toArray,← hlen,sizeLine_lim];exact Nat.le_of_succ_le hn
theorem pop_ok (F:Fm C.N w ω P L nms st s.heap) {l:Loc} {q:Addr} {x:MV} {vs:List MV} {sh':Sto} {Q:Value → Shared → Prop} (hl:w.ρ l = some q) (hv:getList st.sh l = some vs) (hx:vs.getLast? = some x)
    (e:setList st.sh vs.dropLast l = some sh') (k:GoS C w ω P L nms st x sh' s Q):wpAny (model C.prog C.wd) A (call (.builtin "list.pop") [.ref q]) Q E s:=by
  obtain ⟨hl,hq,hr,hn⟩:=slotL F.sh hv (.loc hl)
  rename_i vals m
  have hlen:=hr.length_eq
  rw [List.getLast?_eq_getElem?] at hx
  obtain ⟨b,hb,rb⟩:=hr.get hx
  refine Copied.pop_at hq (y:=b) ?_ (fun h' hs ho'=>k w h' s.toks _ (.refl w) (setLoc F hl hv e hs (vals:=vals.dropLast) (k:=m + 1) ?_ ?_ ?_) rb) ?_
  · rw [List.size_toArray,← hlen];simpa using hb
  · rw [ho'];simp
  · rw [List.length_dropLast];exact Nat.le_trans (Nat.sub_le ..) hn
  · rw [List.dropLast_eq_take,List.dropLast_eq_take,← hlen];exact hr.take _
  · rw [List.size_toArray,sizeLine_lim];exact hn
theorem pop0_ok (F:Fm C.N w ω P L nms st s.heap) {l:Loc} {q:Addr} {x:MV} {vs:List MV} {t:Tok} {sh':Sto} {Q:Value → Shared → Prop} (hl:w.ρ l = some q) (hv:getList st.sh l = some (x :: vs))
    (e:setList st.sh vs l = some sh') (k:GoS C w ω P L nms st x sh' s Q):wpAny (model C.prog C.wd) A (call (.builtin "list.pop") [.ref q,.int 0 t]) Q E s:=by
  obtain ⟨hl,hq,hr,hn⟩:=slotL F.sh hv (.loc hl)
  rename_i m
  obtain ⟨b,bs,rfl,rb,rr⟩:=hr.cons_inv
  refine call_meets PySem.F.slot_list_pop ⟨_,hq,rfl⟩ PySem.F.entry_list_pop (PySem.F.args_list_pop_2 _ _) (PySem.MeetsSeq.list_pop_at q _ m 0 t 0 b (by decide) ?_ (by simp) ?_) ⟨hq,?_⟩
  · rw [← idx_eq];simp [idx]
  · rw [List.size_toArray,sizeLine_lim];exact hn
  · refine k w _ s.toks _ (.refl w) (setLoc F hl hv e (vals:=bs) (k:=m + 1) (Heap.SameBut.update ..) ?_ (Nat.le_of_succ_le hn) rr) rb
    rw [Heap.get?_update_self _ hq (by simp [Obj.mapSeq];rfl)]
    simp [Obj.mapSeq]
theorem parts_le (x y:Str) (hy:y.length ≠ 0):(Str.partsBetween x (Str.occurrences x y 0 x.length (x.length + 1)) y.length).length ≤ x.length + 1:=by
  have h1:=StrLaws.glued_between_self x y (x.length + 1)
  have h2:=PySem.size_glued y (Str.partsBetween x (Str.occurrences x y 0 x.length (x.length + 1)) y.length)
  rw [h1] at h2
  generalize Str.partsBetween x (Str.occurrences x y 0 x.length (x.length + 1)) y.length = ps at h2 ⊢
  have h3:ps.length - 1 ≤ (ps.length - 1) * y.length:=Nat.le_mul_of_pos_right _ (by omega)
  omega
theorem split_push {x y:Str} {t u:Tok} {Q:Value → Shared → Prop} (hy:(y.length == 0) = false) (hsz:x.length ≤ sizeLine)
    (hsz2:(Str.partsBetween x (Str.occurrences x y 0 x.length (x.length + 1)) y.length).length ≤ sizeLine)
    (hq:∀ l tk,l.map (·.1) = Txt.split x y → Q (.ref s.heap.objs.size) { s with heap:=s.heap.push { cls:=.type "list",data:=.seq (strValues l).toArray },toks:=tk }) :
    wpAny (model C.prog C.wd) A (call (.builtin "str.split") [.str x t,.str y u]) Q E s:=by
  cases h1:(decide (x.length < y.length) || decide (Str.strKind x < Str.strKind y))
  · cases hf:(Str.occurrences x y 0 x.length (x.length + 1)).isEmpty
    · refine call_meets PySem.F.slot_str_split (typeIs_str _ _ _) PySem.F.entry_str_split (PySem.F.args_str_split_2 _ _) (meets_str_split_sep x y t u h1 hy hf hsz hsz2) ?_
      show wants Q E _ { s with toks:=_,heap:=s.heap.push { cls:=.type "list",data:=.seq (strsFrom s.toks (Str.partsBetween x (Str.occurrences x y 0 x.length (x.length + 1)) y.length)).toArray } }
      rw [strsFrom_eq]
      exact hq (numbered s.toks _) _ ((numbered_texts _ _).trans ((if_neg (ne_true_of_eq_false h1)).trans (if_neg (ne_true_of_eq_false hf))).symm)
    · exact call_meets PySem.F.slot_str_split (typeIs_str _ _ _) PySem.F.entry_str_split (PySem.F.args_str_split_2 _ _) (meets_str_split_not_found x y t u h1 hy hf)
        (hq [(x,t)] s.toks ((if_neg (ne_true_of_eq_false h1)).trans (if_pos hf)).symm)
  · exact call_meets PySem.F.slot_str_split (typeIs_str _ _ _) PySem.F.entry_str_split (PySem.F.args_str_split_2 _ _) (meets_str_split_cannot_occur x y t u h1)
      (hq [(x,t)] s.toks (if_pos h1).symm)
theorem strs_rels {N:Nm} {w:Wd}:∀ (l:List (Str × Tok)),(∀ p ∈ l,p.1.length ≤ lim) → VRels N w ((l.map (·.1)).map fun y=>.str y.cps.toList) (strValues l)
  | [],_=>.nil
  | (y,t) :: r,h=>by
    refine VRels.cons ?_ (strs_rels r fun p hp=>h p (.tail _ hp))
    have:y = strOf y.cps.toList:=by show y = ⟨y.cps.toList.toArray⟩;simp
    have hy:y.cps.toList.length ≤ lim:=by have:=h _ (.head _);simpa [Str.length] using this
    show VRel N w (.str y.cps.toList) (.str y t)
    conv=>rhs;rw [this]
    exact VRel.str t hy
theorem split_ok (F:Fm C.N w ω P L nms st s.heap) {x y:Tx} {t u:Tok} {Q:Value → Shared → Prop} (hx:x.length + 1 ≤ lim) (hy:y ≠ []) (k:GoS C w ω P L nms st (.lst ((splitX x y).map .str)) st.sh s Q) :
    wpAny (model C.prog C.wd) A (call (.builtin "str.split") [.str (strOf x) t,.str (strOf y) u]) Q E s:=by
  have hy':(strOf y).length ≠ 0:=by rw [strOf_length];intro z;exact hy (List.eq_nil_of_length_eq_zero z)
  have hp:=parts_le (strOf x) (strOf y) hy'
  have hjs:=StrLaws.join_split (strOf x) (strOf y)
  have hxl:=strOf_length x
  refine split_push (by rw [beq_eq_false_iff_ne];exact hy') (by rw [sizeLine_lim];omega) (by rw [sizeLine_lim];omega) fun l tk hl=>?_
  have hlen:l.length ≤ lim:=by
    have:l.length = (Txt.split (strOf x) (strOf y)).length:=by rw [← hl,List.length_map]
    rw [this]
    unfold Txt.split
    split
    · simp;unfold lim;omega
    · split
      · simp;unfold lim;omega
      · omega
  have hel:∀ p ∈ l,p.1.length ≤ lim:=by
    intro p hp'
    have hm:p.1 ∈ Txt.split (strOf x) (strOf y):=by rw [← hl];exact List.mem_map_of_mem hp'
    have key:∀ (sep:Str) (ps:List Str),p.1 ∈ ps → p.1.length ≤ (Str.join sep ps).length:=by
      intro sep ps hm
      rw [← StrLaws.glued_eq_join,PySem.size_glued]
      have:p.1.length ≤ (ps.map (·.length)).sum:=le_sum_mem (List.mem_map_of_mem hm)
      omega
    have:=key (strOf y) _ hm
    rw [hjs] at this
    omega
  obtain ⟨x',F'⟩:=F.addNew (h':=s.heap.push (listOf (strValues l).toArray 0)) (fun b o e=>Heap.get?_push_of_some _ e) (a:=s.heap.objs.size) (Heap.get?_none_of_le (Nat.le_refl _)) (Heap.get?_push_size _ rfl)
  refine k _ _ tk _ x' F' (.lst Wd.add_at ⟨?_,rfl,0,rfl⟩ ?_)
  · simpa [strValues] using hlen
  · have:=strs_rels (N:=C.N) (w:=w.add s.heap.objs.size (listOf (strValues l).toArray 0)) l hel
    rw [hl] at this
    unfold splitX
    rw [List.map_map]
    exact this
theorem sd_of_pairs {P:Params} {kvs:List (Tx × Tx)} (hP:C.wd.params = P):∀ {vs:List (Str × Value)},SdEs kvs vs → ∀ {es:List DictEntry},Pairs (strKind C.prog C.wd) es vs → (∀ e ∈ es,∃ k,(strKind C.prog C.wd).is k e.key = true ∧ e.hash = (strKind C.prog C.wd).hash k) →
    (∀ kv ∈ kvs,kv.1.length ≤ lim) → SdRel P kvs es:=by
  subst hP
  induction kvs with
  | nil=>intro vs h es hp _ _;obtain rfl:=h;cases hp;exact rfl
  | cons p r ih=>
    intro vs h es hp hk hl
    obtain ⟨t,vs',hv,rfl,q⟩:=h
    cases hp with
    | @cons e _ es' _ h1 h2 h3=>
      obtain ⟨t',ht⟩:=Value.isStrOf_shape h1
      obtain ⟨k',hk1,hk2⟩:=hk e (.head _)
      have:k' = strOf p.1:=(strKind C.prog C.wd).inj _ _ _ hk1 h1
      subst this
      obtain ⟨eh,ek,ev⟩:=e
      dsimp only at h2 ht hk2
      subst h2 ht hk2
      exact ⟨_,_,_,hl _ (.head _),hv,rfl,ih q h3 (fun e he=>hk e (.tail _ he)) fun kv hkv=>hl kv (.tail _ hkv)⟩
theorem sd_lens {P:Params} {kvs}:∀ {es},SdRel P kvs es → (∀ kv ∈ kvs,kv.1.length ≤ lim) ∧ es.length = kvs.length:=by
  induction kvs with
  | nil=>intro es h;obtain rfl:=h;exact ⟨fun _ m=>absurd m List.not_mem_nil,rfl⟩
  | cons p r ih=>
    intro es h
    obtain ⟨_,_,es',h1,h2,rfl,h⟩:=h
    obtain ⟨k1,k2⟩:=ih h
    refine ⟨fun kv m=>?_,congrArg (· + 1) k2⟩
    rcases List.mem_cons.mp m with rfl | m
    · exact h1
    · exact k1 kv m
theorem sdEs_keys {kvs:List (Tx × Tx)}:∀ {vs:List (Str × Value)},SdEs kvs vs → vs.map (·.1) = (kvs.map (·.1)).map strOf:=by
  induction kvs with
  | nil=>intro vs h;obtain rfl:=h;rfl
  | cons p r ih=>intro vs h;obtain ⟨_,vs',_,rfl,q⟩:=h;exact congrArg (List.cons _) (ih q)
theorem copy_ok (O:CxOk C) (F:Fm C.N w ω P L nms st s.heap) {kvs:List (Tx × Tx)} {a:Value} {Q:Value → Shared → Prop} (h:SdR C.N w kvs a) (hn:kvs.length ≤ lim) (k:GoS C w ω P L nms st (.sd kvs) st.sh s Q) :
    wpAny (model C.prog C.wd) A (call (.builtin "dict.copy") [a]) Q E s:=by
  cases h with | mk hnd hlo hq hr=>
  have hr':=sd_lens hr
  rw [← O.par] at hr
  obtain ⟨vs,h1,h2,h3⟩:=sd_pairs (prog:=C.prog) hr
  have hnd':(vs.map (·.1)).Nodup:=by rw [sdEs_keys h1];exact List.pairwise_map.mpr (List.Pairwise.imp (fun h z=>h (strOf_inj z)) hnd)
  have ho:=F.sh.frz _ _ hq
  refine call_meetsIn PySem.F.slot_dict_copy ⟨_,ho,rfl⟩ PySem.F.entry_dict_copy (PySem.F.args_dict_copy_1 _) (meets_dict_copy (strKind C.prog C.wd) _ hlo) ⟨vs,⟨_,_,_,ho,⟨rfl,rfl,rfl⟩,rfl,h3,h2,hnd'⟩,?_,fun h' hd _ hkeep=>?_⟩
  · rw [← h2.length,hr'.2,sizeLine_lim];exact hn
  · obtain ⟨o,es,ep,g1,g2,g3,g4,g5,_⟩:=hd
    obtain ⟨oc,od,odat,osl⟩:=o
    obtain ⟨q1,q2,q3⟩:=g2
    dsimp only at q1 q2 q3 g3
    subst q1 q2 q3 g3
    obtain ⟨x',F'⟩:=F.addNew hkeep (Heap.get?_none_of_le (Nat.le_refl _)) g1
    have hnew:(s.heap.objs.size == sysModules) = false:=beq_eq_false_iff_ne.mpr (Nat.ne_of_gt (modules_low (O.topIn F.sh).nolimit))
    exact k _ h' s.toks _ x' F' (SdR.mk hnd hnew (es:=es.toList) (n:=ep) (by rw [Array.toArray_toList];exact Wd.add_at) (sd_of_pairs (P:=C.N.P) O.par h1 g5 (fun e he=>g4 e (Array.mem_toList_iff.mp he)) hr'.1))
theorem b_append (F:Fm C.N w ω P L nms st s.heap) {ov:MV} {oa:Value} {pos:List MV} {pvals:List Value} {r:MV × Sto} {Q:Value → Shared → Prop} (h:VRel C.N w ov oa) (hp:VRels C.N w pos pvals) (hok:okAppend st.sh ov pos = true)
    (e:bAppend st.sh ov pos = some r) (hr:rl r.2 ≤ lim) (k:GoS C w ω P L nms st r.1 r.2 s Q):wpAny (model C.prog C.wd) A (call (.builtin "list.append") (oa :: pvals) []) Q E s:=by
  refine bindE e fun l h1 e=>bindE e fun x h2 e=>bindE e fun vs hv e=>mapE e fun sh1 h3 e=>?_
  obtain rfl:=e
  obtain ⟨q,hρ,rfl⟩:=(asLoc_eq h1 ▸ h:VRel C.N w (.loc l) oa).loc_inv
  obtain ⟨b,rfl,hx⟩:=(one_eq h2 ▸ hp:VRels C.N w [x] pvals).one_inv
  refine append_ok F hρ hx hv h3 ?_ k
  have hk:((bif isRows l then none else (getList st.sh l).map fun vs=>leN (vs.length + 1) lim).getD true) = true:=by
    have:=hok
    unfold okAppend at this
    rw [h1] at this;exact this
  cases hl:isRows l with
  | true=>
    cases l with
    | rows=>
      obtain rfl:=Option.some.inj h3
      have h2:(vs ++ [x]).length ≤ lim:=hr
      rw [List.length_append] at h2;exact h2
    | _=>exact noB hl
  | false=>rw [hl,hv] at hk;exact leN_le hk
theorem b_pop (F:Fm C.N w ω P L nms st s.heap) {ov:MV} {oa:Value} {pos:List MV} {pvals:List Value} {r:MV × Sto} {Q:Value → Shared → Prop} (h:VRel C.N w ov oa) (hp:VRels C.N w pos pvals)
    (e:bPop st.sh ov pos = some r) (k:GoS C w ω P L nms st r.1 r.2 s Q):wpAny (model C.prog C.wd) A (call (.builtin "list.pop") (oa :: pvals) []) Q E s:=by
  refine bindE e fun l h1 e=>ifE e (fun _ e=>noS e) fun _ e=>bindE e fun vs hv e=>ifE e (fun he e=>bindE e fun x hx e=>mapE e fun sh1 h3 e=>?_) fun _ e=>bindE e fun i h2 e=>bindE e fun j h4 e=>ifE e (fun h5 e=>?_) fun _ e=>noS e
  · obtain rfl:=e
    obtain ⟨q,hρ,rfl⟩:=(asLoc_eq h1 ▸ h:VRel C.N w (.loc l) oa).loc_inv
    obtain rfl:=List.isEmpty_iff.mp he
    obtain rfl:=hp
    exact pop_ok F hρ hv hx h3 k
  · obtain ⟨q,hρ,rfl⟩:=(asLoc_eq h1 ▸ h:VRel C.N w (.loc l) oa).loc_inv
    obtain ⟨b,rfl,hx⟩:=(one_eq h2 ▸ hp:VRels C.N w [i] pvals).one_inv
    obtain ⟨t,rfl⟩:=(asInt_eq h4 ▸ hx:VRel C.N w (.int j) b).int_inv
    obtain rfl:j = 0:=of_decide_eq_true h5
    cases vs with
    | nil=>exact noS e
    | cons x vs=>
      obtain ⟨sh1,h3,rfl⟩:=map_some e
      exact pop0_ok F hρ hv h3 k
theorem b_join (F:Fm C.N w ω P L nms st s.heap) {ov:MV} {oa:Value} {pos:List MV} {pvals:List Value} {r:MV × Sto} {Q:Value → Shared → Prop} (h:VRel C.N w ov oa) (hp:VRels C.N w pos pvals) (hok:okJoin st.sh ov pos = true)
    (e:bJoin st.sh ov pos = some r) (k:GoS C w ω P L nms st r.1 r.2 s Q):wpAny (model C.prog C.wd) A (call (.builtin "str.join") (oa :: pvals) []) Q E s:=by
  refine bindE e fun x h1 e=>bindE e fun l h2 e=>bindE e fun vs h3 e=>mapE e fun xs h4 e=>?_
  obtain rfl:=e
  have hk:leN ((xs.map List.length).sum + xs.length * x.length) lim = true:=by
    unfold okJoin at hok
    rw [h1,Option.bind_some,h2,Option.bind_some,h3,Option.bind_some,h4] at hok
    exact hok
  have hk:=leN_le hk
  obtain ⟨_,t,rfl⟩:=(asStr_eq h1 ▸ h:VRel C.N w (.str x) oa).str_inv
  obtain ⟨b,rfl,hx⟩:=(one_eq h2 ▸ hp:VRels C.N w [l] pvals).one_inv
  obtain ⟨hl,hr,_⟩:=items_at F.sh h3 hx
  have hS:=strsOf_rel hr h4
  refine join_list hl (by simpa using hS) ?_ fun t' tk=>?_
  · rw [List.map_map,List.length_map,strOf_length]
    rw [show (xs.map ((fun x=>x.length) ∘ strOf)) = xs.map List.length from List.map_congr_left fun x _=>strOf_length x]
    exact hk
  · show Q (.str (Str.glued _ _) t') _
    rw [StrLaws.glued_eq_join,join_strs]
    exact k w s.heap tk _ (.refl w) F (.str t' (Nat.le_trans (joinX_len _ _) hk))
theorem methB_call (O:CxOk C) (F:Fm C.N w ω P L nms st s.heap) {ov:MV} {oa:Value} {a:Nat} {pos:List MV} {pvals:List Value} {r:MV × Sto} {Q:Value → Shared → Prop} (h:VRel C.N w ov oa) (hp:VRels C.N w pos pvals)
    (hok:methOk st.sh ov a pos = true) (e:methB st.sh ov a pos = some r) (hr:rl r.2 ≤ lim) (k:GoS C w ω P L nms st r.1 r.2 s Q):wpAny (model C.prog C.wd) A (call (.builtin (bid a)) (oa :: pvals) []) Q E s:=by
  obtain ⟨f,hf,e⟩:=bind_some e
  match a,hf with
  | 0,hf=>obtain rfl:=Option.some.inj hf;exact b_append F h hp hok e hr k
  | 1,hf=>obtain rfl:=Option.some.inj hf;exact b_pop F h hp e k
  | 2,hf=>
    obtain rfl:=Option.some.inj hf
    refine bindE e fun p h1 e=>?_
    obtain ⟨b,rfl,hx⟩:=(one_eq h1 ▸ hp:VRels C.N w [p] pvals).one_inv
    cases str2_ok h hx e with | mk x y t u _ _=>
    show wpAny _ _ (call (.builtin "str.startswith") _ _) _ _ _
    refine call_gives PySem.F.slot_str_startswith (typeIs_str _ _ _) PySem.F.entry_str_startswith (PySem.F.args_str_startswith_2 _ _) (PySem.gives_str_startswith _ _ _ _) ?_
    show Q (.bool (Txt.startswith (strOf _) (strOf _))) s
    rw [startswith_eq]
    exact k w s.heap s.toks _ (.refl w) F (.bool _)
  | 3,hf=>obtain rfl:=Option.some.inj hf;exact b_join F h hp hok e k
  | 4,hf=>
    obtain rfl:=Option.some.inj hf
    refine bindE e fun p h1 e=>bindE e fun x h2 e=>bindE e fun y h3 e=>ifE e (fun _ e=>noS e) fun hne e=>?_
    have hk:leN (x.length + 1) lim = true:=by
      have:((asStr ov).map fun s=>leN (s.length + 1) lim).getD true = true:=hok
      rw [h2] at this;exact this
    obtain ⟨_,t,rfl⟩:=(asStr_eq h2 ▸ h:VRel C.N w (.str x) oa).str_inv
    obtain ⟨b,rfl,hx⟩:=(one_eq h1 ▸ hp:VRels C.N w [p] pvals).one_inv
    obtain ⟨_,u,rfl⟩:=(asStr_eq h3 ▸ hx:VRel C.N w (.str y) b).str_inv
    obtain rfl:=Option.some.inj e
    exact split_ok F (leN_le hk) (fun z=>by rw [z] at hne;exact noB hne.symm) k
  | 5,hf=>
    obtain rfl:=Option.some.inj hf
    refine ifE e (fun he e=>mapE e fun kvs h1 e=>?_) fun _ e=>noS e
    obtain rfl:=e
    have hk:leN kvs.length lim = true:=by
      have:((asSd ov).map fun s=>leN s.length lim).getD true = true:=hok
      rw [h1] at this;exact this
    obtain rfl:=List.isEmpty_iff.mp he
    obtain rfl:=hp
    exact copy_ok O F (asSd_eq h1 ▸ h:VRel C.N w (.sd kvs) oa) (leN_le hk) k
  | n + 6,hf=>exact noS hf
end
open PySem PySem.W PyProof.Rows PySem.Calls PySem.Builtin
section
variable {M:Model} {A:Around} {E:Value → Shared → Prop} {s:Shared}
theorem evalArgs_ok {f:Value} {args:List (Bool × Sem Value)} {kws:List (Option Str × Sem Value)} {Q:Args → Shared → Prop} (hp:args.all (!·.1) = true) (hall:kws.all (·.1.isSome) = true)
    (h:wpAny M A (spliced args) (fun vs s₁=>wpAny M A (evalAll (kws.map (·.2))) (fun ks s₂=>Q ⟨vs,(kws.filterMap (·.1)).zip ks⟩ s₂) E s₁) E s):wpAny M A (evalArgs f true args kws) Q E s:=by
  cases args with
  | nil=>
    unfold evalArgs
    show wpAny M A (spliced [] >>= _) Q E s
    refine wpAny_bind (wpAny_mono h (fun vs s₁ h₁=>?_) fun _ _ x=>x)
    refine wpAny_bind (wpAny_pure ?_)
    refine wpAny_holding ?_
    simp only [hall,if_true]
    refine wpAny_bind (wpAny_mono h₁ (fun ks s₂ h₂=>?_) fun _ _ x=>x)
    exact wpAny_bind (wpAny_pure (wpAny_pure h₂))
  | cons a r=>
    obtain ⟨b,x⟩:=a
    have hb:b = false:=by
      have:=(List.all_eq_true.mp hp) (b,x) (.head _)
      simpa using this
    subst hb
    exact evalArgs_kw hall h
noncomputable def KeepAt (M:Model) (f:Value) (h:Heap):Prop:=∃ k,(k = Keeper.frame ∨ k = Keeper.machine ∨ k = Keeper.boundFrame) ∧ Looks M h (keeperOf f) k
theorem callWith_ok {pos:Pos} {f:Value} {first:List Value} {args:List (Bool × Sem Value)} {kws:List (Option Str × Sem Value)} {Q:Value → Shared → Prop} (hp:args.all (!·.1) = true) (hall:kws.all (·.1.isSome) = true)
    (h:wpAny M A (spliced args) (fun vs s₁=>wpAny M A (evalAll (kws.map (·.2))) (fun ks s₂=>KeepAt M f s₂.heap ∧ wpAny M A (call f (first ++ vs) ((kws.filterMap (·.1)).zip ks)) Q E s₂) E s₁) E s) :
    wpAny M A (callWith pos f first args kws) Q E s:=by
  refine callWith_of (P:=KeepAt M f) ?_ (fun _ x=>x) (evalArgs_ok hp hall h)
  rw [Bool.or_eq_false_iff]
  constructor
  · rw [List.any_eq_false]
    intro a ha
    have:=(List.all_eq_true.mp hp) a ha
    simpa using this
  · rw [List.any_eq_false]
    intro a ha
    have:=(List.all_eq_true.mp hall) a ha
    rw [← Option.not_isSome,this];decide
end
theorem eqT_eq:∀ {a b:Tx},eqT a b = true → a = b
  | [],[],_=>rfl
  | a :: r,b :: q,h=>by rw [Nat.eq_of_beq_eq_true (andL (h:(Nat.beq a b && eqT r q) = true)),eqT_eq (andR (h:(Nat.beq a b && eqT r q) = true))]
  | [],_ :: _,h=>by cases h
  | _ :: _,[],h=>by cases h
theorem eqT_refl:∀ (a:Tx),eqT a a = true
  | []=>rfl
  | a :: r=>by show (Nat.beq a a && eqT r r) = true;rw [eqT_refl r,Nat.beq_refl];rfl
theorem eqS_eq {x y:Str} (h:eqS x y = true):x = y:=by
  have:=eqT_eq h
  obtain ⟨⟨a⟩⟩:=x
  obtain ⟨⟨b⟩⟩:=y
  exact congrArg (fun l=>Str.mk (Array.mk l)) this
theorem eqS_ne {x y:Str} (h:eqS x y = false):x ≠ y:=by
  rintro rfl
  exact Bool.noConfusion ((eqT_refl _).symm.trans h)
theorem eqS_beq {x y:Str}:(x == y) = eqS x y:=by
  cases h:eqS x y with
  | true=>rw [eqS_eq h];exact beq_self_eq_true _
  | false=>exact beq_eq_false_iff_ne.mpr (eqS_ne h)
theorem lookL_eq {x:Str} {l:List (Str × NameKind)}:l.lookup x = lookL x l:=by
  induction l with
  | nil=>rfl
  | cons p r ih=>
    rw [List.lookup_cons,eqS_beq]
    show _ = bif eqS x p.1 then some p.2 else lookL x r
    cases eqS x p.1 with
    | true=>rfl
    | false=>exact ih
theorem isK_eq {k:NameKind} {o:Option NameKind} (hk:∀ j:NameKind,j.ctorIdx = k.ctorIdx → j = k) (h:isK k o = true):o = some k:=by
  cases o with
  | none=>exact noB h
  | some j=>exact congrArg some (hk j (Nat.eq_of_beq_eq_true h))
theorem isLoc_eq {o:Option NameKind} (h:isLoc o = true):o = some .local:=isK_eq (fun j e=>by cases j <;> first | rfl | cases e) h
theorem isGlo_eq {o:Option NameKind} (h:isGlo o = true):o = some .globalImplicit:=isK_eq (fun j e=>by cases j <;> first | rfl | cases e) h
theorem lookLoc {x:Str} {l:List (Str × NameKind)} (h:isLoc (lookL x l) = true):l.lookup x = some .local:=lookL_eq.trans (isLoc_eq h)
theorem lookGlo {x:Str} {l:List (Str × NameKind)} (h:isGlo (lookL x l) = true):l.lookup x = some .globalImplicit:=lookL_eq.trans (isGlo_eq h)
theorem plainN_eq {x:Str} (h:plainN x = true):isPlainName x = true:=by
  unfold isPlainName
  rw [eqS_beq,eqS_beq];exact h
theorem ltN_lt {a b:Nat} (h:ltN a b = true):a < b:=Nat.le_of_ble_eq_true h
theorem nameAt {f:Fc} {i:Nat} (h:locB f i = true):f.nms[i]? = some (nmAt f i):=by
  unfold nmAt
  rw [List.getElem?_eq_getElem (ltN_lt (andL h))];rfl
theorem nameLoc {f:Fc} {i:Nat} (h:locB f i = true):f.sc.names.lookup (nmAt f i) = some .local:=lookLoc (andR h)
theorem ok_plain {C:Cx} {f:Fc} {e:ME} {t:Expr} (h:okE C f e t = true):plainEx (toE C f e t) = true:=by cases e <;> first | rfl | exact h | (cases h;done)
theorem starEach_one {ex:Expr} {rest:List Expr} {env:Env} (h:plainEx ex = true):starEach (ex :: rest) env = (false,eval ex env) :: starEach rest env:=by
  cases ex <;> first | rfl | (cases h;done)
theorem starEs {C:Cx} {f:Fc} {env:Env}:∀ {es:MEs} {ts:List Expr},okEs C f es ts = true → starEach (toEs C f es ts) env = (toEs C f es ts).map fun ex=>(false,eval ex env)
  | .nil,_,_=>rfl
  | .cons e r,ts,h=>(starEach_one (ok_plain (andL h))).trans (congrArg (List.cons _) (starEs (andR h)))
theorem argsEs {C:Cx} {f:Fc} {env:Env} {pos:Pos} {es:MEs} {ts:List Expr} (h:okEs C f es ts = true):backTo pos (starEach (toEs C f es ts) env) = (toEs C f es ts).map fun ex=>(false,eval ex env):=by
  rw [starEs h];unfold backTo;rw [List.map_map];rfl
theorem args_all {env:Env} {exs:List Expr}:(exs.map fun ex=>(false,eval ex env)).all (!·.1) = true:=by rw [List.all_map];exact List.all_eq_true.mpr fun _ _=>rfl
theorem kwsKs {C:Cx} {f:Fc} {env:Env} {pos:Pos}:∀ {ks:MKs} {ts:List Keyword},(backToKw pos (keywordEach (toKs C f ks ts) env)).all (·.1.isSome) = true
  | .nil,_=>rfl
  | .cons n e r,ts=>Bool.and_eq_true_iff.mpr ⟨rfl,kwsKs (ks:=r)⟩
theorem lenEs {C:Cx} {f:Fc}:∀ (es:MEs) (ts:List Expr),(toEs C f es ts).length = mEs es
  | .nil,_=>rfl
  | .cons _ r,ts=>congrArg (· + 1) (lenEs r (tlL ts))
theorem lenKs {C:Cx} {f:Fc}:∀ (ks:MKs) (ts:List Keyword),(toKs C f ks ts).length = mKs ks
  | .nil,_=>rfl
  | .cons _ _ r,ts=>congrArg (· + 1) (lenKs r (tlL ts))
section
variable {C:Cx} {Φ:Phi} {n:Nat} {w:Wd} {ω:Nat → Option Addr} {P:PMap} {L:FL} {nms:List Str} {st:St} {A:Around} {E:Value → Shared → Prop} {s:Shared}
theorem keep_fn (O:CxOk C) (B:CaOk C) {w:Wd} {P:PMap} {sh:Sto} {h:Heap} {M:Model} (S:Sh C.N w P sh h) {f:Nat} (hb:(C.N.T.body f).isSome = true):KeepAt M (.ref (C.N.fna f)) h:=
  keeps_K (B.keepF f hb).1 h (O.In S)
theorem keep_cls (O:CxOk C) (B:CaOk C) {w:Wd} {P:PMap} {sh:Sto} {h:Heap} {M:Model} (S:Sh C.N w P sh h) {c:Nat} (hc:(C.N.T.clsInit c).isSome = true):KeepAt M (.ref (C.N.cla c)) h:=
  keeps_K (B.keepC c hc) h (O.In S)
theorem keep_meth (O:CxOk C) (B:CaOk C) {w:Wd} {P:PMap} {sh:Sto} {h:Heap} {M:Model} (S:Sh C.N w P sh h) {f:Nat} {q:Addr} {a:Addr} (hb:(C.N.T.body f).isSome = true) (hq:w.G q = some (metO C.N f a)):KeepAt M (.ref q) h:=
  keeps_M (B.keepF f hb).2 h ⟨S.frz _ _ hq,O.In S⟩
theorem keep_bi {M:Model} {id:String} {h:Heap}:KeepAt M (.builtin id) h:=⟨.machine,.inr (.inl rfl),Looks.of_pure rfl⟩
theorem shadow_of {od:Obj} {m:Str → Option Value} {name:Str} (h:isNsO od m) (e:m name = none):shadowIn (some od) name = some false:=by
  show (lookIn name od).map (·.isSome) = some false
  rw [lookIn_of_ns h,e];rfl
theorem isEm_eq {o:MV} (h:isEm o = true):o = .loc .em:=by
  cases o with
  | loc l=>cases l with
    | em=>rfl
    | _=>exact noB h
  | _=>exact noB h
theorem get_held {sh:Sto} {E:List MV} {m i:Nat} {u:MV} {p:Nat × Loc} (hE:sh.em = some E) (hi:fieldIx (C.N.T.clsFields C.N.T.emC) m = some i) (hu:nth E i = some u) (hp:asMeth u = some p):getA C.N.T sh (.loc .em) m = some (.meth p.1 p.2):=by
  show (sh.em.map fun E=>(C.N.T.emC,emAt C.N.T E)).bind _ = _
  rw [hE]
  show orO ((fieldIx (C.N.T.clsFields C.N.T.emC) m).bind (nth E)) _ = _
  rw [hi,Option.bind_some,hu,asMeth_eq hp];rfl
theorem getM_cls (O:CxOk C) (F:Fm C.N w ω P L nms st s.heap) {x dx:Addr} {od:Obj} {mm:Str → Option Value} {c m f:Nat} {pl:Sem Bool} {Q:Value × List Value → Shared → Prop} (K:ClsOk C c) (hx:s.heap.get? x = some (instObj (C.N.cla c) dx)) (hd:s.heap.get? dx = some od) (hms:isNsO od mm)
    (hm:m < C.N.natr) (hf:C.N.T.clsMeth c m = some f) (hn:fieldIx (C.N.T.clsFields c) m = none → mm (C.N.nm m) = none) (k:(C.N.T.body f).isSome = true → Q (.ref (C.N.fna f),[.ref x]) s):wpAny (model C.prog C.wd) A (getMethod (.ref x) (C.N.nm m) pl) Q E s:=by
  obtain ⟨z,a1,a2,a3,a4,a5,a6⟩:=K.mth _ _ hm hf
  exact method_fn (O.In F.sh) (instAt_of (N:=C.N) hx hd) K.ga K.gk a1 (beq_iff_eq.mp a2) (shadow_of hms (hn z)) (k a6)
inductive CalAt (C:Cx) (w:Wd) (ov:MV) (oa:Value) (a:Nat):Cal → Value × List Value → Prop
  | fn {f:Nat} (hb:(C.N.T.body f).isSome = true):CalAt C w ov oa a (some (f,[ov])) (.ref (C.N.fna f),[oa])
  | held {f:Nat} {l:Loc} {x q:Addr} (hb:(C.N.T.body f).isSome = true) (hl:w.ρ l = some x) (hq:w.G q = some (metO C.N f x)):CalAt C w ov oa a (some (f,[.loc l])) (.ref q,[])
  | bi:CalAt C w ov oa a none (.builtin (bid a),[oa])
theorem getM_em (O:CxOk C) (F:Fm C.N w ω P L nms st s.heap) {x:Addr} {m:Nat} {c:Cal} {pl:Sem Bool} {Q:Value × List Value → Shared → Prop} (hl:w.ρ .em = some x) (hm:m < C.N.natr) {E':List MV} (hE':st.sh.em = some E')
    (e:Option.casesOn (motive:=fun _=>Option Cal) (fieldIx (C.N.T.clsFields C.N.T.emC) m) ((C.N.T.clsMeth C.N.T.emC m).map fun f=>some (f,[.loc .em])) (fun i=>(nth E' i).bind fun v=>(asMeth v).map fun p=>some (p.1,[.loc p.2])) = some c)
    (k:∀ w' ω' h' tk r,w.Ext w' → Fm C.N w' ω' P L nms st h' → CalAt C w' (.loc .em) (.ref x) m c r → Q r { s with heap:=h',toks:=tk }):wpAny (model C.prog C.wd) A (getMethod (.ref x) (C.N.nm m) pl) Q E s:=by
  obtain ⟨o,hx,d,hd,rfl⟩:=F.sh.cont _ _ hl
  obtain ⟨od,hdx,E0,hE0,mm,hms,hfl⟩:=F.sh.cont _ _ hd
  cases hi:fieldIx (C.N.T.clsFields C.N.T.emC) m with
  | some i=>
    rw [hi] at e
    refine bindE e fun u hu e=>mapE e fun p hp e=>?_
    exact method_usual (O.In F.sh) (instAt_of (N:=C.N) hx hdx) (O.cls _ O.em).ga (O.cls _ O.em).gk ((O.cls _ O.em).fld m i hm hi) rfl (getA_ok O F (.loc hl) (get_held hE' hi hu hp) hm fun w' ω' h' tk a x F' hv=>by
      cases (hv:MethR _ w' _ _ a) with | mk hb hl' hq=>exact k w' ω' h' tk _ x F' (e ▸ .held hb hl' hq))
  | none=>
    rw [hi] at e
    refine mapE e fun f hf e=>getM_cls O F (O.cls _ O.em) hx hdx hms.ns hm hf (fun z=>?_) fun b=>k w ω s.heap s.toks _ (.refl w) F (e ▸ .fn b)
    have:=hfl m hm
    unfold emAt at this
    rw [z] at this;exact this
theorem getM_ok (O:CxOk C) (N:NmOk C) (F:Fm C.N w ω P L nms st s.heap) {ov:MV} {oa:Value} {m:Nat} {c:Cal} {pl:Sem Bool} {Q:Value × List Value → Shared → Prop} (h:VRel C.N w ov oa) (hm:m < C.N.natr) (e:resolve C.N.T st.sh ov m = some c)
    (k:∀ w' ω' h' tk r,w.Ext w' → Fm C.N w' ω' P L nms st h' → CalAt C w' ov oa m c r → Q r { s with heap:=h',toks:=tk }):wpAny (model C.prog C.wd) A (getMethod oa (C.N.nm m) pl) Q E s:=by
  refine ifE e (fun he e=>bindE e fun E' hE' e=>?_) fun _ e=>?_
  · obtain rfl:=isEm_eq he
    obtain ⟨x,hl,rfl⟩:=h.loc_inv
    exact getM_em O F hl hm hE' (by assumption) k
  · cases hp:asInst ov with
    | some p=>
      rw [hp] at e
      refine mapE e fun f hf e=>?_
      obtain ⟨vals,hr,h⟩:=VRel.inst_eq.mp (asInst_eq hp ▸ h)
      cases h with | mk hc hq hd hms hfl=>
      exact getM_cls O F (O.cls _ hc) (F.sh.frz _ _ hq) (F.sh.frz _ _ hd) hms hm hf (fun z=>by rw [hfl m hm,z];rfl) fun b=>k w ω s.heap s.toks _ (.refl w) F (e ▸ .fn b)
    | none=>
      rw [hp] at e
      refine methB_get N F h (ifT e).1 (k w ω s.heap s.toks _ (.refl w) F (Option.some.inj (ifT e).2 ▸ .bi))
end
open PySem PySem.W PyProof.Rows PySem.Calls PySem.Builtin
theorem alive_eq {sh:Sto} {l:Loc} (hl:isListL l = true):alive sh l = (getList sh l).isSome:=by
  cases l with
  | em | emD | tmp | tmpD=>exact noB hl
  | _=>rfl
theorem addList_mono {st st':St} {l:Loc} {vs:List MV} {v:MV} (e:addList st l vs = some (v,st')):rl st.sh ≤ rl st'.sh:=by
  obtain ⟨h0,e⟩:=ifT e
  obtain ⟨sh,h1,e⟩:=map_some e
  have:rl st.sh ≤ rl sh:=by
    cases l with
    | em | emD | tmp | tmpD=>exact noS h1
    | rows=>
      show (st.sh.rows.map List.length).getD 0 ≤ _
      rw [show st.sh.rows = none from Option.isNone_iff_eq_none.mp h0]
      exact Nat.zero_le _
    | _=>obtain rfl:=Option.some.inj h1;exact Nat.le_refl _
  exact (congrArg (fun p:MV × St=>rl p.2.sh) e) ▸ this
noncomputable def GName (C:Cx) (x:Str) (a:Value):Prop:=nsIn C.K mainGlobals x = some (some a) ∨ (nsIn C.K mainGlobals x = some none ∧ bootBuiltins x = some a ∧ x ≠ "__name__")
structure GvOk (C:Cx):Prop where
  at_:∀ i v,C.N.T.gval i = some v → ∃ a,GName C (C.gnm i) a ∧ ∀ w:Wd,(∀ a o,C.N.h₀.get? a = some o → w.G a = some o) → VRel C.N w v a
  fn:∀ i f,C.N.T.gval i = some (.fn f) → (C.N.T.body f).isSome = true
  cls:∀ i c,C.N.T.gval i = some (.cls c) → (C.N.T.clsInit c).isSome = true
  bi:∀ i b,C.N.T.gval i = some (.bi b) → ∃ id,C.N.bin b = .builtin id
  oth:∀ i f l,C.N.T.gval i ≠ some (.meth f l)
structure FcOk (f:Fc):Prop where
  kind:f.sc.kind = .function
  nd:f.nms.Nodup
structure Snd (C:Cx) (Φ:Phi) (n:Nat):Prop where
  O:CxOk C
  B:CaOk C
  N:NmOk C
  H:PhiOk C Φ n
  HI:InitOk C.N.T Φ
  mono:PhiMono Φ
  gv:GvOk C
section
variable {C:Cx} {Φ:Phi} {n:Nat} {f:Fc} {w:Wd} {ω:Nat → Option Addr} {P:PMap} {L:FL} {fa:Addr} {st:St} {A:Around} {E:Value → Shared → Prop} {s:Shared} {q:Str} {cd:Value}
theorem notT' {b:Bool} (h:(!b) = true):b = false:=by
  cases b with
  | false=>rfl
  | true=>exact noB h
theorem Go.cast {C:Cx} {w:Wd} {P:PMap} {L:FL} {nms:List Str} {st st':St} {v v':MV} {s:Shared} {Q:Value → Shared → Prop} (e:(v,st) = (v',st')) (k:Go C w P L nms st' v' s Q):Go C w P L nms st v s Q:=by cases e;exact k
theorem load_v (fo:FcOk f) {i:Nat} {x:Str} (hx:f.nms[i]? = some x) (hl:f.sc.names.lookup x = some .local) {v:MV} {st':St} {Q:Value → Shared → Prop} (F:Fm C.N w ω P L f.nms st s.heap)
    (e:getVar st i = some (v,st')) (k:Go C w P L f.nms st' v s Q):wpAny (model C.prog C.wd) A (loadName (envOf q f.sc L.a fa cd) x) Q E s:=by
  refine bindE e fun c hv e=>?_
  have hc:=F.vs i x c hx ((nth_eq _ _).symm.trans hv)
  cases c with
  | unset=>exact noS e
  | val u=>
    obtain ⟨a,hmx,r⟩:=hc
    have e:=Option.some.inj e
    exact wpAny_loadName_local fo.kind hl F.ns hmx (Go.cast e k w ω s.heap s.toks _ (.refl w) F r)
  | own vs=>
    have e:=Option.some.inj e
    generalize hmx:L.m x = o at hc
    cases (hc:OwnR C.N w s.heap (ω i) vs o) with | mk hl' ha ho r=>
    obtain ⟨x1,V,F'⟩:=F.freeze ha hl' r ho (fun y hy=>by rw [← Option.some.inj (hx.symm.trans hy)];exact hmx)
    exact wpAny_loadName_local fo.kind hl F.ns hmx (Go.cast e k _ _ s.heap s.toks _ x1 F' V)
theorem name_v (fo:FcOk f) {i:Nat} {x:Str} {pos:Pos} (hx:f.nms[i]? = some x) (hl:f.sc.names.lookup x = some .local) (hp:isPlainName x = true) {v:MV} {st':St} {Q:Value → Shared → Prop} (F:Fm C.N w ω P L f.nms st s.heap)
    (e:getVar st i = some (v,st')) (k:Go C w P L f.nms st' v s Q):wpAny (model C.prog C.wd) A (eval (.Name x pos) (envOf q f.sc L.a fa cd)) Q E s:=
  wpAny_Name (load_v fo hx hl F e k) (notT' (andL (hp:(_ && _) = true)))
theorem name_g (D:Snd C Φ n) (fo:FcOk f) {i:Nat} {x:Str} {pos:Pos} (hx:C.gnm i = x) (hl:f.sc.names.lookup x = some .globalImplicit) (hp:isPlainName x = true) {v:MV} {Q:Value → Shared → Prop} (F:Fm C.N w ω P L f.nms st s.heap)
    (e:C.N.T.gval i = some v) (k:Go C w P L f.nms st v s Q):wpAny (model C.prog C.wd) A (eval (.Name x pos) (envOf q f.sc L.a fa cd)) Q E s:=by
  have hd:(x == ("__debug__":Str)) = false:=by
    have:=(Bool.and_eq_true_iff.mp hp).1
    simpa using this
  obtain ⟨a,hg,hr⟩:=D.gv.at_ i v e
  have T:=D.O.topIn F.sh
  have X:=D.O.In F.sh
  have fin:Q a s:=k w ω s.heap s.toks a (.refl w) F (hr w F.sh.base)
  subst hx
  refine Name_function_global fo.kind hl ?_ hd
  rcases hg with hg | ⟨h1,h2,h3⟩
  · exact loadGlobal_global (env:=envOf q f.sc L.a fa cd) T.g (mg_of X T.g hg) fin
  · exact loadGlobal_builtin (env:=envOf q f.sc L.a fa cd) T.g (mg_none_of X T.g h1) T.b ((T.builtins _ h3).trans h2) fin
theorem base_ok {e:ME} {t:Expr} {attr:Str} {env:Env} {whole:Sem Value} {Q:Value → Shared → Prop} (ok:okE C f e t = true) (hd:e ≠ .dead) (h:wpAny (model C.prog C.wd) A whole Q E s):wpAny (model C.prog C.wd) A (attributeBase (toE C f e t) attr env whole) Q E s:=by
  cases e with
  | dead=>exact absurd rfl hd
  | abs=>exact noB ok
  | call g as ks=>
    cases as with
    | cons _ _=>exact h
    | nil=>cases ks with
      | cons _ _ _=>exact h
      | nil=>
        show wpAny _ A (if _ then whole else _) Q E s
        rw [show (C.gnm g != ("super":Str)) = true from andR (plainN_eq (andL (andR ok)):(_ && !(C.gnm g == ("super":Str))) = true)]
        exact h
  | _=>exact h
theorem lists_add {l b:Addr} {vs ws:List Value} {Q:Value → Shared → Prop} (hl:s.heap.IsList l vs.toArray) (hb:s.heap.IsList b ws.toArray)
    (h:Q (.ref s.heap.objs.size) { s with heap:=s.heap.push (listOf (vs ++ ws).toArray 0) })
    (hsz:vs.length + ws.length ≤ sizeLine) :
    wpAny (model C.prog C.wd) A (binaryOp .Add (.ref l) (.ref b)) Q E s:=by
  obtain ⟨⟨cls,dd,data,sl⟩,ho,hc,n,hd⟩:=id hl
  obtain ⟨⟨cls2,dd2,data2,sl2⟩,ho2,hc2,n2,hd2⟩:=id hb
  simp only at hc hd hc2 hd2
  subst hc hd hc2 hd2
  have e:vs.toArray ++ ws.toArray = (vs ++ ws).toArray:=by simp
  refine concat_meets ⟨_,ho,rfl⟩ ⟨_,ho2,rfl⟩ noFill_list_add seq_list_add PySem.F.slot_list_add PySem.F.entry_list_add (PySem.F.args_list_add_2 _ _) (list_addW l b vs.toArray ws.toArray n n2 dd dd2 sl sl2 (by simpa using hsz)) ⟨ho,ho2,?_⟩
  rw [e]
  exact h
theorem push_list (F:Fm C.N w ω P L f.nms st s.heap) {vs:List MV} {vals:List Value} (hn:vals.length ≤ lim) (hr:VRels C.N w vs vals) {Q:Value → Shared → Prop} (k:Go C w P L f.nms st (.lst vs) s Q) :
    ∀ tk,Q (.ref s.heap.objs.size) { s with heap:=s.heap.push (listOf vals.toArray 0),toks:=tk }:=fun tk=>by
  obtain ⟨x',F'⟩:=F.addNew (h':=s.heap.push (listOf vals.toArray 0)) (fun b o e=>Heap.get?_push_of_some _ e) (a:=s.heap.objs.size) (Heap.get?_none_of_le (Nat.le_refl _)) (Heap.get?_push_size _ rfl)
  exact k _ _ _ _ _ x' F' (.lst Wd.add_at ⟨hn,rfl,0,rfl⟩ (hr.mono x'))
theorem binF_ok (F:Fm C.N w ω P L f.nms st s.heap) {op:Bop} {v x r:MV} {a b:Value} {Q:Value → Shared → Prop} (h:VRel C.N w v a) (h':VRel C.N w x b) (hk:binOk op v x = true) (e:binop op v x = some r)
    (k:Go C w P L f.nms st r s Q):wpAny (model C.prog C.wd) A (binaryOp (bopOf op) a b) Q E s:=by
  cases hl:asLst v with
  | none=>exact bin_ok h h' hk e hl fun c tk V=>k w ω s.heap tk c (.refl w) F V
  | some vs=>
    obtain rfl:=asLst_eq hl
    cases op with
    | add=>
      have e2:(asLst (.lst vs)).bind (fun i=>(asLst x).map fun j=>MV.lst (i ++ j)) = some r:=e
      refine bindE e2 fun vs h1 e3=>mapE e3 fun ws h2 e4=>?_
      obtain rfl:=Option.some.inj h1
      obtain rfl:=asLst_eq h2
      obtain ⟨hl1,hr1,hn1⟩:=lst_at F.sh h
      obtain ⟨hl2,hr2,hn2⟩:=lst_at F.sh h'
      have k1:=leN_le (hk:leN _ _ = true)
      rw [hr1.length_eq,hr2.length_eq] at k1
      rw [← e4] at k
      exact lists_add hl1 hl2 (push_list F (by rw [List.length_append];exact k1) (hr1.append hr2) k s.toks) (by rw [sizeLine_lim];exact k1)
    | _=>exact noS e
theorem push_tup (F:Fm C.N w ω P L f.nms st s.heap) {vs:List MV} {vals:List Value} (hn:vals.length ≤ lim) (hr:VRels C.N w vs vals) {Q:Value → Shared → Prop} (k:Go C w P L f.nms st (.tup vs) s Q) :
    ∀ tk,Q (.ref s.heap.objs.size) { s with heap:=s.heap.push { cls:=.type "tuple",data:=.seq vals.toArray },toks:=tk }:=fun tk=>by
  obtain ⟨x',F'⟩:=F.addNew (h':=s.heap.push { cls:=.type "tuple",data:=.seq vals.toArray }) (fun b o e=>Heap.get?_push_of_some _ e) (a:=s.heap.objs.size) (Heap.get?_none_of_le (Nat.le_refl _)) (Heap.get?_push_size _ rfl)
  exact k _ _ _ _ _ x' F' (VRel.tup_eq.mpr ⟨_,hr.mono x',Wd.add_at,hn,rfl,0,rfl⟩)
noncomputable def Wd.slot (w:Wd) (l:Loc) (a:Addr):Wd:={ w with ρ:=fun l'=>if l' = l then some a else w.ρ l' }
theorem ext_slot {w:Wd} {l:Loc} {a:Addr} (h:w.ρ l = none):w.Ext (w.slot l a):=⟨fun l' b q=>by
  show (if l' = l then _ else w.ρ l') = some b
  by_cases z:l' = l
  · rw [z,h] at q;exact noS q
  · rw [if_neg z];exact q,fun _ _ q=>q⟩
theorem setList_alive' {sh sh':Sto} {l:Loc} {vs:List MV} (e:setList sh vs l = some sh') {l':Loc} (hl:l' ≠ l):alive sh' l' = alive sh l':=by
  cases l with
  | em | emD | tmp | tmpD=>exact noS e
  | states=>obtain rfl:=Option.some.inj e;cases l' with | states=>exact absurd rfl hl | _=>rfl
  | events=>obtain rfl:=Option.some.inj e;cases l' with | events=>exact absurd rfl hl | _=>rfl
  | indents=>obtain rfl:=Option.some.inj e;cases l' with | indents=>exact absurd rfl hl | _=>rfl
  | rows=>obtain rfl:=Option.some.inj e;cases l' with | rows=>exact absurd rfl hl | _=>rfl
theorem addSlot (F:Fm C.N w ω P L f.nms st s.heap) {l:Loc} {vs:List MV} {vals:List Value} {st':St} {v:MV} (hn:vals.length ≤ lim) (hr:VRels C.N w vs vals) (e:addList st l vs = some (v,st')) {Q:Value → Shared → Prop} (k:Go C w P L f.nms st' v s Q) :
    ∀ tk,Q (.ref s.heap.objs.size) { s with heap:=s.heap.push (listOf vals.toArray 0),toks:=tk }:=fun tk=>by
  obtain ⟨hnone,e⟩:=ifT e
  obtain ⟨sh',h1,e⟩:=map_some e
  have k:=Go.cast e k
  have hl:=isList_of (setList_get h1) |> fun h=>(h:isListL l = true)
  have S:=F.sh
  have hal:alive st.sh l = false:=by rw [alive_eq hl,Option.isNone_iff_eq_none.mp hnone];rfl
  have hρ:w.ρ l = none:=Option.not_isSome_iff_eq_none.mp (by rw [S.dom l,hal];decide)
  have e0:s.heap.get? s.heap.objs.size = none:=Heap.get?_none_of_le (Nat.le_refl _)
  obtain ⟨g0,p0,r0⟩:=S.fresh e0
  have keep:∀ b o,s.heap.get? b = some o → (s.heap.push (listOf vals.toArray 0)).get? b = some o:=fun b o e=>Heap.get?_push_of_some _ e
  have ho':(s.heap.push (listOf vals.toArray 0)).get? s.heap.objs.size = some (listOf vals.toArray 0):=Heap.get?_push_size _ rfl
  refine k (w.slot l s.heap.objs.size) ω (s.heap.push (listOf vals.toArray 0)) tk _ ?_ ?_ (.loc (if_pos rfl))
  · exact ext_slot hρ
  · generalize s.heap.push (listOf vals.toArray 0) = h' at *
    generalize s.heap.objs.size = a at *
    have x:=ext_slot (a:=a) hρ
    have at_:∀ {l' b},(w.slot l a).ρ l' = some b → (l' = l ∧ b = a) ∨ (l' ≠ l ∧ w.ρ l' = some b):=fun {l' b} q=>by
      change (if l' = l then some a else w.ρ l') = some b at q
      by_cases z:l' = l
      · rw [if_pos z] at q;exact .inl ⟨z,(Option.some.inj q).symm⟩
      · rw [if_neg z] at q;exact .inr ⟨z,q⟩
    have hsome:∀ {b},(s.heap.get? b).isSome = true → b ≠ a:=fun hb z=>by rw [z,e0] at hb;exact noB hb
    have keep2:∀ {b},(s.heap.get? b).isSome = true → h'.get? b = s.heap.get? b:=fun hb=>by
      obtain ⟨o,ho⟩:=Option.isSome_iff_exists.mp hb
      rw [ho];exact keep _ _ ho
    have S':=S.keeps keep
    have hL:(s.heap.get? L.a).isSome = true:=let ⟨o,h⟩:=F.Lsome;by rw [h];rfl
    refine F.withSh x ⟨S'.base,S'.frz,S'.prot,S'.dis,fun l'=>?_,fun l1 l2 b q1 q2=>?_,fun l' b q=>?_,fun l' b q=>?_,fun l' b q=>?_⟩ (keep2 hL) (fun i b q=>keep2 (F.ωo i b q)) F.LG (fun l' b q=>?_) (fun i b q=>⟨(F.ωG i b q).1,fun l' c q'=>?_⟩)
    · show (if l' = l then some a else w.ρ l').isSome = alive sh' l'
      by_cases z:l' = l
      · rw [if_pos z,z];exact (alive_list hl (setList_get h1)).symm
      · rw [if_neg z,setList_alive' h1 z];exact S.dom l'
    · rcases at_ q1 with ⟨z1,y1⟩ | ⟨z1,y1⟩ <;> rcases at_ q2 with ⟨z2,y2⟩ | ⟨z2,y2⟩
      · rw [z1,z2]
      · exact absurd y1 (r0 _ _ y2)
      · exact absurd y2 (r0 _ _ y1)
      · exact S.inj _ _ _ y1 y2
    · rcases at_ q with ⟨_,y⟩ | ⟨_,y⟩
      · rw [y];exact g0
      · exact S.sepG _ _ y
    · rcases at_ q with ⟨_,y⟩ | ⟨_,y⟩
      · rw [y];exact p0
      · exact S.sepP _ _ y
    · rcases at_ q with ⟨z,y⟩ | ⟨z,y⟩
      · rw [y,z];exact ⟨_,ho',cont_of_list (setList_get h1) hn (hr.mono x)⟩
      · obtain ⟨o,h2,h3⟩:=S'.cont _ _ y
        exact ⟨o,h2,setList_cont h1 l' z o (h3.mono x)⟩
    · rcases at_ q with ⟨_,y⟩ | ⟨_,y⟩
      · rw [y];exact (hsome hL).symm
      · exact F.Lρ _ _ y
    · rcases at_ q' with ⟨_,y⟩ | ⟨_,y⟩
      · rw [y];exact (hsome (F.ωo i b q)).symm
      · exact (F.ωG i b q).2.2.1 _ _ y
theorem keep_callee (D:Snd C Φ n) (S:Sh C.N w P st.sh s.heap) {i:Nat} {fv:MV} {fva:Value} {pos:List MV} {kws:List (Nat × MV)} {sh:Sto} {r:MV × Sto} {M:Model} (hg:C.N.T.gval i = some fv) (V:VRel C.N w fv fva) (e:callV C.N.T Φ fv pos kws sh = some r):KeepAt M fva s.heap:=by
  cases fv with
  | fn g=>obtain rfl:fva = _:=V;exact keep_fn D.O D.B S (D.gv.fn _ _ hg)
  | meth g l=>exact absurd hg (D.gv.oth _ _ _)
  | bi b=>
    obtain ⟨id,hid⟩:=D.gv.bi _ _ hg
    obtain rfl:fva = _:=V
    rw [hid];exact keep_bi
  | cls c=>obtain rfl:fva = _:=V;exact keep_cls D.O D.B S (D.gv.cls _ _ hg)
  | _=>exact noS e
end
open PySem PySem.W PyProof.Rows PySem.Calls PySem.Builtin
theorem notT {b:Bool} (h:(!b) = true):b = false:=by
  cases b with
  | false=>rfl
  | true=>exact noB h
section
variable (C:Cx) (n:Nat) (f:Fc)
noncomputable def Xp {α β:Type} (Rel:Wd → α → β → Prop) (t:Env → Sem β) (st:St) (V:α → St → Prop):Prop:=
  ∀ ⦃A:Around⦄ ⦃E:Value → Shared → Prop⦄ ⦃s:Shared⦄ ⦃w:Wd⦄ ⦃ω:Nat → Option Addr⦄ ⦃P:PMap⦄ ⦃L:FL⦄ ⦃fa:Addr⦄ ⦃q:Str⦄ ⦃cd:Value⦄ ⦃Q:β → Shared → Prop⦄,Rm A (n + 1) → Fm C.N w ω P L f.nms st s.heap →
    (∀ u st',V u st' → ∀ w' ω' h' tk a,w.Ext w' → Fm C.N w' ω' P L f.nms st' h' → Rel w' u a → Q a { s with heap:=h',toks:=tk }) → wpAny (model C.prog C.wd) A (t (envOf q f.sc L.a fa cd)) Q E s
noncomputable abbrev Xv:=Xp C n f (VRel C.N)
noncomputable abbrev VRn (N:Nm) (m:Nat) (w:Wd) (u:List MV) (a:List Value):Prop:=VRels N w u a ∧ a.length = m
theorem VRn.le {N:Nm} {es:MEs} {w:Wd} {u:List MV} {a:List Value} (h:VRn N (mEs es) w u a) (k:ltN (mEs es) 1000 = true):a.length ≤ lim:=h.2 ▸ Nat.le_trans (Nat.le_of_lt (ltN_lt k)) (by decide)
noncomputable def Xb (t:Env → Sem Bool) (st:St) (V:Bool → St → Prop):Prop:=
  ∀ ⦃A:Around⦄ ⦃E:Value → Shared → Prop⦄ ⦃s:Shared⦄ ⦃w:Wd⦄ ⦃ω:Nat → Option Addr⦄ ⦃P:PMap⦄ ⦃L:FL⦄ ⦃fa:Addr⦄ ⦃q:Str⦄ ⦃cd:Value⦄ ⦃Q:Bool → Shared → Prop⦄,Rm A (n + 1) → Fm C.N w ω P L f.nms st s.heap →
    (∀ u st',V u st' → ∀ w' ω' h' tk,w.Ext w' → Fm C.N w' ω' P L f.nms st' h' → Q u { s with heap:=h',toks:=tk }) → wpAny (model C.prog C.wd) A (t (envOf q f.sc L.a fa cd)) Q E s
noncomputable def Xc {β:Type} (t:Value → Env → Sem β) (inj:Bool → β) (l:MV) (st:St) (V:Bool → St → Prop):Prop:=
  ∀ ⦃A:Around⦄ ⦃E:Value → Shared → Prop⦄ ⦃s:Shared⦄ ⦃w:Wd⦄ ⦃ω:Nat → Option Addr⦄ ⦃P:PMap⦄ ⦃L:FL⦄ ⦃fa:Addr⦄ ⦃q:Str⦄ ⦃cd la:Value⦄ ⦃Q:β → Shared → Prop⦄,Rm A (n + 1) → Fm C.N w ω P L f.nms st s.heap → VRel C.N w l la →
    (∀ u st',V u st' → ∀ w' ω' h' tk,w.Ext w' → Fm C.N w' ω' P L f.nms st' h' → Q (inj u) { s with heap:=h',toks:=tk }) → wpAny (model C.prog C.wd) A (t la (envOf q f.sc L.a fa cd)) Q E s
end
noncomputable def kwN (C:Cx):MKs → List Str
  | .nil=>[]
  | .cons n _ r=>C.N.nm n :: kwN C r
theorem kwN_ok {C:Cx} {f:Fc} {env:Env} {pos:Pos}:∀ {ks:MKs} {ts:List Keyword},(backToKw pos (keywordEach (toKs C f ks ts) env)).filterMap (·.1) = kwN C ks
  | .nil,_=>rfl
  | .cons n e r,ts=>congrArg (List.cons _) (kwN_ok (ks:=r) (ts:=(tlL ts)))
theorem methodCall_ok {M:Model} {A:Around} {E:Value → Shared → Prop} {s:Shared} {o:Expr} {name:Str} {apos pos:Pos} {env:Env} {ov:Value} {n:Nat} {args:List (Bool × Sem Value)} {kws:List (Option Str × Sem Value)} {Q:Value → Shared → Prop}
    (hn:n < 20) (ha:args.all (!·.1) = true) (hk:kws.all (·.1.isSome) = true) (hp:(apos.endLine == pos.line) = true) (h:∀ pl,wpAny M A (getMethod ov name pl) (fun r s=>wpAny M A (callWith pos r.1 r.2 args kws) Q E s) E s) :
    wpAny M A (methodCall o name apos pos env ov n args kws) Q E s:=by
  have hform:methodCallForm n args kws = true:=by
    unfold methodCallForm
    rw [ha,hk,Bool.true_and,Bool.true_and,decide_eq_true_eq]
    split <;> omega
  unfold methodCall
  rw [hform]
  refine wpAny_bind (wpAny_holding ?_)
  unfold calleeOf methodCallPos
  rw [if_pos rfl]
  exact wpAny_mono (h _) (fun r s h=>wpAny_bind (by rw [if_pos (by rw [hp];rfl)];exact wpAny_pure h)) fun _ _ h=>h
section
variable {C:Cx} {Φ:Phi} {n:Nat} {f:Fc} {w:Wd} {ω:Nat → Option Addr} {P:PMap} {L:FL} {nms:List Str} {st:St} {A:Around} {E:Value → Shared → Prop} {s:Shared} {ov:MV} {oa:Value} {a:Nat} {c:Cal} {r:Value × List Value}
theorem CalAt.mono {w':Wd} (x:w.Ext w') (h:CalAt C w ov oa a c r):CalAt C w' ov oa a c r:=by
  cases h with
  | fn hb=>exact .fn hb
  | held hb hl hq=>exact .held hb (x.ρ _ _ hl) (x.G _ _ hq)
  | bi=>exact .bi
theorem CalAt.keep (D:Snd C Φ n) {sh:Sto} {h:Heap} {M:Model} (S:Sh C.N w P sh h) (q:CalAt C w ov oa a c r):KeepAt M r.1 h:=by
  cases q with
  | fn hb=>exact keep_fn D.O D.B S hb
  | held hb hl hq=>exact keep_meth D.O D.B S hb hq
  | bi=>exact keep_bi
theorem callC_ok (D:Snd C Φ n) (F:Fm C.N w ω P L nms st s.heap) {pos:List MV} {kws:List (Nat × MV)} {v:MV × Sto} {pvals:List Value} {kvals:List (Str × Value)} {Q:Value → Shared → Prop} (q:CalAt C w ov oa a c r) (h:VRel C.N w ov oa)
    (hok:methOk st.sh ov a pos = true) (e:callC C.N.T Φ c ov a pos kws st.sh = some v) (hr:rl v.2 ≤ lim) (hA:Rm A (n + 1)) (hp:VRels C.N w pos pvals) (hk:LRel C.N w kws kvals) (k:GoS C w ω P L nms st v.1 v.2 s Q) :
    wpAny (model C.prog C.wd) A (call r.1 (r.2 ++ pvals) kvals) Q E s:=by
  have hA':=hA.mono (Nat.le_succ n)
  cases q with
  | fn hb=>exact wpAny_call (callF_ok D.H F e hr hA' (.cons h hp) hk k)
  | held hb hl hq=>exact wpAny_call (method_call (F.sh.frz _ _ hq) (callF_ok D.H F e hr hA' (.cons (.loc hl) hp) hk k))
  | bi=>
    obtain ⟨he,e⟩:=ifT e
    obtain rfl:=List.isEmpty_iff.mp he
    obtain rfl:=hk
    exact methB_call D.O F h hp hok (by assumption) hr k
end
noncomputable abbrev Kq {α:Type} (v:MV) (sh:Sto) (k:α → St → Ds → R) (V:α → St → Prop):Prop:=∀ u st' ds',Good (k u st' ds') v sh → rl st'.sh ≤ rl sh ∧ V u st'
open PySem PySem.W PyProof.Rows PySem.Calls PySem.Builtin
section
variable {C:Cx} {Φ:Phi} {n:Nat} {f:Fc} {w w':Wd} {ω:Nat → Option Addr} {P:PMap} {L:FL} {nms:List Str} {st:St} {h h':Heap} {N:Nm}
structure Lone (w:Wd) (ω:Nat → Option Addr) (P:PMap) (L:FL) (I:Addr):Prop where
  G:w.G I = none
  P:P I = none
  ρ:∀ l b,w.ρ l = some b → b ≠ I
  L:L.a ≠ I
  ω:∀ i a,ω i = some a → a ≠ I
theorem Fm.lone (F:Fm N w ω P L nms st h) {I:Addr} (e:h.get? I = none):Lone w ω P L I:=by
  obtain ⟨g,p,r⟩:=F.sh.fresh e
  obtain ⟨oL,hL⟩:=F.Lsome
  exact ⟨g,p,r,fun z=>(by rw [z,e] at hL;exact noS hL),fun i a q z=>by
    obtain ⟨o,ho⟩:=Option.isSome_iff_exists.mp (F.ωo i a q)
    rw [z,e] at ho;cases ho⟩
theorem Fm.keepBut (F:Fm N w ω P L nms st h) {I:Addr} (Z:Lone w ω P L I) (k:∀ b o,b ≠ I → h.get? b = some o → h'.get? b = some o):Fm N w ω P L nms st h':=by
  have S:=F.sh
  refine ⟨⟨S.base,fun a o e=>k _ _ (fun z=>by rw [z,Z.G] at e;cases e) (S.frz a o e),fun a o e=>k _ _ (fun z=>by rw [z,Z.P] at e;cases e) (S.prot a o e),S.dis,S.dom,S.inj,S.sepG,S.sepP,fun l a e=>let ⟨o,h1,h2⟩:=S.cont l a e;⟨o,k _ _ (Z.ρ _ _ e) h1,h2⟩⟩,
    F.LG,F.LP,F.Lρ,?_,fun i x c e1 e2=>(F.vs i x c e1 e2).mono (.refl w) fun b o e3 e4=>k _ _ (Z.ω _ _ e3) e4,F.ωG,F.ωi,fun i a e=>?_⟩
  · obtain ⟨o,es,ep,h1,h2⟩:=F.ns
    exact ⟨o,es,ep,k _ _ Z.L h1,h2⟩
  · obtain ⟨o,ho⟩:=Option.isSome_iff_exists.mp (F.ωo i a e)
    rw [k _ _ (Z.ω _ _ e) ho];rfl
open Classical in
noncomputable def PMap.with_ (P:PMap) (I:Addr) (o:Obj):PMap:=fun a=>if a = I then some o else P a
theorem Fm.protect (F:Fm N w ω P L nms st h) {I:Addr} {o:Obj} (Z:Lone w ω P L I) (ho:h.get? I = some o):Fm N w ω (P.with_ I o) L nms st h:=by
  have S:=F.sh
  have ne:∀ a,a ≠ I → P.with_ I o a = P a:=fun a z=>if_neg z
  refine ⟨⟨S.base,S.frz,fun a o' e=>?_,fun a o' e=>(ne a fun z=>(by rw [z,Z.G] at e;cases e)).trans (S.dis a o' e),S.dom,S.inj,S.sepG,fun l a e=>(ne a (Z.ρ _ _ e)).trans (S.sepP l a e),S.cont⟩,
    F.LG,(ne L.a Z.L).trans F.LP,F.Lρ,F.ns,F.vs,fun i a e=>⟨(F.ωG i a e).1,(ne a (Z.ω _ _ e)).trans (F.ωG i a e).2.1,(F.ωG i a e).2.2⟩,F.ωi,F.ωo⟩
  unfold PMap.with_ at e
  split at e
  · rename_i z;cases e;rw [z];exact ho
  · exact S.prot _ _ e
theorem Fm.unprotect {I:Addr} {o:Obj} (hP:P I = none) (F:Fm N w ω (P.with_ I o) L nms st h):Lone w ω P L I ∧ h.get? I = some o ∧ Fm N w ω P L nms st h:=by
  have S:=F.sh
  have hI:P.with_ I o I = some o:=if_pos rfl
  have none_of:∀ a,P.with_ I o a = none → a ≠ I ∧ P a = none:=fun a e=>by
    unfold PMap.with_ at e
    split at e
    · cases e
    · rename_i z;exact ⟨z,e⟩
  have some_of:∀ a x,P a = some x → P.with_ I o a = some x:=fun a x e=>by
    unfold PMap.with_
    rw [if_neg fun z=>by rw [z,hP] at e;cases e];exact e
  refine ⟨⟨?_,hP,fun l b e=>(none_of b (S.sepP l b e)).1,(none_of L.a F.LP).1,fun i a e=>(none_of a (F.ωG i a e).2.1).1⟩,S.prot _ _ hI,
    ⟨⟨S.base,S.frz,fun a x e=>S.prot a x (some_of a x e),fun a x e=>(none_of a (S.dis a x e)).2,S.dom,S.inj,S.sepG,fun l a e=>(none_of a (S.sepP l a e)).2,S.cont⟩,
     F.LG,(none_of L.a F.LP).2,F.Lρ,F.ns,F.vs,fun i a e=>⟨(F.ωG i a e).1,(none_of a (F.ωG i a e).2.1).2,(F.ωG i a e).2.2⟩,F.ωi,F.ωo⟩⟩
  cases e:w.G I with
  | none=>rfl
  | some x=>rw [S.dis _ _ e] at hI;cases hI
end
theorem Fm.addLone {N:Nm} {w:Wd} {ω:Nat → Option Addr} {P:PMap} {L:FL} {nms:List Str} {st:St} {h:Heap} (F:Fm N w ω P L nms st h) {I:Addr} {o:Obj} (Z:Lone w ω P L I) (ho:h.get? I = some o) :
    w.Ext (w.add I o) ∧ Fm N (w.add I o) ω P L nms st h:=by
  have x:=Wd.add_ext (o:=o) Z.G
  have gne:∀ b,b ≠ I → (w.add I o).G b = w.G b:=fun b q=>if_neg q
  refine ⟨x,F.withSh (sh':=st.sh) x (F.sh.add ho Z.G Z.P Z.ρ) rfl (fun _ _ _=>rfl) ((gne _ Z.L).trans F.LG) F.Lρ fun i a e=>⟨(gne a (Z.ω _ _ e)).trans (F.ωG i a e).1,(F.ωG i a e).2.2.1⟩⟩
section
variable {C:Cx} {Φ:Phi} {n:Nat} {f:Fc}
structure RgOk (C:Cx):Prop where
  range:GName C "range" (.type "range")
  sorted:GName C "sorted" (.builtin "sorted")
theorem gname_ok (D:Snd C Φ n) (fo:FcOk f) {x:Str} {a:Value} {pos:Pos} (hg:GName C x a) (hl:f.sc.names.lookup x = some NameKind.globalImplicit) (hd:(x == ("__debug__":Str)) = false) {A:Around} {E:Value → Shared → Prop} {s:Shared} {w:Wd} {ω:Nat → Option Addr} {P:PMap} {L:FL} {fa:Addr} {q:Str} {cd:Value} {st:St} {Q:Value → Shared → Prop}
    (F:Fm C.N w ω P L f.nms st s.heap) (k:Q a s):wpAny (model C.prog C.wd) A (eval (.Name x pos) (envOf q f.sc L.a fa cd)) Q E s:=by
  have T:=D.O.topIn F.sh
  have X:=D.O.In F.sh
  refine Name_function_global fo.kind hl ?_ hd
  rcases hg with hg | ⟨h1,h2,h3⟩
  · exact loadGlobal_global (env:=envOf q f.sc L.a fa cd) T.g (mg_of X T.g hg) k
  · exact loadGlobal_builtin (env:=envOf q f.sc L.a fa cd) T.g (mg_none_of X T.g h1) T.b ((T.builtins _ h3).trans h2) k
theorem folded_none {e:ME} {t:Expr} {env:Env} {v:Value} (ok:okE C f e t = true) (hd:e ≠ .dead):foldedSetIterable (toE C f e t) env v = pure v:=by
  cases e with
  | abs=>exact noB ok
  | dead=>exact absurd rfl hd
  | _=>rfl
theorem fmtT_mod {prog:Program} {wd:World} {A:Around} {E:Value → Shared → Prop} {s:Shared} {y:Str} {t u:Tok} {Q:Value → Shared → Prop} (hy:y.length ≤ 1000000) (h:∀ t' k,Q (.str (Str.ofString "!<" ++ y ++ Str.ofString ">") t') { s with toks:=k }):wpAny (model prog wd) A (binaryOp .Mod (.str (Str.ofString "!<%s>") t) (.str y u)) Q E s:=by
  refine' KPc.mod_str (T:=fun y=>Str.ofString "!<" ++ y ++ Str.ofString ">") ?kpcF ?kpcl ?kpcm ?_
  case kpcF=>kpc_eq
  case kpcl=>exact hy
  case kpcm=>kpc_run_s
  exact h
theorem x_fmtT {tr:Expr} {k:Nat} {p pos:Pos} {st:St} {V:MV → St → Prop} (r:Xv C n f (eval tr) st fun a s1=>∃ x,a = .str x ∧ x.length + 3 ≤ 1000000 ∧ V (.str ([33,60] ++ x ++ [62])) s1):Xv C n f (eval (.BinOp (.Constant (.str "!<%s>") k p) .Mod tr pos)) st V:=fun A E s w ω P L fa q cd Q hA F go=>by
  show wpAny _ _ (eval (.BinOp _ _ _ _) _) _ _ _
  rw [arm_eval_BinOp]
  refine wpAny_bind (wpAny_mkText (wpAny_bind (wpAny_holding (r (s:={ s with toks:=s.toks + 1 }) hA F fun a s1 H w1 ω1 h1 tk1 va x1 F1 V1=>?_))))
  obtain ⟨x,rfl,hlen,H⟩:=H
  obtain ⟨_,t,rfl⟩:=V1.str_inv
  refine wpAny_bind (wpAny_standAt (wpAny_operating (fmtT_mod (by rw [strOf_length];exact Nat.le_trans (Nat.le_add_right _ 3) hlen) fun t' tk=>?_)))
  have hx:Str.ofString "!<" ++ strOf x ++ Str.ofString ">" = strOf ([33,60] ++ x ++ [62]):=by
    rw [show Str.ofString "!<" = strOf [33,60] by decide +kernel,show Str.ofString ">" = strOf [62] by decide +kernel,strOf_append,strOf_append]
  show Q (.str (Str.ofString "!<" ++ strOf x ++ Str.ofString ">") t') _
  rw [hx]
  exact go _ s1 H w1 ω1 h1 tk _ x1 F1 (.str _ (by simp only [List.length_append,List.length_cons,List.length_nil];unfold lim;omega))
theorem fv_ok {ax:Expr} {p:Pos} {env:Env} {A:Around} {E:Value → Shared → Prop} {s:Shared} {Q:Value → Shared → Prop} (h:wpAny (model C.prog C.wd) A (eval ax env) (fun v s₁=>∃ x t,v = .str x t ∧ x.length ≤ sizeLine ∧ ∀ t' tk,Q (.str x t') { s₁ with toks:=tk }) E s) :
    wpAny (model C.prog C.wd) A (eval (.FormattedValue ax 115 none p) env) Q E s:=by
  rw [arm_eval_FormattedValue]
  refine wpAny_bind (wpAny_mono h (fun v s₁ h₁=>?_) fun _ _ x=>x)
  obtain ⟨x,t,rfl,hsz,hq⟩:=h₁
  refine wpAny_bind (wpAny_standAt (wpAny_bind (wpAny_holding (habitSame_str (fun t' tk=>?_) hsz))))
  exact formatField_str (s:={ s₁ with toks:=tk }) (fun t2 tk2=>hq t2 tk2) hsz
theorem x_fmt2 {ax bx:Expr} {p p2 pos:Pos} {st:St} {V:MV → St → Prop} (r:Xv C n f (eval ax) st fun a s1=>∃ x,a = .str x ∧ x.length ≤ 1000000 ∧ Xv C n f (eval bx) s1 fun b s2=>∃ y,b = .str y ∧ x.length + y.length ≤ 1000000 ∧ V (.str (x ++ y)) s2) :
    Xv C n f (eval (.JoinedStr [.FormattedValue ax 115 none p,.FormattedValue bx 115 none p2] pos)) st V:=fun A E s w ω P L fa q cd Q hA F go=>by
  refine JoinedStr_many (joinParts_cons (fv_ok (r hA F fun a s1 H w1 ω1 h1 tk1 va x1 F1 V1=>?_)))
  obtain ⟨x,rfl,hx,H⟩:=H
  obtain ⟨_,t,rfl⟩:=V1.str_inv
  have hx:(strOf x).length ≤ sizeLine:=by rw [sizeLine_eq,strOf_length];omega
  refine ⟨strOf x,t,rfl,hx,fun t' tk=>?_⟩
  have e0:Str.empty ++ strOf x = strOf x:=by show strOf [] ++ strOf x = _;rw [strOf_append];rfl
  show (Str.empty ++ strOf x).length ≤ sizeLine ∧ _
  rw [e0]
  refine ⟨hx,joinParts_cons (fv_ok (H (s:={ s with heap:=h1,toks:=tk }) hA F1 fun b s2 H w2 ω2 h2 tk2 vb x2 F2 V2=>?_))⟩
  obtain ⟨y,rfl,hxy,H⟩:=H
  obtain ⟨_,t2,rfl⟩:=V2.str_inv
  refine ⟨strOf y,t2,rfl,by rw [sizeLine_eq,strOf_length];omega,fun t3 tk3=>?_⟩
  show (strOf x ++ strOf y).length ≤ sizeLine ∧ _
  rw [strOf_append]
  have hxy':(strOf (x ++ y)).length ≤ sizeLine:=by rw [sizeLine_eq,strOf_length,List.length_append];omega
  exact ⟨hxy',joinParts_nil (go _ s2 H w2 ω2 h2 _ _ (x1.trans x2) F2 (.str _ (by rw [List.length_append];unfold lim;omega))) hxy'⟩
end
open PySem PySem.W PyProof.Rows PySem.Calls PySem.Builtin
noncomputable def leP (a b:Tx):Prop:=¬ b < a
theorem leP_trans {a b c:Tx} (h1:leP a b) (h2:leP b c):leP a c:=by
  have e1:a ≤ b:=h1
  have e2:b ≤ c:=h2
  exact List.le_trans e1 e2
theorem leP_anti {a b:Tx} (h1:leP a b) (h2:leP b a):a = b:=List.le_antisymm h1 h2
theorem asc_pair:∀ {l:List Tx},ascX l = true → l.Pairwise leP
  | [],_=>.nil
  | [_],_=>List.pairwise_singleton _ _
  | a :: b :: r,h=>by
    obtain ⟨h1,h2⟩:=Bool.and_eq_true_iff.mp (h:(ltX a b && ascX (b :: r)) = true)
    have ih:=asc_pair h2
    rw [ltX_eq] at h1
    have h1:a < b:=by simpa using h1
    have hab:leP a b:=List.lt_asymm h1
    refine List.pairwise_cons.mpr ⟨fun x hx=>?_,ih⟩
    rcases List.mem_cons.mp hx with rfl | hx
    · exact hab
    · exact leP_trans hab ((List.pairwise_cons.mp ih).1 x hx)
theorem rising_pair:∀ {l:List Str} {p:Str},risingS p l = true → (∀ x ∈ l,leP p.cps.toList x.cps.toList) ∧ (l.map (·.cps.toList)).Pairwise leP
  | [],_,_=>⟨fun _ h=>absurd h List.not_mem_nil,List.Pairwise.nil⟩
  | x :: r,p,h=>by
    obtain ⟨h1,h2⟩:=Bool.and_eq_true_iff.mp (h:(!Spec.ltCps x.cps.toList p.cps.toList && risingS x r) = true)
    obtain ⟨i1,i2⟩:=rising_pair h2
    rw [ltCps_eq] at h1
    have h1:leP p.cps.toList x.cps.toList:=by unfold leP;simpa using h1
    refine ⟨fun y hy=>?_,List.pairwise_cons.mpr ⟨fun y hy=>?_,i2⟩⟩
    · rcases List.mem_cons.mp hy with rfl | hy
      · exact h1
      · exact leP_trans h1 (i1 y hy)
    · obtain ⟨z,hz,rfl⟩:=List.mem_map.mp hy
      exact i1 z hz
theorem sorted_same {l:List Str} {ks:List Tx} (hp:l.Perm (ks.map strOf)) (hs:sortedS l = true) (ha:ascX ks = true):l = ks.map strOf:=by
  have h1:(l.map (·.cps.toList)).Pairwise leP:=by
    cases l with
    | nil=>exact .nil
    | cons x r=>
      obtain ⟨a,b⟩:=rising_pair (show risingS x r = true from hs)
      exact List.pairwise_cons.mpr ⟨fun y hy=>by obtain ⟨z,hz,rfl⟩:=List.mem_map.mp hy;exact a z hz,b⟩
  have h2:(l.map (·.cps.toList)).Perm ks:=by
    have:=hp.map (·.cps.toList)
    rw [List.map_map] at this
    have e:((fun x:Str=>x.cps.toList) ∘ strOf) = fun t:Tx=>t:=by funext t;simp [strOf]
    rw [e,List.map_id'] at this
    exact this
  have h3:=List.Perm.eq_of_pairwise (fun a b _ _=>leP_anti) h1 (asc_pair ha) h2
  rw [← h3,List.map_map]
  have e:strOf ∘ (fun x:Str=>x.cps.toList) = fun t:Str=>t:=by funext t;simp [strOf]
  rw [e,List.map_id']
section
variable {prog:Program} {w:World} {A:Around} {E:Value → Shared → Prop} {s:Shared}
theorem sorted_keep {T:String} {r d:Addr} {n:Nat} {P:Nat → Value → Prop} {OK:Heap → Prop} {ss:List Str} {Q:Value → Shared → Prop} (K:KdlSrc prog w T r d n P OK) (hh:A.handled = none) (hok:OK s.heap) (hn:n < 64) (hP:∀ vs:List Value,vs.length = n → (∀ (j:Nat) v,vs[j]? = some v → P j v) → StrsAre vs ss)
    (h:∀ (D:Addr) (h':Heap) (tk e:Nat) (out:Array Value) (ss':List Str),(∀ b o,s.heap.get? b = some o → h'.get? b = some o) → s.heap.get? D = none → h'.get? D = some (seqObj "list" out e) → StrsAre out.toList ss' → ss'.Perm ss → sortedS ss' = true → Q (.ref D) { s with heap:=h',toks:=tk }) :
    wpAny (model prog w) A (call (.builtin "sorted") [.ref r]) Q E s:=by
  have hsl:n ≤ sizeLine:=by rw [sizeLine_eq];omega
  refine call_function_entry kind_sorted plain_sorted entry_sorted (args_sorted1 _) ?_
  unfold Builtin.«sorted»
  refine wpAny_bind (m:=checkCount "sorted" 1 1 _) (wpAny_pure ?_)
  refine wpAny_bind (kdu_collect (A:=A.in1) K hh hok hsl fun h' tk acc hk hacc=>?_)
  have hl:acc.toList.length = n:=by rw [Array.length_toList];exact hacc.1
  refine wpAny_bind (wpAny_newList ?_ (by rw [hl];exact hsl))
  have hS:StrsAre acc.toList ss:=hP _ hl fun j v e=>hacc.2 j v (by rw [← Array.getElem?_toList];exact e)
  have hat:(h'.push (seqObj "list" acc.toList.toArray 0)).get? h'.objs.size = some (seqObj "list" acc.toList.toArray 0):=Heap.get?_push_size _ rfl
  have hg:wpAny (model prog w) A.in1 (call (.builtin "list.sort") [.ref h'.objs.size]) (fun _ s'=>Q (.ref h'.objs.size) s') E { s with heap:=h'.push (seqObj "list" acc.toList.toArray 0),toks:=tk }:=by
    refine wpAny_call_entry PyProof.Rows.slot_list_sort ⟨_,hat,rfl⟩ PyProof.Rows.entry_list_sort (list_sort_treeK strKind_oneLt hat hS.keysOf (fun v₁ v₂ rest e=>keyKind_strs (by rw [← e];exact hS)) (by rw [hl];exact hn) fun st' hp hs=>⟨.none,rfl,?_⟩) (PyProof.Rows.args_list_sort _)
    obtain ⟨ss',h1,h2,h3⟩:=sorted_out_str hS hp hs
    obtain ⟨e,he⟩:=sortedHeap_at (vs:=acc.toList) (out:=(arrOf st').map (·.2)) hat
    refine h _ _ tk e _ ss' (fun b o eb=>?_) ?_ he h1 h2 h3
    · have:=Heap.lt_size (hk b o eb)
      refine (sortedHeap_old (Nat.ne_of_lt this) ?_).trans (Heap.get?_push_of_some _ (hk b o eb))
      rw [Heap.size_push];exact Nat.lt_succ_of_lt this
    · cases z:s.heap.get? h'.objs.size with
      | none=>rfl
      | some o=>have:=Heap.lt_size (hk _ _ z);exact absurd this (Nat.lt_irrefl _)
  refine wpAny_bind (wpAny_holding (wpAny_mono hg (fun _ s' x=>?_) fun _ _ e=>e))
  exact wpAny_pure ⟨_,rfl,x⟩
end
theorem nodup_strOf {l:List Tx} (h:l.Nodup):(l.map strOf).Nodup:=List.pairwise_map.mpr (List.Pairwise.imp (fun h z=>h (strOf_inj z)) h)
theorem strs_of_keys {prog:Program} {wd:World} {kvs:List (Str × Value)}:∀ {vs:List Value},vs.length = kvs.length → (∀ (j:Nat) v,vs[j]? = some v → ∃ k x,kvs[j]? = some (k,x) ∧ (PySem.strKind prog wd).is k v = true) → StrsAre vs (kvs.map (·.1)):=by
  induction kvs with
  | nil=>intro vs hl _;obtain rfl:=List.eq_nil_of_length_eq_zero hl;exact .nil
  | cons q r ih=>
    intro vs hl hv
    cases vs with
    | nil=>exact absurd hl.symm (Nat.succ_ne_zero _)
    | cons v vs=>
      obtain ⟨k,x,e,hk⟩:=hv 0 v rfl
      obtain rfl:=Option.some.inj (e:some q = some (k,x))
      obtain ⟨t,rfl⟩:=Value.isStrOf_shape hk
      exact .cons _ t (ih (Nat.succ.inj hl) fun j u hu=>hv (j + 1) u hu)
theorem rels_strs {N:Nm} {w:Wd} {ks:List Tx}:∀ {vs:List Value},StrsAre vs (ks.map strOf) → (∀ k ∈ ks,k.length ≤ lim) → VRels N w (ks.map .str) vs:=by
  induction ks with
  | nil=>intro vs h _;cases h;exact .nil
  | cons k r ih=>intro vs h hl;cases h with | cons _ t h=>exact .cons (.str t (hl k (.head _))) (ih h fun x hx=>hl x (.tail _ hx))
section
variable {C:Cx} {Φ:Phi} {n:Nat} {f:Fc}
theorem sd_dict {prog:Program} {w:Wd} {N:Nm} {h:Heap} {P:Params} {wd:World} {kvs:List (Tx × Tx)} {d:Addr} {es:List DictEntry} {ep:Nat} (hP:wd.params = P) (ho:h.get? d = some ⟨.type "dict",none,.dict es.toArray ep,#[]⟩) (hnd:(kvs.map (·.1)).Nodup) (hr:SdRel P kvs es) :
    ∃ vs:List (Str × Value),vs.map (·.1) = (kvs.map (·.1)).map strOf ∧ vs.length = kvs.length ∧ h.DictAt (PySem.strKind prog wd) d vs ep:=by
  subst hP
  obtain ⟨vs,h1,h2,h3⟩:=sd_pairs (prog:=prog) hr
  have hk:=sdEs_keys h1
  exact ⟨vs,hk,by have:=congrArg List.length hk;rwa [List.length_map,List.length_map,List.length_map] at this,_,_,ho,⟨rfl,rfl,rfl⟩,rfl,h3,h2,by rw [hk];exact nodup_strOf hnd⟩
theorem x_skeys (D:Snd C Φ n) (fo:FcOk f) (G:RgOk C) {e:ME} {t:Expr} {p1 p2 p3 pos:Pos} {st:St} {V:MV → St → Prop} (ok:okE C f e t = true) (hd:e ≠ .dead) (hq:f.sc.names.lookup ("sorted":Str) = some NameKind.globalImplicit) (hline:(p2.endLine == p3.line) = true)
    (r:Xv C n f (eval (toE C f e t)) st fun a s1=>∃ kvs,a = .sd kvs ∧ kvs.length ≤ 60 ∧ ascX (kvs.map fun kv=>kv.1) = true ∧ V (.lst (kvs.map fun kv=>.str kv.1)) s1):Xv C n f (eval (.Call (.Name "sorted" p1) [.Call (.Attribute (toE C f e t) "keys" p2) [] [] p3] [] pos)) st V:=fun A E s w ω P L fa q cd Q hA F go=>by
  refine wpAny_Call_NameR (gname_ok D fo G.sorted hq (by decide) F (callWith_ok (by rfl) (by rfl) (spliced_cons ?_)))
  rw [arm_eval_Call]
  refine wpAny_bind (base_ok ok hd (r hA F fun a s1 H w1 ω1 h1 tk1 oa x1 F1 V1=>wpAny_bind (wpAny_standAt ?_)))
  obtain ⟨kvs,rfl,hlen,hasc,H⟩:=H
  cases (V1:SdR C.N w1 kvs oa) with | mk hnd hlo hq' hr'=>
  rename_i es ep d
  have ho:=F1.sh.frz _ _ hq'
  have hks:=(sd_lens hr').1
  obtain ⟨vs,g3,hvl,hD⟩:=sd_dict (prog:=C.prog) (w:=w1) (N:=C.N) D.O.par ho hnd hr'
  refine methodCall_ok (by decide) rfl rfl hline fun pl=>?_
  refine getMethod_builtin (s:={ s with heap:=h1,toks:=tk1 }) ⟨_,ho,rfl⟩ PySem.F.plainAttrs_dict PySem.F.slot_dict_keys PySem.F.type_dict_keys (fun a e=>by cases e;exact ⟨_,ho,rfl⟩) ?_
  refine callWith_ok (by rfl) (by rfl) (spliced_nil (wpAny_evalAll_nil ⟨keep_bi,?_⟩))
  refine call_meetsIn PySem.F.slot_dict_keys ⟨_,ho,rfl⟩ PySem.F.entry_dict_keys (PySem.F.args_dict_keys_1 _) (kdl_meets_keys (PySem.strKind C.prog C.wd) d hlo) ⟨⟨vs,hD.dictOf⟩,?_⟩
  refine spliced_nil (wpAny_evalAll_nil ⟨keep_bi,?_⟩)
  refine sorted_keep (ss:=(kvs.map (·.1)).map strOf) (s:={ s with heap:=h1.push { cls:=.type "dict_keys",data:=.fields #[.ref d] },toks:=tk1 }) (kdl_keys (knd:=PySem.strKind C.prog C.wd) (kvs:=vs) (ep:=ep) (d:=d) (r:=h1.objs.size)) hA.hand
    ⟨⟨_,Heap.get?_push_size _ rfl,rfl,rfl⟩,hD.push _⟩ (by omega) (fun us hl hu=>by rw [← g3];exact strs_of_keys hl hu) fun Da h' tk e out ss' hk hn hat hS hp hs=>?_
  obtain rfl:=sorted_same hp hs hasc
  have hk2:∀ b o,h1.get? b = some o → h'.get? b = some o:=fun b o e=>hk b o (Heap.get?_push_of_some _ e)
  have hDn:h1.get? Da = none:=by
    cases z:h1.get? Da with
    | none=>rfl
    | some o=>exact noS (hn.symm.trans (Heap.get?_push_of_some _ z))
  obtain ⟨x2,F2⟩:=F1.addNew (h':=h') hk2 hDn hat
  have hV:=rels_strs (N:=C.N) (w:=w1.add Da (seqObj "list" out e)) hS fun k hk=>by
    obtain ⟨kv,hkv,rfl⟩:=List.mem_map.mp hk
    exact hks kv hkv
  rw [List.map_map] at hV
  have hl2:out.toList.length ≤ lim:=by rw [← hV.length_eq,List.length_map];unfold lim;omega
  exact go _ s1 H _ ω1 h' tk _ (x1.trans x2) F2 (.lst (vals:=out.toList) Wd.add_at ⟨hl2,rfl,e,by simp⟩ hV)
end
open PySem PySem.W PyProof.Rows PySem.Calls PySem.Builtin
noncomputable def PairsRel (N:Nm) (ks:List Int) (w:Wd):List MV → List (Value × Value) → Prop:=List.rec (motive:=fun _=>List MV → List (Value × Value) → Prop) (fun vs ps=>vs = [] ∧ ps = [])
  (fun k _ ih vs ps=>∃ v vs' t a ps',vs = v :: vs' ∧ ps = (.int k t,a) :: ps' ∧ VRel N w v a ∧ ih vs' ps') ks
section
variable {N:Nm} {w w':Wd} {ks:List Int}
theorem PairsRel.mono (x:w.Ext w'):∀ {vs ps},PairsRel N ks w vs ps → PairsRel N ks w' vs ps:=by
  induction ks with
  | nil=>exact fun h=>h
  | cons k ks ih=>intro vs ps h;obtain ⟨v,vs',t,a,ps',h1,h2,h3,h4⟩:=h;exact ⟨v,vs',t,a,ps',h1,h2,h3.mono x,ih h4⟩
theorem PairsRel.ints:∀ {vs ps},PairsRel N ks w vs ps → allIntKeys ps = true ∧ (intKeyPairs ps).map (·.1) = ks:=by
  induction ks with
  | nil=>intro vs ps h;obtain ⟨rfl,rfl⟩:=h;exact ⟨rfl,rfl⟩
  | cons k ks ih=>intro vs ps h;obtain ⟨v,vs',t,a,ps',h1,rfl,h3,h4⟩:=h;exact ⟨(ih h4).1,congrArg (List.cons k) (ih h4).2⟩
theorem PairsRel.look {i:Int} {v:MV}:∀ {vs ps},PairsRel N ks w vs ps → dispAt ks vs (.int i) = some v → ∃ a,valueAt (intKeyPairs ps) i = some a ∧ VRel N w v a:=by
  induction ks with
  | nil=>intro vs ps h e;obtain ⟨rfl,rfl⟩:=h;exact noS e
  | cons k ks ih=>
    intro vs ps h e
    obtain ⟨u,vs',t,a,ps',rfl,rfl,h3,h4⟩:=h
    have e:((k,u) :: ks.zip vs').findSome? (fun kv=>if kv.1 = i then some kv.2 else none) = some v:=e
    rw [List.findSome?_cons] at e
    show ∃ b,valueAt ((k,a) :: intKeyPairs ps') i = some b ∧ VRel N w v b
    unfold valueAt
    by_cases q:k = i
    · subst q
      rw [if_pos rfl] at e
      exact ⟨_,by rw [List.find?_cons_of_pos (by simp)];rfl,(Option.some.inj e:u = v) ▸ h3⟩
    · rw [if_neg q] at e
      obtain ⟨b,h1,h2⟩:=ih h4 e
      exact ⟨b,by rw [List.find?_cons_of_neg (by simpa using q)];exact h1,h2⟩
end
theorem toKx_ok:∀ {ks:List Int} {ts:List (Option Expr)},(toKx ks ts).length = ks.length ∧ (toKx ks ts).all (·.isSome) = true
  | [],_=>⟨rfl,rfl⟩
  | k :: ks,ts=>⟨congrArg (· + 1) (toKx_ok (ks:=ks) (ts:=tlL ts)).1,(toKx_ok (ks:=ks) (ts:=tlL ts)).2⟩
theorem ndI_ok {ks:List Int} (h:ndI ks = true):ks.Nodup:=by
  induction ks with
  | nil=>exact .nil
  | cons k r ih=>
    refine List.nodup_cons.mpr ⟨fun m=>?_,ih (andR h)⟩
    have:=List.all_eq_true.mp (andL h) k m
    rw [show eqI k k = true from decide_eq_true rfl] at this
    exact noB this
section
variable {C:Cx} {Φ:Phi} {n:Nat} {f:Fc}
theorem x_subd (D:Snd C Φ n) {keys:List Int} {kt:List (Option Expr)} {vx:List Expr} {ix:Expr} {p pos:Pos} {st:St} {V:MV → St → Prop} (hn:keys.length < 15) (hl:vx.length = keys.length) (hnd:keys.Nodup) (h0:keys ≠ []) (hs:isPlainSlice ix)
    (r:Xp C n f (PairsRel C.N keys) (fun env=>evalPairs (pairTrees (toKx keys kt) vx env p)) st fun vs s1=>Xv C n f (eval ix) s1 fun b s2=>∃ i u,b = .int i ∧ dispAt keys vs (.int i) = some u ∧ V u s2):Xv C n f (eval (.Subscript (.Dict (toKx keys kt) vx p) ix pos)) st V:=fun A E s w ω P L fa q cd Q hA F go=>by
  obtain ⟨hkl,hks⟩:=toKx_ok (ks:=keys) (ts:=kt)
  have Z:=F.lone (I:=s.heap.objs.size) (Heap.get?_none_of_le (Nat.le_refl _))
  have F0:=F.keeps (h':=s.heap.push { cls:=.type "dict",data:=.dict #[] }) fun b o e=>Heap.get?_push_of_some _ e
  have hat0:(s.heap.push { cls:=.type "dict",data:=.dict #[] }).get? s.heap.objs.size = some { cls:=.type "dict",data:=.dict #[] }:=Heap.get?_push_size _ rfl
  have FP:=F0.protect Z hat0
  refine Subscript_ (wpAny_Dict_walk (knd:=PySem.intKind C.prog C.wd) hks (hkl.trans hl.symm) (fun z=>h0 (List.eq_nil_of_length_eq_zero (by rw [← hkl,z];rfl))) (by omega) ?_)
  refine r (s:={ s with heap:=s.heap.push { cls:=.type "dict",data:=.dict #[] } }) hA FP fun vs s1 H w1 ω1 h1' tk1 ps x1 F1 PR=>?_
  obtain ⟨Z1,hat1,F1⟩:=Fm.unprotect Z.P F1
  have hints:=PR.ints
  refine display_done_int hints.1 (by rw [hints.2];exact hnd) ⟨_,#[],0,hat1,⟨rfl,rfl,rfl⟩,rfl,fun _ he=>by simp at he,Pairs.nil,List.nodup_nil⟩ fun h2' hm hs'=>?_
  have F2:=F1.keepBut (h':=h2') Z1 fun b o hb e=>(hs'.2 b hb).trans e
  obtain ⟨oD,esD,epD,hoD,hrest⟩:=hm
  obtain ⟨xa,F3⟩:=F2.addLone Z1 hoD
  refine H (s:={ s with heap:=h2',toks:=tk1 + ps.length }) hA F3 fun b s2 H w4 ω4 h4' tk4 ia x4 F4 V4=>?_
  obtain ⟨i,u,rfl,hu,H⟩:=H
  have hoD4:=F4.sh.frz _ _ (x4.G _ _ Wd.add_at)
  have hm4:h4'.DictOf (PySem.intKind C.prog C.wd) s.heap.objs.size (intKeyPairs ps):=⟨oD,esD,epD,hoD4,hrest⟩
  obtain ⟨t,rfl⟩:=V4.int_inv
  obtain ⟨va,hva,Va⟩:=(PR.mono (xa.trans x4)).look hu
  exact tail_any hm4.mapOf.typeIs slot_dict_getitem.lookup (wpAny_getItem_of (intKind_is _ _ _ _) hm4.mapOf hva (go u s2 H w4 ω4 h4' _ _ ((x1.trans xa).trans x4) F4 Va)) (hs _ _)
end
open PySem PySem.W PyProof.Rows PySem.Calls PySem.Builtin
noncomputable def modF (m:Int) (v y:Value):Prop:=∀ a t,v = .int a t → ∃ t',y = .int (a.fmod m) t'
theorem keeps_refl (s:Shared):Keeps s s:=⟨s.heap,s.toks,rfl,fun _ _ e=>e⟩
theorem keeps_tok (s:Shared) (k:Nat):Keeps s { s with toks:=k }:=⟨s.heap,k,rfl,fun _ _ e=>e⟩
theorem comp_rel {N:Nm} {w w':Wd} {m:Int} {vs:List MV}:∀ {ws:List MV} {vals ys:List Value},VRels N w vs vals → compInts m vs = some ws → Paired (modF m) vals ys → VRels N w' ws ys:=by
  induction vs with
  | nil=>intro ws vals ys h e p;obtain rfl:=h;cases p;exact Option.some.inj e ▸ .nil
  | cons v r ih=>
    intro ws vals ys h e p
    obtain ⟨a,s,rfl,h,t⟩:=h.cons_inv
    refine bindE e fun i h1 e=>mapE e fun us h2 e=>?_
    obtain ⟨u,rfl⟩:=(asInt_eq h1 ▸ h:VRel N w (.int i) a).int_inv
    cases p with
    | cons p1 p2=>
      obtain ⟨t',rfl⟩:=p1 _ _ rfl
      exact e ▸ .cons (.int _ _) (ih t h2 p2)
theorem comp_len {m:Int} {vs:List MV}:∀ {ws:List MV},compInts m vs = some ws → ws.length = vs.length:=by
  induction vs with
  | nil=>intro ws e;exact Option.some.inj e ▸ rfl
  | cons v r ih=>intro ws e;exact bindE e fun i h1 e=>mapE e fun us h2 e=>e ▸ congrArg (· + 1) (ih h2)
theorem rels_ints {N:Nm} {w:Wd} {m:Int} {vs:List MV}:∀ {ws:List MV} {vals:List Value},VRels N w vs vals → compInts m vs = some ws → ∀ (i:Nat) (v:Value),vals[i]? = some v → ∃ a t,v = Value.int a t:=by
  induction vs with
  | nil=>intro ws vals h e i v hv;obtain rfl:=h;exact noS hv
  | cons u r ih=>
    intro ws vals h e i v hv
    obtain ⟨a,s,rfl,h,t⟩:=h.cons_inv
    refine bindE e fun j h1 e=>mapE e fun us h2 e=>?_
    cases i with
    | zero=>obtain ⟨x,hx⟩:=(asInt_eq h1 ▸ h:VRel N w (.int j) a).int_inv;exact ⟨j,x,(Option.some.inj hv).symm.trans hx⟩
    | succ i=>exact ih t h2 i v hv
theorem all_same {vs vals:List Value} (hl:vs.length = vals.length) (h:∀ (j:Nat) v,vs[j]? = some v → vals[j]? = some v):vs = vals:=by
  apply List.ext_getElem?
  intro j
  by_cases hj:j < vs.length
  · rw [List.getElem?_eq_getElem hj,h j _ (List.getElem?_eq_getElem hj)]
  · rw [List.getElem?_eq_none (by omega),List.getElem?_eq_none (by omega)]
section
variable {C:Cx} {Φ:Phi} {n:Nat} {f:Fc}
theorem clos_nil {sc:Scope} {x:Str} {env:Env} (hn:sc.names = [((".0":Str),NameKind.local),(x,NameKind.local)]):closureFor sc env = pure []:=by
  unfold closureFor
  rw [hn]
  rfl
theorem names_cell {sc:Scope} {x:Str} (hn:sc.names = [((".0":Str),NameKind.local),(x,NameKind.local)]):∀ y ∈ sc.names,y.2 ≠ .cell:=by
  rw [hn];intro y hy
  rcases List.mem_cons.mp hy with rfl | hy
  · exact fun z=>nomatch z
  · rcases List.mem_cons.mp hy with rfl | hy
    · exact fun z=>nomatch z
    · cases hy
theorem names_look {sc:Scope} {x:Str} (hn:sc.names = [((".0":Str),NameKind.local),(x,NameKind.local)]) (hx:(x == (".0":Str)) = false):sc.names.lookup x = some .local:=by
  rw [hn,List.lookup_cons,hx]
  simp [List.lookup_cons]
theorem names_all {sc:Scope} {x:Str} (hn:sc.names = [((".0":Str),NameKind.local),(x,NameKind.local)]) (hx:(x == (".0":Str)) = false):∀ y ∈ sc.names,y.2 = .local → sc.names.lookup y.1 = some .local:=by
  intro y hy _
  have h2:=names_look hn hx
  rw [hn] at hy
  rcases List.mem_cons.mp hy with rfl | hy
  · rw [hn];simp [List.lookup_cons]
  · rcases List.mem_cons.mp hy with rfl | hy
    · exact h2
    · cases hy
theorem quiet_mod {M:Program} {W:World} {A:Around} {env:Env} {sc:Scope} {x:Str} {m:Int} {p1 p2 p3:Pos} {k:Nat} {wr:List Addr} {P:Nat → Value → Prop} {s:Shared} (hm:0 < m) (hP:∀ i v,P i v → ∃ a t,v = .int a t) (hsc:sc.kind = .function) (hp:isPlainName x = true)
    (hlook:sc.names.lookup x = some .local):QuietOnC M W A env sc [] x [] (.BinOp (.Name x p1) .Mod (.Constant (.int m) k p2) p3) wr P (fun _=>true) (modF m) s where
  tests:=by
    intro Cc i v s₃ m₃ E' _ _ _ _ _ _
    exact wpAny_pure ⟨rfl,keeps_refl _⟩
  elt:=by
    intro Cc i v s₃ m₃ E' _ hv _ hns hmx _ _
    have hd:(x == ("__debug__":Str)) = false:=by
      have:=(Bool.and_eq_true_iff.mp hp).1
      simpa using this
    obtain ⟨a,t,rfl⟩:=hP i v hv
    rw [arm_eval_BinOp]
    refine wpAny_bind (wpAny_Name (wpAny_loadName_local (env:=compEnvC sc [] Cc env) hsc (lookup_relabel_local hlook) hns hmx ?_) hd)
    refine wpAny_bind (wpAny_holding ?_)
    refine wpAny_mkInt ?_
    refine wpAny_bind (wpAny_standAt (wpAny_operating (mod_int' (by omega) ?_)))
    exact ⟨fun a' t' e=>by cases e;exact ⟨_,rfl⟩,keeps_tok _ _⟩
theorem sc2_eq {sc:Scope} {x:Str} (h:sc2B sc x = true):sc.names = [((".0":Str),NameKind.local),(x,NameKind.local)]:=by
  have h0:=Nat.eq_of_beq_eq_true (andL h)
  have h1:=andL (andR h)
  have h2:=andR (andR h)
  generalize sc.names = l at h0 h1 h2
  match l,h0 with
  | [(a,j),(b,k)],_=>
    obtain rfl:=eqS_eq (andL h1)
    obtain rfl:=eqS_eq (andL h2)
    obtain rfl:=Option.some.inj (isLoc_eq (andR h1))
    obtain rfl:=Option.some.inj (isLoc_eq (andR h2))
    rfl
inductive CompAt (N:Nm) (w:Wd) (h:Heap) (m:Int) (ws:List MV):Value → Prop
  | mk {q:Addr} {o:Obj} {vals:List Value} {vs:List MV} {k:Nat} (hat:h.get? q = some o) (c1:o.cls = .type "list") (c2:o.data = .seq vals.toArray k) (hr:VRels N w vs vals) (hn:vals.length ≤ lim) (hc:compInts m vs = some ws) (hl:vs.length ≤ lim):CompAt N w h m ws (.ref q)
theorem comp_at {w:Wd} {P:PMap} {sh:Sto} {s:Shared} {m:Int} {vs ws:List MV} {a:Value} (S:Sh C.N w P sh s.heap) (h:VRel C.N w (.lst vs) a) (hc:compInts m vs = some ws) (hl:vs.length ≤ lim):CompAt C.N w s.heap m ws a:=by
  cases lst_at S h with
  | mk hli hr hn=>obtain ⟨o,hat,c1,k,c2⟩:=hli;exact ⟨hat,c1,c2,hr,hn,hc,hl⟩
theorem x_comp (fo:FcOk f) {m:Int} {e:ME} {t:Expr} {x:Str} {p1 p2 p3 p4:Pos} {k:Nat} {sc:Scope} {pos:Pos} {st:St} {V:MV → St → Prop} (ok:okE C f e t = true) (hd:e ≠ .dead) (hm:0 < m) (hsc:sc.kind = ScopeKind.function) (hn:sc.names = [((".0":Str),NameKind.local),(x,NameKind.local)])
    (hx:(x == (".0":Str)) = false) (hp:isPlainName x = true) (r:Xv C n f (eval (toE C f e t)) st fun a s1=>∃ vs ws,a = .lst vs ∧ vs.length ≤ lim ∧ compInts m vs = some ws ∧ V (.lst ws) s1) :
    Xv C n f (eval (.ListComp (.BinOp (.Name x p1) .Mod (.Constant (.int m) k p2) p3) [⟨.Name x p4,toE C f e t,[],0⟩] sc pos)) st V:=fun A E s w ω P L fa q cd Q hA F go=>by
  refine wpAny_ListComp_free (fun _=>true) (modF m) (clos_nil hn) (names_cell hn) hsc (names_all hn hx) (names_look hn hx) ?_ (fun v=>folded_none ok hd)
  refine r hA F fun a s1 H w1 ω1 h1' tk1 a x1 F1 V1=>?_
  obtain ⟨vs,ws,rfl,hlim,hc,H⟩:=H
  cases comp_at (s:={ s with heap:=h1',toks:=tk1 }) F1.sh V1 hc hlim with | mk hat c1 c2 hrel hlen h2 hlen2=>
  clear V1
  rename_i qa o vals us kk
  have hat:h1'.get? qa = some o:=hat
  refine wpAny_pyIter_list ⟨_,hat,c1,_,c2⟩ ?_
  have hne:qa ≠ h1'.objs.size:=fun z=>by rw [z,Heap.get?_none_of_le (Nat.le_refl _)] at hat;exact noS hat
  refine ⟨h1'.objs.size,_,_,vals.toArray.size,_,_,rfl,Walks.list hA.hand h1'.objs.size qa hne vals.toArray,by rw [List.size_toArray,sizeLine_lim];exact hlen,⟨⟨_,Heap.get?_push_size _ rfl,rfl,rfl⟩,⟨_,Heap.get?_push_of_some _ hat,c1,_,c2⟩⟩,?_,?_,?_⟩
  · intro b hb
    refine Nat.lt_of_lt_of_eq ?_ (Heap.size_push _ _).symm
    rcases List.mem_cons.mp hb with z | hb
    · rw [z];exact Nat.lt_succ_self _
    · rw [List.mem_singleton.mp hb];exact Nat.lt_succ_of_lt (Heap.lt_size hat)
  · exact quiet_mod hm (fun i v hv=>rels_ints hrel h2 i v (by simpa using hv)) hsc hp (names_look hn hx)
  · intro Dd h' tk ys us hD hl hpl hulen hus hpair hkeep
    obtain rfl:us = vals:=all_same (by simpa using hulen) fun j v hv=>by simpa using hus j v hv
    rw [List.filter_eq_self.mpr (fun _ _=>rfl)] at hpair
    have hk:∀ b o,h1'.get? b = some o → h'.get? b = some o:=fun b o e=>hkeep b o (fun z=>by
      rw [List.mem_singleton.mp z,Heap.get?_none_of_le (Nat.le_refl _)] at e;exact noS e) (Heap.get?_push_of_some _ e)
    have hDn:h1'.get? Dd = none:=by
      cases z:h1'.get? Dd with
      | none=>rfl
      | some o=>rw [Heap.get?_push_of_some _ z] at hD;cases hD
    obtain ⟨nD,hat2⟩:=hpl
    obtain ⟨x2,F2⟩:=F1.addNew (h':=h') hk hDn hat2
    have hV:VRels C.N (w1.add Dd { cls:=.type "list",data:=.seq ys nD }) ws ys.toList:=comp_rel hrel h2 hpair
    exact go _ s1 H _ ω1 h' tk _ (x1.trans x2) F2 (.lst (vals:=ys.toList) Wd.add_at ⟨by rw [← hV.length_eq,comp_len hc];exact hlim,rfl,nD,by simp⟩ hV)
end
open PySem PySem.W PyProof.Rows PySem.Calls PySem.Builtin
theorem isAbs_eq {x:ME} (h:isAbs x = true):x = .abs:=by
  cases x with
  | abs=>rfl
  | _=>exact noB h
section
variable {C:Cx} {Ψ:Psi} {n:Nat} {f:Fc} {v:MV} {sh:Sto}
noncomputable abbrev Es (C:Cx) (Ψ:Psi) (n:Nat) (f:Fc) (v:MV) (sh:Sto) (e:ME) (tr:Env → Sem Value):Prop:=∀ ⦃st:St⦄ ⦃k:MV → St → Ds → R⦄ ⦃ds:Ds⦄ ⦃V:MV → St → Prop⦄,Good (evT C.N.T Ψ e st k ds) v sh → Kq v sh k V → rl st.sh ≤ rl sh ∧ Xv C n f tr st V
theorem part_s {x:ME} {t:Expr} (ok:(isAbs x || okE C f x t) = true) (ih:okE C f x t = true → Es C Ψ n f v sh x (eval (toE C f x t))):Es C Ψ n f v sh x (evalPart (bif isAbs x then none else some (toE C f x t))):=fun st k ds V h K=>by
  cases hx:isAbs x with
  | true=>
    obtain rfl:=isAbs_eq hx
    exact ⟨(K _ _ ds h).1,fun A E s w ω P L fa q cd Q hA F go=>by
      show wpAny _ _ (evalPart none _) _ _ _
      rw [evalPart_none]
      exact wpAny_pure (go _ _ (K _ _ ds h).2 w ω s.heap s.toks _ (.refl w) F .none)⟩
  | false=>
    rw [hx] at ok
    refine ⟨(ih ok h K).1,fun A E s w ω P L fa q cd Q hA F go=>?_⟩
    show wpAny _ _ (evalPart (some _) _) _ _ _
    rw [evalPart_some]
    exact (ih ok h K).2 hA F go
theorem slice_plain {x:ME} {t:Expr} (ok:okE C f x t = true):isPlainSlice (toE C f x t):=by
  cases x with
  | abs=>exact noB ok
  | dead=>
    have ok:plainEx t = true:=ok
    cases t with
    | Slice _ _ _ _=>exact noB ok
    | _=>exact fun _ _=>rfl
  | _=>exact fun _ _=>rfl
theorem fun_kind {k:ScopeKind} (h:funB k = true):k = .function:=by
  have:=Nat.eq_of_beq_eq_true h
  cases k <;> first | rfl | cases this
theorem val_true {ex:Expr} {env:Env} {whole:Sem Value} (h:plainTrue ex = true):isTrue ex env whole = (do
    let v ← whole
    standAt ex.pos
    holding [v] (PySem.truthy v)):=by
  cases ex with
  | UnaryOp _ _ _=>exact noB h
  | BoolOp _ _ _=>exact noB h
  | IfExp _ _ _ _=>exact noB h
  | Compare _ _ _ _=>exact noB h
  | _=>rfl
variable (D:Snd C Ψ.phi n) (fo:FcOk f) (G:RgOk C) (hr:rl sh ≤ lim)
include D fo G hr
mutual
theorem ev_s:∀ (e:ME) (t:Expr),okE C f e t = true → Es C Ψ n f v sh e (eval (toE C f e t))
  | .k x,t,ok=>fun st k ds V h K=>⟨(K x st ds h).1,fun A E s w ω P L fa q cd Q hA F go=>by
    have go:=go x st (K x st ds h).2 w ω s.heap
    cases x with
    | none=>exact wpAny_pure (go s.toks _ (.refl w) F .none)
    | bool b=>exact wpAny_pure (go s.toks _ (.refl w) F (.bool _))
    | int i=>exact wpAny_mkInt (go _ _ (.refl w) F (.int _ _))
    | str x=>exact wpAny_mkText (go _ _ (.refl w) F (.str _ (leN_le ok)))
    | _=>exact noB ok⟩
  | .v i,t,ok=>fun st k ds V h K=>onE h fun p e h=>⟨getVar_sh e ▸ (K p.1 p.2 ds h).1,fun A E s w ω P L fa q cd Q hA F go=>
      name_v fo (nameAt (andL ok)) (nameLoc (andL ok)) (plainN_eq (andR ok)) F e (go p.1 p.2 (K p.1 p.2 ds h).2)⟩
  | .g i,t,ok=>fun st k ds V h K=>onE h fun u e h=>⟨(K u st ds h).1,fun A E s w ω P L fa q cd Q hA F go=>
      name_g D fo rfl (lookGlo (andL ok)) (plainN_eq (andR ok)) F e (go u st (K u st ds h).2)⟩
  | .at e a,t,ok=>fun st k ds V h K=>by
    have r:=ev_s e (kid0 t) (andL ok) (V:=fun u s1=>∃ r,getA C.N.T s1.sh u a = some r ∧ V r s1) h fun u s1 d1 h=>onE h fun r e h=>⟨(K r s1 d1 h).1,r,e,(K r s1 d1 h).2⟩
    refine ⟨r.1,fun A E s w ω P L fa q cd Q hA F go=>?_⟩
    show wpAny _ _ (eval (.Attribute _ _ _) _) _ _ _
    rw [arm_eval_Attribute]
    exact wpAny_bind (base_ok (andL ok) (fun z=>by rw [z] at h;exact h) (r.2 hA F fun u s1 H w1 ω1 h1 tk1 oa x1 F1 V1=>H.elim fun r H=>
      wpAny_bind (wpAny_standAt (wpAny_bind (wpAny_holding (getA_ok D.O F1 V1 H.1 (ltN_lt (andR ok)) fun w2 ω2 h2 tk2 ra x2 F2 V2=>wpAny_bind (wpAny_letTemporaryGo (wpAny_pure (go r s1 H.2 w2 ω2 h2 tk2 ra (x1.trans x2) F2 V2)))))))))
  | .bin op l r,t,ok=>fun st k ds V h K=>by
    have r:=ev_s l (kid0 t) (andL ok) (V:=fun a s1=>Xv C n f (eval (toE C f r (kid1 t))) s1 fun b s2=>binOk op a b = true ∧ ∃ u,binop op a b = some u ∧ V u s2) h fun a s1 d1 h=>
      ev_s r (kid1 t) (andR ok) h fun b s2 d2 h=>brC h fun hk d3 h=>onE h fun u e h=>⟨(K u s2 d3 h).1,hk,u,e,(K u s2 d3 h).2⟩
    refine ⟨r.1,fun A E s w ω P L fa q cd Q hA F go=>?_⟩
    show wpAny _ _ (eval (.BinOp _ _ _ _) _) _ _ _
    rw [arm_eval_BinOp]
    exact wpAny_bind (r.2 hA F fun a s1 H w1 ω1 h1 tk1 va x1 F1 V1=>wpAny_bind (wpAny_holding (H hA F1 fun b s2 H w2 ω2 h2 tk2 vb x2 F2 V2=>
      wpAny_bind (wpAny_standAt (wpAny_operating (H.2.elim fun u H2=>binF_ok F2 (V1.mono x2) V2 H.1 H2.1 fun w3 ω3 h3 tk3 vc x3 F3 V3=>go u s2 H2.2 w3 ω3 h3 tk3 vc ((x1.trans x2).trans x3) F3 V3))))))
  | .not x,t,ok=>fun st k ds V h K=>by
    have r:=ev_s x (kid0 t) ok (V:=fun a s1=>∃ b,Mine.truthy s1.sh a = some b ∧ V (.bool (!b)) s1) h fun a s1 d1 h=>onE h fun u e h=>⟨(K _ s1 d1 h).1,u,e,(K _ s1 d1 h).2⟩
    refine ⟨r.1,fun A E s w ω P L fa q cd Q hA F go=>?_⟩
    show wpAny _ _ (eval (.UnaryOp _ _ _) _) _ _ _
    rw [arm_eval_UnaryOp]
    exact wpAny_bind (r.2 hA F fun a s1 H w1 ω1 h1 tk1 va x1 F1 V1=>H.elim fun b H=>wpAny_bind (wpAny_standAt (wpAny_holding (PySem.not_value (truthy_ok F1.sh V1 H.1 fun tk=>go _ s1 H.2 w1 ω1 h1 tk _ x1 F1 (.bool _))))))
  | .bo a es,t,ok=>fun st k ds V h K=>evBo_s es (subs t) ok h K
  | .neg x,t,ok=>fun st k ds V h K=>by
    have r:=ev_s x (kid0 t) ok (V:=fun a s1=>∃ i,a = .int i ∧ V (.int (-i)) s1) h fun a s1 d1 h=>onE h fun i e h=>⟨(K _ s1 d1 h).1,i,asInt_eq e,(K _ s1 d1 h).2⟩
    refine ⟨r.1,fun A E s w ω P L fa q cd Q hA F go=>?_⟩
    show wpAny _ _ (eval (.UnaryOp _ _ _) _) _ _ _
    rw [arm_eval_UnaryOp]
    exact wpAny_bind (r.2 hA F fun a s1 H w1 ω1 h1 tk1 va x1 F1 V1=>H.elim fun i H=>(H.1 ▸ V1:VRel C.N w1 (.int i) va).elim fun t e=>e ▸ wpAny_bind (wpAny_standAt (wpAny_holding (PySem.P.neg_int (go _ s1 H.2 w1 ω1 h1 _ _ x1 F1 (.int _ _))))))
  | .ife c a b,t,ok=>fun st k ds V h K=>by
    have r:=tst_s c (kid0 t) (andL ok) (V:=fun d s1=>(d = true → Xv C n f (eval (toE C f a (kid1 t))) s1 V) ∧ (d = false → Xv C n f (eval (toE C f b (kid2 t))) s1 V)) h fun d s1 d1 h=>brE h
        (fun e d2 h=>let r:=ev_s a (kid1 t) (andL (andR ok)) h K;⟨r.1,fun _=>r.2,fun z=>noB (z.symm.trans e)⟩) (fun e d2 h=>let r:=ev_s b (kid2 t) (andR (andR ok)) h K;⟨r.1,fun z=>noB (e.symm.trans z),fun _=>r.2⟩)
    refine ⟨r.1,fun A E s w ω P L fa q cd Q hA F go=>?_⟩
    show wpAny _ _ (eval (.IfExp _ _ _ _) _) _ _ _
    rw [arm_eval_IfExp]
    refine wpAny_bind (r.2 hA F fun d s1 H w1 ω1 h1 tk1 x1 F1=>?_)
    cases d with
    | true=>rw [if_pos rfl];exact H.1 rfl hA F1 fun u s2 H w2 ω2 h2 tk2 va x2 F2 V2=>go u s2 H w2 ω2 h2 tk2 va (x1.trans x2) F2 V2
    | false=>rw [if_neg Bool.false_ne_true];exact H.2 rfl hA F1 fun u s2 H w2 ω2 h2 tk2 va x2 F2 V2=>go u s2 H w2 ω2 h2 tk2 va (x1.trans x2) F2 V2
  | .cmp l r,t,ok=>fun st k ds V h K=>by
    have r:=ev_s l (kid0 t) (andL ok) (V:=fun a s1=>Xc C n f (fun la env=>compareChain t.pos la (opsOf r) (markedEach (opsOf r) (toCs C f r (kids1 t)) (evalEach (toCs C f r (kids1 t)) env))) Value.bool a s1 fun b s2=>V (.bool b) s2) h fun a s1 d1 h=>
      let r:=evCmp_s r (kids1 t) (andR ok) (p:=t.pos) h (V:=fun b s2=>V (.bool b) s2) fun b s2 d2 h=>K _ s2 d2 h
      ⟨r.1,r.2.1⟩
    refine ⟨r.1,fun A E s w ω P L fa q cd Q hA F go=>?_⟩
    show wpAny _ _ (eval (.Compare _ _ _ _) _) _ _ _
    rw [arm_eval_Compare]
    exact wpAny_bind (r.2 hA F fun a s1 H w1 ω1 h1 tk1 va x1 F1 V1=>H hA F1 V1 fun b s2 H w2 ω2 h2 tk2 x2 F2=>go _ s2 H w2 ω2 h2 tk2 _ (x1.trans x2) F2 (.bool _))
  | .call g as ks,t,ok=>fun st k ds V h K=>onE h fun fv hg h=>by
    have ok3:=andR (andR ok)
    have r:=evs_s as (kids1 t) (andL ok3) (V:=fun vs s1=>Xp C n f (fun w u a=>LRel C.N w u ((kwN C ks).zip a)) (fun env=>evalAll ((backToKw t.pos (keywordEach (toKs C f ks (kwds t)) env)).map (·.2))) s1
        fun kv s2=>∃ r,callV C.N.T Ψ.phi fv vs kv s2.sh = some r ∧ rl r.2 ≤ rl sh ∧ V r.1 { s2 with sh:=r.2 }) h fun vs s1 d1 h=>
        evk_s ks (kwds t) (andR ok3) h fun kv s2 d2 h=>onE h fun p e h=>brC h fun hk d3 h=>
          have e:=callVT_ok e hk
          have K:=K _ _ d3 h
          ⟨Nat.le_trans (callV_mono D.mono e (Nat.le_trans K.1 hr)) K.1,p.2,e,K.1,K.2⟩
    refine ⟨r.1,fun A E s w ω P L fa q cd Q hA F go=>wpAny_Call_Name_kw (name_g D fo rfl (lookGlo (andL ok)) (plainN_eq (andL (andR ok))) F hg fun w1 ω1 h1 tk1 fva x1 F1 V1=>?_)⟩
    refine callWith_ok (by rw [argsEs (andL ok3)];exact args_all) kwsKs ?_
    rw [argsEs (andL ok3),kwN_ok]
    exact r.2 hA F1 fun vs s1 H w2 ω2 h2 tk2 avs x2 F2 V2=>H hA F2 fun kv s2 H w3 ω3 h3 tk3 kvs x3 F3 V3=>H.elim fun r H=>
        ⟨keep_callee D F3.sh hg (V1.mono (x2.trans x3)) H.1,callV_ok D.O D.B D.H D.HI F3 H.1 (Nat.le_trans H.2.1 hr) hA (V1.mono (x2.trans x3)) (V2.1.mono x3) V3 fun w4 h4 tk4 ra x4 F4 V4=>go _ _ H.2.2 w4 ω3 h4 tk4 ra (((x1.trans x2).trans x3).trans x4) F4 V4⟩
  | .mc o a as ks,t,ok=>fun st k ds V h K=>by
    have ok3:=andR (andR ok)
    have ok4:=andR ok3
    have r:=ev_s o (kid0 (kid0 t)) (andL ok) (V:=fun ov s0=>∃ c,resolve C.N.T s0.sh ov a = some c ∧ Xp C n f (VRn C.N (mEs as)) (fun env=>spliced ((toEs C f as (kids1 t)).map fun ex=>(false,eval ex env))) s0 fun vs s1=>
        Xp C n f (fun w u a=>LRel C.N w u ((kwN C ks).zip a)) (fun env=>evalAll ((backToKw t.pos (keywordEach (toKs C f ks (kwds t)) env)).map (·.2))) s1
        fun kv s2=>methOk s2.sh ov a vs = true ∧ ∃ r,callC C.N.T Ψ.phi c ov a vs kv s2.sh = some r ∧ rl r.2 ≤ rl sh ∧ V r.1 { s2 with sh:=r.2 }) h fun ov s0 d0 h=>onE h fun c e h=>
      let r:=evs_s as (kids1 t) (andL ok3) h fun vs s1 d1 h=>
        evk_s ks (kwds t) (andL ok4) h fun kv s2 d2 h=>brC h fun hok d3 h=>onE h fun p e h=>brC h fun hk d4 h=>
          have e:=callCT_ok e hk
          have K:=K _ _ d4 h
          ⟨Nat.le_trans (callC_mono D.mono e (Nat.le_trans K.1 hr)) K.1,hok,p.2,e,K.1,K.2⟩
      ⟨r.1,c,e,r.2⟩
    refine ⟨r.1,fun A E s w ω P L fa q cd Q hA F go=>?_⟩
    show wpAny _ _ (eval (.Call (.Attribute _ _ _) _ _ _) _) _ _ _
    rw [arm_eval_Call]
    refine wpAny_bind (base_ok (andL ok) (fun z=>by rw [z] at h;exact h) (r.2 hA F fun ov s0 H w1 ω1 h1 tk1 oa x1 F1 V1=>wpAny_bind (wpAny_standAt ?_)))
    obtain ⟨c,hc,H⟩:=H
    refine methodCall_ok (by rw [lenEs,lenKs];exact ltN_lt (andL (andR ok4))) (by rw [argsEs (andL ok3)];exact args_all) kwsKs (andR (andR ok4)) fun pl=>?_
    refine getM_ok D.O D.N F1 V1 (ltN_lt (andL (andR ok))) hc fun w2 ω2 h2 tk2 r x2 F2 c2=>?_
    refine callWith_ok (by rw [argsEs (andL ok3)];exact args_all) kwsKs ?_
    rw [argsEs (andL ok3),kwN_ok]
    exact H hA F2 fun vs s1 H w3 ω3 h3 tk3 avs x3 F3 V3=>H hA F3 fun kv s2 H w4 ω4 h4 tk4 kvs x4 F4 V4=>H.2.elim fun r H2=>
      ⟨(c2.mono (x3.trans x4)).keep D F4.sh,callC_ok D F4 (c2.mono (x3.trans x4)) (V1.mono ((x2.trans x3).trans x4)) H.1 H2.1 (Nat.le_trans H2.2.1 hr) hA (V3.1.mono x4) V4 fun w5 h5 tk5 ra x5 F5 V5=>go _ _ H2.2.2 w5 ω4 h5 tk5 ra ((((x1.trans x2).trans x3).trans x4).trans x5) F5 V5⟩
  | .sub b i,t,ok=>fun st k ds V h K=>by
    have r:=ev_s b (kid0 t) (andL ok) (V:=fun a s1=>Xv C n f (eval (toE C f i (kid1 t))) s1 fun c s2=>∃ u,subV s2.sh a c = some u ∧ V u s2) h fun a s1 d1 h=>
      ev_s i (kid1 t) (andR ok) h fun c s2 d2 h=>(subT_ok h).elim fun d3 h=>onE h fun u e h=>⟨(K u s2 d3 h).1,u,e,(K u s2 d3 h).2⟩
    exact ⟨r.1,fun A E s w ω P L fa q cd Q hA F go=>Subscript_ (r.2 hA F fun a s1 H w1 ω1 h1 tk1 va x1 F1 V1=>H hA F1 fun c s2 H w2 ω2 h2 tk2 vb x2 F2 V2=>H.elim fun u H=>
      sub_ok D.O F2 (V1.mono x2) V2 H.1 (slice_plain (andR ok)) fun w3 ω3 h3 tk3 vc x3 F3 V3=>go u s2 H.2 w3 ω3 h3 tk3 vc ((x1.trans x2).trans x3) F3 V3)⟩
  | .sl b lo hi,t,ok=>fun st k ds V h K=>by
    have r:=ev_s b (kid0 t) (andL ok) (V:=fun a s1=>Xv C n f (evalPart (bif isAbs lo then none else some (toE C f lo (kid0 (kid1 t))))) s1 fun c s2=>Xv C n f (evalPart (bif isAbs hi then none else some (toE C f hi (kid1 (kid1 t))))) s2
        fun d s3=>∃ u,slV s3.sh a c d = some u ∧ V u s3) h fun a s1 d1 h=>
      part_s (andL (andR ok)) (fun ok=>ev_s lo (kid0 (kid1 t)) ok) h fun c s2 d2 h=>part_s (andR (andR ok)) (fun ok=>ev_s hi (kid1 (kid1 t)) ok) h fun d s3 d3 h=>onE h fun u e h=>⟨(K u s3 d3 h).1,u,e,(K u s3 d3 h).2⟩
    refine ⟨r.1,fun A E s w ω P L fa q cd Q hA F go=>Subscript_ (r.2 hA F fun a s1 H w1 ω1 h1 tk1 va x1 F1 V1=>wpAny_Slice (H hA F1 fun c s2 H w2 ω2 h2 tk2 vl x2 F2 V2=>H hA F2 fun d s3 H w3 ω3 h3 tk3 vh x3 F3 V3=>?_))⟩
    obtain ⟨u,H⟩:=H
    rw [evalPart_none]
    refine wpAny_pure ?_
    have F4:=F3.keeps (h':=h3.push { cls:=.type "slice",data:=.fields #[vl,vh,.none] }) fun b o e=>Heap.get?_push_of_some _ e
    exact sl_ok (s:={ s with heap:=h3.push { cls:=.type "slice",data:=.fields #[vl,vh,.none] },toks:=tk3 }) D.O F4 (V1.mono (x2.trans x3)) (V2.mono x3) V3 (Heap.get?_push_size _ rfl) H.1
      fun w5 ω5 h5 tk5 vc x5 F5 V5=>go u s3 H.2 w5 ω5 h5 tk5 vc (((x1.trans x2).trans x3).trans x5) F5 V5
  | .subd keys es i,t,ok=>fun st k ds V h K=>by
    have o2:=andR ok
    have o3:=andR o2
    have o4:=andR o3
    have o5:=andR o4
    have r:=evp_s es (subs (kid0 t)) (andL ok) keys (dkeys (kid0 t)) (Nat.eq_of_beq_eq_true (andL o3)) (pos:=(kid0 t).pos) (V:=fun vs s1=>Xv C n f (eval (toE C f i (kid1 t))) s1 fun b s2=>∃ i u,b = .int i ∧ dispAt keys vs (.int i) = some u ∧ V u s2) h fun vs s1 d1 h=>
      ev_s i (kid1 t) (andR o5) h fun b s2 d2 h=>onE h fun u e h=>⟨(K _ s2 d2 h).1,bindE e fun j h1 _=>⟨j,u,asInt_eq h1,asInt_eq h1 ▸ e,(K _ s2 d2 h).2⟩⟩
    exact ⟨r.1,x_subd D (ltN_lt (andL o2)) (by rw [lenEs];exact (Nat.eq_of_beq_eq_true (andL o3)).symm) (ndI_ok (andL o4)) (fun z=>by have:=andL o5;rw [z] at this;exact noB this) (slice_plain (andR o5)) r.2⟩
  | .abs,t,ok=>noB ok
  | .list none es,t,ok=>fun st k ds V h K=>by
    have r:=evs_s es (subs t) (andL ok) (V:=fun vs s1=>V (.lst vs) s1) h fun vs s1 d1 h=>K _ s1 d1 h
    refine ⟨r.1,fun A E s w ω P L fa q cd Q hA F go=>?_⟩
    show wpAny _ _ (eval (.List _ _) _) _ _ _
    rw [arm_eval_List,argsEs (andL ok)]
    refine wpAny_bind (wpAny_standAt (wpAny_bind (r.2 hA F fun vs s1 H w1 ω1 h1 tk1 as x1 F1 V1=>?_)))
    have hl:=V1.le (andR ok)
    exact wpAny_newList (push_list (s:={ s with heap:=h1,toks:=tk1 }) F1 hl V1.1 (fun w2 ω2 h2 tk2 va x2 F2 V2=>go _ s1 H w2 ω2 h2 tk2 va (x1.trans x2) F2 V2) tk1) (by rw [sizeLine_lim];exact hl)
  | .list (some l) es,t,ok=>fun st k ds V h K=>by
    have r:=evs_s es (subs t) (andL ok) (V:=fun vs s1=>∃ p,addList s1 l vs = some p ∧ V p.1 p.2) h fun vs s1 d1 h=>onE h fun p e h=>⟨Nat.le_trans (addList_mono e) (K _ _ d1 h).1,p,e,(K _ _ d1 h).2⟩
    refine ⟨r.1,fun A E s w ω P L fa q cd Q hA F go=>?_⟩
    show wpAny _ _ (eval (.List _ _) _) _ _ _
    rw [arm_eval_List,argsEs (andL ok)]
    refine wpAny_bind (wpAny_standAt (wpAny_bind (r.2 hA F fun vs s1 H w1 ω1 h1 tk1 as x1 F1 V1=>?_)))
    have hl:=V1.le (andR ok)
    obtain ⟨p,e,H⟩:=H
    exact wpAny_newList (addSlot (s:={ s with heap:=h1,toks:=tk1 }) F1 hl V1.1 e (fun w2 ω2 h2 tk2 va x2 F2 V2=>go _ _ H w2 ω2 h2 tk2 va (x1.trans x2) F2 V2) tk1) (by rw [sizeLine_lim];exact hl)
  | .tup es,t,ok=>fun st k ds V h K=>by
    have r:=evs_s es (subs t) (andL ok) (V:=fun vs s1=>V (.tup vs) s1) h fun vs s1 d1 h=>K _ s1 d1 h
    refine ⟨r.1,fun A E s w ω P L fa q cd Q hA F go=>?_⟩
    show wpAny _ _ (eval (.Tuple _ _ _) _) _ _ _
    rw [arm_eval_Tuple,argsEs (andL ok)]
    refine wpAny_bind (wpAny_standAt (wpAny_bind (r.2 hA F fun vs s1 H w1 ω1 h1 tk1 as x1 F1 V1=>?_)))
    have hl:=V1.le (andR ok)
    exact wpAny_newTuple (push_tup (s:={ s with heap:=h1,toks:=tk1 }) F1 hl V1.1 (fun w2 ω2 h2 tk2 va x2 F2 V2=>go _ s1 H w2 ω2 h2 tk2 va (x1.trans x2) F2 V2) tk1) (by rw [sizeLine_lim];exact hl)
  | .comp m src,t,ok=>fun st k ds V h K=>by
    have o2:=andR ok
    have o3:=andR o2
    have o4:=andR o3
    have o5:=andR o4
    have r:=ev_s src (gen0 t).iter (andL o2) (V:=fun a s1=>∃ vs ws,a = .lst vs ∧ vs.length ≤ lim ∧ compInts m vs = some ws ∧ V (.lst ws) s1) h fun a s1 d1 h=>onE h fun vs e h=>brC h fun hl d2 h=>onE h fun ws e2 h=>
      ⟨(K _ s1 d2 h).1,vs,ws,asLst_eq e,leN_le hl,e2,(K _ s1 d2 h).2⟩
    exact ⟨r.1,x_comp fo (andL o2) (fun z=>by rw [z] at h;exact h) (of_decide_eq_true (andL ok)) (fun_kind (andL o3)) (sc2_eq (andL o4)) (eqS_beq.trans (notT (andL o5))) (plainN_eq (andL (andR o5))) r.2⟩
  | .skeys x,t,ok=>fun st k ds V h K=>by
    have r:=ev_s x (kid0 (kid0 (kid1 t))) (andL ok) (V:=fun a s1=>∃ kvs,a = .sd kvs ∧ kvs.length ≤ 60 ∧ ascX (kvs.map fun kv=>kv.1) = true ∧ V (.lst (kvs.map fun kv=>.str kv.1)) s1) h fun a s1 d1 h=>onE h fun kvs e h=>brC h fun hl d2 h=>
      ⟨(K _ s1 d2 h).1,kvs,asSd_eq e,leN_le (andL hl),andR hl,(K _ s1 d2 h).2⟩
    exact ⟨r.1,x_skeys D fo G (andL ok) (fun z=>by rw [z] at h;exact h) (lookGlo (andL (andR ok))) (andR (andR ok)) r.2⟩
  | .fmt2 a b,t,ok=>fun st k ds V h K=>by
    have r:=ev_s a (kid0 (hdE (subs t))) (andL ok) (V:=fun u s1=>∃ x,u = .str x ∧ x.length ≤ 1000000 ∧ Xv C n f (eval (toE C f b (kid0 (hdE (tlL (subs t)))))) s1 fun b s2=>∃ y,b = .str y ∧ x.length + y.length ≤ 1000000 ∧ V (.str (x ++ y)) s2) h fun u s1 d1 h=>onE h fun x e h=>brC h fun hx d2 h=>
      let r:=ev_s b (kid0 (hdE (tlL (subs t)))) (andR ok) (V:=fun b s2=>∃ y,b = .str y ∧ x.length + y.length ≤ 1000000 ∧ V (.str (x ++ y)) s2) h fun b s2 d3 h=>onE h fun y e2 h=>brC h fun hy d4 h=>⟨(K _ s2 d4 h).1,y,asStr_eq e2,leN_le hy,(K _ s2 d4 h).2⟩
      ⟨r.1,x,asStr_eq e,leN_le hx,r.2⟩
    exact ⟨r.1,x_fmt2 r.2⟩
  | .fmtT a,t,ok=>fun st k ds V h K=>by
    have r:=ev_s a (kid1 t) ok (V:=fun a s1=>∃ x,a = .str x ∧ x.length + 3 ≤ 1000000 ∧ V (.str ([33,60] ++ x ++ [62])) s1) h fun a s1 d1 h=>onE h fun x e h=>brC h fun hx d2 h=>⟨(K _ s1 d2 h).1,x,asStr_eq e,leN_le hx,(K _ s1 d2 h).2⟩
    exact ⟨r.1,x_fmtT r.2⟩
  | .dead,t,ok=>fun st k ds V h K=>(h:False).elim
theorem evs_s:∀ (es:MEs) (ts:List Expr),okEs C f es ts = true → ∀ ⦃st:St⦄ ⦃k:List MV → St → Ds → R⦄ ⦃ds:Ds⦄ ⦃V:List MV → St → Prop⦄,Good (evsT C.N.T Ψ es st k ds) v sh → Kq v sh k V →
    rl st.sh ≤ rl sh ∧ Xp C n f (VRn C.N (mEs es)) (fun env=>spliced ((toEs C f es ts).map fun ex=>(false,eval ex env))) st V
  | .nil,ts,ok=>fun st k ds V h K=>⟨(K _ _ ds h).1,fun A E s w ω P L fa q cd Q hA F go=>spliced_nil (go _ _ (K _ _ ds h).2 w ω s.heap s.toks [] (.refl w) F ⟨.nil,rfl⟩)⟩
  | .cons x r,ts,ok=>fun st k ds V h K=>
    let r:=ev_s x (hdE ts) (andL ok) (V:=fun a s1=>Xp C n f (VRn C.N (mEs r)) (fun env=>spliced ((toEs C f r (tlL ts)).map fun ex=>(false,eval ex env))) s1 fun b s2=>V (a :: b) s2) h fun a s1 d1 h=>evs_s r (tlL ts) (andR ok) h fun b s2 d2 h=>K _ s2 d2 h
    ⟨r.1,fun A E s w ω P L fa q cd Q hA F go=>spliced_cons (r.2 hA F fun a s1 H w1 ω1 h1 tk1 va x1 F1 V1=>H hA F1 fun b s2 H w2 ω2 h2 tk2 as x2 F2 V2=>go _ s2 H w2 ω2 h2 tk2 _ (x1.trans x2) F2 ⟨.cons (V1.mono x2) V2.1,congrArg (· + 1) V2.2⟩)⟩
theorem evp_s:∀ (es:MEs) (ts:List Expr),okEs C f es ts = true → ∀ (keys:List Int) (kt:List (Option Expr)),keys.length = mEs es → ∀ ⦃pos:Pos⦄ ⦃st:St⦄ ⦃k:List MV → St → Ds → R⦄ ⦃ds:Ds⦄ ⦃V:List MV → St → Prop⦄,Good (evsT C.N.T Ψ es st k ds) v sh → Kq v sh k V →
    rl st.sh ≤ rl sh ∧ Xp C n f (PairsRel C.N keys) (fun env=>evalPairs (pairTrees (toKx keys kt) (toEs C f es ts) env pos)) st V
  | .nil,ts,ok=>fun keys kt hl pos st k ds V h K=>by
    obtain rfl:=List.eq_nil_of_length_eq_zero hl
    exact ⟨(K _ _ ds h).1,fun A E s w ω P L fa q cd Q hA F go=>pairTrees_nil_walk (go _ _ (K _ _ ds h).2 w ω s.heap s.toks [] (.refl w) F ⟨rfl,rfl⟩)⟩
  | .cons x r,ts,ok=>fun keys kt hl pos st k ds V h K=>by
    cases keys with
    | nil=>exact absurd hl.symm (Nat.succ_ne_zero _)
    | cons key keys=>
      have rr:=ev_s x (hdE ts) (andL ok) (V:=fun a s1=>Xp C n f (PairsRel C.N keys) (fun env=>evalPairs (pairTrees (toKx keys (tlL kt)) (toEs C f r (tlL ts)) env pos)) s1 fun b s2=>V (a :: b) s2) h fun a s1 d1 h=>evp_s r (tlL ts) (andR ok) keys (tlL kt) (Nat.succ.inj hl) h fun b s2 d2 h=>K _ s2 d2 h
      refine ⟨rr.1,fun A E s w ω P L fa q cd Q hA F go=>pairTrees_cons_walk (wpAny_mkInt (rr.2 (s:={ s with toks:=s.toks + 1 }) hA F fun a s1 H w1 ω1 h1 tk1 va x1 F1 V1=>?_))⟩
      exact H hA F1 fun b s2 H w2 ω2 h2 tk2 ps x2 F2 PR=>go _ s2 H w2 ω2 h2 tk2 _ (x1.trans x2) F2 ⟨a,b,_,va,ps,rfl,rfl,V1.mono x2,PR⟩
theorem evk_s:∀ (es:MKs) (ts:List Keyword),okKs C f es ts = true → ∀ ⦃pos:Pos⦄ ⦃st:St⦄ ⦃k:List (Nat × MV) → St → Ds → R⦄ ⦃ds:Ds⦄ ⦃V:List (Nat × MV) → St → Prop⦄,Good (evkT C.N.T Ψ es st k ds) v sh → Kq v sh k V →
    rl st.sh ≤ rl sh ∧ Xp C n f (fun w u a=>LRel C.N w u ((kwN C es).zip a)) (fun env=>evalAll ((backToKw pos (keywordEach (toKs C f es ts) env)).map (·.2))) st V
  | .nil,ts,ok=>fun pos st k ds V h K=>⟨(K _ _ ds h).1,fun A E s w ω P L fa q cd Q hA F go=>wpAny_evalAll_nil (go _ _ (K _ _ ds h).2 w ω s.heap s.toks [] (.refl w) F .nil)⟩
  | .cons m x r,ts,ok=>fun pos st k ds V h K=>
    let r:=ev_s x (hdK ts).value (andL (andR ok)) (V:=fun a s1=>Xp C n f (fun w u a=>LRel C.N w u ((kwN C r).zip a)) (fun env=>evalAll ((backToKw pos (keywordEach (toKs C f r (tlL ts)) env)).map (·.2))) s1 fun b s2=>V ((m,a) :: b) s2) h fun a s1 d1 h=>
      evk_s r (tlL ts) (andR (andR ok)) h fun b s2 d2 h=>K _ s2 d2 h
    ⟨r.1,fun A E s w ω P L fa q cd Q hA F go=>wpAny_evalAll_cons (wpAny_bind (r.2 hA F fun a s1 H w1 ω1 h1 tk1 va x1 F1 V1=>wpAny_bind (wpAny_standAt (wpAny_pure (by
      exact H hA F1 fun b s2 H w2 ω2 h2 tk2 as x2 F2 V2=>go _ s2 H w2 ω2 h2 tk2 (va :: as) (x1.trans x2) F2 (.cons (ltN_lt (andL ok)) (V1.mono x2) V2))))))⟩
theorem evBo_s:∀ (es:MEs) (ts:List Expr),okEs C f es ts = true → ∀ ⦃a:Bool⦄ ⦃pos:Pos⦄ ⦃st:St⦄ ⦃k:MV → St → Ds → R⦄ ⦃ds:Ds⦄ ⦃V:MV → St → Prop⦄,Good (evBoT C.N.T Ψ a es st k ds) v sh → Kq v sh k V →
    rl st.sh ≤ rl sh ∧ Xv C n f (fun env=>boolOp pos (boOf a) (evalEach (toEs C f es ts) env)) st V
  | .nil,ts,ok=>fun a pos st k ds V h K=>(h:False).elim
  | .cons x .nil,ts,ok=>fun a pos st k ds V h K=>ev_s x (hdE ts) (andL ok) h K
  | .cons x (.cons y r),ts,ok=>fun a pos st k ds V h K=>by
    have r:=ev_s x (hdE ts) (andL ok) (V:=fun u s1=>∃ b,Mine.truthy s1.sh u = some b ∧ (b = a → Xv C n f (fun env=>boolOp pos (boOf a) (evalEach (toEs C f (.cons y r) (tlL ts)) env)) s1 V) ∧ (b ≠ a → V u s1)) h fun u s1 d1 h=>onE h fun b e h=>brE h
      (fun e1 d2 h=>let r:=evBo_s (.cons y r) (tlL ts) (andR ok) (a:=a) (pos:=pos) h K;⟨r.1,b,e,fun _=>r.2,fun z=>absurd (eq_of_beq e1) z⟩)
      (fun e1 d2 h=>⟨(K u s1 d2 h).1,b,e,fun z=>absurd (z ▸ e1:(a == a) = false) (by cases a <;> decide),fun _=>(K u s1 d2 h).2⟩)
    refine ⟨r.1,fun A E s w ω P L fa q cd Q hA F go=>?_⟩
    show wpAny _ _ (eval _ _ >>= _) _ _ _
    refine wpAny_bind (r.2 hA F fun u s1 H w1 ω1 h1 tk1 va x1 F1 V1=>H.elim fun b H=>wpAny_bind (wpAny_standAt (wpAny_bind (wpAny_holding (truthy_ok F1.sh V1 H.1 fun tk=>?_)))))
    have H1:=H.2.1
    have H2:=H.2.2
    cases a <;> cases b
    · exact H1 rfl hA F1 fun u s2 H w2 ω2 h2 tk2 va x2 F2 V2=>go u s2 H w2 ω2 h2 tk2 va (x1.trans x2) F2 V2
    · exact wpAny_pure (go u s1 (H2 Bool.noConfusion) w1 ω1 h1 tk va x1 F1 V1)
    · exact wpAny_pure (go u s1 (H2 Bool.noConfusion) w1 ω1 h1 tk va x1 F1 V1)
    · exact H1 rfl hA F1 fun u s2 H w2 ω2 h2 tk2 va x2 F2 V2=>go u s2 H w2 ω2 h2 tk2 va (x1.trans x2) F2 V2
theorem evCmp_s:∀ (cs:MCs) (ts:List Expr),okCs C f cs ts = true → ∀ ⦃p:Pos⦄ ⦃l:MV⦄ ⦃st:St⦄ ⦃k:Bool → St → Ds → R⦄ ⦃ds:Ds⦄ ⦃V:Bool → St → Prop⦄,Good (evCmpT C.N.T Ψ l cs st k ds) v sh → Kq v sh k V →
    rl st.sh ≤ rl sh ∧ Xc C n f (fun la env=>compareChain p la (opsOf cs) (markedEach (opsOf cs) (toCs C f cs ts) (evalEach (toCs C f cs ts) env))) Value.bool l st V ∧ Xc C n f (fun la env=>testChain p la (opsOf cs) (markedEach (opsOf cs) (toCs C f cs ts) (evalEach (toCs C f cs ts) env))) id l st V
  | .nil,ts,ok=>fun p l st k ds V h K=>(h:False).elim
  | .cons op x .nil,ts,ok=>fun p l st k ds V h K=>by
    have r:=ev_s x (hdE ts) (andL ok) (V:=fun u s1=>∃ b,cmpop op l u = some b ∧ V b s1) h fun u s1 d1 h=>onE h fun b e h=>⟨(K b s1 d1 h).1,b,e,(K b s1 d1 h).2⟩
    have hm:∀ t,markedBehindIn (copOf op) (toE C f x (hdE ts)) t = t:=fun t=>by unfold markedBehindIn;rw [notT (andL (andR ok))]
    refine ⟨r.1,fun A E s w ω P L fa q cd la Q hA F Vl go=>?_,fun A E s w ω P L fa q cd la Q hA F Vl go=>?_⟩
    · show wpAny _ _ (compareChain p la [copOf op] [markedBehindIn (copOf op) _ _]) _ _ _
      rw [hm]
      exact wpAny_bind (wpAny_holding (r.2 hA F fun u s1 H w1 ω1 h1 tk1 va x1 F1 V1=>H.elim fun b H=>wpAny_bind (wpAny_standAt (wpAny_operating (cmp_ok F1.sh (Vl.mono x1) V1 H.1 (go b s1 H.2 w1 ω1 h1 tk1 x1 F1))))))
    · show wpAny _ _ (testChain p la [copOf op] [markedBehindIn (copOf op) _ _]) _ _ _
      rw [hm]
      exact wpAny_bind (wpAny_holding (r.2 hA F fun u s1 H w1 ω1 h1 tk1 va x1 F1 V1=>H.elim fun b H=>wpAny_bind (wpAny_standAt (wpAny_bind (wpAny_operating (cmp_ok F1.sh (Vl.mono x1) V1 H.1 (wpAny_holding (wpAny_truthy_bool (go b s1 H.2 w1 ω1 h1 tk1 x1 F1)))))))))
  | .cons op x (.cons op' y r),ts,ok=>fun p l st k ds V h K=>by
    have r:=ev_s x (hdE ts) (andL ok) (V:=fun u s1=>∃ b,cmpop op l u = some b ∧ (b = true → Xc C n f (fun la env=>compareChain p la (opsOf (.cons op' y r)) (markedEach (opsOf (.cons op' y r)) (toCs C f (.cons op' y r) (tlL ts)) (evalEach (toCs C f (.cons op' y r) (tlL ts)) env))) Value.bool u s1 V ∧
        Xc C n f (fun la env=>testChain p la (opsOf (.cons op' y r)) (markedEach (opsOf (.cons op' y r)) (toCs C f (.cons op' y r) (tlL ts)) (evalEach (toCs C f (.cons op' y r) (tlL ts)) env))) id u s1 V) ∧ (b = false → V false s1)) h fun u s1 d1 h=>onE h fun b e h=>brE h
      (fun e1 d2 h=>let r:=evCmp_s (.cons op' y r) (tlL ts) (andR (andR ok)) (p:=p) h K;⟨r.1,b,e,fun _=>r.2,fun z=>noB (z.symm.trans e1)⟩) (fun e1 d2 h=>⟨(K _ s1 d2 h).1,b,e,fun z=>noB (e1.symm.trans z),fun _=>(K _ s1 d2 h).2⟩)
    refine ⟨r.1,fun A E s w ω P L fa q cd la Q hA F Vl go=>?_,fun A E s w ω P L fa q cd la Q hA F Vl go=>?_⟩
    · show wpAny _ _ (holding _ (eval _ _) >>= _) _ _ _
      refine wpAny_bind (wpAny_holding (r.2 hA F fun u s1 H w1 ω1 h1 tk1 va x1 F1 V1=>H.elim fun b H=>wpAny_bind (wpAny_standAt (wpAny_bind (wpAny_holding (cmp_ok F1.sh (Vl.mono x1) V1 H.1 (wpAny_bind (wpAny_release (wpAny_bind (wpAny_holding (wpAny_truthy_bool ?_)))))))))))
      cases b with
      | true=>rw [if_pos rfl];exact (H.2.1 rfl).1 hA F1 V1 fun b s2 H w2 ω2 h2 tk2 x2 F2=>go b s2 H w2 ω2 h2 tk2 (x1.trans x2) F2
      | false=>rw [if_neg Bool.false_ne_true];exact wpAny_pure (go false s1 (H.2.2 rfl) w1 ω1 h1 tk1 x1 F1)
    · show wpAny _ _ (holding _ (eval _ _) >>= _) _ _ _
      refine wpAny_bind (wpAny_holding (r.2 hA F fun u s1 H w1 ω1 h1 tk1 va x1 F1 V1=>H.elim fun b H=>wpAny_bind (wpAny_standAt (wpAny_bind (wpAny_holding (cmp_ok F1.sh (Vl.mono x1) V1 H.1 (wpAny_bind (wpAny_release (wpAny_bind (wpAny_holding (wpAny_truthy_bool ?_)))))))))))
      cases b with
      | true=>rw [if_pos rfl];exact (H.2.1 rfl).2 hA F1 V1 fun b s2 H w2 ω2 h2 tk2 x2 F2=>go b s2 H w2 ω2 h2 tk2 (x1.trans x2) F2
      | false=>rw [if_neg Bool.false_ne_true];exact wpAny_pure (go false s1 (H.2.2 rfl) w1 ω1 h1 tk1 x1 F1)
theorem tst_s:∀ (b:MB) (t:Expr),okB C f b t = true → ∀ ⦃st:St⦄ ⦃k:Bool → St → Ds → R⦄ ⦃ds:Ds⦄ ⦃V:Bool → St → Prop⦄,Good (tstT C.N.T Ψ b st k ds) v sh → Kq v sh k V →
    rl st.sh ≤ rl sh ∧ Xb C n f (fun env=>isTrue (toB C f b t) env (eval (toB C f b t) env)) st V
  | .not x,t,ok=>fun st k ds V h K=>
    let r:=tst_s x (kid0 t) ok (V:=fun b s1=>V (!b) s1) h fun b s1 d1 h=>K _ s1 d1 h
    ⟨r.1,fun A E s w ω P L fa q cd Q hA F go=>wpAny_bind (r.2 hA F fun b s1 H w1 ω1 h1 tk1 x1 F1=>wpAny_pure (go _ s1 H w1 ω1 h1 tk1 x1 F1))⟩
  | .bo a bs,t,ok=>fun st k ds V h K=>tstBo_s bs (subs t) ok h K
  | .ife c a b,t,ok=>fun st k ds V h K=>by
    have r:=tst_s c (kid0 t) (andL ok) (V:=fun d s1=>(d = true → Xb C n f (fun env=>isTrue (toB C f a (kid1 t)) env (eval (toB C f a (kid1 t)) env)) s1 V) ∧ (d = false → Xb C n f (fun env=>isTrue (toB C f b (kid2 t)) env (eval (toB C f b (kid2 t)) env)) s1 V)) h fun d s1 d1 h=>brE h
        (fun e d2 h=>let r:=tst_s a (kid1 t) (andL (andR ok)) h K;⟨r.1,fun _=>r.2,fun z=>noB (z.symm.trans e)⟩) (fun e d2 h=>let r:=tst_s b (kid2 t) (andR (andR ok)) h K;⟨r.1,fun z=>noB (e.symm.trans z),fun _=>r.2⟩)
    refine ⟨r.1,fun A E s w ω P L fa q cd Q hA F go=>?_⟩
    show wpAny _ _ (isTrue (.IfExp _ _ _ _) _ _) _ _ _
    rw [arm_isTrue_IfExp]
    refine wpAny_bind (r.2 hA F fun d s1 H w1 ω1 h1 tk1 x1 F1=>?_)
    cases d with
    | true=>rw [if_pos rfl];exact H.1 rfl hA F1 fun u s2 H w2 ω2 h2 tk2 x2 F2=>go u s2 H w2 ω2 h2 tk2 (x1.trans x2) F2
    | false=>rw [if_neg Bool.false_ne_true];exact H.2 rfl hA F1 fun u s2 H w2 ω2 h2 tk2 x2 F2=>go u s2 H w2 ω2 h2 tk2 (x1.trans x2) F2
  | .cmp l r,t,ok=>fun st k ds V h K=>
    let r:=ev_s l (kid0 t) (andL ok) (V:=fun a s1=>Xc C n f (fun la env=>testChain t.pos la (opsOf r) (markedEach (opsOf r) (toCs C f r (kids1 t)) (evalEach (toCs C f r (kids1 t)) env))) id a s1 V) h fun a s1 d1 h=>
      let r:=evCmp_s r (kids1 t) (andR ok) (p:=t.pos) h K
      ⟨r.1,r.2.2⟩
    ⟨r.1,fun A E s w ω P L fa q cd Q hA F go=>wpAny_bind (r.2 hA F fun a s1 H w1 ω1 h1 tk1 va x1 F1 V1=>H hA F1 V1 fun b s2 H w2 ω2 h2 tk2 x2 F2=>go b s2 H w2 ω2 h2 tk2 (x1.trans x2) F2)⟩
  | .val x,t,ok=>fun st k ds V h K=>by
    have r:=ev_s x t (andR ok) (V:=fun a s1=>∃ b,Mine.truthy s1.sh a = some b ∧ V b s1) h fun a s1 d1 h=>onE h fun u e h=>⟨(K _ s1 d1 h).1,u,e,(K _ s1 d1 h).2⟩
    refine ⟨r.1,fun A E s w ω P L fa q cd Q hA F go=>?_⟩
    show wpAny _ _ (isTrue (toE C f x t) _ (eval (toE C f x t) _)) _ _ _
    rw [val_true (andL ok)]
    exact wpAny_bind (r.2 hA F fun a s1 H w1 ω1 h1 tk1 va x1 F1 V1=>H.elim fun b H=>wpAny_bind (wpAny_standAt (wpAny_holding (truthy_ok F1.sh V1 H.1 fun tk=>go b s1 H.2 w1 ω1 h1 tk x1 F1))))
theorem tstBo_s:∀ (bs:MBs) (ts:List Expr),okBs C f bs ts = true → ∀ ⦃a:Bool⦄ ⦃st:St⦄ ⦃k:Bool → St → Ds → R⦄ ⦃ds:Ds⦄ ⦃V:Bool → St → Prop⦄,Good (tstBoT C.N.T Ψ a bs st k ds) v sh → Kq v sh k V →
    rl st.sh ≤ rl sh ∧ Xb C n f (fun env=>allTrue (boOf a) (toBs C f bs ts) env) st V
  | .nil,ts,ok=>fun a st k ds V h K=>⟨(K _ _ ds h).1,fun A E s w ω P L fa q cd Q hA F go=>by
    cases a <;> exact wpAny_pure (go _ _ (K _ _ ds h).2 w ω s.heap s.toks (.refl w) F)⟩
  | .cons x r,ts,ok=>fun a st k ds V h K=>by
    have r:=tst_s x (hdE ts) (andL ok) (V:=fun b s1=>(b = a → Xb C n f (fun env=>allTrue (boOf a) (toBs C f r (tlL ts)) env) s1 V) ∧ (b ≠ a → V b s1)) h fun b s1 d1 h=>brE h
      (fun e1 d2 h=>let r:=tstBo_s r (tlL ts) (andR ok) (a:=a) h K;⟨r.1,fun _=>r.2,fun z=>absurd (eq_of_beq e1) z⟩) (fun e1 d2 h=>⟨(K b s1 d2 h).1,fun z=>absurd (z ▸ e1:(a == a) = false) (by cases a <;> decide),fun _=>(K b s1 d2 h).2⟩)
    refine ⟨r.1,fun A E s w ω P L fa q cd Q hA F go=>?_⟩
    show wpAny _ _ (allTrue _ (_ :: _) _) _ _ _
    rw [arm_allTrue_cons]
    refine wpAny_bind (r.2 hA F fun b s1 H w1 ω1 h1 tk1 x1 F1=>?_)
    cases a <;> cases b
    · exact H.1 rfl hA F1 fun u s2 H w2 ω2 h2 tk2 x2 F2=>go u s2 H w2 ω2 h2 tk2 (x1.trans x2) F2
    · exact wpAny_pure (go _ s1 (H.2 Bool.noConfusion) w1 ω1 h1 tk1 x1 F1)
    · exact wpAny_pure (go _ s1 (H.2 Bool.noConfusion) w1 ω1 h1 tk1 x1 F1)
    · exact H.1 rfl hA F1 fun u s2 H w2 ω2 h2 tk2 x2 F2=>go u s2 H w2 ω2 h2 tk2 (x1.trans x2) F2
end
end
open PySem PySem.W PyProof.Rows PySem.Calls PySem.Builtin
noncomputable def FRel (N:Nm) (w:Wd) (r:Option MV) (fl:Flow):Prop:=Option.casesOn (motive:=fun _=>Prop) r (fl = .next) fun v=>∃ a,fl = .ret a ∧ VRel N w v a
section
variable (C:Cx) (n:Nat) (f:Fc)
noncomputable def Xs (t:Env → Sem Flow) (st:St) (V:Option MV → St → Prop):Prop:=
  ∀ ⦃A:Around⦄ ⦃E:Value → Shared → Prop⦄ ⦃s:Shared⦄ ⦃w:Wd⦄ ⦃ω:Nat → Option Addr⦄ ⦃P:PMap⦄ ⦃L:FL⦄ ⦃fa:Addr⦄ ⦃q:Str⦄ ⦃cd:Value⦄ ⦃Q:Flow → Shared → Prop⦄,Rm A (n + 1) → Fm C.N w ω P L f.nms st s.heap →
    (∀ r st',V r st' → ∀ w' ω' m' h' tk fl,w.Ext w' → Fm C.N w' ω' P ⟨L.a,m'⟩ f.nms st' h' → FRel C.N w' r fl → Q fl { s with heap:=h',toks:=tk }) → wpAny (model C.prog C.wd) A (t (envOf q f.sc L.a fa cd)) Q E s
noncomputable def Xt (t:Value → Env → Sem Unit) (v:MV) (st:St) (V:St → Prop):Prop:=
  ∀ ⦃A:Around⦄ ⦃E:Value → Shared → Prop⦄ ⦃s:Shared⦄ ⦃w:Wd⦄ ⦃ω:Nat → Option Addr⦄ ⦃P:PMap⦄ ⦃L:FL⦄ ⦃fa:Addr⦄ ⦃q:Str⦄ ⦃cd a:Value⦄ ⦃Q:Unit → Shared → Prop⦄,Rm A (n + 1) → Fm C.N w ω P L f.nms st s.heap → VRel C.N w v a →
    (∀ st',V st' → ∀ w' ω' m' h' tk,w.Ext w' → Fm C.N w' ω' P ⟨L.a,m'⟩ f.nms st' h' → Q () { s with heap:=h',toks:=tk }) → wpAny (model C.prog C.wd) A (t a (envOf q f.sc L.a fa cd)) Q E s
end
noncomputable abbrev KqS (v:MV) (sh:Sto) (k:St → Ds → R) (V:St → Prop):Prop:=∀ st' ds',Good (k st' ds') v sh → rl st'.sh ≤ rl sh ∧ V st'
theorem swaps_none {ex:Expr} (h:notComp ex = true) {t:Option Expr} {l:Nat} {env:Env}:swapsWith ex t l env = pure false:=by
  cases ex with
  | ListComp _ _ _ _=>exact noB h
  | SetComp _ _ _ _=>exact noB h
  | DictComp _ _ _ _ _=>exact noB h
  | _=>rfl
theorem sole_none {ts:List Expr} {ex:Expr} (h:notComp ex = true) {l:Nat} {env:Env}:swapsWithSole ts ex l env = pure false:=by
  unfold swapsWithSole
  split
  · exact swaps_none h
  · rfl
theorem swapped_none {ts:List Expr} {ex:Expr} (h:asgOk ts ex = true) {env:Env}:swappedStores ts ex env = pure none:=by
  have h2:=notT (andR h)
  cases ts with
  | nil=>rfl
  | cons t r=>
    have h3:(isSeqEx t && isSeqEx ex) = false:=h2
    cases r with
    | cons _ _=>cases t <;> rfl
    | nil=>cases t with
      | Tuple _ _ _=>cases ex with
        | Tuple _ _ _=>exact noB h3.symm
        | _=>rfl
      | List _ _=>cases ex with
        | Tuple _ _ _=>exact noB h3.symm
        | _=>rfl
      | _=>rfl
section
variable {C:Cx} {Φ:Phi} {n:Nat} {f:Fc} {w:Wd} {ω:Nat → Option Addr} {P:PMap} {L:FL} {fa:Addr} {st:St} {A:Around} {E:Value → Shared → Prop} {s:Shared} {q:Str} {cd:Value}
theorem ip_ok {op:Bop} {v x r:MV} {a b:Value} {Q:Value → Shared → Prop} (h:VRel C.N w v a) (h':VRel C.N w x b) (hk:(ipOk op v x && binOk op v x) = true) (e:binop op v x = some r)
    (k:BinK C.N w s r Q):wpAny (model C.prog C.wd) A (inplaceOp (bopOf op) a b) Q E s:=by
  have h2:=andR hk
  have h1:=andL hk
  cases op with
  | add=>
    refine orE e (fun e=>?_) fun e=>orE e (fun e=>?_) fun e=>bindE e fun vs e1 e=>?_
    · have H:=int2_ok h h' e
      clear h h' e
      cases H with | mk i j t u=>exact PySem.P.iadd_int (k _ _ (.int _ _))
    · have H:=str2_ok h h' e
      clear h h' e
      cases H with | mk i j t u _ _=>
      have k1:=leN_le (h2:leN _ _ = true)
      refine SB.iadd (fun t' tk=>?_) (by rw [strOf_length,strOf_length];exact k1)
      rw [strOf_append]
      exact k _ _ (.str _ (by rw [List.length_append];exact k1))
    · rw [asLst_eq e1] at h1;exact noB h1
  | sub=>
    have H:=int2_ok h h' e
    clear h h' e
    cases H with | mk i j t u=>exact PySem.P.isub_int (k _ _ (.int _ _))
  | _=>exact noB h1
theorem blk {fo:FcOk f}:((envOf q f.sc L.a fa cd).scope.kind == .class || ((envOf q f.sc L.a fa cd).scope.kind == .module && (envOf q f.sc L.a fa cd).locals != mainGlobals)) = false:=by
  show (f.sc.kind == .class || (f.sc.kind == .module && L.a != mainGlobals)) = false
  rw [fo.kind];rfl
theorem store_ok (fo:FcOk f) {i:Nat} {x:Str} {v:MV} {a:Value} (hx:f.nms[i]? = some x) (hl:f.sc.names.lookup x = some .local) (F:Fm C.N w ω P L f.nms st s.heap) (V:VRel C.N w v a) {Q:Unit → Shared → Prop}
    (k:∀ ω' m' h' tk,Fm C.N w ω' P ⟨L.a,m'⟩ f.nms (setVar st i v) h' → Q () { s with heap:=h',toks:=tk }):wpAny (model C.prog C.wd) A (storeName (envOf q f.sc L.a fa cd) x a) Q E s:=
  wpAny_storeName_local (env:=envOf q f.sc L.a fa cd) hl F.ns (fun h' hns hs=>k _ _ h' _ (F.store fo.nd hx V hs hns)) (blk (fo:=fo))
theorem bind_ok' (fo:FcOk f) {i:Nat} {x:Str} {v:MV} {a:Value} (hx:f.nms[i]? = some x) (hl:f.sc.names.lookup x = some .local) (F:Fm C.N w ω P L f.nms st s.heap) (V:VRel C.N w v a) {Q:Unit → Shared → Prop}
    (k:∀ ω' m' h' tk,Fm C.N w ω' P ⟨L.a,m'⟩ f.nms (setVar st i v) h' → Q () { s with heap:=h',toks:=tk }):wpAny (model C.prog C.wd) A (bindName (envOf q f.sc L.a fa cd) x a) Q E s:=by
  unfold bindName
  exact wpAny_bind (wpAny_holding (wpAny_point (wpAny_bind (store_ok fo hx hl F V fun ω' m' h' tk F'=>wpAny_point (k ω' m' h' tk F')))))
noncomputable def upN (st:St) (is:List Nat) (vs:List MV):St:=(is.zip vs).foldl (fun st iv=>setVar st iv.1 iv.2) st
noncomputable def nmsL (f:Fc) (is:List Nat) (ts:List Expr):List Expr:=is.zipWith (fun i x=>.Name (nmAt f i) x.pos) ts
theorem nms_each {is:List Nat} {env:Env}:∀ {ts:List Expr},is.length = ts.length → (assignEach (nmsL f is ts) env).length = is.length ∧ (assignEach (nmsL f is ts) env).findIdx? (·.1) = none:=by
  induction is with
  | nil=>exact fun _=>⟨rfl,rfl⟩
  | cons i is ih=>
    intro ts h
    cases ts with
    | nil=>exact absurd h (Nat.succ_ne_zero _)
    | cons t ts=>
      obtain ⟨h1,h2⟩:=ih (Nat.succ.inj h)
      refine ⟨congrArg (· + 1) h1,?_⟩
      show List.findIdx? _ ((false,_) :: assignEach (nmsL f is ts) env) = none
      rw [List.findIdx?_cons]
      show (if false = true then _ else _) = _
      rw [if_neg Bool.false_ne_true,h2];rfl
theorem nms_order (fo:FcOk f) {is:List Nat}:∀ {ts:List Expr} {vs:List MV} {vals:List Value} {st:St} {s:Shared} {ω:Nat → Option Addr} {L:FL} {Q:Unit → Shared → Prop},is.all (locB f) = true → is.length = ts.length → vs.length = is.length → Fm C.N w ω P L f.nms st s.heap → VRels C.N w vs vals →
    (∀ ω' m' h' tk,Fm C.N w ω' P ⟨L.a,m'⟩ f.nms (upN st is vs) h' → Q () { s with heap:=h',toks:=tk }) → wpAny (model C.prog C.wd) A (assignInOrder ((assignEach (nmsL f is ts) (envOf q f.sc L.a fa cd)).map (·.2)) vals) Q E s:=by
  induction is with
  | nil=>
    intro ts vs vals st s ω L Q _ _ hlen F V k
    obtain rfl:=List.eq_nil_of_length_eq_zero hlen
    obtain rfl:=V
    exact wpAny_pure (k ω _ s.heap s.toks F)
  | cons i is ih=>
    intro ts vs vals st s ω L Q ha ht hlen F V k
    have ha:=List.all_cons.symm.trans ha
    cases ts with
    | nil=>exact absurd ht (Nat.succ_ne_zero _)
    | cons t ts=>cases vs with
      | nil=>exact absurd hlen.symm (Nat.succ_ne_zero _)
      | cons v vs=>
        obtain ⟨a,r,rfl,V,r'⟩:=V.cons_inv
        show wpAny _ _ (holding _ (assign _ _ _) >>= _) _ _ _
        refine wpAny_bind (wpAny_holding ?_)
        show wpAny _ _ (assign (.Name _ _) _ _) _ _ _
        rw [arm_assign_Name]
        exact wpAny_bind (wpAny_standAt (bind_ok' fo (nameAt (andL ha)) (nameLoc (andL ha)) F V fun ω' m' h' tk F'=>ih (s:={ s with heap:=h',toks:=tk }) (L:=⟨L.a,m'⟩) (andR ha) (Nat.succ.inj ht) (Nat.succ.inj hlen) F' r' fun ω2 m2 h2 tk2 F2=>k ω2 m2 h2 tk2 F2))
theorem own_at {N:Nm} {nms:List Str} {h:Heap} (F:Fm N w ω P L nms st h) {i:Nat} {x:Str} {vs:List MV} (hx:nms[i]? = some x) (hv:ownAt st i = some vs):∃ a,L.m x = some (.ref a) ∧ OwnR N w h (ω i) vs (some (.ref a)):=by
  refine bindE hv fun c h1 h2=>?_
  have:=F.vs i x c hx ((nth_eq _ _).symm.trans h1)
  cases c with
  | own us=>
    generalize hmx:L.m x = o at this
    have this:OwnR N w h (ω i) us o:=this
    rw [Option.some.inj h2] at this
    cases this with | mk hl ha ho r=>exact ⟨_,rfl,hl,ha,ho,r⟩
  | _=>exact noS h2
end
open PySem PySem.W PyProof.Rows PySem.Calls PySem.Builtin
theorem seq_list_iadd:seqSlot? (.type "list") (dunderI "add") = pure (some (.builtin "list.__iadd__")):=PySem.seqSlot_of PySem.F.slot_list_iadd.lookup (by decide +kernel)
theorem fills_list_iadd:fillsInplaceSlot (.type "list") "add" (Operator.Add == .Add) = pure false:=by
  unfold fillsInplaceSlot
  show (typeLookup (.type "list") (dunderI "add") >>= fun fi=>pure (fi.isSome && !isSeqSlot fi)) = pure false
  rw [PySem.F.slot_list_iadd.lookup]
  show (pure (_ && !isSeqSlot _):Sem Bool) = _
  rw [show isSeqSlot (some (.builtin "list.__iadd__")) = true by decide +kernel];rfl
theorem Fm.sameNs {N:Nm} {w:Wd} {ω:Nat → Option Addr} {P:PMap} {L:FL} {nms:List Str} {st:St} {h h':Heap} (F:Fm N w ω P L nms st h) (hs:Heap.SameBut L.a h h') (hn:h'.Ns L.a L.m):Fm N w ω P L nms st h':=by
  have k:∀ b,b ≠ L.a → h'.get? b = h.get? b:=hs.2
  refine ⟨F.sh.other hs F.LG F.LP fun l b e=>F.Lρ l b e,F.LG,F.LP,F.Lρ,hn,fun j y c e1 e2=>(F.vs j y c e1 e2).mono (.refl w) fun b o e3 e4=>(k b (F.ωG j b e3).2.2.2).trans e4,F.ωG,F.ωi,fun j b e=>?_⟩
  rw [k b (F.ωG j b e).2.2.2];exact F.ωo j b e
theorem list_iaddW (l b:Addr) (items items2:Array Value) (n n2:Nat) (dd2:Option Addr) (sl2:Array (Option Value)) (hs0:items.size + items2.size ≤ sizeLine) :
    Meets (Builtin.«list.__iadd__» ⟨[.ref l,.ref b],[]⟩) (fun _ R s=>s.heap.get? l = some { cls:=.type "list",dict:=none,data:=.seq items n,slots:=#[] } ∧ s.heap.get? b = some { cls:=.type "list",dict:=dd2,data:=.seq items2 n2,slots:=sl2 } ∧ R (.ok (.ret (Value.ref l))) { s with heap:=s.heap.update l (Obj.mapSeq fun x=>x ++ items2),toks:=s.toks }):=
  .of_wp fun prog w A R s h=>by
    obtain ⟨hl,hb,h⟩:=h
    show wpAny _ A.in1 (Builtin.List.listExtendWith (.ref l) (.ref b) (.ref l)) _ _ s
    unfold Builtin.List.listExtendWith
    refine wpAny_bind (wpAny_typeOf (T:="list") ⟨_,hb,rfl⟩ ?_)
    have ht:(Value.type "list" == Value.type "list") = true:=by rfl
    rw [if_pos (by rw [ht];simp)]
    refine wpAny_bind (listItems_at hb rfl ?_)
    refine wpAny_bind (listItems_at hl rfl ?_)
    rw [if_neg (by
      intro z
      have:Builtin.List.listTooLong (items.size + items2.size) = false:=by
        unfold Builtin.List.listTooLong
        simp only [decide_eq_false_iff_not];omega
      rw [this,Bool.and_false] at z;cases z)]
    refine wpAny_bind (listUpdate_at hl rfl ?_ (by omega) (by rw [Array.size_append];omega))
    exact wpAny_pure ⟨_,rfl,h⟩
theorem iadd_lists {M:Program} {W:World} {A:Around} {E:Value → Shared → Prop} {s:Shared} {l b:Addr} {vs ws:List Value} {n:Nat} {Q:Value → Shared → Prop} (hl:s.heap.get? l = some (listOf vs.toArray n)) (hb:s.heap.IsList b ws.toArray)
    (h:∀ h' k,Heap.SameBut l s.heap h' → h'.get? l = some (listOf (vs ++ ws).toArray k) → Q (.ref l) { s with heap:=h' }) (hsz:vs.length + ws.length ≤ sizeLine) :
    wpAny (model M W) A (inplaceOp .Add (.ref l) (.ref b)) Q E s:=by
  obtain ⟨⟨cls2,dd2,data2,sl2⟩,ho2,hc2,n2,hd2⟩:=id hb
  simp only at hc2 hd2
  subst hc2 hd2
  have hT:s.TypeIs (.ref l) "list":=⟨_,hl,rfl⟩
  unfold inplaceOp
  refine wpAny_holding ?_
  refine wpAny_bind (wpAny_typeOf hT (wpAny_bind (wpAny_of_eq fills_list_iadd ?_)))
  show wpAny _ A (if false = true then _ else _) Q E s
  rw [if_neg Bool.false_ne_true]
  refine wpAny_bind (wpAny_binaryOp1_none (nm:="add") hT ⟨_,ho2,rfl⟩ noFill_list_add ?_)
  refine wpAny_bind (wpAny_of_eq seq_list_iadd ?_)
  refine wpAny_bind (wpAny_rule ?_)
  refine call_meets PySem.F.slot_list_iadd hT PySem.F.entry_list_iadd (PySem.F.args_list_iadd_2 _ _) (list_iaddW l b vs.toArray ws.toArray n n2 dd2 sl2 (by simpa using hsz)) ⟨hl,ho2,?_⟩
  refine h _ (if ((vs.toArray ++ ws.toArray).size == vs.toArray.size) = true then n else n + 1) (Heap.SameBut.update ..) ?_
  rw [Heap.get?_update_self (Obj.mapSeq fun x=>x ++ ws.toArray) hl rfl]
  simp [Obj.mapSeq]
section
variable {C:Cx} {Ψ:Psi} {n:Nat} {f:Fc} {v:MV} {sh:Sto} (D:Snd C Ψ.phi n) (fo:FcOk f) (G:RgOk C) (hr:rl sh ≤ lim)
include D fo G hr
theorem store1_s {t:MT} {tx:Expr} (ok:okT C f t tx = true) {u:MV} {st:St} {k:St → Ds → R} {ds:Ds} {V:St → Prop} (h:Good (store1T C.N.T Ψ u t st k ds) v sh) (K:KqS v sh k V):rl st.sh ≤ rl sh ∧ Xt C n f (fun a env=>assign (toT C f t tx) env a) u st V:=by
  cases t with
  | v i=>
    refine ⟨(K _ ds h).1,fun A E s w ω P L fa q cd a Q hA F Vu go=>?_⟩
    show wpAny _ _ (assign (.Name _ _) _ _) _ _ _
    rw [arm_assign_Name]
    exact wpAny_bind (wpAny_standAt (bind_ok' fo (nameAt ok) (nameLoc ok) F Vu fun ω' m' h' tk F'=>go _ (K _ ds h).2 _ ω' m' h' tk (.refl _) F'))
  | «at» e b=>
    have r:=ev_s D fo G hr e (kid0 tx) (andL ok) (V:=fun o s1=>∃ sh',setA C.N.T s1.sh o b u = some sh' ∧ V { s1 with sh:=sh' }) h fun o s1 d1 h=>onE h fun sh' e h=>⟨Nat.le_trans (setA_mono e) (K _ d1 h).1,sh',e,(K _ d1 h).2⟩
    refine ⟨r.1,fun A E s w ω P L fa q cd a Q hA F Vu go=>?_⟩
    show wpAny _ _ (assign (.Attribute _ _ _) _ _) _ _ _
    rw [arm_assign_Attribute]
    exact wpAny_bind (wpAny_holding (r.2 hA F fun o s1 H w1 ω1 h1 tk1 oa x1 F1 V1=>H.elim fun sh' H=>wpAny_bind (wpAny_standAt (wpAny_bind (wpAny_holding (setA_ok D.O F1 V1 (Vu.mono x1) H.1 (ltN_lt (andR ok)) fun h2 tk2 F2=>wpAny_release (go _ H.2 w1 ω1 _ h2 tk2 x1 F2)))))))
  | tup is=>
    refine onE h fun st' e h=>⟨?_,fun A E s w ω P L fa q cd a Q hA F Vu go=>?_⟩
    · refine bindE e fun vs h1 e=>?_
      have e:=(ifT e).2
      have:∀ (l:List (Nat × MV)) (st:St),(l.foldl (fun st iv=>setVar st iv.1 iv.2) st).sh = st.sh:=fun l=>by
        induction l with
        | nil=>exact fun _=>rfl
        | cons _ _ ih=>exact fun st=>ih _
      have q:=(K _ ds h).1
      rw [← Option.some.inj e,this] at q;exact q
    · refine bindE e fun vs h1 e=>?_
      obtain ⟨hl,e⟩:=ifT e
      have hl:=eq_of_beq hl
      obtain ⟨hq,hc,hd,hrr,hn⟩:=tup_at F.sh (asTup_eq h1 ▸ Vu)
      have ht:=Nat.eq_of_beq_eq_true (andR ok)
      obtain ⟨h1,h2⟩:=nms_each (f:=f) (env:=envOf q f.sc L.a fa cd) ht
      show wpAny _ _ (assign (.Tuple (nmsL f is (subs tx)) _ _) _ _) _ _ _
      refine assign_Tuple_tuple hA.hand ⟨_,hq,hc,_,hd⟩ (by rw [h1,List.size_toArray,← hrr.length_eq,hl]) h2 fun h' hs=>?_
      have F':=F.keeps (h':=h') fun b o e=>hs b o (fun z=>by rw [z,Heap.get?_none_of_le (Nat.le_refl _)] at e;exact noS e) e
      exact nms_order fo (s:={ s with heap:=h' }) (andL ok) ht hl F' hrr fun ω2 m2 h2 tk2 F2=>go _ ((Option.some.inj e:upN st is vs = st') ▸ (K _ ds h).2) w ω2 m2 h2 tk2 (.refl w) F2
theorem each1 {t:MT} {tx:Expr} {rx:List Expr} {env:Env}:assignEach (toT C f t tx :: rx) env = (false,assign (toT C f t tx) env) :: assignEach rx env:=by cases t <;> rfl
theorem stores_s:∀ (ts:List MT) (txs:List Expr),okTs C f ts txs = true → ∀ ⦃u:MV⦄ ⦃st:St⦄ ⦃k:St → Ds → R⦄ ⦃ds:Ds⦄ ⦃V:St → Prop⦄,Good (storesT C.N.T Ψ u ts st k ds) v sh → KqS v sh k V →
    rl st.sh ≤ rl sh ∧ Xt C n f (fun a env=>assignAll a ((assignEach (toTs C f ts txs) env).map (·.2))) u st V
  | [],_,_=>fun u st k ds V h K=>⟨(K _ ds h).1,fun A E s w ω P L fa q cd a Q hA F Vu go=>wpAny_pure (go _ (K _ ds h).2 w ω _ s.heap s.toks (.refl w) F)⟩
  | [t],txs,ok=>fun u st k ds V h K=>by
    have r:=store1_s D fo G hr (andL ok) h K
    refine ⟨r.1,fun A E s w ω P L fa q cd a Q hA F Vu go=>?_⟩
    show wpAny _ _ (assignAll a ((assignEach [toT C f t _] _).map _)) _ _ _
    rw [each1 D fo G hr]
    exact r.2 hA F Vu go
  | t :: t' :: r,txs,ok=>fun u st k ds V h K=>by
    have h':Good (store1T C.N.T Ψ u t st (fun st=>storesT C.N.T Ψ u (t' :: r) st k) ds) v sh:=h
    have rr:=store1_s D fo G hr (andL ok) (V:=fun s1=>Xt C n f (fun a env=>assignAll a ((assignEach (toTs C f (t' :: r) (tlL txs)) env).map (·.2))) u s1 V) h' fun s1 d1 h=>stores_s (t' :: r) (tlL txs) (andR ok) h K
    refine ⟨rr.1,fun A E s w ω P L fa q cd a Q hA F Vu go=>?_⟩
    show wpAny _ _ (assignAll a ((assignEach (toT C f t _ :: toT C f t' _ :: toTs C f r _) _).map _)) _ _ _
    rw [each1 D fo G hr,each1 D fo G hr]
    show wpAny _ _ (holding _ _ >>= _) _ _ _
    refine wpAny_bind (wpAny_holding (rr.2 hA F Vu fun s1 H w1 ω1 m1 h1 tk1 x1 F1=>?_))
    show wpAny _ _ (assignAll a (((false,assign (toT C f t' (hdE (tlL txs))) (envOf q f.sc L.a fa cd)) :: assignEach (toTs C f r (tlL (tlL txs))) (envOf q f.sc L.a fa cd)).map (·.2))) _ _ _
    rw [← each1 D fo G hr]
    exact H (L:=⟨L.a,m1⟩) hA F1 (Vu.mono x1) fun st' H w2 ω2 m2 h2 tk2 x2 F2=>go st' H w2 ω2 m2 h2 tk2 (x1.trans x2) F2
end
open PySem PySem.W PyProof.Rows PySem.Calls PySem.Builtin
theorem Fm.storeNew {N:Nm} {w:Wd} {ω:Nat → Option Addr} {P:PMap} {L:FL} {nms:List Str} {st:St} {h h':Heap} (F:Fm N w ω P L nms st h) (hnd:nms.Nodup) {i:Nat} {x:Str} {v:MV} {D:Addr} {o:Obj} (hx:nms[i]? = some x)
    (hk:∀ b o,b ≠ L.a → h.get? b = some o → h'.get? b = some o) (hD:h.get? D = none) (ho:h'.get? D = some o) (hV:VRel N (w.add D o) v (.ref D)) (hn:h'.Ns L.a (upm L.m x (.ref D))) :
    w.Ext (w.add D o) ∧ Fm N (w.add D o) (upω ω i none) P ⟨L.a,upm L.m x (.ref D)⟩ nms (setVar st i v) h':=by
  have S:=F.sh
  obtain ⟨g1,g2,g3⟩:=S.fresh hD
  have xx:w.Ext (w.add D o):=Wd.add_ext g1
  have gne:∀ b,b ≠ D → (w.add D o).G b = w.G b:=fun b q=>if_neg q
  have hDs:∀ b,(h.get? b).isSome = true → b ≠ D:=fun b hb z=>by rw [z,hD] at hb;exact noB hb
  have hL:(h.get? L.a).isSome = true:=let ⟨o,h⟩:=F.Lsome;by rw [h];rfl
  have S1:Sh N w P st.sh h':=⟨S.base,fun a o e=>hk _ _ (fun z=>by rw [z,F.LG] at e;exact noS e) (S.frz a o e),fun a o e=>hk _ _ (fun z=>by rw [z,F.LP] at e;exact noS e) (S.prot a o e),S.dis,S.dom,S.inj,S.sepG,S.sepP,fun l a e=>let ⟨o,h1,h2⟩:=S.cont l a e;⟨o,hk _ _ (F.Lρ _ _ e) h1,h2⟩⟩
  have cs:∀ {j b},upω ω i none j = some b → j ≠ i ∧ ω j = some b:=fun {j b} e=>by
    unfold upω at e
    by_cases q:j = i
    · rw [if_pos q] at e;exact noS e
    · rw [if_neg q] at e;exact ⟨q,e⟩
  refine ⟨xx,S1.add ho g1 g2 g3,(gne _ (hDs _ hL)).trans F.LG,F.LP,F.Lρ,hn,fun j y c e1 e2=>?_,fun j b e=>?_,fun j j' b e e'=>F.ωi j j' b (cs e).2 (cs e').2,fun j b e=>?_⟩
  · show CRel N _ h' (upω ω i none j) c (upm L.m x (.ref D) y)
    unfold upω upm
    rcases set_get e2 with ⟨q,rfl⟩ | ⟨q,e2⟩
    · subst q
      rw [hx] at e1
      rw [if_pos (Option.some.inj e1).symm]
      exact ⟨_,rfl,hV⟩
    · have ne:¬ y = x:=fun z=>q (nodup_inj hnd hx (z ▸ e1))
      rw [if_neg ne,if_neg (Ne.symm q)]
      exact (F.vs j y c e1 e2).mono xx fun b o e3 e4=>hk b _ (F.ωG j b e3).2.2.2 e4
  · obtain ⟨_,e⟩:=cs e
    exact ⟨(gne b (hDs b (F.ωo j b e))).trans (F.ωG j b e).1,(F.ωG j b e).2⟩
  · obtain ⟨_,e⟩:=cs e
    obtain ⟨o',ho'⟩:=Option.isSome_iff_exists.mp (F.ωo j b e)
    rw [hk b _ (F.ωG j b e).2.2.2 ho'];rfl
section
variable {C:Cx} {Φ:Phi} {n:Nat} {f:Fc} (fo:FcOk f)
include fo
theorem x_asgo {i:Nat} {p p2 pos:Pos} {es:MEs} {ts:List Expr} {st:St} {V:Option MV → St → Prop} (hi:locB f i = true) (ok:okEs C f es ts = true) (hn:ltN (mEs es) 1000 = true)
    (r:Xp C n f (VRn C.N (mEs es)) (fun env=>spliced ((toEs C f es ts).map fun ex=>(false,eval ex env))) st fun vs s1=>V none { s1 with vars:=setN s1.vars i (.own vs) }):Xs C n f (exec (.Assign [.Name (nmAt f i) p] (.List (toEs C f es ts) p2) pos)) st V:=fun A E s w ω P L fa q cd Q hA F go=>by
  refine wpAny_Assign_stores ?_ rfl rfl
  rw [arm_eval_List,argsEs ok]
  refine wpAny_bind (wpAny_standAt (wpAny_bind (r hA F fun vs s1 H w1 ω1 h1 tk1 as x1 F1 V1=>?_)))
  have hlim:=V1.le hn
  refine wpAny_newList (s:={ s with heap:=h1,toks:=tk1 }) ?_ (by rw [sizeLine_lim];exact hlim)
  have Z:Lone w1 ω1 P L h1.objs.size:=F1.lone (Heap.get?_none_of_le (Nat.le_refl _))
  have F2:=F1.keeps (h':=h1.push (listOf as.toArray 0)) fun b o e=>Heap.get?_push_of_some _ e
  show wpAny _ _ (assign (.Name _ p) _ _) _ _ _
  rw [arm_assign_Name]
  refine wpAny_bind (wpAny_standAt ?_)
  unfold bindName
  refine wpAny_bind (wpAny_holding (wpAny_point (wpAny_bind ?_)))
  exact wpAny_storeName_local (env:=envOf q f.sc L.a fa cd) (nameLoc hi) F2.ns (fun h' hns hs=>wpAny_point (go _ _ H _ _ _ h' _ _ x1 (F2.storeOwn fo.nd (nameAt hi) V1.1 hlim (Heap.get?_push_size _ rfl) ⟨Z.G,Z.P,Z.ρ,Ne.symm Z.L⟩ (fun j e=>Z.ω j _ e rfl) hs hns) rfl)) (blk (fo:=fo))
theorem x_app {i:Nat} {p p2 p3 pos:Pos} {e:ME} {t:Expr} {st:St} {V:Option MV → St → Prop} (hi:plocB f i = true) (ok:okE C f e t = true) (hline:(p2.endLine == p3.line) = true) {us:List MV} (hus:ownAt st i = some us)
    (r:Xv C n f (eval (toE C f e t)) st fun u s1=>∃ s2,appendVar s1 i u = some s2 ∧ V none s2):Xs C n f (exec (.Expr (.Call (.Attribute (.Name (nmAt f i) p) "append" p2) [toE C f e t] [] p3) pos)) st V:=fun A E s w ω P L fa q cd Q hA F go=>by
  have hx:=nameAt (andL hi)
  obtain ⟨a0,b2,ho⟩:=own_at F hx hus
  have hp:=plainN_eq (andR hi)
  refine wpAny_Expr_any ?_ (by unfold interactive;show (f.sc.kind == .module && _) = false;rw [fo.kind];rfl) rfl
  rw [arm_eval_Call]
  refine wpAny_bind (base_ok (C:=C) (f:=f) (e:=.v i) (t:=.Name (nmAt f i) p) hi (fun z=>by cases z) ?_)
  refine wpAny_Name (wpAny_loadName_local fo.kind (nameLoc (andL hi)) F.ns b2 (wpAny_bind (wpAny_standAt ?_))) (notT' (andL (hp:(_ && _) = true)))
  have ha:backTo p3 (starEach [toE C f e t] (envOf q f.sc L.a fa cd)) = [(false,eval (toE C f e t) (envOf q f.sc L.a fa cd))]:=argsEs (es:=.cons e .nil) (ts:=[t]) (Bool.and_eq_true_iff.mpr ⟨ok,rfl⟩)
  cases ho with | mk hl0 ha0 ho0 hr0=>
  refine methodCall_ok (show 1 < 20 by decide) (by rw [ha];rfl) rfl hline fun pl=>Calls.getMethod_list_append ho0 rfl rfl ?_
  refine callWith_ok (by rw [ha];rfl) rfl ?_
  rw [ha]
  refine spliced_cons (r hA F fun u s1 H w1 ω1 h1 tk1 a x1 F1 V1=>spliced_nil (wpAny_evalAll_nil ⟨keep_bi,?_⟩))
  obtain ⟨s2,H2,H⟩:=H
  refine bindE H2 fun vs h3 H2=>?_
  obtain ⟨hlen,H2⟩:=chk_some H2
  have hlen:=leN_le hlen
  obtain rfl:=Option.some.inj H2
  obtain ⟨a1,c2,ho⟩:=own_at F1 hx h3
  obtain rfl:a0 = a1:=Value.ref.inj (Option.some.inj (b2.symm.trans c2))
  cases ho with | mk c5 c1 c3 c4=>
  rename_i vals m
  have hvl:=c4.length_eq
  refine append_at (s:={ s with heap:=h1,toks:=tk1 }) c3 (fun h' hs ho'=>?_) (by rw [List.size_toArray,← hvl,sizeLine_lim];exact Nat.le_of_succ_le hlen)
  exact go _ _ H w1 ω1 L.m h' tk1 _ x1 (F1.setOwn (vals:=vals ++ [a]) (n:=m + 1) c1 (by rw [List.length_append,← hvl];exact hlen) (c4.append (.cons V1 .nil)) hs (by rw [ho'];simp) fun y hy=>by rw [← Option.some.inj (hx.symm.trans hy)];exact b2) rfl
theorem x_augo {i:Nat} {p pos:Pos} {ex:Expr} {st:St} {V:Option MV → St → Prop} (hi:plocB f i = true) {us:List MV} (hus:ownAt st i = some us) (r:Xv C n f (eval ex) st fun u s1=>∃ s2,extendVar s1 i u = some s2 ∧ V none s2) :
    Xs C n f (exec (.AugAssign (.Name (nmAt f i) p) .Add ex pos)) st V:=fun A E s w ω P L fa q cd Q hA F go=>by
  have hx:=nameAt (andL hi)
  have hl:=nameLoc (andL hi)
  obtain ⟨a0,b2,_⟩:=own_at F hx hus
  refine wpAny_AugAssign_Name (wpAny_loadName_local fo.kind hl F.ns b2 (r hA F fun u s1 H w1 ω1 h1 tk1 va x1 F1 V1=>?_))
  obtain ⟨s2,H2,H⟩:=H
  refine bindE H2 fun ws h4 H2=>bindE H2 fun vs h3 H2=>?_
  obtain ⟨hlen,H2⟩:=chk_some H2
  have hlen:=leN_le hlen
  obtain rfl:=Option.some.inj H2
  obtain ⟨a1,c2,ho⟩:=own_at F1 hx h3
  obtain rfl:a0 = a1:=Value.ref.inj (Option.some.inj (b2.symm.trans c2))
  cases ho with | mk c5 c1 c3 c4=>
  cases lst_at (s:={ s with heap:=h1,toks:=tk1 }) F1.sh (asLst_eq h4 ▸ V1) with | mk hl2 hr2 hn2=>
  rename_i vals m q2 vals2
  have e1:=c4.length_eq
  have e2:=hr2.length_eq
  refine iadd_lists (s:={ s with heap:=h1,toks:=tk1 }) c3 hl2 (fun h' k' hs ho'=>?_) (by rw [sizeLine_lim,← e1,← e2];exact hlen)
  have F2:=F1.setOwn (vals:=vals ++ vals2) (n:=k') c1 (by rw [List.length_append,← e1,← e2];exact hlen) (c4.append hr2) hs ho' fun y hy=>by rw [← Option.some.inj (hx.symm.trans hy)];exact b2
  refine wpAny_storeName_local (env:=envOf q f.sc L.a fa cd) (s:={ s with heap:=h',toks:=tk1 }) hl F2.ns (fun h2' hns hs2=>?_) (blk (fo:=fo))
  have hm:(fun y=>if y = nmAt f i then some (Value.ref a0) else L.m y) = L.m:=funext fun y=>by
    by_cases hy:y = nmAt f i
    · rw [if_pos hy,hy,b2]
    · rw [if_neg hy]
  rw [hm] at hns
  exact go _ _ H w1 ω1 L.m h2' (tk1 + 1) _ x1 (F2.sameNs hs2 hns) rfl
theorem x_asgC {i:Nat} {m:Int} {e:ME} {t:Expr} {x:Str} {p p1 p2 p3 p4:Pos} {k:Nat} {sc:Scope} {cpos pos:Pos} {st:St} {V:Option MV → St → Prop} (hi:locB f i = true) (ok:okE C f e t = true) (hd:e ≠ .dead) (hm:0 < m) (hsc:sc.kind = ScopeKind.function) (hn:sc.names = [((".0":Str),NameKind.local),(x,NameKind.local)])
    (hx:(x == (".0":Str)) = false) (hp:isPlainName x = true) (hsw:(p.line == cpos.line && !(sc.names.any fun q=>q.1 == nmAt f i && (q.2 == .local || q.2 == .cell))) = true)
    (r:Xv C n f (eval (toE C f e t)) st fun a s1=>∃ vs ws,a = .lst vs ∧ vs.length ≤ lim ∧ compInts m vs = some ws ∧ V none (setVar s1 i (.lst ws))) :
    Xs C n f (exec (.Assign [.Name (nmAt f i) p] (.ListComp (.BinOp (.Name x p1) .Mod (.Constant (.int m) k p2) p3) [⟨.Name x p4,toE C f e t,[],0⟩] sc cpos) pos)) st V:=fun A E s w ω P L fa q cd Q hA F go=>by
  have hy:=nameAt hi
  have hl:=nameLoc hi
  refine wpAny_Assign_ListComp_free (fun _=>true) (modF m) ?_ (clos_nil hn) (names_cell hn) hsc (names_all hn hx) (names_look hn hx) hl (blk (fo:=fo)) ?_ (fun v=>folded_none ok hd)
  · show (pure _:Sem Bool) = pure true
    congr 1
    have:(envOf q f.sc L.a fa cd).blockKind = .function:=by show (if f.sc.kind.isAnnotationScope then _ else f.sc.kind) = _;rw [fo.kind];rfl
    rw [this]
    have hlk:(envOf q f.sc L.a fa cd).kindOf (nmAt f i) = some .local:=hl
    rw [hlk,Bool.and_eq_true_iff,Bool.and_eq_true_iff]
    exact ⟨⟨rfl,andL hsw⟩,andR hsw⟩
  refine r hA F fun a s1 H w1 ω1 h1' tk1 a x1 F1 V1=>?_
  obtain ⟨vs,ws,rfl,hlim,hc,H⟩:=H
  cases comp_at (s:={ s with heap:=h1',toks:=tk1 }) F1.sh V1 hc hlim with | mk hat c1 c2 hrel hlen h2 hlen2=>
  clear V1
  rename_i qa o vals us kk
  have hat:h1'.get? qa = some o:=hat
  refine wpAny_pyIter_list ⟨_,hat,c1,_,c2⟩ ?_
  have hne:qa ≠ h1'.objs.size:=fun z=>by rw [z,Heap.get?_none_of_le (Nat.le_refl _)] at hat;exact noS hat
  have F1':=F1.keeps (h':=h1'.push { cls:=.type "list_iterator",data:=.fields #[.ref qa,.int 0 0] }) fun b o e=>Heap.get?_push_of_some _ e
  obtain ⟨oL,hL⟩:=F1.Lsome
  refine ⟨h1'.objs.size,_,_,vals.toArray.size,_,_,L.m,rfl,Walks.list hA.hand h1'.objs.size qa hne vals.toArray,by rw [List.size_toArray,sizeLine_lim];exact hlen,⟨⟨_,Heap.get?_push_size _ rfl,rfl,rfl⟩,⟨_,Heap.get?_push_of_some _ hat,c1,_,c2⟩⟩,?_,?_,F1'.ns,?_,?_⟩
  · intro b hb
    refine Nat.lt_of_lt_of_eq ?_ (Heap.size_push _ _).symm
    rcases List.mem_cons.mp hb with z | hb
    · rw [z];exact Nat.lt_succ_self _
    · rw [List.mem_singleton.mp hb];exact Nat.lt_succ_of_lt (Heap.lt_size hat)
  · intro z
    have:L.a = h1'.objs.size:=List.mem_singleton.mp z
    rw [this,Heap.get?_none_of_le (Nat.le_refl _)] at hL;exact noS hL
  · exact quiet_mod hm (fun i v hv=>rels_ints hrel h2 i v (by simpa using hv)) hsc hp (names_look hn hx)
  · intro Dd h' tk ys us hD hl hpl hulen hus hpair hns hkeep
    obtain rfl:us = vals:=all_same (by simpa using hulen) fun j v hv=>by simpa using hus j v hv
    rw [List.filter_eq_self.mpr (fun _ _=>rfl)] at hpair
    have hk:∀ b o,b ≠ L.a → h1'.get? b = some o → h'.get? b = some o:=fun b o hb e=>hkeep b o hb (fun z=>by
      rw [List.mem_singleton.mp z,Heap.get?_none_of_le (Nat.le_refl _)] at e;exact noS e) (Heap.get?_push_of_some _ e)
    have hDn:h1'.get? Dd = none:=by
      cases z:h1'.get? Dd with
      | none=>rfl
      | some o=>rw [Heap.get?_push_of_some _ z] at hD;cases hD
    obtain ⟨nD,hat2⟩:=hpl
    have hV:VRels C.N (w1.add Dd { cls:=.type "list",data:=.seq ys nD }) ws ys.toList:=comp_rel hrel h2 hpair
    obtain ⟨x2,F2⟩:=F1.storeNew (h':=h') fo.nd hy hk hDn hat2 (.lst (vals:=ys.toList) Wd.add_at ⟨by rw [← hV.length_eq,comp_len hc];exact hlim,rfl,nD,by simp⟩ hV) hns
    exact go none _ H _ _ _ h' tk _ (x1.trans x2) F2 rfl
end
open PySem PySem.W PyProof.Rows PySem.Calls PySem.Builtin
theorem intsTo_len:∀ n,(intsTo n).length = n
  | 0=>rfl
  | n + 1=>by show (intsTo n ++ [_]).length = _;rw [List.length_append,intsTo_len n];rfl
theorem intsTo_get:∀ {n i:Nat},i < n → (intsTo n)[i]? = some (.int i)
  | n + 1,i,h=>by
    show (intsTo n ++ [.int n])[i]? = _
    by_cases q:i < n
    · rw [List.getElem?_append_left (by rw [intsTo_len];exact q)];exact intsTo_get q
    · have:i = n:=by omega
      subst this
      rw [List.getElem?_append_right (by rw [intsTo_len];exact Nat.le_refl _),intsTo_len,Nat.sub_self];rfl
section
variable {C:Cx} {Ψ:Psi} {n:Nat} {f:Fc} {v:MV} {sh:Sto}
noncomputable abbrev Bs (C:Cx) (Ψ:Psi) (n:Nat) (f:Fc) (v:MV) (sh:Sto) (b:MSs) (bx:List Stmt):Prop:=∀ ⦃st:St⦄ ⦃k:Option MV → St → Ds → R⦄ ⦃ds:Ds⦄ ⦃V:Option MV → St → Prop⦄,Good (exsT C.N.T Ψ b st k ds) v sh → Kq v sh k V → rl st.sh ≤ rl sh ∧ Xs C n f (execs bx) st V
noncomputable def LpV (k:Option MV → St → Ds → R) (ih:St → Ds → R) (v:MV) (sh:Sto) (r:Option MV) (st:St):Prop:=∃ ds,Good (orK r k ih st ds) v sh
theorem loop_kq {k:Option MV → St → Ds → R} {ih:St → Ds → R} {V:Option MV → St → Prop} (K:Kq v sh k V) (hi:∀ st ds,Good (ih st ds) v sh → rl st.sh ≤ rl sh):Kq v sh (fun r st=>orK r k ih st) (LpV k ih v sh):=fun r st ds h=>by
  cases r with
  | none=>exact ⟨hi _ _ h,ds,h⟩
  | some u=>exact ⟨(K _ _ _ h).1,ds,h⟩
inductive ForInv (C:Cx) (Ψ:Psi) (f:Fc) (v:MV) (sh:Sto) (b:MSs) (i:Nat) (k:Option MV → St → Ds → R) (vs:List MV) (I:Addr) (St':Nat → Heap → Prop) (w:Wd) (P:PMap) (La:Addr) (s:Shared) (m:Nat):Shared → Prop
  | mk {w':Wd} {ω':Nat → Option Addr} {m':Str → Option Value} {st1:St} {h':Heap} {tk j:Nat} {ds:Ds} (x:w.Ext w') (Z:Lone w' ω' P ⟨La,m'⟩ I) (F:Fm C.N w' ω' P ⟨La,m'⟩ f.nms st1 h') (hst:St' j h') (hm:m + j = vs.length + 1) (hj:j ≤ vs.length)
      (e:Good (forT (fun st k=>exsT C.N.T Ψ b st k) k i (vs.drop j) st1 ds) v sh):ForInv C Ψ f v sh b i k vs I St' w P La s m { s with heap:=h',toks:=tk }
variable (D:Snd C Ψ.phi n) (fo:FcOk f) (G:RgOk C) (hr:rl sh ≤ lim)
theorem for_rl {b:MSs} {bx:List Stmt} (hb:Bs C Ψ n f v sh b bx) {i:Nat} {k:Option MV → St → Ds → R} {V:Option MV → St → Prop} (K:Kq v sh k V):∀ (vs:List MV) (st:St) (ds:Ds),Good (forT (fun st k=>exsT C.N.T Ψ b st k) k i vs st ds) v sh → rl st.sh ≤ rl sh
  | [],st,ds,h=>(K _ _ _ h).1
  | u :: vs,st,ds,h=>(hb (st:=setVar st i u) h (loop_kq K (for_rl hb K vs))).1
include D fo G hr
theorem forW {b:MSs} {bx:List Stmt} {i:Nat} {p:Pos} (hi:locB f i = true) (hb:Bs C Ψ n f v sh b bx) {k:Option MV → St → Ds → R} {V:Option MV → St → Prop} (K:Kq v sh k V)
    {I:Addr} {fp:List Addr} {vs:List MV} {Pv:Nat → Value → Prop} {St':Nat → Heap → Prop} {A:Around} {s:Shared} {w:Wd} {ω:Nat → Option Addr} {P:PMap} {L:FL} {fa:Addr} {q:Str} {cd:Value} {Q:Flow → Shared → Prop} {E:Value → Shared → Prop} {st:St} {ds:Ds}
    (hA:Rm A (n + 1)) (W:Walks C.prog C.wd A I fp [I] vs.length Pv St') (hfp:∀ b ∈ fp,b = I ∨ (w.G b).isSome = true) (hI:∀ i h,St' i h → (h.get? I).isSome = true)
    (hPv:∀ i v w',w.Ext w' → Pv i v → ∃ mv,vs[i]? = some mv ∧ VRel C.N w' mv v) (hst:St' 0 s.heap) (Z:Lone w ω P L I) (F:Fm C.N w ω P L f.nms st s.heap)
    (e:Good (forT (fun st k=>exsT C.N.T Ψ b st k) k i vs st ds) v sh)
    (go:∀ r st',V r st' → ∀ w' ω' m' h' tk fl,w.Ext w' → Fm C.N w' ω' P ⟨L.a,m'⟩ f.nms st' h' → FRel C.N w' r fl → Q fl { s with heap:=h',toks:=tk }) :
    codeAny (model C.prog C.wd) A (.forLoop (.Name (nmAt f i) p) (.ref I) bx [] (envOf q f.sc L.a fa cd)) (fun r s'=>match r with | .ok f=>Q f s' | .error e=>E e s') s:=by
  refine codeAny_forLoop (ForInv C Ψ f v sh b i k vs I St' w P L.a s) ?_ (vs.length + 1) ⟨.refl w,Z,F,hst,rfl,Nat.zero_le _,e⟩
  rintro m s' ⟨x1,Z1,F1,hst1,hm,hj,e1⟩
  rename_i w1 ω1 m1 st1 h1 tk1 j ds1
  by_cases hlt:j < vs.length
  · refine W.item j _ _ _ hlt hst1 fun va h2 tk2 hv hst2 hk2=>?_
    have F2:=F1.keepBut (h':=h2) Z1 fun b o hb e=>hk2 b o (fun z=>hb (List.mem_singleton.mp z)) e
    obtain ⟨mv,hmv,V1⟩:=hPv j va w1 x1 hv
    have hdrop:vs.drop j = mv :: vs.drop (j + 1):=by
      rw [List.drop_eq_getElem_cons hlt]
      rw [List.getElem?_eq_getElem hlt] at hmv
      rw [Option.some.inj hmv]
    rw [hdrop] at e1
    obtain ⟨oI,hoI⟩:=Option.isSome_iff_exists.mp (hI _ _ hst2)
    have F3:=F2.protect Z1 hoI
    have rb:=hb (st:=setVar st1 i mv) e1 (loop_kq K (for_rl hb K (vs.drop (j + 1))))
    show wpAny _ _ (assign (.Name _ p) _ va) _ _ _
    rw [arm_assign_Name]
    refine wpAny_bind (wpAny_standAt (bind_ok' fo (nameAt hi) (nameLoc hi) (s:={ s with heap:=h2,toks:=tk2 }) (L:=⟨L.a,m1⟩) F3 V1 fun ω4 m4 h4 tk4 F4=>?_))
    refine rb.2 (L:=⟨L.a,m4⟩) hA F4 fun r s5 H w5 ω5 m5 h5 tk5 fl x5 F5 V5=>?_
    obtain ⟨Z5,hI5,F6⟩:=Fm.unprotect Z.P F5
    obtain ⟨d5,H⟩:=H
    cases r with
    | some u=>
      obtain ⟨a,rfl,V5⟩:=V5
      exact go _ s5 (K _ _ _ H).2 w5 ω5 m5 h5 tk5 _ (x1.trans x5) F6 ⟨a,rfl,V5⟩
    | none=>
      obtain rfl:fl = .next:=V5
      refine ⟨m - 1,by omega,x1.trans x5,Z5,F6,?_,(by omega:m - 1 + (j + 1) = vs.length + 1),hlt,H⟩
      refine W.frame _ _ _ hst2 fun b hb o e=>?_
      rcases hfp b hb with z | z
      · subst z;rw [← Option.some.inj (hoI.symm.trans e)];exact hI5
      · obtain ⟨o',ho'⟩:=Option.isSome_iff_exists.mp z
        have q1:=F2.sh.frz _ _ (x1.G _ _ ho')
        obtain rfl:=Option.some.inj (e.symm.trans q1)
        exact F6.sh.frz _ _ (x5.G _ _ (x1.G _ _ ho'))
  · obtain rfl:j = vs.length:=by omega
    refine W.done _ _ _ hst1 fun h2 tk2 hk2=>?_
    have F2:=F1.keepBut (h':=h2) Z1 fun b o hb e=>hk2 b o (fun z=>hb (List.mem_singleton.mp z)) e
    rw [List.drop_length] at e1
    exact wpAny_execs_nil (go none st1 (K _ _ _ e1).2 w1 ω1 m1 h2 tk2 _ x1 F2 rfl)
theorem for_items {b:MSs} {bx:List Stmt} {i:Nat} {p:Pos} (hi:locB f i = true) (hb:Bs C Ψ n f v sh b bx) {k:Option MV → St → Ds → R} {V:Option MV → St → Prop} (K:Kq v sh k V) {u:MV} {vs:List MV} (hv:itemsOf u = some vs)
    {A:Around} {s:Shared} {w:Wd} {ω:Nat → Option Addr} {P:PMap} {L:FL} {fa:Addr} {q:Str} {cd a:Value} {Q:Flow → Shared → Prop} {E E':Value → Shared → Prop} {st:St} {ds:Ds}
    (hA:Rm A (n + 1)) (F:Fm C.N w ω P L f.nms st s.heap) (V1:VRel C.N w u a) (e:Good (forT (fun st k=>exsT C.N.T Ψ b st k) k i vs st ds) v sh)
    (go:∀ r st',V r st' → ∀ w' ω' m' h' tk fl,w.Ext w' → Fm C.N w' ω' P ⟨L.a,m'⟩ f.nms st' h' → FRel C.N w' r fl → Q fl { s with heap:=h',toks:=tk }) :
    wpAny (model C.prog C.wd) A (pyIter a) (fun it s'=>codeAny (model C.prog C.wd) A (.forLoop (.Name (nmAt f i) p) it bx [] (envOf q f.sc L.a fa cd)) (fun r s'=>match r with | .ok f=>Q f s' | .error e=>E' e s') s') E s:=by
  have Z:Lone w ω P L s.heap.objs.size:=F.lone (Heap.get?_none_of_le (Nat.le_refl _))
  refine orE hv (fun hv=>?_) fun hv=>mapE hv fun x h1 h2=>?_
  · obtain ⟨vals,hrel,⟨hq,hn,c1,n1,c2⟩⟩:=VRel.lst_eq.mp (asLst_eq hv ▸ V1)
    rename_i qa o
    have hat:=F.sh.frz _ _ hq
    refine wpAny_pyIter_list ⟨_,hat,c1,n1,c2⟩ ?_
    have hne:qa ≠ s.heap.objs.size:=fun z=>by rw [z,Heap.get?_none_of_le (Nat.le_refl _)] at hat;exact noS hat
    have Wk:=Walks.list (prog:=C.prog) (w:=C.wd) (A:=A) hA.hand s.heap.objs.size qa hne vals.toArray
    rw [show vals.toArray.size = vs.length by rw [List.size_toArray];exact hrel.length_eq.symm] at Wk
    exact forW D fo G hr hi hb K (s:={ s with heap:=s.heap.push { cls:=.type "list_iterator",data:=.fields #[.ref qa,.int 0 0] } }) hA Wk
      (fun b hb=>by
        rcases List.mem_cons.mp hb with rfl | hb
        · exact .inl rfl
        · rw [List.mem_singleton.mp hb];exact .inr (by rw [hq];rfl))
      (fun i h hh=>by obtain ⟨⟨o,h1,_⟩,_⟩:=hh;rw [h1];rfl)
      (fun i v w' xx hv=>by
        have hv':vals[i]? = some v:=by simpa using hv
        have hi2:i < vs.length:=hrel.length_eq ▸ (List.getElem?_eq_some_iff.mp hv').1
        obtain ⟨a,ha,ra⟩:=hrel.get (List.getElem?_eq_getElem hi2)
        rw [← Option.some.inj (hv'.symm.trans ha)] at ra
        exact ⟨_,List.getElem?_eq_getElem hi2,ra.mono xx⟩)
      ⟨⟨_,Heap.get?_push_size _ rfl,rfl,rfl⟩,⟨_,Heap.get?_push_of_some _ hat,c1,n1,c2⟩⟩ Z (F.keeps fun b o e=>Heap.get?_push_of_some _ e) e go
  · obtain ⟨ht,t,rfl⟩:=(asStr_eq h1 ▸ V1:VRel C.N w (.str x) a).str_inv
    subst h2
    have hlen:(strOf x).cps.size = (x.map fun c=>MV.str [c]).length:=by rw [List.length_map];show x.toArray.size = _;simp
    have hPv:∀ (i:Nat) (v:Value) (w':Wd),w.Ext w' → SignAt (strOf x) i v → ∃ mv,(x.map fun c=>MV.str [c])[i]? = some mv ∧ VRel C.N w' mv v:=by
      rintro i v w' _ ⟨c,u,hc,rfl⟩
      have hc':x[i]? = some c:=by
        have:x.toArray[i]? = some c:=hc
        simpa using this
      exact ⟨.str [c],by rw [List.getElem?_map,hc'];rfl,.str u (by show 1 ≤ lim;decide)⟩
    cases ha:(strOf x).cps.all (· < 128)
    · refine wpAny_pyIter_wide ha ?_
      have Wk:=Walks.strWide (prog:=C.prog) (w:=C.wd) (A:=A) hA.hand s.heap.objs.size (strOf x) t
      rw [hlen] at Wk
      exact forW D fo G hr hi hb K (s:={ s with heap:=s.heap.push { cls:=.type "str_iterator",data:=.fields #[.str (strOf x) t,.int 0 0] } }) hA Wk
        (fun b hb=>.inl (List.mem_singleton.mp hb)) (fun i h hh=>by obtain ⟨o,h1,_⟩:=hh;rw [h1];rfl) hPv ⟨_,Heap.get?_push_size _ rfl,rfl,rfl⟩ Z (F.keeps fun b o e=>Heap.get?_push_of_some _ e) e go
    · refine wpAny_pyIter_ascii ha ?_
      have Wk:=Walks.strAscii (prog:=C.prog) (w:=C.wd) (A:=A) hA.hand s.heap.objs.size (strOf x) t
      rw [hlen] at Wk
      exact forW D fo G hr hi hb K (s:={ s with heap:=s.heap.push { cls:=.type "str_ascii_iterator",data:=.fields #[.str (strOf x) t,.int 0 0] } }) hA Wk
        (fun b hb=>.inl (List.mem_singleton.mp hb)) (fun i h hh=>by obtain ⟨o,h1,_⟩:=hh;rw [h1];rfl) hPv ⟨_,Heap.get?_push_size _ rfl,rfl,rfl⟩ Z (F.keeps fun b o e=>Heap.get?_push_of_some _ e) e go
theorem for_range {b:MSs} {bx:List Stmt} {i:Nat} {p:Pos} (hi:locB f i = true) (hb:Bs C Ψ n f v sh b bx) {k:Option MV → St → Ds → R} {V:Option MV → St → Prop} (K:Kq v sh k V) {N:Int} {t:Tok} (hN:N.natAbs ≤ 1000)
    {A:Around} {s:Shared} {w:Wd} {ω:Nat → Option Addr} {P:PMap} {L:FL} {fa:Addr} {q:Str} {cd:Value} {Q:Flow → Shared → Prop} {E E':Value → Shared → Prop} {st:St} {ds:Ds}
    (hA:Rm A (n + 1)) (F:Fm C.N w ω P L f.nms st s.heap) (e:Good (forT (fun st k=>exsT C.N.T Ψ b st k) k i (intsTo N.toNat) st ds) v sh)
    (go:∀ r st',V r st' → ∀ w' ω' m' h' tk fl,w.Ext w' → Fm C.N w' ω' P ⟨L.a,m'⟩ f.nms st' h' → FRel C.N w' r fl → Q fl { s with heap:=h',toks:=tk }) :
    wpAny (model C.prog C.wd) A (call (.type "range") [.int N t]) (fun a s'=>wpAny (model C.prog C.wd) A (pyIter a) (fun it s'=>codeAny (model C.prog C.wd) A (.forLoop (.Name (nmAt f i) p) it bx [] (envOf q f.sc L.a fa cd)) (fun r s'=>match r with | .ok f=>Q f s' | .error e=>E' e s') s') E s') E s:=by
  refine call_range_1 ?_
  refine wpAny_pyIter_range (IsRange.new ..) (small_one (by decide) (by decide) (by omega) (by omega)) ?_
  have F2:=F.keeps (h':=s.heap.push { cls:=.type "range",data:=.fields #[.int 0 s.toks,.int N t,.int 1 (s.toks + 1)] }) fun b o e=>Heap.get?_push_of_some _ e
  have Z:=F2.lone (I:=(s.heap.push { cls:=.type "range",data:=.fields #[.int 0 s.toks,.int N t,.int 1 (s.toks + 1)] }).objs.size) (Heap.get?_none_of_le (Nat.le_refl _))
  have Wk:=PySem.Walks.bound (Walks.range (prog:=C.prog) (w:=C.wd) (A:=A) hA.hand (s.heap.push { cls:=.type "range",data:=.fields #[.int 0 s.toks,.int N t,.int 1 (s.toks + 1)] }).objs.size 0 1 N.toNat)
  have hsz:Builtin.Range.rangeSize 0 N 1 = (N.toNat:Int):=by rw [rangeSize_one];split <;> omega
  have hln:N.toNat = (intsTo N.toNat).length:=(intsTo_len _).symm
  refine forW D fo G hr hi hb K (s:={ s with heap:=(s.heap.push { cls:=.type "range",data:=.fields #[.int 0 s.toks,.int N t,.int 1 (s.toks + 1)] }).push { cls:=.type "range_iterator",data:=.fields #[rawInt 0,rawInt (Builtin.Range.rangeSize 0 N 1),rawInt 1] },toks:=s.toks + 1 + 1 }) hA (hln ▸ Wk)
    (fun b hb=>.inl (List.mem_singleton.mp hb)) (fun i h hh=>by rw [show h.get? _ = some _ from hh];rfl) (fun i v w' _ hv=>?_) ?_ Z (F2.keeps fun b o e=>Heap.get?_push_of_some _ e) e go
  · obtain ⟨hi,t,rfl⟩:=hv
    refine ⟨.int i,intsTo_get (by omega),?_⟩
    rw [show (0 + (i:Int) * 1) = i by omega]
    exact .int _ _
  · show IsRangeIter _ _ (0 + ((0:Nat):Int) * 1) ((((intsTo N.toNat).length:Nat):Int) - ((0:Nat):Int)) 1
    rw [intsTo_len,show (0 + ((0:Nat):Int) * 1) = 0 by simp,show (((N.toNat:Nat):Int) - ((0:Nat):Int)) = Builtin.Range.rangeSize 0 N 1 by rw [hsz];simp]
    exact Heap.get?_push_size _ rfl
end
open PySem PySem.W PyProof.Rows PySem.Calls PySem.Builtin
section
variable {C:Cx} {Ψ:Psi} {n:Nat} {f:Fc} {v:MV} {sh:Sto}
inductive WhInv (C:Cx) (Ψ:Psi) (f:Fc) (v:MV) (sh:Sto) (t:MB) (b:MSs) (k:Option MV → St → Ds → R) (w:Wd) (P:PMap) (La:Addr) (s:Shared) (m:Nat):Shared → Prop
  | mk {w':Wd} {ω':Nat → Option Addr} {m':Str → Option Value} {st1:St} {h':Heap} {tk:Nat} {ds:Ds} (x:w.Ext w') (F:Fm C.N w' ω' P ⟨La,m'⟩ f.nms st1 h')
      (e:Good (whileT (fun st k=>tstT C.N.T Ψ t st k) (fun st k=>exsT C.N.T Ψ b st k) k m st1 ds) v sh):WhInv C Ψ f v sh t b k w P La s m { s with heap:=h',toks:=tk }
noncomputable abbrev Ss (C:Cx) (Ψ:Psi) (n:Nat) (f:Fc) (v:MV) (sh:Sto) (b:MS) (bx:Stmt):Prop:=∀ ⦃st:St⦄ ⦃k:Option MV → St → Ds → R⦄ ⦃ds:Ds⦄ ⦃V:Option MV → St → Prop⦄,Good (exT C.N.T Ψ b st k ds) v sh → Kq v sh k V → rl st.sh ≤ rl sh ∧ Xs C n f (exec bx) st V
theorem own_some {st:St} {i:Nat} (h:isOwn st i = true):∃ vs,ownAt st i = some vs:=Option.isSome_iff_exists.mp h
theorem ext_sh {st s2:St} {i:Nat} {u:MV} (h:extendVar st i u = some s2):s2.sh = st.sh:=bindE h fun _ _ h=>bindE h fun _ _ h=>(Option.some.inj (chk_some h).2) ▸ rfl
theorem app_sh {st s2:St} {i:Nat} {u:MV} (h:appendVar st i u = some s2):s2.sh = st.sh:=bindE h fun _ _ h=>(Option.some.inj (chk_some h).2) ▸ rfl
variable (D:Snd C Ψ.phi n) (fo:FcOk f) (G:RgOk C) (hr:rl sh ≤ lim)
include D fo G hr
theorem wh_s {t:MB} {tx:Expr} {b:MSs} {bx:List Stmt} (ot:okB C f t tx = true) (hb:Bs C Ψ n f v sh b bx) {k:Option MV → St → Ds → R} {V:Option MV → St → Prop} (K:Kq v sh k V) {m:Nat}
    (ih:∀ st ds,Good (whileT (fun st k=>tstT C.N.T Ψ t st k) (fun st k=>exsT C.N.T Ψ b st k) k m st ds) v sh → rl st.sh ≤ rl sh) {st:St} {ds:Ds} (h:Good (whileT (fun st k=>tstT C.N.T Ψ t st k) (fun st k=>exsT C.N.T Ψ b st k) k (m + 1) st ds) v sh) :
    rl st.sh ≤ rl sh ∧ Xb C n f (fun env=>isTrue (toB C f t tx) env (eval (toB C f t tx) env)) st fun c s1=>(c = true → Xs C n f (execs bx) s1 (LpV k (whileT (fun st k=>tstT C.N.T Ψ t st k) (fun st k=>exsT C.N.T Ψ b st k) k m) v sh)) ∧ (c = false → V none s1):=
  tst_s D fo G hr t tx ot h fun c s1 d1 h=>brE h (fun e d2 h=>let r:=hb h (loop_kq K ih);⟨r.1,fun _=>r.2,fun z=>noB (z.symm.trans e)⟩) fun e d2 h=>⟨(K _ _ _ h).1,fun z=>noB (e.symm.trans z),fun _=>(K _ _ _ h).2⟩
theorem wh_rl {t:MB} {tx:Expr} {b:MSs} {bx:List Stmt} (ot:okB C f t tx = true) (hb:Bs C Ψ n f v sh b bx) {k:Option MV → St → Ds → R} {V:Option MV → St → Prop} (K:Kq v sh k V):∀ (m:Nat) (st:St) (ds:Ds),Good (whileT (fun st k=>tstT C.N.T Ψ t st k) (fun st k=>exsT C.N.T Ψ b st k) k m st ds) v sh → rl st.sh ≤ rl sh
  | 0,st,ds,h=>(h:False).elim
  | m + 1,st,ds,h=>(wh_s D fo G hr ot hb K (wh_rl ot hb K m) h).1
theorem while_s {t:MB} {tx:Expr} {b:MSs} {bx:List Stmt} (ot:okB C f t tx = true) (hb:Bs C Ψ n f v sh b bx) {k:Option MV → St → Ds → R} {V:Option MV → St → Prop} (K:Kq v sh k V) {N:Nat} {st:St} {ds:Ds}
    (e:Good (whileT (fun st k=>tstT C.N.T Ψ t st k) (fun st k=>exsT C.N.T Ψ b st k) k N st ds) v sh)
    {A:Around} {s:Shared} {w:Wd} {ω:Nat → Option Addr} {P:PMap} {L:FL} {fa:Addr} {q:Str} {cd:Value} {Q:Flow → Shared → Prop} {E:Value → Shared → Prop} (hA:Rm A (n + 1)) (F:Fm C.N w ω P L f.nms st s.heap)
    (go:∀ r st',V r st' → ∀ w' ω' m' h' tk fl,w.Ext w' → Fm C.N w' ω' P ⟨L.a,m'⟩ f.nms st' h' → FRel C.N w' r fl → Q fl { s with heap:=h',toks:=tk }) :
    codeAny (model C.prog C.wd) A (.whileLoop (toB C f t tx) bx [] (envOf q f.sc L.a fa cd)) (fun r s'=>match r with | .ok f=>Q f s' | .error e=>E e s') s:=by
  refine codeAny_whileLoop (WhInv C Ψ f v sh t b k w P L.a s) ?_ N ⟨.refl w,F,e⟩
  rintro m s' ⟨x,F',e⟩
  rename_i w' ω' m' stm h' tk ds'
  cases m with
  | zero=>exact (e:False).elim
  | succ m=>
    refine (wh_s D fo G hr ot hb K (wh_rl D fo G hr ot hb K m) e).2 (L:=⟨L.a,m'⟩) hA F' fun c s1 H w1 ω1 h1 tk1 x1 F1=>?_
    cases c with
    | false=>rw [if_neg Bool.false_ne_true];exact wpAny_execs_nil (go none s1 (H.2 rfl) w1 ω1 m' h1 tk1 _ (x.trans x1) F1 rfl)
    | true=>
      rw [if_pos rfl]
      refine (H.1 rfl) (L:=⟨L.a,m'⟩) hA F1 fun r s2 H w2 ω2 m2 h2 tk2 fl x2 F2 V2=>?_
      obtain ⟨d2,H⟩:=H
      cases r with
      | some u=>
        obtain ⟨a,rfl,V2⟩:=V2
        exact go _ s2 (K _ _ _ H).2 w2 ω2 m2 h2 tk2 _ ((x.trans x1).trans x2) F2 ⟨a,rfl,V2⟩
      | none=>
        obtain rfl:fl = .next:=V2
        exact ⟨m,Nat.lt_succ_self _,⟨(x.trans x1).trans x2,F2,H⟩⟩
theorem asgC_s (ts:List MT) (e:ME) (t:Stmt) (ok:okS C f (.asg ts e) t = true) (hc:isCm e = true):Ss C Ψ n f v sh (.asg ts e) (toS C f (.asg ts e) t):=fun st k ds V h K=>by
  have o3:=andR (andR ok)
  rw [hc,cond_true] at o3
  cases ts with
  | nil=>exact noB (andL o3)
  | cons m r=>cases r with
    | cons _ _=>exact noB (andL o3)
    | nil=>cases m with
      | v i=>cases e with
        | comp m src=>
          have q1:=andL ok
          have q2:=andR q1
          have q3:=andR q2
          have q4:=andR q3
          have q5:=andR q4
          have r:=ev_s D fo G hr src (gen0 (sE t)).iter (andL q2) (V:=fun a s1=>∃ vs ws,a = .lst vs ∧ vs.length ≤ lim ∧ compInts m vs = some ws ∧ V none (setVar s1 i (.lst ws))) h fun a s1 d1 h=>onE h fun vs e h=>brC h fun hl d2 h=>onE h fun ws e2 h=>
            ⟨(K none (setVar s1 i (.lst ws)) d2 h).1,vs,ws,asLst_eq e,leN_le hl,e2,(K none (setVar s1 i (.lst ws)) d2 h).2⟩
          exact ⟨r.1,x_asgC fo (andL (andL (andR ok))) (andL q2) (fun z=>by rw [z] at h;exact h) (of_decide_eq_true (andL q1)) (fun_kind (andL q3)) (sc2_eq (andL q4)) (eqS_beq.trans (notT (andL q5))) (plainN_eq (andL (andR q5))) (andR o3) r.2⟩
        | _=>exact noB hc
      | _=>exact noB (andL o3)
mutual
theorem ex_s:∀ (m:MS) (t:Stmt),okS C f m t = true → Ss C Ψ n f v sh m (toS C f m t)
  | .expr e,t,ok=>fun st k ds V h K=>
    let r:=ev_s D fo G hr e (sE t) (andL ok) (V:=fun _ s1=>V none s1) h fun _ s1 d1 h=>K _ s1 d1 h
    ⟨r.1,fun A E s w ω P L fa q cd Q hA F go=>wpAny_Expr_any (r.2 hA F fun u s1 H w1 ω1 h1 tk1 a x1 F1 V1=>go none s1 H w1 ω1 _ h1 tk1 _ x1 F1 rfl) (by unfold interactive;show (f.sc.kind == .module && _) = false;rw [fo.kind];rfl) (swaps_none (andR ok))⟩
  | .asg ts e,t,ok=>fun st k ds V h K=>by
    have ok3:=andR (andR ok)
    cases hc:isCm e with
    | false=>
      rw [hc] at ok3
      have r:=ev_s D fo G hr e (sE t) (andL ok) (V:=fun u s1=>Xt C n f (fun a env=>assignAll a ((assignEach (toTs C f ts (sTs t)) env).map (·.2))) u s1 fun s2=>V none s2) h fun u s1 d1 h=>stores_s D fo G hr ts (sTs t) (andL (andR ok)) h fun s2 d2 h=>K _ s2 d2 h
      exact ⟨r.1,fun A E s w ω P L fa q cd Q hA F go=>wpAny_Assign_stores (r.2 hA F fun u s1 H w1 ω1 h1 tk1 a x1 F1 V1=>H hA F1 V1 fun s2 H w2 ω2 m2 h2 tk2 x2 F2=>go none s2 H w2 ω2 m2 h2 tk2 _ (x1.trans x2) F2 rfl) (sole_none (andL ok3)) (swapped_none ok3)⟩
    | true=>exact asgC_s D fo G hr ts e t ok hc h K
  | .asgo i es,t,ok=>fun st k ds V h K=>
    let r:=evs_s D fo G hr es (subs (sE t)) (andL (andR ok)) (V:=fun vs s1=>V none { s1 with vars:=setN s1.vars i (.own vs) }) h fun vs s1 d1 h=>K _ _ d1 h
    ⟨r.1,x_asgo fo (andL ok) (andL (andR ok)) (andR (andR ok)) r.2⟩
  | .augv i op e,t,ok=>fun st k ds V h K=>by
    have hi:=andL (andL ok)
    refine onE h fun p hg h=>?_
    have r:=ev_s D fo G hr e (sE t) (andR ok) (V:=fun b s1=>(ipOk op p.1 b && binOk op p.1 b) = true ∧ ∃ u,binop op p.1 b = some u ∧ V none (setVar s1 i u)) h fun b s1 d1 h=>brC h fun hk d2 h=>onE h fun u e h=>⟨(K _ _ d2 h).1,hk,u,e,(K _ _ d2 h).2⟩
    refine ⟨getVar_sh hg ▸ r.1,fun A E s w ω P L fa q cd Q hA F go=>?_⟩
    exact wpAny_AugAssign_Name (load_v fo (nameAt hi) (nameLoc hi) F hg fun w1 ω1 h1 tk1 va x1 F1 V1=>r.2 hA F1 fun b s1 H w2 ω2 h2 tk2 vb x2 F2 V2=>H.2.elim fun u H2=>ip_ok (V1.mono x2) V2 H.1 H2.1 fun c tk3 V3=>
      store_ok fo (nameAt hi) (nameLoc hi) (s:={ s with heap:=h2,toks:=tk3 }) F2 V3 fun ω3 m3 h3 tk4 F3=>go none _ H2.2 w2 ω3 m3 h3 tk4 _ (x1.trans x2) F3 rfl)
  | .augo i e,t,ok=>fun st k ds V h K=>brC h fun ho d0 h=>(own_some ho).elim fun us hus=>
    let r:=ev_s D fo G hr e (sE t) (andR ok) (V:=fun u s1=>∃ s2,extendVar s1 i u = some s2 ∧ V none s2) h fun u s1 d1 h=>onE h fun s2 e h=>⟨ext_sh e ▸ (K _ _ d1 h).1,s2,e,(K _ _ d1 h).2⟩
    ⟨r.1,x_augo fo (andL ok) hus r.2⟩
  | .auga o a op e,t,ok=>fun st k ds V h K=>by
    have ha:=ltN_lt (andL (andR ok))
    have r:=ev_s D fo G hr o (kid0 (sTg t)) (andL ok) (V:=fun ov s1=>∃ x,getA C.N.T s1.sh ov a = some x ∧ Xv C n f (eval (toE C f e (sE t))) s1 fun y s2=>(ipOk op x y && binOk op x y) = true ∧ ∃ u,binop op x y = some u ∧ ∃ sh',setA C.N.T s2.sh ov a u = some sh' ∧ V none { s2 with sh:=sh' }) h fun ov s1 d1 h=>onE h fun x e1 h=>
      let r:=ev_s D fo G hr e (sE t) (andR (andR ok)) (V:=fun y s2=>(ipOk op x y && binOk op x y) = true ∧ ∃ u,binop op x y = some u ∧ ∃ sh',setA C.N.T s2.sh ov a u = some sh' ∧ V none { s2 with sh:=sh' }) h fun y s2 d2 h=>brC h fun hk d3 h=>onE h fun u e2 h=>onE h fun sh' e3 h=>
        ⟨Nat.le_trans (setA_mono e3) (K _ _ d3 h).1,hk,u,e2,sh',e3,(K _ _ d3 h).2⟩
      ⟨r.1,x,e1,r.2⟩
    refine ⟨r.1,fun A E s w ω P L fa q cd Q hA F go=>wpAny_AugAssign_AttributeAny (r.2 hA F fun ov s1 H w1 ω1 h1 tk1 va x1 F1 V1=>?_)⟩
    obtain ⟨x,e1,H⟩:=H
    refine getA_ok D.O F1 V1 e1 ha fun w2 ω2 h2 tk2 vb x2 F2 V2=>H hA F2 fun y s2 H w3 ω3 h3 tk3 vc x3 F3 V3=>?_
    obtain ⟨hk,u,e2,sh',e3,H⟩:=H
    exact ip_ok (V2.mono x3) V3 hk e2 fun c tk4 V4=>setA_ok (s:={ s with heap:=h3,toks:=tk4 }) D.O F3 (V1.mono (x2.trans x3)) V4 e3 ha fun h4 tk5 F4=>go none _ H w3 ω3 _ h4 tk5 _ ((x1.trans x2).trans x3) F4 rfl
  | .app i e,t,ok=>fun st k ds V h K=>brC h fun ho d0 h=>(own_some ho).elim fun us hus=>
    let r:=ev_s D fo G hr e (hdE (kids1 (sE t))) (andL (andR ok)) (V:=fun u s1=>∃ s2,appendVar s1 i u = some s2 ∧ V none s2) h fun u s1 d1 h=>onE h fun s2 e h=>⟨app_sh e ▸ (K _ _ d1 h).1,s2,e,(K _ _ d1 h).2⟩
    ⟨r.1,x_app fo (andL ok) (andL (andR ok)) (andR (andR ok)) hus r.2⟩
  | .ife c a b,t,ok=>fun st k ds V h K=>by
    have r:=tst_s D fo G hr c (sE t) (andL ok) (V:=fun d s1=>(d = true → Xs C n f (execs (toSs C f a (sB t))) s1 V) ∧ (d = false → Xs C n f (execs (toSs C f b (sO t))) s1 V)) h fun d s1 d1 h=>brE h
      (fun e d2 h=>let r:=exs_s a (sB t) (andL (andR ok)) h K;⟨r.1,fun _=>r.2,fun z=>noB (z.symm.trans e)⟩) (fun e d2 h=>let r:=exs_s b (sO t) (andR (andR ok)) h K;⟨r.1,fun z=>noB (e.symm.trans z),fun _=>r.2⟩)
    refine ⟨r.1,fun A E s w ω P L fa q cd Q hA F go=>wpAny_If (r.2 hA F fun d s1 H w1 ω1 h1 tk1 x1 F1=>?_)⟩
    cases d with
    | true=>rw [if_pos rfl];exact H.1 rfl hA F1 fun u s2 H w2 ω2 m2 h2 tk2 fl x2 F2 V2=>go u s2 H w2 ω2 m2 h2 tk2 fl (x1.trans x2) F2 V2
    | false=>rw [if_neg Bool.false_ne_true];exact H.2 rfl hA F1 fun u s2 H w2 ω2 m2 h2 tk2 fl x2 F2 V2=>go u s2 H w2 ω2 m2 h2 tk2 fl (x1.trans x2) F2 V2
  | .whl c b,t,ok=>fun st k ds V h K=>⟨wh_rl D fo G hr (andL ok) (exs_s b (sB t) (andR ok)) K 100000 st ds h,fun A E s w ω P L fa q cd Q hA F go=>wpAny_While (while_s D fo G hr (andL ok) (exs_s b (sB t) (andR ok)) K (N:=100000) (st:=st) (ds:=ds) h hA F go)⟩
  | .for i e b,t,ok=>fun st k ds V h K=>by
    have hb:=exs_s b (sB t) (andR (andR ok))
    have r:=ev_s D fo G hr e (sE t) (andL (andR ok)) (V:=fun u s1=>∃ vs ds,itemsOf u = some vs ∧ Good (forT (fun st k=>exsT C.N.T Ψ b st k) k i vs s1 ds) v sh) h fun u s1 d1 h=>onE h fun vs e h=>⟨for_rl hb K vs s1 d1 h,vs,d1,e,h⟩
    refine ⟨r.1,fun A E s w ω P L fa q cd Q hA F go=>wpAny_For (r.2 hA F fun u s1 H w1 ω1 h1 tk1 a x1 F1 V1=>?_) fun a=>folded_none (andL (andR ok)) fun z=>by rw [z] at h;exact h⟩
    obtain ⟨vs,d2,e2,H⟩:=H
    exact for_items D fo G hr (andL ok) hb K e2 (s:={ s with heap:=h1,toks:=tk1 }) hA F1 V1 H fun r st' H w2 ω2 m2 h2 tk2 fl x2 F2 V2=>go r st' H w2 ω2 m2 h2 tk2 fl (x1.trans x2) F2 V2
  | .forr i e b,t,ok=>fun st k ds V h K=>by
    have o3:=andR (andR ok)
    have hb:=exs_s b (sB t) (andR o3)
    have r:=ev_s D fo G hr e (hdE (kids1 (sE t))) (andL o3) (V:=fun u s1=>∃ N ds,u = .int N ∧ N.natAbs ≤ 1000 ∧ Good (forT (fun st k=>exsT C.N.T Ψ b st k) k i (intsTo N.toNat) s1 ds) v sh) h fun u s1 d1 h=>onE h fun N e h=>brC h fun hN d2 h=>⟨for_rl hb K _ s1 d2 h,N,d2,asInt_eq e,leN_le hN,h⟩
    refine ⟨r.1,fun A E s w ω P L fa q cd Q hA F go=>wpAny_For (wpAny_Call_NameR (gname_ok D fo G.range (lookGlo (andL (andR ok))) (by decide) F ?_)) fun a=>rfl⟩
    rw [show backTo (sE t).pos (starEach [toE C f e (hdE (kids1 (sE t)))] (envOf q f.sc L.a fa cd)) = [(false,eval (toE C f e (hdE (kids1 (sE t)))) (envOf q f.sc L.a fa cd))] from argsEs (es:=.cons e .nil) (ts:=kids1 (sE t)) (Bool.and_eq_true_iff.mpr ⟨andL o3,rfl⟩)]
    refine PyProof.Rows.callWith_type rfl (Calls.evalArgs_plain (Calls.spliced_cons (r.2 hA F fun u s1 H w1 ω1 h1 tk1 a x1 F1 V1=>Calls.spliced_nil ?_)))
    obtain ⟨N,d2,rfl,hN,H⟩:=H
    obtain ⟨tN,rfl⟩:=V1.int_inv
    exact for_range D fo G hr (andL ok) hb K hN (s:={ s with heap:=h1,toks:=tk1 }) hA F1 H fun r st' H w2 ω2 m2 h2 tk2 fl x2 F2 V2=>go r st' H w2 ω2 m2 h2 tk2 fl (x1.trans x2) F2 V2
  | .ret e,t,ok=>fun st k ds V h K=>
    let r:=ev_s D fo G hr e (sE t) ok (V:=fun u s1=>V (some u) s1) h fun _ s1 d1 h=>K _ s1 d1 h
    ⟨r.1,fun A E s w ω P L fa q cd Q hA F go=>wpAny_Return_some (r.2 hA F fun u s1 H w1 ω1 h1 tk1 a x1 F1 V1=>go _ s1 H w1 ω1 _ h1 tk1 _ x1 F1 ⟨a,rfl,V1⟩)⟩
  | .ret0,t,ok=>fun st k ds V h K=>⟨(K _ _ _ h).1,fun A E s w ω P L fa q cd Q hA F go=>wpAny_Return_none (go _ _ (K _ _ _ h).2 w ω _ s.heap s.toks _ (.refl w) F ⟨_,rfl,.none⟩)⟩
  | .pass,t,ok=>fun st k ds V h K=>⟨(K _ _ _ h).1,fun A E s w ω P L fa q cd Q hA F go=>wpAny_Pass (go _ _ (K _ _ _ h).2 w ω _ s.heap s.toks _ (.refl w) F rfl)⟩
  | .dead,t,ok=>fun st k ds V h K=>(h:False).elim
theorem exs_s:∀ (b:MSs) (ts:List Stmt),okSs C f b ts = true → Bs C Ψ n f v sh b (toSs C f b ts)
  | .nil,ts,ok=>fun st k ds V h K=>⟨(K _ _ _ h).1,fun A E s w ω P L fa q cd Q hA F go=>wpAny_execs_nil (go _ _ (K _ _ _ h).2 w ω _ s.heap s.toks _ (.refl w) F rfl)⟩
  | .cons m r,ts,ok=>fun st k ds V h K=>by
    have rr:=ex_s m (hdS ts) (andL ok) (V:=fun o s1=>(o = none → Xs C n f (execs (toSs C f r (tlL ts))) s1 V) ∧ (∀ u,o = some u → V o s1)) h fun o s1 d1 h=>by
      cases o with
      | none=>exact let q:=exs_s r (tlL ts) (andR ok) h K;⟨q.1,fun _=>q.2,fun _ e=>noS e⟩
      | some u=>exact ⟨(K _ _ _ h).1,fun e=>noS e.symm,fun _ _=>(K _ _ _ h).2⟩
    refine ⟨rr.1,fun A E s w ω P L fa q cd Q hA F go=>wpAny_execs_cons (rr.2 hA F fun o s1 H w1 ω1 m1 h1 tk1 fl x1 F1 V1=>?_)⟩
    cases o with
    | none=>
      obtain rfl:fl = .next:=V1
      exact H.1 rfl (L:=⟨L.a,m1⟩) hA F1 fun r st' H w2 ω2 m2 h2 tk2 fl x2 F2 V2=>go r st' H w2 ω2 m2 h2 tk2 fl (x1.trans x2) F2 V2
    | some u=>
      obtain ⟨a,rfl,V1⟩:=V1
      exact go _ s1 (H.2 u rfl) w1 ω1 m1 h1 tk1 _ x1 F1 ⟨a,rfl,V1⟩
end
end
open PySem PySem.W PyProof.Rows PySem.Calls PySem.Builtin
theorem Rm.deeper {A:Around} {n:Nat} {env:Env} (h:Rm A (n + 2)):Rm (A.deeper env) (n + 1):=by
  have h1:=h.depth
  have h2:=h.units
  exact ⟨by show A.depth + 1 + (n + 1) ≤ 999;omega,by show A.units + 3 + 20 * (n + 1) ≤ 9000;omega,h.hand⟩
theorem fm_enter {C:Cx} {w:Wd} {P:PMap} {sh:Sto} {h h₀:Heap} {nms xs:List Str} {as:List MV} {m:Nat} {binds:List (Str × Value)} (S:Sh C.N w P sh h) (hns:h₀.Ns h.objs.size (fun x=>binds.reverse.lookup x)) (hk:∀ b o,h.get? b = some o → h₀.get? b = some o)
    (hpre:nms.take xs.length = xs) (B:Bound C w xs as binds):Fm C.N w (fun _=>none) P ⟨h.objs.size,fun x=>binds.reverse.lookup x⟩ nms ⟨sh,as.map .val ++ List.replicate (m - as.length) .unset⟩ h₀:=by
  obtain ⟨g,p,r⟩:=S.fresh (Heap.get?_none_of_le (Nat.le_refl _))
  refine ⟨S.keeps hk,g,p,r,hns,fun i x c hx hc=>?_,fun i a e=>noS e,fun i j a e=>noS e,fun i a e=>noS e⟩
  by_cases hi:i < as.length
  · rw [List.getElem?_append_left (by rw [List.length_map];exact hi),List.getElem?_map] at hc
    obtain ⟨v,hv,rfl⟩:=map_some hc
    have hxs:xs[i]? = some x:=by
      rw [← hpre,List.getElem?_take,if_pos (by rw [← B.len];exact hi)]
      exact hx
    exact B.at_ i x v hxs hv
  · rw [List.getElem?_append_right (by rw [List.length_map];omega),List.getElem?_replicate] at hc
    split at hc
    · rw [← Option.some.inj hc];trivial
    · exact noS hc
structure DefOk (C:Cx) (f:Nat) (b:MSs):Prop where
  ex:∃ r nms reqs opts ds,FnOk C f r nms reqs opts ds ∧ toSs C ⟨r.scope,nms⟩ b r.body = r.body ∧ okSs C ⟨r.scope,nms⟩ b r.body = true
structure ProgOk (C:Cx):Prop where
  fn:∀ f m b,C.N.T.body f = some (m,b) → DefOk C f b
section
variable {C:Cx} {Ψ:Psi} {n:Nat} (D:Snd C Ψ.phi n) (G:RgOk C)
theorem run_body {f:Nat} {as:List MV} {sh:Sto} {v:MV} {sh':Sto} (e:Gd C.N.T Ψ f as sh v sh'):∃ m b ds,C.N.T.body f = some (m,b) ∧ Good (exsT C.N.T Ψ b ⟨sh,as.map .val ++ List.replicate (m - as.length) .unset⟩ (fun r st _=>.fin (r.getD .none) st.sh) ds) v sh':=
  e.elim fun ds h=>onE h fun p e h=>⟨p.1,p.2,ds,e,h⟩
theorem fin_kq {v:MV} {sh:Sto}:Kq v sh (fun (r:Option MV) st _=>.fin (r.getD .none) st.sh) fun (r:Option MV) st=>r.getD .none = v ∧ st.sh = sh:=fun r st ds h=>⟨h.2 ▸ Nat.le_refl _,h.1,h.2⟩
include D G
theorem gd_mono (PO:ProgOk C) {f:Nat} {as:List MV} {sh:Sto} {v:MV} {sh':Sto} (e:Gd C.N.T Ψ f as sh v sh') (hr:rl sh' ≤ lim):rl sh ≤ rl sh':=by
  obtain ⟨m,b,ds,hb,h⟩:=run_body e
  obtain ⟨r,nms,reqs,opts,ds,H,_,ok⟩:=(PO.fn f m b hb).ex
  exact (exs_s (f:=⟨r.scope,nms⟩) D ⟨H.hk,H.nodup⟩ G hr b r.body ok h fin_kq).1
theorem fn_s (PO:ProgOk C) {f:Nat} {pos as:List MV} {kws:List (Nat × MV)} {sh:Sto} {v:MV} {sh':Sto} (h1:norm (C.N.T.fnPar f) pos kws = some as) (e:Gd C.N.T Ψ f as sh v sh') (hr:rl sh' ≤ lim)
    {A:Around} {R':Result → Shared → Prop} {s:Shared} {w:Wd} {P:PMap} {pvals:List Value} {kvals:List (Str × Value)} (hA:Rm A (n + 2)) (S:Sh C.N w P sh s.heap) (hp:VRels C.N w pos pvals) (hk:LRel C.N w kws kvals)
    (k:∀ w' h' tk a,w.Ext w' → Sh C.N w' P sh' h' → VRel C.N w' v a → R' (.ok (.ret a)) { s with heap:=h',toks:=tk }):codeAny (model C.prog C.wd) A (.call (.ref (C.N.fna f)) ⟨pvals,kvals⟩) R' s:=by
  obtain ⟨m,b,ds,hb,h⟩:=run_body e
  obtain ⟨r,nms,reqs,opts,ds,H,to,ok⟩:=(PO.fn f m b hb).ex
  obtain ⟨binds,hbind,hB⟩:=binds_ok D.O S H hp hk h1
  obtain ⟨oc,od,osl,hat⟩:=H.at_
  have X:=D.O.In S
  have hd:=hA.depth
  refine codeAny_call_def (fd:=r.fd) (body:=r.body) (binds:=binds) (by unfold recursionLimit;omega) (X _ _ hat) rfl (D.O.topIn S).nolimit (codeRec_of X H.code) rfl hbind H.hcell (fun y hy=>?_) (fun h₀ hns hkeep=>?_) H.hco H.hgen H.hk
  · have h3:=hB.sub y hy
    rw [← H.pre] at h3
    exact H.loc _ (List.mem_of_mem_take h3)
  · have F:=fm_enter (m:=m) S hns hkeep (by rw [List.length_map];exact H.pre) hB
    have rr:=(exs_s (f:=⟨r.scope,nms⟩) D ⟨H.hk,H.nodup⟩ G hr b r.body ok h fin_kq).2
    rw [to] at rr
    refine rr (s:={ s with heap:=h₀,toks:=s.toks + binds.length }) (fa:=C.N.fna f) (q:=r.qual) (cd:=r.cdv) hA.deeper F fun o st' H w1 ω1 m1 h1' tk1 fl x1 F1 V1=>?_
    have F2:=F1.sh
    rw [H.2] at F2
    cases o with
    | none=>
      obtain rfl:fl = .next:=V1
      exact k w1 h1' tk1 _ x1 F2 (H.1 ▸ .none)
    | some u=>
      obtain ⟨a,rfl,V⟩:=V1
      exact k w1 h1' tk1 _ x1 F2 (H.1 ▸ V)
end
theorem phi_mono {C:Cx} {Φ:Phi} {n m:Nat} (h:PhiOk C Φ n) (hm:n ≤ m):PhiOk C Φ m:=fun e hr _ _ _ _ _ _ _ hA S hp hk k=>h e hr (hA.mono hm) S hp hk k
structure Base (C:Cx):Prop where
  O:CxOk C
  B:CaOk C
  N:NmOk C
  gv:GvOk C
  PO:ProgOk C
  G:RgOk C
noncomputable abbrev Sd (C:Cx) (Ψ:Psi) (n:Nat):Prop:=Snd C Ψ.phi n
theorem sd_up {C:Cx} {Ψ:Psi} {n m:Nat} (D:Sd C Ψ n) (h:n ≤ m):Sd C Ψ m:=⟨D.O,D.B,D.N,phi_mono D.H h,D.HI,D.mono,D.gv⟩
theorem sd0 {C:Cx} (B:Base C) {Ψ:Psi} (h:∀ f as sh,Ψ f as sh = none):Sd C Ψ 0:=
  have h0:∀ {f as sh r},Ψ.phi f as sh = some r → False:=fun {f as sh r} e=>by
    have e:unG (Ψ f as sh) = some r:=e
    rw [h] at e;exact noS e
  ⟨B.O,B.B,B.N,fun e=>bindE e fun _ _ e=>(h0 e).elim,fun _ e=>(h0 e).elim,fun _ _ _ _ _ e=>(h0 e).elim,B.gv⟩
theorem unG_some {o:Option (Bool × MV × Sto)} {r:MV × Sto} (h:unG o = some r):o = some (true,r):=bindE h fun p e1 e=>by
  obtain ⟨hp,e⟩:=ifT e
  obtain ⟨b,q⟩:=p
  obtain rfl:b = true:=hp
  rw [e1,show q = r from Option.some.inj e]
theorem sd_step {C:Cx} (B:Base C) {Ψ':Psi} {n:Nat} (hi:InitOk C.N.T Ψ'.phi) (h:∀ f as sh r,Ψ' f as sh = some (true,r) → ∃ Ψ,Sd C Ψ n ∧ (Gd C.N.T Ψ f as sh r.1 r.2 ∨ Ψ f as sh = some (true,r))):Sd C Ψ' (n + 2):=by
  refine ⟨B.O,B.B,B.N,fun e hr A R s w P pvals kvals hA S hp hk k=>?_,hi,fun f as sh v sh' e hr=>?_,B.gv⟩
  · refine bindE e fun as h1 e=>?_
    obtain ⟨Ψ,D,h2 | h2⟩:=h _ _ _ _ (unG_some e)
    · exact fn_s D B.G B.PO h1 h2 hr hA S hp hk k
    · exact D.H (by show (norm _ _ _).bind _ = _;rw [h1];exact unG_ok h2 rfl) hr (hA.mono (Nat.le_add_right n 2)) S hp hk k
  · obtain ⟨Ψ,D,h2 | h2⟩:=h _ _ _ _ (unG_some e)
    · exact gd_mono D B.G B.PO h2 hr
    · exact D.mono _ _ _ _ _ (unG_ok h2 rfl) hr
end Mine
namespace Mine.L1
open PySem
noncomputable def natr:Nat:=139
noncomputable def nmL:List (Str):=[⟨#[97,112,112,101,110,100]⟩,⟨#[112,111,112]⟩,⟨#[115,116,97,114,116,115,119,105,116,104]⟩,⟨#[106,111,105,110]⟩,⟨#[115,112,108,105,116]⟩,⟨#[99,111,112,121]⟩,⟨#[107,101,121,115]⟩,⟨#[0,7]⟩,⟨#[0,8]⟩,⟨#[0,9]⟩,⟨#[115,101,108,102]⟩,⟨#[115,116,97,114,116,95,109,97,114,107]⟩,⟨#[101,110,100,95,109,97,114,107]⟩,⟨#[97,110,99,104,111,114]⟩,⟨#[116,97,103]⟩,⟨#[105,109,112,108,105,99,105,116]⟩,⟨#[102,108,111,119,95,115,116,121,108,101]⟩,⟨#[101,110,99,111,100,105,110,103]⟩,⟨#[101,120,112,108,105,99,105,116]⟩,⟨#[118,101,114,115,105,111,110]⟩,⟨#[116,97,103,115]⟩,⟨#[118,97,108,117,101]⟩,⟨#[115,116,121,108,101]⟩,⟨#[115,99,97,108,97,114]⟩,⟨#[101,109,112,116,121]⟩,⟨#[109,117,108,116,105,108,105,110,101]⟩,⟨#[97,108,108,111,119,95,102,108,111,119,95,112,108,97,105,110]⟩,⟨#[97,108,108,111,119,95,98,108,111,99,107,95,112,108,97,105,110]⟩,⟨#[97,108,108,111,119,95,115,105,110,103,108,101,95,113,117,111,116,101,100]⟩,⟨#[97,108,108,111,119,95,100,111,117,98,108,101,95,113,117,111,116,101,100]⟩,⟨#[97,108,108,111,119,95,98,108,111,99,107]⟩,⟨#[115,116,114,101,97,109]⟩,⟨#[99,97,110,111,110,105,99,97,108]⟩,⟨#[105,110,100,101,110,116]⟩,⟨#[119,105,100,116,104]⟩,⟨#[97,108,108,111,119,95,117,110,105,99,111,100,101]⟩,⟨#[108,105,110,101,95,98,114,101,97,107]⟩,⟨#[101,118,101,110,116]⟩,⟨#[99,111,117,110,116]⟩,⟨#[102,108,111,119]⟩,⟨#[105,110,100,101,110,116,108,101,115,115]⟩,⟨#[102,105,114,115,116]⟩,⟨#[114,111,111,116]⟩,⟨#[115,101,113,117,101,110,99,101]⟩,⟨#[109,97,112,112,105,110,103]⟩,⟨#[115,105,109,112,108,101,95,107,101,121]⟩,⟨#[105,110,100,105,99,97,116,111,114]⟩,⟨#[110,101,101,100,95,119,104,105,116,101,115,112,97,99,101]⟩,⟨#[119,104,105,116,101,115,112,97,99,101]⟩,⟨#[105,110,100,101,110,116,105,111,110]⟩,⟨#[100,97,116,97]⟩,⟨#[116,101,120,116]⟩,⟨#[110,117,109,98,101,114,115]⟩,⟨#[107,101,121]⟩,⟨#[101,110,100]⟩,⟨#[115,116,101,112]⟩,⟨#[108,105,109,105,116]⟩,⟨#[115,99,114,105,112,116]⟩,⟨#[115,116,97,116,101]⟩,⟨#[102,108,111,119,95,108,101,118,101,108]⟩,⟨#[114,111,111,116,95,99,111,110,116,101,120,116]⟩,⟨#[115,101,113,117,101,110,99,101,95,99,111,110,116,101,120,116]⟩,⟨#[109,97,112,112,105,110,103,95,99,111,110,116,101,120,116]⟩,⟨#[115,105,109,112,108,101,95,107,101,121,95,99,111,110,116,101,120,116]⟩,⟨#[108,105,110,101]⟩,⟨#[99,111,108,117,109,110]⟩,⟨#[111,112,101,110,95,101,110,100,101,100]⟩,⟨#[98,101,115,116,95,105,110,100,101,110,116]⟩,⟨#[98,101,115,116,95,119,105,100,116,104]⟩,⟨#[98,101,115,116,95,108,105,110,101,95,98,114,101,97,107]⟩,⟨#[116,97,103,95,112,114,101,102,105,120,101,115]⟩,⟨#[112,114,101,112,97,114,101,100,95,97,110,99,104,111,114]⟩,⟨#[112,114,101,112,97,114,101,100,95,116,97,103]⟩,⟨#[97,110,97,108,121,115,105,115]⟩,⟨#[115,116,97,116,101,115]⟩,⟨#[101,118,101,110,116,115]⟩,⟨#[105,110,100,101,110,116,115]⟩,⟨#[114,111,119,115]⟩,⟨#[101,120,112,101,99,116,95,115,116,114,101,97,109,95,115,116,97,114,116]⟩,⟨#[110,101,101,100,95,109,111,114,101,95,101,118,101,110,116,115]⟩,⟨#[110,101,101,100,95,101,118,101,110,116,115]⟩,⟨#[101,120,112,101,99,116,95,102,105,114,115,116,95,100,111,99,117,109,101,110,116,95,115,116,97,114,116]⟩,⟨#[119,114,105,116,101,95,115,116,114,101,97,109,95,115,116,97,114,116]⟩,⟨#[101,120,112,101,99,116,95,100,111,99,117,109,101,110,116,95,115,116,97,114,116]⟩,⟨#[101,120,112,101,99,116,95,100,111,99,117,109,101,110,116,95,114,111,111,116]⟩,⟨#[119,114,105,116,101,95,105,110,100,101,110,116]⟩,⟨#[119,114,105,116,101,95,105,110,100,105,99,97,116,111,114]⟩,⟨#[99,104,101,99,107,95,101,109,112,116,121,95,100,111,99,117,109,101,110,116]⟩,⟨#[119,114,105,116,101,95,116,97,103,95,100,105,114,101,99,116,105,118,101]⟩,⟨#[112,114,101,112,97,114,101,95,116,97,103,95,112,114,101,102,105,120]⟩,⟨#[112,114,101,112,97,114,101,95,116,97,103,95,104,97,110,100,108,101]⟩,⟨#[68,69,70,65,85,76,84,95,84,65,71,95,80,82,69,70,73,88,69,83]⟩,⟨#[119,114,105,116,101,95,118,101,114,115,105,111,110,95,100,105,114,101,99,116,105,118,101]⟩,⟨#[112,114,101,112,97,114,101,95,118,101,114,115,105,111,110]⟩,⟨#[101,120,112,101,99,116,95,110,111,116,104,105,110,103]⟩,⟨#[119,114,105,116,101,95,115,116,114,101,97,109,95,101,110,100]⟩,⟨#[102,108,117,115,104,95,115,116,114,101,97,109]⟩,⟨#[101,120,112,101,99,116,95,110,111,100,101]⟩,⟨#[101,120,112,101,99,116,95,100,111,99,117,109,101,110,116,95,101,110,100]⟩,⟨#[101,120,112,101,99,116,95,97,108,105,97,115]⟩,⟨#[101,120,112,101,99,116,95,115,99,97,108,97,114]⟩,⟨#[99,104,101,99,107,95,101,109,112,116,121,95,115,101,113,117,101,110,99,101]⟩,⟨#[101,120,112,101,99,116,95,102,108,111,119,95,115,101,113,117,101,110,99,101]⟩,⟨#[101,120,112,101,99,116,95,98,108,111,99,107,95,115,101,113,117,101,110,99,101]⟩,⟨#[99,104,101,99,107,95,101,109,112,116,121,95,109,97,112,112,105,110,103]⟩,⟨#[101,120,112,101,99,116,95,102,108,111,119,95,109,97,112,112,105,110,103]⟩,⟨#[101,120,112,101,99,116,95,98,108,111,99,107,95,109,97,112,112,105,110,103]⟩,⟨#[112,114,111,99,101,115,115,95,116,97,103]⟩,⟨#[112,114,111,99,101,115,115,95,97,110,99,104,111,114]⟩,⟨#[112,114,111,99,101,115,115,95,115,99,97,108,97,114]⟩,⟨#[105,110,99,114,101,97,115,101,95,105,110,100,101,110,116]⟩,⟨#[101,120,112,101,99,116,95,102,105,114,115,116,95,102,108,111,119,95,115,101,113,117,101,110,99,101,95,105,116,101,109]⟩,⟨#[101,120,112,101,99,116,95,102,108,111,119,95,115,101,113,117,101,110,99,101,95,105,116,101,109]⟩,⟨#[101,120,112,101,99,116,95,102,105,114,115,116,95,102,108,111,119,95,109,97,112,112,105,110,103,95,107,101,121]⟩,⟨#[99,104,101,99,107,95,115,105,109,112,108,101,95,107,101,121]⟩,⟨#[101,120,112,101,99,116,95,102,108,111,119,95,109,97,112,112,105,110,103,95,115,105,109,112,108,101,95,118,97,108,117,101]⟩,⟨#[101,120,112,101,99,116,95,102,108,111,119,95,109,97,112,112,105,110,103,95,118,97,108,117,101]⟩,⟨#[101,120,112,101,99,116,95,102,108,111,119,95,109,97,112,112,105,110,103,95,107,101,121]⟩,⟨#[101,120,112,101,99,116,95,102,105,114,115,116,95,98,108,111,99,107,95,115,101,113,117,101,110,99,101,95,105,116,101,109]⟩,⟨#[101,120,112,101,99,116,95,98,108,111,99,107,95,115,101,113,117,101,110,99,101,95,105,116,101,109]⟩,⟨#[101,120,112,101,99,116,95,102,105,114,115,116,95,98,108,111,99,107,95,109,97,112,112,105,110,103,95,107,101,121]⟩,⟨#[101,120,112,101,99,116,95,98,108,111,99,107,95,109,97,112,112,105,110,103,95,107,101,121]⟩,⟨#[101,120,112,101,99,116,95,98,108,111,99,107,95,109,97,112,112,105,110,103,95,115,105,109,112,108,101,95,118,97,108,117,101]⟩,⟨#[101,120,112,101,99,116,95,98,108,111,99,107,95,109,97,112,112,105,110,103,95,118,97,108,117,101]⟩,⟨#[97,110,97,108,121,122,101,95,115,99,97,108,97,114]⟩,⟨#[112,114,101,112,97,114,101,95,116,97,103]⟩,⟨#[112,114,101,112,97,114,101,95,97,110,99,104,111,114]⟩,⟨#[99,104,111,111,115,101,95,115,99,97,108,97,114,95,115,116,121,108,101]⟩,⟨#[119,114,105,116,101,95,100,111,117,98,108,101,95,113,117,111,116,101,100]⟩,⟨#[119,114,105,116,101,95,115,105,110,103,108,101,95,113,117,111,116,101,100]⟩,⟨#[119,114,105,116,101,95,102,111,108,100,101,100]⟩,⟨#[119,114,105,116,101,95,108,105,116,101,114,97,108]⟩,⟨#[119,114,105,116,101,95,112,108,97,105,110]⟩,⟨#[101,110,99,111,100,101]⟩,⟨#[119,114,105,116,101]⟩,⟨#[119,114,105,116,101,95,108,105,110,101,95,98,114,101,97,107]⟩,⟨#[69,83,67,65,80,69,95,82,69,80,76,65,67,69,77,69,78,84,83]⟩,⟨#[100,101,116,101,114,109,105,110,101,95,98,108,111,99,107,95,104,105,110,116,115]⟩,⟨#[101,109,105,116]⟩]
noncomputable def nm (n:Nat):Str:=(nth nmL n).getD ⟨#[]⟩
noncomputable def gnmL:List (Str):=[⟨#[105,115,105,110,115,116,97,110,99,101]⟩,⟨#[68,111,99,117,109,101,110,116,83,116,97,114,116,69,118,101,110,116]⟩,⟨#[83,101,113,117,101,110,99,101,83,116,97,114,116,69,118,101,110,116]⟩,⟨#[77,97,112,112,105,110,103,83,116,97,114,116,69,118,101,110,116]⟩,⟨#[108,101,110]⟩,⟨#[67,111,108,108,101,99,116,105,111,110,83,116,97,114,116,69,118,101,110,116]⟩,⟨#[67,111,108,108,101,99,116,105,111,110,69,110,100,69,118,101,110,116]⟩,⟨#[68,111,99,117,109,101,110,116,69,110,100,69,118,101,110,116]⟩,⟨#[83,116,114,101,97,109,69,110,100,69,118,101,110,116]⟩,⟨#[83,116,114,101,97,109,83,116,97,114,116,69,118,101,110,116]⟩,⟨#[65,108,105,97,115,69,118,101,110,116]⟩,⟨#[83,99,97,108,97,114,69,118,101,110,116]⟩,⟨#[83,101,113,117,101,110,99,101,69,110,100,69,118,101,110,116]⟩,⟨#[77,97,112,112,105,110,103,69,110,100,69,118,101,110,116]⟩,⟨#[78,111,100,101,69,118,101,110,116]⟩,⟨#[83,99,97,108,97,114,65,110,97,108,121,115,105,115]⟩,⟨#[115,116,114]⟩,⟨#[95,108,97,119,95,84,65,71,83]⟩,⟨#[95,108,97,119,95,112,97,114,116,115]⟩,⟨#[95,108,97,119,95,99,111,108,117,109,110]⟩,⟨#[95,108,97,119,95,98,114,97,99,101,115]⟩,⟨#[95,108,97,119,95,98,108,111,99,107]⟩,⟨#[69,109,105,116,116,101,114]⟩,⟨#[82,111,119,115]⟩,⟨#[95,108,97,119,95,101,118,101,110,116,115]⟩,⟨#[95,108,97,119,95,107,101,121]⟩]
noncomputable def gnm (n:Nat):Str:=(nth gnmL n).getD ⟨#[]⟩
noncomputable def nmsL:List (List Str):=[[⟨#[115,101,108,102]⟩,⟨#[115,116,97,114,116,95,109,97,114,107]⟩,⟨#[101,110,100,95,109,97,114,107]⟩],[⟨#[115,101,108,102]⟩,⟨#[97,110,99,104,111,114]⟩,⟨#[115,116,97,114,116,95,109,97,114,107]⟩,⟨#[101,110,100,95,109,97,114,107]⟩],[⟨#[115,101,108,102]⟩,⟨#[97,110,99,104,111,114]⟩,⟨#[116,97,103]⟩,⟨#[105,109,112,108,105,99,105,116]⟩,⟨#[115,116,97,114,116,95,109,97,114,107]⟩,⟨#[101,110,100,95,109,97,114,107]⟩,⟨#[102,108,111,119,95,115,116,121,108,101]⟩],[⟨#[115,101,108,102]⟩,⟨#[115,116,97,114,116,95,109,97,114,107]⟩,⟨#[101,110,100,95,109,97,114,107]⟩,⟨#[101,110,99,111,100,105,110,103]⟩],[⟨#[115,101,108,102]⟩,⟨#[115,116,97,114,116,95,109,97,114,107]⟩,⟨#[101,110,100,95,109,97,114,107]⟩,⟨#[101,120,112,108,105,99,105,116]⟩,⟨#[118,101,114,115,105,111,110]⟩,⟨#[116,97,103,115]⟩],[⟨#[115,101,108,102]⟩,⟨#[115,116,97,114,116,95,109,97,114,107]⟩,⟨#[101,110,100,95,109,97,114,107]⟩,⟨#[101,120,112,108,105,99,105,116]⟩],[⟨#[115,101,108,102]⟩,⟨#[97,110,99,104,111,114]⟩,⟨#[116,97,103]⟩,⟨#[105,109,112,108,105,99,105,116]⟩,⟨#[118,97,108,117,101]⟩,⟨#[115,116,97,114,116,95,109,97,114,107]⟩,⟨#[101,110,100,95,109,97,114,107]⟩,⟨#[115,116,121,108,101]⟩],[⟨#[115,101,108,102]⟩,⟨#[115,99,97,108,97,114]⟩,⟨#[101,109,112,116,121]⟩,⟨#[109,117,108,116,105,108,105,110,101]⟩,⟨#[97,108,108,111,119,95,102,108,111,119,95,112,108,97,105,110]⟩,⟨#[97,108,108,111,119,95,98,108,111,99,107,95,112,108,97,105,110]⟩,⟨#[97,108,108,111,119,95,115,105,110,103,108,101,95,113,117,111,116,101,100]⟩,⟨#[97,108,108,111,119,95,100,111,117,98,108,101,95,113,117,111,116,101,100]⟩,⟨#[97,108,108,111,119,95,98,108,111,99,107]⟩],[⟨#[115,101,108,102]⟩,⟨#[115,116,114,101,97,109]⟩,⟨#[99,97,110,111,110,105,99,97,108]⟩,⟨#[105,110,100,101,110,116]⟩,⟨#[119,105,100,116,104]⟩,⟨#[97,108,108,111,119,95,117,110,105,99,111,100,101]⟩,⟨#[108,105,110,101,95,98,114,101,97,107]⟩],[⟨#[115,101,108,102]⟩,⟨#[101,118,101,110,116]⟩],[⟨#[115,101,108,102]⟩,⟨#[101,118,101,110,116]⟩],[⟨#[115,101,108,102]⟩,⟨#[99,111,117,110,116]⟩,⟨#[108,101,118,101,108]⟩,⟨#[101,118,101,110,116]⟩],[⟨#[115,101,108,102]⟩,⟨#[102,108,111,119]⟩,⟨#[105,110,100,101,110,116,108,101,115,115]⟩],[⟨#[115,101,108,102]⟩],[⟨#[115,101,108,102]⟩],[⟨#[115,101,108,102]⟩],[⟨#[115,101,108,102]⟩,⟨#[102,105,114,115,116]⟩,⟨#[105,109,112,108,105,99,105,116]⟩,⟨#[118,101,114,115,105,111,110,95,116,101,120,116]⟩,⟨#[104,97,110,100,108,101,115]⟩,⟨#[104,97,110,100,108,101]⟩,⟨#[112,114,101,102,105,120]⟩,⟨#[104,97,110,100,108,101,95,116,101,120,116]⟩,⟨#[112,114,101,102,105,120,95,116,101,120,116]⟩],[⟨#[115,101,108,102]⟩],[⟨#[115,101,108,102]⟩],[⟨#[115,101,108,102]⟩,⟨#[114,111,111,116]⟩,⟨#[115,101,113,117,101,110,99,101]⟩,⟨#[109,97,112,112,105,110,103]⟩,⟨#[115,105,109,112,108,101,95,107,101,121]⟩],[⟨#[115,101,108,102]⟩],[⟨#[115,101,108,102]⟩],[⟨#[115,101,108,102]⟩],[⟨#[115,101,108,102]⟩],[⟨#[115,101,108,102]⟩],[⟨#[115,101,108,102]⟩],[⟨#[115,101,108,102]⟩],[⟨#[115,101,108,102]⟩],[⟨#[115,101,108,102]⟩],[⟨#[115,101,108,102]⟩],[⟨#[115,101,108,102]⟩,⟨#[105,110,100,101,110,116,108,101,115,115]⟩],[⟨#[115,101,108,102]⟩],[⟨#[115,101,108,102]⟩,⟨#[102,105,114,115,116]⟩],[⟨#[115,101,108,102]⟩],[⟨#[115,101,108,102]⟩],[⟨#[115,101,108,102]⟩,⟨#[102,105,114,115,116]⟩],[⟨#[115,101,108,102]⟩],[⟨#[115,101,108,102]⟩],[⟨#[115,101,108,102]⟩],[⟨#[115,101,108,102]⟩],[⟨#[115,101,108,102]⟩,⟨#[101,118,101,110,116]⟩],[⟨#[115,101,108,102]⟩,⟨#[108,101,110,103,116,104]⟩],[⟨#[115,101,108,102]⟩,⟨#[105,110,100,105,99,97,116,111,114]⟩],[⟨#[115,101,108,102]⟩,⟨#[116,97,103]⟩],[⟨#[115,101,108,102]⟩],[⟨#[115,101,108,102]⟩,⟨#[115,112,108,105,116]⟩],[⟨#[115,101,108,102]⟩,⟨#[116,97,103]⟩,⟨#[104,97,110,100,108,101]⟩,⟨#[115,117,102,102,105,120]⟩,⟨#[112,114,101,102,105,120,101,115]⟩,⟨#[112,114,101,102,105,120]⟩,⟨#[99,104,117,110,107,115]⟩,⟨#[115,116,97,114,116]⟩,⟨#[101,110,100]⟩,⟨#[99,104]⟩,⟨#[100,97,116,97]⟩,⟨#[115,117,102,102,105,120,95,116,101,120,116]⟩],[⟨#[115,101,108,102]⟩,⟨#[97,110,99,104,111,114]⟩,⟨#[99,104]⟩],[⟨#[115,101,108,102]⟩,⟨#[115,99,97,108,97,114]⟩,⟨#[98,108,111,99,107,95,105,110,100,105,99,97,116,111,114,115]⟩,⟨#[102,108,111,119,95,105,110,100,105,99,97,116,111,114,115]⟩,⟨#[108,105,110,101,95,98,114,101,97,107,115]⟩,⟨#[115,112,101,99,105,97,108,95,99,104,97,114,97,99,116,101,114,115]⟩,⟨#[108,101,97,100,105,110,103,95,115,112,97,99,101]⟩,⟨#[108,101,97,100,105,110,103,95,98,114,101,97,107]⟩,⟨#[116,114,97,105,108,105,110,103,95,115,112,97,99,101]⟩,⟨#[116,114,97,105,108,105,110,103,95,98,114,101,97,107]⟩,⟨#[98,114,101,97,107,95,115,112,97,99,101]⟩,⟨#[115,112,97,99,101,95,98,114,101,97,107]⟩,⟨#[112,114,101,99,101,100,101,100,95,98,121,95,119,104,105,116,101,115,112,97,99,101]⟩,⟨#[102,111,108,108,111,119,101,100,95,98,121,95,119,104,105,116,101,115,112,97,99,101]⟩,⟨#[112,114,101,118,105,111,117,115,95,115,112,97,99,101]⟩,⟨#[112,114,101,118,105,111,117,115,95,98,114,101,97,107]⟩,⟨#[105,110,100,101,120]⟩,⟨#[99,104]⟩,⟨#[117,110,105,99,111,100,101,95,99,104,97,114,97,99,116,101,114,115]⟩,⟨#[97,108,108,111,119,95,102,108,111,119,95,112,108,97,105,110]⟩,⟨#[97,108,108,111,119,95,98,108,111,99,107,95,112,108,97,105,110]⟩,⟨#[97,108,108,111,119,95,115,105,110,103,108,101,95,113,117,111,116,101,100]⟩,⟨#[97,108,108,111,119,95,100,111,117,98,108,101,95,113,117,111,116,101,100]⟩,⟨#[97,108,108,111,119,95,98,108,111,99,107]⟩],[⟨#[115,101,108,102]⟩],[⟨#[115,101,108,102]⟩],[⟨#[115,101,108,102]⟩],[⟨#[115,101,108,102]⟩,⟨#[105,110,100,105,99,97,116,111,114]⟩,⟨#[110,101,101,100,95,119,104,105,116,101,115,112,97,99,101]⟩,⟨#[119,104,105,116,101,115,112,97,99,101]⟩,⟨#[105,110,100,101,110,116,105,111,110]⟩,⟨#[100,97,116,97]⟩],[⟨#[115,101,108,102]⟩,⟨#[105,110,100,101,110,116]⟩,⟨#[100,97,116,97]⟩],[⟨#[115,101,108,102]⟩,⟨#[100,97,116,97]⟩],[⟨#[115,101,108,102]⟩,⟨#[116,101,120,116]⟩,⟨#[115,112,108,105,116]⟩,⟨#[115,112,97,99,101,115]⟩,⟨#[98,114,101,97,107,115]⟩,⟨#[115,116,97,114,116]⟩,⟨#[101,110,100]⟩,⟨#[99,104]⟩,⟨#[100,97,116,97]⟩,⟨#[98,114]⟩],[⟨#[115,101,108,102]⟩,⟨#[116,101,120,116]⟩,⟨#[115,112,108,105,116]⟩,⟨#[115,116,97,114,116]⟩,⟨#[101,110,100]⟩,⟨#[99,104]⟩,⟨#[100,97,116,97]⟩],[⟨#[115,101,108,102]⟩,⟨#[116,101,120,116]⟩,⟨#[104,105,110,116,115]⟩],[⟨#[115,101,108,102]⟩,⟨#[116,101,120,116]⟩,⟨#[104,105,110,116,115]⟩,⟨#[98,114,101,97,107,115]⟩,⟨#[115,116,97,114,116]⟩,⟨#[101,110,100]⟩,⟨#[99,104]⟩,⟨#[98,114]⟩,⟨#[100,97,116,97]⟩],[⟨#[115,101,108,102]⟩,⟨#[116,101,120,116]⟩,⟨#[115,112,108,105,116]⟩,⟨#[100,97,116,97]⟩,⟨#[115,112,97,99,101,115]⟩,⟨#[98,114,101,97,107,115]⟩,⟨#[115,116,97,114,116]⟩,⟨#[101,110,100]⟩,⟨#[99,104]⟩,⟨#[98,114]⟩],[⟨#[115,101,108,102]⟩],[⟨#[115,101,108,102]⟩,⟨#[100,97,116,97]⟩],[⟨#[115,101,108,102]⟩],[],[⟨#[110,117,109,98,101,114,115]⟩,⟨#[107,105,110,100]⟩,⟨#[115,105,122,101]⟩,⟨#[97,110,99,104,111,114]⟩,⟨#[116,97,103]⟩,⟨#[116,111,108,100]⟩,⟨#[115,97,105,100]⟩],[⟨#[107,101,121]⟩,⟨#[107,105,110,100]⟩,⟨#[115,105,122,101]⟩,⟨#[97,110,99,104,111,114]⟩,⟨#[116,97,103]⟩,⟨#[116,111,108,100]⟩,⟨#[115,97,105,100]⟩,⟨#[110,97,109,101]⟩,⟨#[118,97,108,117,101]⟩,⟨#[115,116,121,108,101]⟩],[⟨#[107,101,121]⟩,⟨#[102,108,111,119]⟩,⟨#[105,110,100,101,110,116]⟩,⟨#[101,110,100]⟩,⟨#[107,105,110,100]⟩,⟨#[115,105,122,101]⟩,⟨#[97,110,99,104,111,114]⟩,⟨#[116,97,103]⟩,⟨#[116,111,108,100]⟩,⟨#[115,97,105,100]⟩,⟨#[112,97,114,116,115]⟩,⟨#[99,111,117,110,116]⟩,⟨#[109,97,114,107]⟩],[⟨#[116,101,120,116]⟩,⟨#[101,110,100]⟩],[⟨#[107,101,121,115]⟩,⟨#[115,116,101,112]⟩,⟨#[101,110,100]⟩,⟨#[116,101,120,116]⟩,⟨#[107,101,121]⟩,⟨#[112,97,114,116,115]⟩,⟨#[115,105,109,112,108,101]⟩],[⟨#[107,101,121,115]⟩,⟨#[115,116,101,112]⟩,⟨#[108,105,109,105,116]⟩,⟨#[101,110,100]⟩,⟨#[116,101,120,116]⟩,⟨#[107]⟩,⟨#[112,97,114,116,115]⟩,⟨#[115,105,109,112,108,101]⟩],[⟨#[115,99,114,105,112,116]⟩,⟨#[104,101,97,100]⟩,⟨#[102,108,111,119]⟩,⟨#[116,111,108,100,95,105,110,100,101,110,116]⟩,⟨#[116,111,108,100,95,101,110,100]⟩,⟨#[116,111,108,100,95,119,105,100,116,104]⟩,⟨#[115,116,101,112]⟩,⟨#[108,105,109,105,116]⟩,⟨#[101,110,100]⟩,⟨#[107,101,121,115]⟩,⟨#[107]⟩,⟨#[112,97,114,116]⟩,⟨#[114,111,119]⟩,⟨#[107,101,121]⟩,⟨#[101,109,105,116,116,101,114]⟩,⟨#[101,118,101,110,116]⟩,⟨#[100,117,101]⟩]]
noncomputable def nms (n:Nat):List Str:=(nth nmsL n).getD []
end Mine.L1
namespace Mine
open PySem PySem.W PyProof.Rows PySem.Calls PySem.Builtin
namespace L1
noncomputable def claL:List Nat:=[31,59,81,101,113,133,145,165,185,197,217,229,241,253,265,277,296,736,771]
noncomputable def cla (c:Nat):Nat:=(nth claL c).getD 0
noncomputable def fnaL:List Nat:=[49,78,98,130,162,182,214,293,316,330,337,344,352,359,366,373,381,388,395,403,410,417,424,431,438,445,452,459,466,473,480,487,495,502,509,517,524,531,538,545,552,559,566,573,580,587,615,622,629,636,643,650,658,665,673,695,704,711,725,733,754,761,768,782,789,796,803,810,817,824,829]
noncomputable def fna (c:Nat):Nat:=(nth fnaL c).getD 0
noncomputable def bin (b:Nat):Value:=.builtin (Nat.casesOn (motive:=fun _=>String) b "len" fun _=>"isinstance")
end L1
noncomputable def mkC (K:Frag) (h₀:Heap) (prog:Program) (wd:World) (mg mb:Str → Option Value) (p:Program) (loose:List Str):Cx:=
  { N:={ T:=L1.T,nm:=L1.nm,natr:=L1.natr,fna:=L1.fna,cla:=L1.cla,bin:=L1.bin,P:=wd.params,h₀:=h₀ },prog,wd,K,mg,mb,p,loose,gnm:=L1.gnm }
theorem nth_lt {α:Type} {l:List α} {n:Nat} {a:α} (h:nth l n = some a):n < l.length:=(List.getElem?_eq_some_iff.mp ((nth_eq l n).symm.trans h)).1
theorem range_all {n:Nat} {p:Nat → Bool} (h:(List.range n).all p = true) {i:Nat} (hi:i < n):p i = true:=List.all_eq_true.mp h i (List.mem_range.mpr hi)
noncomputable def reqsOf (l:List (Nat × Option MV)):List Nat:=(l.filter fun p=>p.2.isNone).map Prod.fst
noncomputable def optsOf (l:List (Nat × Option MV)):List (Nat × MV):=l.filterMap fun p=>p.2.map fun v=>(p.1,v)
noncomputable def okPar (l:List (Nat × Option MV)):Bool:=List.rec (motive:=fun _=>Bool) true (fun p r ih=>bif p.2.isNone then ih else r.all fun q=>q.2.isSome) l
theorem opts_ok {l:List (Nat × Option MV)} (h:l.all (fun q=>q.2.isSome) = true):l = (optsOf l).map (fun p=>(p.1,some p.2)) ∧ reqsOf l = []:=by
  induction l with
  | nil=>exact ⟨rfl,rfl⟩
  | cons p r ih=>
    obtain ⟨n,o⟩:=p
    have h:=List.all_cons.symm.trans h
    cases o with
    | none=>exact noB (andL h)
    | some v=>exact ⟨congrArg (List.cons _) (ih (andR h)).1,(ih (andR h)).2⟩
theorem okPar_ok {l:List (Nat × Option MV)} (h:okPar l = true):l = (reqsOf l).map (fun n=>(n,none)) ++ (optsOf l).map (fun p=>(p.1,some p.2)):=by
  induction l with
  | nil=>rfl
  | cons p r ih=>
    obtain ⟨n,o⟩:=p
    cases o with
    | none=>exact congrArg (List.cons _) (ih h)
    | some v=>
      obtain ⟨h1,h2⟩:=opts_ok (l:=(n,some v) :: r) (List.all_cons.trans (Bool.and_eq_true_iff.mpr ⟨rfl,h⟩))
      rw [h2];exact h1
noncomputable def eqSs (a b:List Str):Bool:=Nat.beq a.length b.length && (a.zip b).all fun p=>eqS p.1 p.2
theorem eqSs_eq {a:List Str}:∀ {b:List Str},eqSs a b = true → a = b:=by
  induction a with
  | nil=>intro b h;exact (List.eq_nil_of_length_eq_zero (Nat.eq_of_beq_eq_true (andL h)).symm).symm
  | cons x r ih=>
    intro b h
    cases b with
    | nil=>exact noB (andL h)
    | cons y q=>
      have h2:=List.all_cons.symm.trans (andR h)
      have e:x = y:=eqS_eq (andL h2)
      have e2:r = q:=ih (Bool.and_eq_true_iff.mpr ⟨andL h,andR h2⟩)
      rw [e,e2]
noncomputable def ndB {α:Type} (eq:α → α → Bool) (l:List α):Bool:=List.rec (motive:=fun _=>Bool) true (fun k r ih=>r.all (fun j=>!(eq k j)) && ih) l
theorem ndB_ok {α:Type} {eq:α → α → Bool} (hr:∀ a,eq a a = true) {l:List α} (h:ndB eq l = true):l.Nodup:=by
  induction l with
  | nil=>exact .nil
  | cons k r ih=>
    refine List.nodup_cons.mpr ⟨fun z=>?_,ih (andR h)⟩
    have:=List.all_eq_true.mp (andL h) k z
    rw [hr k] at this;exact noB this
noncomputable def dv1 (v:MV) (a:Value):Bool:=bif isNone v then (match a with
    | .none=>true
    | _=>false) else MV.casesOn (motive_1:=fun _=>Bool) v false (fun b=>match a with
    | .bool c=>b == c
    | _=>false) (fun _=>false) (fun _=>false) (fun _=>false) (fun _=>false) (fun _=>false) (fun _=>false) (fun _ _=>false) (fun _ _=>false) (fun _=>false) (fun _=>false) (fun _=>false)
theorem dv1_ok {N:Nm} {w:Wd} {v:MV} {a:Value} (h:dv1 v a = true):VRel N w v a:=by
  cases v with
  | none=>cases a with
    | none=>exact .none
    | _=>exact noB h
  | bool b=>cases a with
    | bool c=>rw [eq_of_beq (h:(b == c) = true)];exact .bool c
    | _=>exact noB h
  | _=>exact noB h
noncomputable def dvB (os:List MV) (ds:List Value):Bool:=Nat.beq os.length ds.length && (os.zip ds).all fun p=>dv1 p.1 p.2
theorem dvB_ok {N:Nm} {w:Wd} {os:List MV}:∀ {ds:List Value},dvB os ds = true → VRels N w os ds:=by
  induction os with
  | nil=>intro ds h;exact List.eq_nil_of_length_eq_zero (Nat.eq_of_beq_eq_true (andL h)).symm
  | cons o r ih=>
    intro ds h
    cases ds with
    | nil=>exact noB (andL h)
    | cons d q=>
      have h2:=List.all_cons.symm.trans (andR h)
      exact .cons (dv1_ok (andL h2)) (ih (Bool.and_eq_true_iff.mpr ⟨andL h,andR h2⟩))
noncomputable def seqAt (K:Frag) (T:Addr):Option (List Value):=(K.lookup T).bind fun o=>match o.data with
  | .seq ds _=>some ds.toList
  | _=>none
noncomputable def dsOf (K:Frag) (dV:Value):Option (List Value):=match dV with
  | .none=>some []
  | .ref T=>seqAt K T
  | _=>none
theorem dsOf_ok {K:Frag} {dV:Value} {ds:List Value} (h:dsOf K dV = some ds):(dV = .none ∧ ds = []) ∨ ∃ T oc od k sl,dV = .ref T ∧ K.lookup T = some ⟨oc,od,.seq ds.toArray k,sl⟩:=by
  cases dV with
  | none=>exact .inl ⟨rfl,(Option.some.inj h).symm⟩
  | ref T=>
    refine bindE (h:(K.lookup T).bind _ = _) fun o h1 h=>?_
    obtain ⟨oc,od,dat,sl⟩:=o
    cases dat with
    | seq xs k=>exact .inr ⟨T,oc,od,k,sl,rfl,by rw [h1,← Option.some.inj h]⟩
    | _=>exact noS h
  | _=>exact noS h
noncomputable def isCell (k:NameKind):Bool:=Nat.beq k.ctorIdx NameKind.cell.ctorIdx
noncomputable def fdAt (C:Cx) (f:Nat):Option FuncData:=(C.K.lookup (C.N.fna f)).bind fun o=>match o.data with
  | .func fd=>some fd
  | _=>none
noncomputable def bodyAt (fd:FuncData):Option (List Stmt):=match fd.body with
  | .stmts b=>some b
  | _=>none
noncomputable def bodyOf (C:Cx) (f:Nat):List Stmt:=((fdAt C f).bind bodyAt).getD []
noncomputable def fcOf (C:Cx) (f:Nat):Fc:=⟨((fdAt C f).map (·.scope)).getD ⟨.module,[],false,false,[]⟩,L1.nms f⟩
noncomputable def miniOf (C:Cx) (f:Nat):MSs:=((C.N.T.body f).map Prod.snd).getD .nil
noncomputable def parB (C:Cx) (fd:FuncData) (nms:List Str) (ps:List (Nat × Option MV)) (ids:List Nat):Bool:=
  okPar ps && (eqSs (fd.params.args.map (·.arg)) (ids.map C.N.nm) && (ids.all (fun n=>ltN n C.N.natr) && (ndB Nat.beq ids && (eqSs (nms.take ids.length) (ids.map C.N.nm) && ((dsOf C.K fd.defaults).map fun ds=>dvB ((optsOf ps).map (·.2)) ds).getD false))))
noncomputable def defB (C:Cx) (fd:FuncData) (nms:List Str):Bool:=
  Nat.beq fd.globals mainGlobals && (fd.closure.isEmpty && (Nat.beq fd.builtins builtinsNs && (codeIn C.K fd.code fd.qualname && (fd.params.posonlyargs.isEmpty && (fd.params.kwonlyargs.isEmpty && (fd.params.vararg.isNone && (fd.params.kwarg.isNone &&
  (ndB eqS nms && (nms.all (fun x=>isLoc (lookL x fd.scope.names)) && (!fd.scope.isCoroutine && (!fd.scope.isGenerator && (funB fd.scope.kind && fd.scope.names.all fun q=>!isCell q.2))))))))))))
noncomputable def fnB (C:Cx) (f:Nat):Bool:=((fdAt C f).map fun fd=>(bodyAt fd).isSome && (defB C fd (L1.nms f) && (parB C fd (L1.nms f) (C.N.T.fnPar f) (reqsOf (C.N.T.fnPar f) ++ (optsOf (C.N.T.fnPar f)).map (·.1)) && okSs C (fcOf C f) (miniOf C f) (bodyOf C f)))).getD false
theorem eqS_refl (x:Str):eqS x x = true:=eqT_refl _
theorem fd_eq {fd:FuncData} {b:List Stmt} (hb:bodyAt fd = some b) (e1:fd.globals = mainGlobals) (e2:fd.closure = []) (e3:fd.builtins = builtinsNs) :
    fnOf fd.name fd.qualname fd.params b fd.scope fd.defaults fd.kwdefaults fd.doc fd.pyModule fd.annotations fd.code fd.closureTuple = fd:=by
  obtain ⟨fname,fqual,fparams,fbody,fscope,fglob,fclo,fdef,fkw,fdoc,fpm,fan,fcode,fct,fbi⟩:=fd
  dsimp only at e1 e2 e3
  subst e1 e2 e3
  cases fbody with
  | stmts b'=>obtain rfl:=Option.some.inj hb;rfl
  | _=>exact noS hb
theorem obj_func {o:Obj} {fd:FuncData} (h:(match o.data with
  | .func fd=>some fd
  | _=>none) = some fd):o = ⟨o.cls,o.dict,.func fd,o.slots⟩:=by
  obtain ⟨oc,od,dat,osl⟩:=o
  cases dat with
  | func fd'=>obtain rfl:=Option.some.inj h;rfl
  | _=>exact noS h
theorem getD_some {α:Type} {o:Option α} {p:α → Bool} (h:(o.map p).getD false = true):∃ a,o = some a ∧ p a = true:=by
  cases o with
  | none=>exact noB h
  | some a=>exact ⟨a,rfl,h⟩
theorem fnB_ok {C:Cx} {f:Nat} (h:fnB C f = true) (he:toSs C (fcOf C f) (miniOf C f) (bodyOf C f) = bodyOf C f):DefOk C f (miniOf C f):=by
  obtain ⟨fd,hfd,h⟩:=getD_some h
  obtain ⟨body,hbody⟩:=Option.isSome_iff_exists.mp (andL h)
  have hb:bodyOf C f = body:=by unfold bodyOf;rw [hfd,Option.bind_some,hbody];rfl
  have hsc:fcOf C f = ⟨fd.scope,L1.nms f⟩:=by unfold fcOf;rw [hfd];rfl
  have hok:=andR (andR (andR h))
  rw [hb,hsc] at hok he
  have hp:=andL (andR (andR h))
  have hd:=andL (andR h)
  obtain ⟨o,hl,ho⟩:=bind_some hfd
  have d2:=andR hd
  have d3:=andR d2
  have d4:=andR d3
  have d5:=andR d4
  have d6:=andR d5
  have d7:=andR d6
  have d8:=andR d7
  have d9:=andR d8
  have d10:=andR d9
  have d11:=andR d10
  have d12:=andR d11
  have d13:=andR d12
  have p2:=andR hp
  have p3:=andR p2
  have p4:=andR p3
  have p5:=andR p4
  obtain ⟨ds,hds,hdv⟩:=getD_some (andR p5)
  have hq:=fd_eq hbody (Nat.eq_of_beq_eq_true (andL hd)) (List.isEmpty_iff.mp (andL d2)) (Nat.eq_of_beq_eq_true (andL d3))
  exact ⟨⟨fd.name,fd.qualname,fd.params,body,fd.scope,fd.defaults,fd.kwdefaults,fd.doc,fd.pyModule,fd.annotations,fd.code,fd.closureTuple⟩,L1.nms f,_,_,ds,⟨⟨o.cls,o.dict,o.slots,hl.trans ((congrArg some (obj_func ho)).trans (by rw [← hq]))⟩,andL d4,List.isEmpty_iff.mp (andL d5),eqSs_eq (andL p2),List.isEmpty_iff.mp (andL d6),
    Option.isNone_iff_eq_none.mp (andL d7),Option.isNone_iff_eq_none.mp (andL d8),okPar_ok (andL hp),fun n hn=>ltN_lt (List.all_eq_true.mp (andL p3) n hn),ndB_ok Nat.beq_refl (andL p4),dsOf_ok hds,fun w=>dvB_ok hdv,ndB_ok eqS_refl (andL d9),eqSs_eq (andL p5),fun x hx=>lookLoc (List.all_eq_true.mp (andL d10) x hx),
    notT (andL d11),notT (andL d12),fun_kind (andL d13),fun x hx z=>by
      have:=notT (List.all_eq_true.mp (andR d13) x hx)
      rw [z] at this;exact noB this.symm⟩,he,hok⟩
open PySem PySem.W PyProof.Rows PySem.Calls PySem.Builtin
noncomputable def isSomeV (o:Option (Option Value)) (v:Value):Bool:=o == some (some v)
noncomputable def isNoneV (o:Option (Option Value)):Bool:=o == some none
theorem isSomeV_eq {o:Option (Option Value)} {v:Value} (h:isSomeV o v = true):o = some (some v):=beq_iff_eq.mp h
theorem isNoneV_eq {o:Option (Option Value)} (h:isNoneV o = true):o = some none:=beq_iff_eq.mp h
noncomputable def mthB (C:Cx) (c:Nat) (n:Nat):Bool:=Option.casesOn (motive:=fun _=>Bool) (C.N.T.clsMeth c n) true fun f=>
  (fieldIx (C.N.T.clsFields c) n).isNone && (isSomeV (findIn C.K (.ref (C.N.cla c)) (C.N.nm n)) (.ref (C.N.fna f)) && (isFn C.K (.ref (C.N.fna f)) && (isSomeV (specialIn C.K (.ref (C.N.fna f)) "__get__") (.builtin "function.__get__") &&
      (takesIn C.K (.ref (C.N.fna f)) == some false && (!(copiedNames.contains (C.N.nm n)) && (C.N.T.body f).isSome)))))
noncomputable def clsB (C:Cx) (c:Nat):Bool:=
  isSomeV (findIn C.K (.ref (C.N.cla c)) "__getattribute__") (.builtin "object.__getattribute__") && (isNoneV (findIn C.K (.ref (C.N.cla c)) "__getattr__") && (isSomeV (findIn C.K (.ref (C.N.cla c)) "__setattr__") (.builtin "object.__setattr__") &&
  (hasDictIn C.K (C.N.cla c) && (plainOver C.K (C.N.cla c) && ((C.N.T.clsFields c).all (fun n=>isNoneV (findIn C.K (.ref (C.N.cla c)) (C.N.nm n)) && ltN n C.N.natr) && ((List.range C.N.natr).all (mthB C c) &&
  (Nat.ble (C.N.T.clsFields c).length 900 && ndB Nat.beq (C.N.T.clsFields c))))))))
theorem clsB_ok {C:Cx} {c:Nat} (h:clsB C c = true) (ha:∀ n v,n < C.N.natr → C.N.T.clsAttr c n = some v → ∃ a,fieldIx (C.N.T.clsFields c) n = none ∧ findIn C.K (.ref (C.N.cla c)) (C.N.nm n) = some (some a) ∧ specialIn C.K a "__get__" = some none ∧ handedIn a = true ∧
    copiedNames.contains (C.N.nm n) = false ∧ ∀ w:Wd,(∀ a o,C.N.h₀.get? a = some o → w.G a = some o) → VRel C.N w v a):ClsOk C c:=by
  have h2:=andR h
  have h3:=andR h2
  have h4:=andR h3
  have h5:=andR h4
  have h6:=andR h5
  have h7:=andR h6
  have h8:=andR h7
  refine ⟨isSomeV_eq (andL h),isNoneV_eq (andL h2),isSomeV_eq (andL h3),andL h4,andL h5,fun n i hn hf=>isNoneV_eq (andL (List.all_eq_true.mp (andL h6) n (List.mem_of_getElem? (field_ix hf)))),fun n f hn hf=>?_,ha,Nat.le_of_ble_eq_true (andL h8),fun n hn=>ltN_lt (andR (List.all_eq_true.mp (andL h6) n hn)),ndB_ok Nat.beq_refl (andR h8)⟩
  have g:=range_all (andL h7) hn
  unfold mthB at g
  rw [hf] at g
  have g1:((fieldIx (C.N.T.clsFields c) n).isNone && _) = true:=g
  have g2:=andR g1
  have g3:=andR g2
  have g4:=andR g3
  have g5:=andR g4
  have g6:=andR g5
  exact ⟨Option.isNone_iff_eq_none.mp (andL g1),isSomeV_eq (andL g2),andL g3,isSomeV_eq (andL g4),beq_iff_eq.mp (andL g5),notT (andL g6),andR g6⟩
noncomputable def sdL:List (Tx × Tx):=[([33],[33]),([116,97,103,58,121,97,109,108,46,111,114,103,44,50,48,48,50,58],[33,33])]
structure DpOk (C:Cx):Prop where
  at_:∃ dp,(dp == sysModules) = false ∧ findIn C.K (.ref (C.N.cla 17)) (C.N.nm 91) = some (some (.ref dp)) ∧ specialIn C.K (.ref dp) "__get__" = some none ∧
    ∃ t1 t2 t3 t4 ep,C.K.lookup dp = some ⟨.type "dict",none,.dict #[⟨PyData.keyHash C.N.P (strOf [33]),.str (strOf [33]) t1,.str (strOf [33]) t2⟩,⟨PyData.keyHash C.N.P (strOf [116,97,103,58,121,97,109,108,46,111,114,103,44,50,48,48,50,58]),.str (strOf [116,97,103,58,121,97,109,108,46,111,114,103,44,50,48,48,50,58]) t3,.str (strOf [33,33]) t4⟩] ep,#[]⟩
noncomputable def iniB (C:Cx) (c f:Nat):Bool:=makesIn C.K (C.N.cla c) && (clsRead C.K (C.N.cla c) && (keepIn C.K (.ref (C.N.cla c)) && (isSomeV (findIn C.K (.ref (C.N.cla c)) "__init__") (.ref (C.N.fna f)) && (typeIn C.K (.ref (C.N.fna f)) == some (.type "function") &&
  (clsB C c && (List.range 19).all fun d=>!(C.N.T.clsInit d).isSome || isiOk C.K (C.N.cla c) (C.N.cla d) (C.N.T.clsSub c d))))))
noncomputable def keepB (C:Cx) (f:Nat):Bool:=keepIn C.K (.ref (C.N.fna f)) && fnIn C.K (C.N.fna f)
noncomputable def gnB (C:Cx) (x:Str) (a:Value):Bool:=isSomeV (nsIn C.K mainGlobals x) a || (isNoneV (nsIn C.K mainGlobals x) && (bootBuiltins x == some a && !(eqS x "__name__")))
theorem gnB_ok {C:Cx} {x:Str} {a:Value} (h:gnB C x a = true):GName C x a:=by
  rcases Bool.or_eq_true_iff.mp h with h | h
  · exact .inl (isSomeV_eq h)
  · exact .inr ⟨isNoneV_eq (andL h),beq_iff_eq.mp (andL (andR h)),eqS_ne (notT (andR (andR h)))⟩
noncomputable def gv1 (C:Cx) (x:Str) (v:MV):Bool:=MV.casesOn (motive_1:=fun _=>Bool) v false (fun _=>false) (fun _=>false) (fun _=>false) (fun _=>false) (fun f=>gnB C x (.ref (C.N.fna f)) && (C.N.T.body f).isSome) (fun c=>gnB C x (.ref (C.N.cla c)) && (C.N.T.clsInit c).isSome) (fun b=>gnB C x (C.N.bin b))
  (fun _ _=>false) (fun _ _=>false) (fun _=>false) (fun _=>false) (fun _=>false)
noncomputable def gvB (C:Cx) (i:Nat):Bool:=Option.casesOn (motive:=fun _=>Bool) (C.N.T.gval i) true (gv1 C (C.gnm i))
structure RowFacts (C:Cx):Prop where
  fn:(List.range 71).all (fnB C) = true
  bd:(List.range 71).map (fun f=>toSs C (fcOf C f) (miniOf C f) (bodyOf C f)) = (List.range 71).map (bodyOf C)
  cls:(List.range 19).all (fun c=>Option.casesOn (motive:=fun _=>Bool) (C.N.T.clsInit c) true (iniB C c)) = true
  keep:(List.range 71).all (keepB C) = true
  gv:(List.range 26).all (gvB C) = true
  rg:gnB C "range" (.type "range") = true
  so:gnB C "sorted" (.builtin "sorted") = true
  dp:DpOk C
section
variable {K:Frag} {h₀:Heap} {prog:Program} {wd:World} {mg mb:Str → Option Value} {p:Program} {loose:List Str}
theorem getD_eq {α:Type} {l:List (Option α)} {n:Nat} {a:α} (h:(nth l n).getD none = some a):n < l.length:=by
  cases e:nth l n with
  | none=>rw [e] at h;exact noS h
  | some o=>exact nth_lt e
theorem ini_lt {c f:Nat} (h:L1.clsInit c = some f):c < 19:=getD_eq h
theorem iniAt (F:RowFacts (mkC K h₀ prog wd mg mb p loose)) {c f:Nat} (h:L1.T.clsInit c = some f):iniB (mkC K h₀ prog wd mg mb p loose) c f = true:=by
  have:=range_all F.cls (ini_lt h)
  rw [show (mkC K h₀ prog wd mg mb p loose).N.T.clsInit c = some f from h] at this
  exact this
theorem att_ok (F:RowFacts (mkC K h₀ prog wd mg mb p loose)) (X:K.In h₀) (c:Nat):∀ n v,n < L1.natr → L1.T.clsAttr c n = some v → ∃ a,fieldIx (L1.T.clsFields c) n = none ∧ findIn K (.ref (L1.cla c)) (L1.nm n) = some (some a) ∧ specialIn K a "__get__" = some none ∧ handedIn a = true ∧
    copiedNames.contains (L1.nm n) = false ∧ ∀ w:Wd,(∀ a o,h₀.get? a = some o → w.G a = some o) → VRel (mkC K h₀ prog wd mg mb p loose).N w v a:=by
  intro n v hn h
  have hk:((List.range 19).all fun c=>(List.range L1.natr).all fun n=>(L1.clsAttr c n).isNone || (Nat.beq c 17 && Nat.beq n 91)) = true:=by kernel_rfl
  have hc:c < 19:=bindE (h:(nth L1.clsAttrL c).bind _ = _) fun l h1 _=>nth_lt h1
  have h1:=range_all (range_all hk hc) hn
  rw [show L1.clsAttr c n = some v from h] at h1
  have e1:=Nat.eq_of_beq_eq_true (andL (h1:(Nat.beq c 17 && Nat.beq n 91) = true))
  have e2:=Nat.eq_of_beq_eq_true (andR (h1:(Nat.beq c 17 && Nat.beq n 91) = true))
  subst e1 e2
  have hv:L1.T.clsAttr 17 91 = some (.sd sdL):=by kernel_rfl
  obtain rfl:=Option.some.inj (hv.symm.trans h)
  obtain ⟨dp,h1,h2,h3,t1,t2,t3,t4,ep,h4⟩:=F.dp.at_
  exact ⟨.ref dp,by kernel_rfl,h2,h3,rfl,by kernel_rfl,fun w hw=>SdR.mk (es:=[_,_]) (by decide +kernel) h1 (hw _ _ (X _ _ h4)) ⟨_,_,_,by decide,by decide,rfl,_,_,_,by decide,by decide,rfl,rfl⟩⟩
theorem inj_nm (n m:Nat) (hn:n < L1.natr) (hm:m < L1.natr) (h:L1.nm n = L1.nm m):n = m:=by
  have hd:ndB eqS ((List.range L1.natr).map L1.nm) = true:=by kernel_rfl
  refine nodup_inj (ndB_ok eqS_refl hd) (x:=L1.nm n) ?_ ?_
  · rw [List.getElem?_map,List.getElem?_range hn];rfl
  · rw [List.getElem?_map,List.getElem?_range hm,h];rfl
theorem cxOk (F:RowFacts (mkC K h₀ prog wd mg mb p loose)) (X:K.In h₀) (T:TopRead p loose mg mb h₀):CxOk (mkC K h₀ prog wd mg mb p loose) where
  X:=X
  top:=T
  cls:=fun c hc=>(Option.isSome_iff_exists.mp hc).elim fun f hf=>clsB_ok (andL (andR (andR (andR (andR (andR (iniAt F hf))))))) (att_ok F X c)
  em:=by kernel_rfl
  inj:=inj_nm
  handed:=fun b=>by cases b <;> kernel_rfl
  par:=rfl
theorem caOk (F:RowFacts (mkC K h₀ prog wd mg mb p loose)):CaOk (mkC K h₀ prog wd mg mb p loose) where
  made:=fun c hc=>(Option.isSome_iff_exists.mp hc).elim fun f hf=>andL (iniAt F hf)
  ini:=fun c f hf=>have h:=andR (andR (andR (iniAt F hf)));⟨isSomeV_eq (andL h),beq_iff_eq.mp (andL (andR h))⟩
  isi:=fun c d hc hd=>(Option.isSome_iff_exists.mp hc).elim fun f hf=>(Option.isSome_iff_exists.mp hd).elim fun g hg=>by
    have h:=range_all (andR (andR (andR (andR (andR (andR (iniAt F hf))))))) (ini_lt hg)
    rw [show (mkC K h₀ prog wd mg mb p loose).N.T.clsInit d = some g from hg] at h
    exact h
  rd:=fun c hc=>(Option.isSome_iff_exists.mp hc).elim fun f hf=>andL (andR (iniAt F hf))
  keepC:=fun c hc=>(Option.isSome_iff_exists.mp hc).elim fun f hf=>andL (andR (andR (iniAt F hf)))
  keepF:=fun f hf=>(Option.isSome_iff_exists.mp hf).elim fun b hb=>have h:=range_all F.keep (nth_lt (l:=L1.bodyL) hb);⟨andL h,andR h⟩
  b0:=rfl
  b1:=rfl
theorem nmOk:NmOk (mkC K h₀ prog wd mg mb p loose):=
  have h:∀ (n:Nat) (x:Str),eqS (L1.nm n) x = true → (mkC K h₀ prog wd mg mb p loose).N.nm n = x:=fun _ _=>eqS_eq
  ⟨h 0 _ (by kernel_rfl),h 1 _ (by kernel_rfl),h 2 _ (by kernel_rfl),h 3 _ (by kernel_rfl),h 4 _ (by kernel_rfl),h 5 _ (by kernel_rfl)⟩
theorem gvAt (F:RowFacts (mkC K h₀ prog wd mg mb p loose)) {i:Nat} {v:MV} (h:L1.T.gval i = some v):gv1 (mkC K h₀ prog wd mg mb p loose) (L1.gnm i) v = true:=by
  have hb:=range_all F.gv (getD_eq (l:=L1.gvalL) h)
  unfold gvB at hb
  rw [show (mkC K h₀ prog wd mg mb p loose).N.T.gval i = some v from h] at hb
  exact hb
theorem gvOk (F:RowFacts (mkC K h₀ prog wd mg mb p loose)):GvOk (mkC K h₀ prog wd mg mb p loose) where
  at_:=fun i v h=>by
    have hb:=gvAt F h
    cases v with
    | fn f=>exact ⟨_,gnB_ok (andL hb),fun w _=>.fn _⟩
    | cls c=>exact ⟨_,gnB_ok (andL hb),fun w _=>.cls _⟩
    | bi b=>exact ⟨_,gnB_ok hb,fun w _=>.bi _⟩
    | _=>exact noB hb
  fn:=fun i f h=>andR (gvAt F h)
  cls:=fun i c h=>andR (gvAt F h)
  bi:=fun i b h=>⟨_,rfl⟩
  oth:=fun i f l h=>noB (gvAt F h)
theorem progOk (F:RowFacts (mkC K h₀ prog wd mg mb p loose)):ProgOk (mkC K h₀ prog wd mg mb p loose):=⟨fun f m b hb=>by
  have hf:f < 71:=nth_lt (l:=L1.bodyL) hb
  have he:=congrArg (·[f]?) F.bd
  rw [List.getElem?_map,List.getElem?_map,List.getElem?_range hf] at he
  have h:=fnB_ok (range_all F.fn hf) (Option.some.inj he)
  have hm:miniOf (mkC K h₀ prog wd mg mb p loose) f = b:=by unfold miniOf;rw [hb];rfl
  exact hm ▸ h⟩
theorem base_of (F:RowFacts (mkC K h₀ prog wd mg mb p loose)) (X:K.In h₀) (T:TopRead p loose mg mb h₀):Base (mkC K h₀ prog wd mg mb p loose):=
  ⟨cxOk F X T,caOk F,nmOk,gvOk F,progOk F,⟨gnB_ok F.rg,gnB_ok F.so⟩⟩
end
open PySem PySem.W PyProof.Rows PySem.Calls
variable (P:Params) (h₀:Heap) (prog:Program) (wd:World) (mg mb:Str → Option Value) (p:Program) (loose:List Str)
theorem rf1:(List.range 71).all (fnB (mkC (hK wd.params) h₀ prog wd mg mb p loose)) = true:=by kernel_rfl
theorem rf2:(List.range 71).map (fun f=>toSs (mkC (hK wd.params) h₀ prog wd mg mb p loose) (fcOf (mkC (hK wd.params) h₀ prog wd mg mb p loose) f) (miniOf (mkC (hK wd.params) h₀ prog wd mg mb p loose) f) (bodyOf (mkC (hK wd.params) h₀ prog wd mg mb p loose) f)) = (List.range 71).map (bodyOf (mkC (hK wd.params) h₀ prog wd mg mb p loose)):=by kernel_rfl
theorem rf3:(List.range 19).all (fun c=>Option.casesOn (motive:=fun _=>Bool) ((mkC (hK wd.params) h₀ prog wd mg mb p loose).N.T.clsInit c) true (iniB (mkC (hK wd.params) h₀ prog wd mg mb p loose) c)) = true:=by kernel_rfl
theorem rf4:(List.range 71).all (keepB (mkC (hK wd.params) h₀ prog wd mg mb p loose)) = true:=by kernel_rfl
theorem rf5:(List.range 26).all (gvB (mkC (hK wd.params) h₀ prog wd mg mb p loose)) = true:=by kernel_rfl
theorem rf6:gnB (mkC (hK wd.params) h₀ prog wd mg mb p loose) "range" (.type "range") = true:=by kernel_rfl
theorem rf7:gnB (mkC (hK wd.params) h₀ prog wd mg mb p loose) "sorted" (.builtin "sorted") = true:=by kernel_rfl
theorem rf8:DpOk (mkC (hK wd.params) h₀ prog wd mg mb p loose):=⟨308,by decide,by kernel_rfl,by kernel_rfl,633,634,635,636,2,by kernel_rfl⟩
noncomputable def toOpt (r:R):Option (Bool × MV × Sto):=R.rec (motive:=fun _=>Option (Bool × MV × Sto)) (fun v sh=>some (true,v,sh)) (fun b d _ ih=>ih.map fun p=>(b == d && p.1,p.2)) none r
theorem toOpt_ok {r:R}:∀ {p:Bool × MV × Sto},toOpt r = some p → p.1 = true → Good r p.2.1 p.2.2:=by
  induction r with
  | fin v sh=>intro p h _;rw [← Option.some.inj h];exact ⟨rfl,rfl⟩
  | cst b d r ih=>
    intro p h hp
    have h:(toOpt r).map (fun p=>(b == d && p.1,p.2)) = some p:=h
    refine mapE h fun q h1 h2=>?_
    have hp:(b == d && q.1) = true:=(congrArg Prod.fst h2).trans hp
    have g:Good r q.2.1 q.2.2:=ih h1 (andR hp)
    rw [← h2];exact ⟨eq_of_beq (andL hp),g⟩
  | bad=>intro p h;exact noS h
noncomputable def isE (a b:Option (List MV)):Bool:=(a.isNone && b.isNone) || (b.map List.isEmpty).getD false
noncomputable def frOk (sh sh':Sto):Bool:=sh.em.isNone && (sh'.em.isNone && (isE sh.states sh'.states && (isE sh.events sh'.events && (isE sh.indents sh'.indents && isE sh.rows sh'.rows))))
noncomputable def isIni (f:Nat):Bool:=Nat.ble f 8 || Nat.beq f 60
noncomputable def lev (Ψ:Psi) (is:Nat → Bool) (sp:Psi) (O:Nat → Ds):Psi:=fun f as sh=>bif is f then sp f as sh else bif isIni f then (toOpt (runT L1.T Ψ f as sh (O f))).bind fun p=>bif frOk sh p.2.2 then some p else none else toOpt (runT L1.T Ψ f as sh (O f))
noncomputable def isTmpV (v:MV):Bool:=((asLoc v).map isTmp).getD false
noncomputable def sp7 (as:List MV) (sh:Sto):Option (Bool × MV × Sto):=sh.tmp.bind fun p=>bif Nat.beq p.1 16 && (Nat.beq p.2.length 8 && (Nat.beq as.length 9 && ((nth as 0).map isTmpV).getD false)) then some (true,.none,{ sh with tmp:=some (16,as.tail.map some) }) else none
theorem unc {α:Type} {l:List α} {n:Nat} (h:l.length = n + 1):∃ a r,l = a :: r ∧ r.length = n:=by
  cases l with
  | nil=>exact absurd h.symm (Nat.succ_ne_zero _)
  | cons a r=>exact ⟨a,r,rfl,Nat.succ.inj h⟩
theorem un8 {α:Type} {l:List α} (h:l.length = 8):∃ a b c d e f g i,l = [a,b,c,d,e,f,g,i]:=by
  obtain ⟨a,l1,e1,h1⟩:=unc h
  obtain ⟨b,l2,e2,h2⟩:=unc h1
  obtain ⟨c,l3,e3,h3⟩:=unc h2
  obtain ⟨d,l4,e4,h4⟩:=unc h3
  obtain ⟨e,l5,e5,h5⟩:=unc h4
  obtain ⟨f,l6,e6,h6⟩:=unc h5
  obtain ⟨g,l7,e7,h7⟩:=unc h6
  obtain ⟨i,l8,e8,h8⟩:=unc h7
  exact ⟨a,b,c,d,e,f,g,i,by rw [e1,e2,e3,e4,e5,e6,e7,e8,List.eq_nil_of_length_eq_zero h8]⟩
theorem isTmpV_eq {v:MV} (h:isTmpV v = true):v = .loc .tmp:=by
  cases v with
  | loc l=>cases l with
    | tmp=>rfl
    | _=>exact noB h
  | _=>exact noB h
theorem sp7_inv {as:List MV} {sh:Sto} {r:Bool × MV × Sto} (h:sp7 as sh = some r):∃ l a b c d e f g i,sh.tmp = some (16,l) ∧ l.length = 8 ∧ as = [.loc .tmp,a,b,c,d,e,f,g,i] ∧ r = (true,.none,{ sh with tmp:=some (16,[some a,some b,some c,some d,some e,some f,some g,some i]) }):=by
  refine bindE h fun p h1 h=>?_
  obtain ⟨hc,h⟩:=ifT h
  have h2:=andR hc
  have h3:=andR h2
  obtain ⟨x,as,rfl,hl⟩:=unc (Nat.eq_of_beq_eq_true (andL h3))
  obtain rfl:=isTmpV_eq (andR h3)
  obtain ⟨a,b,c,d,e,f,g,i,rfl⟩:=un8 hl
  exact ⟨p.2,a,b,c,d,e,f,g,i,h1.trans (by rw [← Nat.eq_of_beq_eq_true (andL hc)]),Nat.eq_of_beq_eq_true (andL h2),rfl,(Option.some.inj h).symm⟩
theorem sp7_run {Ψ:Psi} {as:List MV} {sh:Sto} {r:MV × Sto} (h:sp7 as sh = some (true,r)):Gd L1.T Ψ 7 as sh r.1 r.2:=by
  obtain ⟨l,a,b,c,d,e,f,g,i,h1,h2,rfl,h3⟩:=sp7_inv h
  obtain ⟨em,tmp,ss,es,is,rs⟩:=sh
  obtain rfl:tmp = _:=h1
  obtain ⟨y1,y2,y3,y4,y5,y6,y7,y8,rfl⟩:=un8 h2
  rw [show r = _ from (congrArg Prod.snd h3)]
  exact go0 (by kernel_rfl)
noncomputable def twA (n:Nat):Psi:=Nat.rec (motive:=fun _=>Psi) (fun _ _ _=>none) (fun _ ih=>lev ih (Nat.beq 7) (fun _=>sp7) fun _=>[]) n
noncomputable def asB (v:MV):Option Bool:=MV.casesOn (motive_1:=fun _=>Option Bool) v none some (fun _=>none) (fun _=>none) (fun _=>none) (fun _=>none) (fun _=>none) (fun _=>none) (fun _ _=>none) (fun _ _=>none) (fun _=>none) (fun _=>none) (fun _=>none)
noncomputable def isLocV (l:Loc) (v:MV):Bool:=((asLoc v).map fun k=>Nat.beq k.ctorIdx l.ctorIdx).getD false
noncomputable def isStream (v:MV):Bool:=((asInst v).map fun p=>Nat.beq p.1 18 && ((one p.2).map (isLocV .rows)).getD false).getD false
noncomputable def at_ (E:List MV) (i:Nat):MV:=(nth E i).getD .none
theorem asB_eq {v:MV} {b:Bool} (h:asB v = some b):v = .bool b:=by cases v with | bool j=>exact congrArg MV.bool (Option.some.inj h) | _=>exact noS h
theorem asInt_eq0 {v:MV} {b:Int} (h:asInt v = some b):v = .int b:=by cases v with | int j=>exact congrArg MV.int (Option.some.inj h) | _=>exact noS h
theorem asStr_eq0 {v:MV} {b:Tx} (h:asStr v = some b):v = .str b:=by cases v with | str j=>exact congrArg MV.str (Option.some.inj h) | _=>exact noS h
theorem isLocV_eq {l:Loc} {v:MV} (h:isLocV l v = true):v = .loc l:=by
  cases v with
  | loc k=>cases k <;> cases l <;> first | rfl | exact noB h
  | _=>exact noB h
theorem getB {α:Type} {o:Option α} {p:α → Bool} (h:(o.map p).getD false = true):∃ a,o = some a ∧ p a = true:=by
  cases o with
  | none=>exact noB h
  | some a=>exact ⟨a,rfl,h⟩
theorem isStream_eq {v:MV} (h:isStream v = true):v = .inst 18 [.loc .rows]:=by
  obtain ⟨p,h1,h⟩:=getB h
  obtain ⟨x,h2,h3⟩:=getB (andR h)
  cases v with
  | inst c fs=>
    obtain rfl:=Option.some.inj h1
    rw [show c = 18 from Nat.eq_of_beq_eq_true (andL h),show fs = [x] from one_eq h2,isLocV_eq h3]
  | _=>exact noS h1
noncomputable def L28 (f:Nat → MV):List MV:=[f 0,f 1,f 2,f 3,f 4,f 5,f 6,f 7,f 8,f 9,f 10,f 11,f 12,f 13,f 14,f 15,f 16,f 17,f 18,f 19,f 20,f 21,f 22,f 23,f 24,f 25,f 26,f 27]
theorem E28 {E:List MV} (h:E.length = 28):E = L28 (at_ E):=by
  show E = (List.range 28).map (at_ E)
  refine List.ext_getElem? fun i=>?_
  rw [List.getElem?_map]
  by_cases hi:i < 28
  · rw [List.getElem?_range hi]
    have hx:=List.getElem?_eq_getElem (h ▸ hi:i < E.length)
    show _ = some ((nth E i).getD .none)
    rw [nth_eq,hx];rfl
  · rw [List.getElem?_eq_none (by omega),List.getElem?_eq_none (by rw [List.length_range];omega)];rfl
theorem gd_of {Ψ:Psi} {f:Nat} {as:List MV} {sh:Sto} {v:MV} {sh':Sto} (h:toOpt (runT L1.T Ψ f as sh []) = some (true,v,sh')):Gd L1.T Ψ f as sh v sh':=⟨[],toOpt_ok h rfl⟩
theorem map_at {α β:Type} {l:List α} {f g:α → β} (h:l.map f = l.map g) {a:α} (m:a ∈ l):f a = g a:=by
  obtain ⟨i,hi⟩:=List.getElem?_of_mem m
  have:=congrArg (·[i]?) h
  rw [List.getElem?_map,List.getElem?_map,hi] at this
  exact Option.some.inj this
noncomputable def wds:List Tx:=[[118],[97],[97,97],[97,97,97],[97,97,97,97],[97,97,97,97,97]]
noncomputable def isW (t:Tx):Bool:=wds.any (eqX t)
theorem isW_mem {t:Tx} (h:isW t = true):t ∈ wds:=by
  obtain ⟨u,m,h⟩:=List.any_eq_true.mp h
  rw [of_decide_eq_true h];exact m
noncomputable def bws:List (Bool × Bool):=[(true,true),(true,false),(false,true),(false,false)]
theorem bws_mem:∀ b c,(b,c) ∈ bws
  | true,true=>.head _
  | true,false=>.tail _ (.head _)
  | false,true=>.tail _ (.tail _ (.head _))
  | false,false=>.tail _ (.tail _ (.tail _ (.head _)))
noncomputable def anW (t:Tx):MV:=.inst 16 [.str t,.bool false,.bool false,.bool true,.bool true,.bool true,.bool true,.bool true]
noncomputable def argT (as:List MV):Option Tx:=bif ((nth as 0).map (isLocV .em)).getD false then (nth as 1).bind asStr else none
noncomputable def sp48 (as:List MV) (sh:Sto):Option (Bool × MV × Sto):=(argT as).bind fun t=>bif Nat.beq as.length 2 && sh.tmp.isNone then some (isW t,anW t,sh) else none
theorem argT_eq {as:List MV} {t:Tx} (h:argT as = some t):∃ r,as = .loc .em :: .str t :: r:=by
  obtain ⟨h0,h⟩:=ifT h
  obtain ⟨x,h1,h2⟩:=getB h0
  obtain ⟨y,h3,h4⟩:=bind_some h
  cases as with
  | nil=>exact noS h1
  | cons a as=>cases as with
    | nil=>exact noS h3
    | cons b r=>
      obtain rfl:a = x:=Option.some.inj h1
      obtain rfl:b = y:=Option.some.inj h3
      exact ⟨r,by rw [isLocV_eq h2,asStr_eq0 h4]⟩
theorem r48 {as:List MV} {sh:Sto} {r:MV × Sto} (h:sp48 as sh = some (true,r)):Gd L1.T (twA 1) 48 as sh r.1 r.2:=by
  obtain ⟨t,h1,h2⟩:=bind_some h
  obtain ⟨q,e⟩:=argT_eq h1
  obtain ⟨hc,h3⟩:=ifT h2
  have h4:=Option.some.inj h3
  have hw:=isW_mem (congrArg Prod.fst h4)
  have hq:q = []:=List.eq_nil_of_length_eq_zero (by have:=Nat.eq_of_beq_eq_true (andL hc);rw [e] at this;exact Nat.succ.inj (Nat.succ.inj this))
  have ht:sh.tmp = none:=Option.isNone_iff_eq_none.mp (andR hc)
  clear hc h3 h2 h h1
  rw [e,hq,← show _ = r from congrArg Prod.snd h4]
  obtain ⟨em,tmp,ss,es,is,rs⟩:=sh
  obtain rfl:tmp = none:=ht
  have key:wds.map (fun t=>toOpt (runT L1.T (twA 1) 48 [.loc .em,.str t] ⟨em,none,ss,es,is,rs⟩ [])) = wds.map fun t=>some (true,anW t,⟨em,none,ss,es,is,rs⟩):=by kernel_rfl
  exact gd_of (map_at key hw)
noncomputable def wrC (c:Int) (ps:List (Bool × Tx)):Int:=ps.foldl (fun c p=>bif p.1 then 0 else c + Int.ofNat p.2.length) c
noncomputable def wrR (rs:List MV) (ps:List (Bool × Tx)):List MV:=ps.foldl (fun rs p=>rs ++ [.str p.2]) rs
noncomputable def pc59 (ws:Bool) (t:Tx):List (Bool × Tx):=bif ws then [(false,t)] else [(false,[32]),(false,t)]
noncomputable def pcQ (q:Nat) (ws:Bool) (t:Tx):List (Bool × Tx):=[(false,bif ws then [q] else [32,q]),(false,t),(false,[q])]
noncomputable def upE (oe:Bool) (E:List MV) (col:Int):List MV:=bif oe then setN (setN (setN (setN E 17 (.bool false)) 16 (.bool false)) 15 (.bool false)) 14 (.int col) else setN (setN (setN E 16 (.bool false)) 15 (.bool false)) 14 (.int col)
noncomputable def wrB (as:List MV) (E:List MV):Bool:=Nat.beq as.length 3 && (Nat.beq E.length 28 && (isStream (at_ E 0) && (((asB (at_ E 9)).map not).getD false && (asB (at_ E 16)).isSome)))
noncomputable def spWr (pc:Bool → Tx → List (Bool × Tx)) (oe:Bool) (as:List MV) (sh:Sto):Option (Bool × MV × Sto):=(argT as).bind fun t=>sh.em.bind fun E=>sh.rows.bind fun rs=>(asB (at_ E 15)).bind fun ws=>(asInt (at_ E 14)).bind fun col=>bif wrB as E then
  some (isW t,.none,{ sh with em:=some (upE oe E (wrC col (pc ws t))),rows:=some (wrR rs (pc ws t)) }) else none
noncomputable def LX (f:Nat → MV) (ws idn:Bool) (col:Int):List MV:=[.inst 18 [.loc .rows],f 1,f 2,f 3,f 4,f 5,f 6,f 7,f 8,.bool false,f 10,f 11,f 12,f 13,.int col,.bool ws,.bool idn,f 17,f 18,f 19,f 20,f 21,f 22,f 23,f 24,f 25,f 26,f 27]
theorem LX_eq {E:List MV} {ws idn:Bool} {col:Int} (h:E.length = 28) (h0:isStream (at_ E 0) = true) (h9:at_ E 9 = .bool false) (h14:at_ E 14 = .int col) (h15:at_ E 15 = .bool ws) (h16:at_ E 16 = .bool idn):E = LX (at_ E) ws idn col:=by
  refine (E28 h).trans ?_
  show [at_ E 0,_,_,_,_,_,_,_,_,at_ E 9,_,_,_,_,at_ E 14,at_ E 15,at_ E 16,_,_,_,_,_,_,_,_,_,_,_] = _
  rw [isStream_eq h0,h9,h14,h15,h16];rfl
theorem rWr {n:Nat} {pc:Bool → Tx → List (Bool × Tx)} {oe:Bool} (key:∀ (f:Nat → MV) (x:MV) (ws idn:Bool) (col:Int) (tmp:Option (Nat × List (Option MV))) (ss es is:Option (List MV)) (rs:List MV),wds.map (fun t=>toOpt (runT L1.T (twA 4) n [.loc .em,.str t,x] ⟨some (LX f ws idn col),tmp,ss,es,is,some rs⟩ [])) = wds.map fun t=>some (true,.none,⟨some (upE oe (LX f ws idn col) (wrC col (pc ws t))),tmp,ss,es,is,some (wrR rs (pc ws t))⟩))
    {as:List MV} {sh:Sto} {r:MV × Sto} (h:spWr pc oe as sh = some (true,r)):Gd L1.T (twA 4) n as sh r.1 r.2:=by
  obtain ⟨t,h1,h⟩:=bind_some h
  obtain ⟨E,e1,h⟩:=bind_some h
  obtain ⟨rs,e2,h⟩:=bind_some h
  obtain ⟨ws,e3,h⟩:=bind_some h
  obtain ⟨col,e4,h⟩:=bind_some h
  obtain ⟨hc,h⟩:=ifT h
  obtain ⟨q,e⟩:=argT_eq h1
  have c2:=andR hc
  have c3:=andR c2
  have c4:=andR c3
  obtain ⟨b9,e9,n9⟩:=getB (andL c4)
  obtain rfl:b9 = false:=by
    cases b9 with
    | false=>rfl
    | true=>exact noB n9
  obtain ⟨idn,e16⟩:=Option.isSome_iff_exists.mp (andR c4)
  have eE:=LX_eq (Nat.eq_of_beq_eq_true (andL c2)) (andL c3) (asB_eq e9) (asInt_eq0 e4) (asB_eq e3) (asB_eq e16)
  have hq:∃ x,q = [x]:=by
    have hl:=Nat.eq_of_beq_eq_true (andL hc);rw [e] at hl
    obtain ⟨x,s,es,hs⟩:=unc (Nat.succ.inj (Nat.succ.inj hl))
    exact ⟨x,by rw [es,List.eq_nil_of_length_eq_zero hs]⟩
  obtain ⟨x,hq⟩:=hq
  have h4:=Option.some.inj h
  have hw:=isW_mem (congrArg Prod.fst h4)
  have h5:=congrArg Prod.snd h4
  clear c2 c3 c4 hc h e3 e4 e9 n9 e16 h1 h4
  rw [e,hq,← show _ = r from h5]
  obtain ⟨em,tmp,ss,es,is,rs'⟩:=sh
  obtain rfl:em = some E:=e1
  obtain rfl:rs' = some rs:=e2
  refine gd_of ?_
  rw [eE]
  exact map_at (key (at_ E) x ws idn col tmp ss es is rs) hw
theorem r59 {as:List MV} {sh:Sto} {r:MV × Sto} (h:spWr pc59 false as sh = some (true,r)):Gd L1.T (twA 4) 59 as sh r.1 r.2:=by
  refine rWr (fun f x ws idn col tmp ss es is rs=>?_) h
  cases ws <;> cases idn <;> kernel_rfl
theorem r55 {as:List MV} {sh:Sto} {r:MV × Sto} (h:spWr (pcQ 39) true as sh = some (true,r)):Gd L1.T (twA 4) 55 as sh r.1 r.2:=by
  refine rWr (fun f x ws idn col tmp ss es is rs=>?_) h
  cases ws <;> cases idn <;> kernel_rfl
theorem r56 {as:List MV} {sh:Sto} {r:MV × Sto} (h:spWr (pcQ 34) true as sh = some (true,r)):Gd L1.T (twA 4) 56 as sh r.1 r.2:=by
  refine rWr (fun f x ws idn col tmp ss es is rs=>?_) h
  cases ws <;> cases idn <;> kernel_rfl
noncomputable def mHead (l:MSs):MS:=MSs.casesOn (motive_2:=fun _=>MS) l .pass fun s _=>s
noncomputable def mTail (l:MSs):MSs:=MSs.casesOn (motive_2:=fun _=>MSs) l .nil fun _ r=>r
noncomputable def mBody (s:MS):MSs:=MS.casesOn (motive_1:=fun _=>MSs) s (fun _=>.nil) (fun _ _=>.nil) (fun _ _=>.nil) (fun _ _ _=>.nil) (fun _ _=>.nil) (fun _ _ _ _=>.nil) (fun _ _=>.nil) (fun _ _ _=>.nil) (fun _ b=>b) (fun _ _ b=>b) (fun _ _ b=>b) (fun _=>.nil) .nil .nil .nil
noncomputable def kFin:Option MV → St → Ds → R:=fun r st _=>.fin (r.getD .none) st.sh
noncomputable def kSeq (Ψ:Psi) (l:MSs) (k:Option MV → St → Ds → R):Option MV → St → Ds → R:=fun v st=>orK v k (fun st=>exsT L1.T Ψ l st k) st
noncomputable def loopF (Ψ:Psi) (l:MSs) (k:Option MV → St → Ds → R) (i:Nat) (vs:List MV) (st:St) (ds:Ds):R:=forT (fun st k=>exsT L1.T Ψ (mBody (mHead l)) st k) (kSeq Ψ (mTail l) k) i vs st ds
noncomputable def isN (t:Tx):Bool:=t.all (Nat.beq 110)
noncomputable def sp47 (as:List MV) (sh:Sto):Option (Bool × MV × Sto):=(argT as).bind fun t=>bif Nat.beq as.length 2 && !t.isEmpty then some (isN t,.str t,sh) else none
theorem l47 (A:Tx) (sh:Sto):∀ t:Tx,t.all (Nat.beq 110) = true → toOpt (loopF (twA 0) (mTail L1.b_Emitter_prepare_anchor) kFin 2 (t.map fun c=>.str [c]) ⟨sh,[.val (.loc .em),.val (.str A),.val (.str [110])]⟩ []) = some (true,.str A,sh)
  | [],_=>by kernel_rfl
  | c :: t,h=>by
    obtain rfl:110 = c:=Nat.eq_of_beq_eq_true (andL h)
    refine Eq.trans ?_ (l47 A sh t (andR h))
    kernel_rfl
theorem r47 {as:List MV} {sh:Sto} {r:MV × Sto} (h:sp47 as sh = some (true,r)):Gd L1.T (twA 1) 47 as sh r.1 r.2:=by
  obtain ⟨t,h1,h2⟩:=bind_some h
  obtain ⟨q,e⟩:=argT_eq h1
  obtain ⟨hc,h3⟩:=ifT h2
  have h4:=Option.some.inj h3
  have hw:isN t = true:=congrArg Prod.fst h4
  have hq:q = []:=List.eq_nil_of_length_eq_zero (by have:=Nat.eq_of_beq_eq_true (andL hc);rw [e] at this;exact Nat.succ.inj (Nat.succ.inj this))
  cases t with
  | nil=>exact noB (andR hc)
  | cons c t=>
    clear hc h3 h2 h h1
    rw [e,hq,← show _ = r from congrArg Prod.snd h4]
    have hw:(Nat.beq 110 c && t.all (Nat.beq 110)) = true:=hw
    obtain rfl:110 = c:=Nat.eq_of_beq_eq_true (andL hw)
    refine gd_of (Eq.trans ?_ (l47 (110 :: t) sh t (andR hw)))
    kernel_rfl
noncomputable def isLW (f:Nat):Bool:=Nat.beq f 7 || (Nat.beq f 47 || (Nat.beq f 48 || (Nat.beq f 55 || (Nat.beq f 56 || Nat.beq f 59))))
noncomputable def spLW (f:Nat) (as:List MV) (sh:Sto):Option (Bool × MV × Sto):=bif Nat.beq f 7 then sp7 as sh else bif Nat.beq f 47 then sp47 as sh else bif Nat.beq f 48 then sp48 as sh else bif Nat.beq f 55 then spWr (pcQ 39) true as sh else bif Nat.beq f 56 then spWr (pcQ 34) true as sh else bif Nat.beq f 59 then spWr pc59 false as sh else none
noncomputable def isLM (f:Nat):Bool:=Nat.beq f 7 || Nat.beq f 47
noncomputable def tp0:MV:=.sd [([33],[33]),([116,97,103,58,121,97,109,108,46,111,114,103,44,50,48,48,50,58],[33,33])]
noncomputable def En (W S:Int) (e:Tx) (st:Nat) (ev ind fl:MV) (rt mp sk:Bool) (L c:Int) (ws idn:Bool) (pa pt an:MV):List MV:=
  [.inst 18 [.loc .rows],.none,.loc .states,.meth st .em,.loc .events,ev,.loc .indents,ind,fl,.bool rt,.bool false,.bool mp,.bool sk,.int L,.int c,.bool ws,.bool idn,.bool false,.none,.none,.int S,.int W,.str e,tp0,pa,pt,an,.none]
noncomputable def csd (l:List (Bool × Bool)):Bool:=l.foldr (fun p q=>p.1 == p.2 && q) true
noncomputable def cs (l:List Bool):Bool:=l.foldr (fun b q=>b == true && q) true
noncomputable def oc {α β:Type} (o:Option α) (x:β) (f:α → β):β:=Option.casesOn (motive:=fun _=>β) o x f
noncomputable def anMV (a:Option Tx):MV:=oc a .none fun A=>.str (110 :: A)
noncomputable def anTx (a:Option Tx):Tx:=oc a [] fun A=>110 :: A
noncomputable def tagL:List (MV × Tx):=[(.none,[]),(.str [33,116],[33,116]),(.str [116,97,103,58,121,97,109,108,46,111,114,103,44,50,48,48,50,58,115,116,114],[33,33,115,116,114]),(.str [120,58,121],[33,60,120,58,121,62])]
noncomputable def tagMV (t:Nat):MV:=((nth tagL t).map (·.1)).getD .none
noncomputable def told (t:Nat):Tx:=((nth tagL t).map (·.2)).getD []
noncomputable def tgs:List (Nat × Bool):=[(0,false),(1,true),(1,false),(2,true),(2,false),(3,true),(3,false)]
noncomputable def eSE:MV:=.inst 12 [.none,.none]
noncomputable def eME:MV:=.inst 14 [.none,.none]
noncomputable def styL:List MV:=[.none,.str [39],.str [34]]
noncomputable abbrev Pcs:=List (Bool × Tx)
noncomputable def wrL (L:Int) (ps:Pcs):Int:=ps.foldl (fun L p=>bif p.1 then L + 1 else L) L
noncomputable def sepT (ws:Bool) (x:Tx):Tx:=bif ws then x else 32 :: x
noncomputable def aP (ws:Bool) (m:Nat) (a:Option Tx):Pcs:=oc a [] fun A=>[(false,sepT ws (m :: 110 :: A))]
noncomputable def tP (ws:Bool) (g:Nat × Bool):Pcs:=bif g.2 then [(false,sepT ws (told g.1))] else []
noncomputable def wP (ws:Bool) (k:Nat) (g:Nat × Bool) (w:Tx):Pcs:=bif Nat.beq k 2 then pcQ 34 ws w else bif Nat.beq k 1 || g.2 then pcQ 39 ws w else pc59 ws w
structure Cx3 where
  fl:Bool
  fst:Bool
  wr:Bool
noncomputable def stN (x:Cx3):Nat:=bif x.fl then bif x.fst then 26 else 27 else bif x.fst then 34 else 35
noncomputable def vstN (x:Cx3) (sm:Bool):Nat:=bif x.fl then bif sm then 28 else 29 else bif sm then 36 else 37
noncomputable def indV (x:Cx3) (S:Int):MV:=bif x.fl then .int S else .int 0
noncomputable def pre (x:Cx3) (S:Nat) (e:Tx):Pcs:=bif x.fl then bif x.fst then [] else bif x.wr then [(false,[44]),(true,e),(false,repX [32] S)] else [(false,[44])] else [(true,e)]
noncomputable def preWs (x:Cx3):Bool:=!x.fl || (x.fst || x.wr)
noncomputable def qP (ws sm:Bool):Pcs:=bif sm then [] else [(false,sepT ws [63])]
noncomputable def sto (E:List MV) (ss es is rs:List MV):Sto:=⟨some E,none,some ss,some es,some is,some rs⟩
noncomputable def ptMV (t:Nat):MV:=bif Nat.beq t 0 then .none else .str (told t)
noncomputable def gN (a:Option Tx):List (Bool × Bool):=oc a [] fun A=>[(isN (110 :: A),true)]
noncomputable def cntK (a:Option Tx) (t:Nat):Int:=bif Nat.beq t 0 then oc a 0 (fun A=>0 + Int.ofNat (110 :: A).length) else oc a 0 (fun A=>0 + Int.ofNat (110 :: A).length) + Int.ofNat (told t).length
open PySem PySem.W PyProof.Rows
theorem ini_is {c f:Nat} (h:L1.clsInit c = some f):isIni f = true:=by
  have hk:((List.range 19).all fun c=>((L1.clsInit c).map isIni).getD true) = true:=by kernel_rfl
  have hc:c < 19:=by
    refine Nat.lt_of_not_le fun z=>?_
    have:nth L1.clsInitL c = none:=by rw [nth_eq];exact List.getElem?_eq_none z
    have h:(nth L1.clsInitL c).getD none = some f:=h
    rw [this] at h;exact noS h
  have:=List.all_eq_true.mp hk c (List.mem_range.mpr hc)
  rw [h] at this;exact this
theorem isE_ok {a b:Option (List MV)} (h:isE a b = true):b = a ∨ b = some []:=by
  rcases Bool.or_eq_true_iff.mp h with h | h
  · exact .inl ((Option.isNone_iff_eq_none.mp (andR h)).trans (Option.isNone_iff_eq_none.mp (andL h)).symm)
  · cases b with
    | none=>exact noB h
    | some l=>exact .inr (congrArg some (List.isEmpty_iff.mp h))
theorem frOk_ok {sh sh':Sto} (h:frOk sh sh' = true):InitFr sh sh':=by
  have h2:=andR h
  have h3:=andR h2
  have h4:=andR h3
  have h5:=andR h4
  refine ⟨(Option.isNone_iff_eq_none.mp (andL h2)).trans (Option.isNone_iff_eq_none.mp (andL h)).symm,fun l hl=>?_⟩
  cases l with
  | states=>exact isE_ok (andL h3)
  | events=>exact isE_ok (andL h4)
  | indents=>exact isE_ok (andL h5)
  | rows=>exact isE_ok (andR h5)
  | _=>exact noB hl
theorem lev_cases {Ψ:Psi} {is:Nat → Bool} {sp:Psi} {O:Nat → Ds} {f:Nat} {as:List MV} {sh:Sto} {r:MV × Sto} (h:lev Ψ is sp O f as sh = some (true,r)) {G:Prop} (k1:is f = true → sp f as sh = some (true,r) → G) (k2:is f = false → Gd L1.T Ψ f as sh r.1 r.2 → (isIni f = true → frOk sh r.2 = true) → G):G:=by
  refine ifE h k1 fun hf h=>ifE h (fun hi h=>bindE h fun p h1 h=>?_) fun hi h=>k2 hf ⟨_,toOpt_ok h rfl⟩ fun z=>noB (hi.symm.trans z)
  obtain ⟨hk,h⟩:=ifT h
  have hp:=Option.some.inj h
  exact k2 hf ⟨_,by have:=toOpt_ok h1 (by rw [hp]);rw [hp] at this;exact this⟩ fun _=>by rw [hp] at hk;exact hk
theorem lev_sd {C:Cx} (B:Base C) (hT:C.N.T = L1.T) {Ψ:Psi} {is:Nat → Bool} {sp:Psi} {O:Nat → Ds} {n:Nat} (D:Sd C Ψ n) (hs:∀ f as sh r,is f = true → sp f as sh = some (true,r) → (∃ Ψ',Sd C Ψ' n ∧ (Gd L1.T Ψ' f as sh r.1 r.2 ∨ Ψ' f as sh = some (true,r))) ∧ (isIni f = true → InitFr sh r.2)) :
    Sd C (lev Ψ is sp O) (n + 2):=by
  refine sd_step B (fun {c f as sh r sh'} hc e=>?_) fun f as sh r h=>?_
  · have hc:L1.clsInit c = some f:=by rw [hT] at hc;exact hc
    exact lev_cases (unG_some e) (fun h1 h2=>(hs _ _ _ _ h1 h2).2 (ini_is hc)) fun _ _ h3=>frOk_ok (h3 (ini_is hc))
  · rw [hT]
    exact lev_cases h (fun h1 h2=>(hs _ _ _ _ h1 h2).1) fun _ h2 _=>⟨Ψ,D,.inl h2⟩
theorem sp7_fr {as:List MV} {sh:Sto} {r:MV × Sto} (h:sp7 as sh = some (true,r)):InitFr sh r.2:=by
  obtain ⟨l,a,b,c,d,e,f,g,i,h1,h2,_,h3⟩:=sp7_inv h
  rw [show r = _ from congrArg Prod.snd h3]
  exact ⟨rfl,fun l hl=>.inl (by cases l <;> rfl)⟩
open PySem PySem.W PyProof.Rows
noncomputable def J (n:Nat) (f:Nat) (as:List MV) (sh:Sto) (r:MV × Sto):Prop:=∀ {C:Cx},Base C → C.N.T = L1.T → ∃ Ψ,Sd C Ψ n ∧ Gd L1.T Ψ f as sh r.1 r.2
theorem J.mono {n m f:Nat} {as:List MV} {sh:Sto} {r:MV × Sto} (h:J n f as sh r) (hm:n ≤ m):J m f as sh r:=fun {C} B e=>
  let ⟨Ψ,D,g⟩:=h B e
  ⟨Ψ,sd_up D hm,g⟩
noncomputable def ansP (n:Nat) (a:Nat → List MV → Sto → MV × Sto):Psi:=fun f as sh=>bif isIni f then none else some (@decide (J n f as sh (a f as sh)) (Classical.propDecidable _),a f as sh)
noncomputable def spJ (n:Nat) (lf:Nat → Bool) (a:Nat → List MV → Sto → MV × Sto):Psi:=fun f as sh=>bif lf f then spLW f as sh else ansP n a f as sh
noncomputable def twJ (n:Nat) (lf is:Nat → Bool) (a:Nat → List MV → Sto → MV × Sto) (O:Nat → Ds) (k:Nat):Psi:=Nat.rec (motive:=fun _=>Psi) (fun _ _ _=>none) (fun _ ih=>lev ih (fun f=>lf f || is f) (spJ n lf a) O) k
theorem twA_sd {C:Cx} (B:Base C) (hT:C.N.T = L1.T):∀ k,Sd C (twA k) (2 * k)
  | 0=>sd0 B fun _ _ _=>rfl
  | k + 1=>lev_sd B hT (twA_sd B hT k) fun f as sh r hf h=>by
    obtain rfl:7 = f:=Nat.eq_of_beq_eq_true hf
    exact ⟨⟨_,twA_sd B hT k,.inl (sp7_run h)⟩,fun _=>sp7_fr h⟩
theorem spLW_ok {C:Cx} (B:Base C) (hT:C.N.T = L1.T) {n f:Nat} {as:List MV} {sh:Sto} {r:MV × Sto} (hn:8 ≤ n) (h:spLW f as sh = some (true,r)):(∃ Ψ',Sd C Ψ' n ∧ (Gd L1.T Ψ' f as sh r.1 r.2 ∨ Ψ' f as sh = some (true,r))) ∧ (isIni f = true → InitFr sh r.2):=by
  refine ifE h (fun hf h=>?_) fun _ h=>ifE h (fun hf h=>?_) fun _ h=>ifE h (fun hf h=>?_) fun _ h=>ifE h (fun hf h=>?_) fun _ h=>ifE h (fun hf h=>?_) fun _ h=>ifE h (fun hf h=>?_) fun _ h=>noS h
  all_goals obtain rfl:=Nat.eq_of_beq_eq_true hf
  · exact ⟨⟨_,sd_up (twA_sd B hT 0) (Nat.zero_le _),.inl (sp7_run h)⟩,fun _=>sp7_fr h⟩
  · exact ⟨⟨_,sd_up (twA_sd B hT 1) (Nat.le_trans (by decide) hn),.inl (r47 h)⟩,fun e=>noB e⟩
  · exact ⟨⟨_,sd_up (twA_sd B hT 1) (Nat.le_trans (by decide) hn),.inl (r48 h)⟩,fun e=>noB e⟩
  · exact ⟨⟨_,sd_up (twA_sd B hT 4) hn,.inl (r55 h)⟩,fun e=>noB e⟩
  · exact ⟨⟨_,sd_up (twA_sd B hT 4) hn,.inl (r56 h)⟩,fun e=>noB e⟩
  · exact ⟨⟨_,sd_up (twA_sd B hT 4) hn,.inl (r59 h)⟩,fun e=>noB e⟩
theorem ansP_ok {C:Cx} (B:Base C) (hT:C.N.T = L1.T) {n m f:Nat} {a:Nat → List MV → Sto → MV × Sto} {as:List MV} {sh:Sto} {r:MV × Sto} (hn:n ≤ m) (h:ansP n a f as sh = some (true,r)):(∃ Ψ',Sd C Ψ' m ∧ (Gd L1.T Ψ' f as sh r.1 r.2 ∨ Ψ' f as sh = some (true,r))) ∧ (isIni f = true → InitFr sh r.2):=by
  refine ifE h (fun _ h=>noS h) fun hf h=>?_
  have h2:=Option.some.inj h
  have h3:J n f as sh (a f as sh):=@of_decide_eq_true _ (Classical.propDecidable _) (congrArg Prod.fst h2)
  rw [show a f as sh = r from congrArg Prod.snd h2] at h3
  obtain ⟨Ψ,D,g⟩:=h3 B hT
  exact ⟨⟨Ψ,sd_up D hn,.inl g⟩,fun e=>noB (hf.symm.trans e)⟩
theorem twJ_sd {C:Cx} (B:Base C) (hT:C.N.T = L1.T) {n:Nat} {lf is:Nat → Bool} {a:Nat → List MV → Sto → MV × Sto} {O:Nat → Ds} (hn:8 ≤ n):∀ k,Sd C (twJ n lf is a O k) (n + 2 * k)
  | 0=>sd_up (sd0 B fun _ _ _=>rfl) (Nat.zero_le _)
  | k + 1=>lev_sd B hT (twJ_sd B hT hn k) fun f as sh r _ h=>ifE h (fun _ h=>spLW_ok B hT (Nat.le_trans hn (Nat.le_add_right _ _)) h) fun _ h=>ansP_ok B hT (Nat.le_add_right _ _) h
noncomputable def rnJ (n:Nat) (lf is:Nat → Bool) (a:Nat → List MV → Sto → MV × Sto) (O:Nat → Ds) (k f:Nat) (as:List MV) (sh:Sto) (ds:Ds):Option (Bool × MV × Sto):=toOpt (runT L1.T (twJ n lf is a O k) f as sh ds)
theorem J_run {n:Nat} {lf is:Nat → Bool} {a:Nat → List MV → Sto → MV × Sto} {O:Nat → Ds} {k f:Nat} {as:List MV} {sh:Sto} {ds:Ds} {g:Bool} {r:MV × Sto} (hn:8 ≤ n) (h:rnJ n lf is a O k f as sh ds = some (g,r)) (hg:g = true):J (n + 2 * k) f as sh r:=
  fun {_} B hT=>⟨_,twJ_sd B hT hn k,ds,toOpt_ok h hg⟩
noncomputable def jd (n f:Nat) (as:List MV) (sh:Sto) (r:MV × Sto):Bool:=@decide (J n f as sh r) (Classical.propDecidable _)
theorem jd_of {n f:Nat} {as:List MV} {sh:Sto} {r:MV × Sto} (h:J n f as sh r):jd n f as sh r = true:=@decide_eq_true _ (Classical.propDecidable _) h
theorem csd_of:∀ {l:List (Bool × Bool)},(∀ p ∈ l,p.1 = p.2) → csd l = true
  | [],_=>rfl
  | p :: l,h=>by
    show (p.1 == p.2 && csd l) = true
    rw [h p (.head _),csd_of fun q m=>h q (.tail _ m)]
    cases p.2 <;> rfl
theorem cs_of:∀ {l:List Bool},(∀ p ∈ l,p = true) → cs l = true
  | [],_=>rfl
  | p :: l,h=>by
    show (p == true && cs l) = true
    rw [h p (.head _),cs_of fun q m=>h q (.tail _ m)];rfl
noncomputable def noA:Nat → List MV → Sto → MV × Sto:=fun _ _ sh=>(.none,sh)
noncomputable def noI:Nat → Bool:=fun _=>false
noncomputable def noO:Nat → Ds:=fun _=>[]
noncomputable def anE:MV:=.inst 16 [.str [],.bool true,.bool false,.bool false,.bool true,.bool true,.bool true,.bool false]
noncomputable def anM:MV:=.inst 16 [.str [97,10,98],.bool false,.bool true,.bool false,.bool false,.bool true,.bool true,.bool true]
noncomputable def ev (q:Nat) (a:Option Tx) (t:Nat) (im:MV) (w:Tx) (sty x y z:MV):MV:=(nth [.inst 10 [anMV a,tagMV t,im,.str w,x,y,sty],.inst 9 [anMV a,x,y],.inst 11 [anMV a,tagMV t,im,x,y,z],.inst 13 [anMV a,tagMV t,im,x,y,z],.inst 10 [anMV a,tagMV t,im,.str [],x,y,sty],.inst 10 [anMV a,tagMV t,im,.str [97,10,98],x,y,sty]] q).getD .none
noncomputable def anq (q:Nat) (w:Tx):MV:=(nth [anW w,.none,.none,.none,anE,anM] q).getD .none
noncomputable def wq (q:Nat) (w:Tx):Option Tx:=(nth [some w,none,none,none,some [],some [97,10,98]] q).getD none
noncomputable def lfq (q:Nat):Nat → Bool:=bif Nat.beq q 0 then isLW else isLM
noncomputable def ltq (q:Nat) (a:Option Tx) (t:Nat) (w:Tx):Bool:=ltI (oc (wq q w) (cntK a t) fun w=>cntK a t + Int.ofNat w.length) 128
noncomputable def isW' (q:Nat) (w:Tx):List (Bool × Bool):=bif Nat.beq q 0 then [(isW w,true)] else []
noncomputable def n41 (q:Nat) (a:Option Tx) (t:Nat):Nat:=(bif Nat.beq q 0 || Nat.ble 4 q then 8 else bif Nat.beq q 1 then 6 else 7) + (bif a.isSome then 1 else 0) + (bif Nat.beq t 0 then 0 else 1)
noncomputable def c41 (A:Tx):List (Option Tx × Bool):=[(none,true),(some A,true),(some A,false)]
noncomputable def rs41 (q:Nat) (a:Option Tx) (l:Bool) (t:Nat) (w:Tx):MV:=bif l then .bool (!Nat.ble 4 q) else .bool (ltq q a t w)
noncomputable def t4:List Nat:=[0,1,2,3]
noncomputable def L41 (q:Nat) (A:Tx):List ((Option Tx × Bool) × Nat):=bif Nat.beq q 1 then [((some A,true),0),((some A,false),0)] else (c41 A).flatMap fun p=>t4.map fun t=>(p,t)
section
variable (W S:Int) (e:Tx) (st:Nat) (ind fl im sty x y z:MV) (rt mp sk ws idn:Bool) (L c:Int) (w A:Tx) (ss es is rs:List MV)
noncomputable def s41 (q:Nat) (a:Option Tx) (t:Nat) (es:List MV) (pa pt an:MV):Sto:=sto (En W S e st (ev q a t im w sty x y z) ind fl rt mp sk L c ws idn pa pt an) ss es is rs
noncomputable def k41 (q:Nat) (es:List MV) (p:(Option Tx × Bool) × Nat):Option (Bool × MV × Sto):=rnJ 8 (lfq q) noI noA noO 5 41 [.loc .em] (s41 W S e st ind fl im sty x y z rt mp sk ws idn L c w ss is rs q p.1.1 p.2 es .none .none .none) [(n41 q p.1.1 p.2,p.1.2)]
noncomputable def m41 (q:Nat) (es:List MV) (p:(Option Tx × Bool) × Nat):Option (Bool × MV × Sto):=some (csd (gN p.1.1 ++ (isW' q w ++ [(ltq q p.1.1 p.2 w == true,p.1.2)])),rs41 q p.1.1 p.1.2 p.2 w,s41 W S e st ind fl im sty x y z rt mp sk ws idn L c w ss is rs q p.1.1 p.2 es (anMV p.1.1) (bif Nat.beq q 1 then .none else ptMV p.2) (anq q w))
theorem r41_0:(L41 0 A).map (k41 W S e st ind fl im sty x y z rt mp sk ws idn L c w ss is rs 0 es) = (L41 0 A).map (m41 W S e st ind fl im sty x y z rt mp sk ws idn L c w ss is rs 0 es):=by kernel_rfl
theorem r41_1:(L41 1 A).map (k41 W S e st ind fl im sty x y z rt mp sk ws idn L c w ss is rs 1 es) = (L41 1 A).map (m41 W S e st ind fl im sty x y z rt mp sk ws idn L c w ss is rs 1 es):=by kernel_rfl
theorem r41_2:(L41 2 A).map (k41 W S e st ind fl im sty x y z rt mp sk ws idn L c w ss is rs 2 [eSE]) = (L41 2 A).map (m41 W S e st ind fl im sty x y z rt mp sk ws idn L c w ss is rs 2 [eSE]):=by kernel_rfl
theorem r41_2v (v:MV):(L41 2 A).map (k41 W S e st ind fl im sty x y z rt mp sk ws idn L c w ss is rs 2 [eSE,v]) = (L41 2 A).map (m41 W S e st ind fl im sty x y z rt mp sk ws idn L c w ss is rs 2 [eSE,v]):=by kernel_rfl
theorem r41_3:(L41 3 A).map (k41 W S e st ind fl im sty x y z rt mp sk ws idn L c w ss is rs 3 [eME]) = (L41 3 A).map (m41 W S e st ind fl im sty x y z rt mp sk ws idn L c w ss is rs 3 [eME]):=by kernel_rfl
theorem r41_3v (v:MV):(L41 3 A).map (k41 W S e st ind fl im sty x y z rt mp sk ws idn L c w ss is rs 3 [eME,v]) = (L41 3 A).map (m41 W S e st ind fl im sty x y z rt mp sk ws idn L c w ss is rs 3 [eME,v]):=by kernel_rfl
theorem r41_4:(L41 4 A).map (k41 W S e st ind fl im sty x y z rt mp sk ws idn L c w ss is rs 4 es) = (L41 4 A).map (m41 W S e st ind fl im sty x y z rt mp sk ws idn L c w ss is rs 4 es):=by kernel_rfl
theorem r41_5:(L41 5 A).map (k41 W S e st ind fl im sty x y z rt mp sk ws idn L c w ss is rs 5 es) = (L41 5 A).map (m41 W S e st ind fl im sty x y z rt mp sk ws idn L c w ss is rs 5 es):=by kernel_rfl
end
noncomputable def mp {α β:Type} (g:α → β) (l:List α):List β:=List.rec (motive:=fun _=>List β) [] (fun a _ ih=>g a :: ih) l
theorem mp_eq {α β:Type} {g:α → β}:∀ l:List α,mp g l = l.map g
  | []=>rfl
  | a :: r=>congrArg (List.cons (g a)) (mp_eq r)
theorem mp_at {α β:Type} {l:List α} {f g:α → β} (h:l.map f = mp g l) {a:α} (m:a ∈ l):f a = g a:=map_at (h.trans (mp_eq l)) m
theorem mp_cut {α β:Type} {f g:α→β} {l:List α} (n:Nat) (h:(l.take n).map f = mp g (l.take n)) (k:(l.drop n).map f = mp g (l.drop n)):l.map f = mp g l:=by
  rw [mp_eq] at h k ⊢
  calc l.map f = (l.take n ++ l.drop n).map f:=by rw [List.take_append_drop]
    _ = (l.take n ++ l.drop n).map g:=by rw [List.map_append,h,k,← List.map_append]
    _ = l.map g:=by rw [List.take_append_drop]
noncomputable def wsA (ws:Bool) (a:Option Tx):Bool:=ws && a.isNone
noncomputable def wsT (ws:Bool) (a:Option Tx) (g:Nat × Bool):Bool:=ws && (a.isNone && !g.2)
noncomputable def pHd (ws:Bool) (a:Option Tx) (g:Nat × Bool):Pcs:=aP ws 38 a ++ tP (wsA ws a) g
noncomputable def emQ (fl:Bool) (g:Nat × Bool):Bool:=fl || g.2
noncomputable def pN (q:Nat) (fl ws:Bool) (a:Option Tx) (g:Nat × Bool) (k:Nat) (w:Tx) (e:Tx) (n:Nat):Pcs:=
  bif Nat.beq q 1 then aP ws 42 a else pHd ws a g ++ (nth [wP (wsT ws a g) k g w,[],[(false,sepT (wsT ws a g) [91])],[(false,sepT (wsT ws a g) [123])],bif emQ fl g then [(false,sepT (wsT ws a g) [39]),(false,[39])] else [],
    [(false,sepT (wsT ws a g) [39]),(false,[97]),(true,e),(true,e),(false,repX [32] n),(false,[98]),(false,[39])]] q).getD []
noncomputable def g52 (ws:Bool) (n:Nat):Bool:=bif ws then true else cs [leN (1 + n) lim]
noncomputable def g42 (ws:Bool) (a:Option Tx):Bool:=oc a true fun A=>cs [leN (1 + (110 :: A).length) lim,g52 ws (38 :: 110 :: A).length]
noncomputable def gN19 (q:Nat) (ws:Bool) (a:Option Tx) (w:Tx):Bool:=bif Nat.beq q 1 then cs [cs [g42 ws a]] else cs [g42 ws a,bif Nat.beq q 0 then cs [cs [isW w]] else true]
noncomputable def bMV (b:Bool):MV:=bif b then .int 1 else .int 0
noncomputable def sty (q k:Nat):MV:=bif Nat.beq q 5 then .str [39] else bif Nat.beq q 0 then (nth styL k).getD .none else .none
noncomputable def evG (q:Nat) (a:Option Tx) (g:Nat × Bool) (k:Nat) (w:Tx):MV:=bif Nat.beq q 2 || Nat.beq q 3 then ev q a g.1 (.bool (!g.2)) w .none .none .none (.bool false) else ev q a g.1 (.tup [.bool (!g.2),.bool (!g.2)]) w (sty q k) .none .none .none
noncomputable abbrev Cb:=Bool × Bool × Bool × Bool
noncomputable def cbs:List Cb:=[(false,true,true,true),(false,false,true,false),(true,true,false,true),(true,true,true,true),(true,false,false,true),(true,false,false,false)]
noncomputable def cbx:List Cb:=[(false,false,true,false),(true,false,false,false)]
section
variable (W S:Int) (e:Tx) (st v:Nat) (i:Int) (rt mp sk:Bool) (L c:Int) (w A:Tx) (es rs:List MV)
noncomputable def s19 (q:Nat) (a:Option Tx) (g:Nat × Bool) (k:Nat) (b:Cb):Sto:=sto (En W S e st (evG q a g k w) (.int i) (bMV b.1) rt mp sk L c b.2.1 b.2.2.1 (anMV a) (bif Nat.beq q 1 then .none else ptMV g.1) (anq q w)) [.meth 17 .em,.meth v .em] es [.none] rs
noncomputable def idQ (q:Nat) (a:Option Tx) (g:Nat × Bool) (b:Cb):Bool:=Nat.beq q 4 && (!emQ b.1 g && (a.isNone && b.2.2.1))
noncomputable def f19 (q:Nat) (a:Option Tx) (g:Nat × Bool) (k n:Nat) (b:Cb):Sto:=
  bif Nat.beq q 2 || Nat.beq q 3 then sto (En W S e (bif Nat.beq q 2 then 23 else 26) (evG q a g k w) (.int (i + S)) (.int ((bif b.1 then 1 else 0) + 1)) false true b.2.2.2 (wrL L (pN q b.1 b.2.1 a g k w e n)) (wrC c (pN q b.1 b.2.1 a g k w e n)) true false .none .none .none) [.meth 17 .em,.meth v .em] es [.none,.int i] (wrR rs (pN q b.1 b.2.1 a g k w e n))
  else sto (En W S e v (evG q a g k w) (.int i) (bMV b.1) false true b.2.2.2 (wrL L (pN q b.1 b.2.1 a g k w e n)) (wrC c (pN q b.1 b.2.1 a g k w e n)) false (idQ q a g b) .none .none .none) [.meth 17 .em] es [.none] (wrR rs (pN q b.1 b.2.1 a g k w e n))
noncomputable def k19 (q n:Nat) (es:List MV) (p:(Option Tx × (Nat × Bool)) × (Nat × Cb)):Option (Bool × MV × Sto):=rnJ 8 (lfq q) noI noA noO 7 19 [.loc .em,.bool false,.bool false,.bool true,.bool p.2.2.2.2.2] (s19 W S e st v i rt mp sk L c w es rs q p.1.1 p.1.2 p.2.1 p.2.2) []
noncomputable def m19 (q n:Nat) (es:List MV) (p:(Option Tx × (Nat × Bool)) × (Nat × Cb)):Option (Bool × MV × Sto):=some (gN19 q p.2.2.2.1 p.1.1 w,.none,f19 W S e v i L c w es rs q p.1.1 p.1.2 p.2.1 n p.2.2)
end
noncomputable def aL (A:Tx):List (Option Tx):=[none,some A]
noncomputable def L19 (q:Nat) (A:Tx):List ((Option Tx × (Nat × Bool)) × (Nat × Cb)):=bif Nat.beq q 1 then cbs.map fun b=>((some A,(0,false)),(0,b)) else
  (aL A).flatMap fun a=>tgs.flatMap fun g=>(bif Nat.beq q 0 then [0,1,2] else [0]).flatMap fun k=>(bif Nat.ble 4 q then cbx else cbs).map fun b=>((a,g),(k,b))
section
variable (W S:Int) (e:Tx) (st v:Nat) (i:Int) (rt mq sk:Bool) (L c:Int) (w A:Tx) (es rs:List MV)
theorem r19_0t:(List.take 126 (L19 0 A)).map (k19 W S e st v i rt mq sk L c w rs 0 0 es) = mp (m19 W S e v i L c w rs 0 0 es) (List.take 126 (L19 0 A)):=by kernel_rfl
theorem r19_0u:(List.drop 126 (L19 0 A)).map (k19 W S e st v i rt mq sk L c w rs 0 0 es) = mp (m19 W S e v i L c w rs 0 0 es) (List.drop 126 (L19 0 A)):=by kernel_rfl
theorem r19_0:(L19 0 A).map (k19 W S e st v i rt mq sk L c w rs 0 0 es) = mp (m19 W S e v i L c w rs 0 0 es) (L19 0 A):=mp_cut 126 (r19_0t W S e st v i rt mq sk L c w A es rs) (r19_0u W S e st v i rt mq sk L c w A es rs)
end
section
variable (W S:Int) (e:Tx) (st v:Nat) (i:Int) (rt mq sk:Bool) (L c:Int) (w A:Tx) (es rs:List MV)
theorem r19_1:(L19 1 A).map (k19 W S e st v i rt mq sk L c w rs 1 0 es) = mp (m19 W S e v i L c w rs 1 0 es) (L19 1 A):=by kernel_rfl
theorem r19_4:(L19 4 A).map (k19 W S e st v i rt mq sk L c w rs 4 0 es) = mp (m19 W S e v i L c w rs 4 0 es) (L19 4 A):=by kernel_rfl
noncomputable def LbK (l:List ((Option Tx × (Nat × Bool)) × (Nat × Cb))):List ((Option Tx × (Nat × Bool)) × (Nat × Cb)):=l.filter fun p=>!p.2.2.1
noncomputable def LfK (l:List ((Option Tx × (Nat × Bool)) × (Nat × Cb))):List ((Option Tx × (Nat × Bool)) × (Nat × Cb)):=l.filter fun p=>p.2.2.1
theorem r19_2f:(LfK (L19 2 A)).map (k19 W S e st v i rt mq sk L c w rs 2 0 es) = mp (m19 W S e v i L c w rs 2 0 es) (LfK (L19 2 A)):=by kernel_rfl
theorem r19_2b:(LbK (L19 2 A)).map (k19 W S e st v i rt mq sk L c w rs 2 0 [eSE]) = mp (m19 W S e v i L c w rs 2 0 [eSE]) (LbK (L19 2 A)):=by kernel_rfl
theorem r19_2v (y:MV):(LbK (L19 2 A)).map (k19 W S e st v i rt mq sk L c w rs 2 0 [eSE,y]) = mp (m19 W S e v i L c w rs 2 0 [eSE,y]) (LbK (L19 2 A)):=by kernel_rfl
theorem r19_3f:(LfK (L19 3 A)).map (k19 W S e st v i rt mq sk L c w rs 3 0 es) = mp (m19 W S e v i L c w rs 3 0 es) (LfK (L19 3 A)):=by kernel_rfl
theorem r19_3b:(LbK (L19 3 A)).map (k19 W S e st v i rt mq sk L c w rs 3 0 [eME]) = mp (m19 W S e v i L c w rs 3 0 [eME]) (LbK (L19 3 A)):=by kernel_rfl
theorem r19_3v (y:MV):(LbK (L19 3 A)).map (k19 W S e st v i rt mq sk L c w rs 3 0 [eME,y]) = mp (m19 W S e v i L c w rs 3 0 [eME,y]) (LbK (L19 3 A)):=by kernel_rfl
noncomputable def sL5:List Nat:=[2,3,4,9]
noncomputable def L5 (l:List ((Option Tx × (Nat × Bool)) × (Nat × Cb))):List (Nat × ((Option Tx × (Nat × Bool)) × (Nat × Cb))):=sL5.flatMap fun m=>l.map fun p=>(m,p)
theorem r19_5bt:(List.take 28 (L5 (LbK (L19 5 A)))).map (fun p=>k19 W (Int.ofNat p.1) e st v 0 rt mq sk L c w rs 5 p.1 es p.2) = mp (fun p=>m19 W (Int.ofNat p.1) e v 0 L c w rs 5 p.1 es p.2) (List.take 28 (L5 (LbK (L19 5 A)))):=by kernel_rfl
theorem r19_5bu:(List.drop 28 (L5 (LbK (L19 5 A)))).map (fun p=>k19 W (Int.ofNat p.1) e st v 0 rt mq sk L c w rs 5 p.1 es p.2) = mp (fun p=>m19 W (Int.ofNat p.1) e v 0 L c w rs 5 p.1 es p.2) (List.drop 28 (L5 (LbK (L19 5 A)))):=by kernel_rfl
theorem r19_5b:(L5 (LbK (L19 5 A))).map (fun p=>k19 W (Int.ofNat p.1) e st v 0 rt mq sk L c w rs 5 p.1 es p.2) = mp (fun p=>m19 W (Int.ofNat p.1) e v 0 L c w rs 5 p.1 es p.2) (L5 (LbK (L19 5 A))):=mp_cut 28 (r19_5bt W e st v rt mq sk L c w A es rs) (r19_5bu W e st v rt mq sk L c w A es rs)
theorem r19_5ft:(List.take 28 (L5 (LfK (L19 5 A)))).map (fun p=>k19 W (Int.ofNat p.1) e st v (Int.ofNat p.1) rt mq sk L c w rs 5 (p.1 + p.1) es p.2) = mp (fun p=>m19 W (Int.ofNat p.1) e v (Int.ofNat p.1) L c w rs 5 (p.1 + p.1) es p.2) (List.take 28 (L5 (LfK (L19 5 A)))):=by kernel_rfl
theorem r19_5fu:(List.drop 28 (L5 (LfK (L19 5 A)))).map (fun p=>k19 W (Int.ofNat p.1) e st v (Int.ofNat p.1) rt mq sk L c w rs 5 (p.1 + p.1) es p.2) = mp (fun p=>m19 W (Int.ofNat p.1) e v (Int.ofNat p.1) L c w rs 5 (p.1 + p.1) es p.2) (List.drop 28 (L5 (LfK (L19 5 A)))):=by kernel_rfl
theorem r19_5f:(L5 (LfK (L19 5 A))).map (fun p=>k19 W (Int.ofNat p.1) e st v (Int.ofNat p.1) rt mq sk L c w rs 5 (p.1 + p.1) es p.2) = mp (fun p=>m19 W (Int.ofNat p.1) e v (Int.ofNat p.1) L c w rs 5 (p.1 + p.1) es p.2) (L5 (LfK (L19 5 A))):=mp_cut 28 (r19_5ft W e st v rt mq sk L c w A es rs) (r19_5fu W e st v rt mq sk L c w A es rs)
end
noncomputable def d17:MV:=.meth 17 .em
noncomputable def idP (x:Cx3):Bool:=!x.fl || x.wr
noncomputable def ccK (x:Cx3) (c:Int):Int:=bif x.fst then c else c + 1
noncomputable def gWr (x:Cx3) (W c:Int):List (Bool × Bool):=bif x.fl then (ltI W (ccK x c) == false,!x.wr) :: (bif x.wr then [(ltI W (ccK x c),true)] else []) else []
noncomputable def dK (x:Cx3):Ds:=bif x.fl then bif x.wr then [(2,false),(0,true)] else [(2,true)] else []
noncomputable def asK (x:Cx3):List MV:=bif x.fl || x.fst then [.loc .em] else [.loc .em,.bool false]
noncomputable def isKN (f:Nat):Bool:=Nat.beq f 41 || Nat.beq f 19
section
variable (W:Int) (m:Nat) (e:Tx) (L c:Int) (es rs:List MV) (x:Cx3) (v:MV) (ps:Pcs)
noncomputable def pB:Sto:=sto (En W (Int.ofNat m) e (stN x) v (indV x (Int.ofNat m)) (bMV x.fl) x.fst (!x.fst) false L c (x.fl && x.fst) false .none .none .none) [d17] es [.none] rs
noncomputable def p1 (pa pt an:MV):Sto:=sto (En W (Int.ofNat m) e (stN x) v (indV x (Int.ofNat m)) (bMV x.fl) x.fst (!x.fst) false (wrL L ps) (wrC c ps) (preWs x) (idP x) pa pt an) [d17] es [.none] (wrR rs ps)
noncomputable def p3 (sm:Bool) (pa pt an:MV):Sto:=sto (En W (Int.ofNat m) e (stN x) v (indV x (Int.ofNat m)) (bMV x.fl) x.fst (!x.fst) false (wrL L ps) (wrC c ps) (preWs x && sm) (bif sm then idP x else !x.fl) pa pt an) [d17,.meth (vstN x sm) .em] es [.none] (wrR rs ps)
noncomputable def pA (sm idn:Bool):Sto:=sto (En W (Int.ofNat m) e (vstN x sm) v (indV x (Int.ofNat m)) (bMV x.fl) false true sm L c false idn .none .none .none) [d17] es [.none] rs
end
noncomputable def pQ (x:Cx3) (m:Nat) (e:Tx) (sm:Bool):Pcs:=pre x m e ++ qP (preWs x) sm
noncomputable def ansK (sm:Bool) (s2 s4:Sto):Nat → List MV → Sto → MV × Sto:=fun f _ _=>bif Nat.beq f 41 then (.bool sm,s2) else (.none,s4)
section
variable (N:Nat) (W:Int) (e:Tx) (L c:Int) (es rs fs:List MV) (pa pt an:MV) (s4:Sto)
noncomputable def kK (p:(Cx3 × Nat) × (Bool × Nat)):Option (Bool × MV × Sto):=
  rnJ N isLM isKN (ansK p.2.1 (p1 W p.1.2 e L c es rs p.1.1 (.inst p.2.2 fs) (pre p.1.1 p.1.2 e) pa pt an) s4) noO 4 (stN p.1.1) (asK p.1.1) (pB W p.1.2 e L c es rs p.1.1 (.inst p.2.2 fs)) (dK p.1.1)
noncomputable def gKK (p:(Cx3 × Nat) × (Bool × Nat)):List (Bool × Bool):=gWr p.1.1 W c ++ [(jd N 41 [.loc .em] (p1 W p.1.2 e L c es rs p.1.1 (.inst p.2.2 fs) (pre p.1.1 p.1.2 e) .none .none .none) (.bool p.2.1,p1 W p.1.2 e L c es rs p.1.1 (.inst p.2.2 fs) (pre p.1.1 p.1.2 e) pa pt an),true),
    (jd N 19 [.loc .em,.bool false,.bool false,.bool true,.bool p.2.1] (p3 W p.1.2 e L c es rs p.1.1 (.inst p.2.2 fs) (pQ p.1.1 p.1.2 e p.2.1) p.2.1 pa pt an) (.none,s4),true)]
noncomputable def mK (p:(Cx3 × Nat) × (Bool × Nat)):Option (Bool × MV × Sto):=some (bif !p.1.1.fl && p.1.1.fst then cs [csd (gKK N W e L c es rs fs pa pt an s4 p)] else csd (gKK N W e L c es rs fs pa pt an s4 p),.none,s4)
end
noncomputable def sL:List Nat:=[2,3,4,9]
noncomputable def cx4:List Cx3:=[⟨false,true,false⟩,⟨false,false,false⟩,⟨true,true,false⟩,⟨true,false,false⟩]
noncomputable def cL:List (Bool × Nat):=[true,false].flatMap fun s=>[9,10,11,13].map fun n=>(s,n)
noncomputable def LK (m:Nat):List ((Cx3 × Nat) × (Bool × Nat)):=cx4.flatMap fun x=>cL.map fun q=>((x,m),q)
noncomputable def LKw:List ((Cx3 × Nat) × (Bool × Nat)):=sL.flatMap fun m=>cL.map fun q=>((⟨true,false,true⟩,m),q)
theorem rK (m N:Nat) (W:Int) (e:Tx) (L c:Int) (es rs fs:List MV) (pa pt an:MV) (s4:Sto):(LK m).map (kK N W e L c es rs fs pa pt an s4) = (LK m).map (mK N W e L c es rs fs pa pt an s4):=by kernel_rfl
theorem rKw (N:Nat) (W:Int) (e:Tx) (L c:Int) (es rs fs:List MV) (pa pt an:MV) (s4:Sto):LKw.map (kK N W e L c es rs fs pa pt an s4) = LKw.map (mK N W e L c es rs fs pa pt an s4):=by kernel_rfl
noncomputable def eV:MV:=.inst 10 [.none,.none,.tup [.bool true,.bool false],.str [118],.none,.none,.none]
noncomputable def pV (fl sm wr:Bool) (m:Nat) (e:Tx):Pcs:=(bif sm then [(false,[58])] else bif fl then bif wr then [(true,e),(false,repX [32] m),(false,[58])] else [(false,[32,58])] else [(true,e),(false,[58])]) ++ [(false,[32]),(false,[118])]
noncomputable def gV (fl sm wr:Bool) (W c:Int):List (Bool × Bool):=bif fl && !sm then (ltI W c == false,!wr) :: (bif wr then [(ltI W c,true)] else []) else []
noncomputable def dV (fl sm wr:Bool):Ds:=bif fl && !sm then bif wr then [(1,false),(0,true)] else [(1,true)] else []
noncomputable def xL (fl:Bool):Cx3:=⟨fl,false,false⟩
section
variable (W:Int) (e:Tx) (L c:Int) (es rs:List MV)
noncomputable def eEnd (q:Nat):MV:=bif Nat.beq q 2 then eSE else eME
noncomputable def pEnd (q:Nat):Pcs:=[(false,bif Nat.beq q 2 then [93] else [125])]
noncomputable def sEnd (S:Int) (i:Int) (v:Nat) (sm fl:Bool) (q:Nat):Sto:=sto (En W S e (bif Nat.beq q 2 then 23 else 26) (eEnd q) (.int (i + S)) (.int ((bif fl then 1 else 0) + 1)) false true sm L c true false .none .none .none) [d17,.meth v .em] es [.none,.int i] rs
noncomputable def tEnd (S:Int) (i:Int) (v:Nat) (sm fl:Bool) (q:Nat):Sto:=sto (En W S e v (eEnd q) (.int i) (bMV fl) false true sm (wrL L (pEnd q)) (wrC c (pEnd q)) false false .none .none .none) [d17] es [.none] (wrR rs (pEnd q))
noncomputable def LEnd:List (Bool × Nat):=[(true,2),(true,3),(false,2),(false,3)]
theorem rEnd (S i:Int) (v:Nat) (sm:Bool):LEnd.map (fun p=>rnJ 8 isLM noI noA noO 4 (bif Nat.beq p.2 2 then 23 else 26) [.loc .em] (sEnd W e L c es rs S i v sm p.1 p.2) []) = LEnd.map fun p=>some (true,.none,tEnd W e L c es rs S i v sm p.1 p.2):=by kernel_rfl
noncomputable def kV (idn:Bool) (m:Nat) (fl sm wr:Bool) (c:Int):Option (Bool × MV × Sto):=rnJ 8 isLW noI noA noO 7 (vstN (xL fl) sm) [.loc .em] (pA W m e L c es rs (xL fl) eV sm idn) (dV fl sm wr)
noncomputable def mV (m:Nat) (fl sm wr:Bool) (c:Int):Option (Bool × MV × Sto):=some (csd (gV fl sm wr W c),.none,pB W m e (wrL L (pV fl sm wr m e)) (wrC c (pV fl sm wr m e)) es (wrR rs (pV fl sm wr m e)) (xL fl) eV)
theorem rV1 (m:Nat):[(false,true),(false,false),(true,true),(true,false)].map (fun p=>kV W e L es rs false m p.1 p.2 false c) = [(false,true),(false,false),(true,true),(true,false)].map fun p=>mV W e L es rs m p.1 p.2 false c:=by kernel_rfl
theorem rV2 (m:Nat):kV W e L es rs true m false false false 1 = mV W e L es rs m false false false 1:=by kernel_rfl
theorem rV3:sL.map (fun m=>kV W e L es rs false m true false true c) = sL.map fun m=>mV W e L es rs m true false true c:=by kernel_rfl
end
noncomputable def Eo (W S:Int) (e:Tx) (st:Nat) (ev:MV) (rt:Bool) (L c:Int) (ws idn:Bool) (tp:MV):List MV:=
  [.inst 18 [.loc .rows],.none,.loc .states,.meth st .em,.loc .events,ev,.loc .indents,.none,.int 0,.bool rt,.bool false,.bool false,.bool false,.int L,.int c,.bool ws,.bool idn,.bool false,.none,.none,.int S,.int W,.str e,tp,.none,.none,.none,.none]
noncomputable def eB:MV:=.inst 5 [.none,.none,.none]
noncomputable def eD:MV:=.inst 7 [.none,.none,.bool true,.none,.none]
noncomputable def eM (fl:Bool):MV:=.inst 13 [.none,.none,.bool true,.none,.none,.bool fl]
noncomputable def eDe:MV:=.inst 8 [.none,.none,.bool true]
noncomputable def eZ:MV:=.inst 6 [.none,.none]
section
variable (W:Int) (m:Nat) (e:Tx) (L c:Int) (es rs:List MV)
theorem rB:rnJ 8 isLM noI noA noO 4 13 [.loc .em] (sto (Eo W (Int.ofNat m) e 13 eB false 0 0 true true .none) [] es [] rs) [] = some (true,.none,sto (Eo W (Int.ofNat m) e 15 eB false 0 0 true true .none) [] es [] rs):=by kernel_rfl
theorem rD:rnJ 8 isLM noI noA noO 4 15 [.loc .em] (sto (Eo W (Int.ofNat m) e 15 eD false 0 0 true true .none) [] es [] rs) [] = some (true,.none,sto (Eo W (Int.ofNat m) e 18 eD false 0 3 false false tp0) [] es [] (rs ++ [.str [45,45,45]])):=by kernel_rfl
noncomputable def L9:List (Bool × Nat):=[true,false].flatMap fun s=>[9,10,11,13].map fun n=>(s,n)
noncomputable def pM (fl:Bool):Pcs:=bif fl then [(false,[32,123])] else []
theorem rM (fs:List MV) (y z:MV):L9.map (fun p=>rnJ 8 isLM noI noA noO 6 18 [.loc .em] (sto (Eo W (Int.ofNat m) e 18 (eM p.1) false 0 3 false false tp0) [] [.inst p.2 fs,y,z] [] rs) []) =
  L9.map fun p=>some (true,.none,pB W m e 0 (wrC 3 (pM p.1)) [.inst p.2 fs,y,z] (wrR rs (pM p.1)) ⟨p.1,true,false⟩ (eM p.1)):=by kernel_rfl
noncomputable def pMe (fl:Bool):Pcs:=bif fl then [(false,[125])] else []
theorem rMe:[true,false].map (fun fl=>rnJ 8 isLM noI noA noO 4 (stN (xL fl)) (asK (xL fl)) (pB W m e L c es rs (xL fl) eME) []) = [true,false].map fun fl=>some (true,.none,sto (Eo W (Int.ofNat m) e 17 eME false L (wrC c (pMe fl)) false false tp0 |>.set 11 (.bool true)) [] es [] (wrR rs (pMe fl))):=by kernel_rfl
noncomputable def pDe (e:Tx):Pcs:=[(true,e),(false,[46,46,46]),(true,e)]
theorem rDe:rnJ 8 isLM noI noA noO 4 17 [.loc .em] (sto (Eo W (Int.ofNat m) e 17 eDe false L c false false tp0 |>.set 11 (.bool true)) [] es [] rs) [] = some (true,.none,sto (Eo W (Int.ofNat m) e 16 eDe false (wrL L (pDe e)) (wrC c (pDe e)) true true tp0 |>.set 11 (.bool true)) [] es [] (wrR rs (pDe e))):=by kernel_rfl
theorem rZ:rnJ 8 isLM noI noA noO 4 16 [.loc .em,.bool false] (sto (Eo W (Int.ofNat m) e 16 eZ false L c true true tp0 |>.set 11 (.bool true)) [] es [] rs) [] = some (true,.none,sto (Eo W (Int.ofNat m) e 14 eZ false L c true true tp0 |>.set 11 (.bool true)) [] es [] rs):=by kernel_rfl
end
noncomputable def LE (f:Nat) (ev:MV) (g:Nat → MV):List MV:=[g 0,g 1,g 2,.meth f .em,.loc .events,ev,g 6,g 7,g 8,g 9,g 10,g 11,g 12,g 13,g 14,g 15,g 16,g 17,g 18,g 19,g 20,g 21,g 22,g 23,g 24,g 25,g 26,g 27]
structure Q where
  f:Nat
  v:MV
  g:Nat → MV
  ss:List MV
  is:List MV
  rs:List MV
noncomputable def sQ (f:Nat) (v:MV) (q:Q) (es:List MV):Sto:=sto (LE f v q.g) q.ss es q.is q.rs
noncomputable def asS (f:Nat):List MV:=bif Nat.beq f 35 || Nat.beq f 16 then [.loc .em,.bool false] else [.loc .em]
noncomputable def stp (f:Nat):Bool:=Nat.ble 13 f && Nat.ble f 37
noncomputable def lenE (sh:Sto):Nat:=(sh.events.map List.length).getD 0
noncomputable def ansE (l:List Sto):Nat → List MV → Sto → MV × Sto:=fun _ _ sh=>(.none,(nth l (lenE sh)).getD sh)
noncomputable def rE (N:Nat) (l:List Sto) (e:MV) (sh:Sto):Option (Bool × MV × Sto):=rnJ N isLM stp (ansE l) noO 3 9 [.loc .em,e] sh []
noncomputable def jE (N f:Nat) (v:MV) (q:Q) (es:List MV) (s:Sto):Bool × Bool:=(jd N f (asS f) (sQ f v q es) (.none,s),true)
section
variable (N:Nat) (fs fs1 fs2 fs3:List MV) (v v1 v2 v3 v4:MV) (q q1 q2 q3 q4:Q) (f':Nat)
noncomputable def nowL:List (Nat × Nat):=[(13,5),(35,9),(35,10),(27,9),(27,10),(36,10),(37,10),(28,10),(29,10),(35,14),(27,14),(17,8),(16,6)]
theorem e1:nowL.map (fun p=>rE N [sQ f' v q1 []] (.inst p.2 fs) (sQ p.1 .none q [])) = nowL.map fun p=>some (csd [jE N p.1 (.inst p.2 fs) q [] (sQ f' v q1 [])],.none,sQ f' .none q1 []):=by kernel_rfl
theorem e2:[7,11,13].map (fun c=>rE N [] (.inst c fs) (sQ f' .none q [])) = [7,11,13].map fun c=>some (true,.none,sQ f' .none q [.inst c fs]):=by kernel_rfl
theorem e2a:[9,10,11,13].map (fun c=>rE N [] (.inst c fs) (sQ f' .none q [.inst 13 fs1])) = [9,10,11,13].map fun c=>some (true,.none,sQ f' .none q [.inst 13 fs1,.inst c fs]):=by kernel_rfl
noncomputable def w2L:List (Nat × Nat):=[(9,10),(10,10),(11,12),(13,14)]
theorem e2b:w2L.map (fun p=>rE N [] (.inst p.2 fs) (sQ f' .none q [.inst 13 fs1,.inst p.1 fs2])) = w2L.map fun p=>some (true,.none,sQ f' .none q [.inst 13 fs1,.inst p.1 fs2,.inst p.2 fs]):=by kernel_rfl
theorem e3:rE N [sQ f' v q1 [],sQ f' v q1 [.inst 13 fs]] (.inst 13 fs) (sQ 15 .none q [.inst 7 fs1]) = some (csd [jE N 15 (.inst 7 fs1) q [.inst 13 fs] (sQ f' v q1 [.inst 13 fs])],.none,sQ f' .none q1 [.inst 13 fs]):=by kernel_rfl
noncomputable def colL:List ((Nat × Nat) × (Nat × Nat)):=[35,27].flatMap fun f=>[((f,23),(11,12)),((f,26),(13,14))]
theorem e4:colL.map (fun p=>rE N [sQ f' v q2 [],sQ p.1.2 v1 q1 [.inst p.2.2 fs]] (.inst p.2.2 fs) (sQ p.1.1 .none q [.inst p.2.1 fs1])) =
  colL.map fun p=>some (csd [jE N p.1.1 (.inst p.2.1 fs1) q [.inst p.2.2 fs] (sQ p.1.2 v1 q1 [.inst p.2.2 fs]),jE N p.1.2 (.inst p.2.2 fs) q1 [] (sQ f' v q2 [])],.none,sQ f' .none q2 []):=by kernel_rfl
noncomputable def frL:List (Nat × Nat × Nat):=[(34,36,35),(34,37,35),(26,28,27),(26,29,27)]
noncomputable def fr1:List ((Nat × Nat × Nat) × (Nat × Nat)):=frL.flatMap fun a=>[9,10].flatMap fun c=>[9,10,14].map fun d=>(a,(c,d))
theorem e5:fr1.map (fun p=>rE N [sQ f' v q4 [],sQ p.1.2.2 v3 q3 [.inst p.2.2 fs],sQ p.1.2.1 v2 q2 [.inst 10 fs3,.inst p.2.2 fs],sQ p.1.1 v1 q1 [.inst p.2.1 fs2,.inst 10 fs3,.inst p.2.2 fs]] (.inst p.2.2 fs) (sQ 18 .none q [.inst 13 fs1,.inst p.2.1 fs2,.inst 10 fs3])) =
  fr1.map fun p=>some (csd [jE N 18 (.inst 13 fs1) q [.inst p.2.1 fs2,.inst 10 fs3,.inst p.2.2 fs] (sQ p.1.1 v1 q1 [.inst p.2.1 fs2,.inst 10 fs3,.inst p.2.2 fs]),jE N p.1.1 (.inst p.2.1 fs2) q1 [.inst 10 fs3,.inst p.2.2 fs] (sQ p.1.2.1 v2 q2 [.inst 10 fs3,.inst p.2.2 fs]),
    jE N p.1.2.1 (.inst 10 fs3) q2 [.inst p.2.2 fs] (sQ p.1.2.2 v3 q3 [.inst p.2.2 fs]),jE N p.1.2.2 (.inst p.2.2 fs) q3 [] (sQ f' v q4 [])],.none,sQ f' .none q4 []):=by kernel_rfl
noncomputable def fr2:List ((Nat × Nat × Nat) × (Nat × Nat)):=frL.flatMap fun a=>[9,10].flatMap fun c=>[11,13].map fun d=>(a,(c,d))
theorem e6:fr2.map (fun p=>rE N [sQ f' v q4 [],sQ p.1.2.2 v3 q3 [.inst p.2.2 fs],sQ p.1.2.1 v2 q2 [.inst 10 fs3,.inst p.2.2 fs],sQ p.1.1 v1 q1 [.inst p.2.1 fs2,.inst 10 fs3,.inst p.2.2 fs]] (.inst p.2.2 fs) (sQ 18 .none q [.inst 13 fs1,.inst p.2.1 fs2,.inst 10 fs3])) =
  fr2.map fun p=>some (csd [jE N 18 (.inst 13 fs1) q [.inst p.2.1 fs2,.inst 10 fs3,.inst p.2.2 fs] (sQ p.1.1 v1 q1 [.inst p.2.1 fs2,.inst 10 fs3,.inst p.2.2 fs]),jE N p.1.1 (.inst p.2.1 fs2) q1 [.inst 10 fs3,.inst p.2.2 fs] (sQ p.1.2.1 v2 q2 [.inst 10 fs3,.inst p.2.2 fs]),
    jE N p.1.2.1 (.inst 10 fs3) q2 [.inst p.2.2 fs] (sQ p.1.2.2 v3 q3 [.inst p.2.2 fs])],.none,sQ p.1.2.2 .none q3 [.inst p.2.2 fs]):=by kernel_rfl
noncomputable def fr3:List ((Nat × Nat) × (Nat × Nat × Nat)):=[(34,36),(34,37),(26,28),(26,29)].flatMap fun a=>[(11,12,23),(13,14,26)].map fun c=>(a,c)
theorem e7:fr3.map (fun p=>rE N [sQ f' v q4 [],sQ p.1.2 v3 q3 [.inst 10 fs],sQ p.2.2.2 v2 q2 [.inst p.2.2.1 fs3,.inst 10 fs],sQ p.1.1 v1 q1 [.inst p.2.1 fs2,.inst p.2.2.1 fs3,.inst 10 fs]] (.inst 10 fs) (sQ 18 .none q [.inst 13 fs1,.inst p.2.1 fs2,.inst p.2.2.1 fs3])) =
  fr3.map fun p=>some (csd [jE N 18 (.inst 13 fs1) q [.inst p.2.1 fs2,.inst p.2.2.1 fs3,.inst 10 fs] (sQ p.1.1 v1 q1 [.inst p.2.1 fs2,.inst p.2.2.1 fs3,.inst 10 fs]),jE N p.1.1 (.inst p.2.1 fs2) q1 [.inst p.2.2.1 fs3,.inst 10 fs] (sQ p.2.2.2 v2 q2 [.inst p.2.2.1 fs3,.inst 10 fs]),
    jE N p.2.2.2 (.inst p.2.2.1 fs3) q2 [.inst 10 fs] (sQ p.1.2 v3 q3 [.inst 10 fs]),jE N p.1.2 (.inst 10 fs) q3 [] (sQ f' v q4 [])],.none,sQ f' .none q4 []):=by kernel_rfl
end
noncomputable def kArgs (x0 x1 x2:Int):Nat → List MV:=fun n=>(nth [[.int x0,.int x1,.int x2],[.int x0,.int x1,.int x2,.int 0],[.int x0,.int x1,.int x2,.int 0,.int 0],[.int x0,.int x1,.int x2,.int 0,.int 0,.int 0]] n).getD []
noncomputable def cntA (i:Nat) (x1:Int):Int:=(nth [0,1 + Int.fmod (Int.fdiv x1 3) 4,110 + Int.fmod (Int.fdiv x1 3) 20] i).getD 0
noncomputable def sd64 (j:Nat) (x2:Int):Bool:=bif Nat.beq j 0 then false else eqI (Int.fmod (Int.fdiv x2 4) 2) 0
noncomputable def tup64 (i j:Nat) (x0 x1 x2:Int):MV:=.tup [.int (Int.fmod x0 8),.int (1 + Int.fmod (Int.fdiv x0 8) 5),.str (repX [110] (cntA i x1).toNat),tagMV j,.str (told j),.bool (sd64 j x2)]
noncomputable def ix (i:Nat):Ds:=[(0,true),(1000000 + i,true)]
noncomputable def mulA (z:Int):Bool:=leN (1 * z.toNat) lim && leN z.natAbs lim
noncomputable def L64:List (Nat × (Nat × Nat)):=[0,1,2,3].flatMap fun n=>[0,1,2].flatMap fun i=>[0,1,2,3].map fun j=>(n,(i,j))
theorem r64 (x0 x1 x2:Int) (sh:Sto):L64.map (fun p=>rnJ 8 isLM noI noA noO 3 64 [.lst (kArgs x0 x1 x2 p.1)] sh (ix 0 ++ (ix 0 ++ (ix 1 ++ (ix 1 ++ (ix 1 ++ (ix p.2.1 ++ (ix 2 ++ ix p.2.2)))))))) =
  L64.map fun p=>some (csd [(eqI (Int.fmod x1 3) (Int.ofNat p.2.1),true),(mulA (cntA p.2.1 x1),true),(eqI (Int.fmod x2 4) (Int.ofNat p.2.2),true)],tup64 p.2.1 p.2.2 x0 x1 x2,sh):=by kernel_rfl
noncomputable def tupK (kd:Nat) (s:Int) (a:Option Tx) (g:Nat × Bool):MV:=.tup [.int (Int.ofNat kd),.int s,.str (anTx a),tagMV g.1,.str (told g.1),.bool g.2]
noncomputable def wS (s:Int):Tx:=repX [97] s.toNat
noncomputable def qk (kd:Nat):Nat × Nat:=(nth [(0,0),(0,1),(0,2),(1,0),(2,0),(3,0),(4,0),(5,0)] kd).getD (0,0)
noncomputable def aQ (kd:Nat) (a:Option Tx):Option Tx:=bif Nat.beq kd 3 then oc a (some []) some else a
noncomputable def evK (kd:Nat) (s:Int) (a:Option Tx) (g:Nat × Bool):MV:=evG (qk kd).1 (aQ kd a) g (qk kd).2 (wS s)
noncomputable def evsK (kd:Nat) (s:Int) (a:Option Tx) (g:Nat × Bool):List MV:=evK kd s a g :: (bif Nat.beq kd 4 then [eSE] else bif Nat.beq kd 5 then [eME] else [])
noncomputable def sh0:Sto:=⟨none,none,none,none,none,none⟩
noncomputable def L65 (A:Tx):List (Nat × (Option Tx × (Nat × Bool))):=[0,1,2,3,4,5,6,7].flatMap fun kd=>(aL A).flatMap fun a=>tgs.map fun g=>(kd,(a,g))
noncomputable def g65 (kd:Nat) (s:Int):List (Bool × Bool):=bif Nat.ble 3 kd && Nat.ble kd 5 then [] else [(mulA s,true),(mulA s,true),(mulA s,true)]
theorem r65 (s:Int) (A:Tx):(L65 A).map (fun p=>rnJ 8 isLM noI noA noO 3 65 [tupK p.1 s p.2.1 p.2.2] sh0 []) = (L65 A).map fun p=>some (csd (g65 p.1 s),.lst (evsK p.1 s p.2.1 p.2.2),sh0):=by kernel_rfl
noncomputable def la (n:Nat):Bool × Bool:=(leN n lim,true)
noncomputable def mkK (kd:Nat) (g:Nat × Bool):Tx:=bif Nat.beq kd 2 then [34] else bif Nat.beq kd 1 || g.2 then [39] else []
noncomputable def hdP (a:Option Tx) (g:Nat × Bool):List Tx:=(oc a [] fun A=>[38 :: 110 :: A]) ++ (bif g.2 then [told g.1] else [])
noncomputable def anN (a:Option Tx):Tx:=oc a [110] fun A=>110 :: A
noncomputable def mlK (e:Tx) (n:Int):Tx:=((([39,97] ++ e) ++ e) ++ repX [32] n.toNat) ++ [98,39]
noncomputable def ptK (kd:Nat) (s:Int) (a:Option Tx) (g:Nat × Bool) (fl:Bool) (n:Int) (e:Tx):List Tx:=
  (nth [hdP a g ++ [mkK kd g ++ wS s ++ mkK kd g],hdP a g ++ [mkK kd g ++ wS s ++ mkK kd g],hdP a g ++ [mkK kd g ++ wS s ++ mkK kd g],[42 :: anN a],hdP a g ++ [[91,93]],hdP a g ++ [[123,125]],bif fl || g.2 then hdP a g ++ [[39,39]] else hdP a g,hdP a g ++ [mlK e n]] kd).getD []
noncomputable def lnK (a:Option Tx) (g:Nat × Bool):Int:=Int.ofNat (anTx a).length + Int.ofNat (told g.1).length
noncomputable def smL (kd:Nat) (s:Int) (a:Option Tx) (g:Nat × Bool):Bool:=(nth [ltI (lnK a g + s) 128,ltI (lnK a g + s) 128,ltI (lnK a g + s) 128,ltI (Int.ofNat (anTx a).length) 128,ltI (lnK a g) 128,ltI (lnK a g) 128,false,false] kd).getD false
noncomputable def gA66 (a:Option Tx):List (Bool × Bool):=oc a [] fun A=>[la (1 + (110 :: A).length)]
noncomputable def gW66 (kd:Nat) (g:Nat × Bool) (s:Int):List (Bool × Bool):=[(mulA s,true),la ((mkK kd g).length + (wS s).length),la ((mkK kd g ++ wS s).length + (mkK kd g).length)]
noncomputable def g66 (kd:Nat) (s:Int) (a:Option Tx) (g:Nat × Bool) (n:Int) (e:Tx):List (Bool × Bool):=gA66 a ++ (nth [gW66 kd g s,gW66 kd g s,gW66 kd g s,[],[],[],[],
  [la (2 + e.length),la (([39,97] ++ e).length + e.length),(mulA n,true),la ((([39,97] ++ e) ++ e).length + (repX [32] n.toNat).length),la (((([39,97] ++ e) ++ e) ++ repX [32] n.toNat).length + 2)]] kd).getD []
noncomputable def L66 (A:Tx):List (Bool × (Nat × (Option Tx × (Nat × Bool)))):=[true,false].flatMap fun f=>(L65 A).map fun p=>(f,p)
theorem r66 (Ψ:Psi) (s n:Int) (e A:Tx) (sh:Sto):(L66 A).map (fun p=>toOpt (runT L1.T Ψ 66 [tupK p.2.1 s p.2.2.1 p.2.2.2,.bool p.1,.int n,.str e] sh [])) =
  (L66 A).map fun p=>some (csd (g66 p.2.1 s p.2.2.1 p.2.2.2 n e),.tup [.lst ((ptK p.2.1 s p.2.2.1 p.2.2.2 p.1 n e).map .str),.bool (smL p.2.1 s p.2.2.1 p.2.2.2)],sh):=by kernel_rfl
open PySem PySem.StrLaws PySem.Builtin.Str
theorem occ_last {x y:Str} (hw:1 ≤ y.length):∀ (n a:Nat) (st:Array Nat × Nat),a + n ≤ x.length + 1 → (∀ i,i < a → st.2 ≤ i → ¬ At x y x.length i) → st.1.size ≤ st.2 →
    ∀ i,i < a + n → (forIn (m:=Id) (List.range' a n) st (occBody x y x.length (x.length + 1))).run.2 ≤ i → ¬ At x y x.length i
  | 0,a,st,_,H,_=>fun i hi hf=>H i hi hf
  | n + 1,a,st,hn,H,Z=>by
    rw [List.range'_succ,List.forIn_cons]
    unfold occBody
    have e:a + (n + 1) = (a + 1) + n:=by omega
    rw [e]
    split
    · rename_i hc
      refine occ_last hw n (a + 1) _ (by omega) (fun i hi hf=>?_) ?_
      · have hf:a + y.length ≤ i:=hf
        omega
      · show (st.1.push a).size ≤ a + y.length
        rw [Array.size_push];have:=hc.1.1.2;omega
    · rename_i hc
      refine occ_last hw n (a + 1) st (by omega) (fun i hi hf=>?_) Z
      by_cases hia:i < a
      · exact H i hia hf
      · obtain rfl:i = a:=by omega
        exact fun h=>hc ⟨⟨⟨by omega,hf⟩,h.1⟩,h.2⟩
theorem parts_last {x y:Str} {hi:Nat}:∀ (cuts:List Nat) (a f:Nat),ChainTo x y hi a cuts f → (partsFrom x y.length a cuts).getLast? = some (strSub x f x.length) ∧ (f = a ∨ ∃ c,f = c + y.length ∧ At x y hi c)
  | [],a,f,h=>by obtain rfl:f = a:=h;exact ⟨rfl,.inl rfl⟩
  | c :: r,a,f,h=>by
    obtain ⟨h1,h2⟩:=parts_last r (c + y.length) f h.2.2
    refine ⟨?_,?_⟩
    · obtain ⟨p,q,e⟩:=partsFrom_ne x y.length (c + y.length) r
      show (strSub x a c :: partsFrom x y.length (c + y.length) r).getLast? = _
      rw [e] at h1 ⊢
      rw [List.getLast?_cons_cons];exact h1
    · rcases h2 with h2 | h2
      · exact .inr ⟨c,h2,h.2.1⟩
      · exact .inr h2
theorem split_last (x y:Str) (hw:1 ≤ y.length):∃ f,(Txt.split x y).getLast? = some (strSub x f x.length) ∧ (∀ i,f ≤ i → ¬ At x y x.length i) ∧ (f = 0 ∨ ∃ c,f = c + y.length ∧ At x y x.length c):=by
  have hn:∀ {i},At x y x.length i → ¬ (decide (x.length < y.length) || decide (strKind x < strKind y)) = true:=fun {i} h z=>by
    rcases Bool.or_eq_true_iff.mp z with z | z
    · have:=of_decide_eq_true z;have:=h.1;omega
    · have:=of_decide_eq_true z;have:=PySem.W.kind_le x y h.2;omega
  unfold Txt.split
  split
  · rename_i h
    exact ⟨0,by rw [sub_whole];rfl,fun i _ a=>hn a h,.inl rfl⟩
  · obtain hc:ChainTo x y x.length 0 (occurrences x y 0 x.length (x.length + 1)) (forIn (m:=Id) (List.range' 0 (x.length + 1 - 0)) ((#[]:Array Nat),0) (occBody x y x.length (x.length + 1))).run.2:=by
      rw [occ_eq];exact occ_chainTo x y x.length _ 0 _ _ rfl
    have hl:=occ_last (x:=x) (y:=y) hw (x.length + 1 - 0) 0 (#[],0) (by omega) (fun i h=>absurd h (Nat.not_lt_zero _)) (Nat.zero_le _)
    obtain ⟨p1,p2⟩:=parts_last _ _ _ hc
    refine ⟨_,?_,fun i hf a=>hl i (by have:=a.1;omega) hf a,p2⟩
    split
    · rename_i h
      rw [List.isEmpty_iff.mp h] at p1 hc
      have e:_ = 0:=hc
      rw [e,sub_whole];rfl
    · rw [partsBetween_eq];exact p1
theorem at_list {T e:Tx} {i:Nat}:At ⟨T.toArray⟩ ⟨e.toArray⟩ (Str.length ⟨T.toArray⟩) i ↔ i + e.length ≤ T.length ∧ (T.drop i).take e.length = e:=by
  show _ ∧ _ ↔ _
  rw [subAt_eq,beq_iff_eq]
  show i + (e.toArray).size ≤ (T.toArray).size ∧ (T.toArray.toList.drop i).take (e.toArray).size = e.toArray.toList ↔ _
  rw [List.size_toArray,List.size_toArray,List.toList_toArray]
noncomputable def Col (e T:Tx) (c:Nat):Prop:=∃ Q:Tx,Q.length = c ∧ (∀ x ∈ Q,x ∉ e) ∧ (T = Q ∨ ∃ P,T = P ++ (e ++ Q))
theorem Col.app {e T:Tx} {c:Nat} (h:Col e T c) {p:Tx} (hp:∀ x ∈ p,x ∉ e):Col e (T ++ p) (c + p.length):=by
  obtain ⟨Q,h1,h2,h3⟩:=h
  refine ⟨Q ++ p,by rw [List.length_append,h1],fun x m=>?_,?_⟩
  · rcases List.mem_append.mp m with m | m
    · exact h2 x m
    · exact hp x m
  · rcases h3 with rfl | ⟨P,rfl⟩
    · exact .inl rfl
    · exact .inr ⟨P,by rw [List.append_assoc,List.append_assoc]⟩
theorem Col.nl {e T:Tx}:Col e (T ++ e) 0:=⟨[],rfl,fun x m=>(List.not_mem_nil m).elim,.inr ⟨T,by rw [List.append_nil]⟩⟩
theorem col_last {e T:Tx} {c:Nat} (h:Col e T c) (he:e = [10] ∨ e = [13] ∨ e = [13,10]):∃ Q:Tx,(splitX T e).getLast? = some Q ∧ Q.length = c:=by
  have hw:1 ≤ e.length:=by rcases he with rfl | rfl | rfl <;> decide
  obtain ⟨f,h1,h2,h3⟩:=split_last ⟨T.toArray⟩ ⟨e.toArray⟩ (by show 1 ≤ (e.toArray).size;rw [List.size_toArray];exact hw)
  have hL:Str.length ⟨e.toArray⟩ = e.length:=List.size_toArray
  have hT:Str.length ⟨T.toArray⟩ = T.length:=List.size_toArray
  refine ⟨T.drop f,?_,?_⟩
  · show ((Txt.split _ _).map fun s:Str=>s.cps.toList).getLast? = _
    rw [List.getLast?_map,h1,Option.map_some,strSub_toList]
    show some ((T.toArray.toList.drop f).take _) = _
    rw [List.toList_toArray,List.take_of_length_le (by rw [List.length_drop,hT];exact Nat.le_refl _)]
  · obtain ⟨Q,q1,q2,q3⟩:=h
    have k3:f = 0 ∨ ∃ c,f = c + e.length ∧ c + e.length ≤ T.length ∧ (T.drop c).take e.length = e:=by
      rcases h3 with h3 | ⟨c,h3,h4⟩
      · exact .inl h3
      · exact .inr ⟨c,by rw [hL] at h3;exact h3,(at_list.mp h4).1,(at_list.mp h4).2⟩
    rcases q3 with rfl | ⟨P,rfl⟩
    · rcases k3 with rfl | ⟨c,rfl,k4,k5⟩
      · rw [List.drop_zero,q1]
      · cases e with
        | nil=>exact absurd hw (by decide)
        | cons a r=>
          have:a ∈ (T.drop c).take (a :: r).length:=by rw [k5];exact .head _
          exact absurd (List.mem_cons_self ..) (q2 a (List.mem_of_mem_drop (List.mem_of_mem_take this)))
    · rw [List.length_drop,List.length_append,List.length_append,← q1]
      have hP:¬ f ≤ P.length:=fun z=>h2 P.length z (at_list.mpr ⟨by simp only [List.length_append];omega,by rw [List.drop_left,List.take_left]⟩)
      rcases k3 with rfl | ⟨c,rfl,k4,k5⟩
      · exact absurd (Nat.zero_le _) hP
      have hc:∀ i,i < e.length → (P ++ (e ++ Q))[c + i]? = e[i]?:=fun i hi=>by
        rw [← List.getElem?_drop,← List.getElem?_take_of_lt hi,k5]
      have hx:=hc (e.length - 1) (by omega)
      have e1:e[e.length - 1]? = some (e[e.length - 1]'(by omega)):=List.getElem?_eq_getElem _
      have hm:e[e.length - 1]'(by omega) ∈ e:=List.getElem_mem _
      have hle:c + (e.length - 1) < P.length + e.length:=by
        refine Nat.lt_of_not_le fun z=>?_
        rw [List.getElem?_append_right (by omega),List.getElem?_append_right (by omega),e1] at hx
        exact q2 _ (List.mem_of_getElem? hx) hm
      rw [List.getElem?_append_right (by omega),List.getElem?_append_left (by omega)] at hx
      have hd:c + (e.length - 1) - P.length = e.length - 1:=by
        have hlt:c + (e.length - 1) - P.length < e.length:=by omega
        generalize c + (e.length - 1) - P.length = j at hx hlt
        rcases he with rfl | rfl | rfl
        · have:j < 1:=hlt
          show j = 0;omega
        · have:j < 1:=hlt
          show j = 0;omega
        · have:j < 2:=hlt
          match j,this with
          | 0,_=>exact absurd (Option.some.inj hx) (by decide)
          | 1,_=>rfl
      omega
noncomputable def pl (n:Nat):R → R:=Nat.rec (motive:=fun _=>R → R) (fun r=>r) (fun _ ih r=>R.casesOn (motive:=fun _=>R) r (fun _ _=>.bad) (fun _ _ r=>ih r) .bad) n
noncomputable def gl (n:Nat):R → List (Bool × Bool):=Nat.rec (motive:=fun _=>R → List (Bool × Bool)) (fun _=>[]) (fun _ ih r=>R.casesOn (motive:=fun _=>List (Bool × Bool)) r (fun _ _=>[(true,false)]) (fun b d r=>(b,d) :: ih r) [(true,false)]) n
theorem good_pl {v:MV} {sh:Sto}:∀ (n:Nat) (r:R),csd (gl n r) = true → Good (pl n r) v sh → Good r v sh
  | 0,_,_,h=>h
  | n + 1,.fin _ _,g,_=>noB g
  | n + 1,.cst b d r,g,h=>by
    have g:(b == d && csd (gl n r)) = true:=g
    exact ⟨eq_of_beq (andL g),good_pl n r (andR g) h⟩
  | n + 1,.bad,g,_=>noB g
theorem good_pl' {v:MV} {sh:Sto} {n:Nat} {r r':R} {l:List (Bool × Bool)} (e:(csd (gl n r),pl n r) = (csd l,r')) (hl:csd l = true) (h:Good r' v sh):Good r v sh:=
  good_pl n r ((congrArg Prod.fst e).trans hl) (by rw [show pl n r = r' from congrArg Prod.snd e];exact h)
theorem J_good {n:Nat} {lf is:Nat → Bool} {a:Nat → List MV → Sto → MV × Sto} {O:Nat → Ds} {k f:Nat} {as:List MV} {sh:Sto} {ds:Ds} {r:MV × Sto} (hn:8 ≤ n) (h:Good (runT L1.T (twJ n lf is a O k) f as sh ds) r.1 r.2):J (n + 2 * k) f as sh r:=
  fun {_} B hT=>⟨_,twJ_sd B hT hn k,ds,h⟩
noncomputable def lpK (Ψ:Psi) (l:MSs) (k:Option MV → St → Ds → R) (i:Nat) (ks:List MV):Option MV → St → Ds → R:=fun r st=>orK r (kSeq Ψ (mTail l) k) (loopF Ψ l k i ks) st
noncomputable def cal (Ψ:Psi) (f:Nat) (as:List MV) (sh:Sto) (K:MV → Sto → Ds → R) (ds:Ds):R:=onT (Ψ f as sh) (fun p=>chkT p.1 (K p.2.1 p.2.2)) ds
theorem cal_ok {Ψ:Psi} {f:Nat} {as:List MV} {sh:Sto} {K:MV → Sto → Ds → R} {ds:Ds} {v:MV} {sh':Sto} {r:MV × Sto} (e:Ψ f as sh = some (true,r)) (h:Good (K r.1 r.2 ds) v sh'):Good (cal Ψ f as sh K ds) v sh':=by
  unfold cal;rw [e];exact ⟨rfl,h⟩
noncomputable def lastX (T e:Tx):Tx:=((splitX T e).getLast?).getD []
noncomputable def eL:List Tx:=[[10],[13],[13,10]]
theorem a67 (Ψ:Psi) (T:Tx) (sh:Sto):eL.map (fun e=>(csd (gl 2 (runT L1.T Ψ 67 [.str T,.str e] sh [])),pl 2 (runT L1.T Ψ 67 [.str T,.str e] sh []))) =
  eL.map fun e=>(csd [la (T.length + 1)],onT (subV sh (.lst ((splitX T e).map .str)) (.int (-1))) (fun r=>exsT L1.T Ψ (.cons (.ret (.call 4 (.cons (.k r) .nil) .nil)) .nil) ⟨sh,[.val (.str T),.val (.str e)]⟩ kFin) []):=by kernel_rfl
theorem b67 (Ψ:Psi) (Q T e:Tx) (sh:Sto):toOpt (exsT L1.T Ψ (.cons (.ret (.call 4 (.cons (.k (.str Q)) .nil) .nil)) .nil) ⟨sh,[.val (.str T),.val (.str e)]⟩ kFin []) = some (true,.int (Int.ofNat Q.length),sh):=by kernel_rfl
theorem sub_last {l:List Tx} {Q:Tx} {sh:Sto} (h:l.getLast? = some Q):subV sh (.lst (l.map .str)) (.int (-1)) = some (.str Q):=by
  have hl:l ≠ []:=fun z=>by rw [z] at h;exact noS h
  have hn:0 < l.length:=List.length_pos_iff.mpr hl
  have e1:idx (l.map MV.str).length (-1) = some (l.length - 1):=by
    unfold idx
    rw [if_neg (by decide),List.length_map,if_pos (by omega)]
    exact congrArg some (by omega)
  have e2:nth (l.map MV.str) (l.length - 1) = some (.str Q):=by
    rw [nth_eq,List.getElem?_map,← List.getLast?_eq_getElem?,h];rfl
  show orO (orO ((idx (l.map MV.str).length (-1)).bind (nth (l.map MV.str))) _) _ = _
  rw [e1]
  show orO (orO (nth (l.map MV.str) (l.length - 1)) _) _ = _
  rw [e2];rfl
theorem leN_ok {a b:Nat} (h:a ≤ b):leN a b = true:=Nat.ble_eq.mpr h
theorem J67 {e T Q:Tx} {sh:Sto} (he:e ∈ eL) (h:(splitX T e).getLast? = some Q) (hT:T.length < 1000000):J 8 67 [.str T,.str e] sh (.int (Int.ofNat Q.length),sh):=
  J_good (n:=8) (k:=0) (lf:=isLM) (is:=noI) (a:=noA) (O:=noO) (Nat.le_refl _) (ds:=[]) (by
    refine good_pl' (map_at (a67 _ T sh) he) (csd_of fun p m=>?_) ?_
    · rcases List.mem_singleton.mp m with rfl
      exact leN_ok (by unfold lim;omega)
    · rw [sub_last h]
      exact toOpt_ok (b67 _ Q T e sh) rfl)
noncomputable def l68:MSs:=mTail L1.b__law_block
noncomputable def st68 (sh:Sto) (K s:MV) (e T:Tx) (y4 y5 y6:Cell):St:=⟨sh,[.val K,.val s,.val (.str e),.val (.str T),y4,y5,y6]⟩
theorem a68 (Ψ:Psi) (k:Option MV → St → Ds → R) (sh:Sto) (K s x:MV) (ks:List MV) (e T:Tx) (y4 y5 y6:Cell):loopF Ψ l68 k 4 (x :: ks) (st68 sh K s e T y4 y5 y6) [] =
  cal Ψ 66 [x,.bool false,s,.str e] sh (fun r sh=>exsT L1.T Ψ (.cons (.asg [.tup [5,6]] (.k r)) (mTail (mBody (mHead l68)))) (st68 sh K s e T (.val x) y5 y6) (lpK Ψ l68 k 4 ks)) []:=by kernel_rfl
noncomputable def b68 (Ψ:Psi) (KK:Option MV → St → Ds → R) (sh:Sto) (K s:MV) (e T:Tx) (x y5 y6:Cell) (ps:List Tx) (sm:Bool):R:=exsT L1.T Ψ (.cons (.asg [.tup [5,6]] (.k (.tup [.lst (ps.map .str),.bool sm]))) (mTail (mBody (mHead l68)))) (st68 sh K s e T x y5 y6) KK []
theorem s68 (Ψ:Psi) (sh:Sto) (ks:List MV) (s:MV) (e:Tx):runT L1.T Ψ 68 [.lst ks,s,.str e] sh [] = loopF Ψ l68 kFin 4 ks (st68 sh (.lst ks) s e [45,45,45] .unset .unset .unset) []:=by kernel_rfl
theorem z68 (Ψ:Psi) (sh:Sto) (ks s:MV) (e T:Tx) (y4 y5 y6:Cell):loopF Ψ l68 kFin 4 [] (st68 sh ks s e T y4 y5 y6) [] = .fin (.str T) sh:=by kernel_rfl
noncomputable def shP (p1 p2 p3:Tx):List (List Tx):=[[],[p1],[p1,p2],[p1,p2,p3]]
noncomputable def shB (p1 p2 p3:Tx):List (List Tx × Bool):=(shP p1 p2 p3).flatMap fun p=>[true,false].map fun b=>(p,b)
theorem shP_mem:∀ (ps:List Tx),ps.length ≤ 3 → ∃ p1 p2 p3,ps ∈ shP p1 p2 p3
  | [],_=>⟨[],[],[],.head _⟩
  | [p],_=>⟨p,[],[],.tail _ (.head _)⟩
  | [p,q],_=>⟨p,q,[],.tail _ (.tail _ (.head _))⟩
  | [p,q,r],_=>⟨p,q,r,.tail _ (.tail _ (.tail _ (.head _)))⟩
  | _ :: _ :: _ :: _ :: _,h=>absurd h (by simp)
theorem shB_mem {ps:List Tx} {p1 p2 p3:Tx} (h:ps ∈ shP p1 p2 p3) (b:Bool):(ps,b) ∈ shB p1 p2 p3:=List.mem_flatMap.mpr ⟨ps,h,by
    cases b
    · exact .tail _ (.head _)
    · exact .head _⟩
noncomputable def jn (ps:List Tx) (sm:Bool):List Tx:=bif sm then ps else [63] :: ps
noncomputable def jX (ps:List Tx) (sm:Bool):Tx:=joinX [32] (jn ps sm)
noncomputable def jl (ps:List Tx):Bool × Bool:=la ((ps.map List.length).sum + ps.length * 1)
noncomputable def d68 (e:Tx) (ps:List Tx) (sm:Bool):Tx:=(bif sm then e ++ jX ps sm else (e ++ jX ps sm) ++ e) ++ [58,32,118]
noncomputable def g68 (e T:Tx) (ps:List Tx) (sm:Bool):List (Bool × Bool):=jl (jn ps sm) :: la (e.length + (jX ps sm).length) :: ((bif sm then [la ((e ++ jX ps sm).length + 3)] else [la ((e ++ jX ps sm).length + e.length),la (((e ++ jX ps sm) ++ e).length + 3)]) ++ [la (T.length + (d68 e ps sm).length)])
theorem b68_eq (Ψ:Psi) (KK:Option MV → St → Ds → R) (sh:Sto) (K s:MV) (e T:Tx) (x y5 y6:Cell) (p1 p2 p3:Tx):(shB p1 p2 p3).map (fun p=>(csd (gl (bif p.2 then 5 else 7) (b68 Ψ KK sh K s e T x y5 y6 p.1 p.2)),pl (bif p.2 then 5 else 7) (b68 Ψ KK sh K s e T x y5 y6 p.1 p.2))) =
  (shB p1 p2 p3).map fun p=>(csd (g68 e T p.1 p.2),KK none (st68 sh K s e (T ++ d68 e p.1 p.2) x (.val (.lst (p.1.map .str))) (.val (.bool p.2))) []):=by kernel_rfl
theorem sum_le:∀ {l:List Nat} {b:Nat},(∀ x ∈ l,x ≤ b) → l.sum ≤ l.length * b
  | [],_,_=>Nat.zero_le _
  | x :: l,b,h=>by
    rw [List.sum_cons,List.length_cons,Nat.succ_mul]
    have:=sum_le fun y m=>h y (.tail _ m)
    have:=h x (.head _);omega
theorem joinX_le:∀ ps:List Tx,(joinX [32] ps).length ≤ (ps.map List.length).sum + ps.length
  | []=>Nat.zero_le _
  | [x]=>by show x.length ≤ x.length + 0 + 1;omega
  | x :: y :: r=>by
    have:=joinX_le (y :: r)
    show (x ++ [32] ++ joinX [32] (y :: r)).length ≤ x.length + ((y :: r).map List.length).sum + ((y :: r).length + 1)
    rw [List.length_append,List.length_append];simp only [List.length_singleton];omega
theorem jn_le {ps:List Tx} {sm:Bool} (h3:ps.length ≤ 3) (hp:∀ p ∈ ps,p.length ≤ 1000):((jn ps sm).map List.length).sum + (jn ps sm).length * 1 ≤ 5000:=by
  have h:((jn ps sm).map List.length).sum ≤ (jn ps sm).length * 1000:=by
    have:=sum_le (l:=(jn ps sm).map List.length) (b:=1000) fun x m=>by
      obtain ⟨p,m2,rfl⟩:=List.mem_map.mp m
      clear m
      cases sm with
      | true=>exact hp p m2
      | false=>
        rcases List.mem_cons.mp m2 with rfl | m2
        · decide
        · exact hp p m2
    rwa [List.length_map] at this
  have h4:(jn ps sm).length ≤ 4:=by cases sm <;> show _ ≤ 4 <;> simp only [jn,cond,List.length_cons] <;> omega
  omega
theorem jX_le {ps:List Tx} {sm:Bool} (h3:ps.length ≤ 3) (hp:∀ p ∈ ps,p.length ≤ 1000):(jX ps sm).length ≤ 5000:=Nat.le_trans (joinX_le _) (by have:=jn_le (sm:=sm) h3 hp;omega)
theorem la_ok {n:Nat} (h:n ≤ 1000000):(la n).1 = (la n).2:=leN_ok (Nat.le_trans h (by unfold lim;decide))
theorem d68_le {e:Tx} {ps:List Tx} {sm:Bool} (he:e.length ≤ 2) (h3:ps.length ≤ 3) (hp:∀ p ∈ ps,p.length ≤ 1000):(d68 e ps sm).length ≤ 6000:=by
  have:=jX_le (sm:=sm) h3 hp
  cases sm <;> simp only [d68,cond,List.length_append,List.length_cons,List.length_nil] <;> omega
theorem g68_ok {e T:Tx} {ps:List Tx} {sm:Bool} (he:e.length ≤ 2) (hT:T.length ≤ 100000) (h3:ps.length ≤ 3) (hp:∀ p ∈ ps,p.length ≤ 1000):csd (g68 e T ps sm) = true:=by
  have h1:=jX_le (sm:=sm) h3 hp
  have h2:=jn_le (sm:=sm) h3 hp
  have h4:=d68_le (sm:=sm) he h3 hp
  refine csd_of fun p m=>?_
  rcases List.mem_cons.mp m with rfl | m
  · exact la_ok (by omega)
  rcases List.mem_cons.mp m with rfl | m
  · exact la_ok (by omega)
  rcases List.mem_append.mp m with m | m
  · cases sm with
    | true=>rcases List.mem_singleton.mp m with rfl;exact la_ok (by rw [List.length_append];omega)
    | false=>
      rcases List.mem_cons.mp m with rfl | m
      · exact la_ok (by rw [List.length_append];omega)
      · rcases List.mem_singleton.mp m with rfl;exact la_ok (by rw [List.length_append,List.length_append];omega)
  · rcases List.mem_singleton.mp m with rfl;exact la_ok (by omega)
structure Kp where
  x:MV
  ps:List Tx
  sm:Bool
noncomputable def ptv (k:Kp):MV:=.tup [.lst (k.ps.map .str),.bool k.sm]
noncomputable def KpOk (k:Kp):Prop:=k.ps.length ≤ 3 ∧ ∀ p ∈ k.ps,p.length ≤ 1000
noncomputable def due68 (e T:Tx) (l:List Kp):Tx:=l.foldl (fun T k=>T ++ d68 e k.ps k.sm) T
theorem run68 {Ψ:Psi} {sh:Sto} {K s:MV} {e:Tx} (he:e.length ≤ 2):∀ (l:List Kp) (T:Tx) (y4 y5 y6:Cell),(∀ k ∈ l,KpOk k ∧ Ψ 66 [k.x,.bool false,s,.str e] sh = some (true,ptv k,sh)) → T.length + 10000 * l.length ≤ 100000 →
    Good (loopF Ψ l68 kFin 4 (l.map Kp.x) (st68 sh K s e T y4 y5 y6) []) (.str (due68 e T l)) sh
  | [],T,y4,y5,y6,_,_=>by
    rw [show List.map Kp.x [] = [] from rfl,z68];exact ⟨rfl,rfl⟩
  | k :: l,T,y4,y5,y6,h,hT=>by
    obtain ⟨⟨h3,hp⟩,hk⟩:=h k (.head _)
    obtain ⟨p1,p2,p3,hm⟩:=shP_mem k.ps h3
    rw [List.length_cons] at hT
    have hd:=d68_le (sm:=k.sm) he h3 hp
    rw [show List.map Kp.x (k :: l) = k.x :: l.map Kp.x from rfl,a68]
    refine cal_ok hk ?_
    refine good_pl' (map_at (b68_eq Ψ _ sh K s e T (.val k.x) y5 y6 p1 p2 p3) (shB_mem hm k.sm)) (g68_ok he (by omega) h3 hp) ?_
    exact run68 he l _ _ _ _ (fun k m=>h k (.tail _ m)) (by rw [List.length_append];show T.length + (d68 e k.ps k.sm).length + _ ≤ _;omega)
noncomputable def l69:MSs:=mTail L1.b__law_braces
noncomputable def st69 (sh:Sto) (xs:List MV) (S W:Int) (e T:Tx) (y5 y6 y7:Cell):St:=⟨sh,[.val (.lst xs),.val (.int S),.val (.int W),.val (.str e),.val (.str T),y5,y6,y7]⟩
noncomputable def xkL (x1 x2 x3 x4:MV):List ((List MV × Nat) × MV):=[(([x1],0),x1),(([x1,x2],0),x1),(([x1,x2],1),x2),(([x1,x2,x3],0),x1),(([x1,x2,x3],1),x2),(([x1,x2,x3],2),x3),(([x1,x2,x3,x4],0),x1),(([x1,x2,x3,x4],1),x2),(([x1,x2,x3,x4],2),x3),(([x1,x2,x3,x4],3),x4)]
noncomputable def lp69 (Ψ:Psi) (k:Option MV → St → Ds → R) (sh:Sto) (xs r:List MV) (j:Nat) (S W:Int) (e T:Tx) (y5 y6 y7:Cell) (ds:Ds):R:=loopF Ψ l69 k 5 (.int (Int.ofNat j) :: r) (st69 sh xs S W e T y5 y6 y7) ds
theorem a69 (Ψ:Psi) (k:Option MV → St → Ds → R) (sh:Sto) (x1 x2 x3 x4:MV) (r:List MV) (S W:Int) (e T:Tx) (y5 y6 y7:Cell) (n:Nat) (b:Bool) (ds:Ds) :
    (xkL x1 x2 x3 x4).map (fun p=>(csd (gl 1 (lp69 Ψ k sh p.1.1 r p.1.2 S W e T y5 y6 y7 ((n + 1,b) :: ds))),pl 1 (lp69 Ψ k sh p.1.1 r p.1.2 S W e T y5 y6 y7 ((n + 1,b) :: ds)))) =
    (xkL x1 x2 x3 x4).map fun p=>(csd [(mulOk 2 S,true)],cal Ψ 66 [p.2,.bool true,.int (2 * S),.str e] sh (fun v sh=>exsT L1.T Ψ (.cons (.asg [.tup [6,7]] (.k v)) (mTail (mBody (mHead l69)))) (st69 sh p.1.1 S W e T (.val (.int (Int.ofNat p.1.2))) y6 y7) (lpK Ψ l69 k 5 r)) ((n + 1,b) :: ds)):=by kernel_rfl
noncomputable def is67 (f:Nat):Bool:=Nat.beq f 67
noncomputable def cA (as:List MV):Int:=((nth as 0).bind fun t=>(nth as 1).bind fun e=>(asStr t).bind fun T=>(asStr e).map fun E=>Int.ofNat (lastX T E).length).getD 0
noncomputable def ans67:Nat → List MV → Sto → MV × Sto:=fun _ as sh=>(.int (cA as),sh)
noncomputable def P69:Psi:=twJ 8 isLM is67 ans67 noO 3
noncomputable def b69 (KK:Option MV → St → Ds → R) (sh:Sto) (xs:List MV) (S W:Int) (e T:Tx) (j:Nat) (y6 y7:Cell) (ps:List Tx) (sm:Bool) (ds:Ds):R:=exsT L1.T P69 (.cons (.asg [.tup [6,7]] (.k (.tup [.lst (ps.map .str),.bool sm]))) (mTail (mBody (mHead l69)))) (st69 sh xs S W e T (.val (.int (Int.ofNat j))) y6 y7) KK ds
noncomputable def sepW (w:Bool) (e:Tx) (S:Int):Tx:=bif w then e ++ repX [32] S.toNat else [32]
noncomputable def lat (j:Nat):Bool:=Nat.ble 1 j
noncomputable def u2 (j:Nat) (w1:Bool) (e:Tx) (S:Int) (T:Tx):Tx:=bif lat j then (T ++ [44]) ++ sepW w1 e S else T
noncomputable def u3 (sm:Bool) (ps:List Tx) (T:Tx):Tx:=bif sm then T ++ (jX ps true ++ [58,32,118]) else T ++ jX ps false
noncomputable def u4 (sm w2:Bool) (e:Tx) (S:Int) (T:Tx):Tx:=bif sm then T else T ++ (sepW w2 e S ++ [58,32,118])
noncomputable def g67 (w:Bool) (W:Int) (e T:Tx) (sh:Sto):List (Bool × Bool):=[(jd 8 67 [.str T,.str e] sh (.int (Int.ofNat (lastX T e).length),sh),true),(ltI W (Int.ofNat (lastX T e).length),w)]
noncomputable def g69a (j:Nat) (w1:Bool) (S W:Int) (e T:Tx) (sh:Sto):List (Bool × Bool):=bif lat j then la (T.length + 1) :: (g67 w1 W e (T ++ [44]) sh ++ ((bif w1 then [(mulA S,true),la (e.length + (repX [32] S.toNat).length)] else []) ++ [la ((T ++ [44]).length + (sepW w1 e S).length)])) else []
noncomputable def g69b (sm w2:Bool) (S W:Int) (e T:Tx) (ps:List Tx) (sh:Sto):List (Bool × Bool):=bif sm then [jl ps,la ((jX ps true).length + 3),la (T.length + (jX ps true ++ [58,32,118]).length)]
  else jl (jn ps false) :: la (T.length + (jX ps false).length) :: (g67 w2 W e (T ++ jX ps false) sh ++ ((bif w2 then [(mulA S,true),la (e.length + (repX [32] S.toNat).length),la ((e ++ repX [32] S.toNat).length + 3)] else []) ++ [la ((T ++ jX ps false).length + (sepW w2 e S ++ [58,32,118]).length)]))
noncomputable def ds69 (j:Nat) (sm w1 w2:Bool):Ds:=bif lat j then (1,w1) :: (bif sm then [(0,true)] else [(1,w2)]) else bif sm then [(1,true)] else [(2,w2)]
noncomputable def n69 (j:Nat) (sm w1 w2:Bool):Nat:=(bif lat j then bif w1 then 6 else 4 else 0) + (bif sm then 5 else bif w2 then 10 else 8)
noncomputable def B2:List (Bool × Bool):=[(true,true),(true,false),(false,true),(false,false)]
theorem B2_mem:∀ a b,(a,b) ∈ B2:=bws_mem
noncomputable def L69 (p1 p2 p3:Tx):List (Nat × ((List Tx × Bool) × (Bool × Bool))):=[0,1,2,3].flatMap fun j=>(shB p1 p2 p3).flatMap fun p=>B2.map fun w=>(j,(p,w))
theorem b69_eq (KK:Option MV → St → Ds → R) (sh:Sto) (xs:List MV) (S W:Int) (e T:Tx) (y6 y7:Cell) (p1 p2 p3:Tx) (ds:Ds):(L69 p1 p2 p3).map (fun p=>(csd (gl (n69 p.1 p.2.1.2 p.2.2.1 p.2.2.2) (b69 KK sh xs S W e T p.1 y6 y7 p.2.1.1 p.2.1.2 (ds69 p.1 p.2.1.2 p.2.2.1 p.2.2.2 ++ ds))),pl (n69 p.1 p.2.1.2 p.2.2.1 p.2.2.2) (b69 KK sh xs S W e T p.1 y6 y7 p.2.1.1 p.2.1.2 (ds69 p.1 p.2.1.2 p.2.2.1 p.2.2.2 ++ ds)))) =
  (L69 p1 p2 p3).map fun p=>(csd (g69a p.1 p.2.2.1 S W e T sh ++ g69b p.2.1.2 p.2.2.2 S W e (u2 p.1 p.2.2.1 e S T) p.2.1.1 sh),KK none (st69 sh xs S W e (u4 p.2.1.2 p.2.2.2 e S (u3 p.2.1.2 p.2.1.1 (u2 p.1 p.2.2.1 e S T))) (.val (.int (Int.ofNat p.1))) (.val (.lst (p.2.1.1.map .str))) (.val (.bool p.2.1.2))) ds):=by kernel_rfl
noncomputable def colT (T e:Tx):Int:=Int.ofNat (lastX T e).length
noncomputable def w1T (W:Int) (e T:Tx):Bool:=ltI W (colT (T ++ [44]) e)
noncomputable def t3T (S W:Int) (e:Tx) (j:Nat) (T:Tx) (k:Kp):Tx:=u3 k.sm k.ps (u2 j (w1T W e T) e S T)
noncomputable def w2T (S W:Int) (e:Tx) (j:Nat) (T:Tx) (k:Kp):Bool:=ltI W (colT (t3T S W e j T k) e)
noncomputable def nx69 (S W:Int) (e:Tx) (j:Nat) (T:Tx) (k:Kp):Tx:=u4 k.sm (w2T S W e j T k) e S (t3T S W e j T k)
theorem last_some {T e:Tx} (he:e ∈ eL):(splitX T e).getLast? = some (lastX T e):=by
  have hw:1 ≤ e.length:=by
    rcases List.mem_cons.mp he with rfl | he
    · decide
    rcases List.mem_cons.mp he with rfl | he
    · decide
    rcases List.mem_cons.mp he with rfl | he
    · decide
    exact (List.not_mem_nil he).elim
  obtain ⟨f,h,_⟩:=split_last ⟨T.toArray⟩ ⟨e.toArray⟩ (by show 1 ≤ (e.toArray).size;rw [List.size_toArray];exact hw)
  have:∃ Q,(splitX T e).getLast? = some Q:=⟨_,by unfold splitX;rw [List.getLast?_map,h];rfl⟩
  obtain ⟨Q,h⟩:=this
  unfold lastX;rw [h];rfl
theorem eL_le {e:Tx} (he:e ∈ eL):e.length ≤ 2:=by
  rcases List.mem_cons.mp he with rfl | he
  · decide
  rcases List.mem_cons.mp he with rfl | he
  · decide
  rcases List.mem_cons.mp he with rfl | he
  · decide
  exact (List.not_mem_nil he).elim
theorem repX_len (c:Nat):∀ n,(repX [c] n).length = n
  | 0=>rfl
  | n + 1=>by show ([c] ++ repX [c] n).length = _;rw [List.length_append,repX_len c n,List.length_singleton];omega
theorem mulA_ok {m:Nat} (h:m ≤ 1000):mulA (Int.ofNat m) = true:=by
  show (leN (1 * m) lim && leN m lim) = true
  rw [leN_ok (by unfold lim;omega),leN_ok (by unfold lim;omega)];rfl
theorem sepW_le {w:Bool} {e:Tx} {m:Nat} (he:e.length ≤ 2) (hm:m ≤ 20):(sepW w e (Int.ofNat m)).length ≤ 22:=by
  cases w
  · show 1 ≤ 22;decide
  · show (e ++ repX [32] m).length ≤ 22
    rw [List.length_append,repX_len];omega
theorem g67_ok {w:Bool} {W:Int} {e T:Tx} {sh:Sto} (he:e ∈ eL) (hT:T.length < 1000000) (hw:ltI W (colT T e) = w):∀ p ∈ g67 w W e T sh,p.1 = p.2:=fun p m=>by
  rcases List.mem_cons.mp m with rfl | m
  · exact jd_of (J67 he (last_some he) hT)
  · rcases List.mem_singleton.mp m with rfl;exact hw
theorem u2_le {j:Nat} {w:Bool} {e T:Tx} {m:Nat} (he:e.length ≤ 2) (hm:m ≤ 20):(u2 j w e (Int.ofNat m) T).length ≤ T.length + 30:=by
  have:=sepW_le (w:=w) he hm
  unfold u2
  cases lat j
  · show T.length ≤ _;omega
  · show ((T ++ [44]) ++ sepW w e (Int.ofNat m)).length ≤ _
    rw [List.length_append,List.length_append,List.length_singleton];omega
theorem g69a_ok {j:Nat} {W:Int} {e T:Tx} {m:Nat} {sh:Sto} (he:e ∈ eL) (hT:T.length ≤ 100000) (hm:m ≤ 20):∀ p ∈ g69a j (w1T W e T) (Int.ofNat m) W e T sh,p.1 = p.2:=fun p h=>by
  have h2:=eL_le he
  have h3:=sepW_le (w:=w1T W e T) h2 hm
  unfold g69a at h
  generalize lat j = l at h
  cases l with
  | false=>exact (List.not_mem_nil h).elim
  | true=>
    rcases List.mem_cons.mp h with rfl | h
    · exact la_ok (by omega)
    rcases List.mem_append.mp h with h | h
    · exact g67_ok he (by rw [List.length_append,List.length_singleton];omega) rfl p h
    rcases List.mem_append.mp h with h | h
    · generalize w1T W e T = w at h
      cases w with
      | false=>exact (List.not_mem_nil h).elim
      | true=>
        rcases List.mem_cons.mp h with rfl | h
        · exact mulA_ok (by omega)
        rcases List.mem_singleton.mp h with rfl
        exact la_ok (by show e.length + (repX [32] m).length ≤ _;rw [repX_len];omega)
    · rcases List.mem_singleton.mp h with rfl
      exact la_ok (by rw [List.length_append,List.length_singleton];omega)
theorem g69b_ok {sm:Bool} {W:Int} {e T:Tx} {m:Nat} {ps:List Tx} {sh:Sto} (he:e ∈ eL) (hT:T.length ≤ 200000) (hm:m ≤ 20) (h3:ps.length ≤ 3) (hp:∀ p ∈ ps,p.length ≤ 1000):∀ p ∈ g69b sm (ltI W (colT (u3 sm ps T) e)) (Int.ofNat m) W e T ps sh,p.1 = p.2:=fun p h=>by
  have h2:=eL_le he
  have j1:=jX_le (sm:=sm) h3 hp
  have j2:=jn_le (sm:=sm) h3 hp
  cases sm with
  | true=>
    rcases List.mem_cons.mp h with rfl | h
    · exact la_ok (by have:(ps.map List.length).sum + ps.length * 1 ≤ 5000:=j2;omega)
    rcases List.mem_cons.mp h with rfl | h
    · exact la_ok (by omega)
    rcases List.mem_singleton.mp h with rfl
    exact la_ok (by rw [List.length_append];simp only [List.length_cons,List.length_nil];omega)
  | false=>
    have hw:ltI W (colT (u3 false ps T) e) = ltI W (colT (T ++ jX ps false) e):=rfl
    rw [hw] at h
    generalize hq:ltI W (colT (T ++ jX ps false) e) = w at h
    have h4:=sepW_le (w:=w) h2 hm
    rcases List.mem_cons.mp h with rfl | h
    · exact la_ok (by omega)
    rcases List.mem_cons.mp h with rfl | h
    · exact la_ok (by omega)
    rcases List.mem_append.mp h with h | h
    · exact g67_ok he (by rw [List.length_append];omega) hq p h
    rcases List.mem_append.mp h with h | h
    · cases w with
      | false=>exact (List.not_mem_nil h).elim
      | true=>
        rcases List.mem_cons.mp h with rfl | h
        · exact mulA_ok (by omega)
        rcases List.mem_cons.mp h with rfl | h
        · exact la_ok (by show e.length + (repX [32] m).length ≤ _;rw [repX_len];omega)
        rcases List.mem_singleton.mp h with rfl
        exact la_ok (by show (e ++ repX [32] m).length + 3 ≤ _;rw [List.length_append,repX_len];omega)
    · rcases List.mem_singleton.mp h with rfl
      exact la_ok (by rw [List.length_append,List.length_append];simp only [List.length_cons,List.length_nil];omega)
theorem L69_mem {p1 p2 p3:Tx} {ps:List Tx} (h:ps ∈ shP p1 p2 p3) {j:Nat} (hj:j < 4) (sm w1 w2:Bool):(j,((ps,sm),(w1,w2))) ∈ L69 p1 p2 p3:=
  List.mem_flatMap.mpr ⟨j,by (rcases j with _ | _ | _ | _ | j);exact .head _;exact .tail _ (.head _);exact .tail _ (.tail _ (.head _));exact .tail _ (.tail _ (.tail _ (.head _)));omega,
    List.mem_flatMap.mpr ⟨(ps,sm),shB_mem h sm,List.mem_map.mpr ⟨(w1,w2),B2_mem w1 w2,rfl⟩⟩⟩
theorem ds69_cons (j:Nat) (sm w1 w2:Bool):∃ n b d,ds69 j sm w1 w2 = (n + 1,b) :: d:=by
  unfold ds69
  cases lat j <;> cases sm <;> exact ⟨_,_,_,rfl⟩
theorem mul2_ok {m:Nat} (h:m ≤ 1000):mulOk 2 (Int.ofNat m) = true:=Bool.and_eq_true_iff.mpr ⟨Nat.ble_eq.mpr (by omega),Nat.ble_eq.mpr (by show m ≤ _;omega)⟩
theorem it69 {sh:Sto} {xs r:List MV} {x1 x2 x3 x4:MV} {j m:Nat} {k:Kp} (hx:((xs,j),k.x) ∈ xkL x1 x2 x3 x4) (hj:j < 4) (ok:KpOk k) {e T:Tx} {W:Int} (he:e ∈ eL) (hm:m ≤ 9) (hT:T.length ≤ 100000)
    (hk:P69 66 [k.x,.bool true,.int (2 * Int.ofNat m),.str e] sh = some (true,ptv k,sh)) {y5 y6 y7:Cell} {ds:Ds} {v:MV} {sh':Sto}
    (h:Good (loopF P69 l69 kFin 5 r (st69 sh xs (Int.ofNat m) W e (nx69 (Int.ofNat m) W e j T k) (.val (.int (Int.ofNat j))) (.val (.lst (k.ps.map .str))) (.val (.bool k.sm))) ds) v sh') :
    Good (loopF P69 l69 kFin 5 (.int (Int.ofNat j) :: r) (st69 sh xs (Int.ofNat m) W e T y5 y6 y7) (ds69 j k.sm (w1T W e T) (w2T (Int.ofNat m) W e j T k) ++ ds)) v sh':=by
  obtain ⟨n,b,d,hd⟩:=ds69_cons j k.sm (w1T W e T) (w2T (Int.ofNat m) W e j T k)
  obtain ⟨p1,p2,p3,hp⟩:=shP_mem k.ps ok.1
  have hh:=map_at (b69_eq (lpK P69 l69 kFin 5 r) sh xs (Int.ofNat m) W e T y6 y7 p1 p2 p3 ds) (L69_mem hp hj k.sm (w1T W e T) (w2T (Int.ofNat m) W e j T k))
  rw [show ds69 j k.sm (w1T W e T) (w2T (Int.ofNat m) W e j T k) ++ ds = (n + 1,b) :: (d ++ ds) by rw [hd];rfl]
  have A:(csd (gl 1 (lp69 P69 kFin sh xs r j (Int.ofNat m) W e T y5 y6 y7 ((n + 1,b) :: (d ++ ds)))),pl 1 (lp69 P69 kFin sh xs r j (Int.ofNat m) W e T y5 y6 y7 ((n + 1,b) :: (d ++ ds)))) = (csd [(mulOk 2 (Int.ofNat m),true)],cal P69 66 [k.x,.bool true,.int (2 * Int.ofNat m),.str e] sh (fun v sh=>exsT L1.T P69 (.cons (.asg [.tup [6,7]] (.k v)) (mTail (mBody (mHead l69)))) (st69 sh xs (Int.ofNat m) W e T (.val (.int (Int.ofNat j))) y6 y7) (lpK P69 l69 kFin 5 r)) ((n + 1,b) :: (d ++ ds))):=
    have A0:=map_at (a69 P69 kFin sh x1 x2 x3 x4 r (Int.ofNat m) W e T y5 y6 y7 n b (d ++ ds)) hx
    A0
  refine good_pl' (r:=lp69 P69 kFin sh xs r j (Int.ofNat m) W e T y5 y6 y7 ((n + 1,b) :: (d ++ ds))) A (csd_of fun p m'=>?_) ?_
  · rcases List.mem_singleton.mp m' with rfl
    exact mul2_ok (Nat.le_trans hm (by decide))
  · refine cal_ok hk ?_
    rw [show (n + 1,b) :: (d ++ ds) = ds69 j k.sm (w1T W e T) (w2T (Int.ofNat m) W e j T k) ++ ds by rw [hd];rfl]
    refine good_pl' (r:=b69 (lpK P69 l69 kFin 5 r) sh xs (Int.ofNat m) W e T j y6 y7 k.ps k.sm (ds69 j k.sm (w1T W e T) (w2T (Int.ofNat m) W e j T k) ++ ds)) hh (csd_of fun p m'=>?_) h
    rcases List.mem_append.mp m' with m' | m'
    · exact g69a_ok he hT (by omega) p m'
    · exact g69b_ok he (Nat.le_trans (u2_le (eL_le he) (by omega)) (by omega)) (by omega) ok.1 ok.2 p m'
noncomputable def xsL (x1 x2 x3 x4:MV):List (List MV):=[[x1],[x1,x2],[x1,x2,x3],[x1,x2,x3,x4]]
theorem s69 (sh:Sto) (x1 x2 x3 x4:MV) (S W:Int) (e:Tx) (ds:Ds):(xsL x1 x2 x3 x4).map (fun xs=>(csd (gl 2 (runT L1.T P69 69 [.lst xs,.int S,.int W,.str e] sh ds)),pl 2 (runT L1.T P69 69 [.lst xs,.int S,.int W,.str e] sh ds))) =
  (xsL x1 x2 x3 x4).map fun xs=>(true,loopF P69 l69 kFin 5 (intsTo xs.length) (st69 sh xs S W e [45,45,45,32,123] .unset .unset .unset) ds):=by kernel_rfl
theorem z69 (sh:Sto) (xs:List MV) (S W:Int) (e T:Tx) (y5 y6 y7:Cell):(csd (gl 1 (loopF P69 l69 kFin 5 [] (st69 sh xs S W e T y5 y6 y7) [])),pl 1 (loopF P69 l69 kFin 5 [] (st69 sh xs S W e T y5 y6 y7) [])) = (csd [la (T.length + 1)],.fin (.str (T ++ [125])) sh):=by kernel_rfl
theorem p69_66 (as:List MV) (sh:Sto):P69 66 as sh = toOpt (runT L1.T (twJ 8 isLM is67 ans67 noO 2) 66 as sh []):=by kernel_rfl
noncomputable def P68:Psi:=twJ 8 isLM noI noA noO 3
theorem p68_66 (as:List MV) (sh:Sto):P68 66 as sh = toOpt (runT L1.T (twJ 8 isLM noI noA noO 2) 66 as sh []):=by kernel_rfl
theorem J68 {sh:Sto} {l:List Kp} {s:MV} {e:Tx} (he:e.length ≤ 2) (hl:l.length ≤ 4) (h:∀ k ∈ l,KpOk k ∧ P68 66 [k.x,.bool false,s,.str e] sh = some (true,ptv k,sh)):J 14 68 [.lst (l.map Kp.x),s,.str e] sh (.str (due68 e [45,45,45] l),sh):=
  J_good (n:=8) (k:=3) (lf:=isLM) (is:=noI) (a:=noA) (O:=noO) (Nat.le_refl _) (ds:=[]) (by
    show Good (runT L1.T P68 68 [.lst (l.map Kp.x),s,.str e] sh []) _ _
    rw [s68];exact run68 he l _ _ _ _ h (by show 3 + _ ≤ _;omega))
theorem u3_le {sm:Bool} {ps:List Tx} {T:Tx} (h3:ps.length ≤ 3) (hp:∀ p ∈ ps,p.length ≤ 1000):(u3 sm ps T).length ≤ T.length + 5003:=by
  have:=jX_le (sm:=sm) h3 hp
  cases sm <;> simp only [u3,cond,List.length_append,List.length_cons,List.length_nil] <;> omega
theorem u4_le {sm w:Bool} {e T:Tx} {m:Nat} (he:e.length ≤ 2) (hm:m ≤ 20):(u4 sm w e (Int.ofNat m) T).length ≤ T.length + 30:=by
  have:=sepW_le (w:=w) he hm
  cases sm <;> simp only [u4,cond,List.length_append,List.length_cons,List.length_nil] <;> omega
theorem nx69_le {m j:Nat} {W:Int} {e T:Tx} {k:Kp} (ok:KpOk k) (he:e.length ≤ 2) (hm:m ≤ 20):(nx69 (Int.ofNat m) W e j T k).length ≤ T.length + 6000:=by
  have a:=u2_le (j:=j) (w:=w1T W e T) (T:=T) he hm
  have b:=u3_le (sm:=k.sm) (T:=u2 j (w1T W e T) e (Int.ofNat m) T) ok.1 ok.2
  have c:=u4_le (sm:=k.sm) (w:=w2T (Int.ofNat m) W e j T k) (T:=t3T (Int.ofNat m) W e j T k) he hm
  have b:(t3T (Int.ofNat m) W e j T k).length ≤ _:=b
  show (u4 _ _ _ _ _).length ≤ _
  omega
noncomputable def due69 (S W:Int) (e:Tx) (l:List Kp):Nat → Tx → Tx:=List.rec (motive:=fun _=>Nat → Tx → Tx) (fun _ T=>T) (fun k _ ih j T=>ih (j + 1) (nx69 S W e j T k)) l
noncomputable def dd69 (S W:Int) (e:Tx) (l:List Kp):Nat → Tx → Ds:=List.rec (motive:=fun _=>Nat → Tx → Ds) (fun _ _=>[]) (fun k _ ih j T=>ds69 j k.sm (w1T W e T) (w2T S W e j T k) ++ ih (j + 1) (nx69 S W e j T k)) l
theorem run69 {sh:Sto} {xs:List MV} {x1 x2 x3 x4:MV} {m:Nat} {e:Tx} {W:Int} (he:e ∈ eL) (hm:m ≤ 9):∀ (l:List Kp) (j:Nat) (T:Tx) (y5 y6 y7:Cell),j + l.length ≤ 4 → T.length + 10000 * l.length ≤ 90000 →
    (∀ k ∈ l,KpOk k ∧ P69 66 [k.x,.bool true,.int (2 * Int.ofNat m),.str e] sh = some (true,ptv k,sh)) → (∀ i k,l[i]? = some k → ((xs,j + i),k.x) ∈ xkL x1 x2 x3 x4) →
    Good (loopF P69 l69 kFin 5 ((List.range' j l.length).map fun i=>.int (Int.ofNat i)) (st69 sh xs (Int.ofNat m) W e T y5 y6 y7) (dd69 (Int.ofNat m) W e l j T)) (.str (due69 (Int.ofNat m) W e l j T ++ [125])) sh
  | [],j,T,y5,y6,y7,_,hT,_,_=>good_pl' (z69 sh xs (Int.ofNat m) W e T y5 y6 y7) (csd_of fun p h=>by
      rcases List.mem_singleton.mp h with rfl;exact la_ok (by omega)) ⟨rfl,rfl⟩
  | k :: l,j,T,y5,y6,y7,hj,hT,h,hx=>by
    rw [List.length_cons] at hj hT
    obtain ⟨ok,hk⟩:=h k (.head _)
    have hn:=nx69_le (j:=j) (W:=W) (T:=T) ok (eL_le he) (Nat.le_trans hm (by decide))
    have ih:=run69 (W:=W) he hm l (j + 1) (nx69 (Int.ofNat m) W e j T k) (.val (.int (Int.ofNat j))) (.val (.lst (k.ps.map .str))) (.val (.bool k.sm)) (by omega) (by omega) (fun k m=>h k (.tail _ m)) (fun i k' hi=>by
      have:=hx (i + 1) k' hi
      rwa [show j + (i + 1) = j + 1 + i by omega] at this)
    exact it69 (hx 0 k rfl) (by omega) ok he hm (by omega) hk ih
theorem key69 {sh:Sto} {l:List Kp} {m:Nat} {e:Tx} {W:Int} (he:e ∈ eL) (hm:m ≤ 9) (hl:l.length ≤ 4) (h:∀ k ∈ l,KpOk k ∧ P69 66 [k.x,.bool true,.int (2 * Int.ofNat m),.str e] sh = some (true,ptv k,sh)) {x1 x2 x3 x4:MV} (hx:l.map Kp.x ∈ xsL x1 x2 x3 x4) (hi:∀ i k,l[i]? = some k → ((l.map Kp.x,0 + i),k.x) ∈ xkL x1 x2 x3 x4) (hr:intsTo (l.map Kp.x).length = (List.range' 0 l.length).map fun i=>.int (Int.ofNat i)) :
    J 14 69 [.lst (l.map Kp.x),.int (Int.ofNat m),.int W,.str e] sh (.str (due69 (Int.ofNat m) W e l 0 [45,45,45,32,123] ++ [125]),sh):=
  J_good (n:=8) (k:=3) (lf:=isLM) (is:=is67) (a:=ans67) (O:=noO) (Nat.le_refl _) (ds:=dd69 (Int.ofNat m) W e l 0 [45,45,45,32,123]) (by
    have A:=map_at (s69 sh x1 x2 x3 x4 (Int.ofNat m) W e (dd69 (Int.ofNat m) W e l 0 [45,45,45,32,123])) hx
    refine good_pl 2 _ (congrArg Prod.fst A) ?_
    rw [show pl 2 _ = _ from congrArg Prod.snd A,hr]
    exact run69 he hm l 0 _ _ _ _ (by omega) (by show 5 + _ ≤ _;omega) h hi)
theorem J69 {sh:Sto} {m:Nat} {e:Tx} {W:Int} (he:e ∈ eL) (hm:m ≤ 9):∀ (l:List Kp),l ≠ [] → l.length ≤ 4 → (∀ k ∈ l,KpOk k ∧ P69 66 [k.x,.bool true,.int (2 * Int.ofNat m),.str e] sh = some (true,ptv k,sh)) →
    J 14 69 [.lst (l.map Kp.x),.int (Int.ofNat m),.int W,.str e] sh (.str (due69 (Int.ofNat m) W e l 0 [45,45,45,32,123] ++ [125]),sh)
  | [],h0,_,_=>absurd rfl h0
  | [a],_,hl,h=>key69 (x1:=a.x) (x2:=a.x) (x3:=a.x) (x4:=a.x) he hm hl h (.head _) (fun i k hk=>by
      rcases i with _ | i
      · obtain rfl:=Option.some.inj hk;exact .head _
      · exact noS hk) rfl
  | [a,b],_,hl,h=>key69 (x1:=a.x) (x2:=b.x) (x3:=a.x) (x4:=a.x) he hm hl h (.tail _ (.head _)) (fun i k hk=>by
      rcases i with _ | _ | i
      · obtain rfl:=Option.some.inj hk;exact .tail _ (.head _)
      · obtain rfl:=Option.some.inj hk;exact .tail _ (.tail _ (.head _))
      · exact noS hk) rfl
  | [a,b,c],_,hl,h=>key69 (x1:=a.x) (x2:=b.x) (x3:=c.x) (x4:=a.x) he hm hl h (.tail _ (.tail _ (.head _))) (fun i k hk=>by
      rcases i with _ | _ | _ | i
      · obtain rfl:=Option.some.inj hk;exact .tail _ (.tail _ (.tail _ (.head _)))
      · obtain rfl:=Option.some.inj hk;exact .tail _ (.tail _ (.tail _ (.tail _ (.head _))))
      · obtain rfl:=Option.some.inj hk;exact .tail _ (.tail _ (.tail _ (.tail _ (.tail _ (.head _)))))
      · exact noS hk) rfl
  | [a,b,c,d],_,hl,h=>key69 (x1:=a.x) (x2:=b.x) (x3:=c.x) (x4:=d.x) he hm hl h (.tail _ (.tail _ (.tail _ (.head _)))) (fun i k hk=>by
      rcases i with _ | _ | _ | _ | i
      · obtain rfl:=Option.some.inj hk;exact .tail _ (.tail _ (.tail _ (.tail _ (.tail _ (.tail _ (.head _))))))
      · obtain rfl:=Option.some.inj hk;exact .tail _ (.tail _ (.tail _ (.tail _ (.tail _ (.tail _ (.tail _ (.head _)))))))
      · obtain rfl:=Option.some.inj hk;exact .tail _ (.tail _ (.tail _ (.tail _ (.tail _ (.tail _ (.tail _ (.tail _ (.head _))))))))
      · obtain rfl:=Option.some.inj hk;exact .tail _ (.tail _ (.tail _ (.tail _ (.tail _ (.tail _ (.tail _ (.tail _ (.tail _ (.head _)))))))))
      · exact noS hk) rfl
  | _ :: _ :: _ :: _ :: _ :: _,_,hl,_=>absurd hl (by simp)
noncomputable def lw (n:Nat):MSs:=Nat.rec (motive:=fun _=>MSs) L1.b__law (fun _ l=>mTail l) n
theorem lw_cons:(List.range 17).map lw = (List.range 17).map fun i=>.cons (mHead (lw i)) (lw (i + 1)):=by kernel_rfl
theorem lwc {i:Nat} (h:i < 17):lw i = .cons (mHead (lw i)) (lw (i + 1)):=map_at lw_cons (List.mem_range.mpr h)
noncomputable def isLaw (f:Nat):Bool:=Nat.beq f 9 || (Nat.beq f 62 || (Nat.beq f 64 || (Nat.beq f 65 || (Nat.beq f 68 || Nat.beq f 69))))
noncomputable def aLaw (c:Sto → Sto) (due txt:Tx) (ko:List MV → MV) (eo:MV → List MV):Nat → List MV → Sto → MV × Sto:=fun f as sh=>bif Nat.beq f 9 then (.none,c sh) else bif Nat.beq f 64 then (ko as,sh) else bif Nat.beq f 65 then (.lst (eo ((nth as 0).getD .none)),sh) else bif Nat.beq f 62 then (.str txt,sh) else (.str due,sh)
section
variable (N:Nat) (c:Sto → Sto) (due txt:Tx) (ko:List MV → MV) (eo:MV → List MV)
noncomputable def PL:Psi:=twJ N isLM isLaw (aLaw c due txt ko eo) noO 5
end
structure Lc where
  head:Cell
  flow:Cell
  ti:Cell
  te:Cell
  tw:Cell
  step:Cell
  limit:Cell
  end_:Cell
  keys:Cell
  k:Cell
  part:Cell
  row:Cell
  key:Cell
  em:Cell
  ev:Cell
  due:Cell
noncomputable def stL (sh:Sto) (xs:List Int) (l:Lc):St:=⟨sh,[.val (.lst (xs.map .int)),l.head,l.flow,l.ti,l.te,l.tw,l.step,l.limit,l.end_,l.keys,l.k,l.part,l.row,l.key,l.em,l.ev,l.due]⟩
noncomputable def ex1 (Ψ:Psi) (i:Nat) (rest:MSs) (KK:Option MV → St → Ds → R) (st:St) (ds:Ds):R:=exsT L1.T Ψ (.cons (mHead (lw i)) rest) st KK ds
noncomputable def md (x:Int):Int:=Int.fmod x 5040
noncomputable def scr (f:Nat → Int) (n:Nat):List Int:=List.rec (motive:=fun _=>List Int) [] (fun i _ ih=>f i :: ih) (List.range n)
noncomputable def hdL (f:Nat → Int) (n:Nat):List Int:=(bif Nat.beq n 0 then [] else bif Nat.beq n 1 then [md (f 0)] else [md (f 0),md (f 1)]) ++ [0,0]
noncomputable def s64L:List Nat:=List.range 64
theorem s0 (Ψ:Psi) (rest:MSs) (KK:Option MV → St → Ds → R) (sh:Sto) (f:Nat → Int) (l:Lc) (ds:Ds):s64L.map (fun n=>(csd (gl 2 (ex1 Ψ 0 rest KK (stL sh (scr f n) l) ds)),pl 2 (ex1 Ψ 0 rest KK (stL sh (scr f n) l) ds))) =
  mp (fun n=>(true,exsT L1.T Ψ rest (stL sh (scr f n) { l with head:=.val (.lst ((hdL f n).map .int)) }) KK ds)) s64L:=by kernel_rfl
noncomputable def hL (h0 h1:Int):List (List Int):=[[h0,h1],[h0,h1,0],[h0,h1,0,0]]
noncomputable def tiL:List MV:=[.none,.int 4,.int 2,.int 9,.int 1,.int 3,.int 10,.int 0]
noncomputable def teL:List MV:=[.none,.str [13,10],.str [13],.str [10],.str [133]]
noncomputable def twL:List MV:=[.none,.int 9,.int 20,.int 5,.int 12,.int 30,.int 120,.int 0]
noncomputable def at0 (l:List MV) (i:Nat):MV:=(nth l i).getD .none
noncomputable def pr {α β:Type} (l:List α) (m:List β):List (α × β):=l.flatMap fun a=>m.map fun b=>(a,b)
theorem pr_mem {α β:Type} {l:List α} {m:List β} {a:α} {b:β} (h1:a ∈ l) (h2:b ∈ m):(a,b) ∈ pr l m:=List.mem_flatMap.mpr ⟨a,h1,List.mem_map.mpr ⟨b,h2,rfl⟩⟩
section
variable (Ψ:Psi) (rest:MSs) (KK:Option MV → St → Ds → R) (sh:Sto) (xs:List Int) (h0 h1:Int) (l:Lc) (ds:Ds)
noncomputable def wh (p:List Int):Lc:={ l with head:=.val (.lst (p.map .int)) }
theorem s1:(hL h0 h1).map (fun p=>(csd (gl 2 (ex1 Ψ 1 rest KK (stL sh xs (wh l p)) (ix 0 ++ ds))),pl 2 (ex1 Ψ 1 rest KK (stL sh xs (wh l p)) (ix 0 ++ ds)))) =
  mp (fun p=>(true,exsT L1.T Ψ rest (stL sh xs { wh l p with flow:=.val (.bool (eqI (Int.fmod h0 2) 1)) }) KK ds)) (hL h0 h1):=by kernel_rfl
theorem s2:(List.range 8).map (fun i=>(hL h0 h1).map fun p=>(csd (gl 4 (ex1 Ψ 2 rest KK (stL sh xs (wh l p)) (ix 0 ++ (ix i ++ ds)))),pl 4 (ex1 Ψ 2 rest KK (stL sh xs (wh l p)) (ix 0 ++ (ix i ++ ds))))) =
  mp (fun i=>mp (fun p=>(csd [(eqI (Int.fmod (Int.fdiv h0 2) 8) (Int.ofNat i),true)],exsT L1.T Ψ rest (stL sh xs { wh l p with ti:=.val (at0 tiL i) }) KK ds)) (hL h0 h1)) (List.range 8):=by kernel_rfl
theorem s3:(List.range 5).map (fun i=>(hL h0 h1).map fun p=>(csd (gl 3 (ex1 Ψ 3 rest KK (stL sh xs (wh l p)) (ix 1 ++ (ix i ++ ds)))),pl 3 (ex1 Ψ 3 rest KK (stL sh xs (wh l p)) (ix 1 ++ (ix i ++ ds))))) =
  mp (fun i=>mp (fun p=>(csd [(eqI (Int.fmod h1 5) (Int.ofNat i),true)],exsT L1.T Ψ rest (stL sh xs { wh l p with te:=.val (at0 teL i) }) KK ds)) (hL h0 h1)) (List.range 5):=by kernel_rfl
theorem s4:(List.range 8).map (fun i=>(hL h0 h1).map fun p=>(csd (gl 4 (ex1 Ψ 4 rest KK (stL sh xs (wh l p)) (ix 1 ++ (ix i ++ ds)))),pl 4 (ex1 Ψ 4 rest KK (stL sh xs (wh l p)) (ix 1 ++ (ix i ++ ds))))) =
  mp (fun i=>mp (fun p=>(csd [(eqI (Int.fmod (Int.fdiv h1 5) 8) (Int.ofNat i),true)],exsT L1.T Ψ rest (stL sh xs { wh l p with tw:=.val (at0 twL i) }) KK ds)) (hL h0 h1)) (List.range 8):=by kernel_rfl
noncomputable def mO (i:Nat):Nat:=(nth [2,4,2,9,2,3,2,2] i).getD 2
noncomputable def wO (i m:Nat):Int:=(nth [80,9,20,5,12,30,120,0] i).getD 80
noncomputable def WO (i m:Nat):Int:=bif ltI (2 * Int.ofNat m) (wO i m) then wO i m else 80
noncomputable def eO (i:Nat):Tx:=(nth [[10],[13,10],[13],[10],[10]] i).getD [10]
theorem s5:(List.range 8).map (fun i=>(csd (gl 0 (ex1 Ψ 5 rest KK (stL sh xs { l with ti:=.val (at0 tiL i) }) [])),pl 0 (ex1 Ψ 5 rest KK (stL sh xs { l with ti:=.val (at0 tiL i) }) []))) =
  mp (fun i=>(true,exsT L1.T Ψ rest (stL sh xs { l with ti:=.val (at0 tiL i),step:=.val (.int (Int.ofNat (mO i))) }) KK [])) (List.range 8):=by kernel_rfl
noncomputable def mL:List Nat:=[2,3,4,9]
theorem s7:(List.range 5).map (fun i=>(csd (gl 0 (ex1 Ψ 7 rest KK (stL sh xs { l with te:=.val (at0 teL i) }) [])),pl 0 (ex1 Ψ 7 rest KK (stL sh xs { l with te:=.val (at0 teL i) }) []))) =
  mp (fun i=>(true,exsT L1.T Ψ rest (stL sh xs { l with te:=.val (at0 teL i),end_:=.val (.str (eO i)) }) KK [])) (List.range 5):=by kernel_rfl
theorem s6:(pr (List.range 8) mL).map (fun p=>(csd (gl (bif Nat.beq p.1 0 then 0 else 1) (ex1 Ψ 6 rest KK (stL sh xs { l with tw:=.val (at0 twL p.1),step:=.val (.int (Int.ofNat p.2)) }) [])),pl (bif Nat.beq p.1 0 then 0 else 1) (ex1 Ψ 6 rest KK (stL sh xs { l with tw:=.val (at0 twL p.1),step:=.val (.int (Int.ofNat p.2)) }) []))) =
  mp (fun p=>(true,exsT L1.T Ψ rest (stL sh xs { l with tw:=.val (at0 twL p.1),step:=.val (.int (Int.ofNat p.2)),limit:=.val (.int (WO p.1 p.2)) }) KK [])) (pr (List.range 8) mL):=by kernel_rfl
end
noncomputable def tk (n:Nat):Nat:=1 + ((bif Nat.ble 6 n then 1 else 0) + ((bif Nat.ble 9 n then 1 else 0) + (bif Nat.ble 12 n then 1 else 0)))
noncomputable def nPt (n k:Nat):Nat:=bif Nat.ble n (2 + 3 * k) then 0 else bif Nat.beq n (3 + 3 * k) then 1 else bif Nat.beq n (4 + 3 * k) then 2 else 3
noncomputable def prt (f:Nat → Int) (n k:Nat):List Int:=(nth [[],[md (f (2 + 3 * k))],[md (f (2 + 3 * k)),md (f (3 + 3 * k))],[md (f (2 + 3 * k)),md (f (3 + 3 * k)),md (f (4 + 3 * k))]] (nPt n k)).getD []
noncomputable def pArg (f:Nat → Int) (n k:Nat):List MV:=[.lst ((prt f n k).map .int ++ [.int 0,.int 0,.int 0])]
noncomputable def kysL (ko:List MV → MV) (f:Nat → Int) (n:Nat):List MV:=mp (fun k=>ko (pArg f n k)) (List.range (tk n))
noncomputable def rS (em:List MV) (t:Option (Nat × List (Option MV))) (ss es is rs:Option (List MV)):Sto:=⟨some em,t,ss,es,is,rs⟩
section
variable (N:Nat) (c:Sto → Sto) (due txt:Tx) (ko:List MV → MV) (eo:MV → List MV) (rest:MSs) (KK:Option MV → St → Ds → R)
theorem s8 (Ψ:Psi) (sh:Sto) (xs:List Int) (l:Lc):ex1 Ψ 8 rest KK (stL sh xs l) [] = exsT L1.T Ψ rest (stL sh xs { l with keys:=.own [] }) KK []:=by kernel_rfl
theorem s9 (f:Nat → Int) (l:Lc):s64L.map (fun n=>(csd (gl (21 + 3 * tk n) (ex1 (PL N c due txt ko eo) 9 rest KK (stL sh0 (scr f n) { l with keys:=.own [] }) [])),pl (21 + 3 * tk n) (ex1 (PL N c due txt ko eo) 9 rest KK (stL sh0 (scr f n) { l with keys:=.own [] }) []))) =
  mp (fun n=>(csd (mp (fun k=>(jd N 64 (pArg f n k) sh0 (ko (pArg f n k),sh0),true)) (List.range (tk n))),exsT L1.T (PL N c due txt ko eo) rest (stL sh0 (scr f n) { l with keys:=.own (kysL ko f n),k:=.val (.int 3),part:=.val (.lst ((prt f n 3).map .int)) }) KK [])) s64L:=by kernel_rfl
theorem s10 (xs:List Int) (fl:Bool) (l:Lc):(csd (gl 3 (ex1 (PL N c due txt ko eo) 10 rest KK (stL sh0 xs { l with flow:=.val (.bool fl) }) [])),pl 3 (ex1 (PL N c due txt ko eo) 10 rest KK (stL sh0 xs { l with flow:=.val (.bool fl) }) [])) =
  (true,exsT L1.T (PL N c due txt ko eo) rest (stL sh0 xs { l with flow:=.val (.bool fl),row:=.own [eB,eD,eM fl] }) KK []):=by kernel_rfl
theorem s11a (xs:List Int) (ks:List MV) (l:Lc):exsT L1.T (PL N c due txt ko eo) (lw 11) (stL sh0 xs { l with keys:=.own ks }) KK [] = loopF (PL N c due txt ko eo) (lw 11) KK 13 ks (stL sh0 xs { l with keys:=.val (.lst ks) }) []:=by kernel_rfl
theorem s11z (Ψ:Psi) (st:St):loopF Ψ (lw 11) KK 13 [] st [] = exsT L1.T Ψ (lw 12) st KK []:=by kernel_rfl
theorem s11 (xs:List Int) (x:MV) (vs ks:List MV) (l:Lc):(csd (gl 4 (loopF (PL N c due txt ko eo) (lw 11) KK 13 (x :: ks) (stL sh0 xs { l with row:=.own vs }) [])),pl 4 (loopF (PL N c due txt ko eo) (lw 11) KK 13 (x :: ks) (stL sh0 xs { l with row:=.own vs }) [])) =
  (csd [(jd N 65 [x] sh0 (.lst (eo x),sh0),true),la ((eo x).length + 1)],onT (extendVar (stL sh0 xs { l with row:=.own vs,key:=.val x }) 12 (.lst (eo x ++ [eV]))) (fun st=>loopF (PL N c due txt ko eo) (lw 11) KK 13 ks st) []):=by kernel_rfl
theorem s12 (xs:List Int) (vs:List MV) (l:Lc):(csd (gl 4 (ex1 (PL N c due txt ko eo) 12 rest KK (stL sh0 xs { l with row:=.own vs }) [])),pl 4 (ex1 (PL N c due txt ko eo) 12 rest KK (stL sh0 xs { l with row:=.own vs }) [])) =
  (true,onT (extendVar (stL sh0 xs { l with row:=.own vs }) 12 (.lst [eME,eDe,eZ])) (fun st=>exsT L1.T (PL N c due txt ko eo) rest st KK) []):=by kernel_rfl
theorem ext12 (sh:Sto) (xs:List Int) (vs ws:List MV) (l:Lc) (h:leN (vs.length + ws.length) lim = true):extendVar (stL sh xs { l with row:=.own vs }) 12 (.lst ws) = some (stL sh xs { l with row:=.own (vs ++ ws) }):=by
  show chk (leN (vs.length + ws.length) lim) (some _) = _
  rw [h];rfl
noncomputable def oL:List (Nat × (Nat × Nat)):=(List.range 8).flatMap fun i=>(List.range 8).flatMap fun j=>(List.range 5).map fun k=>(i,(j,k))
noncomputable def shE (W:Int) (m:Nat) (e:Tx):Sto:=sto (Eo W (Int.ofNat m) e 13 .none false 0 0 true true .none) [] [] [] []
theorem s13t (xs:List Int) (l:Lc):(List.take 160 oL).map (fun p=>(csd (gl 2 (ex1 (PL N c due txt ko eo) 13 rest KK (stL sh0 xs { l with ti:=.val (at0 tiL p.1),tw:=.val (at0 twL p.2.1),te:=.val (at0 teL p.2.2) }) [])),pl 2 (ex1 (PL N c due txt ko eo) 13 rest KK (stL sh0 xs { l with ti:=.val (at0 tiL p.1),tw:=.val (at0 twL p.2.1),te:=.val (at0 teL p.2.2) }) []))) =
  mp (fun p=>(true,exsT L1.T (PL N c due txt ko eo) rest (stL (shE (WO p.2.1 (mO p.1)) (mO p.1) (eO p.2.2)) xs { l with ti:=.val (at0 tiL p.1),tw:=.val (at0 twL p.2.1),te:=.val (at0 teL p.2.2),em:=.val (.loc .em) }) KK [])) (List.take 160 oL):=by kernel_rfl
theorem s13u (xs:List Int) (l:Lc):(List.drop 160 oL).map (fun p=>(csd (gl 2 (ex1 (PL N c due txt ko eo) 13 rest KK (stL sh0 xs { l with ti:=.val (at0 tiL p.1),tw:=.val (at0 twL p.2.1),te:=.val (at0 teL p.2.2) }) [])),pl 2 (ex1 (PL N c due txt ko eo) 13 rest KK (stL sh0 xs { l with ti:=.val (at0 tiL p.1),tw:=.val (at0 twL p.2.1),te:=.val (at0 teL p.2.2) }) []))) =
  mp (fun p=>(true,exsT L1.T (PL N c due txt ko eo) rest (stL (shE (WO p.2.1 (mO p.1)) (mO p.1) (eO p.2.2)) xs { l with ti:=.val (at0 tiL p.1),tw:=.val (at0 twL p.2.1),te:=.val (at0 teL p.2.2),em:=.val (.loc .em) }) KK [])) (List.drop 160 oL):=by kernel_rfl
theorem s13 (xs:List Int) (l:Lc):oL.map (fun p=>(csd (gl 2 (ex1 (PL N c due txt ko eo) 13 rest KK (stL sh0 xs { l with ti:=.val (at0 tiL p.1),tw:=.val (at0 twL p.2.1),te:=.val (at0 teL p.2.2) }) [])),pl 2 (ex1 (PL N c due txt ko eo) 13 rest KK (stL sh0 xs { l with ti:=.val (at0 tiL p.1),tw:=.val (at0 twL p.2.1),te:=.val (at0 teL p.2.2) }) []))) =
  mp (fun p=>(true,exsT L1.T (PL N c due txt ko eo) rest (stL (shE (WO p.2.1 (mO p.1)) (mO p.1) (eO p.2.2)) xs { l with ti:=.val (at0 tiL p.1),tw:=.val (at0 twL p.2.1),te:=.val (at0 teL p.2.2),em:=.val (.loc .em) }) KK [])) oL:=mp_cut 160 (s13t N c due txt ko eo rest KK xs l) (s13u N c due txt ko eo rest KK xs l)
theorem s14a (Ψ:Psi) (sh:Sto) (xs:List Int) (es:List MV) (l:Lc):exsT L1.T Ψ (lw 14) (stL sh xs { l with row:=.own es }) KK [] = loopF Ψ (lw 14) KK 15 es (stL sh xs { l with row:=.val (.lst es) }) []:=by kernel_rfl
theorem s14z (Ψ:Psi) (st:St):loopF Ψ (lw 14) KK 15 [] st [] = exsT L1.T Ψ (lw 15) st KK []:=by kernel_rfl
theorem s14 (em:List MV) (t:Option (Nat × List (Option MV))) (ss es is rs:Option (List MV)) (xs:List Int) (x:MV) (r:List MV) (l:Lc):(csd (gl 2 (loopF (PL N c due txt ko eo) (lw 14) KK 15 (x :: r) (stL (rS em t ss es is rs) xs { l with em:=.val (.loc .em) }) [])),pl 2 (loopF (PL N c due txt ko eo) (lw 14) KK 15 (x :: r) (stL (rS em t ss es is rs) xs { l with em:=.val (.loc .em) }) [])) =
  (csd [(jd N 9 [.loc .em,x] (rS em t ss es is rs) (.none,c (rS em t ss es is rs)),true)],loopF (PL N c due txt ko eo) (lw 14) KK 15 r (stL (c (rS em t ss es is rs)) xs { l with em:=.val (.loc .em),ev:=.val x }) []):=by kernel_rfl
theorem s15 (sh:Sto) (xs:List Int) (ks:List MV) (S W:Int) (e:Tx) (l:Lc):[true,false].map (fun fl=>(csd (gl 1 (ex1 (PL N c due txt ko eo) 15 rest KK (stL sh xs { l with flow:=.val (.bool fl),keys:=.val (.lst ks),step:=.val (.int S),limit:=.val (.int W),end_:=.val (.str e) }) [])),pl 1 (ex1 (PL N c due txt ko eo) 15 rest KK (stL sh xs { l with flow:=.val (.bool fl),keys:=.val (.lst ks),step:=.val (.int S),limit:=.val (.int W),end_:=.val (.str e) }) []))) =
  mp (fun fl=>(csd [(bif fl then jd N 69 [.lst ks,.int S,.int W,.str e] sh (.str due,sh) else jd N 68 [.lst ks,.int S,.str e] sh (.str due,sh),true)],exsT L1.T (PL N c due txt ko eo) rest (stL sh xs { l with flow:=.val (.bool fl),keys:=.val (.lst ks),step:=.val (.int S),limit:=.val (.int W),end_:=.val (.str e),due:=.val (.str due) }) KK [])) [true,false]:=by kernel_rfl
noncomputable def rowsV:MV:=.inst 18 [.loc .rows]
theorem s16 (em:List MV) (t:Option (Nat × List (Option MV))) (ss es is rs:Option (List MV)) (xs:List Int) (e:Tx) (l:Lc):(csd (gl 5 (exsT L1.T (PL N c due txt ko eo) (lw 16) (stL (rS (rowsV :: em) t ss es is rs) xs { l with em:=.val (.loc .em),end_:=.val (.str e),due:=.val (.str due) }) kFin [])),pl 5 (exsT L1.T (PL N c due txt ko eo) (lw 16) (stL (rS (rowsV :: em) t ss es is rs) xs { l with em:=.val (.loc .em),end_:=.val (.str e),due:=.val (.str due) }) kFin [])) =
  (csd [(jd N 62 [rowsV] (rS (rowsV :: em) t ss es is rs) (.str txt,rS (rowsV :: em) t ss es is rs),true),la (due.length + e.length),la ((due ++ e).length + 3),la (((due ++ e) ++ [46,46,46]).length + e.length)],.fin (.bool (eqX txt (((due ++ e) ++ [46,46,46]) ++ e))) (rS (rowsV :: em) t ss es is rs)):=by kernel_rfl
end
theorem r62 (em:List MV) (t:Option (Nat × List (Option MV))) (ss es is:Option (List MV)) (rs:List MV):(csd (gl 0 (runT L1.T (twJ 8 isLM noI noA noO 0) 62 [rowsV] (rS em t ss es is (some rs)) [])),pl 0 (runT L1.T (twJ 8 isLM noI noA noO 0) 62 [rowsV] (rS em t ss es is (some rs)) [])) =
  (true,chkT (okJoin (rS em t ss es is (some rs)) (.str []) [.loc .rows]) (onT (callCT L1.T (twJ 8 isLM noI noA noO 0) none (.str []) 3 [.loc .rows] [] (rS em t ss es is (some rs))) fun p=>chkT p.1 (fun _=>.fin p.2.1 p.2.2)) []):=by kernel_rfl
theorem J_run' {m n:Nat} {lf is:Nat → Bool} {a:Nat → List MV → Sto → MV × Sto} {O:Nat → Ds} {k f:Nat} {as:List MV} {sh:Sto} {ds:Ds} {g:Bool} {r:MV × Sto} (h:rnJ n lf is a O k f as sh ds = some (g,r)) (hg:g = true) (hn:8 ≤ n) (hm:n + 2 * k ≤ m):J m f as sh r:=
  J.mono (J_run hn h hg) hm
structure Ky where
  kd:Nat
  s:Nat
  a:Option Tx
  g:Nat × Bool
noncomputable def Ky.mv (k:Ky):MV:=tupK k.kd (Int.ofNat k.s) k.a k.g
noncomputable def Ky.evs (k:Ky):List MV:=evsK k.kd (Int.ofNat k.s) k.a k.g
structure Ky.Ok (k:Ky):Prop where
  kd:k.kd < 8
  s:1 ≤ k.s ∧ k.s ≤ 5
  a:∀ A,k.a = some A → isN A = true ∧ A.length ≤ 200
  g:k.g ∈ tgs
theorem repX_all (c:Nat):∀ n,(repX [c] n).all (Nat.beq c) = true
  | 0=>rfl
  | n + 1=>by
    show (Nat.beq c c && (repX [c] n).all (Nat.beq c)) = true
    rw [repX_all c n,Nat.beq_refl];rfl
noncomputable def aOfN (n:Nat):Option Tx:=Nat.casesOn (motive:=fun _=>Option Tx) n none fun n=>some (repX [110] n)
theorem aOfN_tx:∀ n,anTx (aOfN n) = repX [110] n
  | 0=>rfl
  | _ + 1=>rfl
theorem aOfN_ok {n:Nat} (h:n ≤ 200):∀ A,aOfN n = some A → isN A = true ∧ A.length ≤ 200:=by
  cases n with
  | zero=>exact fun A h=>noS h
  | succ n=>
    refine fun A e=>?_
    obtain rfl:repX [110] n = A:=Option.some.inj e
    exact ⟨repX_all 110 n,by rw [repX_len];omega⟩
theorem fmod_nat (x:Int) {m:Nat} (h:0 < m):∃ r:Nat,r < m ∧ Int.fmod x (Int.ofNat m) = Int.ofNat r:=by
  have h1:=Int.fmod_nonneg_of_pos x (b:=Int.ofNat m) (by show (0:Int) < (m:Int);omega)
  have h2:=Int.fmod_lt_of_pos x (b:=Int.ofNat m) (by show (0:Int) < (m:Int);omega)
  refine ⟨(Int.fmod x (Int.ofNat m)).toNat,?_,?_⟩
  · have h2:Int.fmod x (Int.ofNat m) < (m:Int):=h2
    omega
  · show _ = ((Int.fmod x (Int.ofNat m)).toNat:Int)
    rw [Int.toNat_of_nonneg h1]
theorem eqI_of {a b:Int} (h:a = b):eqI a b = true:=decide_eq_true h
theorem tgs_mem {j:Nat} (hj:j < 4) (b:Bool) (h0:j = 0 → b = false):(j,b) ∈ tgs:=by
  rcases j with _ | _ | _ | _ | j
  · rw [h0 rfl];exact .head _
  · cases b
    · exact .tail _ (.tail _ (.head _))
    · exact .tail _ (.head _)
  · cases b
    · exact .tail _ (.tail _ (.tail _ (.tail _ (.head _))))
    · exact .tail _ (.tail _ (.tail _ (.head _)))
  · cases b
    · exact .tail _ (.tail _ (.tail _ (.tail _ (.tail _ (.tail _ (.head _))))))
    · exact .tail _ (.tail _ (.tail _ (.tail _ (.tail _ (.head _)))))
  · omega
theorem L64_mem {n i j:Nat} (hn:n < 4) (hi:i < 3) (hj:j < 4):(n,(i,j)) ∈ L64:=
  List.mem_flatMap.mpr ⟨n,by (rcases n with _ | _ | _ | _ | n);exact .head _;exact .tail _ (.head _);exact .tail _ (.tail _ (.head _));exact .tail _ (.tail _ (.tail _ (.head _)));omega,
    List.mem_flatMap.mpr ⟨i,by (rcases i with _ | _ | _ | i);exact .head _;exact .tail _ (.head _);exact .tail _ (.tail _ (.head _));omega,
      List.mem_map.mpr ⟨j,by (rcases j with _ | _ | _ | _ | j);exact .head _;exact .tail _ (.head _);exact .tail _ (.tail _ (.head _));exact .tail _ (.tail _ (.tail _ (.head _)));omega,rfl⟩⟩⟩
theorem cntA_nat {i:Nat} (hi:i < 3) (x:Int):∃ n:Nat,n ≤ 130 ∧ cntA i x = Int.ofNat n:=by
  rcases i with _ | _ | _ | i
  · exact ⟨0,by omega,rfl⟩
  · obtain ⟨r,h1,h2⟩:=fmod_nat (Int.fdiv x 3) (m:=4) (by omega)
    refine ⟨1 + r,by omega,?_⟩
    show 1 + Int.fmod (Int.fdiv x 3) (Int.ofNat 4) = _
    rw [h2];rfl
  · obtain ⟨r,h1,h2⟩:=fmod_nat (Int.fdiv x 3) (m:=20) (by omega)
    refine ⟨110 + r,by omega,?_⟩
    show 110 + Int.fmod (Int.fdiv x 3) (Int.ofNat 20) = _
    rw [h2];rfl
  · omega
theorem key64 (x0 x1 x2:Int):∃ k:Ky,k.Ok ∧ ∀ n,n < 4 → J 14 64 [.lst (kArgs x0 x1 x2 n)] sh0 (k.mv,sh0):=by
  obtain ⟨kd,k1,k2⟩:=fmod_nat x0 (m:=8) (by omega)
  obtain ⟨s,s1,s2⟩:=fmod_nat (Int.fdiv x0 8) (m:=5) (by omega)
  obtain ⟨i,i1,i2⟩:=fmod_nat x1 (m:=3) (by omega)
  obtain ⟨j,j1,j2⟩:=fmod_nat x2 (m:=4) (by omega)
  obtain ⟨c,c1,c2⟩:=cntA_nat i1 x1
  refine ⟨⟨kd,1 + s,aOfN c,(j,sd64 j x2)⟩,⟨k1,⟨by show 1 ≤ 1 + s;omega,by show 1 + s ≤ 5;omega⟩,aOfN_ok (by omega),tgs_mem j1 _ fun z=>by rw [z];rfl⟩,fun n hn=>?_⟩
  have e:Ky.mv ⟨kd,1 + s,aOfN c,(j,sd64 j x2)⟩ = tup64 i j x0 x1 x2:=by
    show MV.tup [.int (Int.ofNat kd),.int (Int.ofNat (1 + s)),.str (anTx (aOfN c)),tagMV j,.str (told j),.bool (sd64 j x2)] = MV.tup [.int (Int.fmod x0 (Int.ofNat 8)),.int (1 + Int.fmod (Int.fdiv x0 8) (Int.ofNat 5)),.str (repX [110] (cntA i x1).toNat),tagMV j,.str (told j),.bool (sd64 j x2)]
    rw [k2,s2,c2,aOfN_tx];rfl
  rw [e]
  have hc:csd [(eqI (Int.fmod x1 3) (Int.ofNat i),true),(mulA (cntA i x1),true),(eqI (Int.fmod x2 4) (Int.ofNat j),true)] = true:=by
    refine csd_of fun p m=>?_
    rcases List.mem_cons.mp m with rfl | m
    · exact eqI_of i2
    rcases List.mem_cons.mp m with rfl | m
    · show mulA (cntA i x1) = true
      rw [c2];exact mulA_ok (by omega)
    rcases List.mem_singleton.mp m with rfl
    exact eqI_of j2
  have h:=map_at (r64 x0 x1 x2 sh0) (L64_mem hn i1 j1)
  dsimp only at h
  intro C B hT
  exact J_run' h hc (Nat.le_refl _) (Nat.le_refl _) B hT
noncomputable def aOfT (t:Tx):Option Tx:=List.casesOn (motive:=fun _=>Option Tx) t none fun _ r=>some r
noncomputable def evs' (kd:Nat) (s:Int) (a:Option Tx) (tg:MV) (b:Bool):List MV:=
  let q:=(qk kd).1
  let x:=anMV (aQ kd a)
  let im:=MV.tup [.bool (!b),.bool (!b)]
  (nth [.inst 10 [x,tg,im,.str (wS s),.none,.none,sty q (qk kd).2],.inst 9 [x,.none,.none],.inst 11 [x,tg,.bool (!b),.none,.none,.bool false],.inst 13 [x,tg,.bool (!b),.none,.none,.bool false],.inst 10 [x,tg,im,.str [],.none,.none,sty q (qk kd).2],.inst 10 [x,tg,im,.str [97,10,98],.none,.none,sty q (qk kd).2]] q).getD .none :: (bif Nat.beq kd 4 then [eSE] else bif Nat.beq kd 5 then [eME] else [])
noncomputable def eoK (x:MV):List MV:=((asTup x).map fun l=>evs' ((asInt (at_ l 0)).getD 0).toNat ((asInt (at_ l 1)).getD 0) (aOfT ((asStr (at_ l 2)).getD [])) (at_ l 3) ((asB (at_ l 5)).getD false)).getD []
theorem eoK_mv {k:Ky} (h:k.kd < 8):eoK k.mv = k.evs:=by
  obtain ⟨kd,s,a,t,b⟩:=k
  have h:kd < 8:=h
  rcases kd with _ | _ | _ | _ | _ | _ | _ | _ | kd
  all_goals first | (cases a <;> rfl) | omega
theorem L65_mem {kd:Nat} {a:Option Tx} {g:Nat × Bool} {A:Tx} (h:kd < 8) (ha:a ∈ aL A) (hg:g ∈ tgs):(kd,(a,g)) ∈ L65 A:=
  List.mem_flatMap.mpr ⟨kd,by
    rcases kd with _ | _ | _ | _ | _ | _ | _ | _ | kd
    · exact .head _
    · exact .tail _ (.head _)
    · exact .tail _ (.tail _ (.head _))
    · exact .tail _ (.tail _ (.tail _ (.head _)))
    · exact .tail _ (.tail _ (.tail _ (.tail _ (.head _))))
    · exact .tail _ (.tail _ (.tail _ (.tail _ (.tail _ (.head _)))))
    · exact .tail _ (.tail _ (.tail _ (.tail _ (.tail _ (.tail _ (.head _))))))
    · exact .tail _ (.tail _ (.tail _ (.tail _ (.tail _ (.tail _ (.tail _ (.head _)))))))
    · omega,List.mem_flatMap.mpr ⟨a,ha,List.mem_map.mpr ⟨g,hg,rfl⟩⟩⟩
theorem aL_mem (a:Option Tx):∃ A,a ∈ aL A:=by
  cases a with
  | none=>exact ⟨[],.head _⟩
  | some A=>exact ⟨A,.tail _ (.head _)⟩
theorem g65_ok {kd s:Nat} (hs:s ≤ 5):∀ p ∈ g65 kd (Int.ofNat s),p.1 = p.2:=fun p m=>by
  unfold g65 at m
  generalize (Nat.ble 3 kd && Nat.ble kd 5) = b at m
  cases b with
  | true=>exact (List.not_mem_nil m).elim
  | false=>
    have hm:=mulA_ok (m:=s) (by omega)
    rcases List.mem_cons.mp m with rfl | m
    · exact hm
    rcases List.mem_cons.mp m with rfl | m
    · exact hm
    rcases List.mem_singleton.mp m with rfl
    exact hm
theorem ev65 {k:Ky} (h:k.Ok):J 14 65 [k.mv] sh0 (.lst k.evs,sh0):=by
  obtain ⟨A,ha⟩:=aL_mem k.a
  exact J_run' (n:=8) (k:=3) (map_at (r65 (Int.ofNat k.s) A) (L65_mem h.kd ha h.g)) (csd_of (g65_ok h.s.2)) (Nat.le_refl _) (Nat.le_refl _)
theorem evs_len (k:Ky):k.evs.length ≤ 2:=by
  show (bif Nat.beq k.kd 4 then [eSE] else bif Nat.beq k.kd 5 then [eME] else []).length + 1 ≤ 2
  cases Nat.beq k.kd 4
  · cases Nat.beq k.kd 5
    · exact Nat.le_succ _
    · exact Nat.le_refl _
  · exact Nat.le_refl _
theorem good_plt {v:MV} {sh:Sto} {n:Nat} {r r':R} (e:(csd (gl n r),pl n r) = (true,r')) (h:Good r' v sh):Good r v sh:=
  good_pl n r (congrArg Prod.fst e) (by rw [show pl n r = r' from congrArg Prod.snd e];exact h)
theorem ex1_of {Ψ:Psi} {i:Nat} {KK:Option MV → St → Ds → R} {st:St} {ds:Ds} (h:i < 17):exsT L1.T Ψ (lw i) st KK ds = ex1 Ψ i (lw (i + 1)) KK st ds:=congrArg (fun l=>exsT L1.T Ψ l st KK ds) (lwc h)
theorem scr_map (f:Nat → Int) (n:Nat):scr f n = (List.range n).map f:=by
  have:∀ l:List Nat,(List.rec (motive:=fun _=>List Int) [] (fun i _ ih=>f i :: ih) l:List Int) = l.map f:=fun l=>by
    induction l with
    | nil=>rfl
    | cons a r ih=>exact congrArg (List.cons (f a)) ih
  exact this _
theorem scr_of (xs:List Int):scr (fun i=>(xs[i]?).getD 0) xs.length = xs:=by
  rw [scr_map]
  refine List.ext_getElem? fun i=>?_
  rw [List.getElem?_map]
  by_cases h:i < xs.length
  · rw [List.getElem?_range h,List.getElem?_eq_getElem h]
    show some ((xs[i]?).getD 0) = _
    rw [List.getElem?_eq_getElem h];rfl
  · rw [List.getElem?_eq_none (by rw [List.length_range];omega),List.getElem?_eq_none (by omega)];rfl
theorem s64_mem {n:Nat} (h:n < 64):n ∈ s64L:=List.mem_range.mpr h
theorem hdL_mem (f:Nat → Int) (n:Nat):∃ h0 h1,hdL f n ∈ hL h0 h1:=by
  rcases n with _ | _ | n
  · exact ⟨0,0,.head _⟩
  · exact ⟨md (f 0),0,.tail _ (.head _)⟩
  · exact ⟨md (f 0),md (f 1),.tail _ (.tail _ (.head _))⟩
theorem pArg_k (f:Nat → Int) (n k:Nat):∃ x0 x1 x2 p,p < 4 ∧ pArg f n k = [.lst (kArgs x0 x1 x2 p)]:=by
  unfold pArg prt
  generalize nPt n k = p
  rcases p with _ | _ | _ | _ | p
  · exact ⟨0,0,0,0,by omega,rfl⟩
  · exact ⟨_,0,0,1,by omega,rfl⟩
  · exact ⟨_,_,0,2,by omega,rfl⟩
  · exact ⟨_,_,_,3,by omega,rfl⟩
  · exact ⟨0,0,0,0,by omega,rfl⟩
open Classical in
noncomputable def kyOf (as:List MV):Ky:=if h:∃ k:Ky,k.Ok ∧ J 14 64 as sh0 (k.mv,sh0) then h.choose else ⟨0,1,none,(0,false)⟩
noncomputable def koK (as:List MV):MV:=(kyOf as).mv
theorem kyOf_ok (f:Nat → Int) (n k:Nat):(kyOf (pArg f n k)).Ok ∧ J 14 64 (pArg f n k) sh0 (koK (pArg f n k),sh0):=by
  obtain ⟨x0,x1,x2,p,hp,e⟩:=pArg_k f n k
  obtain ⟨y,h1,h2⟩:=key64 x0 x1 x2
  have h:∃ y:Ky,y.Ok ∧ J 14 64 (pArg f n k) sh0 (y.mv,sh0):=⟨y,h1,by rw [e];exact h2 p hp⟩
  have hc:=h.choose_spec
  unfold koK kyOf
  rw [dif_pos h]
  exact hc
noncomputable def keysOf (f:Nat → Int) (n:Nat):List Ky:=(List.range (tk n)).map fun k=>kyOf (pArg f n k)
theorem keys_eq (f:Nat → Int) (n:Nat):kysL koK f n = (keysOf f n).map Ky.mv:=by
  unfold kysL keysOf
  rw [mp_eq,List.map_map];rfl
theorem tk_le (n:Nat):1 ≤ tk n ∧ tk n ≤ 4:=by
  unfold tk
  cases Nat.ble 6 n <;> cases Nat.ble 9 n <;> cases Nat.ble 12 n <;> exact ⟨by decide,by decide⟩
theorem keys_ok {f:Nat → Int} {n:Nat}:∀ k ∈ keysOf f n,k.Ok:=fun k m=>by
  obtain ⟨i,_,rfl⟩:=List.mem_map.mp m
  exact (kyOf_ok f n i).1
theorem keys_len (f:Nat → Int) (n:Nat):1 ≤ (keysOf f n).length ∧ (keysOf f n).length ≤ 4:=by
  unfold keysOf
  rw [List.length_map,List.length_range];exact tk_le n
noncomputable def evK1 (vs:List MV) (l:List Ky):List MV:=l.foldl (fun vs k=>vs ++ (k.evs ++ [eV])) vs
noncomputable def evAll (fl:Bool) (l:List Ky):List MV:=evK1 [eB,eD,eM fl] l ++ [eME,eDe,eZ]
theorem evK1_len (l:List Ky):∀ vs,(evK1 vs l).length ≤ vs.length + 3 * l.length:=by
  induction l with
  | nil=>exact fun vs=>Nat.le_refl _
  | cons k r ih=>
    intro vs
    have h1:=ih (vs ++ (k.evs ++ [eV]))
    have h2:=evs_len k
    rw [List.length_append,List.length_append,List.length_singleton] at h1
    show (evK1 (vs ++ (k.evs ++ [eV])) r).length ≤ _
    rw [List.length_cons];omega
noncomputable def ChJ (N:Nat) (c:Sto → Sto) (l:List MV):Sto → Sto → Prop:=List.rec (motive:=fun _=>Sto → Sto → Prop) (fun s s'=>s = s') (fun x _ ih s s'=>(∃ em t ss es is rs,s = rS em t ss es is rs) ∧ J N 9 [.loc .em,x] s (.none,c s) ∧ ih (c s) s') l
section
variable {N:Nat} {c:Sto → Sto} {due txt:Tx} {v:MV} {shv:Sto}
theorem emits {xs:List Int}:∀ {evs:List MV} {s s':Sto} {l:Lc},ChJ N c evs s s' → (∀ y,Good (exsT L1.T (PL N c due txt koK eoK) (lw 15) (stL s' xs { l with em:=.val (.loc .em),ev:=y }) kFin []) v shv) →
    Good (loopF (PL N c due txt koK eoK) (lw 14) kFin 15 evs (stL s xs { l with em:=.val (.loc .em) }) []) v shv
  | [],s,s',l,h,g=>by
    have h:s = s':=h
    rw [s14z,h];exact g l.ev
  | x :: r,s,s',l,h,g=>by
    obtain ⟨⟨em,t,ss,es,is,rs,rfl⟩,h2,h3⟩:=h
    refine good_pl' (s14 N c due txt koK eoK kFin em t ss es is rs xs x r l) (csd_of fun p m=>?_) (emits (l:={ l with ev:=.val x }) h3 g)
    rcases List.mem_singleton.mp m with rfl
    exact jd_of h2
theorem rowsL {xs:List Int} (hN:14 ≤ N) {ks:List Ky}:∀ {vs:List MV} {l:Lc},(∀ k ∈ ks,k.Ok) → vs.length + 3 * ks.length ≤ 1000 → (∀ y,Good (exsT L1.T (PL N c due txt koK eoK) (lw 12) (stL sh0 xs { l with row:=.own (evK1 vs ks),key:=y }) kFin []) v shv) →
    Good (loopF (PL N c due txt koK eoK) (lw 11) kFin 13 (ks.map Ky.mv) (stL sh0 xs { l with row:=.own vs }) []) v shv:=by
  induction ks with
  | nil=>
    intro vs l _ _ g
    rw [List.map_nil,s11z];exact g l.key
  | cons k ks ih=>
    intro vs l hk hl g
    have ok:=hk k (.head _)
    have he:=eoK_mv ok.kd
    have h2:=evs_len k
    rw [List.length_cons] at hl
    rw [List.map_cons]
    refine good_pl' (s11 N c due txt koK eoK kFin xs k.mv vs (ks.map Ky.mv) l) (csd_of fun p m=>?_) ?_
    · rcases List.mem_cons.mp m with rfl | m
      · rw [he];exact jd_of (J.mono (ev65 ok) hN)
      rcases List.mem_singleton.mp m with rfl
      rw [he];exact la_ok (by omega)
    · rw [he]
      have h3:=ext12 sh0 xs vs (k.evs ++ [eV]) { l with key:=.val k.mv } (leN_ok (by rw [List.length_append,List.length_singleton];unfold lim;omega))
      rw [h3]
      exact ih (vs:=vs ++ (k.evs ++ [eV])) (l:={ l with key:=.val k.mv }) (fun k m=>hk k (.tail _ m)) (by rw [List.length_append,List.length_append,List.length_singleton];omega) g
end
noncomputable def lU:Lc:=⟨.unset,.unset,.unset,.unset,.unset,.unset,.unset,.unset,.unset,.unset,.unset,.unset,.unset,.unset,.unset,.unset⟩
theorem s_start (Ψ:Psi) (xs:List Int) (ds:Ds):runT L1.T Ψ 70 [.lst (xs.map .int)] sh0 ds = exsT L1.T Ψ (lw 0) (stL sh0 xs lU) kFin ds:=by kernel_rfl
theorem oL_mem {i j k:Nat} (hi:i < 8) (hj:j < 8) (hk:k < 5):(i,(j,k)) ∈ oL:=
  List.mem_flatMap.mpr ⟨i,List.mem_range.mpr hi,List.mem_flatMap.mpr ⟨j,List.mem_range.mpr hj,List.mem_map.mpr ⟨k,List.mem_range.mpr hk,rfl⟩⟩⟩
theorem mO_mem {i:Nat} (h:i < 8):mO i ∈ mL:=by
  rcases i with _ | _ | _ | _ | _ | _ | _ | _ | i
  · exact .head _
  · exact .tail _ (.tail _ (.head _))
  · exact .head _
  · exact .tail _ (.tail _ (.tail _ (.head _)))
  · exact .head _
  · exact .tail _ (.head _)
  · exact .head _
  · exact .head _
  · omega
theorem eO_mem {k:Nat} (h:k < 5):eO k ∈ eL:=by
  rcases k with _ | _ | _ | _ | _ | k
  · exact .head _
  · exact .tail _ (.tail _ (.head _))
  · exact .tail _ (.head _)
  · exact .head _
  · exact .head _
  · omega
theorem eqX_self (a:Tx):eqX a a = true:=decide_eq_true rfl
section
variable {N:Nat} {c:Sto → Sto} {due txt:Tx} {S:Sto} {em:List MV} {t:Option (Nat × List (Option MV))} {ss es is rs:Option (List MV)}
theorem fl_mem (fl:Bool):fl ∈ [true,false]:=by
  cases fl
  · exact .tail _ (.head _)
  · exact .head _
noncomputable def dueB (N:Nat) (fl:Bool) (ks:List MV) (m W:Int) (e:Tx) (sh:Sto) (due:Tx):Bool:=bif fl then jd N 69 [.lst ks,.int m,.int W,.str e] sh (.str due,sh) else jd N 68 [.lst ks,.int m,.str e] sh (.str due,sh)
theorem law_end {fl:Bool} {f:Nat → Int} {n i j k:Nat} {ks:List Ky} {lh lk2 lp lky lem lev ld:Cell} (hi:i < 8) (hj:j < 8) (hk:k < 5)
    (hc:ChJ N c (evAll fl ks) (shE (WO j (mO i)) (mO i) (eO k)) (rS (rowsV :: em) t ss es is rs)) (hd:dueB N fl (ks.map Ky.mv) (Int.ofNat (mO i)) (WO j (mO i)) (eO k) (rS (rowsV :: em) t ss es is rs) due = true)
    (h62:J N 62 [rowsV] (rS (rowsV :: em) t ss es is rs) (.str txt,rS (rowsV :: em) t ss es is rs)) (ht:txt = ((due ++ eO k) ++ [46,46,46]) ++ eO k) (hl2:due.length ≤ 100000) :
    Good (exsT L1.T (PL N c due txt koK eoK) (lw 13) (stL sh0 (scr f n) ⟨lh,.val (.bool fl),.val (at0 tiL i),.val (at0 teL k),.val (at0 twL j),.val (.int (Int.ofNat (mO i))),.val (.int (WO j (mO i))),.val (.str (eO k)),.val (.lst (ks.map Ky.mv)),lk2,lp,.own (evAll fl ks),lky,lem,lev,ld⟩) kFin []) (.bool true) (rS (rowsV :: em) t ss es is rs):=by
  have el:=eL_le (eO_mem hk)
  rw [ex1_of (by decide)]
  have h:=mp_at (s13 N c due txt koK eoK (lw 14) kFin (scr f n) ⟨lh,.val (.bool fl),.unset,.unset,.unset,.val (.int (Int.ofNat (mO i))),.val (.int (WO j (mO i))),.val (.str (eO k)),.val (.lst (ks.map Ky.mv)),lk2,lp,.own (evAll fl ks),lky,lem,lev,ld⟩) (oL_mem hi hj hk)
  dsimp only at h ⊢
  refine good_plt h ?_
  clear h
  have h:=s14a kFin (PL N c due txt koK eoK) (shE (WO j (mO i)) (mO i) (eO k)) (scr f n) (evAll fl ks) ⟨lh,.val (.bool fl),.val (at0 tiL i),.val (at0 teL k),.val (at0 twL j),.val (.int (Int.ofNat (mO i))),.val (.int (WO j (mO i))),.val (.str (eO k)),.val (.lst (ks.map Ky.mv)),lk2,lp,.unset,lky,.val (.loc .em),lev,ld⟩
  dsimp only at h
  rw [h]
  clear h
  refine emits (l:=⟨lh,.val (.bool fl),.val (at0 tiL i),.val (at0 teL k),.val (at0 twL j),.val (.int (Int.ofNat (mO i))),.val (.int (WO j (mO i))),.val (.str (eO k)),.val (.lst (ks.map Ky.mv)),lk2,lp,.val (.lst (evAll fl ks)),lky,.unset,lev,ld⟩) hc fun y=>?_
  rw [ex1_of (by decide)]
  have h:=mp_at (s15 N c due txt koK eoK (lw 16) kFin (rS (rowsV :: em) t ss es is rs) (scr f n) (ks.map Ky.mv) (Int.ofNat (mO i)) (WO j (mO i)) (eO k) ⟨lh,.unset,.val (at0 tiL i),.val (at0 teL k),.val (at0 twL j),.unset,.unset,.unset,.unset,lk2,lp,.val (.lst (evAll fl ks)),lky,.val (.loc .em),y,ld⟩) (fl_mem fl)
  dsimp only at h ⊢
  refine good_pl' h (csd_of fun p m=>?_) ?_
  · rcases List.mem_singleton.mp m with rfl
    exact hd
  · clear h
    have h:=s16 N c due txt koK eoK em t ss es is rs (scr f n) (eO k) ⟨lh,.val (.bool fl),.val (at0 tiL i),.val (at0 teL k),.val (at0 twL j),.val (.int (Int.ofNat (mO i))),.val (.int (WO j (mO i))),.unset,.val (.lst (ks.map Ky.mv)),lk2,lp,.val (.lst (evAll fl ks)),lky,.unset,y,.unset⟩
    dsimp only at h
    refine good_pl' h (csd_of fun p m=>?_) ?_
    · rcases List.mem_cons.mp m with rfl | m
      · exact jd_of h62
      rcases List.mem_cons.mp m with rfl | m
      · exact la_ok (by omega)
      rcases List.mem_cons.mp m with rfl | m
      · exact la_ok (by rw [List.length_append];omega)
      rcases List.mem_singleton.mp m with rfl
      exact la_ok (by rw [List.length_append,List.length_append];simp only [List.length_cons,List.length_nil];omega)
    · rw [← ht,eqX_self];exact ⟨rfl,rfl⟩
end
theorem law_run (f:Nat → Int) {n:Nat} (hn:n < 64):∃ fl i j k,i < 8 ∧ j < 8 ∧ k < 5 ∧ ∀ {N:Nat} {c:Sto → Sto} {due txt:Tx} {em:List MV} {t:Option (Nat × List (Option MV))} {ss es is rs:Option (List MV)},14 ≤ N →
    ChJ N c (evAll fl (keysOf f n)) (shE (WO j (mO i)) (mO i) (eO k)) (rS (rowsV :: em) t ss es is rs) → dueB N fl ((keysOf f n).map Ky.mv) (Int.ofNat (mO i)) (WO j (mO i)) (eO k) (rS (rowsV :: em) t ss es is rs) due = true →
    J N 62 [rowsV] (rS (rowsV :: em) t ss es is rs) (.str txt,rS (rowsV :: em) t ss es is rs) → txt = ((due ++ eO k) ++ [46,46,46]) ++ eO k → due.length ≤ 100000 →
    J (N + 10) 70 [.lst ((scr f n).map .int)] sh0 (.bool true,rS (rowsV :: em) t ss es is rs):=by
  obtain ⟨h0,h1,hm⟩:=hdL_mem f n
  obtain ⟨i,i1,i2⟩:=fmod_nat (Int.fdiv h0 2) (m:=8) (by omega)
  obtain ⟨k,k1,k2⟩:=fmod_nat h1 (m:=5) (by omega)
  obtain ⟨j,j1,j2⟩:=fmod_nat (Int.fdiv h1 5) (m:=8) (by omega)
  refine ⟨eqI (Int.fmod h0 2) 1,i,j,k,i1,j1,k1,?_⟩
  intro N c due txt em t ss es is rs hN hc hd h62 ht hl
  refine J_good (n:=N) (k:=5) (lf:=isLM) (is:=isLaw) (a:=aLaw c due txt koK eoK) (O:=noO) (by omega) (ds:=ix 0 ++ (ix 0 ++ (ix i ++ (ix 1 ++ (ix k ++ (ix 1 ++ (ix j ++ []))))))) ?_
  show Good (runT L1.T (PL N c due txt koK eoK) 70 [.lst ((scr f n).map .int)] sh0 (ix 0 ++ (ix 0 ++ (ix i ++ (ix 1 ++ (ix k ++ (ix 1 ++ (ix j ++ [])))))))) (.bool true) (rS (rowsV :: em) t ss es is rs)
  rw [s_start,ex1_of (by decide)]
  have h:=mp_at (s0 (PL N c due txt koK eoK) (lw 1) kFin sh0 f ⟨.unset,.unset,.unset,.unset,.unset,.unset,.unset,.unset,.unset,.unset,.unset,.unset,.unset,.unset,.unset,.unset⟩ (ix 0 ++ (ix 0 ++ (ix i ++ (ix 1 ++ (ix k ++ (ix 1 ++ (ix j ++ [])))))))) (s64_mem hn)
  dsimp only at h ⊢
  refine good_plt h ?_
  clear h
  generalize hdL f n = hd0 at hm
  rw [ex1_of (by decide)]
  have h:=mp_at (s1 (PL N c due txt koK eoK) (lw 2) kFin sh0 (scr f n) h0 h1 ⟨.unset,.unset,.unset,.unset,.unset,.unset,.unset,.unset,.unset,.unset,.unset,.unset,.unset,.unset,.unset,.unset⟩ (ix 0 ++ (ix i ++ (ix 1 ++ (ix k ++ (ix 1 ++ (ix j ++ []))))))) hm
  dsimp only [wh] at h ⊢
  refine good_plt h ?_
  clear h
  rw [ex1_of (by decide)]
  have h:=mp_at (mp_at (s2 (PL N c due txt koK eoK) (lw 3) kFin sh0 (scr f n) h0 h1 ⟨.unset,.val (.bool (eqI (Int.fmod h0 2) 1)),.unset,.unset,.unset,.unset,.unset,.unset,.unset,.unset,.unset,.unset,.unset,.unset,.unset,.unset⟩ (ix 1 ++ (ix k ++ (ix 1 ++ (ix j ++ []))))) (List.mem_range.mpr i1)) hm
  dsimp only [wh] at h ⊢
  refine good_pl' h (csd_of fun p m=>?_) ?_
  · rcases List.mem_singleton.mp m with rfl
    exact eqI_of i2
  clear h
  rw [ex1_of (by decide)]
  have h:=mp_at (mp_at (s3 (PL N c due txt koK eoK) (lw 4) kFin sh0 (scr f n) h0 h1 ⟨.unset,.val (.bool (eqI (Int.fmod h0 2) 1)),.val (at0 tiL i),.unset,.unset,.unset,.unset,.unset,.unset,.unset,.unset,.unset,.unset,.unset,.unset,.unset⟩ (ix 1 ++ (ix j ++ []))) (List.mem_range.mpr k1)) hm
  dsimp only [wh] at h ⊢
  refine good_pl' h (csd_of fun p m=>?_) ?_
  · rcases List.mem_singleton.mp m with rfl
    exact eqI_of k2
  clear h
  rw [ex1_of (by decide)]
  have h:=mp_at (mp_at (s4 (PL N c due txt koK eoK) (lw 5) kFin sh0 (scr f n) h0 h1 ⟨.unset,.val (.bool (eqI (Int.fmod h0 2) 1)),.val (at0 tiL i),.val (at0 teL k),.unset,.unset,.unset,.unset,.unset,.unset,.unset,.unset,.unset,.unset,.unset,.unset⟩ []) (List.mem_range.mpr j1)) hm
  dsimp only [wh] at h ⊢
  refine good_pl' h (csd_of fun p m=>?_) ?_
  · rcases List.mem_singleton.mp m with rfl
    exact eqI_of j2
  clear h
  generalize eqI (Int.fmod h0 2) 1 = fl at hc hd ⊢
  generalize Cell.val (.lst (hd0.map .int)) = lh
  rw [ex1_of (by decide)]
  have h:=mp_at (s5 (PL N c due txt koK eoK) (lw 6) kFin sh0 (scr f n) ⟨lh,.val (.bool fl),.unset,.val (at0 teL k),.val (at0 twL j),.unset,.unset,.unset,.unset,.unset,.unset,.unset,.unset,.unset,.unset,.unset⟩) (List.mem_range.mpr i1)
  dsimp only at h ⊢
  refine good_plt h ?_
  clear h
  rw [ex1_of (by decide)]
  have h:=mp_at (s6 (PL N c due txt koK eoK) (lw 7) kFin sh0 (scr f n) ⟨lh,.val (.bool fl),.val (at0 tiL i),.val (at0 teL k),.unset,.unset,.unset,.unset,.unset,.unset,.unset,.unset,.unset,.unset,.unset,.unset⟩) (pr_mem (List.mem_range.mpr j1) (mO_mem i1))
  dsimp only at h ⊢
  refine good_plt h ?_
  clear h
  rw [ex1_of (by decide)]
  have h:=mp_at (s7 (PL N c due txt koK eoK) (lw 8) kFin sh0 (scr f n) ⟨lh,.val (.bool fl),.val (at0 tiL i),.unset,.val (at0 twL j),.val (.int (Int.ofNat (mO i))),.val (.int (WO j (mO i))),.unset,.unset,.unset,.unset,.unset,.unset,.unset,.unset,.unset⟩) (List.mem_range.mpr k1)
  dsimp only at h ⊢
  refine good_plt h ?_
  clear h
  rw [ex1_of (by decide)]
  have h:=s8 (lw 9) kFin (PL N c due txt koK eoK) sh0 (scr f n) ⟨lh,.val (.bool fl),.val (at0 tiL i),.val (at0 teL k),.val (at0 twL j),.val (.int (Int.ofNat (mO i))),.val (.int (WO j (mO i))),.val (.str (eO k)),.unset,.unset,.unset,.unset,.unset,.unset,.unset,.unset⟩
  dsimp only at h
  rw [h]
  clear h
  rw [ex1_of (by decide)]
  have h:=mp_at (s9 N c due txt koK eoK (lw 10) kFin f ⟨lh,.val (.bool fl),.val (at0 tiL i),.val (at0 teL k),.val (at0 twL j),.val (.int (Int.ofNat (mO i))),.val (.int (WO j (mO i))),.val (.str (eO k)),.unset,.unset,.unset,.unset,.unset,.unset,.unset,.unset⟩) (s64_mem hn)
  dsimp only at h ⊢
  refine good_pl' h (csd_of fun p m=>?_) ?_
  · rw [mp_eq] at m
    obtain ⟨x,_,rfl⟩:=List.mem_map.mp m
    exact jd_of (J.mono (kyOf_ok f n x).2 hN)
  clear h
  rw [keys_eq]
  have kok:=keys_ok (f:=f) (n:=n)
  have kln:=keys_len f n
  generalize keysOf f n = ks at kok kln hc hd ⊢
  generalize Cell.val (.lst ((prt f n 3).map .int)) = lp
  rw [ex1_of (by decide)]
  have h:=s10 N c due txt koK eoK (lw 11) kFin (scr f n) fl ⟨lh,.unset,.val (at0 tiL i),.val (at0 teL k),.val (at0 twL j),.val (.int (Int.ofNat (mO i))),.val (.int (WO j (mO i))),.val (.str (eO k)),.own (ks.map Ky.mv),.val (.int 3),lp,.unset,.unset,.unset,.unset,.unset⟩
  dsimp only at h ⊢
  refine good_plt h ?_
  clear h
  have h:=s11a N c due txt koK eoK kFin (scr f n) (ks.map Ky.mv) ⟨lh,.val (.bool fl),.val (at0 tiL i),.val (at0 teL k),.val (at0 twL j),.val (.int (Int.ofNat (mO i))),.val (.int (WO j (mO i))),.val (.str (eO k)),.unset,.val (.int 3),lp,.own [eB,eD,eM fl],.unset,.unset,.unset,.unset⟩
  dsimp only at h ⊢
  rw [h]
  clear h
  refine rowsL (l:=⟨lh,.val (.bool fl),.val (at0 tiL i),.val (at0 teL k),.val (at0 twL j),.val (.int (Int.ofNat (mO i))),.val (.int (WO j (mO i))),.val (.str (eO k)),.val (.lst (ks.map Ky.mv)),.val (.int 3),lp,.unset,.unset,.unset,.unset,.unset⟩) hN kok (by simp only [List.length_cons,List.length_nil];omega) fun y=>?_
  rw [ex1_of (by decide)]
  have h:=s12 N c due txt koK eoK (lw 13) kFin (scr f n) (evK1 [eB,eD,eM fl] ks) ⟨lh,.val (.bool fl),.val (at0 tiL i),.val (at0 teL k),.val (at0 twL j),.val (.int (Int.ofNat (mO i))),.val (.int (WO j (mO i))),.val (.str (eO k)),.val (.lst (ks.map Ky.mv)),.val (.int 3),lp,.unset,y,.unset,.unset,.unset⟩
  dsimp only at h ⊢
  refine good_plt h ?_
  clear h
  have hl3:=evK1_len ks [eB,eD,eM fl]
  simp only [List.length_cons,List.length_nil] at hl3
  have h:=ext12 sh0 (scr f n) (evK1 [eB,eD,eM fl] ks) [eME,eDe,eZ] ⟨lh,.val (.bool fl),.val (at0 tiL i),.val (at0 teL k),.val (at0 twL j),.val (.int (Int.ofNat (mO i))),.val (.int (WO j (mO i))),.val (.str (eO k)),.val (.lst (ks.map Ky.mv)),.val (.int 3),lp,.unset,y,.unset,.unset,.unset⟩ (leN_ok (by simp only [List.length_cons,List.length_nil];unfold lim;omega))
  dsimp only at h
  rw [h]
  exact law_end i1 j1 k1 hc hd h62 ht hl
structure JS (f:Nat) (v:MV) (q:Q) (es:List MV) (s:Sto):Prop where
  of ::
  j:J 30 f (asS f) (sQ f v q es) (.none,s)
structure JE (e:MV) (s s':Sto):Prop where
  of ::
  j:J 36 9 [.loc .em,e] s (.none,s')
theorem JS.ok {f:Nat} {v:MV} {q:Q} {es:List MV} {s:Sto} (h:JS f v q es s):(jE 30 f v q es s).1 = (jE 30 f v q es s).2:=jd_of h.j
theorem je_of {l:List Sto} {e:MV} {s s':Sto} {g:List (Bool × Bool)} (h:rE 30 l e s = some (csd g,.none,s')) (hg:∀ p ∈ g,p.1 = p.2):JE e s s':=by
  refine .of fun {C} B hT=>?_
  exact J_run' (n:=30) (k:=3) h (csd_of hg) (by decide) (by decide) B hT
theorem je_t {l:List Sto} {e:MV} {s s':Sto} (h:rE 30 l e s = some (true,.none,s')):JE e s s':=by
  refine .of fun {C} B hT=>?_
  exact J_run' (n:=30) (k:=3) h rfl (by decide) (by decide) B hT
theorem E1 {p:Nat × Nat} (hp:p ∈ nowL) {fs:List MV} {v:MV} {q q1:Q} {f':Nat} (h:JS p.1 (.inst p.2 fs) q [] (sQ f' v q1 [])):JE (.inst p.2 fs) (sQ p.1 .none q []) (sQ f' .none q1 []):=
  je_of (map_at (e1 30 fs v q q1 f') hp) fun p m=>by
    rcases List.mem_singleton.mp m with rfl;exact h.ok
noncomputable def methN (v:MV):Nat:=MV.casesOn (motive_1:=fun _=>Nat) v 0 (fun _=>0) (fun _=>0) (fun _=>0) (fun _=>0) (fun _=>0) (fun _=>0) (fun _=>0) (fun f _=>f) (fun _ _=>0) (fun _=>0) (fun _=>0) (fun _=>0)
noncomputable def bon (f:Nat):Nat:=bif Nat.beq f 13 then 0 else bif Nat.beq f 17 || Nat.beq f 14 then 99 else 1
noncomputable def mu (sh:Sto):Nat:=1000 * (sh.rows.map List.length).getD 0 + 100 * (sh.events.map List.length).getD 0 + bon (methN (at_ (sh.em.getD []) 3))
theorem mu_sQ (f:Nat) (v:MV) (q:Q) (es:List MV):mu (sQ f v q es) = 1000 * q.rs.length + 100 * es.length + bon f:=rfl
theorem bon_le (f:Nat):bon f ≤ 99:=by
  unfold bon
  cases Nat.beq f 13
  · cases (Nat.beq f 17 || Nat.beq f 14)
    · exact by decide
    · exact Nat.le_refl _
  · exact Nat.zero_le _
noncomputable def Tr (l:List MV):Sto → Sto → Prop:=List.rec (motive:=fun _=>Sto → Sto → Prop) (fun s s'=>s = s') (fun x _ ih s s'=>(∃ f v q es,s = sQ f v q es) ∧ ∃ s1,JE x s s1 ∧ mu s < mu s1 ∧ ih s1 s') l
theorem tr_ch:∀ (l:List MV) (s s':Sto),Tr l s s' → ∃ c':Sto → Sto,∀ c,(∀ u,mu s ≤ mu u → c u = c' u) → ChJ 36 c l s s'
  | [],s,s',h=>⟨fun u=>u,fun c _=>h⟩
  | x :: l,s,s',h=>by
    obtain ⟨⟨f,v,q,es,e⟩,s1,h1,h2,h3⟩:=h
    obtain ⟨c',hc⟩:=tr_ch l s1 s' h3
    refine ⟨fun u=>bif Nat.ble (mu u) (mu s) then s1 else c' u,fun c hcc=>?_⟩
    have e1:c s = s1:=by
      rw [hcc s (Nat.le_refl _)]
      show (bif Nat.ble (mu s) (mu s) then s1 else c' s) = s1
      rw [Nat.ble_eq.mpr (Nat.le_refl _)];rfl
    refine ⟨⟨LE f v q.g,none,some q.ss,some es,some q.is,some q.rs,e⟩,?_,?_⟩
    · rw [e1];exact h1.j
    · rw [e1]
      refine hc c fun u hu=>?_
      rw [hcc u (by omega)]
      show (bif Nat.ble (mu u) (mu s) then s1 else c' u) = c' u
      have:Nat.ble (mu u) (mu s) = false:=Bool.eq_false_iff.mpr fun z=>by have:=Nat.ble_eq.mp z;omega
      rw [this];rfl
theorem tr_c {l:List MV} {s s':Sto} (h:Tr l s s'):∃ c,ChJ 36 c l s s':=
  let ⟨c,hc⟩:=tr_ch l s s' h
  ⟨c,hc c fun _ _=>rfl⟩
theorem tr_cons {x:MV} {l:List MV} {f:Nat} {v:MV} {q:Q} {es:List MV} {s1 s':Sto} (h1:JE x (sQ f v q es) s1) (h2:mu (sQ f v q es) < mu s1) (h3:Tr l s1 s'):Tr (x :: l) (sQ f v q es) s':=
  ⟨⟨f,v,q,es,rfl⟩,s1,h1,h2,h3⟩
noncomputable def Nx (f:Nat) (q:Q) (d:MV) (s':Sto):Prop:=(∃ n fs v f' q1,d = .inst n fs ∧ (f,n) ∈ nowL ∧ JS f d q [] (sQ f' v q1 []) ∧ s' = sQ f' .none q1 []) ∨ (∃ n fs,(n = 11 ∨ n = 13) ∧ d = .inst n fs ∧ s' = sQ f .none q [d])
noncomputable def Hd (f:Nat) (q:Q) (l:List MV) (s':Sto):Prop:=∃ d r s1,l = d :: r ∧ Nx f q d s1 ∧ mu (sQ f .none q []) < mu s1 ∧ Tr r s1 s'
theorem hd_tr {f:Nat} {q:Q} {l:List MV} {s':Sto} (h:Hd f q l s'):Tr l (sQ f .none q []) s':=by
  obtain ⟨d,r,s1,rfl,hn,hm,ht⟩:=h
  refine tr_cons ?_ hm ht
  rcases hn with ⟨n,fs,v,f',q1,rfl,h1,h2,rfl⟩ | ⟨n,fs,h1,rfl,rfl⟩
  · exact E1 (p:=(f,n)) h1 h2
  · rcases h1 with rfl | rfl
    · exact je_t (map_at (e2 30 fs q f) (.tail _ (.head _)))
    · exact je_t (map_at (e2 30 fs q f) (.tail _ (.tail _ (.head _))))
noncomputable def fS (fl fst:Bool):Nat:=bif fl then bif fst then 26 else 27 else bif fst then 34 else 35
noncomputable def fV (fl sm:Bool):Nat:=bif fl then bif sm then 28 else 29 else bif sm then 36 else 37
noncomputable def cS (b:Bool):Nat:=bif b then 11 else 13
noncomputable def cF (b:Bool):Nat:=bif b then 23 else 26
noncomputable def eE (b:Bool):MV:=bif b then eSE else eME
inductive PairJ (fl fst:Bool) (k:Ky) (q q3:Q):Prop
  | sc (sm:Bool) (n:Nat) (fs:List MV) (q2:Q) (hk:k.evs = [.inst n fs]) (hn:n = 9 ∨ n = 10) (h1:∀ es,JS (fS fl fst) (.inst n fs) q es (sQ (fV fl sm) (.inst n fs) q2 es)) (h2:∀ es,JS (fV fl sm) eV q2 es (sQ (fS fl false) eV q3 es))
    (r1:fst = false → q.rs.length < q2.rs.length) (r2:q2.rs.length < q3.rs.length):PairJ fl fst k q q3
  | co (sm b:Bool) (fs:List MV) (q1 q2:Q) (hk:k.evs = [.inst (cS b) fs,eE b]) (h1:∀ es,(es = [] ∨ es = [eV]) → JS (fS fl fst) (.inst (cS b) fs) q (eE b :: es) (sQ (cF b) (.inst (cS b) fs) q1 (eE b :: es))) (h2:∀ es,JS (cF b) (eE b) q1 es (sQ (fV fl sm) (eE b) q2 es)) (h3:∀ es,JS (fV fl sm) eV q2 es (sQ (fS fl false) eV q3 es))
    (r1:fst = false → q.rs.length < q2.rs.length) (r2:q2.rs.length < q3.rs.length):PairJ fl fst k q q3
theorem fS_now (fl:Bool):∀ n,n = 9 ∨ n = 10 → (fS fl false,n) ∈ nowL:=fun n h=>by
  cases fl <;> rcases h with rfl | rfl
  · exact .tail _ (.head _)
  · exact .tail _ (.tail _ (.head _))
  · exact .tail _ (.tail _ (.tail _ (.head _)))
  · exact .tail _ (.tail _ (.tail _ (.tail _ (.head _))))
theorem fV_now (fl sm:Bool):(fV fl sm,10) ∈ nowL:=by
  cases fl <;> cases sm
  · exact .tail _ (.tail _ (.tail _ (.tail _ (.tail _ (.tail _ (.head _))))))
  · exact .tail _ (.tail _ (.tail _ (.tail _ (.tail _ (.head _)))))
  · exact .tail _ (.tail _ (.tail _ (.tail _ (.tail _ (.tail _ (.tail _ (.tail _ (.head _))))))))
  · exact .tail _ (.tail _ (.tail _ (.tail _ (.tail _ (.tail _ (.tail _ (.head _)))))))
theorem fE_now (fl:Bool):(fS fl false,14) ∈ nowL:=by
  cases fl
  · exact .tail _ (.tail _ (.tail _ (.tail _ (.tail _ (.tail _ (.tail _ (.tail _ (.tail _ (.head _)))))))))
  · exact .tail _ (.tail _ (.tail _ (.tail _ (.tail _ (.tail _ (.tail _ (.tail _ (.tail _ (.tail _ (.head _))))))))))
theorem col_mem (fl b:Bool):((fS fl false,cF b),(cS b,bif b then 12 else 14)) ∈ colL:=by
  cases fl <;> cases b
  · exact .tail _ (.head _)
  · exact .head _
  · exact .tail _ (.tail _ (.tail _ (.head _)))
  · exact .tail _ (.tail _ (.head _))
theorem eE_inst (b:Bool):eE b = .inst (bif b then 12 else 14) [.none,.none]:=by cases b <;> rfl
theorem bonS (fl fst:Bool):bon (fS fl fst) = 1:=by cases fl <;> cases fst <;> rfl
theorem bonV (fl sm:Bool):bon (fV fl sm) = 1:=by cases fl <;> cases sm <;> rfl
theorem hd_mu {f:Nat} {q:Q} {l:List MV} {s':Sto} (h:Hd f q l s'):∃ d r s1,l = d :: r ∧ Nx f q d s1 ∧ 1000 * q.rs.length + bon f < mu s1 ∧ Tr r s1 s':=by
  obtain ⟨d,r,s1,h1,h2,h3,h4⟩:=h
  exact ⟨d,r,s1,h1,h2,by rw [mu_sQ] at h3;simpa using h3,h4⟩
theorem pair_later {fl:Bool} {k:Ky} {q q3:Q} {l:List MV} {s':Sto} (h:PairJ fl false k q q3) (ht:Tr l (sQ (fS fl false) .none q3 []) s'):Hd (fS fl false) q (k.evs ++ (eV :: l)) s':=by
  cases h with
  | sc sm n fs q2 hk hn h1 h2 r1 r2=>
    rw [hk]
    refine ⟨_,_,_,rfl,.inl ⟨n,fs,_,_,q2,rfl,fS_now fl n hn,h1 [],rfl⟩,?_,tr_cons (E1 (p:=(fV fl sm,10)) (fV_now fl sm) (h2 [])) ?_ ht⟩
    · rw [mu_sQ,mu_sQ,bonS,bonV];have:=r1 rfl;omega
    · rw [mu_sQ,mu_sQ,bonS,bonV];omega
  | co sm b fs q1 q2 hk h1 h2 h3 r1 r2=>
    rw [hk]
    have r:=r1 rfl
    refine ⟨_,_,_,rfl,.inr ⟨cS b,fs,by cases b <;> simp [cS],rfl,rfl⟩,?_,tr_cons ?_ ?_ (tr_cons (E1 (p:=(fV fl sm,10)) (fV_now fl sm) (h3 [])) ?_ ht)⟩
    · rw [mu_sQ,mu_sQ];simp only [List.length_cons,List.length_nil];omega
    · have h0:=map_at (e4 30 [.none,.none] fs (eE b) (.inst (cS b) fs) q q1 q2 (fV fl sm)) (col_mem fl b)
      dsimp only at h0
      rw [eE_inst b] at h0 h2 h1 ⊢
      refine je_of h0 fun p m=>?_
      rcases List.mem_cons.mp m with rfl | m
      · exact (h1 [] (.inl rfl)).ok
      rcases List.mem_singleton.mp m with rfl
      exact (h2 []).ok
    · rw [mu_sQ,mu_sQ,bonS,bonV];simp only [List.length_cons,List.length_nil];omega
    · rw [mu_sQ,mu_sQ,bonS,bonV];omega
noncomputable def frA (fl sm:Bool):Nat × (Nat × Nat):=(fS fl true,(fV fl sm,fS fl false))
theorem frA_mem (fl sm:Bool):frA fl sm ∈ frL:=by
  cases fl <;> cases sm
  · exact .tail _ (.head _)
  · exact .head _
  · exact .tail _ (.tail _ (.tail _ (.head _)))
  · exact .tail _ (.tail _ (.head _))
theorem fr1_mem (fl sm:Bool) {c d:Nat} (hc:c = 9 ∨ c = 10) (hd:d = 9 ∨ (d = 10 ∨ d = 14)):(frA fl sm,(c,d)) ∈ fr1:=
  List.mem_flatMap.mpr ⟨_,frA_mem fl sm,List.mem_flatMap.mpr ⟨c,by rcases hc with rfl | rfl;exact .head _;exact .tail _ (.head _),List.mem_map.mpr ⟨d,by rcases hd with rfl | rfl | rfl;exact .head _;exact .tail _ (.head _);exact .tail _ (.tail _ (.head _)),rfl⟩⟩⟩
theorem fr2_mem (fl sm:Bool) {c d:Nat} (hc:c = 9 ∨ c = 10) (hd:d = 11 ∨ d = 13):(frA fl sm,(c,d)) ∈ fr2:=
  List.mem_flatMap.mpr ⟨_,frA_mem fl sm,List.mem_flatMap.mpr ⟨c,by rcases hc with rfl | rfl;exact .head _;exact .tail _ (.head _),List.mem_map.mpr ⟨d,by rcases hd with rfl | rfl;exact .head _;exact .tail _ (.head _),rfl⟩⟩⟩
theorem fr3_mem (fl sm b:Bool):((fS fl true,fV fl sm),(cS b,(bif b then 12 else 14,cF b))) ∈ fr3:=
  List.mem_flatMap.mpr ⟨_,show (fS fl true,fV fl sm) ∈ _ by
    cases fl <;> cases sm
    · exact .tail _ (.head _)
    · exact .head _
    · exact .tail _ (.tail _ (.tail _ (.head _)))
    · exact .tail _ (.tail _ (.head _)),List.mem_map.mpr ⟨(cS b,(bif b then 12 else 14,cF b)),by
    cases b
    · exact .tail _ (.head _)
    · exact .head _,rfl⟩⟩
theorem nx_now {fl:Bool} {n:Nat} (h:(fS fl false,n) ∈ nowL):n = 9 ∨ (n = 10 ∨ n = 14):=by
  have hk:nowL.all (fun p=>bif Nat.beq p.1 35 || Nat.beq p.1 27 then Nat.beq p.2 9 || (Nat.beq p.2 10 || Nat.beq p.2 14) else true) = true:=by decide
  have:=List.all_eq_true.mp hk _ h
  have:(Nat.beq n 9 || (Nat.beq n 10 || Nat.beq n 14)) = true:=by cases fl <;> exact this
  rcases Bool.or_eq_true_iff.mp this with h | h
  · exact .inl (Nat.eq_of_beq_eq_true h)
  · rcases Bool.or_eq_true_iff.mp h with h | h
    · exact .inr (.inl (Nat.eq_of_beq_eq_true h))
    · exact .inr (.inr (Nat.eq_of_beq_eq_true h))
theorem pair_first {fl:Bool} {k:Ky} {q q1 q3:Q} {l fM:List MV} {s':Sto} (h:PairJ fl true k q1 q3) (hM:∀ n fs y z,(n = 9 ∨ (n = 10 ∨ (n = 11 ∨ n = 13))) → JS 18 (.inst 13 fM) q [.inst n fs,y,z] (sQ (fS fl true) (.inst 13 fM) q1 [.inst n fs,y,z])) (hq:q.rs.length < q3.rs.length) (ht:Hd (fS fl false) q3 l s'):Tr (k.evs ++ (eV :: l)) (sQ 18 .none q [.inst 13 fM]) s':=by
  cases h with
  | sc sm n fs q2 hk hn h1 h2 r1 r2=>
    rw [hk]
    obtain ⟨d,r,s1,rfl,hx,hm,ht⟩:=hd_mu ht
    rw [bonS] at hm
    have w1:JE (.inst n fs) (sQ 18 .none q [.inst 13 fM]) (sQ 18 .none q [.inst 13 fM,.inst n fs]):=by
      have m:n ∈ [9,10,11,13]:=by
        rcases hn with rfl | rfl
        · exact .head _
        · exact .tail _ (.head _)
      exact je_t (map_at (e2a 30 fs fM q 18) m)
    have w2:JE eV (sQ 18 .none q [.inst 13 fM,.inst n fs]) (sQ 18 .none q [.inst 13 fM,.inst n fs,eV]):=by
      have m:(n,10) ∈ w2L:=by
        rcases hn with rfl | rfl
        · exact .head _
        · exact .tail _ (.head _)
      have h0:=map_at (e2b 30 [.none,.none,.tup [.bool true,.bool false],.str [118],.none,.none,.none] fM fs q 18) m
      exact je_t h0
    have hn4:n = 9 ∨ (n = 10 ∨ (n = 11 ∨ n = 13)):=by rcases hn with rfl | rfl <;> decide
    refine tr_cons w1 ?_ (tr_cons w2 ?_ (tr_cons ?_ ?_ ht))
    · rw [mu_sQ,mu_sQ];simp only [List.length_cons,List.length_nil];omega
    · rw [mu_sQ,mu_sQ];simp only [List.length_cons,List.length_nil];omega
    · rcases hx with ⟨n',fs',v,f',q4,rfl,m1,m2,rfl⟩ | ⟨n',fs',m1,rfl,rfl⟩
      · have h0:=map_at (e5 30 fs' fM fs [.none,.none,.tup [.bool true,.bool false],.str [118],.none,.none,.none] v (.inst 13 fM) (.inst n fs) eV q q1 q2 q3 q4 f') (fr1_mem fl sm hn (nx_now m1))
        dsimp only [frA] at h0
        refine je_of h0 fun p m=>?_
        rcases List.mem_cons.mp m with rfl | m
        · exact (hM n fs eV (.inst n' fs') hn4).ok
        rcases List.mem_cons.mp m with rfl | m
        · exact (h1 [eV,.inst n' fs']).ok
        rcases List.mem_cons.mp m with rfl | m
        · exact (h2 [.inst n' fs']).ok
        rcases List.mem_singleton.mp m with rfl
        exact m2.ok
      · have h0:=map_at (e6 30 fs' fM fs [.none,.none,.tup [.bool true,.bool false],.str [118],.none,.none,.none] .none (.inst 13 fM) (.inst n fs) eV q q1 q2 q3 q3 0) (fr2_mem fl sm hn m1)
        dsimp only [frA] at h0
        refine je_of h0 fun p m=>?_
        rcases List.mem_cons.mp m with rfl | m
        · exact (hM n fs eV (.inst n' fs') hn4).ok
        rcases List.mem_cons.mp m with rfl | m
        · exact (h1 [eV,.inst n' fs']).ok
        rcases List.mem_singleton.mp m with rfl
        exact (h2 [.inst n' fs']).ok
    · rw [mu_sQ];simp only [List.length_cons,List.length_nil]
      have:=bon_le 18
      have e:bon 18 = 1:=rfl
      omega
  | co sm b fs q4 q2 hk h1 h2 h3 r1 r2=>
    rw [hk]
    have w1:JE (.inst (cS b) fs) (sQ 18 .none q [.inst 13 fM]) (sQ 18 .none q [.inst 13 fM,.inst (cS b) fs]):=by
      have m:cS b ∈ [9,10,11,13]:=by
        cases b
        · exact .tail _ (.tail _ (.tail _ (.head _)))
        · exact .tail _ (.tail _ (.head _))
      exact je_t (map_at (e2a 30 fs fM q 18) m)
    have w2:JE (eE b) (sQ 18 .none q [.inst 13 fM,.inst (cS b) fs]) (sQ 18 .none q [.inst 13 fM,.inst (cS b) fs,eE b]):=by
      have m:(cS b,bif b then 12 else 14) ∈ w2L:=by
        cases b
        · exact .tail _ (.tail _ (.tail _ (.head _)))
        · exact .tail _ (.tail _ (.head _))
      have h0:=map_at (e2b 30 [.none,.none] fM fs q 18) m
      rw [eE_inst b]
      exact je_t h0
    have hn4:cS b = 9 ∨ (cS b = 10 ∨ (cS b = 11 ∨ cS b = 13)):=by cases b <;> decide
    refine tr_cons w1 ?_ (tr_cons w2 ?_ (tr_cons ?_ ?_ (hd_tr ht)))
    · rw [mu_sQ,mu_sQ];simp only [List.length_cons,List.length_nil];omega
    · rw [mu_sQ,mu_sQ];simp only [List.length_cons,List.length_nil];omega
    · have h0:=map_at (e7 30 [.none,.none,.tup [.bool true,.bool false],.str [118],.none,.none,.none] fM fs [.none,.none] eV (.inst 13 fM) (.inst (cS b) fs) (eE b) q q1 q4 q2 q3 (fS fl false)) (fr3_mem fl sm b)
      dsimp only at h0
      rw [eE_inst b] at h0 h2 h1 ⊢
      refine je_of h0 fun p m=>?_
      rcases List.mem_cons.mp m with rfl | m
      · exact (hM (cS b) fs _ eV hn4).ok
      rcases List.mem_cons.mp m with rfl | m
      · exact (h1 [eV] (.inr rfl)).ok
      rcases List.mem_cons.mp m with rfl | m
      · exact (h2 [eV]).ok
      rcases List.mem_singleton.mp m with rfl
      exact (h3 []).ok
    · rw [mu_sQ,mu_sQ,bonS];simp only [List.length_cons,List.length_nil]
      have e:bon 18 = 1:=rfl
      omega
noncomputable def evF (l:List Ky) (r:List MV):List MV:=List.rec (motive:=fun _=>List MV) r (fun k _ ih=>k.evs ++ (eV :: ih)) l
theorem evK1_F:∀ (l:List Ky) (vs r:List MV),evK1 vs l ++ r = vs ++ evF l r
  | [],vs,r=>rfl
  | k :: l,vs,r=>by
    show evK1 (vs ++ (k.evs ++ [eV])) l ++ r = vs ++ (k.evs ++ (eV :: evF l r))
    rw [evK1_F l,List.append_assoc,List.append_assoc];rfl
structure JW (n f:Nat) (as:List MV) (sh:Sto) (r:MV × Sto):Prop where
  of ::
  j:J n f as sh r
theorem JW.run {n m f k:Nat} {lf is:Nat → Bool} {a:Nat → List MV → Sto → MV × Sto} {O:Nat → Ds} {as:List MV} {sh:Sto} {ds:Ds} {g:Bool} {r:MV × Sto} (h:rnJ n lf is a O k f as sh ds = some (g,r)) (hg:g = true) (hn:8 ≤ n) (hm:n + 2 * k ≤ m):JW m f as sh r:=
  .of fun {_} B hT=>J_run' h hg hn hm B hT
noncomputable def EsOk (q:Nat) (es:List MV):Prop:=(q = 2 → es = [eSE] ∨ ∃ v,es = [eSE,v]) ∧ (q = 3 → es = [eME] ∨ ∃ v,es = [eME,v])
noncomputable def smE (q:Nat) (a:Option Tx) (t:Nat) (w:Tx):Bool:=!Nat.ble 4 q && ltq q a t w
theorem t4_mem {t:Nat} (h:t < 4):t ∈ t4:=List.mem_range.mpr h
theorem lt_none {q t:Nat} {w:Tx} (hq:q < 6) (ht:t < 4) (hw:q = 0 → isW w = true):ltq q none t w = true:=by
  have k0:wds.all (fun w=>t4.all fun t=>ltq 0 none t w) = true:=by kernel_rfl
  rcases q with _ | _ | _ | _ | _ | _ | q
  · exact List.all_eq_true.mp (List.all_eq_true.mp k0 _ (isW_mem (hw rfl))) _ (t4_mem ht)
  · exact List.all_eq_true.mp (show t4.all (fun t=>ltq 1 none t w) = true by kernel_rfl) _ (t4_mem ht)
  · exact List.all_eq_true.mp (show t4.all (fun t=>ltq 2 none t w) = true by kernel_rfl) _ (t4_mem ht)
  · exact List.all_eq_true.mp (show t4.all (fun t=>ltq 3 none t w) = true by kernel_rfl) _ (t4_mem ht)
  · exact List.all_eq_true.mp (show t4.all (fun t=>ltq 4 none t w) = true by kernel_rfl) _ (t4_mem ht)
  · exact List.all_eq_true.mp (show t4.all (fun t=>ltq 5 none t w) = true by kernel_rfl) _ (t4_mem ht)
  · omega
theorem c41_mem {q t:Nat} {w:Tx} {a:Option Tx} (hq:q < 6) (ht:t < 4) (hw:q = 0 → isW w = true):∃ A,(a,ltq q a t w) ∈ c41 A ∧ (a.isSome = true → a = some A):=by
  cases a with
  | none=>exact ⟨[],by rw [lt_none hq ht hw];exact .head _,fun e=>noB e⟩
  | some A=>
    refine ⟨A,?_,fun _=>rfl⟩
    cases ltq q (some A) t w
    · exact .tail _ (.tail _ (.head _))
    · exact .tail _ (.head _)
section
variable {W S:Int} {e:Tx} {st:Nat} {ind fl im sty x y z:MV} {rt mp sk ws idn:Bool} {L c:Int} {w:Tx} {ss es is rs:List MV}
theorem j41_of {q:Nat} {a:Option Tx} {t:Nat} (h:k41 W S e st ind fl im sty x y z rt mp sk ws idn L c w ss is rs q es ((a,ltq q a t w),t) = m41 W S e st ind fl im sty x y z rt mp sk ws idn L c w ss is rs q es ((a,ltq q a t w),t)) (ha:∀ A,a = some A → isN (110 :: A) = true) (hw:q = 0 → isW w = true) :
    JW 18 41 [.loc .em] (s41 W S e st ind fl im sty x y z rt mp sk ws idn L c w ss is rs q a t es .none .none .none) (.bool (smE q a t w),s41 W S e st ind fl im sty x y z rt mp sk ws idn L c w ss is rs q a t es (anMV a) (bif Nat.beq q 1 then .none else ptMV t) (anq q w)):=by
  have e1:rs41 q a (ltq q a t w) t w = .bool (smE q a t w):=by
    unfold rs41 smE
    cases ltq q a t w
    · rw [Bool.and_false];rfl
    · rw [Bool.and_true];rfl
  rw [← e1]
  refine JW.run h (csd_of fun p m=>?_) (by decide) (Nat.le_refl _)
  rcases List.mem_append.mp m with m | m
  · cases a with
    | none=>exact (List.not_mem_nil m).elim
    | some A=>rcases List.mem_singleton.mp m with rfl;exact ha A rfl
  rcases List.mem_append.mp m with m | m
  · unfold isW' at m
    by_cases h0:q = 0
    · subst h0
      rcases List.mem_singleton.mp m with rfl;exact hw rfl
    · rw [show Nat.beq q 0 = false from by rw [Bool.eq_false_iff];exact fun z=>h0 (Nat.eq_of_beq_eq_true z)] at m
      exact (List.not_mem_nil m).elim
  · rcases List.mem_singleton.mp m with rfl
    show (ltq q a t w == true) = ltq q a t w
    cases ltq q a t w <;> rfl
theorem L41_mem {q:Nat} {A:Tx} {p:Option Tx × Bool} {t:Nat} (hp:p ∈ c41 A) (ht:t < 4):(p,t) ∈ (c41 A).flatMap fun p=>t4.map fun t=>(p,t):=List.mem_flatMap.mpr ⟨p,hp,List.mem_map.mpr ⟨t,t4_mem ht,rfl⟩⟩
theorem J41 {q:Nat} {a:Option Tx} {t:Nat} (hq:q < 6) (ha:∀ A,a = some A → isN (110 :: A) = true) (hw:q = 0 → isW w = true) (ht:t < 4) (h1:q = 1 → t = 0 ∧ a.isSome = true) (hes:EsOk q es) :
    JW 18 41 [.loc .em] (s41 W S e st ind fl im sty x y z rt mp sk ws idn L c w ss is rs q a t es .none .none .none) (.bool (smE q a t w),s41 W S e st ind fl im sty x y z rt mp sk ws idn L c w ss is rs q a t es (anMV a) (bif Nat.beq q 1 then .none else ptMV t) (anq q w)):=by
  obtain ⟨A,hA,hA2⟩:=c41_mem (a:=a) hq ht hw
  have hm:=L41_mem (q:=q) hA ht
  rcases q with _ | _ | _ | _ | _ | _ | q
  · exact j41_of (map_at (r41_0 W S e st ind fl im sty x y z rt mp sk ws idn L c w A ss es is rs) hm) ha hw
  · obtain ⟨rfl,h2⟩:=h1 rfl
    obtain rfl:=hA2 h2
    refine j41_of (map_at (r41_1 W S e st ind fl im sty x y z rt mp sk ws idn L c w A ss es is rs) ?_) ha hw
    cases ltq 1 (some A) 0 w
    · exact .tail _ (.head _)
    · exact .head _
  · rcases hes.1 rfl with rfl | ⟨v,rfl⟩
    · exact j41_of (map_at (r41_2 W S e st ind fl im sty x y z rt mp sk ws idn L c w A ss is rs) hm) ha hw
    · exact j41_of (map_at (r41_2v W S e st ind fl im sty x y z rt mp sk ws idn L c w A ss is rs v) hm) ha hw
  · rcases hes.2 rfl with rfl | ⟨v,rfl⟩
    · exact j41_of (map_at (r41_3 W S e st ind fl im sty x y z rt mp sk ws idn L c w A ss is rs) hm) ha hw
    · exact j41_of (map_at (r41_3v W S e st ind fl im sty x y z rt mp sk ws idn L c w A ss is rs v) hm) ha hw
  · exact j41_of (map_at (r41_4 W S e st ind fl im sty x y z rt mp sk ws idn L c w A ss es is rs) hm) ha hw
  · exact j41_of (map_at (r41_5 W S e st ind fl im sty x y z rt mp sk ws idn L c w A ss es is rs) hm) ha hw
  · omega
end
theorem pN_n {q:Nat} (h:q < 5) (fl ws:Bool) (a:Option Tx) (g:Nat × Bool) (k:Nat) (w e:Tx) (n:Nat):pN q fl ws a g k w e n = pN q fl ws a g k w e 0:=by
  rcases q with _ | _ | _ | _ | _ | q
  · rfl
  · rfl
  · rfl
  · rfl
  · rfl
  · omega
noncomputable def iB (fl:Bool) (m:Nat):Int:=bif fl then Int.ofNat m else 0
noncomputable def nB (fl:Bool) (m:Nat):Nat:=bif fl then m + m else m
theorem g52_ok {ws:Bool} {n:Nat} (h:n ≤ 1000):g52 ws n = true:=by
  cases ws
  · exact cs_of fun p m=>by rcases List.mem_singleton.mp m with rfl;exact leN_ok (by unfold lim;omega)
  · rfl
theorem g42_ok {ws:Bool} {a:Option Tx} (h:∀ A,a = some A → A.length ≤ 500):g42 ws a = true:=by
  cases a with
  | none=>rfl
  | some A=>
    have:=h A rfl
    refine cs_of fun p m=>?_
    rcases List.mem_cons.mp m with rfl | m
    · exact leN_ok (by rw [List.length_cons];unfold lim;omega)
    rcases List.mem_singleton.mp m with rfl
    exact g52_ok (by rw [List.length_cons,List.length_cons];omega)
section
variable {W S:Int} {e:Tx} {st v:Nat} {i:Int} {rt mp sk:Bool} {L c:Int} {w A:Tx} {es rs:List MV}
theorem gN19_ok {q:Nat} {ws:Bool} {a:Option Tx} (h:∀ A,a = some A → A.length ≤ 500) (hw:q = 0 → isW w = true):gN19 q ws a w = true:=by
  have h1:=g42_ok (ws:=ws) h
  unfold gN19
  by_cases h0:q = 0
  · subst h0
    show cs [g42 ws a,cs [cs [isW w]]] = true
    rw [h1,hw rfl];rfl
  · have:Nat.beq q 0 = false:=Bool.eq_false_iff.mpr fun z=>h0 (Nat.eq_of_beq_eq_true z)
    rw [this,h1]
    cases Nat.beq q 1 <;> rfl
theorem j19_of {q n:Nat} {a:Option Tx} {g:Nat × Bool} {kk:Nat} {b:Cb} (h:k19 W S e st v i rt mp sk L c w rs q n es ((a,g),(kk,b)) = m19 W S e v i L c w rs q n es ((a,g),(kk,b))) (ha:∀ A,a = some A → A.length ≤ 500) (hw:q = 0 → isW w = true) :
    JW 22 19 [.loc .em,.bool false,.bool false,.bool true,.bool b.2.2.2] (s19 W S e st v i rt mp sk L c w es rs q a g kk b) (.none,f19 W S e v i L c w es rs q a g kk n b):=
  JW.run h (gN19_ok ha hw) (by decide) (Nat.le_refl _)
theorem f19_n {q n:Nat} (h:q < 5) {a:Option Tx} {g:Nat × Bool} {kk:Nat} {b:Cb}:f19 W S e v i L c w es rs q a g kk n b = f19 W S e v i L c w es rs q a g kk 0 b:=by
  unfold f19
  rw [pN_n h]
theorem aL_mem' (a:Option Tx):∃ A,a ∈ aL A ∧ (a.isSome = true → a = some A):=by
  cases a with
  | none=>exact ⟨[],.head _,fun e=>noB e⟩
  | some A=>exact ⟨A,.tail _ (.head _),fun _=>rfl⟩
theorem L19m {A:Tx} {a:Option Tx} {g:Nat × Bool} {kk:Nat} {b:Cb} {l1:List Nat} {l2:List Cb} (h1:a ∈ aL A) (h2:g ∈ tgs) (h3:kk ∈ l1) (h4:b ∈ l2):((a,g),(kk,b)) ∈ (aL A).flatMap fun a=>tgs.flatMap fun g=>l1.flatMap fun k=>l2.map fun b=>((a,g),(k,b)):=
  List.mem_flatMap.mpr ⟨a,h1,List.mem_flatMap.mpr ⟨g,h2,List.mem_flatMap.mpr ⟨kk,h3,List.mem_map.mpr ⟨b,h4,rfl⟩⟩⟩⟩
theorem J19 {m q:Nat} {a:Option Tx} {g:Nat × Bool} {kk:Nat} {b:Cb} (hm:m ∈ sL5) (hq:q < 6) (ha:∀ A,a = some A → A.length ≤ 500) (hw:q = 0 → isW w = true) (hg:g ∈ tgs) (h1:q = 1 → g = (0,false) ∧ a.isSome = true) (hk:kk < 3) (hk0:q ≠ 0 → kk = 0) (hb:b ∈ cbs) (hb4:4 ≤ q → b ∈ cbx) (hes:EsOk q es) :
    JW 22 19 [.loc .em,.bool false,.bool false,.bool true,.bool b.2.2.2] (s19 W (Int.ofNat m) e st v (iB b.1 m) rt mp sk L c w es rs q a g kk b) (.none,f19 W (Int.ofNat m) e v (iB b.1 m) L c w es rs q a g kk (nB b.1 m) b):=by
  obtain ⟨A,hA,hA2⟩:=aL_mem' a
  rcases q with _ | _ | _ | _ | _ | _ | q
  · rw [f19_n (by omega)]
    exact j19_of (mp_at (r19_0 W (Int.ofNat m) e st v (iB b.1 m) rt mp sk L c w A es rs) (L19m (l1:=[0,1,2]) hA hg (by
      rcases kk with _ | _ | _ | kk
      · exact .head _
      · exact .tail _ (.head _)
      · exact .tail _ (.tail _ (.head _))
      · omega) hb)) ha hw
  · obtain ⟨rfl,h2⟩:=h1 rfl
    obtain rfl:=hA2 h2
    obtain rfl:=hk0 (by omega)
    rw [f19_n (by omega)]
    exact j19_of (mp_at (r19_1 W (Int.ofNat m) e st v (iB b.1 m) rt mp sk L c w A es rs) (List.mem_map.mpr ⟨b,hb,rfl⟩)) ha hw
  · obtain rfl:=hk0 (by omega)
    rw [f19_n (by omega)]
    have hl:=L19m (l1:=[0]) (kk:=0) hA hg (.head _) hb
    obtain ⟨fl,b⟩:=b
    cases fl
    · have hl2:((a,g),(0,(false,b))) ∈ LbK (L19 2 A):=List.mem_filter.mpr ⟨hl,rfl⟩
      rcases hes.1 rfl with rfl | ⟨y,rfl⟩
      · exact j19_of (mp_at (r19_2b W (Int.ofNat m) e st v (iB false m) rt mp sk L c w A rs) hl2) ha hw
      · exact j19_of (mp_at (r19_2v W (Int.ofNat m) e st v (iB false m) rt mp sk L c w A rs y) hl2) ha hw
    · have hl2:((a,g),(0,(true,b))) ∈ LfK (L19 2 A):=List.mem_filter.mpr ⟨hl,rfl⟩
      exact j19_of (mp_at (r19_2f W (Int.ofNat m) e st v (iB true m) rt mp sk L c w A es rs) hl2) ha hw
  · obtain rfl:=hk0 (by omega)
    rw [f19_n (by omega)]
    have hl:=L19m (l1:=[0]) (kk:=0) hA hg (.head _) hb
    obtain ⟨fl,b⟩:=b
    cases fl
    · have hl2:((a,g),(0,(false,b))) ∈ LbK (L19 3 A):=List.mem_filter.mpr ⟨hl,rfl⟩
      rcases hes.2 rfl with rfl | ⟨y,rfl⟩
      · exact j19_of (mp_at (r19_3b W (Int.ofNat m) e st v (iB false m) rt mp sk L c w A rs) hl2) ha hw
      · exact j19_of (mp_at (r19_3v W (Int.ofNat m) e st v (iB false m) rt mp sk L c w A rs y) hl2) ha hw
    · have hl2:((a,g),(0,(true,b))) ∈ LfK (L19 3 A):=List.mem_filter.mpr ⟨hl,rfl⟩
      exact j19_of (mp_at (r19_3f W (Int.ofNat m) e st v (iB true m) rt mp sk L c w A es rs) hl2) ha hw
  · obtain rfl:=hk0 (by omega)
    rw [f19_n (by omega)]
    have hb:=hb4 (by omega)
    exact j19_of (mp_at (r19_4 W (Int.ofNat m) e st v (iB b.1 m) rt mp sk L c w A es rs) (L19m (l1:=[0]) (kk:=0) hA hg (.head _) hb)) ha hw
  · obtain rfl:=hk0 (by omega)
    have hl:=L19m (l1:=[0]) (kk:=0) hA hg (.head _) (hb4 (by omega))
    obtain ⟨fl,b⟩:=b
    cases fl
    · have hl2:((a,g),(0,(false,b))) ∈ LbK (L19 5 A):=List.mem_filter.mpr ⟨hl,rfl⟩
      have hl3:(m,((a,g),(0,(false,b)))) ∈ L5 (LbK (L19 5 A)):=List.mem_flatMap.mpr ⟨m,hm,List.mem_map.mpr ⟨_,hl2,rfl⟩⟩
      have h:=mp_at (r19_5b W e st v rt mp sk L c w A es rs) hl3
      dsimp only at h
      have h:=j19_of h ha hw
      exact h
    · have hl2:((a,g),(0,(true,b))) ∈ LfK (L19 5 A):=List.mem_filter.mpr ⟨hl,rfl⟩
      have hl3:(m,((a,g),(0,(true,b)))) ∈ L5 (LfK (L19 5 A)):=List.mem_flatMap.mpr ⟨m,hm,List.mem_map.mpr ⟨_,hl2,rfl⟩⟩
      have h:=mp_at (r19_5f W e st v rt mp sk L c w A es rs) hl3
      dsimp only at h
      have h:=j19_of h ha hw
      exact h
  · omega
end
noncomputable def cx5:List Cx3:=cx4 ++ [⟨true,false,true⟩]
theorem JW.mono {n m f:Nat} {as:List MV} {sh:Sto} {r:MV × Sto} (h:JW n f as sh r) (hm:n ≤ m):JW m f as sh r:=.of fun {_} B e=>J.mono h.j hm B e
theorem cL_mem {n:Nat} (sm:Bool) (hn:n ∈ [9,10,11,13]):(sm,n) ∈ cL:=List.mem_flatMap.mpr ⟨sm,by cases sm;exact .tail _ (.head _);exact .head _,List.mem_map.mpr ⟨n,hn,rfl⟩⟩
section
variable {W:Int} {m:Nat} {e:Tx} {L c:Int} {es rs fs:List MV} {pa pt an:MV} {s4:Sto} {x:Cx3} {sm:Bool} {n:Nat}
theorem gKK_ok (hwr:x.fl = true → ltI W (ccK x c) = x.wr) (h41:JW 22 41 [.loc .em] (p1 W m e L c es rs x (.inst n fs) (pre x m e) .none .none .none) (.bool sm,p1 W m e L c es rs x (.inst n fs) (pre x m e) pa pt an))
    (h19:JW 22 19 [.loc .em,.bool false,.bool false,.bool true,.bool sm] (p3 W m e L c es rs x (.inst n fs) (pQ x m e sm) sm pa pt an) (.none,s4)):csd (gKK 22 W e L c es rs fs pa pt an s4 ((x,m),(sm,n))) = true:=by
  refine csd_of fun p mm=>?_
  rcases List.mem_append.mp mm with mm | mm
  · obtain ⟨fl,fst,wr⟩:=x
    cases fl
    · exact (List.not_mem_nil mm).elim
    · have h:=hwr rfl
      dsimp only at h
      rcases List.mem_cons.mp mm with rfl | mm
      · show (ltI W (ccK ⟨true,fst,wr⟩ c) == false) = !wr
        rw [h];cases wr <;> rfl
      · cases wr
        · exact (List.not_mem_nil mm).elim
        · rcases List.mem_singleton.mp mm with rfl
          exact h
  rcases List.mem_cons.mp mm with rfl | mm
  · exact jd_of h41.j
  · rcases List.mem_singleton.mp mm with rfl
    exact jd_of h19.j
theorem kstep (hm:m ∈ sL) (hx:x ∈ cx5) (hn:n ∈ [9,10,11,13]) (hwr:x.fl = true → ltI W (ccK x c) = x.wr) (h41:JW 22 41 [.loc .em] (p1 W m e L c es rs x (.inst n fs) (pre x m e) .none .none .none) (.bool sm,p1 W m e L c es rs x (.inst n fs) (pre x m e) pa pt an))
    (h19:JW 22 19 [.loc .em,.bool false,.bool false,.bool true,.bool sm] (p3 W m e L c es rs x (.inst n fs) (pQ x m e sm) sm pa pt an) (.none,s4)):JW 30 (stN x) (asK x) (pB W m e L c es rs x (.inst n fs)) (.none,s4):=by
  have g:=gKK_ok hwr h41 h19
  have h:kK 22 W e L c es rs fs pa pt an s4 ((x,m),(sm,n)) = mK 22 W e L c es rs fs pa pt an s4 ((x,m),(sm,n)):=by
    rcases List.mem_append.mp hx with hx | hx
    · exact map_at (rK m 22 W e L c es rs fs pa pt an s4) (List.mem_flatMap.mpr ⟨x,hx,List.mem_map.mpr ⟨_,cL_mem sm hn,rfl⟩⟩)
    · rcases List.mem_singleton.mp hx with rfl
      exact map_at (rKw 22 W e L c es rs fs pa pt an s4) (List.mem_flatMap.mpr ⟨m,hm,List.mem_map.mpr ⟨_,cL_mem sm hn,rfl⟩⟩)
  refine JW.run h ?_ (by decide) (Nat.le_refl _)
  rw [g]
  cases (!(((x,m),(sm,n)):(Cx3 × Nat) × (Bool × Nat)).1.1.fl && (((x,m),(sm,n)):(Cx3 × Nat) × (Bool × Nat)).1.1.fst) <;> rfl
end
noncomputable def bX (x:Cx3) (sm:Bool):Cb:=(x.fl,preWs x && sm,(bif sm then idP x else !x.fl),sm)
theorem bX_mem {x:Cx3} (hx:x ∈ cx5) (sm:Bool):bX x sm ∈ cbs:=by
  have hk:cx5.all (fun x=>(bif cbs.contains (bX x true) then true else false) && (bif cbs.contains (bX x false) then true else false)) = true:=by decide
  have h:=List.all_eq_true.mp hk x hx
  cases sm
  · have h:=andR h
    cases hc:cbs.contains (bX x false)
    · rw [hc] at h;exact noB h
    · exact List.contains_iff_mem.mp hc
  · have h:=andL h
    cases hc:cbs.contains (bX x true)
    · rw [hc] at h;exact noB h
    · exact List.contains_iff_mem.mp hc
theorem bX_mem4 {x:Cx3} (hx:x ∈ cx5):bX x false ∈ cbx:=by
  have hk:cx5.all (fun x=>cbx.contains (bX x false)) = true:=by decide
  exact List.contains_iff_mem.mp (List.all_eq_true.mp hk x hx)
structure Kx where
  q:Nat
  kk:Nat
  a:Option Tx
  g:Nat × Bool
  w:Tx
structure Kx.Ok (k:Kx):Prop where
  q:k.q < 6
  kk:k.kk < 3
  k0:k.q ≠ 0 → k.kk = 0
  a:∀ A,k.a = some A → isN (110 :: A) = true ∧ A.length ≤ 200
  w:k.q = 0 → isW k.w = true
  g:k.g ∈ tgs
  h1:k.q = 1 → k.g = (0,false) ∧ k.a.isSome = true
noncomputable def Kx.ev (k:Kx):MV:=evG k.q k.a k.g k.kk k.w
noncomputable def Kx.sm (k:Kx):Bool:=smE k.q k.a k.g.1 k.w
theorem tgs_lt {g:Nat × Bool} (h:g ∈ tgs):g.1 < 4:=by
  have hk:tgs.all (fun g=>Nat.ble g.1 3) = true:=by decide
  have:=Nat.ble_eq.mp (List.all_eq_true.mp hk g h)
  omega
theorem key_ev (k:Kx) (hq:k.q < 6):∃ n fs,k.ev = .inst n fs ∧ n ∈ [9,10,11,13]:=by
  obtain ⟨q,kk,a,g,w⟩:=k
  have hq:q < 6:=hq
  rcases q with _ | _ | _ | _ | _ | _ | q
  · exact ⟨10,_,rfl,.tail _ (.head _)⟩
  · exact ⟨9,_,rfl,.head _⟩
  · exact ⟨11,_,rfl,.tail _ (.tail _ (.head _))⟩
  · exact ⟨13,_,rfl,.tail _ (.tail _ (.tail _ (.head _)))⟩
  · exact ⟨10,_,rfl,.tail _ (.head _)⟩
  · exact ⟨10,_,rfl,.tail _ (.head _)⟩
  · omega
theorem indV_iB (x:Cx3) (m:Nat):indV x (Int.ofNat m) = .int (iB x.fl m):=by
  unfold indV iB
  cases x.fl <;> rfl
section
variable {W:Int} {m:Nat} {e:Tx} {L c:Int} {es rs:List MV} {x:Cx3} {k:Kx}
theorem k41_of (ok:k.Ok) (hes:EsOk k.q es):JW 22 41 [.loc .em] (p1 W m e L c es rs x k.ev (pre x m e) .none .none .none) (.bool k.sm,p1 W m e L c es rs x k.ev (pre x m e) (anMV k.a) (bif Nat.beq k.q 1 then .none else ptMV k.g.1) (anq k.q k.w)):=by
  have hb:∃ im sty z,k.ev = ev k.q k.a k.g.1 im k.w sty .none .none z:=by
    unfold Kx.ev evG
    cases (Nat.beq k.q 2 || Nat.beq k.q 3)
    · exact ⟨_,_,_,rfl⟩
    · exact ⟨_,_,_,rfl⟩
  obtain ⟨im,sty,z,hb⟩:=hb
  have h:=J41 (W:=W) (S:=Int.ofNat m) (e:=e) (st:=stN x) (ind:=indV x (Int.ofNat m)) (fl:=bMV x.fl) (im:=im) (sty:=sty) (x:=.none) (y:=.none) (z:=z) (rt:=x.fst) (mp:=!x.fst) (sk:=false) (ws:=preWs x) (idn:=idP x) (L:=wrL L (pre x m e)) (c:=wrC c (pre x m e)) (w:=k.w) (ss:=[d17]) (es:=es) (is:=[.none]) (rs:=wrR rs (pre x m e)) ok.q (fun A h=>(ok.a A h).1) ok.w (tgs_lt ok.g) (fun z=>⟨by rw [(ok.h1 z).1],(ok.h1 z).2⟩) hes
  unfold s41 at h
  rw [← hb] at h
  exact h.mono (by decide)
theorem key_step (hm:m ∈ sL) (hx:x ∈ cx5) (ok:k.Ok) (hes:EsOk k.q es) (hwr:x.fl = true → ltI W (ccK x c) = x.wr) :
    JW 30 (stN x) (asK x) (pB W m e L c es rs x k.ev) (.none,f19 W (Int.ofNat m) e (vstN x k.sm) (iB x.fl m) (wrL L (pQ x m e k.sm)) (wrC c (pQ x m e k.sm)) k.w es (wrR rs (pQ x m e k.sm)) k.q k.a k.g k.kk (nB x.fl m) (bX x k.sm)):=by
  have h41:=k41_of (W:=W) (m:=m) (e:=e) (L:=L) (c:=c) (rs:=rs) (x:=x) ok hes
  have h19:=J19 (W:=W) (e:=e) (st:=stN x) (v:=vstN x k.sm) (rt:=x.fst) (mp:=!x.fst) (sk:=false) (L:=wrL L (pQ x m e k.sm)) (c:=wrC c (pQ x m e k.sm)) (w:=k.w) (es:=es) (rs:=wrR rs (pQ x m e k.sm)) (m:=m) (q:=k.q) (a:=k.a) (g:=k.g) (kk:=k.kk) (b:=bX x k.sm) hm ok.q (fun A h=>Nat.le_trans (ok.a A h).2 (by decide)) ok.w ok.g ok.h1 ok.kk ok.k0 (bX_mem hx _) (fun h4=>by
    have:k.sm = false:=by
      unfold Kx.sm smE
      rw [Nat.ble_eq.mpr h4];rfl
    rw [this];exact bX_mem4 hx) hes
  unfold s19 at h19
  have h19:JW 22 19 [.loc .em,.bool false,.bool false,.bool true,.bool k.sm] (p3 W m e L c es rs x k.ev (pQ x m e k.sm) k.sm (anMV k.a) (bif Nat.beq k.q 1 then .none else ptMV k.g.1) (anq k.q k.w)) (.none,f19 W (Int.ofNat m) e (vstN x k.sm) (iB x.fl m) (wrL L (pQ x m e k.sm)) (wrC c (pQ x m e k.sm)) k.w es (wrR rs (pQ x m e k.sm)) k.q k.a k.g k.kk (nB x.fl m) (bX x k.sm)):=by
    unfold p3
    rw [indV_iB]
    exact h19
  obtain ⟨n,fs,he,hn⟩:=key_ev k ok.q
  rw [he] at h41 h19 ⊢
  exact kstep hm hx hn hwr h41 h19
end
theorem wrL_app (L:Int) (p q:Pcs):wrL L (p ++ q) = wrL (wrL L p) q:=List.foldl_append
theorem wrC_app (L:Int) (p q:Pcs):wrC L (p ++ q) = wrC (wrC L p) q:=List.foldl_append
theorem wrR_app (L:List MV) (p q:Pcs):wrR L (p ++ q) = wrR (wrR L p) q:=List.foldl_append
theorem wrR_map:∀ (p:Pcs) (L:List MV),wrR L p = L ++ (p.map fun p=>.str p.2)
  | [],L=>(List.append_nil L).symm
  | x :: p,L=>by
    show wrR (L ++ [.str x.2]) p = _
    rw [wrR_map p,List.append_assoc];rfl
theorem wrR_len (L:List MV) (p:Pcs):(wrR L p).length = L.length + p.length:=by
  rw [wrR_map,List.length_append,List.length_map]
section
variable (W:Int) (m:Nat) (e:Tx) (L c:Int) (rs:List MV)
noncomputable def qK (x:Cx3):Q:=⟨0,.none,at_ (En W (Int.ofNat m) e 0 .none (indV x (Int.ofNat m)) (bMV x.fl) x.fst (!x.fst) false L c (x.fl && x.fst) false .none .none .none),[d17],[.none],rs⟩
noncomputable def qA (x:Cx3) (sm idn:Bool):Q:=⟨0,.none,at_ (En W (Int.ofNat m) e 0 .none (indV x (Int.ofNat m)) (bMV x.fl) false true sm L c false idn .none .none .none),[d17],[.none],rs⟩
noncomputable def qC (x:Cx3) (v:Nat) (sm:Bool):Q:=⟨0,.none,at_ (En W (Int.ofNat m) e 0 .none (.int (iB x.fl m + Int.ofNat m)) (.int ((bif x.fl then 1 else 0) + 1)) false true sm L c true false .none .none .none),[d17,.meth v .em],[.none,.int (iB x.fl m)],rs⟩
theorem pB_Q (es:List MV) (x:Cx3) (v:MV):pB W m e L c es rs x v = sQ (stN x) v (qK W m e L c rs x) es:=by kernel_rfl
theorem pA_Q (es:List MV) (x:Cx3) (v:MV) (sm idn:Bool):pA W m e L c es rs x v sm idn = sQ (vstN x sm) v (qA W m e L c rs x sm idn) es:=by kernel_rfl
end
theorem asK_S (x:Cx3):asK x = asS (stN x):=by
  obtain ⟨fl,fst,wr⟩:=x
  cases fl <;> cases fst <;> rfl
theorem asV_S (x:Cx3) (sm:Bool):asS (vstN x sm) = [.loc .em]:=by
  obtain ⟨fl,fst,wr⟩:=x
  cases fl <;> cases sm <;> rfl
theorem js_of {n f:Nat} {as:List MV} {v:MV} {q:Q} {es:List MV} {sh s:Sto} (h:JW n f as sh (.none,s)) (ha:as = asS f) (hs:sh = sQ f v q es) (hn:n ≤ 30):JS f v q es s:=by
  subst ha hs
  exact .of (h.mono hn).j
theorem val_step {W:Int} {m:Nat} {e:Tx} {L c:Int} {es rs:List MV} {fl sm wr idn:Bool} (hm:m ∈ sL) (hg:fl = true → sm = false → ltI W c = wr) (hw:(fl && !sm) = false → wr = false) (hi:idn = true → fl = false ∧ (sm = false ∧ c = 1)) :
    JW 22 (vstN (xL fl) sm) [.loc .em] (pA W m e L c es rs (xL fl) eV sm idn) (.none,pB W m e (wrL L (pV fl sm wr m e)) (wrC c (pV fl sm wr m e)) es (wrR rs (pV fl sm wr m e)) (xL fl) eV):=by
  have g:csd (gV fl sm wr W c) = true:=csd_of fun p mm=>by
    unfold gV at mm
    cases hfs:(fl && !sm) with
    | false=>rw [hfs] at mm;exact (List.not_mem_nil mm).elim
    | true=>
      rw [hfs] at mm
      have h:=hg (andL hfs) (by have:=andR hfs;cases sm;rfl;exact noB this)
      rcases List.mem_cons.mp mm with rfl | mm
      · show (ltI W c == false) = !wr
        rw [h];cases wr <;> rfl
      · cases wr
        · exact (List.not_mem_nil mm).elim
        · rcases List.mem_singleton.mp mm with rfl
          exact h
  cases idn with
  | true=>
    obtain ⟨rfl,rfl,rfl⟩:=hi rfl
    obtain rfl:=hw rfl
    exact JW.run (rV2 W e L es rs m) g (by decide) (Nat.le_refl _)
  | false=>
    cases wr with
    | false=>
      have hk:=map_at (a:=(fl,sm)) (rV1 W e L c es rs m) (by
        cases fl <;> cases sm
        · exact .tail _ (.head _)
        · exact .head _
        · exact .tail _ (.tail _ (.tail _ (.head _)))
        · exact .tail _ (.tail _ (.head _)))
      exact JW.run hk g (by decide) (Nat.le_refl _)
    | true=>
      cases hfs:(fl && !sm) with
      | false=>exact noB (hw hfs).symm
      | true=>
        obtain rfl:=andL hfs
        obtain rfl:sm = false:=by have:=andR hfs;cases sm;rfl;exact noB this
        exact JW.run (map_at (rV3 W e L c es rs) hm) g (by decide) (Nat.le_refl _)
noncomputable def cQ (q:Nat):Bool:=Nat.beq q 2 || Nat.beq q 3
noncomputable def pEn (q:Nat):Pcs:=bif cQ q then pEnd q else []
noncomputable def pNd (x:Cx3) (m:Nat) (e:Tx) (k:Kx):Pcs:=pN k.q x.fl (preWs x && k.sm) k.a k.g k.kk k.w e (nB x.fl m)
noncomputable def pKey (x:Cx3) (m:Nat) (e:Tx) (k:Kx):Pcs:=pQ x m e k.sm ++ (pNd x m e k ++ pEn k.q)
noncomputable def evsX (k:Kx):List MV:=k.ev :: (bif cQ k.q then [eE (Nat.beq k.q 2)] else [])
noncomputable def idK (x:Cx3) (k:Kx):Bool:=bif cQ k.q then false else idQ k.q k.a k.g (bX x k.sm)
section
variable {W:Int} {m:Nat} {e:Tx} {L c:Int} {rs:List MV} {x:Cx3} {k:Kx}
theorem f19_A {es:List MV} (hc:cQ k.q = false):f19 W (Int.ofNat m) e (vstN x k.sm) (iB x.fl m) (wrL L (pQ x m e k.sm)) (wrC c (pQ x m e k.sm)) k.w es (wrR rs (pQ x m e k.sm)) k.q k.a k.g k.kk (nB x.fl m) (bX x k.sm) =
    sQ (vstN x k.sm) k.ev (qA W m e (wrL L (pKey x m e k)) (wrC c (pKey x m e k)) (wrR rs (pKey x m e k)) x k.sm (idK x k)) es:=by
  have hp:pKey x m e k = pQ x m e k.sm ++ pNd x m e k:=by
    unfold pKey pEn
    rw [hc]
    show pQ x m e k.sm ++ (pNd x m e k ++ []) = _
    rw [List.append_nil]
  have hi:idK x k = idQ k.q k.a k.g (bX x k.sm):=by unfold idK;rw [hc];rfl
  rw [hp,hi,← pA_Q,wrL_app,wrC_app,wrR_app]
  unfold f19 pA
  unfold cQ at hc
  rw [hc,indV_iB];rfl
theorem f19_C {es:List MV} (hc:cQ k.q = true):f19 W (Int.ofNat m) e (vstN x k.sm) (iB x.fl m) (wrL L (pQ x m e k.sm)) (wrC c (pQ x m e k.sm)) k.w es (wrR rs (pQ x m e k.sm)) k.q k.a k.g k.kk (nB x.fl m) (bX x k.sm) =
    sQ (cF (Nat.beq k.q 2)) k.ev (qC W m e (wrL L (pQ x m e k.sm ++ pNd x m e k)) (wrC c (pQ x m e k.sm ++ pNd x m e k)) (wrR rs (pQ x m e k.sm ++ pNd x m e k)) x (vstN x k.sm) k.sm) es:=by
  rw [wrL_app,wrC_app,wrR_app]
  unfold f19
  unfold cQ at hc
  rw [hc];kernel_rfl
theorem end_step {es:List MV} {L c:Int} {rs:List MV} {sm:Bool} {q:Nat} (hc:cQ q = true):JW 16 (cF (Nat.beq q 2)) [.loc .em] (sQ (cF (Nat.beq q 2)) (eE (Nat.beq q 2)) (qC W m e L c rs x (vstN x sm) sm) es) (.none,sQ (vstN x sm) (eE (Nat.beq q 2)) (qA W m e (wrL L (pEnd q)) (wrC c (pEnd q)) (wrR rs (pEnd q)) x sm false) es):=by
  have hq:q = 2 ∨ q = 3:=by
    rcases Bool.or_eq_true_iff.mp hc with h | h
    · exact .inl (Nat.eq_of_beq_eq_true h)
    · exact .inr (Nat.eq_of_beq_eq_true h)
  have hl:(x.fl,q) ∈ LEnd:=by
    obtain ⟨fl,fst,wr⟩:=x
    cases fl <;> rcases hq with rfl | rfl
    · exact .tail _ (.tail _ (.head _))
    · exact .tail _ (.tail _ (.tail _ (.head _)))
    · exact .head _
    · exact .tail _ (.head _)
  have h:=JW.run (map_at (rEnd W e L c es rs (Int.ofNat m) (iB x.fl m) (vstN x sm) sm) hl) rfl (by decide) (Nat.le_refl _)
  rw [← pA_Q]
  unfold pA
  rw [indV_iB]
  exact h
end
theorem ev_sc {k:Kx} (hq:k.q < 6) (hc:cQ k.q = false):∃ n fs,k.ev = .inst n fs ∧ (n = 9 ∨ n = 10):=by
  obtain ⟨q,kk,a,g,w⟩:=k
  have hq:q < 6:=hq
  have hc:cQ q = false:=hc
  rcases q with _ | _ | _ | _ | _ | _ | q
  · exact ⟨10,_,rfl,.inr rfl⟩
  · exact ⟨9,_,rfl,.inl rfl⟩
  · exact noB hc.symm
  · exact noB hc.symm
  · exact ⟨10,_,rfl,.inr rfl⟩
  · exact ⟨10,_,rfl,.inr rfl⟩
  · omega
theorem ev_co {k:Kx} (hq:k.q < 6) (hc:cQ k.q = true):∃ fs,k.ev = .inst (cS (Nat.beq k.q 2)) fs:=by
  obtain ⟨q,kk,a,g,w⟩:=k
  have hq:q < 6:=hq
  have hc:cQ q = true:=hc
  rcases q with _ | _ | _ | _ | _ | _ | q
  · exact noB hc
  · exact noB hc
  · exact ⟨_,rfl⟩
  · exact ⟨_,rfl⟩
  · exact noB hc
  · exact noB hc
  · omega
theorem esOk_sc {q:Nat} {es:List MV} (hc:cQ q = false):EsOk q es:=
  ⟨fun h=>by subst h;exact noB hc.symm,fun h=>by subst h;exact noB hc.symm⟩
theorem esOk_co {q:Nat} {es:List MV} (h:es = [] ∨ es = [eV]):EsOk q (eE (Nat.beq q 2) :: es):=
  ⟨fun z=>by subst z;rcases h with rfl | rfl;exact .inl rfl;exact .inr ⟨eV,rfl⟩,fun z=>by subst z;rcases h with rfl | rfl;exact .inl rfl;exact .inr ⟨eV,rfl⟩⟩
theorem pre_pos {x:Cx3} {m:Nat} {e:Tx} (h:x.fst = false):0 < (pre x m e).length:=by
  obtain ⟨fl,fst,wr⟩:=x
  obtain rfl:fst = false:=h
  cases fl
  · exact Nat.zero_lt_one
  · cases wr
    · exact Nat.zero_lt_one
    · exact Nat.zero_lt_succ _
theorem pV_pos (fl sm wr:Bool) (m:Nat) (e:Tx):0 < (pV fl sm wr m e).length:=by
  unfold pV
  rw [List.length_append];simp only [List.length_cons];omega
theorem pKey_pos {x:Cx3} {m:Nat} {e:Tx} {k:Kx} (h:x.fst = false):0 < (pKey x m e k).length:=by
  unfold pKey pQ
  have:=pre_pos (m:=m) (e:=e) h
  rw [List.length_append,List.length_append];omega
theorem pair_ok {W:Int} {m:Nat} {e:Tx} {L c:Int} {rs:List MV} {x:Cx3} {k:Kx} {K:Ky} {wr2:Bool} (hm:m ∈ sL) (hx:x ∈ cx5) (ok:k.Ok) (hwr:x.fl = true → ltI W (ccK x c) = x.wr) (hK:K.evs = evsX k)
    (hg:x.fl = true → k.sm = false → ltI W (wrC c (pKey x m e k)) = wr2) (hw:(x.fl && !k.sm) = false → wr2 = false) (hi:idK x k = true → x.fl = false ∧ (k.sm = false ∧ wrC c (pKey x m e k) = 1)) :
    PairJ x.fl x.fst K (qK W m e L c rs x) (qK W m e (wrL L (pKey x m e k ++ pV x.fl k.sm wr2 m e)) (wrC c (pKey x m e k ++ pV x.fl k.sm wr2 m e)) (wrR rs (pKey x m e k ++ pV x.fl k.sm wr2 m e)) (xL x.fl)):=by
  have hv:∀ es,JS (fV x.fl k.sm) eV (qA W m e (wrL L (pKey x m e k)) (wrC c (pKey x m e k)) (wrR rs (pKey x m e k)) x k.sm (idK x k)) es (sQ (fS x.fl false) eV (qK W m e (wrL L (pKey x m e k ++ pV x.fl k.sm wr2 m e)) (wrC c (pKey x m e k ++ pV x.fl k.sm wr2 m e)) (wrR rs (pKey x m e k ++ pV x.fl k.sm wr2 m e)) (xL x.fl)) es):=fun es=>by
    have h:=val_step (W:=W) (m:=m) (e:=e) (L:=wrL L (pKey x m e k)) (c:=wrC c (pKey x m e k)) (es:=es) (rs:=wrR rs (pKey x m e k)) (fl:=x.fl) (sm:=k.sm) (wr:=wr2) (idn:=idK x k) hm hg hw hi
    rw [pB_Q,pA_Q,← wrL_app,← wrC_app,← wrR_app] at h
    exact js_of h (asV_S _ _).symm rfl (by decide)
  have r1:x.fst = false → rs.length < (wrR rs (pKey x m e k)).length:=fun h=>by
    have:=pKey_pos (m:=m) (e:=e) (k:=k) h
    rw [wrR_len];omega
  have r2:(wrR rs (pKey x m e k)).length < (wrR rs (pKey x m e k ++ pV x.fl k.sm wr2 m e)).length:=by
    have:=pV_pos x.fl k.sm wr2 m e
    rw [wrR_len,wrR_len,List.length_append];omega
  cases hc:cQ k.q with
  | false=>
    obtain ⟨n,fs,he,hn⟩:=ev_sc ok.q hc
    refine .sc k.sm n fs (qA W m e (wrL L (pKey x m e k)) (wrC c (pKey x m e k)) (wrR rs (pKey x m e k)) x k.sm (idK x k)) ?_ hn (fun es=>?_) hv r1 r2
    · rw [hK];unfold evsX;rw [hc,he];rfl
    · have h:=key_step (W:=W) (e:=e) (L:=L) (c:=c) (es:=es) (rs:=rs) hm hx ok (esOk_sc hc) hwr
      rw [f19_A hc,pB_Q,he] at h
      exact js_of h (asK_S x) rfl (by decide)
  | true=>
    obtain ⟨fs,he⟩:=ev_co ok.q hc
    refine .co k.sm (Nat.beq k.q 2) fs (qC W m e (wrL L (pQ x m e k.sm ++ pNd x m e k)) (wrC c (pQ x m e k.sm ++ pNd x m e k)) (wrR rs (pQ x m e k.sm ++ pNd x m e k)) x (vstN x k.sm) k.sm) (qA W m e (wrL L (pKey x m e k)) (wrC c (pKey x m e k)) (wrR rs (pKey x m e k)) x k.sm (idK x k)) ?_ (fun es hes=>?_) (fun es=>?_) hv r1 r2
    · rw [hK];unfold evsX;rw [hc,he];rfl
    · have h:=key_step (W:=W) (e:=e) (L:=L) (c:=c) (es:=eE (Nat.beq k.q 2) :: es) (rs:=rs) hm hx ok (esOk_co hes) hwr
      rw [f19_C hc,pB_Q,he] at h
      exact js_of h (asK_S x) rfl (by decide)
    · have h:=end_step (W:=W) (m:=m) (e:=e) (L:=wrL L (pQ x m e k.sm ++ pNd x m e k)) (c:=wrC c (pQ x m e k.sm ++ pNd x m e k)) (rs:=wrR rs (pQ x m e k.sm ++ pNd x m e k)) (x:=x) (es:=es) (sm:=k.sm) hc
      rw [← wrL_app,← wrC_app,← wrR_app] at h
      have hp:(pQ x m e k.sm ++ pNd x m e k) ++ pEnd k.q = pKey x m e k:=by
        unfold pKey pEn
        rw [hc,List.append_assoc];rfl
      rw [hp] at h
      have hi:idK x k = false:=by unfold idK;rw [hc];rfl
      rw [hi]
      exact js_of h (by cases (Nat.beq k.q 2) <;> rfl) rfl (by decide)
noncomputable def txP (ps:Pcs):Tx:=List.rec (motive:=fun _=>Tx) [] (fun p _ ih=>p.2 ++ ih) ps
theorem txP_app:∀ (p q:Pcs),txP (p ++ q) = txP p ++ txP q
  | [],q=>rfl
  | x :: p,q=>by
    show x.2 ++ txP (p ++ q) = (x.2 ++ txP p) ++ txP q
    rw [txP_app p q,List.append_assoc]
noncomputable def spF (l:List Tx):Tx:=List.rec (motive:=fun _=>Tx) [] (fun x _ ih=>(32 :: x) ++ ih) l
noncomputable def spT (ws:Bool) (l:List Tx):Tx:=List.casesOn (motive:=fun _=>Tx) l [] fun x r=>sepT ws x ++ spF r
theorem spF_app:∀ (l r:List Tx),spF (l ++ r) = spF l ++ spF r
  | [],r=>rfl
  | x :: l,r=>by
    show (32 :: x) ++ spF (l ++ r) = ((32 :: x) ++ spF l) ++ spF r
    rw [spF_app l r,List.append_assoc]
theorem spT_f (l:List Tx):spT false l = spF l:=by cases l <;> rfl
theorem spT_app (ws:Bool) (l r:List Tx):spT ws (l ++ r) = spT ws l ++ spT (ws && l.isEmpty) r:=by
  cases l with
  | nil=>show spT ws r = spT (ws && true) r;rw [Bool.and_true]
  | cons x l=>
    show sepT ws x ++ spF (l ++ r) = (sepT ws x ++ spF l) ++ spT (ws && false) r
    rw [Bool.and_false,spT_f,spF_app,List.append_assoc]
theorem join_spT:∀ l:List Tx,joinX [32] l = spT true l
  | []=>rfl
  | [x]=>(List.append_nil x).symm
  | x :: y :: r=>by
    show x ++ [32] ++ joinX [32] (y :: r) = x ++ spF (y :: r)
    rw [join_spT (y :: r),List.append_assoc];rfl
theorem spT_ft {l:List Tx} (h:l ≠ []):spT false l = 32 :: spT true l:=by
  cases l with
  | nil=>exact absurd rfl h
  | cons x l=>rfl
theorem tx_aP (ws:Bool) (mk:Nat) (a:Option Tx):txP (aP ws mk a) = spT ws (oc a [] fun A=>[mk :: 110 :: A]):=by cases a <;> rfl
theorem tx_tP (ws:Bool) (g:Nat × Bool):txP (tP ws g) = spT ws (bif g.2 then [told g.1] else []):=by
  obtain ⟨t,b⟩:=g
  cases b <;> rfl
theorem hdP_e (ws:Bool) (a:Option Tx) (g:Nat × Bool):(ws && (hdP a g).isEmpty) = wsT ws a g:=by
  obtain ⟨t,b⟩:=g
  cases a <;> cases b <;> rfl
theorem tx_pHd (ws:Bool) (a:Option Tx) (g:Nat × Bool):txP (pHd ws a g) = spT ws (hdP a g):=by
  unfold pHd hdP
  rw [txP_app,spT_app,tx_aP,tx_tP]
  cases a <;> rfl
theorem tx_sep (ws:Bool) (x:Tx):sepT ws x = spT ws [x]:=by cases ws <;> exact (List.append_nil _).symm
theorem tx_pcQ (q:Nat) (ws:Bool) (w:Tx):txP (pcQ q ws w) = sepT ws ([q] ++ w ++ [q]):=by
  cases ws <;> show _ ++ (w ++ ([q] ++ [])) = _ <;> simp [sepT]
theorem tx_pc59 (ws:Bool) (w:Tx):txP (pc59 ws w) = sepT ws w:=by
  cases ws
  · show [32] ++ (w ++ []) = 32 :: w
    rw [List.append_nil];rfl
  · exact List.append_nil w
theorem tx_wP (ws:Bool) (kd:Nat) (g:Nat × Bool) (w:Tx):txP (wP ws kd g w) = spT ws [mkK kd g ++ w ++ mkK kd g]:=by
  rw [← tx_sep]
  unfold wP mkK
  cases Nat.beq kd 2
  · cases (Nat.beq kd 1 || g.2)
    · show txP (pc59 ws w) = sepT ws ([] ++ w ++ [])
      rw [tx_pc59,List.append_nil];rfl
    · exact tx_pcQ 39 ws w
  · exact tx_pcQ 34 ws w
noncomputable def kxOf (k:Ky):Kx:=⟨(qk k.kd).1,(qk k.kd).2,aQ k.kd k.a,bif Nat.beq k.kd 3 then (0,false) else k.g,wS (Int.ofNat k.s)⟩
noncomputable def nI (fl:Bool) (m:Nat):Int:=bif fl then 2 * Int.ofNat m else Int.ofNat m
theorem nI_nB (fl:Bool) (m:Nat):(nI fl m).toNat = nB fl m:=by
  cases fl
  · rfl
  · show (2 * (m:Int)).toNat = m + m
    omega
noncomputable def psK (fl:Bool) (m:Nat) (e:Tx) (k:Ky):List Tx:=ptK k.kd (Int.ofNat k.s) k.a k.g fl (nI fl m) e
theorem tx_nd {x:Cx3} {m:Nat} {e:Tx} {k:Ky} (h:k.kd < 8):txP (pNd x m e (kxOf k) ++ pEn (kxOf k).q) = spT (preWs x && (kxOf k).sm) (psK x.fl m e k):=by
  obtain ⟨kd,s,a,g⟩:=k
  have h:kd < 8:=h
  unfold pNd
  generalize (preWs x && (kxOf ⟨kd,s,a,g⟩).sm) = ws
  generalize x.fl = fl
  rw [txP_app]
  rcases kd with _ | _ | _ | _ | _ | _ | _ | _ | kd
  · show txP (pHd ws a g ++ wP (wsT ws a g) 0 g (wS (Int.ofNat s))) ++ [] = spT ws (hdP a g ++ [mkK 0 g ++ wS (Int.ofNat s) ++ mkK 0 g])
    rw [List.append_nil,txP_app,tx_pHd,spT_app,hdP_e,tx_wP]
  · show txP (pHd ws a g ++ wP (wsT ws a g) 1 g (wS (Int.ofNat s))) ++ [] = spT ws (hdP a g ++ [mkK 1 g ++ wS (Int.ofNat s) ++ mkK 1 g])
    rw [List.append_nil,txP_app,tx_pHd,spT_app,hdP_e,tx_wP]
  · show txP (pHd ws a g ++ wP (wsT ws a g) 2 g (wS (Int.ofNat s))) ++ [] = spT ws (hdP a g ++ [mkK 2 g ++ wS (Int.ofNat s) ++ mkK 2 g])
    rw [List.append_nil,txP_app,tx_pHd,spT_app,hdP_e,tx_wP]
  · show txP (aP ws 42 (aQ 3 a)) ++ [] = spT ws [42 :: anN a]
    rw [List.append_nil,tx_aP]
    cases a <;> rfl
  · show txP (pHd ws a g ++ [(false,sepT (wsT ws a g) [91])]) ++ [93] = spT ws (hdP a g ++ [[91,93]])
    rw [txP_app,tx_pHd,spT_app,hdP_e,List.append_assoc]
    cases wsT ws a g <;> rfl
  · show txP (pHd ws a g ++ [(false,sepT (wsT ws a g) [123])]) ++ [125] = spT ws (hdP a g ++ [[123,125]])
    rw [txP_app,tx_pHd,spT_app,hdP_e,List.append_assoc]
    cases wsT ws a g <;> rfl
  · show txP (pHd ws a g ++ (bif fl || g.2 then [(false,sepT (wsT ws a g) [39]),(false,[39])] else [])) ++ [] = spT ws (bif fl || g.2 then hdP a g ++ [[39,39]] else hdP a g)
    cases (fl || g.2)
    · show txP (pHd ws a g ++ []) ++ [] = spT ws (hdP a g)
      rw [List.append_nil,List.append_nil,tx_pHd]
    · show txP (pHd ws a g ++ [(false,sepT (wsT ws a g) [39]),(false,[39])]) ++ [] = spT ws (hdP a g ++ [[39,39]])
      rw [List.append_nil,txP_app,tx_pHd,spT_app,hdP_e]
      cases wsT ws a g <;> rfl
  · show txP (pHd ws a g ++ [(false,sepT (wsT ws a g) [39]),(false,[97]),(true,e),(true,e),(false,repX [32] (nB fl m)),(false,[98]),(false,[39])]) ++ [] = spT ws (hdP a g ++ [mlK e (nI fl m)])
    rw [List.append_nil,txP_app,tx_pHd,spT_app,hdP_e,← tx_sep]
    unfold mlK
    rw [nI_nB]
    generalize repX [32] (nB fl m) = sp
    cases wsT ws a g
    · show _ ++ ((32 :: [39]) ++ ([97] ++ (e ++ (e ++ (sp ++ ([98] ++ ([39] ++ []))))))) = _ ++ (32 :: (((([39,97] ++ e) ++ e) ++ sp) ++ [98,39]))
      simp only [List.append_assoc,List.cons_append,List.nil_append]
    · show _ ++ ([39] ++ ([97] ++ (e ++ (e ++ (sp ++ ([98] ++ ([39] ++ []))))))) = _ ++ (((([39,97] ++ e) ++ e) ++ sp) ++ [98,39])
      simp only [List.append_assoc,List.cons_append,List.nil_append]
  · omega
theorem tx_key {x:Cx3} {m:Nat} {e:Tx} {k:Ky} (h:k.kd < 8):txP (pKey x m e (kxOf k)) = txP (pre x m e) ++ spT (preWs x) (jn (psK x.fl m e k) (kxOf k).sm):=by
  unfold pKey pQ
  rw [txP_app,txP_app,tx_nd h,List.append_assoc]
  cases (kxOf k).sm with
  | false=>
    show _ ++ ((sepT (preWs x) [63] ++ []) ++ spT (preWs x && false) (psK x.fl m e k)) = _ ++ (sepT (preWs x) [63] ++ spF (psK x.fl m e k))
    rw [Bool.and_false,spT_f,List.append_nil]
  | true=>
    show _ ++ ([] ++ spT (preWs x && true) (psK x.fl m e k)) = _ ++ spT (preWs x) (psK x.fl m e k)
    rw [Bool.and_true];rfl
theorem isW_wS {s:Nat} (h:1 ≤ s ∧ s ≤ 5):isW (wS (Int.ofNat s)) = true:=by
  rcases s with _ | _ | _ | _ | _ | _ | s
  · omega
  · kernel_rfl
  · kernel_rfl
  · kernel_rfl
  · kernel_rfl
  · kernel_rfl
  · omega
theorem wS_len (s:Nat):(wS (Int.ofNat s)).length = s:=repX_len 97 s
theorem qk_lt {kd:Nat} (h:kd < 8):(qk kd).1 < 6 ∧ ((qk kd).2 < 3 ∧ (((qk kd).1 ≠ 0 → (qk kd).2 = 0) ∧ ((qk kd).1 = 1 → kd = 3))):=by
  rcases kd with _ | _ | _ | _ | _ | _ | _ | _ | kd
  · exact ⟨by decide,by decide,by decide,by decide⟩
  · exact ⟨by decide,by decide,by decide,by decide⟩
  · exact ⟨by decide,by decide,by decide,by decide⟩
  · exact ⟨by decide,by decide,by decide,by decide⟩
  · exact ⟨by decide,by decide,by decide,by decide⟩
  · exact ⟨by decide,by decide,by decide,by decide⟩
  · exact ⟨by decide,by decide,by decide,by decide⟩
  · exact ⟨by decide,by decide,by decide,by decide⟩
  · omega
theorem kxOf_ok {k:Ky} (h:k.Ok):(kxOf k).Ok:=by
  obtain ⟨kd,s,a,g⟩:=k
  obtain ⟨h1,h2,h3,h4⟩:=h
  dsimp only at h1 h2 h3 h4
  obtain ⟨q1,q2,q3,q4⟩:=qk_lt h1
  refine ⟨q1,q2,q3,fun A hA=>?_,fun _=>isW_wS h2,?_,fun z=>?_⟩
  · have hA:aQ kd a = some A:=hA
    unfold aQ at hA
    cases h:Nat.beq kd 3 with
    | true=>
      rw [h] at hA
      cases a with
      | none=>obtain rfl:[] = A:=Option.some.inj hA;exact ⟨rfl,Nat.zero_le _⟩
      | some B=>
        obtain rfl:B = A:=Option.some.inj hA
        exact ⟨(h3 B rfl).1,(h3 B rfl).2⟩
    | false=>
      rw [h] at hA
      obtain rfl:a = some A:=hA
      exact ⟨(h3 A rfl).1,(h3 A rfl).2⟩
  · show (bif Nat.beq kd 3 then (0,false) else g) ∈ tgs
    cases Nat.beq kd 3
    · exact h4
    · exact .head _
  · obtain rfl:=q4 z
    exact ⟨rfl,by cases a <;> rfl⟩
theorem cntK_ln (a:Option Tx) (g:Nat × Bool):cntK a g.1 = lnK a g:=by
  obtain ⟨t,b⟩:=g
  have h0:oc a 0 (fun A=>0 + Int.ofNat (110 :: A).length) = Int.ofNat (anTx a).length:=by
    cases a with
    | none=>rfl
    | some A=>exact Int.zero_add _
  unfold cntK lnK
  rw [h0]
  show (bif Nat.beq t 0 then _ else _) = _ + Int.ofNat (told t).length
  cases t with
  | zero=>exact (Int.add_zero _).symm
  | succ t=>rfl
theorem sm_eq {k:Ky} (h:k.kd < 8):smL k.kd (Int.ofNat k.s) k.a k.g = (kxOf k).sm:=by
  obtain ⟨kd,s,a,g⟩:=k
  have h:kd < 8:=h
  have e0:ltI (lnK a g + Int.ofNat s) 128 = ltI (cntK a g.1 + Int.ofNat (wS (Int.ofNat s)).length) 128:=by rw [cntK_ln,wS_len]
  rcases kd with _ | _ | _ | _ | _ | _ | _ | _ | kd
  · exact e0
  · exact e0
  · exact e0
  · show ltI (Int.ofNat (anTx a).length) 128 = ltI (cntK (aQ 3 a) 0) 128
    cases a with
    | none=>rfl
    | some A=>rw [cntK_ln (aQ 3 (some A)) (0,false)];exact congrArg (fun z=>ltI z 128) (Int.add_zero _).symm
  · show ltI (lnK a g) 128 = ltI (cntK a g.1) 128
    rw [cntK_ln]
  · show ltI (lnK a g) 128 = ltI (cntK a g.1) 128
    rw [cntK_ln]
  · rfl
  · rfl
  · omega
theorem hdP_ne (a:Option Tx) (g:Nat × Bool) (y:Tx):hdP a g ++ [y] ≠ []:=by
  intro z
  have:=congrArg List.length z
  rw [List.length_append,List.length_singleton] at this
  exact absurd this (Nat.succ_ne_zero _)
theorem jn_ne {fl:Bool} {m:Nat} {e:Tx} {k:Ky} (h:k.kd < 8):jn (psK fl m e k) (kxOf k).sm ≠ []:=by
  cases hs:(kxOf k).sm with
  | false=>exact List.cons_ne_nil _ _
  | true=>
    obtain ⟨kd,s,a,g⟩:=k
    have h:kd < 8:=h
    show psK fl m e ⟨kd,s,a,g⟩ ≠ []
    rcases kd with _ | _ | _ | _ | _ | _ | _ | _ | kd
    · exact hdP_ne _ _ _
    · exact hdP_ne _ _ _
    · exact hdP_ne _ _ _
    · exact List.cons_ne_nil _ _
    · exact hdP_ne _ _ _
    · exact hdP_ne _ _ _
    · exact noB hs
    · exact noB hs
    · omega
theorem tx_pairB {m:Nat} {e:Tx} {fst wr:Bool} {k:Ky} (h:k.kd < 8):txP (pKey ⟨false,fst,wr⟩ m e (kxOf k) ++ pV false (kxOf k).sm false m e) = d68 e (psK false m e k) (kxOf k).sm:=by
  rw [txP_app,tx_key h]
  show ((e ++ []) ++ spT true (jn (psK false m e k) (kxOf k).sm)) ++ _ = _
  rw [← join_spT,List.append_nil]
  unfold d68
  show (e ++ jX (psK false m e k) (kxOf k).sm) ++ _ = _
  cases (kxOf k).sm
  · show (e ++ jX (psK false m e k) false) ++ (e ++ [58,32,118]) = ((e ++ jX (psK false m e k) false) ++ e) ++ [58,32,118]
    rw [List.append_assoc,List.append_assoc,List.append_assoc]
  · rfl
theorem tx_keyF {m:Nat} {e T:Tx} {j:Nat} {w1:Bool} {k:Ky} (h:k.kd < 8):T ++ txP (pKey ⟨true,!lat j,lat j && w1⟩ m e (kxOf k)) = u2 j w1 e (Int.ofNat m) T ++ jX (psK true m e k) (kxOf k).sm:=by
  rw [tx_key h]
  have hn:=jn_ne (fl:=true) (m:=m) (e:=e) h
  show _ ++ (_ ++ spT _ (jn (psK true m e k) (kxOf k).sm)) = _ ++ joinX [32] (jn (psK true m e k) (kxOf k).sm)
  rw [join_spT]
  generalize jn (psK true m e k) (kxOf k).sm = l at hn
  unfold u2
  cases lat j with
  | false=>rfl
  | true=>
    cases w1 with
    | true=>
      show T ++ (([44] ++ (e ++ (repX [32] m ++ []))) ++ spT true l) = ((T ++ [44]) ++ (e ++ repX [32] m)) ++ spT true l
      simp only [List.append_assoc,List.append_nil]
    | false=>
      show T ++ (([44] ++ []) ++ spT false l) = ((T ++ [44]) ++ [32]) ++ spT true l
      rw [spT_ft hn]
      simp only [List.append_assoc,List.append_nil,List.cons_append,List.nil_append]
theorem tx_pairF {m:Nat} {e T:Tx} {j:Nat} {w1 w2:Bool} {k:Ky} (h:k.kd < 8):T ++ txP (pKey ⟨true,!lat j,lat j && w1⟩ m e (kxOf k) ++ pV true (kxOf k).sm w2 m e) = u4 (kxOf k).sm w2 e (Int.ofNat m) (u3 (kxOf k).sm (psK true m e k) (u2 j w1 e (Int.ofNat m) T)):=by
  rw [txP_app,← List.append_assoc,tx_keyF h]
  generalize u2 j w1 e (Int.ofNat m) T = T2
  unfold u3 u4
  cases (kxOf k).sm with
  | true=>
    show (T2 ++ jX (psK true m e k) true) ++ [58,32,118] = T2 ++ (jX (psK true m e k) true ++ [58,32,118])
    rw [List.append_assoc]
  | false=>
    cases w2
    · rfl
    · show (T2 ++ jX (psK true m e k) false) ++ (e ++ (repX [32] m ++ [58,32,118])) = (T2 ++ jX (psK true m e k) false) ++ ((e ++ repX [32] m) ++ [58,32,118])
      rw [List.append_assoc e]
noncomputable def NF (t:Tx):Prop:=∀ x ∈ t,13 < x
theorem nf_nil:NF []:=fun x m=>(List.not_mem_nil m).elim
theorem nf_cons {a:Nat} {t:Tx} (h:13 < a) (ht:NF t):NF (a :: t):=fun x m=>by
  rcases List.mem_cons.mp m with rfl | m
  · exact h
  · exact ht x m
theorem nf_rep {a:Nat} (h:13 < a):∀ n,NF (repX [a] n)
  | 0=>nf_nil
  | n + 1=>nf_cons h (nf_rep h n)
theorem nf_sep {ws:Bool} {t:Tx} (h:NF t):NF (sepT ws t):=by
  cases ws
  · exact nf_cons (by decide) h
  · exact h
theorem nf_isN {A:Tx} (h:isN A = true):NF A:=fun x m=>by
  have:=List.all_eq_true.mp h x m
  rw [← Nat.eq_of_beq_eq_true this];decide
theorem nf_told (t:Nat):NF (told t):=by
  have hk:tagL.all (fun p=>p.2.all fun c=>Nat.ble 14 c) = true:=by decide
  unfold told
  rw [nth_eq]
  cases h:tagL[t]? with
  | none=>exact nf_nil
  | some p=>
    have h1:=List.all_eq_true.mp hk p (List.mem_of_getElem? h)
    exact fun x m=>by have:=Nat.ble_eq.mp (List.all_eq_true.mp h1 x m);omega
theorem eL_lo {e:Tx} (he:e ∈ eL):∀ x ∈ e,x ≤ 13:=by
  have hk:eL.all (fun e=>e.all fun c=>Nat.ble c 13) = true:=by decide
  exact fun x m=>Nat.ble_eq.mp (List.all_eq_true.mp (List.all_eq_true.mp hk e he) x m)
theorem nf_not {e t:Tx} (he:e ∈ eL) (h:NF t):∀ x ∈ t,x ∉ e:=fun x m z=>by
  have:=eL_lo he x z
  have:=h x m;omega
noncomputable def PcOk (e:Tx) (ps:Pcs):Prop:=∀ p ∈ ps,(p.1 = true ∧ p.2 = e) ∨ (p.1 = false ∧ NF p.2)
theorem po_nil {e:Tx}:PcOk e []:=fun p m=>(List.not_mem_nil m).elim
theorem po_nl {e:Tx} {ps:Pcs} (h:PcOk e ps):PcOk e ((true,e) :: ps):=fun p m=>by
  rcases List.mem_cons.mp m with rfl | m
  · exact .inl ⟨rfl,rfl⟩
  · exact h p m
theorem po_tx {e t:Tx} {ps:Pcs} (ht:NF t) (h:PcOk e ps):PcOk e ((false,t) :: ps):=fun p m=>by
  rcases List.mem_cons.mp m with rfl | m
  · exact .inr ⟨rfl,ht⟩
  · exact h p m
theorem po_app {e:Tx} {ps qs:Pcs} (h:PcOk e ps) (h2:PcOk e qs):PcOk e (ps ++ qs):=fun p m=>by
  rcases List.mem_append.mp m with m | m
  · exact h p m
  · exact h2 p m
noncomputable def wcN (c:Nat) (ps:Pcs):Nat:=ps.foldl (fun c p=>bif p.1 then 0 else c + p.2.length) c
theorem wrC_N:∀ (ps:Pcs) (c:Nat),wrC (Int.ofNat c) ps = Int.ofNat (wcN c ps)
  | [],_=>rfl
  | (b,t) :: ps,c=>by
    cases b
    · exact wrC_N ps (c + t.length)
    · exact wrC_N ps 0
theorem col_ps {e:Tx} (he:e ∈ eL):∀ (ps:Pcs) {T:Tx} {c:Nat},Col e T c → PcOk e ps → Col e (T ++ txP ps) (wcN c ps)
  | [],T,c,h,_=>by
    show Col e (T ++ []) c
    rw [List.append_nil];exact h
  | (b,t) :: ps,T,c,h,hp=>by
    have h2:PcOk e ps:=fun p m=>hp p (.tail _ m)
    show Col e (T ++ (t ++ txP ps)) _
    rw [← List.append_assoc]
    rcases hp (b,t) (.head _) with ⟨rfl,rfl⟩ | ⟨rfl,h3⟩
    · exact col_ps he ps Col.nl h2
    · exact col_ps he ps (h.app (nf_not he h3)) h2
theorem eL_or {e:Tx} (he:e ∈ eL):e = [10] ∨ e = [13] ∨ e = [13,10]:=by
  rcases List.mem_cons.mp he with rfl | he
  · exact .inl rfl
  rcases List.mem_cons.mp he with rfl | he
  · exact .inr (.inl rfl)
  rcases List.mem_cons.mp he with rfl | he
  · exact .inr (.inr rfl)
  exact (List.not_mem_nil he).elim
theorem colT_of {e T:Tx} {c:Nat} (he:e ∈ eL) (h:Col e T c):colT T e = Int.ofNat c:=by
  obtain ⟨Q,h1,h2⟩:=col_last h (eL_or he)
  have:=(last_some he).symm.trans h1
  unfold colT
  rw [Option.some.inj this,h2]
theorem po_pre (x:Cx3) (m:Nat) (e:Tx):PcOk e (pre x m e):=by
  obtain ⟨fl,fst,wr⟩:=x
  cases fl
  · exact po_nl po_nil
  · cases fst
    · cases wr
      · exact po_tx (nf_cons (by decide) nf_nil) po_nil
      · exact po_tx (nf_cons (by decide) nf_nil) (po_nl (po_tx (nf_rep (by decide) m) po_nil))
    · exact po_nil
theorem po_qP (e:Tx) (ws sm:Bool):PcOk e (qP ws sm):=by
  cases sm
  · exact po_tx (nf_sep (nf_cons (by decide) nf_nil)) po_nil
  · exact po_nil
theorem po_aP {e:Tx} {ws:Bool} {mk:Nat} {a:Option Tx} (hm:13 < mk) (ha:∀ A,a = some A → isN (110 :: A) = true):PcOk e (aP ws mk a):=by
  cases a with
  | none=>exact po_nil
  | some A=>exact po_tx (nf_sep (nf_cons hm (nf_isN (ha A rfl)))) po_nil
theorem po_tP {e:Tx} {ws:Bool} {g:Nat × Bool}:PcOk e (tP ws g):=by
  obtain ⟨t,b⟩:=g
  cases b
  · exact po_nil
  · exact po_tx (nf_sep (nf_told t)) po_nil
theorem po_pcQ {e:Tx} {q:Nat} {ws:Bool} {w:Tx} (hq:13 < q) (hw:NF w):PcOk e (pcQ q ws w):=by
  refine po_tx ?_ (po_tx hw (po_tx (nf_cons hq nf_nil) po_nil))
  cases ws
  · exact nf_cons (by decide) (nf_cons hq nf_nil)
  · exact nf_cons hq nf_nil
theorem po_pc59 {e:Tx} {ws:Bool} {w:Tx} (hw:NF w):PcOk e (pc59 ws w):=by
  cases ws
  · exact po_tx (nf_cons (by decide) nf_nil) (po_tx hw po_nil)
  · exact po_tx hw po_nil
theorem po_wP {e:Tx} {ws:Bool} {k:Nat} {g:Nat × Bool} {w:Tx} (hw:NF w):PcOk e (wP ws k g w):=by
  unfold wP
  cases Nat.beq k 2
  · cases (Nat.beq k 1 || g.2)
    · exact po_pc59 hw
    · exact po_pcQ (by decide) hw
  · exact po_pcQ (by decide) hw
theorem po_nd {x:Cx3} {m:Nat} {e:Tx} {k:Kx} (ok:k.Ok) (hw:NF k.w):PcOk e (pNd x m e k ++ pEn k.q):=by
  obtain ⟨q,kk,a,g,w⟩:=k
  have hq:q < 6:=ok.q
  have ha:∀ A,a = some A → isN (110 :: A) = true:=fun A h=>(ok.a A h).1
  have hw:NF w:=hw
  unfold pNd
  generalize (preWs x && Kx.sm ⟨q,kk,a,g,w⟩) = ws
  have hd:PcOk e (pHd ws a g):=po_app (po_aP (by decide) ha) po_tP
  rcases q with _ | _ | _ | _ | _ | _ | q
  · exact po_app (po_app hd (po_wP hw)) po_nil
  · exact po_app (po_aP (by decide) ha) po_nil
  · exact po_app (po_app hd (po_tx (nf_sep (nf_cons (by decide) nf_nil)) po_nil)) (po_tx (nf_cons (by decide) nf_nil) po_nil)
  · exact po_app (po_app hd (po_tx (nf_sep (nf_cons (by decide) nf_nil)) po_nil)) (po_tx (nf_cons (by decide) nf_nil) po_nil)
  · refine po_app (po_app hd ?_) po_nil
    show PcOk e (bif emQ x.fl g then [(false,sepT (wsT ws a g) [39]),(false,[39])] else [])
    cases emQ x.fl g
    · exact po_nil
    · exact po_tx (nf_sep (nf_cons (by decide) nf_nil)) (po_tx (nf_cons (by decide) nf_nil) po_nil)
  · exact po_app (po_app hd (po_tx (nf_sep (nf_cons (by decide) nf_nil)) (po_tx (nf_cons (by decide) nf_nil) (po_nl (po_nl (po_tx (nf_rep (by decide) _) (po_tx (nf_cons (by decide) nf_nil) (po_tx (nf_cons (by decide) nf_nil) po_nil)))))))) po_nil
  · omega
theorem po_key {x:Cx3} {m:Nat} {e:Tx} {k:Kx} (ok:k.Ok) (hw:NF k.w):PcOk e (pKey x m e k):=po_app (po_app (po_pre x m e) (po_qP e _ _)) (po_nd ok hw)
theorem po_pV (fl sm wr:Bool) (m:Nat) (e:Tx):PcOk e (pV fl sm wr m e):=by
  have h1:PcOk e [(false,[32]),(false,[118])]:=po_tx (nf_cons (by decide) nf_nil) (po_tx (nf_cons (by decide) nf_nil) po_nil)
  refine po_app ?_ h1
  cases sm
  · cases fl
    · exact po_nl (po_tx (nf_cons (by decide) nf_nil) po_nil)
    · cases wr
      · exact po_tx (nf_cons (by decide) (nf_cons (by decide) nf_nil)) po_nil
      · exact po_nl (po_tx (nf_rep (by decide) _) (po_tx (nf_cons (by decide) nf_nil) po_nil))
  · exact po_tx (nf_cons (by decide) nf_nil) po_nil
noncomputable def kpOf (fl:Bool) (m:Nat) (e:Tx) (k:Ky):Kp:=⟨k.mv,psK fl m e k,smL k.kd (Int.ofNat k.s) k.a k.g⟩
noncomputable def nxL (fl:Bool) (m:Nat) (W:Int) (e:Tx) (j:Nat) (T:Tx) (k:Kp):Tx:=bif fl then nx69 (Int.ofNat m) W e j T k else T ++ d68 e k.ps k.sm
theorem evs_kx {k:Ky} (h:k.kd < 8):k.evs = evsX (kxOf k):=by
  obtain ⟨kd,s,a,g⟩:=k
  have h:kd < 8:=h
  rcases kd with _ | _ | _ | _ | _ | _ | _ | _ | kd
  · rfl
  · rfl
  · rfl
  · rfl
  · rfl
  · rfl
  · rfl
  · rfl
  · omega
theorem id_fl {fst wr:Bool} {k:Kx}:idK ⟨true,fst,wr⟩ k = false:=by
  obtain ⟨q,kk,a,g,w⟩:=k
  show (bif cQ q then false else (Nat.beq q 4 && (!(true || g.2) && _))) = false
  cases cQ q
  · show (Nat.beq q 4 && false) = false
    rw [Bool.and_false]
  · rfl
theorem id_blk {fst wr:Bool} {m c:Nat} {e:Tx} {k:Kx} (h:idK ⟨false,fst,wr⟩ k = true):k.sm = false ∧ wrC (Int.ofNat c) (pKey ⟨false,fst,wr⟩ m e k) = 1:=by
  obtain ⟨q,kk,a,⟨t,b⟩,w⟩:=k
  have h:(bif cQ q then false else (Nat.beq q 4 && (!(false || b) && (a.isNone && _)))) = true:=h
  cases hc:cQ q with
  | true=>rw [hc] at h;exact noB h
  | false=>
    rw [hc] at h
    have h4:=andL (a:=Nat.beq q 4) h
    have h2:=andR (a:=Nat.beq q 4) h
    have h5:=andL (a:=!(false || b)) h2
    have h6:=andL (a:=a.isNone) (andR (a:=!(false || b)) h2)
    obtain rfl:q = 4:=Nat.eq_of_beq_eq_true h4
    cases b with
    | true=>exact noB h5
    | false=>
      cases a with
      | some A=>exact noB h6
      | none=>exact ⟨rfl,rfl⟩
theorem nf_wS (s:Int):NF (wS s):=nf_rep (by decide) _
theorem oc_le {a:Option Tx} {f:Tx → Pcs} (h:∀ A,(f A).length ≤ 1):(oc a [] f).length ≤ 1:=by
  cases a with
  | none=>exact Nat.zero_le _
  | some A=>exact h A
theorem pHd_len (ws:Bool) (a:Option Tx) (g:Nat × Bool):(pHd ws a g).length ≤ 2:=by
  obtain ⟨t,b⟩:=g
  cases a <;> cases b <;> simp [pHd,aP,tP,oc]
theorem wP_len (ws:Bool) (k:Nat) (g:Nat × Bool) (w:Tx):(wP ws k g w).length ≤ 3:=by
  unfold wP
  cases Nat.beq k 2
  · cases (Nat.beq k 1 || g.2)
    · cases ws <;> exact Nat.le_of_ble_eq_true rfl
    · exact Nat.le_refl 3
  · exact Nat.le_refl 3
theorem pNd_len {x:Cx3} {m:Nat} {e:Tx} {k:Kx} (hq:k.q < 6):(pNd x m e k ++ pEn k.q).length ≤ 10:=by
  obtain ⟨q,kk,a,g,w⟩:=k
  have hq:q < 6:=hq
  unfold pNd
  generalize (preWs x && Kx.sm ⟨q,kk,a,g,w⟩) = ws
  have hd:=pHd_len ws a g
  have hw:=wP_len (wsT ws a g) kk g w
  rw [List.length_append]
  rcases q with _ | _ | _ | _ | _ | _ | q
  · show (pHd ws a g ++ wP (wsT ws a g) kk g w).length + 0 ≤ 10
    rw [List.length_append];omega
  · show (aP ws 42 a).length + 0 ≤ 10
    have:(aP ws 42 a).length ≤ 1:=oc_le fun A=>Nat.le_refl _
    omega
  · show (pHd ws a g ++ [_]).length + 1 ≤ 10
    rw [List.length_append,List.length_singleton];omega
  · show (pHd ws a g ++ [_]).length + 1 ≤ 10
    rw [List.length_append,List.length_singleton];omega
  · show (pHd ws a g ++ (bif emQ x.fl g then [(false,sepT (wsT ws a g) [39]),(false,[39])] else [])).length + 0 ≤ 10
    rw [List.length_append]
    cases emQ x.fl g
    · show _ + 0 + 0 ≤ 10;omega
    · show _ + 2 + 0 ≤ 10;omega
  · show (pHd ws a g ++ _).length + 0 ≤ 10
    rw [List.length_append]
    show _ + 7 + 0 ≤ 10;omega
  · omega
theorem pKey_len {x:Cx3} {m:Nat} {e:Tx} {k:Kx} (hq:k.q < 6):(pKey x m e k).length ≤ 14:=by
  have h1:=pNd_len (x:=x) (m:=m) (e:=e) hq
  have h2:(pre x m e).length ≤ 3:=by
    obtain ⟨fl,fst,wr⟩:=x
    cases fl
    · exact Nat.le_of_ble_eq_true rfl
    · cases fst
      · cases wr <;> exact Nat.le_of_ble_eq_true rfl
      · exact Nat.le_of_ble_eq_true rfl
  have h3:(qP (preWs x) k.sm).length ≤ 1:=by cases k.sm <;> exact Nat.le_of_ble_eq_true rfl
  unfold pKey pQ
  rw [List.length_append,List.length_append];omega
theorem pV_len (fl sm wr:Bool) (m:Nat) (e:Tx):(pV fl sm wr m e).length ≤ 5:=by
  cases fl <;> cases sm <;> cases wr <;> exact Nat.le_of_ble_eq_true rfl
theorem pair_full {fl:Bool} {m j c:Nat} {W:Int} {e T:Tx} {L:Int} {rs:List MV} {k:Ky} (hm:m ∈ sL) (he:e ∈ eL) (ok:k.Ok) (hC:Col e T c) (h0:lat j = false → fl = true → ltI W (Int.ofNat c) = false) :
    ∃ ps,PairJ fl (!lat j) k (qK W m e L (Int.ofNat c) rs ⟨fl,!lat j,false⟩) (qK W m e (wrL L ps) (Int.ofNat (wcN c ps)) (wrR rs ps) (xL fl)) ∧ (T ++ txP ps = nxL fl m W e j T (kpOf fl m e k) ∧ (Col e (T ++ txP ps) (wcN c ps) ∧ (0 < ps.length ∧ ps.length ≤ 20))):=by
  have okx:=kxOf_ok ok
  cases fl with
  | false=>
    refine ⟨pKey ⟨false,!lat j,false⟩ m e (kxOf k) ++ pV false (kxOf k).sm false m e,?_,?_,col_ps he _ hC (po_app (po_key okx (nf_wS _)) (po_pV _ _ _ _ _)),?_⟩
    · have h:=pair_ok (W:=W) (m:=m) (e:=e) (L:=L) (c:=Int.ofNat c) (rs:=rs) (x:=⟨false,!lat j,false⟩) (k:=kxOf k) (K:=k) (wr2:=false) hm (by
        cases lat j
        · exact .head _
        · exact .tail _ (.head _)) okx (fun z=>noB z) (evs_kx ok.kd) (fun z=>noB z) (fun _=>rfl) (fun z=>⟨rfl,id_blk z⟩)
      rw [wrC_N] at h
      exact h
    · rw [tx_pairB ok.kd,← sm_eq ok.kd];rfl
    · rw [List.length_append];have:=pV_pos false (kxOf k).sm false m e;have:=pV_len false (kxOf k).sm false m e;have:=pKey_len (x:=⟨false,!lat j,false⟩) (m:=m) (e:=e) okx.q;omega
  | true=>
    have hC1:=col_ps he (pKey ⟨true,!lat j,lat j && w1T W e T⟩ m e (kxOf k)) hC (po_key okx (nf_wS _))
    refine ⟨pKey ⟨true,!lat j,lat j && w1T W e T⟩ m e (kxOf k) ++ pV true (kxOf k).sm (!(kxOf k).sm && ltI W (Int.ofNat (wcN c (pKey ⟨true,!lat j,lat j && w1T W e T⟩ m e (kxOf k))))) m e,?_,?_,col_ps he _ hC (po_app (po_key okx (nf_wS _)) (po_pV _ _ _ _ _)),?_⟩
    · have h:=pair_ok (W:=W) (m:=m) (e:=e) (L:=L) (c:=Int.ofNat c) (rs:=rs) (x:=⟨true,!lat j,lat j && w1T W e T⟩) (k:=kxOf k) (K:=k) (wr2:=(!(kxOf k).sm && ltI W (Int.ofNat (wcN c (pKey ⟨true,!lat j,lat j && w1T W e T⟩ m e (kxOf k)))))) hm (by
        cases lat j
        · exact .tail _ (.tail _ (.head _))
        · cases w1T W e T
          · exact .tail _ (.tail _ (.tail _ (.head _)))
          · exact .tail _ (.tail _ (.tail _ (.tail _ (.head _))))) okx (fun _=>by
        cases hl:lat j with
        | false=>exact h0 hl rfl
        | true=>
          show ltI W (Int.ofNat c + 1) = w1T W e T
          unfold w1T
          rw [colT_of he (hC.app (nf_not he (nf_cons (by decide) nf_nil)))];rfl) (evs_kx ok.kd) (fun _ hs=>by
        rw [wrC_N,hs];rfl) (fun z=>by
        cases hs:(kxOf k).sm with
        | true=>rfl
        | false=>rw [hs] at z;exact noB z.symm) (fun z=>by rw [id_fl] at z;exact noB z)
      rw [wrC_N] at h
      exact h
    · rw [tx_pairF ok.kd]
      show _ = u4 (smL k.kd (Int.ofNat k.s) k.a k.g) (w2T (Int.ofNat m) W e j T (kpOf true m e k)) e (Int.ofNat m) (u3 (smL k.kd (Int.ofNat k.s) k.a k.g) (psK true m e k) (u2 j (w1T W e T) e (Int.ofNat m) T))
      rw [sm_eq ok.kd]
      cases hs:(kxOf k).sm with
      | true=>rfl
      | false=>
        have hw:w2T (Int.ofNat m) W e j T (kpOf true m e k) = (!false && ltI W (Int.ofNat (wcN c (pKey ⟨true,!lat j,lat j && w1T W e T⟩ m e (kxOf k))))):=by
          rw [tx_keyF ok.kd,hs] at hC1
          show ltI W (colT (u3 (smL k.kd (Int.ofNat k.s) k.a k.g) (psK true m e k) (u2 j (w1T W e T) e (Int.ofNat m) T)) e) = ltI W _
          rw [sm_eq ok.kd,hs]
          exact congrArg (ltI W) (colT_of he hC1)
        rw [hw]
    · rw [List.length_append];have:=pV_pos true (kxOf k).sm (!(kxOf k).sm && ltI W (Int.ofNat (wcN c (pKey ⟨true,!lat j,lat j && w1T W e T⟩ m e (kxOf k))))) m e;have:=pV_len true (kxOf k).sm (!(kxOf k).sm && ltI W (Int.ofNat (wcN c (pKey ⟨true,!lat j,lat j && w1T W e T⟩ m e (kxOf k))))) m e;have:=pKey_len (x:=⟨true,!lat j,lat j && w1T W e T⟩) (m:=m) (e:=e) okx.q;omega
noncomputable def RowsT (rs:List MV) (T:Tx):Prop:=∃ ts:List Tx,rs = ts.map .str ∧ joinX [] ts = T
theorem joinX_app:∀ (a b:List Tx),joinX [] (a ++ b) = joinX [] a ++ joinX [] b
  | [],b=>rfl
  | [x],[]=>(List.append_nil x).symm
  | [x],y :: r=>by
    show x ++ [] ++ joinX [] (y :: r) = x ++ joinX [] (y :: r)
    rw [List.append_nil]
  | x :: y :: r,b=>by
    show x ++ [] ++ joinX [] ((y :: r) ++ b) = (x ++ [] ++ joinX [] (y :: r)) ++ joinX [] b
    rw [joinX_app (y :: r) b,List.append_assoc (x ++ [])]
theorem joinX_tx:∀ ps:Pcs,joinX [] (ps.map fun p=>p.2) = txP ps
  | []=>rfl
  | p :: ps=>by
    show joinX [] ([p.2] ++ ps.map fun p=>p.2) = p.2 ++ txP ps
    rw [joinX_app,joinX_tx ps];rfl
theorem RowsT.wr {rs:List MV} {T:Tx} (h:RowsT rs T) (ps:Pcs):RowsT (wrR rs ps) (T ++ txP ps):=by
  obtain ⟨ts,rfl,h2⟩:=h
  refine ⟨ts ++ ps.map fun p=>p.2,?_,?_⟩
  · rw [wrR_map,List.map_append,List.map_map];rfl
  · rw [joinX_app,h2,joinX_tx]
noncomputable def FinS (T:Tx) (n:Nat) (s:Sto):Prop:=∃ q:Q,s = sQ 14 .none q [] ∧ (q.g 0 = rowsV ∧ (RowsT q.rs T ∧ q.rs.length ≤ n))
noncomputable def qO (W:Int) (m:Nat) (e:Tx) (L c:Int) (ws idn:Bool) (tp:MV) (rs:List MV):Q:=⟨0,.none,at_ (Eo W (Int.ofNat m) e 0 .none false L c ws idn tp),[],[],rs⟩
noncomputable def qP' (W:Int) (m:Nat) (e:Tx) (L c:Int) (ws idn:Bool) (rs:List MV):Q:=⟨0,.none,at_ (Eo W (Int.ofNat m) e 0 .none false L c ws idn tp0 |>.set 11 (.bool true)),[],[],rs⟩
noncomputable def tailT (fl:Bool) (e T:Tx):Tx:=(T ++ txP (pMe fl)) ++ txP (pDe e)
section
variable {W:Int} {m:Nat} {e:Tx} {L c:Int} {rs:List MV} {fl:Bool}
theorem jB:JS 13 eB (qO W m e 0 0 true true .none []) [] (sQ 15 eB (qO W m e 0 0 true true .none []) []):=
  js_of (JW.run (rB W m e [] []) rfl (by decide) (Nat.le_refl _)) rfl (by kernel_rfl) (by decide)
theorem jD {es:List MV}:JS 15 eD (qO W m e 0 0 true true .none []) es (sQ 18 eD (qO W m e 0 3 false false tp0 [.str [45,45,45]]) es):=
  js_of (JW.run (rD W m e es []) rfl (by decide) (Nat.le_refl _)) rfl (by kernel_rfl) (by decide)
theorem jM {n:Nat} {fs:List MV} {y z:MV} (hn:n = 9 ∨ (n = 10 ∨ (n = 11 ∨ n = 13))):JS 18 (eM fl) (qO W m e 0 3 false false tp0 [.str [45,45,45]]) [.inst n fs,y,z] (sQ (fS fl true) (eM fl) (qK W m e 0 (wrC 3 (pM fl)) (wrR [.str [45,45,45]] (pM fl)) ⟨fl,true,false⟩) [.inst n fs,y,z]):=by
  have hl:(fl,n) ∈ L9:=List.mem_flatMap.mpr ⟨fl,by cases fl;exact .tail _ (.head _);exact .head _,List.mem_map.mpr ⟨n,by rcases hn with rfl | rfl | rfl | rfl;exact .head _;exact .tail _ (.head _);exact .tail _ (.tail _ (.head _));exact .tail _ (.tail _ (.tail _ (.head _))),rfl⟩⟩
  have h:=JW.run (map_at (rM W m e [.str [45,45,45]] fs y z) hl) rfl (by decide) (Nat.le_refl _)
  rw [pB_Q] at h
  exact js_of h rfl (by kernel_rfl) (by decide)
theorem jMe:JS (fS fl false) eME (qK W m e L c rs (xL fl)) [] (sQ 17 eME (qP' W m e L (wrC c (pMe fl)) false false (wrR rs (pMe fl))) []):=by
  have h:=JW.run (map_at (rMe W m e L c [] rs) (show fl ∈ [true,false] from fl_mem fl)) rfl (by decide) (Nat.le_refl _)
  exact js_of h (asK_S _) (by rw [pB_Q];rfl) (by decide)
theorem jDe:JS 17 eDe (qP' W m e L c false false rs) [] (sQ 16 eDe (qP' W m e (wrL L (pDe e)) (wrC c (pDe e)) true true (wrR rs (pDe e))) []):=
  js_of (JW.run (rDe W m e L c [] rs) rfl (by decide) (Nat.le_refl _)) rfl (by kernel_rfl) (by decide)
theorem jZ:JS 16 eZ (qP' W m e L c true true rs) [] (sQ 14 eZ (qP' W m e L c true true rs) []):=
  js_of (JW.run (rZ W m e L c [] rs) rfl (by decide) (Nat.le_refl _)) rfl (by kernel_rfl) (by decide)
theorem end_hd {T:Tx} {n:Nat} (hr:RowsT rs T) (hn:rs.length + 4 ≤ n):∃ s',Hd (fS fl false) (qK W m e L c rs (xL fl)) [eME,eDe,eZ] s' ∧ FinS (tailT fl e T) n s':=by
  refine ⟨_,⟨eME,[eDe,eZ],_,rfl,.inl ⟨14,_,_,_,_,rfl,fE_now fl,jMe,rfl⟩,?_,tr_cons (E1 (p:=(17,8)) (.tail _ (.tail _ (.tail _ (.tail _ (.tail _ (.tail _ (.tail _ (.tail _ (.tail _ (.tail _ (.tail _ (.head _)))))))))))) jDe) ?_ (tr_cons (E1 (p:=(16,6)) (.tail _ (.tail _ (.tail _ (.tail _ (.tail _ (.tail _ (.tail _ (.tail _ (.tail _ (.tail _ (.tail _ (.tail _ (.head _))))))))))))) jZ) ?_ rfl)⟩,⟨_,rfl,rfl,(hr.wr (pMe fl)).wr (pDe e),?_⟩⟩
  · rw [mu_sQ,mu_sQ,bonS]
    show 1000 * rs.length + 100 * 0 + 1 < 1000 * (wrR rs (pMe fl)).length + 100 * 0 + 99
    rw [wrR_len];omega
  · rw [mu_sQ,mu_sQ]
    show 1000 * (wrR rs (pMe fl)).length + 100 * 0 + 99 < 1000 * (wrR (wrR rs (pMe fl)) (pDe e)).length + 100 * 0 + 1
    rw [wrR_len (wrR rs (pMe fl))]
    show _ < 1000 * (_ + 3) + 0 + 1
    omega
  · rw [mu_sQ,mu_sQ]
    show 1000 * (wrR (wrR rs (pMe fl)) (pDe e)).length + 100 * 0 + 1 < 1000 * (wrR (wrR rs (pMe fl)) (pDe e)).length + 100 * 0 + 99
    omega
  · show (wrR (wrR rs (pMe fl)) (pDe e)).length ≤ n
    rw [wrR_len,wrR_len]
    have h1:(pMe fl).length ≤ 1:=by cases fl <;> exact by decide
    show _ + 3 ≤ n
    omega
end
noncomputable def dueL (fl:Bool) (m:Nat) (W:Int) (e:Tx) (l:List Kp):Nat → Tx → Tx:=List.rec (motive:=fun _=>Nat → Tx → Tx) (fun _ T=>T) (fun k _ ih j T=>ih (j + 1) (nxL fl m W e j T k)) l
theorem keys_hd {fl:Bool} {m:Nat} {W:Int} {e:Tx} (hm:m ∈ sL) (he:e ∈ eL) {ks:List Ky}:∀ {j c n:Nat} {T:Tx} {L:Int} {rs:List MV},(∀ k ∈ ks,k.Ok) → RowsT rs T → Col e T c → rs.length + 20 * ks.length + 4 ≤ n →
    ∃ s',Hd (fS fl false) (qK W m e L (Int.ofNat c) rs (xL fl)) (evF ks [eME,eDe,eZ]) s' ∧ FinS (tailT fl e (dueL fl m W e (ks.map (kpOf fl m e)) (j + 1) T)) n s':=by
  induction ks with
  | nil=>intro j c n T L rs _ hr _ hn;exact end_hd hr hn
  | cons k ks ih=>
    intro j c n T L rs hk hr hC hn
    rw [List.length_cons] at hn
    obtain ⟨ps,h1,h2,h3,h4⟩:=pair_full (fl:=fl) (j:=j + 1) (W:=W) (L:=L) (rs:=rs) hm he (hk k (.head _)) hC (fun z=>noB z.symm)
    obtain ⟨s',t1,t2⟩:=ih (j:=j + 1) (L:=wrL L ps) (n:=n) (fun k m=>hk k (.tail _ m)) (hr.wr ps) h3 (by rw [wrR_len];omega)
    rw [h2] at t2
    exact ⟨s',pair_later h1 (hd_tr t1),t2⟩
noncomputable def T0 (fl:Bool):Tx:=bif fl then [45,45,45,32,123] else [45,45,45]
theorem emit_all {fl:Bool} {m:Nat} {W:Int} {e:Tx} (hm:m ∈ sL) (he:e ∈ eL) (hW:fl = true → ltI W 5 = false) {ks:List Ky} (hk:∀ k ∈ ks,k.Ok) (hne:ks ≠ []) (hl:ks.length ≤ 4) :
    ∃ s',Tr (evAll fl ks) (shE W m e) s' ∧ FinS (tailT fl e (dueL fl m W e (ks.map (kpOf fl m e)) 0 (T0 fl))) 1000 s':=by
  cases ks with
  | nil=>exact absurd rfl hne
  | cons k ks=>
    have hr:RowsT (wrR [.str [45,45,45]] (pM fl)) (T0 fl):=by
      cases fl
      · exact ⟨[[45,45,45]],rfl,rfl⟩
      · exact ⟨[[45,45,45],[32,123]],rfl,rfl⟩
    have hT:NF (T0 fl):=by
      cases fl
      · exact nf_rep (by decide) 3
      · exact nf_cons (by decide) (nf_cons (by decide) (nf_cons (by decide) (nf_cons (by decide) (nf_cons (by decide) nf_nil))))
    have hC:Col e (T0 fl) (T0 fl).length:=⟨T0 fl,rfl,nf_not he hT,.inl rfl⟩
    have hc:wrC 3 (pM fl) = Int.ofNat (T0 fl).length:=by cases fl <;> rfl
    obtain ⟨ps,h1,h2,h3,h4⟩:=pair_full (fl:=fl) (j:=0) (W:=W) (L:=0) (rs:=wrR [.str [45,45,45]] (pM fl)) hm he (hk k (.head _)) hC (fun _ z=>by subst z;exact hW rfl)
    obtain ⟨s',t1,t2⟩:=keys_hd (fl:=fl) (j:=0) (L:=wrL 0 ps) (n:=1000) hm he (fun k m=>hk k (.tail _ m)) (hr.wr ps) h3 (by
      have h5:(pM fl).length ≤ 1:=by cases fl <;> exact by decide
      rw [List.length_cons] at hl
      rw [wrR_len,wrR_len,List.length_singleton];omega)
    rw [h2] at t2
    refine ⟨s',?_,t2⟩
    have hf:=pair_first (q:=qO W m e 0 3 false false tp0 [.str [45,45,45]]) (fM:=[.none,.none,.bool true,.none,.none,.bool fl]) h1 (fun n fs y z hn=>by
      have h:=jM (W:=W) (m:=m) (e:=e) (fl:=fl) (fs:=fs) (y:=y) (z:=z) hn
      rw [hc] at h
      exact h) (by
      show 1 < (wrR (wrR [.str [45,45,45]] (pM fl)) ps).length
      rw [wrR_len,wrR_len];simp only [List.length_cons,List.length_nil];omega) t1
    have e1:evAll fl (k :: ks) = eB :: eD :: eM fl :: (k.evs ++ (eV :: evF ks [eME,eDe,eZ])):=evK1_F (k :: ks) _ _
    rw [e1,show shE W m e = sQ 13 .none (qO W m e 0 0 true true .none []) [] by kernel_rfl]
    refine tr_cons (E1 (p:=(13,5)) (.head _) jB) ?_ (tr_cons (je_t (map_at (e2 30 _ (qO W m e 0 0 true true .none []) 15) (.head _))) ?_ (tr_cons (je_of (e3 30 [.none,.none,.bool true,.none,.none,.bool fl] [.none,.none,.bool true,.none,.none] eD (qO W m e 0 0 true true .none []) (qO W m e 0 3 false false tp0 [.str [45,45,45]]) 18) fun p mm=>?_) ?_ hf))
    · rw [mu_sQ,mu_sQ];exact Nat.lt_succ_self 0
    · rw [mu_sQ,mu_sQ];simp only [List.length_cons,List.length_nil];omega
    · rcases List.mem_singleton.mp mm with rfl
      exact (jD (W:=W) (m:=m) (e:=e)).ok
    · rw [mu_sQ,mu_sQ]
      show 1000 * 0 + 100 * 1 + 1 < 1000 * 1 + 100 * 1 + 1
      omega
theorem dueL_b {m:Nat} {W:Int} {e:Tx}:∀ (l:List Kp) (j:Nat) (T:Tx),dueL false m W e l j T = due68 e T l
  | [],_,_=>rfl
  | k :: l,j,T=>dueL_b l (j + 1) (T ++ d68 e k.ps k.sm)
theorem dueL_f {m:Nat} {W:Int} {e:Tx}:∀ (l:List Kp) (j:Nat) (T:Tx),dueL true m W e l j T = due69 (Int.ofNat m) W e l j T
  | [],_,_=>rfl
  | k :: l,j,T=>dueL_f l (j + 1) (nx69 (Int.ofNat m) W e j T k)
theorem dueL_le {fl:Bool} {m:Nat} {W:Int} {e:Tx} (he:e.length ≤ 2) (hm:m ≤ 20):∀ (l:List Kp) (j:Nat) (T:Tx),(∀ k ∈ l,KpOk k) → (dueL fl m W e l j T).length ≤ T.length + 6000 * l.length
  | [],_,_,_=>Nat.le_refl _
  | k :: l,j,T,h=>by
    have ih:=dueL_le (fl:=fl) (W:=W) he hm l (j + 1) (nxL fl m W e j T k) fun k m=>h k (.tail _ m)
    have hk:=h k (.head _)
    have h1:(nxL fl m W e j T k).length ≤ T.length + 6000:=by
      cases fl
      · have:=d68_le (sm:=k.sm) he hk.1 hk.2
        show (T ++ d68 e k.ps k.sm).length ≤ _
        rw [List.length_append];omega
      · exact nx69_le hk he hm
    show (dueL fl m W e l (j + 1) (nxL fl m W e j T k)).length ≤ _
    rw [List.length_cons];omega
theorem hdP_le {a:Option Tx} {g:Nat × Bool} {y:Tx} (ha:∀ A,a = some A → A.length ≤ 200) (hg:g ∈ tgs) (hy:y.length ≤ 1000):(hdP a g ++ [y]).length ≤ 3 ∧ ∀ p ∈ hdP a g ++ [y],p.length ≤ 1000:=by
  have hk:tgs.all (fun g=>Nat.ble (told g.1).length 1000) = true:=by decide
  have ht:(told g.1).length ≤ 1000:=Nat.ble_eq.mp (List.all_eq_true.mp hk g hg)
  have h1:(hdP a g).length ≤ 2 ∧ ∀ p ∈ hdP a g,p.length ≤ 1000:=by
    unfold hdP
    have h2:((oc a [] fun A=>[38 :: 110 :: A]):List Tx).length ≤ 1 ∧ ∀ p ∈ ((oc a [] fun A=>[38 :: 110 :: A]):List Tx),p.length ≤ 1000:=by
      cases a with
      | none=>exact ⟨Nat.zero_le _,fun p m=>(List.not_mem_nil m).elim⟩
      | some A=>
        refine ⟨Nat.le_refl _,fun p m=>?_⟩
        rcases List.mem_singleton.mp m with rfl
        have:=ha A rfl
        show A.length + 1 + 1 ≤ 1000
        omega
    have h3:((bif g.2 then [told g.1] else []):List Tx).length ≤ 1 ∧ ∀ p ∈ ((bif g.2 then [told g.1] else []):List Tx),p.length ≤ 1000:=by
      cases g.2
      · exact ⟨Nat.zero_le _,fun p m=>(List.not_mem_nil m).elim⟩
      · refine ⟨Nat.le_refl _,fun p m=>?_⟩
        rcases List.mem_singleton.mp m with rfl
        exact ht
    refine ⟨by rw [List.length_append];omega,fun p m=>?_⟩
    rcases List.mem_append.mp m with m | m
    · exact h2.2 p m
    · exact h3.2 p m
  refine ⟨by rw [List.length_append,List.length_singleton];omega,fun p m=>?_⟩
  rcases List.mem_append.mp m with m | m
  · exact h1.2 p m
  · rcases List.mem_singleton.mp m with rfl;exact hy
theorem mk_le (kd:Nat) (g:Nat × Bool):(mkK kd g).length ≤ 1:=by
  unfold mkK
  cases Nat.beq kd 2
  · cases (Nat.beq kd 1 || g.2)
    · exact Nat.zero_le _
    · exact Nat.le_refl _
  · exact Nat.le_refl _
theorem mlK_le {e:Tx} {n:Int} (he:e.length ≤ 2) (hn:n.toNat ≤ 40):(mlK e n).length ≤ 1000:=by
  unfold mlK
  simp only [List.length_append,List.length_cons,List.length_nil,repX_len]
  omega
theorem kp_ok {fl:Bool} {m:Nat} {e:Tx} {k:Ky} (ok:k.Ok) (he:e.length ≤ 2) (hm:m ≤ 20):KpOk (kpOf fl m e k):=by
  obtain ⟨kd,s,a,g⟩:=k
  obtain ⟨h1,h2,h3,h4⟩:=ok
  dsimp only at h1 h2 h3 h4
  have ha:∀ A,a = some A → A.length ≤ 200:=fun A h=>(h3 A h).2
  have hn:(nI fl m).toNat ≤ 40:=by
    rw [nI_nB]
    cases fl
    · show m ≤ 40;omega
    · show m + m ≤ 40;omega
  have hw:∀ kd,(mkK kd g ++ wS (Int.ofNat s) ++ mkK kd g).length ≤ 1000:=fun kd=>by
    have:=mk_le kd g
    rw [List.length_append,List.length_append,wS_len];omega
  show (ptK kd (Int.ofNat s) a g fl (nI fl m) e).length ≤ 3 ∧ ∀ p ∈ ptK kd (Int.ofNat s) a g fl (nI fl m) e,p.length ≤ 1000
  rcases kd with _ | _ | _ | _ | _ | _ | _ | _ | kd
  · exact hdP_le ha h4 (hw 0)
  · exact hdP_le ha h4 (hw 1)
  · exact hdP_le ha h4 (hw 2)
  · refine ⟨by show 1 ≤ 3;omega,fun p mm=>?_⟩
    obtain rfl:p = 42 :: anN a:=List.mem_singleton.mp mm
    cases a with
    | none=>show 2 ≤ 1000;omega
    | some A=>have:=ha A rfl;show A.length + 1 + 1 ≤ 1000;omega
  · exact hdP_le ha h4 (by show 2 ≤ 1000;omega)
  · exact hdP_le ha h4 (by show 2 ≤ 1000;omega)
  · have h:=hdP_le (y:=[39,39]) ha h4 (by show 2 ≤ 1000;omega)
    show (bif fl || g.2 then hdP a g ++ [[39,39]] else hdP a g).length ≤ 3 ∧ ∀ p ∈ (bif fl || g.2 then hdP a g ++ [[39,39]] else hdP a g),p.length ≤ 1000
    cases (fl || g.2)
    · refine ⟨?_,fun p mm=>h.2 p (List.mem_append_left _ mm)⟩
      have:=h.1
      rw [List.length_append] at this
      show (hdP a g).length ≤ 3
      omega
    · exact h
  · exact hdP_le ha h4 (mlK_le he hn)
  · omega
theorem L66_mem {fl:Bool} {kd:Nat} {a:Option Tx} {g:Nat × Bool} {A:Tx} (h:(kd,(a,g)) ∈ L65 A):(fl,(kd,(a,g))) ∈ L66 A:=
  List.mem_flatMap.mpr ⟨fl,fl_mem fl,List.mem_map.mpr ⟨_,h,rfl⟩⟩
theorem g66_ok {kd s:Nat} {a:Option Tx} {g:Nat × Bool} {n:Int} {e:Tx} (hs:s ≤ 5) (ha:∀ A,a = some A → A.length ≤ 200) (he:e.length ≤ 2) (hn:n.toNat ≤ 40) (hn2:n.natAbs ≤ 40):csd (g66 kd (Int.ofNat s) a g n e) = true:=by
  have hW:∀ kd,∀ p ∈ gW66 kd g (Int.ofNat s),p.1 = p.2:=fun kd p m=>by
    have:=mk_le kd g
    rcases List.mem_cons.mp m with rfl | m
    · exact mulA_ok (by omega)
    rcases List.mem_cons.mp m with rfl | m
    · exact la_ok (by rw [wS_len];omega)
    rcases List.mem_singleton.mp m with rfl
    exact la_ok (by rw [List.length_append,wS_len];omega)
  refine csd_of fun p m=>?_
  rcases List.mem_append.mp m with m | m
  · cases a with
    | none=>exact (List.not_mem_nil m).elim
    | some A=>
      have:=ha A rfl
      rcases List.mem_singleton.mp m with rfl
      exact la_ok (by rw [List.length_cons];omega)
  · rcases kd with _ | _ | _ | _ | _ | _ | _ | _ | kd
    · exact hW 0 p m
    · exact hW 1 p m
    · exact hW 2 p m
    · exact (List.not_mem_nil m).elim
    · exact (List.not_mem_nil m).elim
    · exact (List.not_mem_nil m).elim
    · exact (List.not_mem_nil m).elim
    · rcases List.mem_cons.mp m with rfl | m
      · exact la_ok (by omega)
      rcases List.mem_cons.mp m with rfl | m
      · exact la_ok (by rw [List.length_append];simp only [List.length_cons,List.length_nil];omega)
      rcases List.mem_cons.mp m with rfl | m
      · show (leN (1 * n.toNat) lim && leN n.natAbs lim) = true
        rw [leN_ok (by unfold lim;omega),leN_ok (by unfold lim;omega)];rfl
      rcases List.mem_cons.mp m with rfl | m
      · exact la_ok (by rw [repX_len,List.length_append,List.length_append];simp only [List.length_cons,List.length_nil];omega)
      rcases List.mem_singleton.mp m with rfl
      exact la_ok (by rw [List.length_append,repX_len,List.length_append,List.length_append];simp only [List.length_cons,List.length_nil];omega)
    · exact (List.not_mem_nil m).elim
theorem run66 (Ψ:Psi) {fl:Bool} {m:Nat} {e:Tx} {k:Ky} {sh:Sto} (ok:k.Ok) (he:e.length ≤ 2) (hm:m ≤ 20):toOpt (runT L1.T Ψ 66 [k.mv,.bool fl,.int (nI fl m),.str e] sh []) = some (true,ptv (kpOf fl m e k),sh):=by
  obtain ⟨A,hA⟩:=aL_mem k.a
  have h:=map_at (r66 Ψ (Int.ofNat k.s) (nI fl m) e A sh) (L66_mem (fl:=fl) (L65_mem ok.kd hA ok.g))
  dsimp only at h
  have hn:(nI fl m).toNat ≤ 40:=by
    rw [nI_nB]
    cases fl
    · show m ≤ 40;omega
    · show m + m ≤ 40;omega
  have hn2:(nI fl m).natAbs ≤ 40:=by
    cases fl
    · show m ≤ 40;omega
    · show (2 * (m:Int)).natAbs ≤ 40;omega
  rw [g66_ok ok.s.2 (fun A h=>(ok.a A h).2) he hn hn2] at h
  exact h
theorem jdue {fl:Bool} {m:Nat} {W:Int} {e:Tx} {ks:List Ky} {sh:Sto} (hm:m ∈ sL) (he:e ∈ eL) (hk:∀ k ∈ ks,k.Ok) (hl:1 ≤ ks.length ∧ ks.length ≤ 4) {N:Nat} (hN:14 ≤ N) :
    dueB N fl (ks.map Ky.mv) (Int.ofNat m) W e sh (dueL fl m W e (ks.map (kpOf fl m e)) 0 (T0 fl) ++ txP (pMe fl)) = true:=by
  have he2:=eL_le he
  have hm9:m ≤ 9:=by
    rcases List.mem_cons.mp hm with rfl | hm
    · decide
    rcases List.mem_cons.mp hm with rfl | hm
    · decide
    rcases List.mem_cons.mp hm with rfl | hm
    · decide
    rcases List.mem_singleton.mp hm with rfl
    decide
  have hx:(ks.map (kpOf fl m e)).map Kp.x = ks.map Ky.mv:=by rw [List.map_map];rfl
  have hlen:(ks.map (kpOf fl m e)).length = ks.length:=List.length_map ..
  cases fl with
  | false=>
    have h:JW 14 68 [.lst ((ks.map (kpOf false m e)).map Kp.x),.int (Int.ofNat m),.str e] sh (.str (due68 e [45,45,45] (ks.map (kpOf false m e))),sh):=.of fun {_} B hT=>J68 (sh:=sh) (l:=ks.map (kpOf false m e)) (s:=.int (Int.ofNat m)) he2 (by rw [hlen];exact hl.2) (fun k mm=>by
      obtain ⟨y,hy,rfl⟩:=List.mem_map.mp mm
      refine ⟨kp_ok (hk y hy) he2 (by omega),?_⟩
      rw [p68_66]
      exact run66 (fl:=false) _ (hk y hy) he2 (by omega)) B hT
    rw [hx] at h
    show jd N 68 _ sh (.str (dueL false m W e (ks.map (kpOf false m e)) 0 (T0 false) ++ []),sh) = true
    rw [List.append_nil,dueL_b]
    exact jd_of (h.mono hN).j
  | true=>
    have h:JW 14 69 [.lst ((ks.map (kpOf true m e)).map Kp.x),.int (Int.ofNat m),.int W,.str e] sh (.str (due69 (Int.ofNat m) W e (ks.map (kpOf true m e)) 0 [45,45,45,32,123] ++ [125]),sh):=.of fun {_} B hT=>J69 (sh:=sh) (W:=W) he hm9 (ks.map (kpOf true m e)) (by intro z;have:=congrArg List.length z;rw [hlen] at this;simp only [List.length_nil] at this;omega) (by rw [hlen];exact hl.2) (fun k mm=>by
      obtain ⟨y,hy,rfl⟩:=List.mem_map.mp mm
      refine ⟨kp_ok (hk y hy) he2 (by omega),?_⟩
      rw [p69_66]
      exact run66 (fl:=true) _ (hk y hy) he2 (by omega)) B hT
    rw [hx] at h
    show jd N 69 _ sh (.str (dueL true m W e (ks.map (kpOf true m e)) 0 (T0 true) ++ [125]),sh) = true
    rw [dueL_f]
    exact jd_of (h.mono hN).j
theorem strsOf_map:∀ ts:List Tx,strsOf (ts.map .str) = some ts
  | []=>rfl
  | t :: ts=>by
    show (strsOf (ts.map .str)).map (t :: ·) = _
    rw [strsOf_map ts];rfl
theorem joinX_sum:∀ ts:List Tx,(ts.map List.length).sum = (joinX [] ts).length
  | []=>rfl
  | t :: ts=>by
    rw [show t :: ts = [t] ++ ts from rfl,joinX_app,List.map_append,List.sum_append,joinX_sum ts,List.length_append];rfl
theorem j62 {em es is ss:List MV} {t:Option (Nat × List (Option MV))} {rs:List MV} {T:Tx} (h:RowsT rs T) (hT:T.length ≤ 1000000):JW 8 62 [rowsV] (rS em t (some ss) (some es) (some is) (some rs)) (.str T,rS em t (some ss) (some es) (some is) (some rs)):=by
  obtain ⟨ts,rfl,rfl⟩:=h
  have h1:okJoin (rS em t (some ss) (some es) (some is) (some (ts.map .str))) (.str []) [.loc .rows] = true:=by
    show ((strsOf (ts.map .str)).map fun xs=>leN ((xs.map List.length).sum + xs.length * 0) lim).getD true = true
    rw [strsOf_map]
    show leN ((ts.map List.length).sum + ts.length * 0) lim = true
    rw [joinX_sum]
    exact leN_ok (by unfold lim;omega)
  have h2:callCT L1.T (twJ 8 isLM noI noA noO 0) none (.str []) 3 [.loc .rows] [] (rS em t (some ss) (some es) (some is) (some (ts.map .str))) = some (true,.str (joinX [] ts),rS em t (some ss) (some es) (some is) (some (ts.map .str))):=by
    show yesT ((strsOf (ts.map .str)).map fun xs=>(.str (joinX [] xs),rS em t (some ss) (some es) (some is) (some (ts.map .str)))) = _
    rw [strsOf_map];rfl
  refine .of fun {_} B hT=>J_good (n:=8) (k:=0) (lf:=isLM) (is:=noI) (a:=noA) (O:=noO) (Nat.le_refl _) (ds:=[]) ?_ B hT
  refine good_plt (r62 em t (some ss) (some es) (some is) (ts.map .str)) ?_
  refine ⟨h1,?_⟩
  rw [h2]
  exact ⟨rfl,rfl,rfl⟩
theorem WO_ge {i j:Nat} (hi:i < 8) (hj:j < 8):ltI (WO j (mO i)) 5 = false:=by
  have hk:(List.range 8).all (fun i=>(List.range 8).all fun j=>!ltI (WO j (mO i)) 5) = true:=by kernel_rfl
  have:=List.all_eq_true.mp (List.all_eq_true.mp hk i (List.mem_range.mpr hi)) j (List.mem_range.mpr hj)
  cases h:ltI (WO j (mO i)) 5
  · rfl
  · rw [h] at this;exact noB this
theorem law_true (f:Nat → Int) {n:Nat} (hn:n < 64):∃ sh',JW 46 70 [.lst ((scr f n).map .int)] sh0 (.bool true,sh') ∧ rl sh' ≤ lim:=by
  obtain ⟨fl,i,j,k,hi,hj,hk,H⟩:=law_run f hn
  have hm:mO i ∈ sL:=mO_mem hi
  have he:eO k ∈ eL:=eO_mem hk
  have kl:=keys_len f n
  have kok:=keys_ok (f:=f) (n:=n)
  generalize keysOf f n = ks at kl kok H
  obtain ⟨s',t1,q,rfl,q0,hr,hrl⟩:=emit_all (fl:=fl) hm he (fun _=>WO_ge hi hj) kok (by intro z;rw [z] at kl;exact absurd kl.1 (by decide)) kl.2
  obtain ⟨c,hc⟩:=tr_c t1
  have hg:sQ 14 .none q [] = rS (rowsV :: (LE 14 .none q.g).tail) none (some q.ss) (some []) (some q.is) (some q.rs):=by
    rw [← q0];rfl
  rw [hg] at hc
  have el:=eL_le he
  have hm9:mO i ≤ 9:=by
    rcases List.mem_cons.mp hm with h | hm
    · rw [h];decide
    rcases List.mem_cons.mp hm with h | hm
    · rw [h];decide
    rcases List.mem_cons.mp hm with h | hm
    · rw [h];decide
    rw [List.mem_singleton.mp hm];decide
  have hd:(dueL fl (mO i) (WO j (mO i)) (eO k) (ks.map (kpOf fl (mO i) (eO k))) 0 (T0 fl) ++ txP (pMe fl)).length ≤ 30000:=by
    have h:=dueL_le (fl:=fl) (m:=mO i) (W:=WO j (mO i)) el (by omega) (ks.map (kpOf fl (mO i) (eO k))) 0 (T0 fl) fun k' mm=>by
      obtain ⟨y,hy,rfl⟩:=List.mem_map.mp mm
      exact kp_ok (kok y hy) el (by omega)
    rw [List.length_map] at h
    have h1:(T0 fl).length ≤ 5:=by cases fl <;> decide
    have h2:(txP (pMe fl)).length ≤ 1:=by cases fl <;> decide
    rw [List.length_append]
    omega
  have ht:tailT fl (eO k) (dueL fl (mO i) (WO j (mO i)) (eO k) (ks.map (kpOf fl (mO i) (eO k))) 0 (T0 fl)) = (((dueL fl (mO i) (WO j (mO i)) (eO k) (ks.map (kpOf fl (mO i) (eO k))) 0 (T0 fl) ++ txP (pMe fl)) ++ eO k) ++ [46,46,46]) ++ eO k:=by
    show (dueL fl (mO i) (WO j (mO i)) (eO k) (ks.map (kpOf fl (mO i) (eO k))) 0 (T0 fl) ++ txP (pMe fl)) ++ (eO k ++ ([46,46,46] ++ (eO k ++ []))) = _
    rw [List.append_nil,List.append_assoc _ (eO k) [46,46,46],List.append_assoc _ _ (eO k),List.append_assoc (eO k)]
  rw [ht] at hr
  refine ⟨_,.of fun {_} B hT=>H (N:=36) (by decide) hc (jdue (sh:=_) hm he kok kl (by decide)) (J.mono (j62 hr ?_).j (by decide)) rfl (by omega) B hT,Nat.le_trans (show q.rs.length ≤ 1000 from hrl) (by unfold lim;decide)⟩
  rw [List.length_append,List.length_append,List.length_append]
  simp only [List.length_cons,List.length_nil]
  omega
theorem law_xs {xs:List Int} (h:xs.length < 64):∃ sh',JW 46 70 [.lst (xs.map .int)] sh0 (.bool true,sh') ∧ rl sh' ≤ lim:=by
  obtain ⟨sh',hj⟩:=law_true (fun i=>(xs[i]?).getD 0) h
  rw [scr_of] at hj
  exact ⟨sh',hj⟩
open PySem PySem.W PyProof.Rows PySem.Calls PySem.Builtin
noncomputable def wd0 (h:Heap):Wd:=⟨fun _=>none,h.get?⟩
theorem sh_start {N:Nm} {h:Heap} (e:N.h₀ = h):Sh N (wd0 h) (fun _=>none) sh0 h:=
  ⟨fun a o q=>e ▸ q,fun _ _ q=>q,fun _ _ q=>noS q,fun _ _ _=>rfl,fun l=>by cases l <;> rfl,fun _ _ _ q=>noS q,fun _ _ q=>noS q,fun _ _ q=>noS q,fun _ _ q=>noS q⟩
theorem ints_of {N:Nm} {w:Wd} {cl:Str → Option Addr} {h:Heap}:∀ {xs:List WData} {vs:List Value} {as:List Addr},WShape.hasItems [] xs .int = true → ReadsAllW [] cl h vs xs as → ∃ l:List Int,xs = l.map .int ∧ VRels N w (l.map .int) vs
  | [],vs,as,_,r=>by
    obtain ⟨rfl,_⟩:=readsAllW_nil_inv r
    exact ⟨[],rfl,.nil⟩
  | x :: xs,vs,as,hx,r=>by
    have hx:(WShape.has [] x .int && WShape.hasItems [] xs .int) = true:=by rw [← hx];simp only [WShape.hasItems]
    obtain ⟨i,rfl⟩:=hasW_int (andL hx)
    obtain ⟨v,vs',as1,as2,rfl,_,r1,r2⟩:=readsAllW_cons_inv r
    obtain ⟨t,rfl,_⟩:=readsW_int_inv r1
    obtain ⟨l,e,hv⟩:=ints_of (andR hx) r2
    exact ⟨i :: l,by rw [e];rfl,.cons (.int i t) hv⟩
theorem most_of {xs:List WData} (h:WTm.holds [] (.and (.not (.lt (.lit (.int 63)) (.len (.arg 0)))) (.lit (.bool true))) { args:=[.list xs] } = true):xs.length < 64:=by
  refine Nat.lt_of_not_le fun z=>?_
  have hl:decide ((63:Int) < xs.length) = true:=decide_eq_true (by omega)
  simp [WTm.holds,WTm.value,less?,Num.less?,hl] at h
theorem walk_ {d:DefRec} {kwd:List (Str × Expr)} (hn:d.name = "law"):WalkO hq hLoose (XL hq []) hHook.says PySem.Challenge.rw_te0009_01.row.toRowW d kwd fun f vs=>PySem.call f vs:=by
  intro w s₀ s₁ mg mb G Y a o pm cd doc dV kV ho hd hcd hdf hmg hgens args vals as hpre hlay hrd hwell hlow
  refine enter_call ?_
  have X:(hK w.params).In s₁.heap:=kIn_of Y
  have T:=topRead_of G.T
  have B:Base (mkC (hK w.params) s₁.heap PySem.Challenge.rw_te0009_01.row.toRowW.prog w mg mb hq (looseW hq hLoose)):=base_of ⟨rf1 ..,rf2 ..,rf3 ..,rf4 ..,rf5 ..,rf6 ..,rf7 ..,rf8 ..⟩ X T
  have ha:mg "law" = some (.ref 829):=mg_of X G.T.g (by kernel_rfl)
  rw [hn,ha] at hmg
  obtain rfl:829 = a:=Value.ref.inj (Option.some.inj hmg)
  obtain ⟨hs,hp⟩:=pre_splitW hpre
  obtain ⟨d1,r1,rfl,h1,h2⟩:=hasAllW_cons hs
  obtain rfl:=hasAllW_nil h2
  obtain ⟨xs,rfl,hx⟩:=hasW_list h1
  have hlen:=most_of hp
  obtain ⟨v,vs,as1,as2,rfl,_,q1,q2⟩:=readsAllW_cons_inv hrd
  obtain ⟨rfl,_⟩:=readsAllW_nil_inv q2
  obtain ⟨q,arr,as',rfl,⟨ob,hob,hcls,n,hdat⟩,q3,_⟩:=readsW_list_inv q1
  obtain ⟨l,rfl,hv⟩:=ints_of (N:=(mkC (hK w.params) s₁.heap PySem.Challenge.rw_te0009_01.row.toRowW.prog w mg mb hq (looseW hq hLoose)).N) (w:=wd0 s₁.heap) hx q3
  rw [List.length_map] at hlen
  obtain ⟨sh',hj,hr⟩:=law_xs hlen
  obtain ⟨Ψ,D,g⟩:=hj.j B rfl
  have hl2:arr.toList.length ≤ lim:=by
    have:=q3.length
    rw [List.length_map] at this
    unfold lim;omega
  have hV:VRel (mkC (hK w.params) s₁.heap PySem.Challenge.rw_te0009_01.row.toRowW.prog w mg mb hq (looseW hq hLoose)).N (wd0 s₁.heap) (.lst (l.map .int)) (.ref q):=VRel.lst hob ⟨hl2,hcls,n,hdat⟩ hv
  refine fn_s D B.G B.PO (pos:=[.lst (l.map .int)]) (kws:=[]) (as:=[.lst (l.map .int)]) (by kernel_rfl) g hr (A:=callerA) ⟨by decide,by decide,rfl⟩ (sh_start rfl) (.cons hV .nil) .nil fun w' h' tk b x S V=>?_
  obtain rfl:b = .bool true:=V
  exact ⟨.inl ⟨.bool true,.bool true,[],rfl,fun _=>rfl,.bool true,by kernel_rfl,fun _=>⟨.nil,fun _ z=>(List.not_mem_nil z).elim⟩⟩,.of_keep fun c o e=>S.frz _ _ (x.G _ _ e),rfl,.of_eq hgens⟩
open PySem PySem.W PyProof.Rows PySem.Calls
theorem left_:LeftO hp hq hLoose hXt (Hook.obs hHook) (Hook.val hHook) 14388 true:=
  LeftO.of_pieces (H₁:=hH1) (boot_open plain_ (by kernel_rfl) fence_) size_ run_ le_ (fun w=>funext fun os=>looks_pair (congrFun (look1 w) os) (looks_pair (congrFun (look2 w) os) (congrFun (look3 w) os)))
theorem prom_:(PySem.Challenge.rw_te0009_01.row).toRowW.promised:=RowW.promised_of_found (by decide +kernel)
end Mine
open PySem PySem.W PyProof.Rows PySem.Calls Mine
theorem PySem.Challenge.cw_te0009_01_holds : PySem.Challenge.rw_te0009_01.Holds := by
  refine holds_law said_ fun said=>?_
  exact holds_open (r:=PySem.Challenge.rw_te0009_01.row) (q:=hq) (loose:=hLoose) (Xt:=hXt) (XP:=XL hq []) (Yf:=Hook.obs hHook) (Ya:=Hook.val hHook) (YP:=Hook.says hHook) (N:=14388) left_ (Hook.of hHook) (Hook.keeps hHook) (fun s e=>xl_of s (Bool.and_eq_true_iff.mp e).1) XL.keeps (by rfl) (by rfl) (by rfl) (fun s e=>recFacts_of (Bool.and_eq_true_iff.mp e).2) (by rfl) said (by decide +kernel) ⟨rfl,rfl,rfl,rfl,rfl,wx9⟩ prom_ (walk_ rfl)
