import PyProof.Rows.All
import ObjForm.ListNI
import Wide.All
import OpenK.AllK
import Wide.FinOn
import Lean
import PySem.Challenge.RW_te0009_02
set_option Elab.async false
set_option maxRecDepth 100000
set_option linter.all false
namespace Mine
noncomputable def ay:=@Option.some.inj
noncomputable def a7:=@List.length_append
noncomputable def cu:=@List.append_assoc
noncomputable def qdz:=@List.all_eq_true
noncomputable def qez:=@Option.isSome_iff_exists
noncomputable def qfz:=@List.mem_singleton
noncomputable def fw:=@List.append_nil
noncomputable def fP:=@List.length_map
noncomputable def jO:=@Nat.eq_of_beq_eq_true
noncomputable def kM:=@Nat.le_of_ble_eq_true
noncomputable def qkz:=@List.mem_cons
noncomputable def kN:=@List.lookup_cons
noncomputable def qmz:=@Bool.and_eq_true_iff
noncomputable def qnz:=@Option.isNone_iff_eq_none
noncomputable def iE:=@Nat.le_trans
noncomputable def nk:=@List.size_toArray
noncomputable def mY:=@Option.bind_some
noncomputable def iw:=@Nat.zero_le
noncomputable def nl:=@List.cons_ne_nil
noncomputable def nX:=@List.not_mem_nil
noncomputable def nY:=@List.map_append
noncomputable def xT:=@List.eq_nil_of_length_eq_zero
noncomputable def xK:=@List.mem_append_right
noncomputable def qxz:=@Bool.or_eq_true_iff
noncomputable def qyz:=@Option.not_isSome_iff_eq_none
noncomputable def qzz:=@List.mem_range
noncomputable def li:=@Int.le_refl
noncomputable def cz:=@Nat.le_refl
noncomputable def bJ:=@congrArg
noncomputable def bL:=@if_neg
noncomputable def cw:=@if_pos
noncomputable def uS:=@of_decide_eq_true
noncomputable def pG:=@decide_eq_true
noncomputable def aM:=@PySem.wpAny_bind
noncomputable def fj:=@PySem.wpAny_pure
noncomputable def jb:=@PySem.wpAny_holding
noncomputable def jP:=@PySem.wpAny_standAt
open PySem PySem.W PyProof.Rows PySem.Calls
noncomputable def hp:Program:=PySem.Challenge.rw_te0009_02.row.toRowW.1
noncomputable def hM:List Stmt:=hp.main.body
noncomputable def hB:List Stmt:=behindTheImports hp
noncomputable def kO:Option Value:=some (.ref 6)
noncomputable def dG:Env:={scope:=hp.main.scope,locals:=mainNs,globals:=mainNs,cells:=[],code:=.ref 13,frame:=some 14}
noncomputable def nd:List Stmt→Nat→Stmt
 |[],_=>.Pass ⟨0,0,0,0⟩
 |s::r,i=>match Nat.beq i 0 with
  |true=>s
  |false=>nd r (i-1)
noncomputable def cb(l:List Stmt)(i:Nat):List Stmt:=match nd l i with
 |.ClassDef _ _ _ b _ _ _ _ _ _ _=>b
 |_=>[]
noncomputable def fo(c:Value)(st:Stmt)(qn:Str)(g:Nat)(df kd doc md:Value)(an:Option Addr)(cd ct:Value)(bl:Nat):Obj:=match st with
 |.FunctionDef name args body _ _ _ sc _ _ _=>⟨c,none,.func ⟨name,qn,args,.stmts body,sc,g,[],df,kd,doc,md,an,cd,ct,bl⟩,#[]⟩
 |_=>⟨c,none,.plain,#[]⟩
noncomputable def co(a b:Str)(k:Nat)(i0 i1 i4:Int)(r:Nat)(bb:Bool)(r2:Nat)(v13 v14 v15:Value)(i5:Int)(k3:Nat):Obj:=
 ⟨.type "code",none,.fields #[.str a k,.str b (k+1),.str "/claim/cut.py" (k+2),.int i0 0,.int i1 0,.int 0 0,.int 0 0,.int i4 0,.ref r,.bool bb,.int 181 0,.ref r2,.none,v13,v14,v15,.int i5 0,.int i0 0,.str "/claim/cut.py" k3],#[]⟩
noncomputable def de(P:Params)(k:Str)(t:Nat)(v:Value):DictEntry:=⟨PyData.keyHash P k,.str k t,v⟩
noncomputable def Gb:List Obj→List Obj×List Obj
 |[]=>([],[])
 |x::r=>(x::(Gb r).2,(Gb r).1)
noncomputable def Gx:Nat→List Obj→BT
 |0,_=>.nil
 |_+1,[]=>.nil
 |n+1,x::r=>.node x (Gx n (Gb r).1) (Gx n (Gb r).2)
noncomputable def sT(l:List Obj)(n k:Nat)(os:OsState):SharedT:=⟨Gx 11 l,n,{},#[],{},k,os⟩
theorem hX{p:Program}{w:World}{n₀:Nat}{ann:Option Value}{b n:Nat}{s:OsState→SharedT}{t:Thread}{r:OsState→Option (Flow×SharedT×Code×Pos)}
  (h:(λos=>PySem.W.Fast.tw10110043849684766642 PySem.W.Fast.tw14364793385576792824 p w n₀ ann b n (s os) t)=r):(λos=>segRunT treeTable p w n₀ ann b n (s os) t)=r:=by
 rw[PySem.W.Fast.te10110043849684766642,PySem.W.Fast.te14364793385576792824];exact h
noncomputable def zR(n:Nat):Value:=.ref n
noncomputable def zI(i:Int):Value:=.int i 0
noncomputable def zS(x:Str)(t:Nat):Value:=.str x t
noncomputable def zD(e:Array DictEntry)(k:Nat):Obj:=⟨.type "dict",none,.dict e k,#[]⟩
noncomputable def zQ(e:Array Value):Obj:=⟨.type "tuple",none,.seq e 0,#[]⟩
noncomputable def zF(e:Array Value):Obj:=⟨.none,none,.fields e,#[]⟩
noncomputable def zn(st:Stmt)(q:Str):Obj:=fo .none st q 0 .none .none .none .none none .none .none 0
noncomputable def zf(st:Stmt)(q:Str)(g:Nat)(df:Value)(m:Str)(t c:Nat):Obj:=fo (.type "function") st q g df .none .none (.str m t) none (.ref c) .none 0
noncomputable def zc(a:Str):=co a a
noncomputable def zP0:Obj:=⟨.type "builtin_function_or_method",none,.fields #[.builtin "type.__prepare__",.type "type"],#[]⟩
noncomputable def zN0(n:Nat):Obj:=⟨.type "builtin_function_or_method",none,.fields #[.builtin "object.__init_subclass__",zR n],#[]⟩
noncomputable def zU0(n:Nat):Obj:=⟨.type "super",none,.fields #[zR n,zR n,zR n],#[]⟩
noncomputable def AW(P:Params):List Obj:=[boot_o_0 P,boot_o_1 P]
noncomputable def AX(P:Params):List Obj:=[boot_o_4 P,boot_o_5 P,boot_o_6 P,boot_o_7 P,boot_o_8 P,boot_o_9 P,boot_o_10 P,zQ #[]]
noncomputable def JY(P:Params):List Obj:=[zF #[]]
noncomputable def AY(P:Params):List Obj:=[zc "<module>" 182 1 0 0 11 false 12 .none .none .none 185 186,⟨(.type "frame"),none,.plain,#[(some (zR 13)),(some (zR 3)),(some (zR 3)),none,(some (zS "__main__" 164)),none,(some (zR 0))]⟩]
noncomputable def La(P:Params):List Obj:=AW P++(boot_o_2 P::boot_o_3 P::AX P++(JY P++(AY P)))
noncomputable def Lb(P:Params):List Obj:=AW P++(boot_o_2 P::boot_o_3 P::AX P++(JY P++(AY P)))
noncomputable def DK(P:Params):List Obj:=[⟨.none,none,(.dict #[(de P "type.__subclasses__.Exception.0" 212 (zI 31)),(de P "type.__subclasses__.Exception.n" 213 (zI 1))] 2),#[]⟩]
noncomputable def KH(P:Params):List Obj:=[zD #[(de P "__name__" 165 (zS "yaml.events" 216)),(de P "__doc__" 166 .none),(de P "__package__" 167 .none),(de P "__loader__" 168 (.builtin "__main__.__loader__#opaque")),(de P "__spec__" 169 .none),(de P "__annotations__" 170 (zR 6)),(de P "__builtins__" 171 (zR 4)),(de P "__file__" 173 (zS "/claim/cut.py" 172)),(de P "__cached__" 174 .none),(de P "_wall" 193 (zR 21)),(de P "YAMLError" 215 (zR 31)),(de P "Event" 255 (zR 59)),(de P "NodeEvent" 284 (zR 81)),(de P "CollectionStartEvent" 319 (zR 101)),(de P "CollectionEndEvent" 335 (zR 113)),(de P "StreamStartEvent" 364 (zR 133)),(de P "StreamEndEvent" 380 (zR 145)),(de P "DocumentStartEvent" 413 (zR 165))] 18]
noncomputable def KJ(P:Params):List Obj:=[zF #[zI 1,zI 0,zR 20,zI 5,zI 0,zR 27,zI 8,zI 0,zR 40,zI 16,zI 0,zR 69,zI 22,zI 0,zR 89,zI 31,zI 0,zR 109,zI 33,zI 0,zR 121,zI 39,zI 0,zR 141,zI 41,zI 0,zR 153]]
noncomputable def DL(P:Params):List Obj:=[zQ #[],zF #[],zQ #[zS "k" 190],zQ #[],zn (nd hM 0) "_wall",zc "_wall" 187 1 1 3 15 true 16 (zR 17) (zR 18) (zR 19) 191 192,zf (nd hM 0) "_wall" 3 .none "__main__" 164 20,zQ #[.type "Exception"],zP0,zD #[(de P "__module__" 203 (zS "yaml.error" 194)),(de P "__qualname__" 205 (zS "YAMLError" 204)),(de P "__firstlineno__" 207 (.int 5 206)),(de P "__static_attributes__" 208 (zR 29))] 4,zQ #[],zF #[],zc "YAMLError" 198 5 0 0 25 false 26 .none .none .none 201 202,⟨(.type "frame"),none,.plain,#[(some (zR 27)),(some (zR 3)),(some (zR 24)),none,(some (zS "yaml.error" 194)),none,(some (zR 0))]⟩,zQ #[],zD #[(de P "__module__" 203 (zS "yaml.error" 194)),(de P "__firstlineno__" 207 (.int 5 206)),(de P "__static_attributes__" 208 (zR 29)),(de P "__weakref__" 210 (zR 32)),(de P "__doc__" 211 .none)] 3]
noncomputable def KL(P:Params):List Obj:=[⟨(.type "type"),none,(.cls (PySem.ClassData.mk "YAMLError" [.type "Exception"] [zR 31,.type "Exception",.type "BaseException",.type "object"] 30 "YAMLError" true [] [] false none false)),#[(some (zR 22)),none,(some (zS "YAMLError" 196)),(some (zS "YAMLError" 204)),(some (.builtin "Exception.__new__")),(some (.bool true))]⟩]
noncomputable def DM(P:Params):List Obj:=[⟨(.type "getset_descriptor"),none,(.fields #[zS "__weakref__" 209,zR 31,.builtin "ExceptionGroup.__weakref__",.none]),#[]⟩,zU0 31,zN0 31,zQ #[.type "object"],zP0,zD #[(de P "__module__" 225 (zS "yaml.events" 216)),(de P "__qualname__" 227 (zS "Event" 226)),(de P "__firstlineno__" 229 (.int 8 228)),(de P "__init__" 238 (zR 49)),(de P "__repr__" 245 (zR 56)),(de P "__static_attributes__" 248 (zR 57))] 6,zQ #[],zF #[zI 10,zI 4,zR 48,zI 14,zI 4,zR 55],zc "Event" 220 8 0 0 38 false 39 .none .none .none 223 224,⟨(.type "frame"),none,.plain,#[(some (zR 40)),(some (zR 3)),(some (zR 37)),none,(some (zS "yaml.events" 216)),none,(some (zR 0))]⟩,zQ #[.none,.none],zQ #[],zF #[],zQ #[zS "self" 233,zS "start_mark" 234,zS "end_mark" 235],zQ #[],zn (nd (cb hM 4) 0) "Event.__init__",co "__init__" "Event.__init__" 230 10 3 3 43 true 44 (zR 45) (zR 46) (zR 47) 236 237,zf (nd (cb hM 4) 0) "Event.__init__" 3 (zR 42) "yaml.events" 216 48,zQ #[],zF #[],zQ #[zS "self" 242],zQ #[],zn (nd (cb hM 4) 1) "Event.__repr__",co "__repr__" "Event.__repr__" 239 14 1 3 50 true 51 (zR 52) (zR 53) (zR 54) 243 244,zf (nd (cb hM 4) 1) "Event.__repr__" 3 .none "yaml.events" 216 55,zQ #[zS "end_mark" 246,zS "start_mark" 247],zD #[(de P "__module__" 225 (zS "yaml.events" 216)),(de P "__firstlineno__" 229 (.int 8 228)),(de P "__init__" 238 (zR 49)),(de P "__repr__" 245 (zR 56)),(de P "__static_attributes__" 248 (zR 57)),(de P "__dict__" 250 (zR 60)),(de P "__weakref__" 252 (zR 61)),(de P "__doc__" 253 .none)] 4]
noncomputable def Gy(P:Params):List Obj:=[⟨(.type "type"),none,(.cls (PySem.ClassData.mk "Event" [.type "object"] [zR 59,.type "object"] 58 "Event" true [] [zR 81,zR 113,zR 133,zR 145,zR 165] false none false)),#[(some (zR 35)),none,(some (zS "Event" 218)),(some (zS "Event" 226)),(some (.builtin "object.__new__")),(some (.bool true))]⟩]
noncomputable def u7(P:Params):List Obj:=[⟨(.type "getset_descriptor"),none,(.fields #[zS "__dict__" 249,zR 59,.builtin "function.__dict__",.builtin "function.__dict__#set"]),#[]⟩,⟨(.type "getset_descriptor"),none,(.fields #[zS "__weakref__" 251,zR 59,.builtin "ExceptionGroup.__weakref__",.none]),#[]⟩,zU0 59,zN0 59,zQ #[zR 59],zP0,zD #[(de P "__module__" 263 (zS "yaml.events" 216)),(de P "__qualname__" 265 (zS "NodeEvent" 264)),(de P "__firstlineno__" 267 (.int 16 266)),(de P "__init__" 277 (zR 78)),(de P "__static_attributes__" 281 (zR 79))] 5,zQ #[],zF #[zI 18,zI 4,zR 77],zc "NodeEvent" 258 16 0 0 67 false 68 .none .none .none 261 262,⟨(.type "frame"),none,.plain,#[(some (zR 69)),(some (zR 3)),(some (zR 66)),none,(some (zS "yaml.events" 216)),none,(some (zR 0))]⟩,zQ #[.none,.none],zQ #[],zF #[],zQ #[zS "self" 271,zS "anchor" 272,zS "start_mark" 273,zS "end_mark" 274],zQ #[],zn (nd (cb hM 5) 0) "NodeEvent.__init__",co "__init__" "NodeEvent.__init__" 268 18 4 3 72 true 73 (zR 74) (zR 75) (zR 76) 275 276,zf (nd (cb hM 5) 0) "NodeEvent.__init__" 3 (zR 71) "yaml.events" 216 77,zQ #[zS "anchor" 278,zS "end_mark" 279,zS "start_mark" 280],zD #[(de P "__module__" 263 (zS "yaml.events" 216)),(de P "__firstlineno__" 267 (.int 16 266)),(de P "__init__" 277 (zR 78)),(de P "__static_attributes__" 281 (zR 79)),(de P "__doc__" 282 .none)] 2]
noncomputable def Gz(P:Params):List Obj:=[⟨(.type "type"),none,(.cls (PySem.ClassData.mk "NodeEvent" [zR 59] [zR 81,zR 59,.type "object"] 80 "NodeEvent" true [] [zR 101] false none false)),#[(some (zR 64)),none,(some (zS "NodeEvent" 256)),(some (zS "NodeEvent" 264)),(some (.builtin "object.__new__")),(some (.bool true))]⟩]
noncomputable def u8(P:Params):List Obj:=[zU0 81,zN0 81,zQ #[zR 81],zP0,zD #[(de P "__module__" 292 (zS "yaml.events" 216)),(de P "__qualname__" 294 (zS "CollectionStartEvent" 293)),(de P "__firstlineno__" 296 (.int 22 295)),(de P "__init__" 309 (zR 98)),(de P "__static_attributes__" 316 (zR 99))] 5,zQ #[],zF #[zI 24,zI 4,zR 97],zc "CollectionStartEvent" 287 22 0 0 87 false 88 .none .none .none 290 291,⟨(.type "frame"),none,.plain,#[(some (zR 89)),(some (zR 3)),(some (zR 86)),none,(some (zS "yaml.events" 216)),none,(some (zR 0))]⟩,zQ #[.none,.none,.none],zQ #[],zF #[],zQ #[zS "self" 300,zS "anchor" 301,zS "tag" 302,zS "implicit" 303,zS "start_mark" 304,zS "end_mark" 305,zS "flow_style" 306],zQ #[],zn (nd (cb hM 6) 0) "CollectionStartEvent.__init__",co "__init__" "CollectionStartEvent.__init__" 297 24 7 3 92 true 93 (zR 94) (zR 95) (zR 96) 307 308,zf (nd (cb hM 6) 0) "CollectionStartEvent.__init__" 3 (zR 91) "yaml.events" 216 97,zQ #[zS "anchor" 310,zS "end_mark" 311,zS "flow_style" 312,zS "implicit" 313,zS "start_mark" 314,zS "tag" 315],zD #[(de P "__module__" 292 (zS "yaml.events" 216)),(de P "__firstlineno__" 296 (.int 22 295)),(de P "__init__" 309 (zR 98)),(de P "__static_attributes__" 316 (zR 99)),(de P "__doc__" 317 .none)] 2]
noncomputable def GA(P:Params):List Obj:=[⟨(.type "type"),none,(.cls (PySem.ClassData.mk "CollectionStartEvent" [zR 81] [zR 101,zR 81,zR 59,.type "object"] 100 "CollectionStartEvent" true [] [] false none false)),#[(some (zR 84)),none,(some (zS "CollectionStartEvent" 285)),(some (zS "CollectionStartEvent" 293)),(some (.builtin "object.__new__")),(some (.bool true))]⟩]
noncomputable def vd(P:Params):List Obj:=[zU0 101,zN0 101,zQ #[zR 59],zP0,zD #[(de P "__module__" 327 (zS "yaml.events" 216)),(de P "__qualname__" 329 (zS "CollectionEndEvent" 328)),(de P "__firstlineno__" 331 (.int 31 330)),(de P "__static_attributes__" 332 (zR 111))] 4,zQ #[],zF #[],zc "CollectionEndEvent" 322 31 0 0 107 false 108 .none .none .none 325 326,⟨(.type "frame"),none,.plain,#[(some (zR 109)),(some (zR 3)),(some (zR 106)),none,(some (zS "yaml.events" 216)),none,(some (zR 0))]⟩,zQ #[],zD #[(de P "__module__" 327 (zS "yaml.events" 216)),(de P "__firstlineno__" 331 (.int 31 330)),(de P "__static_attributes__" 332 (zR 111)),(de P "__doc__" 333 .none)] 2]
noncomputable def GB(P:Params):List Obj:=[⟨(.type "type"),none,(.cls (PySem.ClassData.mk "CollectionEndEvent" [zR 59] [zR 113,zR 59,.type "object"] 112 "CollectionEndEvent" true [] [] false none false)),#[(some (zR 104)),none,(some (zS "CollectionEndEvent" 320)),(some (zS "CollectionEndEvent" 328)),(some (.builtin "object.__new__")),(some (.bool true))]⟩]
noncomputable def ve(P:Params):List Obj:=[zU0 113,zN0 113,zQ #[zR 59],zP0,zD #[(de P "__module__" 343 (zS "yaml.events" 216)),(de P "__qualname__" 345 (zS "StreamStartEvent" 344)),(de P "__firstlineno__" 347 (.int 33 346)),(de P "__init__" 357 (zR 130)),(de P "__static_attributes__" 361 (zR 131))] 5,zQ #[],zF #[zI 35,zI 4,zR 129],zc "StreamStartEvent" 338 33 0 0 119 false 120 .none .none .none 341 342,⟨(.type "frame"),none,.plain,#[(some (zR 121)),(some (zR 3)),(some (zR 118)),none,(some (zS "yaml.events" 216)),none,(some (zR 0))]⟩,zQ #[.none,.none,.none],zQ #[],zF #[],zQ #[zS "self" 351,zS "start_mark" 352,zS "end_mark" 353,zS "encoding" 354],zQ #[],zn (nd (cb hM 8) 0) "StreamStartEvent.__init__",co "__init__" "StreamStartEvent.__init__" 348 35 4 3 124 true 125 (zR 126) (zR 127) (zR 128) 355 356,zf (nd (cb hM 8) 0) "StreamStartEvent.__init__" 3 (zR 123) "yaml.events" 216 129,zQ #[zS "encoding" 358,zS "end_mark" 359,zS "start_mark" 360],zD #[(de P "__module__" 343 (zS "yaml.events" 216)),(de P "__firstlineno__" 347 (.int 33 346)),(de P "__init__" 357 (zR 130)),(de P "__static_attributes__" 361 (zR 131)),(de P "__doc__" 362 .none)] 2,⟨(.type "type"),none,(.cls (PySem.ClassData.mk "StreamStartEvent" [zR 59] [zR 133,zR 59,.type "object"] 132 "StreamStartEvent" true [] [] false none false)),#[(some (zR 116)),none,(some (zS "StreamStartEvent" 336)),(some (zS "StreamStartEvent" 344)),(some (.builtin "object.__new__")),(some (.bool true))]⟩,zU0 133,zN0 133,zQ #[zR 59],zP0,zD #[(de P "__module__" 372 (zS "yaml.events" 216)),(de P "__qualname__" 374 (zS "StreamEndEvent" 373)),(de P "__firstlineno__" 376 (.int 39 375)),(de P "__static_attributes__" 377 (zR 143))] 4,zQ #[],zF #[],zc "StreamEndEvent" 367 39 0 0 139 false 140 .none .none .none 370 371,⟨(.type "frame"),none,.plain,#[(some (zR 141)),(some (zR 3)),(some (zR 138)),none,(some (zS "yaml.events" 216)),none,(some (zR 0))]⟩,zQ #[],zD #[(de P "__module__" 372 (zS "yaml.events" 216)),(de P "__firstlineno__" 376 (.int 39 375)),(de P "__static_attributes__" 377 (zR 143)),(de P "__doc__" 378 .none)] 2,⟨(.type "type"),none,(.cls (PySem.ClassData.mk "StreamEndEvent" [zR 59] [zR 145,zR 59,.type "object"] 144 "StreamEndEvent" true [] [] false none false)),#[(some (zR 136)),none,(some (zS "StreamEndEvent" 365)),(some (zS "StreamEndEvent" 373)),(some (.builtin "object.__new__")),(some (.bool true))]⟩,zU0 145,zN0 145,zQ #[zR 59],zP0,zD #[(de P "__module__" 388 (zS "yaml.events" 216)),(de P "__qualname__" 390 (zS "DocumentStartEvent" 389)),(de P "__firstlineno__" 392 (.int 41 391)),(de P "__init__" 404 (zR 162)),(de P "__static_attributes__" 410 (zR 163))] 5,zQ #[],zF #[zI 43,zI 4,zR 161],zc "DocumentStartEvent" 383 41 0 0 151 false 152 .none .none .none 386 387,⟨(.type "frame"),none,.plain,#[(some (zR 153)),(some (zR 3)),(some (zR 150)),none,(some (zS "yaml.events" 216)),none,(some (zR 0))]⟩,zQ #[.none,.none,.none,.none,.none],zQ #[],zF #[],zQ #[zS "self" 396,zS "start_mark" 397,zS "end_mark" 398,zS "explicit" 399,zS "version" 400,zS "tags" 401],zQ #[],zn (nd (cb hM 10) 0) "DocumentStartEvent.__init__",co "__init__" "DocumentStartEvent.__init__" 393 43 6 3 156 true 157 (zR 158) (zR 159) (zR 160) 402 403,zf (nd (cb hM 10) 0) "DocumentStartEvent.__init__" 3 (zR 155) "yaml.events" 216 161,zQ #[zS "end_mark" 405,zS "explicit" 406,zS "start_mark" 407,zS "tags" 408,zS "version" 409],zD #[(de P "__module__" 388 (zS "yaml.events" 216)),(de P "__firstlineno__" 392 (.int 41 391)),(de P "__init__" 404 (zR 162)),(de P "__static_attributes__" 410 (zR 163)),(de P "__doc__" 411 .none)] 2,⟨(.type "type"),none,(.cls (PySem.ClassData.mk "DocumentStartEvent" [zR 59] [zR 165,zR 59,.type "object"] 164 "DocumentStartEvent" true [] [] false none false)),#[(some (zR 148)),none,(some (zS "DocumentStartEvent" 381)),(some (zS "DocumentStartEvent" 389)),(some (.builtin "object.__new__")),(some (.bool true))]⟩,zU0 165,zN0 165]
noncomputable def L0(P:Params):List Obj:=AW P++(DK P++(KH P++(AX P++(KJ P++(AY P++(DL P++(KL P++(DM P++(Gy P++(u7 P++(Gz P++(u8 P++(GA P++(vd P++(GB P++(ve P))))))))))))))))
noncomputable def GC(P:Params):List Obj:=[zD #[(de P "__name__" 165 (zS "yaml.emitter" 560)),(de P "__doc__" 166 .none),(de P "__package__" 167 .none),(de P "__loader__" 168 (.builtin "__main__.__loader__#opaque")),(de P "__spec__" 169 .none),(de P "__annotations__" 170 (zR 6)),(de P "__builtins__" 171 (zR 4)),(de P "__file__" 173 (zS "/claim/cut.py" 172)),(de P "__cached__" 174 .none),(de P "_wall" 193 (zR 21)),(de P "YAMLError" 215 (zR 31)),(de P "Event" 255 (zR 59)),(de P "NodeEvent" 284 (zR 81)),(de P "CollectionStartEvent" 319 (zR 101)),(de P "CollectionEndEvent" 335 (zR 113)),(de P "StreamStartEvent" 364 (zR 133)),(de P "StreamEndEvent" 380 (zR 145)),(de P "DocumentStartEvent" 413 (zR 165)),(de P "DocumentEndEvent" 442 (zR 185)),(de P "AliasEvent" 458 (zR 197)),(de P "ScalarEvent" 495 (zR 217)),(de P "SequenceStartEvent" 511 (zR 229)),(de P "SequenceEndEvent" 527 (zR 241)),(de P "MappingStartEvent" 543 (zR 253)),(de P "MappingEndEvent" 559 (zR 265)),(de P "EmitterError" 577 (zR 277))] 26]
noncomputable def GD(P:Params):List Obj:=[zF #[zI 1,zI 0,zR 20,zI 5,zI 0,zR 27,zI 8,zI 0,zR 40,zI 16,zI 0,zR 69,zI 22,zI 0,zR 89,zI 31,zI 0,zR 109,zI 33,zI 0,zR 121,zI 39,zI 0,zR 141,zI 41,zI 0,zR 153,zI 49,zI 0,zR 173,zI 55,zI 0,zR 193,zI 57,zI 0,zR 205,zI 67,zI 0,zR 225,zI 69,zI 0,zR 237,zI 71,zI 0,zR 249,zI 73,zI 0,zR 261,zI 76,zI 0,zR 273]]
noncomputable def xU(P:Params):List Obj:=[⟨(.type "type"),none,(.cls (PySem.ClassData.mk "YAMLError" [.type "Exception"] [zR 31,.type "Exception",.type "BaseException",.type "object"] 30 "YAMLError" true [] [zR 277] false none false)),#[(some (zR 22)),none,(some (zS "YAMLError" 196)),(some (zS "YAMLError" 204)),(some (.builtin "Exception.__new__")),(some (.bool true))]⟩]
noncomputable def xW(P:Params):List Obj:=[⟨(.type "type"),none,(.cls (PySem.ClassData.mk "Event" [.type "object"] [zR 59,.type "object"] 58 "Event" true [] [zR 81,zR 113,zR 133,zR 145,zR 165,zR 185] false none false)),#[(some (zR 35)),none,(some (zS "Event" 218)),(some (zS "Event" 226)),(some (.builtin "object.__new__")),(some (.bool true))]⟩]
noncomputable def xX(P:Params):List Obj:=[⟨(.type "type"),none,(.cls (PySem.ClassData.mk "NodeEvent" [zR 59] [zR 81,zR 59,.type "object"] 80 "NodeEvent" true [] [zR 101,zR 197,zR 217] false none false)),#[(some (zR 64)),none,(some (zS "NodeEvent" 256)),(some (zS "NodeEvent" 264)),(some (.builtin "object.__new__")),(some (.bool true))]⟩]
noncomputable def xY(P:Params):List Obj:=[⟨(.type "type"),none,(.cls (PySem.ClassData.mk "CollectionStartEvent" [zR 81] [zR 101,zR 81,zR 59,.type "object"] 100 "CollectionStartEvent" true [] [zR 229,zR 253] false none false)),#[(some (zR 84)),none,(some (zS "CollectionStartEvent" 285)),(some (zS "CollectionStartEvent" 293)),(some (.builtin "object.__new__")),(some (.bool true))]⟩]
noncomputable def xZ(P:Params):List Obj:=[⟨(.type "type"),none,(.cls (PySem.ClassData.mk "CollectionEndEvent" [zR 59] [zR 113,zR 59,.type "object"] 112 "CollectionEndEvent" true [] [zR 241,zR 265] false none false)),#[(some (zR 104)),none,(some (zS "CollectionEndEvent" 320)),(some (zS "CollectionEndEvent" 328)),(some (.builtin "object.__new__")),(some (.bool true))]⟩]
noncomputable def x6(P:Params):List Obj:=[zQ #[zR 59],zP0,zD #[(de P "__module__" 421 (zS "yaml.events" 216)),(de P "__qualname__" 423 (zS "DocumentEndEvent" 422)),(de P "__firstlineno__" 425 (.int 49 424)),(de P "__init__" 435 (zR 182)),(de P "__static_attributes__" 439 (zR 183))] 5,zQ #[],zF #[zI 51,zI 4,zR 181],zc "DocumentEndEvent" 416 49 0 0 171 false 172 .none .none .none 419 420,⟨(.type "frame"),none,.plain,#[(some (zR 173)),(some (zR 3)),(some (zR 170)),none,(some (zS "yaml.events" 216)),none,(some (zR 0))]⟩,zQ #[.none,.none,.none],zQ #[],zF #[],zQ #[zS "self" 429,zS "start_mark" 430,zS "end_mark" 431,zS "explicit" 432],zQ #[],zn (nd (cb hM 11) 0) "DocumentEndEvent.__init__",co "__init__" "DocumentEndEvent.__init__" 426 51 4 3 176 true 177 (zR 178) (zR 179) (zR 180) 433 434,zf (nd (cb hM 11) 0) "DocumentEndEvent.__init__" 3 (zR 175) "yaml.events" 216 181,zQ #[zS "end_mark" 436,zS "explicit" 437,zS "start_mark" 438],zD #[(de P "__module__" 421 (zS "yaml.events" 216)),(de P "__firstlineno__" 425 (.int 49 424)),(de P "__init__" 435 (zR 182)),(de P "__static_attributes__" 439 (zR 183)),(de P "__doc__" 440 .none)] 2,⟨(.type "type"),none,(.cls (PySem.ClassData.mk "DocumentEndEvent" [zR 59] [zR 185,zR 59,.type "object"] 184 "DocumentEndEvent" true [] [] false none false)),#[(some (zR 168)),none,(some (zS "DocumentEndEvent" 414)),(some (zS "DocumentEndEvent" 422)),(some (.builtin "object.__new__")),(some (.bool true))]⟩,zU0 185,zN0 185,zQ #[zR 81],zP0,zD #[(de P "__module__" 450 (zS "yaml.events" 216)),(de P "__qualname__" 452 (zS "AliasEvent" 451)),(de P "__firstlineno__" 454 (.int 55 453)),(de P "__static_attributes__" 455 (zR 195))] 4,zQ #[],zF #[],zc "AliasEvent" 445 55 0 0 191 false 192 .none .none .none 448 449,⟨(.type "frame"),none,.plain,#[(some (zR 193)),(some (zR 3)),(some (zR 190)),none,(some (zS "yaml.events" 216)),none,(some (zR 0))]⟩,zQ #[],zD #[(de P "__module__" 450 (zS "yaml.events" 216)),(de P "__firstlineno__" 454 (.int 55 453)),(de P "__static_attributes__" 455 (zR 195)),(de P "__doc__" 456 .none)] 2,⟨(.type "type"),none,(.cls (PySem.ClassData.mk "AliasEvent" [zR 81] [zR 197,zR 81,zR 59,.type "object"] 196 "AliasEvent" true [] [] false none false)),#[(some (zR 188)),none,(some (zS "AliasEvent" 443)),(some (zS "AliasEvent" 451)),(some (.builtin "object.__new__")),(some (.bool true))]⟩,zU0 197,zN0 197,zQ #[zR 81],zP0,zD #[(de P "__module__" 466 (zS "yaml.events" 216)),(de P "__qualname__" 468 (zS "ScalarEvent" 467)),(de P "__firstlineno__" 470 (.int 57 469)),(de P "__init__" 484 (zR 214)),(de P "__static_attributes__" 492 (zR 215))] 5,zQ #[],zF #[zI 59,zI 4,zR 213],zc "ScalarEvent" 461 57 0 0 203 false 204 .none .none .none 464 465,⟨(.type "frame"),none,.plain,#[(some (zR 205)),(some (zR 3)),(some (zR 202)),none,(some (zS "yaml.events" 216)),none,(some (zR 0))]⟩,zQ #[.none,.none,.none],zQ #[],zF #[],zQ #[zS "self" 474,zS "anchor" 475,zS "tag" 476,zS "implicit" 477,zS "value" 478,zS "start_mark" 479,zS "end_mark" 480,zS "style" 481],zQ #[],zn (nd (cb hM 13) 0) "ScalarEvent.__init__",co "__init__" "ScalarEvent.__init__" 471 59 8 3 208 true 209 (zR 210) (zR 211) (zR 212) 482 483,zf (nd (cb hM 13) 0) "ScalarEvent.__init__" 3 (zR 207) "yaml.events" 216 213,zQ #[zS "anchor" 485,zS "end_mark" 486,zS "implicit" 487,zS "start_mark" 488,zS "style" 489,zS "tag" 490,zS "value" 491],zD #[(de P "__module__" 466 (zS "yaml.events" 216)),(de P "__firstlineno__" 470 (.int 57 469)),(de P "__init__" 484 (zR 214)),(de P "__static_attributes__" 492 (zR 215)),(de P "__doc__" 493 .none)] 2,⟨(.type "type"),none,(.cls (PySem.ClassData.mk "ScalarEvent" [zR 81] [zR 217,zR 81,zR 59,.type "object"] 216 "ScalarEvent" true [] [] false none false)),#[(some (zR 200)),none,(some (zS "ScalarEvent" 459)),(some (zS "ScalarEvent" 467)),(some (.builtin "object.__new__")),(some (.bool true))]⟩,zU0 217,zN0 217,zQ #[zR 101],zP0,zD #[(de P "__module__" 503 (zS "yaml.events" 216)),(de P "__qualname__" 505 (zS "SequenceStartEvent" 504)),(de P "__firstlineno__" 507 (.int 67 506)),(de P "__static_attributes__" 508 (zR 227))] 4,zQ #[],zF #[],zc "SequenceStartEvent" 498 67 0 0 223 false 224 .none .none .none 501 502,⟨(.type "frame"),none,.plain,#[(some (zR 225)),(some (zR 3)),(some (zR 222)),none,(some (zS "yaml.events" 216)),none,(some (zR 0))]⟩,zQ #[],zD #[(de P "__module__" 503 (zS "yaml.events" 216)),(de P "__firstlineno__" 507 (.int 67 506)),(de P "__static_attributes__" 508 (zR 227)),(de P "__doc__" 509 .none)] 2,⟨(.type "type"),none,(.cls (PySem.ClassData.mk "SequenceStartEvent" [zR 101] [zR 229,zR 101,zR 81,zR 59,.type "object"] 228 "SequenceStartEvent" true [] [] false none false)),#[(some (zR 220)),none,(some (zS "SequenceStartEvent" 496)),(some (zS "SequenceStartEvent" 504)),(some (.builtin "object.__new__")),(some (.bool true))]⟩,zU0 229,zN0 229,zQ #[zR 113],zP0,zD #[(de P "__module__" 519 (zS "yaml.events" 216)),(de P "__qualname__" 521 (zS "SequenceEndEvent" 520)),(de P "__firstlineno__" 523 (.int 69 522)),(de P "__static_attributes__" 524 (zR 239))] 4,zQ #[],zF #[],zc "SequenceEndEvent" 514 69 0 0 235 false 236 .none .none .none 517 518,⟨(.type "frame"),none,.plain,#[(some (zR 237)),(some (zR 3)),(some (zR 234)),none,(some (zS "yaml.events" 216)),none,(some (zR 0))]⟩,zQ #[],zD #[(de P "__module__" 519 (zS "yaml.events" 216)),(de P "__firstlineno__" 523 (.int 69 522)),(de P "__static_attributes__" 524 (zR 239)),(de P "__doc__" 525 .none)] 2,⟨(.type "type"),none,(.cls (PySem.ClassData.mk "SequenceEndEvent" [zR 113] [zR 241,zR 113,zR 59,.type "object"] 240 "SequenceEndEvent" true [] [] false none false)),#[(some (zR 232)),none,(some (zS "SequenceEndEvent" 512)),(some (zS "SequenceEndEvent" 520)),(some (.builtin "object.__new__")),(some (.bool true))]⟩,zU0 241,zN0 241,zQ #[zR 101],zP0,zD #[(de P "__module__" 535 (zS "yaml.events" 216)),(de P "__qualname__" 537 (zS "MappingStartEvent" 536)),(de P "__firstlineno__" 539 (.int 71 538)),(de P "__static_attributes__" 540 (zR 251))] 4,zQ #[],zF #[],zc "MappingStartEvent" 530 71 0 0 247 false 248 .none .none .none 533 534,⟨(.type "frame"),none,.plain,#[(some (zR 249)),(some (zR 3)),(some (zR 246)),none,(some (zS "yaml.events" 216)),none,(some (zR 0))]⟩,zQ #[],zD #[(de P "__module__" 535 (zS "yaml.events" 216)),(de P "__firstlineno__" 539 (.int 71 538)),(de P "__static_attributes__" 540 (zR 251)),(de P "__doc__" 541 .none)] 2,⟨(.type "type"),none,(.cls (PySem.ClassData.mk "MappingStartEvent" [zR 101] [zR 253,zR 101,zR 81,zR 59,.type "object"] 252 "MappingStartEvent" true [] [] false none false)),#[(some (zR 244)),none,(some (zS "MappingStartEvent" 528)),(some (zS "MappingStartEvent" 536)),(some (.builtin "object.__new__")),(some (.bool true))]⟩,zU0 253,zN0 253,zQ #[zR 113],zP0,zD #[(de P "__module__" 551 (zS "yaml.events" 216)),(de P "__qualname__" 553 (zS "MappingEndEvent" 552)),(de P "__firstlineno__" 555 (.int 73 554)),(de P "__static_attributes__" 556 (zR 263))] 4,zQ #[],zF #[],zc "MappingEndEvent" 546 73 0 0 259 false 260 .none .none .none 549 550,⟨(.type "frame"),none,.plain,#[(some (zR 261)),(some (zR 3)),(some (zR 258)),none,(some (zS "yaml.events" 216)),none,(some (zR 0))]⟩,zQ #[],zD #[(de P "__module__" 551 (zS "yaml.events" 216)),(de P "__firstlineno__" 555 (.int 73 554)),(de P "__static_attributes__" 556 (zR 263)),(de P "__doc__" 557 .none)] 2,⟨(.type "type"),none,(.cls (PySem.ClassData.mk "MappingEndEvent" [zR 113] [zR 265,zR 113,zR 59,.type "object"] 264 "MappingEndEvent" true [] [] false none false)),#[(some (zR 256)),none,(some (zS "MappingEndEvent" 544)),(some (zS "MappingEndEvent" 552)),(some (.builtin "object.__new__")),(some (.bool true))]⟩,zU0 265,zN0 265,zQ #[zR 31],zP0,zD #[(de P "__module__" 569 (zS "yaml.emitter" 560)),(de P "__qualname__" 571 (zS "EmitterError" 570)),(de P "__firstlineno__" 573 (.int 76 572)),(de P "__static_attributes__" 574 (zR 275))] 4,zQ #[],zF #[],zc "EmitterError" 564 76 0 0 271 false 272 .none .none .none 567 568,⟨(.type "frame"),none,.plain,#[(some (zR 273)),(some (zR 3)),(some (zR 270)),none,(some (zS "yaml.emitter" 560)),none,(some (zR 0))]⟩,zQ #[],zD #[(de P "__module__" 569 (zS "yaml.emitter" 560)),(de P "__firstlineno__" 573 (.int 76 572)),(de P "__static_attributes__" 574 (zR 275)),(de P "__doc__" 575 .none)] 2,⟨(.type "type"),none,(.cls (PySem.ClassData.mk "EmitterError" [zR 31] [zR 277,zR 31,.type "Exception",.type "BaseException",.type "object"] 276 "EmitterError" true [] [] false none false)),#[(some (zR 268)),none,(some (zS "EmitterError" 562)),(some (zS "EmitterError" 570)),(some (.builtin "Exception.__new__")),(some (.bool true))]⟩,zU0 277,zN0 277]
noncomputable def L1(P:Params):List Obj:=AW P++(DK P++(GC P++(AX P++(GD P++(AY P++(DL P++(xU P++(DM P++(xW P++(u7 P++(xX P++(u8 P++(xY P++(vd P++(xZ P++(ve P++(x6 P)))))))))))))))))
noncomputable def GE(P:Params):List Obj:=[zD #[(de P "__name__" 165 (zS "yaml.emitter" 560)),(de P "__doc__" 166 .none),(de P "__package__" 167 .none),(de P "__loader__" 168 (.builtin "__main__.__loader__#opaque")),(de P "__spec__" 169 .none),(de P "__annotations__" 170 (zR 6)),(de P "__builtins__" 171 (zR 4)),(de P "__file__" 173 (zS "/claim/cut.py" 172)),(de P "__cached__" 174 .none),(de P "_wall" 193 (zR 21)),(de P "YAMLError" 215 (zR 31)),(de P "Event" 255 (zR 59)),(de P "NodeEvent" 284 (zR 81)),(de P "CollectionStartEvent" 319 (zR 101)),(de P "CollectionEndEvent" 335 (zR 113)),(de P "StreamStartEvent" 364 (zR 133)),(de P "StreamEndEvent" 380 (zR 145)),(de P "DocumentStartEvent" 413 (zR 165)),(de P "DocumentEndEvent" 442 (zR 185)),(de P "AliasEvent" 458 (zR 197)),(de P "ScalarEvent" 495 (zR 217)),(de P "SequenceStartEvent" 511 (zR 229)),(de P "SequenceEndEvent" 527 (zR 241)),(de P "MappingStartEvent" 543 (zR 253)),(de P "MappingEndEvent" 559 (zR 265)),(de P "EmitterError" 577 (zR 277)),(de P "ScalarAnalysis" 620 (zR 296))] 27]
noncomputable def GF(P:Params):List Obj:=[zF #[zI 1,zI 0,zR 20,zI 5,zI 0,zR 27,zI 8,zI 0,zR 40,zI 16,zI 0,zR 69,zI 22,zI 0,zR 89,zI 31,zI 0,zR 109,zI 33,zI 0,zR 121,zI 39,zI 0,zR 141,zI 41,zI 0,zR 153,zI 49,zI 0,zR 173,zI 55,zI 0,zR 193,zI 57,zI 0,zR 205,zI 67,zI 0,zR 225,zI 69,zI 0,zR 237,zI 71,zI 0,zR 249,zI 73,zI 0,zR 261,zI 76,zI 0,zR 273,zI 78,zI 0,zR 285]]
noncomputable def AZ(P:Params):List Obj:=[zQ #[],zP0,zD #[(de P "__module__" 585 (zS "yaml.emitter" 560)),(de P "__qualname__" 587 (zS "ScalarAnalysis" 586)),(de P "__firstlineno__" 589 (.int 78 588)),(de P "__init__" 604 (zR 293)),(de P "__static_attributes__" 613 (zR 294))] 5,zQ #[],zF #[zI 80,zI 4,zR 292],zc "ScalarAnalysis" 580 78 0 0 283 false 284 .none .none .none 583 584,⟨(.type "frame"),none,.plain,#[(some (zR 285)),(some (zR 3)),(some (zR 282)),none,(some (zS "yaml.emitter" 560)),none,(some (zR 0))]⟩,zQ #[],zF #[],zQ #[zS "self" 593,zS "scalar" 594,zS "empty" 595,zS "multiline" 596,zS "allow_flow_plain" 597,zS "allow_block_plain" 598,zS "allow_single_quoted" 599,zS "allow_double_quoted" 600,zS "allow_block" 601],zQ #[],zn (nd (cb hM 20) 0) "ScalarAnalysis.__init__",co "__init__" "ScalarAnalysis.__init__" 590 80 9 3 287 true 288 (zR 289) (zR 290) (zR 291) 602 603,zf (nd (cb hM 20) 0) "ScalarAnalysis.__init__" 3 .none "yaml.emitter" 560 292,zQ #[zS "allow_block" 605,zS "allow_block_plain" 606,zS "allow_double_quoted" 607,zS "allow_flow_plain" 608,zS "allow_single_quoted" 609,zS "empty" 610,zS "multiline" 611,zS "scalar" 612],zD #[(de P "__module__" 585 (zS "yaml.emitter" 560)),(de P "__firstlineno__" 589 (.int 78 588)),(de P "__init__" 604 (zR 293)),(de P "__static_attributes__" 613 (zR 294)),(de P "__dict__" 615 (zR 297)),(de P "__weakref__" 617 (zR 298)),(de P "__doc__" 618 .none)] 4,⟨(.type "type"),none,(.cls (PySem.ClassData.mk "ScalarAnalysis" [.type "object"] [zR 296,.type "object"] 295 "ScalarAnalysis" true [] [] false none false)),#[none,none,(some (zS "ScalarAnalysis" 578)),(some (zS "ScalarAnalysis" 586)),(some (.builtin "object.__new__")),(some (.bool true))]⟩,⟨(.type "getset_descriptor"),none,(.fields #[zS "__dict__" 614,zR 296,.builtin "function.__dict__",.builtin "function.__dict__#set"]),#[]⟩,⟨(.type "getset_descriptor"),none,(.fields #[zS "__weakref__" 616,zR 296,.builtin "ExceptionGroup.__weakref__",.none]),#[]⟩,zU0 296,zN0 296]
noncomputable def L2(P:Params):List Obj:=AW P++(DK P++(GE P++(AX P++(GF P++(AY P++(DL P++(xU P++(DM P++(xW P++(u7 P++(xX P++(u8 P++(xY P++(vd P++(xZ P++(ve P++(x6 P++(AZ P))))))))))))))))))
noncomputable def GG(P:Params):List Obj:=[zD #[(de P "__name__" 165 (zS "yaml.emitter" 560)),(de P "__doc__" 166 .none),(de P "__package__" 167 .none),(de P "__loader__" 168 (.builtin "__main__.__loader__#opaque")),(de P "__spec__" 169 .none),(de P "__annotations__" 170 (zR 6)),(de P "__builtins__" 171 (zR 4)),(de P "__file__" 173 (zS "/claim/cut.py" 172)),(de P "__cached__" 174 .none),(de P "_wall" 193 (zR 21)),(de P "YAMLError" 215 (zR 31)),(de P "Event" 255 (zR 59)),(de P "NodeEvent" 284 (zR 81)),(de P "CollectionStartEvent" 319 (zR 101)),(de P "CollectionEndEvent" 335 (zR 113)),(de P "StreamStartEvent" 364 (zR 133)),(de P "StreamEndEvent" 380 (zR 145)),(de P "DocumentStartEvent" 413 (zR 165)),(de P "DocumentEndEvent" 442 (zR 185)),(de P "AliasEvent" 458 (zR 197)),(de P "ScalarEvent" 495 (zR 217)),(de P "SequenceStartEvent" 511 (zR 229)),(de P "SequenceEndEvent" 527 (zR 241)),(de P "MappingStartEvent" 543 (zR 253)),(de P "MappingEndEvent" 559 (zR 265)),(de P "EmitterError" 577 (zR 277)),(de P "ScalarAnalysis" 620 (zR 296)),(de P "Emitter" 1271 (zR 736))] 28]
noncomputable def GH(P:Params):List Obj:=[zF #[zI 1,zI 0,zR 20,zI 5,zI 0,zR 27,zI 8,zI 0,zR 40,zI 16,zI 0,zR 69,zI 22,zI 0,zR 89,zI 31,zI 0,zR 109,zI 33,zI 0,zR 121,zI 39,zI 0,zR 141,zI 41,zI 0,zR 153,zI 49,zI 0,zR 173,zI 55,zI 0,zR 193,zI 57,zI 0,zR 205,zI 67,zI 0,zR 225,zI 69,zI 0,zR 237,zI 71,zI 0,zR 249,zI 73,zI 0,zR 261,zI 76,zI 0,zR 273,zI 78,zI 0,zR 285,zI 89,zI 0,zR 306]]
noncomputable def DN(P:Params):List Obj:=[zQ #[],zP0,zD #[(de P "__module__" 628 (zS "yaml.emitter" 560)),(de P "__qualname__" 630 (zS "Emitter" 629)),(de P "__firstlineno__" 632 (.int 89 631)),(de P "DEFAULT_TAG_PREFIXES" 639 (zR 308)),(de P "__init__" 652 (zR 316)),(de P "dispose" 659 (zR 323)),(de P "emit" 667 (zR 330)),(de P "need_more_events" 675 (zR 337)),(de P "need_events" 685 (zR 344)),(de P "increase_indent" 694 (zR 352)),(de P "expect_stream_start" 701 (zR 359)),(de P "expect_nothing" 708 (zR 366)),(de P "expect_first_document_start" 715 (zR 373)),(de P "expect_document_start" 730 (zR 381)),(de P "expect_document_end" 737 (zR 388)),(de P "expect_document_root" 744 (zR 395)),(de P "expect_node" 755 (zR 403)),(de P "expect_alias" 762 (zR 410)),(de P "expect_scalar" 769 (zR 417)),(de P "expect_flow_sequence" 776 (zR 424)),(de P "expect_first_flow_sequence_item" 783 (zR 431)),(de P "expect_flow_sequence_item" 790 (zR 438)),(de P "expect_flow_mapping" 797 (zR 445)),(de P "expect_first_flow_mapping_key" 804 (zR 452)),(de P "expect_flow_mapping_key" 811 (zR 459)),(de P "expect_flow_mapping_simple_value" 818 (zR 466)),(de P "expect_flow_mapping_value" 825 (zR 473)),(de P "expect_block_sequence" 833 (zR 480)),(de P "expect_first_block_sequence_item" 840 (zR 487)),(de P "expect_block_sequence_item" 848 (zR 495)),(de P "expect_block_mapping" 855 (zR 502)),(de P "expect_first_block_mapping_key" 862 (zR 509)),(de P "expect_block_mapping_key" 870 (zR 517)),(de P "expect_block_mapping_simple_value" 877 (zR 524)),(de P "expect_block_mapping_value" 884 (zR 531)),(de P "check_empty_sequence" 891 (zR 538)),(de P "check_empty_mapping" 898 (zR 545)),(de P "check_empty_document" 906 (zR 552)),(de P "check_simple_key" 914 (zR 559)),(de P "process_anchor" 922 (zR 566)),(de P "process_tag" 930 (zR 573)),(de P "choose_scalar_style" 937 (zR 580)),(de P "process_scalar" 945 (zR 587)),(de P "prepare_version" 955 (zR 594)),(de P "prepare_tag_handle" 964 (zR 601)),(de P "prepare_tag_prefix" 977 (zR 608)),(de P "prepare_tag" 995 (zR 615)),(de P "prepare_anchor" 1004 (zR 622)),(de P "analyze_scalar" 1034 (zR 629)),(de P "flush_stream" 1041 (zR 636)),(de P "write_stream_start" 1048 (zR 643)),(de P "write_stream_end" 1055 (zR 650)),(de P "write_indicator" 1067 (zR 658)),(de P "write_indent" 1076 (zR 665)),(de P "write_line_break" 1084 (zR 673)),(de P "write_version_directive" 1093 (zR 680)),(de P "write_tag_directive" 1103 (zR 687)),(de P "write_single_quoted" 1119 (zR 695)),(de P "ESCAPE_REPLACEMENTS" 1165 (zR 696)),(de P "write_double_quoted" 1178 (zR 704)),(de P "determine_block_hints" 1187 (zR 711)),(de P "write_folded" 1204 (zR 718)),(de P "write_literal" 1219 (zR 725)),(de P "write_plain" 1235 (zR 733)),(de P "__static_attributes__" 1264 (zR 734))] 65,zQ #[],zF #[zI 92,zI 4,zR 315,zI 128,zI 4,zR 322,zI 131,zI 4,zR 329,zI 138,zI 4,zR 336,zI 151,zI 4,zR 343,zI 164,zI 4,zR 351,zI 174,zI 4,zR 358,zI 181,zI 4,zR 365,zI 184,zI 4,zR 372,zI 187,zI 4,zR 380,zI 220,zI 4,zR 387,zI 231,zI 4,zR 394,zI 235,zI 4,zR 402,zI 260,zI 4,zR 409,zI 266,zI 4,zR 416,zI 272,zI 4,zR 423,zI 278,zI 4,zR 430,zI 290,zI 4,zR 437,zI 306,zI 4,zR 444,zI 312,zI 4,zR 451,zI 329,zI 4,zR 458,zI 350,zI 4,zR 465,zI 355,zI 4,zR 472,zI 362,zI 4,zR 479,zI 367,zI 4,zR 486,zI 370,zI 4,zR 494,zI 380,zI 4,zR 501,zI 384,zI 4,zR 508,zI 387,zI 4,zR 516,zI 401,zI 4,zR 523,zI 406,zI 4,zR 530,zI 412,zI 4,zR 537,zI 415,zI 4,zR 544,zI 418,zI 4,zR 551,zI 424,zI 4,zR 558,zI 440,zI 4,zR 565,zI 450,zI 4,zR 572,zI 472,zI 4,zR 579,zI 488,zI 4,zR 586,zI 507,zI 4,zR 593,zI 513,zI 4,zR 600,zI 523,zI 4,zR 607,zI 545,zI 4,zR 614,zI 578,zI 4,zR 621,zI 586,zI 4,zR 628,zI 684,zI 4,zR 635,zI 687,zI 4,zR 642,zI 690,zI 4,zR 649,zI 693,zI 4,zR 657,zI 704,zI 4,zR 664,zI 714,zI 4,zR 672,zI 723,zI 4,zR 679,zI 728,zI 4,zR 686,zI 733,zI 4,zR 694,zI 780,zI 4,zR 703,zI 821,zI 4,zR 710,zI 832,zI 4,zR 717,zI 880,zI 4,zR 724,zI 912,zI 4,zR 732],zc "Emitter" 623 89 0 0 304 false 305 .none .none .none 626 627,⟨(.type "frame"),none,.plain,#[(some (zR 306)),(some (zR 3)),(some (zR 303)),none,(some (zS "yaml.emitter" 560)),none,(some (zR 0))]⟩,zD #[(de P "!" 633 (zS "!" 634)),(de P "tag:yaml.org,2002:" 635 (zS "!!" 636))] 2,zQ #[.none,.none,.none,.none,.none],zQ #[],zF #[],zQ #[zS "self" 643,zS "stream" 644,zS "canonical" 645,zS "indent" 646,zS "width" 647,zS "allow_unicode" 648,zS "line_break" 649],zQ #[],zn (nd (cb hM 21) 1) "Emitter.__init__",co "__init__" "Emitter.__init__" 640 92 7 3 310 true 311 (zR 312) (zR 313) (zR 314) 650 651,zf (nd (cb hM 21) 1) "Emitter.__init__" 3 (zR 309) "yaml.emitter" 560 315,zQ #[],zF #[],zQ #[zS "self" 656],zQ #[],zn (nd (cb hM 21) 2) "Emitter.dispose",co "dispose" "Emitter.dispose" 653 128 1 3 317 true 318 (zR 319) (zR 320) (zR 321) 657 658,zf (nd (cb hM 21) 2) "Emitter.dispose" 3 .none "yaml.emitter" 560 322,zQ #[],zF #[],zQ #[zS "self" 663,zS "event" 664],zQ #[],zn (nd (cb hM 21) 3) "Emitter.emit",co "emit" "Emitter.emit" 660 131 2 3 324 true 325 (zR 326) (zR 327) (zR 328) 665 666,zf (nd (cb hM 21) 3) "Emitter.emit" 3 .none "yaml.emitter" 560 329,zQ #[],zF #[],zQ #[zS "self" 671,zS "event" 672],zQ #[],zn (nd (cb hM 21) 4) "Emitter.need_more_events",co "need_more_events" "Emitter.need_more_events" 668 138 1 3 331 true 332 (zR 333) (zR 334) (zR 335) 673 674,zf (nd (cb hM 21) 4) "Emitter.need_more_events" 3 .none "yaml.emitter" 560 336,zQ #[],zF #[],zQ #[zS "self" 679,zS "count" 680,zS "level" 681,zS "event" 682],zQ #[],zn (nd (cb hM 21) 5) "Emitter.need_events",co "need_events" "Emitter.need_events" 676 151 2 3 338 true 339 (zR 340) (zR 341) (zR 342) 683 684,zf (nd (cb hM 21) 5) "Emitter.need_events" 3 .none "yaml.emitter" 560 343,zQ #[(.bool false),(.bool false)],zQ #[],zF #[],zQ #[zS "self" 689,zS "flow" 690,zS "indentless" 691],zQ #[],zn (nd (cb hM 21) 6) "Emitter.increase_indent",co "increase_indent" "Emitter.increase_indent" 686 164 3 3 346 true 347 (zR 348) (zR 349) (zR 350) 692 693,zf (nd (cb hM 21) 6) "Emitter.increase_indent" 3 (zR 345) "yaml.emitter" 560 351,zQ #[],zF #[],zQ #[zS "self" 698],zQ #[],zn (nd (cb hM 21) 7) "Emitter.expect_stream_start",co "expect_stream_start" "Emitter.expect_stream_start" 695 174 1 3 353 true 354 (zR 355) (zR 356) (zR 357) 699 700,zf (nd (cb hM 21) 7) "Emitter.expect_stream_start" 3 .none "yaml.emitter" 560 358,zQ #[],zF #[],zQ #[zS "self" 705],zQ #[],zn (nd (cb hM 21) 8) "Emitter.expect_nothing",co "expect_nothing" "Emitter.expect_nothing" 702 181 1 3 360 true 361 (zR 362) (zR 363) (zR 364) 706 707,zf (nd (cb hM 21) 8) "Emitter.expect_nothing" 3 .none "yaml.emitter" 560 365,zQ #[],zF #[],zQ #[zS "self" 712],zQ #[],zn (nd (cb hM 21) 9) "Emitter.expect_first_document_start",co "expect_first_document_start" "Emitter.expect_first_document_start" 709 184 1 3 367 true 368 (zR 369) (zR 370) (zR 371) 713 714,zf (nd (cb hM 21) 9) "Emitter.expect_first_document_start" 3 .none "yaml.emitter" 560 372,zQ #[(.bool false)],zQ #[],zF #[],zQ #[zS "self" 719,zS "first" 720,zS "version_text" 721,zS "handles" 722,zS "handle" 723,zS "prefix" 724,zS "handle_text" 725,zS "prefix_text" 726,zS "implicit" 727],zQ #[],zn (nd (cb hM 21) 10) "Emitter.expect_document_start",co "expect_document_start" "Emitter.expect_document_start" 716 187 2 3 375 true 376 (zR 377) (zR 378) (zR 379) 728 729,zf (nd (cb hM 21) 10) "Emitter.expect_document_start" 3 (zR 374) "yaml.emitter" 560 380,zQ #[],zF #[],zQ #[zS "self" 734],zQ #[],zn (nd (cb hM 21) 11) "Emitter.expect_document_end",co "expect_document_end" "Emitter.expect_document_end" 731 220 1 3 382 true 383 (zR 384) (zR 385) (zR 386) 735 736,zf (nd (cb hM 21) 11) "Emitter.expect_document_end" 3 .none "yaml.emitter" 560 387,zQ #[],zF #[],zQ #[zS "self" 741],zQ #[],zn (nd (cb hM 21) 12) "Emitter.expect_document_root",co "expect_document_root" "Emitter.expect_document_root" 738 231 1 3 389 true 390 (zR 391) (zR 392) (zR 393) 742 743,zf (nd (cb hM 21) 12) "Emitter.expect_document_root" 3 .none "yaml.emitter" 560 394,zQ #[(.bool false),(.bool false),(.bool false),(.bool false)],zQ #[],zF #[],zQ #[zS "self" 748,zS "root" 749,zS "sequence" 750,zS "mapping" 751,zS "simple_key" 752],zQ #[],zn (nd (cb hM 21) 13) "Emitter.expect_node",co "expect_node" "Emitter.expect_node" 745 235 5 3 397 true 398 (zR 399) (zR 400) (zR 401) 753 754,zf (nd (cb hM 21) 13) "Emitter.expect_node" 3 (zR 396) "yaml.emitter" 560 402,zQ #[],zF #[],zQ #[zS "self" 759],zQ #[],zn (nd (cb hM 21) 14) "Emitter.expect_alias",co "expect_alias" "Emitter.expect_alias" 756 260 1 3 404 true 405 (zR 406) (zR 407) (zR 408) 760 761,zf (nd (cb hM 21) 14) "Emitter.expect_alias" 3 .none "yaml.emitter" 560 409,zQ #[],zF #[],zQ #[zS "self" 766],zQ #[],zn (nd (cb hM 21) 15) "Emitter.expect_scalar",co "expect_scalar" "Emitter.expect_scalar" 763 266 1 3 411 true 412 (zR 413) (zR 414) (zR 415) 767 768,zf (nd (cb hM 21) 15) "Emitter.expect_scalar" 3 .none "yaml.emitter" 560 416,zQ #[],zF #[],zQ #[zS "self" 773],zQ #[],zn (nd (cb hM 21) 16) "Emitter.expect_flow_sequence",co "expect_flow_sequence" "Emitter.expect_flow_sequence" 770 272 1 3 418 true 419 (zR 420) (zR 421) (zR 422) 774 775,zf (nd (cb hM 21) 16) "Emitter.expect_flow_sequence" 3 .none "yaml.emitter" 560 423,zQ #[],zF #[],zQ #[zS "self" 780],zQ #[],zn (nd (cb hM 21) 17) "Emitter.expect_first_flow_sequence_item",co "expect_first_flow_sequence_item" "Emitter.expect_first_flow_sequence_item" 777 278 1 3 425 true 426 (zR 427) (zR 428) (zR 429) 781 782,zf (nd (cb hM 21) 17) "Emitter.expect_first_flow_sequence_item" 3 .none "yaml.emitter" 560 430,zQ #[],zF #[],zQ #[zS "self" 787],zQ #[],zn (nd (cb hM 21) 18) "Emitter.expect_flow_sequence_item",co "expect_flow_sequence_item" "Emitter.expect_flow_sequence_item" 784 290 1 3 432 true 433 (zR 434) (zR 435) (zR 436) 788 789,zf (nd (cb hM 21) 18) "Emitter.expect_flow_sequence_item" 3 .none "yaml.emitter" 560 437,zQ #[],zF #[],zQ #[zS "self" 794],zQ #[],zn (nd (cb hM 21) 19) "Emitter.expect_flow_mapping",co "expect_flow_mapping" "Emitter.expect_flow_mapping" 791 306 1 3 439 true 440 (zR 441) (zR 442) (zR 443) 795 796,zf (nd (cb hM 21) 19) "Emitter.expect_flow_mapping" 3 .none "yaml.emitter" 560 444,zQ #[],zF #[],zQ #[zS "self" 801],zQ #[],zn (nd (cb hM 21) 20) "Emitter.expect_first_flow_mapping_key",co "expect_first_flow_mapping_key" "Emitter.expect_first_flow_mapping_key" 798 312 1 3 446 true 447 (zR 448) (zR 449) (zR 450) 802 803,zf (nd (cb hM 21) 20) "Emitter.expect_first_flow_mapping_key" 3 .none "yaml.emitter" 560 451,zQ #[],zF #[],zQ #[zS "self" 808],zQ #[],zn (nd (cb hM 21) 21) "Emitter.expect_flow_mapping_key",co "expect_flow_mapping_key" "Emitter.expect_flow_mapping_key" 805 329 1 3 453 true 454 (zR 455) (zR 456) (zR 457) 809 810,zf (nd (cb hM 21) 21) "Emitter.expect_flow_mapping_key" 3 .none "yaml.emitter" 560 458,zQ #[],zF #[],zQ #[zS "self" 815],zQ #[],zn (nd (cb hM 21) 22) "Emitter.expect_flow_mapping_simple_value",co "expect_flow_mapping_simple_value" "Emitter.expect_flow_mapping_simple_value" 812 350 1 3 460 true 461 (zR 462) (zR 463) (zR 464) 816 817,zf (nd (cb hM 21) 22) "Emitter.expect_flow_mapping_simple_value" 3 .none "yaml.emitter" 560 465,zQ #[],zF #[],zQ #[zS "self" 822],zQ #[],zn (nd (cb hM 21) 23) "Emitter.expect_flow_mapping_value",co "expect_flow_mapping_value" "Emitter.expect_flow_mapping_value" 819 355 1 3 467 true 468 (zR 469) (zR 470) (zR 471) 823 824,zf (nd (cb hM 21) 23) "Emitter.expect_flow_mapping_value" 3 .none "yaml.emitter" 560 472,zQ #[],zF #[],zQ #[zS "self" 829,zS "indentless" 830],zQ #[],zn (nd (cb hM 21) 24) "Emitter.expect_block_sequence",co "expect_block_sequence" "Emitter.expect_block_sequence" 826 362 1 3 474 true 475 (zR 476) (zR 477) (zR 478) 831 832,zf (nd (cb hM 21) 24) "Emitter.expect_block_sequence" 3 .none "yaml.emitter" 560 479,zQ #[],zF #[],zQ #[zS "self" 837],zQ #[],zn (nd (cb hM 21) 25) "Emitter.expect_first_block_sequence_item",co "expect_first_block_sequence_item" "Emitter.expect_first_block_sequence_item" 834 367 1 3 481 true 482 (zR 483) (zR 484) (zR 485) 838 839,zf (nd (cb hM 21) 25) "Emitter.expect_first_block_sequence_item" 3 .none "yaml.emitter" 560 486,zQ #[(.bool false)],zQ #[],zF #[],zQ #[zS "self" 844,zS "first" 845],zQ #[],zn (nd (cb hM 21) 26) "Emitter.expect_block_sequence_item",co "expect_block_sequence_item" "Emitter.expect_block_sequence_item" 841 370 2 3 489 true 490 (zR 491) (zR 492) (zR 493) 846 847,zf (nd (cb hM 21) 26) "Emitter.expect_block_sequence_item" 3 (zR 488) "yaml.emitter" 560 494,zQ #[],zF #[],zQ #[zS "self" 852],zQ #[],zn (nd (cb hM 21) 27) "Emitter.expect_block_mapping",co "expect_block_mapping" "Emitter.expect_block_mapping" 849 380 1 3 496 true 497 (zR 498) (zR 499) (zR 500) 853 854,zf (nd (cb hM 21) 27) "Emitter.expect_block_mapping" 3 .none "yaml.emitter" 560 501,zQ #[],zF #[],zQ #[zS "self" 859],zQ #[],zn (nd (cb hM 21) 28) "Emitter.expect_first_block_mapping_key",co "expect_first_block_mapping_key" "Emitter.expect_first_block_mapping_key" 856 384 1 3 503 true 504 (zR 505) (zR 506) (zR 507) 860 861,zf (nd (cb hM 21) 28) "Emitter.expect_first_block_mapping_key" 3 .none "yaml.emitter" 560 508,zQ #[(.bool false)],zQ #[],zF #[],zQ #[zS "self" 866,zS "first" 867],zQ #[],zn (nd (cb hM 21) 29) "Emitter.expect_block_mapping_key",co "expect_block_mapping_key" "Emitter.expect_block_mapping_key" 863 387 2 3 511 true 512 (zR 513) (zR 514) (zR 515) 868 869,zf (nd (cb hM 21) 29) "Emitter.expect_block_mapping_key" 3 (zR 510) "yaml.emitter" 560 516,zQ #[],zF #[],zQ #[zS "self" 874],zQ #[],zn (nd (cb hM 21) 30) "Emitter.expect_block_mapping_simple_value",co "expect_block_mapping_simple_value" "Emitter.expect_block_mapping_simple_value" 871 401 1 3 518 true 519 (zR 520) (zR 521) (zR 522) 875 876,zf (nd (cb hM 21) 30) "Emitter.expect_block_mapping_simple_value" 3 .none "yaml.emitter" 560 523,zQ #[],zF #[],zQ #[zS "self" 881],zQ #[],zn (nd (cb hM 21) 31) "Emitter.expect_block_mapping_value",co "expect_block_mapping_value" "Emitter.expect_block_mapping_value" 878 406 1 3 525 true 526 (zR 527) (zR 528) (zR 529) 882 883,zf (nd (cb hM 21) 31) "Emitter.expect_block_mapping_value" 3 .none "yaml.emitter" 560 530,zQ #[],zF #[],zQ #[zS "self" 888],zQ #[],zn (nd (cb hM 21) 32) "Emitter.check_empty_sequence",co "check_empty_sequence" "Emitter.check_empty_sequence" 885 412 1 3 532 true 533 (zR 534) (zR 535) (zR 536) 889 890,zf (nd (cb hM 21) 32) "Emitter.check_empty_sequence" 3 .none "yaml.emitter" 560 537,zQ #[],zF #[],zQ #[zS "self" 895],zQ #[],zn (nd (cb hM 21) 33) "Emitter.check_empty_mapping",co "check_empty_mapping" "Emitter.check_empty_mapping" 892 415 1 3 539 true 540 (zR 541) (zR 542) (zR 543) 896 897,zf (nd (cb hM 21) 33) "Emitter.check_empty_mapping" 3 .none "yaml.emitter" 560 544,zQ #[],zF #[],zQ #[zS "self" 902,zS "event" 903],zQ #[],zn (nd (cb hM 21) 34) "Emitter.check_empty_document",co "check_empty_document" "Emitter.check_empty_document" 899 418 1 3 546 true 547 (zR 548) (zR 549) (zR 550) 904 905,zf (nd (cb hM 21) 34) "Emitter.check_empty_document" 3 .none "yaml.emitter" 560 551,zQ #[],zF #[],zQ #[zS "self" 910,zS "length" 911],zQ #[],zn (nd (cb hM 21) 35) "Emitter.check_simple_key",co "check_simple_key" "Emitter.check_simple_key" 907 424 1 3 553 true 554 (zR 555) (zR 556) (zR 557) 912 913,zf (nd (cb hM 21) 35) "Emitter.check_simple_key" 3 .none "yaml.emitter" 560 558,zQ #[],zF #[],zQ #[zS "self" 918,zS "indicator" 919],zQ #[],zn (nd (cb hM 21) 36) "Emitter.process_anchor",co "process_anchor" "Emitter.process_anchor" 915 440 2 3 560 true 561 (zR 562) (zR 563) (zR 564) 920 921,zf (nd (cb hM 21) 36) "Emitter.process_anchor" 3 .none "yaml.emitter" 560 565,zQ #[],zF #[],zQ #[zS "self" 926,zS "tag" 927],zQ #[],zn (nd (cb hM 21) 37) "Emitter.process_tag",co "process_tag" "Emitter.process_tag" 923 450 1 3 567 true 568 (zR 569) (zR 570) (zR 571) 928 929,zf (nd (cb hM 21) 37) "Emitter.process_tag" 3 .none "yaml.emitter" 560 572,zQ #[],zF #[],zQ #[zS "self" 934],zQ #[],zn (nd (cb hM 21) 38) "Emitter.choose_scalar_style",co "choose_scalar_style" "Emitter.choose_scalar_style" 931 472 1 3 574 true 575 (zR 576) (zR 577) (zR 578) 935 936,zf (nd (cb hM 21) 38) "Emitter.choose_scalar_style" 3 .none "yaml.emitter" 560 579,zQ #[],zF #[],zQ #[zS "self" 941,zS "split" 942],zQ #[],zn (nd (cb hM 21) 39) "Emitter.process_scalar",co "process_scalar" "Emitter.process_scalar" 938 488 1 3 581 true 582 (zR 583) (zR 584) (zR 585) 943 944,zf (nd (cb hM 21) 39) "Emitter.process_scalar" 3 .none "yaml.emitter" 560 586,zQ #[],zF #[],zQ #[zS "self" 949,zS "version" 950,zS "major" 951,zS "minor" 952],zQ #[],zn (nd (cb hM 21) 40) "Emitter.prepare_version",co "prepare_version" "Emitter.prepare_version" 946 507 2 3 588 true 589 (zR 590) (zR 591) (zR 592) 953 954,zf (nd (cb hM 21) 40) "Emitter.prepare_version" 3 .none "yaml.emitter" 560 593,zQ #[],zF #[],zQ #[zS "self" 959,zS "handle" 960,zS "ch" 961],zQ #[],zn (nd (cb hM 21) 41) "Emitter.prepare_tag_handle",co "prepare_tag_handle" "Emitter.prepare_tag_handle" 956 513 2 3 595 true 596 (zR 597) (zR 598) (zR 599) 962 963,zf (nd (cb hM 21) 41) "Emitter.prepare_tag_handle" 3 .none "yaml.emitter" 560 600,zQ #[],zF #[],zQ #[zS "self" 968,zS "prefix" 969,zS "chunks" 970,zS "start" 971,zS "end" 972,zS "ch" 973,zS "data" 974],zQ #[],zn (nd (cb hM 21) 42) "Emitter.prepare_tag_prefix",co "prepare_tag_prefix" "Emitter.prepare_tag_prefix" 965 523 2 3 602 true 603 (zR 604) (zR 605) (zR 606) 975 976,zf (nd (cb hM 21) 42) "Emitter.prepare_tag_prefix" 3 .none "yaml.emitter" 560 607,zQ #[],zF #[],zQ #[zS "self" 981,zS "tag" 982,zS "handle" 983,zS "suffix" 984,zS "prefixes" 985,zS "prefix" 986,zS "chunks" 987,zS "start" 988,zS "end" 989,zS "ch" 990,zS "data" 991,zS "suffix_text" 992],zQ #[],zn (nd (cb hM 21) 43) "Emitter.prepare_tag",co "prepare_tag" "Emitter.prepare_tag" 978 545 2 3 609 true 610 (zR 611) (zR 612) (zR 613) 993 994,zf (nd (cb hM 21) 43) "Emitter.prepare_tag" 3 .none "yaml.emitter" 560 614,zQ #[],zF #[],zQ #[zS "self" 999,zS "anchor" 1000,zS "ch" 1001],zQ #[],zn (nd (cb hM 21) 44) "Emitter.prepare_anchor",co "prepare_anchor" "Emitter.prepare_anchor" 996 578 2 3 616 true 617 (zR 618) (zR 619) (zR 620) 1002 1003,zf (nd (cb hM 21) 44) "Emitter.prepare_anchor" 3 .none "yaml.emitter" 560 621,zQ #[],zF #[],zQ #[zS "self" 1008,zS "scalar" 1009,zS "block_indicators" 1010,zS "flow_indicators" 1011,zS "line_breaks" 1012,zS "special_characters" 1013,zS "leading_space" 1014,zS "leading_break" 1015,zS "trailing_space" 1016,zS "trailing_break" 1017,zS "break_space" 1018,zS "space_break" 1019,zS "preceded_by_whitespace" 1020,zS "followed_by_whitespace" 1021,zS "previous_space" 1022,zS "previous_break" 1023,zS "index" 1024,zS "ch" 1025,zS "unicode_characters" 1026,zS "allow_flow_plain" 1027,zS "allow_block_plain" 1028,zS "allow_single_quoted" 1029,zS "allow_double_quoted" 1030,zS "allow_block" 1031],zQ #[],zn (nd (cb hM 21) 45) "Emitter.analyze_scalar",co "analyze_scalar" "Emitter.analyze_scalar" 1005 586 2 3 623 true 624 (zR 625) (zR 626) (zR 627) 1032 1033,zf (nd (cb hM 21) 45) "Emitter.analyze_scalar" 3 .none "yaml.emitter" 560 628,zQ #[],zF #[],zQ #[zS "self" 1038],zQ #[],zn (nd (cb hM 21) 46) "Emitter.flush_stream",co "flush_stream" "Emitter.flush_stream" 1035 684 1 3 630 true 631 (zR 632) (zR 633) (zR 634) 1039 1040,zf (nd (cb hM 21) 46) "Emitter.flush_stream" 3 .none "yaml.emitter" 560 635,zQ #[],zF #[],zQ #[zS "self" 1045],zQ #[],zn (nd (cb hM 21) 47) "Emitter.write_stream_start",co "write_stream_start" "Emitter.write_stream_start" 1042 687 1 3 637 true 638 (zR 639) (zR 640) (zR 641) 1046 1047,zf (nd (cb hM 21) 47) "Emitter.write_stream_start" 3 .none "yaml.emitter" 560 642,zQ #[],zF #[],zQ #[zS "self" 1052],zQ #[],zn (nd (cb hM 21) 48) "Emitter.write_stream_end",co "write_stream_end" "Emitter.write_stream_end" 1049 690 1 3 644 true 645 (zR 646) (zR 647) (zR 648) 1053 1054,zf (nd (cb hM 21) 48) "Emitter.write_stream_end" 3 .none "yaml.emitter" 560 649,zQ #[(.bool false),(.bool false)],zQ #[],zF #[],zQ #[zS "self" 1059,zS "indicator" 1060,zS "need_whitespace" 1061,zS "whitespace" 1062,zS "indention" 1063,zS "data" 1064],zQ #[],zn (nd (cb hM 21) 49) "Emitter.write_indicator",co "write_indicator" "Emitter.write_indicator" 1056 693 5 3 652 true 653 (zR 654) (zR 655) (zR 656) 1065 1066,zf (nd (cb hM 21) 49) "Emitter.write_indicator" 3 (zR 651) "yaml.emitter" 560 657,zQ #[],zF #[],zQ #[zS "self" 1071,zS "indent" 1072,zS "data" 1073],zQ #[],zn (nd (cb hM 21) 50) "Emitter.write_indent",co "write_indent" "Emitter.write_indent" 1068 704 1 3 659 true 660 (zR 661) (zR 662) (zR 663) 1074 1075,zf (nd (cb hM 21) 50) "Emitter.write_indent" 3 .none "yaml.emitter" 560 664,zQ #[.none],zQ #[],zF #[],zQ #[zS "self" 1080,zS "data" 1081],zQ #[],zn (nd (cb hM 21) 51) "Emitter.write_line_break",co "write_line_break" "Emitter.write_line_break" 1077 714 2 3 667 true 668 (zR 669) (zR 670) (zR 671) 1082 1083,zf (nd (cb hM 21) 51) "Emitter.write_line_break" 3 (zR 666) "yaml.emitter" 560 672,zQ #[],zF #[],zQ #[zS "self" 1088,zS "version_text" 1089,zS "data" 1090],zQ #[],zn (nd (cb hM 21) 52) "Emitter.write_version_directive",co "write_version_directive" "Emitter.write_version_directive" 1085 723 2 3 674 true 675 (zR 676) (zR 677) (zR 678) 1091 1092,zf (nd (cb hM 21) 52) "Emitter.write_version_directive" 3 .none "yaml.emitter" 560 679,zQ #[],zF #[],zQ #[zS "self" 1097,zS "handle_text" 1098,zS "prefix_text" 1099,zS "data" 1100],zQ #[],zn (nd (cb hM 21) 53) "Emitter.write_tag_directive",co "write_tag_directive" "Emitter.write_tag_directive" 1094 728 3 3 681 true 682 (zR 683) (zR 684) (zR 685) 1101 1102,zf (nd (cb hM 21) 53) "Emitter.write_tag_directive" 3 .none "yaml.emitter" 560 686,zQ #[(.bool true)],zQ #[],zF #[],zQ #[zS "self" 1107,zS "text" 1108,zS "split" 1109,zS "spaces" 1110,zS "breaks" 1111,zS "start" 1112,zS "end" 1113,zS "ch" 1114,zS "data" 1115,zS "br" 1116],zQ #[],zn (nd (cb hM 21) 54) "Emitter.write_single_quoted",co "write_single_quoted" "Emitter.write_single_quoted" 1104 733 3 3 689 true 690 (zR 691) (zR 692) (zR 693) 1117 1118,zf (nd (cb hM 21) 54) "Emitter.write_single_quoted" 3 (zR 688) "yaml.emitter" 560 694,zD #[(de P "\x00" 1120 (zS "0" 1121)),(de P "\x07" 1122 (zS "a" 1123)),(de P "\x08" 1124 (zS "b" 1125)),(de P "\t" 1126 (zS "t" 1127)),(de P "\n" 1128 (zS "n" 1129)),(de P "\x0b" 1130 (zS "v" 1131)),(de P "\x0c" 1132 (zS "f" 1133)),(de P "\x0d" 1134 (zS "r" 1135)),(de P "\x1b" 1136 (zS "e" 1137)),(de P "\"" 1138 (.str "\"" 1139)),(de P "\\" 1140 (zS "\\" 1141)),(de P "" 1142 (zS "N" 1143)),(de P " " 1144 (zS "_" 1145)),(de P " " 1146 (zS "L" 1147)),(de P " " 1148 (zS "P" 1149))] 15,zQ #[(.bool true)],zQ #[],zF #[],zQ #[zS "self" 1169,zS "text" 1170,zS "split" 1171,zS "start" 1172,zS "end" 1173,zS "ch" 1174,zS "data" 1175],zQ #[],zn (nd (cb hM 21) 56) "Emitter.write_double_quoted",co "write_double_quoted" "Emitter.write_double_quoted" 1166 780 3 3 698 true 699 (zR 700) (zR 701) (zR 702) 1176 1177,zf (nd (cb hM 21) 56) "Emitter.write_double_quoted" 3 (zR 697) "yaml.emitter" 560 703,zQ #[],zF #[],zQ #[zS "self" 1182,zS "text" 1183,zS "hints" 1184],zQ #[],zn (nd (cb hM 21) 57) "Emitter.determine_block_hints",co "determine_block_hints" "Emitter.determine_block_hints" 1179 821 2 3 705 true 706 (zR 707) (zR 708) (zR 709) 1185 1186,zf (nd (cb hM 21) 57) "Emitter.determine_block_hints" 3 .none "yaml.emitter" 560 710,zQ #[],zF #[],zQ #[zS "self" 1191,zS "text" 1192,zS "hints" 1193,zS "leading_space" 1194,zS "spaces" 1195,zS "breaks" 1196,zS "start" 1197,zS "end" 1198,zS "ch" 1199,zS "br" 1200,zS "data" 1201],zQ #[],zn (nd (cb hM 21) 58) "Emitter.write_folded",co "write_folded" "Emitter.write_folded" 1188 832 2 3 712 true 713 (zR 714) (zR 715) (zR 716) 1202 1203,zf (nd (cb hM 21) 58) "Emitter.write_folded" 3 .none "yaml.emitter" 560 717,zQ #[],zF #[],zQ #[zS "self" 1208,zS "text" 1209,zS "hints" 1210,zS "breaks" 1211,zS "start" 1212,zS "end" 1213,zS "ch" 1214,zS "br" 1215,zS "data" 1216],zQ #[],zn (nd (cb hM 21) 59) "Emitter.write_literal",co "write_literal" "Emitter.write_literal" 1205 880 2 3 719 true 720 (zR 721) (zR 722) (zR 723) 1217 1218,zf (nd (cb hM 21) 59) "Emitter.write_literal" 3 .none "yaml.emitter" 560 724,zQ #[(.bool true)],zQ #[],zF #[],zQ #[zS "self" 1223,zS "text" 1224,zS "split" 1225,zS "data" 1226,zS "spaces" 1227,zS "breaks" 1228,zS "start" 1229,zS "end" 1230,zS "ch" 1231,zS "br" 1232],zQ #[],zn (nd (cb hM 21) 60) "Emitter.write_plain",co "write_plain" "Emitter.write_plain" 1220 912 3 3 727 true 728 (zR 729) (zR 730) (zR 731) 1233 1234,zf (nd (cb hM 21) 60) "Emitter.write_plain" 3 (zR 726) "yaml.emitter" 560 732,zQ #[zS "allow_unicode" 1236,zS "analysis" 1237,zS "best_indent" 1238,zS "best_line_break" 1239,zS "best_width" 1240,zS "canonical" 1241,zS "column" 1242,zS "encoding" 1243,zS "event" 1244,zS "events" 1245,zS "flow_level" 1246,zS "indent" 1247,zS "indention" 1248,zS "indents" 1249,zS "line" 1250,zS "mapping_context" 1251,zS "open_ended" 1252,zS "prepared_anchor" 1253,zS "prepared_tag" 1254,zS "root_context" 1255,zS "sequence_context" 1256,zS "simple_key_context" 1257,zS "state" 1258,zS "states" 1259,zS "stream" 1260,zS "style" 1261,zS "tag_prefixes" 1262,zS "whitespace" 1263],zD #[(de P "__module__" 628 (zS "yaml.emitter" 560)),(de P "__firstlineno__" 632 (.int 89 631)),(de P "DEFAULT_TAG_PREFIXES" 639 (zR 308)),(de P "__init__" 652 (zR 316)),(de P "dispose" 659 (zR 323)),(de P "emit" 667 (zR 330)),(de P "need_more_events" 675 (zR 337)),(de P "need_events" 685 (zR 344)),(de P "increase_indent" 694 (zR 352)),(de P "expect_stream_start" 701 (zR 359)),(de P "expect_nothing" 708 (zR 366)),(de P "expect_first_document_start" 715 (zR 373)),(de P "expect_document_start" 730 (zR 381)),(de P "expect_document_end" 737 (zR 388)),(de P "expect_document_root" 744 (zR 395)),(de P "expect_node" 755 (zR 403)),(de P "expect_alias" 762 (zR 410)),(de P "expect_scalar" 769 (zR 417)),(de P "expect_flow_sequence" 776 (zR 424)),(de P "expect_first_flow_sequence_item" 783 (zR 431)),(de P "expect_flow_sequence_item" 790 (zR 438)),(de P "expect_flow_mapping" 797 (zR 445)),(de P "expect_first_flow_mapping_key" 804 (zR 452)),(de P "expect_flow_mapping_key" 811 (zR 459)),(de P "expect_flow_mapping_simple_value" 818 (zR 466)),(de P "expect_flow_mapping_value" 825 (zR 473)),(de P "expect_block_sequence" 833 (zR 480)),(de P "expect_first_block_sequence_item" 840 (zR 487)),(de P "expect_block_sequence_item" 848 (zR 495)),(de P "expect_block_mapping" 855 (zR 502)),(de P "expect_first_block_mapping_key" 862 (zR 509)),(de P "expect_block_mapping_key" 870 (zR 517)),(de P "expect_block_mapping_simple_value" 877 (zR 524)),(de P "expect_block_mapping_value" 884 (zR 531)),(de P "check_empty_sequence" 891 (zR 538)),(de P "check_empty_mapping" 898 (zR 545)),(de P "check_empty_document" 906 (zR 552)),(de P "check_simple_key" 914 (zR 559)),(de P "process_anchor" 922 (zR 566)),(de P "process_tag" 930 (zR 573)),(de P "choose_scalar_style" 937 (zR 580)),(de P "process_scalar" 945 (zR 587)),(de P "prepare_version" 955 (zR 594)),(de P "prepare_tag_handle" 964 (zR 601)),(de P "prepare_tag_prefix" 977 (zR 608)),(de P "prepare_tag" 995 (zR 615)),(de P "prepare_anchor" 1004 (zR 622)),(de P "analyze_scalar" 1034 (zR 629)),(de P "flush_stream" 1041 (zR 636)),(de P "write_stream_start" 1048 (zR 643)),(de P "write_stream_end" 1055 (zR 650)),(de P "write_indicator" 1067 (zR 658)),(de P "write_indent" 1076 (zR 665)),(de P "write_line_break" 1084 (zR 673)),(de P "write_version_directive" 1093 (zR 680)),(de P "write_tag_directive" 1103 (zR 687)),(de P "write_single_quoted" 1119 (zR 695)),(de P "ESCAPE_REPLACEMENTS" 1165 (zR 696)),(de P "write_double_quoted" 1178 (zR 704)),(de P "determine_block_hints" 1187 (zR 711)),(de P "write_folded" 1204 (zR 718)),(de P "write_literal" 1219 (zR 725)),(de P "write_plain" 1235 (zR 733)),(de P "__static_attributes__" 1264 (zR 734)),(de P "__dict__" 1266 (zR 737)),(de P "__weakref__" 1268 (zR 738)),(de P "__doc__" 1269 .none)] 4,⟨(.type "type"),none,(.cls (PySem.ClassData.mk "Emitter" [.type "object"] [zR 736,.type "object"] 735 "Emitter" true [] [] false none false)),#[none,none,(some (zS "Emitter" 621)),(some (zS "Emitter" 629)),(some (.builtin "object.__new__")),(some (.bool true))]⟩,⟨(.type "getset_descriptor"),none,(.fields #[zS "__dict__" 1265,zR 736,.builtin "function.__dict__",.builtin "function.__dict__#set"]),#[]⟩,⟨(.type "getset_descriptor"),none,(.fields #[zS "__weakref__" 1267,zR 736,.builtin "ExceptionGroup.__weakref__",.none]),#[]⟩,zU0 736,zN0 736]
noncomputable def L3(P:Params):List Obj:=AW P++(DK P++(GG P++(AX P++(GH P++(AY P++(DL P++(xU P++(DM P++(xW P++(u7 P++(xX P++(u8 P++(xY P++(vd P++(xZ P++(ve P++(x6 P++(AZ P++(DN P)))))))))))))))))))
noncomputable def GJ(P:Params):List Obj:=[zD #[(de P "__name__" 165 (zS "law_te0009_02" 1315)),(de P "__doc__" 166 .none),(de P "__package__" 167 .none),(de P "__loader__" 168 (.builtin "__main__.__loader__#opaque")),(de P "__spec__" 169 .none),(de P "__annotations__" 170 (zR 6)),(de P "__builtins__" 171 (zR 4)),(de P "__file__" 173 (zS "/claim/cut.py" 172)),(de P "__cached__" 174 .none),(de P "_wall" 193 (zR 21)),(de P "YAMLError" 215 (zR 31)),(de P "Event" 255 (zR 59)),(de P "NodeEvent" 284 (zR 81)),(de P "CollectionStartEvent" 319 (zR 101)),(de P "CollectionEndEvent" 335 (zR 113)),(de P "StreamStartEvent" 364 (zR 133)),(de P "StreamEndEvent" 380 (zR 145)),(de P "DocumentStartEvent" 413 (zR 165)),(de P "DocumentEndEvent" 442 (zR 185)),(de P "AliasEvent" 458 (zR 197)),(de P "ScalarEvent" 495 (zR 217)),(de P "SequenceStartEvent" 511 (zR 229)),(de P "SequenceEndEvent" 527 (zR 241)),(de P "MappingStartEvent" 543 (zR 253)),(de P "MappingEndEvent" 559 (zR 265)),(de P "EmitterError" 577 (zR 277)),(de P "ScalarAnalysis" 620 (zR 296)),(de P "Emitter" 1271 (zR 736)),(de P "Rows" 1314 (zR 771)),(de P "_law_SIGNS" 1339 (zR 776)),(de P "_law_WORDS" 1345 (zR 783)),(de P "_law_ENDINGS" 1351 (zR 790)),(de P "_law_next" 1358 (zR 797)),(de P "_law_lines" 1368 (zR 804)),(de P "_law_node" 1374 (zR 809)),(de P "_law_events" 1385 (zR 816)),(de P "_law_text" 1400 (zR 823)),(de P "_law_hang" 1412 (zR 830)),(de P "_law_block" 1427 (zR 837)),(de P "law" 1433 (zR 842))] 40]
noncomputable def GK(P:Params):List Obj:=[zF #[zI 1,zI 0,zR 20,zI 5,zI 0,zR 27,zI 8,zI 0,zR 40,zI 16,zI 0,zR 69,zI 22,zI 0,zR 89,zI 31,zI 0,zR 109,zI 33,zI 0,zR 121,zI 39,zI 0,zR 141,zI 41,zI 0,zR 153,zI 49,zI 0,zR 173,zI 55,zI 0,zR 193,zI 57,zI 0,zR 205,zI 67,zI 0,zR 225,zI 69,zI 0,zR 237,zI 71,zI 0,zR 249,zI 73,zI 0,zR 261,zI 76,zI 0,zR 273,zI 78,zI 0,zR 285,zI 89,zI 0,zR 306,zI 963,zI 0,zR 746,zI 975,zI 0,zR 782,zI 977,zI 0,zR 789,zI 979,zI 0,zR 796,zI 981,zI 0,zR 803,zI 993,zI 0,zR 808,zI 1013,zI 0,zR 815,zI 1027,zI 0,zR 822,zI 1039,zI 0,zR 829,zI 1046,zI 0,zR 836,zI 1064,zI 0,zR 841]]
noncomputable def GL(P:Params):List Obj:=[zQ #[],zP0,zD #[(de P "__module__" 1279 (zS "yaml.emitter" 560)),(de P "__qualname__" 1281 (zS "Rows" 1280)),(de P "__firstlineno__" 1283 (.int 963 1282)),(de P "__init__" 1290 (zR 754)),(de P "write" 1298 (zR 761)),(de P "text" 1305 (zR 768)),(de P "__static_attributes__" 1307 (zR 769))] 7,zQ #[],zF #[zI 965,zI 4,zR 753,zI 968,zI 4,zR 760,zI 971,zI 4,zR 767],zc "Rows" 1274 963 0 0 744 false 745 .none .none .none 1277 1278,⟨(.type "frame"),none,.plain,#[(some (zR 746)),(some (zR 3)),(some (zR 743)),none,(some (zS "yaml.emitter" 560)),none,(some (zR 0))]⟩,zQ #[],zF #[],zQ #[zS "self" 1287],zQ #[],zn (nd (cb hM 22) 0) "Rows.__init__",co "__init__" "Rows.__init__" 1284 965 1 3 748 true 749 (zR 750) (zR 751) (zR 752) 1288 1289,zf (nd (cb hM 22) 0) "Rows.__init__" 3 .none "yaml.emitter" 560 753,zQ #[],zF #[],zQ #[zS "self" 1294,zS "data" 1295],zQ #[],zn (nd (cb hM 22) 1) "Rows.write",co "write" "Rows.write" 1291 968 2 3 755 true 756 (zR 757) (zR 758) (zR 759) 1296 1297,zf (nd (cb hM 22) 1) "Rows.write" 3 .none "yaml.emitter" 560 760,zQ #[],zF #[],zQ #[zS "self" 1302],zQ #[],zn (nd (cb hM 22) 2) "Rows.text",co "text" "Rows.text" 1299 971 1 3 762 true 763 (zR 764) (zR 765) (zR 766) 1303 1304,zf (nd (cb hM 22) 2) "Rows.text" 3 .none "yaml.emitter" 560 767,zQ #[zS "rows" 1306],zD #[(de P "__module__" 1279 (zS "yaml.emitter" 560)),(de P "__firstlineno__" 1283 (.int 963 1282)),(de P "__init__" 1290 (zR 754)),(de P "write" 1298 (zR 761)),(de P "text" 1305 (zR 768)),(de P "__static_attributes__" 1307 (zR 769)),(de P "__dict__" 1309 (zR 772)),(de P "__weakref__" 1311 (zR 773)),(de P "__doc__" 1312 .none)] 4,⟨(.type "type"),none,(.cls (PySem.ClassData.mk "Rows" [.type "object"] [zR 771,.type "object"] 770 "Rows" true [] [] false none false)),#[none,none,(some (zS "Rows" 1272)),(some (zS "Rows" 1280)),(some (.builtin "object.__new__")),(some (.bool true))]⟩,⟨(.type "getset_descriptor"),none,(.fields #[zS "__dict__" 1308,zR 771,.builtin "function.__dict__",.builtin "function.__dict__#set"]),#[]⟩,⟨(.type "getset_descriptor"),none,(.fields #[zS "__weakref__" 1310,zR 771,.builtin "ExceptionGroup.__weakref__",.none]),#[]⟩,zU0 771,zN0 771,⟨(.type "list"),none,(.seq #[zS "\n" 1317,zS "a" 1318,zS " b" 1319,zS "\n\n" 1320,zS "   c" 1321,zS "#d" 1322,zS "-" 1323,zS ": e" 1324,zS "---" 1325,zS "..." 1326,zS "|2-" 1327,zS "'" 1328,(.str "\"" 1329),zS "\\n" 1330,zS "%" 1331,zS "?" 1332,zS "&f" 1333,zS "[," 1334,zS " " 1335,zS "é" 1336,zS " " 1337,zS "😀" 1338] 0),#[]⟩,zQ #[],zF #[],zQ #[],zQ #[],zn (nd hM 25) "_law_WORDS",zc "_law_WORDS" 1340 975 0 3 777 true 778 (zR 779) (zR 780) (zR 781) 1343 1344,zf (nd hM 25) "_law_WORDS" 3 .none "law_te0009_02" 1315 782,zQ #[],zF #[],zQ #[],zQ #[],zn (nd hM 26) "_law_ENDINGS",zc "_law_ENDINGS" 1346 977 0 3 784 true 785 (zR 786) (zR 787) (zR 788) 1349 1350,zf (nd hM 26) "_law_ENDINGS" 3 .none "law_te0009_02" 1315 789,zQ #[],zF #[],zQ #[zS "tape" 1355],zQ #[],zn (nd hM 27) "_law_next",zc "_law_next" 1352 979 1 3 791 true 792 (zR 793) (zR 794) (zR 795) 1356 1357,zf (nd hM 27) "_law_next" 3 .none "law_te0009_02" 1315 796,zQ #[],zF #[],zQ #[zS "value" 1362,zS "lines" 1363,zS "line" 1364,zS "c" 1365],zQ #[],zn (nd hM 28) "_law_lines",zc "_law_lines" 1359 981 1 3 798 true 799 (zR 800) (zR 801) (zR 802) 1366 1367,zf (nd hM 28) "_law_lines" 3 .none "law_te0009_02" 1315 803,zQ #[],zF #[],zn (nd hM 29) "_law_node",zc "_law_node" 1369 993 3 3 805 true 806 .none .none (zR 807) 1372 1373,zf (nd hM 29) "_law_node" 3 .none "law_te0009_02" 1315 808,zQ #[],zF #[],zQ #[zS "node" 1378,zS "events" 1379,zS "child" 1380,zS "key" 1381,zS "held" 1382],zQ #[],zn (nd hM 30) "_law_events",zc "_law_events" 1375 1013 1 3 810 true 811 (zR 812) (zR 813) (zR 814) 1383 1384,zf (nd hM 30) "_law_events" 3 .none "law_te0009_02" 1315 815,zQ #[],zF #[],zQ #[zS "head" 1389,zS "value" 1390,zS "column" 1391,zS "step" 1392,zS "ending" 1393,zS "lines" 1394,zS "rows" 1395,zS "line" 1396,zS "end" 1397],zQ #[],zn (nd hM 31) "_law_text",zc "_law_text" 1386 1027 5 3 817 true 818 (zR 819) (zR 820) (zR 821) 1398 1399,zf (nd hM 31) "_law_text" 3 .none "law_te0009_02" 1315 822,zQ #[],zF #[],zQ #[zS "head" 1404,zS "node" 1405,zS "column" 1406,zS "step" 1407,zS "ending" 1408,zS "rows" 1409],zQ #[],zn (nd hM 32) "_law_hang",zc "_law_hang" 1401 1039 5 3 824 true 825 (zR 826) (zR 827) (zR 828) 1410 1411,zf (nd hM 32) "_law_hang" 3 .none "law_te0009_02" 1315 829,zQ #[],zF #[],zQ #[zS "node" 1416,zS "column" 1417,zS "step" 1418,zS "ending" 1419,zS "pad" 1420,zS "rows" 1421,zS "child" 1422,zS "key" 1423,zS "held" 1424],zQ #[],zn (nd hM 33) "_law_block",zc "_law_block" 1413 1046 4 3 831 true 832 (zR 833) (zR 834) (zR 835) 1425 1426,zf (nd hM 33) "_law_block" 3 .none "law_te0009_02" 1315 836,zQ #[],zF #[],zn (nd hM 34) "law",zc "law" 1428 1064 1 3 838 true 839 .none .none (zR 840) 1431 1432,zf (nd hM 34) "law" 3 .none "law_te0009_02" 1315 841]
noncomputable def L4(P:Params):List Obj:=AW P++(DK P++(GJ P++(AX P++(GK P++(AY P++(DL P++(xU P++(DM P++(xW P++(u7 P++(xX P++(u8 P++(xY P++(vd P++(xZ P++(ve P++(x6 P++(AZ P++(DN P++(GL P))))))))))))))))))))
noncomputable def pk:Nat→List Nat→List Obj→Frag
 |_,[],_=>[]
 |a,g::gs,l=>match l.drop g with
  |[]=>[]
  |x::r=>(a+g,x)::pk (a+g+1) gs r
noncomputable def tqG:List Nat:=[2,0,11,1,0,1,0,0,6,0,0,0,2,6,0,1,0,1,0,0,1,0,1,0,0,0,0,0,0,2,6,0,1,0,1,0,0,0,0,2,6,0,1,0,1,0,0,0,0,2,6,0,0,2,6,0,1,0,1,0,0,0,0,2,6,0,0,2,6,0,1,0,1,0,0,0,0,2,6,0,1,0,1,0,0,0,0,2,6,0,0,2,6,0,1,0,1,0,0,0,0,2,6,0,0,2,6,0,0,2,6,0,0,2,6,0,0,2,6,0,0,9,1,0,1,0,0,0,0,0,0,9,0,0,1,0,1,0,0,1,0,1,0,0,1,0,1,0,0,1,0,1,0,0,1,0,1,0,0,0,1,0,1,0,0,1,0,1,0,0,1,0,1,0,0,1,0,1,0,0,0,1,0,1,0,0,1,0,1,0,0,1,0,1,0,0,0,1,0,1,0,0,1,0,1,0,0,1,0,1,0,0,1,0,1,0,0,1,0,1,0,0,1,0,1,0,0,1,0,1,0,0,1,0,1,0,0,1,0,1,0,0,1,0,1,0,0,1,0,1,0,0,1,0,1,0,0,1,0,1,0,0,0,1,0,1,0,0,1,0,1,0,0,1,0,1,0,0,0,1,0,1,0,0,1,0,1,0,0,1,0,1,0,0,1,0,1,0,0,1,0,1,0,0,1,0,1,0,0,1,0,1,0,0,1,0,1,0,0,1,0,1,0,0,1,0,1,0,0,1,0,1,0,0,1,0,1,0,0,1,0,1,0,0,1,0,1,0,0,1,0,1,0,0,1,0,1,0,0,1,0,1,0,0,1,0,1,0,0,1,0,1,0,0,1,0,1,0,0,0,1,0,1,0,0,1,0,1,0,0,0,1,0,1,0,0,1,0,1,0,0,1,0,1,0,0,0,1,0,1,0,0,0,0,1,0,1,0,0,1,0,1,0,0,1,0,1,0,0,1,0,1,0,0,0,1,0,1,0,0,0,0,0,0,9,1,0,1,0,0,1,0,1,0,0,1,0,1,0,0,0,0,0,0,2,0,1,0,1,0,0,1,0,1,0,0,1,0,1,0,0,1,0,1,0,0,2,0,0,1,0,1,0,0,1,0,1,0,0,1,0,1,0,0,1,0,1,0,0,2,0]
noncomputable def tqK:Nat→List Nat→List Nat
 |_,[]=>[]
 |a,g::s=>(a+g)::tqK (a+g+1) s
noncomputable def KG:List Nat:=tqK 0 tqG
noncomputable def hK(P:Params):Frag:=pk 0 tqG (L4 P)
open PySem PySem.W PyProof.Rows PySem.Calls
theorem KM:∀w:World,(λos=>segRunT treeTable hp w 11 kO 1 1954 (sT (Lb w.params) 15 187 os) (piecesOf ((hB.drop 0).take 11) dG (.body hB dG) ⟨0,0,0,0⟩ [topFrame ⟨0,0,0,0⟩]))=λos=>some (Flow.next,sT (L0 w.params) 168 414 os,Code.body hB dG,⟨41,0,48,24⟩):=λw=>hX (by kernel_rfl)
theorem KN:∀w:World,(λos=>segRunT treeTable hp w 11 kO 1 1908 (sT (L0 w.params) 168 414 os) (piecesOf ((hB.drop 11).take 9) dG (.body hB dG) ⟨41,0,48,24⟩ [topFrame ⟨0,0,0,0⟩]))=λos=>some (Flow.next,sT (L1 w.params) 280 578 os,Code.body hB dG,⟨76,0,77,8⟩):=λw=>hX (by kernel_rfl)
theorem KO:∀w:World,(λos=>segRunT treeTable hp w 11 kO 1 237 (sT (L1 w.params) 280 578 os) (piecesOf ((hB.drop 20).take 1) dG (.body hB dG) ⟨76,0,77,8⟩ [topFrame ⟨0,0,0,0⟩]))=λos=>some (Flow.next,sT (L2 w.params) 301 621 os,Code.body hB dG,⟨78,0,88,38⟩):=λw=>hX (by kernel_rfl)
theorem KP:∀w:World,(λos=>segRunT treeTable hp w 11 kO 1 2474 (sT (L2 w.params) 301 621 os) (piecesOf ((hB.drop 21).take 1) dG (.body hB dG) ⟨78,0,88,38⟩ [topFrame ⟨0,0,0,0⟩]))=λos=>some (Flow.next,sT (L3 w.params) 741 1272 os,Code.body hB dG,⟨89,0,962,20⟩):=λw=>byRow2 "special-get-raises" (P:=λw=>(λos=>segRunT treeTable hp w 11 kO 1 2474 (sT (L2 w.params) 301 621 os) (piecesOf ((hB.drop 21).take 1) dG (.body hB dG) ⟨78,0,88,38⟩ [topFrame ⟨0,0,0,0⟩]))=λos=>some (Flow.next,sT (L3 w.params) 741 1272 os,Code.body hB dG,⟨89,0,962,20⟩)) (λw=>hX (by kernel_rfl)) (λw=>hX (by kernel_rfl)) w
theorem KQ:∀w:World,(λos=>segRunT treeTable hp w 11 kO 1 636 (sT (L3 w.params) 741 1272 os) (piecesOf ((hB.drop 22).take 13) dG (.body hB dG) ⟨89,0,962,20⟩ [topFrame ⟨0,0,0,0⟩]))=λos=>some (Flow.next,sT (L4 w.params) 843 1434 os,Code.body hB dG,⟨1064,0,1094,49⟩):=λw=>hX (by kernel_rfl)
open PySem PySem.W PyProof.Rows PySem.Calls
noncomputable def hS(l:List Obj)(k:Nat)(os:OsState):Shared:=⟨⟨l.toArray,{}⟩,#[],{},k,os⟩
theorem A0:∀w:World,(λos=>topGo treeTable hp w 11 kO 12 ⟨boot_heap w.params,#[],boot_drawn,boot_toks,os⟩ (topStub hp))=λos=>some (hS (La w.params) 187 os,⟨denote treeTable (.body hB dG),.body hB dG,⟨0,0,0,0⟩,[topFrame ⟨0,0,0,0⟩]⟩):=λw=>by
 rw[PySem.W.Fast.te15667345088766844465,PySem.W.Fast.te11892475500146522536,PySem.W.Fast.te14364793385576792824];kernel_rfl
theorem DO:∀w:World,(λos=>segRun treeTable hp w 11 kO 1 1 (hS (La w.params) 187 os) (blockOf hB dG (.body hB dG) ⟨0,0,0,0⟩ [topFrame ⟨0,0,0,0⟩]))=λos=>some (Flow.next,(sT (Lb w.params) 15 187 os).abs,Code.body hB dG,⟨0,0,0,0⟩):=λw=>by
 rw[PySem.W.Fast.te14374325043358763698,PySem.W.Fast.te14364793385576792824];kernel_rfl
theorem fin:∀w:World,(λos=>topRun treeTable hp w 11 kO 2 (sT (L4 w.params) 843 1434 os).abs ⟨doneF .next,.body hB dG,⟨1064,0,1094,49⟩,[topFrame ⟨0,0,0,0⟩]⟩)=λos=>some (hS (L4 w.params) 1434 os):=λw=>by
 rw[PySem.W.Fast.te14082659384304107361,PySem.W.Fast.te14364793385576792824];kernel_rfl
theorem A2:opening hp=plainProg hp.main.scope.names:=by kernel_rfl
theorem A3:∀s,fenceModules? hp s=some s:=λs=>by kernel_rfl
theorem DP:∀w:World,((boot_heap w.params).isNs mainGlobals&&(#[]:Array GenState).size==0,(boot_heap w.params).objs.size,(boot_heap w.params).nsMap mainGlobals "__annotations__")=(true,11,kO):=λw=>by
 rw[PySem.W.Fast.te8920871248978507458];kernel_rfl
theorem GN:hB=(hB.drop 0).take 11++((hB.drop 11).take 9++((hB.drop 20).take 1++((hB.drop 21).take 1++((hB.drop 22).take 13++[])))):=by kernel_rfl
open PySem PySem.W PyProof.Rows PySem.Calls
noncomputable def z0(P:Params):Heap:=⟨(L4 P).toArray,{}⟩
noncomputable def hq:Program:=view hp [0,2,4,5,6,7,8,9,10,11,12,13,14,15,16,17,19,20,21,22,24,25,26,27,28,29,30,31,32,33,34]
noncomputable def gy:List Str:=["Event","NodeEvent","CollectionStartEvent","StreamStartEvent","DocumentStartEvent","DocumentEndEvent","ScalarEvent","Emitter","_law_SIGNS"]
noncomputable def GO(s:Shared):Bool:=xlAt hq [] s&&recOk PySem.Challenge.rw_te0009_02.row.records s
noncomputable def hHook:Hook:=kHook hK KG (λ_=>by kernel_rfl)
theorem GP(w:World)(os:OsState):topRun treeTable hp w 11 kO (12+(1+(1954+(1908+(237+(2474+(636+2))))))) ⟨boot_heap w.params,#[],boot_drawn,boot_toks,os⟩ (topStub hp)=some ⟨z0 w.params,#[],{},1434,os⟩:=by
 refine go_top (congrFun (A0 w) os) ?_;refine piece_block (congrFun (DO w) os) ?_;refine(bJ (λl=>topRun treeTable hp w 11 kO (1954+(1908+(237+(2474+(636+2))))) (sT (Lb w.params) 15 187 os).abs (restOf l dG (.body hB dG) ⟨0,0,0,0⟩ [topFrame ⟨0,0,0,0⟩])) GN).trans ?_;exact piece_app (segRun_of (congrFun (KM w) os)) (piece_app (segRun_of (congrFun (KN w) os)) (piece_app (segRun_of (congrFun (KO w) os)) (piece_app (segRun_of (congrFun (KP w) os)) (piece_app (segRun_of (congrFun (KQ w) os)) (piece_nil (congrFun (fin w) os))))))
theorem KR:Nat.ble (12+(1+(1954+(1908+(237+(2474+(636+2))))))) 14534=true:=by kernel_rfl
theorem DQ(w:World):(λos:OsState=>(staticsOk (importedModules hp.main.body) (boot_heap w.params) (z0 w.params)&&namesBound hp (z0 w.params)&&gensDone ⟨z0 w.params,#[],{},1434,os⟩&&laidKept (boot_heap w.params) (z0 w.params)))=λ_=>true:=by
 rw[PySem.W.Fast.te5923862056798008813];kernel_rfl
theorem td0(H:List Obj):∀(gs:List Nat)(a:Nat)(l:List Obj),H.drop a=l→∀p∈pk a gs l,H[p.1]?=some p.2
 |[],_,_,_,_,m=>(List.not_mem_nil m).elim
 |g::gs,a,l,e,p,m=>by
  unfold pk at m;cases h:l.drop g with
  |nil=>rw[h] at m;exact(List.not_mem_nil m).elim
  |cons x r=>
   rw[h] at m;have k:H.drop (a+g)=x::r:=by rw[← List.drop_drop,e,h]
   rcases List.mem_cons.mp m with rfl|m
   ·show H[a+g]?=some x
    rw[← List.head?_drop,k];rfl
   ·exact td0 H gs (a+g+1) r (by rw[← List.drop_drop,k];rfl) p m
theorem td2(P:Params):KG=(hK P).map (·.1):=by kernel_rfl
theorem td3(P:Params):(hK P).all (λp=> !p.2.isFreed)=true:=by kernel_rfl
theorem DR(w:World):(λos:OsState=>Hook.obs hHook ⟨z0 w.params,#[],{},1434,os⟩)=λ_=>Hook.val hHook w:=by
 funext os;show KG.map (z0 w.params).get?=(hK w.params).map λp=>some p.2
 rw[td2 w.params,List.map_map];exact List.map_congr_left λp m=>Heap.get?_some_iff.mpr ⟨List.getElem?_toArray.trans (td0 (L4 w.params) _ 0 _ rfl p m),(Bool.not_eq_true' _).mp (List.all_eq_true.mp (td3 w.params) p m)⟩
open PySem PySem.W PyProof.Rows PySem.Calls
theorem DS(w:World):(λos:OsState=>openSeen hq gy (importedModules hp.main.body) GO true ⟨z0 w.params,#[],{},1434,os⟩)=λ_=>openGood hq gy:=by
 rw[PySem.W.Fast.te4187177175401517315,PySem.W.Fast.te5923862056798008813];kernel_rfl
open PySem PySem.W PyProof.Rows PySem.Calls
theorem td4:readsOut hp hM "vars"=false:=by rw[Fast.te13343964577679436407];kernel_rfl
theorem td5:readsOut hp hM "dir"=false:=by rw[Fast.te13343964577679436407];kernel_rfl
theorem td6:readsOut hp hM "locals"=false:=by rw[Fast.te13343964577679436407];kernel_rfl
theorem td7:noRoadLSs {strict:=!(importedModules hM).all cThrough.contains,foot:=none,bare:=(["vars","dir","locals"]:List Str).filter (readsOut hp hM)} hM=true:=by
 rw[List.filter_cons_of_neg (by rw[td4];decide),List.filter_cons_of_neg (by rw[td5];decide),List.filter_cons_of_neg (by rw[td6];decide),Fast.te8326940854005059898];kernel_rfl
theorem td8:namesMeet hp PySem.Challenge.rw_te0009_02.above (λ_ n=> !PySem.Challenge.rw_te0009_02.own.contains n)=true:=by rw[Fast.te17119622794617984870,Fast.te10792542408131684335];kernel_rfl
theorem td9:namesResolve hp=true:=by rw[Fast.te8377067652309620493];kernel_rfl
theorem tq0:namesMeet hp hM (λ_ n=>attrL n)=true:=by rw[Fast.te17119622794617984870,Fast.te17868728402115742887];kernel_rfl
theorem tqW:looksOpen PySem.Challenge.rw_te0009_02.row.prog=true:=by
 show looksOpen hp=true
 unfold looksOpen;rw[td9,show namesMeet hp hp.main.body (λ_ n=>attrL n)=true from tq0,show noRoadLSs {strict:=!(importedModules hp.main.body).all cThrough.contains,foot:=none,bare:=(["vars","dir","locals"]:List Str).filter (readsOut hp hp.main.body)} hp.main.body=true from td7];kernel_rfl
theorem DT:PySem.Challenge.rw_te0009_02.wellSaid=true:=by
 unfold OpenLaw.wellSaid OpenRow.wellSaid;rw[show OpenRow.partSaid PySem.Challenge.rw_te0009_02.row=true by unfold OpenRow.partSaid;rw[tqW];kernel_rfl,show namesMeet PySem.Challenge.rw_te0009_02.prog PySem.Challenge.rw_te0009_02.above (λ_ n=> !PySem.Challenge.rw_te0009_02.own.contains n)=true from td8,Fast.te17119622794617984870,Fast.te8326940854005059898];kernel_rfl
theorem tq1{top:Scope}{cx:TablesWhole.Ctx}{sc:Scope}:∀a b:List Stmt,TablesWhole.wSs TablesWhole.holds top cx sc (a++b)=(TablesWhole.wSs TablesWhole.holds top cx sc a&&TablesWhole.wSs TablesWhole.holds top cx sc b)
 |[],b=>by kernel_rfl
 |s::a,b=>((by kernel_rfl:TablesWhole.wSs TablesWhole.holds top cx sc (s::(a++b))=(TablesWhole.wS TablesWhole.holds top cx sc s&&TablesWhole.wSs TablesWhole.holds top cx sc (a++b))).trans (congrArg _ (tq1 a b))).trans ((Bool.and_assoc _ _ _).symm.trans (congrArg (·&&TablesWhole.wSs TablesWhole.holds top cx sc b) (by kernel_rfl:(TablesWhole.wS TablesWhole.holds top cx sc s&&TablesWhole.wSs TablesWhole.holds top cx sc a)=TablesWhole.wSs TablesWhole.holds top cx sc (s::a))))
noncomputable def zc0(l:List Stmt):Bool:=TablesWhole.wSs TablesWhole.holds hp.main.scope ⟨hp.main.scope,[],[],[],none⟩ hp.main.scope l
theorem tq2:TablesWhole.wSs TablesWhole.gather hp.main.scope ⟨hp.main.scope,[],[],[],none⟩ hp.main.scope hM=[]:=by kernel_rfl
theorem tq3:zc0 (hM.take 21)=true:=by kernel_rfl
theorem tq4:zc0 ((hM.drop 21).take 1)=true:=by kernel_rfl
theorem tq5:zc0 (hM.drop 22)=true:=by kernel_rfl
theorem tq6:hM=hM.take 21++((hM.drop 21).take 1++hM.drop 22):=by kernel_rfl
theorem tq7:zc0 hM=true:=by rw[tq6];exact(tq1 _ _).trans (look_both tq3 ((tq1 _ _).trans (look_both tq4 tq5)))
theorem tq8{p:Program}(t:TablesWhole.wSs TablesWhole.gather p.main.scope ⟨p.main.scope,[],[],[],none⟩ p.main.scope p.main.body=[])(n:TablesWhole.noTwice p.main.scope=true)(b:TablesWhole.wSs TablesWhole.holds p.main.scope ⟨p.main.scope,[],[],[],none⟩ p.main.scope p.main.body=true)(x:p.modules=[])(y:p.parses=[])(z:p.harvested=[]):p.tablesWhole=true:=by
 unfold Program.tablesWhole TablesWhole.wProgram TablesWhole.wModule;rw[x,y,z]
 show((true&&(TablesWhole.noTwice p.main.scope&&(TablesWhole.wSs TablesWhole.holds p.main.scope ⟨p.main.scope,[],TablesWhole.wSs TablesWhole.gather p.main.scope ⟨p.main.scope,[],[],[],none⟩ p.main.scope p.main.body,[],none⟩ p.main.scope p.main.body&&true)))&&true)=true
 rw[t,n,b];rfl
theorem tq9:hp.tablesWhole=true:=tq8 tq2 (by kernel_rfl) tq7 rfl rfl rfl
theorem DU:(PySem.Challenge.rw_te0009_02.row).toRowW.promised:=RowW.promised_of_found (by decide +kernel)
end Mine
set_option genSizeOf false
set_option genInjectivity false
namespace Mine
noncomputable abbrev Tx:=List Nat
inductive Loc | em | emD | tmp | tmpD | states | events | indents | rows | tape | due
 deriving DecidableEq
inductive MV
 |none | bool (b:Bool) | int (i:Int) | str (s:Tx)
 |loc (l:Loc) | fn (f:Nat) | cls (c:Nat) | bi (b:Nat)
 |meth (f:Nat) (l:Loc)
 |inst (c:Nat) (fs:List MV)
 |lst (vs:List MV) | tup (vs:List MV)
 |sd (kvs:List (Tx×Tx))
 deriving Inhabited
inductive Cell | unset | val (v:MV) | own (vs:List MV)
 deriving Inhabited
structure Sto where
 em:Option (List MV)
 tmp:Option (Nat×List (Option MV))
 states:Option (List MV)
 events:Option (List MV)
 indents:Option (List MV)
 rows:Option (List MV)
 tape:Option (List MV)
 due:Option (List MV)
 deriving Inhabited
structure St where
 sh:Sto
 vars:List Cell
 deriving Inhabited
inductive Bop | add | sub | mul | fdiv | mod
 deriving DecidableEq
inductive Cop | eq | ne | lt | le | gt | ge | is | isNot | inn | notIn
 deriving DecidableEq
mutual
inductive ME
 |k (v:MV) | v (i:Nat) | g (x:Nat)
 |at (e:ME) (a:Nat)
 |bo (and:Bool) (es:MEs)
 |bin (op:Bop) (l r:ME)
 |not (e:ME) | neg (e:ME)
 |ife (t:MB) (a b:ME)
 |cmp (l:ME) (r:MCs)
 |call (g:Nat) (args:MEs) (kws:MKs)
 |mc (o:ME) (a:Nat) (args:MEs) (kws:MKs)
 |sub (e i:ME)
 |sl (e lo hi:ME)
 |abs
 |list (at_:Option Loc) (es:MEs)
 |tup (es:MEs)
 |comp (m:Int) (src:ME)
 |dead
 |strI (e:ME)
inductive MB | not (b:MB) | bo (and:Bool) (bs:MBs) | ife (t a b:MB) | cmp (l:ME) (r:MCs) | val (e:ME)
inductive MBs | nil | cons (b:MB) (r:MBs)
inductive MEs | nil | cons (e:ME) (r:MEs)
inductive MCs | nil | cons (op:Cop) (e:ME) (r:MCs)
inductive MKs | nil | cons (n:Nat) (e:ME) (r:MKs)
end
inductive MT | v (i:Nat) | at (e:ME) (a:Nat) | tup (is:List Nat)
mutual
inductive MS
 |expr (e:ME)
 |asg (ts:List MT) (e:ME)
 |asgo (i:Nat) (es:MEs)
 |augv (i:Nat) (op:Bop) (e:ME)
 |augo (i:Nat) (e:ME)
 |auga (o:ME) (a:Nat) (op:Bop) (e:ME)
 |app (i:Nat) (e:ME)
 |ife (t:MB) (a b:MSs)
 |whl (t:MB) (b:MSs)
 |for (i:Nat) (e:ME) (b:MSs)
 |forr (i:Nat) (e:ME) (b:MSs)
 |ret (e:ME)
 |ret0
 |pass
 |dead
 /-- a list of ints modulo m,in a slot of its own -/
 |asgl (i:Nat) (l:Loc) (m:Int) (src:ME)
 /-- two lists joined,in a slot of its own -/
 |asga (i:Nat) (l:Loc) (a b:ME)
 /-- the frame's own list returned: frozen,or as a slot -/
 |retc (l:Loc) (i:Nat)
 /-- a tag and a list comprehension over a range,or its texts joined -/
 |retL (tag:Tx) (j:Bool) (is:List Nat) (dZ e:ME)
 |forp (t:MT) (e:ME) (b:MSs)
inductive MSs | nil | cons (s:MS) (r:MSs)
end
structure Tab where
 fnPar:Nat→List (Nat×Option MV)
 clsFields:Nat→List Nat
 clsMeth:Nat→Nat→Option Nat
 clsAttr:Nat→Nat→Option MV
 clsInit:Nat→Option Nat
 clsSub:Nat→Nat→Bool
 gval:Nat→Option MV
 emC:Nat
 body:Nat→Option (Nat×MSs)
noncomputable def ak:Nat:=16777216
noncomputable def aS(a b:Nat):Bool:=Nat.ble a b
noncomputable def xL{α:Type}(b:Bool)(o:Option α):Option α:=match b with
 |true=>o
 |false=>none
noncomputable def bX(a b:Int):Bool:=decide (a<b)
noncomputable def pJ(a b:Int):Bool:=decide (a≤b)
noncomputable def aI(a b:Int):Bool:=decide (a=b)
noncomputable def c0{α:Type}(l:List α):Nat→Option α:=List.rec (motive:=λ_=>Nat→Option α) (λ_=>none) (λa _ ih n=>Nat.casesOn (motive:=λ_=>Option α) n (some a) ih) l
noncomputable def eg{α:Type}(l:List α):Nat→α→List α:=List.rec (motive:=λ_=>Nat→α→List α) (λ_ _=>[]) (λa r ih n x=>Nat.casesOn (motive:=λ_=>List α) n (x::r) λn=>a::ih n x) l
noncomputable def vf{α:Type}(l:List (Nat×α))(n:Nat):Option α:=List.rec (motive:=λ_=>Option α) none (λp _ ih=>bif Nat.beq p.1 n then some p.2 else ih) l
theorem bG{α:Type}:∀(l:List α) (n:Nat),c0 l n=l[n]?
 |[],_=>rfl
 |_::_,0=>rfl
 |_::r,n+1=>bG r n
theorem ei{α:Type}:∀(l:List α) (n:Nat) (x:α),eg l n x=l.set n x
 |[],_,_=>rfl
 |_::_,0,_=>rfl
 |a::r,n+1,x=>bJ (List.cons a) (ei r n x)
noncomputable def eC(v:MV):Option Int:=MV.casesOn (motive_1:=λ_=>Option Int) v none (λ_=>none) some (λ_=>none) (λ_=>none) (λ_=>none) (λ_=>none) (λ_=>none) (λ_ _=>none) (λ_ _=>none) (λ_=>none) (λ_=>none) (λ_=>none)
noncomputable def cE(v:MV):Option Tx:=MV.casesOn (motive_1:=λ_=>Option Tx) v none (λ_=>none) (λ_=>none) some (λ_=>none) (λ_=>none) (λ_=>none) (λ_=>none) (λ_ _=>none) (λ_ _=>none) (λ_=>none) (λ_=>none) (λ_=>none)
noncomputable def fH(v:MV):Option Loc:=MV.casesOn (motive_1:=λ_=>Option Loc) v none (λ_=>none) (λ_=>none) (λ_=>none) some (λ_=>none) (λ_=>none) (λ_=>none) (λ_ _=>none) (λ_ _=>none) (λ_=>none) (λ_=>none) (λ_=>none)
noncomputable def dH(v:MV):Option (List MV):=MV.casesOn (motive_1:=λ_=>Option (List MV)) v none (λ_=>none) (λ_=>none) (λ_=>none) (λ_=>none) (λ_=>none) (λ_=>none) (λ_=>none) (λ_ _=>none) (λ_ _=>none) some (λ_=>none) (λ_=>none)
noncomputable def pK(v:MV):Option (List MV):=MV.casesOn (motive_1:=λ_=>Option (List MV)) v none (λ_=>none) (λ_=>none) (λ_=>none) (λ_=>none) (λ_=>none) (λ_=>none) (λ_=>none) (λ_ _=>none) (λ_ _=>none) (λ_=>none) some (λ_=>none)
noncomputable def q7(v:MV):Option (List (Tx×Tx)):=MV.casesOn (motive_1:=λ_=>Option (List (Tx×Tx))) v none (λ_=>none) (λ_=>none) (λ_=>none) (λ_=>none) (λ_=>none) (λ_=>none) (λ_=>none) (λ_ _=>none) (λ_ _=>none) (λ_=>none) (λ_=>none) some
noncomputable def vg(v:MV):Option Nat:=MV.casesOn (motive_1:=λ_=>Option Nat) v none (λ_=>none) (λ_=>none) (λ_=>none) (λ_=>none) (λ_=>none) some (λ_=>none) (λ_ _=>none) (λ_ _=>none) (λ_=>none) (λ_=>none) (λ_=>none)
noncomputable def gz(v:MV):Option (Nat×List MV):=MV.casesOn (motive_1:=λ_=>Option (Nat×List MV)) v none (λ_=>none) (λ_=>none) (λ_=>none) (λ_=>none) (λ_=>none) (λ_=>none) (λ_=>none) (λ_ _=>none) (λc fs=>some (c,fs)) (λ_=>none) (λ_=>none) (λ_=>none)
noncomputable def GQ(v:MV):Option Nat:=MV.casesOn (motive_1:=λ_=>Option Nat) v none (λ_=>none) (λ_=>none) (λ_=>none) (λ_=>none) some (λ_=>none) (λ_=>none) (λ_ _=>none) (λ_ _=>none) (λ_=>none) (λ_=>none) (λ_=>none)
noncomputable def isNone(v:MV):Bool:=MV.casesOn (motive_1:=λ_=>Bool) v true (λ_=>false) (λ_=>false) (λ_=>false) (λ_=>false) (λ_=>false) (λ_=>false) (λ_=>false) (λ_ _=>false) (λ_ _=>false) (λ_=>false) (λ_=>false) (λ_=>false)
noncomputable def GR(v:MV):Bool:=MV.casesOn (motive_1:=λ_=>Bool) v false (λ_=>false) (λ_=>false) (λ_=>false) (λ_=>false) (λ_=>false) (λ_=>false) (λ_=>true) (λ_ _=>false) (λ_ _=>false) (λ_=>false) (λ_=>false) (λ_=>false)
noncomputable def kP{α:Type}(o p:Option α):Option α:=Option.casesOn (motive:=λ_=>Option α) o p some
noncomputable def jc{α:Type}(f:Int→Int→α)(a b:MV):Option α:=(eC a).bind λi=>(eC b).map λj=>f i j
noncomputable def pL{α:Type}(f:Tx→Tx→α)(a b:MV):Option α:=(cE a).bind λi=>(cE b).map λj=>f i j
noncomputable def A4{α:Type}(f:List MV→List MV→α)(a b:MV):Option α:=(dH a).bind λi=>(dH b).map λj=>f i j
noncomputable def nZ{α:Type}(f:Tx→Int→α)(a b:MV):Option α:=(cE a).bind λi=>(eC b).map λj=>f i j
noncomputable def sr{α:Type}(l:List α):Option α:=List.casesOn (motive:=λ_=>Option α) l none λa r=>List.casesOn (motive:=λ_=>Option α) r (some a) λ_ _=>none
noncomputable def vi:Tx→Tx→Bool
 |[],[]=>false
 |[],_::_=>true
 |_::_,[]=>false
 |a::r,b::q=>if a<b then true else if b<a then false else vi r q
noncomputable def eqX(a b:Tx):Bool:=decide (a=b)
noncomputable def GS:List Tx→Bool
 |[]=>true
 |[_]=>true
 |a::b::r=>vi a b&&GS (b::r)
noncomputable def prefX:Tx→Tx→Bool
 |[],_=>true
 |_::_,[]=>false
 |a::r,b::q=>a==b&&prefX r q
noncomputable def dk(s:Tx):Nat→Tx
 |0=>[]
 |n+1=>s++dk s n
noncomputable def dh(sep:Tx):List Tx→Tx
 |[]=>[]
 |[x]=>x
 |x::y::r=>x++sep++dh sep (y::r)
noncomputable def cA:List MV→Option (List Tx)
 |[]=>some []
 |v::r=>(cE v).bind λs=>(cA r).map (s:: ·)
noncomputable def GT(n:Nat)(dflt:Nat)(v:MV):Option Nat:=bif isNone v then some dflt else (eC v).map (PySem.clipAt n)
noncomputable def n0{α:Type}(xs:List α)(lo hi:MV):Option (List α):=do
 let a←GT xs.length 0 lo
 let b←GT xs.length xs.length hi
 return (xs.take b).drop a
noncomputable def qV(n:Nat)(i:Int):Option Nat:=Int.casesOn (motive:=λ_=>Option Nat) i (λj=>bif Nat.ble (j+1) n then some j else none) λj=>bif Nat.ble (j+1) n then some (n-(j+1)) else none
theorem lj(n:Nat)(i:Int):qV n i=if 0≤i then (if i<n then some i.toNat else none) else (if 0≤i+n then some (i+n).toNat else none):=by
 cases i with
 |ofNat j=>
  show (bif Nat.ble (j+1) n then some j else none)=_;rw[cw (show (0:Int)≤Int.ofNat j from Int.natCast_nonneg j)];cases h:Nat.ble (j+1) n with
  |true=>rw[cw (show Int.ofNat j<(n:Int) from Int.ofNat_lt.mpr (kM h))];rfl
  |false=>rw[bL (show ¬Int.ofNat j<(n:Int) from λz=>by rw[Nat.ble_eq_true_of_le (Int.ofNat_lt.mp z)] at h;cases h)];rfl
 |negSucc j=>
  show (bif Nat.ble (j+1) n then some (n-(j+1)) else none)=_;rw[bL (by omega)]
  cases h:Nat.ble (j+1) n with
  |true=>
   have:=kM h;rw[cw (by omega)]
   show some _=some _
   congr 1;omega
  |false=>
   have:¬j+1≤n:=λz=>by rw[Nat.ble_eq_true_of_le z] at h;cases h
   rw[bL (by omega)];rfl
noncomputable def ap(sh:Sto)(l:Loc):Option (List MV):=Loc.casesOn (motive:=λ_=>Option (List MV)) l none none none none sh.states sh.events sh.indents sh.rows sh.tape sh.due
noncomputable def items(sh:Sto)(v:MV):Option (List MV):=kP (dH v) ((fH v).bind (ap sh))
noncomputable def bP(sh:Sto)(vs:List MV)(l:Loc):Option Sto:=Loc.casesOn (motive:=λ_=>Option Sto) l none none none none (some {sh with states:=some vs}) (some {sh with events:=some vs}) (some {sh with indents:=some vs}) (some {sh with rows:=some vs}) (some {sh with tape:=some vs}) (some {sh with due:=some vs})
noncomputable def truthy(sh:Sto)(v:MV):Option Bool:=MV.casesOn (motive_1:=λ_=>Option Bool) v (some false) some (λi=>some (!aI i 0)) (λs=>some (!s.isEmpty)) (λl=>(ap sh l).map (!·.isEmpty)) (λ_=>none) (λ_=>none) (λ_=>none) (λ_ _=>none) (λ_ _=>none) (λvs=>some (!vs.isEmpty)) (λvs=>some (!vs.isEmpty)) (λ_=>none)
noncomputable def ix(op:Bop)(a b:MV):Option MV:=Bop.casesOn (motive:=λ_=>Option MV) op
 (kP (jc (λi j=>.int (i+j)) a b) (kP (pL (λs t=>.str (s++t)) a b) (A4 (λs t=>.lst (s++t)) a b))) (jc (λi j=>.int (i-j)) a b)
 (kP (jc (λi j=>.int (i*j)) a b) (nZ (λs j=>.str (dk s j.toNat)) a b)) (jc (λi j=>.int (Int.fdiv i j)) a b) (jc (λi j=>.int (Int.fmod i j)) a b)
noncomputable def GU(v:MV):Bool:=MV.casesOn (motive_1:=λ_=>Bool) v true (λ_=>false) (λ_=>true) (λ_=>true) (λ_=>false) (λ_=>false) (λ_=>false) (λ_=>false) (λ_ _=>false) (λ_ _=>false) (λ_=>false) (λ_=>false) (λ_=>false)
noncomputable def KS(a b:MV):Option Bool:=bif isNone a then bif isNone b then some true else some false else bif isNone b then some false else kP (jc aI a b) (pL eqX a b)
noncomputable def Ge(a b:MV):Option Bool:=bif GU a&&GU b then KS a b else none
noncomputable def JZ(v:MV)(l:List MV):Option Bool:=List.rec (motive:=λ_=>Option Bool) (some false) (λx _ ih=>(Ge x v).bind λb=>ih.map (b|| ·)) l
noncomputable def DB(f:Int→Int→Bool)(g:Tx→Tx→Bool)(a b:MV):Option Bool:=kP (jc f a b) (pL g a b)
noncomputable def Gf(a b:MV):Option Bool:=kP ((cE a).bind λs=>(sr s).bind λc=>(cE b).map λt=>t.contains c) ((dH b).bind (JZ a))
noncomputable def GV(a b:MV):Option Bool:=bif isNone b&& !GR a then some (isNone a) else none
noncomputable def kt(op:Cop)(a b:MV):Option Bool:=Cop.casesOn (motive:=λ_=>Option Bool) op (Ge a b) (DB (λi j=>!aI i j) (λs t=>!eqX s t) a b) (DB bX vi a b) (DB pJ (λs t=>!vi t s) a b)
 (DB (λi j=>bX j i) (λs t=>vi t s) a b) (DB (λi j=>pJ j i) (λs t=>!vi s t) a b) (GV a b) ((GV a b).map (!·)) (Gf a b) ((Gf a b).map (!·))
noncomputable def fx(sh:Sto)(v i:MV):Option MV:=kP ((eC i).bind λi=>kP ((items sh v).bind λvs=>(qV vs.length i).bind (c0 vs)) (kP ((pK v).bind λvs=>(qV vs.length i).bind (c0 vs))
  ((cE v).bind λs=>(qV s.length i).bind λj=>(c0 s j).map λc=>.str [c])))
 ((cE i).bind λk=>(q7 v).bind λkvs=>(kvs.lookup k).map .str)
noncomputable def GW(sh:Sto)(v lo hi:MV):Option MV:=kP ((items sh v).bind λvs=>(n0 vs lo hi).map .lst) ((cE v).bind λs=>(n0 s lo hi).map .str)
noncomputable def aC(fs:List Nat)(a:Nat):Option Nat:=List.rec (motive:=λ_=>Nat→Option Nat) (λ_=>none) (λx _ ih n=>bif Nat.beq x a then some n else ih (n+1)) fs 0
noncomputable def iy(T:Tab)(c:Nat)(fs:List (Option MV))(n:Nat):Option MV:=(aC (T.clsFields c) n).bind λi=>(c0 fs i).bind id
noncomputable def pM(T:Tab)(E:List MV)(n:Nat):Option MV:=(aC (T.clsFields T.emC) n).bind (c0 E)
noncomputable def slot(T:Tab)(sh:Sto)(l:Loc):Option (Nat×(Nat→Option MV)):=Loc.casesOn (motive:=λ_=>Option (Nat×(Nat→Option MV))) l (sh.em.map λE=>(T.emC,pM T E)) none (sh.tmp.map λp=>(p.1,iy T p.1 p.2)) none none none none none none none
noncomputable def GX(T:Tab)(l:Loc)(c a:Nat)(o:Option MV):Option MV:=kP o (kP (T.clsAttr c a) ((T.clsMeth c a).map (.meth · l)))
noncomputable def tZ(T:Tab)(sh:Sto)(v:MV)(a:Nat):Option MV:=kP ((gz v).bind λp=>Option.casesOn (motive:=λ_=>Option MV) (aC (T.clsFields p.1) a) (T.clsAttr p.1 a) (c0 p.2))
 ((fH v).bind λl=>(slot T sh l).bind λp=>GX T l p.1 a (p.2 a))
noncomputable def DV{α:Type}(T:Tab)(c:Nat)(l:List α)(a:Nat)(x:α):Option (List α):=(aC (T.clsFields c) a).bind λi=>(c0 l i).map λ_=>eg l i x
noncomputable def rc(T:Tab)(sh:Sto)(v:MV)(a:Nat)(x:MV):Option Sto:=(fH v).bind λl=>Loc.casesOn (motive:=λ_=>Option Sto) l (sh.em.bind λE=>(DV T T.emC E a x).map λE'=>{sh with em:=some E'}) none
 (sh.tmp.bind λp=>(DV T p.1 p.2 a (some x)).map λfs=>{sh with tmp:=some (p.1,fs)}) none none none none none none none
noncomputable def dfl:List (Nat×Option MV)→List (Nat×MV)
 |[]=>[]
 |(n,some v)::r=>(n,v)::dfl r
 |(_,none)::r=>dfl r
noncomputable def n3(l:List (Nat×MV)):List Nat→Option (List MV)
 |[]=>some []
 |n::r=>(l.lookup n).bind λv=>(n3 l r).map (v:: ·)
noncomputable def su(names taken:List Nat):List (Nat×MV)→Bool
 |[]=>true
 |(n,_)::r=>names.contains n&& !taken.contains n&&su names (n::taken) r
noncomputable def pN(ps:List (Nat×Option MV))(pos:List MV)(kws:List (Nat×MV)):Option (List MV):=
 xL (aS pos.length ps.length&&su (ps.map (·.1)) ((ps.map (·.1)).take pos.length) kws) (n3 ((ps.map (·.1)).zip pos++kws++dfl ps) (ps.map (·.1)))
noncomputable def z3(a b:Int):Bool:=Nat.ble a.natAbs 1048576&&Nat.ble b.natAbs 1048576
noncomputable def eE(op:Bop)(a b:MV):Bool:=Bop.casesOn (motive:=λ_=>Bool) op ((kP (pL (λs t=>aS (s.length+t.length) ak) a b) (A4 (λs t=>aS (s.length+t.length) ak) a b)).getD true) true
 ((kP (jc z3 a b) (nZ (λs j=>aS (s.length*j.toNat) ak&&aS j.natAbs ak) a b)).getD true) ((jc (λ_ j=>aS 1 j.toNat&&aS j.toNat 1000000) a b).getD true) ((jc (λ_ j=>aS 1 j.toNat) a b).getD true)
noncomputable def t7(op:Bop)(a b:MV):Bool:=Bop.casesOn (motive:=λ_=>Bool) op ((kP (jc (λ_ _=>true) a b) (pL (λ_ _=>true) a b)).getD false) ((jc (λ_ _=>true) a b).getD false) false false false
noncomputable abbrev ku:=Nat→List MV→Sto→Option (MV×Sto)
noncomputable def kx(T:Tab)(Φ:ku)(f:Nat)(pos:List MV)(kws:List (Nat×MV))(sh:Sto):Option (MV×Sto):=
 (pN (T.fnPar f) pos kws).bind λas=>Φ f as sh
noncomputable def fQ:List (Option MV)→Option (List MV)
 |[]=>some []
 |some v::r=>(fQ r).map (v:: ·)
 |none::_=>none
noncomputable def dS:Nat→List MV
 |0=>[]
 |n+1=>dS n++[.int n]
noncomputable def DW(sh:Sto)(v:MV):Option Nat:=kP ((cE v).map List.length) ((items sh v).map List.length)
noncomputable def sv(T:Tab)(v:MV):Option Nat:=(vg v).bind λd=>xL (T.clsInit d).isSome (some d)
noncomputable def DX(T:Tab)(c:Nat)(v:MV):Option Bool:=kP ((sv T v).map (T.clsSub c)) ((pK v).bind λl=>List.casesOn (motive:=λ_=>Option Bool) l none λd r=>(sr r).bind λe=>
 (sv T d).bind λd=>(sv T e).map λe=>T.clsSub c d||T.clsSub c e)
noncomputable def builtin(T:Tab)(sh:Sto)(b:Nat)(vs:List MV):Option MV:=Nat.casesOn (motive:=λ_=>Option MV) b ((sr vs).bind λv=>(DW sh v).map λ(n:Nat)=>MV.int (Int.ofNat n)) λb=>Nat.casesOn (motive:=λ_=>Option MV) b
 (List.casesOn (motive:=λ_=>Option MV) vs none λx r=>(sr r).bind λd=>(gz x).bind λp=>(DX T p.1 d).map .bool) λ_=>none
noncomputable def iF(l:Loc):Bool:=Loc.casesOn (motive:=λ_=>Bool) l true true false false true true true true true true
section
variable (v:MV)(vs:List MV)
noncomputable def xM:Bool:=MV.rec (motive_1:=λ_=>Bool) (motive_2:=λ_=>Bool) true (λ_=>true) (λ_=>true) (λ_=>true) iF (λ_=>true) (λ_=>true) (λ_=>true) (λ_=>iF) (λ_ _ ih=>ih) (λ_ ih=>ih) (λ_ ih=>ih) (λ_=>true) true (λ_ _ i1 i2=>i1&&i2) v
noncomputable def jR:Bool:=MV.rec_1 (motive_1:=λ_=>Bool) (motive_2:=λ_=>Bool) true (λ_=>true) (λ_=>true) (λ_=>true) iF (λ_=>true) (λ_=>true) (λ_=>true) (λ_=>iF) (λ_ _ ih=>ih) (λ_ ih=>ih) (λ_ ih=>ih) (λ_=>true) true (λ_ _ i1 i2=>i1&&i2) vs
end
noncomputable def z4(l:Loc):Bool:=Loc.casesOn (motive:=λ_=>Bool) l false false true false false false false false false false
noncomputable def retmp(v:MV):MV:=MV.casesOn (motive_1:=λ_=>MV) v v (λ_=>v) (λ_=>v) (λ_=>v) (λ_=>v) (λ_=>v) (λ_=>v) (λ_=>v) (λf l=>bif z4 l then .meth f .em else v) (λ_ _=>v) (λ_=>v) (λ_=>v) (λ_=>v)
noncomputable def n4(T:Tab)(c:Nat)(vs:List MV)(sh:Sto):Option (MV×Sto):=bif c==T.emC then bif jR (vs.map retmp)&&sh.em.isNone then some (.loc .em,{sh with em:=some (vs.map retmp),tmp:=none}) else none
 else bif jR vs then some (.inst c vs,{sh with tmp:=none}) else none
noncomputable def re(T:Tab)(Φ:ku)(c:Nat)(pos:List MV)(kws:List (Nat×MV))(sh:Sto):Option (MV×Sto):=bif sh.tmp.isNone then (T.clsInit c).bind λf=>
  (kx T Φ f (.loc .tmp::pos) kws {sh with tmp:=some (c,List.replicate (T.clsFields c).length none)}).bind λr=>bif isNone r.1 then r.2.tmp.bind λp=>bif p.1==c then (fQ p.2).bind λvs=>n4 T c vs r.2 else none else none
 else none
noncomputable def nn(T:Tab)(Φ:ku)(fv:MV)(pos:List MV)(kws:List (Nat×MV))(sh:Sto):Option (MV×Sto):=MV.casesOn (motive_1:=λ_=>Option (MV×Sto)) fv none (λ_=>none) (λ_=>none) (λ_=>none) (λ_=>none)
 (λf=>kx T Φ f pos kws sh) (λc=>re T Φ c pos kws sh) (λb=>List.casesOn (motive:=λ_=>Option (MV×Sto)) kws ((builtin T sh b pos).map (·,sh)) λ_ _=>none) (λf l=>kx T Φ f (.loc l::pos) kws sh)
 (λ_ _=>none) (λ_=>none) (λ_=>none) (λ_=>none)
noncomputable def sw(sh:Sto)(o:MV)(as:List MV):Option (MV×Sto):=(fH o).bind λl=>(sr as).bind λv=>(ap sh l).bind λvs=>(bP sh (vs++[v]) l).map λsh'=>(.none,sh')
noncomputable def gA(l:Loc):Bool:=Loc.casesOn (motive:=λ_=>Bool) l false false false false false false false true false false
noncomputable def t8(sh:Sto)(o:MV)(as:List MV):Option (MV×Sto):=(fH o).bind λl=>bif gA l then none else (ap sh l).bind λvs=>bif as.isEmpty then vs.getLast?.bind λv=>(bP sh vs.dropLast l).map λsh'=>(v,sh')
 else (sr as).bind λi=>(eC i).bind λi=>bif aI i 0 then List.casesOn (motive:=λ_=>Option (MV×Sto)) vs none λv r=>(bP sh r l).map λsh'=>(v,sh') else none
noncomputable def x8(sh:Sto)(o:MV)(as:List MV):Option (MV×Sto):=(sr as).bind λp=>pL (λs p=>(.bool (prefX p s),sh)) o p
noncomputable def z5(sh:Sto)(o:MV)(as:List MV):Option (MV×Sto):=(cE o).bind λs=>(sr as).bind λl=>(items sh l).bind λvs=>(cA vs).map λxs=>(.str (dh s xs),sh)
noncomputable def A5(_:Sto)(_:MV)(_:List MV):Option (MV×Sto):=none
noncomputable def DY(sh:Sto)(o:MV)(as:List MV):Option (MV×Sto):=bif as.isEmpty then (q7 o).map λkvs=>(.sd kvs,sh) else none
noncomputable def sx(sh:Sto)(o:MV)(a:Nat)(as:List MV):Option (MV×Sto):=(c0 ([sw,t8,x8,z5,A5,DY]:List (Sto→MV→List MV→Option (MV×Sto))) a).bind λf=>f sh o as
noncomputable def lL(sh:Sto)(o:MV)(_:List MV):Bool:=((fH o).bind λl=>bif gA l then none else (ap sh l).map λvs=>aS (vs.length+1) ak).getD true
noncomputable def rf(sh:Sto)(o:MV)(as:List MV):Bool:=((cE o).bind λs=>(sr as).bind λl=>(items sh l).bind λvs=>(cA vs).map λxs=>aS ((xs.map List.length).sum+xs.length*s.length) ak).getD true
noncomputable def A6(_:Sto)(o:MV)(_:List MV):Bool:=((q7 o).map λs=>aS s.length ak).getD true
noncomputable def vj(_:Sto)(_:MV)(_:List MV):Bool:=true
noncomputable def iG(sh:Sto)(o:MV)(a:Nat)(as:List MV):Bool:=((c0 ([lL,vj,vj,rf,vj,A6]:List (Sto→MV→List MV→Bool)) a).map λf=>f sh o as).getD true
noncomputable def lM(v:MV):Option (Nat×Loc):=MV.casesOn (motive_1:=λ_=>Option (Nat×Loc)) v none (λ_=>none) (λ_=>none) (λ_=>none) (λ_=>none) (λ_=>none) (λ_=>none) (λ_=>none) (λf l=>some (f,l)) (λ_ _=>none) (λ_=>none) (λ_=>none) (λ_=>none)
noncomputable def DZ(v:MV):Bool:=((fH v).map λl=>Loc.casesOn (motive:=λ_=>Bool) l true false false false false false false false false false).getD false
noncomputable def be(l:Loc):Bool:=Loc.casesOn (motive:=λ_=>Bool) l false false false false true true true true true true
noncomputable def z6(o:MV)(a:Nat):Bool:=(c0 [(fH o).any be,(fH o).any be,(cE o).isSome,(cE o).isSome,(cE o).isSome,(q7 o).isSome] a).getD false
noncomputable abbrev vk:=Option (Nat×List MV)
noncomputable def n5(T:Tab)(sh:Sto)(o:MV)(a:Nat):Option vk:=
 bif DZ o then sh.em.bind λE=>Option.casesOn (motive:=λ_=>Option vk) (aC (T.clsFields T.emC) a) ((T.clsMeth T.emC a).map λf=>some (f,[o])) λi=>(c0 E i).bind λv=>(lM v).map λp=>some (p.1,[.loc p.2])
 else Option.casesOn (motive:=λ_=>Option vk) (gz o) (bif z6 o a then some none else none) λp=>(T.clsMeth p.1 a).map λf=>some (f,[o])
noncomputable def sz(T:Tab)(Φ:ku)(c:vk)(o:MV)(a:Nat)(vs:List MV)(kv:List (Nat×MV))(sh:Sto):Option (MV×Sto):=
 Option.casesOn (motive:=λ_=>Option (MV×Sto)) c (bif kv.isEmpty then sx sh o a vs else none) λp=>kx T Φ p.1 (p.2++vs) kv sh
noncomputable def iH(st:St)(i:Nat):Option (MV×St):=(c0 st.vars i).bind λc=>Cell.casesOn (motive:=λ_=>Option (MV×St)) c none (λv=>some (v,st)) λvs=>some (.lst vs,{st with vars:=eg st.vars i (.val (.lst vs))})
noncomputable def aJ(st:St)(i:Nat)(v:MV):St:={st with vars:=eg st.vars i (.val v)}
noncomputable def bQ(st:St)(l:Loc)(vs:List MV):Option (MV×St):=bif (ap st.sh l).isNone then (bP st.sh vs l).map λsh=>(.loc l,{st with sh:=sh}) else none
noncomputable def bp(m:Int)(l:List MV):Option (List MV):=List.rec (motive:=λ_=>Option (List MV)) (some []) (λv _ ih=>(eC v).bind λi=>ih.map (.int (Int.fmod i m):: ·)) l
noncomputable def yb(i:Int):Option Tx:=bif pJ 0 i&&pJ i 9 then some [48+i.toNat] else none
noncomputable def D0(c:Cell):Option MV:=Cell.casesOn (motive:=λ_=>Option MV) c none some (λ_=>none)
noncomputable def jS(st:St)(is:List Nat):Option (List MV):=List.rec (motive:=λ_=>Option (List MV)) (some []) (λi _ ih=>((c0 st.vars i).bind D0).bind λv=>ih.map (v:: ·)) is
noncomputable def n6(v:MV):Option (List MV):=kP (dH v) ((cE v).map λs=>s.map λc=>.str [c])
noncomputable def D1(c:Cell):Option (List MV):=Cell.casesOn (motive:=λ_=>Option (List MV)) c none (λ_=>none) some
noncomputable def je(st:St)(i:Nat):Option (List MV):=(c0 st.vars i).bind D1
noncomputable def eA(st:St)(i:Nat)(v:MV):Option St:=(dH v).bind λws=>(je st i).bind λvs=>xL (aS (vs.length+ws.length) ak) (some {st with vars:=eg st.vars i (.own (vs++ws))})
noncomputable def vm(st:St)(i:Nat):Bool:=(je st i).isSome
noncomputable def dm(st:St)(i:Nat)(v:MV):Option St:=(je st i).bind λvs=>xL (aS (vs.length+1) ak) (some {st with vars:=eg st.vars i (.own (vs++[v]))})
noncomputable abbrev Ds:=List (Nat×Bool)
inductive R
 |fin (v:MV) (sh:Sto)
 |cst (b d:Bool) (r:R)
 |bad
noncomputable def am(r:R):MV→Sto→Prop:=R.rec (motive:=λ_=>MV→Sto→Prop) (λv sh v' sh'=>v=v'∧sh=sh') (λb d _ ih v sh=>b=d∧ih v sh) (λ_ _=>False) r
noncomputable def yc(b:Bool)(x y:Ds→R)(ds:Ds):R:=List.casesOn (motive:=λ_=>R) ds (bif b then x [] else y []) λp t=>Nat.casesOn (motive:=λ_=>R) p.1 (.cst b p.2 (bif p.2 then x t else y t)) λn=>bif b then x ((n,p.2)::t) else y ((n,p.2)::t)
noncomputable def vn:Ds→R:=λ_=>.bad
noncomputable def dT(b:Bool)(x:Ds→R)(ds:Ds):R:=.cst b true (x ds)
noncomputable def cc{α:Type}(o:Option α)(k:α→Ds→R)(ds:Ds):R:=Option.casesOn (motive:=λ_=>R) o .bad λa=>k a ds
noncomputable def pO(r:Option MV)(k:Option MV→St→Ds→R)(go:St→Ds→R)(st:St):Ds→R:=Option.casesOn (motive:=λ_=>Ds→R) r (go st) λv=>k (some v) st
noncomputable def fy(t:St→(Bool→St→Ds→R)→Ds→R)(b:St→(Option MV→St→Ds→R)→Ds→R)(k:Option MV→St→Ds→R)(n:Nat):St→Ds→R:=
 Nat.rec (motive:=λ_=>St→Ds→R) (λ_ _=>.bad) (λ_ ih st ds=>t st (λc st=>yc c (b st λr st=>pO r k ih st) (k none st)) ds) n
noncomputable def lN(b:St→(Option MV→St→Ds→R)→Ds→R)(k:Option MV→St→Ds→R)(i:Nat)(l:List MV):St→Ds→R:=
 List.rec (motive:=λ_=>St→Ds→R) (λst ds=>k none st ds) (λv _ ih st ds=>b (aJ st i v) (λr st=>pO r k ih st) ds) l
noncomputable def A7(v iv:MV)(c:MV→Ds→R)(ds:Ds)(d:Bool)(q:Nat×Bool)(t:Ds):R:=bif d&&Nat.ble 1000000 q.1&&(dH v).isSome then cc (eC iv) (λi t=>.cst (aI i ((q.1-1000000:Nat):Int)) true (c (.int ((q.1-1000000:Nat):Int)) t)) t else c iv ds
noncomputable def A8(v iv:MV)(c:MV→Ds→R)(ds:Ds):R:=List.casesOn (motive:=λ_=>R) ds (c iv ds) λp r=>Nat.casesOn (motive:=λ_=>R) p.1 (List.casesOn (motive:=λ_=>R) r (c iv ds) λq t=>A7 v iv c ds p.2 q t) λ_=>c iv ds
noncomputable def iI(o:Option MV)(z:Nat):Bool:=((o.bind cE).map λs=>eqX s [z]).getD false
noncomputable def A9(o:Option MV)(k:MV→Ds→R)(ds:Ds):R:=List.casesOn (motive:=λ_=>R) ds (cc o k []) λp t=>bif Nat.beq p.1 4000000 then List.casesOn (motive:=λ_=>R) t .bad λq t=>.cst (iI o q.1) true (k (.str [q.1]) t) else cc o k (p::t)
noncomputable def vo(n:Int)(x:Int→Ds→R)(ds:Ds):R:=List.casesOn (motive:=λ_=>R) ds (x n []) λp t=>bif Nat.ble 2000000 p.1&&p.2 then .cst (aI n ((p.1-2000000:Nat):Int)) true (x ((p.1-2000000:Nat):Int) t) else x n (p::t)
noncomputable def no(b:Sto→(MV→Sto→Ds→R)→Ds→R)(k:List MV→Sto→Ds→R)(n:Nat):List MV→Sto→Ds→R:=
 Nat.rec (motive:=λ_=>List MV→Sto→Ds→R) (λvs sh ds=>k vs sh ds) (λ_ ih vs sh ds=>b sh (λv sh=>ih (vs++[v]) sh) ds) n
noncomputable abbrev Psi:=Nat→List MV→Sto→Option (Bool×MV×Sto)
noncomputable def Gg(o:Option (Bool×MV×Sto)):Option (MV×Sto):=o.bind λp=>bif p.1 then some p.2 else none
noncomputable def Psi.phi(Ψ:Psi):ku:=λf as sh=>Gg (Ψ f as sh)
noncomputable def n7(T:Tab)(Ψ:Psi)(f:Nat)(pos:List MV)(kws:List (Nat×MV))(sh:Sto):Option (Bool×MV×Sto):=
 (pN (T.fnPar f) pos kws).bind λas=>Ψ f as sh
noncomputable def rh(o:Option (MV×Sto)):Option (Bool×MV×Sto):=o.map λp=>(true,p)
noncomputable def sA(T:Tab)(Ψ:Psi)(c:Nat)(pos:List MV)(kws:List (Nat×MV))(sh:Sto):Option (Bool×MV×Sto):=bif sh.tmp.isNone then (T.clsInit c).bind λf=>
  (n7 T Ψ f (.loc .tmp::pos) kws {sh with tmp:=some (c,List.replicate (T.clsFields c).length none)}).bind λr=>bif isNone r.2.1 then r.2.2.tmp.bind λp=>bif p.1==c then (fQ p.2).bind λvs=>(n4 T c vs r.2.2).map λq=>(r.1,q) else none else none
 else none
noncomputable def vp(T:Tab)(Ψ:Psi)(fv:MV)(pos:List MV)(kws:List (Nat×MV))(sh:Sto):Option (Bool×MV×Sto):=
 Option.casesOn (motive:=λ_=>Option (Bool×MV×Sto)) (GQ fv) (Option.casesOn (motive:=λ_=>Option (Bool×MV×Sto)) (vg fv) (rh (nn T Ψ.phi fv pos kws sh)) λc=>sA T Ψ c pos kws sh) λf=>n7 T Ψ f pos kws sh
noncomputable def ri(T:Tab)(Ψ:Psi)(c:vk)(o:MV)(a:Nat)(vs:List MV)(kv:List (Nat×MV))(sh:Sto):Option (Bool×MV×Sto):=
 Option.casesOn (motive:=λ_=>Option (Bool×MV×Sto)) c (bif kv.isEmpty then rh (sx sh o a vs) else none) λp=>n7 T Ψ p.1 (p.2++vs) kv sh
mutual
noncomputable def dQ(T:Tab)(Ψ:Psi):ME→St→(MV→St→Ds→R)→Ds→R
 |.k v,st,k=>k v st
 |.v i,st,k=>cc (iH st i) λp=>k p.1 p.2
 |.g x,st,k=>cc (T.gval x) λv=>k v st
 |.at e a,st,k=>dQ T Ψ e st λv st=>cc (tZ T st.sh v a) λr=>k r st
 |.bo and es,st,k=>sC T Ψ and es st k
 |.bin op l r,st,k=>dQ T Ψ l st λa st=>dQ T Ψ r st λb st=>dT (eE op a b) (cc (ix op a b) λv=>k v st)
 |.not e,st,k=>dQ T Ψ e st λv st=>cc (truthy st.sh v) λb=>k (.bool (!b)) st
 |.neg e,st,k=>dQ T Ψ e st λv st=>cc (eC v) λi=>k (.int (-i)) st
 |.ife t a b,st,k=>fR T Ψ t st λc st=>yc c (dQ T Ψ a st k) (dQ T Ψ b st k)
 |.cmp l r,st,k=>dQ T Ψ l st λv st=>lO T Ψ v r st λb st=>k (.bool b) st
 |.call g as ks,st,k=>cc (T.gval g) λfv=>n8 T Ψ as st λvs st=>vq T Ψ ks st λkv st=>
   cc (vp T Ψ fv vs kv st.sh) λp=>dT p.1 (k p.2.1 {st with sh:=p.2.2})
 |.mc o a as ks,st,k=>dQ T Ψ o st λov st=>cc (n5 T st.sh ov a) λc=>n8 T Ψ as st λvs st=>vq T Ψ ks st λkv st=>
   dT (iG st.sh ov a vs) (cc (ri T Ψ c ov a vs kv st.sh) λp=>dT p.1 (k p.2.1 {st with sh:=p.2.2}))
 |.sub e i,st,k=>dQ T Ψ e st λv st=>dQ T Ψ i st λiv st=>A8 v iv λiv=>A9 (fx st.sh v iv) λr=>k r st
 |.sl e lo hi,st,k=>dQ T Ψ e st λv st=>dQ T Ψ lo st λa st=>dQ T Ψ hi st λb st=>cc (GW st.sh v a b) λr=>k r st
 |.abs,st,k=>k .none st
 |.list none es,st,k=>n8 T Ψ es st λvs st=>k (.lst vs) st
 |.list (some l) es,st,k=>n8 T Ψ es st λvs st=>cc (bQ st l vs) λp=>k p.1 p.2
 |.tup es,st,k=>n8 T Ψ es st λvs st=>k (.tup vs) st
 |.comp m e,st,k=>dQ T Ψ e st λv st=>cc (dH v) λvs=>dT (aS vs.length ak) (cc (bp m vs) λws=>k (.lst ws) st)
 |.dead,_,_=>vn
 |.strI e,st,k=>dQ T Ψ e st λv st=>cc (eC v) λi=>cc (yb i) λs=>k (.str s) st
noncomputable def n8(T:Tab)(Ψ:Psi):MEs→St→(List MV→St→Ds→R)→Ds→R
 |.nil,st,k=>k [] st
 |.cons e r,st,k=>dQ T Ψ e st λv st=>n8 T Ψ r st λvs st=>k (v::vs) st
noncomputable def vq(T:Tab)(Ψ:Psi):MKs→St→(List (Nat×MV)→St→Ds→R)→Ds→R
 |.nil,st,k=>k [] st
 |.cons n e r,st,k=>dQ T Ψ e st λv st=>vq T Ψ r st λvs st=>k ((n,v)::vs) st
noncomputable def sC(T:Tab)(Ψ:Psi)(and:Bool):MEs→St→(MV→St→Ds→R)→Ds→R
 |.nil,_,_=>vn
 |.cons e .nil,st,k=>dQ T Ψ e st k
 |.cons e (.cons f r),st,k=>dQ T Ψ e st λv st=>cc (truthy st.sh v) λb=>yc (b==and) (sC T Ψ and (.cons f r) st k) (k v st)
noncomputable def lO(T:Tab)(Ψ:Psi)(l:MV):MCs→St→(Bool→St→Ds→R)→Ds→R
 |.nil,_,_=>vn
 |.cons op e .nil,st,k=>dQ T Ψ e st λv st=>cc (kt op l v) λb=>k b st
 |.cons op e (.cons op' e' r),st,k=>dQ T Ψ e st λv st=>cc (kt op l v) λb=>yc b (lO T Ψ v (.cons op' e' r) st k) (k false st)
noncomputable def fR(T:Tab)(Ψ:Psi):MB→St→(Bool→St→Ds→R)→Ds→R
 |.not e,st,k=>fR T Ψ e st λb st=>k (!b) st
 |.bo and es,st,k=>n9 T Ψ and es st k
 |.ife t a b,st,k=>fR T Ψ t st λc st=>yc c (fR T Ψ a st k) (fR T Ψ b st k)
 |.cmp l r,st,k=>dQ T Ψ l st λv st=>lO T Ψ v r st k
 |.val e,st,k=>dQ T Ψ e st λv st=>cc (truthy st.sh v) λb=>k b st
noncomputable def n9(T:Tab)(Ψ:Psi)(and:Bool):MBs→St→(Bool→St→Ds→R)→Ds→R
 |.nil,st,k=>k and st
 |.cons e r,st,k=>fR T Ψ e st λb st=>yc (b==and) (n9 T Ψ and r st k) (k (!and) st)
end
noncomputable def yd(st:St)(is:List Nat)(v:MV):Option St:=(pK v).bind λvs=>bif vs.length==is.length then some ((is.zip vs).foldl (λst iv=>aJ st iv.1 iv.2) st) else none
noncomputable def dD(T:Tab)(Ψ:Psi)(v:MV)(m:MT)(st:St)(k:St→Ds→R):Ds→R:=MT.casesOn (motive:=λ_=>Ds→R) m (λi=>k (aJ st i v)) (λe a=>dQ T Ψ e st λo st=>cc (rc T st.sh o a v) λsh=>k {st with sh:=sh}) (λis=>cc (yd st is v) k)
noncomputable def hY(T:Tab)(Ψ:Psi)(v:MV)(ts:List MT):St→(St→Ds→R)→Ds→R:=List.rec (motive:=λ_=>St→(St→Ds→R)→Ds→R) (λst k=>k st) (λm _ ih st k=>dD T Ψ v m st λst=>ih st k) ts
noncomputable def jf(T:Tab)(Ψ:Psi)(b:St→(Option MV→St→Ds→R)→Ds→R)(k:Option MV→St→Ds→R)(t:MT)(l:List MV):St→Ds→R:=
 List.rec (motive:=λ_=>St→Ds→R) (λst ds=>k none st ds) (λv _ ih st ds=>dD T Ψ v t st (λst=>b st (λr st=>pO r k ih st)) ds) l
noncomputable def vr(i:Nat)(st:St)(k:Option MV→St→Ds→R):Ds→R:=cc (iH st i) λp=>k (some p.1) p.2
noncomputable def ye(l:Loc)(i:Nat)(st:St)(k:Option MV→St→Ds→R):Ds→R:=cc (je st i) λvs=>cc (bQ {st with vars:=eg st.vars i .unset} l vs) λp=>k (some p.1) p.2
noncomputable def yf(l:Loc)(i:Nat)(st:St)(k:Option MV→St→Ds→R)(ds:Ds):R:=List.casesOn (motive:=λ_=>R) ds (vr i st k []) λp t=>bif Nat.ble 3000000 p.1 then ye l i st k t else vr i st k (p::t)
noncomputable def ua(tag:Tx)(j:Bool)(st:St)(k:Option MV→St→Ds→R)(vs:List MV)(sh:Sto):Ds→R:=
 bif j then cc (cA vs) λxs=>dT (aS (xs.map List.length).sum ak) (k (some (.tup [.str tag,.str (dh [] xs)])) {st with sh:=sh}) else k (some (.tup [.str tag,.lst vs])) {st with sh:=sh}
mutual
noncomputable def Ba(T:Tab)(Ψ:Psi):MS→St→(Option MV→St→Ds→R)→Ds→R
 |.expr e,st,k=>dQ T Ψ e st λ_ st=>k none st
 |.asgo i es,st,k=>n8 T Ψ es st λvs st=>k none {st with vars:=eg st.vars i (.own vs)}
 |.asg ts e,st,k=>dQ T Ψ e st λv st=>hY T Ψ v ts st λst=>k none st
 |.augv i op e,st,k=>cc (iH st i) λp=>dQ T Ψ e p.2 λb st=>dT (t7 op p.1 b&&eE op p.1 b) (cc (ix op p.1 b) λv=>k none (aJ st i v))
 |.augo i e,st,k=>dT (vm st i) (dQ T Ψ e st λv st=>cc (eA st i v) λst=>k none st)
 |.auga o a op e,st,k=>dQ T Ψ o st λov st=>cc (tZ T st.sh ov a) λx=>dQ T Ψ e st λy st=>dT (t7 op x y&&eE op x y) (cc (ix op x y) λv=>
   cc (rc T st.sh ov a v) λsh=>k none {st with sh:=sh})
 |.app i e,st,k=>dT (vm st i) (dQ T Ψ e st λv st=>cc (dm st i v) λst=>k none st)
 |.ife t a b,st,k=>fR T Ψ t st λc st=>yc c (ae T Ψ a st k) (ae T Ψ b st k)
 |.whl t b,st,k=>fy (λst k=>fR T Ψ t st k) (λst k=>ae T Ψ b st k) k 100000 st
 |.for i e b,st,k=>dQ T Ψ e st λv st=>cc (n6 v) λvs=>lN (λst k=>ae T Ψ b st k) k i vs st
 |.forr i e b,st,k=>dQ T Ψ e st λv st=>cc (eC v) λn=>vo n λn=>dT (aS n.natAbs 1000) (lN (λst k=>ae T Ψ b st k) k i (dS n.toNat) st)
 |.ret e,st,k=>dQ T Ψ e st λv st=>k (some v) st
 |.ret0,st,k=>k (some .none) st
 |.pass,st,k=>k none st
 |.dead,_,_=>vn
 |.asgl i l m src,st,k=>dQ T Ψ src st λv st=>cc (dH v) λvs=>dT (aS vs.length ak) (cc (bp m vs) λws=>cc (bQ st l ws) λp=>k none (aJ p.2 i p.1))
 |.asga i l a b,st,k=>dQ T Ψ a st λx st=>dQ T Ψ b st λy st=>cc (A4 (λs t=>s++t) x y) λws=>dT (aS ws.length ak) (cc (bQ st l ws) λp=>k none (aJ p.2 i p.1))
 |.retc l i,st,k=>yf l i st k
 |.retL tag j is dZ e,st,k=>dQ T Ψ dZ st λc st=>cc (eC c) λn=>vo n λn=>dT (aS n.natAbs 1000) (cc (jS st is) λvs=>
   no (λsh k=>dQ T Ψ e ⟨sh,vs.map .val⟩ λv st=>k v st.sh) (ua tag j st k) n.toNat [] st.sh)
 |.forp t e b,st,k=>dQ T Ψ e st λv st=>cc (dH v) λvs=>jf T Ψ (λst k=>ae T Ψ b st k) k t vs st
noncomputable def ae(T:Tab)(Ψ:Psi):MSs→St→(Option MV→St→Ds→R)→Ds→R
 |.nil,st,k=>k none st
 |.cons s r,st,k=>Ba T Ψ s st λv st=>pO v k (λst=>ae T Ψ r st k) st
end
noncomputable def aR(T:Tab)(Ψ:Psi)(f:Nat)(as:List MV)(sh:Sto)(ds:Ds):R:=cc (T.body f) (λp=>ae T Ψ p.2 ⟨sh,as.map .val++List.replicate (p.1-as.length) .unset⟩ λr st _=>.fin (r.getD .none) st.sh) ds
theorem aG{α:Type}{a:α}{G:Prop}(h:none=some a):G:=nomatch h
theorem aB{G:Prop}(h:false=true):G:=nomatch h
theorem z7{α:Type}{a b:α}{p:α→Prop}(h:some a=some b)(k:p a):p b:=ay h▸k
section
variable {α β:Type}{x y:Option α}{f:α→Option β}{g:α→β}{G:Prop}
theorem ad{b:β}(h:x.bind f=some b)(k:∀a,x=some a→f a=some b→G):G:=by
 cases x with
 |none=>exact aG h
 |some a=>exact k a rfl h
theorem bH{b:β}(h:x.map g=some b)(k:∀a,x=some a→g a=b→G):G:=by
 cases x with
 |none=>exact aG h
 |some a=>exact k a rfl (ay h)
theorem pP{b:α}(h:kP x y=some b)(k1:x=some b→G)(k2:y=some b→G):G:=by
 cases x with
 |none=>exact k2 h
 |some a=>exact k1 h
theorem jg{p:Bool}{b:α}(h:(bif p then x else y)=some b)(k1:p=true→x=some b→G)(k2:p=false→y=some b→G):G:=by
 cases p with
 |true=>exact k1 rfl h
 |false=>exact k2 rfl h
theorem mZ{p:Bool}{b:α}(h:(bif p then x else none)=some b):p=true∧x=some b:=jg h (λe h=>⟨e,h⟩) λ_ h=>aG h
theorem eF{b:Bool}{a:α}(h:xL b x=some a):b=true∧x=some a:=by
 cases b
 ·cases h
 ·exact⟨rfl,h⟩
theorem bind_some{b:β}(h:x.bind f=some b):∃a,x=some a∧f a=some b:=ad h λa h1 h2=>⟨a,h1,h2⟩
theorem aV{b:β}(h:x.map g=some b):∃a,x=some a∧g a=b:=bH h λa h1 h2=>⟨a,h1,h2⟩
theorem gC{l:List α}{a:α}(h:sr l=some a):l=[a]:=by
 match l,h with
 |[],h=>exact aG h
 |[b],h=>exact z7 (p:=λx=>[b]=[x]) h rfl
 |_::_::_,h=>exact aG h
end
theorem ab{a b:Bool}(h:(a&&b)=true):a=true:=(qmz.mp h).1
theorem aa{a b:Bool}(h:(a&&b)=true):b=true:=(qmz.mp h).2
section
variable {b:Bool}{x y:Ds→R}{v:MV}{sh:Sto}{ds:Ds}
theorem z8{G:Prop}(h:am (yc b x y ds) v sh)(k1:b=true→ ∀ds',am (x ds') v sh→G)(k2:b=false→ ∀ds',am (y ds') v sh→G):G:=by
 cases ds with
 |nil=>cases b with
  |true=>exact k1 rfl _ h
  |false=>exact k2 rfl _ h
 |cons p t=>obtain⟨n,d⟩:=p;cases n with
  |zero=>
   have h1:b=d:=h.1;subst h1;cases b with
   |true=>exact k1 rfl _ h.2
   |false=>exact k2 rfl _ h.2
  |succ n=>cases b with
   |true=>exact k1 rfl _ h
   |false=>exact k2 rfl _ h
theorem rj{G:Prop}(h:am (dT b x ds) v sh)(k:b=true→ ∀ds',am (x ds') v sh→G):G:=k h.1 ds h.2
theorem dY{α:Type}{o:Option α}{k:α→Ds→R}{G:Prop}(h:am (cc o k ds) v sh)(f:∀a,o=some a→am (k a ds) v sh→G):G:=by
 cases o with
 |none=>exact(h:False).elim
 |some a=>exact f a rfl h
theorem sD{w i:MV}{c:MV→Ds→R}(h:am (A8 w i c ds) v sh):∃ds',am (c i ds') v sh:=by
 cases ds with
 |nil=>exact⟨_,h⟩
 |cons p r=>obtain⟨n,d⟩:=p;cases n with
  |succ n=>exact⟨_,h⟩
  |zero=>cases r with
   |nil=>exact⟨_,h⟩
   |cons q t=>
    have h:am (A7 w i c _ d q t) v sh:=h;unfold A7 at h;generalize (d&&Nat.ble 1000000 q.1&&(dH w).isSome)=z at h;cases z with
    |false=>exact⟨_,h⟩
    |true=>
     rw[cond_true] at h;refine dY h λj e h=>?_;have h1:=uS (h.1:decide (_=_)=true);have h2:=h.2;rw[← h1] at h2;cases i with
     |int i=>exact z7 (p:=λj=>am (c (.int j) t) v sh→ ∃ds',am (c (.int i) ds') v sh) e (λh=>⟨t,h⟩) h2
     |_=>exact aG e
end
theorem yg{o:Option MV}{z:Nat}(h:iI o z=true):o=some (.str [z]):=by
 cases o with
 |none=>exact aB h
 |some v=>cases v with
  |str s=>rw[show s=[z] from uS (h:decide (s=[z])=true)]
  |_=>exact aB h
theorem sF{o:Option MV}{k:MV→Ds→R}{ds:Ds}{v:MV}{sh:Sto}(h:am (A9 o k ds) v sh):∃ds',am (cc o k ds') v sh:=by
 cases ds with
 |nil=>exact⟨_,h⟩
 |cons p t=>
  have h:am (bif Nat.beq p.1 4000000 then List.casesOn (motive:=λ_=>R) t .bad λq t=>.cst (iI o q.1) true (k (.str [q.1]) t) else cc o k (p::t)) v sh:=h;generalize Nat.beq p.1 4000000=z at h;cases z with
  |false=>exact⟨_,h⟩
  |true=>
   cases t with
   |nil=>exact(h:False).elim
   |cons q t=>
    have h1:=yg h.1;refine⟨t,?_⟩;rw[h1];exact h.2
theorem og{ds:Ds}{v:MV}{sh:Sto}{n:Int}{x:Int→Ds→R}(h:am (vo n x ds) v sh):∃ds',am (x n ds') v sh:=by
 cases ds with
 |nil=>exact⟨_,h⟩
 |cons p t=>
  have h:am (bif Nat.ble 2000000 p.1&&p.2 then .cst (aI n ((p.1-2000000:Nat):Int)) true (x ((p.1-2000000:Nat):Int) t) else x n (p::t)) v sh:=h;generalize (Nat.ble 2000000 p.1&&p.2)=z at h;cases z with
  |false=>exact⟨_,h⟩
  |true=>
   have h1:n=_:=uS (h.1:decide (_=_)=true);exact⟨t,h1▸h.2⟩
theorem yh{ds:Ds}{v:MV}{sh:Sto}{l:Loc}{i:Nat}{st:St}{k:Option MV→St→Ds→R}{G:Prop}(h:am (yf l i st k ds) v sh)(k1:∀ds',am (vr i st k ds') v sh→G)(k2:∀ds',am (ye l i st k ds') v sh→G):G:=by
 cases ds with
 |nil=>exact k1 _ h
 |cons p t=>
  have h:am (bif Nat.ble 3000000 p.1 then ye l i st k t else vr i st k (p::t)) v sh:=h;generalize Nat.ble 3000000 p.1=z at h;cases z with
  |false=>exact k1 _ h
  |true=>exact k2 _ h
section
variable {T:Tab}{Ψ:Psi}{pos:List MV}{kws:List (Nat×MV)}{sh:Sto}{p:Bool×MV×Sto}
theorem rk{o:Option (Bool×MV×Sto)}(h:o=some p)(h2:p.1=true):Gg o=some p.2:=by
 obtain⟨b,r⟩:=p;cases h2;rw[h];rfl
theorem jT{f:Nat}(h:n7 T Ψ f pos kws sh=some p)(h2:p.1=true):kx T Ψ.phi f pos kws sh=some p.2:=ad h λas h1 h=>by
 show (pN (T.fnPar f) pos kws).bind _=_;rw[h1];exact rk h h2
theorem sG{o:Option (MV×Sto)}(h:rh o=some p):o=some p.2:=bH h λq h1 h=>h▸h1
theorem rm{c:Nat}(h:sA T Ψ c pos kws sh=some p)(h2:p.1=true):re T Ψ.phi c pos kws sh=some p.2:=by
 refine jg h (λe h=>ad h λf h1 h=>ad h λr h3 h=>jg h (λe4 h=>ad h λq h5 h=>jg h (λe6 h=>ad h λvs h7 h=>bH h λw h8 h=>?_) λ_ h=>aG h) λ_ h=>aG h) λ_ h=>aG h;subst h;have hf:=jT h3 h2;show (bif sh.tmp.isNone then (T.clsInit c).bind _ else none)=some w;rw[e,cond_true,h1,mY,hf,mY,e4,cond_true,h5,mY,e6,cond_true,h7,mY];exact h8
theorem ub{v:MV}(h:vp T Ψ v pos kws sh=some p)(h2:p.1=true):nn T Ψ.phi v pos kws sh=some p.2:=by
 cases v with
 |fn f=>exact jT h h2
 |cls c=>exact rm h h2
 |_=>exact sG h
theorem uc{c:vk}{o:MV}{a:Nat}(h:ri T Ψ c o a pos kws sh=some p)(h2:p.1=true):sz T Ψ.phi c o a pos kws sh=some p.2:=by
 cases c with
 |some q=>exact jT h h2
 |none=>exact jg h (λe h=>by show (bif _ then _ else none)=_;rw[e];exact sG h) λ_ h=>aG h
end
def Gd (T:Tab) (Ψ:Psi) (f:Nat) (as:List MV) (sh:Sto) (v:MV) (sh':Sto):Prop:=∃ds,am (aR T Ψ f as sh ds) v sh'
section
variable {T:Tab}{Ψ:Psi}{f:Nat}{as:List MV}{sh:Sto}{v:MV}{sh':Sto}
theorem KT(h:aR T Ψ f as sh []= .fin v sh'):Gd T Ψ f as sh v sh':=⟨[],h▸⟨rfl,rfl⟩⟩
end
end Mine
namespace Mine
abbrev MEs.o(a:ME):MEs:=.cons a .nil
abbrev MEs.w(a b:ME):MEs:=.cons a (.o b)
abbrev MEs.x(a b c:ME):MEs:=.cons a (.w b c)
abbrev MEs.y(a b c d:ME):MEs:=.cons a (.x b c d)
abbrev MBs.o(a:MB):MBs:=.cons a .nil
abbrev MBs.w(a b:MB):MBs:=.cons a (.o b)
abbrev MBs.x(a b c:MB):MBs:=.cons a (.w b c)
abbrev MBs.y(a b c d:MB):MBs:=.cons a (.x b c d)
abbrev MSs.o(a:MS):MSs:=.cons a .nil
abbrev MSs.w(a b:MS):MSs:=.cons a (.o b)
abbrev MSs.x(a b c:MS):MSs:=.cons a (.w b c)
abbrev MSs.y(a b c d:MS):MSs:=.cons a (.x b c d)
abbrev MCs.o(a:Cop)(b:ME):MCs:=.cons a b .nil
abbrev MCs.w(a:Cop)(b:ME)(c:Cop)(d:ME):MCs:=.cons a b (.o c d)
abbrev MCs.x(a:Cop)(b:ME)(c:Cop)(d:ME)(e:Cop)(f:ME):MCs:=.cons a b (.w c d e f)
abbrev MCs.y(a:Cop)(b:ME)(c:Cop)(d:ME)(e:Cop)(f:ME)(g:Cop)(h:ME):MCs:=.cons a b (.x c d e f g h)
abbrev MKs.o(a:Nat)(b:ME):MKs:=.cons a b .nil
abbrev MKs.w(a:Nat)(b:ME)(c:Nat)(d:ME):MKs:=.cons a b (.o c d)
abbrev MKs.x(a:Nat)(b:ME)(c:Nat)(d:ME)(e:Nat)(f:ME):MKs:=.cons a b (.w c d e f)
abbrev MKs.y(a:Nat)(b:ME)(c:Nat)(d:ME)(e:Nat)(f:ME)(g:Nat)(h:ME):MKs:=.cons a b (.x c d e f g h)
end Mine
namespace Mine.L1
noncomputable def oh:MSs:=(.w (.asg [.at (.v 0) 11] (.v 1)) (.asg [.at (.v 0) 12] (.v 2)))
noncomputable def jU:MSs:=(.x (.asg [.at (.v 0) 13] (.v 1)) (.asg [.at (.v 0) 11] (.v 2)) (.asg [.at (.v 0) 12] (.v 3)))
noncomputable def ej:MSs:=(.cons (.asg [.at (.v 0) 13] (.v 1)) (.cons (.asg [.at (.v 0) 14] (.v 2)) (.y (.asg [.at (.v 0) 15] (.v 3)) (.asg [.at (.v 0) 11] (.v 4)) (.asg [.at (.v 0) 12] (.v 5)) (.asg [.at (.v 0) 16] (.v 6)))))
noncomputable def fJ:MSs:=(.x (.asg [.at (.v 0) 11] (.v 1)) (.asg [.at (.v 0) 12] (.v 2)) (.asg [.at (.v 0) 17] (.v 3)))
noncomputable def fe:MSs:=(.cons (.asg [.at (.v 0) 11] (.v 1)) (.y (.asg [.at (.v 0) 12] (.v 2)) (.asg [.at (.v 0) 18] (.v 3)) (.asg [.at (.v 0) 19] (.v 4)) (.asg [.at (.v 0) 20] (.v 5))))
noncomputable def fK:MSs:=(.x (.asg [.at (.v 0) 11] (.v 1)) (.asg [.at (.v 0) 12] (.v 2)) (.asg [.at (.v 0) 18] (.v 3)))
noncomputable def iJ:MSs:=(.cons (.asg [.at (.v 0) 13] (.v 1)) (.cons (.asg [.at (.v 0) 14] (.v 2)) (.cons (.asg [.at (.v 0) 15] (.v 3)) (.y (.asg [.at (.v 0) 21] (.v 4)) (.asg [.at (.v 0) 11] (.v 5)) (.asg [.at (.v 0) 12] (.v 6)) (.asg [.at (.v 0) 22] (.v 7))))))
noncomputable def gp:MSs:=(.cons (.asg [.at (.v 0) 23] (.v 1)) (.cons (.asg [.at (.v 0) 24] (.v 2)) (.cons (.asg [.at (.v 0) 25] (.v 3)) (.cons (.asg [.at (.v 0) 26] (.v 4)) (.y (.asg [.at (.v 0) 27] (.v 5)) (.asg [.at (.v 0) 28] (.v 6)) (.asg [.at (.v 0) 29] (.v 7)) (.asg [.at (.v 0) 30] (.v 8)))))))
noncomputable def lP:MSs:=(.cons (.asg [.at (.v 0) 31] (.v 1)) (.cons (.asg [.at (.v 0) 17] (.k (.none))) (.cons (.asg [.at (.v 0) 76] (.list (some .states) .nil)) (.cons (.asg [.at (.v 0) 61] (.at (.v 0) 80)) (.cons (.asg [.at (.v 0) 77] (.list (some .events) .nil)) (.cons (.asg [.at (.v 0) 37] (.k (.none))) (.cons (.asg [.at (.v 0) 78] (.list (some .indents) .nil)) (.cons (.asg [.at (.v 0) 33] (.k (.none))) (.cons (.asg [.at (.v 0) 62] (.k (.int 0))) (.cons (.asg [.at (.v 0) 63] (.k (.bool false))) (.cons (.asg [.at (.v 0) 64] (.k (.bool false))) (.cons (.asg [.at (.v 0) 65] (.k (.bool false))) (.cons (.asg [.at (.v 0) 66] (.k (.bool false))) (.cons (.asg [.at (.v 0) 67] (.k (.int 0))) (.cons (.asg [.at (.v 0) 57] (.k (.int 0))) (.cons (.asg [.at (.v 0) 48] (.k (.bool true))) (.cons (.asg [.at (.v 0) 49] (.k (.bool true))) (.cons (.asg [.at (.v 0) 68] (.k (.bool false))) (.cons (.asg [.at (.v 0) 32] (.v 2)) (.cons (.asg [.at (.v 0) 35] (.v 5)) (.cons (.asg [.at (.v 0) 69] (.k (.int 2))) (.cons (.ife (.bo true (.w (.val (.v 3)) (.cmp (.k (.int 1)) (.w .lt (.v 3) .lt (.k (.int 10)))))) (.o (.asg [.at (.v 0) 69] (.v 3))) .nil) (.cons (.asg [.at (.v 0) 70] (.k (.int 80))) (.cons (.ife (.bo true (.w (.val (.v 4)) (.cmp (.v 4) (.o .gt (.bin .mul (.at (.v 0) 69) (.k (.int 2))))))) (.o (.asg [.at (.v 0) 70] (.v 4))) .nil) (.cons (.asg [.at (.v 0) 71] (.k (.str [10]))) (.cons (.ife (.cmp (.v 6) (.o .inn (.list none (.x (.k (.str [13])) (.k (.str [10])) (.k (.str [13,10])))))) (.o (.asg [.at (.v 0) 71] (.v 6))) .nil) (.cons (.asg [.at (.v 0) 72] (.k (.none))) (.y (.asg [.at (.v 0) 73] (.k (.none))) (.asg [.at (.v 0) 74] (.k (.none))) (.asg [.at (.v 0) 75] (.k (.none))) (.asg [.at (.v 0) 22] (.k (.none)))))))))))))))))))))))))))))))
noncomputable def b_Emitter_emit:MSs:=(.w (.expr (.mc (.at (.v 0) 77) 0 (.o (.v 1)) .nil)) (.whl (.not (.val (.mc (.v 0) 81 .nil .nil))) (.x (.asg [.at (.v 0) 37] (.mc (.at (.v 0) 77) 1 (.o (.k (.int 0))) .nil)) (.expr (.mc (.v 0) 61 .nil .nil)) (.asg [.at (.v 0) 37] (.k (.none))))))
noncomputable def eG:MSs:=(.x (.ife (.not (.val (.at (.v 0) 77))) (.o (.ret (.k (.bool true)))) .nil) (.asg [.v 1] (.sub (.at (.v 0) 77) (.k (.int 0)))) (.ife (.val (.call 0 (.w (.v 1) (.g 1)) .nil)) (.o (.ret (.mc (.v 0) 82 (.o (.k (.int 1))) .nil))) (.o (.ife (.val (.call 0 (.w (.v 1) (.g 2)) .nil)) (.o (.ret (.mc (.v 0) 82 (.o (.k (.int 2))) .nil))) (.o (.ife (.val (.call 0 (.w (.v 1) (.g 3)) .nil)) (.o (.ret (.mc (.v 0) 82 (.o (.k (.int 3))) .nil))) (.o (.ret (.k (.bool false))))))))))
noncomputable def b_Emitter_need_events:MSs:=(.x (.asg [.v 2] (.k (.int 0))) (.for 3 (.sl (.at (.v 0) 77) (.k (.int 1)) .abs) (.w (.ife (.val (.call 0 (.w (.v 3) (.tup (.w (.g 1) (.g 5)))) .nil)) (.o (.augv 2 .add (.k (.int 1)))) (.o (.ife (.val (.call 0 (.w (.v 3) (.tup (.w (.g 7) (.g 6)))) .nil)) (.o (.augv 2 .sub (.k (.int 1)))) (.o (.ife (.val (.call 0 (.w (.v 3) (.g 8)) .nil)) (.o (.asg [.v 2] (.neg (.k (.int 1))))) .nil))))) (.ife (.cmp (.v 2) (.o .lt (.k (.int 0)))) (.o (.ret (.k (.bool false)))) .nil))) (.ret (.cmp (.call 4 (.o (.at (.v 0) 77)) .nil) (.o .lt (.bin .add (.v 1) (.k (.int 1)))))))
noncomputable def ff:MSs:=(.w (.expr (.mc (.at (.v 0) 78) 0 (.o (.at (.v 0) 33)) .nil)) (.ife (.cmp (.at (.v 0) 33) (.o .is (.k (.none)))) (.o (.ife (.val (.v 1)) (.o (.asg [.at (.v 0) 33] (.at (.v 0) 69))) (.o (.asg [.at (.v 0) 33] (.k (.int 0)))))) (.o (.ife (.not (.val (.v 2))) (.o (.auga (.v 0) 33 .add (.at (.v 0) 69))) .nil))))
noncomputable def dI:MSs:=(.o (.ife (.val (.call 0 (.w (.at (.v 0) 37) (.g 9)) .nil)) (.w (.expr (.mc (.v 0) 84 .nil .nil)) (.asg [.at (.v 0) 61] (.at (.v 0) 83))) (.o .dead)))
noncomputable def fz:MSs:=(.o .dead)
noncomputable def cx:MSs:=(.o (.ret (.mc (.v 0) 85 .nil (.o 41 (.k (.bool true))))))
noncomputable def da:MSs:=(.o (.ife (.val (.call 0 (.w (.at (.v 0) 37) (.g 1)) .nil)) (.cons (.ife (.bo true (.w (.bo false (.w (.val (.at (.at (.v 0) 37) 19)) (.val (.at (.at (.v 0) 37) 20)))) (.val (.at (.v 0) 68)))) (.w (.expr (.mc (.v 0) 88 (.w (.k (.str [46,46,46])) (.k (.bool true))) .nil)) (.expr (.mc (.v 0) 87 .nil .nil))) .nil) (.cons (.ife (.val (.at (.at (.v 0) 37) 19)) (.w (.asg [.v 3] (.mc (.v 0) 95 (.o (.at (.at (.v 0) 37) 19)) .nil)) (.expr (.mc (.v 0) 94 (.o (.v 3)) .nil))) .nil) (.cons (.asg [.at (.v 0) 72] (.mc (.at (.v 0) 93) 5 .nil .nil)) (.y (.ife (.val (.at (.at (.v 0) 37) 20)) (.w .dead .dead) .nil) (.asg [.v 2] (.bo true (.cons (.v 1) (.cons (.not (.at (.at (.v 0) 37) 18)) (.y (.not (.at (.v 0) 32)) (.not (.at (.at (.v 0) 37) 19)) (.not (.at (.at (.v 0) 37) 20)) (.not (.mc (.v 0) 89 .nil .nil))))))) (.ife (.not (.val (.v 2))) (.x (.expr (.mc (.v 0) 87 .nil .nil)) (.expr (.mc (.v 0) 88 (.w (.k (.str [45,45,45])) (.k (.bool true))) .nil)) (.ife (.val (.at (.v 0) 32)) (.o (.expr (.mc (.v 0) 87 .nil .nil))) .nil)) .nil) (.asg [.at (.v 0) 61] (.at (.v 0) 86)))))) (.o (.ife (.val (.call 0 (.w (.at (.v 0) 37) (.g 8)) .nil)) (.x (.ife (.val (.at (.v 0) 68)) (.w (.expr (.mc (.v 0) 88 (.w (.k (.str [46,46,46])) (.k (.bool true))) .nil)) (.expr (.mc (.v 0) 87 .nil .nil))) .nil) (.expr (.mc (.v 0) 97 .nil .nil)) (.asg [.at (.v 0) 61] (.at (.v 0) 96))) (.o .dead)))))
noncomputable def dJ:MSs:=(.o (.ife (.val (.call 0 (.w (.at (.v 0) 37) (.g 7)) .nil)) (.y (.expr (.mc (.v 0) 87 .nil .nil)) (.ife (.val (.at (.at (.v 0) 37) 18)) (.w (.expr (.mc (.v 0) 88 (.w (.k (.str [46,46,46])) (.k (.bool true))) .nil)) (.expr (.mc (.v 0) 87 .nil .nil))) .nil) (.expr (.mc (.v 0) 98 .nil .nil)) (.asg [.at (.v 0) 61] (.at (.v 0) 85))) (.o .dead)))
noncomputable def dq:MSs:=(.w (.expr (.mc (.at (.v 0) 76) 0 (.o (.at (.v 0) 100)) .nil)) (.expr (.mc (.v 0) 99 .nil (.o 42 (.k (.bool true))))))
noncomputable def gq:MSs:=(.cons (.asg [.at (.v 0) 63] (.v 1)) (.y (.asg [.at (.v 0) 64] (.v 2)) (.asg [.at (.v 0) 65] (.v 3)) (.asg [.at (.v 0) 66] (.v 4)) (.ife (.val (.call 0 (.w (.at (.v 0) 37) (.g 10)) .nil)) (.o (.expr (.mc (.v 0) 101 .nil .nil))) (.o (.ife (.val (.call 0 (.w (.at (.v 0) 37) (.tup (.w (.g 11) (.g 5)))) .nil)) (.x (.expr (.mc (.v 0) 110 (.o (.k (.str [38]))) .nil)) (.expr (.mc (.v 0) 109 .nil .nil)) (.ife (.val (.call 0 (.w (.at (.v 0) 37) (.g 11)) .nil)) (.o (.expr (.mc (.v 0) 102 .nil .nil))) (.o (.ife (.val (.call 0 (.w (.at (.v 0) 37) (.g 2)) .nil)) (.o (.ife (.bo false (.y (.val (.at (.v 0) 62)) (.val (.at (.v 0) 32)) (.val (.at (.at (.v 0) 37) 16)) (.val (.mc (.v 0) 103 .nil .nil)))) (.o (.expr (.mc (.v 0) 104 .nil .nil))) (.o (.expr (.mc (.v 0) 105 .nil .nil))))) (.o (.ife (.val (.call 0 (.w (.at (.v 0) 37) (.g 3)) .nil)) (.o (.ife (.bo false (.y (.val (.at (.v 0) 62)) (.val (.at (.v 0) 32)) (.val (.at (.at (.v 0) 37) 16)) (.val (.mc (.v 0) 106 .nil .nil)))) (.o (.expr (.mc (.v 0) 107 .nil .nil))) (.o (.expr (.mc (.v 0) 108 .nil .nil))))) .nil)))))) (.o .dead))))))
noncomputable def b_Emitter_expect_scalar:MSs:=(.y (.expr (.mc (.v 0) 112 .nil (.o 39 (.k (.bool true))))) (.expr (.mc (.v 0) 111 .nil .nil)) (.asg [.at (.v 0) 33] (.mc (.at (.v 0) 78) 1 .nil .nil)) (.asg [.at (.v 0) 61] (.mc (.at (.v 0) 76) 1 .nil .nil)))
noncomputable def db:MSs:=(.x (.asg [.v 1] (.bo true (.w (.at (.v 0) 65) (.not (.at (.v 0) 49))))) (.expr (.mc (.v 0) 112 .nil (.w 39 (.k (.bool false)) 40 (.v 1)))) (.asg [.at (.v 0) 61] (.at (.v 0) 113)))
noncomputable def bZ:MSs:=(.o (.ret (.mc (.v 0) 114 .nil (.o 41 (.k (.bool true))))))
noncomputable def cB:MSs:=(.o (.ife (.bo true (.w (.not (.val (.v 1))) (.val (.call 0 (.w (.at (.v 0) 37) (.g 12)) .nil)))) (.w (.asg [.at (.v 0) 33] (.mc (.at (.v 0) 78) 1 .nil .nil)) (.asg [.at (.v 0) 61] (.mc (.at (.v 0) 76) 1 .nil .nil))) (.y (.expr (.mc (.v 0) 87 .nil .nil)) (.expr (.mc (.v 0) 88 (.w (.k (.str [45])) (.k (.bool true))) (.o 49 (.k (.bool true))))) (.expr (.mc (.at (.v 0) 76) 0 (.o (.at (.v 0) 114)) .nil)) (.expr (.mc (.v 0) 99 .nil (.o 43 (.k (.bool true))))))))
noncomputable def dr:MSs:=(.w (.expr (.mc (.v 0) 112 .nil (.o 39 (.k (.bool false))))) (.asg [.at (.v 0) 61] (.at (.v 0) 115)))
noncomputable def cf:MSs:=(.o (.ret (.mc (.v 0) 116 .nil (.o 41 (.k (.bool true))))))
noncomputable def cO:MSs:=(.o (.ife (.bo true (.w (.not (.val (.v 1))) (.val (.call 0 (.w (.at (.v 0) 37) (.g 13)) .nil)))) (.w (.asg [.at (.v 0) 33] (.mc (.at (.v 0) 78) 1 .nil .nil)) (.asg [.at (.v 0) 61] (.mc (.at (.v 0) 76) 1 .nil .nil))) (.w (.expr (.mc (.v 0) 87 .nil .nil)) (.ife (.val (.mc (.v 0) 117 .nil .nil)) (.w (.expr (.mc (.at (.v 0) 76) 0 (.o (.at (.v 0) 118)) .nil)) (.expr (.mc (.v 0) 99 .nil (.w 44 (.k (.bool true)) 45 (.k (.bool true)))))) (.x (.expr (.mc (.v 0) 88 (.w (.k (.str [63])) (.k (.bool true))) (.o 49 (.k (.bool true))))) (.expr (.mc (.at (.v 0) 76) 0 (.o (.at (.v 0) 119)) .nil)) (.expr (.mc (.v 0) 99 .nil (.o 44 (.k (.bool true))))))))))
noncomputable def bU:MSs:=(.x (.expr (.mc (.v 0) 88 (.w (.k (.str [58])) (.k (.bool false))) .nil)) (.expr (.mc (.at (.v 0) 76) 0 (.o (.at (.v 0) 116)) .nil)) (.expr (.mc (.v 0) 99 .nil (.o 44 (.k (.bool true))))))
noncomputable def cC:MSs:=(.y (.expr (.mc (.v 0) 87 .nil .nil)) (.expr (.mc (.v 0) 88 (.w (.k (.str [58])) (.k (.bool true))) (.o 49 (.k (.bool true))))) (.expr (.mc (.at (.v 0) 76) 0 (.o (.at (.v 0) 116)) .nil)) (.expr (.mc (.v 0) 99 .nil (.o 44 (.k (.bool true))))))
noncomputable def dv:MSs:=(.o (.ret (.bo true (.x (.call 0 (.w (.at (.v 0) 37) (.g 2)) .nil) (.at (.v 0) 77) (.call 0 (.w (.sub (.at (.v 0) 77) (.k (.int 0))) (.g 12)) .nil)))))
noncomputable def dK:MSs:=(.o (.ret (.bo true (.x (.call 0 (.w (.at (.v 0) 37) (.g 3)) .nil) (.at (.v 0) 77) (.call 0 (.w (.sub (.at (.v 0) 77) (.k (.int 0))) (.g 13)) .nil)))))
noncomputable def dw:MSs:=(.x (.ife (.bo false (.w (.not (.val (.call 0 (.w (.at (.v 0) 37) (.g 1)) .nil))) (.not (.val (.at (.v 0) 77))))) (.o (.ret (.k (.bool false)))) .nil) (.asg [.v 1] (.sub (.at (.v 0) 77) (.k (.int 0)))) (.ret (.bo true (.cons (.call 0 (.w (.v 1) (.g 11)) .nil) (.y (.cmp (.at (.v 1) 13) (.o .is (.k (.none)))) (.cmp (.at (.v 1) 14) (.o .is (.k (.none)))) (.at (.v 1) 15) (.cmp (.at (.v 1) 21) (.o .eq (.k (.str [])))))))))
noncomputable def eH:MSs:=(.cons (.asg [.v 1] (.k (.int 0))) (.y (.ife (.bo true (.w (.val (.call 0 (.w (.at (.v 0) 37) (.g 14)) .nil)) (.cmp (.at (.at (.v 0) 37) 13) (.o .isNot (.k (.none)))))) (.w (.ife (.cmp (.at (.v 0) 73) (.o .is (.k (.none)))) (.o (.asg [.at (.v 0) 73] (.mc (.v 0) 122 (.o (.at (.at (.v 0) 37) 13)) .nil))) .nil) (.augv 1 .add (.call 4 (.o (.at (.v 0) 73)) .nil))) .nil) (.ife (.bo true (.w (.val (.call 0 (.w (.at (.v 0) 37) (.tup (.w (.g 11) (.g 5)))) .nil)) (.cmp (.at (.at (.v 0) 37) 14) (.o .isNot (.k (.none)))))) (.w (.ife (.cmp (.at (.v 0) 74) (.o .is (.k (.none)))) (.o (.asg [.at (.v 0) 74] (.mc (.v 0) 121 (.o (.at (.at (.v 0) 37) 14)) .nil))) .nil) (.augv 1 .add (.call 4 (.o (.at (.v 0) 74)) .nil))) .nil) (.ife (.val (.call 0 (.w (.at (.v 0) 37) (.g 11)) .nil)) (.w (.ife (.cmp (.at (.v 0) 75) (.o .is (.k (.none)))) (.o (.asg [.at (.v 0) 75] (.mc (.v 0) 120 (.o (.at (.at (.v 0) 37) 21)) .nil))) .nil) (.augv 1 .add (.call 4 (.o (.at (.at (.v 0) 75) 23)) .nil))) .nil) (.ret (.bo true (.w (.cmp (.v 1) (.o .lt (.k (.int 128)))) (.bo false (.y (.call 0 (.w (.at (.v 0) 37) (.g 10)) .nil) (.bo true (.x (.call 0 (.w (.at (.v 0) 37) (.g 11)) .nil) (.not (.at (.at (.v 0) 75) 24)) (.not (.at (.at (.v 0) 75) 25)))) (.mc (.v 0) 103 .nil .nil) (.mc (.v 0) 106 .nil .nil))))))))
noncomputable def fA:MSs:=(.y (.ife (.cmp (.at (.at (.v 0) 37) 13) (.o .is (.k (.none)))) (.w (.asg [.at (.v 0) 73] (.k (.none))) .ret0) .nil) (.ife (.cmp (.at (.v 0) 73) (.o .is (.k (.none)))) (.o (.asg [.at (.v 0) 73] (.mc (.v 0) 122 (.o (.at (.at (.v 0) 37) 13)) .nil))) .nil) (.ife (.val (.at (.v 0) 73)) (.o (.expr (.mc (.v 0) 88 (.w (.bin .add (.v 1) (.at (.v 0) 73)) (.k (.bool true))) .nil))) .nil) (.asg [.at (.v 0) 73] (.k (.none))))
noncomputable def gr:MSs:=(.cons (.asg [.v 1] (.at (.at (.v 0) 37) 14)) (.cons (.ife (.val (.call 0 (.w (.at (.v 0) 37) (.g 11)) .nil)) (.x (.ife (.cmp (.at (.v 0) 22) (.o .is (.k (.none)))) (.o (.asg [.at (.v 0) 22] (.mc (.v 0) 123 .nil .nil))) .nil) (.ife (.bo true (.w (.bo false (.w (.not (.val (.at (.v 0) 32))) (.cmp (.v 1) (.o .is (.k (.none)))))) (.bo false (.w (.bo true (.w (.cmp (.at (.v 0) 22) (.o .eq (.k (.str [])))) (.val (.sub (.at (.at (.v 0) 37) 15) (.k (.int 0)))))) (.bo true (.w (.cmp (.at (.v 0) 22) (.o .ne (.k (.str [])))) (.val (.sub (.at (.at (.v 0) 37) 15) (.k (.int 1)))))))))) (.w (.asg [.at (.v 0) 74] (.k (.none))) .ret0) .nil) (.ife (.bo true (.w (.val (.sub (.at (.at (.v 0) 37) 15) (.k (.int 0)))) (.cmp (.v 1) (.o .is (.k (.none)))))) (.w (.asg [.v 1] (.k (.str [33]))) (.asg [.at (.v 0) 74] (.k (.none)))) .nil)) (.o (.ife (.bo true (.w (.bo false (.w (.not (.val (.at (.v 0) 32))) (.cmp (.v 1) (.o .is (.k (.none)))))) (.val (.at (.at (.v 0) 37) 15)))) (.w (.asg [.at (.v 0) 74] (.k (.none))) .ret0) .nil))) (.y (.ife (.cmp (.v 1) (.o .is (.k (.none)))) (.o .dead) .nil) (.ife (.cmp (.at (.v 0) 74) (.o .is (.k (.none)))) (.o (.asg [.at (.v 0) 74] (.mc (.v 0) 121 (.o (.v 1)) .nil))) .nil) (.ife (.val (.at (.v 0) 74)) (.o (.expr (.mc (.v 0) 88 (.w (.at (.v 0) 74) (.k (.bool true))) .nil))) .nil) (.asg [.at (.v 0) 74] (.k (.none))))))
noncomputable def dL:MSs:=(.cons (.ife (.cmp (.at (.v 0) 75) (.o .is (.k (.none)))) (.o (.asg [.at (.v 0) 75] (.mc (.v 0) 120 (.o (.at (.at (.v 0) 37) 21)) .nil))) .nil) (.cons (.ife (.bo false (.w (.cmp (.at (.at (.v 0) 37) 22) (.o .eq (.k (.str [34])))) (.val (.at (.v 0) 32)))) (.o (.ret (.k (.str [34])))) .nil) (.y (.ife (.bo true (.w (.not (.val (.at (.at (.v 0) 37) 22))) (.val (.sub (.at (.at (.v 0) 37) 15) (.k (.int 0)))))) (.o (.ife (.bo true (.w (.not (.bo true (.w (.val (.at (.v 0) 66)) (.bo false (.w (.val (.at (.at (.v 0) 75) 24)) (.val (.at (.at (.v 0) 75) 25))))))) (.bo false (.w (.bo true (.w (.val (.at (.v 0) 62)) (.val (.at (.at (.v 0) 75) 26)))) (.bo true (.w (.not (.val (.at (.v 0) 62))) (.val (.at (.at (.v 0) 75) 27)))))))) (.o (.ret (.k (.str [])))) .nil)) .nil) (.ife (.bo true (.w (.val (.at (.at (.v 0) 37) 22)) (.cmp (.at (.at (.v 0) 37) 22) (.o .inn (.k (.str [124,62])))))) (.o (.ife (.bo true (.x (.not (.val (.at (.v 0) 62))) (.not (.val (.at (.v 0) 66))) (.val (.at (.at (.v 0) 75) 30)))) (.o (.ret (.at (.at (.v 0) 37) 22))) .nil)) .nil) (.ife (.bo false (.w (.not (.val (.at (.at (.v 0) 37) 22))) (.cmp (.at (.at (.v 0) 37) 22) (.o .eq (.k (.str [39])))))) (.o (.ife (.bo true (.w (.val (.at (.at (.v 0) 75) 28)) (.not (.bo true (.w (.val (.at (.v 0) 66)) (.val (.at (.at (.v 0) 75) 25))))))) (.o (.ret (.k (.str [39])))) .nil)) .nil) (.ret (.k (.str [34]))))))
noncomputable def fB:MSs:=(.cons (.ife (.cmp (.at (.v 0) 75) (.o .is (.k (.none)))) (.o (.asg [.at (.v 0) 75] (.mc (.v 0) 120 (.o (.at (.at (.v 0) 37) 21)) .nil))) .nil) (.cons (.ife (.cmp (.at (.v 0) 22) (.o .is (.k (.none)))) (.o (.asg [.at (.v 0) 22] (.mc (.v 0) 123 .nil .nil))) .nil) (.y (.asg [.v 1] (.not (.at (.v 0) 66))) (.ife (.cmp (.at (.v 0) 22) (.o .eq (.k (.str [34])))) (.o (.expr (.mc (.v 0) 124 (.w (.at (.at (.v 0) 75) 23) (.v 1)) .nil))) (.o (.ife (.cmp (.at (.v 0) 22) (.o .eq (.k (.str [39])))) (.o (.expr (.mc (.v 0) 125 (.w (.at (.at (.v 0) 75) 23) (.v 1)) .nil))) (.o (.ife (.cmp (.at (.v 0) 22) (.o .eq (.k (.str [62])))) (.o (.expr (.mc (.v 0) 126 (.o (.at (.at (.v 0) 75) 23)) .nil))) (.o (.ife (.cmp (.at (.v 0) 22) (.o .eq (.k (.str [124])))) (.o (.expr (.mc (.v 0) 127 (.o (.at (.at (.v 0) 75) 23)) .nil))) (.o (.expr (.mc (.v 0) 128 (.w (.at (.at (.v 0) 75) 23) (.v 1)) .nil)))))))))) (.asg [.at (.v 0) 75] (.k (.none))) (.asg [.at (.v 0) 22] (.k (.none))))))
noncomputable def b_Emitter_analyze_scalar:MSs:=(.cons (.ife (.not (.val (.v 1))) (.o (.ret (.call 15 .nil (.cons 23 (.v 1) (.cons 24 (.k (.bool true)) (.cons 25 (.k (.bool false)) (.cons 26 (.k (.bool false)) (.y 27 (.k (.bool true)) 28 (.k (.bool true)) 29 (.k (.bool true)) 30 (.k (.bool false)))))))))) .nil) (.cons (.asg [.v 2] (.k (.bool false))) (.cons (.asg [.v 3] (.k (.bool false))) (.cons (.asg [.v 4] (.k (.bool false))) (.cons (.asg [.v 5] (.k (.bool false))) (.cons (.asg [.v 6] (.k (.bool false))) (.cons (.asg [.v 7] (.k (.bool false))) (.cons (.asg [.v 8] (.k (.bool false))) (.cons (.asg [.v 9] (.k (.bool false))) (.cons (.asg [.v 10] (.k (.bool false))) (.cons (.asg [.v 11] (.k (.bool false))) (.cons (.ife (.bo false (.w (.val (.mc (.v 1) 2 (.o (.k (.str [45,45,45]))) .nil)) (.val (.mc (.v 1) 2 (.o (.k (.str [46,46,46]))) .nil)))) (.w (.asg [.v 2] (.k (.bool true))) (.asg [.v 3] (.k (.bool true)))) .nil) (.cons (.asg [.v 12] (.k (.bool true))) (.cons (.asg [.v 13] (.bo false (.w (.cmp (.call 4 (.o (.v 1)) .nil) (.o .eq (.k (.int 1)))) (.cmp (.sub (.v 1) (.k (.int 1))) (.o .inn (.k (.str [0,32,9,13,10,133,8232,8233]))))))) (.cons (.asg [.v 14] (.k (.bool false))) (.cons (.asg [.v 15] (.k (.bool false))) (.cons (.asg [.v 16] (.k (.int 0))) (.cons (.whl (.cmp (.v 16) (.o .lt (.call 4 (.o (.v 1)) .nil))) (.cons (.asg [.v 17] (.sub (.v 1) (.v 16))) (.cons (.ife (.cmp (.v 16) (.o .eq (.k (.int 0)))) (.x (.ife (.cmp (.v 17) (.o .inn (.k (.str [35,44,91,93,123,125,38,42,33,124,62,39,34,37,64,96])))) (.w (.asg [.v 3] (.k (.bool true))) (.asg [.v 2] (.k (.bool true)))) .nil) (.ife (.cmp (.v 17) (.o .inn (.k (.str [63,58])))) (.w (.asg [.v 3] (.k (.bool true))) (.ife (.val (.v 13)) (.o (.asg [.v 2] (.k (.bool true)))) .nil)) .nil) (.ife (.bo true (.w (.cmp (.v 17) (.o .eq (.k (.str [45])))) (.val (.v 13)))) (.w (.asg [.v 3] (.k (.bool true))) (.asg [.v 2] (.k (.bool true)))) .nil)) (.x (.ife (.cmp (.v 17) (.o .inn (.k (.str [44,63,91,93,123,125])))) (.o (.asg [.v 3] (.k (.bool true)))) .nil) (.ife (.cmp (.v 17) (.o .eq (.k (.str [58])))) (.w (.asg [.v 3] (.k (.bool true))) (.ife (.val (.v 13)) (.o (.asg [.v 2] (.k (.bool true)))) .nil)) .nil) (.ife (.bo true (.w (.cmp (.v 17) (.o .eq (.k (.str [35])))) (.val (.v 12)))) (.w (.asg [.v 3] (.k (.bool true))) (.asg [.v 2] (.k (.bool true)))) .nil))) (.cons (.ife (.cmp (.v 17) (.o .inn (.k (.str [10,133,8232,8233])))) (.o (.asg [.v 4] (.k (.bool true)))) .nil) (.cons (.ife (.not (.bo false (.w (.cmp (.v 17) (.o .eq (.k (.str [10])))) (.cmp (.k (.str [32])) (.w .le (.v 17) .le (.k (.str [126]))))))) (.o (.ife (.bo true (.w (.bo false (.y (.cmp (.v 17) (.o .eq (.k (.str [133])))) (.cmp (.k (.str [160])) (.w .le (.v 17) .le (.k (.str [55295])))) (.cmp (.k (.str [57344])) (.w .le (.v 17) .le (.k (.str [65533])))) (.cmp (.k (.str [65536])) (.w .le (.v 17) .lt (.k (.str [1114111])))))) (.cmp (.v 17) (.o .ne (.k (.str [65279])))))) (.w (.asg [.v 18] (.k (.bool true))) (.ife (.not (.val (.at (.v 0) 35))) (.o (.asg [.v 5] (.k (.bool true)))) .nil)) (.o (.asg [.v 5] (.k (.bool true)))))) .nil) (.y (.ife (.cmp (.v 17) (.o .eq (.k (.str [32])))) (.cons (.ife (.cmp (.v 16) (.o .eq (.k (.int 0)))) (.o (.asg [.v 6] (.k (.bool true)))) .nil) (.y (.ife (.cmp (.v 16) (.o .eq (.bin .sub (.call 4 (.o (.v 1)) .nil) (.k (.int 1))))) (.o (.asg [.v 8] (.k (.bool true)))) .nil) (.ife (.val (.v 15)) (.o (.asg [.v 10] (.k (.bool true)))) .nil) (.asg [.v 14] (.k (.bool true))) (.asg [.v 15] (.k (.bool false))))) (.o (.ife (.cmp (.v 17) (.o .inn (.k (.str [10,133,8232,8233])))) (.cons (.ife (.cmp (.v 16) (.o .eq (.k (.int 0)))) (.o (.asg [.v 7] (.k (.bool true)))) .nil) (.y (.ife (.cmp (.v 16) (.o .eq (.bin .sub (.call 4 (.o (.v 1)) .nil) (.k (.int 1))))) (.o (.asg [.v 9] (.k (.bool true)))) .nil) (.ife (.val (.v 14)) (.o (.asg [.v 11] (.k (.bool true)))) .nil) (.asg [.v 14] (.k (.bool false))) (.asg [.v 15] (.k (.bool true))))) (.w (.asg [.v 14] (.k (.bool false))) (.asg [.v 15] (.k (.bool false))))))) (.augv 16 .add (.k (.int 1))) (.asg [.v 12] (.cmp (.v 17) (.o .inn (.k (.str [0,32,9,13,10,133,8232,8233]))))) (.asg [.v 13] (.bo false (.w (.cmp (.bin .add (.v 16) (.k (.int 1))) (.o .ge (.call 4 (.o (.v 1)) .nil))) (.cmp (.sub (.v 1) (.bin .add (.v 16) (.k (.int 1)))) (.o .inn (.k (.str [0,32,9,13,10,133,8232,8233]))))))))))))) (.cons (.asg [.v 19] (.k (.bool true))) (.cons (.asg [.v 20] (.k (.bool true))) (.cons (.asg [.v 21] (.k (.bool true))) (.cons (.asg [.v 22] (.k (.bool true))) (.cons (.asg [.v 23] (.k (.bool true))) (.cons (.ife (.bo false (.y (.val (.v 6)) (.val (.v 7)) (.val (.v 8)) (.val (.v 9)))) (.o (.asg [.v 19,.v 20] (.k (.bool false)))) .nil) (.cons (.ife (.val (.v 8)) (.o (.asg [.v 23] (.k (.bool false)))) .nil) (.cons (.ife (.val (.v 10)) (.o (.asg [.v 19,.v 20,.v 21] (.k (.bool false)))) .nil) (.cons (.ife (.bo false (.w (.val (.v 11)) (.val (.v 5)))) (.o (.asg [.v 19,.v 20,.v 21,.v 23] (.k (.bool false)))) .nil) (.y (.ife (.val (.v 4)) (.o (.asg [.v 19,.v 20] (.k (.bool false)))) .nil) (.ife (.val (.v 3)) (.o (.asg [.v 19] (.k (.bool false)))) .nil) (.ife (.val (.v 2)) (.o (.asg [.v 20] (.k (.bool false)))) .nil) (.ret (.call 15 .nil (.cons 23 (.v 1) (.cons 24 (.k (.bool false)) (.cons 25 (.v 4) (.cons 26 (.v 19) (.y 27 (.v 20) 28 (.v 21) 29 (.v 22) 30 (.v 23))))))))))))))))))))))))))))))))))))
noncomputable def fS:MSs:=(.o .pass)
noncomputable def dU:MSs:=(.o .pass)
noncomputable def eI:MSs:=(.o (.expr (.mc (.v 0) 98 .nil .nil)))
noncomputable def fg:MSs:=(.cons (.ife (.bo false (.w (.val (.at (.v 0) 48)) (.not (.val (.v 2))))) (.o (.asg [.v 5] (.v 1))) (.o (.asg [.v 5] (.bin .add (.k (.str [32])) (.v 1))))) (.cons (.asg [.at (.v 0) 48] (.v 3)) (.y (.asg [.at (.v 0) 49] (.bo true (.w (.at (.v 0) 49) (.v 4)))) (.auga (.v 0) 57 .add (.call 4 (.o (.v 5)) .nil)) (.asg [.at (.v 0) 68] (.k (.bool false))) (.expr (.mc (.at (.v 0) 31) 129 (.o (.v 5)) .nil)))))
noncomputable def fT:MSs:=(.x (.asg [.v 1] (.bo false (.w (.at (.v 0) 33) (.k (.int 0))))) (.ife (.bo false (.x (.not (.val (.at (.v 0) 49))) (.cmp (.at (.v 0) 57) (.o .gt (.v 1))) (.bo true (.w (.cmp (.at (.v 0) 57) (.o .eq (.v 1))) (.not (.val (.at (.v 0) 48))))))) (.o (.expr (.mc (.v 0) 130 .nil .nil))) .nil) (.ife (.cmp (.at (.v 0) 57) (.o .lt (.v 1))) (.y (.asg [.at (.v 0) 48] (.k (.bool true))) (.asg [.v 2] (.bin .mul (.k (.str [32])) (.bin .sub (.v 1) (.at (.v 0) 57)))) (.asg [.at (.v 0) 57] (.v 1)) (.expr (.mc (.at (.v 0) 31) 129 (.o (.v 2)) .nil))) .nil))
noncomputable def eJ:MSs:=(.cons (.ife (.cmp (.v 1) (.o .is (.k (.none)))) (.o (.asg [.v 1] (.at (.v 0) 71))) .nil) (.cons (.asg [.at (.v 0) 48] (.k (.bool true))) (.y (.asg [.at (.v 0) 49] (.k (.bool true))) (.auga (.v 0) 67 .add (.k (.int 1))) (.asg [.at (.v 0) 57] (.k (.int 0))) (.expr (.mc (.at (.v 0) 31) 129 (.o (.v 1)) .nil)))))
noncomputable def dc:MSs:=(.x (.asg [.v 2] (.k (.str []))) (.ife (.val (.v 1)) (.w (.ife (.cmp (.sub (.v 1) (.k (.int 0))) (.o .inn (.k (.str [32,10,133,8232,8233])))) (.o (.augv 2 .add (.strI (.at (.v 0) 69)))) .nil) (.ife (.cmp (.sub (.v 1) (.neg (.k (.int 1)))) (.o .notIn (.k (.str [10,133,8232,8233])))) (.o (.augv 2 .add (.k (.str [45])))) (.o (.ife (.bo false (.w (.cmp (.call 4 (.o (.v 1)) .nil) (.o .eq (.k (.int 1)))) (.cmp (.sub (.v 1) (.neg (.k (.int 2)))) (.o .inn (.k (.str [10,133,8232,8233])))))) (.o (.augv 2 .add (.k (.str [43])))) .nil)))) .nil) (.ret (.v 2)))
noncomputable def b_Emitter_write_literal:MSs:=(.cons (.asg [.v 2] (.mc (.v 0) 131 (.o (.v 1)) .nil)) (.cons (.expr (.mc (.v 0) 88 (.w (.bin .add (.k (.str [124])) (.v 2)) (.k (.bool true))) .nil)) (.cons (.ife (.cmp (.sl (.v 2) (.neg (.k (.int 1))) .abs) (.o .eq (.k (.str [43])))) (.o (.asg [.at (.v 0) 68] (.k (.bool true)))) .nil) (.y (.expr (.mc (.v 0) 130 .nil .nil)) (.asg [.v 3] (.k (.bool true))) (.asg [.v 4,.v 5] (.k (.int 0))) (.whl (.cmp (.v 5) (.o .le (.call 4 (.o (.v 1)) .nil))) (.cons (.asg [.v 6] (.k (.none))) (.y (.ife (.cmp (.v 5) (.o .lt (.call 4 (.o (.v 1)) .nil))) (.o (.asg [.v 6] (.sub (.v 1) (.v 5)))) .nil) (.ife (.val (.v 3)) (.o (.ife (.bo false (.w (.cmp (.v 6) (.o .is (.k (.none)))) (.cmp (.v 6) (.o .notIn (.k (.str [10,133,8232,8233])))))) (.x (.for 7 (.sl (.v 1) (.v 4) (.v 5)) (.o (.ife (.cmp (.v 7) (.o .eq (.k (.str [10])))) (.o (.expr (.mc (.v 0) 130 .nil .nil))) (.o (.expr (.mc (.v 0) 130 (.o (.v 7)) .nil)))))) (.ife (.cmp (.v 6) (.o .isNot (.k (.none)))) (.o (.expr (.mc (.v 0) 87 .nil .nil))) .nil) (.asg [.v 4] (.v 5))) .nil)) (.o (.ife (.bo false (.w (.cmp (.v 6) (.o .is (.k (.none)))) (.cmp (.v 6) (.o .inn (.k (.str [10,133,8232,8233])))))) (.y (.asg [.v 8] (.sl (.v 1) (.v 4) (.v 5))) (.expr (.mc (.at (.v 0) 31) 129 (.o (.v 8)) .nil)) (.ife (.cmp (.v 6) (.o .is (.k (.none)))) (.o (.expr (.mc (.v 0) 130 .nil .nil))) .nil) (.asg [.v 4] (.v 5))) .nil))) (.ife (.cmp (.v 6) (.o .isNot (.k (.none)))) (.o (.asg [.v 3] (.cmp (.v 6) (.o .inn (.k (.str [10,133,8232,8233])))))) .nil) (.augv 5 .add (.k (.int 1))))))))))
noncomputable def gu:MSs:=(.cons (.ife (.val (.at (.v 0) 63)) (.o (.asg [.at (.v 0) 68] (.k (.bool true)))) .nil) (.cons (.ife (.not (.val (.v 1))) (.o .ret0) .nil) (.cons (.ife (.not (.val (.at (.v 0) 48))) (.x (.asg [.v 3] (.k (.str [32]))) (.auga (.v 0) 57 .add (.call 4 (.o (.v 3)) .nil)) (.expr (.mc (.at (.v 0) 31) 129 (.o (.v 3)) .nil))) .nil) (.cons (.asg [.at (.v 0) 48] (.k (.bool false))) (.cons (.asg [.at (.v 0) 49] (.k (.bool false))) (.y (.asg [.v 4] (.k (.bool false))) (.asg [.v 5] (.k (.bool false))) (.asg [.v 6,.v 7] (.k (.int 0))) (.whl (.cmp (.v 7) (.o .le (.call 4 (.o (.v 1)) .nil))) (.cons (.asg [.v 8] (.k (.none))) (.y (.ife (.cmp (.v 7) (.o .lt (.call 4 (.o (.v 1)) .nil))) (.o (.asg [.v 8] (.sub (.v 1) (.v 7)))) .nil) (.ife (.val (.v 4)) (.o (.ife (.cmp (.v 8) (.o .ne (.k (.str [32])))) (.w (.ife (.bo true (.x (.cmp (.bin .add (.v 6) (.k (.int 1))) (.o .eq (.v 7))) (.cmp (.at (.v 0) 57) (.o .gt (.at (.v 0) 70))) (.val (.v 2)))) (.x (.expr (.mc (.v 0) 87 .nil .nil)) (.asg [.at (.v 0) 48] (.k (.bool false))) (.asg [.at (.v 0) 49] (.k (.bool false)))) (.x (.asg [.v 3] (.sl (.v 1) (.v 6) (.v 7))) (.auga (.v 0) 57 .add (.call 4 (.o (.v 3)) .nil)) (.expr (.mc (.at (.v 0) 31) 129 (.o (.v 3)) .nil)))) (.asg [.v 6] (.v 7))) .nil)) (.o (.ife (.val (.v 5)) (.o (.ife (.cmp (.v 8) (.o .notIn (.k (.str [10,133,8232,8233])))) (.cons (.ife (.cmp (.sub (.v 1) (.v 6)) (.o .eq (.k (.str [10])))) (.o (.expr (.mc (.v 0) 130 .nil .nil))) .nil) (.cons (.for 9 (.sl (.v 1) (.v 6) (.v 7)) (.o (.ife (.cmp (.v 9) (.o .eq (.k (.str [10])))) (.o (.expr (.mc (.v 0) 130 .nil .nil))) (.o (.expr (.mc (.v 0) 130 (.o (.v 9)) .nil)))))) (.y (.expr (.mc (.v 0) 87 .nil .nil)) (.asg [.at (.v 0) 48] (.k (.bool false))) (.asg [.at (.v 0) 49] (.k (.bool false))) (.asg [.v 6] (.v 7))))) .nil)) (.o (.ife (.bo false (.w (.cmp (.v 8) (.o .is (.k (.none)))) (.cmp (.v 8) (.o .inn (.k (.str [32,10,133,8232,8233])))))) (.y (.asg [.v 3] (.sl (.v 1) (.v 6) (.v 7))) (.auga (.v 0) 57 .add (.call 4 (.o (.v 3)) .nil)) (.expr (.mc (.at (.v 0) 31) 129 (.o (.v 3)) .nil)) (.asg [.v 6] (.v 7))) .nil))))) (.ife (.cmp (.v 8) (.o .isNot (.k (.none)))) (.w (.asg [.v 4] (.cmp (.v 8) (.o .eq (.k (.str [32]))))) (.asg [.v 5] (.cmp (.v 8) (.o .inn (.k (.str [10,133,8232,8233])))))) .nil) (.augv 7 .add (.k (.int 1))))))))))))
noncomputable def pQ:MSs:=(.o (.asg [.at (.v 0) 79] (.list (some .rows) .nil)))
noncomputable def oi:MSs:=(.o (.expr (.mc (.at (.v 0) 79) 0 (.o (.v 1)) .nil)))
noncomputable def pR:MSs:=(.o (.ret (.mc (.k (.str [])) 3 (.o (.at (.v 0) 79)) .nil)))
noncomputable def oj:MSs:=(.o (.ret (.list none (.x (.k (.str [119])) (.k (.str [120,121])) (.k (.str [107,45,122]))))))
noncomputable def lQ:MSs:=(.o (.ret (.list none (.cons (.k (.none)) (.y (.k (.str [13])) (.k (.str [13,10])) (.k (.str [10])) (.k (.str [10,10])))))))
noncomputable def pT:MSs:=(.o (.ret (.ife (.val (.v 0)) (.mc (.v 0) 1 (.o (.k (.int 0))) .nil) (.k (.int 0)))))
noncomputable def b__law_lines:MSs:=(.cons (.asgo 1 .nil) (.y (.asg [.v 2] (.k (.str []))) (.for 3 (.v 0) (.o (.ife (.cmp (.v 3) (.o .inn (.k (.str [10,8232,8233])))) (.w (.app 1 (.tup (.w (.v 2) (.v 3)))) (.asg [.v 2] (.k (.str [])))) (.o (.augv 2 .add (.v 3)))))) (.ife (.val (.v 2)) (.o (.app 1 (.tup (.w (.v 2) (.k (.str [])))))) .nil) (.ret (.v 1))))
noncomputable def b__law_node:MSs:=(.cons (.asg [.v 3] (.call 19 (.o (.v 0)) .nil)) (.cons (.asg [.v 4] (.ife (.val (.v 1)) (.bin .mod (.v 3) (.k (.int 4))) (.bin .mod (.v 3) (.k (.int 2))))) (.cons (.asg [.v 3] (.bin .fdiv (.v 3) (.k (.int 4)))) (.cons (.ife (.cmp (.v 4) (.o .eq (.k (.int 0)))) (.o (.retL [116,101,120,116] true [0,2] (.bin .add (.k (.int 1)) (.bin .mod (.v 3) (.k (.int 6)))) (.sub (.g 20) (.bin .mod (.call 19 (.o (.v 0)) .nil) (.v 1))))) .nil) (.cons (.ife (.cmp (.v 4) (.o .eq (.k (.int 1)))) (.o (.ret (.tup (.w (.k (.str [119,111,114,100])) (.sub (.call 18 .nil .nil) (.bin .mod (.v 3) (.k (.int 3)))))))) .nil) (.y (.ife (.cmp (.v 4) (.o .eq (.k (.int 2)))) (.o (.retL [114,111,119] false [0,1,2] (.bin .add (.k (.int 1)) (.bin .mod (.v 3) (.k (.int 3)))) (.call 16 (.x (.v 0) (.bin .sub (.v 1) (.k (.int 1))) (.v 2)) .nil))) .nil) (.asgo 5 .nil) (.forr 6 (.bin .add (.k (.int 1)) (.bin .mod (.v 3) (.k (.int 2)))) (.y (.asg [.v 7] (.call 19 (.o (.v 0)) .nil)) (.asg [.v 8] (.tup (.w (.k (.str [119,111,114,100])) (.sub (.call 18 .nil .nil) (.bin .mod (.bin .fdiv (.v 7) (.k (.int 3))) (.k (.int 3))))))) (.ife (.cmp (.bin .mod (.v 7) (.k (.int 3))) (.o .eq (.k (.int 2)))) (.w (.asg [.v 8] (.call 16 (.x (.v 0) (.bin .sub (.v 1) (.k (.int 1))) (.v 2)) .nil)) (.ife (.bo true (.w (.cmp (.sub (.v 8) (.k (.int 0))) (.o .eq (.k (.str [116,101,120,116])))) (.cmp (.sub (.sub (.call 17 (.o (.sub (.v 8) (.k (.int 1)))) .nil) (.k (.int 0))) (.k (.int 1))) (.o .eq (.k (.str [])))))) (.o (.asg [.v 8] (.tup (.w (.k (.str [116,101,120,116])) (.bin .add (.sub (.v 8) (.k (.int 1))) (.k (.str [10]))))))) .nil)) .nil) (.app 5 (.tup (.w (.v 8) (.call 16 (.x (.v 0) (.bin .sub (.v 1) (.k (.int 1))) (.v 2)) .nil)))))) (.ret (.tup (.w (.k (.str [109,97,112])) (.v 5))))))))))
noncomputable def b__law_events:MSs:=(.cons (.ife (.cmp (.sub (.v 0) (.k (.int 0))) (.o .eq (.k (.str [116,101,120,116])))) (.o (.ret (.list none (.o (.call 11 (.y (.k (.none)) (.k (.none)) (.tup (.w (.k (.bool true)) (.k (.bool true)))) (.sub (.v 0) (.k (.int 1)))) (.o 22 (.k (.str [124])))))))) .nil) (.cons (.ife (.cmp (.sub (.v 0) (.k (.int 0))) (.o .eq (.k (.str [119,111,114,100])))) (.o (.ret (.list none (.o (.call 11 (.y (.k (.none)) (.k (.none)) (.tup (.w (.k (.bool true)) (.k (.bool true)))) (.sub (.v 0) (.k (.int 1)))) .nil))))) .nil) (.y (.ife (.cmp (.sub (.v 0) (.k (.int 0))) (.o .eq (.k (.str [114,111,119])))) (.x (.asgo 1 (.o (.call 2 (.x (.k (.none)) (.k (.none)) (.k (.bool true))) (.o 16 (.k (.bool false)))))) (.for 2 (.sub (.v 0) (.k (.int 1))) (.o (.augo 1 (.call 21 (.o (.v 2)) .nil)))) (.ret (.bin .add (.v 1) (.list none (.o (.call 12 .nil .nil)))))) .nil) (.asgo 1 (.o (.call 3 (.x (.k (.none)) (.k (.none)) (.k (.bool true))) (.o 16 (.k (.bool false)))))) (.forp (.tup [3,4]) (.sub (.v 0) (.k (.int 1))) (.o (.augo 1 (.bin .add (.call 21 (.o (.v 3)) .nil) (.call 21 (.o (.v 4)) .nil))))) (.ret (.bin .add (.v 1) (.list none (.o (.call 13 .nil .nil))))))))
noncomputable def b__law_text:MSs:=(.cons (.asg [.v 5] (.call 17 (.o (.v 1)) .nil)) (.cons (.ife (.bo false (.w (.cmp (.sub (.sub (.v 5) (.k (.int 0))) (.k (.int 0))) (.o .eq (.k (.str [])))) (.cmp (.sub (.sub (.sub (.v 5) (.k (.int 0))) (.k (.int 0))) (.k (.int 0))) (.o .eq (.k (.str [32])))))) (.o (.augv 0 .add (.strI (.v 3)))) .nil) (.y (.ife (.cmp (.sub (.sub (.v 5) (.neg (.k (.int 1)))) (.k (.int 1))) (.o .eq (.k (.str [])))) (.o (.augv 0 .add (.k (.str [45])))) (.o (.ife (.cmp (.sub (.sub (.v 5) (.neg (.k (.int 1)))) (.k (.int 0))) (.o .eq (.k (.str [])))) (.o (.augv 0 .add (.k (.str [43])))) .nil))) (.asgo 6 (.o (.bin .add (.v 0) (.v 4)))) (.forp (.tup [7,8]) (.v 5) (.o (.app 6 (.bin .add (.ife (.val (.v 7)) (.bin .add (.bin .mul (.k (.str [32])) (.v 2)) (.v 7)) (.k (.str []))) (.ife (.bo false (.w (.cmp (.v 8) (.o .eq (.k (.str [])))) (.cmp (.v 8) (.o .eq (.k (.str [10])))))) (.v 4) (.v 8)))))) (.retc .due 6))))
noncomputable def pU:MSs:=(.y (.ife (.cmp (.sub (.v 1) (.k (.int 0))) (.o .eq (.k (.str [119,111,114,100])))) (.o (.ret (.list none (.o (.bin .add (.bin .add (.bin .add (.v 0) (.k (.str [32]))) (.sub (.v 1) (.k (.int 1)))) (.v 4)))))) .nil) (.ife (.cmp (.sub (.v 1) (.k (.int 0))) (.o .eq (.k (.str [116,101,120,116])))) (.o (.ret (.call 23 (.cons (.bin .add (.v 0) (.k (.str [32,124]))) (.y (.sub (.v 1) (.k (.int 1))) (.bin .add (.v 2) (.v 3)) (.v 3) (.v 4))) .nil))) .nil) (.asg [.v 5] (.call 22 (.y (.v 1) (.bin .add (.v 2) (.v 3)) (.v 3) (.v 4)) .nil)) (.ret (.bin .add (.list none (.o (.bin .add (.v 0) (.sl (.sub (.v 5) (.k (.int 0))) (.bin .add (.v 2) (.k (.int 1))) .abs)))) (.sl (.v 5) (.k (.int 1)) .abs))))
noncomputable def b__law_block:MSs:=(.cons (.asg [.v 4] (.bin .mul (.k (.str [32])) (.v 1))) (.y (.asgo 5 .nil) (.ife (.cmp (.sub (.v 0) (.k (.int 0))) (.o .eq (.k (.str [114,111,119])))) (.w (.for 6 (.sub (.v 0) (.k (.int 1))) (.o (.augo 5 (.call 24 (.cons (.bin .add (.v 4) (.k (.str [45]))) (.y (.v 6) (.v 1) (.v 2) (.v 3))) .nil)))) (.ret (.v 5))) .nil) (.forp (.tup [7,8]) (.sub (.v 0) (.k (.int 1))) (.o (.ife (.cmp (.sub (.v 7) (.k (.int 0))) (.o .ne (.k (.str [119,111,114,100])))) (.w (.augo 5 (.call 24 (.cons (.bin .add (.v 4) (.k (.str [63]))) (.y (.v 7) (.v 1) (.v 2) (.v 3))) .nil)) (.augo 5 (.call 24 (.cons (.bin .add (.v 4) (.k (.str [58]))) (.y (.v 8) (.v 1) (.v 2) (.v 3))) .nil))) (.o (.ife (.cmp (.sub (.v 8) (.k (.int 0))) (.o .eq (.k (.str [114,111,119])))) (.o (.augo 5 (.bin .add (.list none (.o (.bin .add (.bin .add (.bin .add (.v 4) (.sub (.v 7) (.k (.int 1)))) (.k (.str [58]))) (.v 3)))) (.call 22 (.y (.v 8) (.v 1) (.v 2) (.v 3)) .nil)))) (.o (.ife (.cmp (.sub (.v 8) (.k (.int 0))) (.o .eq (.k (.str [109,97,112])))) (.o (.augo 5 (.bin .add (.list none (.o (.bin .add (.bin .add (.bin .add (.v 4) (.sub (.v 7) (.k (.int 1)))) (.k (.str [58]))) (.v 3)))) (.call 22 (.y (.v 8) (.bin .add (.v 1) (.v 2)) (.v 2) (.v 3)) .nil)))) (.o (.augo 5 (.call 24 (.cons (.bin .add (.bin .add (.v 4) (.sub (.v 7) (.k (.int 1)))) (.k (.str [58]))) (.y (.v 8) (.v 1) (.v 2) (.v 3))) .nil)))))))))) (.ret (.v 5))))
noncomputable def b__law:MSs:=(.cons (.asgl 1 .tape 5040 (.sl (.v 0) .abs (.k (.int 18)))) (.cons (.asg [.v 2] (.call 19 (.o (.v 1)) .nil)) (.cons (.asg [.v 3] (.bin .sub (.bin .mod (.call 19 (.o (.v 1)) .nil) (.k (.int 12))) (.k (.int 1)))) (.cons (.asg [.v 4] (.bin .sub (.bin .mod (.call 19 (.o (.v 1)) .nil) (.k (.int 60))) (.k (.int 9)))) (.cons (.asg [.v 5] (.cmp (.bin .mod (.v 2) (.k (.int 2))) (.o .eq (.k (.int 1))))) (.cons (.asg [.v 6] (.cmp (.bin .mod (.bin .fdiv (.v 2) (.k (.int 2))) (.k (.int 2))) (.o .eq (.k (.int 1))))) (.cons (.asg [.v 7] (.cmp (.bin .mod (.bin .fdiv (.v 2) (.k (.int 4))) (.k (.int 2))) (.o .eq (.k (.int 1))))) (.cons (.asg [.v 8] (.sub (.call 27 .nil .nil) (.bin .mod (.bin .fdiv (.v 2) (.k (.int 8))) (.k (.int 5))))) (.cons (.asg [.v 9] (.call 16 (.x (.v 1) (.k (.int 3)) (.ife (.val (.v 7)) (.k (.int 22)) (.k (.int 18)))) .nil)) (.cons (.ife (.cmp (.sub (.v 9) (.k (.int 0))) (.o .eq (.k (.str [119,111,114,100])))) (.o (.asg [.v 9] (.tup (.w (.k (.str [116,101,120,116])) (.sub (.v 9) (.k (.int 1))))))) .nil) (.cons (.asg [.v 10] (.ife (.cmp (.k (.int 2)) (.w .le (.v 3) .le (.k (.int 9)))) (.v 3) (.k (.int 2)))) (.cons (.asg [.v 11] (.ife (.bo false (.w (.cmp (.v 8) (.o .eq (.k (.str [13])))) (.cmp (.v 8) (.o .eq (.k (.str [13,10])))))) (.v 8) (.k (.str [10])))) (.cons (.asg [.v 12] (.call 25 (.o (.call 26 .nil .nil)) (.y 33 (.v 3) 34 (.v 4) 35 (.v 7) 36 (.v 8)))) (.cons (.expr (.mc (.v 12) 132 (.o (.call 9 .nil .nil)) .nil)) (.cons (.expr (.mc (.v 12) 132 (.o (.call 1 .nil (.o 18 (.v 5)))) .nil)) (.cons (.for 13 (.call 21 (.o (.v 9)) .nil) (.o (.expr (.mc (.v 12) 132 (.o (.v 13)) .nil)))) (.cons (.expr (.mc (.v 12) 132 (.o (.call 7 .nil (.o 18 (.v 6)))) .nil)) (.cons (.expr (.mc (.v 12) 132 (.o (.call 8 .nil .nil)) .nil)) (.cons (.ife (.cmp (.sub (.v 9) (.k (.int 0))) (.o .eq (.k (.str [116,101,120,116])))) (.o (.asg [.v 14] (.call 23 (.cons (.ife (.val (.v 5)) (.k (.str [45,45,45,32,124])) (.k (.str [124]))) (.y (.sub (.v 9) (.k (.int 1))) (.v 10) (.v 10) (.v 11))) .nil))) (.o (.asga 14 .due (.ife (.val (.v 5)) (.list none (.o (.bin .add (.k (.str [45,45,45])) (.v 11)))) (.list none .nil)) (.call 22 (.y (.v 9) (.k (.int 0)) (.v 10) (.v 11)) .nil)))) (.y (.asg [.v 15] (.v 9)) (.whl (.bo false (.w (.cmp (.sub (.v 15) (.k (.int 0))) (.o .eq (.k (.str [114,111,119])))) (.cmp (.sub (.v 15) (.k (.int 0))) (.o .eq (.k (.str [109,97,112])))))) (.o (.asg [.v 15] (.ife (.cmp (.sub (.v 15) (.k (.int 0))) (.o .eq (.k (.str [114,111,119])))) (.sub (.sub (.v 15) (.k (.int 1))) (.neg (.k (.int 1)))) (.sub (.sub (.sub (.v 15) (.k (.int 1))) (.neg (.k (.int 1)))) (.k (.int 1))))))) (.ife (.bo false (.w (.val (.v 6)) (.bo true (.w (.cmp (.sub (.v 15) (.k (.int 0))) (.o .eq (.k (.str [116,101,120,116])))) (.cmp (.sub (.sub (.call 17 (.o (.sub (.v 15) (.k (.int 1)))) .nil) (.neg (.k (.int 1)))) (.k (.int 0))) (.o .eq (.k (.str [])))))))) (.o (.expr (.mc (.v 14) 0 (.o (.bin .add (.k (.str [46,46,46])) (.v 11))) .nil))) .nil) (.ret (.cmp (.mc (.at (.v 12) 31) 51 .nil .nil) (.o .eq (.mc (.k (.str [])) 3 (.o (.v 14)) .nil))))))))))))))))))))))))
noncomputable def bodyL:List (Nat×MSs):=[(3,oh),(4,jU),(7,ej),(4,fJ),(6,fe),(4,fK),(8,iJ),(9,gp),(7,lP),(2,b_Emitter_emit),(2,eG),(4,b_Emitter_need_events),(3,ff),(1,dI),(1,fz),(1,cx),(9,da),(1,dJ),(1,dq),(5,gq),(1,b_Emitter_expect_scalar),(2,db),(1,bZ),(2,cB),(1,dr),(1,cf),(2,cO),(1,bU),(1,cC),(1,dv),(1,dK),(2,dw),(2,eH),(2,fA),(2,gr),(1,dL),(2,fB),(24,b_Emitter_analyze_scalar),(1,fS),(1,dU),(1,eI),(6,fg),(3,fT),(2,eJ),(3,dc),(9,b_Emitter_write_literal),(10,gu),(1,pQ),(2,oi),(1,pR),(0,oj),(0,lQ),(1,pT),(4,b__law_lines),(9,b__law_node),(5,b__law_events),(9,b__law_text),(6,pU),(9,b__law_block),(16,b__law)]
noncomputable def body(f:Nat):Option (Nat×MSs):=c0 bodyL f
noncomputable def Bb:List (List (Nat×Option MV)):=[[(10,none),(11,some (.none)),(12,some (.none))],[(10,none),(13,none),(11,some (.none)),(12,some (.none))],[(10,none),(13,none),(14,none),(15,none),(11,some (.none)),(12,some (.none)),(16,some (.none))],[(10,none),(11,some (.none)),(12,some (.none)),(17,some (.none))],[(10,none),(11,some (.none)),(12,some (.none)),(18,some (.none)),(19,some (.none)),(20,some (.none))],[(10,none),(11,some (.none)),(12,some (.none)),(18,some (.none))],[(10,none),(13,none),(14,none),(15,none),(21,none),(11,some (.none)),(12,some (.none)),(22,some (.none))],[(10,none),(23,none),(24,none),(25,none),(26,none),(27,none),(28,none),(29,none),(30,none)],[(10,none),(31,none),(32,some (.none)),(33,some (.none)),(34,some (.none)),(35,some (.none)),(36,some (.none))],[(10,none),(37,none)],[(10,none)],[(10,none),(38,none)],[(10,none),(39,some (.bool false)),(40,some (.bool false))],[(10,none)],[(10,none)],[(10,none)],[(10,none),(41,some (.bool false))],[(10,none)],[(10,none)],[(10,none),(42,some (.bool false)),(43,some (.bool false)),(44,some (.bool false)),(45,some (.bool false))],[(10,none)],[(10,none)],[(10,none)],[(10,none),(41,some (.bool false))],[(10,none)],[(10,none)],[(10,none),(41,some (.bool false))],[(10,none)],[(10,none)],[(10,none)],[(10,none)],[(10,none)],[(10,none)],[(10,none),(46,none)],[(10,none)],[(10,none)],[(10,none)],[(10,none),(23,none)],[(10,none)],[(10,none)],[(10,none)],[(10,none),(46,none),(47,none),(48,some (.bool false)),(49,some (.bool false))],[(10,none)],[(10,none),(50,some (.none))],[(10,none),(51,none)],[(10,none),(51,none)],[(10,none),(51,none),(4,some (.bool true))],[(10,none)],[(10,none),(50,none)],[(10,none)],[],[],[(52,none)],[(21,none)],[(52,none),(53,none),(54,none)],[(55,none)],[(56,none),(21,none),(57,none),(58,none),(59,none)],[(56,none),(55,none),(57,none),(58,none),(59,none)],[(55,none),(57,none),(58,none),(59,none)],[(60,none)]]
noncomputable def fnPar(f:Nat):List (Nat×Option MV):=(c0 Bb f).getD []
noncomputable def rn:List (List Nat):=[[],[11,12],[13,11,12],[13,14,15,11,12,16],[11,12],[11,12,17],[11,12],[11,12,18,19,20],[11,12,18],[13,11,12],[13,14,15,21,11,12,22],[13,14,15,11,12,16],[11,12],[13,14,15,11,12,16],[11,12],[],[23,24,25,26,27,28,29,30],[31,17,76,61,77,37,78,33,62,63,64,65,66,67,57,48,49,68,32,35,69,70,71,72,73,74,75,22],[79]]
noncomputable def clsFields(c:Nat):List Nat:=(c0 rn c).getD []
noncomputable def clsInitL:List (Option Nat):=[none,some 0,some 1,some 2,some 0,some 3,some 0,some 4,some 5,some 1,some 6,some 2,some 0,some 2,some 0,none,some 7,some 8,some 47]
noncomputable def clsInit(c:Nat):Option Nat:=(c0 clsInitL c).getD none
noncomputable def vu:List (List (Nat×Nat)):=[[],[],[],[],[],[],[],[],[],[],[],[],[],[],[],[],[],[(132,9),(81,10),(82,11),(112,12),(80,13),(96,14),(83,15),(85,16),(100,17),(86,18),(99,19),(102,20),(105,21),(113,22),(114,23),(108,24),(115,25),(116,26),(118,27),(119,28),(103,29),(106,30),(89,31),(117,32),(110,33),(109,34),(123,35),(111,36),(120,37),(98,38),(84,39),(97,40),(88,41),(87,42),(130,43),(131,44),(127,45),(128,46)],[(129,48),(51,49)]]
noncomputable def clsMeth(c n:Nat):Option Nat:=(c0 vu c).bind λl=>vf l n
noncomputable def clsAttrL:List (List (Nat×MV)):=[[],[],[],[],[],[],[],[],[],[],[],[],[],[],[],[],[],[(93,.sd [([33],[33]),([116,97,103,58,121,97,109,108,46,111,114,103,44,50,48,48,50,58],[33,33])])],[]]
noncomputable def clsAttr(c n:Nat):Option MV:=(c0 clsAttrL c).bind λl=>vf l n
noncomputable def yi:List (List Nat):=[[0],[1],[2,1],[3,2,1],[4,1],[5,1],[6,1],[7,1],[8,1],[9,2,1],[10,2,1],[11,3,2,1],[12,4,1],[13,3,2,1],[14,4,1],[15,0],[16],[17],[18]]
noncomputable def clsSub(c d:Nat):Bool:=((c0 yi c).getD []).any (Nat.beq d)
noncomputable def gvalL:List (Option MV):=[some (.bi 1),some (.cls 7),some (.cls 11),some (.cls 13),some (.bi 0),some (.cls 3),some (.cls 4),some (.cls 8),some (.cls 6),some (.cls 5),some (.cls 9),some (.cls 10),some (.cls 12),some (.cls 14),some (.cls 2),some (.cls 16),some (.fn 54),some (.fn 53),some (.fn 50),some (.fn 52),some (.lst [(.str [10]),(.str [97]),(.str [32,98]),(.str [10,10]),(.str [32,32,32,99]),(.str [35,100]),(.str [45]),(.str [58,32,101]),(.str [45,45,45]),(.str [46,46,46]),(.str [124,50,45]),(.str [39]),(.str [34]),(.str [92,110]),(.str [37]),(.str [63]),(.str [38,102]),(.str [91,44]),(.str [8232]),(.str [233]),(.str [8233]),(.str [128512])]),some (.fn 55),some (.fn 58),some (.fn 56),some (.fn 57),some (.cls 17),some (.cls 18),some (.fn 51)]
noncomputable def gval(x:Nat):Option MV:=(c0 gvalL x).getD none
noncomputable def T:Tab:={fnPar,clsFields,clsMeth,clsAttr,clsInit,clsSub,gval,emC:=17,body}
end Mine.L1
namespace Mine
open PySem PySem.W PyProof.Rows
structure Nm where
 T:Tab
 nm:Nat→Str
 natr:Nat
 fna:Nat→Addr
 cla:Nat→Addr
 bin:Nat→Value
 P:Params
 h₀:Heap
structure Wd where
 ρ:Loc→Option Addr
 G:Addr→Option Obj
structure Wd.Ext(w w':Wd):Prop where
 ρ:∀l a,w.ρ l=some a→w'.ρ l=some a
 G:∀a o,w.G a=some o→w'.G a=some o
theorem Wd.Ext.refl(w:Wd):w.Ext w:=⟨λ_ _ h=>h,λ_ _ h=>h⟩
theorem Wd.Ext.trans{a b c:Wd}(x:a.Ext b)(y:b.Ext c):a.Ext c:=⟨λl v h=>y.ρ _ _ (x.ρ _ _ h),λl v h=>y.G _ _ (x.G _ _ h)⟩
noncomputable def aj(s:Tx):Str:=⟨s.toArray⟩
def jh (o:Obj) (vals:List Value):Prop:=vals.length≤ak∧o.cls= .type "list" ∧ ∃n,o.data= .seq vals.toArray n
def ol (o:Obj) (vals:List Value):Prop:=vals.length≤ak∧o.cls= .type "tuple" ∧ ∃n,o.data= .seq vals.toArray n
def ky (o:Obj) (m:Str→Option Value):Prop:=∃es ep,o.data= .dict es ep∧StrKeys es∧ ∀name,nsFind es name=m name
def isNsB (o:Obj) (m:Str→Option Value) (b:Nat):Prop:=∃es ep,o.data= .dict es ep∧es.size≤b∧StrKeys es∧ ∀name,nsFind es name=m name
theorem isNsB.ns{o:Obj}{m:Str→Option Value}{b:Nat}(h:isNsB o m b):ky o m:=let ⟨es,ep,h1,_,h3⟩:=h;⟨es,ep,h1,h3⟩
noncomputable def dZ(fs:List (Option MV)):Nat:=(fs.filter (·.isSome)).length
noncomputable def sH(P:Params)(l:List (Tx×Tx)):List DictEntry→Prop:=
 List.rec (motive:=λ_=>List DictEntry→Prop) (λes=>es=[]) (λp _ ih es=>∃t t' r,p.1.length≤ak∧p.2.length≤ak∧es=⟨PyData.keyHash P (aj p.1),.str (aj p.1) t,.str (aj p.2) t'⟩::r∧ih r) l
noncomputable def Bc(N:Nm)(f:Nat)(a:Addr):Obj:=methodObj (.ref (N.fna f)) (.ref a)
inductive InstR (N:Nm) (w:Wd) (c:Nat) (vals:List Value):Value→Prop
 |mk {q dx:Addr} {od:Obj} {m:Str→Option Value} (hc:(N.T.clsInit c).isSome=true) (hq:w.G q=some (instObj (N.cla c) dx)) (hd:w.G dx=some od) (hm:ky od m) (hf:∀n,n<N.natr→m (N.nm n)=(aC (N.T.clsFields c) n).bind (c0 vals)):InstR N w c vals (.ref q)
inductive SeqR (w:Wd) (p:Obj→List Value→Prop) (vals:List Value):Value→Prop
 |mk {q:Addr} {o:Obj} (hq:w.G q=some o) (ho:p o vals):SeqR w p vals (.ref q)
inductive MethR (N:Nm) (w:Wd) (f:Nat) (l:Loc):Value→Prop
 |mk {x q:Addr} (hb:(N.T.body f).isSome=true) (hl:w.ρ l=some x) (hq:w.G q=some (Bc N f x)):MethR N w f l (.ref q)
inductive SdR (N:Nm) (w:Wd) (kvs:List (Tx×Tx)):Value→Prop
 |mk {es:List DictEntry} {n:Nat} {q:Addr} (hnd:(kvs.map (·.1)).Nodup) (hlo:(q==sysModules)=false) (hq:w.G q=some ⟨.type "dict",Option.none,.dict es.toArray n,#[]⟩) (hr:sH N.P kvs es):SdR N w kvs (.ref q)
section
variable (N:Nm)(w:Wd)
noncomputable def VRel(v:MV):Value→Prop:=MV.rec (motive_1:=λ_=>Value→Prop) (motive_2:=λ_=>List Value→Prop)
 (λa=>a= .none) (λb a=>a= .bool b) (λi a=>∃t,a= .int i t) (λs a=>s.length≤ak∧ ∃t,a= .str (aj s) t) (λl a=>∃q,w.ρ l=some q∧a= .ref q)
 (λf a=>a= .ref (N.fna f)) (λc a=>a= .ref (N.cla c)) (λb a=>a=N.bin b) (λf l=>MethR N w f l) (λc _ ih a=>∃vals,ih vals∧InstR N w c vals a)
 (λ_ ih a=>∃vals,ih vals∧SeqR w jh vals a) (λ_ ih a=>∃vals,ih vals∧SeqR w ol vals a) (λkvs=>SdR N w kvs)
 (λas=>as=[]) (λ_ _ i1 i2 as=>∃a r,as=a::r∧i1 a∧i2 r) v
noncomputable def VRels(vs:List MV):List Value→Prop:=List.rec (motive:=λ_=>List Value→Prop) (λas=>as=[]) (λv _ ih as=>∃a r,as=a::r∧VRel N w v a∧ih r) vs
end
section
variable {N:Nm}{w w':Wd}
theorem lR(vs:List MV):MV.rec_1 (motive_1:=λ_=>Value→Prop) (motive_2:=λ_=>List Value→Prop)
 (λa=>a= .none) (λb a=>a= .bool b) (λi a=>∃t,a= .int i t) (λs a=>s.length≤ak∧ ∃t,a= .str (aj s) t) (λl a=>∃q,w.ρ l=some q∧a= .ref q)
 (λf a=>a= .ref (N.fna f)) (λc a=>a= .ref (N.cla c)) (λb a=>a=N.bin b) (λf l=>MethR N w f l) (λc _ ih a=>∃vals,ih vals∧InstR N w c vals a)
 (λ_ ih a=>∃vals,ih vals∧SeqR w jh vals a) (λ_ ih a=>∃vals,ih vals∧SeqR w ol vals a) (λkvs=>SdR N w kvs)
 (λas=>as=[]) (λ_ _ i1 i2 as=>∃a r,as=a::r∧i1 a∧i2 r) vs=VRels N w vs:=by
 induction vs with
 |nil=>rfl
 |cons v vs ih=>exact bJ (λX=>λas=>∃a r,as=a::r∧VRel N w v a∧X r) ih
theorem VRel.inst_eq{c:Nat}{fs:List MV}{a:Value}:VRel N w (.inst c fs) a= ∃vals,VRels N w fs vals∧InstR N w c vals a:=bJ (λX:List Value→Prop=>∃vals,X vals∧InstR N w c vals a) (lR fs)
theorem VRel.lst_eq{vs:List MV}{a:Value}:VRel N w (.lst vs) a= ∃vals,VRels N w vs vals∧SeqR w jh vals a:=bJ (λX:List Value→Prop=>∃vals,X vals∧SeqR w jh vals a) (lR vs)
theorem VRel.tup_eq{vs:List MV}{a:Value}:VRel N w (.tup vs) a= ∃vals,VRels N w vs vals∧SeqR w ol vals a:=bJ (λX:List Value→Prop=>∃vals,X vals∧SeqR w ol vals a) (lR vs)
theorem VRel.none:VRel N w .none .none:=rfl
theorem VRel.bool(b:Bool):VRel N w (.bool b) (.bool b):=rfl
theorem VRel.int(i:Int)(t:Tok):VRel N w (.int i) (.int i t):=⟨t,rfl⟩
theorem VRel.str{s:Tx}(t:Tok)(hs:s.length≤ak):VRel N w (.str s) (.str (aj s) t):=⟨hs,t,rfl⟩
theorem VRel.loc{l:Loc}{a:Addr}(h:w.ρ l=some a):VRel N w (.loc l) (.ref a):=⟨a,h,rfl⟩
theorem VRel.fn(f:Nat):VRel N w (.fn f) (.ref (N.fna f)):=rfl
theorem VRel.cls(c:Nat):VRel N w (.cls c) (.ref (N.cla c)):=rfl
theorem VRel.bi(b:Nat):VRel N w (.bi b) (N.bin b):=rfl
theorem VRel.lst{vs:List MV}{vals:List Value}{q:Addr}{o:Obj}(hq:w.G q=some o)(ho:jh o vals)(hr:VRels N w vs vals):VRel N w (.lst vs) (.ref q):=VRel.lst_eq.mpr ⟨vals,hr,hq,ho⟩
theorem VRels.nil:VRels N w [] []:=rfl
theorem VRels.cons{v a vs as}(h:VRel N w v a)(r:VRels N w vs as):VRels N w (v::vs) (a::as):=⟨a,as,rfl,h,r⟩
theorem VRels.cons_inv{v:MV}{vs:List MV}{as:List Value}(h:VRels N w (v::vs) as):∃a r,as=a::r∧VRel N w v a∧VRels N w vs r:=h
theorem VRels.one_inv{v:MV}{as:List Value}(h:VRels N w [v] as):∃a,as=[a]∧VRel N w v a:=by obtain⟨a,_,rfl,h,rfl⟩:=h;exact⟨a,rfl,h⟩
theorem VRel.int_inv{i:Int}{a:Value}(h:VRel N w (.int i) a):∃t,a= .int i t:=h
theorem VRel.str_inv{s:Tx}{a:Value}(h:VRel N w (.str s) a):s.length≤ak∧ ∃t,a= .str (aj s) t:=h
theorem VRel.loc_inv{l:Loc}{a:Value}(h:VRel N w (.loc l) a):∃q,w.ρ l=some q∧a= .ref q:=h
theorem InstR.map(hG:∀a o,w.G a=some o→w'.G a=some o){c:Nat}{vals:List Value}{a:Value}(h:InstR N w c vals a):InstR N w' c vals a:=by cases h with | mk k1 k2 k3 k4 k5=>exact⟨k1,hG _ _ k2,hG _ _ k3,k4,k5⟩
theorem SeqR.map(hG:∀a o,w.G a=some o→w'.G a=some o){p:Obj→List Value→Prop}{vals:List Value}{a:Value}(h:SeqR w p vals a):SeqR w' p vals a:=by cases h with | mk k1 k2=>exact⟨hG _ _ k1,k2⟩
theorem MethR.map{f:Nat}{l:Loc}(hl:∀a,w.ρ l=some a→w'.ρ l=some a)(hG:∀a o,w.G a=some o→w'.G a=some o){a:Value}(h:MethR N w f l a):MethR N w' f l a:=by cases h with | mk k1 k2 k3=>exact⟨k1,hl _ k2,hG _ _ k3⟩
theorem SdR.map(hG:∀a o,w.G a=some o→w'.G a=some o){kvs:List (Tx×Tx)}{a:Value}(h:SdR N w kvs a):SdR N w' kvs a:=by cases h with | mk k1 k2 k3 k4=>exact⟨k1,k2,hG _ _ k3,k4⟩
theorem fk{α:Type}{p p' r r':α→Prop}(h1:∀x,p x→p' x)(h2:∀x,r x→r' x)(h:∃x,p x∧r x):∃x,p' x∧r' x:=h.elim λx h=>⟨x,h1 x h.1,h2 x h.2⟩
theorem sI{p p':Value→Prop}{r r':List Value→Prop}{as:List Value}(h1:∀x,p x→p' x)(h2:∀x,r x→r' x)(h:∃a s,as=a::s∧p a∧r s):∃a s,as=a::s∧p' a∧r' s:=h.elim λa h=>h.elim λs h=>⟨a,s,h.1,h1 a h.2.1,h2 s h.2.2⟩
theorem VRel.map{p:MV→Prop}{ps:List MV→Prop}(hl:∀l a,p (.loc l)→w.ρ l=some a→w'.ρ l=some a)(hm:∀f l a,p (.meth f l)→w.ρ l=some a→w'.ρ l=some a)(hG:∀a o,w.G a=some o→w'.G a=some o)
  (h1:∀c fs,p (.inst c fs)→ps fs) (h2:∀vs,p (.lst vs)→ps vs) (h3:∀vs,p (.tup vs)→ps vs) (h4:∀v vs,ps (v::vs)→p v∧ps vs) (v:MV):p v→ ∀{a},VRel N w v a→VRel N w' v a:=
 MV.rec (motive_1:=λv=>p v→ ∀{a},VRel N w v a→VRel N w' v a) (motive_2:=λvs=>ps vs→ ∀{as},VRels N w vs as→VRels N w' vs as)
  (λ_ _ h=>h) (λ_ _ _ h=>h) (λ_ _ _ h=>h) (λ_ _ _ h=>h) (λl e _ h=>fk (λq=>hl l q e) (λ_ h=>h) h) (λ_ _ _ h=>h) (λ_ _ _ h=>h) (λ_ _ _ h=>h)
  (λf l e _ h=>MethR.map (λa=>hm f l a e) hG h)
  (λc fs ih e _ h=>VRel.inst_eq.mpr (fk (λ_=>ih (h1 c fs e)) (λ_=>InstR.map hG) (VRel.inst_eq.mp h)))
  (λvs ih e _ h=>VRel.lst_eq.mpr (fk (λ_=>ih (h2 vs e)) (λ_=>SeqR.map hG) (VRel.lst_eq.mp h)))
  (λvs ih e _ h=>VRel.tup_eq.mpr (fk (λ_=>ih (h3 vs e)) (λ_=>SeqR.map hG) (VRel.tup_eq.mp h)))
  (λ_ _ _ h=>SdR.map hG h)
  (λ_ _ h=>h) (λv vs i1 i2 e _ h=>sI (λ_=>i1 (h4 v vs e).1) (λ_=>i2 (h4 v vs e).2) h) v
theorem VRels.all{p:MV→Prop}{ps:List MV→Prop}(h4:∀v vs,ps (v::vs)→p v∧ps vs)(k:∀v,p v→ ∀{a},VRel N w v a→VRel N w' v a):∀vs,ps vs→ ∀{as},VRels N w vs as→VRels N w' vs as:=λvs=>
 List.rec (motive:=λvs=>ps vs→ ∀{as},VRels N w vs as→VRels N w' vs as) (λ_ _ h=>h) (λv vs ih e _ h=>sI (λ_=>k v (h4 v vs e).1) (λ_=>ih (h4 v vs e).2) h) vs
theorem VRel.mono(x:w.Ext w'){v:MV}{a:Value}(h:VRel N w v a):VRel N w' v a:=
 VRel.map (p:=λ_=>True) (ps:=λ_=>True) (λl a _=>x.ρ l a) (λ_ l a _=>x.ρ l a) x.G (λ_ _ _=>trivial) (λ_ _=>trivial) (λ_ _=>trivial) (λ_ _ _=>⟨trivial,trivial⟩) v trivial h
theorem VRels.mono(x:w.Ext w'){vs:List MV}{as:List Value}(h:VRels N w vs as):VRels N w' vs as:=
 VRels.all (p:=λ_=>True) (ps:=λ_=>True) (λ_ _ _=>⟨trivial,trivial⟩) (λv _ _ h=>h.mono x) vs trivial h
end
def ORel (N:Nm) (w:Wd) (o:Option MV) (x:Option Value):Prop:=Option.casesOn (motive:=λ_=>Prop) o (x=none) (λv=>∃a,x=some a∧VRel N w v a)
theorem ORel.mono{N:Nm}{w w':Wd}(x:w.Ext w'){v:Option MV}{a:Option Value}(h:ORel N w v a):ORel N w' v a:=by
 cases v with
 |none=>exact h
 |some v=>exact fk (λ_ h=>h) (λ_=>VRel.mono x) h
noncomputable def eK(sh:Sto)(l:Loc):Bool:=Loc.casesOn (motive:=λ_=>Bool) l sh.em.isSome sh.em.isSome sh.tmp.isSome sh.tmp.isSome sh.states.isSome sh.events.isSome sh.indents.isSome sh.rows.isSome sh.tape.isSome sh.due.isSome
def ObjR (N:Nm) (w:Wd) (c:Nat) (l:Loc) (o:Obj):Prop:=∃d,w.ρ l=some d∧o=instObj (N.cla c) d
def DictR (N:Nm) (w:Wd) (b:Nat) (g:Nat→Option MV) (o:Obj):Prop:=∃m,isNsB o m b∧ ∀n,n<N.natr→ORel N w (g n) (m (N.nm n))
inductive ListR (N:Nm) (w:Wd) (ls:Option (List MV)):Obj→Prop
 |mk {vs:List MV} {vals:List Value} {n:Nat} (he:ls=some vs) (hl:vals.length≤ak) (hr:VRels N w vs vals):ListR N w ls (listOf vals.toArray n)
def Cont (N:Nm) (w:Wd) (sh:Sto) (l:Loc) (o:Obj):Prop:=Loc.casesOn (motive:=λ_=>Prop) l (ObjR N w N.T.emC .emD o) (∃E,sh.em=some E∧DictR N w 1000 (pM N.T E) o)
 (∃p,sh.tmp=some p∧(N.T.clsInit p.1).isSome=true∧ObjR N w p.1 .tmpD o) (∃p,sh.tmp=some p∧p.2.length=(N.T.clsFields p.1).length∧DictR N w (dZ p.2) (iy N.T p.1 p.2) o)
 (ListR N w sh.states o) (ListR N w sh.events o) (ListR N w sh.indents o) (ListR N w sh.rows o) (ListR N w sh.tape o) (ListR N w sh.due o)
noncomputable abbrev PMap:=Addr→Option Obj
structure Sh(N:Nm)(w:Wd)(P:PMap)(sh:Sto)(h:Heap):Prop where
 base:∀a o,N.h₀.get? a=some o→w.G a=some o
 frz:∀a o,w.G a=some o→h.get? a=some o
 prot:∀a o,P a=some o→h.get? a=some o
 dis:∀a o,w.G a=some o→P a=none
 dom:∀l,(w.ρ l).isSome=eK sh l
 inj:∀l l' a,w.ρ l=some a→w.ρ l'=some a→l=l'
 sepG:∀l a,w.ρ l=some a→w.G a=none
 sepP:∀l a,w.ρ l=some a→P a=none
 cont:∀l a,w.ρ l=some a→ ∃o,h.get? a=some o∧Cont N w sh l o
theorem ObjR.mono{N:Nm}{w w':Wd}(x:w.Ext w'){c:Nat}{l:Loc}{o:Obj}(h:ObjR N w c l o):ObjR N w' c l o:=fk (λ_=>x.ρ _ _) (λ_ h=>h) h
theorem DictR.mono{N:Nm}{w w':Wd}(x:w.Ext w'){b:Nat}{g:Nat→Option MV}{o:Obj}(h:DictR N w b g o):DictR N w' b g o:=fk (λ_ h=>h) (λ_ h3 n hn=>(h3 n hn).mono x) h
theorem ListR.mono{N:Nm}{w w':Wd}(x:w.Ext w'){ls:Option (List MV)}{o:Obj}(h:ListR N w ls o):ListR N w' ls o:=by cases h with | mk h1 h2 h3=>exact⟨h1,h2,h3.mono x⟩
theorem Cont.mono{N:Nm}{w w':Wd}{sh:Sto}(x:w.Ext w'){l:Loc}{o:Obj}(h:Cont N w sh l o):Cont N w' sh l o:=by
 cases l with
 |em=>exact ObjR.mono x h
 |emD=>exact fk (λ_ h=>h) (λ_=>DictR.mono x) h
 |tmp=>exact fk (λ_ h=>h) (λ_ h=>⟨h.1,h.2.mono x⟩) h
 |tmpD=>exact fk (λ_ h=>h) (λ_ h=>⟨h.1,h.2.mono x⟩) h
 |_=>exact ListR.mono x h
section
variable {N:Nm}{w:Wd}{P:PMap}{sh:Sto}{h h':Heap}
theorem Sh.keeps(S:Sh N w P sh h)(k:∀b o,h.get? b=some o→h'.get? b=some o):Sh N w P sh h':=
 ⟨S.base,λa o e=>k _ _ (S.frz a o e),λa o e=>k _ _ (S.prot a o e),S.dis,S.dom,S.inj,S.sepG,S.sepP,λl a e=>let ⟨o,h1,h2⟩:=S.cont l a e;⟨o,k _ _ h1,h2⟩⟩
noncomputable def Wd.add(w:Wd)(a:Addr)(o:Obj):Wd:={w with G:=λb=>if b=a then some o else w.G b}
theorem Wd.add_ext{w:Wd}{a:Addr}{o:Obj}(h:w.G a=none):w.Ext (w.add a o):=⟨λ_ _ e=>e,λb o' e=>by
 show (if b=a then some o else w.G b)=some o';by_cases q:b=a
 ·subst q;rw[h] at e;cases e
 ·rw[bL q];exact e⟩
theorem Wd.add_at{w:Wd}{a:Addr}{o:Obj}:(w.add a o).G a=some o:=cw rfl
theorem Sh.add(S:Sh N w P sh h){a:Addr}{o:Obj}(ho:h.get? a=some o)(hG:w.G a=none)(hP:P a=none)(hρ:∀l b,w.ρ l=some b→b≠a):Sh N (w.add a o) P sh h:=by
 have x:=Wd.add_ext (o:=o) hG;refine⟨λb o' e=>x.G _ _ (S.base b o' e),λb o' e=>?_,S.prot,λb o' e=>?_,S.dom,S.inj,λl b e=>?_,S.sepP,λl b e=>let ⟨o,h1,h2⟩:=S.cont l b e;⟨o,h1,h2.mono x⟩⟩
 ·change (if b=a then some o else w.G b)=some o' at e
  by_cases q:b=a
  ·subst q;rw[cw rfl] at e;cases e;exact ho
  ·rw[bL q] at e;exact S.frz _ _ e
 ·change (if b=a then some o else w.G b)=some o' at e
  by_cases q:b=a
  ·subst q;exact hP
  ·rw[bL q] at e;exact S.dis _ _ e
 ·show (if b=a then some o else w.G b)=none
  rw[bL (hρ _ _ e)];exact S.sepG _ _ e
theorem Sh.fresh(S:Sh N w P sh h){a:Addr}(e:h.get? a=none):w.G a=none∧P a=none∧ ∀l b,w.ρ l=some b→b≠a:=by
 refine⟨?_,?_,λl b q z=>?_⟩
 ·cases q:w.G a with
  |none=>rfl
  |some o=>rw[S.frz _ _ q] at e;cases e
 ·cases q:P a with
  |none=>rfl
  |some o=>rw[S.prot _ _ q] at e;cases e
 ·obtain⟨o,h1,_⟩:=S.cont l b q
  rw[z,e] at h1;cases h1
theorem Sh.addNew(S:Sh N w P sh h)(k:∀b o,h.get? b=some o→h'.get? b=some o){a:Addr}{o:Obj}(e:h.get? a=none)(ho:h'.get? a=some o):w.Ext (w.add a o)∧Sh N (w.add a o) P sh h':=
 let ⟨f1,f2,f3⟩:=S.fresh e
 ⟨Wd.add_ext f1,(S.keeps k).add ho f1 f2 f3⟩
theorem Sh.set(S:Sh N w P sh h){sh':Sto}{l:Loc}{a:Addr}{o':Obj}(hl:w.ρ l=some a)(hs:Heap.SameBut a h h')(ho:h'.get? a=some o')(hc:Cont N w sh' l o')
  (hr:∀l',l'≠l→ ∀o,Cont N w sh l' o→Cont N w sh' l' o) (hd:∀l',eK sh' l'=eK sh l'):Sh N w P sh' h':=by
 refine⟨S.base,λb o e=>(hs.2 b λz=>?_).trans (S.frz _ _ e),λb o e=>(hs.2 b λz=>?_).trans (S.prot _ _ e),S.dis,λl'=>(S.dom l').trans (hd l').symm,S.inj,S.sepG,S.sepP,λl' b e=>?_⟩
 ·rw[z,S.sepG _ _ hl] at e;cases e
 ·rw[z,S.sepP _ _ hl] at e;cases e
 ·by_cases q:l'=l
  ·subst q
   rw[hl] at e;cases e;exact⟨o',ho,hc⟩
  ·obtain⟨o,h1,h2⟩:=S.cont l' b e
   refine⟨o,(hs.2 b λz=>?_).trans h1,hr l' q o h2⟩;subst z;exact q (S.inj _ _ _ e hl)
theorem Sh.other(S:Sh N w P sh h){a:Addr}(hs:Heap.SameBut a h h')(hG:w.G a=none)(hP:P a=none)(hρ:∀l b,w.ρ l=some b→b≠a):Sh N w P sh h':=by
 refine⟨S.base,λb o e=>(hs.2 b λz=>?_).trans (S.frz _ _ e),λb o e=>(hs.2 b λz=>?_).trans (S.prot _ _ e),S.dis,S.dom,S.inj,S.sepG,S.sepP,λl' b e=>?_⟩
 ·rw[z,hG] at e;cases e
 ·rw[z,hP] at e;cases e
 ·obtain⟨o,h1,h2⟩:=S.cont l' b e
  exact⟨o,(hs.2 b (hρ _ _ e)).trans h1,h2⟩
end
inductive OwnR (N:Nm) (w:Wd) (h:Heap) (at_:Option Addr) (vs:List MV):Option Value→Prop
 |mk {vals:List Value} {a:Addr} {n:Nat} (hl:vals.length≤ak) (ha:at_=some a) (ho:h.get? a=some (listOf vals.toArray n)) (hr:VRels N w vs vals):OwnR N w h at_ vs (some (.ref a))
def CRel (N:Nm) (w:Wd) (h:Heap) (at_:Option Addr) (c:Cell) (x:Option Value):Prop:=
 Cell.casesOn (motive:=λ_=>Prop) c True (λv=>∃a,x=some a∧VRel N w v a) λvs=>OwnR N w h at_ vs x
structure Fc where
 sc:Scope
 nms:List Str
structure FL where
 a:Addr
 m:Str→Option Value
 cl:List (Str×Addr)
 cv:Str→Option Value
noncomputable def FL.wm(L:FL)(m:Str→Option Value):FL:=⟨L.a,m,L.cl,L.cv⟩
noncomputable def FL.val(L:FL)(x:Str):Option Value:=bif (L.cl.lookup x).isSome then L.cv x else L.m x
def Cels (w:Wd) (L:FL):Prop:=∀x c,L.cl.lookup x=some c→ ∃o,w.G c=some o∧o.data= .cell (L.cv x)
theorem Cels.mono{w w':Wd}{L:FL}(h:Cels w L)(hG:∀a o,w.G a=some o→w'.G a=some o):Cels w' L:=λx c e=>(h x c e).elim λo h=>⟨o,hG _ _ h.1,h.2⟩
noncomputable def bv(q:Str)(sc:Scope)(L:FL)(fa:Option Addr×Option Addr)(cd:Value):Env:={scope:=sc,locals:=L.a,globals:=mainGlobals,cells:=L.cl,qual:=q,func:=fa.1,code:=cd,frame:=fa.2,builtins:=builtinsNs}
noncomputable def gF(f:Fc)(x:Str):Bool:=f.sc.names.lookup x==some .cell
theorem hZ{f:Fc}{x:Str}(h:f.sc.names.lookup x=some .local):gF f x=false:=by unfold gF;rw[h];rfl
structure Fm(N:Nm)(w:Wd)(ω:Nat→Option Addr)(P:PMap)(L:FL)(nms:Fc)(st:St)(h:Heap):Prop where
 sh:Sh N w P st.sh h
 LG:w.G L.a=none
 LP:P L.a=none
 Lρ:∀l b,w.ρ l=some b→b≠L.a
 ns:h.Ns L.a L.m
 vs:∀i x c,nms.nms[i]?=some x→st.vars[i]?=some c→CRel N w h (ω i) c (L.val x)
 ωG:∀i a,ω i=some a→w.G a=none∧P a=none∧(∀l b,w.ρ l=some b→b≠a)∧a≠L.a
 ωi:∀i j a,ω i=some a→ω j=some a→i=j
 ωo:∀i a,ω i=some a→(h.get? a).isSome=true
 cel:Cels w L
 clk:∀(i:Nat) (x:Str),nms.nms[i]?=some x→(L.cl.lookup x).isSome=gF nms x
theorem Fm.val_loc{N:Nm}{w:Wd}{ω:Nat→Option Addr}{P:PMap}{L:FL}{nms:Fc}{st:St}{h:Heap}(F:Fm N w ω P L nms st h){i:Nat}{x:Str}(hx:nms.nms[i]?=some x)(hl:nms.sc.names.lookup x=some .local):L.val x=L.m x:=by
 unfold FL.val;rw[F.clk i x hx,hZ hl];rfl
theorem OwnR.mono{N:Nm}{w w':Wd}{h h':Heap}{at_:Option Addr}{c:List MV}{a:Option Value}(x:w.Ext w')(k:∀b o,at_=some b→h.get? b=some o→h'.get? b=some o)(r:OwnR N w h at_ c a):OwnR N w' h' at_ c a:=by cases r with | mk k1 k2 k3 k4=>exact⟨k1,k2,k _ _ k2 k3,k4.mono x⟩
theorem CRel.mono{N:Nm}{w w':Wd}{h h':Heap}{at_:Option Addr}{c:Cell}{a:Option Value}(x:w.Ext w')(k:∀b o,at_=some b→h.get? b=some o→h'.get? b=some o)(r:CRel N w h at_ c a):CRel N w' h' at_ c a:=by
 cases c with
 |unset=>trivial
 |val v=>exact fk (λ_ h=>h) (λ_=>VRel.mono x) r
 |own vs=>exact OwnR.mono x k r
open PySem PySem.W PyProof.Rows
section
variable {N:Nm}{w w':Wd}{ω:Nat→Option Addr}{P:PMap}{L:FL}{nms:Fc}{st:St}{h h':Heap}
theorem Fm.keeps(F:Fm N w ω P L nms st h)(k:∀b o,h.get? b=some o→h'.get? b=some o):Fm N w ω P L nms st h':=by
 refine⟨F.sh.keeps k,F.LG,F.LP,F.Lρ,F.ns.keeps k,λi x c e1 e2=>(F.vs i x c e1 e2).mono (.refl w) λb o _=>k b o,F.ωG,F.ωi,λi a e=>?_,F.cel,F.clk⟩
 ·obtain⟨o,ho⟩:=qez.mp (F.ωo i a e)
  rw[k _ _ ho];rfl
theorem Fm.Lsome(F:Fm N w ω P L nms st h):∃o,h.get? L.a=some o:=let ⟨o,_,_,ho,_⟩:=F.ns;⟨o,ho⟩
theorem Fm.withSh(F:Fm N w ω P L nms st h){sh':Sto}(x:w.Ext w')(S:Sh N w' P sh' h')(hL:h'.get? L.a=h.get? L.a)(ho:∀i a,ω i=some a→h'.get? a=h.get? a)
  (gL:w'.G L.a=none) (rL:∀l b,w'.ρ l=some b→b≠L.a) (gω:∀i a,ω i=some a→w'.G a=none∧ ∀l b,w'.ρ l=some b→b≠a):Fm N w' ω P L nms {st with sh:=sh'} h':=by
 refine⟨S,gL,F.LP,rL,?_,λi x' c e1 e2=>(F.vs i x' c e1 e2).mono x λb o e3 e4=>(ho i b e3).trans e4,λi a e=>⟨(gω i a e).1,(F.ωG i a e).2.1,(gω i a e).2,(F.ωG i a e).2.2.2⟩,F.ωi,λi a e=>?_,F.cel.mono x.G,F.clk⟩
 ·obtain⟨o,es,ep,h1,h2⟩:=F.ns
  exact⟨o,es,ep,hL.trans h1,h2⟩
 ·rw[ho i a e];exact F.ωo i a e
theorem Fm.addNew(F:Fm N w ω P L nms st h)(k:∀b o,h.get? b=some o→h'.get? b=some o){a:Addr}{o:Obj}(e:h.get? a=none)(ho:h'.get? a=some o) :
  w.Ext (w.add a o)∧Fm N (w.add a o) ω P L nms st h':=by
 obtain⟨x,S⟩:=F.sh.addNew k e ho;obtain⟨oL,hL⟩:=F.Lsome;have q:∀b,(h.get? b).isSome=true→b≠a:=λb hb z=>by rw[z,e] at hb;cases hb
 refine⟨x,F.withSh (sh':=st.sh) x S ((k _ _ hL).trans hL.symm) (λi b hb=>?_) ?_ F.Lρ λi b hb=>⟨?_,(F.ωG i b hb).2.2.1⟩⟩
 ·obtain⟨o',ho'⟩:=qez.mp (F.ωo i b hb)
  rw[ho',k _ _ ho']
 ·show (if L.a=a then some o else w.G L.a)=none
  rw[bL (q L.a (by rw[hL];rfl))];exact F.LG
 ·show (if b=a then some o else w.G b)=none
  rw[bL (q b (F.ωo i b hb))];exact(F.ωG i b hb).1
theorem Fm.setSh(F:Fm N w ω P L nms st h){sh':Sto}{l:Loc}{a:Addr}{o':Obj}(hl:w.ρ l=some a)(hs:Heap.SameBut a h h')(ho:h'.get? a=some o')(hc:Cont N w sh' l o')
  (hr:∀l',l'≠l→ ∀o,Cont N w st.sh l' o→Cont N w sh' l' o) (hd:∀l',eK sh' l'=eK st.sh l'):Fm N w ω P L nms {st with sh:=sh'} h':=
 F.withSh (.refl w) (F.sh.set hl hs ho hc hr hd) (hs.2 _ λz=>F.Lρ _ _ hl z.symm) (λi b e=>hs.2 _ λz=>(F.ωG i b e).2.2.1 _ _ hl z.symm) F.LG F.Lρ λi b e=>⟨(F.ωG i b e).1,(F.ωG i b e).2.2.1⟩
theorem h9{α:Type}{l:List α}(h:l.Nodup){i j:Nat}{x:α}(e:l[i]?=some x)(e':l[j]?=some x):i=j:=
 (List.getElem?_inj (List.getElem?_eq_some_iff.mp e).1 h).mp (e.trans e'.symm)
theorem fU{α:Type}{l:List α}{i j:Nat}{x y:α}(e:(eg l i x)[j]?=some y):(i=j∧y=x)∨(i≠j∧l[j]?=some y):=by
 rw[ei,List.getElem?_set] at e;by_cases q:i=j
 ·rw[cw q] at e
  split at e
  ·exact .inl ⟨q,(ay e).symm⟩
  ·exact aG e
 ·rw[bL q] at e;exact .inr ⟨q,e⟩
noncomputable def i9(ω:Nat→Option Addr)(i:Nat)(o:Option Addr)(j:Nat):Option Addr:=if j=i then o else ω j
noncomputable def om(m:Str→Option Value)(x:Str)(a:Value)(y:Str):Option Value:=if y=x then some a else m y
theorem Fm.put(F:Fm N w ω P L nms st h)(hnd:nms.nms.Nodup){i:Nat}{x:Str}{c:Cell}{a:Value}{o:Option Addr}(hx:nms.nms[i]?=some x)(hcl:nms.sc.names.lookup x=some .local)(hv:CRel N w h' o c (some a))(hs:Heap.SameBut L.a h h')(hn:h'.Ns L.a (om L.m x a))
  (ho:∀b,o=some b→(w.G b=none∧P b=none∧(∀l b',w.ρ l=some b'→b'≠b)∧b≠L.a)∧(∀j,ω j≠some b)∧(h'.get? b).isSome=true):Fm N w (i9 ω i o) P (L.wm (om L.m x a)) nms {st with vars:=eg st.vars i c} h':=by
 have k:∀b,b≠L.a→h'.get? b=h.get? b:=hs.2
 have cs:∀{j b},i9 ω i o j=some b→(j=i∧o=some b)∨(j≠i∧ω j=some b):=λ{j b} e=>by
  unfold i9 at e;by_cases q:j=i
  ·rw[cw q] at e;exact .inl ⟨q,e⟩
  ·rw[bL q] at e;exact .inr ⟨q,e⟩
 refine⟨F.sh.other hs F.LG F.LP F.Lρ,F.LG,F.LP,F.Lρ,hn,λj y c' e1 e2=>?_,λj b e=>?_,λj j' b e e'=>?_,λj b e=>?_,F.cel,F.clk⟩
 ·show CRel N w h' (i9 ω i o j) c' (bif (L.cl.lookup y).isSome then L.cv y else om L.m x a y)
  unfold i9 om;rcases fU e2 with ⟨q,rfl⟩ | ⟨q,e2⟩
  ·subst q
   rw[F.clk _ _ e1,hZ (ay (hx.symm.trans e1)▸hcl),cond_false];rw[hx] at e1;rw[cw rfl,cw (ay e1).symm];exact hv
  ·have ne:¬y=x:=λz=>q (h9 hnd hx (z▸e1))
   rw[bL (Ne.symm q),bL ne];exact((F.vs j y c' e1 e2:CRel N w h (ω j) c' (bif (L.cl.lookup y).isSome then L.cv y else L.m y))).mono (.refl w) λb o e3 e4=>(k b (F.ωG j b e3).2.2.2).trans e4
 ·rcases cs e with ⟨_,q⟩ | ⟨_,q⟩
  ·exact(ho b q).1
  ·exact F.ωG j b q
 ·rcases cs e with ⟨q,z⟩ | ⟨_,z⟩<;>rcases cs e' with ⟨q',z'⟩ | ⟨_,z'⟩
  ·exact q.trans q'.symm
  ·exact absurd z' ((ho b z).2.1 j')
  ·exact absurd z ((ho b z').2.1 j)
  ·exact F.ωi j j' b z z'
 ·rcases cs e with ⟨_,q⟩ | ⟨_,q⟩
  ·exact(ho b q).2.2
  ·rw[k b (F.ωG j b q).2.2.2];exact F.ωo j b q
theorem Fm.store(F:Fm N w ω P L nms st h)(hnd:nms.nms.Nodup){i:Nat}{x:Str}{v:MV}{a:Value}(hx:nms.nms[i]?=some x)(hcl:nms.sc.names.lookup x=some .local)(hv:VRel N w v a)(hs:Heap.SameBut L.a h h')(hn:h'.Ns L.a (om L.m x a)) :
  Fm N w (i9 ω i none) P (L.wm (om L.m x a)) nms (aJ st i v) h':=F.put hnd hx hcl ⟨a,rfl,hv⟩ hs hn nofun
theorem Fm.storeOwn(F:Fm N w ω P L nms st h)(hnd:nms.nms.Nodup){i:Nat}{x:Str}{vs:List MV}{vals:List Value}{n:Nat}{a:Addr}(hx:nms.nms[i]?=some x)(hcl:nms.sc.names.lookup x=some .local)(hv:VRels N w vs vals)
  (hl:vals.length≤ak) (ho:h.get? a=some (listOf vals.toArray n)) (f:w.G a=none∧P a=none∧(∀l b,w.ρ l=some b→b≠a)∧a≠L.a) (f5:∀j,ω j≠some a) (hs:Heap.SameBut L.a h h')
  (hn:h'.Ns L.a (om L.m x (.ref a))):Fm N w (i9 ω i (some a)) P (L.wm (om L.m x (.ref a))) nms {st with vars:=eg st.vars i (.own vs)} h':=
 have ho':=(hs.2 a f.2.2.2).trans ho
 F.put hnd hx hcl (OwnR.mk hl rfl ho' hv) hs hn λb e=>ay e▸⟨f,f5,by rw[ho'];rfl⟩
theorem Fm.setOwn(F:Fm N w ω P L nms st h){i:Nat}{vs':List MV}{vals:List Value}{n:Nat}{a:Addr}(hi:ω i=some a)(hl:vals.length≤ak)(hv:VRels N w vs' vals)(hs:Heap.SameBut a h h')
  (ho:h'.get? a=some (listOf vals.toArray n)) (hm:∀x,nms.nms[i]?=some x→L.val x=some (.ref a)) :
  Fm N w ω P L nms {st with vars:=eg st.vars i (.own vs')} h':=by
 obtain⟨g1,g2,g3,g4⟩:=F.ωG i a hi;have k:∀b,b≠a→h'.get? b=h.get? b:=hs.2;refine⟨F.sh.other hs g1 g2 g3,F.LG,F.LP,F.Lρ,?_,λj y c e1 e2=>?_,F.ωG,F.ωi,λj b e=>?_,F.cel,F.clk⟩
 ·obtain⟨o,es,ep,h1,h2⟩:=F.ns
  exact⟨o,es,ep,(k L.a (Ne.symm g4)).trans h1,h2⟩
 ·have h3:=F.vs
  rcases fU e2 with ⟨q,rfl⟩ | ⟨q,e2⟩
  ·subst q
   rw[hm y e1];exact OwnR.mk hl hi ho hv
  ·exact(h3 j y c e1 e2).mono (.refl w) λb o e3 e4=>(k b λz=>q (F.ωi i j a hi (by rw[e3,z]))).trans e4
 ·by_cases q:b=a
  ·subst q;rw[ho];rfl
  ·rw[k b q];exact F.ωo j b e
theorem Fm.freeze(F:Fm N w ω P L nms st h){i:Nat}{vs:List MV}{vals:List Value}{n:Nat}{a:Addr}(hi:ω i=some a)(hl:vals.length≤ak)(hv:VRels N w vs vals)(ho:h.get? a=some (listOf vals.toArray n))
  (hm:∀x,nms.nms[i]?=some x→L.val x=some (.ref a)) :
  w.Ext (w.add a (listOf vals.toArray n))∧VRel N (w.add a (listOf vals.toArray n)) (.lst vs) (.ref a) ∧
  Fm N (w.add a (listOf vals.toArray n)) (i9 ω i none) P L nms (aJ st i (.lst vs)) h:=by
 obtain⟨g1,g2,g3,g4⟩:=F.ωG i a hi;have x:=Wd.add_ext (o:=listOf vals.toArray n) g1;have V:VRel N (w.add a (listOf vals.toArray n)) (.lst vs) (.ref a):=.lst Wd.add_at ⟨hl,rfl,n,rfl⟩ (hv.mono x);have gne:∀b,b≠a→(w.add a (listOf vals.toArray n)).G b=w.G b:=λb q=>bL q
 have cs:∀{j b},i9 ω i none j=some b→j≠i∧ω j=some b:=λ{j b} e=>by
  unfold i9 at e;by_cases q:j=i
  ·rw[cw q] at e;exact aG e
  ·rw[bL q] at e;exact⟨q,e⟩
 refine⟨x,V,F.sh.add ho g1 g2 g3,(gne L.a (Ne.symm g4)).trans F.LG,F.LP,F.Lρ,F.ns,λj y c e1 e2=>?_,λj b e=>?_,λj j' b e e'=>F.ωi j j' b (cs e).2 (cs e').2,λj b e=>F.ωo j b (cs e).2,F.cel.mono x.G,F.clk⟩
 ·rcases fU e2 with ⟨q,rfl⟩ | ⟨q,e2⟩
  ·subst q
   exact⟨_,hm y e1,V⟩
  ·show CRel _ _ _ (i9 ω i none j) _ _
   unfold i9;rw[bL (Ne.symm q)];exact(F.vs j y c e1 e2).mono x λb o _ e4=>e4
 ·obtain⟨q,e⟩:=cs e
  exact⟨(gne b λz=>q (F.ωi j i a (z▸e) hi)).trans (F.ωG j b e).1,(F.ωG j b e).2⟩
open Classical in
noncomputable def gH(ω:Nat→Option Addr)(P:PMap)(L:FL)(h:Heap):PMap:=λa=>if a=L.a∨ ∃i,ω i=some a then h.get? a else P a
theorem guard_L:gH ω P L h L.a=h.get? L.a:=cw (.inl rfl)
theorem yj{i:Nat}{a:Addr}(e:ω i=some a):gH ω P L h a=h.get? a:=cw (.inr ⟨i,e⟩)
theorem Fm.guard_of(F:Fm N w ω P L nms st h){a:Addr}{o:Obj}(e:P a=some o):gH ω P L h a=some o:=by
 refine(bL ?_).trans e
 rintro (rfl | ⟨i,q⟩)
 ·rw[F.LP] at e;cases e
 ·rw[(F.ωG i a q).2.1] at e;cases e
theorem Fm.enter(F:Fm N w ω P L nms st h):Sh N w (gH ω P L h) st.sh h:=by
 have S:=F.sh;have none_of:∀a,a≠L.a→(∀i,ω i≠some a)→gH ω P L h a=P a:=λa q1 q2=>bL (by rintro (z | ⟨i,z⟩);exact q1 z;exact q2 i z)
 refine⟨S.base,S.frz,λa o e=>?_,λa o e=>?_,S.dom,S.inj,S.sepG,λl a e=>?_,S.cont⟩
 ·unfold gH at e
  split at e
  ·exact e
  ·exact S.prot a o e
 ·exact(none_of a (λz=>by rw[z,F.LG] at e;cases e) λi z=>by rw[(F.ωG i a z).1] at e;cases e).trans (S.dis a o e)
 ·exact(none_of a (F.Lρ l a e) λi z=>(F.ωG i a z).2.2.1 l a e rfl).trans (S.sepP l a e)
theorem Fm.back(F:Fm N w ω P L nms st h){sh':Sto}(x:w.Ext w')(S:Sh N w' (gH ω P L h) sh' h'):Fm N w' ω P L nms {st with sh:=sh'} h':=by
 obtain⟨oL,hL⟩:=F.Lsome;have gL:gH ω P L h L.a=some oL:=guard_L.trans hL
 have pn:∀a,gH ω P L h a=none→P a=none:=λa q=>by
  cases e:P a with
  |none=>rfl
  |some o=>rw[F.guard_of e] at q;cases q
 have gω:∀i a,ω i=some a→ ∃o,h.get? a=some o∧gH ω P L h a=some o:=λi a e=>by
  obtain⟨o,ho⟩:=qez.mp (F.ωo i a e);exact⟨o,ho,(yj e).trans ho⟩
 refine F.withSh x ⟨S.base,S.frz,λa o e=>S.prot a o (F.guard_of e),λa o e=>pn a (S.dis a o e),S.dom,S.inj,S.sepG,λl a e=>pn a (S.sepP l a e),S.cont⟩
  ((S.prot _ _ gL).trans hL.symm) (λi a e=>?_) ?_ (λl b e z=>?_) λi a e=>⟨?_,λl b e' z=>?_⟩
 ·obtain⟨o,ho,hg⟩:=gω i a e
  exact(S.prot _ _ hg).trans ho.symm
 ·cases q:w'.G L.a with
  |none=>rfl
  |some o=>rw[S.dis _ _ q] at gL;cases gL
 ·subst z;rw[S.sepP _ _ e] at gL;cases gL
 ·obtain⟨o,ho,hg⟩:=gω i a e
  cases q:w'.G a with
  |none=>rfl
  |some o=>rw[S.dis _ _ q] at hg;cases hg
 ·obtain⟨o,ho,hg⟩:=gω i a e
  subst z;rw[S.sepP _ _ e'] at hg;cases hg
end
open PySem PySem.W PyProof.Rows PySem.Builtin.Str
theorem ar:sizeLine=ak:=rfl
theorem bf{a b:Nat}(h:aS a b=true):a≤b:=kM h
theorem az(s:Tx):(aj s).length=s.length:=by show s.toArray.size=s.length;simp
theorem a8(s:Tx):(aj s).cps.toList=s:=by show s.toArray.toList=s;simp
theorem eo(a b:Tx):aj a++aj b=aj (a++b):=by
 show (⟨(aj a).cps++(aj b).cps⟩:Str)=⟨(a++b).toArray⟩;show (⟨a.toArray++b.toArray⟩:Str)=⟨(a++b).toArray⟩;rw[List.append_toArray]
theorem jV{a b:Tx}(h:aj a=aj b):a=b:=by
 have:=bJ (λs:Str=>s.cps.toList) h;simpa [a8] using this
theorem lS:∀a b:Tx,vi a b=decide (a<b)
 |[],[]=>by simp [vi]
 |[],_::_=>by simp [vi]
 |_::_,[]=>by simp [vi]
 |a::r,b::q=>by
  unfold vi;rw[lS r q];by_cases h:a<b
  ·rw[cw h];symm;rw[decide_eq_true_eq];exact List.Lex.rel h
  ·rw[bL h]
   by_cases h':b<a
   ·rw[cw h'];symm;rw[decide_eq_false_iff_not]
    intro x;rw[List.cons_lt_cons_iff] at x;rcases x with x | ⟨x,_⟩
    ·exact h x
    ·omega
   ·rw[bL h']
    have:a=b:=by omega
    subst this
    congr 1
    rw[List.cons_lt_cons_iff];simp
theorem kz(s:Tx):∀n,(dk s n).length=s.length*n
 |0=>rfl
 |n+1=>by show (s++dk s n).length=_;rw[a7,kz s n,Nat.mul_succ];omega
theorem bz{v:MV}{i:Int}(h:eC v=some i):v= .int i:=by cases v with | int j=>exact bJ MV.int (ay h) | _=>exact aG h
theorem bg{v:MV}{i:Tx}(h:cE v=some i):v= .str i:=by cases v with | str j=>exact bJ MV.str (ay h) | _=>exact aG h
theorem eL{v:MV}{i:Loc}(h:fH v=some i):v= .loc i:=by cases v with | loc j=>exact bJ MV.loc (ay h) | _=>exact aG h
theorem bT{v:MV}{i:List MV}(h:dH v=some i):v= .lst i:=by cases v with | lst j=>exact bJ MV.lst (ay h) | _=>exact aG h
theorem ji{v:MV}{i:List MV}(h:pK v=some i):v= .tup i:=by cases v with | tup j=>exact bJ MV.tup (ay h) | _=>exact aG h
theorem on{v:MV}{i:List (Tx×Tx)}(h:q7 v=some i):v= .sd i:=by cases v with | sd j=>exact bJ MV.sd (ay h) | _=>exact aG h
theorem vv{v:MV}{i:Nat}(h:vg v=some i):v= .cls i:=by cases v with | cls j=>exact bJ MV.cls (ay h) | _=>exact aG h
theorem jW{v:MV}{p:Nat×List MV}(h:gz v=some p):v= .inst p.1 p.2:=by cases v with | inst c fs=>exact bJ (λp:Nat×List MV=>MV.inst p.1 p.2) (ay h) | _=>exact aG h
theorem ud{v:MV}{p:Nat×Loc}(h:lM v=some p):v= .meth p.1 p.2:=by cases v with | meth c fs=>exact bJ (λp:Nat×Loc=>MV.meth p.1 p.2) (ay h) | _=>exact aG h
theorem jX{v:MV}(h:isNone v=true):v= .none:=by cases v with | none=>rfl | _=>exact aB h
section
variable {N:Nm}{w:Wd}{P:PMap}{prog:Program}{wd:World}{A:Around}{E:Value→Shared→Prop}{s:Shared}{sh:Sto}{v x:MV}{a b:Value}
theorem VRels.length_eq:∀{vs:List MV} {as:List Value},VRels N w vs as→vs.length=as.length:=λ{vs}=>by
 induction vs with
 |nil=>intro as h;exact h▸rfl
 |cons v vs ih=>intro as h;obtain⟨a,r,rfl,_,h⟩:=h.cons_inv;exact bJ (· + 1) (ih h)
theorem VRels.get{vs:List MV}:∀{as:List Value},VRels N w vs as→ ∀{i:Nat} {v:MV},vs[i]?=some v→ ∃a,as[i]?=some a∧VRel N w v a:=by
 induction vs with
 |nil=>intro as h i v e;exact aG e
 |cons v vs ih=>
  intro as h i u e;obtain⟨a,r,rfl,h1,h⟩:=h.cons_inv;cases i with
  |zero=>exact⟨a,rfl,ay e▸h1⟩
  |succ i=>exact ih h e
theorem VRels.getN{vs:List MV}{as:List Value}(h:VRels N w vs as){i:Nat}{v:MV}(e:c0 vs i=some v):∃a,as[i]?=some a∧VRel N w v a:=h.get ((bG vs i).symm.trans e)
theorem VRels.append{vs vs':List MV}{as':List Value}:∀{as:List Value},VRels N w vs as→VRels N w vs' as'→VRels N w (vs++vs') (as++as'):=by
 induction vs with
 |nil=>intro as h h';exact h▸h'
 |cons v vs ih=>intro as h h';obtain⟨a,r,rfl,h1,h⟩:=h.cons_inv;exact .cons h1 (ih h h')
theorem VRels.take{vs:List MV}:∀{as:List Value},VRels N w vs as→ ∀n,VRels N w (vs.take n) (as.take n):=by
 induction vs with
 |nil=>intro as h n;cases h;cases n<;>exact .nil
 |cons v vs ih=>intro as h n;obtain⟨a,r,rfl,h1,h⟩:=h.cons_inv;cases n with | zero=>exact .nil | succ n=>exact .cons h1 (ih h n)
theorem VRels.drop{vs:List MV}:∀{as:List Value},VRels N w vs as→ ∀n,VRels N w (vs.drop n) (as.drop n):=by
 induction vs with
 |nil=>intro as h n;cases h;cases n<;>exact .nil
 |cons v vs ih=>intro as h n;obtain⟨a,r,rfl,h1,h⟩:=h.cons_inv;cases n with | zero=>exact .cons h1 h | succ n=>exact ih h n
inductive LstAt (N:Nm) (w:Wd) (h:Heap) (vs:List MV):Value→Prop
 |mk {q:Addr} {vals:List Value} (hl:h.IsList q vals.toArray) (hr:VRels N w vs vals) (hn:vals.length≤ak):LstAt N w h vs (.ref q)
theorem fV(S:Sh N w P sh s.heap){vs:List MV}(h:VRel N w (.lst vs) a):LstAt N w s.heap vs a:=(VRel.lst_eq.mp h).elim λvals h=>by
 obtain⟨hr,⟨hq,hl,h1,n,h2⟩⟩:=h;exact⟨⟨_,S.frz _ _ hq,h1,n,h2⟩,hr,hl⟩
inductive TupAt (N:Nm) (w:Wd) (h:Heap) (vs:List MV):Value→Prop
 |mk {q:Addr} {o:Obj} {vals:List Value} {n:Nat} (hq:h.get? q=some o) (hc:o.cls= .type "tuple") (hd:o.data= .seq vals.toArray n) (hr:VRels N w vs vals) (hn:vals.length≤ak):TupAt N w h vs (.ref q)
theorem oo(S:Sh N w P sh s.heap){vs:List MV}(h:VRel N w (.tup vs) a):TupAt N w s.heap vs a:=(VRel.tup_eq.mp h).elim λvals h=>by
 obtain⟨hr,⟨hq,hl,h1,n,h2⟩⟩:=h;exact⟨S.frz _ _ hq,h1,h2,hr,hl⟩
theorem np{l:Loc}{vs:List MV}{o:Obj}(e:ap sh l=some vs)(h:Cont N w sh l o):ListR N w (some vs) o:=by
 cases l with
 |em | emD | tmp | tmpD=>exact aG e
 |states=>exact(e▸(h:ListR N w (ap sh .states) o))
 |events=>exact(e▸(h:ListR N w (ap sh .events) o))
 |indents=>exact(e▸(h:ListR N w (ap sh .indents) o))
 |rows=>exact(e▸(h:ListR N w (ap sh .rows) o))
 |tape=>exact(e▸(h:ListR N w (ap sh .tape) o))
 |due=>exact(e▸(h:ListR N w (ap sh .due) o))
inductive SlotL (N:Nm) (w:Wd) (h:Heap) (l:Loc) (vs:List MV):Value→Prop
 |mk {q:Addr} {vals:List Value} {n:Nat} (hρ:w.ρ l=some q) (hq:h.get? q=some (listOf vals.toArray n)) (hr:VRels N w vs vals) (hn:vals.length≤ak):SlotL N w h l vs (.ref q)
theorem sJ(S:Sh N w P sh s.heap){l:Loc}{vs:List MV}(e:ap sh l=some vs)(h:VRel N w (.loc l) a):SlotL N w s.heap l vs a:=by
 obtain⟨q,hl,rfl⟩:=h.loc_inv;obtain⟨o,h1,h2⟩:=S.cont _ _ hl;cases np e h2 with
 |mk he hn hr=>exact⟨hl,h1,ay he▸hr,hn⟩
theorem oq{h:Heap}{q:Addr}{vals:List Value}{n:Nat}(e:h.get? q=some (listOf vals.toArray n)):h.IsList q vals.toArray:=⟨_,e,rfl,n,rfl⟩
theorem gI(S:Sh N w P sh s.heap){vs:List MV}(e:items sh v=some vs)(h:VRel N w v a):LstAt N w s.heap vs a:=
 pP e (λe=>fV S (bT e▸h)) λe=>ad e λl e1 e2=>by
  cases sJ S e2 (eL e1▸h:VRel N w (.loc l) a) with
  |mk _ hq hr hn=>exact⟨oq hq,hr,hn⟩
theorem lT{n:Nat}(h:n≤ak):(n:Int)<9223372036854775808:=by unfold ak at h;omega
theorem lU{vs:List MV}{Q:Bool→Shared→Prop}(h:LstAt N w s.heap vs a)(k:∀tk,Q (!vs.isEmpty) {s with toks:=tk}):wpAny (model prog wd) A (PySem.truthy a) Q E s:=by
 cases h with
 |@mk q vals hl hr hn=>
  refine wpAny_truthy_list hl (by rw[nk];exact lT hn) ?_
  have:vals.toArray.isEmpty=vs.isEmpty:=by
   have:=hr.length_eq;cases vs<;>cases vals<;>first | rfl | (exact absurd this (by simp))
  rw[this];exact k _
theorem jY{r:Bool}{Q:Bool→Shared→Prop}(S:Sh N w P sh s.heap)(h:VRel N w v a)(e:Mine.truthy sh v=some r)(k:∀tk,Q r {s with toks:=tk}):wpAny (model prog wd) A (PySem.truthy a) Q E s:=by
 cases v with
 |none=>obtain rfl:=ay e;obtain rfl:=h;exact truthy_none (k s.toks)
 |bool c=>obtain rfl:=ay e;obtain rfl:=h;exact wpAny_truthy_bool (k s.toks)
 |int i=>
  obtain⟨t,rfl⟩:=h.int_inv;refine truthy_int ?_;have:(i != 0)= !aI i 0:=by unfold aI;by_cases q:i=0<;>simp [q]
  obtain rfl:=ay e;rw[this];exact k s.toks
 |str x=>
  obtain⟨hs,t,rfl⟩:=h.str_inv;refine SBL.truthy (by rw[az];exact lT hs) ?_
  have:(((aj x).length:Int) != 0)= !x.isEmpty:=by
   rw[az];cases x with
   |nil=>rfl
   |cons c r=>simp only [List.length_cons,List.isEmpty_cons,Bool.not_false,bne_iff_ne,ne_eq];omega
  obtain rfl:=ay e;rw[this];exact k _
 |lst vs=>obtain rfl:=ay e;exact lU (fV S h) k
 |tup vs=>
  obtain rfl:=ay e;cases oo S h with
  |@mk q o vals n hq hc hd hr hn=>
   refine truthy_tuple ⟨o,hq,hc,n,hd⟩ (by rw[nk];exact lT hn) ?_
   have:vals.toArray.isEmpty=vs.isEmpty:=by
    have:=hr.length_eq;cases vs<;>cases vals<;>first | rfl | (exact absurd this (by simp))
   rw[this];exact k _
 |loc l=>exact bH (e:(ap sh l).map _=_) λvs h1 h2=>lU (gI S (sh:=sh) (v:=.loc l) (by exact h1) h) λtk=>h2▸k tk
 |_=>exact aG e
theorem sK(a b:Tx):(aj a==aj b)=eqX a b:=by
 unfold eqX;by_cases q:a=b
 ·subst q;simp
 ·rw[decide_eq_false q,beq_eq_false_iff_ne]
  exact λz=>q (jV z)
theorem ll(i j:Int):(i==j)=aI i j:=by unfold aI;by_cases q:i=j<;>simp [q]
inductive Int2 {α:Type} (f:Int→Int→α):MV→MV→Value→Value→α→Prop
 |mk (i j:Int) (t u:Tok):Int2 f (.int i) (.int j) (.int i t) (.int j u) (f i j)
theorem lm{α:Type}{f:Int→Int→α}{r:α}(h:VRel N w v a)(h':VRel N w x b)(e:jc f v x=some r):Int2 f v x a b r:=ad e λi e1 e=>bH e λj e2 e3=>by
 obtain⟨t,rfl⟩:=(bz e1▸h:VRel N w (.int i) a).int_inv;obtain⟨u,rfl⟩:=(bz e2▸h':VRel N w (.int j) b).int_inv;rw[bz e1,bz e2,← e3];exact⟨i,j,t,u⟩
inductive Str2 {α:Type} (f:Tx→Tx→α):MV→MV→Value→Value→α→Prop
 |mk (i j:Tx) (t u:Tok) (h:i.length≤ak) (h':j.length≤ak):Str2 f (.str i) (.str j) (.str (aj i) t) (.str (aj j) u) (f i j)
theorem lp{α:Type}{f:Tx→Tx→α}{r:α}(h:VRel N w v a)(h':VRel N w x b)(e:pL f v x=some r):Str2 f v x a b r:=ad e λi e1 e=>bH e λj e2 e3=>by
 obtain⟨k,t,rfl⟩:=(bg e1▸h:VRel N w (.str i) a).str_inv;obtain⟨k',u,rfl⟩:=(bg e2▸h':VRel N w (.str j) b).str_inv;rw[bg e1,bg e2,← e3];exact⟨i,j,t,u,k,k'⟩
inductive StrInt {α:Type} (f:Tx→Int→α):MV→MV→Value→Value→α→Prop
 |mk (i:Tx) (j:Int) (t u:Tok) (h:i.length≤ak):StrInt f (.str i) (.int j) (.str (aj i) t) (.int j u) (f i j)
theorem ue{α:Type}{f:Tx→Int→α}{r:α}(h:VRel N w v a)(h':VRel N w x b)(e:nZ f v x=some r):StrInt f v x a b r:=ad e λi e1 e=>bH e λj e2 e3=>by
 obtain⟨k,t,rfl⟩:=(bg e1▸h:VRel N w (.str i) a).str_inv;obtain⟨u,rfl⟩:=(bz e2▸h':VRel N w (.int j) b).int_inv;rw[bg e1,bz e2,← e3];exact⟨i,j,t,u,k⟩
inductive Three:MV→Value→Prop
 |none:Three .none .none
 |int (i:Int) (t:Tok):Three (.int i) (.int i t)
 |str (s:Tx) (t:Tok):Three (.str s) (.str (aj s) t)
theorem jj(h:VRel N w v a)(e:GU v=true):Three v a:=by
 cases v with
 |none=>exact h▸ .none
 |int i=>obtain⟨t,rfl⟩:=h.int_inv;exact .int i t
 |str s=>obtain⟨_,t,rfl⟩:=h.str_inv;exact .str s t
 |_=>exact aB e
noncomputable def jk(a b:Value):Bool:=match a,b with
 |.none,.none=>true
 |.int i _,.int j _=>i==j
 |.str a _,.str b _=>a==b
 |_,_=>false
theorem yk{r:Bool}(h:VRel N w v a)(h':VRel N w x b)(e:Ge v x=some r):jk a b=r∧SeqAt.EqAt A s a b r:=by
 obtain⟨e1,e⟩:=mZ e;have h1:=jj h (ab e1);have h2:=jj h' (aa e1);cases h1 with
 |none=>cases h2 with
  |none=>obtain rfl:=ay e;exact⟨rfl,SeqAt.EqAt.same _⟩
  |int i t=>obtain rfl:=ay e;exact⟨rfl,SeqAt.EqAt.none_int _ _⟩
  |str y t=>obtain rfl:=ay e;exact⟨rfl,SeqAt.EqAt.none_str _ _⟩
 |int i t=>cases h2 with
  |none=>obtain rfl:=ay e;exact⟨rfl,SeqAt.EqAt.int_none _ _⟩
  |int j t=>obtain rfl:=ay e;exact⟨ll i j,(ll i j▸SeqAt.EqAt.int_int i _ j _:SeqAt.EqAt A s _ _ (aI i j))⟩
  |str y t=>exact aG e
 |str y t=>cases h2 with
  |none=>obtain rfl:=ay e;exact⟨rfl,SeqAt.EqAt.str_none _ _⟩
  |int j t=>exact aG e
  |str z t=>obtain rfl:=ay e;exact⟨sK y z,(sK y z▸SeqAt.EqAt.str_str (aj y) _ (aj z) _:SeqAt.EqAt A s _ _ (eqX y z))⟩
theorem Be(h':VRel N w x b){vs:List MV}:∀{vals:List Value} {r:Bool},VRels N w vs vals→JZ x vs=some r→(∀y,y∈vals→SeqAt.EqAt A s y b (jk y b))∧vals.any (jk · b)=r:=by
 induction vs with
 |nil=>intro vals r h e;cases h;obtain rfl:=ay e;exact⟨λy m=>absurd m nX,rfl⟩
 |cons v vs ih=>
  intro vals r h e;obtain⟨a,as,rfl,h,t⟩:=h.cons_inv;refine ad e λc h1 e=>bH e λd h3 h4=>?_;obtain⟨k1,k2⟩:=yk (A:=A) (s:=s) h h' h1;obtain⟨k3,k4⟩:=ih t h3;refine⟨λy m=>?_,by rw[List.any_cons,k1,k4,h4]⟩
  rcases qkz.mp m with rfl | m
  ·rw[k1];exact k2
  ·exact k3 y m
noncomputable def kB:Cop→CmpOp
 |.eq=>.Eq | .ne=>.NotEq | .lt=>.Lt | .le=>.LtE | .gt=>.Gt | .ge=>.GtE | .is=>.Is | .isNot=>.IsNot | .inn=>.In | .notIn=>.NotIn
noncomputable def nq:Bop→Operator
 |.add=>.Add | .sub=>.Sub | .mul=>.Mult | .fdiv=>.FloorDiv | .mod=>.Mod
variable {r:Bool}{Q:Value→Shared→Prop}
theorem sL(y z:Tx):(y==z)=eqX y z:=by unfold eqX;by_cases q:y=z<;>simp [q]
theorem D4(h:VRel N w v a)(h':VRel N w x b)(e:Ge v x=some r)(k:Q (.bool r) s):wpAny (model prog wd) A (compareOp .Eq a b) Q E s:=by
 obtain⟨e1,e⟩:=mZ e;have h1:=jj h (ab e1);have h2:=jj h' (aa e1);cases h1 with
 |none=>cases h2 with
  |none=>obtain rfl:=ay e;exact EqNone.eq_none_none k
  |int i t=>obtain rfl:=ay e;exact EqNone.eq_none_int k
  |str y t=>obtain rfl:=ay e;exact EqNone.eq_none_str k
 |int i t=>cases h2 with
  |none=>obtain rfl:=ay e;exact EqNone.eq_int_none k
  |int j t=>obtain rfl:=ay e;exact PySem.P.eq_int (ll i j▸k)
  |str y t=>exact aG e
 |str y t=>cases h2 with
  |none=>obtain rfl:=ay e;exact EqNone.eq_str_none k
  |int j t=>exact aG e
  |str z t=>obtain rfl:=ay e;exact PySem.P.eq_str (by rw[a8,a8];exact sL y z▸k)
theorem lV{f:Int→Int→Bool}{g:Tx→Tx→Bool}{op:CmpOp}(h:VRel N w v a)(h':VRel N w x b)(e:DB f g v x=some r)(k:Q (.bool r) s)
  (kf:∀i j t u,Q (.bool (f i j)) s→wpAny (model prog wd) A (compareOp op (.int i t) (.int j u)) Q E s)
  (kg:∀i j t u,Q (.bool (g i j)) s→wpAny (model prog wd) A (compareOp op (.str (aj i) t) (.str (aj j) u)) Q E s):wpAny (model prog wd) A (compareOp op a b) Q E s:=
 pP e (λe=>by cases lm h h' e with | mk i j t u=>exact kf i j t u k) λe=>by cases lp h h' e with | mk i j t u=>exact kg i j t u k
theorem vw(h:VRel N w v a)(h':VRel N w x b)(e:GV v x=some r):b= .none∧(a== .none)=r∧plainIs a .none=true:=by
 obtain⟨e1,e⟩:=mZ e;have hx:=jX (ab e1);subst hx;refine⟨h',?_⟩;have hb:=aa e1;cases v with
 |none=>obtain rfl:=ay e;obtain rfl:=h;exact⟨rfl,rfl⟩
 |bool b=>obtain rfl:=ay e;obtain rfl:=h;exact⟨rfl,rfl⟩
 |int i=>obtain⟨t,rfl⟩:=h.int_inv;obtain rfl:=ay e;exact⟨rfl,rfl⟩
 |str i=>obtain⟨_,t,rfl⟩:=h.str_inv;obtain rfl:=ay e;exact⟨rfl,rfl⟩
 |loc i=>obtain⟨t,_,rfl⟩:=h.loc_inv;obtain rfl:=ay e;exact⟨rfl,rfl⟩
 |fn f=>obtain rfl:=ay e;obtain rfl:=h;exact⟨rfl,rfl⟩
 |cls f=>obtain rfl:=ay e;obtain rfl:=h;exact⟨rfl,rfl⟩
 |bi b=>exact aB hb
 |meth f l=>cases (h:MethR N w f l a);obtain rfl:=ay e;exact⟨rfl,rfl⟩
 |inst c fs=>obtain⟨_,_,⟨_⟩⟩:=VRel.inst_eq.mp h;obtain rfl:=ay e;exact⟨rfl,rfl⟩
 |lst vs=>obtain⟨_,_,⟨_⟩⟩:=VRel.lst_eq.mp h;obtain rfl:=ay e;exact⟨rfl,rfl⟩
 |tup vs=>obtain⟨_,_,⟨_⟩⟩:=VRel.tup_eq.mp h;obtain rfl:=ay e;exact⟨rfl,rfl⟩
 |sd kvs=>cases (h:SdR N w kvs a);obtain rfl:=ay e;exact⟨rfl,rfl⟩
inductive InW (N:Nm) (w:Wd) (h:Heap) (A:Around) (s:Shared) (r:Bool):Value→Value→Prop
 |str {c:Nat} {y:Tx} {t u:Tok} (e:y.contains c=r):InW N w h A s r (.str (aj [c]) t) (.str (aj y) u)
 |lst {a:Value} {q:Addr} {vals:List Value} (hl:h.IsList q vals.toArray) (k1:∀y,y∈vals.toArray→SeqAt.EqAt A.in1 s y a (jk y a)) (k2:vals.toArray.any (jk · a)=r):InW N w h A s r a (.ref q)
theorem Bf(S:Sh N w P sh s.heap)(h:VRel N w v a)(h':VRel N w x b)(e:Gf v x=some r):InW N w s.heap A s r a b:=
 pP e (λe=>ad e λy e1 e=>ad e λc e2 e=>bH e λz e3 e4=>by
  rw[gC e2] at e1;obtain⟨_,t,rfl⟩:=(bg e1▸h:VRel N w (.str [c]) a).str_inv;obtain⟨_,u,rfl⟩:=(bg e3▸h':VRel N w (.str z) b).str_inv;exact .str e4) λe=>ad e λvs e1 e=>by
  cases fV S (bT e1▸h') with
  |mk hl hr _=>
   obtain⟨k1,k2⟩:=Be (A:=A.in1) (s:=s) h hr e;exact .lst hl (λy m=>k1 y (List.mem_toArray.mp m)) (by rw[← Array.any_toList];exact k2)
theorem z9{op:CmpOp}{g:Bool→Bool}(S:Sh N w P sh s.heap)(h:VRel N w v a)(h':VRel N w x b)(e:Gf v x=some r)(k:Q (.bool (g r)) s)
  (ks:∀c y t u,Q (.bool (g (y.contains c))) s→wpAny (model prog wd) A (compareOp op (.str (aj [c]) t) (.str (aj y) u)) Q E s)
  (kl:∀a q vals,s.heap.IsList q vals→(∀y,y∈vals→SeqAt.EqAt A.in1 s y a (jk y a))→Q (.bool (g (vals.any (jk · a)))) s→wpAny (model prog wd) A (compareOp op a (.ref q)) Q E s):wpAny (model prog wd) A (compareOp op a b) Q E s:=by
 cases Bf (A:=A) S h h' e with
 |str e=>exact ks _ _ _ _ (e▸k)
 |lst hl k1 k2=>exact kl _ _ _ hl k1 (k2▸k)
theorem vy{α:Type}[BEq α]{f:α→α→Bool}(h:∀i j:α,(i==j)=f i j)(i j:α):(i != j)= !f i j:=bJ (!·) (h i j)
theorem Aa(c:Nat)(y:Tx):(!(occurrences (aj y) (aj [c]) 0 (aj y).length 1).isEmpty)=y.contains c:=by
 show (!(occurrences _ ⟨#[_]⟩ 0 _ 1).isEmpty)=_;rw[StrLaws.found_one,a8,← List.elem_eq_mem]
theorem ou{op:Cop}(S:Sh N w P sh s.heap)(h:VRel N w v a)(h':VRel N w x b)(e:kt op v x=some r)(k:Q (.bool r) s):wpAny (model prog wd) A (compareOp (kB op) a b) Q E s:=by
 cases op with
 |eq=>exact D4 h h' e k
 |ne=>exact lV h h' e k (λi j t u q=>PySem.P.ne_int ((vy ll i j)▸q)) λi j t u q=>PySem.P.ne_str (by rw[a8,a8];exact(vy sL i j)▸q)
 |lt=>exact lV h h' e k (λi j t u q=>PySem.P.lt_int q) λi j t u q=>PySem.P.lt_str (by rw[a8,a8,← lS];exact q)
 |le=>exact lV h h' e k (λi j t u q=>PySem.P.le_int q) λi j t u q=>PySem.P.le_str (by rw[a8,a8,← lS];exact q)
 |gt=>exact lV h h' e k (λi j t u q=>PySem.P.gt_int q) λi j t u q=>PySem.P.gt_str (by rw[a8,a8,← lS];exact q)
 |ge=>exact lV h h' e k (λi j t u q=>PySem.P.ge_int q) λi j t u q=>PySem.P.ge_str (by rw[a8,a8,← lS];exact q)
 |is=>
  obtain⟨rfl,h1,h2⟩:=vw h h' e;exact wpAny_is_plain h2 (h1▸k)
 |isNot=>
  refine bH e λq e1 e2=>?_;obtain⟨rfl,h1,h2⟩:=vw h h' e1;subst e2;exact wpAny_isNot_plain h2 (h1▸k)
 |inn=>exact z9 (g:=id) S h h' e k (λc y t u q=>PySem.P.in_str (Aa c y▸q)) λa q vals hl k1 k=>SeqAt.in_listAt (jk · a) hl k1 k
 |notIn=>exact bH e λq e1 e2=>z9 (g:=not) S h h' e1 (e2▸k) (λc y t u q=>PySem.P.notIn_str (Aa c y▸q)) λa q vals hl k1 k=>SeqAt.notIn_listAt (jk · a) hl k1 k
end
theorem sM:∀(n:Nat) (x:Tx) (acc:Array Nat),(List.replicate n x.toArray).foldl (· ++ ·) acc=acc++(dk x n).toArray
 |0,x,acc=>by simp [dk]
 |n+1,x,acc=>by
  rw[List.replicate_succ,List.foldl_cons,sM n x];show acc++x.toArray++(dk x n).toArray=acc++(x++dk x n).toArray;rw[← List.append_toArray,Array.append_assoc]
theorem yl(x:Tx)(n:Int):Txt.mul (aj x) n=aj (dk x n.toNat):=by
 unfold Txt.mul;split
 ·rename_i h
  have:n.toNat=0:=by omega
  rw[this];rfl
 ·rename_i h
  split
  ·rename_i h2
   rcases qxz.mp h2 with q | q
   ·have:n=1:=by simpa using q
    subst this;show aj x=aj (x++[]);rw[fw]
   ·have:x=[]:=by
     rw[az] at q;exact xT (by simpa using q)
    subst this;have:∀k,dk ([]:Tx) k=[]:=by intro k;induction k with | zero=>rfl | succ k ih=>show []++dk [] k=[];rw[ih];rfl
    rw[this]
  ·show (⟨(List.replicate n.toNat x.toArray).foldl (· ++ ·) #[]⟩:Str)=aj (dk x n.toNat)
   rw[sM];simp [aj]
section
variable {N:Nm}{w:Wd}{prog:Program}{wd:World}{A:Around}{E:Value→Shared→Prop}{s:Shared}{v x:MV}{a b:Value}
theorem vz{x:Tx}{n:Int}(k1:x.length*n.toNat≤ak)(k2:n.natAbs≤ak)(hs:x.length≤ak):¬n<1→((aj x).length:Int)≤(2 ^ 63-1) / n:=λh1=>by
 rw[az]
 have h3:(ak:Int)≤(2 ^ 63-1) / n:=by
  refine(Int.le_ediv_iff_mul_le (by omega)).mpr ?_
  have:n≤16777216:=by unfold ak at k2;omega
  have h4:(ak:Int)*n≤ak*16777216:=Int.mul_le_mul_of_nonneg_left this (by unfold ak;omega)
  unfold ak at h4 ⊢;omega
 unfold ak at h3;unfold ak at hs;omega
noncomputable abbrev vA(N:Nm)(w:Wd)(s:Shared)(r:MV)(Q:Value→Shared→Prop):Prop:=∀c tk,VRel N w r c→Q c {s with toks:=tk}
variable {r:MV}{Q:Value→Shared→Prop}
theorem ym(h:VRel N w v a)(h':VRel N w x b)(hk:eE .add v x=true)(e:pL (λs t=>.str (s++t)) v x=some r)(k:vA N w s r Q):wpAny (model prog wd) A (binaryOp .Add a b) Q E s:=by
 have H:=lp h h' e;clear h h' e;cases H with | mk i j t u _ _=>
 have k1:=bf hk;refine SB.add (λt' tk=>?_) (by rw[az,az];exact k1)
 rw[eo];exact k _ _ (.str _ (by rw[a7];exact k1))
theorem yn(h:VRel N w v a)(h':VRel N w x b)(hk:eE .mul v x=true)(e:nZ (λs j=>.str (dk s j.toNat)) v x=some r)(k:vA N w s r Q):wpAny (model prog wd) A (binaryOp .Mult a b) Q E s:=by
 have H:=ue h h' e;clear h h' e;cases H with | mk x n t u hs=>
 have k1:=bf (ab hk);have k2:=bf (aa hk);refine SB.mul ⟨?_,λh1 _=>Int.not_lt.mpr (vz k1 k2 hs h1),λh1 _=>?_⟩ (λt' tk=>?_)
 ·unfold ak at k2;simp;omega
 ·rw[az]
  show decide (_ > sizeLine)=false;rw[decide_eq_false_iff_not,ar];omega
 ·rw[yl];exact k _ _ (.str _ (by rw[kz];exact k1))
theorem jm{op:Operator}{f:Int→Int→Int}(h:VRel N w v a)(h':VRel N w x b)(e:jc (λi j=>.int (f i j)) v x=some r)(k:vA N w s r Q)
  (g:∀i j t u,v= .int i→x= .int j→(∀t tk,Q (.int (f i j) t) {s with toks:=tk})→wpAny (model prog wd) A (binaryOp op (.int i t) (.int j u)) Q E s):wpAny (model prog wd) A (binaryOp op a b) Q E s:=by
 have H:=lm h h' e;clear h h' e;cases H with | mk i j t u=>exact g i j t u rfl rfl λt tk=>k _ tk (.int _ _)
theorem Bg{op:Bop}(h:VRel N w v a)(h':VRel N w x b)(hk:eE op v x=true)(e:ix op v x=some r)(hl:dH v=none)(k:vA N w s r Q):wpAny (model prog wd) A (binaryOp (nq op) a b) Q E s:=by
 cases op with
 |add=>exact pP e (λe=>jm h h' e k λi j t u _ _ k=>PySem.P.add_int (k _ _)) λe=>pP e (λe=>ym h h' hk e k) λe=>ad e λvs e _=>aG (hl.symm.trans e)
 |sub=>exact jm h h' e k λi j t u _ _ k=>PySem.P.sub_int (k _ _)
 |mul=>
  refine pP e (λe=>jm h h' e k λi j t u e1 e2 k=>?_) λe=>yn h h' hk e k;have k1:=kM (ab ((e1▸e2▸hk:eE .mul (.int i) (.int j)=true):z3 i j=true));exact PySem.P.mul_int (k _ _) (IntMulOk.of_left (intBits_le_64 (by omega) (by omega)))
 |fdiv=>
  refine jm h h' e k λi j t u e1 e2 k=>?_;have hk:(aS _ _&&aS _ _)=true:=(e1▸e2▸hk:eE .fdiv (.int i) (.int j)=true);have k1:=bf (ab hk);have k2:=bf (aa hk);exact floordiv_int (by omega) (k _ _) (.inl (PyProof.noPylong_small (by omega)))
 |mod=>
  refine jm h h' e k λi j t u e1 e2 k=>?_;have k1:=bf (e1▸e2▸hk:eE .mod (.int i) (.int j)=true);exact mod_int' (by omega) (k _ _)
end
open PySem PySem.W PyProof.Rows
structure Cx where
 N:Nm
 prog:Program
 wd:World
 K:Frag
 mg:Str→Option Value
 mb:Str→Option Value
 p:Program
 loose:List Str
 gnm:Nat→Str
noncomputable section
noncomputable def dE:Expr:=.Constant .none 0 ⟨0,0,0,0⟩
noncomputable def cP(t:Expr):List Expr:=Expr.casesOn (motive_1:=λ_=>List Expr) t (λop vs p=>vs) (λ_ _ _=>[]) (λl op r p=>[l,r]) (λop e p=>[e]) (λ_ _ _ _=>[]) (λt a b p=>[t,a,b]) (λks vs p=>vs) (λ_ _ _=>[]) (λe g s p=>[e]) (λ_ _ _ _=>[]) (λ_ _ _ _ _=>[]) (λ_ _ _ _=>[]) (λ_ _=>[]) (λ_ _=>[]) (λ_ _=>[]) (λl ops rs p=>l::rs) (λf as ks p=>f::as) (λe c fs p=>[e]) (λvs p=>vs) (λ_ _ _=>[]) (λe a p=>[e]) (λe s p=>[e,s]) (λ_ _=>[]) (λ_ _=>[]) (λvs p=>vs) (λvs k p=>vs) (λlo hi st p=>[lo.getD dE,hi.getD dE])
noncomputable def pV(t:Expr):List Keyword:=Expr.casesOn (motive_1:=λ_=>List Keyword) t (λ_ _ _=>[]) (λ_ _ _=>[]) (λ_ _ _ _=>[]) (λ_ _ _=>[]) (λ_ _ _ _=>[]) (λ_ _ _ _=>[]) (λ_ _ _=>[]) (λ_ _ _=>[]) (λ_ _ _ _=>[]) (λ_ _ _ _=>[]) (λ_ _ _ _ _=>[]) (λ_ _ _ _=>[]) (λ_ _=>[]) (λ_ _=>[]) (λ_ _=>[]) (λ_ _ _ _=>[]) (λf as ks p=>ks) (λ_ _ _ _=>[]) (λ_ _=>[]) (λ_ _ _=>[]) (λ_ _ _=>[]) (λ_ _ _=>[]) (λ_ _=>[]) (λ_ _=>[]) (λ_ _=>[]) (λ_ _ _=>[]) (λ_ _ _ _=>[])
noncomputable def D5(t:Expr):Nat:=Expr.casesOn (motive_1:=λ_=>Nat) t (λ_ _ _=>0) (λ_ _ _=>0) (λ_ _ _ _=>0) (λ_ _ _=>0) (λ_ _ _ _=>0) (λ_ _ _ _=>0) (λ_ _ _=>0) (λ_ _ _=>0) (λ_ _ _ _=>0) (λ_ _ _ _=>0) (λ_ _ _ _ _=>0) (λ_ _ _ _=>0) (λ_ _=>0) (λ_ _=>0) (λ_ _=>0) (λ_ _ _ _=>0) (λ_ _ _ _=>0) (λ_ _ _ _=>0) (λ_ _=>0) (λc k p=>k) (λ_ _ _=>0) (λ_ _ _=>0) (λ_ _=>0) (λ_ _=>0) (λ_ _=>0) (λvs k p=>k) (λ_ _ _ _=>0)
noncomputable def Ab(t:Expr):Str:=Expr.casesOn (motive_1:=λ_=>Str) t (λ_ _ _=>Str.empty) (λ_ _ _=>Str.empty) (λ_ _ _ _=>Str.empty) (λ_ _ _=>Str.empty) (λ_ _ _ _=>Str.empty) (λ_ _ _ _=>Str.empty) (λ_ _ _=>Str.empty) (λ_ _ _=>Str.empty) (λ_ _ _ _=>Str.empty) (λ_ _ _ _=>Str.empty) (λ_ _ _ _ _=>Str.empty) (λ_ _ _ _=>Str.empty) (λ_ _=>Str.empty) (λ_ _=>Str.empty) (λ_ _=>Str.empty) (λ_ _ _ _=>Str.empty) (λ_ _ _ _=>Str.empty) (λ_ _ _ _=>Str.empty) (λ_ _=>Str.empty) (λ_ _ _=>Str.empty) (λ_ _ _=>Str.empty) (λ_ _ _=>Str.empty) (λ_ _=>Str.empty) (λx p=>x) (λ_ _=>Str.empty) (λ_ _ _=>Str.empty) (λ_ _ _ _=>Str.empty)
noncomputable def D6(t:Expr):List Comprehension×Scope:=Expr.casesOn (motive_1:=λ_=>List Comprehension×Scope) t (λ_ _ _=>([],⟨.module,[],false,false,[]⟩)) (λ_ _ _=>([],⟨.module,[],false,false,[]⟩)) (λ_ _ _ _=>([],⟨.module,[],false,false,[]⟩)) (λ_ _ _=>([],⟨.module,[],false,false,[]⟩)) (λ_ _ _ _=>([],⟨.module,[],false,false,[]⟩)) (λ_ _ _ _=>([],⟨.module,[],false,false,[]⟩)) (λ_ _ _=>([],⟨.module,[],false,false,[]⟩)) (λ_ _ _=>([],⟨.module,[],false,false,[]⟩)) (λe g s p=>(g,s)) (λ_ _ _ _=>([],⟨.module,[],false,false,[]⟩)) (λ_ _ _ _ _=>([],⟨.module,[],false,false,[]⟩)) (λ_ _ _ _=>([],⟨.module,[],false,false,[]⟩)) (λ_ _=>([],⟨.module,[],false,false,[]⟩)) (λ_ _=>([],⟨.module,[],false,false,[]⟩)) (λ_ _=>([],⟨.module,[],false,false,[]⟩)) (λ_ _ _ _=>([],⟨.module,[],false,false,[]⟩)) (λ_ _ _ _=>([],⟨.module,[],false,false,[]⟩)) (λ_ _ _ _=>([],⟨.module,[],false,false,[]⟩)) (λ_ _=>([],⟨.module,[],false,false,[]⟩)) (λ_ _ _=>([],⟨.module,[],false,false,[]⟩)) (λ_ _ _=>([],⟨.module,[],false,false,[]⟩)) (λ_ _ _=>([],⟨.module,[],false,false,[]⟩)) (λ_ _=>([],⟨.module,[],false,false,[]⟩)) (λ_ _=>([],⟨.module,[],false,false,[]⟩)) (λ_ _=>([],⟨.module,[],false,false,[]⟩)) (λ_ _ _=>([],⟨.module,[],false,false,[]⟩)) (λ_ _ _ _=>([],⟨.module,[],false,false,[]⟩))
noncomputable def lq(t:Expr):Bool:=Expr.casesOn (motive_1:=λ_=>Bool) t (λ_ _ _=>true) (λ_ _ _=>true) (λ_ _ _ _=>true) (λ_ _ _=>true) (λ_ _ _ _=>true) (λ_ _ _ _=>true) (λ_ _ _=>true) (λ_ _ _=>true) (λ_ _ _ _=>true) (λ_ _ _ _=>true) (λ_ _ _ _ _=>true) (λ_ _ _ _=>true) (λ_ _=>true) (λ_ _=>true) (λ_ _=>true) (λ_ _ _ _=>true) (λ_ _ _ _=>true) (λ_ _ _ _=>true) (λ_ _=>true) (λ_ _ _=>true) (λ_ _ _=>true) (λ_ _ _=>true) (λe p=>false) (λ_ _=>true) (λ_ _=>true) (λ_ _ _=>true) (λlo hi st p=>false)
noncomputable def nr(t:Expr):Bool:=Expr.casesOn (motive_1:=λ_=>Bool) t (λop vs p=>false) (λ_ _ _=>true) (λ_ _ _ _=>true) (λop e p=>false) (λ_ _ _ _=>true) (λt a b p=>false) (λ_ _ _=>true) (λ_ _ _=>true) (λ_ _ _ _=>true) (λ_ _ _ _=>true) (λ_ _ _ _ _=>true) (λ_ _ _ _=>true) (λ_ _=>true) (λ_ _=>true) (λ_ _=>true) (λl ops rs p=>false) (λ_ _ _ _=>true) (λ_ _ _ _=>true) (λ_ _=>true) (λ_ _ _=>true) (λ_ _ _=>true) (λ_ _ _=>true) (λ_ _=>true) (λ_ _=>true) (λ_ _=>true) (λ_ _ _=>true) (λ_ _ _ _=>true)
noncomputable def lr(t:Expr):Bool:=Expr.casesOn (motive_1:=λ_=>Bool) t (λ_ _ _=>true) (λ_ _ _=>true) (λ_ _ _ _=>true) (λ_ _ _=>true) (λ_ _ _ _=>true) (λ_ _ _ _=>true) (λ_ _ _=>true) (λ_ _ _=>true) (λe g s p=>false) (λe g s p=>false) (λk v g s p=>false) (λ_ _ _ _=>true) (λ_ _=>true) (λ_ _=>true) (λ_ _=>true) (λ_ _ _ _=>true) (λ_ _ _ _=>true) (λ_ _ _ _=>true) (λ_ _=>true) (λ_ _ _=>true) (λ_ _ _=>true) (λ_ _ _=>true) (λ_ _=>true) (λ_ _=>true) (λ_ _=>true) (λ_ _ _=>true) (λ_ _ _ _=>true)
noncomputable def lu(t:Expr):Bool:=Expr.casesOn (motive_1:=λ_=>Bool) t (λ_ _ _=>false) (λ_ _ _=>false) (λ_ _ _ _=>false) (λ_ _ _=>false) (λ_ _ _ _=>false) (λ_ _ _ _=>false) (λ_ _ _=>false) (λ_ _ _=>false) (λ_ _ _ _=>false) (λ_ _ _ _=>false) (λ_ _ _ _ _=>false) (λ_ _ _ _=>false) (λ_ _=>false) (λ_ _=>false) (λ_ _=>false) (λ_ _ _ _=>false) (λ_ _ _ _=>false) (λ_ _ _ _=>false) (λ_ _=>false) (λ_ _ _=>false) (λ_ _ _=>false) (λ_ _ _=>false) (λ_ _=>false) (λ_ _=>false) (λvs p=>true) (λvs k p=>true) (λ_ _ _ _=>false)
noncomputable def vB(s:Stmt):List Expr×Expr×List Stmt×List Stmt:=Stmt.casesOn (motive_2:=λ_=>List Expr×Expr×List Stmt×List Stmt) s (λ_ _ _ _ _ _ _ _ _ _=>([],dE,[],[])) (λ_ _ _ _ _ _ _ _ _ _=>([],dE,[],[])) (λ_ _ _ _ _ _ _ _ _ _ _=>([],dE,[],[])) (λo p=>([],o.getD dE,[],[])) (λ_ _=>([],dE,[],[])) (λts e p=>(ts,e,[],[])) (λ_ _ _ _ _ _ _=>([],dE,[],[])) (λt op e p=>([t],e,[],[])) (λ_ _ _ _ _=>([],dE,[],[])) (λt e b o p=>([t],e,b,o)) (λ_ _ _ _ _=>([],dE,[],[])) (λe b o p=>([],e,b,o)) (λe b o p=>([],e,b,o)) (λ_ _ _=>([],dE,[],[])) (λ_ _ _=>([],dE,[],[])) (λ_ _ _=>([],dE,[],[])) (λ_ _ _=>([],dE,[],[])) (λ_ _ _ _ _=>([],dE,[],[])) (λ_ _ _ _ _=>([],dE,[],[])) (λ_ _ _=>([],dE,[],[])) (λ_ _=>([],dE,[],[])) (λ_ _ _ _=>([],dE,[],[])) (λ_ _=>([],dE,[],[])) (λ_ _=>([],dE,[],[])) (λe p=>([],e,[],[])) (λ_=>([],dE,[],[])) (λ_=>([],dE,[],[])) (λ_=>([],dE,[],[]))
noncomputable def bY(x:Str):Bool:=!(x==("__debug__":Str))&& !(x==("super":Str))
noncomputable def dR(l:List Expr):Expr:=List.casesOn (motive:=λ_=>Expr) l dE λe _=>e
noncomputable def fc{α:Type}(l:List α):List α:=List.casesOn (motive:=λ_=>List α) l [] λ_ r=>r
noncomputable def aA(t:Expr):Expr:=dR (cP t)
noncomputable def cm(t:Expr):Expr:=dR (fc (cP t))
noncomputable def ow(t:Expr):Expr:=dR (fc (fc (cP t)))
noncomputable def bh(t:Expr):List Expr:=fc (cP t)
noncomputable def jo(t:Expr):Comprehension:=List.casesOn (motive:=λ_=>Comprehension) (D6 t).1 ⟨dE,dE,[],0⟩ λg _=>g
noncomputable def fL(t:Expr):Scope:=(D6 t).2
noncomputable def sE(s:Stmt):Expr:=(vB s).2.1
noncomputable def xN(s:Stmt):List Expr:=(vB s).1
noncomputable def vC(s:Stmt):Expr:=dR (vB s).1
noncomputable def sB(s:Stmt):List Stmt:=(vB s).2.2.1
noncomputable def sO(s:Stmt):List Stmt:=(vB s).2.2.2
noncomputable def GY(l:List Stmt):Stmt:=List.casesOn (motive:=λ_=>Stmt) l (.Pass ⟨0,0,0,0⟩) λe _=>e
noncomputable def Gh(l:List Keyword):Keyword:=List.casesOn (motive:=λ_=>Keyword) l ⟨none,dE,⟨0,0,0,0⟩⟩ λe _=>e
noncomputable def iz(e:ME):Bool:=ME.casesOn (motive_1:=λ_=>Bool) e (λ_=>false) (λ_=>false) (λ_=>false) (λ_ _=>false) (λ_ _=>false) (λ_ _ _=>false) (λ_=>false) (λ_=>false) (λ_ _ _=>false) (λ_ _=>false) (λ_ _ _=>false) (λ_ _ _ _=>false) (λ_ _=>false) (λ_ _ _=>false) true (λ_ _=>false) (λ_=>false) (λ_ _=>false) false (λ_=>false)
noncomputable def kC(v:MV):Const:=MV.casesOn (motive_1:=λ_=>Const) v .none .bool .int (λs=>.str (aj s)) (λ_=>.none) (λ_=>.none) (λ_=>.none) (λ_=>.none) (λ_ _=>.none) (λ_ _=>.none) (λ_=>.none) (λ_=>.none) (λ_=>.none)
noncomputable def KU(v:MV):Bool:=MV.casesOn (motive_1:=λ_=>Bool) v true (λ_=>true) (λ_=>true) (λs=>aS s.length ak) (λ_=>false) (λ_=>false) (λ_=>false) (λ_=>false) (λ_ _=>false) (λ_ _=>false) (λ_=>false) (λ_=>false) (λ_=>false)
noncomputable def uf(b:Bool):BoolOp:=bif b then .And else .Or
noncomputable def eO:MCs→List CmpOp
 |.nil=>[]
 |.cons op _ r=>kB op::eO r
section
variable (C:Cx)(f:Fc)
noncomputable def aL(i:Nat):Str:=(f.nms[i]?).getD Str.empty
mutual
noncomputable def bw:ME→Expr→Expr
 |.k v,t=>.Constant (kC v) (D5 t) t.pos
 |.v i,t=>.Name (aL f i) t.pos
 |.g i,t=>.Name (C.gnm i) t.pos
 |.at e a,t=>.Attribute (bw e (aA t)) (C.N.nm a) t.pos
 |.bo b es,t=>.BoolOp (uf b) (fW es (cP t)) t.pos
 |.bin op l r,t=>.BinOp (bw l (aA t)) (nq op) (bw r (cm t)) t.pos
 |.not e,t=>.UnaryOp .Not (bw e (aA t)) t.pos
 |.neg e,t=>.UnaryOp .USub (bw e (aA t)) t.pos
 |.ife c a b,t=>.IfExp (pW c (aA t)) (bw a (cm t)) (bw b (ow t)) t.pos
 |.cmp l r,t=>.Compare (bw l (aA t)) (eO r) (iK r (bh t)) t.pos
 |.call g as ks,t=>.Call (.Name (C.gnm g) (aA t).pos) (fW as (bh t)) (m6 ks (pV t)) t.pos
 |.mc o a as ks,t=>.Call (.Attribute (bw o (aA (aA t))) (C.N.nm a) (aA t).pos) (fW as (bh t)) (m6 ks (pV t)) t.pos
 |.sub e i,t=>.Subscript (bw e (aA t)) (bw i (cm t)) t.pos
 |.sl e lo hi,t=>.Subscript (bw e (aA t)) (.Slice (bif iz lo then none else some (bw lo (aA (cm t)))) (bif iz hi then none else some (bw hi (cm (cm t)))) none (cm t).pos) t.pos
 |.abs,t=>t
 |.list _ es,t=>.List (fW es (cP t)) t.pos
 |.tup es,t=>.Tuple (fW es (cP t)) (D5 t) t.pos
 |.comp m src,t=>.ListComp (.BinOp (.Name (Ab (aA (aA t))) (aA (aA t)).pos) .Mod (.Constant (.int m) (D5 (cm (aA t))) (cm (aA t)).pos) (aA t).pos)
   [⟨.Name (Ab (aA (aA t))) (jo t).target.pos,bw src (jo t).iter,[],0⟩] (fL t) t.pos
 |.dead,t=>t
 |.strI e,t=>.Call (.Name "str" (aA t).pos) [bw e (dR (bh t))] [] t.pos
noncomputable def fW:MEs→List Expr→List Expr
 |.nil,_=>[]
 |.cons e r,ts=>bw e (dR ts)::fW r (fc ts)
noncomputable def iK:MCs→List Expr→List Expr
 |.nil,_=>[]
 |.cons _ e r,ts=>bw e (dR ts)::iK r (fc ts)
noncomputable def m6:MKs→List Keyword→List Keyword
 |.nil,_=>[]
 |.cons n e r,ts=>⟨some (C.N.nm n),bw e (Gh ts).value,(Gh ts).pos⟩::m6 r (fc ts)
noncomputable def pW:MB→Expr→Expr
 |.not b,t=>.UnaryOp .Not (pW b (aA t)) t.pos
 |.bo b bs,t=>.BoolOp (uf b) (yo bs (cP t)) t.pos
 |.ife c a b,t=>.IfExp (pW c (aA t)) (pW a (cm t)) (pW b (ow t)) t.pos
 |.cmp l r,t=>.Compare (bw l (aA t)) (eO r) (iK r (bh t)) t.pos
 |.val e,t=>bw e t
noncomputable def yo:MBs→List Expr→List Expr
 |.nil,_=>[]
 |.cons b r,ts=>pW b (dR ts)::yo r (fc ts)
end
noncomputable def uT:MT→Expr→Expr
 |.v i,t=>.Name (aL f i) t.pos
 |.at e a,t=>.Attribute (bw C f e (aA t)) (C.N.nm a) t.pos
 |.tup is,t=>.Tuple (is.zipWith (λi x=>.Name (aL f i) x.pos) (cP t)) (D5 t) t.pos
noncomputable def oy:List MT→List Expr→List Expr
 |[],_=>[]
 |m::r,ts=>uT C f m (dR ts)::oy r (fc ts)
noncomputable def GZ(sc fsc:Scope):Scope:={sc with names:=sc.names.map λp=>if (p.2== .free&&fsc.kind== .function&&fsc.names.lookup p.1==some .cell) then (p.1,.cell) else p}
noncomputable def sN(sc:Scope)(is:List Nat):Fc:=⟨GZ sc f.sc,is.map (aL f)⟩
noncomputable def Bh(is:List Nat)(dZ e:ME)(t:Expr):Expr:=.ListComp (bw C (sN f (fL t) is) e (aA t))
 [⟨.Name (Ab (jo t).target) (jo t).target.pos,.Call (.Name "range" (aA (jo t).iter).pos) [bw C f dZ (dR (bh (jo t).iter))] [] (jo t).iter.pos,[],0⟩] (fL t) t.pos
noncomputable def G0(j:Bool)(is:List Nat)(dZ e:ME)(t:Expr):Expr:=bif j then .Call (.Attribute (bw C f (.k (.str [])) (aA (aA t))) (C.N.nm 3) (aA t).pos) [Bh C f is dZ e (dR (bh t))] [] t.pos else Bh C f is dZ e t
mutual
noncomputable def Bi:MS→Stmt→Stmt
 |.expr e,t=>.Expr (bw C f e (sE t)) t.pos
 |.asg ts e,t=>.Assign (oy C f ts (xN t)) (bw C f e (sE t)) t.pos
 |.asgo i es,t=>.Assign [.Name (aL f i) (vC t).pos] (.List (fW C f es (cP (sE t))) (sE t).pos) t.pos
 |.augv i op e,t=>.AugAssign (.Name (aL f i) (vC t).pos) (nq op) (bw C f e (sE t)) t.pos
 |.augo i e,t=>.AugAssign (.Name (aL f i) (vC t).pos) .Add (bw C f e (sE t)) t.pos
 |.auga o a op e,t=>.AugAssign (.Attribute (bw C f o (aA (vC t))) (C.N.nm a) (vC t).pos) (nq op) (bw C f e (sE t)) t.pos
 |.app i e,t=>.Expr (.Call (.Attribute (.Name (aL f i) (aA (aA (sE t))).pos) "append" (aA (sE t)).pos) [bw C f e (dR (bh (sE t)))] [] (sE t).pos) t.pos
 |.ife c a b,t=>.If (pW C f c (sE t)) (iL a (sB t)) (iL b (sO t)) t.pos
 |.whl c b,t=>.While (pW C f c (sE t)) (iL b (sB t)) [] t.pos
 |.for i e b,t=>.For (.Name (aL f i) (vC t).pos) (bw C f e (sE t)) (iL b (sB t)) [] t.pos
 |.forr i e b,t=>.For (.Name (aL f i) (vC t).pos) (.Call (.Name "range" (aA (sE t)).pos) [bw C f e (dR (bh (sE t)))] [] (sE t).pos) (iL b (sB t)) [] t.pos
 |.ret e,t=>.Return (some (bw C f e (sE t))) t.pos
 |.ret0,t=>.Return none t.pos
 |.pass,t=>.Pass t.pos
 |.dead,t=>t
 |.asgl i l m src,t=>.Assign [.Name (aL f i) (dR (xN t)).pos] (bw C f (.comp m src) (sE t)) t.pos
 |.asga i l a b,t=>.Assign [.Name (aL f i) (dR (xN t)).pos] (.BinOp (bw C f a (aA (sE t))) .Add (bw C f b (cm (sE t))) (sE t).pos) t.pos
 |.retc l i,t=>.Return (some (.Name (aL f i) (sE t).pos)) t.pos
 |.retL tag j is dZ e,t=>.Return (some (.Tuple [bw C f (.k (.str tag)) (dR (cP (sE t))),G0 C f j is dZ e (dR (fc (cP (sE t))))] (D5 (sE t)) (sE t).pos)) t.pos
 |.forp m e b,t=>.For (uT C f m (vC t)) (bw C f e (sE t)) (iL b (sB t)) [] t.pos
noncomputable def iL:MSs→List Stmt→List Stmt
 |.nil,_=>[]
 |.cons s r,ts=>Bi s (GY ts)::iL r (fc ts)
end
end
noncomputable def Ac:Tx→Tx→Bool
 |[],[]=>true
 |a::r,b::q=>Nat.beq a b&&Ac r q
 |_,_=>false
noncomputable def m7(x y:Str):Bool:=Ac x.cps.toList y.cps.toList
noncomputable def cF(x:Str)(l:List (Str×NameKind)):Option NameKind:=List.rec (motive:=λ_=>Option NameKind) none (λp _ ih=>bif m7 x p.1 then some p.2 else ih) l
noncomputable def G1(k:NameKind)(o:Option NameKind):Bool:=(o.map λj=>Nat.beq j.ctorIdx k.ctorIdx).getD false
noncomputable def jp(o:Option NameKind):Bool:=G1 .local o
noncomputable def lW(o:Option NameKind):Bool:=G1 .globalImplicit o
noncomputable def oz(a b:Nat):Bool:=Nat.ble (a+1) b
noncomputable def jZ(x:Str):Bool:=!(m7 x "__debug__")&& !(m7 x "super")
noncomputable def D7(sc:Scope)(x:Str):Bool:=Nat.beq sc.names.length 2&&(m7 ((c0 sc.names 0).elim Str.empty Prod.fst) ".0" && jp ((c0 sc.names 0).map Prod.snd)&&(m7 ((c0 sc.names 1).elim Str.empty Prod.fst) x&&jp ((c0 sc.names 1).map Prod.snd)))
noncomputable def yp(k:ScopeKind):Bool:=Nat.beq k.ctorIdx ScopeKind.function.ctorIdx
noncomputable def Ad(ts:List Expr)(ex:Expr):Bool:=lr ex&& !(lu (dR ts)&&lu ex)
noncomputable def Ae(x:Str)(p:Pos)(ex:Expr):Bool:=p.line==ex.pos.line&& !((fL ex).names.any λq=>q.1==x&&(q.2== .local||q.2== .cell))
noncomputable def Bj(e:ME):Bool:=ME.casesOn (motive_1:=λ_=>Bool) e (λ_=>false) (λ_=>false) (λ_=>false) (λ_ _=>false) (λ_ _=>false) (λ_ _ _=>false) (λ_=>false) (λ_=>false) (λ_ _ _=>false) (λ_ _=>false) (λ_ _ _=>false) (λ_ _ _ _=>false) (λ_ _=>false) (λ_ _ _=>false) false (λ_ _=>false) (λ_=>false) (λ_ _=>true) false (λ_=>false)
noncomputable def ro(m:MT):Bool:=MT.casesOn (motive:=λ_=>Bool) m (λ_=>false) (λ_ _=>false) λ_=>true
noncomputable def G2(l:List MT):Bool:=((sr l).map λm=>MT.casesOn (motive:=λ_=>Bool) m (λ_=>true) (λ_ _=>false) λ_=>false).getD false
noncomputable def ug:MEs→Nat
 |.nil=>0
 |.cons _ r=>ug r+1
noncomputable def G3:MKs→Nat
 |.nil=>0
 |.cons _ _ r=>G3 r+1
section
variable (C:Cx)(f:Fc)
noncomputable def gw(i:Nat):Bool:=oz i f.nms.length&&jp (cF (aL f i) f.sc.names)
noncomputable def jq(i:Nat):Bool:=gw f i&&jZ (aL f i)
noncomputable def isCelK(o:Option NameKind):Bool:=match o with
 |some .cell=>true
 |_=>false
noncomputable def Bk(i:Nat):Bool:=oz i f.nms.length&&(jp (cF (aL f i) f.sc.names)||isCelK (cF (aL f i) f.sc.names))
noncomputable def Af(i:Nat):Bool:=Bk f i&&jZ (aL f i)
mutual
noncomputable def okE:ME→Expr→Bool
 |.k v,_=>KU v
 |.v i,_=>Af f i
 |.g i,_=>lW (cF (C.gnm i) f.sc.names)&&jZ (C.gnm i)
 |.at e a,t=>okE e (aA t)&&oz a C.N.natr
 |.bo _ es,t=>kQ es (cP t)
 |.bin _ l r,t=>okE l (aA t)&&okE r (cm t)
 |.not e,t=>okE e (aA t)
 |.neg e,t=>okE e (aA t)
 |.ife c a b,t=>uU c (aA t)&&(okE a (cm t)&&okE b (ow t))
 |.cmp l r,t=>okE l (aA t)&&yq r (bh t)
 |.call g as ks,t=>lW (cF (C.gnm g) f.sc.names)&&(jZ (C.gnm g)&&(kQ as (bh t)&&yr ks (pV t)))
 |.mc o a as ks,t=>okE o (aA (aA t))&&(oz a C.N.natr&&(kQ as (bh t)&&(yr ks (pV t)&&(oz (ug as+G3 ks) 20&&(aA t).pos.endLine==t.pos.line))))
 |.sub e i,t=>okE e (aA t)&&okE i (cm t)
 |.sl e lo hi,t=>okE e (aA t)&&((iz lo||okE lo (aA (cm t)))&&(iz hi||okE hi (cm (cm t))))
 |.abs,_=>false
 |.list _ es,t=>kQ es (cP t)&&oz (ug es) 1000
 |.tup es,t=>kQ es (cP t)&&oz (ug es) 1000
 |.comp m src,t=>bX 0 m&&(okE src (jo t).iter&&(yp (fL t).kind&&(D7 (fL t) (Ab (aA (aA t)))&&(!(m7 (Ab (aA (aA t))) ".0")&&(jZ (Ab (aA (aA t)))&&(!(fL t).isGenerator&& !(fL t).isCoroutine))))))
 |.dead,t=>lq t
 |.strI e,t=>okE e (dR (bh t))&&lW (cF "str" f.sc.names)
noncomputable def kQ:MEs→List Expr→Bool
 |.nil,_=>true
 |.cons e r,ts=>okE e (dR ts)&&kQ r (fc ts)
noncomputable def yq:MCs→List Expr→Bool
 |.nil,_=>true
 |.cons op e r,ts=>okE e (dR ts)&&(!behindInMarks (kB op) (bw C f e (dR ts))&&yq r (fc ts))
noncomputable def yr:MKs→List Keyword→Bool
 |.nil,_=>true
 |.cons n e r,ts=>oz n C.N.natr&&(okE e (Gh ts).value&&yr r (fc ts))
noncomputable def uU:MB→Expr→Bool
 |.not b,t=>uU b (aA t)
 |.bo _ bs,t=>Bl bs (cP t)
 |.ife c a b,t=>uU c (aA t)&&(uU a (cm t)&&uU b (ow t))
 |.cmp l r,t=>okE l (aA t)&&yq r (bh t)
 |.val e,t=>nr (bw C f e t)&&okE e t
noncomputable def Bl:MBs→List Expr→Bool
 |.nil,_=>true
 |.cons b r,ts=>uU b (dR ts)&&Bl r (fc ts)
end
noncomputable def DC:MT→Expr→Bool
 |.v i,_=>gw f i
 |.at e a,t=>okE C f e (aA t)&&oz a C.N.natr
 |.tup is,t=>is.all (gw f)&&Nat.beq is.length (cP t).length
noncomputable def Bm:List MT→List Expr→Bool
 |[],_=>true
 |m::r,ts=>DC C f m (dR ts)&&Bm r (fc ts)
noncomputable def J0(l:List Str):Bool:=List.rec (motive:=λ_=>Bool) true (λx r ih=>r.all (λy=>!m7 x y)&&ih) l
noncomputable def Bn(o:Option NameKind):Bool:=match o with
 |some .free=>true
 |_=>false
noncomputable def Bo(is:List Nat)(dZ e:ME)(t:Expr):Bool:=
 okE C f dZ (dR (bh (jo t).iter))&&(lW (cF "range" f.sc.names)&&(okE C (sN f (fL t) is) e (aA t)&&(J0 (sN f (fL t) is).nms&&(is.all (λi=>oz i f.nms.length&&(isCelK (cF (aL f i) f.sc.names)&&Bn (cF (aL f i) (fL t).names))) &&
 (yp (fL t).kind&&(jp (cF (Ab (jo t).target) (fL t).names)&&((fL t).names.all (λp=>match p.2 with | .local=>jp (cF p.1 (fL t).names) | .cell=>false | .free=>is.any (λi=>m7 p.1 (aL f i)) | _=>true)&&(fL t).names.all (λp=>!(m7 p.1 "super")))))))))
noncomputable def G4(j:Bool)(is:List Nat)(dZ e:ME)(t:Expr):Bool:=bif j then Bo C f is dZ e (dR (bh t))&&(oz 3 C.N.natr&&(aA t).pos.endLine==t.pos.line) else Bo C f is dZ e t
mutual
noncomputable def Bp:MS→Stmt→Bool
 |.expr e,t=>okE C f e (sE t)&&lr (bw C f e (sE t))
 |.asg ts e,t=>okE C f e (sE t)&&(Bm C f ts (xN t)&&(bif Bj e then G2 ts&&Ae (Ab (dR (oy C f ts (xN t)))) (dR (xN t)).pos (bw C f e (sE t)) else Ad (oy C f ts (xN t)) (bw C f e (sE t))))
 |.asgo i es,t=>gw f i&&(kQ C f es (cP (sE t))&&oz (ug es) 1000)
 |.augv i _ e,t=>jq f i&&okE C f e (sE t)
 |.augo i e,t=>jq f i&&okE C f e (sE t)
 |.auga o a _ e,t=>okE C f o (aA (vC t))&&(oz a C.N.natr&&okE C f e (sE t))
 |.app i e,t=>jq f i&&(okE C f e (dR (bh (sE t)))&&(aA (sE t)).pos.endLine==(sE t).pos.line)
 |.ife c a b,t=>uU C f c (sE t)&&(m8 a (sB t)&&m8 b (sO t))
 |.whl c b,t=>uU C f c (sE t)&&m8 b (sB t)
 |.for i e b,t=>gw f i&&(okE C f e (sE t)&&m8 b (sB t))
 |.forr i e b,t=>gw f i&&(lW (cF "range" f.sc.names)&&(okE C f e (dR (bh (sE t)))&&m8 b (sB t)))
 |.ret e,t=>okE C f e (sE t)
 |.ret0,_=>true
 |.pass,_=>true
 |.dead,_=>true
 |.asgl i l m src,t=>okE C f (.comp m src) (sE t)&&(gw f i&&(Ae (aL f i) (dR (xN t)).pos (bw C f (.comp m src) (sE t))&&(be l&& !gA l)))
 |.asga i l a b,t=>okE C f a (aA (sE t))&&(okE C f b (cm (sE t))&&(gw f i&&(be l&& !gA l)))
 |.retc l i,_=>jq f i&&(be l&& !gA l)
 |.retL tag j is dZ e,t=>aS tag.length ak&&G4 C f j is dZ e (dR (fc (cP (sE t))))
 |.forp m e b,t=>DC C f m (vC t)&&(ro m&&(okE C f e (sE t)&&m8 b (sB t)))
noncomputable def m8:MSs→List Stmt→Bool
 |.nil,_=>true
 |.cons s r,ts=>Bp s (GY ts)&&m8 r (fc ts)
end
end
end
noncomputable def rl(sh:Sto):Nat:=(sh.rows.map List.length).getD 0
noncomputable abbrev sP(Φ:ku):Prop:=∀f as sh v sh',Φ f as sh=some (v,sh')→rl sh'≤ak→rl sh≤rl sh'
section
variable {T:Tab}{Φ:ku}{sh:Sto}
theorem lX{α:Type}{x:Option α}{g:α→MV×Sto}{r:MV×Sto}(h:x.map g=some r)(k:∀a,x=some a→rl sh≤rl (g a).2):rl sh≤rl r.2:=bH h λa e1 e2=>e2▸k a e1
theorem fX{sh':Sto}{l:Loc}{vs ws:List MV}(h0:ap sh l=some vs)(h:bP sh ws l=some sh')(hl:gA l=false∨vs.length≤ws.length):rl sh≤rl sh':=by
 cases l with
 |rows=>
  obtain rfl:=ay h;rcases hl with hl | hl
  ·exact aB hl.symm
  ·show (sh.rows.map List.length).getD 0≤ws.length
   rw[show sh.rows=some vs from h0];exact hl
 |states | events | indents | tape | due=>obtain rfl:=ay h;exact cz _
 |em | emD | tmp | tmpD=>exact aG h
theorem rp{o a pos r}(h:sx sh o a pos=some r):rl sh≤rl r.2:=ad h λf h1 h=>by
 match a,h1 with
 |0,h1=>
  obtain rfl:=ay h1;exact ad h λl _ h=>ad h λv _ h=>ad h λvs h1 h=>lX h λa h2=>fX h1 h2 (.inr (by rw[a7];exact Nat.le_add_right _ _))
 |1,h1=>
  obtain rfl:=ay h1
  exact ad h λl _ h=>jg h (λ_ h=>aG h) λhl h=>ad h λvs h1 h=>jg h (λ_ h=>ad h λv _ h=>lX h λa h2=>fX h1 h2 (.inl hl)) λ_ h=>ad h λv _ h=>ad h λi _ h=>jg h (λ_ h=>by
   cases vs with
   |nil=>exact aG h
   |cons v vs=>exact lX h λa h2=>fX h1 h2 (.inl hl)) λ_ h=>aG h
 |2,h1=>obtain rfl:=ay h1;exact ad h λl _ h=>ad h λv _ h=>lX h λa _=>cz _
 |3,h1=>obtain rfl:=ay h1;exact ad h λl _ h=>ad h λv _ h=>ad h λv _ h=>lX h λa _=>cz _
 |4,h1=>obtain rfl:=ay h1;exact aG h
 |5,h1=>obtain rfl:=ay h1;exact jg h (λ_ h=>lX h λa _=>cz _) λ_ h=>aG h
 |n+6,h1=>exact aG h1
theorem nu{o a v sh'}(h:rc T sh o a v=some sh'):rl sh≤rl sh':=ad h λl _ h=>by
 cases l with
 |em=>exact ad h λE _ h=>bH h λE' _ h=>h▸cz _
 |tmp=>exact ad h λE _ h=>bH h λE' _ h=>h▸cz _
 |_=>exact aG h
theorem j0{st i v st'}(h:iH st i=some (v,st')):st'.sh=st.sh:=ad h λc _ h=>by
 cases c with
 |unset=>exact aG h
 |_=>exact(bJ (λp:MV×St=>p.2.sh) (ay h)).symm
theorem iM{c vs r}(h:n4 T c vs sh=some r):rl r.2=rl sh:=
 jg h (λ_ h=>jg h (λ_ h=>ay h▸rfl) λ_ h=>aG h) λ_ h=>jg h (λ_ h=>ay h▸rfl) λ_ h=>aG h
variable (hΦ:sP Φ)
include hΦ
theorem fY{f pos kws r}(h:kx T Φ f pos kws sh=some r)(hr:rl r.2≤ak):rl sh≤rl r.2:=ad h λas _ h=>hΦ _ _ _ _ _ h hr
theorem rq{fv pos kws r}(h:nn T Φ fv pos kws sh=some r)(hr:rl r.2≤ak):rl sh≤rl r.2:=by
 cases fv with
 |fn f=>exact fY hΦ h hr
 |meth f l=>exact fY hΦ h hr
 |bi b=>cases kws with
  |nil=>exact lX (g:=λv=>(v,sh)) h λa _=>cz _
  |cons _ _=>exact aG h
 |cls c=>
  refine jg h (λ_ h=>?_) λ_ h=>aG h;refine ad h λf _ h=>ad h λq h1 h=>?_;have m:=fY hΦ h1;exact jg h (λ_ h=>ad h λp _ h=>jg h (λ_ h=>ad h λvs _ h=>(iM h).symm▸m ((iM h)▸hr)) λ_ h=>aG h) λ_ h=>aG h
 |_=>exact aG h
theorem ru{c o a pos kws r}(h:sz T Φ c o a pos kws sh=some r)(hr:rl r.2≤ak):rl sh≤rl r.2:=by
 cases c with
 |some q=>exact fY hΦ h hr
 |none=>exact jg h (λ_ h=>rp h) λ_ h=>aG h
end
open PySem PySem.W PyProof.Rows PySem.Calls PySem.Builtin PySem.Builtin.ObjectAttr
theorem et{o:Obj}{m:Str→Option Value}(h:ky o m)(name:Str):lookIn name o=some (m name):=by
 obtain⟨es,ep,hd,hk,hf⟩:=h;unfold lookIn;rw[hd];dsimp only;rw[← hf name]
 have hany:(es.toList.any λe=>e.refKey)=false:=by
  rw[List.any_eq_false];intro e he;obtain⟨n,t,q⟩:=hk e (Array.mem_toList_iff.mp he);simp [DictEntry.refKey,q]
 rw[hany];unfold nsFind findBy;rw[← Array.find?_toList];cases es.toList.find? λe=>e.key.isStr name<;>simp
theorem sQ:∀{fs:List (Option MV)} {i:Nat} {v:MV},i<fs.length→dZ (fs.set i (some v))=if ((fs[i]?).join).isSome then dZ fs else dZ fs+1
 |[],i,v,h=>by simp at h
 |x::r,0,v,h=>by cases x<;>simp [dZ]
 |x::r,i+1,v,h=>by
  have ih:=sQ (fs:=r) (i:=i) (v:=v) (by simpa using h)
  cases x with
  |none=>simpa [dZ] using ih
  |some y=>
   simp only [List.set_cons_succ,List.getElem?_cons_succ];unfold dZ at ih ⊢;rw[List.filter_cons_of_pos (by rfl),List.filter_cons_of_pos (by rfl),List.length_cons,List.length_cons,ih]
   split<;>rfl
theorem vF(fs:List (Option MV)):dZ fs≤fs.length:=List.length_filter_le ..
section
variable {M:Model}{A:Around}{E:Value→Shared→Prop}{s:Shared}
theorem vG{a:Addr}{o:Obj}{m:Str→Option Value}{b:Nat}{name:Str}{v:Value}{Q:Unit→Shared→Prop}(ho:s.heap.get? a=some o)(hm:isNsB o m b)
  (h:∀h' o',Heap.SameBut a s.heap h'→h'.get? a=some o'→isNsB o' (λx=>if x=name then some v else m x) (if (m name).isSome then b else b+1)→Q () {s with heap:=h',toks:=s.toks+1}):wpAny M A (nsSet a name v) Q E s:=by
 obtain⟨es,ep,hd,hb,hk,hf⟩:=hm
 have hany:es.any (·.refKey)=false:=by
  rw[Array.any_eq_false'];intro e he;obtain⟨n,t,h⟩:=hk e he;simp [DictEntry.refKey,h]
 unfold nsSet strHash;refine aM (aM (wpAny_askSetting (fj (aM (wpAny_mkText (aM (wpAny_loadPart ho ?_)))))));rw[hd];dsimp only;rw[aRefKeyMayBeTheName_at,hany,Bool.and_false];refine wpAny_updatePart ho ?_
 have hsome:(m name).isSome=(es.findIdx? (·.key.isStr name)).isSome:=by
  rw[← hf name];unfold nsFind;rw[findBy_of_findIdx?];cases hi:es.findIdx? (λe=>e.key.isStr name) with
  |none=>rfl
  |some i=>
   have:=Array.findIdx?_eq_some_iff_getElem.mp hi;obtain⟨h1,_⟩:=this;simp [Array.getElem?_eq_getElem h1]
 obtain⟨c,d,dt,sl⟩:=o;dsimp only at hd;subst hd;cases hi:es.findIdx? (·.key.isStr name) with
 |some i=>
  refine h _ _ (Heap.SameBut.update ..) (Heap.get?_update_self _ ho (by simp only [Obj.putName_eq,Obj.putNameByArray,hi];rfl)) ?_
  refine⟨_,ep,by simp only [Obj.putName_eq,Obj.putNameByArray,hi];rfl,by rw[hsome,hi];simpa using hb,hk.modify _ _,λx=>?_⟩
  show _=if x=name then some v else m x;rw[← hf];exact findBy_modify (λn v=>v.isStr n) Value.isStr_inj es name x v i hi
 |none=>
  refine h _ _ (Heap.SameBut.update ..) (Heap.get?_update_self _ ho (by simp only [Obj.putName_eq,Obj.putNameByArray,hi];rfl)) ?_
  refine⟨_,ep+1,by simp only [Obj.putName_eq,Obj.putNameByArray,hi];rfl,by rw[hsome,hi];simpa using hb,hk.push _ _ _ _,λx=>?_⟩
  show _=if x=name then some v else m x;rw[← hf]
  exact findBy_push (λn v=>v.isStr n) es name x _ _ v (λy=>by
   show (name==y)=decide (y=name);by_cases h:y=name
   ·subst h;simp
   ·have:¬name=y:=λe=>h e.symm
    simp [h,this]) hi
end
structure ClsOk(C:Cx)(c:Nat):Prop where
 ga:findIn C.K (.ref (C.N.cla c)) "__getattribute__" = some (some (.builtin "object.__getattribute__"))
 gk:findIn C.K (.ref (C.N.cla c)) "__getattr__" = some none
 sa:findIn C.K (.ref (C.N.cla c)) "__setattr__" = some (some (.builtin "object.__setattr__"))
 hd:hasDictIn C.K (C.N.cla c)=true
 po:plainOver C.K (C.N.cla c)=true
 fld:∀n i,n<C.N.natr→aC (C.N.T.clsFields c) n=some i→findIn C.K (.ref (C.N.cla c)) (C.N.nm n)=some none
 mth:∀n f,n<C.N.natr→C.N.T.clsMeth c n=some f→aC (C.N.T.clsFields c) n=none∧findIn C.K (.ref (C.N.cla c)) (C.N.nm n)=some (some (.ref (C.N.fna f)))∧isFn C.K (.ref (C.N.fna f))=true ∧
  specialIn C.K (.ref (C.N.fna f)) "__get__" = some (some (.builtin "function.__get__"))∧takesIn C.K (.ref (C.N.fna f))=some false∧copiedNames.contains (C.N.nm n)=false∧(C.N.T.body f).isSome=true
 att:∀n v,n<C.N.natr→C.N.T.clsAttr c n=some v→ ∃a,aC (C.N.T.clsFields c) n=none∧findIn C.K (.ref (C.N.cla c)) (C.N.nm n)=some (some a)∧specialIn C.K a "__get__" = some none∧handedIn a=true ∧
  copiedNames.contains (C.N.nm n)=false∧ ∀w:Wd,(∀a o,C.N.h₀.get? a=some o→w.G a=some o)→VRel C.N w v a
 len:(C.N.T.clsFields c).length≤900
 fn:∀n∈C.N.T.clsFields c,n<C.N.natr
 fnd:(C.N.T.clsFields c).Nodup
structure CxOk(C:Cx):Prop where
 X:C.K.In C.N.h₀
 top:TopRead C.p C.loose C.mg C.mb C.N.h₀
 cls:∀c,(C.N.T.clsInit c).isSome=true→ClsOk C c
 em:(C.N.T.clsInit C.N.T.emC).isSome=true
 inj:∀n m,n<C.N.natr→m<C.N.natr→C.N.nm n=C.N.nm m→n=m
 handed:∀b,handedIn (C.N.bin b)=true
 par:C.wd.params=C.N.P
theorem CxOk.In{C:Cx}(O:CxOk C){w:Wd}{P:PMap}{sh:Sto}{h:Heap}(S:Sh C.N w P sh h):C.K.In h:=O.X.keeps λa o e=>S.frz _ _ (S.base _ _ e)
theorem CxOk.topIn{C:Cx}(O:CxOk C){w:Wd}{P:PMap}{sh:Sto}{h:Heap}(S:Sh C.N w P sh h):TopRead C.p C.loose C.mg C.mb h:=O.top.keeps λa o e=>S.frz _ _ (S.base _ _ e)
theorem uh{C:Cx}(O:CxOk C){w:Wd}{v:MV}{a:Value}(h:VRel C.N w v a):handedIn a=true:=by
 cases v with
 |bi b=>exact(h:a=_)▸O.handed b
 |int i=>obtain⟨t,rfl⟩:=h.int_inv;rfl
 |str i=>obtain⟨_,t,rfl⟩:=h.str_inv;rfl
 |loc i=>obtain⟨t,_,rfl⟩:=h.loc_inv;rfl
 |meth f l=>cases (h:MethR _ w f l a);rfl
 |inst c fs=>obtain⟨_,_,⟨_⟩⟩:=VRel.inst_eq.mp h;rfl
 |lst vs=>obtain⟨_,_,⟨_⟩⟩:=VRel.lst_eq.mp h;rfl
 |tup vs=>obtain⟨_,_,⟨_⟩⟩:=VRel.tup_eq.mp h;rfl
 |sd kvs=>cases (h:SdR _ w kvs a);rfl
 |_=>exact h▸rfl
theorem vH{a:Nat}{fs:List Nat}:∀{k i:Nat},List.rec (motive:=λ_=>Nat→Option Nat) (λ_=>none) (λx _ ih n=>bif Nat.beq x a then some n else ih (n+1)) fs k=some i→ ∃j,i=k+j∧fs[j]?=some a:=by
 induction fs with
 |nil=>intro k i h;exact aG h
 |cons x r ih=>exact λ{k i} h=>jg h (λe h=>⟨0,(ay h).symm,bJ some (jO e)⟩) λ_ h=>let ⟨j,h1,h2⟩:=ih h;⟨j+1,h1.trans (Nat.add_right_comm ..),h2⟩
theorem jr{fs:List Nat}{n i:Nat}(h:aC fs n=some i):fs[i]?=some n:=by
 obtain⟨j,h1,h2⟩:=vH h;rw[h1,Nat.zero_add];exact h2
theorem ui{fs:List Nat}{n m i:Nat}(h:aC fs n=some i)(h':aC fs m=some i):n=m:=ay ((jr h).symm.trans (jr h'))
section
variable {C:Cx}{w:Wd}{ω:Nat→Option Addr}{P:PMap}{L:FL}{nms:Fc}{st:St}{A:Around}{E:Value→Shared→Prop}{s:Shared}
noncomputable abbrev Go(C:Cx)(w:Wd)(P:PMap)(L:FL)(nms:Fc)(st':St)(v:MV)(s:Shared)(Q:Value→Shared→Prop):Prop:=
 ∀w' ω' h' tk a,w.Ext w'→Fm C.N w' ω' P L nms st' h'→VRel C.N w' v a→Q a {s with heap:=h',toks:=tk}
theorem cy{N:Nm}{w:Wd}{v:MV}{x:Option Value}(h:ORel N w (some v) x):∃a,x=some a∧VRel N w v a:=h
theorem uj{N:Nm}{w:Wd}{x:Option Value}(h:ORel N w none x):x=none:=h
theorem eB{N:Nm}{h:Heap}{x C dx:Addr}{od:Obj}(hx:h.get? x=some (instObj C dx))(hd:h.get? dx=some od):InstAt h x (instObj C dx) C (some od):=⟨hx,rfl,rfl,hd⟩
theorem pX(O:CxOk C)(F:Fm C.N w ω P L nms st s.heap){x dx:Addr}{c n i:Nat}{od:Obj}{m:Str→Option Value}{v:MV}{a:Value}{Q:Value→Shared→Prop}{expr:Bool}
  (K:ClsOk C c) (hx:s.heap.get? x=some (instObj (C.N.cla c) dx)) (hd:s.heap.get? dx=some od) (hm:ky od m) (hn:n<C.N.natr) (hi:aC (C.N.T.clsFields c) n=some i)
  (e:m (C.N.nm n)=some a) (hr:VRel C.N w v a) (k:Go C w P L nms st v s Q):wpAny (model C.prog C.wd) A (getAttr (.ref x) (C.N.nm n) expr) Q E s:=
 get_value (O.In F.sh) (eB (N:=C.N) hx hd) K.ga (findObj_own K.hd (K.fld n i hn hi) rfl (by rw[et hm,e])) (uh O hr) (k w ω s.heap _ a (.refl w) F hr)
theorem pY(O:CxOk C)(F:Fm C.N w ω P L nms st s.heap){x dx:Addr}{c n:Nat}{od:Obj}{m:Str→Option Value}{v:MV}{Q:Value→Shared→Prop}{expr:Bool}
  (K:ClsOk C c) (hx:s.heap.get? x=some (instObj (C.N.cla c) dx)) (hd:s.heap.get? dx=some od) (hm:ky od m) (hn:n<C.N.natr) (hv:C.N.T.clsAttr c n=some v)
  (e:m (C.N.nm n)=none) (k:Go C w P L nms st v s Q):wpAny (model C.prog C.wd) A (getAttr (.ref x) (C.N.nm n) expr) Q E s:=by
 obtain⟨a,_,k1,k2,k3,k4,k5⟩:=K.att n v hn hv;exact get_value (O.In F.sh) (eB (N:=C.N) hx hd) K.ga (findObj_cls K.hd k1 k2 k3 k4 (by rw[et hm,e])) k3 (k w ω s.heap _ a (.refl w) F (k5 w F.sh.base))
theorem uk(O:CxOk C)(F:Fm C.N w ω P L nms st s.heap){x dx:Addr}{c n f:Nat}{l:Loc}{od:Obj}{m:Str→Option Value}{Q:Value→Shared→Prop}{expr:Bool}
  (K:ClsOk C c) (hl:w.ρ l=some x) (hx:s.heap.get? x=some (instObj (C.N.cla c) dx)) (hd:s.heap.get? dx=some od) (hm:ky od m) (hn:n<C.N.natr) (hv:C.N.T.clsMeth c n=some f)
  (e:m (C.N.nm n)=none) (k:Go C w P L nms st (.meth f l) s Q):wpAny (model C.prog C.wd) A (getAttr (.ref x) (C.N.nm n) expr) Q E s:=by
 obtain⟨_,k1,k2,k3,k4,k5,k6⟩:=K.mth n f hn hv
 refine get_bind (O.In F.sh) (eB (N:=C.N) hx hd) K.ga (findObj_fn K.hd k1 k3 k4 k5 (by rw[et hm,e])) K.gk
  (wpAny_call (fn_get (s:={s with toks:=s.toks+1}) (O.In F.sh) (beq_iff_eq.mp k2) (handed_on rfl ?_)))
 obtain⟨x',F'⟩:=F.addNew (h':=s.heap.push (methodObj (.ref (C.N.fna f)) (.ref x))) (λb o e=>Heap.get?_push_of_some _ e) (a:=s.heap.objs.size) (o:=methodObj (.ref (C.N.fna f)) (.ref x))
  (Heap.get?_none_of_le (cz _)) (Heap.get?_push_size _ rfl)
 exact k _ _ _ _ _ x' F' (MethR.mk k6 (x'.ρ _ _ hl) Wd.add_at)
inductive SlotAt (C:Cx) (w:Wd) (h:Heap) (x:Addr) (c:Nat) (g:Nat→Option MV):Prop
 |mk {dx:Addr} {od:Obj} {m:Str→Option Value} {b:Nat} (K:ClsOk C c) (hx:h.get? x=some (instObj (C.N.cla c) dx)) (hd:h.get? dx=some od) (hm:isNsB od m b) (hf:∀n,n<C.N.natr→ORel C.N w (g n) (m (C.N.nm n)))
  (hg:∀n v,g n=some v→ ∃i,aC (C.N.T.clsFields c) n=some i)
theorem yt(O:CxOk C){sh:Sto}(S:Sh C.N w P sh s.heap){l:Loc}{x:Addr}(hl:w.ρ l=some x){p:Nat×(Nat→Option MV)}(e:slot C.N.T sh l=some p):SlotAt C w s.heap x p.1 p.2:=by
 cases l with
 |em=>
   obtain⟨E,h1,rfl⟩:=aV e;obtain⟨o,hx,d,hd,rfl⟩:=S.cont _ _ hl;obtain⟨od,hdx,E',hE',m,hm,hf⟩:=S.cont _ _ hd;rw[ay (h1.symm.trans hE')];exact⟨O.cls _ O.em,hx,hdx,hm,hf,λn v h=>ad h λi h _=>⟨i,h⟩⟩
 |tmp=>
   obtain⟨E,h1,rfl⟩:=aV e;obtain⟨o,hx,p,hE',hc,d,hd,rfl⟩:=S.cont _ _ hl;obtain rfl:=ay (h1.symm.trans hE');obtain⟨od,hdx,p',hE',_,m,hm,hf⟩:=S.cont _ _ hd;obtain rfl:=ay (h1.symm.trans hE');exact⟨O.cls _ hc,hx,hdx,hm,hf,λn v h=>ad h λi h _=>⟨i,h⟩⟩
 |_=>exact aG e
theorem oA(O:CxOk C){v r:MV}{n:Nat}{a:Value}{Q:Value→Shared→Prop}{expr:Bool}(F:Fm C.N w ω P L nms st s.heap)(h:VRel C.N w v a)(e:tZ C.N.T st.sh v n=some r)(hn:n<C.N.natr)
  (k:Go C w P L nms st r s Q):wpAny (model C.prog C.wd) A (getAttr a (C.N.nm n) expr) Q E s:=by
 have S:=F.sh;refine pP e (λe=>ad e λp h1 e=>?_) λe=>ad e λl h1 e=>ad e λp h2 e=>?_
 ·obtain⟨vals,hr,⟨hc,hq,hd,hm,hf⟩⟩:=VRel.inst_eq.mp (jW h1▸h)
  have hf:=hf n hn;cases hi:aC (C.N.T.clsFields p.1) n with
  |some i=>
   rw[hi] at e hf;obtain⟨b,hb,rb⟩:=hr.getN e;exact pX O F (O.cls _ hc) (S.frz _ _ hq) (S.frz _ _ hd) hm hn hi (hf.trans ((bG _ _).trans hb)) rb k
  |none=>rw[hi] at e hf;exact pY O F (O.cls _ hc) (S.frz _ _ hq) (S.frz _ _ hd) hm hn e hf k
 ·obtain⟨x,hl,rfl⟩:=(eL h1▸h:VRel C.N w (.loc l) a).loc_inv
  obtain⟨K,hx,hdx,hm,hf,hg⟩:=yt O S hl h2;have hf:=hf n hn;have hg:=hg n;cases hv:p.2 n with
  |some u=>
   rw[hv] at e hf;obtain⟨i,hi⟩:=hg _ hv;obtain⟨b,hb,rb⟩:=cy hf;exact pX O F K hx hdx hm.ns hn hi hb (ay e▸rb) k
  |none=>
   rw[hv] at e hf;refine pP (x:=C.N.T.clsAttr p.1 n) (y:=(C.N.T.clsMeth p.1 n).map (.meth · l)) e (λe=>pY O F K hx hdx hm.ns hn e hf k) λe=>bH e λf e1 e2=>uk O F K hl hx hdx hm.ns hn e1 hf (e2▸k)
end
open PySem PySem.W PyProof.Rows PySem.Calls PySem.Builtin PySem.Builtin.ObjectAttr
theorem pZ{prog:Program}{wd:World}{A:Around}{E:Value→Shared→Prop}{s:Shared}{K:Frag}{x C dx:Addr}{od:Obj}{m:Str→Option Value}{b:Nat}{name:Str}{v:Value}{Q:Unit→Shared→Prop}
  (X:K.In s.heap) (hx:s.heap.get? x=some (instObj C dx)) (hd:s.heap.get? dx=some od) (hm:isNsB od m b) (hb:b≤2000)
  (hs:findIn K (.ref C) "__setattr__" = some (some (.builtin "object.__setattr__"))) (hp:plainOver K C=true) (hf:findIn K (.ref C) name=some none) (hh:hasDictIn K C=true)
  (h:∀h' o' tk,Heap.SameBut dx s.heap h'→h'.get? dx=some o'→isNsB o' (λx=>if x=name then some v else m x) (if (m name).isSome then b else b+1)→Q () {s with heap:=h',toks:=tk}) :
  wpAny (model prog wd) A (setAttr (.ref x) name v) Q E s:=by
 have I:InstAt s.heap x (instObj C dx) C (some od):=⟨hx,rfl,rfl,hd⟩;refine set_plain X I hs (osa_open (s:={s with toks:=s.toks+1}) X I hp (by unfold takerIn;rw[hf];rfl) λbb=>?_)
 obtain⟨cd,hc,hd'⟩:=any_some hh;refine aM (fj (aM (aM (wpAny_loadPart hx (aM (Looks.here (s:={s with toks:=s.toks+1}) (looks_clsIn X hc) ?_))))))
 rw[hd'];refine fj (a:=some dx) (aM (fj (aM (vG (s:={s with toks:=s.toks+1}) hd hm λh' o' hs' ho' hm'=>?_))))
 obtain⟨es,ep,k1,k2,_⟩:=hm';refine aM (wpAny_lookBehind (s:={s with heap:=h',toks:=s.toks+1+1}) ho' (by rw[k1];exact pastItsLine_dict (by rw[sizeLine_eq];split at k2<;>omega)) ?_)
 exact fj (h _ _ _ hs' ho' ⟨es,ep,k1,k2,by assumption⟩)
section
variable {C:Cx}{w:Wd}{ω:Nat→Option Addr}{P:PMap}{L:FL}{nms:Fc}{st:St}{A:Around}{E:Value→Shared→Prop}{s:Shared}
theorem lY{N:Nm}{w:Wd}{sh sh':Sto}{l d:Loc}{o:Obj}(hd:(d= .emD∧sh'.tmp=sh.tmp)∨(d= .tmpD∧sh'.em=sh.em∧ ∃c fs fs',sh.tmp=some (c,fs)∧sh'.tmp=some (c,fs')))(hne:l≠d)(hl:∀l,be l=true→ap sh' l=ap sh l)
  (h:Cont N w sh l o):Cont N w sh' l o:=by
 cases l with
 |em=>exact h
 |emD=>
  rcases hd with ⟨rfl,_⟩ | ⟨_,e,_⟩
  ·exact absurd rfl hne
  ·exact(by rw[e];exact h:∃E,sh'.em=some E∧_)
 |tmp=>
  rcases hd with ⟨_,e⟩ | ⟨_,_,c,fs,fs',e,e'⟩
  ·exact(by rw[e];exact h:∃p,sh'.tmp=some p∧_)
  ·obtain⟨p,h1,h2⟩:=h
   obtain rfl:=ay (e.symm.trans h1);exact⟨_,e',h2⟩
 |tmpD=>
  rcases hd with ⟨_,e⟩ | ⟨rfl,_⟩
  ·exact(by rw[e];exact h:∃p,sh'.tmp=some p∧_)
  ·exact absurd rfl hne
 |states=>exact(by rw[show sh'.states=_ from hl .states rfl];exact h:ListR N w sh'.states o)
 |events=>exact(by rw[show sh'.events=_ from hl .events rfl];exact h:ListR N w sh'.events o)
 |indents=>exact(by rw[show sh'.indents=_ from hl .indents rfl];exact h:ListR N w sh'.indents o)
 |rows=>exact(by rw[show sh'.rows=_ from hl .rows rfl];exact h:ListR N w sh'.rows o)
 |tape=>exact(by rw[show sh'.tape=_ from hl .tape rfl];exact h:ListR N w sh'.tape o)
 |due=>exact(by rw[show sh'.due=_ from hl .due rfl];exact h:ListR N w sh'.due o)
theorem vJ{α:Type}{fs:List Nat}{l:List α}{n i:Nat}{x z:α}(hi:aC fs n=some i)(hz:c0 l i=some z)(q:Nat):(aC fs q).bind (c0 (eg l i x))=if q=n then some x else (aC fs q).bind (c0 l):=by
 have hl:i<l.length:=(List.getElem?_eq_some_iff.mp ((bG l i).symm.trans hz)).1;by_cases e:q=n
 ·rw[cw e,e,hi,mY,bG,ei,List.getElem?_set,cw rfl,cw hl]
 ·rw[bL e]
  cases hj:aC fs q with
  |none=>rfl
  |some j=>
   have ne:¬i=j:=λz=>e (ui hj (z▸hi));rw[mY,mY,bG,bG,ei,List.getElem?_set,bL ne]
theorem p6{C:Cx}{w:Wd}{b:Nat}{g g':Nat→Option MV}{m:Str→Option Value}{o:Obj}{n:Nat}{y:MV}{v:Value}(O:CxOk C)(hn:n<C.N.natr)(hm:isNsB o (λx=>if x=C.N.nm n then some v else m x) b)(hy:VRel C.N w y v)
  (hf:∀n,n<C.N.natr→ORel C.N w (g n) (m (C.N.nm n))) (hg:∀q,g' q=if q=n then some y else g q):DictR C.N w b g' o:=by
 refine⟨_,hm,λq hq=>?_⟩;rw[hg q];by_cases e:q=n
 ·rw[cw e,cw (bJ C.N.nm e)];exact⟨_,rfl,hy⟩
 ·rw[bL e,bL λz=>e (O.inj _ _ hq hn z)];exact hf q hq
theorem sR(O:CxOk C){v y:MV}{n:Nat}{a b:Value}{sh':Sto}{Q:Unit→Shared→Prop}(F:Fm C.N w ω P L nms st s.heap)(h:VRel C.N w v a)(hy:VRel C.N w y b)
  (e:rc C.N.T st.sh v n y=some sh') (hn:n<C.N.natr)
  (k:∀h' tk,Fm C.N w ω P L nms {st with sh:=sh'} h'→Q () {s with heap:=h',toks:=tk}):wpAny (model C.prog C.wd) A (setAttr a (C.N.nm n) b) Q E s:=by
 have S:=F.sh;obtain⟨l,h1,e⟩:=bind_some e;obtain⟨x,hl,rfl⟩:=(eL h1▸h:VRel C.N w (.loc l) a).loc_inv;cases l with
 |em=>
  obtain⟨Em,hE,e⟩:=bind_some e;obtain⟨Em',hE',rfl⟩:=aV e;obtain⟨i,hi,e⟩:=bind_some hE';obtain⟨z,hz,rfl⟩:=aV e;have K:=O.cls _ O.em;obtain⟨o,hx,d,hd,rfl⟩:=S.cont _ _ hl;obtain⟨od,hdx,E2,h2,m,hm,hf⟩:=S.cont _ _ hd;obtain rfl:=ay (hE.symm.trans h2);have hfn:=hf n hn;unfold pM at hfn;rw[hi,mY,hz] at hfn;obtain⟨bo,hbo,_⟩:=cy hfn;refine pZ (O.In S) hx hdx hm (by omega) K.sa K.po (K.fld n i hn hi) K.hd λh' o' tk hs ho' hm'=>k h' tk ?_
  rw[hbo] at hm'
  exact F.setSh hd hs ho' ⟨_,rfl,p6 O hn hm' hy hf λq=>vJ hi hz q⟩ (λl' hl' o h=>lY (sh:=st.sh) (.inl ⟨rfl,rfl⟩) hl' (λl h=>by cases l<;>first | rfl | exact aB h) h) λl'=>by
   cases l'<;>first | rfl | (show true=st.sh.em.isSome;rw[hE];rfl)
 |tmp=>
  obtain⟨⟨c,fs⟩,hE,e⟩:=bind_some e;obtain⟨fs',hE',rfl⟩:=aV e;obtain⟨i,hi,e⟩:=bind_some hE';obtain⟨z,hz,rfl⟩:=aV e;obtain⟨o,hx,p,hp,hc,d,hd,rfl⟩:=S.cont _ _ hl;obtain rfl:=ay (hE.symm.trans hp);have K:=O.cls _ hc;obtain⟨od,hdx,p,hp,hlen,m,hm,hf⟩:=S.cont _ _ hd;obtain rfl:=ay (hE.symm.trans hp);have hfn:=hf n hn;unfold iy at hfn;rw[hi,mY,hz] at hfn;have hz':=(bG _ _).symm.trans hz;have hcl:=vF fs;have hK:(C.N.T.clsFields c).length≤900:=K.len;refine pZ (O.In S) hx hdx hm (by dsimp only at hlen ⊢;omega) K.sa K.po (K.fld n i hn hi) K.hd λh' o' tk hs ho' hm'=>k h' tk ?_
  have hb:(if (m (C.N.nm n)).isSome then dZ fs else dZ fs+1)=dZ (eg fs i (some y)):=by
   rw[ei,sQ (List.getElem?_eq_some_iff.mp hz').1,hz'];cases z with
   |none=>rw[show m _=none from hfn];rfl
   |some z=>obtain⟨bo,hbo,_⟩:=cy hfn;rw[hbo];rfl
  rw[hb] at hm';refine F.setSh hd hs ho' ⟨_,rfl,by rw[ei,List.length_set];exact hlen,p6 O hn hm' hy hf λq=>?_⟩ (λl' hl' o h=>lY (sh:=st.sh) (.inr ⟨rfl,rfl,c,fs,_,hE,rfl⟩) hl' (λl h=>by cases l<;>first | rfl | exact aB h) h) λl'=>?_
  ·have:=bJ (·.bind id) (vJ (x:=some y) hi hz q)
   unfold iy;rw[← Option.bind_assoc,← Option.bind_assoc];refine this.trans ?_;by_cases e:q=n
   ·rw[cw e,cw e];rfl
   ·rw[bL e,bL e]
  ·cases l'<;>first | rfl | (show true=st.sh.tmp.isSome;rw[hE];rfl)
 |_=>exact aG e
end
open PySem PySem.W PyProof.Rows PySem.Calls PySem.Builtin
theorem rv(n:Nat)(i:Int):qV n i=seqIndex? i n:=by
 rw[lj];unfold seqIndex?;by_cases h:i<0
 ·rw[bL (by omega)];simp only [h,if_true]
  by_cases h2:0≤i+n
  ·rw[cw h2,cw (by simp only [Bool.and_eq_true,decide_eq_true_eq];omega)]
  ·rw[bL h2,bL (by simp only [Bool.and_eq_true,decide_eq_true_eq];omega)]
 ·rw[cw (by omega)];simp only [h,if_false]
  by_cases h2:i<n
  ·rw[cw h2,cw (by simp only [Bool.and_eq_true,decide_eq_true_eq];omega)]
  ·rw[bL h2,bL (by simp only [Bool.and_eq_true,decide_eq_true_eq];omega)]
theorem j3{n:Nat}{i:Int}{j:Nat}(h:qV n i=some j):-(n:Int)≤i∧i<n∧j<n:=by
 rw[lj] at h;split at h
 ·split at h
  ·cases h;omega
  ·cases h
 ·split at h
  ·cases h;omega
  ·cases h
section
variable {prog:Program}{wd:World}{A:Around}{E:Value→Shared→Prop}{s:Shared}
theorem ul{q:Addr}{vals:List Value}{i:Int}{t:Tok}{j:Nat}{x:Value}{Q:Value→Shared→Prop}(hl:s.heap.IsList q vals.toArray)(hn:vals.length≤ak)
  (hi:qV vals.length i=some j) (hx:vals[j]?=some x) (h:Q x s):wpAny (model prog wd) A (getItem (.ref q) (.int i t)) Q E s:=by
 obtain⟨h1,h2,h3⟩:=j3 hi;rw[lj] at hi;unfold ak at hn;by_cases h0:0≤i
 ·rw[cw h0,cw h2] at hi;cases hi
  exact wpAny_getItem_list hl (by omega) (by omega) (by simpa using hx) h
 ·rw[bL h0,cw (by omega)] at hi;cases hi
  exact wpAny_getItem_list_neg hl (by omega) (by simpa using h1) (by omega) (by simpa using hx) h
theorem vK{q:Addr}{vals:List Value}{i:Int}{t:Tok}{j:Nat}{x:Value}{Q:Value→Shared→Prop}(hl:IsTup s.heap q vals.toArray)(hn:vals.length≤ak)
  (hi:qV vals.length i=some j) (hx:vals[j]?=some x) (h:Q x s):wpAny (model prog wd) A (getItem (.ref q) (.int i t)) Q E s:=by
 obtain⟨h1,h2,h3⟩:=j3 hi;unfold ak at hn;exact getItem_tuple hl (by omega) (by omega) (by rw[nk,← rv];exact hi) (by simpa using hx) h
theorem vM{x:Tx}{t u:Tok}{i:Int}{j c:Nat}{Q:Value→Shared→Prop}(hn:x.length≤ak)(hi:qV x.length i=some j)(hx:x[j]?=some c)
  (h:∀t tk,Q (.str (aj [c]) t) {s with toks:=tk}):wpAny (model prog wd) A (getItem (.str (aj x) t) (.int i u)) Q E s:=by
 obtain⟨h1,h2,h3⟩:=j3 hi;unfold ak at hn;refine PySem.P.getItem_str (c:=c) ?_ ?_ (h _ _)
 ·simp only [Bool.or_eq_false_iff,decide_eq_false_iff_not];omega
 ·rw[az,← rv,hi]
  show x.toArray[j]?=some c;simpa using hx
end
def js (ex:Expr):Prop:=∀o i,subscripted ex false o i=operate [o,i] (getItem o i)
noncomputable def yu(kvs:List (Tx×Tx)):List (Str×Value)→Prop:=List.rec (motive:=λ_=>List (Str×Value)→Prop) (λvs=>vs=[]) (λp _ ih vs=>∃t r,p.2.length≤ak∧vs=(aj p.1,.str (aj p.2) t)::r∧ih r) kvs
theorem p7{prog:Program}{wd:World}{kvs:List (Tx×Tx)}:∀{es},sH wd.params kvs es→ ∃vs,yu kvs vs∧Pairs (strKind prog wd) es vs∧KeysOf (strKind prog wd) es.toArray:=by
 induction kvs with
 |nil=>intro es h;obtain rfl:=h;exact⟨[],rfl,.nil,λe he=>absurd (List.mem_toArray.mp he) nX⟩
 |cons p r ih=>
  intro es h;obtain⟨t,t',r',hk,hv,rfl,h⟩:=h;obtain⟨vs,h1,h2,h3⟩:=ih h;refine⟨_,⟨t',vs,hv,rfl,h1⟩,.cons (strKind_is prog wd (aj p.1) t) rfl h2,λe he=>?_⟩;rcases qkz.mp (List.mem_toArray.mp he) with rfl | he
  ·exact⟨aj p.1,strKind_is prog wd (aj p.1) t,rfl⟩
  ·exact h3 e (List.mem_toArray.mpr he)
theorem D8{k x:Tx}{kvs:List (Tx×Tx)}:∀{vs},yu kvs vs→kvs.lookup k=some x→x.length≤ak∧ ∃t,valueAt vs (aj k)=some (.str (aj x) t):=by
 induction kvs with
 |nil=>intro vs _ h;exact aG h
 |cons p r ih=>
  intro vs q h;obtain⟨t,r',hv,rfl,q⟩:=q;by_cases e:k=p.1
  ·subst e
   rw[kN,beq_self_eq_true] at h;obtain rfl:=ay h;exact⟨hv,t,by unfold valueAt;simp⟩
  ·rw[kN,show (k==p.1)=false from beq_eq_false_iff_ne.mpr e] at h
   obtain⟨hx,t,ht⟩:=ih q h;refine⟨hx,t,?_⟩;unfold valueAt at ht ⊢;rw[List.find?_cons_of_neg (by simpa using λz=>e (jV z).symm)]
   exact ht
open PySem PySem.W PyProof.Rows PySem.Calls PySem.Builtin PySem.Builtin.Str
section
variable {C:Cx}{w:Wd}{ω:Nat→Option Addr}{P:PMap}{L:FL}{nms:Fc}{st:St}{A:Around}{E:Value→Shared→Prop}{s:Shared}
theorem Go.here{r:MV}{a:Value}{Q:Value→Shared→Prop}(k:Go C w P L nms st r s Q)(F:Fm C.N w ω P L nms st s.heap)(h:VRel C.N w r a):∀tk,Q a {s with toks:=tk}:=λtk=>
 k w ω s.heap tk a (.refl w) F h
theorem Bq(O:CxOk C){v i r:MV}{a b:Value}{vx ex:Expr}{Q:Value→Shared→Prop}(F:Fm C.N w ω P L nms st s.heap)(h:VRel C.N w v a)(hi:VRel C.N w i b)(e:fx st.sh v i=some r)
  (hs:js ex) (k:Go C w P L nms st r s Q):wpAny (model C.prog C.wd) A (subscriptTail vx ex a b) Q E s:=by
 have S:=F.sh;refine pP e (λe=>ad e λi h1 e=>?_) λe=>ad e λx h1 e=>ad e λkvs h2 e=>bH e λy h3 e=>?_
 ·obtain⟨t,rfl⟩:=(bz h1▸hi:VRel C.N w (.int i) b).int_inv
  refine pP e (λe=>ad e λvs h2 e=>ad e λj hj e=>?_) λe=>pP e (λe=>ad e λvs h2 e=>ad e λj hj e=>?_) λe=>ad e λx h2 e=>ad e λj hj e=>bH e λc hc e=>?_
  ·obtain⟨hl,hr,hn⟩:=gI S h2 h
   obtain⟨x,hx,rx⟩:=hr.getN e;exact tail_any hl.typeIs slot_list_getitem.lookup (ul hl hn (hr.length_eq▸hj) hx (k.here F rx s.toks)) (hs _ _)
  ·obtain⟨hq,hc,hd,hr,hn⟩:=oo S (ji h2▸h)
   obtain⟨x,hx,rx⟩:=hr.getN e;have hl:IsTup s.heap _ _:=⟨_,hq,hc,_,hd⟩;exact tail_any hl.typeIs PyProof.Rows.slot_tuple_getitem.lookup (vK hl hn (hr.length_eq▸hj) hx (k.here F rx s.toks)) (hs _ _)
  ·obtain⟨hl,t,rfl⟩:=(bg h2▸h:VRel C.N w (.str x) a).str_inv
   subst e;exact tail_any (typeIs_str _ _ _) PySem.F.slot_str_getitem.lookup (vM hl hj ((bG _ _).symm.trans hc) λt tk=>k.here F (.str t (by show 1≤ak;decide)) tk) (hs _ _)
 ·obtain⟨_,t,rfl⟩:=(bg h1▸hi:VRel C.N w (.str x) b).str_inv
  subst e;cases ((on h2▸h:VRel C.N w (.sd kvs) a):SdR C.N w kvs a) with | mk hnd hlo hq hr=>
  rw[← O.par] at hr;obtain⟨vs,h1,h2,h3'⟩:=p7 (prog:=C.prog) hr;obtain⟨hx,t',hv⟩:=D8 h1 h3;have hm:s.heap.MapOf (strKind C.prog C.wd) _ (valueAt vs):=⟨_,_,_,S.frz _ _ hq,⟨rfl,rfl,rfl⟩,rfl,h3',λk=>by rw[← h2.find k];unfold findBy;rw[← Array.find?_toList]⟩
  exact tail_any hm.typeIs slot_dict_getitem.lookup (wpAny_getItem_of (strKind_is _ _ _ _) hm hv (k.here F (.str t' hx) _)) (hs _ _)
theorem p8{N:Nm}{n d k:Nat}{m:MV}{v:Value}(h:VRel N w m v)(e:GT n d m=some k):∃p:Option (Int×Tok),v=partValue p∧k=(p.map (·.1)).elim d (clipAt n):=by
 refine jg e (λe1 e=>?_) λ_ e=>bH e λi h1 e=>?_
 ·obtain rfl:=jX e1
  exact⟨none,h,(ay e).symm⟩
 ·obtain⟨t,rfl⟩:=(bz h1▸h:VRel N w (.int i) v).int_inv
  exact⟨some (i,t),rfl,e.symm⟩
theorem yv{n:Nat}{p:Option Int}:p.elim n (clipAt n)≤n:=by
 cases p with
 |none=>exact cz _
 |some i=>
  have:=clipAt_cast n i;show clipAt n i≤n;split at this<;>omega
theorem nv(p:Option (Int×Tok)):IsPart (partValue p) (p.map (·.1)):=by
 rcases p with _ | ⟨i,t⟩
 ·exact .none
 ·exact .int i t
theorem jt{N:Nm}{α:Type}{xs r:List α}{lo hi:MV}{vl vh:Value}(h1:VRel N w lo vl)(h2:VRel N w hi vh)(e:n0 xs lo hi=some r) :
  ∃p q:Option (Int×Tok),vl=partValue p∧vh=partValue q∧r=(xs.drop ((p.map (·.1)).elim 0 (clipAt xs.length))).take ((q.map (·.1)).elim xs.length (clipAt xs.length)-(p.map (·.1)).elim 0 (clipAt xs.length)):=by
 obtain⟨a,ha,e⟩:=bind_some e;obtain⟨b,hb,e⟩:=bind_some e;cases e;obtain⟨p,rfl,rfl⟩:=p8 h1 ha;obtain⟨q,rfl,rfl⟩:=p8 h2 hb;exact⟨p,q,rfl,rfl,by rw[List.drop_take]⟩
theorem VRels.slice{N:Nm}{vs:List MV}{vals:List Value}(h:VRels N w vs vals)(a b:Nat):VRels N w ((vs.drop a).take b) ((vals.drop a).take b):=(h.drop a).take b
theorem D9(lo hi:Option Int)(n:Nat):strSliceIndices lo hi 1 n=(List.range (hi.elim n (clipAt n)-lo.elim 0 (clipAt n))).map (lo.elim 0 (clipAt n)+ ·):=by
 rw[← sliceRange_one];unfold strSliceIndices;cases lo<;>cases hi<;>simp [clipAt_cast]
theorem um{x r:Tx}{t:Tok}(hxl:x.length≤ak){p q:Option (Int×Tok)}{sl:Addr}{Q:Value→Shared→Prop}(hs:s.heap.IsSlice sl p q none)
  (e:r=(x.drop ((p.map (·.1)).elim 0 (clipAt x.length))).take ((q.map (·.1)).elim x.length (clipAt x.length)-(p.map (·.1)).elim 0 (clipAt x.length)))
  (h:∀t tk,Q (.str (aj r) t) {s with toks:=tk}):wpAny (model C.prog C.wd) A (getItem (.str (aj x) t) (.ref sl)) Q E s:=by
 refine wpAny_getItem_str_slice hs rfl ?_;have hle:(q.map (·.1)).elim x.length (clipAt x.length)≤x.length:=yv
 unfold sliceMade slicePicked;rw[az];show Made.post (if ((1:Int)==1&&(strSliceIndices (p.map (·.1)) (q.map (·.1)) 1 x.length).length==x.length)=true then _ else Made.str ⟨((strSliceIndices (p.map (·.1)) (q.map (·.1)) 1 x.length).filterMap _).toArray⟩) Q s
 rw[D9,PySem.pick_run,a8];generalize (q.map (·.1)).elim x.length (clipAt x.length)=b at *
 split
 ·rename_i hb
  have hb:b-((p.map (·.1)).elim 0 (clipAt x.length))=x.length:=by simpa using hb
  have ha:(p.map (·.1)).elim 0 (clipAt x.length)=0∨x.length=0:=by omega
  have:r=x:=by
   rw[e];rcases ha with ha | ha
   ·rw[ha] at hb ⊢
    rw[List.drop_zero,List.take_of_length_le (by omega)]
   ·have:x=[]:=xT ha
    subst this;simp
  subst this;exact h t s.toks
 ·subst e
  exact⟨by show (List.toArray _).size≤sizeLine;rw[nk,List.length_take,List.length_drop,ar];omega,h _ _⟩
theorem Ea(O:CxOk C){v lo hi r:MV}{a vl vh:Value}{vx:Expr}{lx hx:Option Expr}{p:Pos}{sl:Addr}{Q:Value→Shared→Prop}(F:Fm C.N w ω P L nms st s.heap)(h:VRel C.N w v a)
  (h1:VRel C.N w lo vl) (h2:VRel C.N w hi vh) (hsl:s.heap.get? sl=some {cls:=.type "slice",data:=.fields #[vl,vh,.none]}) (e:GW st.sh v lo hi=some r)
  (k:Go C w P L nms st r s Q):wpAny (model C.prog C.wd) A (subscriptTail vx (.Slice lx hx none p) a (.ref sl)) Q E s:=by
 have S:=F.sh
 have lists:∀{q:Addr} {vs ws:List MV} {vals:List Value},s.heap.IsList q vals.toArray→VRels C.N w vs vals→vals.length≤ak→n0 vs lo hi=some ws→r= .lst ws→wpAny (model C.prog C.wd) A (subscriptTail vx (.Slice lx hx none p) (.ref q) (.ref sl)) Q E s:=by
  intro q vs ws vals hl hr hn e' er;subst er;obtain⟨p1,p2,rfl,rfl,hw⟩:=jt h1 h2 e';refine tail_any hl.typeIs slot_list_getitem.lookup (wpAny_getItem_list_slice hl ⟨_,hsl,rfl,rfl⟩ (nv p1) (nv p2) (.none) (by intro z;cases z) ?_ (by rw[nk];exact hn)) rfl
  rw[slicePick_plain,nk];rw[hr.length_eq] at hw;obtain⟨x,F'⟩:=F.addNew (h':=s.heap.push (listOf ((vals.drop ((p1.map (·.1)).elim 0 (clipAt vals.length))).take ((p2.map (·.1)).elim vals.length (clipAt vals.length)-(p1.map (·.1)).elim 0 (clipAt vals.length))).toArray 0)) (λb o e=>Heap.get?_push_of_some _ e) (a:=s.heap.objs.size) (Heap.get?_none_of_le (cz _)) (Heap.get?_push_size _ rfl)
  refine k _ _ _ s.toks _ x F' (.lst Wd.add_at ⟨?_,rfl,0,rfl⟩ ?_)
  ·exact iE (iE (List.length_take_le' ..) (by rw[List.length_drop];exact Nat.sub_le ..)) hn
  ·rw[hw];exact(hr.slice _ _).mono x
 refine pP e (λe=>ad e λvs h3 e=>bH e λws he er=>?_) λe=>ad e λx h3 e=>bH e λws he er=>?_
 ·obtain⟨hl,hr,hn⟩:=gI S h3 h
  exact lists hl hr hn he er.symm
 ·subst er
  obtain⟨p1,p2,rfl,rfl,hw⟩:=jt h1 h2 he;obtain⟨hl,t,rfl⟩:=(bg h3▸h:VRel C.N w (.str x) a).str_inv;refine tail_any (typeIs_str _ _ _) PySem.F.slot_str_getitem.lookup (um hl ⟨_,hsl,rfl,rfl⟩ hw λt tk=>k.here F (.str t ?_) tk) rfl;rw[hw];exact iE (iE (List.length_take_le' ..) (by rw[List.length_drop];exact Nat.sub_le ..)) hl
end
open PySem PySem.W PyProof.Rows PySem.Calls PySem.Builtin
noncomputable def j6(names taken:List Str):List (Str×Value)→Bool
 |[]=>true
 |(n,_)::r=>names.contains n&& !taken.contains n&&j6 names (n::taken) r
theorem cQ{n:Str}:∀{l r:List (Str×Value)},(l++r).lookup n=match l.lookup n with | some v=>some v | none=>r.lookup n
 |[],r=>rfl
 |(k,v)::l,r=>by
  rw[List.cons_append,kN,kN];cases q:(n==k) with
  |true=>rfl
  |false=>exact cQ
section
variable {M:Model}{A:Around}{E:Value→Shared→Prop}{s:Shared}
theorem vN{names:List Str}{body:Str×Value→List (Str×Value)×List (Str×Value)→Sem (ForInStep (List (Str×Value)×List (Str×Value)))}
  (hb:∀k v sl,names.contains k=true→(sl.lookup k).isSome=false→body (k,v) (sl,[])=pure (.yield (sl++[(k,v)],[]))) {Q:List (Str×Value)×List (Str×Value)→Shared→Prop} :
  ∀{kws slots:List (Str×Value)} {taken:List Str},j6 names taken kws=true→(∀n,(slots.lookup n).isSome=true→taken.contains n=true)→Q (slots++kws,[]) s→wpAny M A (forIn kws (slots,[]) body) Q E s
 |[],slots,taken,_,_,h=>by rw[List.forIn_nil];rw[fw] at h;exact fj h
 |(k,v)::r,slots,taken,hk,ht,h=>by
  simp only [j6,Bool.and_eq_true,Bool.not_eq_true'] at hk;obtain⟨⟨k1,k2⟩,k3⟩:=hk
  have k4:(slots.lookup k).isSome=false:=by
   cases q:(slots.lookup k).isSome with
   |false=>rfl
   |true=>rw[ht k q] at k2;cases k2
  rw[List.forIn_cons,hb k v slots k1 k4];refine aM (fj (vN hb k3 (λn hn=>?_) (by rw[cu];exact h)))
  rw[cQ] at hn;cases q:slots.lookup n with
  |some x=>rw[List.contains_cons,ht n (by rw[q];rfl),Bool.or_true]
  |none=>
   rw[q] at hn;dsimp only at hn;rw[kN] at hn;cases q2:(n==k) with
   |true=>rw[List.contains_cons,q2];rfl
   |false=>rw[q2] at hn;cases hn
theorem ry{body:Str×Value→List (Str×Value)→Sem (ForInStep (List (Str×Value)))}
  (hb:∀k v sl,body (k,v) sl=if (sl.lookup k).isNone=true then pure (.yield (sl++[(k,v)])) else pure (.yield sl)) {Q:List (Str×Value)→Shared→Prop} :
  ∀{ds slots:List (Str×Value)},(∀sl,(∀n,sl.lookup n=(slots++ds).lookup n)→Q sl s)→wpAny M A (forIn ds slots body) Q E s
 |[],slots,h=>by rw[List.forIn_nil];exact fj (h _ λn=>by rw[fw])
 |(k,v)::r,slots,h=>by
  rw[List.forIn_cons,hb k v slots];split
  ·exact aM (fj (ry hb λsl hs=>h sl λn=>by rw[hs,cu];rfl))
  ·rename_i q
   refine aM (fj (ry hb λsl hs=>h sl λn=>?_));rw[hs,cQ,cQ];cases q1:slots.lookup n with
   |some x=>rfl
   |none=>
    dsimp only;rw[kN];cases q2:(n==k) with
    |false=>rfl
    |true=>
     rw[beq_iff_eq.mp q2] at q1;rw[q1] at q;exact absurd rfl q
end
theorem nw{n:Str}:∀{xs:List Str} {pos:List Value},((xs.zip pos).lookup n).isSome=true→(xs.take pos.length).contains n=true
 |[],_,h=>by cases h
 |x::xs,[],h=>by cases h
 |x::xs,p::pos,h=>by
  rw[List.zip_cons_cons,kN] at h;rw[List.length_cons,List.take_succ_cons,List.contains_cons];cases q:(n==x) with
  |true=>rfl
  |false=>rw[q] at h;rw[nw h];rfl
theorem Ag{M:Model}{A:Around}{E:Value→Shared→Prop}{s:Shared}{α:Type}{c:Prop}[Decidable c]{x y:Sem α}{Q:α→Shared→Prop}(hc:¬c)(h:wpAny M A y Q E s):wpAny M A (if c then x else y) Q E s:=by rw[bL hc];exact h
theorem yw{s:Shared}{fd:FuncData}{xs:List Str}{pos:List Value}{kws:List (Str×Value)}{ds:List Value}
  (h1:fd.params.posonlyargs=[]) (h2:fd.params.args.map (·.arg)=xs) (h3:fd.params.kwonlyargs=[]) (h4:fd.params.vararg=none) (h5:fd.params.kwarg=none)
  (hlen:pos.length≤xs.length) (hk:j6 xs (xs.take pos.length) kws=true)
  (hd:∀(M:Model) (A:Around) (E:Value→Shared→Prop) (Q:Option (Array Value)→Shared→Prop),(∀o:Option (Array Value),(o.getD #[]).toList=ds→Q o s)→wpAny M A (seqItems? fd.defaults) Q E s)
  (hdl:ds.length≤xs.length)
  (hall:∀x∈xs,((xs.zip pos++kws++(xs.drop (xs.length-ds.length)).zip ds).lookup x).isSome=true)
  (hreq:∀x∈xs.take (xs.length-ds.length),((xs.zip pos++kws).lookup x).isSome=true) :
  BindsTo s fd ⟨pos,kws⟩ (xs.filterMap λn=>((xs.zip pos++kws++(xs.drop (xs.length-ds.length)).zip ds).lookup n).map (n,·)):=by
 obtain⟨nm,qn,⟨po,as,va,ko,kd,kw,dfs⟩,bd,sc,cl,dV,kV⟩:=fd;dsimp only at h1 h2 h3 h4 h5 hd;subst h1 h2 h3 h4 h5;intro M A E Q hq;have hds:ds.drop (ds.length-(as.map (·.arg)).length)=ds:=by rw[show ds.length-(as.map (·.arg)).length=0 by omega];rfl
 have hmiss:(List.filter (λn=>(List.lookup n ((as.map (·.arg)).zip pos++kws)).isNone) (List.take ((as.map (·.arg)).length-ds.length) (as.map (·.arg))))=[]:=by
  rw[List.filter_eq_nil_iff];intro x hx;rw[← Option.not_isSome,hreq x hx];decide
 unfold bindArgs;refine aM (vN (names:=as.map (·.arg)) (λk v sl q1 q2=>?_) hk (λn=>nw) ?_)
 ·exact(cw (by show ((as.map (·.arg)).contains k||_)=true;rw[q1];rfl)).trans (bL (by rw[q2];decide))
 refine aM (hd _ _ _ _ λo ho=>?_);refine Ag (λz=>Nat.not_lt.mpr hlen (uS (ab z))) ?_;subst ho;have hdsl:=bJ List.length hds;refine Ag (λz=>?_) (aM (ry (λk v sl=>rfl) λsl hs=>?_))
 ·have z:(!(List.filter (λn=>(List.lookup n ((as.map (·.arg)).zip pos++kws)).isNone) (List.take ((as.map (·.arg)).length-(List.drop ((o.getD #[]).toList.length-(as.map (·.arg)).length) (o.getD #[]).toList).length) (as.map (·.arg)))).isEmpty)=true:=z
  rw[hdsl,hmiss] at z;exact aB z
 refine aM (fj (fj ?_))
 have e:(λn=>(sl.lookup n).map (n,·))=λn=>(((as.map (·.arg)).zip pos++kws++((as.map (·.arg)).drop ((as.map (·.arg)).length-(o.getD #[]).toList.length)).zip (o.getD #[]).toList).lookup n).map (n,·):=funext λn=>by
  rw[hs n];exact bJ (λd=>((((as.map (·.arg)).zip pos++kws++((as.map (·.arg)).drop ((as.map (·.arg)).length-List.length d)).zip d).lookup n).map (n,·))) hds
 show Q (((as.map Arg.arg)++[]).filterMap λn=>(sl.lookup n).map (n,·)) s
 rw[e,fw];exact hq
open PySem PySem.W PyProof.Rows PySem.Calls PySem.Builtin
noncomputable def LRel(N:Nm)(w:Wd)(l:List (Nat×MV)):List (Str×Value)→Prop:=List.rec (motive:=λ_=>List (Str×Value)→Prop) (λr=>r=[]) (λp _ ih r=>∃a r',p.1<N.natr∧r=(N.nm p.1,a)::r'∧VRel N w p.2 a∧ih r') l
section
variable {N:Nm}{w:Wd}(inj:∀n m,n<N.natr→m<N.natr→N.nm n=N.nm m→n=m)
theorem LRel.nil:LRel N w [] []:=rfl
theorem LRel.cons{n v a r r'}(hn:n<N.natr)(h:VRel N w v a)(t:LRel N w r r'):LRel N w ((n,v)::r) ((N.nm n,a)::r'):=⟨a,r',hn,rfl,h,t⟩
theorem LRel.cons_inv{p:Nat×MV}{r:List (Nat×MV)}{l:List (Str×Value)}(h:LRel N w (p::r) l):∃a r',p.1<N.natr∧l=(N.nm p.1,a)::r'∧VRel N w p.2 a∧LRel N w r r':=h
theorem LRel.mono{w':Wd}(x:w.Ext w'){l}:∀{l'},LRel N w l l'→LRel N w' l l':=by
 induction l with
 |nil=>exact λh=>h
 |cons p r ih=>intro l' h;obtain⟨a,r',hn,rfl,h,t⟩:=h.cons_inv;exact⟨a,r',hn,rfl,h.mono x,ih t⟩
theorem LRel.append{l r r'}(q:LRel N w r r'):∀{l'},LRel N w l l'→LRel N w (l++r) (l'++r'):=by
 induction l with
 |nil=>intro l' h;obtain rfl:=h;exact q
 |cons p r ih=>intro l' h;obtain⟨a,r',hn,rfl,h,t⟩:=h.cons_inv;exact⟨a,_,hn,rfl,h,ih t⟩
theorem LRel.zip{ids:List Nat}:∀{vs as},(∀n∈ids,n<N.natr)→VRels N w vs as→LRel N w (ids.zip vs) ((ids.map N.nm).zip as):=by
 induction ids with
 |nil=>exact λ_ _=>rfl
 |cons n ids ih=>
  intro vs as h q;cases vs with
  |nil=>obtain rfl:=q;exact rfl
  |cons v vs=>obtain⟨a,r,rfl,q,t⟩:=q.cons_inv;exact .cons (h n (.head _)) q (ih (λm hm=>h m (.tail _ hm)) t)
include inj in
theorem vO{n m:Nat}(hn:n<N.natr)(hm:m<N.natr):(N.nm n==N.nm m)=(n==m):=by
 by_cases q:n=m
 ·subst q;simp
 ·rw[show (n==m)=false from by simpa using q,beq_eq_false_iff_ne]
  exact λz=>q (inj n m hn hm z)
include inj in
theorem LRel.look{n:Nat}(hn:n<N.natr){l}:∀{l'},LRel N w l l'→ORel N w (l.lookup n) (l'.lookup (N.nm n)):=by
 induction l with
 |nil=>intro l' h;obtain rfl:=h;exact rfl
 |cons p r ih=>
  intro l' h;obtain⟨a,r',hm,rfl,h,t⟩:=h.cons_inv;rw[kN,kN,vO inj hn hm];cases q:(n==p.1) with
  |true=>exact⟨_,rfl,h⟩
  |false=>exact ih t
include inj in
theorem gJ{n:Nat}(hn:n<N.natr):∀{ids:List Nat},(∀m∈ids,m<N.natr)→(ids.map N.nm).contains (N.nm n)=ids.contains n
 |[],_=>rfl
 |m::ids,h=>by
  rw[List.map_cons,List.contains_cons,List.contains_cons,vO inj hn (h m (.head _)),gJ hn λk hk=>h k (.tail _ hk)]
include inj in
theorem Br{ids:List Nat}(hi:∀m∈ids,m<N.natr){kws}:∀{kvals} {taken:List Nat},(∀m∈taken,m<N.natr)→LRel N w kws kvals→su ids taken kws=true→j6 (ids.map N.nm) (taken.map N.nm) kvals=true:=by
 induction kws with
 |nil=>intro kvals taken _ h _;obtain rfl:=h;exact rfl
 |cons p r ih=>
  intro kvals taken ht h e;obtain⟨a,r',hn,rfl,h,t⟩:=h.cons_inv;show (((ids.map N.nm).contains _&& !(taken.map N.nm).contains _)&&j6 _ _ _)=true;rw[gJ inj hn hi,gJ inj hn ht];have e:((ids.contains p.1&& !taken.contains p.1)&&su ids (p.1::taken) r)=true:=e;rw[ab e];exact ih (taken:=p.1::taken) (λm hm=>by rcases qkz.mp hm with rfl | hm;exact hn;exact ht m hm) t (aa e)
theorem kD{l:List (Nat×MV)}:∀{ids:List Nat} {as:List MV},n3 l ids=some as→as.length=ids.length∧ ∀(i:Nat) (n:Nat),ids[i]?=some n→ ∃v,as[i]?=some v∧l.lookup n=some v
 |[],_,e=>by cases e;exact⟨rfl,λi n h=>by simp at h⟩
 |n::ids,_,e=>by
  obtain⟨v,hv,e⟩:=bind_some e;obtain⟨as,ha,e⟩:=aV e;subst e;obtain⟨h1,h2⟩:=kD ha;refine⟨by rw[List.length_cons,List.length_cons,h1],λi m h=>?_⟩
  cases i with
  |zero=>cases h;exact⟨v,rfl,hv⟩
  |succ i=>exact h2 i m h
end
theorem lZ{g:Str→Value}{x:Str}:∀{l:List Str},x∈l→(l.map λy=>(y,g y)).reverse.lookup x=some (g x)
 |y::l,h=>by
  rw[List.map_cons,List.reverse_cons,cQ];by_cases q:x∈l
  ·rw[lZ q]
  ·rcases qkz.mp h with rfl | h
   ·cases e:List.lookup x (List.map (λy=>(y,g y)) l).reverse with
    |some v=>
     have:(x,v)∈(List.map (λy=>(y,g y)) l).reverse:=by
      have:=List.lookup_eq_some_iff.mp e;obtain⟨l1,l2,h1,_⟩:=this;rw[h1];simp
     rw[List.mem_reverse,List.mem_map] at this;obtain⟨y,hy,he⟩:=this;cases he;exact absurd hy q
    |none=>simp [List.lookup]
   ·exact absurd h q
theorem iA{g:Str→Option Value}:∀{l:List Str},(∀x∈l,(g x).isSome=true)→(l.filterMap λn=>(g n).map (n,·))=l.map λy=>(y,(g y).getD .none)
 |[],_=>rfl
 |x::l,h=>by
  obtain⟨v,hv⟩:=qez.mp (h x (.head _));rw[List.filterMap_cons,hv,List.map_cons,hv];exact bJ _ (iA λy hy=>h y (.tail _ hy))
structure FnRow where
 name:Str
 qual:Str
 params:Arguments
 body:List Stmt
 scope:Scope
 dV:Value
 kV:Value
 doc:Value
 pm:Value
 an:Option Addr
 cdv:Value
 ct:Value
noncomputable abbrev FnRow.fd(r:FnRow):FuncData:=fnOf r.name r.qual r.params r.body r.scope r.dV r.kV r.doc r.pm r.an r.cdv r.ct
structure FnOk(C:Cx)(f:Nat)(r:FnRow)(nms:List Str)(reqs:List Nat)(opts:List (Nat×MV))(ds:List Value):Prop where
 at_:∃oc od osl,C.K.lookup (C.N.fna f)=some ⟨oc,od,.func r.fd,osl⟩
 code:codeIn C.K r.cdv r.qual=true
 p1:r.params.posonlyargs=[]
 p2:r.params.args.map (·.arg)=(reqs++opts.map (·.1)).map C.N.nm
 p3:r.params.kwonlyargs=[]
 p4:r.params.vararg=none
 p5:r.params.kwarg=none
 par:C.N.T.fnPar f=reqs.map (λn=>(n,none))++opts.map (λp=>(p.1,some p.2))
 lt:∀n∈reqs++opts.map (·.1),n<C.N.natr
 nd:(reqs++opts.map (·.1)).Nodup
 dfl:(r.dV= .none∧ds=[])∨ ∃T oc od k sl,r.dV= .ref T∧C.K.lookup T=some ⟨oc,od,.seq ds.toArray k,sl⟩
 dval:∀w:Wd,VRels C.N w (opts.map (·.2)) ds
 nodup:nms.Nodup
 pre:nms.take (reqs++opts.map (·.1)).length=(reqs++opts.map (·.1)).map C.N.nm
 loc:∀x∈nms,r.scope.names.lookup x=some .local∨r.scope.names.lookup x=some .cell
 hco:r.scope.isCoroutine=false
 hgen:r.scope.isGenerator=false
 hk:r.scope.kind= .function
 hcell:∀x∈r.scope.names,x.2= .cell→r.scope.names.lookup x.1=some .cell
theorem oB:∀(a b:List (Nat×Option MV)),dfl (a++b)=dfl a++dfl b
 |[],_=>rfl
 |(n,none)::a,b=>oB a b
 |(n,some v)::a,b=>bJ _ (oB a b)
theorem sS:∀(l:List Nat),dfl (l.map λn=>(n,none))=[]
 |[]=>rfl
 |_::r=>sS r
theorem sU:∀(l:List (Nat×MV)),dfl (l.map λp=>(p.1,some p.2))=l
 |[]=>rfl
 |(n,v)::r=>bJ _ (sU r)
theorem qb(reqs:List Nat)(opts:List (Nat×MV)):(reqs.map (λn=>(n,(none:Option MV)))++opts.map (λp=>(p.1,some p.2))).map (·.1)=reqs++opts.map (·.1):=by
 rw[nY,List.map_map,List.map_map]
 congr 1
 ·exact List.map_id' _
theorem kE:∀(l:List (Nat×MV)),(l.map (·.1)).zip (l.map (·.2))=l
 |[]=>rfl
 |(n,v)::r=>bJ _ (kE r)
theorem gM{n:Nat}:∀{l:List (Nat×MV)},n ∉ l.map (·.1)→l.lookup n=none
 |[],_=>rfl
 |(k,v)::r,h=>by
  rw[kN,show (n==k)=false from by
   rw[beq_eq_false_iff_ne];intro z;subst z;exact h (by simp)]
  exact gM λz=>h (by rw[List.map_cons];exact .tail _ z)
theorem kF{n:Nat}:∀{l r:List (Nat×MV)},(l++r).lookup n=match l.lookup n with | some v=>some v | none=>r.lookup n
 |[],r=>rfl
 |(k,v)::l,r=>by
  rw[List.cons_append,kN,kN];cases q:(n==k) with
  |true=>rfl
  |false=>exact kF
structure Bound(C:Cx)(w:Wd)(xs:List Str)(as:List MV)(binds:List (Str×Value)):Prop where
 sub:∀y∈binds,y.1∈xs
 at_:∀(i:Nat) (x:Str) (v:MV),xs[i]?=some x→as[i]?=some v→ ∃a,binds.reverse.lookup x=some a∧VRel C.N w v a
 len:as.length=xs.length
theorem vP{C:Cx}(O:CxOk C){w:Wd}{P:PMap}{sh:Sto}{s:Shared}(S:Sh C.N w P sh s.heap){f:Nat}{r:FnRow}{nms:List Str}{reqs:List Nat}{opts:List (Nat×MV)}{ds:List Value}(H:FnOk C f r nms reqs opts ds)
  {pos as:List MV} {kws:List (Nat×MV)} {pvals:List Value} {kvals:List (Str×Value)} (hp:VRels C.N w pos pvals) (hk:LRel C.N w kws kvals) (e:pN (C.N.T.fnPar f) pos kws=some as) :
  ∃binds,BindsTo s r.fd ⟨pvals,kvals⟩ binds∧Bound C w ((reqs++opts.map (·.1)).map C.N.nm) as binds:=by
 have inj:=O.inj;have hlt:=H.lt;have hp2:=H.p2;unfold pN at e;obtain⟨e1,e2⟩:=eF e;obtain⟨e0,e1⟩:=qmz.mp e1;rw[H.par] at e1 e2 e0;have hdl:=VRels.length_eq (H.dval w);rw[fP] at hdl;rw[qb] at e1 e2;rw[oB,sS,List.nil_append,sU] at e2;have e0:=bf e0;generalize hids:reqs++opts.map (·.1)=ids at *
 have hidl:ids.length=reqs.length+opts.length:=by rw[← hids];simp
 rw[a7,fP,fP,← hidl] at e0;have hplen:=VRels.length_eq hp
 have hdrop:(ids.map C.N.nm).drop ((ids.map C.N.nm).length-ds.length)=(opts.map (·.1)).map C.N.nm:=by
  rw[fP,← hdl,hidl,Nat.add_sub_cancel,← hids,nY,List.drop_append_of_le_length (by simp),List.drop_of_length_le (by simp),List.nil_append]
 have htake:(ids.map C.N.nm).take ((ids.map C.N.nm).length-ds.length)=reqs.map C.N.nm:=by
  rw[fP,← hdl,hidl,Nat.add_sub_cancel,← hids,nY,List.take_append_of_le_length (by simp),List.take_of_length_le (by simp)]
 have R1:LRel C.N w (ids.zip pos++kws) ((ids.map C.N.nm).zip pvals++kvals):=LRel.append hk (LRel.zip hlt hp)
 have R2:LRel C.N w opts (((opts.map (·.1)).map C.N.nm).zip ds):=by
  have:=LRel.zip (N:=C.N) (w:=w) (ids:=opts.map (·.1)) (λn hn=>hlt n (by rw[← hids];exact xK _ hn)) (H.dval w)
  rwa [kE] at this
 have R:=LRel.append R2 R1;obtain⟨hal,hag⟩:=kD e2
 have look:∀n∈ids,∃v a,(ids.zip pos++kws++opts).lookup n=some v∧(((ids.map C.N.nm).zip pvals++kvals)++((opts.map (·.1)).map C.N.nm).zip ds).lookup (C.N.nm n)=some a∧VRel C.N w v a:=by
  intro n hn;obtain⟨i,hi⟩:=List.getElem?_of_mem hn;obtain⟨v,_,hv⟩:=hag i n hi;have:=R.look inj (hlt n hn);rw[hv] at this;obtain⟨a,ha,hr⟩:=cy this;exact⟨v,a,hv,ha,hr⟩
 have hall:∀x∈ids.map C.N.nm,((((ids.map C.N.nm).zip pvals++kvals)++((ids.map C.N.nm).drop ((ids.map C.N.nm).length-ds.length)).zip ds).lookup x).isSome=true:=by
  intro x hx;obtain⟨n,hn,rfl⟩:=List.mem_map.mp hx;obtain⟨v,a,_,ha,_⟩:=look n hn;rw[hdrop,ha];rfl
 refine⟨_,yw (xs:=ids.map C.N.nm) (ds:=ds) H.p1 hp2 H.p3 H.p4 H.p5 (by rw[fP,← hplen];exact e0) ?_ ?_ (by rw[fP,← hdl];omega) hall ?_,?_⟩
 ·have:=Br inj hlt (taken:=ids.take pos.length) (λm hm=>hlt m (List.mem_of_mem_take hm)) hk e1
  rwa [List.map_take,hplen] at this
 ·intro M A E Q hq
  rcases H.dfl with ⟨h1,h2⟩ | ⟨T,oc,od,k,sl,h1,h2⟩
  ·show wpAny M A (seqItems? r.dV) Q E s
   rw[h1];exact fj (hq none (by rw[h2];rfl))
  ·show wpAny M A (seqItems? r.dV) Q E s
   rw[h1];exact wpAny_seqItems (O.In S _ _ h2) rfl (hq _ (by simp))
 ·intro x hx
  rw[htake] at hx;obtain⟨n,hn,rfl⟩:=List.mem_map.mp hx;obtain⟨v,a,hv,ha,hr⟩:=look n (by rw[← hids];exact List.mem_append_left _ hn)
  have nm:n ∉ opts.map (·.1):=λz=>by
   have:=H.nd;exact(List.nodup_append.mp this).2.2 n hn n z rfl
  rw[kF] at hv;cases q:(ids.zip pos++kws).lookup n with
  |none=>rw[q,gM nm] at hv;cases hv
  |some v'=>
   have:=R1.look inj (hlt n (by rw[← hids];exact List.mem_append_left _ hn))
   rw[q] at this;obtain⟨a',ha',_⟩:=cy this;rw[ha'];rfl
 ·rw[iA hall]
  refine⟨λy hy=>?_,λi x v hx hv=>?_,by rw[fP];exact hal⟩
  ·obtain⟨z,hz,rfl⟩:=List.mem_map.mp hy;exact hz
  ·rw[List.getElem?_map] at hx
   obtain⟨n,hn,rfl⟩:=aV hx;obtain⟨v',hv',hl⟩:=hag i n hn;rw[hv'] at hv;cases hv;have hmem:=List.mem_of_getElem? hn;obtain⟨v2,a,hv2,ha,hr⟩:=look n hmem;rw[hl] at hv2;cases hv2;refine⟨a,?_,hr⟩;rw[lZ (List.mem_map_of_mem hmem),hdrop,ha];rfl
open PySem PySem.W PyProof.Rows PySem.Calls PySem.Builtin PySem.Builtin.ObjectAttr
noncomputable def fZ(K:Frag)(C:Addr):Bool:=findIn K (.ref C) "__getattribute__" == some (some (.builtin "object.__getattribute__"))&&findIn K (.ref C) "__getattr__" == some none&&hasDictIn K C &&
 findIn K (.ref C) "__class__" == some (some (.builtin "object.__class__"))&&specialIn K (.builtin "object.__class__") "__get__" == some (some (.builtin "getset_descriptor.__get__")) &&
 takesIn K (.builtin "object.__class__")==some true&&mroIn K C (.type "object")==some true&&typeIn K (.ref C)==some (.type "type")&&instIn K (.ref C) (.type "type")==some true&&(clsIn K C).isSome
noncomputable def l0(K:Frag)(C D:Addr):Bool:=!(C==D)&&(clsIn K D).isSome&&typeIn K (.ref D)==some (.type "type")&&instIn K (.ref D) (.type "type")==some true&&subIn K (.ref C) (.ref D)==some false
section
variable {prog:Program}{w:World}{A:Around}{E:Value→Shared→Prop}{s:Shared}{K:Frag}{x C D:Addr}{ox:Obj}{od:Obj}
theorem rz{Q:Option Value→Shared→Prop}(X:K.In s.heap)(I:InstAt s.heap x ox C (some od))(e:fZ K C=true)(h:∀tk,Q (some (.ref C)) {s with toks:=tk}) :
  wpAny (model prog w) A (getAttr? (.ref x) "__class__") Q E s:=by
 simp only [fZ,Bool.and_eq_true,beq_iff_eq] at e;obtain⟨⟨⟨⟨⟨⟨⟨⟨⟨e1,e2⟩,e3⟩,e4⟩,e5⟩,e6⟩,e7⟩,_⟩,_⟩,_⟩:=e;obtain⟨cd,hc,_⟩:=any_some e3;have hf:=findObj_data (od:=od) (name:="__class__") (by rw[hc];rfl) e4 e5 e6
 obtain⟨hh,g,d,t,os⟩:=s;have L0:=I.type (M:=model prog w);have L1:=looks_findIn (M:=model prog w) X e1;have L2:=looks_find (M:=model prog w) X I hf;have L3:=looks_findIn (M:=model prog w) X e2;unfold getAttr? getAttrBy? getAttrBy;refine aM (wpAny_mkText (aM (wpAny_attempt (jb (aM (L0.at (aM (L1.at ?_))))))));show wpAny _ _ (getAttrEveryday _ _ _) _ _ _;refine aM (wpAny_onRaise (wpAny_runValue (codeAny_builtin F.plainObj_entry_getattr_hooked ?_)));refine aM (fj (aM (L0.at (aM (L2.at (aM (L3.at ?_)))))));show wpAny _ _ (holding [_] (call _ [_,.ref x,.ref C])>>=ret) _ _ _;refine aM (jb (wpAny_call (class_get (ox:=ox) (od:=some od) X I e7 ?_)));refine fj ?_;show wpAny _ _ (handedOut (.ref C)) _ _ _;exact handed_on rfl (fj (h _))
theorem rA{dep:Int}{tk:Tok}{Q:Fin→Shared→Prop}(X:K.In s.heap)(I:InstAt s.heap x ox C (some od))(e:l0 K C D=true)(hr:fZ K C=true)
  (h:∀tk,Q (.done (.ret (.bool false))) {s with toks:=tk}) :
  wpAny (model prog w) A (Builtin.«isinstance.nested» ⟨[.ref x,.ref D,.int dep tk],[]⟩) Q E s:=by
 have X':=X;have I':=I;have hr':=hr;obtain⟨hh,g,d,tt,os⟩:=s;unfold Builtin.«isinstance.nested»;have ht:=I.type (M:=model prog w);refine aM (ht.at ?_);simp only [l0,Bool.and_eq_true,beq_iff_eq,Bool.not_eq_true',beq_eq_false_iff_ne] at e;obtain⟨⟨⟨⟨e9,e0⟩,e1⟩,e2⟩,e3⟩:=e;rw[bL (λq=>by have:=beq_iff_eq.mp q;cases this;exact e9 rfl)]
 simp only [fZ,Bool.and_eq_true,beq_iff_eq] at hr;obtain⟨⟨⟨_,r1⟩,r2⟩,r3⟩:=hr;have L1:=looks_typeIn (M:=model prog w) X e1;have L2:=looks_instIn (M:=model prog w) X e2;have L5:=looks_instIn (M:=model prog w) X r2;have L4:Looks (model prog w) hh (isSubtype (.ref C) (.ref D)) false:=looks_subIn X e3;have L3:Looks (model prog w) hh (isInstance (.ref x) (.ref D)) false:=ht.andThen L4;refine aM (L1.at ?_);rw[cw (by decide)]
 k_delta "plainIsInstance"
 unfold isType
 repeat lk
 unfold clsIn at e0;split at e0
 ·rename_i ho
  refine nd_load (X _ _ ho) (nd_pure (fj ?_));simp only [Bool.not_true,Bool.false_eq_true,if_false];refine aM (L3.at ?_);simp only [Bool.false_eq_true,if_false];refine aM (rz (s:=⟨hh,g,d,tt,os⟩) X' I' hr' λtk'=>?_);dsimp only;unfold clsIn at r3;split at r3
  ·rename_i hoc
   refine nd_load (X _ _ hoc) (aM (aM (fj (fj ?_))));simp only [Bool.not_true,Bool.false_eq_true,if_false];refine aM (wpAny_rule ?_);exact L4.at (fj (h _))
  ·cases r3
 ·cases e0
def qc (K:Frag) (x C:Addr) (s:Shared):Prop:=K.In s.heap∧ ∃ox od,InstAt s.heap x ox C (some od)
noncomputable def isiOk(K:Frag)(C D:Addr):Bool→Bool
 |true=>isIn K (.ref C) D
 |false=>l0 K C D&&fZ K C
theorem gO{b:Bool}(e:isiOk K C D b=true):Answers (qc K x C) (.ref x) (.ref D) b:=λdep tk M A E Q s hs=>by
 obtain⟨⟨X,ox,od,I⟩,h⟩:=hs;cases b with
 |true=>exact isi_nested X I.type e (h s.toks)
 |false=>
  obtain⟨e1,e2⟩:=qmz.mp e;exact rA X I e1 e2 h
theorem un{tp:Addr}{ot:Obj}{cs:List Value}{nt:Nat}{vs:List Bool}{tk:Tok}{Q:Fin→Shared→Prop}(X:K.In s.heap)(I:InstAt s.heap x ox C (some od))(htp:s.heap.get? tp=some ot)(hc:ot.cls= .type "tuple")(hd:ot.data= .seq cs.toArray nt)
  (hne:C≠tp) (ha:AnswersAll (qc K x C) (.ref x) cs vs)
  (hq:∀tk',Q (.done (.ret (.bool (vs.any id)))) {s with toks:=tk'}):wpAny (model prog w) A (Builtin.«isinstance.nested» ⟨[.ref x,.ref tp,.int 0 tk],[]⟩) Q E s:=by
 have hs:qc K x C s:=⟨X,ox,od,I⟩;have hsq:∀{A E} {Q:Option (Array Value)→Shared→Prop},Q (some cs.toArray) s→wpAny (model prog w) A (seqItems? (.ref tp)) Q E s:=λh=>wpAny_seqItems htp hd h;obtain⟨h,g,d,t,os⟩:=s;have hT2:(⟨h,g,d,t,os⟩:Shared).TypeIs (.ref tp) "tuple":=⟨_,htp,hc⟩;have f1:=F.isi_sub_tuple;unfold Builtin.«isinstance.nested»;refine aM ((I.type (M:=model prog w)).at ?_);rw[bL (λq=>by have:=beq_iff_eq.mp q;cases this;exact hne rfl)]
 repeat (any_goals (first | assumption | (with_reducible refine hsq ?_) | wp_step))
 refine wpAny_arrayLoop ?_;simp only [Option.getD_some,List.toList_toArray];refine isinstance_items (dep:=0) (λs tk h=>h) cs vs _ _ ha hs λtk'=>?_;cases hv:vs.any _root_.id with
 |true=>
  simp only [if_true];exact fj (hv▸hq tk')
 |false=>
  simp only [Bool.false_eq_true,if_false];exact fj (hv▸hq tk')
theorem yx{tp:Addr}{ot:Obj}{c1 c2:Addr}{nt:Nat}{b1 b2:Bool}{Q:Value→Shared→Prop}(X:K.In s.heap)(I:InstAt s.heap x ox C (some od))(htp:s.heap.get? tp=some ot)(hc:ot.cls= .type "tuple")(hd:ot.data= .seq #[.ref c1,.ref c2] nt)
  (hne:C≠tp) (e1:isiOk K C c1 b1=true) (e2:isiOk K C c2 b2=true) (h:∀tk,Q (.bool (b1||b2)) {s with toks:=tk}) :
  wpAny (model prog w) A (call (.builtin "isinstance") [.ref x,.ref tp]) Q E s:=
 call_isinstance (S:=λ_ R s=>(qc K x C s∧ ∃ot,s.heap.get? tp=some ot∧ot.cls= .type "tuple" ∧ ∃nt,ot.data= .seq #[.ref c1,.ref c2] nt)∧ ∀tk,R (.ok (.ret (.bool (b1||b2)))) {s with toks:=tk})
  (λ_ _ _ _ _ hs=>by
   obtain⟨⟨⟨X,ox,od,I⟩,ot,h1,h2,nt,h3⟩,hq⟩:=hs;exact isinstance_outer (un (cs:=[.ref c1,.ref c2]) (vs:=[b1,b2]) X I h1 h2 h3 hne ⟨gO e1,gO e2,trivial⟩ λtk=>by simpa using hq tk) (by intro z;cases z)) ⟨⟨⟨X,ox,od,I⟩,ot,htp,hc,nt,hd⟩,h⟩
theorem yy{b:Bool}{Q:Value→Shared→Prop}(X:K.In s.heap)(I:InstAt s.heap x ox C (some od))(e:isiOk K C D b=true)(h:∀tk,Q (.bool b) {s with toks:=tk}) :
  wpAny (model prog w) A (call (.builtin "isinstance") [.ref x,.ref D]) Q E s:=
 call_isinstance (S:=λ_ R s=>qc K x C s∧ ∀tk,R (.ok (.ret (.bool b))) {s with toks:=tk})
  (λ_ _ _ _ _ hs=>isinstance_outer (gO e _ _ _ _ _ _ _ ⟨hs.1,hs.2⟩) (by intro z;cases z)) ⟨⟨X,ox,od,I⟩,h⟩
end
open PySem PySem.W PyProof.Rows PySem.Calls PySem.Builtin
structure Rm(A:Around)(n:Nat):Prop where
 depth:A.depth+n≤999
 units:A.units+20*n≤9000
 hand:A.handled=none
def ny (C:Cx) (Φ:ku) (n:Nat):Prop:=∀{f pos kws sh v sh'},kx C.N.T Φ f pos kws sh=some (v,sh')→rl sh'≤ak →
 ∀{A:Around} {R:Result→Shared→Prop} {s:Shared} {w:Wd} {P:PMap} {pvals:List Value} {kvals:List (Str×Value)},Rm A n→Sh C.N w P sh s.heap→VRels C.N w pos pvals→LRel C.N w kws kvals →
 (∀w' h' tk a,w.Ext w'→Sh C.N w' P sh' h'→VRel C.N w' v a→R (.ok (.ret a)) {s with heap:=h',toks:=tk})→codeAny (model C.prog C.wd) A (.call (.ref (C.N.fna f)) ⟨pvals,kvals⟩) R s
structure InitFr(sh sh':Sto):Prop where
 em:sh'.em=sh.em
 lst:∀l,be l=true→ap sh' l=ap sh l∨ap sh' l=some []
def oC (T:Tab) (Φ:ku):Prop:=∀{c f as sh r sh'},T.clsInit c=some f→Φ f (.loc .tmp::as) sh=some (r,sh')→InitFr sh sh'
section
variable {N:Nm}{w w':Wd}
theorem sV(h1:w.ρ .tmp=none)(h2:w.ρ .tmpD=none){l:Loc}{a:Addr}(h:w.ρ l=some a):iF l=true:=by
 cases l with
 |tmp=>exact aG (h1.symm.trans h)
 |tmpD=>exact aG (h2.symm.trans h)
 |_=>rfl
theorem vQ(h1:w.ρ .tmp=none)(h2:w.ρ .tmpD=none)(v:MV):∀{a},VRel N w v a→xM v=true:=
 MV.rec (motive_1:=λv=>∀{a},VRel N w v a→xM v=true) (motive_2:=λvs=>∀{as},VRels N w vs as→jR vs=true) (λ_=>rfl) (λ_ _ _=>rfl) (λ_ _ _=>rfl) (λ_ _ _=>rfl) (λl _ h=>h.elim λq h=>sV h1 h2 h.1)
  (λ_ _ _=>rfl) (λ_ _ _=>rfl) (λ_ _ _=>rfl) (λf l a h=>by cases (h:MethR N w f l a) with | mk _ h _=>exact sV h1 h2 h) (λc fs ih _ h=>(VRel.inst_eq.mp h).elim λ_ h=>ih h.1)
  (λvs ih _ h=>(VRel.lst_eq.mp h).elim λ_ h=>ih h.1) (λvs ih _ h=>(VRel.tup_eq.mp h).elim λ_ h=>ih h.1) (λ_ _ _=>rfl) (λ_=>rfl)
  (λv vs i1 i2 _ h=>h.elim λa h=>h.elim λr h=>qmz.mpr ⟨i1 h.2.1,i2 h.2.2⟩) v
theorem yz(h1:w.ρ .tmp=none)(h2:w.ρ .tmpD=none){vs:List MV}:∀{as},VRels N w vs as→jR vs=true:=by
 induction vs with
 |nil=>exact λ_=>rfl
 |cons v vs ih=>intro as h;obtain⟨a,r,_,h,t⟩:=h.cons_inv;exact qmz.mpr ⟨vQ h1 h2 v h,ih t⟩
structure Turn(w w':Wd):Prop where
 ρ:∀l a,iF l=true→w.ρ l=some a→w'.ρ l=some a
 G:∀a o,w.G a=some o→w'.G a=some o
theorem nz(v:MV)(vs:List MV)(h:jR (v::vs)=true):xM v=true∧jR vs=true:=⟨ab h,aa h⟩
theorem VRel.turn(t:Turn w w'){v:MV}{a:Value}(h:VRel N w v a)(e:xM v=true):VRel N w' v a:=
 VRel.map (p:=λv=>xM v=true) (ps:=λvs=>jR vs=true) (λl a e=>t.ρ l a e) (λ_ l a e=>t.ρ l a e) t.G (λ_ _ h=>h) (λ_ h=>h) (λ_ h=>h) nz v e h
theorem VRels.turn(t:Turn w w'){vs:List MV}{as:List Value}(h:VRels N w vs as)(e:jR vs=true):VRels N w' vs as:=
 VRels.all (p:=λv=>xM v=true) (ps:=λvs=>jR vs=true) nz (λv e _ h=>h.turn t e) vs e h
theorem VRels.of_get{vs:List MV}:∀{as:List Value},vs.length=as.length→(∀(i:Nat) (v:MV) (a:Value),vs[i]?=some v→as[i]?=some a→VRel N w v a)→VRels N w vs as:=by
 induction vs with
 |nil=>intro as h _;exact xT h.symm
 |cons v vs ih=>
  intro as h k;cases as with
  |nil=>exact absurd h (Nat.succ_ne_zero _)
  |cons a as=>exact .cons (k 0 v a rfl rfl) (ih (Nat.succ.inj h) λi v a h1 h2=>k (i+1) v a h1 h2)
end
theorem iN:∀{fs:List (Option MV)} {vs:List MV},fQ fs=some vs→fs=vs.map some
 |[],_,e=>by cases e;rfl
 |some v::r,_,e=>by
  obtain⟨vs,h1,h2⟩:=aV (x:=fQ r) e;subst h2;rw[iN h1];rfl
 |none::r,_,e=>by cases e
section
variable {C:Cx}{w:Wd}{P:PMap}{sh:Sto}{h:Heap}
noncomputable def Wd.tmp(w:Wd)(x d:Addr):Wd:={w with ρ:=λl=>Loc.casesOn (motive:=λ_=>Option Addr) l (w.ρ .em) (w.ρ .emD) (some x) (some d) (w.ρ .states) (w.ρ .events) (w.ρ .indents) (w.ρ .rows) (w.ρ .tape) (w.ρ .due)}
theorem ia{l:Loc}(h:iF l=true)(x d:Addr):(w.tmp x d).ρ l=w.ρ l:=by
 cases l with
 |tmp | tmpD=>exact aB h
 |_=>rfl
theorem vR{N:Nm}{t:Option (Nat×List (Option MV))}{l:Loc}(h1:iF l=true){o:Obj}(h:Cont N w sh l o):Cont N w {sh with tmp:=t} l o:=by
 cases l with
 |tmp | tmpD=>exact aB h1
 |_=>exact h
theorem gQ(S:Sh C.N w P sh h)(ht:sh.tmp=none):w.ρ .tmp=none∧w.ρ .tmpD=none:=by
 have n1:sh.tmp.isSome=false:=by rw[ht];rfl
 exact⟨qyz.mp (by rw[(S.dom .tmp).trans n1];decide),qyz.mp (by rw[(S.dom .tmpD).trans n1];decide)⟩
theorem Loc.two{p:Loc→Prop}(h:∀l,iF l=true→p l)(h1:p .tmp)(h2:p .tmpD)(l:Loc):p l:=by
 cases l with
 |tmp=>exact h1
 |tmpD=>exact h2
 |_=>exact h _ rfl
theorem uo(S:Sh C.N w P sh h)(ht:sh.tmp=none){c:Nat}(hc:(C.N.T.clsInit c).isSome=true) :
  w.Ext (w.tmp (h.objs.size+1) h.objs.size) ∧
  Sh C.N (w.tmp (h.objs.size+1) h.objs.size) P {sh with tmp:=some (c,List.replicate (C.N.T.clsFields c).length none)} ((h.push emptyDict).push (instObj (C.N.cla c) h.objs.size)):=by
 obtain⟨d1,d2⟩:=gQ S ht;have k:∀b o,h.get? b=some o→((h.push emptyDict).push (instObj (C.N.cla c) h.objs.size)).get? b=some o:=λb o e=>Heap.get?_push_of_some _ (Heap.get?_push_of_some _ e);obtain⟨g0,p0,r0⟩:=S.fresh (Heap.get?_none_of_le (cz h.objs.size));obtain⟨g1,p1,r1⟩:=S.fresh (a:=h.objs.size+1) (Heap.get?_none_of_le (Nat.le_succ h.objs.size));have hd:((h.push emptyDict).push (instObj (C.N.cla c) h.objs.size)).get? h.objs.size=some emptyDict:=Heap.get?_push_of_some _ (Heap.get?_push_size _ rfl)
 have hx:((h.push emptyDict).push (instObj (C.N.cla c) h.objs.size)).get? (h.objs.size+1)=some (instObj (C.N.cla c) h.objs.size):=by
  have:=Heap.get?_push_size (h:=h.push emptyDict) (o:=instObj (C.N.cla c) h.objs.size) rfl
  rwa [Heap.size_push] at this
 generalize (h.push emptyDict).push (instObj (C.N.cla c) h.objs.size)=h' at k hd hx ⊢;generalize e1:h.objs.size=d at *;have ne:d+1≠d:=Nat.succ_ne_self d;generalize d+1=y at *;have x:w.Ext (w.tmp y d):=⟨λl a=>Loc.two (p:=λl=>w.ρ l=some a→(w.tmp y d).ρ l=some a) (λl hl e=>(ia hl y d).trans e) (λe=>aG (d1.symm.trans e)) (λe=>aG (d2.symm.trans e)) l,λ_ _ e=>e⟩;have S':=S.keeps k;refine⟨x,S'.base,S'.frz,S'.prot,S'.dis,Loc.two (λl hl=>?_) rfl rfl,λl l' a e e'=>?_,λl a=>?_,λl a=>?_,λl a=>?_⟩
 ·rw[ia hl,S.dom l];cases l<;>first | rfl | exact aB hl
 ·have key:∀l,(w.tmp y d).ρ l=some a→(iF l=true∧w.ρ l=some a∧a≠y∧a≠d)∨(l= .tmp∧a=y)∨(l= .tmpD∧a=d):=λl=>
   Loc.two (p:=λl=>(w.tmp y d).ρ l=some a→(iF l=true∧w.ρ l=some a∧a≠y∧a≠d)∨(l= .tmp∧a=y)∨(l= .tmpD∧a=d)) (λl hl e=>.inl (by rw[ia hl] at e;exact⟨hl,e,r1 l a e,r0 l a e⟩))
    (λe=>.inr (.inl ⟨rfl,(ay e).symm⟩)) (λe=>.inr (.inr ⟨rfl,(ay e).symm⟩)) l
  rcases key l e with ⟨_,q,z1,z2⟩ | ⟨q,z⟩ | ⟨q,z⟩<;>rcases key l' e' with ⟨_,q',z1',z2'⟩ | ⟨q',z'⟩ | ⟨q',z'⟩
  ·exact S.inj _ _ _ q q'
  ·exact absurd z' z1
  ·exact absurd z' z2
  ·exact absurd z z1'
  ·exact q.trans q'.symm
  ·exact absurd (z.symm.trans z') ne
  ·exact absurd z z2'
  ·exact absurd (z'.symm.trans z) ne
  ·exact q.trans q'.symm
 ·exact Loc.two (p:=λl=>(w.tmp y d).ρ l=some a→w.G a=none) (λl hl e=>S.sepG l a (ia hl y d▸e)) (λe=>ay e▸g1) (λe=>ay e▸g0) l
 ·exact Loc.two (p:=λl=>(w.tmp y d).ρ l=some a→P a=none) (λl hl e=>S.sepP l a (ia hl y d▸e)) (λe=>ay e▸p1) (λe=>ay e▸p0) l
 ·refine Loc.two (p:=λl=>(w.tmp y d).ρ l=some a→ ∃o,h'.get? a=some o∧Cont C.N (w.tmp y d) _ l o) (λl hl e=>?_) (λe=>?_) (λe=>?_) l
  ·obtain⟨o,h1,h2⟩:=S'.cont l a (ia hl y d▸e)
   exact⟨o,h1,vR hl (h2.mono x)⟩
  ·obtain rfl:=ay e
   exact⟨_,hx,_,rfl,hc,d,rfl,rfl⟩
  ·obtain rfl:=ay e
   refine⟨_,hd,_,rfl,List.length_replicate,λ_=>none,⟨#[],0,rfl,iw _,λe he=>by simp at he,λname=>rfl⟩,λn hn=>?_⟩
   have:iy C.N.T c (List.replicate (C.N.T.clsFields c).length none) n=none:=by
    unfold iy;cases aC (C.N.T.clsFields c) n with
    |none=>rfl
    |some i=>
     rw[mY,bG,List.getElem?_replicate];split<;>rfl
   rw[this];exact rfl
end
open PySem PySem.W PyProof.Rows PySem.Calls PySem.Builtin
section
variable {C:Cx}{w w2:Wd}{P:PMap}{sh sh2:Sto}{h h2:Heap}{x d:Addr}{t:Option (Nat×List (Option MV))}
theorem iO{sh:Sto}{l:Loc}{vs:List MV}(hl:be l=true)(e:ap sh l=some vs):eK sh l=true:=by
 cases l with
 |em | emD | tmp | tmpD=>exact aB hl
 |_=>exact qez.mpr ⟨vs,e⟩
theorem vS{l:Loc}(hl:be l=true):ap {sh with tmp:=t} l=ap sh l:=by
 cases l with
 |em | emD | tmp | tmpD=>exact aB hl
 |_=>rfl
theorem vT(S:Sh C.N w P sh h)(ht:sh.tmp=none)(I:InitFr {sh with tmp:=t} sh2){l:Loc}(hl:be l=true){vs:List MV}(e:ap sh2 l=some vs):jR vs=true:=by
 obtain⟨d1,d2⟩:=gQ S ht;rcases I.lst l hl with q | q
 ·have e':ap sh l=some vs:=(vS hl).symm.trans (q.symm.trans e)
  obtain⟨a,ha⟩:=qez.mp ((S.dom l).trans (iO hl e'));obtain⟨o,_,h2⟩:=S.cont l a ha;cases np e' h2 with | mk he _ hr=>exact ay he▸yz d1 d2 hr
 ·rw[← ay (q.symm.trans e)];rfl
theorem nA{w3:Wd}(S:Sh C.N w P sh h)(ht:sh.tmp=none)(I:InitFr {sh with tmp:=t} sh2)(T:Turn w2 w3){l:Loc}{o:Obj}(hl:be l=true){sh3:Sto}(h3:ap sh3 l=ap sh2 l)(hc:Cont C.N w2 sh2 l o):Cont C.N w3 sh3 l o:=by
 have key:ListR C.N w2 (ap sh2 l) o→ListR C.N w3 (ap sh3 l) o:=λq=>by cases q with | mk e1 e2 e4=>exact⟨h3.trans e1,e2,e4.turn T (vT S ht I hl e1)⟩
 cases l with
 |em | emD | tmp | tmpD=>exact aB hl
 |_=>exact key hc
theorem uq{w3:Wd}(T:Turn w2 w3){b:Nat}{g:Nat→Option MV}{o:Obj}(hg:∀n v,n<C.N.natr→g n=some v→xM v=true)(hc:DictR C.N w2 b g o):DictR C.N w3 b g o:=
 fk (λ_ h=>h) (λm k n hn=>by
  have:=k n hn;cases hv:g n with
  |none=>rw[hv] at this;exact this
  |some v=>rw[hv] at this;obtain⟨b,hb,hr⟩:=cy this;exact⟨b,hb,hr.turn T (hg n v hn hv)⟩) hc
theorem Bt(S:Sh C.N w P sh h)(ht:sh.tmp=none){E:List MV}(e:sh.em=some E){n:Nat}{v:MV}(hn:n<C.N.natr)(hv:pM C.N.T E n=some v):xM v=true:=by
 obtain⟨d1,d2⟩:=gQ S ht;obtain⟨a,ha⟩:=qez.mp ((S.dom .emD).trans (by show sh.em.isSome=true;rw[e];rfl))
 obtain⟨o,_,E',hE,m,_,hf⟩:=S.cont .emD a ha;obtain rfl:=ay (e.symm.trans hE);have:=hf n hn;rw[hv] at this;obtain⟨b,_,hr⟩:=cy this;exact vQ d1 d2 _ hr
inductive TmpEnd (C:Cx) (w:Wd) (h:Heap) (x d:Addr) (c:Nat) (fs:List (Option MV)):Prop
 |mk {od:Obj} {m:Str→Option Value} (r1:w.ρ .tmp=some x) (r2:w.ρ .tmpD=some d) (hx:h.get? x=some (instObj (C.N.cla c) d)) (hc:(C.N.T.clsInit c).isSome=true) (hd:h.get? d=some od) (hlen:fs.length=(C.N.T.clsFields c).length)
  (hm:isNsB od m (dZ fs)) (hat:∀n,n<C.N.natr→ORel C.N w (iy C.N.T c fs n) (m (C.N.nm n)))
theorem sW(S2:Sh C.N w2 P sh2 h2)(e:(w.tmp x d).Ext w2){c:Nat}{fs:List (Option MV)}(hf:sh2.tmp=some (c,fs)):TmpEnd C w2 h2 x d c fs:=by
 have r1:w2.ρ .tmp=some x:=e.ρ .tmp x rfl;have r2:w2.ρ .tmpD=some d:=e.ρ .tmpD d rfl;obtain⟨o,hx,p,k2,k4,d',k1,k3⟩:=S2.cont _ _ r1;obtain rfl:=ay (hf.symm.trans k2);obtain rfl:=ay (r2.symm.trans k1);subst k3;obtain⟨od,hd,p,k2,k5,m,k6,k7⟩:=S2.cont _ _ r2;obtain rfl:=ay (hf.symm.trans k2);exact⟨r1,r2,hx,k4,hd,k5,k6,k7⟩
theorem Eb{n:Nat}{fs:List Nat}:∀{k i:Nat},fs.Nodup→fs[i]?=some n→List.rec (motive:=λ_=>Nat→Option Nat) (λ_=>none) (λx _ ih j=>bif Nat.beq x n then some j else ih (j+1)) fs k=some (k+i):=by
 induction fs with
 |nil=>intro k i _ e;exact aG e
 |cons f fs ih=>
  intro k i hn e;have hn:=List.nodup_cons.mp hn;cases i with
  |zero=>
   obtain rfl:=ay e;show (bif Nat.beq f f then _ else _)=_;rw[Nat.beq_refl];rfl
  |succ i=>
   show (bif Nat.beq f n then _ else _)=_
   have:Nat.beq f n=false:=by
    cases q:Nat.beq f n with
    |false=>rfl
    |true=>
     have hm:n∈fs:=List.mem_of_getElem? (i:=i) e;exact absurd (jO q▸hm) hn.1
   rw[this];exact(ih hn.2 e).trans (bJ some (Nat.add_right_comm ..))
theorem vU{fs:List Nat}{n i:Nat}(hn:fs.Nodup)(e:fs[i]?=some n):aC fs n=some i:=(Eb hn e).trans (bJ some (Nat.zero_add _))
noncomputable def Wd.gone(w2:Wd)(x d:Addr)(ox od:Obj):Wd:=⟨λl=>Loc.casesOn (motive:=λ_=>Option Addr) l (w2.ρ .em) (w2.ρ .emD) none none (w2.ρ .states) (w2.ρ .events) (w2.ρ .indents) (w2.ρ .rows) (w2.ρ .tape) (w2.ρ .due),λb=>if b=x then some ox else if b=d then some od else w2.G b⟩
theorem ur(O:CxOk C)(S:Sh C.N w P sh h)(ht:sh.tmp=none)(S2:Sh C.N w2 P sh2 h2)(x1:w.Ext (w.tmp x d))(e:(w.tmp x d).Ext w2){c:Nat}{fs:List (Option MV)}{vs:List MV}
  (I:InitFr {sh with tmp:=t} sh2) (hf:sh2.tmp=some (c,fs)) (hs:fQ fs=some vs) (hn:jR vs=true) :
  ∃w3,w.Ext w3∧Sh C.N w3 P {sh2 with tmp:=none} h2∧VRel C.N w3 (.inst c vs) (.ref x):=by
 obtain⟨r1,r2,hx,hc,hd,hlen,hm,hat⟩:=sW S2 e hf;rename_i od m;have K:=O.cls c hc;have xR:=iN hs;have hne:d≠x:=λz=>by have:=S2.inj _ _ _ r2 (by rw[z];exact r1);cases this
 have gx:=S2.sepG _ _ r1;have gd:=S2.sepG _ _ r2
 have old:∀l,iF l=true→(w2.gone x d (instObj (C.N.cla c) d) od).ρ l=w2.ρ l:=λl hl=>by
  cases l with
  |tmp | tmpD=>exact aB hl
  |_=>rfl
 have gG:∀a o,w2.G a=some o→(w2.gone x d (instObj (C.N.cla c) d) od).G a=some o:=λa o e=>(bL λz=>by rw[z,gx] at e;exact aG e).trans ((bL λz=>by rw[z,gd] at e;exact aG e).trans e)
 have T:Turn w2 (w2.gone x d (instObj (C.N.cla c) d) od):=⟨λl a q e=>(old l q).trans e,gG⟩;have hgx:(w2.gone x d (instObj (C.N.cla c) d) od).G x=some (instObj (C.N.cla c) d):=cw rfl;have hgd:(w2.gone x d (instObj (C.N.cla c) d) od).G d=some od:=(bL hne).trans (cw rfl)
 have Gc:∀{a o} {p:Prop},(w2.gone x d (instObj (C.N.cla c) d) od).G a=some o→(a=x→instObj (C.N.cla c) d=o→p)→(a=d→od=o→p)→(w2.G a=some o→p)→p:=λ{a o p} q k1 k2 k3=>by
  by_cases z:a=x
  ·subst z;exact k1 rfl (ay (hgx.symm.trans q))
  ·by_cases z':a=d
   ·subst z';exact k2 rfl (ay (hgd.symm.trans q))
   ·exact k3 ((bL z').symm.trans ((bL z).symm.trans q))
 have none1:(w2.gone x d (instObj (C.N.cla c) d) od).ρ .tmp=none:=rfl;have none2:(w2.gone x d (instObj (C.N.cla c) d) od).ρ .tmpD=none:=rfl;have gN:∀a,a≠x→a≠d→(w2.gone x d (instObj (C.N.cla c) d) od).G a=w2.G a:=λa z1 z2=>(bL z1).trans (bL z2);generalize w2.gone x d (instObj (C.N.cla c) d) od=w3 at *;obtain⟨d1,d2⟩:=gQ S ht;have x3:w.Ext w3:=⟨λl a=>Loc.two (p:=λl=>w.ρ l=some a→w3.ρ l=some a) (λl hl q=>(old l hl).trans (e.ρ _ _ (x1.ρ _ _ q))) (λq=>aG (d1.symm.trans q)) (λq=>aG (d2.symm.trans q)) l,λa o q=>gG _ _ (e.G _ _ (x1.G _ _ q))⟩
 have sub:∀l a,w3.ρ l=some a→iF l=true∧w2.ρ l=some a∧a≠x∧a≠d:=λl a=>Loc.two (p:=λl=>w3.ρ l=some a→iF l=true∧w2.ρ l=some a∧a≠x∧a≠d) (λl hl q=>by
  rw[old l hl] at q;exact⟨hl,q,λz=>by have:=S2.inj _ _ _ r1 (z▸q);subst this;exact aB hl,λz=>by have:=S2.inj _ _ _ r2 (z▸q);subst this;exact aB hl⟩) (λq=>aG (none1.symm.trans q)) (λq=>aG (none2.symm.trans q)) l
 refine⟨w3,x3,⟨λa o q=>gG _ _ (S2.base _ _ q),λa o q=>Gc q (λz z'=>z▸z'▸hx) (λz z'=>z▸z'▸hd) λq=>S2.frz _ _ q,S2.prot,λa o q=>Gc q (λz _=>z▸S2.sepP _ _ r1) (λz _=>z▸S2.sepP _ _ r2) λq=>S2.dis _ _ q,
  Loc.two (λl hl=>?_) (by rw[none1];rfl) (by rw[none2];rfl),λl l' a q q'=>S2.inj _ _ _ (sub _ _ q).2.1 (sub _ _ q').2.1,λl a q=>(gN a (sub _ _ q).2.2.1 (sub _ _ q).2.2.2).trans (S2.sepG _ _ (sub _ _ q).2.1),λl a q=>S2.sepP _ _ (sub _ _ q).2.1,λl a q=>?_⟩,?_⟩
 ·rw[old l hl,S2.dom l];cases l<;>first | rfl | exact aB hl
 ·obtain⟨q0,q1,q2,q3⟩:=sub _ _ q
  obtain⟨o,ho,k⟩:=S2.cont _ _ q1;refine⟨o,ho,?_⟩;cases l with
  |tmp | tmpD=>exact aB q0
  |em=>exact fk (λ_ q=>(old .emD rfl).trans q) (λ_ h=>h) (k:ObjR _ _ _ _ _)
  |emD=>exact fk (λ_ h=>h) (λE k=>k) ((let ⟨E,k1,k2⟩:=(k:∃E,sh2.em=some E∧_);⟨E,k1,uq T (λn v hn hv=>Bt S ht ((I.em▸k1:({sh with tmp:=t}:Sto).em=some E)) hn hv) k2⟩):∃E,sh2.em=some E∧DictR C.N w3 1000 (pM C.N.T E) o)
  |_=>exact nA S ht I T rfl rfl k
 ·have hlen2:vs.length=(C.N.T.clsFields c).length:=by rw[← hlen,xR,fP]
  have at_:∀(i n:Nat) (v:MV),(C.N.T.clsFields c)[i]?=some n→vs[i]?=some v→ ∃b,m (C.N.nm n)=some b∧VRel C.N w2 v b:=λi n v q1 q2=>by
   have:=hat n (K.fn n (List.mem_of_getElem? q1));unfold iy at this;rw[vU K.fnd q1,mY,xR,bG,List.getElem?_map,q2] at this;exact cy this
  refine VRel.inst_eq.mpr ⟨(C.N.T.clsFields c).map λn=>(m (C.N.nm n)).getD .none,(VRels.of_get (by rw[fP];exact hlen2) λi v a q1 q2=>?_).turn T hn,hc,hgx,hgd,hm.ns,λn hn=>?_⟩
  ·rw[List.getElem?_map] at q2
   obtain⟨n,h1,h2⟩:=aV q2;obtain⟨b,hb,hr⟩:=at_ i n v h1 q1;rw[← h2,hb];exact hr
  ·cases hi:aC (C.N.T.clsFields c) n with
   |none=>
    have:=hat n hn;unfold iy at this;rw[hi] at this;exact uj this
   |some i=>
    have hi':=jr hi;have hl:i<vs.length:=hlen2▸(List.getElem?_eq_some_iff.mp hi').1;obtain⟨b,hb,_⟩:=at_ i n _ hi' (List.getElem?_eq_getElem hl);rw[mY,bG,List.getElem?_map,hi',hb];show some b=some ((m (C.N.nm n)).getD .none);rw[hb];rfl
end
open PySem PySem.W PyProof.Rows PySem.Calls PySem.Builtin
section
variable {C:Cx}{w w2:Wd}{P:PMap}{sh sh2:Sto}{h h2:Heap}{x d:Addr}{t:Option (Nat×List (Option MV))}
theorem VRel.retmp{N:Nm}{w2 w3:Wd}(T:Turn w2 w3)(r1:w2.ρ .tmp=some x)(r3:w3.ρ .em=some x){v:MV}{a:Value}(h:VRel N w2 v a)(hn:xM (Mine.retmp v)=true):VRel N w3 (Mine.retmp v) a:=by
 cases v with
 |meth f l=>
  cases l with
  |tmp=>
   cases (h:MethR N w2 f .tmp a) with
   |mk hb hl hq=>exact MethR.mk hb r3 (ay (r1.symm.trans hl)▸T.G _ _ hq)
  |_=>exact h.turn T hn
 |_=>exact h.turn T hn
theorem vV{vs:List MV}:∀{i:Nat} {v:MV},jR (vs.map Mine.retmp)=true→vs[i]?=some v→xM (Mine.retmp v)=true:=by
 induction vs with
 |nil=>intro i v _ e;exact aG e
 |cons u r ih=>
  intro i v h e;cases i with
  |zero=>exact ay e▸ab h
  |succ i=>exact ih (aa h) e
noncomputable def Wd.asEm(w2:Wd)(x d:Addr):Wd:=⟨λl=>Loc.casesOn (motive:=λ_=>Option Addr) l (some x) (some d) none none (w2.ρ .states) (w2.ρ .events) (w2.ρ .indents) (w2.ρ .rows) (w2.ρ .tape) (w2.ρ .due),w2.G⟩
theorem Loc.four{p:Loc→Prop}(h:∀l,be l=true→p l)(h1:p .em)(h2:p .emD)(h3:p .tmp)(h4:p .tmpD)(l:Loc):p l:=by
 cases l with
 |em=>exact h1
 |emD=>exact h2
 |tmp=>exact h3
 |tmpD=>exact h4
 |_=>exact h _ rfl
theorem oD(O:CxOk C)(S:Sh C.N w P sh h)(ht:sh.tmp=none)(S2:Sh C.N w2 P sh2 h2)(x1:w.Ext (w.tmp x d))(e:(w.tmp x d).Ext w2){c:Nat}{fs:List (Option MV)}{vs:List MV}
  (I:InitFr {sh with tmp:=t} sh2) (hf:sh2.tmp=some (c,fs)) (hs:fQ fs=some vs) (hn:jR (vs.map Mine.retmp)=true) (hc0:c=C.N.T.emC) (he:sh2.em=none) :
  ∃w3,w.Ext w3∧Sh C.N w3 P {sh2 with em:=some (vs.map Mine.retmp),tmp:=none} h2∧VRel C.N w3 (.loc .em) (.ref x):=by
 obtain⟨r1,r2,hx,hc,hd,hlen,hm,hat⟩:=sW S2 e hf;rename_i od m;have K:=O.cls c hc;have xR:=iN hs;have n1:sh2.em.isSome=false:=by rw[he];rfl
 have e1:w2.ρ .em=none:=qyz.mp (by rw[(S2.dom .em).trans n1];decide)
 have e2:w2.ρ .emD=none:=qyz.mp (by rw[(S2.dom .emD).trans n1];decide)
 obtain⟨d1,d2⟩:=gQ S ht
 have old:∀l,be l=true→(w2.asEm x d).ρ l=w2.ρ l:=λl hl=>by
  cases l with
  |em | emD | tmp | tmpD=>exact aB hl
  |_=>rfl
 have T:Turn w2 (w2.asEm x d):=⟨λl a=>Loc.four (p:=λl=>iF l=true→w2.ρ l=some a→(w2.asEm x d).ρ l=some a) (λl hl _ e=>(old l hl).trans e) (λ_ e=>aG (e1.symm.trans e)) (λ_ e=>aG (e2.symm.trans e)) (λq _=>aB q) (λq _=>aB q) l,λ_ _ e=>e⟩;have x3:w.Ext (w2.asEm x d):=⟨λl a=>Loc.two (p:=λl=>w.ρ l=some a→(w2.asEm x d).ρ l=some a) (λl hl q=>T.ρ _ _ hl (e.ρ _ _ (x1.ρ _ _ q))) (λq=>aG (d1.symm.trans q)) (λq=>aG (d2.symm.trans q)) l,λa o q=>e.G _ _ (x1.G _ _ q)⟩
 have sub:∀l a,(w2.asEm x d).ρ l=some a→(be l=true∧w2.ρ l=some a)∨(l= .em∧w2.ρ .tmp=some a)∨(l= .emD∧w2.ρ .tmpD=some a):=λl a=>
  Loc.four (p:=λl=>(w2.asEm x d).ρ l=some a→(be l=true∧w2.ρ l=some a)∨(l= .em∧w2.ρ .tmp=some a)∨(l= .emD∧w2.ρ .tmpD=some a)) (λl hl q=>.inl ⟨hl,(old l hl).symm.trans q⟩)
   (λq=>.inr (.inl ⟨rfl,r1.trans q⟩)) (λq=>.inr (.inr ⟨rfl,r2.trans q⟩)) (λq=>aG q) (λq=>aG q) l
 have at_:∀{l a},(w2.asEm x d).ρ l=some a→ ∃l',w2.ρ l'=some a:=λq=>by
  rcases sub _ _ q with ⟨_,q⟩ | ⟨_,q⟩ | ⟨_,q⟩<;>exact⟨_,q⟩
 refine⟨_,x3,⟨S2.base,S2.frz,S2.prot,S2.dis,Loc.four (λl hl=>?_) rfl rfl rfl rfl,λl l' a q q'=>?_,λl a q=>(at_ q).elim λ_ q=>S2.sepG _ _ q,λl a q=>(at_ q).elim λ_ q=>S2.sepP _ _ q,
  λl a=>Loc.four (p:=λl=>(w2.asEm x d).ρ l=some a→ ∃o,h2.get? a=some o∧Cont C.N (w2.asEm x d) _ l o) (λl hl q=>?_) (λq=>?_) (λq=>?_) (λq=>aG q) (λq=>aG q) l⟩,.loc rfl⟩
 ·rw[old l hl,S2.dom l];cases l<;>first | rfl | exact aB hl
 ·rcases sub _ _ q with ⟨i,q⟩ | ⟨i,q⟩ | ⟨i,q⟩<;>rcases sub _ _ q' with ⟨i',q'⟩ | ⟨i',q'⟩ | ⟨i',q'⟩<;>have z:=S2.inj _ _ _ q q'
  ·exact z
  ·subst z;exact aB i
  ·subst z;exact aB i
  ·subst z;exact aB i'
  ·exact i.trans i'.symm
  ·cases z
  ·subst z;exact aB i'
  ·cases z
  ·exact i.trans i'.symm
 ·obtain⟨o,ho,k⟩:=S2.cont _ _ ((old l hl).symm.trans q)
  exact⟨o,ho,nA S ht I T hl (by cases l<;>first | rfl | exact aB hl) k⟩
 ·obtain rfl:=ay q;exact⟨_,hx,d,rfl,by rw[hc0]⟩
 ·obtain rfl:=ay q
  refine⟨od,hd,_,rfl,m,?_,λn hn'=>?_⟩
  ·obtain⟨es,ep,k1,k2,k3⟩:=hm
   exact⟨es,ep,k1,iE k2 (iE (vF fs) (hlen▸iE K.len (by decide))),k3⟩
  ·have:=hat n hn'
   unfold iy at this;unfold pM;rw[← hc0];cases hi:aC (C.N.T.clsFields c) n with
   |none=>rw[hi] at this;exact this
   |some i=>
    rw[hi,mY,xR,bG,List.getElem?_map] at this;rw[mY,bG,List.getElem?_map];cases hv:vs[i]? with
    |none=>rw[hv] at this;exact this
    |some v=>
     rw[hv] at this;obtain⟨b,hb,hr⟩:=cy this;exact⟨b,hb,hr.retmp T r1 rfl (vV hn hv)⟩
end
open PySem PySem.W PyProof.Rows PySem.Calls PySem.Builtin
structure CaOk(C:Cx):Prop where
 made:∀c,(C.N.T.clsInit c).isSome=true→makesIn C.K (C.N.cla c)=true
 ini:∀c f,C.N.T.clsInit c=some f→findIn C.K (.ref (C.N.cla c)) "__init__" = some (some (.ref (C.N.fna f)))∧typeIn C.K (.ref (C.N.fna f))=some (.type "function")
 isi:∀c d,(C.N.T.clsInit c).isSome=true→(C.N.T.clsInit d).isSome=true→isiOk C.K (C.N.cla c) (C.N.cla d) (C.N.T.clsSub c d)=true
 rd:∀c,(C.N.T.clsInit c).isSome=true→fZ C.K (C.N.cla c)=true
 keepC:∀c,(C.N.T.clsInit c).isSome=true→keepIn C.K (.ref (C.N.cla c))=true
 keepF:∀f,(C.N.T.body f).isSome=true→keepIn C.K (.ref (C.N.fna f))=true∧fnIn C.K (C.N.fna f)=true
 b0:C.N.bin 0= .builtin "len"
 b1:C.N.bin 1= .builtin "isinstance"
section
variable {C:Cx}{Φ:ku}{n:Nat}{w:Wd}{ω:Nat→Option Addr}{P:PMap}{L:FL}{nms:Fc}{st:St}{A:Around}{E:Value→Shared→Prop}{s:Shared}
noncomputable abbrev ut(C:Cx)(w:Wd)(ω:Nat→Option Addr)(P:PMap)(L:FL)(nms:Fc)(st:St)(v:MV)(sh':Sto)(s:Shared)(Q:Value→Shared→Prop):Prop:=
 ∀w' h' tk a,w.Ext w'→Fm C.N w' ω P L nms {st with sh:=sh'} h'→VRel C.N w' v a→Q a {s with heap:=h',toks:=tk}
theorem ju(H:ny C Φ n)(F:Fm C.N w ω P L nms st s.heap){f:Nat}{pos:List MV}{kws:List (Nat×MV)}{v:MV}{sh':Sto}{pvals:List Value}{kvals:List (Str×Value)}{Q:Value→Shared→Prop}
  (e:kx C.N.T Φ f pos kws st.sh=some (v,sh')) (hr:rl sh'≤ak) (hA:Rm A n) (hp:VRels C.N w pos pvals) (hk:LRel C.N w kws kvals) (k:ut C w ω P L nms st v sh' s Q) :
  codeAny (model C.prog C.wd) A (.call (.ref (C.N.fna f)) ⟨pvals,kvals⟩) (λr s'=>match r with | .ok (.ret v)=>Q v s' | .ok _=>False | .error e=>E e s') s:=
 H e hr hA F.enter hp hk λw' h' tk a x S hv=>k w' h' tk a x (F.back x S) hv
theorem vW{q:Addr}{vals:List Value}{Q:Value→Shared→Prop}(hl:s.heap.IsList q vals.toArray)(hn:vals.length≤ak)(h:∀t tk,Q (.int vals.length t) {s with toks:=tk}) :
  wpAny (model C.prog C.wd) A (call (.builtin "len") [.ref q]) Q E s:=by
 refine Calls.call_len_list hl (by rw[nk];exact lT hn) ?_
 rw[nk];exact h _ _
theorem Bu(F:Fm C.N w ω P L nms st s.heap){v:MV}{a:Value}{m:Nat}{Q:Value→Shared→Prop}(h:VRel C.N w v a)(e:DW st.sh v=some m)(k:∀t tk,Q (.int m t) {s with toks:=tk}):wpAny (model C.prog C.wd) A (call (.builtin "len") [a]) Q E s:=by
 refine pP e (λe=>bH e λx h1 e=>?_) λe=>bH e λvs h1 e=>?_
 ·obtain⟨hs,t,rfl⟩:=(bg h1▸h:VRel C.N w (.str x) a).str_inv
  refine SBL.len (by rw[az];exact lT hs) ?_
  rw[az,e];exact k _ _
 ·obtain⟨hl,hr,hn⟩:=gI F.sh h1 h
  refine vW hl hn λt tk=>?_;rw[← hr.length_eq,e];exact k _ _
theorem l9{v:MV}{a:Value}{d:Nat}(h:VRel C.N w v a)(e:sv C.N.T v=some d):(C.N.T.clsInit d).isSome=true∧a= .ref (C.N.cla d):=ad e λd' h1 e=>by
 obtain⟨h2,e⟩:=eF e;obtain rfl:=ay e;exact⟨h2,(vv h1▸h:VRel C.N w (.cls d') a)⟩
theorem yA(B:CaOk C){h:Heap}(X:C.K.In h){c:Nat}{q:Addr}{o:Obj}{xs:Array Value}{m:Nat}(hc:(C.N.T.clsInit c).isSome=true)(hq:h.get? q=some o)(hd:o.data= .seq xs m):C.N.cla c≠q:=λz=>by
 have hrd:=B.rd _ hc;have hcl:=aa (hrd:(_&&(clsIn C.K (C.N.cla c)).isSome)=true);unfold clsIn at hcl;split at hcl
 ·rename_i hlk
  have h1:=X _ _ hlk;rw[z,hq] at h1;rw[ay h1] at hd;cases hd
 ·exact aB hcl
theorem Bv(O:CxOk C)(B:CaOk C)(F:Fm C.N w ω P L nms st s.heap){x v:MV}{a b:Value}{p:Nat×List MV}{r:Bool}{Q:Value→Shared→Prop}(h:VRel C.N w x a)(hi:gz x=some p)(h':VRel C.N w v b)(e:DX C.N.T p.1 v=some r)
  (k:∀tk,Q (.bool r) {s with toks:=tk}):wpAny (model C.prog C.wd) A (call (.builtin "isinstance") [a,b]) Q E s:=by
 have S:=F.sh;obtain⟨vals,_,⟨hc,hq,hd,hm,hf⟩⟩:=VRel.inst_eq.mp (jW hi▸h);have I:=eB (N:=C.N) (S.frz _ _ hq) (S.frz _ _ hd);refine pP e (λe=>bH e λd h1 e=>?_) λe=>ad e λl h1 e=>?_
 ·obtain⟨e1,rfl⟩:=l9 h' h1
  exact yy (O.In S) I (B.isi _ _ hc e1) λtk=>e▸k tk
 ·cases l with
  |nil=>exact aG e
  |cons d ds=>
   refine ad e λe' h2 e=>ad e λd' h3 e=>bH e λe2 h4 e=>?_;rw[gC h2] at h1;obtain⟨hq',hct,hdt,hr',_⟩:=oo S (ji h1▸h');obtain⟨a1,r1,rfl,v1,r1⟩:=hr'.cons_inv;obtain⟨a2,rfl,v2⟩:=r1.one_inv;obtain⟨e3,rfl⟩:=l9 v1 h3;obtain⟨e4,rfl⟩:=l9 v2 h4;exact yx (O.In S) I hq' hct hdt (yA B (O.In S) hc hq' hdt) (B.isi _ _ hc e3) (B.isi _ _ hc e4) λtk=>e▸k tk
theorem rB(O:CxOk C)(B:CaOk C)(F:Fm C.N w ω P L nms st s.heap){b:Nat}{pos:List MV}{v:MV}{pvals:List Value}{Q:Value→Shared→Prop}
  (e:Mine.builtin C.N.T st.sh b pos=some v) (hp:VRels C.N w pos pvals) (k:ut C w ω P L nms st v st.sh s Q):wpAny (model C.prog C.wd) A (call (C.N.bin b) pvals []) Q E s:=by
 have go:∀{a},VRel C.N w v a→ ∀tk,Q a {s with toks:=tk}:=λh tk=>k w s.heap tk _ (.refl w) F h
 match b,e with
 |0,e=>
  refine ad e λx h1 e=>bH e λm h2 e=>?_;obtain⟨a,rfl,h⟩:=(gC h1▸hp:VRels C.N w [x] pvals).one_inv;rw[B.b0];exact Bu F h h2 λt tk=>go (e▸ .int _ _) tk
 |1,e=>
  cases pos with
  |nil=>exact aG e
  |cons x r=>
   refine ad e λd h1 e=>ad e λp h2 e=>bH e λq h3 e=>?_;obtain⟨a,as,rfl,h,hr⟩:=hp.cons_inv;obtain⟨b,rfl,h'⟩:=(gC h1▸hr:VRels C.N w [d] as).one_inv;rw[B.b1];exact Bv O B F h h2 h' h3 λtk=>go (e▸ .bool _) tk
 |n+2,e=>exact aG e
end
open PySem PySem.W PyProof.Rows PySem.Calls PySem.Builtin
theorem Rm.mono{A:Around}{n m:Nat}(h:Rm A n)(hm:m≤n):Rm A m:=⟨by have:=h.depth;omega,by have:=h.units;omega,h.hand⟩
theorem cU(a:Addr)(rest:List Value)(kw:List (Str×Value)):Code.cUnits (.builtin "type.__call__" ⟨.ref a::rest,kw⟩)≤20:=by
 have:Code.cUnits (.builtin "type.__call__" ⟨.ref a::rest,kw⟩)=1:=rfl;omega
theorem Rm.under{A:Around}{n:Nat}{C:Addr}{rest:List Value}{kw:List (Str×Value)}(h:Rm A (n+1)):Rm (A.under (.builtin "type.__call__" ⟨.ref C::rest,kw⟩)) n:=by
 have h1:=h.depth;have h2:=h.units;refine⟨by show A.depth+1+n≤999;omega,?_,h.hand⟩
 show A.units+Code.cUnits (.builtin "type.__call__" ⟨.ref C::rest,kw⟩)+20*n≤9000;have:Code.cUnits (.builtin "type.__call__" ⟨.ref C::rest,kw⟩)≤20:=cU ..;omega
section
variable {C:Cx}{Φ:ku}{n:Nat}{w:Wd}{ω:Nat→Option Addr}{P:PMap}{L:FL}{nms:Fc}{st:St}{A:Around}{E:Value→Shared→Prop}{s:Shared}
theorem uu{ps:List (Nat×Option MV)}{v:MV}{pos as:List MV}{kws:List (Nat×MV)}(e:pN ps (v::pos) kws=some as):∃r,as=v::r:=by
 obtain⟨e1,e⟩:=eF e;have e1:=bf (ab e1);cases ps with
 |nil=>exact absurd e1 (Nat.not_succ_le_zero _)
 |cons p ps=>
  refine ad e λu hu e=>bH e λr _ e=>?_;have hu:List.lookup p.1 ((p.1,v)::((ps.map (·.1)).zip pos++kws++dfl (p::ps)))=some u:=hu
  rw[List.lookup_cons_self] at hu;exact⟨r,by rw[ay hu];exact e.symm⟩
theorem uv(O:CxOk C)(B:CaOk C)(H:ny C Φ n)(HI:oC C.N.T Φ)(F:Fm C.N w ω P L nms st s.heap){c:Nat}{pos:List MV}{kws:List (Nat×MV)}{v:MV}{sh':Sto}{pvals:List Value}{kvals:List (Str×Value)}
  {Q:Value→Shared→Prop} (e:re C.N.T Φ c pos kws st.sh=some (v,sh')) (hr:rl sh'≤ak) (hA:Rm A (n+1)) (hp:VRels C.N w pos pvals) (hk:LRel C.N w kws kvals) (k:ut C w ω P L nms st v sh' s Q) :
  wpAny (model C.prog C.wd) A (call (.ref (C.N.cla c)) pvals kvals) Q E s:=by
 obtain⟨ht,e⟩:=mZ e;have ht:=qnz.mp ht;refine ad e λf hf e=>ad e λr h1 e=>?_;obtain⟨hn,e⟩:=mZ e;have hn:=jX hn;refine ad e λp ht2 e=>?_;obtain⟨hcc,e⟩:=mZ e;obtain rfl:=eq_of_beq hcc;refine ad e λvs h3 e=>?_;have hc:(C.N.T.clsInit p.1).isSome=true:=by rw[hf];rfl
 obtain⟨k1,k2⟩:=B.ini _ _ hf;have X:=O.In F.sh;have S0:=F.enter;obtain⟨x1,S1⟩:=uo S0 ht hc;have hI:InitFr {st.sh with tmp:=some (p.1,List.replicate (C.N.T.clsFields p.1).length none)} r.2:=ad h1 λas ha h1=>(uu ha).elim λr' z=>HI hf (z▸h1)
 have hr2:rl r.2≤ak:=iM (T:=C.N.T) e▸hr;obtain⟨hh,g,dd,tt,os⟩:=s;refine wpAny_call (make_core (makes_of X (B.made _ hc)) (looks_findIn X k1) (λself=>bind_fn X self k2) (.inl rfl) ?_);refine H h1 hr2 (s:=⟨_,g,dd,tt,os⟩) hA.under S1 (.cons (.loc rfl) (hp.mono x1)) (hk.mono x1) λw2 h2 tk a x2 S2 hv=>?_;rw[hn] at hv;obtain rfl:a= .none:=hv;refine⟨rfl,?_⟩;refine jg e (λhq e=>?_) λhq e=>?_
 ·obtain⟨hq2,e⟩:=mZ e
  obtain⟨w3,x3,S3,V3⟩:=oD O S0 ht S2 x1 x2 hI ht2 h3 (ab hq2) (eq_of_beq hq) (qnz.mp (aa hq2));have e:=ay e;obtain rfl:=bJ Prod.fst e;obtain rfl:=bJ Prod.snd e;exact k w3 h2 tk _ x3 (F.back x3 S3) V3
 ·obtain⟨hq2,e⟩:=mZ e
  obtain⟨w3,x3,S3,V3⟩:=ur O S0 ht S2 x1 x2 hI ht2 h3 hq2;have e:=ay e;obtain rfl:=bJ Prod.fst e;obtain rfl:=bJ Prod.snd e;exact k w3 h2 tk _ x3 (F.back x3 S3) V3
theorem vX(O:CxOk C)(B:CaOk C)(H:ny C Φ n)(HI:oC C.N.T Φ)(F:Fm C.N w ω P L nms st s.heap){fv:MV}{fa:Value}{pos:List MV}{kws:List (Nat×MV)}{v:MV}{sh':Sto}{pvals:List Value}{kvals:List (Str×Value)}
  {Q:Value→Shared→Prop} (e:nn C.N.T Φ fv pos kws st.sh=some (v,sh')) (hr:rl sh'≤ak) (hA:Rm A (n+1)) (hv:VRel C.N w fv fa) (hp:VRels C.N w pos pvals) (hk:LRel C.N w kws kvals) (k:ut C w ω P L nms st v sh' s Q) :
  wpAny (model C.prog C.wd) A (call fa pvals kvals) Q E s:=by
 cases fv with
 |fn f=>
  obtain rfl:fa=_:=hv;exact wpAny_call (ju H F e hr (hA.mono (Nat.le_succ _)) hp hk k)
 |meth f l=>
  cases (hv:MethR _ w f l fa) with | mk hb hl hq=>
  exact wpAny_call (method_call (F.sh.frz _ _ hq) (ju H F e hr (hA.mono (Nat.le_succ _)) (.cons (.loc hl) hp) hk k))
 |bi b=>
  obtain rfl:fa=_:=hv;cases kws with
  |nil=>
   obtain rfl:=hk;refine bH e λa h1 e=>?_;obtain rfl:=bJ Prod.fst e;obtain rfl:=bJ Prod.snd e;exact rB O B F h1 hp k
  |cons _ _=>exact aG e
 |cls c=>
  obtain rfl:fa=_:=hv;exact uv O B H HI F e hr hA hp hk k
 |_=>exact aG e
end
open PySem PySem.W PyProof.Rows PySem.Calls PySem.Builtin
structure NmOk(C:Cx):Prop where
 m0:C.N.nm 0= "append"
 m1:C.N.nm 1= "pop"
 m2:C.N.nm 2= "startswith"
 m3:C.N.nm 3= "join"
 m4:C.N.nm 4= "split"
 m5:C.N.nm 5= "copy"
noncomputable def G5(a:Nat):String:=(c0 ["list.append","list.pop","str.startswith","str.join","str.split","dict.copy"] a).getD ""
theorem qd:∀(p s:Tx),prefX p s=(decide (p.length≤s.length)&&(s.take p.length==p))
 |[],s=>by simp [prefX]
 |a::p,[]=>by simp [prefX]
 |a::p,b::s=>by
  rw[prefX,qd p s];by_cases h:a=b
  ·subst h;simp [Nat.succ_le_succ_iff]
  ·have:(b::List.take p.length s==a::p)=false:=by
    rw[beq_eq_false_iff_ne];intro z;injection z with z1 _;exact h z1.symm
   simp [h,this,List.take_succ_cons]
theorem na(s p:Tx):Txt.startswith (aj s) (aj p)=prefX p s:=by
 rw[qd];unfold Txt.startswith Str.subAt;rw[az,az,Nat.zero_add]
 congr 1
 show (s.toArray.extract 0 p.length==p.toArray)=(s.take p.length==p);rw[StrLaws.beq_toList];simp
theorem nC(sep:Tx):∀xs:List Tx,Str.join (aj sep) (xs.map aj)=aj (dh sep xs)
 |[]=>rfl
 |[x]=>rfl
 |x::y::r=>by
  show aj x++aj sep++Str.join (aj sep) ((y::r).map aj)=aj (x++sep++dh sep (y::r));rw[nC sep (y::r),eo,eo]
theorem nE(sep:Tx):∀xs:List Tx,(dh sep xs).length≤(xs.map List.length).sum+xs.length*sep.length
 |[]=>iw _
 |[x]=>by simp [dh]
 |x::y::r=>by
  have:=nE sep (y::r);simp only [dh,a7,List.map_cons,List.sum_cons,List.length_cons,Nat.add_mul,Nat.one_mul] at *;omega
theorem rC{N:Nm}{w:Wd}{vs:List MV}:∀{vals:List Value} {xs:List Tx},VRels N w vs vals→cA vs=some xs→StrsAre vals (xs.map aj):=by
 induction vs with
 |nil=>intro vals xs h e;obtain rfl:=h;obtain rfl:=ay e;exact .nil
 |cons v vs ih=>
  intro vals xs h e;obtain⟨a,r,rfl,h,t⟩:=h.cons_inv;refine ad e λx h1 e=>bH e λys h2 e=>?_;obtain⟨_,u,rfl⟩:=(bg h1▸h:VRel N w (.str x) a).str_inv;rw[← e];exact .cons _ u (ih t h2)
section
variable {C:Cx}{Φ:ku}{n:Nat}{w:Wd}{ω:Nat→Option Addr}{P:PMap}{L:FL}{nms:Fc}{st:St}{A:Around}{E:Value→Shared→Prop}{s:Shared}
theorem nF{sh:Sto}{l:Loc}{vs:List MV}(h:ap sh l=some vs):be l=true:=by
 cases l with
 |em | emD | tmp | tmpD=>exact aG h
 |_=>rfl
theorem vY(F:Fm C.N w ω P L nms st s.heap){l:Loc}{a:Addr}(h:w.ρ l=some a)(hl:be l=true):∃o,s.heap.get? a=some o∧ListR C.N w (ap st.sh l) o:=by
 obtain⟨o,h1,h2⟩:=F.sh.cont l a h;refine⟨o,h1,?_⟩;cases l with
 |em | emD | tmp | tmpD=>exact aB hl
 |_=>exact h2
theorem uw(N:NmOk C)(F:Fm C.N w ω P L nms st s.heap){ov:MV}{oa:Value}{a:Nat}{pl:Sem Bool}{Q:Value×List Value→Shared→Prop}(h:VRel C.N w ov oa)(e:z6 ov a=true)
  (k:Q (.builtin (G5 a),[oa]) s):wpAny (model C.prog C.wd) A (getMethod oa (C.N.nm a) pl) Q E s:=by
 have lst:(fH ov).any be=true→ ∃q n xs,oa= .ref q∧s.heap.get? q=some (listOf xs n):=λe=>by
  cases hl:fH ov with
  |none=>rw[hl] at e;exact aB e
  |some l=>
   rw[hl] at e;obtain⟨q,hρ,h1⟩:=(eL hl▸h:VRel C.N w (.loc l) oa).loc_inv;obtain⟨_,hq,⟨_⟩⟩:=vY F hρ e;exact⟨q,_,_,h1,hq⟩
 have str:(cE ov).isSome=true→ ∃x t,oa= .str x t:=λe=>by
  obtain⟨x,hx⟩:=qez.mp e;obtain⟨_,t,h1⟩:=(bg hx▸h:VRel C.N w (.str x) oa).str_inv;exact⟨_,t,h1⟩
 match a,e with
 |0,e=>obtain⟨q,_,_,rfl,hq⟩:=lst e;rw[N.m0];exact Calls.getMethod_list_append hq rfl rfl k
 |1,e=>obtain⟨q,_,_,rfl,hq⟩:=lst e;rw[N.m1];exact Copied.getMethod_pop_at hq rfl rfl k
 |2,e=>obtain⟨x,t,rfl⟩:=str e;rw[N.m2];exact GM.startswith k
 |3,e=>obtain⟨x,t,rfl⟩:=str e;rw[N.m3];exact GM.join k
 |4,e=>obtain⟨x,t,rfl⟩:=str e;rw[N.m4];exact GM.split k
 |5,e=>
  obtain⟨kvs,h1⟩:=qez.mp (e:(q7 ov).isSome=true);cases ((on h1▸h:VRel C.N w (.sd kvs) oa):SdR C.N w kvs oa) with | mk hnd hlo hq hr=>
  rw[N.m5];have ho:=F.sh.frz _ _ hq;exact getMethod_builtin ⟨_,ho,rfl⟩ PySem.F.plainAttrs_dict PySem.F.slot_dict_copy PySem.F.type_dict_copy (λa e=>by cases e;exact⟨_,ho,rfl⟩) k
 |n+6,e=>exact aB e
end
open PySem PySem.W PyProof.Rows PySem.Calls PySem.Builtin
section
variable {sh sh':Sto}{l:Loc}{vs us:List MV}
theorem cn(e:bP sh vs l=some sh'):ap sh' l=some vs:=by
 cases l with
 |em | emD | tmp | tmpD=>exact aG e
 |_=>obtain rfl:=ay e;rfl
theorem nc(h:ap sh l=some us)(e:bP sh vs l=some sh')(l':Loc):eK sh' l'=eK sh l':=by
 have key:∀{o:Option (List MV)},o=some us→true=o.isSome:=λh=>h▸rfl;cases l with
 |em | emD | tmp | tmpD=>exact aG e
 |states=>obtain rfl:=ay e;cases l' with | states=>exact key h | _=>rfl
 |events=>obtain rfl:=ay e;cases l' with | events=>exact key h | _=>rfl
 |indents=>obtain rfl:=ay e;cases l' with | indents=>exact key h | _=>rfl
 |rows=>obtain rfl:=ay e;cases l' with | rows=>exact key h | _=>rfl
 |tape=>obtain rfl:=ay e;cases l' with | tape=>exact key h | _=>rfl
 |due=>obtain rfl:=ay e;cases l' with | due=>exact key h | _=>rfl
theorem f4{N:Nm}{w:Wd}(e:bP sh vs l=some sh')(l':Loc)(hl:l'≠l)(o:Obj)(h:Cont N w sh l' o):Cont N w sh' l' o:=by
 cases l with
 |em | emD | tmp | tmpD=>exact aG e
 |states=>obtain rfl:=ay e;cases l' with | states=>exact absurd rfl hl | _=>exact h
 |events=>obtain rfl:=ay e;cases l' with | events=>exact absurd rfl hl | _=>exact h
 |indents=>obtain rfl:=ay e;cases l' with | indents=>exact absurd rfl hl | _=>exact h
 |rows=>obtain rfl:=ay e;cases l' with | rows=>exact absurd rfl hl | _=>exact h
 |tape=>obtain rfl:=ay e;cases l' with | tape=>exact absurd rfl hl | _=>exact h
 |due=>obtain rfl:=ay e;cases l' with | due=>exact absurd rfl hl | _=>exact h
theorem f6{N:Nm}{w:Wd}{vals:List Value}{n:Nat}(e:ap sh l=some vs)(hl:vals.length≤ak)(hr:VRels N w vs vals):Cont N w sh l (listOf vals.toArray n):=by
 cases l with
 |em | emD | tmp | tmpD=>exact aG e
 |_=>exact ListR.mk e hl hr
end
section
variable {C:Cx}{Φ:ku}{n:Nat}{w:Wd}{ω:Nat→Option Addr}{P:PMap}{L:FL}{nms:Fc}{st:St}{A:Around}{E:Value→Shared→Prop}{s:Shared}
theorem rD(F:Fm C.N w ω P L nms st s.heap){l:Loc}{a:Addr}{us vs:List MV}{vals:List Value}{k:Nat}{sh':Sto}{h':Heap}(hl:w.ρ l=some a)(h:ap st.sh l=some us)(e:bP st.sh vs l=some sh')
  (hs:Heap.SameBut a s.heap h') (ho:h'.get? a=some (listOf vals.toArray k)) (hn:vals.length≤ak) (hr:VRels C.N w vs vals):Fm C.N w ω P L nms {st with sh:=sh'} h':=
 F.setSh hl hs ho (f6 (cn e) hn hr) (f4 e) (nc h e)
theorem ux(F:Fm C.N w ω P L nms st s.heap){l:Loc}{q:Addr}{x:MV}{b:Value}{vs:List MV}{sh':Sto}{Q:Value→Shared→Prop}(hl:w.ρ l=some q)(hx:VRel C.N w x b)(hv:ap st.sh l=some vs)
  (e:bP st.sh (vs++[x]) l=some sh') (hn:vs.length+1≤ak) (k:ut C w ω P L nms st .none sh' s Q):wpAny (model C.prog C.wd) A (call (.builtin "list.append") [.ref q,b]) Q E s:=by
 obtain⟨hl,hq,hr,hn'⟩:=sJ F.sh hv (.loc hl);rename_i vals m;have hlen:=hr.length_eq;refine append_at hq (λh' hs ho'=>k w h' s.toks _ (.refl w) (rD F hl hv e hs (vals:=vals++[b]) (k:=m+1) (by rw[ho'];simp) ?_ (hr.append (.cons hx .nil))) .none) ?_
 ·rw[a7,← hlen];exact hn
 ·rw[nk,← hlen,ar];exact Nat.le_of_succ_le hn
theorem Bw(F:Fm C.N w ω P L nms st s.heap){l:Loc}{q:Addr}{x:MV}{vs:List MV}{sh':Sto}{Q:Value→Shared→Prop}(hl:w.ρ l=some q)(hv:ap st.sh l=some vs)(hx:vs.getLast?=some x)
  (e:bP st.sh vs.dropLast l=some sh') (k:ut C w ω P L nms st x sh' s Q):wpAny (model C.prog C.wd) A (call (.builtin "list.pop") [.ref q]) Q E s:=by
 obtain⟨hl,hq,hr,hn⟩:=sJ F.sh hv (.loc hl);rename_i vals m;have hlen:=hr.length_eq;rw[List.getLast?_eq_getElem?] at hx;obtain⟨b,hb,rb⟩:=hr.get hx;refine Copied.pop_at hq (y:=b) ?_ (λh' hs ho'=>k w h' s.toks _ (.refl w) (rD F hl hv e hs (vals:=vals.dropLast) (k:=m+1) ?_ ?_ ?_) rb) ?_
 ·rw[nk,← hlen];simpa using hb
 ·rw[ho'];simp
 ·rw[List.length_dropLast];exact iE (Nat.sub_le ..) hn
 ·rw[List.dropLast_eq_take,List.dropLast_eq_take,← hlen];exact hr.take _
 ·rw[nk,ar];exact hn
theorem yB(F:Fm C.N w ω P L nms st s.heap){l:Loc}{q:Addr}{x:MV}{vs:List MV}{t:Tok}{sh':Sto}{Q:Value→Shared→Prop}(hl:w.ρ l=some q)(hv:ap st.sh l=some (x::vs))
  (e:bP st.sh vs l=some sh') (k:ut C w ω P L nms st x sh' s Q):wpAny (model C.prog C.wd) A (call (.builtin "list.pop") [.ref q,.int 0 t]) Q E s:=by
 obtain⟨hl,hq,hr,hn⟩:=sJ F.sh hv (.loc hl);rename_i m;obtain⟨b,bs,rfl,rb,rr⟩:=hr.cons_inv;refine call_meets PySem.F.slot_list_pop ⟨_,hq,rfl⟩ PySem.F.entry_list_pop (PySem.F.args_list_pop_2 _ _) (PySem.MeetsSeq.list_pop_at q _ m 0 t 0 b (by decide) ?_ (by simp) ?_) ⟨hq,?_⟩
 ·rw[← rv];simp [lj]
 ·rw[nk,ar];exact hn
 ·refine k w _ s.toks _ (.refl w) (rD F hl hv e (vals:=bs) (k:=m+1) (Heap.SameBut.update ..) ?_ (Nat.le_of_succ_le hn) rr) rb
  rw[Heap.get?_update_self _ hq (by simp [Obj.mapSeq];rfl)]
  simp [Obj.mapSeq]
theorem qe{P:Params}{kvs:List (Tx×Tx)}(hP:C.wd.params=P):∀{vs:List (Str×Value)},yu kvs vs→ ∀{es:List DictEntry},Pairs (strKind C.prog C.wd) es vs→(∀e∈es,∃k,(strKind C.prog C.wd).is k e.key=true∧e.hash=(strKind C.prog C.wd).hash k) →
  (∀kv∈kvs,kv.1.length≤ak)→sH P kvs es:=by
 subst hP
 induction kvs with
 |nil=>intro vs h es hp _ _;obtain rfl:=h;cases hp;exact rfl
 |cons p r ih=>
  intro vs h es hp hk hl;obtain⟨t,vs',hv,rfl,q⟩:=h;cases hp with
  |@cons e _ es' _ h1 h2 h3=>
   obtain⟨t',ht⟩:=Value.isStrOf_shape h1;obtain⟨k',hk1,hk2⟩:=hk e (.head _);have:k'=aj p.1:=(strKind C.prog C.wd).inj _ _ _ hk1 h1;subst this;obtain⟨eh,ek,ev⟩:=e;dsimp only at h2 ht hk2;subst h2 ht hk2;exact⟨_,_,_,hl _ (.head _),hv,rfl,ih q h3 (λe he=>hk e (.tail _ he)) λkv hkv=>hl kv (.tail _ hkv)⟩
theorem yC{P:Params}{kvs}:∀{es},sH P kvs es→(∀kv∈kvs,kv.1.length≤ak)∧es.length=kvs.length:=by
 induction kvs with
 |nil=>intro es h;obtain rfl:=h;exact⟨λ_ m=>absurd m nX,rfl⟩
 |cons p r ih=>
  intro es h;obtain⟨_,_,es',h1,h2,rfl,h⟩:=h;obtain⟨k1,k2⟩:=ih h;refine⟨λkv m=>?_,bJ (· + 1) k2⟩
  rcases qkz.mp m with rfl | m
  ·exact h1
  ·exact k1 kv m
theorem uy{kvs:List (Tx×Tx)}:∀{vs:List (Str×Value)},yu kvs vs→vs.map (·.1)=(kvs.map (·.1)).map aj:=by
 induction kvs with
 |nil=>intro vs h;obtain rfl:=h;rfl
 |cons p r ih=>intro vs h;obtain⟨_,vs',_,rfl,q⟩:=h;exact bJ (List.cons _) (ih q)
theorem yD(O:CxOk C)(F:Fm C.N w ω P L nms st s.heap){kvs:List (Tx×Tx)}{a:Value}{Q:Value→Shared→Prop}(h:SdR C.N w kvs a)(hn:kvs.length≤ak)(k:ut C w ω P L nms st (.sd kvs) st.sh s Q) :
  wpAny (model C.prog C.wd) A (call (.builtin "dict.copy") [a]) Q E s:=by
 cases h with | mk hnd hlo hq hr=>
 have hr':=yC hr;rw[← O.par] at hr;obtain⟨vs,h1,h2,h3⟩:=p7 (prog:=C.prog) hr;have hnd':(vs.map (·.1)).Nodup:=by rw[uy h1];exact List.pairwise_map.mpr (List.Pairwise.imp (λh z=>h (jV z)) hnd)
 have ho:=F.sh.frz _ _ hq;refine call_meetsIn PySem.F.slot_dict_copy ⟨_,ho,rfl⟩ PySem.F.entry_dict_copy (PySem.F.args_dict_copy_1 _) (meets_dict_copy (strKind C.prog C.wd) _ hlo) ⟨vs,⟨_,_,_,ho,⟨rfl,rfl,rfl⟩,rfl,h3,h2,hnd'⟩,?_,λh' hd _ hkeep=>?_⟩
 ·rw[← h2.length,hr'.2,ar];exact hn
 ·obtain⟨o,es,ep,g1,g2,g3,g4,g5,_⟩:=hd
  obtain⟨oc,od,odat,osl⟩:=o;obtain⟨q1,q2,q3⟩:=g2;dsimp only at q1 q2 q3 g3;subst q1 q2 q3 g3;obtain⟨x',F'⟩:=F.addNew hkeep (Heap.get?_none_of_le (cz _)) g1;have hnew:(s.heap.objs.size==sysModules)=false:=beq_eq_false_iff_ne.mpr (Nat.ne_of_gt (modules_low (O.topIn F.sh).nolimit));exact k _ h' s.toks _ x' F' (SdR.mk hnd hnew (es:=es.toList) (n:=ep) (by rw[Array.toArray_toList];exact Wd.add_at) (qe (P:=C.N.P) O.par h1 g5 (λe he=>g4 e (Array.mem_toList_iff.mp he)) hr'.1))
theorem vZ(F:Fm C.N w ω P L nms st s.heap){ov:MV}{oa:Value}{pos:List MV}{pvals:List Value}{r:MV×Sto}{Q:Value→Shared→Prop}(h:VRel C.N w ov oa)(hp:VRels C.N w pos pvals)(hok:lL st.sh ov pos=true)
  (e:sw st.sh ov pos=some r) (hr:rl r.2≤ak) (k:ut C w ω P L nms st r.1 r.2 s Q):wpAny (model C.prog C.wd) A (call (.builtin "list.append") (oa::pvals) []) Q E s:=by
 refine ad e λl h1 e=>ad e λx h2 e=>ad e λvs hv e=>bH e λsh1 h3 e=>?_;obtain rfl:=e;obtain⟨q,hρ,rfl⟩:=(eL h1▸h:VRel C.N w (.loc l) oa).loc_inv;obtain⟨b,rfl,hx⟩:=(gC h2▸hp:VRels C.N w [x] pvals).one_inv;refine ux F hρ hx hv h3 ?_ k
 have hk:((bif gA l then none else (ap st.sh l).map λvs=>aS (vs.length+1) ak).getD true)=true:=by
  have:=hok;unfold lL at this;rw[h1] at this;exact this
 cases hl:gA l with
 |true=>
  cases l with
  |rows=>
   obtain rfl:=ay h3;have h2:(vs++[x]).length≤ak:=hr;rw[a7] at h2;exact h2
  |_=>exact aB hl
 |false=>rw[hl,hv] at hk;exact bf hk
theorem Ec(F:Fm C.N w ω P L nms st s.heap){ov:MV}{oa:Value}{pos:List MV}{pvals:List Value}{r:MV×Sto}{Q:Value→Shared→Prop}(h:VRel C.N w ov oa)(hp:VRels C.N w pos pvals)
  (e:t8 st.sh ov pos=some r) (k:ut C w ω P L nms st r.1 r.2 s Q):wpAny (model C.prog C.wd) A (call (.builtin "list.pop") (oa::pvals) []) Q E s:=by
 refine ad e λl h1 e=>jg e (λ_ e=>aG e) λ_ e=>ad e λvs hv e=>jg e (λhe e=>ad e λx hx e=>bH e λsh1 h3 e=>?_) λ_ e=>ad e λi h2 e=>ad e λj h4 e=>jg e (λh5 e=>?_) λ_ e=>aG e
 ·obtain rfl:=e
  obtain⟨q,hρ,rfl⟩:=(eL h1▸h:VRel C.N w (.loc l) oa).loc_inv;obtain rfl:=List.isEmpty_iff.mp he;obtain rfl:=hp;exact Bw F hρ hv hx h3 k
 ·obtain⟨q,hρ,rfl⟩:=(eL h1▸h:VRel C.N w (.loc l) oa).loc_inv
  obtain⟨b,rfl,hx⟩:=(gC h2▸hp:VRels C.N w [i] pvals).one_inv;obtain⟨t,rfl⟩:=(bz h4▸hx:VRel C.N w (.int j) b).int_inv;obtain rfl:j=0:=uS h5;cases vs with
  |nil=>exact aG e
  |cons x vs=>
   obtain⟨sh1,h3,rfl⟩:=aV e;exact yB F hρ hv h3 k
theorem Bx(F:Fm C.N w ω P L nms st s.heap){ov:MV}{oa:Value}{pos:List MV}{pvals:List Value}{r:MV×Sto}{Q:Value→Shared→Prop}(h:VRel C.N w ov oa)(hp:VRels C.N w pos pvals)(hok:rf st.sh ov pos=true)
  (e:z5 st.sh ov pos=some r) (k:ut C w ω P L nms st r.1 r.2 s Q):wpAny (model C.prog C.wd) A (call (.builtin "str.join") (oa::pvals) []) Q E s:=by
 refine ad e λx h1 e=>ad e λl h2 e=>ad e λvs h3 e=>bH e λxs h4 e=>?_;obtain rfl:=e
 have hk:aS ((xs.map List.length).sum+xs.length*x.length) ak=true:=by
  unfold rf at hok;rw[h1,mY,h2,mY,h3,mY,h4] at hok;exact hok
 have hk:=bf hk;obtain⟨_,t,rfl⟩:=(bg h1▸h:VRel C.N w (.str x) oa).str_inv;obtain⟨b,rfl,hx⟩:=(gC h2▸hp:VRels C.N w [l] pvals).one_inv;obtain⟨hl,hr,_⟩:=gI F.sh h3 hx;have hS:=rC hr h4;refine join_list hl (by simpa using hS) ?_ λt' tk=>?_
 ·rw[List.map_map,fP,az]
  rw[show (xs.map ((λx=>x.length) ∘ aj))=xs.map List.length from List.map_congr_left λx _=>az x];exact hk
 ·show Q (.str (Str.glued _ _) t') _
  rw[StrLaws.glued_eq_join,nC];exact k w s.heap tk _ (.refl w) F (.str t' (iE (nE _ _) hk))
theorem rE(O:CxOk C)(F:Fm C.N w ω P L nms st s.heap){ov:MV}{oa:Value}{a:Nat}{pos:List MV}{pvals:List Value}{r:MV×Sto}{Q:Value→Shared→Prop}(h:VRel C.N w ov oa)(hp:VRels C.N w pos pvals)
  (hok:iG st.sh ov a pos=true) (e:sx st.sh ov a pos=some r) (hr:rl r.2≤ak) (k:ut C w ω P L nms st r.1 r.2 s Q):wpAny (model C.prog C.wd) A (call (.builtin (G5 a)) (oa::pvals) []) Q E s:=by
 obtain⟨f,hf,e⟩:=bind_some e
 match a,hf with
 |0,hf=>obtain rfl:=ay hf;exact vZ F h hp hok e hr k
 |1,hf=>obtain rfl:=ay hf;exact Ec F h hp e k
 |2,hf=>
  obtain rfl:=ay hf;refine ad e λp h1 e=>?_;obtain⟨b,rfl,hx⟩:=(gC h1▸hp:VRels C.N w [p] pvals).one_inv;cases lp h hx e with | mk x y t u _ _=>
  show wpAny _ _ (call (.builtin "str.startswith") _ _) _ _ _;refine call_gives PySem.F.slot_str_startswith (typeIs_str _ _ _) PySem.F.entry_str_startswith (PySem.F.args_str_startswith_2 _ _) (PySem.gives_str_startswith _ _ _ _) ?_;show Q (.bool (Txt.startswith (aj _) (aj _))) s;rw[na];exact k w s.heap s.toks _ (.refl w) F (.bool _)
 |3,hf=>obtain rfl:=ay hf;exact Bx F h hp hok e k
 |4,hf=>obtain rfl:=ay hf;exact aG e
 |5,hf=>
  obtain rfl:=ay hf;refine jg e (λhe e=>bH e λkvs h1 e=>?_) λ_ e=>aG e;obtain rfl:=e
  have hk:aS kvs.length ak=true:=by
   have:((q7 ov).map λs=>aS s.length ak).getD true=true:=hok;rw[h1] at this;exact this
  obtain rfl:=List.isEmpty_iff.mp he;obtain rfl:=hp;exact yD O F (on h1▸h:VRel C.N w (.sd kvs) oa) (bf hk) k
 |n+6,hf=>exact aG hf
end
open PySem PySem.W PyProof.Rows PySem.Calls PySem.Builtin
section
variable {M:Model}{A:Around}{E:Value→Shared→Prop}{s:Shared}
theorem qf{f:Value}{args:List (Bool×Sem Value)}{kws:List (Option Str×Sem Value)}{Q:Args→Shared→Prop}(hp:args.all (!·.1)=true)(hall:kws.all (·.1.isSome)=true)
  (h:wpAny M A (spliced args) (λvs s₁=>wpAny M A (evalAll (kws.map (·.2))) (λks s₂=>Q ⟨vs,(kws.filterMap (·.1)).zip ks⟩ s₂) E s₁) E s):wpAny M A (evalArgs f true args kws) Q E s:=by
 cases args with
 |nil=>
  unfold evalArgs;show wpAny M A (spliced []>>=_) Q E s;refine aM (wpAny_mono h (λvs s₁ h₁=>?_) λ_ _ x=>x);refine aM (fj ?_);refine jb ?_;simp only [hall,if_true];refine aM (wpAny_mono h₁ (λks s₂ h₂=>?_) λ_ _ x=>x);exact aM (fj (fj h₂))
 |cons a r=>
  obtain⟨b,x⟩:=a
  have hb:b=false:=by
   have:=(qdz.mp hp) (b,x) (.head _);simpa using this
  subst hb;exact evalArgs_kw hall h
def gR (M:Model) (f:Value) (h:Heap):Prop:=∃k,(k=Keeper.frame∨k=Keeper.machine∨k=Keeper.boundFrame)∧Looks M h (keeperOf f) k
theorem fq{pos:Pos}{f:Value}{first:List Value}{args:List (Bool×Sem Value)}{kws:List (Option Str×Sem Value)}{Q:Value→Shared→Prop}(hp:args.all (!·.1)=true)(hall:kws.all (·.1.isSome)=true)
  (h:wpAny M A (spliced args) (λvs s₁=>wpAny M A (evalAll (kws.map (·.2))) (λks s₂=>gR M f s₂.heap∧wpAny M A (call f (first++vs) ((kws.filterMap (·.1)).zip ks)) Q E s₂) E s₁) E s) :
  wpAny M A (callWith pos f first args kws) Q E s:=by
 refine callWith_of (P:=gR M f) ?_ (λ_ x=>x) (qf hp hall h);rw[Bool.or_eq_false_iff];constructor
 ·rw[List.any_eq_false]
  intro a ha;have:=(qdz.mp hp) a ha;simpa using this
 ·rw[List.any_eq_false]
  intro a ha;have:=(qdz.mp hall) a ha;rw[← Option.not_isSome,this];decide
end
theorem rF:∀{a b:Tx},Ac a b=true→a=b
 |[],[],_=>rfl
 |a::r,b::q,h=>by rw[jO (ab (h:(Nat.beq a b&&Ac r q)=true)),rF (aa (h:(Nat.beq a b&&Ac r q)=true))]
 |[],_::_,h=>by cases h
 |_::_,[],h=>by cases h
theorem ma:∀(a:Tx),Ac a a=true
 |[]=>rfl
 |a::r=>by show (Nat.beq a a&&Ac r r)=true;rw[ma r,Nat.beq_refl];rfl
theorem j7{x y:Str}(h:m7 x y=true):x=y:=by
 have:=rF h;obtain⟨⟨a⟩⟩:=x;obtain⟨⟨b⟩⟩:=y;exact bJ (λl=>Str.mk (Array.mk l)) this
theorem v3{x y:Str}(h:m7 x y=false):x≠y:=by
 rintro rfl
 exact Bool.noConfusion ((ma _).symm.trans h)
theorem eqS_beq{x y:Str}:(x==y)=m7 x y:=by
 cases h:m7 x y with
 |true=>rw[j7 h];exact beq_self_eq_true _
 |false=>exact beq_eq_false_iff_ne.mpr (v3 h)
theorem lookL_eq{x:Str}{l:List (Str×NameKind)}:l.lookup x=cF x l:=by
 induction l with
 |nil=>rfl
 |cons p r ih=>
  rw[kN,eqS_beq];show _=bif m7 x p.1 then some p.2 else cF x r;cases m7 x p.1 with
  |true=>rfl
  |false=>exact ih
theorem v4{k:NameKind}{o:Option NameKind}(hk:∀j:NameKind,j.ctorIdx=k.ctorIdx→j=k)(h:G1 k o=true):o=some k:=by
 cases o with
 |none=>exact aB h
 |some j=>exact bJ some (hk j (jO h))
theorem me{o:Option NameKind}(h:jp o=true):o=some .local:=v4 (λj e=>by cases j<;>first | rfl | cases e) h
theorem v5{o:Option NameKind}(h:lW o=true):o=some .globalImplicit:=v4 (λj e=>by cases j<;>first | rfl | cases e) h
theorem jv{x:Str}{l:List (Str×NameKind)}(h:jp (cF x l)=true):l.lookup x=some .local:=lookL_eq.trans (me h)
theorem jw{x:Str}{l:List (Str×NameKind)}(h:lW (cF x l)=true):l.lookup x=some .globalImplicit:=lookL_eq.trans (v5 h)
theorem ce{x:Str}(h:jZ x=true):bY x=true:=by
 unfold bY;rw[eqS_beq,eqS_beq];exact h
theorem dy{a b:Nat}(h:oz a b=true):a<b:=kM h
theorem dz{f:Fc}{i:Nat}(h:gw f i=true):f.nms[i]?=some (aL f i):=by
 unfold aL;rw[List.getElem?_eq_getElem (dy (ab h))];rfl
theorem bR{f:Fc}{i:Nat}(h:gw f i=true):f.sc.names.lookup (aL f i)=some .local:=jv (aa h)
theorem uz{o:Option NameKind}(h:isCelK o=true):o=some .cell:=by
 cases o with
 |none=>exact aB h
 |some k=>cases k<;>first | rfl | exact aB h
theorem lw{x:Str}{l:List (Str×NameKind)}(h:isCelK (cF x l)=true):l.lookup x=some .cell:=lookL_eq.trans (uz h)
theorem Ed{f:Fc}{i:Nat}(h:Bk f i=true):f.nms[i]?=some (aL f i):=by
 unfold aL;rw[List.getElem?_eq_getElem (dy (ab h))];rfl
theorem yE{f:Fc}{i:Nat}(h:jq f i=true):Af f i=true:=qmz.mpr ⟨qmz.mpr ⟨ab (ab h),qxz.mpr (.inl (aa (ab h)))⟩,aa h⟩
theorem qg{C:Cx}{f:Fc}{e:ME}{t:Expr}(h:okE C f e t=true):lq (bw C f e t)=true:=by cases e<;>first | rfl | exact h | (cases h;done)
theorem jx{ex:Expr}{rest:List Expr}{env:Env}(h:lq ex=true):starEach (ex::rest) env=(false,eval ex env)::starEach rest env:=by
 cases ex<;>first | rfl | (cases h;done)
theorem v6{C:Cx}{f:Fc}{env:Env}:∀{es:MEs} {ts:List Expr},kQ C f es ts=true→starEach (fW C f es ts) env=(fW C f es ts).map λex=>(false,eval ex env)
 |.nil,_,_=>rfl
 |.cons e r,ts,h=>(jx (qg (ab h))).trans (bJ (List.cons _) (v6 (aa h)))
theorem dA{C:Cx}{f:Fc}{env:Env}{pos:Pos}{es:MEs}{ts:List Expr}(h:kQ C f es ts=true):backTo pos (starEach (fW C f es ts) env)=(fW C f es ts).map λex=>(false,eval ex env):=by
 rw[v6 h];unfold backTo;rw[List.map_map];rfl
theorem mf{env:Env}{exs:List Expr}:(exs.map λex=>(false,eval ex env)).all (!·.1)=true:=by rw[List.all_map];exact qdz.mpr λ_ _=>rfl
theorem sX{C:Cx}{f:Fc}{env:Env}{pos:Pos}:∀{ks:MKs} {ts:List Keyword},(backToKw pos (keywordEach (m6 C f ks ts) env)).all (·.1.isSome)=true
 |.nil,_=>rfl
 |.cons n e r,ts=>qmz.mpr ⟨rfl,sX (ks:=r)⟩
theorem Ah{C:Cx}{f:Fc}:∀(es:MEs) (ts:List Expr),(fW C f es ts).length=ug es
 |.nil,_=>rfl
 |.cons _ r,ts=>bJ (· + 1) (Ah r (fc ts))
theorem Ai{C:Cx}{f:Fc}:∀(ks:MKs) (ts:List Keyword),(m6 C f ks ts).length=G3 ks
 |.nil,_=>rfl
 |.cons _ _ r,ts=>bJ (· + 1) (Ai r (fc ts))
section
variable {C:Cx}{Φ:ku}{n:Nat}{w:Wd}{ω:Nat→Option Addr}{P:PMap}{L:FL}{nms:Fc}{st:St}{A:Around}{E:Value→Shared→Prop}{s:Shared}
theorem sY(O:CxOk C)(B:CaOk C){w:Wd}{P:PMap}{sh:Sto}{h:Heap}{M:Model}(S:Sh C.N w P sh h){f:Nat}(hb:(C.N.T.body f).isSome=true):gR M (.ref (C.N.fna f)) h:=
 keeps_K (B.keepF f hb).1 h (O.In S)
theorem v7(O:CxOk C)(B:CaOk C){w:Wd}{P:PMap}{sh:Sto}{h:Heap}{M:Model}(S:Sh C.N w P sh h){c:Nat}(hc:(C.N.T.clsInit c).isSome=true):gR M (.ref (C.N.cla c)) h:=
 keeps_K (B.keepC c hc) h (O.In S)
theorem uA(O:CxOk C)(B:CaOk C){w:Wd}{P:PMap}{sh:Sto}{h:Heap}{M:Model}(S:Sh C.N w P sh h){f:Nat}{q:Addr}{a:Addr}(hb:(C.N.T.body f).isSome=true)(hq:w.G q=some (Bc C.N f a)):gR M (.ref q) h:=
 keeps_M (B.keepF f hb).2 h ⟨S.frz _ _ hq,O.In S⟩
theorem oE{M:Model}{id:String}{h:Heap}:gR M (.builtin id) h:=⟨.machine,.inr (.inl rfl),Looks.of_pure rfl⟩
theorem uB{od:Obj}{m:Str→Option Value}{name:Str}(h:ky od m)(e:m name=none):shadowIn (some od) name=some false:=by
 show (lookIn name od).map (·.isSome)=some false
 rw[et h,e];rfl
theorem yF{o:MV}(h:DZ o=true):o= .loc .em:=by
 cases o with
 |loc l=>cases l with
  |em=>rfl
  |_=>exact aB h
 |_=>exact aB h
theorem v8{sh:Sto}{E:List MV}{m i:Nat}{u:MV}{p:Nat×Loc}(hE:sh.em=some E)(hi:aC (C.N.T.clsFields C.N.T.emC) m=some i)(hu:c0 E i=some u)(hp:lM u=some p):tZ C.N.T sh (.loc .em) m=some (.meth p.1 p.2):=by
 show (sh.em.map λE=>(C.N.T.emC,pM C.N.T E)).bind _=_;rw[hE];show kP ((aC (C.N.T.clsFields C.N.T.emC) m).bind (c0 E)) _=_;rw[hi,mY,hu,ud hp];rfl
theorem qh(O:CxOk C)(F:Fm C.N w ω P L nms st s.heap){x dx:Addr}{od:Obj}{mm:Str→Option Value}{c m f:Nat}{pl:Sem Bool}{Q:Value×List Value→Shared→Prop}(K:ClsOk C c)(hx:s.heap.get? x=some (instObj (C.N.cla c) dx))(hd:s.heap.get? dx=some od)(hms:ky od mm)
  (hm:m<C.N.natr) (hf:C.N.T.clsMeth c m=some f) (hn:aC (C.N.T.clsFields c) m=none→mm (C.N.nm m)=none) (k:(C.N.T.body f).isSome=true→Q (.ref (C.N.fna f),[.ref x]) s):wpAny (model C.prog C.wd) A (getMethod (.ref x) (C.N.nm m) pl) Q E s:=by
 obtain⟨z,a1,a2,a3,a4,a5,a6⟩:=K.mth _ _ hm hf;exact method_fn (O.In F.sh) (eB (N:=C.N) hx hd) K.ga K.gk a1 (beq_iff_eq.mp a2) (uB hms (hn z)) (k a6)
inductive CalAt (C:Cx) (w:Wd) (ov:MV) (oa:Value) (a:Nat):vk→Value×List Value→Prop
 |fn {f:Nat} (hb:(C.N.T.body f).isSome=true):CalAt C w ov oa a (some (f,[ov])) (.ref (C.N.fna f),[oa])
 |held {f:Nat} {l:Loc} {x q:Addr} (hb:(C.N.T.body f).isSome=true) (hl:w.ρ l=some x) (hq:w.G q=some (Bc C.N f x)):CalAt C w ov oa a (some (f,[.loc l])) (.ref q,[])
 |bi:CalAt C w ov oa a none (.builtin (G5 a),[oa])
theorem yG(O:CxOk C)(F:Fm C.N w ω P L nms st s.heap){x:Addr}{m:Nat}{c:vk}{pl:Sem Bool}{Q:Value×List Value→Shared→Prop}(hl:w.ρ .em=some x)(hm:m<C.N.natr){E':List MV}(hE':st.sh.em=some E')
  (e:Option.casesOn (motive:=λ_=>Option vk) (aC (C.N.T.clsFields C.N.T.emC) m) ((C.N.T.clsMeth C.N.T.emC m).map λf=>some (f,[.loc .em])) (λi=>(c0 E' i).bind λv=>(lM v).map λp=>some (p.1,[.loc p.2]))=some c)
  (k:∀w' ω' h' tk r,w.Ext w'→Fm C.N w' ω' P L nms st h'→CalAt C w' (.loc .em) (.ref x) m c r→Q r {s with heap:=h',toks:=tk}):wpAny (model C.prog C.wd) A (getMethod (.ref x) (C.N.nm m) pl) Q E s:=by
 obtain⟨o,hx,d,hd,rfl⟩:=F.sh.cont _ _ hl;obtain⟨od,hdx,E0,hE0,mm,hms,hfl⟩:=F.sh.cont _ _ hd;cases hi:aC (C.N.T.clsFields C.N.T.emC) m with
 |some i=>
  rw[hi] at e;refine ad e λu hu e=>bH e λp hp e=>?_
  exact method_usual (O.In F.sh) (eB (N:=C.N) hx hdx) (O.cls _ O.em).ga (O.cls _ O.em).gk ((O.cls _ O.em).fld m i hm hi) rfl (oA O F (.loc hl) (v8 hE' hi hu hp) hm λw' ω' h' tk a x F' hv=>by
   cases (hv:MethR _ w' _ _ a) with | mk hb hl' hq=>exact k w' ω' h' tk _ x F' (e▸ .held hb hl' hq))
 |none=>
  rw[hi] at e;refine bH e λf hf e=>qh O F (O.cls _ O.em) hx hdx hms.ns hm hf (λz=>?_) λb=>k w ω s.heap s.toks _ (.refl w) F (e▸ .fn b);have:=hfl m hm;unfold pM at this;rw[z] at this;exact this
theorem sZ(O:CxOk C)(N:NmOk C)(F:Fm C.N w ω P L nms st s.heap){ov:MV}{oa:Value}{m:Nat}{c:vk}{pl:Sem Bool}{Q:Value×List Value→Shared→Prop}(h:VRel C.N w ov oa)(hm:m<C.N.natr)(e:n5 C.N.T st.sh ov m=some c)
  (k:∀w' ω' h' tk r,w.Ext w'→Fm C.N w' ω' P L nms st h'→CalAt C w' ov oa m c r→Q r {s with heap:=h',toks:=tk}):wpAny (model C.prog C.wd) A (getMethod oa (C.N.nm m) pl) Q E s:=by
 refine jg e (λhe e=>ad e λE' hE' e=>?_) λ_ e=>?_
 ·obtain rfl:=yF he
  obtain⟨x,hl,rfl⟩:=h.loc_inv;exact yG O F hl hm hE' (by assumption) k
 ·cases hp:gz ov with
  |some p=>
   rw[hp] at e;refine bH e λf hf e=>?_;obtain⟨vals,hr,h⟩:=VRel.inst_eq.mp (jW hp▸h);cases h with | mk hc hq hd hms hfl=>
   exact qh O F (O.cls _ hc) (F.sh.frz _ _ hq) (F.sh.frz _ _ hd) hms hm hf (λz=>by rw[hfl m hm,z];rfl) λb=>k w ω s.heap s.toks _ (.refl w) F (e▸ .fn b)
  |none=>
   rw[hp] at e;refine uw N F h (mZ e).1 (k w ω s.heap s.toks _ (.refl w) F (ay (mZ e).2▸ .bi))
end
open PySem PySem.W PyProof.Rows PySem.Calls PySem.Builtin
theorem qi{sh:Sto}{l:Loc}(hl:be l=true):eK sh l=(ap sh l).isSome:=by
 cases l with
 |em | emD | tmp | tmpD=>exact aB hl
 |_=>rfl
theorem eu{st st':St}{l:Loc}{vs:List MV}{v:MV}(e:bQ st l vs=some (v,st')):rl st.sh≤rl st'.sh:=by
 obtain⟨h0,e⟩:=mZ e;obtain⟨sh,h1,e⟩:=aV e
 have:rl st.sh≤rl sh:=by
  cases l with
  |em | emD | tmp | tmpD=>exact aG h1
  |rows=>
   show (st.sh.rows.map List.length).getD 0≤_;rw[show st.sh.rows=none from qnz.mp h0];exact iw _
  |_=>obtain rfl:=ay h1;exact cz _
 exact(bJ (λp:MV×St=>rl p.2.sh) e)▸this
def mh (C:Cx) (x:Str) (a:Value):Prop:=nsIn C.K mainGlobals x=some (some a)∨(nsIn C.K mainGlobals x=some none∧bootBuiltins x=some a∧x≠ "__name__")
structure GvOk(C:Cx):Prop where
 at_:∀i v,C.N.T.gval i=some v→ ∃a,mh C (C.gnm i) a∧ ∀w:Wd,(∀a o,C.N.h₀.get? a=some o→w.G a=some o)→VRel C.N w v a
 fn:∀i f,C.N.T.gval i=some (.fn f)→(C.N.T.body f).isSome=true
 cls:∀i c,C.N.T.gval i=some (.cls c)→(C.N.T.clsInit c).isSome=true
 bi:∀i b,C.N.T.gval i=some (.bi b)→ ∃id,C.N.bin b= .builtin id
 oth:∀i f l,C.N.T.gval i≠some (.meth f l)
structure FcOk(f:Fc):Prop where
 kind:f.sc.kind= .function
 nd:f.nms.Nodup
structure Snd(C:Cx)(Φ:ku)(n:Nat):Prop where
 O:CxOk C
 B:CaOk C
 N:NmOk C
 H:ny C Φ n
 HI:oC C.N.T Φ
 mono:sP Φ
 gv:GvOk C
section
variable {C:Cx}{Φ:ku}{n:Nat}{f:Fc}{w:Wd}{ω:Nat→Option Addr}{P:PMap}{L:FL}{fa:Option Addr×Option Addr}{st:St}{A:Around}{E:Value→Shared→Prop}{s:Shared}{q:Str}{cd:Value}
theorem v9{b:Bool}(h:(!b)=true):b=false:=by
 cases b with
 |false=>rfl
 |true=>exact aB h
theorem Go.cast{C:Cx}{w:Wd}{P:PMap}{L:FL}{nms:Fc}{st st':St}{v v':MV}{s:Shared}{Q:Value→Shared→Prop}(e:(v,st)=(v',st'))(k:Go C w P L nms st' v' s Q):Go C w P L nms st v s Q:=by cases e;exact k
def Ee (f:Fc) (x:Str):Prop:=f.sc.names.lookup x=some .local∨f.sc.names.lookup x=some .cell
theorem By{f:Fc}{i:Nat}(h:Bk f i=true):Ee f (aL f i):=(qxz.mp (aa h)).elim (λh=>.inl (jv h)) λh=>.inr (lw h)
theorem gS(fo:FcOk f){i:Nat}{x:Str}(hx:f.nms[i]?=some x)(hl:Ee f x){Q:Value→Shared→Prop}(F:Fm C.N w ω P L f st s.heap){a:Value}
  (hv:L.val x=some a) (k:Q a s):wpAny (model C.prog C.wd) A (loadName (bv q f.sc L fa cd) x) Q E s:=by
 rcases hl with hl | hl
 ·exact wpAny_loadName_local fo.kind hl F.ns ((F.val_loc hx hl).symm.trans hv) k
 ·have h1:=F.clk i x hx
  have h2:gF f x=true:=by unfold gF;rw[hl];rfl
  rw[h2] at h1;obtain⟨c,hc⟩:=qez.mp h1;obtain⟨o,hG,hd⟩:=F.cel x c hc
  have h3:L.cv x=some a:=by
   rw[← hv];unfold FL.val;rw[h1];rfl
  exact wpAny_loadName_cell fo.kind hl hc ⟨o,F.sh.frz _ _ hG,h3▸hd⟩ k
theorem wa(fo:FcOk f){i:Nat}{x:Str}(hx:f.nms[i]?=some x)(hl:Ee f x){v:MV}{st':St}{Q:Value→Shared→Prop}(F:Fm C.N w ω P L f st s.heap)
  (e:iH st i=some (v,st')) (k:Go C w P L f st' v s Q):wpAny (model C.prog C.wd) A (loadName (bv q f.sc L fa cd) x) Q E s:=by
 refine ad e λc hv e=>?_;have hc:=F.vs i x c hx ((bG _ _).symm.trans hv);cases c with
 |unset=>exact aG e
 |val u=>
  obtain⟨a,hmx,r⟩:=hc;have e:=ay e;exact gS fo hx hl F hmx (Go.cast e k w ω s.heap s.toks _ (.refl w) F r)
 |own vs=>
  have e:=ay e;have hc:OwnR C.N w s.heap (ω i) vs (L.val x):=hc;generalize hmx:L.val x=o at hc;cases hc with | mk hl' ha ho r=>
  obtain⟨x1,V,F'⟩:=F.freeze ha hl' r ho (λy hy=>by rw[← ay (hx.symm.trans hy)];exact hmx)
  exact gS fo hx hl F hmx (Go.cast e k _ _ s.heap s.toks _ x1 F' V)
theorem wb(fo:FcOk f){i:Nat}{x:Str}{pos:Pos}(hx:f.nms[i]?=some x)(hl:Ee f x)(hp:bY x=true){v:MV}{st':St}{Q:Value→Shared→Prop}(F:Fm C.N w ω P L f st s.heap)
  (e:iH st i=some (v,st')) (k:Go C w P L f st' v s Q):wpAny (model C.prog C.wd) A (eval (.Name x pos) (bv q f.sc L fa cd)) Q E s:=
 wpAny_Name (wa fo hx hl F e k) (v9 (ab (hp:(_&&_)=true)))
theorem wc(D:Snd C Φ n)(fo:FcOk f){i:Nat}{x:Str}{pos:Pos}(hx:C.gnm i=x)(hl:f.sc.names.lookup x=some .globalImplicit)(hp:bY x=true){v:MV}{Q:Value→Shared→Prop}(F:Fm C.N w ω P L f st s.heap)
  (e:C.N.T.gval i=some v) (k:Go C w P L f st v s Q):wpAny (model C.prog C.wd) A (eval (.Name x pos) (bv q f.sc L fa cd)) Q E s:=by
 have hd:(x==("__debug__":Str))=false:=by
  have:=(qmz.mp hp).1;simpa using this
 obtain⟨a,hg,hr⟩:=D.gv.at_ i v e;have T:=D.O.topIn F.sh;have X:=D.O.In F.sh;have fin:Q a s:=k w ω s.heap s.toks a (.refl w) F (hr w F.sh.base);subst hx;refine Name_function_global fo.kind hl ?_ hd;rcases hg with hg | ⟨h1,h2,h3⟩
 ·exact loadGlobal_global (env:=bv q f.sc L fa cd) T.g (mg_of X T.g hg) fin
 ·exact loadGlobal_builtin (env:=bv q f.sc L fa cd) T.g (mg_none_of X T.g h1) T.b ((T.builtins _ h3).trans h2) fin
theorem ly{e:ME}{t:Expr}{attr:Str}{env:Env}{whole:Sem Value}{Q:Value→Shared→Prop}(ok:okE C f e t=true)(hd:e≠ .dead)(h:wpAny (model C.prog C.wd) A whole Q E s):wpAny (model C.prog C.wd) A (attributeBase (bw C f e t) attr env whole) Q E s:=by
 cases e with
 |dead=>exact absurd rfl hd
 |abs=>exact aB ok
 |call g as ks=>
  cases as with
  |cons _ _=>exact h
  |nil=>cases ks with
   |cons _ _ _=>exact h
   |nil=>
    show wpAny _ A (if _ then whole else _) Q E s;rw[show (C.gnm g != ("super":Str))=true from aa (ce (ab (aa ok)):(_&& !(C.gnm g==("super":Str)))=true)];exact h
 |_=>exact h
theorem nG{l b:Addr}{vs ws:List Value}{Q:Value→Shared→Prop}(hl:s.heap.IsList l vs.toArray)(hb:s.heap.IsList b ws.toArray)
  (h:Q (.ref s.heap.objs.size) {s with heap:=s.heap.push (listOf (vs++ws).toArray 0)})
  (hsz:vs.length+ws.length≤sizeLine) :
  wpAny (model C.prog C.wd) A (binaryOp .Add (.ref l) (.ref b)) Q E s:=by
 obtain⟨⟨cls,dd,data,sl⟩,ho,hc,n,hd⟩:=id hl;obtain⟨⟨cls2,dd2,data2,sl2⟩,ho2,hc2,n2,hd2⟩:=id hb;simp only at hc hd hc2 hd2;subst hc hd hc2 hd2;have e:vs.toArray++ws.toArray=(vs++ws).toArray:=by simp
 refine concat_meets ⟨_,ho,rfl⟩ ⟨_,ho2,rfl⟩ noFill_list_add seq_list_add PySem.F.slot_list_add PySem.F.entry_list_add (PySem.F.args_list_add_2 _ _) (list_addW l b vs.toArray ws.toArray n n2 dd dd2 sl sl2 (by simpa using hsz)) ⟨ho,ho2,?_⟩
 rw[e];exact h
theorem nH(F:Fm C.N w ω P L f st s.heap){vs:List MV}{vals:List Value}(hn:vals.length≤ak)(hr:VRels C.N w vs vals){Q:Value→Shared→Prop}(k:Go C w P L f st (.lst vs) s Q) :
  ∀tk,Q (.ref s.heap.objs.size) {s with heap:=s.heap.push (listOf vals.toArray 0),toks:=tk}:=λtk=>by
 obtain⟨x',F'⟩:=F.addNew (h':=s.heap.push (listOf vals.toArray 0)) (λb o e=>Heap.get?_push_of_some _ e) (a:=s.heap.objs.size) (Heap.get?_none_of_le (cz _)) (Heap.get?_push_size _ rfl);exact k _ _ _ _ _ x' F' (.lst Wd.add_at ⟨hn,rfl,0,rfl⟩ (hr.mono x'))
theorem yH(F:Fm C.N w ω P L f st s.heap){op:Bop}{v x r:MV}{a b:Value}{Q:Value→Shared→Prop}(h:VRel C.N w v a)(h':VRel C.N w x b)(hk:eE op v x=true)(e:ix op v x=some r)
  (k:Go C w P L f st r s Q):wpAny (model C.prog C.wd) A (binaryOp (nq op) a b) Q E s:=by
 cases hl:dH v with
 |none=>exact Bg h h' hk e hl λc tk V=>k w ω s.heap tk c (.refl w) F V
 |some vs=>
  obtain rfl:=bT hl;cases op with
  |add=>
   have e2:(dH (.lst vs)).bind (λi=>(dH x).map λj=>MV.lst (i++j))=some r:=e;refine ad e2 λvs h1 e3=>bH e3 λws h2 e4=>?_;obtain rfl:=ay h1;obtain rfl:=bT h2;obtain⟨hl1,hr1,hn1⟩:=fV F.sh h;obtain⟨hl2,hr2,hn2⟩:=fV F.sh h';have k1:=bf (hk:aS _ _=true);rw[hr1.length_eq,hr2.length_eq] at k1;rw[← e4] at k;exact nG hl1 hl2 (nH F (by rw[a7];exact k1) (hr1.append hr2) k s.toks) (by rw[ar];exact k1)
  |_=>exact aG e
theorem qj(F:Fm C.N w ω P L f st s.heap){vs:List MV}{vals:List Value}(hn:vals.length≤ak)(hr:VRels C.N w vs vals){Q:Value→Shared→Prop}(k:Go C w P L f st (.tup vs) s Q) :
  ∀tk,Q (.ref s.heap.objs.size) {s with heap:=s.heap.push {cls:=.type "tuple",data:=.seq vals.toArray},toks:=tk}:=λtk=>by
 obtain⟨x',F'⟩:=F.addNew (h':=s.heap.push {cls:=.type "tuple",data:=.seq vals.toArray}) (λb o e=>Heap.get?_push_of_some _ e) (a:=s.heap.objs.size) (Heap.get?_none_of_le (cz _)) (Heap.get?_push_size _ rfl);exact k _ _ _ _ _ x' F' (VRel.tup_eq.mpr ⟨_,hr.mono x',Wd.add_at,hn,rfl,0,rfl⟩)
noncomputable def Wd.slot(w:Wd)(l:Loc)(a:Addr):Wd:={w with ρ:=λl'=>if l'=l then some a else w.ρ l'}
theorem mi{w:Wd}{l:Loc}{a:Addr}(h:w.ρ l=none):w.Ext (w.slot l a):=⟨λl' b q=>by
 show (if l'=l then _ else w.ρ l')=some b;by_cases z:l'=l
 ·rw[z,h] at q;exact aG q
 ·rw[bL z];exact q,λ_ _ q=>q⟩
theorem gU{sh sh':Sto}{l:Loc}{vs:List MV}(e:bP sh vs l=some sh'){l':Loc}(hl:l'≠l):eK sh' l'=eK sh l':=by
 cases l with
 |em | emD | tmp | tmpD=>exact aG e
 |states=>obtain rfl:=ay e;cases l' with | states=>exact absurd rfl hl | _=>rfl
 |events=>obtain rfl:=ay e;cases l' with | events=>exact absurd rfl hl | _=>rfl
 |indents=>obtain rfl:=ay e;cases l' with | indents=>exact absurd rfl hl | _=>rfl
 |rows=>obtain rfl:=ay e;cases l' with | rows=>exact absurd rfl hl | _=>rfl
 |tape=>obtain rfl:=ay e;cases l' with | tape=>exact absurd rfl hl | _=>rfl
 |due=>obtain rfl:=ay e;cases l' with | due=>exact absurd rfl hl | _=>rfl
theorem yI(F:Fm C.N w ω P L f st s.heap){l:Loc}{vs:List MV}{vals:List Value}{st':St}{v:MV}(hn:vals.length≤ak)(hr:VRels C.N w vs vals)(e:bQ st l vs=some (v,st')){Q:Value→Shared→Prop}(k:Go C w P L f st' v s Q) :
  ∀tk,Q (.ref s.heap.objs.size) {s with heap:=s.heap.push (listOf vals.toArray 0),toks:=tk}:=λtk=>by
 obtain⟨hnone,e⟩:=mZ e;obtain⟨sh',h1,e⟩:=aV e;have k:=Go.cast e k;have hl:=nF (cn h1) |> λh=>(h:be l=true);have S:=F.sh;have hal:eK st.sh l=false:=by rw[qi hl,qnz.mp hnone];rfl
 have hρ:w.ρ l=none:=qyz.mp (by rw[S.dom l,hal];decide)
 have e0:s.heap.get? s.heap.objs.size=none:=Heap.get?_none_of_le (cz _);obtain⟨g0,p0,r0⟩:=S.fresh e0;have keep:∀b o,s.heap.get? b=some o→(s.heap.push (listOf vals.toArray 0)).get? b=some o:=λb o e=>Heap.get?_push_of_some _ e;have ho':(s.heap.push (listOf vals.toArray 0)).get? s.heap.objs.size=some (listOf vals.toArray 0):=Heap.get?_push_size _ rfl;refine k (w.slot l s.heap.objs.size) ω (s.heap.push (listOf vals.toArray 0)) tk _ ?_ ?_ (.loc (cw rfl))
 ·exact mi hρ
 ·generalize s.heap.push (listOf vals.toArray 0)=h' at *
  generalize s.heap.objs.size=a at *;have x:=mi (a:=a) hρ
  have at_:∀{l' b},(w.slot l a).ρ l'=some b→(l'=l∧b=a)∨(l'≠l∧w.ρ l'=some b):=λ{l' b} q=>by
   change (if l'=l then some a else w.ρ l')=some b at q;by_cases z:l'=l
   ·rw[cw z] at q;exact .inl ⟨z,(ay q).symm⟩
   ·rw[bL z] at q;exact .inr ⟨z,q⟩
  have hsome:∀{b},(s.heap.get? b).isSome=true→b≠a:=λhb z=>by rw[z,e0] at hb;exact aB hb
  have keep2:∀{b},(s.heap.get? b).isSome=true→h'.get? b=s.heap.get? b:=λhb=>by
   obtain⟨o,ho⟩:=qez.mp hb;rw[ho];exact keep _ _ ho
  have S':=S.keeps keep;have hL:(s.heap.get? L.a).isSome=true:=let ⟨o,h⟩:=F.Lsome;by rw[h];rfl
  refine F.withSh x ⟨S'.base,S'.frz,S'.prot,S'.dis,λl'=>?_,λl1 l2 b q1 q2=>?_,λl' b q=>?_,λl' b q=>?_,λl' b q=>?_⟩ (keep2 hL) (λi b q=>keep2 (F.ωo i b q)) F.LG (λl' b q=>?_) (λi b q=>⟨(F.ωG i b q).1,λl' c q'=>?_⟩)
  ·show (if l'=l then some a else w.ρ l').isSome=eK sh' l'
   by_cases z:l'=l
   ·rw[cw z,z];exact(iO hl (cn h1)).symm
   ·rw[bL z,gU h1 z];exact S.dom l'
  ·rcases at_ q1 with ⟨z1,y1⟩ | ⟨z1,y1⟩<;>rcases at_ q2 with ⟨z2,y2⟩ | ⟨z2,y2⟩
   ·rw[z1,z2]
   ·exact absurd y1 (r0 _ _ y2)
   ·exact absurd y2 (r0 _ _ y1)
   ·exact S.inj _ _ _ y1 y2
  ·rcases at_ q with ⟨_,y⟩ | ⟨_,y⟩
   ·rw[y];exact g0
   ·exact S.sepG _ _ y
  ·rcases at_ q with ⟨_,y⟩ | ⟨_,y⟩
   ·rw[y];exact p0
   ·exact S.sepP _ _ y
  ·rcases at_ q with ⟨z,y⟩ | ⟨z,y⟩
   ·rw[y,z];exact⟨_,ho',f6 (cn h1) hn (hr.mono x)⟩
   ·obtain⟨o,h2,h3⟩:=S'.cont _ _ y
    exact⟨o,h2,f4 h1 l' z o (h3.mono x)⟩
  ·rcases at_ q with ⟨_,y⟩ | ⟨_,y⟩
   ·rw[y];exact(hsome hL).symm
   ·exact F.Lρ _ _ y
  ·rcases at_ q' with ⟨_,y⟩ | ⟨_,y⟩
   ·rw[y];exact(hsome (F.ωo i b q)).symm
   ·exact(F.ωG i b q).2.2.1 _ _ y
theorem qk(D:Snd C Φ n)(S:Sh C.N w P st.sh s.heap){i:Nat}{fv:MV}{fva:Value}{pos:List MV}{kws:List (Nat×MV)}{sh:Sto}{r:MV×Sto}{M:Model}(hg:C.N.T.gval i=some fv)(V:VRel C.N w fv fva)(e:nn C.N.T Φ fv pos kws sh=some r):gR M fva s.heap:=by
 cases fv with
 |fn g=>obtain rfl:fva=_:=V;exact sY D.O D.B S (D.gv.fn _ _ hg)
 |meth g l=>exact absurd hg (D.gv.oth _ _ _)
 |bi b=>
  obtain⟨id,hid⟩:=D.gv.bi _ _ hg;obtain rfl:fva=_:=V;rw[hid];exact oE
 |cls c=>obtain rfl:fva=_:=V;exact v7 D.O D.B S (D.gv.cls _ _ hg)
 |_=>exact aG e
end
open PySem PySem.W PyProof.Rows PySem.Calls PySem.Builtin
theorem nf{b:Bool}(h:(!b)=true):b=false:=by
 cases b with
 |false=>rfl
 |true=>exact aB h
section
variable (C:Cx)(n:Nat)(f:Fc)
def Xp {α β:Type} (Rel:Wd→α→β→Prop) (t:Env→Sem β) (st:St) (V:α→St→Prop):Prop:=
 ∀⦃A:Around⦄ ⦃E:Value→Shared→Prop⦄ ⦃s:Shared⦄ ⦃w:Wd⦄ ⦃ω:Nat→Option Addr⦄ ⦃P:PMap⦄ ⦃L:FL⦄ ⦃fa:Option Addr×Option Addr⦄ ⦃q:Str⦄ ⦃cd:Value⦄ ⦃Q:β→Shared→Prop⦄,Rm A (n+1)→Fm C.N w ω P L f st s.heap →
  (∀u st',V u st'→ ∀w' ω' h' tk a,w.Ext w'→Fm C.N w' ω' P L f st' h'→Rel w' u a→Q a {s with heap:=h',toks:=tk})→wpAny (model C.prog C.wd) A (t (bv q f.sc L fa cd)) Q E s
noncomputable abbrev Xv:=Xp C n f (VRel C.N)
noncomputable abbrev VRn(N:Nm)(m:Nat)(w:Wd)(u:List MV)(a:List Value):Prop:=VRels N w u a∧a.length=m
theorem VRn.le{N:Nm}{es:MEs}{w:Wd}{u:List MV}{a:List Value}(h:VRn N (ug es) w u a)(k:oz (ug es) 1000=true):a.length≤ak:=h.2▸iE (Nat.le_of_lt (dy k)) (by decide)
def Xb (t:Env→Sem Bool) (st:St) (V:Bool→St→Prop):Prop:=
 ∀⦃A:Around⦄ ⦃E:Value→Shared→Prop⦄ ⦃s:Shared⦄ ⦃w:Wd⦄ ⦃ω:Nat→Option Addr⦄ ⦃P:PMap⦄ ⦃L:FL⦄ ⦃fa:Option Addr×Option Addr⦄ ⦃q:Str⦄ ⦃cd:Value⦄ ⦃Q:Bool→Shared→Prop⦄,Rm A (n+1)→Fm C.N w ω P L f st s.heap →
  (∀u st',V u st'→ ∀w' ω' h' tk,w.Ext w'→Fm C.N w' ω' P L f st' h'→Q u {s with heap:=h',toks:=tk})→wpAny (model C.prog C.wd) A (t (bv q f.sc L fa cd)) Q E s
def Xc {β:Type} (t:Value→Env→Sem β) (inj:Bool→β) (l:MV) (st:St) (V:Bool→St→Prop):Prop:=
 ∀⦃A:Around⦄ ⦃E:Value→Shared→Prop⦄ ⦃s:Shared⦄ ⦃w:Wd⦄ ⦃ω:Nat→Option Addr⦄ ⦃P:PMap⦄ ⦃L:FL⦄ ⦃fa:Option Addr×Option Addr⦄ ⦃q:Str⦄ ⦃cd la:Value⦄ ⦃Q:β→Shared→Prop⦄,Rm A (n+1)→Fm C.N w ω P L f st s.heap→VRel C.N w l la →
  (∀u st',V u st'→ ∀w' ω' h' tk,w.Ext w'→Fm C.N w' ω' P L f st' h'→Q (inj u) {s with heap:=h',toks:=tk})→wpAny (model C.prog C.wd) A (t la (bv q f.sc L fa cd)) Q E s
end
noncomputable def DD(C:Cx):MKs→List Str
 |.nil=>[]
 |.cons n _ r=>C.N.nm n::DD C r
theorem rG{C:Cx}{f:Fc}{env:Env}{pos:Pos}:∀{ks:MKs} {ts:List Keyword},(backToKw pos (keywordEach (m6 C f ks ts) env)).filterMap (·.1)=DD C ks
 |.nil,_=>rfl
 |.cons n e r,ts=>bJ (List.cons _) (rG (ks:=r) (ts:=(fc ts)))
theorem fC{M:Model}{A:Around}{E:Value→Shared→Prop}{s:Shared}{o:Expr}{name:Str}{apos pos:Pos}{env:Env}{ov:Value}{n:Nat}{args:List (Bool×Sem Value)}{kws:List (Option Str×Sem Value)}{Q:Value→Shared→Prop}
  (hn:n<20) (ha:args.all (!·.1)=true) (hk:kws.all (·.1.isSome)=true) (hp:(apos.endLine==pos.line)=true) (h:∀pl,wpAny M A (getMethod ov name pl) (λr s=>wpAny M A (callWith pos r.1 r.2 args kws) Q E s) E s) :
  wpAny M A (methodCall o name apos pos env ov n args kws) Q E s:=by
 have hform:methodCallForm n args kws=true:=by
  unfold methodCallForm;rw[ha,hk,Bool.true_and,Bool.true_and,decide_eq_true_eq];split<;>omega
 unfold methodCall;rw[hform];refine aM (jb ?_);unfold calleeOf methodCallPos;rw[cw rfl];exact wpAny_mono (h _) (λr s h=>aM (by rw[cw (by rw[hp];rfl)];exact fj h)) λ_ _ h=>h
section
variable {C:Cx}{Φ:ku}{n:Nat}{f:Fc}{w:Wd}{ω:Nat→Option Addr}{P:PMap}{L:FL}{nms:Fc}{st:St}{A:Around}{E:Value→Shared→Prop}{s:Shared}{ov:MV}{oa:Value}{a:Nat}{c:vk}{r:Value×List Value}
theorem CalAt.mono{w':Wd}(x:w.Ext w')(h:CalAt C w ov oa a c r):CalAt C w' ov oa a c r:=by
 cases h with
 |fn hb=>exact .fn hb
 |held hb hl hq=>exact .held hb (x.ρ _ _ hl) (x.G _ _ hq)
 |bi=>exact .bi
theorem CalAt.keep(D:Snd C Φ n){sh:Sto}{h:Heap}{M:Model}(S:Sh C.N w P sh h)(q:CalAt C w ov oa a c r):gR M r.1 h:=by
 cases q with
 |fn hb=>exact sY D.O D.B S hb
 |held hb hl hq=>exact uA D.O D.B S hb hq
 |bi=>exact oE
theorem ql(D:Snd C Φ n)(F:Fm C.N w ω P L nms st s.heap){pos:List MV}{kws:List (Nat×MV)}{v:MV×Sto}{pvals:List Value}{kvals:List (Str×Value)}{Q:Value→Shared→Prop}(q:CalAt C w ov oa a c r)(h:VRel C.N w ov oa)
  (hok:iG st.sh ov a pos=true) (e:sz C.N.T Φ c ov a pos kws st.sh=some v) (hr:rl v.2≤ak) (hA:Rm A (n+1)) (hp:VRels C.N w pos pvals) (hk:LRel C.N w kws kvals) (k:ut C w ω P L nms st v.1 v.2 s Q) :
  wpAny (model C.prog C.wd) A (call r.1 (r.2++pvals) kvals) Q E s:=by
 have hA':=hA.mono (Nat.le_succ n);cases q with
 |fn hb=>exact wpAny_call (ju D.H F e hr hA' (.cons h hp) hk k)
 |held hb hl hq=>exact wpAny_call (method_call (F.sh.frz _ _ hq) (ju D.H F e hr hA' (.cons (.loc hl) hp) hk k))
 |bi=>
  obtain⟨he,e⟩:=mZ e;obtain rfl:=List.isEmpty_iff.mp he;obtain rfl:=hk;exact rE D.O F h hp hok (by assumption) hr k
end
noncomputable abbrev Kq{α:Type}(v:MV)(sh:Sto)(k:α→St→Ds→R)(V:α→St→Prop):Prop:=∀u st' ds',am (k u st' ds') v sh→rl st'.sh≤rl sh∧V u st'
open PySem PySem.W PyProof.Rows PySem.Calls PySem.Builtin
section
variable {C:Cx}{Φ:ku}{n:Nat}{f:Fc}{w w':Wd}{ω:Nat→Option Addr}{P:PMap}{L:FL}{nms:Fc}{st:St}{h h':Heap}{N:Nm}
structure Lone(w:Wd)(ω:Nat→Option Addr)(P:PMap)(L:FL)(I:Addr):Prop where
 G:w.G I=none
 P:P I=none
 ρ:∀l b,w.ρ l=some b→b≠I
 L:L.a≠I
 ω:∀i a,ω i=some a→a≠I
theorem Fm.lone(F:Fm N w ω P L nms st h){I:Addr}(e:h.get? I=none):Lone w ω P L I:=by
 obtain⟨g,p,r⟩:=F.sh.fresh e;obtain⟨oL,hL⟩:=F.Lsome
 exact⟨g,p,r,λz=>(by rw[z,e] at hL;exact aG hL),λi a q z=>by
  obtain⟨o,ho⟩:=qez.mp (F.ωo i a q);rw[z,e] at ho;cases ho⟩
theorem Fm.keepBut(F:Fm N w ω P L nms st h){I:Addr}(Z:Lone w ω P L I)(k:∀b o,b≠I→h.get? b=some o→h'.get? b=some o):Fm N w ω P L nms st h':=by
 have S:=F.sh
 refine⟨⟨S.base,λa o e=>k _ _ (λz=>by rw[z,Z.G] at e;cases e) (S.frz a o e),λa o e=>k _ _ (λz=>by rw[z,Z.P] at e;cases e) (S.prot a o e),S.dis,S.dom,S.inj,S.sepG,S.sepP,λl a e=>let ⟨o,h1,h2⟩:=S.cont l a e;⟨o,k _ _ (Z.ρ _ _ e) h1,h2⟩⟩,
  F.LG,F.LP,F.Lρ,?_,λi x c e1 e2=>(F.vs i x c e1 e2).mono (.refl w) λb o e3 e4=>k _ _ (Z.ω _ _ e3) e4,F.ωG,F.ωi,λi a e=>?_,F.cel,F.clk⟩
 ·obtain⟨o,es,ep,h1,h2⟩:=F.ns
  exact⟨o,es,ep,k _ _ Z.L h1,h2⟩
 ·obtain⟨o,ho⟩:=qez.mp (F.ωo i a e)
  rw[k _ _ (Z.ω _ _ e) ho];rfl
open Classical in
noncomputable def PMap.with_(P:PMap)(I:Addr)(o:Obj):PMap:=λa=>if a=I then some o else P a
theorem Fm.protect(F:Fm N w ω P L nms st h){I:Addr}{o:Obj}(Z:Lone w ω P L I)(ho:h.get? I=some o):Fm N w ω (P.with_ I o) L nms st h:=by
 have S:=F.sh;have ne:∀a,a≠I→P.with_ I o a=P a:=λa z=>bL z
 refine⟨⟨S.base,S.frz,λa o' e=>?_,λa o' e=>(ne a λz=>(by rw[z,Z.G] at e;cases e)).trans (S.dis a o' e),S.dom,S.inj,S.sepG,λl a e=>(ne a (Z.ρ _ _ e)).trans (S.sepP l a e),S.cont⟩,
  F.LG,(ne L.a Z.L).trans F.LP,F.Lρ,F.ns,F.vs,λi a e=>⟨(F.ωG i a e).1,(ne a (Z.ω _ _ e)).trans (F.ωG i a e).2.1,(F.ωG i a e).2.2⟩,F.ωi,F.ωo,F.cel,F.clk⟩
 unfold PMap.with_ at e;split at e
 ·rename_i z;cases e;rw[z];exact ho
 ·exact S.prot _ _ e
theorem Fm.unprotect{I:Addr}{o:Obj}(hP:P I=none)(F:Fm N w ω (P.with_ I o) L nms st h):Lone w ω P L I∧h.get? I=some o∧Fm N w ω P L nms st h:=by
 have S:=F.sh;have hI:P.with_ I o I=some o:=cw rfl
 have none_of:∀a,P.with_ I o a=none→a≠I∧P a=none:=λa e=>by
  unfold PMap.with_ at e;split at e
  ·cases e
  ·rename_i z;exact⟨z,e⟩
 have some_of:∀a x,P a=some x→P.with_ I o a=some x:=λa x e=>by
  unfold PMap.with_;rw[bL λz=>by rw[z,hP] at e;cases e];exact e
 refine⟨⟨?_,hP,λl b e=>(none_of b (S.sepP l b e)).1,(none_of L.a F.LP).1,λi a e=>(none_of a (F.ωG i a e).2.1).1⟩,S.prot _ _ hI,
  ⟨⟨S.base,S.frz,λa x e=>S.prot a x (some_of a x e),λa x e=>(none_of a (S.dis a x e)).2,S.dom,S.inj,S.sepG,λl a e=>(none_of a (S.sepP l a e)).2,S.cont⟩,
   F.LG,(none_of L.a F.LP).2,F.Lρ,F.ns,F.vs,λi a e=>⟨(F.ωG i a e).1,(none_of a (F.ωG i a e).2.1).2,(F.ωG i a e).2.2⟩,F.ωi,F.ωo,F.cel,F.clk⟩⟩
 cases e:w.G I with
 |none=>rfl
 |some x=>rw[S.dis _ _ e] at hI;cases hI
end
theorem Fm.addLone{N:Nm}{w:Wd}{ω:Nat→Option Addr}{P:PMap}{L:FL}{nms:Fc}{st:St}{h:Heap}(F:Fm N w ω P L nms st h){I:Addr}{o:Obj}(Z:Lone w ω P L I)(ho:h.get? I=some o) :
  w.Ext (w.add I o)∧Fm N (w.add I o) ω P L nms st h:=by
 have x:=Wd.add_ext (o:=o) Z.G;have gne:∀b,b≠I→(w.add I o).G b=w.G b:=λb q=>bL q;refine⟨x,F.withSh (sh':=st.sh) x (F.sh.add ho Z.G Z.P Z.ρ) rfl (λ_ _ _=>rfl) ((gne _ Z.L).trans F.LG) F.Lρ λi a e=>⟨(gne a (Z.ω _ _ e)).trans (F.ωG i a e).1,(F.ωG i a e).2.2.1⟩⟩
section
variable {C:Cx}{Φ:ku}{n:Nat}{f:Fc}
structure RgOk(C:Cx):Prop where
 range:mh C "range" (.type "range")
 sorted:mh C "sorted" (.builtin "sorted")
 str:mh C "str" (.type "str")
theorem mj(D:Snd C Φ n)(fo:FcOk f){x:Str}{a:Value}{pos:Pos}(hg:mh C x a)(hl:f.sc.names.lookup x=some NameKind.globalImplicit)(hd:(x==("__debug__":Str))=false){A:Around}{E:Value→Shared→Prop}{s:Shared}{w:Wd}{ω:Nat→Option Addr}{P:PMap}{L:FL}{fa:Option Addr×Option Addr}{q:Str}{cd:Value}{st:St}{Q:Value→Shared→Prop}
  (F:Fm C.N w ω P L f st s.heap) (k:Q a s):wpAny (model C.prog C.wd) A (eval (.Name x pos) (bv q f.sc L fa cd)) Q E s:=by
 have T:=D.O.topIn F.sh;have X:=D.O.In F.sh;refine Name_function_global fo.kind hl ?_ hd;rcases hg with hg | ⟨h1,h2,h3⟩
 ·exact loadGlobal_global (env:=bv q f.sc L fa cd) T.g (mg_of X T.g hg) k
 ·exact loadGlobal_builtin (env:=bv q f.sc L fa cd) T.g (mg_none_of X T.g h1) T.b ((T.builtins _ h3).trans h2) k
theorem dO{e:ME}{t:Expr}{env:Env}{v:Value}(ok:okE C f e t=true)(hd:e≠ .dead):foldedSetIterable (bw C f e t) env v=pure v:=by
 cases e with
 |abs=>exact aB ok
 |dead=>exact absurd rfl hd
 |_=>rfl
end
open PySem PySem.W PyProof.Rows PySem.Calls PySem.Builtin
open PySem PySem.W PyProof.Rows PySem.Calls PySem.Builtin
open PySem PySem.W PyProof.Rows PySem.Calls PySem.Builtin
def we (m:Int) (v y:Value):Prop:=∀a t,v= .int a t→ ∃t',y= .int (a.fmod m) t'
theorem rH(s:Shared):Keeps s s:=⟨s.heap,s.toks,rfl,λ_ _ e=>e⟩
theorem uC(s:Shared)(k:Nat):Keeps s {s with toks:=k}:=⟨s.heap,k,rfl,λ_ _ e=>e⟩
theorem ml{N:Nm}{w w':Wd}{m:Int}{vs:List MV}:∀{ws:List MV} {vals ys:List Value},VRels N w vs vals→bp m vs=some ws→Paired (we m) vals ys→VRels N w' ws ys:=by
 induction vs with
 |nil=>intro ws vals ys h e p;obtain rfl:=h;cases p;exact ay e▸ .nil
 |cons v r ih=>
  intro ws vals ys h e p;obtain⟨a,s,rfl,h,t⟩:=h.cons_inv;refine ad e λi h1 e=>bH e λus h2 e=>?_;obtain⟨u,rfl⟩:=(bz h1▸h:VRel N w (.int i) a).int_inv;cases p with
  |cons p1 p2=>
   obtain⟨t',rfl⟩:=p1 _ _ rfl;exact e▸ .cons (.int _ _) (ih t h2 p2)
theorem mn{m:Int}{vs:List MV}:∀{ws:List MV},bp m vs=some ws→ws.length=vs.length:=by
 induction vs with
 |nil=>intro ws e;exact ay e▸rfl
 |cons v r ih=>intro ws e;exact ad e λi h1 e=>bH e λus h2 e=>e▸bJ (· + 1) (ih h2)
theorem j8{N:Nm}{w:Wd}{m:Int}{vs:List MV}:∀{ws:List MV} {vals:List Value},VRels N w vs vals→bp m vs=some ws→ ∀(i:Nat) (v:Value),vals[i]?=some v→ ∃a t,v=Value.int a t:=by
 induction vs with
 |nil=>intro ws vals h e i v hv;obtain rfl:=h;exact aG hv
 |cons u r ih=>
  intro ws vals h e i v hv;obtain⟨a,s,rfl,h,t⟩:=h.cons_inv;refine ad e λj h1 e=>bH e λus h2 e=>?_;cases i with
  |zero=>obtain⟨x,hx⟩:=(bz h1▸h:VRel N w (.int j) a).int_inv;exact⟨j,x,(ay hv).symm.trans hx⟩
  |succ i=>exact ih t h2 i v hv
theorem mo{vs vals:List Value}(hl:vs.length=vals.length)(h:∀(j:Nat) v,vs[j]?=some v→vals[j]?=some v):vs=vals:=by
 apply List.ext_getElem?;intro j;by_cases hj:j<vs.length
 ·rw[List.getElem?_eq_getElem hj,h j _ (List.getElem?_eq_getElem hj)]
 ·rw[List.getElem?_eq_none (by omega),List.getElem?_eq_none (by omega)]
section
variable {C:Cx}{Φ:ku}{n:Nat}{f:Fc}
theorem mq{sc:Scope}{x:Str}{env:Env}(hn:sc.names=[((".0":Str),NameKind.local),(x,NameKind.local)]):closureFor sc env=pure []:=by
 unfold closureFor;rw[hn];rfl
theorem iP{sc:Scope}{x:Str}(hn:sc.names=[((".0":Str),NameKind.local),(x,NameKind.local)]):∀y∈sc.names,y.2≠ .cell:=by
 rw[hn];intro y hy;rcases qkz.mp hy with rfl | hy
 ·exact λz=>nomatch z
 ·rcases qkz.mp hy with rfl | hy
  ·exact λz=>nomatch z
  ·cases hy
theorem cS{sc:Scope}{x:Str}(hn:sc.names=[((".0":Str),NameKind.local),(x,NameKind.local)])(hx:(x==(".0":Str))=false):sc.names.lookup x=some .local:=by
 rw[hn,kN,hx];simp [kN]
theorem ka{sc:Scope}{x:Str}(hn:sc.names=[((".0":Str),NameKind.local),(x,NameKind.local)])(hx:(x==(".0":Str))=false):∀y∈sc.names,y.2= .local→sc.names.lookup y.1=some .local:=by
 intro y hy _;have h2:=cS hn hx;rw[hn] at hy;rcases qkz.mp hy with rfl | hy
 ·rw[hn];simp [kN]
 ·rcases qkz.mp hy with rfl | hy
  ·exact h2
  ·cases hy
theorem kb{M:Program}{W:World}{A:Around}{env:Env}{sc:Scope}{x:Str}{m:Int}{p1 p2 p3:Pos}{k:Nat}{wr:List Addr}{P:Nat→Value→Prop}{s:Shared}(hm:0<m)(hP:∀i v,P i v→ ∃a t,v= .int a t)(hsc:sc.kind= .function)(hp:bY x=true)
  (hlook:sc.names.lookup x=some .local):QuietOnC M W A env sc [] x [] (.BinOp (.Name x p1) .Mod (.Constant (.int m) k p2) p3) wr P (λ_=>true) (we m) s where
 tests:=by
  intro Cc i v s₃ m₃ E' _ _ _ _ _ _;exact fj ⟨rfl,rH _⟩
 elt:=by
  intro Cc i v s₃ m₃ E' _ hv _ hns hmx _ _
  have hd:(x==("__debug__":Str))=false:=by
   have:=(qmz.mp hp).1;simpa using this
  obtain⟨a,t,rfl⟩:=hP i v hv;rw[arm_eval_BinOp];refine aM (wpAny_Name (wpAny_loadName_local (env:=compEnvC sc [] Cc env) hsc (lookup_relabel_local hlook) hns hmx ?_) hd);refine aM (jb ?_);refine wpAny_mkInt ?_;refine aM (jP (wpAny_operating (mod_int' (by omega) ?_)))
  exact⟨λa' t' e=>by cases e;exact⟨_,rfl⟩,uC _ _⟩
theorem rI{sc:Scope}{x:Str}(h:D7 sc x=true):sc.names=[((".0":Str),NameKind.local),(x,NameKind.local)]:=by
 have h0:=jO (ab h);have h1:=ab (aa h);have h2:=aa (aa h);generalize sc.names=l at h0 h1 h2
 match l,h0 with
 |[(a,j),(b,k)],_=>
  obtain rfl:=j7 (ab h1);obtain rfl:=j7 (ab h2);obtain rfl:=ay (me (aa h1));obtain rfl:=ay (me (aa h2));rfl
inductive CompAt (N:Nm) (w:Wd) (h:Heap) (m:Int) (ws:List MV):Value→Prop
 |mk {q:Addr} {o:Obj} {vals:List Value} {vs:List MV} {k:Nat} (hat:h.get? q=some o) (c1:o.cls= .type "list") (c2:o.data= .seq vals.toArray k) (hr:VRels N w vs vals) (hn:vals.length≤ak) (hc:bp m vs=some ws) (hl:vs.length≤ak):CompAt N w h m ws (.ref q)
theorem oG{w:Wd}{P:PMap}{sh:Sto}{s:Shared}{m:Int}{vs ws:List MV}{a:Value}(S:Sh C.N w P sh s.heap)(h:VRel C.N w (.lst vs) a)(hc:bp m vs=some ws)(hl:vs.length≤ak):CompAt C.N w s.heap m ws a:=by
 cases fV S h with
 |mk hli hr hn=>obtain⟨o,hat,c1,k,c2⟩:=hli;exact⟨hat,c1,c2,hr,hn,hc,hl⟩
theorem Bz(fo:FcOk f){m:Int}{e:ME}{t:Expr}{x:Str}{p1 p2 p3 p4:Pos}{k:Nat}{sc:Scope}{pos:Pos}{st:St}{V:MV→St→Prop}(ok:okE C f e t=true)(hd:e≠ .dead)(hm:0<m)(hsc:sc.kind=ScopeKind.function)(hn:sc.names=[((".0":Str),NameKind.local),(x,NameKind.local)])
  (hx:(x==(".0":Str))=false) (hp:bY x=true) (r:Xv C n f (eval (bw C f e t)) st λa s1=>∃vs ws,a= .lst vs∧vs.length≤ak∧bp m vs=some ws∧V (.lst ws) s1) :
  Xv C n f (eval (.ListComp (.BinOp (.Name x p1) .Mod (.Constant (.int m) k p2) p3) [⟨.Name x p4,bw C f e t,[],0⟩] sc pos)) st V:=λA E s w ω P L fa q cd Q hA F go=>by
 refine wpAny_ListComp_free (λ_=>true) (we m) (mq hn) (iP hn) hsc (ka hn hx) (cS hn hx) ?_ (λv=>dO ok hd);refine r hA F λa s1 H w1 ω1 h1' tk1 a x1 F1 V1=>?_;obtain⟨vs,ws,rfl,hlim,hc,H⟩:=H;cases oG (s:={s with heap:=h1',toks:=tk1}) F1.sh V1 hc hlim with | mk hat c1 c2 hrel hlen h2 hlen2=>
 clear V1;rename_i qa o vals us kk;have hat:h1'.get? qa=some o:=hat;refine wpAny_pyIter_list ⟨_,hat,c1,_,c2⟩ ?_;have hne:qa≠h1'.objs.size:=λz=>by rw[z,Heap.get?_none_of_le (cz _)] at hat;exact aG hat
 refine⟨h1'.objs.size,_,_,vals.toArray.size,_,_,rfl,Walks.list hA.hand h1'.objs.size qa hne vals.toArray,by rw[nk,ar];exact hlen,⟨⟨_,Heap.get?_push_size _ rfl,rfl,rfl⟩,⟨_,Heap.get?_push_of_some _ hat,c1,_,c2⟩⟩,?_,?_,?_⟩
 ·intro b hb
  refine Nat.lt_of_lt_of_eq ?_ (Heap.size_push _ _).symm;rcases qkz.mp hb with z | hb
  ·rw[z];exact Nat.lt_succ_self _
  ·rw[qfz.mp hb];exact Nat.lt_succ_of_lt (Heap.lt_size hat)
 ·exact kb hm (λi v hv=>j8 hrel h2 i v (by simpa using hv)) hsc hp (cS hn hx)
 ·intro Dd h' tk ys us hD hl hpl hulen hus hpair hkeep
  obtain rfl:us=vals:=mo (by simpa using hulen) λj v hv=>by simpa using hus j v hv
  rw[List.filter_eq_self.mpr (λ_ _=>rfl)] at hpair
  have hk:∀b o,h1'.get? b=some o→h'.get? b=some o:=λb o e=>hkeep b o (λz=>by
   rw[qfz.mp z,Heap.get?_none_of_le (cz _)] at e;exact aG e) (Heap.get?_push_of_some _ e)
  have hDn:h1'.get? Dd=none:=by
   cases z:h1'.get? Dd with
   |none=>rfl
   |some o=>rw[Heap.get?_push_of_some _ z] at hD;cases hD
  obtain⟨nD,hat2⟩:=hpl;obtain⟨x2,F2⟩:=F1.addNew (h':=h') hk hDn hat2;have hV:VRels C.N (w1.add Dd {cls:=.type "list",data:=.seq ys nD}) ws ys.toList:=ml hrel h2 hpair;exact go _ s1 H _ ω1 h' tk _ (x1.trans x2) F2 (.lst (vals:=ys.toList) Wd.add_at ⟨by rw[← hV.length_eq,mn hc];exact hlim,rfl,nD,by simp⟩ hV)
theorem wf{i:Int}{x:Tx}(h:yb i=some x):i.natAbs.log2<1920∧(Str.ofString (toString i))=aj x∧x.length≤ak:=by
 obtain⟨h1,h2⟩:=mZ h;have a:0≤i:=uS (ab h1);have b:i≤9:=uS (aa h1);have h2:=(ay h2).symm;obtain⟨n,rfl⟩:=Int.eq_ofNat_of_zero_le a;have hn:n<10:=by omega
 have k:∀n:Nat,n<10→(n:Int).natAbs.log2<1920∧Str.ofString (toString (n:Int))=aj [48+(n:Int).toNat]∧[48+(n:Int).toNat].length≤ak:=by decide +kernel
 rw[h2];exact k n hn
theorem BA(D:Snd C Φ n)(fo:FcOk f)(G:RgOk C){e:ME}{t:Expr}{p0 pos:Pos}{st:St}{V:MV→St→Prop}(ok:okE C f e t=true)(hq:f.sc.names.lookup ("str":Str)=some NameKind.globalImplicit)
  (r:Xv C n f (eval (bw C f e t)) st λa s1=>∃i x,a= .int i∧yb i=some x∧V (.str x) s1):Xv C n f (eval (.Call (.Name "str" p0) [bw C f e t] [] pos)) st V:=λA E s w ω P L fa q cd Q hA F go=>by
 refine wpAny_Call_NameR (mj D fo G.str hq (by decide) F ?_)
 rw[show backTo pos (starEach [bw C f e t] (bv q f.sc L fa cd))=[(false,eval (bw C f e t) (bv q f.sc L fa cd))] from dA (es:=.cons e .nil) (ts:=[t]) (qmz.mpr ⟨ok,rfl⟩)];refine PyProof.Rows.callWith_type rfl (Calls.evalArgs_plain (Calls.spliced_cons (r hA F λu s1 H w1 ω1 h1 tk1 a x1 F1 V1=>Calls.spliced_nil ?_)));obtain⟨i,x,rfl,hd,H⟩:=H;obtain⟨ti,rfl⟩:=V1.int_inv;obtain⟨d1,d2,d3⟩:=wf hd;refine PySem.P.str_of_int d1 ?_;show Q (.str (Str.ofString (toString i)) _) _;rw[d2];exact go _ s1 H w1 ω1 h1 _ _ x1 F1 (.str _ d3)
end
open PySem PySem.W PyProof.Rows PySem.Calls PySem.Builtin
theorem wg{x:ME}(h:iz x=true):x= .abs:=by
 cases x with
 |abs=>rfl
 |_=>exact aB h
section
variable {C:Cx}{Ψ:Psi}{n:Nat}{f:Fc}{v:MV}{sh:Sto}
noncomputable abbrev Es(C:Cx)(Ψ:Psi)(n:Nat)(f:Fc)(v:MV)(sh:Sto)(e:ME)(tr:Env→Sem Value):Prop:=∀⦃st:St⦄ ⦃k:MV→St→Ds→R⦄ ⦃ds:Ds⦄ ⦃V:MV→St→Prop⦄,am (dQ C.N.T Ψ e st k ds) v sh→Kq v sh k V→rl st.sh≤rl sh∧Xv C n f tr st V
theorem wh{x:ME}{t:Expr}(ok:(iz x||okE C f x t)=true)(ih:okE C f x t=true→Es C Ψ n f v sh x (eval (bw C f x t))):Es C Ψ n f v sh x (evalPart (bif iz x then none else some (bw C f x t))):=λst k ds V h K=>by
 cases hx:iz x with
 |true=>
  obtain rfl:=wg hx
  exact⟨(K _ _ ds h).1,λA E s w ω P L fa q cd Q hA F go=>by
   show wpAny _ _ (evalPart none _) _ _ _;rw[evalPart_none];exact fj (go _ _ (K _ _ ds h).2 w ω s.heap s.toks _ (.refl w) F .none)⟩
 |false=>
  rw[hx] at ok;refine⟨(ih ok h K).1,λA E s w ω P L fa q cd Q hA F go=>?_⟩;show wpAny _ _ (evalPart (some _) _) _ _ _;rw[evalPart_some];exact(ih ok h K).2 hA F go
theorem qm{x:ME}{t:Expr}(ok:okE C f x t=true):js (bw C f x t):=by
 cases x with
 |abs=>exact aB ok
 |dead=>
  have ok:lq t=true:=ok;cases t with
  |Slice _ _ _ _=>exact aB ok
  |_=>exact λ_ _=>rfl
 |_=>exact λ_ _=>rfl
theorem gV{k:ScopeKind}(h:yp k=true):k= .function:=by
 have:=jO h;cases k<;>first | rfl | cases this
theorem wi{ex:Expr}{env:Env}{whole:Sem Value}(h:nr ex=true):isTrue ex env whole=(do
  let v←whole
  standAt ex.pos
  holding [v] (PySem.truthy v)):=by
 cases ex with
 |UnaryOp _ _ _=>exact aB h
 |BoolOp _ _ _=>exact aB h
 |IfExp _ _ _ _=>exact aB h
 |Compare _ _ _ _=>exact aB h
 |_=>rfl
variable (D:Snd C Ψ.phi n)(fo:FcOk f)(G:RgOk C)(hr:rl sh≤ak)
include D fo G hr
mutual
theorem bM:∀(e:ME) (t:Expr),okE C f e t=true→Es C Ψ n f v sh e (eval (bw C f e t))
 |.k x,t,ok=>λst k ds V h K=>⟨(K x st ds h).1,λA E s w ω P L fa q cd Q hA F go=>by
  have go:=go x st (K x st ds h).2 w ω s.heap;cases x with
  |none=>exact fj (go s.toks _ (.refl w) F .none)
  |bool b=>exact fj (go s.toks _ (.refl w) F (.bool _))
  |int i=>exact wpAny_mkInt (go _ _ (.refl w) F (.int _ _))
  |str x=>exact wpAny_mkText (go _ _ (.refl w) F (.str _ (bf ok)))
  |_=>exact aB ok⟩
 |.v i,t,ok=>λst k ds V h K=>dY h λp e h=>⟨j0 e▸(K p.1 p.2 ds h).1,λA E s w ω P L fa q cd Q hA F go=>
   wb fo (Ed (ab ok)) (By (ab ok)) (ce (aa ok)) F e (go p.1 p.2 (K p.1 p.2 ds h).2)⟩
 |.g i,t,ok=>λst k ds V h K=>dY h λu e h=>⟨(K u st ds h).1,λA E s w ω P L fa q cd Q hA F go=>
   wc D fo rfl (jw (ab ok)) (ce (aa ok)) F e (go u st (K u st ds h).2)⟩
 |.at e a,t,ok=>λst k ds V h K=>by
  have r:=bM e (aA t) (ab ok) (V:=λu s1=>∃r,tZ C.N.T s1.sh u a=some r∧V r s1) h λu s1 d1 h=>dY h λr e h=>⟨(K r s1 d1 h).1,r,e,(K r s1 d1 h).2⟩;refine⟨r.1,λA E s w ω P L fa q cd Q hA F go=>?_⟩;show wpAny _ _ (eval (.Attribute _ _ _) _) _ _ _;rw[arm_eval_Attribute]
  exact aM (ly (ab ok) (λz=>by rw[z] at h;exact h) (r.2 hA F λu s1 H w1 ω1 h1 tk1 oa x1 F1 V1=>H.elim λr H=>
   aM (jP (aM (jb (oA D.O F1 V1 H.1 (dy (aa ok)) λw2 ω2 h2 tk2 ra x2 F2 V2=>aM (wpAny_letTemporaryGo (fj (go r s1 H.2 w2 ω2 h2 tk2 ra (x1.trans x2) F2 V2)))))))))
 |.bin op l r,t,ok=>λst k ds V h K=>by
  have r:=bM l (aA t) (ab ok) (V:=λa s1=>Xv C n f (eval (bw C f r (cm t))) s1 λb s2=>eE op a b=true∧ ∃u,ix op a b=some u∧V u s2) h λa s1 d1 h=>
   bM r (cm t) (aa ok) h λb s2 d2 h=>rj h λhk d3 h=>dY h λu e h=>⟨(K u s2 d3 h).1,hk,u,e,(K u s2 d3 h).2⟩
  refine⟨r.1,λA E s w ω P L fa q cd Q hA F go=>?_⟩;show wpAny _ _ (eval (.BinOp _ _ _ _) _) _ _ _;rw[arm_eval_BinOp]
  exact aM (r.2 hA F λa s1 H w1 ω1 h1 tk1 va x1 F1 V1=>aM (jb (H hA F1 λb s2 H w2 ω2 h2 tk2 vb x2 F2 V2=>
   aM (jP (wpAny_operating (H.2.elim λu H2=>yH F2 (V1.mono x2) V2 H.1 H2.1 λw3 ω3 h3 tk3 vc x3 F3 V3=>go u s2 H2.2 w3 ω3 h3 tk3 vc ((x1.trans x2).trans x3) F3 V3))))))
 |.not x,t,ok=>λst k ds V h K=>by
  have r:=bM x (aA t) ok (V:=λa s1=>∃b,Mine.truthy s1.sh a=some b∧V (.bool (!b)) s1) h λa s1 d1 h=>dY h λu e h=>⟨(K _ s1 d1 h).1,u,e,(K _ s1 d1 h).2⟩;refine⟨r.1,λA E s w ω P L fa q cd Q hA F go=>?_⟩;show wpAny _ _ (eval (.UnaryOp _ _ _) _) _ _ _;rw[arm_eval_UnaryOp];exact aM (r.2 hA F λa s1 H w1 ω1 h1 tk1 va x1 F1 V1=>H.elim λb H=>aM (jP (jb (PySem.not_value (jY F1.sh V1 H.1 λtk=>go _ s1 H.2 w1 ω1 h1 tk _ x1 F1 (.bool _))))))
 |.bo a es,t,ok=>λst k ds V h K=>wk es (cP t) ok h K
 |.neg x,t,ok=>λst k ds V h K=>by
  have r:=bM x (aA t) ok (V:=λa s1=>∃i,a= .int i∧V (.int (-i)) s1) h λa s1 d1 h=>dY h λi e h=>⟨(K _ s1 d1 h).1,i,bz e,(K _ s1 d1 h).2⟩;refine⟨r.1,λA E s w ω P L fa q cd Q hA F go=>?_⟩;show wpAny _ _ (eval (.UnaryOp _ _ _) _) _ _ _;rw[arm_eval_UnaryOp];exact aM (r.2 hA F λa s1 H w1 ω1 h1 tk1 va x1 F1 V1=>H.elim λi H=>(H.1▸V1:VRel C.N w1 (.int i) va).elim λt e=>e▸aM (jP (jb (PySem.P.neg_int (go _ s1 H.2 w1 ω1 h1 _ _ x1 F1 (.int _ _))))))
 |.ife c a b,t,ok=>λst k ds V h K=>by
  have r:=kG c (aA t) (ab ok) (V:=λd s1=>(d=true→Xv C n f (eval (bw C f a (cm t))) s1 V)∧(d=false→Xv C n f (eval (bw C f b (ow t))) s1 V)) h λd s1 d1 h=>z8 h
    (λe d2 h=>let r:=bM a (cm t) (ab (aa ok)) h K;⟨r.1,λ_=>r.2,λz=>aB (z.symm.trans e)⟩) (λe d2 h=>let r:=bM b (ow t) (aa (aa ok)) h K;⟨r.1,λz=>aB (e.symm.trans z),λ_=>r.2⟩)
  refine⟨r.1,λA E s w ω P L fa q cd Q hA F go=>?_⟩;show wpAny _ _ (eval (.IfExp _ _ _ _) _) _ _ _;rw[arm_eval_IfExp];refine aM (r.2 hA F λd s1 H w1 ω1 h1 tk1 x1 F1=>?_);cases d with
  |true=>rw[cw rfl];exact H.1 rfl hA F1 λu s2 H w2 ω2 h2 tk2 va x2 F2 V2=>go u s2 H w2 ω2 h2 tk2 va (x1.trans x2) F2 V2
  |false=>rw[bL Bool.false_ne_true];exact H.2 rfl hA F1 λu s2 H w2 ω2 h2 tk2 va x2 F2 V2=>go u s2 H w2 ω2 h2 tk2 va (x1.trans x2) F2 V2
 |.cmp l r,t,ok=>λst k ds V h K=>by
  have r:=bM l (aA t) (ab ok) (V:=λa s1=>Xc C n f (λla env=>compareChain t.pos la (eO r) (markedEach (eO r) (iK C f r (bh t)) (evalEach (iK C f r (bh t)) env))) Value.bool a s1 λb s2=>V (.bool b) s2) h λa s1 d1 h=>
   let r:=oH r (bh t) (aa ok) (p:=t.pos) h (V:=λb s2=>V (.bool b) s2) λb s2 d2 h=>K _ s2 d2 h
   ⟨r.1,r.2.1⟩
  refine⟨r.1,λA E s w ω P L fa q cd Q hA F go=>?_⟩;show wpAny _ _ (eval (.Compare _ _ _ _) _) _ _ _;rw[arm_eval_Compare];exact aM (r.2 hA F λa s1 H w1 ω1 h1 tk1 va x1 F1 V1=>H hA F1 V1 λb s2 H w2 ω2 h2 tk2 x2 F2=>go _ s2 H w2 ω2 h2 tk2 _ (x1.trans x2) F2 (.bool _))
 |.call g as ks,t,ok=>λst k ds V h K=>dY h λfv hg h=>by
  have ok3:=aa (aa ok)
  have r:=mr as (bh t) (ab ok3) (V:=λvs s1=>Xp C n f (λw u a=>LRel C.N w u ((DD C ks).zip a)) (λenv=>evalAll ((backToKw t.pos (keywordEach (m6 C f ks (pV t)) env)).map (·.2))) s1
    λkv s2=>∃r,nn C.N.T Ψ.phi fv vs kv s2.sh=some r∧rl r.2≤rl sh∧V r.1 {s2 with sh:=r.2}) h λvs s1 d1 h=>
    wj ks (pV t) (aa ok3) h λkv s2 d2 h=>dY h λp e h=>rj h λhk d3 h=>
     have e:=ub e hk;have K:=K _ _ d3 h
     ⟨iE (rq D.mono e (iE K.1 hr)) K.1,p.2,e,K.1,K.2⟩
  refine⟨r.1,λA E s w ω P L fa q cd Q hA F go=>wpAny_Call_Name_kw (wc D fo rfl (jw (ab ok)) (ce (ab (aa ok))) F hg λw1 ω1 h1 tk1 fva x1 F1 V1=>?_)⟩;refine fq (by rw[dA (ab ok3)];exact mf) sX ?_
  rw[dA (ab ok3),rG]
  exact r.2 hA F1 λvs s1 H w2 ω2 h2 tk2 avs x2 F2 V2=>H hA F2 λkv s2 H w3 ω3 h3 tk3 kvs x3 F3 V3=>H.elim λr H=>
    ⟨qk D F3.sh hg (V1.mono (x2.trans x3)) H.1,vX D.O D.B D.H D.HI F3 H.1 (iE H.2.1 hr) hA (V1.mono (x2.trans x3)) (V2.1.mono x3) V3 λw4 h4 tk4 ra x4 F4 V4=>go _ _ H.2.2 w4 ω3 h4 tk4 ra (((x1.trans x2).trans x3).trans x4) F4 V4⟩
 |.mc o a as ks,t,ok=>λst k ds V h K=>by
  have ok3:=aa (aa ok);have ok4:=aa ok3
  have r:=bM o (aA (aA t)) (ab ok) (V:=λov s0=>∃c,n5 C.N.T s0.sh ov a=some c∧Xp C n f (VRn C.N (ug as)) (λenv=>spliced ((fW C f as (bh t)).map λex=>(false,eval ex env))) s0 λvs s1=>
    Xp C n f (λw u a=>LRel C.N w u ((DD C ks).zip a)) (λenv=>evalAll ((backToKw t.pos (keywordEach (m6 C f ks (pV t)) env)).map (·.2))) s1
    λkv s2=>iG s2.sh ov a vs=true∧ ∃r,sz C.N.T Ψ.phi c ov a vs kv s2.sh=some r∧rl r.2≤rl sh∧V r.1 {s2 with sh:=r.2}) h λov s0 d0 h=>dY h λc e h=>
   let r:=mr as (bh t) (ab ok3) h λvs s1 d1 h=>
    wj ks (pV t) (ab ok4) h λkv s2 d2 h=>rj h λhok d3 h=>dY h λp e h=>rj h λhk d4 h=>
     have e:=uc e hk;have K:=K _ _ d4 h
     ⟨iE (ru D.mono e (iE K.1 hr)) K.1,hok,p.2,e,K.1,K.2⟩
   ⟨r.1,c,e,r.2⟩
  refine⟨r.1,λA E s w ω P L fa q cd Q hA F go=>?_⟩;show wpAny _ _ (eval (.Call (.Attribute _ _ _) _ _ _) _) _ _ _;rw[arm_eval_Call];refine aM (ly (ab ok) (λz=>by rw[z] at h;exact h) (r.2 hA F λov s0 H w1 ω1 h1 tk1 oa x1 F1 V1=>aM (jP ?_)))
  obtain⟨c,hc,H⟩:=H;refine fC (by rw[Ah,Ai];exact dy (ab (aa ok4))) (by rw[dA (ab ok3)];exact mf) sX (aa (aa ok4)) λpl=>?_
  refine sZ D.O D.N F1 V1 (dy (ab (aa ok))) hc λw2 ω2 h2 tk2 r x2 F2 c2=>?_;refine fq (by rw[dA (ab ok3)];exact mf) sX ?_
  rw[dA (ab ok3),rG]
  exact H hA F2 λvs s1 H w3 ω3 h3 tk3 avs x3 F3 V3=>H hA F3 λkv s2 H w4 ω4 h4 tk4 kvs x4 F4 V4=>H.2.elim λr H2=>
   ⟨(c2.mono (x3.trans x4)).keep D F4.sh,ql D F4 (c2.mono (x3.trans x4)) (V1.mono ((x2.trans x3).trans x4)) H.1 H2.1 (iE H2.2.1 hr) hA (V3.1.mono x4) V4 λw5 h5 tk5 ra x5 F5 V5=>go _ _ H2.2.2 w5 ω4 h5 tk5 ra ((((x1.trans x2).trans x3).trans x4).trans x5) F5 V5⟩
 |.sub b i,t,ok=>λst k ds V h K=>by
  have r:=bM b (aA t) (ab ok) (V:=λa s1=>Xv C n f (eval (bw C f i (cm t))) s1 λc s2=>∃u,fx s2.sh a c=some u∧V u s2) h λa s1 d1 h=>
   bM i (cm t) (aa ok) h λc s2 d2 h=>(sD h).elim λd3 h=>(sF h).elim λd3 h=>dY h λu e h=>⟨(K u s2 d3 h).1,u,e,(K u s2 d3 h).2⟩
  exact⟨r.1,λA E s w ω P L fa q cd Q hA F go=>Subscript_ (r.2 hA F λa s1 H w1 ω1 h1 tk1 va x1 F1 V1=>H hA F1 λc s2 H w2 ω2 h2 tk2 vb x2 F2 V2=>H.elim λu H=>
   Bq D.O F2 (V1.mono x2) V2 H.1 (qm (aa ok)) λw3 ω3 h3 tk3 vc x3 F3 V3=>go u s2 H.2 w3 ω3 h3 tk3 vc ((x1.trans x2).trans x3) F3 V3)⟩
 |.sl b lo hi,t,ok=>λst k ds V h K=>by
  have r:=bM b (aA t) (ab ok) (V:=λa s1=>Xv C n f (evalPart (bif iz lo then none else some (bw C f lo (aA (cm t))))) s1 λc s2=>Xv C n f (evalPart (bif iz hi then none else some (bw C f hi (cm (cm t))))) s2
    λd s3=>∃u,GW s3.sh a c d=some u∧V u s3) h λa s1 d1 h=>
   wh (ab (aa ok)) (λok=>bM lo (aA (cm t)) ok) h λc s2 d2 h=>wh (aa (aa ok)) (λok=>bM hi (cm (cm t)) ok) h λd s3 d3 h=>dY h λu e h=>⟨(K u s3 d3 h).1,u,e,(K u s3 d3 h).2⟩
  refine⟨r.1,λA E s w ω P L fa q cd Q hA F go=>Subscript_ (r.2 hA F λa s1 H w1 ω1 h1 tk1 va x1 F1 V1=>wpAny_Slice (H hA F1 λc s2 H w2 ω2 h2 tk2 vl x2 F2 V2=>H hA F2 λd s3 H w3 ω3 h3 tk3 vh x3 F3 V3=>?_))⟩;obtain⟨u,H⟩:=H;rw[evalPart_none];refine fj ?_;have F4:=F3.keeps (h':=h3.push {cls:=.type "slice",data:=.fields #[vl,vh,.none]}) λb o e=>Heap.get?_push_of_some _ e
  exact Ea (s:={s with heap:=h3.push {cls:=.type "slice",data:=.fields #[vl,vh,.none]},toks:=tk3}) D.O F4 (V1.mono (x2.trans x3)) (V2.mono x3) V3 (Heap.get?_push_size _ rfl) H.1
   λw5 ω5 h5 tk5 vc x5 F5 V5=>go u s3 H.2 w5 ω5 h5 tk5 vc (((x1.trans x2).trans x3).trans x5) F5 V5
 |.abs,t,ok=>aB ok
 |.list none es,t,ok=>λst k ds V h K=>by
  have r:=mr es (cP t) (ab ok) (V:=λvs s1=>V (.lst vs) s1) h λvs s1 d1 h=>K _ s1 d1 h;refine⟨r.1,λA E s w ω P L fa q cd Q hA F go=>?_⟩;show wpAny _ _ (eval (.List _ _) _) _ _ _;rw[arm_eval_List,dA (ab ok)];refine aM (jP (aM (r.2 hA F λvs s1 H w1 ω1 h1 tk1 as x1 F1 V1=>?_)));have hl:=V1.le (aa ok);exact wpAny_newList (nH (s:={s with heap:=h1,toks:=tk1}) F1 hl V1.1 (λw2 ω2 h2 tk2 va x2 F2 V2=>go _ s1 H w2 ω2 h2 tk2 va (x1.trans x2) F2 V2) tk1) (by rw[ar];exact hl)
 |.list (some l) es,t,ok=>λst k ds V h K=>by
  have r:=mr es (cP t) (ab ok) (V:=λvs s1=>∃p,bQ s1 l vs=some p∧V p.1 p.2) h λvs s1 d1 h=>dY h λp e h=>⟨iE (eu e) (K _ _ d1 h).1,p,e,(K _ _ d1 h).2⟩;refine⟨r.1,λA E s w ω P L fa q cd Q hA F go=>?_⟩;show wpAny _ _ (eval (.List _ _) _) _ _ _;rw[arm_eval_List,dA (ab ok)];refine aM (jP (aM (r.2 hA F λvs s1 H w1 ω1 h1 tk1 as x1 F1 V1=>?_)));have hl:=V1.le (aa ok);obtain⟨p,e,H⟩:=H;exact wpAny_newList (yI (s:={s with heap:=h1,toks:=tk1}) F1 hl V1.1 e (λw2 ω2 h2 tk2 va x2 F2 V2=>go _ _ H w2 ω2 h2 tk2 va (x1.trans x2) F2 V2) tk1) (by rw[ar];exact hl)
 |.tup es,t,ok=>λst k ds V h K=>by
  have r:=mr es (cP t) (ab ok) (V:=λvs s1=>V (.tup vs) s1) h λvs s1 d1 h=>K _ s1 d1 h;refine⟨r.1,λA E s w ω P L fa q cd Q hA F go=>?_⟩;show wpAny _ _ (eval (.Tuple _ _ _) _) _ _ _;rw[arm_eval_Tuple,dA (ab ok)];refine aM (jP (aM (r.2 hA F λvs s1 H w1 ω1 h1 tk1 as x1 F1 V1=>?_)));have hl:=V1.le (aa ok);exact wpAny_newTuple (qj (s:={s with heap:=h1,toks:=tk1}) F1 hl V1.1 (λw2 ω2 h2 tk2 va x2 F2 V2=>go _ s1 H w2 ω2 h2 tk2 va (x1.trans x2) F2 V2) tk1) (by rw[ar];exact hl)
 |.comp m src,t,ok=>λst k ds V h K=>by
  have o2:=aa ok;have o3:=aa o2;have o4:=aa o3;have o5:=aa o4
  have r:=bM src (jo t).iter (ab o2) (V:=λa s1=>∃vs ws,a= .lst vs∧vs.length≤ak∧bp m vs=some ws∧V (.lst ws) s1) h λa s1 d1 h=>dY h λvs e h=>rj h λhl d2 h=>dY h λws e2 h=>
   ⟨(K _ s1 d2 h).1,vs,ws,bT e,bf hl,e2,(K _ s1 d2 h).2⟩
  exact⟨r.1,Bz fo (ab o2) (λz=>by rw[z] at h;exact h) (uS (ab ok)) (gV (ab o3)) (rI (ab o4)) (eqS_beq.trans (nf (ab o5))) (ce (ab (aa o5))) r.2⟩
 |.dead,t,ok=>λst k ds V h K=>(h:False).elim
 |.strI x,t,ok=>λst k ds V h K=>by
  have r:=bM x (dR (bh t)) (ab ok) (V:=λa s1=>∃i y,a= .int i∧yb i=some y∧V (.str y) s1) h λa s1 d1 h=>dY h λi e h=>dY h λy e2 h=>⟨(K _ s1 d1 h).1,i,y,bz e,e2,(K _ s1 d1 h).2⟩;exact⟨r.1,BA D fo G (ab ok) (jw (aa ok)) r.2⟩
theorem mr:∀(es:MEs) (ts:List Expr),kQ C f es ts=true→ ∀⦃st:St⦄ ⦃k:List MV→St→Ds→R⦄ ⦃ds:Ds⦄ ⦃V:List MV→St→Prop⦄,am (n8 C.N.T Ψ es st k ds) v sh→Kq v sh k V →
  rl st.sh≤rl sh∧Xp C n f (VRn C.N (ug es)) (λenv=>spliced ((fW C f es ts).map λex=>(false,eval ex env))) st V
 |.nil,ts,ok=>λst k ds V h K=>⟨(K _ _ ds h).1,λA E s w ω P L fa q cd Q hA F go=>spliced_nil (go _ _ (K _ _ ds h).2 w ω s.heap s.toks [] (.refl w) F ⟨.nil,rfl⟩)⟩
 |.cons x r,ts,ok=>λst k ds V h K=>
  let r:=bM x (dR ts) (ab ok) (V:=λa s1=>Xp C n f (VRn C.N (ug r)) (λenv=>spliced ((fW C f r (fc ts)).map λex=>(false,eval ex env))) s1 λb s2=>V (a::b) s2) h λa s1 d1 h=>mr r (fc ts) (aa ok) h λb s2 d2 h=>K _ s2 d2 h
  ⟨r.1,λA E s w ω P L fa q cd Q hA F go=>spliced_cons (r.2 hA F λa s1 H w1 ω1 h1 tk1 va x1 F1 V1=>H hA F1 λb s2 H w2 ω2 h2 tk2 as x2 F2 V2=>go _ s2 H w2 ω2 h2 tk2 _ (x1.trans x2) F2 ⟨.cons (V1.mono x2) V2.1,bJ (· + 1) V2.2⟩)⟩
theorem wj:∀(es:MKs) (ts:List Keyword),yr C f es ts=true→ ∀⦃pos:Pos⦄ ⦃st:St⦄ ⦃k:List (Nat×MV)→St→Ds→R⦄ ⦃ds:Ds⦄ ⦃V:List (Nat×MV)→St→Prop⦄,am (vq C.N.T Ψ es st k ds) v sh→Kq v sh k V →
  rl st.sh≤rl sh∧Xp C n f (λw u a=>LRel C.N w u ((DD C es).zip a)) (λenv=>evalAll ((backToKw pos (keywordEach (m6 C f es ts) env)).map (·.2))) st V
 |.nil,ts,ok=>λpos st k ds V h K=>⟨(K _ _ ds h).1,λA E s w ω P L fa q cd Q hA F go=>wpAny_evalAll_nil (go _ _ (K _ _ ds h).2 w ω s.heap s.toks [] (.refl w) F .nil)⟩
 |.cons m x r,ts,ok=>λpos st k ds V h K=>
  let r:=bM x (Gh ts).value (ab (aa ok)) (V:=λa s1=>Xp C n f (λw u a=>LRel C.N w u ((DD C r).zip a)) (λenv=>evalAll ((backToKw pos (keywordEach (m6 C f r (fc ts)) env)).map (·.2))) s1 λb s2=>V ((m,a)::b) s2) h λa s1 d1 h=>
   wj r (fc ts) (aa (aa ok)) h λb s2 d2 h=>K _ s2 d2 h
  ⟨r.1,λA E s w ω P L fa q cd Q hA F go=>wpAny_evalAll_cons (aM (r.2 hA F λa s1 H w1 ω1 h1 tk1 va x1 F1 V1=>aM (jP (fj (by
   exact H hA F1 λb s2 H w2 ω2 h2 tk2 as x2 F2 V2=>go _ s2 H w2 ω2 h2 tk2 (va::as) (x1.trans x2) F2 (.cons (dy (ab ok)) (V1.mono x2) V2))))))⟩
theorem wk:∀(es:MEs) (ts:List Expr),kQ C f es ts=true→ ∀⦃a:Bool⦄ ⦃pos:Pos⦄ ⦃st:St⦄ ⦃k:MV→St→Ds→R⦄ ⦃ds:Ds⦄ ⦃V:MV→St→Prop⦄,am (sC C.N.T Ψ a es st k ds) v sh→Kq v sh k V →
  rl st.sh≤rl sh∧Xv C n f (λenv=>boolOp pos (uf a) (evalEach (fW C f es ts) env)) st V
 |.nil,ts,ok=>λa pos st k ds V h K=>(h:False).elim
 |.cons x .nil,ts,ok=>λa pos st k ds V h K=>bM x (dR ts) (ab ok) h K
 |.cons x (.cons y r),ts,ok=>λa pos st k ds V h K=>by
  have r:=bM x (dR ts) (ab ok) (V:=λu s1=>∃b,Mine.truthy s1.sh u=some b∧(b=a→Xv C n f (λenv=>boolOp pos (uf a) (evalEach (fW C f (.cons y r) (fc ts)) env)) s1 V)∧(b≠a→V u s1)) h λu s1 d1 h=>dY h λb e h=>z8 h
   (λe1 d2 h=>let r:=wk (.cons y r) (fc ts) (aa ok) (a:=a) (pos:=pos) h K;⟨r.1,b,e,λ_=>r.2,λz=>absurd (eq_of_beq e1) z⟩)
   (λe1 d2 h=>⟨(K u s1 d2 h).1,b,e,λz=>absurd (z▸e1:(a==a)=false) (by cases a<;>decide),λ_=>(K u s1 d2 h).2⟩)
  refine⟨r.1,λA E s w ω P L fa q cd Q hA F go=>?_⟩;show wpAny _ _ (eval _ _>>=_) _ _ _;refine aM (r.2 hA F λu s1 H w1 ω1 h1 tk1 va x1 F1 V1=>H.elim λb H=>aM (jP (aM (jb (jY F1.sh V1 H.1 λtk=>?_)))));have H1:=H.2.1;have H2:=H.2.2;cases a<;>cases b
  ·exact H1 rfl hA F1 λu s2 H w2 ω2 h2 tk2 va x2 F2 V2=>go u s2 H w2 ω2 h2 tk2 va (x1.trans x2) F2 V2
  ·exact fj (go u s1 (H2 Bool.noConfusion) w1 ω1 h1 tk va x1 F1 V1)
  ·exact fj (go u s1 (H2 Bool.noConfusion) w1 ω1 h1 tk va x1 F1 V1)
  ·exact H1 rfl hA F1 λu s2 H w2 ω2 h2 tk2 va x2 F2 V2=>go u s2 H w2 ω2 h2 tk2 va (x1.trans x2) F2 V2
theorem oH:∀(cs:MCs) (ts:List Expr),yq C f cs ts=true→ ∀⦃p:Pos⦄ ⦃l:MV⦄ ⦃st:St⦄ ⦃k:Bool→St→Ds→R⦄ ⦃ds:Ds⦄ ⦃V:Bool→St→Prop⦄,am (lO C.N.T Ψ l cs st k ds) v sh→Kq v sh k V →
  rl st.sh≤rl sh∧Xc C n f (λla env=>compareChain p la (eO cs) (markedEach (eO cs) (iK C f cs ts) (evalEach (iK C f cs ts) env))) Value.bool l st V∧Xc C n f (λla env=>testChain p la (eO cs) (markedEach (eO cs) (iK C f cs ts) (evalEach (iK C f cs ts) env))) id l st V
 |.nil,ts,ok=>λp l st k ds V h K=>(h:False).elim
 |.cons op x .nil,ts,ok=>λp l st k ds V h K=>by
  have r:=bM x (dR ts) (ab ok) (V:=λu s1=>∃b,kt op l u=some b∧V b s1) h λu s1 d1 h=>dY h λb e h=>⟨(K b s1 d1 h).1,b,e,(K b s1 d1 h).2⟩;have hm:∀t,markedBehindIn (kB op) (bw C f x (dR ts)) t=t:=λt=>by unfold markedBehindIn;rw[nf (ab (aa ok))]
  refine⟨r.1,λA E s w ω P L fa q cd la Q hA F Vl go=>?_,λA E s w ω P L fa q cd la Q hA F Vl go=>?_⟩
  ·show wpAny _ _ (compareChain p la [kB op] [markedBehindIn (kB op) _ _]) _ _ _
   rw[hm];exact aM (jb (r.2 hA F λu s1 H w1 ω1 h1 tk1 va x1 F1 V1=>H.elim λb H=>aM (jP (wpAny_operating (ou F1.sh (Vl.mono x1) V1 H.1 (go b s1 H.2 w1 ω1 h1 tk1 x1 F1))))))
  ·show wpAny _ _ (testChain p la [kB op] [markedBehindIn (kB op) _ _]) _ _ _
   rw[hm];exact aM (jb (r.2 hA F λu s1 H w1 ω1 h1 tk1 va x1 F1 V1=>H.elim λb H=>aM (jP (aM (wpAny_operating (ou F1.sh (Vl.mono x1) V1 H.1 (jb (wpAny_truthy_bool (go b s1 H.2 w1 ω1 h1 tk1 x1 F1)))))))))
 |.cons op x (.cons op' y r),ts,ok=>λp l st k ds V h K=>by
  have r:=bM x (dR ts) (ab ok) (V:=λu s1=>∃b,kt op l u=some b∧(b=true→Xc C n f (λla env=>compareChain p la (eO (.cons op' y r)) (markedEach (eO (.cons op' y r)) (iK C f (.cons op' y r) (fc ts)) (evalEach (iK C f (.cons op' y r) (fc ts)) env))) Value.bool u s1 V ∧
    Xc C n f (λla env=>testChain p la (eO (.cons op' y r)) (markedEach (eO (.cons op' y r)) (iK C f (.cons op' y r) (fc ts)) (evalEach (iK C f (.cons op' y r) (fc ts)) env))) id u s1 V)∧(b=false→V false s1)) h λu s1 d1 h=>dY h λb e h=>z8 h
   (λe1 d2 h=>let r:=oH (.cons op' y r) (fc ts) (aa (aa ok)) (p:=p) h K;⟨r.1,b,e,λ_=>r.2,λz=>aB (z.symm.trans e1)⟩) (λe1 d2 h=>⟨(K _ s1 d2 h).1,b,e,λz=>aB (e1.symm.trans z),λ_=>(K _ s1 d2 h).2⟩)
  refine⟨r.1,λA E s w ω P L fa q cd la Q hA F Vl go=>?_,λA E s w ω P L fa q cd la Q hA F Vl go=>?_⟩
  ·show wpAny _ _ (holding _ (eval _ _)>>=_) _ _ _
   refine aM (jb (r.2 hA F λu s1 H w1 ω1 h1 tk1 va x1 F1 V1=>H.elim λb H=>aM (jP (aM (jb (ou F1.sh (Vl.mono x1) V1 H.1 (aM (wpAny_release (aM (jb (wpAny_truthy_bool ?_)))))))))));cases b with
   |true=>rw[cw rfl];exact(H.2.1 rfl).1 hA F1 V1 λb s2 H w2 ω2 h2 tk2 x2 F2=>go b s2 H w2 ω2 h2 tk2 (x1.trans x2) F2
   |false=>rw[bL Bool.false_ne_true];exact fj (go false s1 (H.2.2 rfl) w1 ω1 h1 tk1 x1 F1)
  ·show wpAny _ _ (holding _ (eval _ _)>>=_) _ _ _
   refine aM (jb (r.2 hA F λu s1 H w1 ω1 h1 tk1 va x1 F1 V1=>H.elim λb H=>aM (jP (aM (jb (ou F1.sh (Vl.mono x1) V1 H.1 (aM (wpAny_release (aM (jb (wpAny_truthy_bool ?_)))))))))));cases b with
   |true=>rw[cw rfl];exact(H.2.1 rfl).2 hA F1 V1 λb s2 H w2 ω2 h2 tk2 x2 F2=>go b s2 H w2 ω2 h2 tk2 (x1.trans x2) F2
   |false=>rw[bL Bool.false_ne_true];exact fj (go false s1 (H.2.2 rfl) w1 ω1 h1 tk1 x1 F1)
theorem kG:∀(b:MB) (t:Expr),uU C f b t=true→ ∀⦃st:St⦄ ⦃k:Bool→St→Ds→R⦄ ⦃ds:Ds⦄ ⦃V:Bool→St→Prop⦄,am (fR C.N.T Ψ b st k ds) v sh→Kq v sh k V →
  rl st.sh≤rl sh∧Xb C n f (λenv=>isTrue (pW C f b t) env (eval (pW C f b t) env)) st V
 |.not x,t,ok=>λst k ds V h K=>
  let r:=kG x (aA t) ok (V:=λb s1=>V (!b) s1) h λb s1 d1 h=>K _ s1 d1 h
  ⟨r.1,λA E s w ω P L fa q cd Q hA F go=>aM (r.2 hA F λb s1 H w1 ω1 h1 tk1 x1 F1=>fj (go _ s1 H w1 ω1 h1 tk1 x1 F1))⟩
 |.bo a bs,t,ok=>λst k ds V h K=>s6 bs (cP t) ok h K
 |.ife c a b,t,ok=>λst k ds V h K=>by
  have r:=kG c (aA t) (ab ok) (V:=λd s1=>(d=true→Xb C n f (λenv=>isTrue (pW C f a (cm t)) env (eval (pW C f a (cm t)) env)) s1 V)∧(d=false→Xb C n f (λenv=>isTrue (pW C f b (ow t)) env (eval (pW C f b (ow t)) env)) s1 V)) h λd s1 d1 h=>z8 h
    (λe d2 h=>let r:=kG a (cm t) (ab (aa ok)) h K;⟨r.1,λ_=>r.2,λz=>aB (z.symm.trans e)⟩) (λe d2 h=>let r:=kG b (ow t) (aa (aa ok)) h K;⟨r.1,λz=>aB (e.symm.trans z),λ_=>r.2⟩)
  refine⟨r.1,λA E s w ω P L fa q cd Q hA F go=>?_⟩;show wpAny _ _ (isTrue (.IfExp _ _ _ _) _ _) _ _ _;rw[arm_isTrue_IfExp];refine aM (r.2 hA F λd s1 H w1 ω1 h1 tk1 x1 F1=>?_);cases d with
  |true=>rw[cw rfl];exact H.1 rfl hA F1 λu s2 H w2 ω2 h2 tk2 x2 F2=>go u s2 H w2 ω2 h2 tk2 (x1.trans x2) F2
  |false=>rw[bL Bool.false_ne_true];exact H.2 rfl hA F1 λu s2 H w2 ω2 h2 tk2 x2 F2=>go u s2 H w2 ω2 h2 tk2 (x1.trans x2) F2
 |.cmp l r,t,ok=>λst k ds V h K=>
  let r:=bM l (aA t) (ab ok) (V:=λa s1=>Xc C n f (λla env=>testChain t.pos la (eO r) (markedEach (eO r) (iK C f r (bh t)) (evalEach (iK C f r (bh t)) env))) id a s1 V) h λa s1 d1 h=>
   let r:=oH r (bh t) (aa ok) (p:=t.pos) h K
   ⟨r.1,r.2.2⟩
  ⟨r.1,λA E s w ω P L fa q cd Q hA F go=>aM (r.2 hA F λa s1 H w1 ω1 h1 tk1 va x1 F1 V1=>H hA F1 V1 λb s2 H w2 ω2 h2 tk2 x2 F2=>go b s2 H w2 ω2 h2 tk2 (x1.trans x2) F2)⟩
 |.val x,t,ok=>λst k ds V h K=>by
  have r:=bM x t (aa ok) (V:=λa s1=>∃b,Mine.truthy s1.sh a=some b∧V b s1) h λa s1 d1 h=>dY h λu e h=>⟨(K _ s1 d1 h).1,u,e,(K _ s1 d1 h).2⟩;refine⟨r.1,λA E s w ω P L fa q cd Q hA F go=>?_⟩;show wpAny _ _ (isTrue (bw C f x t) _ (eval (bw C f x t) _)) _ _ _;rw[wi (ab ok)];exact aM (r.2 hA F λa s1 H w1 ω1 h1 tk1 va x1 F1 V1=>H.elim λb H=>aM (jP (jb (jY F1.sh V1 H.1 λtk=>go b s1 H.2 w1 ω1 h1 tk x1 F1))))
theorem s6:∀(bs:MBs) (ts:List Expr),Bl C f bs ts=true→ ∀⦃a:Bool⦄ ⦃st:St⦄ ⦃k:Bool→St→Ds→R⦄ ⦃ds:Ds⦄ ⦃V:Bool→St→Prop⦄,am (n9 C.N.T Ψ a bs st k ds) v sh→Kq v sh k V →
  rl st.sh≤rl sh∧Xb C n f (λenv=>allTrue (uf a) (yo C f bs ts) env) st V
 |.nil,ts,ok=>λa st k ds V h K=>⟨(K _ _ ds h).1,λA E s w ω P L fa q cd Q hA F go=>by
  cases a<;>exact fj (go _ _ (K _ _ ds h).2 w ω s.heap s.toks (.refl w) F)⟩
 |.cons x r,ts,ok=>λa st k ds V h K=>by
  have r:=kG x (dR ts) (ab ok) (V:=λb s1=>(b=a→Xb C n f (λenv=>allTrue (uf a) (yo C f r (fc ts)) env) s1 V)∧(b≠a→V b s1)) h λb s1 d1 h=>z8 h
   (λe1 d2 h=>let r:=s6 r (fc ts) (aa ok) (a:=a) h K;⟨r.1,λ_=>r.2,λz=>absurd (eq_of_beq e1) z⟩) (λe1 d2 h=>⟨(K (!a) s1 d2 h).1,λz=>absurd (z▸e1:(a==a)=false) (by cases a<;>decide),λ_=>(show b= !a by cases a<;>cases b<;>first | rfl | exact aB e1.symm)▸(K (!a) s1 d2 h).2⟩)
  refine⟨r.1,λA E s w ω P L fa q cd Q hA F go=>?_⟩;show wpAny _ _ (allTrue _ (_::_) _) _ _ _;rw[arm_allTrue_cons];refine aM (r.2 hA F λb s1 H w1 ω1 h1 tk1 x1 F1=>?_);cases a<;>cases b
  ·exact H.1 rfl hA F1 λu s2 H w2 ω2 h2 tk2 x2 F2=>go u s2 H w2 ω2 h2 tk2 (x1.trans x2) F2
  ·exact fj (go _ s1 (H.2 Bool.noConfusion) w1 ω1 h1 tk1 x1 F1)
  ·exact fj (go _ s1 (H.2 Bool.noConfusion) w1 ω1 h1 tk1 x1 F1)
  ·exact H.1 rfl hA F1 λu s2 H w2 ω2 h2 tk2 x2 F2=>go u s2 H w2 ω2 h2 tk2 (x1.trans x2) F2
end
end
open PySem PySem.W PyProof.Rows PySem.Calls PySem.Builtin
def uD (N:Nm) (w:Wd) (r:Option MV) (fl:Flow):Prop:=Option.casesOn (motive:=λ_=>Prop) r (fl= .next) λv=>∃a,fl= .ret a∧VRel N w v a
section
variable (C:Cx)(n:Nat)(f:Fc)
def Xs (t:Env→Sem Flow) (st:St) (V:Option MV→St→Prop):Prop:=
 ∀⦃A:Around⦄ ⦃E:Value→Shared→Prop⦄ ⦃s:Shared⦄ ⦃w:Wd⦄ ⦃ω:Nat→Option Addr⦄ ⦃P:PMap⦄ ⦃L:FL⦄ ⦃fa:Option Addr×Option Addr⦄ ⦃q:Str⦄ ⦃cd:Value⦄ ⦃Q:Flow→Shared→Prop⦄,Rm A (n+1)→Fm C.N w ω P L f st s.heap →
  (∀r st',V r st'→ ∀w' ω' m' h' tk fl,w.Ext w'→Fm C.N w' ω' P (L.wm m') f st' h'→uD C.N w' r fl→Q fl {s with heap:=h',toks:=tk})→wpAny (model C.prog C.wd) A (t (bv q f.sc L fa cd)) Q E s
def Xt (t:Value→Env→Sem Unit) (v:MV) (st:St) (V:St→Prop):Prop:=
 ∀⦃A:Around⦄ ⦃E:Value→Shared→Prop⦄ ⦃s:Shared⦄ ⦃w:Wd⦄ ⦃ω:Nat→Option Addr⦄ ⦃P:PMap⦄ ⦃L:FL⦄ ⦃fa:Option Addr×Option Addr⦄ ⦃q:Str⦄ ⦃cd a:Value⦄ ⦃Q:Unit→Shared→Prop⦄,Rm A (n+1)→Fm C.N w ω P L f st s.heap→VRel C.N w v a →
  (∀st',V st'→ ∀w' ω' m' h' tk,w.Ext w'→Fm C.N w' ω' P (L.wm m') f st' h'→Q () {s with heap:=h',toks:=tk})→wpAny (model C.prog C.wd) A (t a (bv q f.sc L fa cd)) Q E s
end
noncomputable abbrev J1(v:MV)(sh:Sto)(k:St→Ds→R)(V:St→Prop):Prop:=∀st' ds',am (k st' ds') v sh→rl st'.sh≤rl sh∧V st'
theorem ms{ex:Expr}(h:lr ex=true){t:Option Expr}{l:Nat}{env:Env}:swapsWith ex t l env=pure false:=by
 cases ex with
 |ListComp _ _ _ _=>exact aB h
 |SetComp _ _ _ _=>exact aB h
 |DictComp _ _ _ _ _=>exact aB h
 |_=>rfl
theorem uE{ts:List Expr}{ex:Expr}(h:lr ex=true){l:Nat}{env:Env}:swapsWithSole ts ex l env=pure false:=by
 unfold swapsWithSole;split
 ·exact ms h
 ·rfl
theorem oJ{ts:List Expr}{ex:Expr}(h:Ad ts ex=true){env:Env}:swappedStores ts ex env=pure none:=by
 have h2:=nf (aa h);cases ts with
 |nil=>rfl
 |cons t r=>
  have h3:(lu t&&lu ex)=false:=h2;cases r with
  |cons _ _=>cases t<;>rfl
  |nil=>cases t with
   |Tuple _ _ _=>cases ex with
    |Tuple _ _ _=>exact aB h3.symm
    |_=>rfl
   |List _ _=>cases ex with
    |Tuple _ _ _=>exact aB h3.symm
    |_=>rfl
   |_=>rfl
section
variable {C:Cx}{Φ:ku}{n:Nat}{f:Fc}{w:Wd}{ω:Nat→Option Addr}{P:PMap}{L:FL}{fa:Option Addr×Option Addr}{st:St}{A:Around}{E:Value→Shared→Prop}{s:Shared}{q:Str}{cd:Value}
theorem Aj{op:Bop}{v x r:MV}{a b:Value}{Q:Value→Shared→Prop}(h:VRel C.N w v a)(h':VRel C.N w x b)(hk:(t7 op v x&&eE op v x)=true)(e:ix op v x=some r)
  (k:vA C.N w s r Q):wpAny (model C.prog C.wd) A (inplaceOp (nq op) a b) Q E s:=by
 have h2:=aa hk;have h1:=ab hk;cases op with
 |add=>
  refine pP e (λe=>?_) λe=>pP e (λe=>?_) λe=>ad e λvs e1 e=>?_
  ·have H:=lm h h' e
   clear h h' e;cases H with | mk i j t u=>exact PySem.P.iadd_int (k _ _ (.int _ _))
  ·have H:=lp h h' e
   clear h h' e;cases H with | mk i j t u _ _=>
   have k1:=bf (h2:aS _ _=true);refine SB.iadd (λt' tk=>?_) (by rw[az,az];exact k1)
   rw[eo];exact k _ _ (.str _ (by rw[a7];exact k1))
  ·rw[bT e1] at h1;exact aB h1
 |sub=>
  have H:=lm h h' e;clear h h' e;cases H with | mk i j t u=>exact PySem.P.isub_int (k _ _ (.int _ _))
 |_=>exact aB h1
theorem DE{fo:FcOk f}:((bv q f.sc L fa cd).scope.kind== .class||((bv q f.sc L fa cd).scope.kind== .module&&(bv q f.sc L fa cd).locals != mainGlobals))=false:=by
 show (f.sc.kind== .class||(f.sc.kind== .module&&L.a != mainGlobals))=false;rw[fo.kind];rfl
theorem qo(fo:FcOk f){i:Nat}{x:Str}{v:MV}{a:Value}(hx:f.nms[i]?=some x)(hl:f.sc.names.lookup x=some .local)(F:Fm C.N w ω P L f st s.heap)(V:VRel C.N w v a){Q:Unit→Shared→Prop}
  (k:∀ω' m' h' tk,Fm C.N w ω' P (L.wm m') f (aJ st i v) h'→Q () {s with heap:=h',toks:=tk}):wpAny (model C.prog C.wd) A (storeName (bv q f.sc L fa cd) x a) Q E s:=
 wpAny_storeName_local (env:=bv q f.sc L fa cd) hl F.ns (λh' hns hs=>k _ _ h' _ (F.store fo.nd hx hl V hs hns)) (DE (fo:=fo))
theorem mt(fo:FcOk f){i:Nat}{x:Str}{v:MV}{a:Value}(hx:f.nms[i]?=some x)(hl:f.sc.names.lookup x=some .local)(F:Fm C.N w ω P L f st s.heap)(V:VRel C.N w v a){Q:Unit→Shared→Prop}
  (k:∀ω' m' h' tk,Fm C.N w ω' P (L.wm m') f (aJ st i v) h'→Q () {s with heap:=h',toks:=tk}):wpAny (model C.prog C.wd) A (bindName (bv q f.sc L fa cd) x a) Q E s:=by
 unfold bindName;exact aM (jb (wpAny_point (aM (qo fo hx hl F V λω' m' h' tk F'=>wpAny_point (k ω' m' h' tk F')))))
noncomputable def J2(st:St)(is:List Nat)(vs:List MV):St:=(is.zip vs).foldl (λst iv=>aJ st iv.1 iv.2) st
noncomputable def rJ(f:Fc)(is:List Nat)(ts:List Expr):List Expr:=is.zipWith (λi x=>.Name (aL f i) x.pos) ts
theorem wl{is:List Nat}{env:Env}:∀{ts:List Expr},is.length=ts.length→(assignEach (rJ f is ts) env).length=is.length∧(assignEach (rJ f is ts) env).findIdx? (·.1)=none:=by
 induction is with
 |nil=>exact λ_=>⟨rfl,rfl⟩
 |cons i is ih=>
  intro ts h;cases ts with
  |nil=>exact absurd h (Nat.succ_ne_zero _)
  |cons t ts=>
   obtain⟨h1,h2⟩:=ih (Nat.succ.inj h);refine⟨bJ (· + 1) h1,?_⟩
   show List.findIdx? _ ((false,_)::assignEach (rJ f is ts) env)=none;rw[List.findIdx?_cons];show (if false=true then _ else _)=_;rw[bL Bool.false_ne_true,h2];rfl
theorem uF(fo:FcOk f){is:List Nat}:∀{ts:List Expr} {vs:List MV} {vals:List Value} {st:St} {s:Shared} {ω:Nat→Option Addr} {L:FL} {Q:Unit→Shared→Prop},is.all (gw f)=true→is.length=ts.length→vs.length=is.length→Fm C.N w ω P L f st s.heap→VRels C.N w vs vals →
  (∀ω' m' h' tk,Fm C.N w ω' P (L.wm m') f (J2 st is vs) h'→Q () {s with heap:=h',toks:=tk})→wpAny (model C.prog C.wd) A (assignInOrder ((assignEach (rJ f is ts) (bv q f.sc L fa cd)).map (·.2)) vals) Q E s:=by
 induction is with
 |nil=>
  intro ts vs vals st s ω L Q _ _ hlen F V k;obtain rfl:=xT hlen;obtain rfl:=V;exact fj (k ω _ s.heap s.toks F)
 |cons i is ih=>
  intro ts vs vals st s ω L Q ha ht hlen F V k;have ha:=List.all_cons.symm.trans ha;cases ts with
  |nil=>exact absurd ht (Nat.succ_ne_zero _)
  |cons t ts=>cases vs with
   |nil=>exact absurd hlen.symm (Nat.succ_ne_zero _)
   |cons v vs=>
    obtain⟨a,r,rfl,V,r'⟩:=V.cons_inv;show wpAny _ _ (holding _ (assign _ _ _)>>=_) _ _ _;refine aM (jb ?_);show wpAny _ _ (assign (.Name _ _) _ _) _ _ _;rw[arm_assign_Name];exact aM (jP (mt fo (dz (ab ha)) (bR (ab ha)) F V λω' m' h' tk F'=>ih (s:={s with heap:=h',toks:=tk}) (L:=(L.wm m')) (aa ha) (Nat.succ.inj ht) (Nat.succ.inj hlen) F' r' λω2 m2 h2 tk2 F2=>k ω2 m2 h2 tk2 F2))
theorem mu{N:Nm}{nms:Fc}{h:Heap}(F:Fm N w ω P L nms st h){i:Nat}{x:Str}{vs:List MV}(hx:nms.nms[i]?=some x)(hv:je st i=some vs):∃a,L.val x=some (.ref a)∧OwnR N w h (ω i) vs (some (.ref a)):=by
 refine ad hv λc h1 h2=>?_;have:=F.vs i x c hx ((bG _ _).symm.trans h1);cases c with
 |own us=>
  have this:OwnR N w h (ω i) us (L.val x):=this
  generalize hmx:L.val x=o at this;rw[ay h2] at this;cases this with | mk hl ha ho r=>exact⟨_,rfl,hl,ha,ho,r⟩
 |_=>exact aG h2
end
open PySem PySem.W PyProof.Rows PySem.Calls PySem.Builtin
theorem ng:seqSlot? (.type "list") (dunderI "add")=pure (some (.builtin "list.__iadd__")):=PySem.seqSlot_of PySem.F.slot_list_iadd.lookup (by decide +kernel)
theorem kR:fillsInplaceSlot (.type "list") "add" (Operator.Add== .Add)=pure false:=by
 unfold fillsInplaceSlot;show (typeLookup (.type "list") (dunderI "add")>>=λfi=>pure (fi.isSome&& !isSeqSlot fi))=pure false;rw[PySem.F.slot_list_iadd.lookup];show (pure (_&& !isSeqSlot _):Sem Bool)=_;rw[show isSeqSlot (some (.builtin "list.__iadd__"))=true by decide +kernel];rfl
theorem Fm.sameNs{N:Nm}{w:Wd}{ω:Nat→Option Addr}{P:PMap}{L:FL}{nms:Fc}{st:St}{h h':Heap}(F:Fm N w ω P L nms st h)(hs:Heap.SameBut L.a h h')(hn:h'.Ns L.a L.m):Fm N w ω P L nms st h':=by
 have k:∀b,b≠L.a→h'.get? b=h.get? b:=hs.2;refine⟨F.sh.other hs F.LG F.LP λl b e=>F.Lρ l b e,F.LG,F.LP,F.Lρ,hn,λj y c e1 e2=>(F.vs j y c e1 e2).mono (.refl w) λb o e3 e4=>(k b (F.ωG j b e3).2.2.2).trans e4,F.ωG,F.ωi,λj b e=>?_,F.cel,F.clk⟩;rw[k b (F.ωG j b e).2.2.2];exact F.ωo j b e
theorem rK(l b:Addr)(items items2:Array Value)(n n2:Nat)(dd2:Option Addr)(sl2:Array (Option Value))(hs0:items.size+items2.size≤sizeLine) :
  Meets (Builtin.«list.__iadd__» ⟨[.ref l,.ref b],[]⟩) (λ_ R s=>s.heap.get? l=some {cls:=.type "list",dict:=none,data:=.seq items n,slots:=#[]}∧s.heap.get? b=some {cls:=.type "list",dict:=dd2,data:=.seq items2 n2,slots:=sl2}∧R (.ok (.ret (Value.ref l))) {s with heap:=s.heap.update l (Obj.mapSeq λx=>x++items2),toks:=s.toks}):=
 .of_wp λprog w A R s h=>by
  obtain⟨hl,hb,h⟩:=h;show wpAny _ A.in1 (Builtin.List.listExtendWith (.ref l) (.ref b) (.ref l)) _ _ s;unfold Builtin.List.listExtendWith;refine aM (wpAny_typeOf (T:="list") ⟨_,hb,rfl⟩ ?_);have ht:(Value.type "list" == Value.type "list")=true:=by rfl
  rw[cw (by rw[ht];simp)]
  refine aM (listItems_at hb rfl ?_);refine aM (listItems_at hl rfl ?_)
  rw[bL (by
   intro z
   have:Builtin.List.listTooLong (items.size+items2.size)=false:=by
    unfold Builtin.List.listTooLong;simp only [decide_eq_false_iff_not];omega
   rw[this,Bool.and_false] at z;cases z)]
  refine aM (listUpdate_at hl rfl ?_ (by omega) (by rw[Array.size_append];omega))
  exact fj ⟨_,rfl,h⟩
theorem rM{M:Program}{W:World}{A:Around}{E:Value→Shared→Prop}{s:Shared}{l b:Addr}{vs ws:List Value}{n:Nat}{Q:Value→Shared→Prop}(hl:s.heap.get? l=some (listOf vs.toArray n))(hb:s.heap.IsList b ws.toArray)
  (h:∀h' k,Heap.SameBut l s.heap h'→h'.get? l=some (listOf (vs++ws).toArray k)→Q (.ref l) {s with heap:=h'}) (hsz:vs.length+ws.length≤sizeLine) :
  wpAny (model M W) A (inplaceOp .Add (.ref l) (.ref b)) Q E s:=by
 obtain⟨⟨cls2,dd2,data2,sl2⟩,ho2,hc2,n2,hd2⟩:=id hb;simp only at hc2 hd2;subst hc2 hd2;have hT:s.TypeIs (.ref l) "list":=⟨_,hl,rfl⟩;unfold inplaceOp;refine jb ?_;refine aM (wpAny_typeOf hT (aM (wpAny_of_eq kR ?_)));show wpAny _ A (if false=true then _ else _) Q E s;rw[bL Bool.false_ne_true];refine aM (wpAny_binaryOp1_none (nm:="add") hT ⟨_,ho2,rfl⟩ noFill_list_add ?_);refine aM (wpAny_of_eq ng ?_);refine aM (wpAny_rule ?_);refine call_meets PySem.F.slot_list_iadd hT PySem.F.entry_list_iadd (PySem.F.args_list_iadd_2 _ _) (rK l b vs.toArray ws.toArray n n2 dd2 sl2 (by simpa using hsz)) ⟨hl,ho2,?_⟩
 refine h _ (if ((vs.toArray++ws.toArray).size==vs.toArray.size)=true then n else n+1) (Heap.SameBut.update ..) ?_;rw[Heap.get?_update_self (Obj.mapSeq λx=>x++ws.toArray) hl rfl];simp [Obj.mapSeq]
section
variable {C:Cx}{Ψ:Psi}{n:Nat}{f:Fc}{v:MV}{sh:Sto}(D:Snd C Ψ.phi n)(fo:FcOk f)(G:RgOk C)(hr:rl sh≤ak)
include D fo G hr
theorem mw{t:MT}{tx:Expr}(ok:DC C f t tx=true){u:MV}{st:St}{k:St→Ds→R}{ds:Ds}{V:St→Prop}(h:am (dD C.N.T Ψ u t st k ds) v sh)(K:J1 v sh k V):rl st.sh≤rl sh∧Xt C n f (λa env=>assign (uT C f t tx) env a) u st V:=by
 cases t with
 |v i=>
  refine⟨(K _ ds h).1,λA E s w ω P L fa q cd a Q hA F Vu go=>?_⟩;show wpAny _ _ (assign (.Name _ _) _ _) _ _ _;rw[arm_assign_Name];exact aM (jP (mt fo (dz ok) (bR ok) F Vu λω' m' h' tk F'=>go _ (K _ ds h).2 _ ω' m' h' tk (.refl _) F'))
 |«at» e b=>
  have r:=bM D fo G hr e (aA tx) (ab ok) (V:=λo s1=>∃sh',rc C.N.T s1.sh o b u=some sh'∧V {s1 with sh:=sh'}) h λo s1 d1 h=>dY h λsh' e h=>⟨iE (nu e) (K _ d1 h).1,sh',e,(K _ d1 h).2⟩
  refine⟨r.1,λA E s w ω P L fa q cd a Q hA F Vu go=>?_⟩;show wpAny _ _ (assign (.Attribute _ _ _) _ _) _ _ _;rw[arm_assign_Attribute];exact aM (jb (r.2 hA F λo s1 H w1 ω1 h1 tk1 oa x1 F1 V1=>H.elim λsh' H=>aM (jP (aM (jb (sR D.O F1 V1 (Vu.mono x1) H.1 (dy (aa ok)) λh2 tk2 F2=>wpAny_release (go _ H.2 w1 ω1 _ h2 tk2 x1 F2)))))))
 |tup is=>
  refine dY h λst' e h=>⟨?_,λA E s w ω P L fa q cd a Q hA F Vu go=>?_⟩
  ·refine ad e λvs h1 e=>?_
   have e:=(mZ e).2
   have:∀(l:List (Nat×MV)) (st:St),(l.foldl (λst iv=>aJ st iv.1 iv.2) st).sh=st.sh:=λl=>by
    induction l with
    |nil=>exact λ_=>rfl
    |cons _ _ ih=>exact λst=>ih _
   have q:=(K _ ds h).1;rw[← ay e,this] at q;exact q
  ·refine ad e λvs h1 e=>?_
   obtain⟨hl,e⟩:=mZ e;have hl:=eq_of_beq hl;obtain⟨hq,hc,hd,hrr,hn⟩:=oo F.sh (ji h1▸Vu);have ht:=jO (aa ok);obtain⟨h1,h2⟩:=wl (f:=f) (env:=bv q f.sc L fa cd) ht;show wpAny _ _ (assign (.Tuple (rJ f is (cP tx)) _ _) _ _) _ _ _;refine assign_Tuple_tuple hA.hand ⟨_,hq,hc,_,hd⟩ (by rw[h1,nk,← hrr.length_eq,hl]) h2 λh' hs=>?_
   have F':=F.keeps (h':=h') λb o e=>hs b o (λz=>by rw[z,Heap.get?_none_of_le (cz _)] at e;exact aG e) e
   exact uF fo (s:={s with heap:=h'}) (ab ok) ht hl F' hrr λω2 m2 h2 tk2 F2=>go _ ((ay e:J2 st is vs=st')▸(K _ ds h).2) w ω2 m2 h2 tk2 (.refl w) F2
theorem s7{t:MT}{tx:Expr}{rx:List Expr}{env:Env}:assignEach (uT C f t tx::rx) env=(false,assign (uT C f t tx) env)::assignEach rx env:=by cases t<;>rfl
theorem qp:∀(ts:List MT) (txs:List Expr),Bm C f ts txs=true→ ∀⦃u:MV⦄ ⦃st:St⦄ ⦃k:St→Ds→R⦄ ⦃ds:Ds⦄ ⦃V:St→Prop⦄,am (hY C.N.T Ψ u ts st k ds) v sh→J1 v sh k V →
  rl st.sh≤rl sh∧Xt C n f (λa env=>assignAll a ((assignEach (oy C f ts txs) env).map (·.2))) u st V
 |[],_,_=>λu st k ds V h K=>⟨(K _ ds h).1,λA E s w ω P L fa q cd a Q hA F Vu go=>fj (go _ (K _ ds h).2 w ω _ s.heap s.toks (.refl w) F)⟩
 |[t],txs,ok=>λu st k ds V h K=>by
  have r:=mw D fo G hr (ab ok) h K;refine⟨r.1,λA E s w ω P L fa q cd a Q hA F Vu go=>?_⟩;show wpAny _ _ (assignAll a ((assignEach [uT C f t _] _).map _)) _ _ _;rw[s7 D fo G hr];exact r.2 hA F Vu go
 |t::t'::r,txs,ok=>λu st k ds V h K=>by
  have h':am (dD C.N.T Ψ u t st (λst=>hY C.N.T Ψ u (t'::r) st k) ds) v sh:=h;have rr:=mw D fo G hr (ab ok) (V:=λs1=>Xt C n f (λa env=>assignAll a ((assignEach (oy C f (t'::r) (fc txs)) env).map (·.2))) u s1 V) h' λs1 d1 h=>qp (t'::r) (fc txs) (aa ok) h K
  refine⟨rr.1,λA E s w ω P L fa q cd a Q hA F Vu go=>?_⟩;show wpAny _ _ (assignAll a ((assignEach (uT C f t _::uT C f t' _::oy C f r _) _).map _)) _ _ _;rw[s7 D fo G hr,s7 D fo G hr];show wpAny _ _ (holding _ _>>=_) _ _ _;refine aM (jb (rr.2 hA F Vu λs1 H w1 ω1 m1 h1 tk1 x1 F1=>?_));show wpAny _ _ (assignAll a (((false,assign (uT C f t' (dR (fc txs))) (bv q f.sc L fa cd))::assignEach (oy C f r (fc (fc txs))) (bv q f.sc L fa cd)).map (·.2))) _ _ _
  rw[← s7 D fo G hr];exact H (L:=(L.wm m1)) hA F1 (Vu.mono x1) λst' H w2 ω2 m2 h2 tk2 x2 F2=>go st' H w2 ω2 m2 h2 tk2 (x1.trans x2) F2
end
open PySem PySem.W PyProof.Rows PySem.Calls PySem.Builtin
theorem Fm.storeNew{N:Nm}{w:Wd}{ω:Nat→Option Addr}{P:PMap}{L:FL}{nms:Fc}{st:St}{h h':Heap}(F:Fm N w ω P L nms st h)(hnd:nms.nms.Nodup){i:Nat}{x:Str}{v:MV}{D:Addr}{o:Obj}(hx:nms.nms[i]?=some x)(hcl:nms.sc.names.lookup x=some .local)
  (hk:∀b o,b≠L.a→h.get? b=some o→h'.get? b=some o) (hD:h.get? D=none) (ho:h'.get? D=some o) (hV:VRel N (w.add D o) v (.ref D)) (hn:h'.Ns L.a (om L.m x (.ref D))) :
  w.Ext (w.add D o)∧Fm N (w.add D o) (i9 ω i none) P (L.wm (om L.m x (.ref D))) nms (aJ st i v) h':=by
 have S:=F.sh;obtain⟨g1,g2,g3⟩:=S.fresh hD;have xx:w.Ext (w.add D o):=Wd.add_ext g1;have gne:∀b,b≠D→(w.add D o).G b=w.G b:=λb q=>bL q;have hDs:∀b,(h.get? b).isSome=true→b≠D:=λb hb z=>by rw[z,hD] at hb;exact aB hb
 have hL:(h.get? L.a).isSome=true:=let ⟨o,h⟩:=F.Lsome;by rw[h];rfl
 have S1:Sh N w P st.sh h':=⟨S.base,λa o e=>hk _ _ (λz=>by rw[z,F.LG] at e;exact aG e) (S.frz a o e),λa o e=>hk _ _ (λz=>by rw[z,F.LP] at e;exact aG e) (S.prot a o e),S.dis,S.dom,S.inj,S.sepG,S.sepP,λl a e=>let ⟨o,h1,h2⟩:=S.cont l a e;⟨o,hk _ _ (F.Lρ _ _ e) h1,h2⟩⟩
 have cs:∀{j b},i9 ω i none j=some b→j≠i∧ω j=some b:=λ{j b} e=>by
  unfold i9 at e;by_cases q:j=i
  ·rw[cw q] at e;exact aG e
  ·rw[bL q] at e;exact⟨q,e⟩
 refine⟨xx,S1.add ho g1 g2 g3,(gne _ (hDs _ hL)).trans F.LG,F.LP,F.Lρ,hn,λj y c e1 e2=>?_,λj b e=>?_,λj j' b e e'=>F.ωi j j' b (cs e).2 (cs e').2,λj b e=>?_,F.cel.mono xx.G,F.clk⟩
 ·show CRel N _ h' (i9 ω i none j) c (bif (L.cl.lookup y).isSome then L.cv y else om L.m x (.ref D) y)
  unfold i9 om;rcases fU e2 with ⟨q,rfl⟩ | ⟨q,e2⟩
  ·subst q
   rw[F.clk _ _ e1,hZ (ay (hx.symm.trans e1)▸hcl),cond_false];rw[hx] at e1;rw[cw (ay e1).symm];exact⟨_,rfl,hV⟩
  ·have ne:¬y=x:=λz=>q (h9 hnd hx (z▸e1))
   rw[bL ne,bL (Ne.symm q)];exact((F.vs j y c e1 e2:CRel N w h (ω j) c (bif (L.cl.lookup y).isSome then L.cv y else L.m y))).mono xx λb o e3 e4=>hk b _ (F.ωG j b e3).2.2.2 e4
 ·obtain⟨_,e⟩:=cs e
  exact⟨(gne b (hDs b (F.ωo j b e))).trans (F.ωG j b e).1,(F.ωG j b e).2⟩
 ·obtain⟨_,e⟩:=cs e
  obtain⟨o',ho'⟩:=qez.mp (F.ωo j b e);rw[hk b _ (F.ωG j b e).2.2.2 ho'];rfl
section
variable {C:Cx}{Φ:ku}{n:Nat}{f:Fc}(fo:FcOk f)
include fo
theorem BB{i:Nat}{p p2 pos:Pos}{es:MEs}{ts:List Expr}{st:St}{V:Option MV→St→Prop}(hi:gw f i=true)(ok:kQ C f es ts=true)(hn:oz (ug es) 1000=true)
  (r:Xp C n f (VRn C.N (ug es)) (λenv=>spliced ((fW C f es ts).map λex=>(false,eval ex env))) st λvs s1=>V none {s1 with vars:=eg s1.vars i (.own vs)}):Xs C n f (exec (.Assign [.Name (aL f i) p] (.List (fW C f es ts) p2) pos)) st V:=λA E s w ω P L fa q cd Q hA F go=>by
 refine wpAny_Assign_stores ?_ rfl rfl;rw[arm_eval_List,dA ok];refine aM (jP (aM (r hA F λvs s1 H w1 ω1 h1 tk1 as x1 F1 V1=>?_)));have hlim:=V1.le hn;refine wpAny_newList (s:={s with heap:=h1,toks:=tk1}) ?_ (by rw[ar];exact hlim)
 have Z:Lone w1 ω1 P L h1.objs.size:=F1.lone (Heap.get?_none_of_le (cz _));have F2:=F1.keeps (h':=h1.push (listOf as.toArray 0)) λb o e=>Heap.get?_push_of_some _ e;show wpAny _ _ (assign (.Name _ p) _ _) _ _ _;rw[arm_assign_Name];refine aM (jP ?_);unfold bindName;refine aM (jb (wpAny_point (aM ?_)));exact wpAny_storeName_local (env:=bv q f.sc L fa cd) (bR hi) F2.ns (λh' hns hs=>wpAny_point (go _ _ H _ _ _ h' _ _ x1 (F2.storeOwn fo.nd (dz hi) (bR hi) V1.1 hlim (Heap.get?_push_size _ rfl) ⟨Z.G,Z.P,Z.ρ,Ne.symm Z.L⟩ (λj e=>Z.ω j _ e rfl) hs hns) rfl)) (DE (fo:=fo))
theorem Ef{i:Nat}{p p2 p3 pos:Pos}{e:ME}{t:Expr}{st:St}{V:Option MV→St→Prop}(hi:jq f i=true)(ok:okE C f e t=true)(hline:(p2.endLine==p3.line)=true){us:List MV}(hus:je st i=some us)
  (r:Xv C n f (eval (bw C f e t)) st λu s1=>∃s2,dm s1 i u=some s2∧V none s2):Xs C n f (exec (.Expr (.Call (.Attribute (.Name (aL f i) p) "append" p2) [bw C f e t] [] p3) pos)) st V:=λA E s w ω P L fa q cd Q hA F go=>by
 have hx:=dz (ab hi);obtain⟨a0,b2,ho⟩:=mu F hx hus;have hp:=ce (aa hi);refine wpAny_Expr_any ?_ (by unfold interactive;show (f.sc.kind== .module&&_)=false;rw[fo.kind];rfl) rfl
 rw[arm_eval_Call];refine aM (ly (C:=C) (f:=f) (e:=.v i) (t:=.Name (aL f i) p) (yE hi) (λz=>by cases z) ?_)
 refine wpAny_Name (gS fo hx (.inl (bR (ab hi))) F b2 (aM (jP ?_))) (v9 (ab (hp:(_&&_)=true)));have ha:backTo p3 (starEach [bw C f e t] (bv q f.sc L fa cd))=[(false,eval (bw C f e t) (bv q f.sc L fa cd))]:=dA (es:=.cons e .nil) (ts:=[t]) (qmz.mpr ⟨ok,rfl⟩);cases ho with | mk hl0 ha0 ho0 hr0=>
 refine fC (show 1<20 by decide) (by rw[ha];rfl) rfl hline λpl=>Calls.getMethod_list_append ho0 rfl rfl ?_
 refine fq (by rw[ha];rfl) rfl ?_
 rw[ha];refine spliced_cons (r hA F λu s1 H w1 ω1 h1 tk1 a x1 F1 V1=>spliced_nil (wpAny_evalAll_nil ⟨oE,?_⟩));obtain⟨s2,H2,H⟩:=H;refine ad H2 λvs h3 H2=>?_;obtain⟨hlen,H2⟩:=eF H2;have hlen:=bf hlen;obtain rfl:=ay H2;obtain⟨a1,c2,ho⟩:=mu F1 hx h3;obtain rfl:a0=a1:=Value.ref.inj (ay (b2.symm.trans c2));cases ho with | mk c5 c1 c3 c4=>
 rename_i vals m;have hvl:=c4.length_eq;refine append_at (s:={s with heap:=h1,toks:=tk1}) c3 (λh' hs ho'=>?_) (by rw[nk,← hvl,ar];exact Nat.le_of_succ_le hlen)
 exact go _ _ H w1 ω1 L.m h' tk1 _ x1 (F1.setOwn (vals:=vals++[a]) (n:=m+1) c1 (by rw[a7,← hvl];exact hlen) (c4.append (.cons V1 .nil)) hs (by rw[ho'];simp) λy hy=>by rw[← ay (hx.symm.trans hy)];exact b2) rfl
theorem BC{i:Nat}{p pos:Pos}{ex:Expr}{st:St}{V:Option MV→St→Prop}(hi:jq f i=true){us:List MV}(hus:je st i=some us)(r:Xv C n f (eval ex) st λu s1=>∃s2,eA s1 i u=some s2∧V none s2) :
  Xs C n f (exec (.AugAssign (.Name (aL f i) p) .Add ex pos)) st V:=λA E s w ω P L fa q cd Q hA F go=>by
 have hx:=dz (ab hi);have hl:=bR (ab hi);obtain⟨a0,b2,_⟩:=mu F hx hus;refine wpAny_AugAssign_Name (gS fo hx (.inl hl) F b2 (r hA F λu s1 H w1 ω1 h1 tk1 va x1 F1 V1=>?_));obtain⟨s2,H2,H⟩:=H;refine ad H2 λws h4 H2=>ad H2 λvs h3 H2=>?_;obtain⟨hlen,H2⟩:=eF H2;have hlen:=bf hlen;obtain rfl:=ay H2;obtain⟨a1,c2,ho⟩:=mu F1 hx h3;obtain rfl:a0=a1:=Value.ref.inj (ay (b2.symm.trans c2));cases ho with | mk c5 c1 c3 c4=>
 cases fV (s:={s with heap:=h1,toks:=tk1}) F1.sh (bT h4▸V1) with | mk hl2 hr2 hn2=>
 rename_i vals m q2 vals2;have e1:=c4.length_eq;have e2:=hr2.length_eq;refine rM (s:={s with heap:=h1,toks:=tk1}) c3 hl2 (λh' k' hs ho'=>?_) (by rw[ar,← e1,← e2];exact hlen)
 have F2:=F1.setOwn (vals:=vals++vals2) (n:=k') c1 (by rw[a7,← e1,← e2];exact hlen) (c4.append hr2) hs ho' λy hy=>by rw[← ay (hx.symm.trans hy)];exact b2
 refine wpAny_storeName_local (env:=bv q f.sc L fa cd) (s:={s with heap:=h',toks:=tk1}) hl F2.ns (λh2' hns hs2=>?_) (DE (fo:=fo))
 have hm:(λy=>if y=aL f i then some (Value.ref a0) else L.m y)=L.m:=funext λy=>by
  by_cases hy:y=aL f i
  ·rw[cw hy,hy,← F.val_loc hx hl,b2]
  ·rw[bL hy]
 rw[hm] at hns;exact go _ _ H w1 ω1 L.m h2' (tk1+1) _ x1 (F2.sameNs hs2 hns) rfl
theorem BD{i:Nat}{m:Int}{e:ME}{t:Expr}{x:Str}{p p1 p2 p3 p4:Pos}{k:Nat}{sc:Scope}{cpos pos:Pos}{st:St}{V:Option MV→St→Prop}(hi:gw f i=true)(ok:okE C f e t=true)(hd:e≠ .dead)(hm:0<m)(hsc:sc.kind=ScopeKind.function)(hn:sc.names=[((".0":Str),NameKind.local),(x,NameKind.local)])
  (hx:(x==(".0":Str))=false) (hp:bY x=true) (hsw:(p.line==cpos.line&& !(sc.names.any λq=>q.1==aL f i&&(q.2== .local||q.2== .cell)))=true)
  (r:Xv C n f (eval (bw C f e t)) st λa s1=>∃vs ws,a= .lst vs∧vs.length≤ak∧bp m vs=some ws∧V none (aJ s1 i (.lst ws))) :
  Xs C n f (exec (.Assign [.Name (aL f i) p] (.ListComp (.BinOp (.Name x p1) .Mod (.Constant (.int m) k p2) p3) [⟨.Name x p4,bw C f e t,[],0⟩] sc cpos) pos)) st V:=λA E s w ω P L fa q cd Q hA F go=>by
 have hy:=dz hi;have hl:=bR hi;refine wpAny_Assign_ListComp_free (λ_=>true) (we m) ?_ (mq hn) (iP hn) hsc (ka hn hx) (cS hn hx) hl (DE (fo:=fo)) ?_ (λv=>dO ok hd)
 ·show (pure _:Sem Bool)=pure true
  congr 1
  have:(bv q f.sc L fa cd).blockKind= .function:=by show (if f.sc.kind.isAnnotationScope then _ else f.sc.kind)=_;rw[fo.kind];rfl
  rw[this];have hlk:(bv q f.sc L fa cd).kindOf (aL f i)=some .local:=hl;rw[hlk,qmz,qmz];exact⟨⟨rfl,ab hsw⟩,aa hsw⟩
 refine r hA F λa s1 H w1 ω1 h1' tk1 a x1 F1 V1=>?_;obtain⟨vs,ws,rfl,hlim,hc,H⟩:=H;cases oG (s:={s with heap:=h1',toks:=tk1}) F1.sh V1 hc hlim with | mk hat c1 c2 hrel hlen h2 hlen2=>
 clear V1;rename_i qa o vals us kk;have hat:h1'.get? qa=some o:=hat;refine wpAny_pyIter_list ⟨_,hat,c1,_,c2⟩ ?_;have hne:qa≠h1'.objs.size:=λz=>by rw[z,Heap.get?_none_of_le (cz _)] at hat;exact aG hat
 have F1':=F1.keeps (h':=h1'.push {cls:=.type "list_iterator",data:=.fields #[.ref qa,.int 0 0]}) λb o e=>Heap.get?_push_of_some _ e;obtain⟨oL,hL⟩:=F1.Lsome;refine⟨h1'.objs.size,_,_,vals.toArray.size,_,_,L.m,rfl,Walks.list hA.hand h1'.objs.size qa hne vals.toArray,by rw[nk,ar];exact hlen,⟨⟨_,Heap.get?_push_size _ rfl,rfl,rfl⟩,⟨_,Heap.get?_push_of_some _ hat,c1,_,c2⟩⟩,?_,?_,F1'.ns,?_,?_⟩
 ·intro b hb
  refine Nat.lt_of_lt_of_eq ?_ (Heap.size_push _ _).symm;rcases qkz.mp hb with z | hb
  ·rw[z];exact Nat.lt_succ_self _
  ·rw[qfz.mp hb];exact Nat.lt_succ_of_lt (Heap.lt_size hat)
 ·intro z
  have:L.a=h1'.objs.size:=qfz.mp z;rw[this,Heap.get?_none_of_le (cz _)] at hL;exact aG hL
 ·exact kb hm (λi v hv=>j8 hrel h2 i v (by simpa using hv)) hsc hp (cS hn hx)
 ·intro Dd h' tk ys us hD hl hpl hulen hus hpair hns hkeep
  obtain rfl:us=vals:=mo (by simpa using hulen) λj v hv=>by simpa using hus j v hv
  rw[List.filter_eq_self.mpr (λ_ _=>rfl)] at hpair
  have hk:∀b o,b≠L.a→h1'.get? b=some o→h'.get? b=some o:=λb o hb e=>hkeep b o hb (λz=>by
   rw[qfz.mp z,Heap.get?_none_of_le (cz _)] at e;exact aG e) (Heap.get?_push_of_some _ e)
  have hDn:h1'.get? Dd=none:=by
   cases z:h1'.get? Dd with
   |none=>rfl
   |some o=>rw[Heap.get?_push_of_some _ z] at hD;cases hD
  obtain⟨nD,hat2⟩:=hpl;have hV:VRels C.N (w1.add Dd {cls:=.type "list",data:=.seq ys nD}) ws ys.toList:=ml hrel h2 hpair;obtain⟨x2,F2⟩:=F1.storeNew (h':=h') fo.nd hy (bR hi) hk hDn hat2 (.lst (vals:=ys.toList) Wd.add_at ⟨by rw[← hV.length_eq,mn hc];exact hlim,rfl,nD,by simp⟩ hV) hns
  exact go none _ H _ _ _ h' tk _ (x1.trans x2) F2 rfl
end
open PySem PySem.W PyProof.Rows PySem.Calls PySem.Builtin
section
variable {N:Nm}{w:Wd}{ω:Nat→Option Addr}{P:PMap}{L:FL}{nms:Fc}{st st':St}{h h':Heap}
theorem Fm.putU(F:Fm N w ω P L nms st h)(hnd:nms.nms.Nodup){i:Nat}{x:Str}{a:Value}(hx:nms.nms[i]?=some x)
  (hk:∀b o,b≠L.a→h.get? b=some o→h'.get? b=some o) (hn:h'.Ns L.a (om L.m x a)) :
  Fm N w (i9 ω i none) P (L.wm (om L.m x a)) nms {st with vars:=eg st.vars i .unset} h':=by
 have S:=F.sh;have S1:Sh N w P st.sh h':=⟨S.base,λa o e=>hk _ _ (λz=>by rw[z,F.LG] at e;exact aG e) (S.frz a o e),λa o e=>hk _ _ (λz=>by rw[z,F.LP] at e;exact aG e) (S.prot a o e),S.dis,S.dom,S.inj,S.sepG,S.sepP,λl a e=>let ⟨o,h1,h2⟩:=S.cont l a e;⟨o,hk _ _ (F.Lρ _ _ e) h1,h2⟩⟩
 have cs:∀{j b},i9 ω i none j=some b→j≠i∧ω j=some b:=λ{j b} e=>by
  unfold i9 at e;by_cases q:j=i
  ·rw[cw q] at e;exact aG e
  ·rw[bL q] at e;exact⟨q,e⟩
 refine⟨S1,F.LG,F.LP,F.Lρ,hn,λj y c e1 e2=>?_,λj b e=>F.ωG j b (cs e).2,λj j' b e e'=>F.ωi j j' b (cs e).2 (cs e').2,λj b e=>?_,F.cel,F.clk⟩
 ·show CRel N _ h' (i9 ω i none j) c (bif (L.cl.lookup y).isSome then L.cv y else om L.m x a y)
  unfold i9 om;rcases fU e2 with ⟨q,rfl⟩ | ⟨q,e2⟩
  ·exact trivial
  ·have ne:¬y=x:=λz=>q (h9 hnd hx (z▸e1))
   rw[bL ne,bL (Ne.symm q)];exact((F.vs j y c e1 e2:CRel N w h (ω j) c (bif (L.cl.lookup y).isSome then L.cv y else L.m y))).mono (.refl w) λb o e3 e4=>hk b _ (F.ωG j b e3).2.2.2 e4
 ·obtain⟨_,e⟩:=cs e
  obtain⟨o',ho'⟩:=qez.mp (F.ωo j b e);rw[hk b _ (F.ωG j b e).2.2.2 ho'];rfl
theorem Fm.setVal(F:Fm N w ω P L nms st h)(hnd:nms.nms.Nodup){i:Nat}{x:Str}{a:Value}{v:MV}(hx:nms.nms[i]?=some x)(hv:L.val x=some a)(V:VRel N w v a):Fm N w ω P L nms (aJ st i v) h:=by
 refine⟨F.sh,F.LG,F.LP,F.Lρ,F.ns,λj y c e1 e2=>?_,F.ωG,F.ωi,F.ωo,F.cel,F.clk⟩;rcases fU e2 with ⟨q,rfl⟩ | ⟨q,e2⟩
 ·subst q
  rw[show y=x from ay (e1.symm.trans hx)];exact⟨a,hv,V⟩
 ·exact F.vs j y c e1 e2
theorem Fm.disown(F:Fm N w ω P L nms st h){i:Nat}{a:Addr}(hi:ω i=some a):Fm N w (i9 ω i none) P L nms {st with vars:=eg st.vars i .unset} h∧Lone w (i9 ω i none) P L a:=by
 have cs:∀{j b},i9 ω i none j=some b→j≠i∧ω j=some b:=λ{j b} e=>by
  unfold i9 at e;by_cases q:j=i
  ·rw[cw q] at e;exact aG e
  ·rw[bL q] at e;exact⟨q,e⟩
 obtain⟨g1,g2,g3,g4⟩:=F.ωG i a hi;refine⟨⟨F.sh,F.LG,F.LP,F.Lρ,F.ns,λj y c e1 e2=>?_,λj b e=>F.ωG j b (cs e).2,λj j' b e e'=>F.ωi j j' b (cs e).2 (cs e').2,λj b e=>F.ωo j b (cs e).2,F.cel,F.clk⟩,g1,g2,λl b e=>g3 l b e,Ne.symm g4,λj b e z=>(cs e).1 (F.ωi j i a (z▸(cs e).2) hi)⟩;rcases fU e2 with ⟨q,rfl⟩ | ⟨q,e2⟩
 ·exact trivial
 ·unfold i9
  rw[bL (Ne.symm q)];exact F.vs j y c e1 e2
theorem Lone.wm{a:Addr}{m:Str→Option Value}(Z:Lone w ω P L a):Lone w ω P (L.wm m) a:=⟨Z.G,Z.P,Z.ρ,Z.L,Z.ω⟩
theorem Lone.up{a:Addr}{i:Nat}(Z:Lone w ω P L a):Lone w (i9 ω i none) P L a:=⟨Z.G,Z.P,Z.ρ,Z.L,λj b e=>by
 unfold i9 at e;by_cases q:j=i
 ·rw[cw q] at e;exact aG e
 ·rw[bL q] at e;exact Z.ω j b e⟩
theorem Fm.promote(F:Fm N w ω P L nms st h){l:Loc}{a:Addr}{vs:List MV}{vals:List Value}{n:Nat}{v:MV}(Z:Lone w ω P L a)(ho:h.get? a=some (listOf vals.toArray n))(hn:vals.length≤ak)(hr:VRels N w vs vals)(e:bQ st l vs=some (v,st')) :
  w.Ext (w.slot l a)∧Fm N (w.slot l a) ω P L nms st' h∧VRel N (w.slot l a) v (.ref a):=by
 obtain⟨hnone,e⟩:=mZ e;obtain⟨sh',h1,e⟩:=aV e;obtain⟨e1,e2⟩:=Prod.mk.inj e;subst e1 e2;have hl:=nF (cn h1) |> λh=>(h:be l=true);have S:=F.sh;have hal:eK st.sh l=false:=by rw[qi hl,qnz.mp hnone];rfl
 have hρ:w.ρ l=none:=qyz.mp (by rw[S.dom l,hal];decide)
 have x:=mi (a:=a) hρ
 have at_:∀{l' b},(w.slot l a).ρ l'=some b→(l'=l∧b=a)∨(l'≠l∧w.ρ l'=some b):=λ{l' b} q=>by
  change (if l'=l then some a else w.ρ l')=some b at q;by_cases z:l'=l
  ·rw[cw z] at q;exact .inl ⟨z,(ay q).symm⟩
  ·rw[bL z] at q;exact .inr ⟨z,q⟩
 refine⟨x,F.withSh x ⟨S.base,S.frz,S.prot,S.dis,λl'=>?_,λl1 l2 b q1 q2=>?_,λl' b q=>?_,λl' b q=>?_,λl' b q=>?_⟩ rfl (λi b q=>rfl) F.LG (λl' b q=>?_) (λi b q=>⟨(F.ωG i b q).1,λl' c q'=>?_⟩),.loc (cw rfl)⟩
 ·show (if l'=l then some a else w.ρ l').isSome=eK sh' l'
  by_cases z:l'=l
  ·rw[cw z,z];exact(iO hl (cn h1)).symm
  ·rw[bL z,gU h1 z];exact S.dom l'
 ·rcases at_ q1 with ⟨z1,y1⟩ | ⟨z1,y1⟩<;>rcases at_ q2 with ⟨z2,y2⟩ | ⟨z2,y2⟩
  ·rw[z1,z2]
  ·exact absurd y1 (Z.ρ _ _ y2)
  ·exact absurd y2 (Z.ρ _ _ y1)
  ·exact S.inj _ _ _ y1 y2
 ·rcases at_ q with ⟨_,y⟩ | ⟨_,y⟩
  ·rw[y];exact Z.G
  ·exact S.sepG _ _ y
 ·rcases at_ q with ⟨_,y⟩ | ⟨_,y⟩
  ·rw[y];exact Z.P
  ·exact S.sepP _ _ y
 ·rcases at_ q with ⟨z,y⟩ | ⟨z,y⟩
  ·rw[y,z];exact⟨_,ho,f6 (cn h1) hn (hr.mono x)⟩
  ·obtain⟨o,h2,h3⟩:=S.cont _ _ y
   exact⟨o,h2,f4 h1 l' z o (h3.mono x)⟩
 ·rcases at_ q with ⟨_,y⟩ | ⟨_,y⟩
  ·rw[y];exact Z.L.symm
  ·exact F.Lρ _ _ y
 ·rcases at_ q' with ⟨_,y⟩ | ⟨_,y⟩
  ·rw[y];exact(Z.ω i b q).symm
  ·exact(F.ωG i b q).2.2.1 _ _ y
theorem Fm.storeSlot(F:Fm N w ω P L nms st h)(hnd:nms.nms.Nodup){i:Nat}{x:Str}{D:Addr}{l:Loc}{vs:List MV}{vals:List Value}{n:Nat}{v:MV}(hx:nms.nms[i]?=some x)(hcl:nms.sc.names.lookup x=some .local)
  (hk:∀b o,b≠L.a→h.get? b=some o→h'.get? b=some o) (Z:Lone w ω P L D) (ho:h'.get? D=some (listOf vals.toArray n)) (hl:vals.length≤ak) (hr:VRels N w vs vals) (hn:h'.Ns L.a (om L.m x (.ref D))) (e:bQ st l vs=some (v,st')) :
  w.Ext (w.slot l D)∧Fm N (w.slot l D) (i9 ω i none) P (L.wm (om L.m x (.ref D))) nms (aJ st' i v) h':=by
 have F1:=F.putU hnd hx hk hn;obtain⟨hnone,e⟩:=mZ e;obtain⟨sh',h1,e⟩:=aV e;obtain⟨e1,e2⟩:=Prod.mk.inj e
 have e':bQ {st with vars:=eg st.vars i .unset} l vs=some (.loc l,{st with sh:=sh',vars:=eg st.vars i .unset}):=by
  show (bif (ap st.sh l).isNone then _ else none)=_;rw[hnone];show (bP st.sh vs l).map _=_;rw[h1];rfl
 obtain⟨x1,F2,V⟩:=F1.promote (Lone.up (Z.wm)) ho hl hr e'
 have hv:(L.wm (om L.m x (.ref D))).val x=some (.ref D):=by
  rw[F2.val_loc hx hcl];exact cw rfl
 have F3:=F2.setVal hnd hx hv V;refine⟨x1,?_⟩;rw[← e1,← e2]
 have:aJ {st with sh:=sh',vars:=eg st.vars i .unset} i (.loc l)=aJ {st with sh:=sh'} i (.loc l):=by
  show St.mk _ _=St.mk _ _;rw[ei,ei,ei,List.set_set]
 rw[this] at F3;exact F3
end
section
variable {C:Cx}{Φ:ku}{n:Nat}{f:Fc}(fo:FcOk f)
include fo
theorem BE{i:Nat}{l:Loc}{m:Int}{e:ME}{t:Expr}{x:Str}{p p1 p2 p3 p4:Pos}{k:Nat}{sc:Scope}{cpos pos:Pos}{st:St}{V:Option MV→St→Prop}(hi:gw f i=true)(ok:okE C f e t=true)(hd:e≠ .dead)(hm:0<m)(hsc:sc.kind=ScopeKind.function)(hn:sc.names=[((".0":Str),NameKind.local),(x,NameKind.local)])
  (hx:(x==(".0":Str))=false) (hp:bY x=true) (hsw:(p.line==cpos.line&& !(sc.names.any λq=>q.1==aL f i&&(q.2== .local||q.2== .cell)))=true)
  (r:Xv C n f (eval (bw C f e t)) st λa s1=>∃vs ws p,a= .lst vs∧vs.length≤ak∧bp m vs=some ws∧bQ s1 l ws=some p∧V none (aJ p.2 i p.1)) :
  Xs C n f (exec (.Assign [.Name (aL f i) p] (.ListComp (.BinOp (.Name x p1) .Mod (.Constant (.int m) k p2) p3) [⟨.Name x p4,bw C f e t,[],0⟩] sc cpos) pos)) st V:=λA E s w ω P L fa q cd Q hA F go=>by
 have hy:=dz hi;have hl:=bR hi;refine wpAny_Assign_ListComp_free (λ_=>true) (we m) ?_ (mq hn) (iP hn) hsc (ka hn hx) (cS hn hx) hl (DE (fo:=fo)) ?_ (λv=>dO ok hd)
 ·show (pure _:Sem Bool)=pure true
  congr 1
  have:(bv q f.sc L fa cd).blockKind= .function:=by show (if f.sc.kind.isAnnotationScope then _ else f.sc.kind)=_;rw[fo.kind];rfl
  rw[this];have hlk:(bv q f.sc L fa cd).kindOf (aL f i)=some .local:=hl;rw[hlk,qmz,qmz];exact⟨⟨rfl,ab hsw⟩,aa hsw⟩
 refine r hA F λa s1 H w1 ω1 h1' tk1 a x1 F1 V1=>?_;obtain⟨vs,ws,pp,rfl,hlim,hc,hadd,H⟩:=H;cases oG (s:={s with heap:=h1',toks:=tk1}) F1.sh V1 hc hlim with | mk hat c1 c2 hrel hlen h2 hlen2=>
 clear V1;rename_i qa o vals us kk;have hat:h1'.get? qa=some o:=hat;refine wpAny_pyIter_list ⟨_,hat,c1,_,c2⟩ ?_;have hne:qa≠h1'.objs.size:=λz=>by rw[z,Heap.get?_none_of_le (cz _)] at hat;exact aG hat
 have F1':=F1.keeps (h':=h1'.push {cls:=.type "list_iterator",data:=.fields #[.ref qa,.int 0 0]}) λb o e=>Heap.get?_push_of_some _ e;obtain⟨oL,hL⟩:=F1.Lsome;refine⟨h1'.objs.size,_,_,vals.toArray.size,_,_,L.m,rfl,Walks.list hA.hand h1'.objs.size qa hne vals.toArray,by rw[nk,ar];exact hlen,⟨⟨_,Heap.get?_push_size _ rfl,rfl,rfl⟩,⟨_,Heap.get?_push_of_some _ hat,c1,_,c2⟩⟩,?_,?_,F1'.ns,?_,?_⟩
 ·intro b hb
  refine Nat.lt_of_lt_of_eq ?_ (Heap.size_push _ _).symm;rcases qkz.mp hb with z | hb
  ·rw[z];exact Nat.lt_succ_self _
  ·rw[qfz.mp hb];exact Nat.lt_succ_of_lt (Heap.lt_size hat)
 ·intro z
  have:L.a=h1'.objs.size:=qfz.mp z;rw[this,Heap.get?_none_of_le (cz _)] at hL;exact aG hL
 ·exact kb hm (λi v hv=>j8 hrel h2 i v (by simpa using hv)) hsc hp (cS hn hx)
 ·intro Dd h' tk ys us hD hl2 hpl hulen hus hpair hns hkeep
  obtain rfl:us=vals:=mo (by simpa using hulen) λj v hv=>by simpa using hus j v hv
  rw[List.filter_eq_self.mpr (λ_ _=>rfl)] at hpair
  have hk:∀b o,b≠L.a→h1'.get? b=some o→h'.get? b=some o:=λb o hb e=>hkeep b o hb (λz=>by
   rw[qfz.mp z,Heap.get?_none_of_le (cz _)] at e;exact aG e) (Heap.get?_push_of_some _ e)
  have hDn:h1'.get? Dd=none:=by
   cases z:h1'.get? Dd with
   |none=>rfl
   |some o=>rw[Heap.get?_push_of_some _ z] at hD;cases hD
  obtain⟨nD,hat2⟩:=hpl;have hV:VRels C.N w1 ws ys.toList:=ml hrel h2 hpair;obtain⟨x2,F2⟩:=F1.storeSlot (h':=h') (vals:=ys.toList) (n:=nD) fo.nd hy hl hk (F1.lone hDn) (by simpa [W.listOf] using hat2) (by rw[← hV.length_eq,mn hc];exact hlim) hV hns hadd
  exact go none _ H _ _ _ h' tk _ (x1.trans x2) F2 rfl
theorem BF{i:Nat}{l:Loc}{p p2 pos:Pos}{ta tb:Expr}{st:St}{V:Option MV→St→Prop}(hi:gw f i=true)
  (r:Xv C n f (eval ta) st λa s1=>Xv C n f (eval tb) s1 λb s2=>∃vs ws q,a= .lst vs∧b= .lst ws∧(vs++ws).length≤ak∧bQ s2 l (vs++ws)=some q∧V none (aJ q.2 i q.1)) :
  Xs C n f (exec (.Assign [.Name (aL f i) p] (.BinOp ta .Add tb p2) pos)) st V:=λA E s w ω P L fa q cd Q hA F go=>by
 refine wpAny_Assign_stores ?_ rfl rfl;rw[arm_eval_BinOp];refine aM (r hA F λa s1 H w1 ω1 h1 tk1 va x1 F1 V1=>aM (jb (H hA F1 λb s2 H w2 ω2 h2 tk2 vb x2 F2 V2=>aM (jP (wpAny_operating ?_)))));obtain⟨vs,ws,qq,rfl,rfl,hlen,hadd,H⟩:=H;obtain⟨hl1,hr1,hn1⟩:=fV (s:={s with heap:=h2,toks:=tk2}) F2.sh (V1.mono x2)
 obtain⟨hl2,hr2,hn2⟩:=fV (s:={s with heap:=h2,toks:=tk2}) F2.sh V2
 rename_i q1 vals1 q2 vals2;have hlen2:(vals1++vals2).length≤ak:=by rw[a7,← hr1.length_eq,← hr2.length_eq,← a7];exact hlen
 refine nG (s:={s with heap:=h2,toks:=tk2}) hl1 hl2 ?_ (by rw[ar,← a7];exact hlen2)
 have Z:Lone w2 ω2 P L h2.objs.size:=F2.lone (Heap.get?_none_of_le (cz _));have F3:=F2.keeps (h':=h2.push (listOf (vals1++vals2).toArray 0)) λb o e=>Heap.get?_push_of_some _ e;show wpAny _ _ (assign (.Name _ p) _ _) _ _ _;rw[arm_assign_Name];refine aM (jP ?_);unfold bindName;refine aM (jb (wpAny_point (aM ?_)));refine wpAny_storeName_local (env:=bv q f.sc L fa cd) (bR hi) F3.ns (λh' hns hs=>wpAny_point ?_) (DE (fo:=fo));obtain⟨x3,F4⟩:=F3.storeSlot (h':=h') (vals:=vals1++vals2) (n:=0) fo.nd (dz hi) (bR hi) (λb o hb e=>(hs.2 b hb).trans e) Z ((hs.2 _ Z.L.symm).trans (Heap.get?_push_size _ rfl)) hlen2 (hr1.append hr2) hns hadd;exact go _ _ H _ _ _ h' _ _ ((x1.trans x2).trans x3) F4 rfl
theorem BG{i:Nat}{p pos:Pos}{st:St}{V:Option MV→St→Prop}(hi:jq f i=true)(r:∃q,iH st i=some q∧V (some q.1) q.2):Xs C n f (exec (.Return (some (.Name (aL f i) p)) pos)) st V:=λA E s w ω P L fa q cd Q hA F go=>by
 obtain⟨p,hg,H⟩:=r;exact wpAny_Return_some (wb fo (dz (ab hi)) (.inl (bR (ab hi))) (ce (aa hi)) F hg λw1 ω1 h1 tk1 a x1 F1 V1=>go _ _ H w1 ω1 _ h1 tk1 _ x1 F1 ⟨a,rfl,V1⟩)
theorem BH{i:Nat}{l:Loc}{p pos:Pos}{st:St}{V:Option MV→St→Prop}(hi:jq f i=true)(r:∃vs q,je st i=some vs∧bQ {st with vars:=eg st.vars i .unset} l vs=some q∧V (some q.1) q.2):Xs C n f (exec (.Return (some (.Name (aL f i) p)) pos)) st V:=λA E s w ω P L fa q cd Q hA F go=>by
 obtain⟨vs,pp,hg,hadd,H⟩:=r;have hx:=dz (ab hi);obtain⟨a0,b2,ho⟩:=mu F hx hg;cases ho with | mk hl0 ha0 ho0 hr0=>
 refine wpAny_Return_some (wpAny_Name (gS fo hx (.inl (bR (ab hi))) F b2 ?_) (v9 (ab (ce (aa hi):(_&&_)=true))));obtain⟨F1,Z⟩:=F.disown ha0;obtain⟨x2,F2,V2⟩:=F1.promote Z ho0 hl0 hr0 hadd;exact go _ _ H _ _ L.m s.heap s.toks _ x2 F2 ⟨_,rfl,V2⟩
end
open PySem PySem.W PyProof.Rows PySem.Calls PySem.Builtin
theorem ke{env:Env}(g:Str×NameKind→List (Str×Addr)→Sem (ForInStep (List (Str×Addr))))
  (hg:∀n k cs,g (n,k) cs=if (k== .free)=true then (do let a←cellOf env n;pure (.yield ((n,a)::cs))) else pure (.yield cs)) :
  ∀(names:List (Str×NameKind)) (acc:List (Str×Addr)),(∀p∈names,p.2= .free→(env.cells.lookup p.1).isSome=true)→(∀x c,acc.lookup x=some c→env.cells.lookup x=some c) →
   ∃cl,forIn names acc g=pure cl∧(∀x c,cl.lookup x=some c→env.cells.lookup x=some c)∧(∀p∈names,p.2= .free→(cl.lookup p.1).isSome=true)∧ ∀x,(acc.lookup x).isSome=true→(cl.lookup x).isSome=true
 |[],acc,_,h=>⟨acc,by rw[List.forIn_nil],h,λp m=>(nX m).elim,λ_ h=>h⟩
 |(n,k)::r,acc,h1,h2=>by
  rw[List.forIn_cons,hg];have h3:∀p∈r,p.2= .free→(env.cells.lookup p.1).isSome=true:=λp m=>h1 p (List.mem_cons_of_mem _ m);by_cases hk:k= .free
  ·subst hk
   obtain⟨c,hc⟩:=qez.mp (h1 _ List.mem_cons_self rfl);rw[cw (by rfl)]
   have e:cellOf env n=pure c:=by
    unfold cellOf;rw[show env.cells.lookup n=some c from hc]
   rw[e]
   obtain⟨cl,e1,e2,e3,e4⟩:=ke g hg r ((n,c)::acc) h3 (λx d hx=>by
    rw[kN] at hx;cases q:x==n with
    |true=>rw[q] at hx;cases hx;rw[beq_iff_eq.mp q];exact hc
    |false=>rw[q] at hx;exact h2 x d hx)
   refine⟨cl,e1,e2,λp m hp=>?_,λx hx=>e4 x ?_⟩
   ·rcases qkz.mp m with rfl | m
    ·exact e4 _ (by rw[kN,beq_self_eq_true];rfl)
    ·exact e3 p m hp
   ·rw[kN]
    cases q:x==n with
    |true=>rfl
    |false=>exact hx
  ·rw[bL (λz=>hk (beq_iff_eq.mp z))]
   obtain⟨cl,e1,e2,e3,e4⟩:=ke g hg r acc h3 h2;refine⟨cl,e1,e2,λp m hp=>?_,e4⟩;rcases qkz.mp m with rfl | m
   ·exact absurd hp hk
   ·exact e3 p m hp
theorem yJ{sc:Scope}{env:Env}(h:∀p∈sc.names,p.2= .free→(env.cells.lookup p.1).isSome=true) :
  ∃cl,closureFor sc env=pure cl∧(∀x c,cl.lookup x=some c→env.cells.lookup x=some c)∧ ∀p∈sc.names,p.2= .free→(cl.lookup p.1).isSome=true:=by
 unfold closureFor
 have key:∀g:Str×NameKind→List (Str×Addr)→Sem (ForInStep (List (Str×Addr))),(∀n k cs,g (n,k) cs=if (k== .free)=true then (do let a←cellOf env n;pure (.yield ((n,a)::cs))) else pure (.yield cs)) →
   ∃cl,(forIn sc.names [] g>>=λcs=>pure cs)=pure cl∧(∀x c,cl.lookup x=some c→env.cells.lookup x=some c)∧ ∀p∈sc.names,p.2= .free→(cl.lookup p.1).isSome=true:=λg hg=>by
  obtain⟨cl,e1,e2,e3,_⟩:=ke (env:=env) g hg sc.names [] h λx c e=>aG e;exact⟨cl,by rw[e1];rfl,e2,e3⟩
 exact key _ λn k cs=>rfl
theorem kH{fsc:Scope}{x:Str}(hk:fsc.kind= .function)(hf:fsc.names.lookup x=some .cell):∀{l:List (Str×NameKind)},l.lookup x=some .free →
  (l.map λp=>if (p.2== .free&&fsc.kind== .function&&fsc.names.lookup p.1==some .cell) then (p.1,.cell) else p).lookup x=some .cell
 |[],h=>aG h
 |(n,k)::r,h=>by
  rw[kN] at h;rw[List.map_cons,kN];cases q:x==n with
  |true=>
   rw[q] at h;obtain rfl:=ay h;obtain rfl:=beq_iff_eq.mp q;rw[show ((x,NameKind.free).2==NameKind.free&&fsc.kind== .function&&fsc.names.lookup (x,NameKind.free).1==some .cell)=true by rw[hk,hf];rfl,cw rfl,beq_self_eq_true]
  |false=>
   rw[q] at h;have ih:=kH hk hf h;by_cases hc:((n,k).2==NameKind.free&&fsc.kind== .function&&fsc.names.lookup (n,k).1==some .cell)=true
   ·rw[cw hc]
    show (match x==n with | true=>_ | false=>_)=_
    rw[q];exact ih
   ·rw[bL hc]
    show (match x==n with | true=>_ | false=>_)=_
    rw[q];exact ih
section
variable {N:Nm}{w:Wd}{ω:Nat→Option Addr}{P:PMap}{L:FL}{f:Fc}{st:St}{h:Heap}
structure CelOk(f:Fc)(sc:Scope)(i:Nat):Prop where
 nm:f.nms[i]?=some (aL f i)
 out:f.sc.names.lookup (aL f i)=some .cell
 inn:sc.names.lookup (aL f i)=some .free
theorem rO{st:St}:∀{is:List Nat} {vs:List MV},jS st is=some vs→ ∀{k:Nat} {v:MV},vs[k]?=some v→ ∃i,is[k]?=some i∧st.vars[i]?=some (.val v):=λ{is}=>by
 induction is with
 |nil=>intro vs e k v hv;rw[← ay (e:some []=some vs)] at hv;exact aG hv
 |cons i is ih=>
  intro vs e k v hv;obtain⟨u,h1,e⟩:=bind_some e;obtain⟨us,h2,rfl⟩:=aV e;cases k with
  |zero=>
   obtain rfl:=ay hv;obtain⟨c,h3,h4⟩:=bind_some h1;refine⟨i,rfl,?_⟩;rw[← bG,h3];cases c with
   |val x=>exact bJ (λx=>some (Cell.val x)) (ay h4)
   |_=>exact aG h4
  |succ k=>exact ih h2 hv
theorem Fm.inner(F:Fm N w ω P L f st h)(hk:f.sc.kind= .function){sc:Scope}{Cc:Addr}(ZC:Lone w ω P L Cc){m2:Str→Option Value}(hns:h.Ns Cc m2){is:List Nat}{vs:List MV}(hvs:jS st is=some vs)
  (hcel:∀i∈is,CelOk f sc i) {cl:List (Str×Addr)} (hcl1:∀x c,cl.lookup x=some c→L.cl.lookup x=some c) (hcl2:∀i∈is,(cl.lookup (aL f i)).isSome=true) :
  Fm N w (λ_=>none) (gH ω P L h) ⟨Cc,m2,cl,L.cv⟩ (sN f sc is) ⟨st.sh,vs.map .val⟩ h:=by
 refine⟨F.enter,ZC.G,?_,ZC.ρ,hns,λk x c e1 e2=>?_,λi a e=>aG e,λi j a e=>aG e,λi a e=>aG e,λx c e=>F.cel x c (hcl1 x c e),λk x e1=>?_⟩
 ·refine(bL ?_).trans ZC.P
  rintro (z | ⟨i,z⟩)
  ·exact ZC.L z.symm
  ·exact ZC.ω i Cc z rfl
 ·rw[List.getElem?_map] at e2
  obtain⟨v,hv,rfl⟩:=aV e2;obtain⟨i,hi,hst⟩:=rO hvs hv
  have hx:x=aL f i:=by
   have e1:(is.map (aL f))[k]?=some x:=e1;rw[List.getElem?_map,hi] at e1;exact(ay e1).symm
  subst hx;have K:=hcel i (List.mem_of_getElem? hi);have hc:=F.vs i _ _ K.nm hst;show CRel N w h none (.val v) (bif (cl.lookup (aL f i)).isSome then L.cv (aL f i) else m2 (aL f i));rw[hcl2 i (List.mem_of_getElem? hi)];obtain⟨a,h1,h2⟩:=hc;refine⟨a,?_,h2⟩;have h3:=F.clk i _ K.nm;rw[show gF f (aL f i)=true by unfold gF;rw[K.out];rfl] at h3
  unfold FL.val at h1;rw[h3] at h1;exact h1
 ·have e1:(is.map (aL f))[k]?=some x:=e1
  rw[List.getElem?_map] at e1;obtain⟨i,hi,rfl⟩:=aV e1;have K:=hcel i (List.mem_of_getElem? hi);show (cl.lookup (aL f i)).isSome=_;rw[hcl2 i (List.mem_of_getElem? hi)];unfold gF;rw[show (sN f sc is).sc.names.lookup (aL f i)=some .cell from kH hk K.out K.inn];rfl
end
section
variable {C:Cx}{Φ:ku}{n:Nat}{f:Fc}
noncomputable def qr(C:Cx)(n:Nat)(f:Fc)(tr:Env→Sem Value)(vs:List MV)(V:List MV→Sto→Prop)(k:Nat):List MV→Sto→Prop:=
 Nat.rec (motive:=λ_=>List MV→Sto→Prop) V (λ_ ih ws sh=>Xv C n f tr ⟨sh,vs.map .val⟩ λv st=>ih (ws++[v]) st.sh) k
inductive LcInv (C:Cx) (n:Nat) (f:Fc) (f':Fc) (tr:Env→Sem Value) (vs:List MV) (V:List MV→Sto→Prop) (vars:List Cell) (N:Nat) (w:Wd) (ω:Nat→Option Addr) (P:PMap) (L:FL) (I Cc D:Addr) (s:Shared) (k:Nat):Shared→Prop
 |mk {w':Wd} {h':Heap} {tk j nD:Nat} {ws:List MV} {ys:List Value} {sh:Sto} {m2:Str→Option Value} (x:w.Ext w') (F:Fm C.N w' ω P L f ⟨sh,vars⟩ h') (ZI:Lone w' ω P L I) (ZC:Lone w' ω P L Cc) (ZD:Lone w' ω P L D)
   (hI:IsRangeIter h' I (0+(j:Int)*1) (((N:Nat):Int)-(j:Nat)) 1) (hC:h'.Ns Cc m2) (hD:h'.get? D=some (W.listOf ys.toArray nD)) (hr:VRels C.N w' ws ys) (hl:ws.length=j) (hj:j≤N) (hm:k+j=N+1)
   (H:qr C n f' tr vs V (N-j) ws sh):LcInv C n f f' tr vs V vars N w ω P L I Cc D s k {s with heap:=h',toks:=tk}
theorem Lone.mono{w w':Wd}{ω:Nat→Option Addr}{P:PMap}{L:FL}{I:Addr}(Z:Lone w ω P L I)(g:w'.G I=none)(r:∀l b,w'.ρ l=some b→b≠I):Lone w' ω P L I:=⟨g,Z.P,r,Z.L,Z.ω⟩
theorem G6(D:Snd C Φ n)(fo:FcOk f)(G:RgOk C){is:List Nat}{dZ e:ME}{tc te:Expr}{x:Str}{sc:Scope}{p0 p1 p2 cpos:Pos}{st:St}{V:MV→St→Prop}
  (okc:okE C f dZ tc=true) (hrange:f.sc.names.lookup ("range":Str)=some NameKind.globalImplicit) (hcel:∀i∈is,CelOk f sc i)
  (hsc:sc.kind=ScopeKind.function) (hx:sc.names.lookup x=some .local) (hall:∀y∈sc.names,y.2= .local→sc.names.lookup y.1=some .local) (hcell:∀y∈sc.names,y.2≠ .cell)
  (hfree:∀y∈sc.names,y.2= .free→ ∃i∈is,aL f i=y.1)
  (r:Xv C n f (eval (bw C f dZ tc)) st λc s1=>∃N vs,c= .int N∧N.natAbs≤1000∧jS s1 is=some vs ∧
   qr C n (sN f sc is) (eval (bw C (sN f sc is) e te)) vs (λws sh=>V (.lst ws) {s1 with sh:=sh}) N.toNat [] s1.sh) :
  Xv C n f (eval (.ListComp (bw C (sN f sc is) e te) [⟨.Name x p0,.Call (.Name "range" p1) [bw C f dZ tc] [] p2,[],0⟩] sc cpos)) st V:=λA E s w ω P L fa q cd Q hA F go=>by
 have hfr:∀p∈sc.names,p.2= .free→(L.cl.lookup p.1).isSome=true:=λp m hp=>by
  obtain⟨i,hi,e⟩:=hfree p m hp;have K:=hcel i hi;rw[← e,F.clk i _ K.nm];unfold gF;rw[K.out];rfl
 obtain⟨cl,hclos,hcl1,hcl3⟩:=yJ (sc:=sc) (env:=bv q f.sc L fa cd) hfr;have hcl1:∀x c,cl.lookup x=some c→L.cl.lookup x=some c:=hcl1
 have hcl2:∀i∈is,(cl.lookup (aL f i)).isSome=true:=λi hi=>by
  obtain⟨k,e⟩:∃k,sc.names.lookup (aL f i)=some k:=⟨_,(hcel i hi).inn⟩;exact hcl3 (aL f i,.free) (mem_of_lookup (hcel i hi).inn) rfl
 rw[eval_ListComp];refine wpAny_comprehension_free (use:=none) rfl (λv=>rfl) hclos hsc hall ?_;refine wpAny_Call_NameR (mj D fo G.range hrange (by decide) F ?_)
 rw[show backTo p2 (starEach [bw C f dZ tc] (bv q f.sc L fa cd))=[(false,eval (bw C f dZ tc) (bv q f.sc L fa cd))] from dA (es:=.cons dZ .nil) (ts:=[tc]) (qmz.mpr ⟨okc,rfl⟩)];refine PyProof.Rows.callWith_type rfl (Calls.evalArgs_plain (Calls.spliced_cons (r hA F λu s1 H w1 ω1 h1 tk1 a x1 F1 V1=>Calls.spliced_nil ?_)));obtain⟨N,vs,rfl,hN,hvs,H⟩:=H;obtain⟨tN,rfl⟩:=V1.int_inv;refine call_range_1 (s:={s with heap:=h1,toks:=tk1}) ?_
 refine wpAny_pyIter_range (IsRange.new ..) (small_one (by decide) (by decide) (by omega) (by omega)) ?_
 have hsz:Builtin.Range.rangeSize 0 N 1=(N.toNat:Int):=by rw[rangeSize_one];split<;>omega
 obtain⟨NN,hNN⟩:∃NN,NN=N.toNat:=⟨_,rfl⟩;rw[← hNN] at hsz H;have F2:=F1.keeps (h':=h1.push {cls:=.type "range",data:=.fields #[.int 0 tk1,.int N tN,.int 1 (tk1+1)]}) λb o e=>Heap.get?_push_of_some _ e;generalize hhr:h1.push {cls:=.type "range",data:=.fields #[.int 0 tk1,.int N tN,.int 1 (tk1+1)]}=hr1 at F2;have ZI:=F2.lone (I:=hr1.objs.size) (Heap.get?_none_of_le (cz _));obtain⟨I,hI⟩:∃I,I=hr1.objs.size:=⟨_,rfl⟩;rw[← hI] at ZI;have F3:=F2.keeps (h':=hr1.push {cls:=.type "range_iterator",data:=.fields #[rawInt 0,rawInt (Builtin.Range.rangeSize 0 N 1),rawInt 1]}) λb o e=>Heap.get?_push_of_some _ e
 have hst:IsRangeIter (hr1.push {cls:=.type "range_iterator",data:=.fields #[rawInt 0,rawInt (Builtin.Range.rangeSize 0 N 1),rawInt 1]}) I (0+((0:Nat):Int)*1) (((NN:Nat):Int)-((0:Nat):Int)) 1:=by
  show Heap.get? _ I=_;rw[show (0+((0:Nat):Int)*1)=0 by simp,show (((NN:Nat):Int)-((0:Nat):Int))=Builtin.Range.rangeSize 0 N 1 by rw[hsz];simp,hI]
  exact Heap.get?_push_size _ rfl
 have hIlt:I<(hr1.push {cls:=.type "range_iterator",data:=.fields #[rawInt 0,rawInt (Builtin.Range.rangeSize 0 N 1),rawInt 1]}).objs.size:=by rw[Heap.size_push,hI];exact Nat.lt_succ_self _
 have Wk:=PySem.Walks.bound (Walks.range (prog:=C.prog) (w:=C.wd) (A:=A) hA.hand I 0 1 NN);show wpAny _ _ (newList []) _ _ {s with heap:=hr1.push _,toks:=_}
 generalize hr1.push {cls:=.type "range_iterator",data:=.fields #[rawInt 0,rawInt (Builtin.Range.rangeSize 0 N 1),rawInt 1]}=hp at F3 hst hIlt;refine wpAny_newObj_type (wpAny_newFunctionEnv hcell (by intro y hy;simp at hy) (λhc hnsc hsbc=>?_) hsc)
 dsimp only at hnsc hsbc ⊢;have eD:hp.get? hp.objs.size=none:=Heap.get?_none_of_le (cz _);obtain⟨Dd,hDd⟩:∃Dd,Dd=hp.objs.size:=⟨_,rfl⟩;have hCs:(hp.push {cls:=.type "list",dict:=none,data:=.seq ([]:List Value).toArray}).objs.size=Dd+1:=by rw[Heap.size_push,hDd]
 rw[hCs] at hnsc hsbc ⊢;rw[← hDd];have old:∀b o,hp.get? b=some o→hc.get? b=some o:=λb o e=>hsbc.extBut b o (Nat.ne_of_lt (Nat.lt_succ_of_lt (hDd▸Heap.lt_size e))) (Heap.get?_push_of_some _ (Heap.get?_push_of_some _ e));have hacc:hc.get? Dd=some (W.listOf ([]:List Value).toArray 0):=hsbc.extBut _ _ (Nat.ne_of_lt (Nat.lt_succ_self _)) (Heap.get?_push_of_some _ (by rw[hDd];exact Heap.get?_push_size _ rfl))
 have ZD:Lone w1 ω1 P L Dd:=F3.lone (by rw[hDd];exact eD)
 have ZC:Lone w1 ω1 P L (Dd+1):=F3.lone (Heap.get?_none_of_le (by rw[hDd];exact Nat.le_succ _))
 have nID:I≠Dd:=Nat.ne_of_lt (hDd▸hIlt);have nIC:I≠Dd+1:=Nat.ne_of_lt (Nat.lt_succ_of_lt (hDd▸hIlt));have nCD:Dd+1≠Dd:=Nat.succ_ne_self _;have F4:=F3.keeps old;have hst1:IsRangeIter hc I (0+((0:Nat):Int)*1) (((NN:Nat):Int)-((0:Nat):Int)) 1:=old _ _ hst;clear hst old hsbc hIlt
 have loop:∀s3:Shared,(∃tk,s3= {s with heap:=hc,toks:=tk})→codeAny (model C.prog C.wd) A (.compLoop (.ListComp (bw C (sN f sc is) e te) [⟨.Name x p0,.Call (.Name "range" p1) [bw C f dZ tc] [] p2,[],0⟩] sc cpos) 0 (.ref I) (.ref Dd) (compEnvC sc cl (Dd+1) (bv q f.sc L fa cd)))
   (compPost (model C.prog C.wd) A E none Q (.ref Dd) (Dd+1)) s3:=by
  rintro s3 ⟨tk3,rfl⟩
  refine codeAny_compLoop_list (LcInv C n f (sN f sc is) (eval (bw C (sN f sc is) e te)) vs (λws sh=>V (.lst ws) {s1 with sh:=sh}) s1.vars NN w1 ω1 P L I (Dd+1) Dd s) ?_ (NN+1) ⟨.refl _,F4,ZI,ZC,ZD,hst1,hnsc,hacc,.nil,rfl,iw _,rfl,H⟩
  rintro k s' ⟨x',F',ZI',ZC',ZD',hI',hC',hD',hr',hl',hj',hm',H'⟩
  rename_i w' h' tk j nD ws ys sh m2;by_cases hlt:j<NN
  ·refine Wk.item j _ _ _ hlt hI' λva h2 tk2 hv hst2 hk2=>?_
   have F5:=F'.keepBut (h':=h2) ZI' λb o hb e=>hk2 b o (λz=>hb (qfz.mp z)) e;refine wpAny_assign_Name (wpAny_storeName_local (lookup_relabel_local hx) (hC'.at' λo e=>hk2 _ o (λz=>nIC (qfz.mp z).symm) e) (λh3 hn3 hs3=>?_) (by simp [compEnvC,relabel,hsc]))
   have F6:=F5.keepBut (h':=h3) ZC' λb o hb e=>(hs3.2 b hb).trans e;have hI3:IsRangeIter h3 I (0+((j+1:Nat):Int)*1) (((NN:Nat):Int)-((j+1:Nat):Int)) 1:=(hs3.2 I nIC).trans hst2;have hD3:h3.get? Dd=some (W.listOf ys.toArray nD):=(hs3.2 Dd nCD.symm).trans (hk2 _ _ (λz=>nID (qfz.mp z).symm) hD');obtain⟨oI,hoI⟩:∃oI,h3.get? I=some oI:=⟨_,hI3⟩;have F7a:=F6.protect ZI' hoI;have wI:∀{o:Obj} {b:Addr},b≠I→P b=none→P.with_ I o b=none:=λhb hp=>(bL hb).trans hp;have ZD2:Lone w' ω1 (P.with_ I oI) L Dd:=⟨ZD'.G,wI nID.symm ZD'.P,ZD'.ρ,ZD'.L,ZD'.ω⟩;have F7:=F7a.protect ZD2 hD3;have ZC2:Lone w' ω1 ((P.with_ I oI).with_ Dd (W.listOf ys.toArray nD)) L (Dd+1):=⟨ZC'.G,(bL nCD).trans (wI nIC.symm ZC'.P),ZC'.ρ,ZC'.L,ZC'.ω⟩;have Fi:=F7.inner fo.kind ZC2 hn3 (is:=is) (vs:=vs) hvs hcel hcl1 hcl2;obtain⟨k2,hk3⟩:∃k2,NN-j=k2+1:=⟨NN-j-1,by omega⟩
   rw[hk3] at H';refine H' (q:=q) (fa:=(none,fa.2)) (cd:=cd) (L:=⟨Dd+1,_,cl,L.cv⟩) (s:={s with heap:=h3,toks:=_}) hA Fi λy st' Hn w4 ω4 h4 tk4 ya x4 F8 Vy=>?_
   have F9:=F7.back x4 F8.sh;obtain⟨ZD9,hD9,F10⟩:=Fm.unprotect (wI nID.symm ZD'.P) F9;obtain⟨ZI10,hI10,F11⟩:=Fm.unprotect ZI'.P F10;have ZD11:Lone w4 ω1 P L Dd:=ZD'.mono ZD9.G ZD9.ρ;have ZC11:Lone w4 ω1 P L (Dd+1):=ZC'.mono F8.LG F8.Lρ;have hlen:=hr'.length_eq;refine append_at (s:={s with heap:=h4,toks:=tk4}) hD9 (λh5 hs5 ho5=>?_) (by rw[nk,ar,← hlen,hl'];unfold ak;omega)
   have F12:=F11.keepBut (h':=h5) ZD11 λb o hb e=>(hs5.2 b hb).trans e;refine⟨k-1,by omega,⟨x'.trans x4,F12,ZI10,ZC11,ZD11,((hs5.2 I nID).trans (hI10.trans hoI.symm)).trans hI3,F8.ns.at' λo e=>(hs5.2 _ nCD).trans e,(by rw[ho5];simp:h5.get? Dd=some (W.listOf (ys++[ya]).toArray (nD+1))),(hr'.mono x4).append (.cons Vy .nil),by rw[a7,hl'];rfl,hlt,by omega,?_⟩⟩
   rw[show NN-(j+1)=k2 by omega]
   exact Hn
  ·obtain rfl:j=NN:=by omega
   refine Wk.done _ _ _ hI' λh2 tk2 hk2=>?_;have F5:=F'.keepBut (h':=h2) ZI' λb o hb e=>hk2 b o (λz=>hb (qfz.mp z)) e;have hD2:h2.get? Dd=some (W.listOf ys.toArray nD):=hk2 _ _ (λz=>nID (qfz.mp z).symm) hD';refine⟨m2,hC'.at' λo e=>hk2 _ o (λz=>nIC (qfz.mp z).symm) e,λh3 hs3=>?_⟩;have F6:=F5.keepBut (h':=h3) ZC' λb o hb e=>(hs3.2 b hb).trans e;have hD3:h3.get? Dd=some (W.listOf ys.toArray nD):=(hs3.2 Dd nCD.symm).trans hD2;obtain⟨x7,F7⟩:=F6.addLone ZD' hD3;rw[Nat.sub_self] at H';exact go _ _ H' _ _ h3 tk2 _ ((x1.trans x').trans x7) F7 (.lst Wd.add_at ⟨by rw[← hr'.length_eq,hl'];unfold ak;omega,rfl,nD,rfl⟩ (hr'.mono x7))
 rw[← hI];exact codeAny_compStart_list (loop _ ⟨_,rfl⟩) (Wk.self 0 _ _ _ hst1 (loop _ ⟨_,rfl⟩))
end
open PySem PySem.W PyProof.Rows PySem.Calls PySem.Builtin
section
variable {C:Cx}{Φ:ku}{n:Nat}{f:Fc}
theorem BI(D:Snd C Φ n){t0 lc:Expr}{p1 p2:Pos}{st:St}{V:MV→St→Prop}(ha:oz 3 C.N.natr=true)(hline:(p1.endLine==p2.line)=true)(hpl:∀env:Env,starEach [lc] env=[(false,eval lc env)])
  (r:Xv C n f (eval lc) st λu s1=>∃ws xs,u= .lst ws∧cA ws=some xs∧(xs.map List.length).sum≤ak∧rl s1.sh≤ak∧V (.str (dh [] xs)) s1) :
  Xv C n f (eval (.Call (.Attribute (bw C f (.k (.str [])) t0) (C.N.nm 3) p1) [lc] [] p2)) st V:=λA E s w ω P L fa q cd Q hA F go=>by
 have hb:∀env:Env,backTo p2 (starEach [lc] env)=[(false,eval lc env)]:=λenv=>by rw[hpl];rfl
 rw[arm_eval_Call];refine aM (ly (C:=C) (f:=f) (e:=.k (.str [])) (t:=t0) (by rfl:aS 0 ak=true) (λz=>by cases z) ?_)
 refine wpAny_mkText (aM (jP ?_));have V1:VRel C.N w (.str []) (.str (aj []) s.toks):=.str _ (iw _);refine fC (show 1<20 by decide) (by rw[hb];rfl) rfl hline λpl=>?_
 refine sZ D.O D.N (s:={s with toks:=s.toks+1}) F V1 (dy ha) (c:=none) (by rfl) λw2 ω2 h2 tk2 r' x2 F2 c2=>?_
 refine fq (by rw[hb];rfl) rfl ?_
 rw[hb];refine spliced_cons (r (s:={s with heap:=h2,toks:=tk2}) hA F2 λu s1 H w3 ω3 h3 tk3 a x3 F3 V3=>spliced_nil (wpAny_evalAll_nil ⟨(c2.mono x3).keep D F3.sh,?_⟩))
 obtain⟨ws,xs,rfl,hx,hl,hrl,H⟩:=H;refine ql D (s:={s with heap:=h3,toks:=tk3}) F3 (c2.mono x3) (V1.mono (x2.trans x3)) (pos:=[.lst ws]) (kws:=[]) (v:=(.str (dh [] xs),s1.sh)) ?_ ?_ hrl hA (.cons V3 .nil) rfl λw5 h5 tk5 ra x5 F5 V5=>go _ _ H w5 ω3 h5 tk5 ra ((x2.trans x3).trans x5) F5 V5
 ·show ((cA ws).map λxs=>aS ((xs.map List.length).sum+xs.length*0) ak).getD true=true
  rw[hx];exact Nat.ble_eq.mpr hl
 ·show ((cA ws).map λxs=>(MV.str (dh [] xs),s1.sh))=_
  rw[hx];rfl
theorem wo{tag:Tx}{t0 X:Expr}{k:Nat}{pos:Pos}{st:St}{V:MV→St→Prop}(ht:aS tag.length ak=true)(hpl:∀env:Env,starEach [X] env=[(false,eval X env)])
  (r:Xv C n f (eval X) st λu s1=>V (.tup [.str tag,u]) s1):Xv C n f (eval (.Tuple [bw C f (.k (.str tag)) t0,X] k pos)) st V:=λA E s w ω P L fa q cd Q hA F go=>by
 rw[arm_eval_Tuple]
 have hs:∀env:Env,starEach [bw C f (.k (.str tag)) t0,X] env=[(false,eval (bw C f (.k (.str tag)) t0) env),(false,eval X env)]:=λenv=>by
  rw[jx (qg (C:=C) (f:=f) (e:=.k (.str tag)) (t:=t0) ht),hpl]
 rw[show ∀p:Pos,backTo p (starEach [bw C f (.k (.str tag)) t0,X] (bv q f.sc L fa cd))=[(false,eval (bw C f (.k (.str tag)) t0) (bv q f.sc L fa cd)),(false,eval X (bv q f.sc L fa cd))] from λp=>by rw[hs];rfl]
 refine aM (jP (aM (spliced_cons (wpAny_mkText (spliced_cons (r (s:={s with toks:=s.toks+1}) hA F λu s1 H w1 ω1 h1 tk1 a x1 F1 V1=>spliced_nil ?_))))))
 have hl:[Value.str (aj tag) s.toks,a].length≤ak:=by show 2≤ak;decide
 exact wpAny_newTuple (qj (s:={s with heap:=h1,toks:=tk1}) F1 hl (.cons (.str _ (bf ht)) (.cons V1 .nil)) (λw2 ω2 h2 tk2 va x2 F2 V2=>go _ s1 H w2 ω2 h2 tk2 va (x1.trans x2) F2 V2) tk1) (by rw[ar];exact hl)
end
open PySem PySem.W PyProof.Rows PySem.Calls PySem.Builtin
theorem cp:∀n,(dS n).length=n
 |0=>rfl
 |n+1=>by show (dS n++[_]).length=_;rw[a7,cp n];rfl
theorem mx:∀{n i:Nat},i<n→(dS n)[i]?=some (.int i)
 |n+1,i,h=>by
  show (dS n++[.int n])[i]?=_;by_cases q:i<n
  ·rw[List.getElem?_append_left (by rw[cp];exact q)];exact mx q
  ·have:i=n:=by omega
   subst this;rw[List.getElem?_append_right (by rw[cp];exact cz _),cp,Nat.sub_self];rfl
section
variable {C:Cx}{Ψ:Psi}{n:Nat}{f:Fc}{v:MV}{sh:Sto}
noncomputable abbrev Bs(C:Cx)(Ψ:Psi)(n:Nat)(f:Fc)(v:MV)(sh:Sto)(b:MSs)(bx:List Stmt):Prop:=∀⦃st:St⦄ ⦃k:Option MV→St→Ds→R⦄ ⦃ds:Ds⦄ ⦃V:Option MV→St→Prop⦄,am (ae C.N.T Ψ b st k ds) v sh→Kq v sh k V→rl st.sh≤rl sh∧Xs C n f (execs bx) st V
def G7 (k:Option MV→St→Ds→R) (ih:St→Ds→R) (v:MV) (sh:Sto) (r:Option MV) (st:St):Prop:=∃ds,am (pO r k ih st ds) v sh
theorem lz{k:Option MV→St→Ds→R}{ih:St→Ds→R}{V:Option MV→St→Prop}(K:Kq v sh k V)(hi:∀st ds,am (ih st ds) v sh→rl st.sh≤rl sh):Kq v sh (λr st=>pO r k ih st) (G7 k ih v sh):=λr st ds h=>by
 cases r with
 |none=>exact⟨hi _ _ h,ds,h⟩
 |some u=>exact⟨(K _ _ _ h).1,ds,h⟩
inductive ForInv (C:Cx) (Ψ:Psi) (f:Fc) (v:MV) (sh:Sto) (b:MSs) (i:Nat) (k:Option MV→St→Ds→R) (vs:List MV) (I:Addr) (St':Nat→Heap→Prop) (w:Wd) (P:PMap) (La:FL) (s:Shared) (m:Nat):Shared→Prop
 |mk {w':Wd} {ω':Nat→Option Addr} {m':Str→Option Value} {st1:St} {h':Heap} {tk j:Nat} {ds:Ds} (x:w.Ext w') (Z:Lone w' ω' P (La.wm m') I) (F:Fm C.N w' ω' P (La.wm m') f st1 h') (hst:St' j h') (hm:m+j=vs.length+1) (hj:j≤vs.length)
   (e:am (lN (λst k=>ae C.N.T Ψ b st k) k i (vs.drop j) st1 ds) v sh):ForInv C Ψ f v sh b i k vs I St' w P La s m {s with heap:=h',toks:=tk}
variable (D:Snd C Ψ.phi n)(fo:FcOk f)(G:RgOk C)(hr:rl sh≤ak)
theorem oK{b:MSs}{bx:List Stmt}(hb:Bs C Ψ n f v sh b bx){i:Nat}{k:Option MV→St→Ds→R}{V:Option MV→St→Prop}(K:Kq v sh k V):∀(vs:List MV) (st:St) (ds:Ds),am (lN (λst k=>ae C.N.T Ψ b st k) k i vs st ds) v sh→rl st.sh≤rl sh
 |[],st,ds,h=>(K _ _ _ h).1
 |u::vs,st,ds,h=>(hb (st:=aJ st i u) h (lz K (oK hb K vs))).1
include D fo G hr
theorem yK{b:MSs}{bx:List Stmt}{i:Nat}{p:Pos}(hi:gw f i=true)(hb:Bs C Ψ n f v sh b bx){k:Option MV→St→Ds→R}{V:Option MV→St→Prop}(K:Kq v sh k V)
  {I:Addr} {fp:List Addr} {vs:List MV} {Pv:Nat→Value→Prop} {St':Nat→Heap→Prop} {A:Around} {s:Shared} {w:Wd} {ω:Nat→Option Addr} {P:PMap} {L:FL} {fa:Option Addr×Option Addr} {q:Str} {cd:Value} {Q:Flow→Shared→Prop} {E:Value→Shared→Prop} {st:St} {ds:Ds}
  (hA:Rm A (n+1)) (W:Walks C.prog C.wd A I fp [I] vs.length Pv St') (hfp:∀b∈fp,b=I∨(w.G b).isSome=true) (hI:∀i h,St' i h→(h.get? I).isSome=true)
  (hPv:∀i v w',w.Ext w'→Pv i v→ ∃mv,vs[i]?=some mv∧VRel C.N w' mv v) (hst:St' 0 s.heap) (Z:Lone w ω P L I) (F:Fm C.N w ω P L f st s.heap)
  (e:am (lN (λst k=>ae C.N.T Ψ b st k) k i vs st ds) v sh)
  (go:∀r st',V r st'→ ∀w' ω' m' h' tk fl,w.Ext w'→Fm C.N w' ω' P (L.wm m') f st' h'→uD C.N w' r fl→Q fl {s with heap:=h',toks:=tk}) :
  codeAny (model C.prog C.wd) A (.forLoop (.Name (aL f i) p) (.ref I) bx [] (bv q f.sc L fa cd)) (λr s'=>match r with | .ok f=>Q f s' | .error e=>E e s') s:=by
 refine codeAny_forLoop (ForInv C Ψ f v sh b i k vs I St' w P L s) ?_ (vs.length+1) ⟨.refl w,Z,F,hst,rfl,iw _,e⟩
 rintro m s' ⟨x1,Z1,F1,hst1,hm,hj,e1⟩
 rename_i w1 ω1 m1 st1 h1 tk1 j ds1;by_cases hlt:j<vs.length
 ·refine W.item j _ _ _ hlt hst1 λva h2 tk2 hv hst2 hk2=>?_
  have F2:=F1.keepBut (h':=h2) Z1 λb o hb e=>hk2 b o (λz=>hb (qfz.mp z)) e;obtain⟨mv,hmv,V1⟩:=hPv j va w1 x1 hv
  have hdrop:vs.drop j=mv::vs.drop (j+1):=by
   rw[List.drop_eq_getElem_cons hlt];rw[List.getElem?_eq_getElem hlt] at hmv;rw[ay hmv]
  rw[hdrop] at e1;obtain⟨oI,hoI⟩:=qez.mp (hI _ _ hst2);have F3:=F2.protect Z1 hoI;have rb:=hb (st:=aJ st1 i mv) e1 (lz K (oK hb K (vs.drop (j+1))));show wpAny _ _ (assign (.Name _ p) _ va) _ _ _;rw[arm_assign_Name];refine aM (jP (mt fo (dz hi) (bR hi) (s:={s with heap:=h2,toks:=tk2}) (L:=(L.wm m1)) F3 V1 λω4 m4 h4 tk4 F4=>?_))
  refine rb.2 (L:=(L.wm m4)) hA F4 λr s5 H w5 ω5 m5 h5 tk5 fl x5 F5 V5=>?_;obtain⟨Z5,hI5,F6⟩:=Fm.unprotect Z.P F5;obtain⟨d5,H⟩:=H;cases r with
  |some u=>
   obtain⟨a,rfl,V5⟩:=V5;exact go _ s5 (K _ _ _ H).2 w5 ω5 m5 h5 tk5 _ (x1.trans x5) F6 ⟨a,rfl,V5⟩
  |none=>
   obtain rfl:fl= .next:=V5;refine⟨m-1,by omega,x1.trans x5,Z5,F6,?_,(by omega:m-1+(j+1)=vs.length+1),hlt,H⟩
   refine W.frame _ _ _ hst2 λb hb o e=>?_;rcases hfp b hb with z | z
   ·subst z;rw[← ay (hoI.symm.trans e)];exact hI5
   ·obtain⟨o',ho'⟩:=qez.mp z
    have q1:=F2.sh.frz _ _ (x1.G _ _ ho');obtain rfl:=ay (e.symm.trans q1);exact F6.sh.frz _ _ (x5.G _ _ (x1.G _ _ ho'))
 ·obtain rfl:j=vs.length:=by omega
  refine W.done _ _ _ hst1 λh2 tk2 hk2=>?_;have F2:=F1.keepBut (h':=h2) Z1 λb o hb e=>hk2 b o (λz=>hb (qfz.mp z)) e;rw[List.drop_length] at e1;exact wpAny_execs_nil (go none st1 (K _ _ _ e1).2 w1 ω1 m1 h2 tk2 _ x1 F2 rfl)
theorem uG{b:MSs}{bx:List Stmt}{i:Nat}{p:Pos}(hi:gw f i=true)(hb:Bs C Ψ n f v sh b bx){k:Option MV→St→Ds→R}{V:Option MV→St→Prop}(K:Kq v sh k V){u:MV}{vs:List MV}(hv:n6 u=some vs)
  {A:Around} {s:Shared} {w:Wd} {ω:Nat→Option Addr} {P:PMap} {L:FL} {fa:Option Addr×Option Addr} {q:Str} {cd a:Value} {Q:Flow→Shared→Prop} {E E':Value→Shared→Prop} {st:St} {ds:Ds}
  (hA:Rm A (n+1)) (F:Fm C.N w ω P L f st s.heap) (V1:VRel C.N w u a) (e:am (lN (λst k=>ae C.N.T Ψ b st k) k i vs st ds) v sh)
  (go:∀r st',V r st'→ ∀w' ω' m' h' tk fl,w.Ext w'→Fm C.N w' ω' P (L.wm m') f st' h'→uD C.N w' r fl→Q fl {s with heap:=h',toks:=tk}) :
  wpAny (model C.prog C.wd) A (pyIter a) (λit s'=>codeAny (model C.prog C.wd) A (.forLoop (.Name (aL f i) p) it bx [] (bv q f.sc L fa cd)) (λr s'=>match r with | .ok f=>Q f s' | .error e=>E' e s') s') E s:=by
 have Z:Lone w ω P L s.heap.objs.size:=F.lone (Heap.get?_none_of_le (cz _));refine pP hv (λhv=>?_) λhv=>bH hv λx h1 h2=>?_
 ·obtain⟨vals,hrel,⟨hq,hn,c1,n1,c2⟩⟩:=VRel.lst_eq.mp (bT hv▸V1)
  rename_i qa o;have hat:=F.sh.frz _ _ hq;refine wpAny_pyIter_list ⟨_,hat,c1,n1,c2⟩ ?_;have hne:qa≠s.heap.objs.size:=λz=>by rw[z,Heap.get?_none_of_le (cz _)] at hat;exact aG hat
  have Wk:=Walks.list (prog:=C.prog) (w:=C.wd) (A:=A) hA.hand s.heap.objs.size qa hne vals.toArray;rw[show vals.toArray.size=vs.length by rw[nk];exact hrel.length_eq.symm] at Wk
  exact yK D fo G hr hi hb K (s:={s with heap:=s.heap.push {cls:=.type "list_iterator",data:=.fields #[.ref qa,.int 0 0]}}) hA Wk
   (λb hb=>by
    rcases qkz.mp hb with rfl | hb
    ·exact .inl rfl
    ·rw[qfz.mp hb];exact .inr (by rw[hq];rfl))
   (λi h hh=>by obtain⟨⟨o,h1,_⟩,_⟩:=hh;rw[h1];rfl)
   (λi v w' xx hv=>by
    have hv':vals[i]?=some v:=by simpa using hv
    have hi2:i<vs.length:=hrel.length_eq▸(List.getElem?_eq_some_iff.mp hv').1;obtain⟨a,ha,ra⟩:=hrel.get (List.getElem?_eq_getElem hi2);rw[← ay (hv'.symm.trans ha)] at ra;exact⟨_,List.getElem?_eq_getElem hi2,ra.mono xx⟩)
   ⟨⟨_,Heap.get?_push_size _ rfl,rfl,rfl⟩,⟨_,Heap.get?_push_of_some _ hat,c1,n1,c2⟩⟩ Z (F.keeps λb o e=>Heap.get?_push_of_some _ e) e go
 ·obtain⟨ht,t,rfl⟩:=(bg h1▸V1:VRel C.N w (.str x) a).str_inv
  subst h2;have hlen:(aj x).cps.size=(x.map λc=>MV.str [c]).length:=by rw[fP];show x.toArray.size=_;simp
  have hPv:∀(i:Nat) (v:Value) (w':Wd),w.Ext w'→SignAt (aj x) i v→ ∃mv,(x.map λc=>MV.str [c])[i]?=some mv∧VRel C.N w' mv v:=by
   rintro i v w' _ ⟨c,u,hc,rfl⟩
   have hc':x[i]?=some c:=by
    have:x.toArray[i]?=some c:=hc;simpa using this
   exact⟨.str [c],by rw[List.getElem?_map,hc'];rfl,.str u (by show 1≤ak;decide)⟩
  cases ha:(aj x).cps.all (· < 128)
  ·refine wpAny_pyIter_wide ha ?_
   have Wk:=Walks.strWide (prog:=C.prog) (w:=C.wd) (A:=A) hA.hand s.heap.objs.size (aj x) t;rw[hlen] at Wk
   exact yK D fo G hr hi hb K (s:={s with heap:=s.heap.push {cls:=.type "str_iterator",data:=.fields #[.str (aj x) t,.int 0 0]}}) hA Wk
    (λb hb=>.inl (qfz.mp hb)) (λi h hh=>by obtain⟨o,h1,_⟩:=hh;rw[h1];rfl) hPv ⟨_,Heap.get?_push_size _ rfl,rfl,rfl⟩ Z (F.keeps λb o e=>Heap.get?_push_of_some _ e) e go
  ·refine wpAny_pyIter_ascii ha ?_
   have Wk:=Walks.strAscii (prog:=C.prog) (w:=C.wd) (A:=A) hA.hand s.heap.objs.size (aj x) t;rw[hlen] at Wk
   exact yK D fo G hr hi hb K (s:={s with heap:=s.heap.push {cls:=.type "str_ascii_iterator",data:=.fields #[.str (aj x) t,.int 0 0]}}) hA Wk
    (λb hb=>.inl (qfz.mp hb)) (λi h hh=>by obtain⟨o,h1,_⟩:=hh;rw[h1];rfl) hPv ⟨_,Heap.get?_push_size _ rfl,rfl,rfl⟩ Z (F.keeps λb o e=>Heap.get?_push_of_some _ e) e go
theorem uH{b:MSs}{bx:List Stmt}{i:Nat}{p:Pos}(hi:gw f i=true)(hb:Bs C Ψ n f v sh b bx){k:Option MV→St→Ds→R}{V:Option MV→St→Prop}(K:Kq v sh k V){N:Int}{t:Tok}(hN:N.natAbs≤1000)
  {A:Around} {s:Shared} {w:Wd} {ω:Nat→Option Addr} {P:PMap} {L:FL} {fa:Option Addr×Option Addr} {q:Str} {cd:Value} {Q:Flow→Shared→Prop} {E E':Value→Shared→Prop} {st:St} {ds:Ds}
  (hA:Rm A (n+1)) (F:Fm C.N w ω P L f st s.heap) (e:am (lN (λst k=>ae C.N.T Ψ b st k) k i (dS N.toNat) st ds) v sh)
  (go:∀r st',V r st'→ ∀w' ω' m' h' tk fl,w.Ext w'→Fm C.N w' ω' P (L.wm m') f st' h'→uD C.N w' r fl→Q fl {s with heap:=h',toks:=tk}) :
  wpAny (model C.prog C.wd) A (call (.type "range") [.int N t]) (λa s'=>wpAny (model C.prog C.wd) A (pyIter a) (λit s'=>codeAny (model C.prog C.wd) A (.forLoop (.Name (aL f i) p) it bx [] (bv q f.sc L fa cd)) (λr s'=>match r with | .ok f=>Q f s' | .error e=>E' e s') s') E s') E s:=by
 refine call_range_1 ?_;refine wpAny_pyIter_range (IsRange.new ..) (small_one (by decide) (by decide) (by omega) (by omega)) ?_
 have F2:=F.keeps (h':=s.heap.push {cls:=.type "range",data:=.fields #[.int 0 s.toks,.int N t,.int 1 (s.toks+1)]}) λb o e=>Heap.get?_push_of_some _ e;have Z:=F2.lone (I:=(s.heap.push {cls:=.type "range",data:=.fields #[.int 0 s.toks,.int N t,.int 1 (s.toks+1)]}).objs.size) (Heap.get?_none_of_le (cz _));have Wk:=PySem.Walks.bound (Walks.range (prog:=C.prog) (w:=C.wd) (A:=A) hA.hand (s.heap.push {cls:=.type "range",data:=.fields #[.int 0 s.toks,.int N t,.int 1 (s.toks+1)]}).objs.size 0 1 N.toNat);have hsz:Builtin.Range.rangeSize 0 N 1=(N.toNat:Int):=by rw[rangeSize_one];split<;>omega
 have hln:N.toNat=(dS N.toNat).length:=(cp _).symm
 refine yK D fo G hr hi hb K (s:={s with heap:=(s.heap.push {cls:=.type "range",data:=.fields #[.int 0 s.toks,.int N t,.int 1 (s.toks+1)]}).push {cls:=.type "range_iterator",data:=.fields #[rawInt 0,rawInt (Builtin.Range.rangeSize 0 N 1),rawInt 1]},toks:=s.toks+1+1}) hA (hln▸Wk)
  (λb hb=>.inl (qfz.mp hb)) (λi h hh=>by rw[show h.get? _=some _ from hh];rfl) (λi v w' _ hv=>?_) ?_ Z (F2.keeps λb o e=>Heap.get?_push_of_some _ e) e go
 ·obtain⟨hi,t,rfl⟩:=hv
  refine⟨.int i,mx (by omega),?_⟩
  rw[show (0+(i:Int)*1)=i by omega]
  exact .int _ _
 ·show IsRangeIter _ _ (0+((0:Nat):Int)*1) ((((dS N.toNat).length:Nat):Int)-((0:Nat):Int)) 1
  rw[cp,show (0+((0:Nat):Int)*1)=0 by simp,show (((N.toNat:Nat):Int)-((0:Nat):Int))=Builtin.Range.rangeSize 0 N 1 by rw[hsz];simp]
  exact Heap.get?_push_size _ rfl
end
open PySem PySem.W PyProof.Rows PySem.Calls PySem.Builtin
section
variable {C:Cx}{Ψ:Psi}{n:Nat}{f:Fc}{v:MV}{sh:Sto}
inductive ForPI (C:Cx) (Ψ:Psi) (f:Fc) (v:MV) (sh:Sto) (b:MSs) (t:MT) (k:Option MV→St→Ds→R) (vs:List MV) (I:Addr) (St':Nat→Heap→Prop) (w:Wd) (P:PMap) (La:FL) (s:Shared) (m:Nat):Shared→Prop
 |mk {w':Wd} {ω':Nat→Option Addr} {m':Str→Option Value} {st1:St} {h':Heap} {tk j:Nat} {ds:Ds} (x:w.Ext w') (Z:Lone w' ω' P (La.wm m') I) (F:Fm C.N w' ω' P (La.wm m') f st1 h') (hst:St' j h') (hm:m+j=vs.length+1) (hj:j≤vs.length)
   (e:am (jf C.N.T Ψ (λst k=>ae C.N.T Ψ b st k) k t (vs.drop j) st1 ds) v sh):ForPI C Ψ f v sh b t k vs I St' w P La s m {s with heap:=h',toks:=tk}
variable (D:Snd C Ψ.phi n)(fo:FcOk f)(G:RgOk C)(hr:rl sh≤ak)
include D fo G hr
theorem nJ{t:MT}{tx:Expr}(ot:DC C f t tx=true){b:MSs}{bx:List Stmt}(hb:Bs C Ψ n f v sh b bx){k:Option MV→St→Ds→R}{V:Option MV→St→Prop}(K:Kq v sh k V){u:MV}{vs:List MV}
  (ih:∀st ds,am (jf C.N.T Ψ (λst k=>ae C.N.T Ψ b st k) k t vs st ds) v sh→rl st.sh≤rl sh) {st:St} {ds:Ds} (h:am (jf C.N.T Ψ (λst k=>ae C.N.T Ψ b st k) k t (u::vs) st ds) v sh) :
  rl st.sh≤rl sh∧Xt C n f (λa env=>assign (uT C f t tx) env a) u st λs1=>Xs C n f (execs bx) s1 (G7 k (jf C.N.T Ψ (λst k=>ae C.N.T Ψ b st k) k t vs) v sh):=
 mw D fo G hr ot (k:=λst=>ae C.N.T Ψ b st λr st=>pO r k (jf C.N.T Ψ (λst k=>ae C.N.T Ψ b st k) k t vs) st) h λs1 d1 h=>hb h (lz K ih)
theorem oM{t:MT}{tx:Expr}(ot:DC C f t tx=true){b:MSs}{bx:List Stmt}(hb:Bs C Ψ n f v sh b bx){k:Option MV→St→Ds→R}{V:Option MV→St→Prop}(K:Kq v sh k V):∀(vs:List MV) (st:St) (ds:Ds),am (jf C.N.T Ψ (λst k=>ae C.N.T Ψ b st k) k t vs st ds) v sh→rl st.sh≤rl sh
 |[],st,ds,h=>(K _ _ _ h).1
 |u::vs,st,ds,h=>(nJ D fo G hr ot hb K (oM ot hb K vs) h).1
theorem BJ{t:MT}(ht:ro t=true){u:MV}{st:St}{k:St→Ds→R}{ds:Ds}(h:am (dD C.N.T Ψ u t st k ds) v sh):∃us,u= .tup us:=by
 cases t with
 |tup is=>exact dY h λst' e h=>ad e λus h1 e=>⟨us,ji h1⟩
 |_=>exact aB ht
theorem Eg{t:MT}{tx:Expr}(ot:DC C f t tx=true)(ht:ro t=true){b:MSs}{bx:List Stmt}(hb:Bs C Ψ n f v sh b bx){k:Option MV→St→Ds→R}{V:Option MV→St→Prop}(K:Kq v sh k V){vs:List MV}
  {A:Around} {s:Shared} {w:Wd} {ω:Nat→Option Addr} {P:PMap} {L:FL} {fa:Option Addr×Option Addr} {q:Str} {cd a:Value} {Q:Flow→Shared→Prop} {E E':Value→Shared→Prop} {st:St} {ds:Ds}
  (hA:Rm A (n+1)) (F:Fm C.N w ω P L f st s.heap) (V1:VRel C.N w (.lst vs) a) (e:am (jf C.N.T Ψ (λst k=>ae C.N.T Ψ b st k) k t vs st ds) v sh)
  (go:∀r st',V r st'→ ∀w' ω' m' h' tk fl,w.Ext w'→Fm C.N w' ω' P (L.wm m') f st' h'→uD C.N w' r fl→Q fl {s with heap:=h',toks:=tk}) :
  wpAny (model C.prog C.wd) A (pyIter a) (λit s'=>codeAny (model C.prog C.wd) A (.forLoop (uT C f t tx) it bx [] (bv q f.sc L fa cd)) (λr s'=>match r with | .ok f=>Q f s' | .error e=>E' e s') s') E s:=by
 have Z:Lone w ω P L s.heap.objs.size:=F.lone (Heap.get?_none_of_le (cz _));obtain⟨vals,hrel,⟨hq,hn,c1,n1,c2⟩⟩:=VRel.lst_eq.mp V1;rename_i qa o;have hat:=F.sh.frz _ _ hq;refine wpAny_pyIter_list ⟨_,hat,c1,n1,c2⟩ ?_;have hne:qa≠s.heap.objs.size:=λz=>by rw[z,Heap.get?_none_of_le (cz _)] at hat;exact aG hat
 have W:=Walks.list (prog:=C.prog) (w:=C.wd) (A:=A) hA.hand s.heap.objs.size qa hne vals.toArray;rw[show vals.toArray.size=vs.length by rw[nk];exact hrel.length_eq.symm] at W
 obtain⟨I,hI⟩:∃I,I=s.heap.objs.size:=⟨_,rfl⟩;have F0:=F.keeps (h':=s.heap.push {cls:=.type "list_iterator",data:=.fields #[.ref qa,.int 0 0]}) λb o e=>Heap.get?_push_of_some _ e;have hst:(s.heap.push {cls:=.type "list_iterator",data:=.fields #[.ref qa,.int 0 0]}).IsListIter I qa 0∧(s.heap.push {cls:=.type "list_iterator",data:=.fields #[.ref qa,.int 0 0]}).IsList qa vals.toArray:=hI▸⟨⟨_,Heap.get?_push_size _ rfl,rfl,rfl⟩,⟨_,Heap.get?_push_of_some _ hat,c1,n1,c2⟩⟩;rw[← hI] at W Z ⊢;refine codeAny_forLoop_any (ForPI C Ψ f v sh b t k vs I (λi h=>h.IsListIter I qa i∧h.IsList qa vals.toArray) w P L s) ?_ (vs.length+1) ⟨.refl w,Z,F0,hst,rfl,iw _,e⟩
 rintro m s' ⟨x1,Z1,F1,hst1,hm,hj,e1⟩
 rename_i w1 ω1 m1 st1 h1 tk1 j ds1;by_cases hlt:j<vs.length
 ·refine W.item j _ _ _ hlt hst1 λva h2 tk2 hv hst2 hk2=>?_
  have F2:=F1.keepBut (h':=h2) Z1 λb o hb e=>hk2 b o (λz=>hb (qfz.mp z)) e;have hv':vals[j]?=some va:=by simpa using hv
  obtain⟨a',ha,ra⟩:=hrel.get (List.getElem?_eq_getElem hlt);have V1:=(ay (hv'.symm.trans ha)▸ra:VRel C.N w vs[j] va).mono x1;have hdrop:vs.drop j=vs[j]::vs.drop (j+1):=List.drop_eq_getElem_cons hlt;rw[hdrop] at e1;have rb:=nJ D fo G hr ot hb K (oM D fo G hr ot hb K (vs.drop (j+1))) e1;obtain⟨us,hus⟩:=BJ D fo G hr ht (k:=λst=>ae C.N.T Ψ b st λr st=>pO r k (jf C.N.T Ψ (λst k=>ae C.N.T Ψ b st k) k t (vs.drop (j+1))) st) e1
  obtain⟨Ta,rfl⟩:∃Ta,va= .ref Ta:=by
   rw[hus] at V1;obtain⟨_,_,⟨_,_⟩⟩:=VRel.tup_eq.mp V1;exact⟨_,rfl⟩
  have hgo:∀(Q':Unit→Shared→Prop) (E'':Value→Shared→Prop),Q' () {s with heap:=h2,toks:=tk2}→wpAny (model C.prog C.wd) A (letOwnedTupleGo (uT C f t tx) (.ref I) (.ref Ta)) Q' E'' {s with heap:=h2,toks:=tk2}:=λQ' E'' hQ=>by
   cases t with
   |tup is=>exact wpAny_letOwnedTupleGo_listiter hst2.1 hQ
   |_=>exact aB ht
  refine hgo _ _ ?_;obtain⟨oI,hoI,hoc⟩:=hst2.1;have F3:=F2.protect Z1 hoI;refine rb.2 (s:={s with heap:=h2,toks:=tk2}) (L:=(L.wm m1)) hA F3 V1 λs4 H4 w4 ω4 m4 h4 tk4 x4 F4=>?_
  refine H4 (s:={s with heap:=h4,toks:=tk4}) (L:=(L.wm m4)) hA F4 λr s5 H w5 ω5 m5 h5 tk5 fl x5 F5 V5=>?_
  obtain⟨Z5,hI5,F6⟩:=Fm.unprotect Z.P F5;obtain⟨d5,H⟩:=H;cases r with
  |some u=>
   obtain⟨a,rfl,V5⟩:=V5;exact go _ s5 (K _ _ _ H).2 w5 ω5 m5 h5 tk5 _ ((x1.trans x4).trans x5) F6 ⟨a,rfl,V5⟩
  |none=>
   obtain rfl:fl= .next:=V5;refine⟨m-1,by omega,(x1.trans x4).trans x5,Z5,F6,⟨⟨oI,hI5,hoc⟩,⟨_,F6.sh.frz _ _ (((x1.trans x4).trans x5).G _ _ hq),c1,n1,c2⟩⟩,(by omega:m-1+(j+1)=vs.length+1),hlt,H⟩
 ·obtain rfl:j=vs.length:=by omega
  refine W.done _ _ _ hst1 λh2 tk2 hk2=>?_;have F2:=F1.keepBut (h':=h2) Z1 λb o hb e=>hk2 b o (λz=>hb (qfz.mp z)) e;rw[List.drop_length] at e1;exact wpAny_execs_nil (go none st1 (K _ _ _ e1).2 w1 ω1 m1 h2 tk2 _ x1 F2 rfl)
end
open PySem PySem.W PyProof.Rows PySem.Calls PySem.Builtin
theorem yL{o:Option NameKind}(h:Bn o=true):o=some .free:=by
 cases o with
 |none=>exact aB h
 |some k=>cases k<;>first | rfl | exact aB h
theorem BK{x:Str}{l:List (Str×NameKind)}(h:Bn (cF x l)=true):l.lookup x=some .free:=lookL_eq.trans (yL h)
theorem BM{l:List Str}(h:J0 l=true):l.Nodup:=by
 induction l with
 |nil=>exact .nil
 |cons k r ih=>
  refine List.nodup_cons.mpr ⟨λm=>?_,ih (aa h)⟩;have:=qdz.mp (ab h) k m;rw[← eqS_beq,beq_self_eq_true] at this;exact aB this
section
variable {C:Cx}{Ψ:Psi}{n:Nat}{f:Fc}{v:MV}{sh:Sto}
variable (D:Snd C Ψ.phi n)(fo:FcOk f)(G:RgOk C)(hr:rl sh≤ak)
include D fo G hr
theorem BN(i:Nat)(l:Loc)(m:Int)(src:ME)(t:Stmt)(ok:Bp C f (.asgl i l m src) t=true){st:St}{k:Option MV→St→Ds→R}{ds:Ds}{V:Option MV→St→Prop}(h:am (Ba C.N.T Ψ (.asgl i l m src) st k ds) v sh)(K:Kq v sh k V) :
  rl st.sh≤rl sh∧Xs C n f (exec (Bi C f (.asgl i l m src) t)) st V:=by
 have q1:=ab ok;have q2:=aa q1;have q3:=aa q2;have q4:=aa q3;have q5:=aa q4;have o2:=aa ok;have o3:=aa o2
 have r:=bM D fo G hr src (jo (sE t)).iter (ab q2) (V:=λa s1=>∃vs ws p,a= .lst vs∧vs.length≤ak∧bp m vs=some ws∧bQ s1 l ws=some p∧V none (aJ p.2 i p.1)) h λa s1 d1 h=>dY h λvs e h=>rj h λhl d2 h=>dY h λws e2 h=>dY h λp e3 h=>
  ⟨iE (eu (v:=p.1) (st':=p.2) e3) (K none (aJ p.2 i p.1) d2 h).1,vs,ws,p,bT e,bf hl,e2,e3,(K none (aJ p.2 i p.1) d2 h).2⟩
 exact⟨r.1,BE fo (ab o2) (ab q2) (λz=>by rw[z] at h;exact h) (uS (ab q1)) (gV (ab q3)) (rI (ab q4)) (eqS_beq.trans (nf (ab q5))) (ce (ab (aa q5))) (ab o3) r.2⟩
theorem BO(i:Nat)(l:Loc)(a b:ME)(t:Stmt)(ok:Bp C f (.asga i l a b) t=true){st:St}{k:Option MV→St→Ds→R}{ds:Ds}{V:Option MV→St→Prop}(h:am (Ba C.N.T Ψ (.asga i l a b) st k ds) v sh)(K:Kq v sh k V) :
  rl st.sh≤rl sh∧Xs C n f (exec (Bi C f (.asga i l a b) t)) st V:=by
 have r:=bM D fo G hr a (aA (sE t)) (ab ok) (V:=λu s1=>Xv C n f (eval (bw C f b (cm (sE t)))) s1 λy s2=>∃vs ws q,u= .lst vs∧y= .lst ws∧(vs++ws).length≤ak∧bQ s2 l (vs++ws)=some q∧V none (aJ q.2 i q.1)) h λu s1 d1 h=>
  bM D fo G hr b (cm (sE t)) (ab (aa ok)) (V:=λy s2=>∃vs ws q,u= .lst vs∧y= .lst ws∧(vs++ws).length≤ak∧bQ s2 l (vs++ws)=some q∧V none (aJ q.2 i q.1)) h λy s2 d2 h=>dY h λzs e h=>rj h λhl d3 h=>dY h λq e3 h=>ad e λvs h1 e=>bH e λws h2 e=>
   ⟨iE (eu (v:=q.1) (st':=q.2) e3) (K none (aJ q.2 i q.1) d3 h).1,vs,ws,q,bT h1,bT h2,by rw[show vs++ws=zs from e];exact bf hl,by rw[show vs++ws=zs from e];exact e3,(K none (aJ q.2 i q.1) d3 h).2⟩
 exact⟨r.1,BF fo (ab (aa (aa ok))) r.2⟩
theorem BQ(l:Loc)(i:Nat)(t:Stmt)(ok:Bp C f (.retc l i) t=true){st:St}{k:Option MV→St→Ds→R}{ds:Ds}{V:Option MV→St→Prop}(h:am (Ba C.N.T Ψ (.retc l i) st k ds) v sh)(K:Kq v sh k V) :
  rl st.sh≤rl sh∧Xs C n f (exec (Bi C f (.retc l i) t)) st V:=
 yh h (λd1 h=>dY h λp e h=>⟨j0 (v:=p.1) (st':=p.2) e▸(K _ _ d1 h).1,BG fo (ab ok) ⟨p,e,(K _ _ d1 h).2⟩⟩)
  λd1 h=>dY h λvs e h=>dY h λp e2 h=>⟨iE (eu (st:={st with vars:=eg st.vars i .unset}) (v:=p.1) (st':=p.2) e2) (K _ _ d1 h).1,BH fo (ab ok) ⟨vs,p,e,e2,(K _ _ d1 h).2⟩⟩
omit fo in
theorem s8{f':Fc}(fo':FcOk f'){e:ME}{te:Expr}(oe:okE C f' e te=true){vs:List MV}{k:List MV→Sto→Ds→R}{V:List MV→Sto→Prop}(K:∀ws sh1 ds,am (k ws sh1 ds) v sh→rl sh1≤rl sh∧V ws sh1):∀(N:Nat) (ws:List MV) (sh1:Sto) (ds:Ds),
  am (no (λsh k=>dQ C.N.T Ψ e ⟨sh,vs.map .val⟩ λv st=>k v st.sh) k N ws sh1 ds) v sh→rl sh1≤rl sh∧qr C n f' (eval (bw C f' e te)) vs V N ws sh1
 |0,ws,sh1,ds,h=>K ws sh1 ds h
 |N+1,ws,sh1,ds,h=>bM D fo' G hr e te oe (st:=⟨sh1,vs.map .val⟩) (k:=λv st=>no (λsh k=>dQ C.N.T Ψ e ⟨sh,vs.map .val⟩ λv st=>k v st.sh) k N (ws++[v]) st.sh) (V:=λv st=>qr C n f' (eval (bw C f' e te)) vs V N (ws++[v]) st.sh) h λu s1 d1 h=>s8 fo' oe K N (ws++[u]) s1.sh d1 h
theorem Eh{is:List Nat}{dZ e:ME}{t:Expr}(ok:Bo C f is dZ e t=true){st:St}{k:St→List MV→Sto→Ds→R}{ds:Ds}{V:MV→St→Prop}
  (h:am (dQ C.N.T Ψ dZ st (λc st=>cc (eC c) λn=>vo n λn=>dT (aS n.natAbs 1000) (cc (jS st is) λvs=>no (λsh k=>dQ C.N.T Ψ e ⟨sh,vs.map .val⟩ λv st=>k v st.sh) (k st) n.toNat [] st.sh)) ds) v sh)
  (K:∀st ws sh1 ds,am (k st ws sh1 ds) v sh→rl sh1≤rl sh∧V (.lst ws) {st with sh:=sh1}):rl st.sh≤rl sh∧Xv C n f (eval (Bh C f is dZ e t)) st V:=by
 have o2:=aa ok;have o3:=aa o2;have o4:=aa o3;have o5:=aa o4;have o6:=aa o5;have o7:=aa o6;have o8:=aa o7;have hk:=gV (ab o6)
 have hcel:∀i∈is,CelOk f (fL t) i:=λi hi=>by
  have:=qdz.mp (ab o5) i hi;refine⟨?_,lw (ab (aa this)),BK (aa (aa this))⟩;unfold aL;rw[List.getElem?_eq_getElem (dy (ab this))];rfl
 have fo':FcOk (sN f (fL t) is):=⟨hk,BM (ab o4)⟩;have hn:=λy hy=>qdz.mp (ab o8) y hy
 have r:=bM D fo G hr dZ (dR (bh (jo t).iter)) (ab ok) (V:=λc s1=>∃N vs,c= .int N∧N.natAbs≤1000∧jS s1 is=some vs ∧
   qr C n (sN f (fL t) is) (eval (bw C (sN f (fL t) is) e (aA t))) vs (λws sh=>V (.lst ws) {s1 with sh:=sh}) N.toNat [] s1.sh) h λc s1 d1 h=>dY h λN e1 h=>(og h).elim λd2 h=>rj h λhN d3 h=>dY h λvs e2 h=>by
  have q:=s8 D G hr fo' (ab o3) (V:=λws sh=>V (.lst ws) {s1 with sh:=sh}) (λws sh1 ds h=>K s1 ws sh1 ds h) N.toNat [] s1.sh d3 h
  exact⟨q.1,N,vs,bz e1,bf hN,e2,q.2⟩
 refine⟨r.1,G6 D fo G (ab ok) (jw (ab o2)) hcel hk (jv (ab o7)) (λy hy hl=>?_) (λy hy hl=>?_) (λy hy hl=>?_) r.2⟩
 ·have:=hn y hy
  rw[hl] at this;exact jv this
 ·have:=hn y hy
  rw[hl] at this;exact aB this
 ·have:=hn y hy
  rw[hl] at this;obtain⟨i,hi,e⟩:=List.any_eq_true.mp this;exact⟨i,hi,(j7 e).symm⟩
theorem BS(tag:Tx)(j:Bool)(is:List Nat)(dZ e:ME)(t:Stmt)(ok:Bp C f (.retL tag j is dZ e) t=true){st:St}{k:Option MV→St→Ds→R}{ds:Ds}{V:Option MV→St→Prop}(h:am (Ba C.N.T Ψ (.retL tag j is dZ e) st k ds) v sh)(K:Kq v sh k V) :
  rl st.sh≤rl sh∧Xs C n f (exec (Bi C f (.retL tag j is dZ e) t)) st V:=by
 cases j with
 |false=>
  have r:=Eh D fo G hr (t:=dR (fc (cP (sE t)))) (aa ok) (k:=λst=>ua tag false st k) (V:=λu s1=>V (some (.tup [.str tag,u])) s1) h λst ws sh1 ds h=>K _ _ ds h;exact⟨r.1,λA E s w ω P L fa q cd Q hA F go=>wpAny_Return_some (wo (V:=λu s1=>V (some u) s1) (ab ok) (λenv=>rfl) r.2 hA F λu s1 H w1 ω1 h1 tk1 a x1 F1 V1=>go _ s1 H w1 ω1 _ h1 tk1 _ x1 F1 ⟨a,rfl,V1⟩)⟩
 |true=>
  have o2:=aa ok
  have r:=Eh D fo G hr (t:=dR (bh (dR (fc (cP (sE t)))))) (ab o2) (k:=λst=>ua tag true st k) (V:=λu s1=>∃ws xs,u= .lst ws∧cA ws=some xs∧(xs.map List.length).sum≤ak∧rl s1.sh≤ak∧V (some (.tup [.str tag,.str (dh [] xs)])) s1) h λst ws sh1 ds h=>
   dY h λxs e h=>rj h λhl d2 h=>⟨(K _ _ d2 h).1,ws,xs,rfl,e,bf hl,iE (K _ _ d2 h).1 hr,(K _ _ d2 h).2⟩
  have r2:=BI D (t0:=aA (aA (dR (fc (cP (sE t)))))) (p1:=(aA (dR (fc (cP (sE t))))).pos) (p2:=(dR (fc (cP (sE t)))).pos) (V:=λu s1=>V (some (.tup [.str tag,u])) s1) (ab (aa o2)) (aa (aa o2)) (λenv=>rfl) r.2;exact⟨r.1,λA E s w ω P L fa q cd Q hA F go=>wpAny_Return_some (wo (V:=λu s1=>V (some u) s1) (ab ok) (λenv=>rfl) r2 hA F λu s1 H w1 ω1 h1 tk1 a x1 F1 V1=>go _ s1 H w1 ω1 _ h1 tk1 _ x1 F1 ⟨a,rfl,V1⟩)⟩
end
open PySem PySem.W PyProof.Rows PySem.Calls PySem.Builtin
section
variable {C:Cx}{Ψ:Psi}{n:Nat}{f:Fc}{v:MV}{sh:Sto}
inductive WhInv (C:Cx) (Ψ:Psi) (f:Fc) (v:MV) (sh:Sto) (t:MB) (b:MSs) (k:Option MV→St→Ds→R) (w:Wd) (P:PMap) (La:FL) (s:Shared) (m:Nat):Shared→Prop
 |mk {w':Wd} {ω':Nat→Option Addr} {m':Str→Option Value} {st1:St} {h':Heap} {tk:Nat} {ds:Ds} (x:w.Ext w') (F:Fm C.N w' ω' P (La.wm m') f st1 h')
   (e:am (fy (λst k=>fR C.N.T Ψ t st k) (λst k=>ae C.N.T Ψ b st k) k m st1 ds) v sh):WhInv C Ψ f v sh t b k w P La s m {s with heap:=h',toks:=tk}
noncomputable abbrev Ss(C:Cx)(Ψ:Psi)(n:Nat)(f:Fc)(v:MV)(sh:Sto)(b:MS)(bx:Stmt):Prop:=∀⦃st:St⦄ ⦃k:Option MV→St→Ds→R⦄ ⦃ds:Ds⦄ ⦃V:Option MV→St→Prop⦄,am (Ba C.N.T Ψ b st k ds) v sh→Kq v sh k V→rl st.sh≤rl sh∧Xs C n f (exec bx) st V
theorem qs{st:St}{i:Nat}(h:vm st i=true):∃vs,je st i=some vs:=qez.mp h
theorem BU{st s2:St}{i:Nat}{u:MV}(h:eA st i u=some s2):s2.sh=st.sh:=ad h λ_ _ h=>ad h λ_ _ h=>(ay (eF h).2)▸rfl
theorem BV{st s2:St}{i:Nat}{u:MV}(h:dm st i u=some s2):s2.sh=st.sh:=ad h λ_ _ h=>(ay (eF h).2)▸rfl
variable (D:Snd C Ψ.phi n)(fo:FcOk f)(G:RgOk C)(hr:rl sh≤ak)
include D fo G hr
theorem Ei{t:MB}{tx:Expr}{b:MSs}{bx:List Stmt}(ot:uU C f t tx=true)(hb:Bs C Ψ n f v sh b bx){k:Option MV→St→Ds→R}{V:Option MV→St→Prop}(K:Kq v sh k V){m:Nat}
  (ih:∀st ds,am (fy (λst k=>fR C.N.T Ψ t st k) (λst k=>ae C.N.T Ψ b st k) k m st ds) v sh→rl st.sh≤rl sh) {st:St} {ds:Ds} (h:am (fy (λst k=>fR C.N.T Ψ t st k) (λst k=>ae C.N.T Ψ b st k) k (m+1) st ds) v sh) :
  rl st.sh≤rl sh∧Xb C n f (λenv=>isTrue (pW C f t tx) env (eval (pW C f t tx) env)) st λc s1=>(c=true→Xs C n f (execs bx) s1 (G7 k (fy (λst k=>fR C.N.T Ψ t st k) (λst k=>ae C.N.T Ψ b st k) k m) v sh))∧(c=false→V none s1):=
 kG D fo G hr t tx ot h λc s1 d1 h=>z8 h (λe d2 h=>let r:=hb h (lz K ih);⟨r.1,λ_=>r.2,λz=>aB (z.symm.trans e)⟩) λe d2 h=>⟨(K _ _ _ h).1,λz=>aB (e.symm.trans z),λ_=>(K _ _ _ h).2⟩
theorem wp{t:MB}{tx:Expr}{b:MSs}{bx:List Stmt}(ot:uU C f t tx=true)(hb:Bs C Ψ n f v sh b bx){k:Option MV→St→Ds→R}{V:Option MV→St→Prop}(K:Kq v sh k V):∀(m:Nat) (st:St) (ds:Ds),am (fy (λst k=>fR C.N.T Ψ t st k) (λst k=>ae C.N.T Ψ b st k) k m st ds) v sh→rl st.sh≤rl sh
 |0,st,ds,h=>(h:False).elim
 |m+1,st,ds,h=>(Ei D fo G hr ot hb K (wp ot hb K m) h).1
theorem yM{t:MB}{tx:Expr}{b:MSs}{bx:List Stmt}(ot:uU C f t tx=true)(hb:Bs C Ψ n f v sh b bx){k:Option MV→St→Ds→R}{V:Option MV→St→Prop}(K:Kq v sh k V){N:Nat}{st:St}{ds:Ds}
  (e:am (fy (λst k=>fR C.N.T Ψ t st k) (λst k=>ae C.N.T Ψ b st k) k N st ds) v sh)
  {A:Around} {s:Shared} {w:Wd} {ω:Nat→Option Addr} {P:PMap} {L:FL} {fa:Option Addr×Option Addr} {q:Str} {cd:Value} {Q:Flow→Shared→Prop} {E:Value→Shared→Prop} (hA:Rm A (n+1)) (F:Fm C.N w ω P L f st s.heap)
  (go:∀r st',V r st'→ ∀w' ω' m' h' tk fl,w.Ext w'→Fm C.N w' ω' P (L.wm m') f st' h'→uD C.N w' r fl→Q fl {s with heap:=h',toks:=tk}) :
  codeAny (model C.prog C.wd) A (.whileLoop (pW C f t tx) bx [] (bv q f.sc L fa cd)) (λr s'=>match r with | .ok f=>Q f s' | .error e=>E e s') s:=by
 refine codeAny_whileLoop (WhInv C Ψ f v sh t b k w P L s) ?_ N ⟨.refl w,F,e⟩
 rintro m s' ⟨x,F',e⟩
 rename_i w' ω' m' stm h' tk ds';cases m with
 |zero=>exact(e:False).elim
 |succ m=>
  refine(Ei D fo G hr ot hb K (wp D fo G hr ot hb K m) e).2 (L:=(L.wm m')) hA F' λc s1 H w1 ω1 h1 tk1 x1 F1=>?_;cases c with
  |false=>rw[bL Bool.false_ne_true];exact wpAny_execs_nil (go none s1 (H.2 rfl) w1 ω1 m' h1 tk1 _ (x.trans x1) F1 rfl)
  |true=>
   rw[cw rfl];refine(H.1 rfl) (L:=(L.wm m')) hA F1 λr s2 H w2 ω2 m2 h2 tk2 fl x2 F2 V2=>?_;obtain⟨d2,H⟩:=H;cases r with
   |some u=>
    obtain⟨a,rfl,V2⟩:=V2;exact go _ s2 (K _ _ _ H).2 w2 ω2 m2 h2 tk2 _ ((x.trans x1).trans x2) F2 ⟨a,rfl,V2⟩
   |none=>
    obtain rfl:fl= .next:=V2;exact⟨m,Nat.lt_succ_self _,⟨(x.trans x1).trans x2,F2,H⟩⟩
theorem BW(ts:List MT)(e:ME)(t:Stmt)(ok:Bp C f (.asg ts e) t=true)(hc:Bj e=true):Ss C Ψ n f v sh (.asg ts e) (Bi C f (.asg ts e) t):=λst k ds V h K=>by
 have o3:=aa (aa ok);rw[hc,cond_true] at o3;cases ts with
 |nil=>exact aB (ab o3)
 |cons m r=>cases r with
  |cons _ _=>exact aB (ab o3)
  |nil=>cases m with
   |v i=>cases e with
    |comp m src=>
     have q1:=ab ok;have q2:=aa q1;have q3:=aa q2;have q4:=aa q3;have q5:=aa q4
     have r:=bM D fo G hr src (jo (sE t)).iter (ab q2) (V:=λa s1=>∃vs ws,a= .lst vs∧vs.length≤ak∧bp m vs=some ws∧V none (aJ s1 i (.lst ws))) h λa s1 d1 h=>dY h λvs e h=>rj h λhl d2 h=>dY h λws e2 h=>
      ⟨(K none (aJ s1 i (.lst ws)) d2 h).1,vs,ws,bT e,bf hl,e2,(K none (aJ s1 i (.lst ws)) d2 h).2⟩
     exact⟨r.1,BD fo (ab (ab (aa ok))) (ab q2) (λz=>by rw[z] at h;exact h) (uS (ab q1)) (gV (ab q3)) (rI (ab q4)) (eqS_beq.trans (nf (ab q5))) (ce (ab (aa q5))) (aa o3) r.2⟩
    |_=>exact aB hc
   |_=>exact aB (ab o3)
mutual
theorem G8:∀(m:MS) (t:Stmt),Bp C f m t=true→Ss C Ψ n f v sh m (Bi C f m t)
 |.expr e,t,ok=>λst k ds V h K=>
  let r:=bM D fo G hr e (sE t) (ab ok) (V:=λ_ s1=>V none s1) h λ_ s1 d1 h=>K _ s1 d1 h
  ⟨r.1,λA E s w ω P L fa q cd Q hA F go=>wpAny_Expr_any (r.2 hA F λu s1 H w1 ω1 h1 tk1 a x1 F1 V1=>go none s1 H w1 ω1 _ h1 tk1 _ x1 F1 rfl) (by unfold interactive;show (f.sc.kind== .module&&_)=false;rw[fo.kind];rfl) (ms (aa ok))⟩
 |.asg ts e,t,ok=>λst k ds V h K=>by
  have ok3:=aa (aa ok);cases hc:Bj e with
  |false=>
   rw[hc] at ok3;have r:=bM D fo G hr e (sE t) (ab ok) (V:=λu s1=>Xt C n f (λa env=>assignAll a ((assignEach (oy C f ts (xN t)) env).map (·.2))) u s1 λs2=>V none s2) h λu s1 d1 h=>qp D fo G hr ts (xN t) (ab (aa ok)) h λs2 d2 h=>K _ s2 d2 h
   exact⟨r.1,λA E s w ω P L fa q cd Q hA F go=>wpAny_Assign_stores (r.2 hA F λu s1 H w1 ω1 h1 tk1 a x1 F1 V1=>H hA F1 V1 λs2 H w2 ω2 m2 h2 tk2 x2 F2=>go none s2 H w2 ω2 m2 h2 tk2 _ (x1.trans x2) F2 rfl) (uE (ab ok3)) (oJ ok3)⟩
  |true=>exact BW D fo G hr ts e t ok hc h K
 |.asgo i es,t,ok=>λst k ds V h K=>
  let r:=mr D fo G hr es (cP (sE t)) (ab (aa ok)) (V:=λvs s1=>V none {s1 with vars:=eg s1.vars i (.own vs)}) h λvs s1 d1 h=>K _ _ d1 h
  ⟨r.1,BB fo (ab ok) (ab (aa ok)) (aa (aa ok)) r.2⟩
 |.augv i op e,t,ok=>λst k ds V h K=>by
  have hi:=ab (ab ok);refine dY h λp hg h=>?_;have r:=bM D fo G hr e (sE t) (aa ok) (V:=λb s1=>(t7 op p.1 b&&eE op p.1 b)=true∧ ∃u,ix op p.1 b=some u∧V none (aJ s1 i u)) h λb s1 d1 h=>rj h λhk d2 h=>dY h λu e h=>⟨(K _ _ d2 h).1,hk,u,e,(K _ _ d2 h).2⟩;refine⟨j0 hg▸r.1,λA E s w ω P L fa q cd Q hA F go=>?_⟩
  exact wpAny_AugAssign_Name (wa fo (dz hi) (.inl (bR hi)) F hg λw1 ω1 h1 tk1 va x1 F1 V1=>r.2 hA F1 λb s1 H w2 ω2 h2 tk2 vb x2 F2 V2=>H.2.elim λu H2=>Aj (V1.mono x2) V2 H.1 H2.1 λc tk3 V3=>
   qo fo (dz hi) (bR hi) (s:={s with heap:=h2,toks:=tk3}) F2 V3 λω3 m3 h3 tk4 F3=>go none _ H2.2 w2 ω3 m3 h3 tk4 _ (x1.trans x2) F3 rfl)
 |.augo i e,t,ok=>λst k ds V h K=>rj h λho d0 h=>(qs ho).elim λus hus=>
  let r:=bM D fo G hr e (sE t) (aa ok) (V:=λu s1=>∃s2,eA s1 i u=some s2∧V none s2) h λu s1 d1 h=>dY h λs2 e h=>⟨BU e▸(K _ _ d1 h).1,s2,e,(K _ _ d1 h).2⟩
  ⟨r.1,BC fo (ab ok) hus r.2⟩
 |.auga o a op e,t,ok=>λst k ds V h K=>by
  have ha:=dy (ab (aa ok))
  have r:=bM D fo G hr o (aA (vC t)) (ab ok) (V:=λov s1=>∃x,tZ C.N.T s1.sh ov a=some x∧Xv C n f (eval (bw C f e (sE t))) s1 λy s2=>(t7 op x y&&eE op x y)=true∧ ∃u,ix op x y=some u∧ ∃sh',rc C.N.T s2.sh ov a u=some sh'∧V none {s2 with sh:=sh'}) h λov s1 d1 h=>dY h λx e1 h=>
   let r:=bM D fo G hr e (sE t) (aa (aa ok)) (V:=λy s2=>(t7 op x y&&eE op x y)=true∧ ∃u,ix op x y=some u∧ ∃sh',rc C.N.T s2.sh ov a u=some sh'∧V none {s2 with sh:=sh'}) h λy s2 d2 h=>rj h λhk d3 h=>dY h λu e2 h=>dY h λsh' e3 h=>
    ⟨iE (nu e3) (K _ _ d3 h).1,hk,u,e2,sh',e3,(K _ _ d3 h).2⟩
   ⟨r.1,x,e1,r.2⟩
  refine⟨r.1,λA E s w ω P L fa q cd Q hA F go=>wpAny_AugAssign_AttributeAny (r.2 hA F λov s1 H w1 ω1 h1 tk1 va x1 F1 V1=>?_)⟩;obtain⟨x,e1,H⟩:=H;refine oA D.O F1 V1 e1 ha λw2 ω2 h2 tk2 vb x2 F2 V2=>H hA F2 λy s2 H w3 ω3 h3 tk3 vc x3 F3 V3=>?_;obtain⟨hk,u,e2,sh',e3,H⟩:=H;exact Aj (V2.mono x3) V3 hk e2 λc tk4 V4=>sR (s:={s with heap:=h3,toks:=tk4}) D.O F3 (V1.mono (x2.trans x3)) V4 e3 ha λh4 tk5 F4=>go none _ H w3 ω3 _ h4 tk5 _ ((x1.trans x2).trans x3) F4 rfl
 |.app i e,t,ok=>λst k ds V h K=>rj h λho d0 h=>(qs ho).elim λus hus=>
  let r:=bM D fo G hr e (dR (bh (sE t))) (ab (aa ok)) (V:=λu s1=>∃s2,dm s1 i u=some s2∧V none s2) h λu s1 d1 h=>dY h λs2 e h=>⟨BV e▸(K _ _ d1 h).1,s2,e,(K _ _ d1 h).2⟩
  ⟨r.1,Ef fo (ab ok) (ab (aa ok)) (aa (aa ok)) hus r.2⟩
 |.ife c a b,t,ok=>λst k ds V h K=>by
  have r:=kG D fo G hr c (sE t) (ab ok) (V:=λd s1=>(d=true→Xs C n f (execs (iL C f a (sB t))) s1 V)∧(d=false→Xs C n f (execs (iL C f b (sO t))) s1 V)) h λd s1 d1 h=>z8 h
   (λe d2 h=>let r:=iB a (sB t) (ab (aa ok)) h K;⟨r.1,λ_=>r.2,λz=>aB (z.symm.trans e)⟩) (λe d2 h=>let r:=iB b (sO t) (aa (aa ok)) h K;⟨r.1,λz=>aB (e.symm.trans z),λ_=>r.2⟩)
  refine⟨r.1,λA E s w ω P L fa q cd Q hA F go=>wpAny_If (r.2 hA F λd s1 H w1 ω1 h1 tk1 x1 F1=>?_)⟩;cases d with
  |true=>rw[cw rfl];exact H.1 rfl hA F1 λu s2 H w2 ω2 m2 h2 tk2 fl x2 F2 V2=>go u s2 H w2 ω2 m2 h2 tk2 fl (x1.trans x2) F2 V2
  |false=>rw[bL Bool.false_ne_true];exact H.2 rfl hA F1 λu s2 H w2 ω2 m2 h2 tk2 fl x2 F2 V2=>go u s2 H w2 ω2 m2 h2 tk2 fl (x1.trans x2) F2 V2
 |.whl c b,t,ok=>λst k ds V h K=>⟨wp D fo G hr (ab ok) (iB b (sB t) (aa ok)) K 100000 st ds h,λA E s w ω P L fa q cd Q hA F go=>wpAny_While (yM D fo G hr (ab ok) (iB b (sB t) (aa ok)) K (N:=100000) (st:=st) (ds:=ds) h hA F go)⟩
 |.for i e b,t,ok=>λst k ds V h K=>by
  have hb:=iB b (sB t) (aa (aa ok));have r:=bM D fo G hr e (sE t) (ab (aa ok)) (V:=λu s1=>∃vs ds,n6 u=some vs∧am (lN (λst k=>ae C.N.T Ψ b st k) k i vs s1 ds) v sh) h λu s1 d1 h=>dY h λvs e h=>⟨oK hb K vs s1 d1 h,vs,d1,e,h⟩;refine⟨r.1,λA E s w ω P L fa q cd Q hA F go=>wpAny_For (r.2 hA F λu s1 H w1 ω1 h1 tk1 a x1 F1 V1=>?_) λa=>dO (ab (aa ok)) λz=>by rw[z] at h;exact h⟩
  obtain⟨vs,d2,e2,H⟩:=H;exact uG D fo G hr (ab ok) hb K e2 (s:={s with heap:=h1,toks:=tk1}) hA F1 V1 H λr st' H w2 ω2 m2 h2 tk2 fl x2 F2 V2=>go r st' H w2 ω2 m2 h2 tk2 fl (x1.trans x2) F2 V2
 |.forr i e b,t,ok=>λst k ds V h K=>by
  have o3:=aa (aa ok);have hb:=iB b (sB t) (aa o3);have r:=bM D fo G hr e (dR (bh (sE t))) (ab o3) (V:=λu s1=>∃N ds,u= .int N∧N.natAbs≤1000∧am (lN (λst k=>ae C.N.T Ψ b st k) k i (dS N.toNat) s1 ds) v sh) h λu s1 d1 h=>dY h λN e h=>(og h).elim λd3 h=>rj h λhN d2 h=>⟨oK hb K _ s1 d2 h,N,d2,bz e,bf hN,h⟩;refine⟨r.1,λA E s w ω P L fa q cd Q hA F go=>wpAny_For (wpAny_Call_NameR (mj D fo G.range (jw (ab (aa ok))) (by decide) F ?_)) λa=>rfl⟩
  rw[show backTo (sE t).pos (starEach [bw C f e (dR (bh (sE t)))] (bv q f.sc L fa cd))=[(false,eval (bw C f e (dR (bh (sE t)))) (bv q f.sc L fa cd))] from dA (es:=.cons e .nil) (ts:=bh (sE t)) (qmz.mpr ⟨ab o3,rfl⟩)];refine PyProof.Rows.callWith_type rfl (Calls.evalArgs_plain (Calls.spliced_cons (r.2 hA F λu s1 H w1 ω1 h1 tk1 a x1 F1 V1=>Calls.spliced_nil ?_)));obtain⟨N,d2,rfl,hN,H⟩:=H;obtain⟨tN,rfl⟩:=V1.int_inv;exact uH D fo G hr (ab ok) hb K hN (s:={s with heap:=h1,toks:=tk1}) hA F1 H λr st' H w2 ω2 m2 h2 tk2 fl x2 F2 V2=>go r st' H w2 ω2 m2 h2 tk2 fl (x1.trans x2) F2 V2
 |.ret e,t,ok=>λst k ds V h K=>
  let r:=bM D fo G hr e (sE t) ok (V:=λu s1=>V (some u) s1) h λ_ s1 d1 h=>K _ s1 d1 h
  ⟨r.1,λA E s w ω P L fa q cd Q hA F go=>wpAny_Return_some (r.2 hA F λu s1 H w1 ω1 h1 tk1 a x1 F1 V1=>go _ s1 H w1 ω1 _ h1 tk1 _ x1 F1 ⟨a,rfl,V1⟩)⟩
 |.ret0,t,ok=>λst k ds V h K=>⟨(K _ _ _ h).1,λA E s w ω P L fa q cd Q hA F go=>wpAny_Return_none (go _ _ (K _ _ _ h).2 w ω _ s.heap s.toks _ (.refl w) F ⟨_,rfl,.none⟩)⟩
 |.pass,t,ok=>λst k ds V h K=>⟨(K _ _ _ h).1,λA E s w ω P L fa q cd Q hA F go=>wpAny_Pass (go _ _ (K _ _ _ h).2 w ω _ s.heap s.toks _ (.refl w) F rfl)⟩
 |.dead,t,ok=>λst k ds V h K=>(h:False).elim
 |.asgl i l m src,t,ok=>λst k ds V h K=>BN D fo G hr i l m src t ok h K
 |.asga i l a b,t,ok=>λst k ds V h K=>BO D fo G hr i l a b t ok h K
 |.retc l i,t,ok=>λst k ds V h K=>BQ D fo G hr l i t ok h K
 |.retL tag j is dZ e,t,ok=>λst k ds V h K=>BS D fo G hr tag j is dZ e t ok h K
 |.forp m e b,t,ok=>λst k ds V h K=>by
  have o2:=aa ok;have o3:=aa o2;have hb:=iB b (sB t) (aa o3);have r:=bM D fo G hr e (sE t) (ab o3) (V:=λu s1=>∃vs ds,u= .lst vs∧am (jf C.N.T Ψ (λst k=>ae C.N.T Ψ b st k) k m vs s1 ds) v sh) h λu s1 d1 h=>dY h λvs e h=>⟨oM D fo G hr (ab ok) hb K vs s1 d1 h,vs,d1,bT e,h⟩;refine⟨r.1,λA E s w ω P L fa q cd Q hA F go=>wpAny_For (r.2 hA F λu s1 H w1 ω1 h1 tk1 a x1 F1 V1=>?_) λa=>dO (ab o3) λz=>by rw[z] at h;exact h⟩
  obtain⟨vs,d2,rfl,H⟩:=H;exact Eg D fo G hr (ab ok) (ab o2) hb K (s:={s with heap:=h1,toks:=tk1}) hA F1 V1 H λr st' H w2 ω2 m2 h2 tk2 fl x2 F2 V2=>go r st' H w2 ω2 m2 h2 tk2 fl (x1.trans x2) F2 V2
theorem iB:∀(b:MSs) (ts:List Stmt),m8 C f b ts=true→Bs C Ψ n f v sh b (iL C f b ts)
 |.nil,ts,ok=>λst k ds V h K=>⟨(K _ _ _ h).1,λA E s w ω P L fa q cd Q hA F go=>wpAny_execs_nil (go _ _ (K _ _ _ h).2 w ω _ s.heap s.toks _ (.refl w) F rfl)⟩
 |.cons m r,ts,ok=>λst k ds V h K=>by
  have rr:=G8 m (GY ts) (ab ok) (V:=λo s1=>(o=none→Xs C n f (execs (iL C f r (fc ts))) s1 V)∧(∀u,o=some u→V o s1)) h λo s1 d1 h=>by
   cases o with
   |none=>exact let q:=iB r (fc ts) (aa ok) h K;⟨q.1,λ_=>q.2,λ_ e=>aG e⟩
   |some u=>exact⟨(K _ _ _ h).1,λe=>aG e.symm,λ_ _=>(K _ _ _ h).2⟩
  refine⟨rr.1,λA E s w ω P L fa q cd Q hA F go=>wpAny_execs_cons (rr.2 hA F λo s1 H w1 ω1 m1 h1 tk1 fl x1 F1 V1=>?_)⟩;cases o with
  |none=>
   obtain rfl:fl= .next:=V1;exact H.1 rfl (L:=(L.wm m1)) hA F1 λr st' H w2 ω2 m2 h2 tk2 fl x2 F2 V2=>go r st' H w2 ω2 m2 h2 tk2 fl (x1.trans x2) F2 V2
  |some u=>
   obtain⟨a,rfl,V1⟩:=V1;exact go _ s1 (H.2 u rfl) w1 ω1 m1 h1 tk1 _ x1 F1 ⟨a,rfl,V1⟩
end
end
open PySem PySem.W PyProof.Rows PySem.Calls PySem.Builtin
theorem Rm.deeper{A:Around}{n:Nat}{env:Env}(h:Rm A (n+2)):Rm (A.deeper env) (n+1):=by
 have h1:=h.depth;have h2:=h.units;exact⟨by show A.depth+1+(n+1)≤999;omega,by show A.units+3+20*(n+1)≤9000;omega,h.hand⟩
theorem cX{x:Str}:∀(names:List (Str×NameKind)) (k:Nat) (acc:List (Str×Addr)),((∃p∈names,p.1=x∧p.2= .cell)∨(acc.lookup x).isSome=true)→((cellsFrom k names acc).lookup x).isSome=true
 |[],k,acc,h=>by
  rcases h with ⟨p,m,_⟩ | h
  ·exact(nX m).elim
  ·exact h
 |(y,kd)::r,k,acc,h=>by
  unfold cellsFrom;by_cases hk:(kd== .cell)=true
  ·rw[cw hk]
   refine cX r _ _ ?_;rcases h with ⟨p,m,e1,e2⟩ | h
   ·rcases qkz.mp m with rfl | m
    ·exact .inr (by rw[kN,show (x==y)=true from beq_iff_eq.mpr e1.symm];rfl)
    ·exact .inl ⟨p,m,e1,e2⟩
   ·refine .inr ?_
    rw[kN];cases x==y with
    |true=>rfl
    |false=>exact h
  ·rw[bL hk]
   refine cX r _ _ ?_;rcases h with ⟨p,m,e1,e2⟩ | h
   ·rcases qkz.mp m with rfl | m
    ·exact absurd (beq_iff_eq.mpr e2) hk
    ·exact .inl ⟨p,m,e1,e2⟩
   ·exact .inr h
theorem fD{x:Str}{c:Addr}:∀(names:List (Str×NameKind)) (k:Nat) (acc:List (Str×Addr)),(x,c)∈cellsFrom k names acc→(∃p∈names,p.1=x∧p.2= .cell)∨(x,c)∈acc
 |[],k,acc,h=>.inr h
 |(y,kd)::r,k,acc,h=>by
  unfold cellsFrom at h;by_cases hk:(kd== .cell)=true
  ·rw[cw hk] at h
   rcases fD r _ _ h with ⟨p,m,e⟩ | h
   ·exact .inl ⟨p,List.mem_cons_of_mem _ m,e⟩
   ·rcases qkz.mp h with e | h
    ·exact .inl ⟨_,List.mem_cons_self,(Prod.mk.inj e).1.symm,beq_iff_eq.mp hk⟩
    ·exact .inr h
  ·rw[bL hk] at h
   rcases fD r _ _ h with ⟨p,m,e⟩ | h
   ·exact .inl ⟨p,List.mem_cons_of_mem _ m,e⟩
   ·exact .inr h
theorem qt{K:Str→Option NameKind}{x:Str}(hx:K x=some .local):∀(l:List (Str×Value)) (m:Str→Option Value),bindL K l m x=match l.reverse.lookup x with | some a=>some a | none=>m x
 |[],m=>rfl
 |(y,a)::r,m=>by
  show bindL K r _ x=_;rw[qt hx r,List.reverse_cons,cQ];cases r.reverse.lookup x with
  |some b=>rfl
  |none=>
   dsimp only;rw[kN];by_cases hy:x=y
   ·rw[hy,beq_self_eq_true,cw (hy▸hx)]
    dsimp only;rw[cw rfl]
   ·rw[show (x==y)=false from beq_eq_false_iff_ne.mpr hy]
    split
    ·dsimp only;rw[bL hy];rfl
    ·rfl
theorem qu{K:Str→Option NameKind}{x:Str}(hx:K x=some .cell):∀(l:List (Str×Value)) (m:Str→Option Value),bindC K l m x=match l.reverse.lookup x with | some a=>some a | none=>m x
 |[],m=>rfl
 |(y,a)::r,m=>by
  show bindC K r _ x=_;rw[qu hx r,List.reverse_cons,cQ];cases r.reverse.lookup x with
  |some b=>rfl
  |none=>
   dsimp only;rw[kN];by_cases hy:x=y
   ·rw[hy,beq_self_eq_true,bL (by rw[← hy,hx];decide)]
    dsimp only;rw[cw rfl]
   ·rw[show (x==y)=false from beq_eq_false_iff_ne.mpr hy]
    split
    ·rfl
    ·dsimp only;rw[bL hy];rfl
noncomputable def Wd.addC(w:Wd)(cs:List (Str×Addr))(h:Heap):Wd:={w with G:=λb=>if (cs.any λp=>Nat.beq p.2 b)=true then h.get? b else w.G b}
theorem wq{C:Cx}{w:Wd}{P:PMap}{sh:Sto}{s s1:Shared}{f:Fc}{xs:List Str}{as:List MV}{m:Nat}{binds:List (Str×Value)}{cs:List (Str×Addr)}(S:Sh C.N w P sh s.heap)
  (hcs:cs=cellsFrom (s.heap.objs.size+1) f.sc.names []) (X:InCallC s s.heap.objs.size (bindL (λx=>f.sc.names.lookup x) binds λ_=>none) cs (bindC (λx=>f.sc.names.lookup x) binds λ_=>none) s1)
  (hpre:f.nms.take xs.length=xs) (hloc:∀x∈f.nms,Ee f x) (hcell:∀y∈f.sc.names,y.2= .cell→f.sc.names.lookup y.1=some .cell) (B:Bound C w xs as binds) :
  w.Ext (w.addC cs s1.heap)∧Fm C.N (w.addC cs s1.heap) (λ_=>none) P ⟨s.heap.objs.size,bindL (λx=>f.sc.names.lookup x) binds λ_=>none,cs,bindC (λx=>f.sc.names.lookup x) binds λ_=>none⟩ f ⟨sh,as.map .val++List.replicate (m-as.length) .unset⟩ s1.heap:=by
 have hab:∀b,(cs.any λp=>Nat.beq p.2 b)=true→s.heap.objs.size<b:=λb hb=>by
  obtain⟨p,hp,e⟩:=List.any_eq_true.mp hb;exact jO e▸X.above p.1 p.2 hp
 have hfr:∀b,(cs.any λp=>Nat.beq p.2 b)=true→s.heap.get? b=none:=λb hb=>Heap.get?_none_of_le (Nat.le_of_lt (hab b hb));have keep:=X.toInCall.keep
 have old:∀b,(s.heap.get? b).isSome=true→(cs.any λp=>Nat.beq p.2 b)=false:=λb hb=>by
  cases q:cs.any λp=>Nat.beq p.2 b with
  |false=>rfl
  |true=>rw[hfr b q] at hb;exact aB hb
 have gold:∀a o,w.G a=some o→(w.addC cs s1.heap).G a=some o:=λa o e=>by
  have h1:=S.frz a o e;exact(bL (by rw[old a (by rw[h1];rfl)];decide)).trans e
 have x:w.Ext (w.addC cs s1.heap):=⟨λ_ _ e=>e,gold⟩
 have gcase:∀{a o},(w.addC cs s1.heap).G a=some o→((cs.any λp=>Nat.beq p.2 a)=true∧s1.heap.get? a=some o)∨w.G a=some o:=λ{a o} e=>by
  change (if (cs.any λp=>Nat.beq p.2 a)=true then s1.heap.get? a else w.G a)=some o at e;by_cases q:(cs.any λp=>Nat.beq p.2 a)=true
  ·rw[cw q] at e;exact .inl ⟨q,e⟩
  ·rw[bL q] at e;exact .inr e
 have gnone:∀a,(cs.any λp=>Nat.beq p.2 a)=false→w.G a=none→(w.addC cs s1.heap).G a=none:=λa q e=>(bL (by rw[q];decide)).trans e
 have S1:Sh C.N (w.addC cs s1.heap) P sh s1.heap:=by
  refine⟨λa o e=>gold _ _ (S.base a o e),λa o e=>?_,λa o e=>keep _ _ (S.prot a o e),λa o e=>?_,S.dom,S.inj,λl a e=>?_,S.sepP,λl a e=>let ⟨o,h1,h2⟩:=S.cont l a e;⟨o,keep _ _ h1,h2.mono x⟩⟩
  ·rcases gcase e with ⟨_,h⟩ | h
   ·exact h
   ·exact keep _ _ (S.frz a o h)
  ·rcases gcase e with ⟨q,_⟩ | h
   ·exact(S.fresh (hfr a q)).2.1
   ·exact S.dis a o h
  ·obtain⟨o,h1,_⟩:=S.cont l a e
   exact gnone a (old a (by rw[h1];rfl)) (S.sepG l a e)
 obtain⟨g,p,r⟩:=S.fresh (Heap.get?_none_of_le (cz s.heap.objs.size))
 have qL:(cs.any λp=>Nat.beq p.2 s.heap.objs.size)=false:=by
  cases q:cs.any λp=>Nat.beq p.2 s.heap.objs.size with
  |false=>rfl
  |true=>exact absurd (hab _ q) (Nat.lt_irrefl _)
 have isC:∀x,f.sc.names.lookup x=some .cell→(cs.lookup x).isSome=true:=λx hx=>by
  rw[hcs];exact cX _ _ _ (.inl ⟨(x,.cell),mem_of_lookup hx,rfl,rfl⟩)
 have noC:∀x,f.sc.names.lookup x=some .local→(cs.lookup x).isSome=false:=λx hx=>by
  cases q:cs.lookup x with
  |none=>rfl
  |some c=>
   have hm:=mem_of_lookup q;rw[hcs] at hm;rcases fD _ _ _ hm with ⟨y,m,e1,e2⟩ | hm
   ·have:=hcell y m e2
    rw[e1,hx] at this;cases ay this
   ·exact(nX hm).elim
 refine⟨x,S1,gnone _ qL g,p,r,X.toInCall.ns,λi y c hx hc=>?_,λi a e=>aG e,λi j a e=>aG e,λi a e=>aG e,λy c e=>?_,λi y e=>?_⟩
 ·by_cases hi:i<as.length
  ·rw[List.getElem?_append_left (by rw[fP];exact hi),List.getElem?_map] at hc
   obtain⟨v,hv,rfl⟩:=aV hc
   have hxs:xs[i]?=some y:=by
    rw[← hpre,List.getElem?_take,cw (by rw[← B.len];exact hi)]
    exact hx
   obtain⟨a,h1,h2⟩:=B.at_ i y v hxs hv;refine⟨a,?_,h2.mono x⟩;show (bif (cs.lookup y).isSome then bindC _ binds _ y else bindL _ binds _ y)=_;rcases hloc y (List.mem_of_getElem? hx) with hl | hl
   ·rw[noC y hl,cond_false,qt (K:=λx=>f.sc.names.lookup x) hl,h1]
   ·rw[isC y hl,cond_true,qu (K:=λx=>f.sc.names.lookup x) hl,h1]
  ·rw[List.getElem?_append_right (by rw[fP];omega),List.getElem?_replicate] at hc
   split at hc
   ·rw[← ay hc];trivial
   ·exact aG hc
 ·obtain⟨o,h1,h2⟩:=X.cell y c e
  exact⟨o,(cw (List.any_eq_true.mpr ⟨_,mem_of_lookup e,Nat.beq_refl c⟩)).trans h1,h2⟩
 ·show (cs.lookup y).isSome=gF f y
  rcases hloc y (List.mem_of_getElem? e) with hl | hl
  ·rw[noC y hl,hZ hl]
  ·rw[isC y hl];unfold gF;rw[hl];rfl
theorem jy{prog:Program}{w:World}{A:Around}{s:Shared}{R:Result→Shared→Prop}{a:Addr}{o:Obj}{fd:FuncData}{body:List Stmt}{args:Args}{binds:List (Str×Value)}
  (hroom:A.depth<recursionLimit) (ho:s.heap.get? a=some o) (hdata:o.data= .func fd) (hlim:s.heap.NoLimit) (hcd:s.heap.CodeRec fd.code fd.qualname)
  (hbody:fd.body= .stmts body) (hbind:BindsTo s fd args binds) (hclo:fd.closure=[])
  (hkind:∀x∈binds,fd.scope.names.lookup x.1=some .local∨(fd.scope.names.lookup x.1=some .cell∧((cellsFrom (s.heap.objs.size+1) fd.scope.names []).lookup x.1).isSome=true))
  (h:∀s₁,InCallC s (callEnvC fd s.heap.objs.size a).locals (bindL (callEnvC fd s.heap.objs.size a).kindOf binds λ_=>none) (callEnvC fd s.heap.objs.size a).cells
    (bindC (callEnvC fd s.heap.objs.size a).kindOf binds λ_=>none) s₁ →
   wpAny (model prog w) (A.deeper (callEnvC fd s.heap.objs.size a)) (execs body (callEnvC fd s.heap.objs.size a)) (λf s'=>R (.ok (.ret (match f with | .ret v=>v | _=>.none))) s')
    (λe s'=>wpAny (model prog w) (A.deeper (callEnvC fd s.heap.objs.size a)) (leaving (callEnvC fd s.heap.objs.size a) e) (λ_ s''=>R (.error e) s'') (λe' s''=>R (.error e') s'') s') s₁)
  (hco:fd.scope.isCoroutine=false) (hgen:fd.scope.isGenerator=false) (hk:fd.scope.kind= .function) :
  codeAny (model prog w) A (.call (.ref a) args) R s:=by
 refine codeAny_call_function hroom ho hdata hco hgen hbody hcd (hbind _ _ _ _ ?_);rw[hclo];refine wpAny_newFunctionEnv_cells hk hkind λenv he s' x=>?_;subst he;exact⟨hlim.keeps x.toInCall.keep,codeAny_func (h s' x)⟩
structure DefOk(C:Cx)(f:Nat)(b:MSs):Prop where
 ex:∃r nms reqs opts ds,FnOk C f r nms reqs opts ds∧iL C ⟨r.scope,nms⟩ b r.body=r.body∧m8 C ⟨r.scope,nms⟩ b r.body=true
structure ProgOk(C:Cx):Prop where
 fn:∀f m b,C.N.T.body f=some (m,b)→DefOk C f b
section
variable {C:Cx}{Ψ:Psi}{n:Nat}(D:Snd C Ψ.phi n)(G:RgOk C)
theorem qv{f:Nat}{as:List MV}{sh:Sto}{v:MV}{sh':Sto}(e:Gd C.N.T Ψ f as sh v sh'):∃m b ds,C.N.T.body f=some (m,b)∧am (ae C.N.T Ψ b ⟨sh,as.map .val++List.replicate (m-as.length) .unset⟩ (λr st _=>.fin (r.getD .none) st.sh) ds) v sh':=
 e.elim λds h=>dY h λp e h=>⟨p.1,p.2,ds,e,h⟩
theorem wt{v:MV}{sh:Sto}:Kq v sh (λ(r:Option MV) st _=>.fin (r.getD .none) st.sh) λ(r:Option MV) st=>r.getD .none=v∧st.sh=sh:=λr st ds h=>⟨h.2▸cz _,h.1,h.2⟩
include D G
theorem yN(PO:ProgOk C){f:Nat}{as:List MV}{sh:Sto}{v:MV}{sh':Sto}(e:Gd C.N.T Ψ f as sh v sh')(hr:rl sh'≤ak):rl sh≤rl sh':=by
 obtain⟨m,b,ds,hb,h⟩:=qv e;obtain⟨r,nms,reqs,opts,ds,H,_,ok⟩:=(PO.fn f m b hb).ex;exact(iB (f:=⟨r.scope,nms⟩) D ⟨H.hk,H.nodup⟩ G hr b r.body ok h wt).1
theorem Ej(PO:ProgOk C){f:Nat}{pos as:List MV}{kws:List (Nat×MV)}{sh:Sto}{v:MV}{sh':Sto}(h1:pN (C.N.T.fnPar f) pos kws=some as)(e:Gd C.N.T Ψ f as sh v sh')(hr:rl sh'≤ak)
  {A:Around} {R':Result→Shared→Prop} {s:Shared} {w:Wd} {P:PMap} {pvals:List Value} {kvals:List (Str×Value)} (hA:Rm A (n+2)) (S:Sh C.N w P sh s.heap) (hp:VRels C.N w pos pvals) (hk:LRel C.N w kws kvals)
  (k:∀w' h' tk a,w.Ext w'→Sh C.N w' P sh' h'→VRel C.N w' v a→R' (.ok (.ret a)) {s with heap:=h',toks:=tk}):codeAny (model C.prog C.wd) A (.call (.ref (C.N.fna f)) ⟨pvals,kvals⟩) R' s:=by
 obtain⟨m,b,ds,hb,h⟩:=qv e;obtain⟨r,nms,reqs,opts,ds,H,to,ok⟩:=(PO.fn f m b hb).ex;obtain⟨binds,hbind,hB⟩:=vP D.O S H hp hk h1;obtain⟨oc,od,osl,hat⟩:=H.at_;have X:=D.O.In S;have hd:=hA.depth
 have hkind:∀x∈binds,r.scope.names.lookup x.1=some .local∨(r.scope.names.lookup x.1=some .cell∧((cellsFrom (s.heap.objs.size+1) r.scope.names []).lookup x.1).isSome=true):=λy hy=>by
  have h3:=hB.sub y hy;rw[← H.pre] at h3;exact(H.loc _ (List.mem_of_mem_take h3)).imp id λhl=>⟨hl,cX _ _ _ (.inl ⟨(y.1,.cell),mem_of_lookup hl,rfl,rfl⟩)⟩
 refine jy (fd:=r.fd) (body:=r.body) (binds:=binds) (by unfold recursionLimit;omega) (X _ _ hat) rfl (D.O.topIn S).nolimit (codeRec_of X H.code) rfl hbind rfl hkind (λs₁ XC=>?_) H.hco H.hgen H.hk
 ·obtain⟨x0,F⟩:=wq (m:=m) (f:=⟨r.scope,nms⟩) S rfl XC (by rw[fP];exact H.pre) H.loc H.hcell hB
  obtain⟨h₀,tk₀,rfl,_⟩:=XC.done;have rr:=(iB (f:=⟨r.scope,nms⟩) D ⟨H.hk,H.nodup⟩ G hr b r.body ok h wt).2;rw[to] at rr;refine rr (s:={s with heap:=h₀,toks:=tk₀}) (fa:=(some (C.N.fna f),some s.heap.objs.size)) (q:=r.qual++ ".<locals>.") (cd:=r.cdv) hA.deeper F λo st' H w1 ω1 m1 h1' tk1 fl x1 F1 V1=>?_
  have x1:=x0.trans x1;have F2:=F1.sh;rw[H.2] at F2;cases o with
  |none=>
   obtain rfl:fl= .next:=V1;exact k w1 h1' tk1 _ x1 F2 (H.1▸ .none)
  |some u=>
   obtain⟨a,rfl,V⟩:=V1;exact k w1 h1' tk1 _ x1 F2 (H.1▸V)
end
theorem wu{C:Cx}{Φ:ku}{n m:Nat}(h:ny C Φ n)(hm:n≤m):ny C Φ m:=λe hr _ _ _ _ _ _ _ hA S hp hk k=>h e hr (hA.mono hm) S hp hk k
structure Base(C:Cx):Prop where
 O:CxOk C
 B:CaOk C
 N:NmOk C
 gv:GvOk C
 PO:ProgOk C
 G:RgOk C
noncomputable abbrev Sd(C:Cx)(Ψ:Psi)(n:Nat):Prop:=Snd C Ψ.phi n
theorem s9{C:Cx}{Ψ:Psi}{n m:Nat}(D:Sd C Ψ n)(h:n≤m):Sd C Ψ m:=⟨D.O,D.B,D.N,wu D.H h,D.HI,D.mono,D.gv⟩
theorem J3{C:Cx}(B:Base C){Ψ:Psi}(h:∀f as sh,Ψ f as sh=none):Sd C Ψ 0:=
 have h0:∀{f as sh r},Ψ.phi f as sh=some r→False:=λ{f as sh r} e=>by
  have e:Gg (Ψ f as sh)=some r:=e;rw[h] at e;exact aG e
 ⟨B.O,B.B,B.N,λe=>ad e λ_ _ e=>(h0 e).elim,λ_ e=>(h0 e).elim,λ_ _ _ _ _ e=>(h0 e).elim,B.gv⟩
theorem my{o:Option (Bool×MV×Sto)}{r:MV×Sto}(h:Gg o=some r):o=some (true,r):=ad h λp e1 e=>by
 obtain⟨hp,e⟩:=mZ e;obtain⟨b,q⟩:=p;obtain rfl:b=true:=hp;rw[e1,show q=r from ay e]
theorem yO{C:Cx}(B:Base C){Ψ':Psi}{n:Nat}(hi:oC C.N.T Ψ'.phi)(h:∀f as sh r,Ψ' f as sh=some (true,r)→ ∃Ψ,Sd C Ψ n∧(Gd C.N.T Ψ f as sh r.1 r.2∨Ψ f as sh=some (true,r))):Sd C Ψ' (n+2):=by
 refine⟨B.O,B.B,B.N,λe hr A R s w P pvals kvals hA S hp hk k=>?_,hi,λf as sh v sh' e hr=>?_,B.gv⟩
 ·refine ad e λas h1 e=>?_
  obtain⟨Ψ,D,h2 | h2⟩:=h _ _ _ _ (my e)
  ·exact Ej D B.G B.PO h1 h2 hr hA S hp hk k
  ·exact D.H (by show (pN _ _ _).bind _=_;rw[h1];exact rk h2 rfl) hr (hA.mono (Nat.le_add_right n 2)) S hp hk k
 ·obtain⟨Ψ,D,h2 | h2⟩:=h _ _ _ _ (my e)
  ·exact yN D B.G B.PO h2 hr
  ·exact D.mono _ _ _ _ _ (rk h2 rfl) hr
end Mine
namespace Mine.L1
open PySem
noncomputable def natr:Nat:=133
noncomputable def KV:List (Str):=[⟨#[97,112,112,101,110,100]⟩,⟨#[112,111,112]⟩,⟨#[115,116,97,114,116,115,119,105,116,104]⟩,⟨#[106,111,105,110]⟩,⟨#[115,112,108,105,116]⟩,⟨#[99,111,112,121]⟩,⟨#[107,101,121,115]⟩,⟨#[0,7]⟩,⟨#[0,8]⟩,⟨#[0,9]⟩,⟨#[115,101,108,102]⟩,⟨#[115,116,97,114,116,95,109,97,114,107]⟩,⟨#[101,110,100,95,109,97,114,107]⟩,⟨#[97,110,99,104,111,114]⟩,⟨#[116,97,103]⟩,⟨#[105,109,112,108,105,99,105,116]⟩,⟨#[102,108,111,119,95,115,116,121,108,101]⟩,⟨#[101,110,99,111,100,105,110,103]⟩,⟨#[101,120,112,108,105,99,105,116]⟩,⟨#[118,101,114,115,105,111,110]⟩,⟨#[116,97,103,115]⟩,⟨#[118,97,108,117,101]⟩,⟨#[115,116,121,108,101]⟩,⟨#[115,99,97,108,97,114]⟩,⟨#[101,109,112,116,121]⟩,⟨#[109,117,108,116,105,108,105,110,101]⟩,⟨#[97,108,108,111,119,95,102,108,111,119,95,112,108,97,105,110]⟩,⟨#[97,108,108,111,119,95,98,108,111,99,107,95,112,108,97,105,110]⟩,⟨#[97,108,108,111,119,95,115,105,110,103,108,101,95,113,117,111,116,101,100]⟩,⟨#[97,108,108,111,119,95,100,111,117,98,108,101,95,113,117,111,116,101,100]⟩,⟨#[97,108,108,111,119,95,98,108,111,99,107]⟩,⟨#[115,116,114,101,97,109]⟩,⟨#[99,97,110,111,110,105,99,97,108]⟩,⟨#[105,110,100,101,110,116]⟩,⟨#[119,105,100,116,104]⟩,⟨#[97,108,108,111,119,95,117,110,105,99,111,100,101]⟩,⟨#[108,105,110,101,95,98,114,101,97,107]⟩,⟨#[101,118,101,110,116]⟩,⟨#[99,111,117,110,116]⟩,⟨#[102,108,111,119]⟩,⟨#[105,110,100,101,110,116,108,101,115,115]⟩,⟨#[102,105,114,115,116]⟩,⟨#[114,111,111,116]⟩,⟨#[115,101,113,117,101,110,99,101]⟩,⟨#[109,97,112,112,105,110,103]⟩,⟨#[115,105,109,112,108,101,95,107,101,121]⟩,⟨#[105,110,100,105,99,97,116,111,114]⟩,⟨#[110,101,101,100,95,119,104,105,116,101,115,112,97,99,101]⟩,⟨#[119,104,105,116,101,115,112,97,99,101]⟩,⟨#[105,110,100,101,110,116,105,111,110]⟩,⟨#[100,97,116,97]⟩,⟨#[116,101,120,116]⟩,⟨#[116,97,112,101]⟩,⟨#[100,101,112,116,104]⟩,⟨#[115,105,103,110,115]⟩,⟨#[110,111,100,101]⟩,⟨#[104,101,97,100]⟩,⟨#[99,111,108,117,109,110]⟩,⟨#[115,116,101,112]⟩,⟨#[101,110,100,105,110,103]⟩,⟨#[115,99,114,105,112,116]⟩,⟨#[115,116,97,116,101]⟩,⟨#[102,108,111,119,95,108,101,118,101,108]⟩,⟨#[114,111,111,116,95,99,111,110,116,101,120,116]⟩,⟨#[115,101,113,117,101,110,99,101,95,99,111,110,116,101,120,116]⟩,⟨#[109,97,112,112,105,110,103,95,99,111,110,116,101,120,116]⟩,⟨#[115,105,109,112,108,101,95,107,101,121,95,99,111,110,116,101,120,116]⟩,⟨#[108,105,110,101]⟩,⟨#[111,112,101,110,95,101,110,100,101,100]⟩,⟨#[98,101,115,116,95,105,110,100,101,110,116]⟩,⟨#[98,101,115,116,95,119,105,100,116,104]⟩,⟨#[98,101,115,116,95,108,105,110,101,95,98,114,101,97,107]⟩,⟨#[116,97,103,95,112,114,101,102,105,120,101,115]⟩,⟨#[112,114,101,112,97,114,101,100,95,97,110,99,104,111,114]⟩,⟨#[112,114,101,112,97,114,101,100,95,116,97,103]⟩,⟨#[97,110,97,108,121,115,105,115]⟩,⟨#[115,116,97,116,101,115]⟩,⟨#[101,118,101,110,116,115]⟩,⟨#[105,110,100,101,110,116,115]⟩,⟨#[114,111,119,115]⟩,⟨#[101,120,112,101,99,116,95,115,116,114,101,97,109,95,115,116,97,114,116]⟩,⟨#[110,101,101,100,95,109,111,114,101,95,101,118,101,110,116,115]⟩,⟨#[110,101,101,100,95,101,118,101,110,116,115]⟩,⟨#[101,120,112,101,99,116,95,102,105,114,115,116,95,100,111,99,117,109,101,110,116,95,115,116,97,114,116]⟩,⟨#[119,114,105,116,101,95,115,116,114,101,97,109,95,115,116,97,114,116]⟩,⟨#[101,120,112,101,99,116,95,100,111,99,117,109,101,110,116,95,115,116,97,114,116]⟩,⟨#[101,120,112,101,99,116,95,100,111,99,117,109,101,110,116,95,114,111,111,116]⟩,⟨#[119,114,105,116,101,95,105,110,100,101,110,116]⟩,⟨#[119,114,105,116,101,95,105,110,100,105,99,97,116,111,114]⟩,⟨#[99,104,101,99,107,95,101,109,112,116,121,95,100,111,99,117,109,101,110,116]⟩,⟨#[119,114,105,116,101,95,116,97,103,95,100,105,114,101,99,116,105,118,101]⟩,⟨#[112,114,101,112,97,114,101,95,116,97,103,95,112,114,101,102,105,120]⟩,⟨#[112,114,101,112,97,114,101,95,116,97,103,95,104,97,110,100,108,101]⟩,⟨#[68,69,70,65,85,76,84,95,84,65,71,95,80,82,69,70,73,88,69,83]⟩,⟨#[119,114,105,116,101,95,118,101,114,115,105,111,110,95,100,105,114,101,99,116,105,118,101]⟩,⟨#[112,114,101,112,97,114,101,95,118,101,114,115,105,111,110]⟩,⟨#[101,120,112,101,99,116,95,110,111,116,104,105,110,103]⟩,⟨#[119,114,105,116,101,95,115,116,114,101,97,109,95,101,110,100]⟩,⟨#[102,108,117,115,104,95,115,116,114,101,97,109]⟩,⟨#[101,120,112,101,99,116,95,110,111,100,101]⟩,⟨#[101,120,112,101,99,116,95,100,111,99,117,109,101,110,116,95,101,110,100]⟩,⟨#[101,120,112,101,99,116,95,97,108,105,97,115]⟩,⟨#[101,120,112,101,99,116,95,115,99,97,108,97,114]⟩,⟨#[99,104,101,99,107,95,101,109,112,116,121,95,115,101,113,117,101,110,99,101]⟩,⟨#[101,120,112,101,99,116,95,102,108,111,119,95,115,101,113,117,101,110,99,101]⟩,⟨#[101,120,112,101,99,116,95,98,108,111,99,107,95,115,101,113,117,101,110,99,101]⟩,⟨#[99,104,101,99,107,95,101,109,112,116,121,95,109,97,112,112,105,110,103]⟩,⟨#[101,120,112,101,99,116,95,102,108,111,119,95,109,97,112,112,105,110,103]⟩,⟨#[101,120,112,101,99,116,95,98,108,111,99,107,95,109,97,112,112,105,110,103]⟩,⟨#[112,114,111,99,101,115,115,95,116,97,103]⟩,⟨#[112,114,111,99,101,115,115,95,97,110,99,104,111,114]⟩,⟨#[112,114,111,99,101,115,115,95,115,99,97,108,97,114]⟩,⟨#[105,110,99,114,101,97,115,101,95,105,110,100,101,110,116]⟩,⟨#[101,120,112,101,99,116,95,102,105,114,115,116,95,98,108,111,99,107,95,115,101,113,117,101,110,99,101,95,105,116,101,109]⟩,⟨#[101,120,112,101,99,116,95,98,108,111,99,107,95,115,101,113,117,101,110,99,101,95,105,116,101,109]⟩,⟨#[101,120,112,101,99,116,95,102,105,114,115,116,95,98,108,111,99,107,95,109,97,112,112,105,110,103,95,107,101,121]⟩,⟨#[101,120,112,101,99,116,95,98,108,111,99,107,95,109,97,112,112,105,110,103,95,107,101,121]⟩,⟨#[99,104,101,99,107,95,115,105,109,112,108,101,95,107,101,121]⟩,⟨#[101,120,112,101,99,116,95,98,108,111,99,107,95,109,97,112,112,105,110,103,95,115,105,109,112,108,101,95,118,97,108,117,101]⟩,⟨#[101,120,112,101,99,116,95,98,108,111,99,107,95,109,97,112,112,105,110,103,95,118,97,108,117,101]⟩,⟨#[97,110,97,108,121,122,101,95,115,99,97,108,97,114]⟩,⟨#[112,114,101,112,97,114,101,95,116,97,103]⟩,⟨#[112,114,101,112,97,114,101,95,97,110,99,104,111,114]⟩,⟨#[99,104,111,111,115,101,95,115,99,97,108,97,114,95,115,116,121,108,101]⟩,⟨#[119,114,105,116,101,95,100,111,117,98,108,101,95,113,117,111,116,101,100]⟩,⟨#[119,114,105,116,101,95,115,105,110,103,108,101,95,113,117,111,116,101,100]⟩,⟨#[119,114,105,116,101,95,102,111,108,100,101,100]⟩,⟨#[119,114,105,116,101,95,108,105,116,101,114,97,108]⟩,⟨#[119,114,105,116,101,95,112,108,97,105,110]⟩,⟨#[119,114,105,116,101]⟩,⟨#[119,114,105,116,101,95,108,105,110,101,95,98,114,101,97,107]⟩,⟨#[100,101,116,101,114,109,105,110,101,95,98,108,111,99,107,95,104,105,110,116,115]⟩,⟨#[101,109,105,116]⟩]
noncomputable def nm(n:Nat):Str:=(c0 KV n).getD ⟨#[]⟩
noncomputable def G9:List (Str):=[⟨#[105,115,105,110,115,116,97,110,99,101]⟩,⟨#[68,111,99,117,109,101,110,116,83,116,97,114,116,69,118,101,110,116]⟩,⟨#[83,101,113,117,101,110,99,101,83,116,97,114,116,69,118,101,110,116]⟩,⟨#[77,97,112,112,105,110,103,83,116,97,114,116,69,118,101,110,116]⟩,⟨#[108,101,110]⟩,⟨#[67,111,108,108,101,99,116,105,111,110,83,116,97,114,116,69,118,101,110,116]⟩,⟨#[67,111,108,108,101,99,116,105,111,110,69,110,100,69,118,101,110,116]⟩,⟨#[68,111,99,117,109,101,110,116,69,110,100,69,118,101,110,116]⟩,⟨#[83,116,114,101,97,109,69,110,100,69,118,101,110,116]⟩,⟨#[83,116,114,101,97,109,83,116,97,114,116,69,118,101,110,116]⟩,⟨#[65,108,105,97,115,69,118,101,110,116]⟩,⟨#[83,99,97,108,97,114,69,118,101,110,116]⟩,⟨#[83,101,113,117,101,110,99,101,69,110,100,69,118,101,110,116]⟩,⟨#[77,97,112,112,105,110,103,69,110,100,69,118,101,110,116]⟩,⟨#[78,111,100,101,69,118,101,110,116]⟩,⟨#[83,99,97,108,97,114,65,110,97,108,121,115,105,115]⟩,⟨#[95,108,97,119,95,110,111,100,101]⟩,⟨#[95,108,97,119,95,108,105,110,101,115]⟩,⟨#[95,108,97,119,95,87,79,82,68,83]⟩,⟨#[95,108,97,119,95,110,101,120,116]⟩,⟨#[95,108,97,119,95,83,73,71,78,83]⟩,⟨#[95,108,97,119,95,101,118,101,110,116,115]⟩,⟨#[95,108,97,119,95,98,108,111,99,107]⟩,⟨#[95,108,97,119,95,116,101,120,116]⟩,⟨#[95,108,97,119,95,104,97,110,103]⟩,⟨#[69,109,105,116,116,101,114]⟩,⟨#[82,111,119,115]⟩,⟨#[95,108,97,119,95,69,78,68,73,78,71,83]⟩]
noncomputable def gnm(n:Nat):Str:=(c0 G9 n).getD ⟨#[]⟩
noncomputable def rJ:List (List Str):=[[⟨#[115,101,108,102]⟩,⟨#[115,116,97,114,116,95,109,97,114,107]⟩,⟨#[101,110,100,95,109,97,114,107]⟩],[⟨#[115,101,108,102]⟩,⟨#[97,110,99,104,111,114]⟩,⟨#[115,116,97,114,116,95,109,97,114,107]⟩,⟨#[101,110,100,95,109,97,114,107]⟩],[⟨#[115,101,108,102]⟩,⟨#[97,110,99,104,111,114]⟩,⟨#[116,97,103]⟩,⟨#[105,109,112,108,105,99,105,116]⟩,⟨#[115,116,97,114,116,95,109,97,114,107]⟩,⟨#[101,110,100,95,109,97,114,107]⟩,⟨#[102,108,111,119,95,115,116,121,108,101]⟩],[⟨#[115,101,108,102]⟩,⟨#[115,116,97,114,116,95,109,97,114,107]⟩,⟨#[101,110,100,95,109,97,114,107]⟩,⟨#[101,110,99,111,100,105,110,103]⟩],[⟨#[115,101,108,102]⟩,⟨#[115,116,97,114,116,95,109,97,114,107]⟩,⟨#[101,110,100,95,109,97,114,107]⟩,⟨#[101,120,112,108,105,99,105,116]⟩,⟨#[118,101,114,115,105,111,110]⟩,⟨#[116,97,103,115]⟩],[⟨#[115,101,108,102]⟩,⟨#[115,116,97,114,116,95,109,97,114,107]⟩,⟨#[101,110,100,95,109,97,114,107]⟩,⟨#[101,120,112,108,105,99,105,116]⟩],[⟨#[115,101,108,102]⟩,⟨#[97,110,99,104,111,114]⟩,⟨#[116,97,103]⟩,⟨#[105,109,112,108,105,99,105,116]⟩,⟨#[118,97,108,117,101]⟩,⟨#[115,116,97,114,116,95,109,97,114,107]⟩,⟨#[101,110,100,95,109,97,114,107]⟩,⟨#[115,116,121,108,101]⟩],[⟨#[115,101,108,102]⟩,⟨#[115,99,97,108,97,114]⟩,⟨#[101,109,112,116,121]⟩,⟨#[109,117,108,116,105,108,105,110,101]⟩,⟨#[97,108,108,111,119,95,102,108,111,119,95,112,108,97,105,110]⟩,⟨#[97,108,108,111,119,95,98,108,111,99,107,95,112,108,97,105,110]⟩,⟨#[97,108,108,111,119,95,115,105,110,103,108,101,95,113,117,111,116,101,100]⟩,⟨#[97,108,108,111,119,95,100,111,117,98,108,101,95,113,117,111,116,101,100]⟩,⟨#[97,108,108,111,119,95,98,108,111,99,107]⟩],[⟨#[115,101,108,102]⟩,⟨#[115,116,114,101,97,109]⟩,⟨#[99,97,110,111,110,105,99,97,108]⟩,⟨#[105,110,100,101,110,116]⟩,⟨#[119,105,100,116,104]⟩,⟨#[97,108,108,111,119,95,117,110,105,99,111,100,101]⟩,⟨#[108,105,110,101,95,98,114,101,97,107]⟩],[⟨#[115,101,108,102]⟩,⟨#[101,118,101,110,116]⟩],[⟨#[115,101,108,102]⟩,⟨#[101,118,101,110,116]⟩],[⟨#[115,101,108,102]⟩,⟨#[99,111,117,110,116]⟩,⟨#[108,101,118,101,108]⟩,⟨#[101,118,101,110,116]⟩],[⟨#[115,101,108,102]⟩,⟨#[102,108,111,119]⟩,⟨#[105,110,100,101,110,116,108,101,115,115]⟩],[⟨#[115,101,108,102]⟩],[⟨#[115,101,108,102]⟩],[⟨#[115,101,108,102]⟩],[⟨#[115,101,108,102]⟩,⟨#[102,105,114,115,116]⟩,⟨#[105,109,112,108,105,99,105,116]⟩,⟨#[118,101,114,115,105,111,110,95,116,101,120,116]⟩,⟨#[104,97,110,100,108,101,115]⟩,⟨#[104,97,110,100,108,101]⟩,⟨#[112,114,101,102,105,120]⟩,⟨#[104,97,110,100,108,101,95,116,101,120,116]⟩,⟨#[112,114,101,102,105,120,95,116,101,120,116]⟩],[⟨#[115,101,108,102]⟩],[⟨#[115,101,108,102]⟩],[⟨#[115,101,108,102]⟩,⟨#[114,111,111,116]⟩,⟨#[115,101,113,117,101,110,99,101]⟩,⟨#[109,97,112,112,105,110,103]⟩,⟨#[115,105,109,112,108,101,95,107,101,121]⟩],[⟨#[115,101,108,102]⟩],[⟨#[115,101,108,102]⟩,⟨#[105,110,100,101,110,116,108,101,115,115]⟩],[⟨#[115,101,108,102]⟩],[⟨#[115,101,108,102]⟩,⟨#[102,105,114,115,116]⟩],[⟨#[115,101,108,102]⟩],[⟨#[115,101,108,102]⟩],[⟨#[115,101,108,102]⟩,⟨#[102,105,114,115,116]⟩],[⟨#[115,101,108,102]⟩],[⟨#[115,101,108,102]⟩],[⟨#[115,101,108,102]⟩],[⟨#[115,101,108,102]⟩],[⟨#[115,101,108,102]⟩,⟨#[101,118,101,110,116]⟩],[⟨#[115,101,108,102]⟩,⟨#[108,101,110,103,116,104]⟩],[⟨#[115,101,108,102]⟩,⟨#[105,110,100,105,99,97,116,111,114]⟩],[⟨#[115,101,108,102]⟩,⟨#[116,97,103]⟩],[⟨#[115,101,108,102]⟩],[⟨#[115,101,108,102]⟩,⟨#[115,112,108,105,116]⟩],[⟨#[115,101,108,102]⟩,⟨#[115,99,97,108,97,114]⟩,⟨#[98,108,111,99,107,95,105,110,100,105,99,97,116,111,114,115]⟩,⟨#[102,108,111,119,95,105,110,100,105,99,97,116,111,114,115]⟩,⟨#[108,105,110,101,95,98,114,101,97,107,115]⟩,⟨#[115,112,101,99,105,97,108,95,99,104,97,114,97,99,116,101,114,115]⟩,⟨#[108,101,97,100,105,110,103,95,115,112,97,99,101]⟩,⟨#[108,101,97,100,105,110,103,95,98,114,101,97,107]⟩,⟨#[116,114,97,105,108,105,110,103,95,115,112,97,99,101]⟩,⟨#[116,114,97,105,108,105,110,103,95,98,114,101,97,107]⟩,⟨#[98,114,101,97,107,95,115,112,97,99,101]⟩,⟨#[115,112,97,99,101,95,98,114,101,97,107]⟩,⟨#[112,114,101,99,101,100,101,100,95,98,121,95,119,104,105,116,101,115,112,97,99,101]⟩,⟨#[102,111,108,108,111,119,101,100,95,98,121,95,119,104,105,116,101,115,112,97,99,101]⟩,⟨#[112,114,101,118,105,111,117,115,95,115,112,97,99,101]⟩,⟨#[112,114,101,118,105,111,117,115,95,98,114,101,97,107]⟩,⟨#[105,110,100,101,120]⟩,⟨#[99,104]⟩,⟨#[117,110,105,99,111,100,101,95,99,104,97,114,97,99,116,101,114,115]⟩,⟨#[97,108,108,111,119,95,102,108,111,119,95,112,108,97,105,110]⟩,⟨#[97,108,108,111,119,95,98,108,111,99,107,95,112,108,97,105,110]⟩,⟨#[97,108,108,111,119,95,115,105,110,103,108,101,95,113,117,111,116,101,100]⟩,⟨#[97,108,108,111,119,95,100,111,117,98,108,101,95,113,117,111,116,101,100]⟩,⟨#[97,108,108,111,119,95,98,108,111,99,107]⟩],[⟨#[115,101,108,102]⟩],[⟨#[115,101,108,102]⟩],[⟨#[115,101,108,102]⟩],[⟨#[115,101,108,102]⟩,⟨#[105,110,100,105,99,97,116,111,114]⟩,⟨#[110,101,101,100,95,119,104,105,116,101,115,112,97,99,101]⟩,⟨#[119,104,105,116,101,115,112,97,99,101]⟩,⟨#[105,110,100,101,110,116,105,111,110]⟩,⟨#[100,97,116,97]⟩],[⟨#[115,101,108,102]⟩,⟨#[105,110,100,101,110,116]⟩,⟨#[100,97,116,97]⟩],[⟨#[115,101,108,102]⟩,⟨#[100,97,116,97]⟩],[⟨#[115,101,108,102]⟩,⟨#[116,101,120,116]⟩,⟨#[104,105,110,116,115]⟩],[⟨#[115,101,108,102]⟩,⟨#[116,101,120,116]⟩,⟨#[104,105,110,116,115]⟩,⟨#[98,114,101,97,107,115]⟩,⟨#[115,116,97,114,116]⟩,⟨#[101,110,100]⟩,⟨#[99,104]⟩,⟨#[98,114]⟩,⟨#[100,97,116,97]⟩],[⟨#[115,101,108,102]⟩,⟨#[116,101,120,116]⟩,⟨#[115,112,108,105,116]⟩,⟨#[100,97,116,97]⟩,⟨#[115,112,97,99,101,115]⟩,⟨#[98,114,101,97,107,115]⟩,⟨#[115,116,97,114,116]⟩,⟨#[101,110,100]⟩,⟨#[99,104]⟩,⟨#[98,114]⟩],[⟨#[115,101,108,102]⟩],[⟨#[115,101,108,102]⟩,⟨#[100,97,116,97]⟩],[⟨#[115,101,108,102]⟩],[],[],[⟨#[116,97,112,101]⟩],[⟨#[118,97,108,117,101]⟩,⟨#[108,105,110,101,115]⟩,⟨#[108,105,110,101]⟩,⟨#[99]⟩],[⟨#[116,97,112,101]⟩,⟨#[100,101,112,116,104]⟩,⟨#[115,105,103,110,115]⟩,⟨#[110]⟩,⟨#[107,105,110,100]⟩,⟨#[112,97,105,114,115]⟩,⟨#[95]⟩,⟨#[109]⟩,⟨#[107,101,121]⟩],[⟨#[110,111,100,101]⟩,⟨#[101,118,101,110,116,115]⟩,⟨#[99,104,105,108,100]⟩,⟨#[107,101,121]⟩,⟨#[104,101,108,100]⟩],[⟨#[104,101,97,100]⟩,⟨#[118,97,108,117,101]⟩,⟨#[99,111,108,117,109,110]⟩,⟨#[115,116,101,112]⟩,⟨#[101,110,100,105,110,103]⟩,⟨#[108,105,110,101,115]⟩,⟨#[114,111,119,115]⟩,⟨#[108,105,110,101]⟩,⟨#[101,110,100]⟩],[⟨#[104,101,97,100]⟩,⟨#[110,111,100,101]⟩,⟨#[99,111,108,117,109,110]⟩,⟨#[115,116,101,112]⟩,⟨#[101,110,100,105,110,103]⟩,⟨#[114,111,119,115]⟩],[⟨#[110,111,100,101]⟩,⟨#[99,111,108,117,109,110]⟩,⟨#[115,116,101,112]⟩,⟨#[101,110,100,105,110,103]⟩,⟨#[112,97,100]⟩,⟨#[114,111,119,115]⟩,⟨#[99,104,105,108,100]⟩,⟨#[107,101,121]⟩,⟨#[104,101,108,100]⟩],[⟨#[115,99,114,105,112,116]⟩,⟨#[116,97,112,101]⟩,⟨#[102,108,97,103,115]⟩,⟨#[105,110,100,101,110,116]⟩,⟨#[119,105,100,116,104]⟩,⟨#[111,112,101,110,101,100]⟩,⟨#[99,108,111,115,101,100]⟩,⟨#[119,105,100,101]⟩,⟨#[97,115,107,101,100]⟩,⟨#[114,111,111,116]⟩,⟨#[115,116,101,112]⟩,⟨#[101,110,100,105,110,103]⟩,⟨#[101,109,105,116,116,101,114]⟩,⟨#[101,118,101,110,116]⟩,⟨#[114,111,119,115]⟩,⟨#[108,97,115,116]⟩]]
noncomputable def nms(n:Nat):List Str:=(c0 rJ n).getD []
end Mine.L1
namespace Mine
open PySem PySem.W PyProof.Rows PySem.Calls PySem.Builtin
namespace L1
noncomputable def Ha:List Nat:=[31,59,81,101,113,133,145,165,185,197,217,229,241,253,265,277,296,736,771]
noncomputable def cla(c:Nat):Nat:=(c0 Ha c).getD 0
noncomputable def Hb:List Nat:=[49,78,98,130,162,182,214,293,316,330,337,344,352,359,366,373,381,388,395,403,417,480,487,495,502,509,517,524,531,538,545,552,559,566,573,580,587,629,636,643,650,658,665,673,711,725,733,754,761,768,783,790,797,804,809,816,823,830,837,842]
noncomputable def fna(c:Nat):Nat:=(c0 Hb c).getD 0
noncomputable def bin(b:Nat):Value:=.builtin (Nat.casesOn (motive:=λ_=>String) b "len" λ_=>"isinstance")
end L1
noncomputable def f7(K:Frag)(h₀:Heap)(prog:Program)(wd:World)(mg mb:Str→Option Value)(p:Program)(loose:List Str):Cx:=
 {N:={T:=L1.T,nm:=L1.nm,natr:=L1.natr,fna:=L1.fna,cla:=L1.cla,bin:=L1.bin,P:=wd.params,h₀:=h₀},prog,wd,K,mg,mb,p,loose,gnm:=L1.gnm}
theorem oO{α:Type}{l:List α}{n:Nat}{a:α}(h:c0 l n=some a):n<l.length:=(List.getElem?_eq_some_iff.mp ((bG l n).symm.trans h)).1
theorem cT{n:Nat}{p:Nat→Bool}(h:(List.range n).all p=true){i:Nat}(hi:i<n):p i=true:=qdz.mp h i (qzz.mpr hi)
noncomputable def rP(l:List (Nat×Option MV)):List Nat:=(l.filter λp=>p.2.isNone).map Prod.fst
noncomputable def oP(l:List (Nat×Option MV)):List (Nat×MV):=l.filterMap λp=>p.2.map λv=>(p.1,v)
noncomputable def Ak(l:List (Nat×Option MV)):Bool:=List.rec (motive:=λ_=>Bool) true (λp r ih=>bif p.2.isNone then ih else r.all λq=>q.2.isSome) l
theorem yP{l:List (Nat×Option MV)}(h:l.all (λq=>q.2.isSome)=true):l=(oP l).map (λp=>(p.1,some p.2))∧rP l=[]:=by
 induction l with
 |nil=>exact⟨rfl,rfl⟩
 |cons p r ih=>
  obtain⟨n,o⟩:=p;have h:=List.all_cons.symm.trans h;cases o with
  |none=>exact aB (ab h)
  |some v=>exact⟨bJ (List.cons _) (ih (aa h)).1,(ih (aa h)).2⟩
theorem wv{l:List (Nat×Option MV)}(h:Ak l=true):l=(rP l).map (λn=>(n,none))++(oP l).map (λp=>(p.1,some p.2)):=by
 induction l with
 |nil=>rfl
 |cons p r ih=>
  obtain⟨n,o⟩:=p;cases o with
  |none=>exact bJ (List.cons _) (ih h)
  |some v=>
   obtain⟨h1,h2⟩:=yP (l:=(n,some v)::r) (List.all_cons.trans (qmz.mpr ⟨rfl,h⟩));rw[h2];exact h1
noncomputable def BX(a b:List Str):Bool:=Nat.beq a.length b.length&&(a.zip b).all λp=>m7 p.1 p.2
theorem td{a:List Str}:∀{b:List Str},BX a b=true→a=b:=by
 induction a with
 |nil=>intro b h;exact(xT (jO (ab h)).symm).symm
 |cons x r ih=>
  intro b h;cases b with
  |nil=>exact aB (ab h)
  |cons y q=>
   have h2:=List.all_cons.symm.trans (aa h);have e:x=y:=j7 (ab h2);have e2:r=q:=ih (qmz.mpr ⟨ab h,aa h2⟩);rw[e,e2]
noncomputable def Ek{α:Type}(eq:α→α→Bool)(l:List α):Bool:=List.rec (motive:=λ_=>Bool) true (λk r ih=>r.all (λj=>!(eq k j))&&ih) l
theorem oQ{α:Type}{eq:α→α→Bool}(hr:∀a,eq a a=true){l:List α}(h:Ek eq l=true):l.Nodup:=by
 induction l with
 |nil=>exact .nil
 |cons k r ih=>
  refine List.nodup_cons.mpr ⟨λz=>?_,ih (aa h)⟩;have:=qdz.mp (ab h) k z;rw[hr k] at this;exact aB this
noncomputable def J4(v:MV)(a:Value):Bool:=bif isNone v then (match a with
  |.none=>true
  |_=>false) else MV.casesOn (motive_1:=λ_=>Bool) v false (λb=>match a with
  |.bool c=>b==c
  |_=>false) (λ_=>false) (λ_=>false) (λ_=>false) (λ_=>false) (λ_=>false) (λ_=>false) (λ_ _=>false) (λ_ _=>false) (λ_=>false) (λ_=>false) (λ_=>false)
theorem BY{N:Nm}{w:Wd}{v:MV}{a:Value}(h:J4 v a=true):VRel N w v a:=by
 cases v with
 |none=>cases a with
  |none=>exact .none
  |_=>exact aB h
 |bool b=>cases a with
  |bool c=>rw[eq_of_beq (h:(b==c)=true)];exact .bool c
  |_=>exact aB h
 |_=>exact aB h
noncomputable def J5(os:List MV)(ds:List Value):Bool:=Nat.beq os.length ds.length&&(os.zip ds).all λp=>J4 p.1 p.2
theorem BZ{N:Nm}{w:Wd}{os:List MV}:∀{ds:List Value},J5 os ds=true→VRels N w os ds:=by
 induction os with
 |nil=>intro ds h;exact xT (jO (ab h)).symm
 |cons o r ih=>
  intro ds h;cases ds with
  |nil=>exact aB (ab h)
  |cons d q=>
   have h2:=List.all_cons.symm.trans (aa h);exact .cons (BY (ab h2)) (ih (qmz.mpr ⟨ab h,aa h2⟩))
noncomputable def El(K:Frag)(T:Addr):Option (List Value):=(K.lookup T).bind λo=>match o.data with
 |.seq ds _=>some ds.toList
 |_=>none
noncomputable def Eo(K:Frag)(dV:Value):Option (List Value):=match dV with
 |.none=>some []
 |.ref T=>El K T
 |_=>none
theorem yQ{K:Frag}{dV:Value}{ds:List Value}(h:Eo K dV=some ds):(dV= .none∧ds=[])∨ ∃T oc od k sl,dV= .ref T∧K.lookup T=some ⟨oc,od,.seq ds.toArray k,sl⟩:=by
 cases dV with
 |none=>exact .inl ⟨rfl,(ay h).symm⟩
 |ref T=>
  refine ad (h:(K.lookup T).bind _=_) λo h1 h=>?_;obtain⟨oc,od,dat,sl⟩:=o;cases dat with
  |seq xs k=>exact .inr ⟨T,oc,od,k,sl,rfl,by rw[h1,← ay h]⟩
  |_=>exact aG h
 |_=>exact aG h
noncomputable def B0(k:NameKind):Bool:=Nat.beq k.ctorIdx NameKind.cell.ctorIdx
noncomputable def B4(C:Cx)(f:Nat):Option FuncData:=(C.K.lookup (C.N.fna f)).bind λo=>match o.data with
 |.func fd=>some fd
 |_=>none
noncomputable def rQ(fd:FuncData):Option (List Stmt):=match fd.body with
 |.stmts b=>some b
 |_=>none
noncomputable def f8(C:Cx)(f:Nat):List Stmt:=((B4 C f).bind rQ).getD []
noncomputable def uI(C:Cx)(f:Nat):Fc:=⟨((B4 C f).map (·.scope)).getD ⟨.module,[],false,false,[]⟩,L1.nms f⟩
noncomputable def iQ(C:Cx)(f:Nat):MSs:=((C.N.T.body f).map Prod.snd).getD .nil
noncomputable def Hc(C:Cx)(fd:FuncData)(nms:List Str)(ps:List (Nat×Option MV))(ids:List Nat):Bool:=
 Ak ps&&(BX (fd.params.args.map (·.arg)) (ids.map C.N.nm)&&(ids.all (λn=>oz n C.N.natr)&&(Ek Nat.beq ids&&(BX (nms.take ids.length) (ids.map C.N.nm)&&((Eo C.K fd.defaults).map λds=>J5 ((oP ps).map (·.2)) ds).getD false))))
noncomputable def Hd(C:Cx)(fd:FuncData)(nms:List Str):Bool:=
 Nat.beq fd.globals mainGlobals&&(fd.closure.isEmpty&&(Nat.beq fd.builtins builtinsNs&&(codeIn C.K fd.code fd.qualname&&(fd.params.posonlyargs.isEmpty&&(fd.params.kwonlyargs.isEmpty&&(fd.params.vararg.isNone&&(fd.params.kwarg.isNone &&
 (Ek m7 nms&&(nms.all (λx=>jp (cF x fd.scope.names)||isCelK (cF x fd.scope.names))&&(!fd.scope.isCoroutine&&(!fd.scope.isGenerator&&(yp fd.scope.kind&&fd.scope.names.all λq=>!B0 q.2||isCelK (cF q.1 fd.scope.names)))))))))))))
noncomputable def He(C:Cx)(f:Nat):Bool:=((B4 C f).map λfd=>(rQ fd).isSome&&(Hd C fd (L1.nms f)&&(Hc C fd (L1.nms f) (C.N.T.fnPar f) (rP (C.N.T.fnPar f)++(oP (C.N.T.fnPar f)).map (·.1))&&m8 C (uI C f) (iQ C f) (f8 C f)))).getD false
theorem qw(x:Str):m7 x x=true:=ma _
theorem Ep{fd:FuncData}{b:List Stmt}(hb:rQ fd=some b)(e1:fd.globals=mainGlobals)(e2:fd.closure=[])(e3:fd.builtins=builtinsNs) :
  fnOf fd.name fd.qualname fd.params b fd.scope fd.defaults fd.kwdefaults fd.doc fd.pyModule fd.annotations fd.code fd.closureTuple=fd:=by
 obtain⟨fname,fqual,fparams,fbody,fscope,fglob,fclo,fdef,fkw,fdoc,fpm,fan,fcode,fct,fbi⟩:=fd;dsimp only at e1 e2 e3;subst e1 e2 e3;cases fbody with
 |stmts b'=>obtain rfl:=ay hb;rfl
 |_=>exact aG hb
theorem ww{o:Obj}{fd:FuncData}(h:(match o.data with
 |.func fd=>some fd
 |_=>none)=some fd):o=⟨o.cls,o.dict,.func fd,o.slots⟩:=by
 obtain⟨oc,od,dat,osl⟩:=o;cases dat with
 |func fd'=>obtain rfl:=ay h;rfl
 |_=>exact aG h
theorem getD_some{α:Type}{o:Option α}{p:α→Bool}(h:(o.map p).getD false=true):∃a,o=some a∧p a=true:=by
 cases o with
 |none=>exact aB h
 |some a=>exact⟨a,rfl,h⟩
theorem B6{C:Cx}{f:Nat}(h:He C f=true)(he:iL C (uI C f) (iQ C f) (f8 C f)=f8 C f):DefOk C f (iQ C f):=by
 obtain⟨fd,hfd,h⟩:=getD_some h;obtain⟨body,hbody⟩:=qez.mp (ab h);have hb:f8 C f=body:=by unfold f8;rw[hfd,mY,hbody];rfl
 have hsc:uI C f=⟨fd.scope,L1.nms f⟩:=by unfold uI;rw[hfd];rfl
 have hok:=aa (aa (aa h));rw[hb,hsc] at hok he;have hp:=ab (aa (aa h));have hd:=ab (aa h);obtain⟨o,hl,ho⟩:=bind_some hfd;have d2:=aa hd;have d3:=aa d2;have d4:=aa d3;have d5:=aa d4;have d6:=aa d5;have d7:=aa d6;have d8:=aa d7;have d9:=aa d8;have d10:=aa d9;have d11:=aa d10;have d12:=aa d11;have d13:=aa d12;have p2:=aa hp;have p3:=aa p2;have p4:=aa p3;have p5:=aa p4;obtain⟨ds,hds,hdv⟩:=getD_some (aa p5);have hq:=Ep hbody (jO (ab hd)) (List.isEmpty_iff.mp (ab d2)) (jO (ab d3))
 exact⟨⟨fd.name,fd.qualname,fd.params,body,fd.scope,fd.defaults,fd.kwdefaults,fd.doc,fd.pyModule,fd.annotations,fd.code,fd.closureTuple⟩,L1.nms f,_,_,ds,⟨⟨o.cls,o.dict,o.slots,hl.trans ((bJ some (ww ho)).trans (by rw[← hq]))⟩,ab d4,List.isEmpty_iff.mp (ab d5),td (ab p2),List.isEmpty_iff.mp (ab d6),
  qnz.mp (ab d7),qnz.mp (ab d8),wv (ab hp),λn hn=>dy (qdz.mp (ab p3) n hn),oQ Nat.beq_refl (ab p4),yQ hds,λw=>BZ hdv,oQ qw (ab d9),td (ab p5),λx hx=>(qxz.mp (qdz.mp (ab d10) x hx)).imp jv lw,
  nf (ab d11),nf (ab d12),gV (ab d13),λx hx z=>by
   rcases qxz.mp (qdz.mp (aa d13) x hx) with h | h
   ·have:=nf h
    rw[z] at this;exact aB this.symm
   ·exact lw h⟩,he,hok⟩
open PySem PySem.W PyProof.Rows PySem.Calls PySem.Builtin
noncomputable def f9(o:Option (Option Value))(v:Value):Bool:=o==some (some v)
noncomputable def lA(o:Option (Option Value)):Bool:=o==some none
theorem dB{o:Option (Option Value)}{v:Value}(h:f9 o v=true):o=some (some v):=beq_iff_eq.mp h
theorem iR{o:Option (Option Value)}(h:lA o=true):o=some none:=beq_iff_eq.mp h
noncomputable def Er(C:Cx)(c:Nat)(n:Nat):Bool:=Option.casesOn (motive:=λ_=>Bool) (C.N.T.clsMeth c n) true λf=>
 (aC (C.N.T.clsFields c) n).isNone&&(f9 (findIn C.K (.ref (C.N.cla c)) (C.N.nm n)) (.ref (C.N.fna f))&&(isFn C.K (.ref (C.N.fna f))&&(f9 (specialIn C.K (.ref (C.N.fna f)) "__get__") (.builtin "function.__get__") &&
   (takesIn C.K (.ref (C.N.fna f))==some false&&(!(copiedNames.contains (C.N.nm n))&&(C.N.T.body f).isSome)))))
noncomputable def Et(C:Cx)(c:Nat):Bool:=
 f9 (findIn C.K (.ref (C.N.cla c)) "__getattribute__") (.builtin "object.__getattribute__")&&(lA (findIn C.K (.ref (C.N.cla c)) "__getattr__")&&(f9 (findIn C.K (.ref (C.N.cla c)) "__setattr__") (.builtin "object.__setattr__") &&
 (hasDictIn C.K (C.N.cla c)&&(plainOver C.K (C.N.cla c)&&((C.N.T.clsFields c).all (λn=>lA (findIn C.K (.ref (C.N.cla c)) (C.N.nm n))&&oz n C.N.natr)&&((List.range C.N.natr).all (Er C c) &&
 (Nat.ble (C.N.T.clsFields c).length 900&&Ek Nat.beq (C.N.T.clsFields c))))))))
theorem yR{C:Cx}{c:Nat}(h:Et C c=true)(ha:∀n v,n<C.N.natr→C.N.T.clsAttr c n=some v→ ∃a,aC (C.N.T.clsFields c) n=none∧findIn C.K (.ref (C.N.cla c)) (C.N.nm n)=some (some a)∧specialIn C.K a "__get__" = some none∧handedIn a=true ∧
  copiedNames.contains (C.N.nm n)=false∧ ∀w:Wd,(∀a o,C.N.h₀.get? a=some o→w.G a=some o)→VRel C.N w v a):ClsOk C c:=by
 have h2:=aa h;have h3:=aa h2;have h4:=aa h3;have h5:=aa h4;have h6:=aa h5;have h7:=aa h6;have h8:=aa h7;refine⟨dB (ab h),iR (ab h2),dB (ab h3),ab h4,ab h5,λn i hn hf=>iR (ab (qdz.mp (ab h6) n (List.mem_of_getElem? (jr hf)))),λn f hn hf=>?_,ha,kM (ab h8),λn hn=>dy (aa (qdz.mp (ab h6) n hn)),oQ Nat.beq_refl (aa h8)⟩;have g:=cT (ab h7) hn;unfold Er at g;rw[hf] at g;have g1:((aC (C.N.T.clsFields c) n).isNone&&_)=true:=g;have g2:=aa g1;have g3:=aa g2;have g4:=aa g3;have g5:=aa g4;have g6:=aa g5;exact⟨qnz.mp (ab g1),dB (ab g2),ab g3,dB (ab g4),beq_iff_eq.mp (ab g5),nf (ab g6),aa g6⟩
noncomputable def KW:List (Tx×Tx):=[([33],[33]),([116,97,103,58,121,97,109,108,46,111,114,103,44,50,48,48,50,58],[33,33])]
structure DpOk(C:Cx):Prop where
 at_:∃dp,(dp==sysModules)=false∧findIn C.K (.ref (C.N.cla 17)) (C.N.nm 93)=some (some (.ref dp))∧specialIn C.K (.ref dp) "__get__" = some none ∧
  ∃t1 t2 t3 t4 ep,C.K.lookup dp=some ⟨.type "dict",none,.dict #[⟨PyData.keyHash C.N.P (aj [33]),.str (aj [33]) t1,.str (aj [33]) t2⟩,⟨PyData.keyHash C.N.P (aj [116,97,103,58,121,97,109,108,46,111,114,103,44,50,48,48,50,58]),.str (aj [116,97,103,58,121,97,109,108,46,111,114,103,44,50,48,48,50,58]) t3,.str (aj [33,33]) t4⟩] ep,#[]⟩
noncomputable def B7(C:Cx)(c f:Nat):Bool:=makesIn C.K (C.N.cla c)&&(fZ C.K (C.N.cla c)&&(keepIn C.K (.ref (C.N.cla c))&&(f9 (findIn C.K (.ref (C.N.cla c)) "__init__") (.ref (C.N.fna f))&&(typeIn C.K (.ref (C.N.fna f))==some (.type "function") &&
 (Et C c&&(List.range 19).all λd=>!(C.N.T.clsInit d).isSome||isiOk C.K (C.N.cla c) (C.N.cla d) (C.N.T.clsSub c d))))))
noncomputable def Al(C:Cx)(f:Nat):Bool:=keepIn C.K (.ref (C.N.fna f))&&fnIn C.K (C.N.fna f)
noncomputable def xO(C:Cx)(x:Str)(a:Value):Bool:=f9 (nsIn C.K mainGlobals x) a||(lA (nsIn C.K mainGlobals x)&&(bootBuiltins x==some a&& !(m7 x "__name__")))
theorem kh{C:Cx}{x:Str}{a:Value}(h:xO C x a=true):mh C x a:=by
 rcases qxz.mp h with h | h
 ·exact .inl (dB h)
 ·exact .inr ⟨iR (ab h),beq_iff_eq.mp (ab (aa h)),v3 (nf (aa (aa h)))⟩
noncomputable def B8(K:Frag)(a:Addr):Option (List Value):=(K.lookup a).bind λo=>bif o.cls== .type "list" then (match o.data with
 |.seq ds _=>some ds.toList
 |_=>none) else none
noncomputable def J6(v:MV)(a:Value):Bool:=((cE v).map λs=>aS s.length ak&&(match a with
 |.str x _=>Ac s x.cps.toList
 |_=>false)).getD false
noncomputable def J7(vs:List MV)(ds:List Value):Bool:=Nat.beq vs.length ds.length&&((vs.zip ds).all λp=>J6 p.1 p.2)
noncomputable def Eu(o:Option (Option Value)):Option Addr:=match o with
 |some (some (.ref a))=>some a
 |_=>none
noncomputable def Ev(C:Cx)(x:Str)(vs:List MV):Bool:=aS vs.length ak&&((Eu (nsIn C.K mainGlobals x)).map λa=>((B8 C.K a).map λds=>J7 vs ds).getD false).getD false
theorem Ca{N:Nm}{w:Wd}{v:MV}{a:Value}(h:J6 v a=true):VRel N w v a:=by
 obtain⟨s,h1,h⟩:=getD_some h;rw[bg h1];have h2:=aa h;cases a with
 |str x t=>
  have e:s=x.cps.toList:=rF h2;have:x=aj s:=by rw[e];show x=⟨x.cps.toList.toArray⟩;rw[Array.toArray_toList]
  rw[this];exact .str t (bf (ab h))
 |_=>exact aB h2
theorem Cb{N:Nm}{w:Wd}{vs:List MV}:∀{ds:List Value},J7 vs ds=true→VRels N w vs ds:=by
 induction vs with
 |nil=>intro ds h;exact xT (jO (ab h)).symm
 |cons o r ih=>
  intro ds h;cases ds with
  |nil=>exact aB (ab h)
  |cons d q=>
   have h2:=List.all_cons.symm.trans (aa h);exact .cons (Ca (ab h2)) (ih (qmz.mpr ⟨ab h,aa h2⟩))
theorem yS{C:Cx}{x:Str}{vs:List MV}(X:C.K.In C.N.h₀)(h:Ev C x vs=true):∃a,mh C x a∧ ∀w:Wd,(∀a o,C.N.h₀.get? a=some o→w.G a=some o)→VRel C.N w (.lst vs) a:=by
 obtain⟨a,h1,h2⟩:=getD_some (aa h);obtain⟨ds,h3,h4⟩:=getD_some h2
 have h5:nsIn C.K mainGlobals x=some (some (.ref a)):=by
  generalize nsIn C.K mainGlobals x=o at h1
  match o,h1 with
  |some (some (.ref b)),h1=>rw[ay (h1:some b=some a)]
 refine⟨.ref a,.inl h5,λw hw=>?_⟩;refine ad h3 λo h6 h7=>?_;obtain⟨hc,h7⟩:=mZ h7;obtain⟨oc,od,dat,sl⟩:=o;cases dat with
 |seq xs k=>
  obtain rfl:xs.toList=ds:=ay h7;have hl:=(Cb (N:=C.N) (w:=w) h4);exact .lst (hw _ _ (X _ _ h6)) ⟨by rw[← hl.length_eq];exact bf (ab h),eq_of_beq hc,k,by rw[Array.toArray_toList]⟩ hl
 |_=>exact aG h7
noncomputable def J8(C:Cx)(x:Str)(v:MV):Bool:=MV.casesOn (motive_1:=λ_=>Bool) v false (λ_=>false) (λ_=>false) (λ_=>false) (λ_=>false) (λf=>xO C x (.ref (C.N.fna f))&&(C.N.T.body f).isSome) (λc=>xO C x (.ref (C.N.cla c))&&(C.N.T.clsInit c).isSome) (λb=>xO C x (C.N.bin b))
 (λ_ _=>false) (λ_ _=>false) (λvs=>Ev C x vs) (λ_=>false) (λ_=>false)
noncomputable def Hf(C:Cx)(i:Nat):Bool:=Option.casesOn (motive:=λ_=>Bool) (C.N.T.gval i) true (J8 C (C.gnm i))
structure RowFacts(C:Cx):Prop where
 fn:(List.range 60).all (He C)=true
 bd:(List.range 60).map (λf=>iL C (uI C f) (iQ C f) (f8 C f))=(List.range 60).map (f8 C)
 cls:(List.range 19).all (λc=>Option.casesOn (motive:=λ_=>Bool) (C.N.T.clsInit c) true (B7 C c))=true
 keep:(List.range 60).all (Al C)=true
 gv:(List.range 28).all (Hf C)=true
 rg:xO C "range" (.type "range")=true
 so:xO C "sorted" (.builtin "sorted")=true
 st:xO C "str" (.type "str")=true
 dp:DpOk C
section
variable {K:Frag}{h₀:Heap}{prog:Program}{wd:World}{mg mb:Str→Option Value}{p:Program}{loose:List Str}
theorem tf{α:Type}{l:List (Option α)}{n:Nat}{a:α}(h:(c0 l n).getD none=some a):n<l.length:=by
 cases e:c0 l n with
 |none=>rw[e] at h;exact aG h
 |some o=>exact oO e
theorem wx{c f:Nat}(h:L1.clsInit c=some f):c<19:=tf h
theorem nK(F:RowFacts (f7 K h₀ prog wd mg mb p loose)){c f:Nat}(h:L1.T.clsInit c=some f):B7 (f7 K h₀ prog wd mg mb p loose) c f=true:=by
 have:=cT F.cls (wx h);rw[show (f7 K h₀ prog wd mg mb p loose).N.T.clsInit c=some f from h] at this;exact this
theorem Cd(F:RowFacts (f7 K h₀ prog wd mg mb p loose))(X:K.In h₀)(c:Nat):∀n v,n<L1.natr→L1.T.clsAttr c n=some v→ ∃a,aC (L1.T.clsFields c) n=none∧findIn K (.ref (L1.cla c)) (L1.nm n)=some (some a)∧specialIn K a "__get__" = some none∧handedIn a=true ∧
  copiedNames.contains (L1.nm n)=false∧ ∀w:Wd,(∀a o,h₀.get? a=some o→w.G a=some o)→VRel (f7 K h₀ prog wd mg mb p loose).N w v a:=by
 intro n v hn h;have hk:((List.range 19).all λc=>(List.range L1.natr).all λn=>(L1.clsAttr c n).isNone||(Nat.beq c 17&&Nat.beq n 93))=true:=by kernel_rfl
 have hc:c<19:=ad (h:(c0 L1.clsAttrL c).bind _=_) λl h1 _=>oO h1;have h1:=cT (cT hk hc) hn;rw[show L1.clsAttr c n=some v from h] at h1;have e1:=jO (ab (h1:(Nat.beq c 17&&Nat.beq n 93)=true));have e2:=jO (aa (h1:(Nat.beq c 17&&Nat.beq n 93)=true));subst e1 e2;have hv:L1.T.clsAttr 17 93=some (.sd KW):=by kernel_rfl
 obtain rfl:=ay (hv.symm.trans h);obtain⟨dp,h1,h2,h3,t1,t2,t3,t4,ep,h4⟩:=F.dp.at_;exact⟨.ref dp,by kernel_rfl,h2,h3,rfl,by kernel_rfl,λw hw=>SdR.mk (es:=[_,_]) (by decide +kernel) h1 (hw _ _ (X _ _ h4)) ⟨_,_,_,by decide,by decide,rfl,_,_,_,by decide,by decide,rfl,rfl⟩⟩
theorem Ce(n m:Nat)(hn:n<L1.natr)(hm:m<L1.natr)(h:L1.nm n=L1.nm m):n=m:=by
 have hd:Ek m7 ((List.range L1.natr).map L1.nm)=true:=by kernel_rfl
 refine h9 (oQ qw hd) (x:=L1.nm n) ?_ ?_
 ·rw[List.getElem?_map,List.getElem?_range hn];rfl
 ·rw[List.getElem?_map,List.getElem?_range hm,h];rfl
theorem Hg(F:RowFacts (f7 K h₀ prog wd mg mb p loose))(X:K.In h₀)(T:TopRead p loose mg mb h₀):CxOk (f7 K h₀ prog wd mg mb p loose) where
 X:=X
 top:=T
 cls:=λc hc=>(qez.mp hc).elim λf hf=>yR (ab (aa (aa (aa (aa (aa (nK F hf))))))) (Cd F X c)
 em:=by kernel_rfl
 inj:=Ce
 handed:=λb=>by cases b<;>kernel_rfl
 par:=rfl
theorem Hh(F:RowFacts (f7 K h₀ prog wd mg mb p loose)):CaOk (f7 K h₀ prog wd mg mb p loose) where
 made:=λc hc=>(qez.mp hc).elim λf hf=>ab (nK F hf)
 ini:=λc f hf=>have h:=aa (aa (aa (nK F hf)));⟨dB (ab h),beq_iff_eq.mp (ab (aa h))⟩
 isi:=λc d hc hd=>(qez.mp hc).elim λf hf=>(qez.mp hd).elim λg hg=>by
  have h:=cT (aa (aa (aa (aa (aa (aa (nK F hf))))))) (wx hg);rw[show (f7 K h₀ prog wd mg mb p loose).N.T.clsInit d=some g from hg] at h;exact h
 rd:=λc hc=>(qez.mp hc).elim λf hf=>ab (aa (nK F hf))
 keepC:=λc hc=>(qez.mp hc).elim λf hf=>ab (aa (aa (nK F hf)))
 keepF:=λf hf=>(qez.mp hf).elim λb hb=>have h:=cT F.keep (oO (l:=L1.bodyL) hb);⟨ab h,aa h⟩
 b0:=rfl
 b1:=rfl
theorem Hi:NmOk (f7 K h₀ prog wd mg mb p loose):=
 have h:∀(n:Nat) (x:Str),m7 (L1.nm n) x=true→(f7 K h₀ prog wd mg mb p loose).N.nm n=x:=λ_ _=>j7
 ⟨h 0 _ (by kernel_rfl),h 1 _ (by kernel_rfl),h 2 _ (by kernel_rfl),h 3 _ (by kernel_rfl),h 4 _ (by kernel_rfl),h 5 _ (by kernel_rfl)⟩
theorem yT(F:RowFacts (f7 K h₀ prog wd mg mb p loose)){i:Nat}{v:MV}(h:L1.T.gval i=some v):J8 (f7 K h₀ prog wd mg mb p loose) (L1.gnm i) v=true:=by
 have hb:=cT F.gv (tf (l:=L1.gvalL) h);unfold Hf at hb;rw[show (f7 K h₀ prog wd mg mb p loose).N.T.gval i=some v from h] at hb;exact hb
theorem Hj(F:RowFacts (f7 K h₀ prog wd mg mb p loose))(X:K.In h₀):GvOk (f7 K h₀ prog wd mg mb p loose) where
 at_:=λi v h=>by
  have hb:=yT F h;cases v with
  |fn f=>exact⟨_,kh (ab hb),λw _=>.fn _⟩
  |cls c=>exact⟨_,kh (ab hb),λw _=>.cls _⟩
  |bi b=>exact⟨_,kh hb,λw _=>.bi _⟩
  |lst vs=>exact yS X hb
  |_=>exact aB hb
 fn:=λi f h=>aa (yT F h)
 cls:=λi c h=>aa (yT F h)
 bi:=λi b h=>⟨_,rfl⟩
 oth:=λi f l h=>aB (yT F h)
theorem Cf(F:RowFacts (f7 K h₀ prog wd mg mb p loose)):ProgOk (f7 K h₀ prog wd mg mb p loose):=⟨λf m b hb=>by
 have hf:f<60:=oO (l:=L1.bodyL) hb;have he:=bJ (·[f]?) F.bd
 rw[List.getElem?_map,List.getElem?_map,List.getElem?_range hf] at he;have h:=B6 (cT F.fn hf) (ay he);have hm:iQ (f7 K h₀ prog wd mg mb p loose) f=b:=by unfold iQ;rw[hb];rfl
 exact hm▸h⟩
theorem yU(F:RowFacts (f7 K h₀ prog wd mg mb p loose))(X:K.In h₀)(T:TopRead p loose mg mb h₀):Base (f7 K h₀ prog wd mg mb p loose):=
 ⟨Hg F X T,Hh F,Hi,Hj F X,Cf F,⟨kh F.rg,kh F.so,kh F.st⟩⟩
end
open PySem PySem.W PyProof.Rows PySem.Calls
variable (P:Params)(h₀:Heap)(prog:Program)(wd:World)(mg mb:Str→Option Value)(p:Program)(loose:List Str)
theorem KX:(List.range 60).all (He (f7 (hK wd.params) h₀ prog wd mg mb p loose))=true:=by kernel_rfl
theorem KY:(List.range 60).map (λf=>iL (f7 (hK wd.params) h₀ prog wd mg mb p loose) (uI (f7 (hK wd.params) h₀ prog wd mg mb p loose) f) (iQ (f7 (hK wd.params) h₀ prog wd mg mb p loose) f) (f8 (f7 (hK wd.params) h₀ prog wd mg mb p loose) f))=(List.range 60).map (f8 (f7 (hK wd.params) h₀ prog wd mg mb p loose)):=by kernel_rfl
theorem KZ:(List.range 19).all (λc=>Option.casesOn (motive:=λ_=>Bool) ((f7 (hK wd.params) h₀ prog wd mg mb p loose).N.T.clsInit c) true (B7 (f7 (hK wd.params) h₀ prog wd mg mb p loose) c))=true:=by kernel_rfl
theorem K0:(List.range 60).all (Al (f7 (hK wd.params) h₀ prog wd mg mb p loose))=true:=by kernel_rfl
theorem K1:(List.range 28).all (Hf (f7 (hK wd.params) h₀ prog wd mg mb p loose))=true:=by kernel_rfl
theorem K2:xO (f7 (hK wd.params) h₀ prog wd mg mb p loose) "range" (.type "range")=true:=by kernel_rfl
theorem K3:xO (f7 (hK wd.params) h₀ prog wd mg mb p loose) "sorted" (.builtin "sorted")=true:=by kernel_rfl
theorem K4:xO (f7 (hK wd.params) h₀ prog wd mg mb p loose) "str" (.type "str")=true:=by kernel_rfl
theorem K5:DpOk (f7 (hK wd.params) h₀ prog wd mg mb p loose):=⟨308,by decide,by kernel_rfl,by kernel_rfl,633,634,635,636,2,by kernel_rfl⟩
noncomputable def aN(r:R):Option (Bool×MV×Sto):=R.rec (motive:=λ_=>Option (Bool×MV×Sto)) (λv sh=>some (true,v,sh)) (λb d _ ih=>ih.map λp=>(b==d&&p.1,p.2)) none r
theorem cG{r:R}:∀{p:Bool×MV×Sto},aN r=some p→p.1=true→am r p.2.1 p.2.2:=by
 induction r with
 |fin v sh=>intro p h _;rw[← ay h];exact⟨rfl,rfl⟩
 |cst b d r ih=>
  intro p h hp;have h:(aN r).map (λp=>(b==d&&p.1,p.2))=some p:=h;refine bH h λq h1 h2=>?_;have hp:(b==d&&q.1)=true:=(bJ Prod.fst h2).trans hp;have g:am r q.2.1 q.2.2:=ih h1 (aa hp);rw[← h2];exact⟨eq_of_beq (ab hp),g⟩
 |bad=>intro p h;exact aG h
noncomputable def DF(a b:Option (List MV)):Bool:=(a.isNone&&b.isNone)||(b.map List.isEmpty).getD false
noncomputable def Ew(sh sh':Sto):Bool:=sh.em.isNone&&(sh'.em.isNone&&(DF sh.states sh'.states&&(DF sh.events sh'.events&&(DF sh.indents sh'.indents&&(DF sh.rows sh'.rows&&DF sh.due sh'.due)))))
noncomputable def fr(a b:Option (List MV)):Bool:=@decide (a=b) (Classical.propDecidable _)
noncomputable def im(a b:Sto):Bool:=fr a.em b.em&&(fr a.states b.states&&(fr a.events b.events&&(fr a.indents b.indents&&(fr a.rows b.rows&&(fr a.tape b.tape&&fr a.due b.due)))))
noncomputable def mz(f:Nat):Bool:=Nat.ble f 8||Nat.beq f 47
noncomputable def Hk(Ψ:Psi)(is:Nat→Bool)(sp:Psi)(O:Nat→Ds):Psi:=λf as sh=>bif is f then sp f as sh else bif mz f then (aN (aR L1.T Ψ f as sh (O f))).bind λp=>bif Ew sh p.2.2 then some (p.1&&fr sh.tape p.2.2.tape,p.2) else some (p.1&&im sh p.2.2,p.2) else aN (aR L1.T Ψ f as sh (O f))
noncomputable def wy(v:MV):Bool:=((fH v).map z4).getD false
noncomputable def Gi(as:List MV)(sh:Sto):Option (Bool×MV×Sto):=sh.tmp.bind λp=>bif Nat.beq p.1 16&&(Nat.beq p.2.length 8&&(Nat.beq as.length 9&&((c0 as 0).map wy).getD false)) then some (true,.none,{sh with tmp:=some (16,as.tail.map some)}) else none
theorem yV{α:Type}{l:List α}{n:Nat}(h:l.length=n+1):∃a r,l=a::r∧r.length=n:=by
 cases l with
 |nil=>exact absurd h.symm (Nat.succ_ne_zero _)
 |cons a r=>exact⟨a,r,rfl,Nat.succ.inj h⟩
theorem Ka{α:Type}{l:List α}(h:l.length=8):∃a b c d e f g i,l=[a,b,c,d,e,f,g,i]:=by
 obtain⟨a,l1,e1,h1⟩:=yV h;obtain⟨b,l2,e2,h2⟩:=yV h1;obtain⟨c,l3,e3,h3⟩:=yV h2;obtain⟨d,l4,e4,h4⟩:=yV h3;obtain⟨e,l5,e5,h5⟩:=yV h4;obtain⟨f,l6,e6,h6⟩:=yV h5;obtain⟨g,l7,e7,h7⟩:=yV h6;obtain⟨i,l8,e8,h8⟩:=yV h7;exact⟨a,b,c,d,e,f,g,i,by rw[e1,e2,e3,e4,e5,e6,e7,e8,xT h8]⟩
theorem uJ{v:MV}(h:wy v=true):v= .loc .tmp:=by
 cases v with
 |loc l=>cases l with
  |tmp=>rfl
  |_=>exact aB h
 |_=>exact aB h
theorem tg{as:List MV}{sh:Sto}{r:Bool×MV×Sto}(h:Gi as sh=some r):∃l a b c d e f g i,sh.tmp=some (16,l)∧l.length=8∧as=[.loc .tmp,a,b,c,d,e,f,g,i]∧r=(true,.none,{sh with tmp:=some (16,[some a,some b,some c,some d,some e,some f,some g,some i])}):=by
 refine ad h λp h1 h=>?_;obtain⟨hc,h⟩:=mZ h;have h2:=aa hc;have h3:=aa h2;obtain⟨x,as,rfl,hl⟩:=yV (jO (ab h3));obtain rfl:=uJ (aa h3);obtain⟨a,b,c,d,e,f,g,i,rfl⟩:=Ka hl;exact⟨p.2,a,b,c,d,e,f,g,i,h1.trans (by rw[← jO (ab hc)]),jO (ab h2),rfl,(ay h).symm⟩
theorem yW{Ψ:Psi}{as:List MV}{sh:Sto}{r:MV×Sto}(h:Gi as sh=some (true,r)):Gd L1.T Ψ 7 as sh r.1 r.2:=by
 obtain⟨l,a,b,c,d,e,f,g,i,h1,h2,rfl,h3⟩:=tg h;obtain⟨em,tmp,ss,es,is,rs,tp,du⟩:=sh;obtain rfl:tmp=_:=h1;obtain⟨y1,y2,y3,y4,y5,y6,y7,y8,rfl⟩:=Ka h2;rw[show r=_ from(bJ Prod.snd h3)];exact KT (by kernel_rfl)
theorem Cg{α β:Type}{l:List α}{f g:α→β}(h:l.map f=l.map g){a:α}(m:a∈l):f a=g a:=by
 obtain⟨i,hi⟩:=List.getElem?_of_mem m;have:=bJ (·[i]?) h
 rw[List.getElem?_map,List.getElem?_map,hi] at this;exact ay this
noncomputable def mp{α β:Type}(f:α→β)(l:List α):List β:=List.rec (motive:=λ_=>List β) [] (λa _ ih=>f a::ih) l
theorem Ex{α β:Type}(f:α→β)(l:List α):mp f l=l.map f:=by
 induction l with
 |nil=>rfl
 |cons a l ih=>exact bJ (List.cons (f a)) ih
theorem ac{α β:Type}{l:List α}{f g:α→β}(h:l.map f=mp g l){a:α}(m:a∈l):f a=g a:=Cg (h.trans (Ex g l)) m
noncomputable def pr{α β:Type}(l:List α)(m:List β):List (α×β):=l.flatMap λa=>m.map λb=>(a,b)
theorem bj{α β:Type}{l:List α}{m:List β}{a:α}{b:β}(h1:a∈l)(h2:b∈m):(a,b)∈pr l m:=List.mem_flatMap.mpr ⟨a,h1,List.mem_map.mpr ⟨b,h2,rfl⟩⟩
noncomputable def bb:List Bool:=[true,false]
theorem ah:∀b,b∈bb
 |true=>.head _
 |false=>.tail _ (.head _)
noncomputable def aF(l:MSs):MS:=MSs.casesOn (motive_2:=λ_=>MS) l .pass λs _=>s
noncomputable def aY(l:MSs):MSs:=MSs.casesOn (motive_2:=λ_=>MSs) l .nil λ_ r=>r
noncomputable def bK(s:MS):MSs:=MS.casesOn (motive_1:=λ_=>MSs) s (λ_=>.nil) (λ_ _=>.nil) (λ_ _=>.nil) (λ_ _ _=>.nil) (λ_ _=>.nil) (λ_ _ _ _=>.nil) (λ_ _=>.nil) (λ_ _ _=>.nil) (λ_ b=>b) (λ_ _ b=>b) (λ_ _ b=>b) (λ_=>.nil) .nil .nil .nil (λ_ _ _ _=>.nil) (λ_ _ _ _=>.nil) (λ_ _=>.nil) (λ_ _ _ _ _=>.nil) (λ_ _ b=>b)
noncomputable def Ey(s:MS):MB:=MS.casesOn (motive_1:=λ_=>MB) s (λ_=>.bo true .nil) (λ_ _=>.bo true .nil) (λ_ _=>.bo true .nil) (λ_ _ _=>.bo true .nil) (λ_ _=>.bo true .nil) (λ_ _ _ _=>.bo true .nil) (λ_ _=>.bo true .nil) (λ_ _ _=>.bo true .nil) (λt _=>t) (λ_ _ b=>.bo true .nil) (λ_ _ b=>.bo true .nil) (λ_=>.bo true .nil) (.bo true .nil) (.bo true .nil) (.bo true .nil) (λ_ _ _ _=>.bo true .nil) (λ_ _ _ _=>.bo true .nil) (λ_ _=>.bo true .nil) (λ_ _ _ _ _=>.bo true .nil) (λ_ _ b=>.bo true .nil)
noncomputable def ag(l:MSs)(n:Nat):MSs:=Nat.rec (motive:=λ_=>MSs) l (λ_ l=>aY l) n
noncomputable def ai:Option MV→St→Ds→R:=λr st _=>.fin (r.getD .none) st.sh
noncomputable def ba(Ψ:Psi)(l:MSs)(k:Option MV→St→Ds→R):Option MV→St→Ds→R:=λv st=>pO v k (λst=>ae L1.T Ψ l st k) st
noncomputable def eQ(Ψ:Psi)(l:MSs)(k:Option MV→St→Ds→R)(t:MT)(vs:List MV)(st:St)(ds:Ds):R:=jf L1.T Ψ (λst k=>ae L1.T Ψ (bK (aF l)) st k) (ba Ψ (aY l) k) t vs st ds
noncomputable def oc{α β:Type}(o:Option α)(x:β)(f:α→β):β:=Option.casesOn (motive:=λ_=>β) o x f
noncomputable def aO(n:Nat)(l r:MSs):MSs:=Nat.rec (motive:=λ_=>MSs→MSs) (λ_=>r) (λ_ ih l=>.cons (aF l) (ih (aY l))) n l
noncomputable def ec(s:MS):MSs:=MS.casesOn (motive_1:=λ_=>MSs) s (λ_=>.nil) (λ_ _=>.nil) (λ_ _=>.nil) (λ_ _ _=>.nil) (λ_ _=>.nil) (λ_ _ _ _=>.nil) (λ_ _=>.nil) (λ_ a _=>a) (λ_ b=>.nil) (λ_ _ b=>.nil) (λ_ _ b=>.nil) (λ_=>.nil) .nil .nil .nil (λ_ _ _ _=>.nil) (λ_ _ _ _=>.nil) (λ_ _=>.nil) (λ_ _ _ _ _=>.nil) (λ_ _ b=>.nil)
noncomputable def Am(s:MS):MSs:=MS.casesOn (motive_1:=λ_=>MSs) s (λ_=>.nil) (λ_ _=>.nil) (λ_ _=>.nil) (λ_ _ _=>.nil) (λ_ _=>.nil) (λ_ _ _ _=>.nil) (λ_ _=>.nil) (λ_ _ b=>b) (λ_ b=>.nil) (λ_ _ b=>.nil) (λ_ _ b=>.nil) (λ_=>.nil) .nil .nil .nil (λ_ _ _ _=>.nil) (λ_ _ _ _=>.nil) (λ_ _=>.nil) (λ_ _ _ _ _=>.nil) (λ_ _ b=>.nil)
noncomputable def WL(Ψ:Psi)(l:MSs)(K:Option MV→St→Ds→R)(n:Nat)(st:St)(ds:Ds):R:=fy (λst k=>fR L1.T Ψ (Ey (aF l)) st k) (λst k=>ae L1.T Ψ (bK (aF l)) st k) K n st ds
noncomputable def wz(Ψ:Psi)(l:MSs)(K:Option MV→St→Ds→R)(n:Nat):Option MV→St→Ds→R:=λr st=>pO r K (WL Ψ l K n) st
noncomputable def fG(Ψ:Psi)(l:MSs)(K:Option MV→St→Ds→R)(i:Nat)(vs:List MV)(st:St)(ds:Ds):R:=lN (λst k=>ae L1.T Ψ (bK (aF l)) st k) (ba Ψ (aY l) K) i vs st ds
open PySem PySem.W PyProof.Rows
theorem wA{c f:Nat}(h:L1.clsInit c=some f):mz f=true:=by
 have hk:((List.range 19).all λc=>((L1.clsInit c).map mz).getD true)=true:=by kernel_rfl
 have hc:c<19:=by
  refine Nat.lt_of_not_le λz=>?_;have:c0 L1.clsInitL c=none:=by rw[bG];exact List.getElem?_eq_none z
  have h:(c0 L1.clsInitL c).getD none=some f:=h;rw[this] at h;exact aG h
 have:=qdz.mp hk c (qzz.mpr hc);rw[h] at this;exact this
theorem mA{a b:Option (List MV)}(h:DF a b=true):b=a∨b=some []:=by
 rcases qxz.mp h with h | h
 ·exact .inl ((qnz.mp (aa h)).trans (qnz.mp (ab h)).symm)
 ·cases b with
  |none=>exact aB h
  |some l=>exact .inr (bJ some (List.isEmpty_iff.mp h))
theorem yX{sh sh':Sto}(h:Ew sh sh'=true)(ht:sh.tape=sh'.tape):InitFr sh sh':=by
 have h2:=aa h;have h3:=aa h2;have h4:=aa h3;have h5:=aa h4;refine⟨(qnz.mp (ab h2)).trans (qnz.mp (ab h)).symm,λl hl=>?_⟩;cases l with
 |states=>exact mA (ab h3)
 |events=>exact mA (ab h4)
 |indents=>exact mA (ab h5)
 |rows=>exact mA (ab (aa h5))
 |tape=>exact .inl ht.symm
 |due=>exact mA (aa (aa h5))
 |_=>exact aB hl
theorem dP{a b:Option (List MV)}(h:fr a b=true):a=b:=@of_decide_eq_true _ (Classical.propDecidable _) h
theorem yY{a b:Sto}(h:im a b=true):InitFr a b:=by
 have h2:=aa h;have h3:=aa h2;have h4:=aa h3;have h5:=aa h4;have h6:=aa h5;refine⟨(dP (ab h)).symm,λl hl=>.inl ?_⟩;cases l with
 |states=>exact(dP (ab h2)).symm
 |events=>exact(dP (ab h3)).symm
 |indents=>exact(dP (ab h4)).symm
 |rows=>exact(dP (ab h5)).symm
 |tape=>exact(dP (ab h6)).symm
 |due=>exact(dP (aa h6)).symm
 |_=>exact aB hl
theorem nL{Ψ:Psi}{is:Nat→Bool}{sp:Psi}{O:Nat→Ds}{f:Nat}{as:List MV}{sh:Sto}{r:MV×Sto}(h:Hk Ψ is sp O f as sh=some (true,r)){G:Prop}(k1:is f=true→sp f as sh=some (true,r)→G)(k2:is f=false→Gd L1.T Ψ f as sh r.1 r.2→(mz f=true→InitFr sh r.2)→G):G:=by
 refine jg h k1 λhf h=>jg h (λhi h=>ad h λp h1 h=>jg h (λhk h=>?_) λ_ h=>?_) λhi h=>k2 hf ⟨_,cG h rfl⟩ λz=>aB (hi.symm.trans z)
 ·have hp:=ay h
  have hp1:=bJ Prod.fst hp;have hp2:p.2=r:=bJ Prod.snd hp;have ht:sh.tape=p.2.2.tape:=dP (aa (hp1:(p.1&&fr sh.tape p.2.2.tape)=true));exact k2 hf ⟨_,hp2▸cG h1 (ab (hp1:(p.1&&fr sh.tape p.2.2.tape)=true))⟩ λ_=>hp2▸yX hk ht
 ·have hp:=ay h
  have hp1:=bJ Prod.fst hp;have hp2:p.2=r:=bJ Prod.snd hp;exact k2 hf ⟨_,hp2▸cG h1 (ab (hp1:(p.1&&im sh p.2.2)=true))⟩ λ_=>hp2▸yY (aa (hp1:(p.1&&im sh p.2.2)=true))
theorem Ch{C:Cx}(B:Base C)(hT:C.N.T=L1.T){Ψ:Psi}{is:Nat→Bool}{sp:Psi}{O:Nat→Ds}{n:Nat}(D:Sd C Ψ n)(hs:∀f as sh r,is f=true→sp f as sh=some (true,r)→(∃Ψ',Sd C Ψ' n∧(Gd L1.T Ψ' f as sh r.1 r.2∨Ψ' f as sh=some (true,r)))∧(mz f=true→InitFr sh r.2)) :
  Sd C (Hk Ψ is sp O) (n+2):=by
 refine yO B (λ{c f as sh r sh'} hc e=>?_) λf as sh r h=>?_
 ·have hc:L1.clsInit c=some f:=by rw[hT] at hc;exact hc
  exact nL (my e) (λh1 h2=>(hs _ _ _ _ h1 h2).2 (wA hc)) λ_ _ h3=>h3 (wA hc)
 ·rw[hT]
  exact nL h (λh1 h2=>(hs _ _ _ _ h1 h2).1) λ_ h2 _=>⟨Ψ,D,.inl h2⟩
theorem Ci{as:List MV}{sh:Sto}{r:MV×Sto}(h:Gi as sh=some (true,r)):InitFr sh r.2:=by
 obtain⟨l,a,b,c,d,e,f,g,i,h1,h2,_,h3⟩:=tg h;rw[show r=_ from bJ Prod.snd h3];exact⟨rfl,λl hl=>.inl (by cases l<;>rfl)⟩
open PySem PySem.W PyProof.Rows
structure J(n:Nat)(f:Nat)(as:List MV)(sh:Sto)(r:MV×Sto):Prop where
 of ::
 go:∀{C:Cx},Base C→C.N.T=L1.T→ ∃Ψ,Sd C Ψ n∧Gd L1.T Ψ f as sh r.1 r.2
theorem J.mono{n m f:Nat}{as:List MV}{sh:Sto}{r:MV×Sto}(h:J n f as sh r)(hm:n≤m):J m f as sh r:=.of λ{C} B e=>
 let ⟨Ψ,D,g⟩:=h.go B e
 ⟨Ψ,s9 D hm,g⟩
noncomputable def Ez(n:Nat)(a:Nat→List MV→Sto→MV×Sto):Psi:=λf as sh=>bif mz f then none else some (@decide (J n f as sh (a f as sh)) (Classical.propDecidable _),a f as sh)
noncomputable def K6(n:Nat)(a:Nat→List MV→Sto→MV×Sto):Psi:=λf as sh=>bif Nat.beq 7 f then Gi as sh else Ez n a f as sh
noncomputable def wB(n:Nat)(is:Nat→Bool)(a:Nat→List MV→Sto→MV×Sto)(O:Nat→Ds)(k:Nat):Psi:=Nat.rec (motive:=λ_=>Psi) (λ_ _ _=>none) (λ_ ih=>Hk ih (λf=>Nat.beq 7 f||is f) (K6 n a) O) k
theorem yZ{C:Cx}(B:Base C)(hT:C.N.T=L1.T){n m f:Nat}{a:Nat→List MV→Sto→MV×Sto}{as:List MV}{sh:Sto}{r:MV×Sto}(hn:n≤m)(h:Ez n a f as sh=some (true,r)):(∃Ψ',Sd C Ψ' m∧(Gd L1.T Ψ' f as sh r.1 r.2∨Ψ' f as sh=some (true,r)))∧(mz f=true→InitFr sh r.2):=by
 refine jg h (λ_ h=>aG h) λhf h=>?_;have h2:=ay h;have h3:J n f as sh (a f as sh):=@of_decide_eq_true _ (Classical.propDecidable _) (bJ Prod.fst h2);rw[show a f as sh=r from bJ Prod.snd h2] at h3;obtain⟨Ψ,D,g⟩:=h3.go B hT;exact⟨⟨Ψ,s9 D hn,.inl g⟩,λe=>aB (hf.symm.trans e)⟩
theorem rR{C:Cx}(B:Base C)(hT:C.N.T=L1.T){n:Nat}{is:Nat→Bool}{a:Nat→List MV→Sto→MV×Sto}{O:Nat→Ds}:∀k,Sd C (wB n is a O k) (n+2*k)
 |0=>s9 (J3 B λ_ _ _=>rfl) (iw _)
 |k+1=>Ch B hT (rR B hT k) λf as sh r _ h=>jg h (λhf h=>by
   obtain rfl:=jO hf;exact⟨⟨_,s9 (J3 (Ψ:=λ_ _ _=>none) B λ_ _ _=>rfl) (iw _),.inl (yW h)⟩,λ_=>Ci h⟩) λ_ h=>yZ B hT (Nat.le_add_right _ _) h
noncomputable def wC(n:Nat)(is:Nat→Bool)(a:Nat→List MV→Sto→MV×Sto)(O:Nat→Ds)(k f:Nat)(as:List MV)(sh:Sto)(ds:Ds):Option (Bool×MV×Sto):=aN (aR L1.T (wB n is a O k) f as sh ds)
theorem gW{n:Nat}{is:Nat→Bool}{a:Nat→List MV→Sto→MV×Sto}{O:Nat→Ds}{k f:Nat}{as:List MV}{sh:Sto}{ds:Ds}{g:Bool}{r:MV×Sto}(h:wC n is a O k f as sh ds=some (g,r))(hg:g=true):J (n+2*k) f as sh r:=
 .of λ{_} B hT=>⟨_,rR B hT k,ds,cG h hg⟩
theorem gb{n:Nat}{is:Nat→Bool}{a:Nat→List MV→Sto→MV×Sto}{O:Nat→Ds}{k f:Nat}{as:List MV}{sh:Sto}{ds:Ds}{r:MV×Sto}(h:am (aR L1.T (wB n is a O k) f as sh ds) r.1 r.2):J (n+2*k) f as sh r:=
 .of λ{_} B hT=>⟨_,rR B hT k,ds,h⟩
noncomputable def jd(n f:Nat)(as:List MV)(sh:Sto)(r:MV×Sto):Bool:=@decide (J n f as sh r) (Classical.propDecidable _)
theorem aP{n f:Nat}{as:List MV}{sh:Sto}{r:MV×Sto}(h:J n f as sh r):jd n f as sh r=true:=@decide_eq_true _ (Classical.propDecidable _) h
theorem ew(a:Option (List MV)):fr a a=true:=@decide_eq_true _ (Classical.propDecidable _) rfl
theorem cM(a:Sto):im a a=true:=by unfold im;rw[ew,ew,ew,ew,ew,ew,ew];rfl
noncomputable def uV(_:Nat):Bool:=false
noncomputable def uW(_:Nat)(_:List MV)(sh:Sto):MV×Sto:=(.none,sh)
noncomputable def kS(_:Nat):Ds:=[]
noncomputable def pl(n:Nat):R→R:=Nat.rec (motive:=λ_=>R→R) (λr=>r) (λ_ ih r=>R.casesOn (motive:=λ_=>R) r (λ_ _=>.bad) (λ_ _ r=>ih r) .bad) n
noncomputable def cj(n:Nat):R→Bool:=Nat.rec (motive:=λ_=>R→Bool) (λ_=>true) (λ_ ih r=>R.casesOn (motive:=λ_=>Bool) r (λ_ _=>false) (λb d r=>(b==d)&&ih r) false) n
noncomputable def ax(n:Nat)(r:R):Bool×R:=(cj n r,pl n r)
theorem th{v:MV}{sh:Sto}:∀(n:Nat) (r:R),cj n r=true→am (pl n r) v sh→am r v sh
 |0,_,_,h=>h
 |n+1,.fin _ _,g,_=>aB g
 |n+1,.cst b d r,g,h=>by
  have g:(b==d&&cj n r)=true:=g;exact⟨eq_of_beq (ab g),th n r (aa g) h⟩
 |n+1,.bad,g,_=>aB g
theorem aK{v:MV}{sh:Sto}{n:Nat}{r r':R}{g:Bool}(e:ax n r=(g,r'))(hg:g=true)(h:am r' v sh):am r v sh:=by
 have e1:cj n r=g:=bJ Prod.fst e;have e2:pl n r=r':=bJ Prod.snd e;exact th n r (e1.trans hg) (e2▸h)
theorem an{a b:Bool}(h1:a=true)(h2:b=true):(a&&b)=true:=qmz.mpr ⟨h1,h2⟩
theorem bt{a:Bool}(h:a=true):(a==true)=true:=by rw[h];rfl
theorem fE{a b:Bool}(h:a=b):(a==b)=true:=by rw[h];cases b<;>rfl
theorem bS{v:MV}{sh:Sto}{r r':R}(e:r=r')(h:am r' v sh):am r v sh:=e▸h
theorem ao{a b:Nat}(h:a≤b):aS a b=true:=Nat.ble_eq.mpr h
def Mn (x:Ds→R):Prop:=∀ds v sh,am (x ds) v sh→am (x []) v sh
section
variable {x y:Ds→R}{b:Bool}
theorem rS(hx:Mn x)(hy:Mn y):Mn (yc b x y):=λds v sh h=>z8 h (λe ds' h=>by
 rw[e];exact hx _ _ _ h) λe ds' h=>by
 rw[e];exact hy _ _ _ h
theorem eT(hx:Mn x):Mn (dT b x):=λds v sh h=>⟨h.1,hx _ _ _ h.2⟩
theorem bN{α:Type}{o:Option α}{k:α→Ds→R}(hk:∀a,Mn (k a)):Mn (cc o k):=λds v sh h=>dY h λa e h=>by
 rw[e];exact hk a _ _ _ h
theorem tj:Mn vn:=λds v sh h=>h
theorem EA{o:Option MV}{k:MV→Ds→R}(hk:∀a,Mn (k a)):Mn (A9 o k):=λds v sh h=>(sF h).elim λds' h=>bN hk ds' v sh h
theorem EB{w i:MV}{c:MV→Ds→R}(hc:∀a,Mn (c a)):Mn (A8 w i c):=λds v sh h=>(sD h).elim λds' h=>hc i ds' v sh h
theorem Ao{n:Int}{x:Int→Ds→R}(hx:∀n,Mn (x n)):Mn (vo n x):=λds v sh h=>(og h).elim λds' h=>hx n ds' v sh h
end
variable {T:Tab}{Ψ:Psi}
mutual
theorem bO:∀(e:ME) (st:St) (k:MV→St→Ds→R),(∀v st,Mn (k v st))→Mn (dQ T Ψ e st k)
 |.k v,st,k,h=>h v st
 |.v i,st,k,h=>bN λp=>h p.1 p.2
 |.g x,st,k,h=>bN λv=>h v st
 |.at e a,st,k,h=>bO e st _ λv st=>bN λr=>h r st
 |.bo and es,st,k,h=>wF and es st k h
 |.bin op l r,st,k,h=>bO l st _ λa st=>bO r st _ λb st=>eT (bN λv=>h v st)
 |.not e,st,k,h=>bO e st _ λv st=>bN λb=>h _ st
 |.neg e,st,k,h=>bO e st _ λv st=>bN λi=>h _ st
 |.ife t a b,st,k,h=>jz t st _ λc st=>rS (bO a st k h) (bO b st k h)
 |.cmp l r,st,k,h=>bO l st _ λv st=>oR v r st _ λb st=>h _ st
 |.call g as ks,st,k,h=>bN λfv=>mB as st _ λvs st=>wE ks st _ λkv st=>bN λp=>eT (h _ _)
 |.mc o a as ks,st,k,h=>bO o st _ λov st=>bN λc=>mB as st _ λvs st=>wE ks st _ λkv st=>eT (bN λp=>eT (h _ _))
 |.sub e i,st,k,h=>bO e st _ λv st=>bO i st _ λiv st=>EB λiv=>EA λr=>h r st
 |.sl e lo hi,st,k,h=>bO e st _ λv st=>bO lo st _ λa st=>bO hi st _ λb st=>bN λr=>h r st
 |.abs,st,k,h=>h .none st
 |.list none es,st,k,h=>mB es st _ λvs st=>h _ st
 |.list (some l) es,st,k,h=>mB es st _ λvs st=>bN λp=>h _ _
 |.tup es,st,k,h=>mB es st _ λvs st=>h _ st
 |.comp m e,st,k,h=>bO e st _ λv st=>bN λvs=>eT (bN λws=>h _ st)
 |.dead,_,_,_=>tj
 |.strI e,st,k,h=>bO e st _ λv st=>bN λi=>bN λs=>h _ st
theorem mB:∀(es:MEs) (st:St) (k:List MV→St→Ds→R),(∀v st,Mn (k v st))→Mn (n8 T Ψ es st k)
 |.nil,st,k,h=>h [] st
 |.cons e r,st,k,h=>bO e st _ λv st=>mB r st _ λvs st=>h _ st
theorem wE:∀(es:MKs) (st:St) (k:List (Nat×MV)→St→Ds→R),(∀v st,Mn (k v st))→Mn (vq T Ψ es st k)
 |.nil,st,k,h=>h [] st
 |.cons n e r,st,k,h=>bO e st _ λv st=>wE r st _ λvs st=>h _ st
theorem wF(and:Bool):∀(es:MEs) (st:St) (k:MV→St→Ds→R),(∀v st,Mn (k v st))→Mn (sC T Ψ and es st k)
 |.nil,_,_,_=>tj
 |.cons e .nil,st,k,h=>bO e st k h
 |.cons e (.cons f r),st,k,h=>bO e st _ λv st=>bN λb=>rS (wF and (.cons f r) st k h) (h v st)
theorem oR(l:MV):∀(es:MCs) (st:St) (k:Bool→St→Ds→R),(∀v st,Mn (k v st))→Mn (lO T Ψ l es st k)
 |.nil,_,_,_=>tj
 |.cons op e .nil,st,k,h=>bO e st _ λv st=>bN λb=>h b st
 |.cons op e (.cons op' e' r),st,k,h=>bO e st _ λv st=>bN λb=>rS (oR v (.cons op' e' r) st k h) (h false st)
theorem jz:∀(e:MB) (st:St) (k:Bool→St→Ds→R),(∀v st,Mn (k v st))→Mn (fR T Ψ e st k)
 |.not e,st,k,h=>jz e st _ λb st=>h _ st
 |.bo and es,st,k,h=>tl and es st k h
 |.ife t a b,st,k,h=>jz t st _ λc st=>rS (jz a st k h) (jz b st k h)
 |.cmp l r,st,k,h=>bO l st _ λv st=>oR v r st k h
 |.val e,st,k,h=>bO e st _ λv st=>bN λb=>h b st
theorem tl(and:Bool):∀(es:MBs) (st:St) (k:Bool→St→Ds→R),(∀v st,Mn (k v st))→Mn (n9 T Ψ and es st k)
 |.nil,st,k,h=>h and st
 |.cons e r,st,k,h=>jz e st _ λb st=>rS (tl and r st k h) (h _ st)
end
theorem oS{t:St→(Bool→St→Ds→R)→Ds→R}{b:St→(Option MV→St→Ds→R)→Ds→R}{k:Option MV→St→Ds→R}(ht:∀st k,(∀b st,Mn (k b st))→Mn (t st k))(hb:∀st k,(∀r st,Mn (k r st))→Mn (b st k))(hk:∀r st,Mn (k r st)):∀n st,Mn (fy t b k n st)
 |0,st=>λds v sh h=>h
 |n+1,st=>ht st _ λc st=>rS (hb st _ λr st=>by
   cases r with
   |none=>exact oS ht hb hk n st
   |some v=>exact hk _ st) (hk none st)
theorem tm{b:St→(Option MV→St→Ds→R)→Ds→R}{k:Option MV→St→Ds→R}{i:Nat}(hb:∀st k,(∀r st,Mn (k r st))→Mn (b st k))(hk:∀r st,Mn (k r st)):∀l st,Mn (lN b k i l st)
 |[],st=>hk none st
 |v::l,st=>hb _ _ λr st=>by
   cases r with
   |none=>exact tm hb hk l st
   |some v=>exact hk _ st
theorem qx{v:MV}{m:MT}{st:St}{k:St→Ds→R}(hk:∀st,Mn (k st)):Mn (dD T Ψ v m st k):=by
 cases m with
 |v i=>exact hk _
 |«at» e a=>exact bO e st _ λo st=>bN λsh=>hk _
 |tup is=>exact bN λst=>hk st
theorem qy{v:MV}:∀{ts:List MT} {st:St} {k:St→Ds→R},(∀st,Mn (k st))→Mn (hY T Ψ v ts st k)
 |[],st,k,hk=>hk st
 |m::r,st,k,hk=>(qx (k:=λst=>hY T Ψ v r st k) λst=>qy (ts:=r) hk:Mn (dD T Ψ v m st λst=>hY T Ψ v r st k))
theorem rT{b:St→(Option MV→St→Ds→R)→Ds→R}{k:Option MV→St→Ds→R}{t:MT}(hb:∀st k,(∀r st,Mn (k r st))→Mn (b st k))(hk:∀r st,Mn (k r st)):∀l st,Mn (jf T Ψ b k t l st)
 |[],st=>hk none st
 |v::l,st=>(qx (k:=λst=>b st (λr st=>pO r k (jf T Ψ b k t l) st)) λst=>hb _ _ λr st=>by
   cases r with
   |none=>exact rT hb hk l st
   |some v=>exact hk _ st:Mn (dD T Ψ v t st λst=>b st (λr st=>pO r k (jf T Ψ b k t l) st)))
theorem rU{b:Sto→(MV→Sto→Ds→R)→Ds→R}{k:List MV→Sto→Ds→R}(hb:∀sh k,(∀v sh,Mn (k v sh))→Mn (b sh k))(hk:∀r st,Mn (k r st)):∀n vs sh,Mn (no b k n vs sh)
 |0,vs,sh=>hk vs sh
 |n+1,vs,sh=>hb _ _ λv sh=>rU hb hk n _ sh
theorem wG{r:Option MV}{k:Option MV→St→Ds→R}{g:St→Ds→R}{st:St}(hk:∀r st,Mn (k r st))(hg:∀st,Mn (g st)):Mn (pO r k g st):=by
 cases r with
 |none=>exact hg st
 |some v=>exact hk _ st
mutual
noncomputable def EC:MS→Bool
 |.ife _ a b=>aD a&&aD b
 |.whl _ b=>aD b
 |.for _ _ b=>aD b
 |.forr _ _ b=>aD b
 |.forp _ _ b=>aD b
 |.retc _ _=>false
 |_=>true
noncomputable def aD:MSs→Bool
 |.nil=>true
 |.cons s r=>EC s&&aD r
end
mutual
theorem Hl:∀(s:MS),EC s=true→ ∀(st:St) (k:Option MV→St→Ds→R),(∀v st,Mn (k v st))→Mn (Ba T Ψ s st k)
 |.expr e,n,st,k,h=>bO e st _ λ_ st=>h none st
 |.asgo i es,n,st,k,h=>mB es st _ λvs st=>h none _
 |.asg ts e,n,st,k,h=>bO e st _ λv st=>qy λst=>h none st
 |.augv i op e,n,st,k,h=>bN λp=>bO e p.2 _ λb st=>eT (bN λv=>h none _)
 |.augo i e,n,st,k,h=>eT (bO e st _ λv st=>bN λst=>h none st)
 |.auga o a op e,n,st,k,h=>bO o st _ λov st=>bN λx=>bO e st _ λy st=>eT (bN λv=>bN λsh=>h none _)
 |.app i e,n,st,k,h=>eT (bO e st _ λv st=>bN λst=>h none st)
 |.ife t a b,n,st,k,h=>jz t st _ λc st=>rS (cH a (ab n) st k h) (cH b (aa n) st k h)
 |.whl t b,n,st,k,h=>(oS (t:=λst k=>fR T Ψ t st k) (b:=λst k=>ae T Ψ b st k) (k:=k) (λst k hk=>jz t st k hk) (λst k hk=>cH b n st k hk) h 100000 st:Mn (fy (λst k=>fR T Ψ t st k) (λst k=>ae T Ψ b st k) k 100000 st))
 |.for i e b,n,st,k,h=>bO e st _ λv st=>bN λvs=>tm (λst k hk=>cH b n st k hk) h vs st
 |.forr i e b,n,st,k,h=>bO e st _ λv st=>bN λN=>Ao λN=>eT (tm (λst k hk=>cH b n st k hk) h _ st)
 |.ret e,n,st,k,h=>bO e st _ λv st=>h _ st
 |.ret0,n,st,k,h=>h _ st
 |.pass,n,st,k,h=>h none st
 |.dead,_,_,_,_=>tj
 |.asgl i l m src,n,st,k,h=>bO src st _ λv st=>bN λvs=>eT (bN λws=>bN λp=>h none _)
 |.asga i l a b,n,st,k,h=>bO a st _ λx st=>bO b st _ λy st=>bN λws=>eT (bN λp=>h none _)
 |.retc l i,n,st,k,h=>aB n
 |.retL tag j is dZ e,n,st,k,h=>bO dZ st _ λc st=>bN λN=>Ao λN=>eT (bN λvs=>rU (λsh k hk=>bO e _ _ λv st=>hk v st.sh) (λvs sh=>by
   cases j with
   |true=>exact bN λxs=>eT (h _ _)
   |false=>exact h _ _) _ _ _)
 |.forp t e b,n,st,k,h=>bO e st _ λv st=>bN λvs=>rT (λst k hk=>cH b n st k hk) h vs st
theorem cH:∀(s:MSs),aD s=true→ ∀(st:St) (k:Option MV→St→Ds→R),(∀v st,Mn (k v st))→Mn (ae T Ψ s st k)
 |.nil,n,st,k,h=>h none st
 |.cons s r,n,st,k,h=>Hl s (ab n) st _ λv st=>wG h λst=>cH r (aa n) st k h
end
theorem di:∀r st,Mn (ai r st):=λr st ds v sh h=>h
theorem dj{l:MSs}{k:Option MV→St→Ds→R}(n:aD l=true)(h:∀r st,Mn (k r st)):∀r st,Mn (ba Ψ l k r st):=λr st=>wG h λst=>cH l n st k h
theorem kT{l:MSs}{k:Option MV→St→Ds→R}(nb:aD (bK (aF l))=true)(h:∀r st,Mn (k r st)):∀n st,Mn (WL Ψ l k n st):=oS (λst k hk=>jz _ st k hk) (λst k hk=>cH _ nb st k hk) h
theorem wH{l:MSs}{k:Option MV→St→Ds→R}{m:Nat}(nb:aD (bK (aF l))=true)(h:∀r st,Mn (k r st)):∀r st,Mn (wz Ψ l k m r st):=λr st=>wG h λst=>kT nb h m st
theorem mC{l:MSs}{k:Option MV→St→Ds→R}{i:Nat}(nb:aD (bK (aF l))=true)(nt:aD (aY l)=true)(h:∀r st,Mn (k r st)):∀vs st,Mn (fG Ψ l k i vs st):=tm (λst k hk=>cH _ nb st k hk) (dj nt h)
theorem aT{x:Ds→R}{ds:Ds}{n:Nat}{g:Bool}{r:R}{v:MV}{sh:Sto}(hm:Mn x)(e:ax n (x ds)=(g,r))(hg:g=true)(h:am r v sh):am (x []) v sh:=hm ds v sh (aK e hg h)
structure Ko where
 W:Int
 m:Nat
 e:Tx
 au:Bool
structure Pn where
 L:Int
 c:Int
 ws:Bool
 idn:Bool
 oe:Bool
structure Wh where
 st:Nat
 ev:MV
 ind:MV
 rt:Bool
 sc:Bool
 mc:Bool
 sk:Bool
 tp:MV
 an:MV
 sy:MV
noncomputable def En(K:Ko)(h:Wh)(p:Pn):List MV:=
 [.inst 18 [.loc .rows],.none,.loc .states,.meth h.st .em,.loc .events,h.ev,.loc .indents,h.ind,.int 0,.bool h.rt,.bool h.sc,.bool h.mc,.bool h.sk,.int p.L,.int p.c,.bool p.ws,.bool p.idn,.bool p.oe,.none,.bool K.au,.int (Int.ofNat K.m),.int K.W,.str K.e,h.tp,.none,.none,h.an,h.sy]
structure Qs where
 ss:List MV
 es:List MV
 is:List MV
 rs:List MV
 tp:Option (List MV)
noncomputable def eS(K:Ko)(h:Wh)(p:Pn)(q:Qs):Sto:=⟨some (En K h p),none,some q.ss,some q.es,some q.is,some q.rs,q.tp,none⟩
noncomputable def gE(sh:Sto)(i:Nat):MV:=(c0 (sh.em.getD []) i).getD .none
noncomputable def K7(v:MV):Option Bool:=MV.casesOn (motive_1:=λ_=>Option Bool) v none some (λ_=>none) (λ_=>none) (λ_=>none) (λ_=>none) (λ_=>none) (λ_=>none) (λ_ _=>none) (λ_ _=>none) (λ_=>none) (λ_=>none) (λ_=>none)
noncomputable def iV(v:MV):Int:=(eC v).getD 0
noncomputable def bV(v:MV):Bool:=(K7 v).getD false
noncomputable def xV(v:MV):Tx:=(cE v).getD []
noncomputable def Cj(sh:Sto)(l:List (Nat×MV)):Sto:={sh with em:=some (List.rec (motive:=λ_=>List MV→List MV) (λE=>E) (λp _ ih E=>ih (eg E p.1 p.2)) l (sh.em.getD []))}
noncomputable def wr(sh:Sto)(ws:List MV):Sto:={sh with rows:=some (sh.rows.getD []++ws)}
noncomputable def at_(as:List MV)(i:Nat):MV:=(c0 as i).getD .none
noncomputable def Ap(as:List MV)(sh:Sto):MV×Sto:=(.none,wr (Cj sh [(15,.bool true),(16,.bool true),(13,.int (iV (gE sh 13)+1)),(14,.int 0)]) [.str (bif isNone (at_ as 1) then xV (gE sh 22) else xV (at_ as 1))])
noncomputable def eU(ws gc:Bool)(x:Tx):Tx:=bif ws|| !gc then x else 32::x
noncomputable def DG(as:List MV)(sh:Sto):MV×Sto:=
 (.none,wr (Cj sh [(15,at_ as 3),(16,.bool (bV (gE sh 16)&&bV (at_ as 4))),(14,.int (iV (gE sh 14)+Int.ofNat (eU (bV (gE sh 15)) (bV (at_ as 2)) (xV (at_ as 1))).length)),(17,.bool false)]) [.str (eU (bV (gE sh 15)) (bV (at_ as 2)) (xV (at_ as 1)))])
noncomputable def aE(i c:Int)(ws idn:Bool):Bool:=!idn||(bX i c||(aI c i&& !ws))
noncomputable def aQ(b:Bool)(c:Int):Int:=bif b then 0 else c
noncomputable def Aq(b:Bool)(x:MV)(rs:List MV):List MV:=bif b then rs++[x] else rs
noncomputable def mD(b s:Bool)(i:Int)(sh:Sto):MV×Sto:=
 (.none,{Cj sh [(13,.int (bif b then iV (gE sh 13)+1 else iV (gE sh 13))),(14,.int (bif s then i else aQ b (iV (gE sh 14)))),(15,.bool (s||(b||bV (gE sh 15)))),(16,.bool (b||bV (gE sh 16)))] with
  rows:=some (Aq s (.str (dk [32] (i-aQ b (iV (gE sh 14))).toNat)) (Aq b (.str (xV (gE sh 22))) (sh.rows.getD [])))})
noncomputable def Ar(as:List MV)(sh:Sto):MV×Sto:=
 mD (aE (iV (gE sh 7)) (iV (gE sh 14)) (bV (gE sh 15)) (bV (gE sh 16))) (bX (aQ (aE (iV (gE sh 7)) (iV (gE sh 14)) (bV (gE sh 15)) (bV (gE sh 16))) (iV (gE sh 14))) (iV (gE sh 7))) (iV (gE sh 7)) sh
section
variable (K:Ko)(h:Wh)(p:Pn)(q:Qs)
theorem Hm:wC 0 uV uW kS 2 43 [.loc .em,.none] (eS K h p q) []=some (true,Ap [.loc .em,.none] (eS K h p q)):=by kernel_rfl
theorem Ho(x:Tx):wC 0 uV uW kS 2 43 [.loc .em,.str x] (eS K h p q) []=some (true,Ap [.loc .em,.str x] (eS K h p q)):=by kernel_rfl
end
theorem Hp(K:Ko)(h:Wh)(p:Pn)(q:Qs):J 4 43 [.loc .em,.none] (eS K h p q) (Ap [.loc .em,.none] (eS K h p q)):=gW (Hm K h p q) rfl
theorem Hq(K:Ko)(h:Wh)(p:Pn)(q:Qs)(x:Tx):J 4 43 [.loc .em,.str x] (eS K h p q) (Ap [.loc .em,.str x] (eS K h p q)):=gW (Ho K h p q x) rfl
noncomputable def B5:List (Bool×(Bool×Bool)):=pr bb (pr bb bb)
theorem Ck(a b c:Bool):(a,(b,c))∈B5:=bj (ah a) (bj (ah b) (ah c))
theorem K8(K:Ko)(h:Wh)(L c:Int)(oe:Bool)(q:Qs)(x:Tx):B5.map (λb=>bb.map λidn=>bb.map λwn=>wC 0 uV uW kS 2 41 [.loc .em,.str x,.bool b.1,.bool wn,.bool b.2.1] (eS K h ⟨L,c,b.2.2,idn,oe⟩ q) []) =
 mp (λb=>mp (λidn=>mp (λwn=>some (bif b.2.2|| !b.1 then true else aS (1+x.length) ak==true&&true,DG [.loc .em,.str x,.bool b.1,.bool wn,.bool b.2.1] (eS K h ⟨L,c,b.2.2,idn,oe⟩ q))) bb) bb) B5:=by kernel_rfl
theorem K9(K:Ko)(h:Wh)(p:Pn)(q:Qs)(x:Tx)(n w d:Bool)(hx:x.length≤1000000):J 4 41 [.loc .em,.str x,.bool n,.bool w,.bool d] (eS K h p q) (DG [.loc .em,.str x,.bool n,.bool w,.bool d] (eS K h p q)):=by
 have e:wC 0 uV uW kS 2 41 [.loc .em,.str x,.bool n,.bool w,.bool d] (eS K h p q) []=some (bif p.ws|| !n then true else aS (1+x.length) ak==true&&true,DG [.loc .em,.str x,.bool n,.bool w,.bool d] (eS K h p q)):=ac (ac (ac (K8 K h p.L p.c p.oe q x) (Ck n d p.ws)) (ah p.idn)) (ah w)
 have g:(bif p.ws|| !n then true else aS (1+x.length) ak==true&&true)=true:=by
  cases p.ws|| !n with
  |true=>rfl
  |false=>
   show (aS (1+x.length) ak==true&&true)=true;rw[ao (by unfold ak;omega)];rfl
 exact gW e g
noncomputable def bk(b:Bool×(Bool×(Bool×Bool))):Bool:=!b.1||(b.2.2.1||(b.2.2.2&& !b.2.1))
noncomputable def Hr(b:Bool×(Bool×(Bool×Bool)))(s:Bool):Ds:=bif b.1 then (1,!b.2.2.1)::(bif b.2.2.1 then [(1,s)] else (0,b.2.2.2)::(bif b.2.2.2 then [(3,s)] else [(2,s)])) else [(2,s)]
noncomputable def ED(b:Bool×(Bool×(Bool×Bool)))(s:Bool):Ds:=bif b.1 then (2,!b.2.2.1)::(bif b.2.2.1 then [] else (0,b.2.2.2)::(bif b.2.2.2&& !b.2.1 then [] else bif b.2.2.2 then [(3,s)] else [(2,s)])) else []
noncomputable def B42:List (Bool×(Bool×(Bool×Bool))):=pr bb (pr bb (pr bb bb))
theorem tn(a b c d:Bool):(a,(b,(c,d)))∈B42:=bj (ah a) (bj (ah b) (bj (ah c) (ah d)))
noncomputable def Gj(b:Bool)(i c:Int)(s:Bool):Bool:=(bX (aQ b c) i==s)&&(bif s then (aS (1*(i-aQ b c).toNat) ak&&aS (i-aQ b c).natAbs ak)==true&&true else true)
noncomputable def EE(b:Bool×(Bool×(Bool×Bool)))(i c:Int)(r:Bool):Bool:=bif b.1 then ((bX i c==false)== !b.2.2.1)&&(bif b.2.2.1 then r else ((aI c i==true)==b.2.2.2)&&r) else r
theorem Lc(K:Ko)(h:Wh)(L c i:Int)(oe:Bool)(q:Qs):B42.map (λb=>bb.map λs=>wC 0 uV uW kS 3 42 [.loc .em] (eS K {h with ind:=.int i} ⟨L,c,b.2.1,b.1,oe⟩ q) ((0,false)::Hr b s)) =
 mp (λb=>mp (λs=>some (((!aI i 0)==false)==false&&EE b i c (Gj (bk b) i c s),mD (bk b) s i (eS K {h with ind:=.int i} ⟨L,c,b.2.1,b.1,oe⟩ q))) bb) B42:=by kernel_rfl
theorem Ld(K:Ko)(h:Wh)(L c:Int)(oe:Bool)(q:Qs):[MV.none,.int 0].map (λv=>B42.map λb=>wC 0 uV uW kS 3 42 [.loc .em] (eS K {h with ind:=v} ⟨L,c,b.2.1,b.1,oe⟩ q) (ED b false)) =
 mp (λv=>mp (λb=>some (EE b 0 c (bif bk b then true else (bX c 0==false)&&true),mD (bk b) false 0 (eS K {h with ind:=v} ⟨L,c,b.2.1,b.1,oe⟩ q))) B42) [MV.none,.int 0]:=by kernel_rfl
theorem As{a b:Int}(h:a<b):bX a b=true:=pG h
theorem tq{a b:Int}(h:¬a<b):bX a b=false:=decide_eq_false h
theorem Cl{b:Bool}{i c:Int}(hi:0≤i∧i≤1000)(hc:0≤c):Gj b i c (bX (aQ b c) i)=true:=by
 have hk:0≤aQ b c:=by unfold aQ;cases b<;>simp [hc]
 unfold Gj;cases h:bX (aQ b c) i with
 |false=>rfl
 |true=>
  have h:aQ b c<i:=uS h;rw[ao (show 1*(i-aQ b c).toNat≤ak by unfold ak;omega),ao (show (i-aQ b c).natAbs≤ak by unfold ak;omega)]
  rfl
theorem wJ{ws idn:Bool}{i c:Int}{r:Bool}(hr:r=true):EE (idn,(ws,(bX i c,aI c i))) i c r=true:=by
 subst hr;show (bif idn then ((bX i c==false)== !bX i c)&&(bif bX i c then true else ((aI c i==true)==aI c i)&&true) else true)=true;generalize bX i c=x;generalize aI c i=y;cases idn<;>cases x<;>cases y<;>rfl
theorem Hs(K:Ko)(h:Wh)(p:Pn)(q:Qs){i:Int}(hi:0<i∧i≤1000)(hc:0≤p.c)(he:h.ind= .int i):J 6 42 [.loc .em] (eS K h p q) (Ar [.loc .em] (eS K h p q)):=by
 have e:=ac (ac (Lc K h p.L p.c i p.oe q) (tn p.idn p.ws (bX i p.c) (aI p.c i))) (ah (bX (aQ (aE i p.c p.ws p.idn) p.c) i));have hh:({h with ind:=.int i}:Wh)=h:=by rw[← he]
 rw[hh] at e
 have g:(((!aI i 0)==false)==false&&EE (p.idn,(p.ws,(bX i p.c,aI p.c i))) i p.c (Gj (bk (p.idn,(p.ws,(bX i p.c,aI p.c i)))) i p.c (bX (aQ (aE i p.c p.ws p.idn) p.c) i)))=true:=by
  rw[show aI i 0=false from decide_eq_false (by omega)]
  exact qmz.mpr ⟨rfl,wJ (Cl (b:=aE i p.c p.ws p.idn) ⟨by omega,hi.2⟩ hc)⟩
 have r:Ar [.loc .em] (eS K h p q)=mD (aE i p.c p.ws p.idn) (bX (aQ (aE i p.c p.ws p.idn) p.c) i) i (eS K h p q):=by
  show mD (aE (iV h.ind) p.c p.ws p.idn) (bX (aQ (aE (iV h.ind) p.c p.ws p.idn) p.c) (iV h.ind)) (iV h.ind) (eS K h p q)=_;rw[he];rfl
 rw[r];exact gW e g
theorem EF(K:Ko)(h:Wh)(p:Pn)(q:Qs)(hc:0≤p.c)(he:h.ind= .none∨h.ind= .int 0):J 6 42 [.loc .em] (eS K h p q) (Ar [.loc .em] (eS K h p q)):=by
 have hm:h.ind∈[MV.none,.int 0]:=by rcases he with he | he<;>rw[he]<;>simp
 have e:=ac (ac (Ld K h p.L p.c p.oe q) hm) (tn p.idn p.ws (bX 0 p.c) (aI p.c 0));have e:wC 0 uV uW kS 3 42 [.loc .em] (eS K h p q) (ED (p.idn,(p.ws,(bX 0 p.c,aI p.c 0))) false)=_:=e;have hv:iV h.ind=0:=by rcases he with he | he<;>rw[he]<;>rfl
 have hf:bX (aQ (aE 0 p.c p.ws p.idn) p.c) 0=false:=by
  refine tq ?_;unfold aQ;cases aE 0 p.c p.ws p.idn with
  |true=>show ¬(0:Int)<0;decide
  |false=>show ¬p.c<0;omega
 have g:EE (p.idn,(p.ws,(bX 0 p.c,aI p.c 0))) 0 p.c (bif bk (p.idn,(p.ws,(bX 0 p.c,aI p.c 0))) then true else (bX p.c 0==false)&&true)=true:=by
  refine wJ ?_;cases bk (p.idn,(p.ws,(bX 0 p.c,aI p.c 0))) with
  |true=>rfl
  |false=>rw[tq (show ¬p.c<0 by omega)];rfl
 have r:Ar [.loc .em] (eS K h p q)=mD (aE 0 p.c p.ws p.idn) false 0 (eS K h p q):=by
  show mD (aE (iV h.ind) p.c p.ws p.idn) (bX (aQ (aE (iV h.ind) p.c p.ws p.idn) p.c) (iV h.ind)) (iV h.ind) (eS K h p q)=_;rw[hv,hf]
 rw[r];exact gW e g
theorem Le(K:Ko)(h:Wh)(p:Pn)(q:Qs)(hi:h.ind= .none∨ ∃i:Int,h.ind= .int i∧0≤i∧i≤1000)(hc:0≤p.c):J 6 42 [.loc .em] (eS K h p q) (Ar [.loc .em] (eS K h p q)):=by
 rcases hi with hi | ⟨i,e,h0,h1⟩
 ·exact EF K h p q hc (.inl hi)
 ·by_cases z:i=0
  ·exact EF K h p q hc (.inr (z▸e))
  ·exact Hs K h p q ⟨by omega,h1⟩ hc e
noncomputable def BR:Tx:=[10,133,8232,8233]
noncomputable def SBx:Tx:=[32,10,133,8232,8233]
noncomputable def mL:List Nat:=[2,3,4,5,6,7,8,9]
noncomputable def Ht(m:Nat)(d0 d1 d2 d3:Bool):Tx:=(bif d0 then [48+m] else [])++(bif d1 then [45] else bif d2||d3 then [43] else [])
noncomputable def Hu(z y:Nat)(d0 d1 d2 d3:Bool):Ds:=(1,d0)::(4000000,true)::(z,true)::(0,d1)::(bif d1 then [] else (0,!d2)::(bif d2 then [] else [(4000000,true),(y,true),(0,!d3)]))
noncomputable def Cm(K:Ko)(h:Wh)(p:Pn)(q:Qs)(c:Nat)(r:Tx)(z y:Nat)(d0 d1 d2 d3:Bool):Bool:=
 (SBx.contains c==d0)&&((iI (fx (eS K h p q) (.str (c::r)) (.int (-1))) z==true)&&(((!BR.contains z)==d1)&&(bif d1 then true else ((aI (Int.ofNat (r.length+1)) 1==false)== !d2)&&(bif d2 then true else (iI (fx (eS K h p q) (.str (c::r)) (.int (-2))) y==true)&&(((BR.contains y==false)== !d3)&&true)))))
theorem Lf(W:Int)(e:Tx)(au:Bool)(h:Wh)(p:Pn)(q:Qs)(c:Nat)(r:Tx)(z y:Nat):mL.map (λm=>bb.map λd0=>bb.map λd1=>bb.map λd2=>bb.map λd3=>wC 0 uV uW kS 1 44 [.loc .em,.str (c::r)] (eS ⟨W,m,e,au⟩ h p q) (Hu z y d0 d1 d2 d3)) =
 mp (λm=>mp (λd0=>mp (λd1=>mp (λd2=>mp (λd3=>some (Cm ⟨W,m,e,au⟩ h p q c r z y d0 d1 d2 d3,(.str (Ht m d0 d1 d2 d3),eS ⟨W,m,e,au⟩ h p q))) bb) bb) bb) bb) mL:=by kernel_rfl
theorem ki{sh:Sto}{t:Tx}{i:Int}{j z:Nat}(h1:qV t.length i=some j)(h2:t[j]?=some z):fx sh (.str t) (.int i)=some (.str [z]):=by
 show kP ((qV t.length i).bind λj=>(c0 t j).map λc=>MV.str [c]) none=_;rw[h1,mY,bG,h2];rfl
theorem ib{o:Option MV}{z:Nat}(h:o=some (.str [z])):iI o z=true:=by
 rw[h];exact pG rfl
theorem oT{n k:Nat}(h:k+1≤n):qV n (Int.negSucc k)=some (n-(k+1)):=by
 show (bif Nat.ble (k+1) n then some (n-(k+1)) else none)=_;rw[Nat.ble_eq_true_of_le h];rfl
theorem lB{n k:Nat}(h:k<n):qV n (Int.ofNat k)=some k:=by
 show (bif Nat.ble (k+1) n then some k else none)=_;rw[Nat.ble_eq_true_of_le h];rfl
noncomputable def lst(t:Tx):Nat:=t.getLast?.getD 0
noncomputable def qz(t:Tx):Nat:=t.dropLast.getLast?.getD 0
theorem y0{t:Tx}(h:1≤t.length):t[t.length-1]?=some (lst t):=by
 unfold lst;rw[List.getLast?_eq_getElem?,List.getElem?_eq_getElem (by omega)];rfl
theorem Cn{t:Tx}(h:2≤t.length):t[t.length-2]?=some (qz t):=by
 unfold qz;rw[List.getLast?_eq_getElem?,List.length_dropLast,List.getElem?_dropLast,cw (by omega),show t.length-1-1=t.length-2 by omega,List.getElem?_eq_getElem (by omega)];rfl
noncomputable def iC(m:Nat)(t:Tx):Tx:=Ht m (SBx.contains (t.headD 0)) (!BR.contains (lst t)) (aI (Int.ofNat t.length) 1) (BR.contains (qz t))
theorem Lg(K:Ko)(h:Wh)(p:Pn)(q:Qs)(hm:K.m∈mL){t:Tx}(ht:t≠[]):J 2 44 [.loc .em,.str t] (eS K h p q) (.str (iC K.m t),eS K h p q):=by
 obtain⟨c,r,rfl⟩:∃c r,t=c::r:=by
  cases t with
  |nil=>exact absurd rfl ht
  |cons c r=>exact⟨c,r,rfl⟩
 have e:=ac (ac (ac (ac (ac (Lf K.W K.e K.au h p q c r (lst (c::r)) (qz (c::r))) hm) (ah (SBx.contains c))) (ah (!BR.contains (lst (c::r))))) (ah (aI (Int.ofNat (r.length+1)) 1))) (ah (BR.contains (qz (c::r))));refine gW e ?_;have h1:iI (fx (eS K h p q) (.str (c::r)) (.int (-1))) (lst (c::r))=true:=ib (ki (oT (k:=0) (Nat.succ_le_succ (iw _))) (y0 (Nat.succ_le_succ (iw _))))
 have h2:aI (Int.ofNat (r.length+1)) 1=false→iI (fx (eS K h p q) (.str (c::r)) (.int (-2))) (qz (c::r))=true:=λz=>by
  have z:¬(Int.ofNat (r.length+1)=1):=of_decide_eq_false z
  have hl:2≤(c::r).length:=by
   show 2≤r.length+1;cases r with
   |nil=>exact absurd rfl z
   |cons _ _=>exact Nat.succ_le_succ (Nat.succ_le_succ (iw _))
  exact ib (ki (oT (k:=1) hl) (Cn hl))
 show Cm ⟨K.W,K.m,K.e,K.au⟩ h p q c r _ _ _ _ _ _=true;unfold Cm;rw[show (eS ⟨K.W,K.m,K.e,K.au⟩ h p q)=eS K h p q from rfl,h1];generalize aI (Int.ofNat (r.length+1)) 1=d2 at h2;generalize iI (fx (eS K h p q) (.str (c::r)) (.int (-2))) (qz (c::r))=w at h2;generalize SBx.contains c=d0;generalize BR.contains (lst (c::r))=d1;generalize BR.contains (qz (c::r))=d3;cases d2 with
 |true=>cases d0<;>cases d1<;>cases d3<;>rfl
 |false=>
  rw[h2 rfl];cases d0<;>cases d1<;>cases d3<;>rfl
noncomputable abbrev RP:=List MV×Pn
noncomputable def oU(x:Tx)(s:RP):RP:=(s.1++[.str x],⟨s.2.L+1,0,true,true,s.2.oe⟩)
noncomputable def pIn(e:Tx)(i:Int)(s:RP):RP:=
 (Aq (bX (aQ (aE i s.2.c s.2.ws s.2.idn) s.2.c) i) (.str (dk [32] (i-aQ (aE i s.2.c s.2.ws s.2.idn) s.2.c).toNat)) (Aq (aE i s.2.c s.2.ws s.2.idn) (.str e) s.1),
  ⟨bif aE i s.2.c s.2.ws s.2.idn then s.2.L+1 else s.2.L,bif bX (aQ (aE i s.2.c s.2.ws s.2.idn) s.2.c) i then i else aQ (aE i s.2.c s.2.ws s.2.idn) s.2.c,bX (aQ (aE i s.2.c s.2.ws s.2.idn) s.2.c) i||(aE i s.2.c s.2.ws s.2.idn||s.2.ws),aE i s.2.c s.2.ws s.2.idn||s.2.idn,s.2.oe⟩)
noncomputable def pWi(x:Tx)(n w d:Bool)(s:RP):RP:=(s.1++[.str (eU s.2.ws n x)],⟨s.2.L,s.2.c+Int.ofNat (eU s.2.ws n x).length,w,s.2.idn&&d,false⟩)
noncomputable def qW(x:Tx)(s:RP):RP:=(s.1++[.str x],s.2)
noncomputable def eR(K:Ko)(h:Wh)(q:Qs)(s:RP):Sto:=eS K h s.2 {q with rs:=s.1}
section
variable (K:Ko)(h:Wh)(q:Qs)(s:RP)
theorem y9:Ap [.loc .em,.none] (eR K h q s)=(.none,eR K h q (oU K.e s)):=by kernel_rfl
theorem za(x:Tx):Ap [.loc .em,.str x] (eR K h q s)=(.none,eR K h q (oU x s)):=by kernel_rfl
theorem Co:Ar [.loc .em] (eR K h q s)=(.none,eR K h q (pIn K.e (iV h.ind) s)):=by kernel_rfl
theorem Cp(x:Tx)(n w d:Bool):DG [.loc .em,.str x,.bool n,.bool w,.bool d] (eR K h q s)=(.none,eR K h q (pWi x n w d s)):=by kernel_rfl
end
noncomputable def Kb(f:Nat):Bool:=Nat.beq f 41||(Nat.beq f 42||(Nat.beq f 43||Nat.beq f 44))
noncomputable def aW(x:Tx)(f:Nat)(as:List MV)(sh:Sto):MV×Sto:=bif Nat.beq f 41 then DG as sh else bif Nat.beq f 42 then Ar as sh else bif Nat.beq f 43 then Ap as sh else (.str x,sh)
noncomputable def PW(x:Tx):Psi:=wB 6 Kb (aW x) kS 2
noncomputable def Hv:MSs:=L1.b_Emitter_write_literal
noncomputable def cJ(K:Ko)(h:Wh)(q:Qs)(s:RP)(t x:Tx)(b:Bool)(i j:Nat)(c6 c7 c8:Cell):St:=⟨eR K h q s,[.val (.loc .em),.val (.str t),.val (.str x),.val (.bool b),.val (.int (Int.ofNat i)),.val (.int (Int.ofNat j)),c6,c7,c8]⟩
noncomputable def mE(x:Tx):Bool:=eqX ((x.take x.length).drop (PySem.clipAt x.length (-1))) [43]
noncomputable def Kc(b:Bool)(s:RP):RP:=(s.1,⟨s.2.L,s.2.c,s.2.ws,s.2.idn,b⟩)
noncomputable def pH(K:Ko)(x:Tx)(b:Bool)(s:RP):RP:=oU K.e (bif b then Kc true (pWi (124::x) true false false s) else pWi (124::x) true false false s)
noncomputable def Lh(K:Ko)(h:Wh)(q:Qs)(s:RP)(t x:Tx)(d:Bool):Bool:=(jd 6 44 [.loc .em,.str t] (eR K h q s) (.str x,eR K h q s)==true)&&((aS (1+x.length) ak==true)&&((jd 6 41 [.loc .em,.str (124::x),.bool true,.bool false,.bool false] (eR K h q s) (.none,eR K h q (pWi (124::x) true false false s))==true) &&
 ((mE x==d)&&((jd 6 43 [.loc .em,.none] (eR K h q (bif d then Kc true (pWi (124::x) true false false s) else pWi (124::x) true false false s)) (.none,eR K h q (pH K x d s))==true)&&true))))
noncomputable def Kd(t:Tx)(sh:Sto):St:=⟨sh,[.val (.loc .em),.val (.str t),.unset,.unset,.unset,.unset,.unset,.unset,.unset]⟩
theorem Hw(K:Ko)(h:Wh)(q:Qs)(s:RP)(t x:Tx)(rest:MSs)(KK:Option MV→St→Ds→R):bb.map (λd=>ax 8 (ae L1.T (PW x) (aO 6 Hv rest) (Kd t (eR K h q s)) KK [(0,d)])) =
 mp (λd=>(Lh K h q s t x d,ae L1.T (PW x) rest (cJ K h q (pH K x d s) t x true 0 0 .unset .unset .unset) KK [])) bb:=by kernel_rfl
noncomputable def mX:MSs:=ag Hv 6
noncomputable def EG:MSs:=bK (aF mX)
noncomputable def xP:MSs:=ec (aF (ec (aF (ag EG 2))))
noncomputable def pD(o:Option Nat):Cell:=.val (oc o .none λz=>.str [z])
noncomputable def jA(t:Tx)(i j:Nat):Tx:=(t.take (PySem.clipAt t.length (Int.ofNat j))).drop (PySem.clipAt t.length (Int.ofNat i))
noncomputable def zb(p:Tx):List MV:=p.map λc=>.str [c]
section
variable (K:Ko)(h:Wh)(q:Qs)(s:RP)(t x:Tx)(b:Bool)(i j n z:Nat)(c6 c7 c8:Cell)(KK:Option MV→St→Ds→R)
noncomputable def gT(j z:Nat)(t:Tx)(sh:Sto)(g:Bool):Bool:=(pJ (Int.ofNat j) (Int.ofNat t.length)==true)&&((bX (Int.ofNat j) (Int.ofNat t.length)==true)&&((iI (fx sh (.str t) (.int (Int.ofNat j))) z==true)&&g))
noncomputable def gZ(j:Nat)(t:Tx)(g:Bool):Bool:=(pJ (Int.ofNat j) (Int.ofNat t.length)==true)&&((bX (Int.ofNat j) (Int.ofNat t.length)==false)&&g)
noncomputable def kA(x:Tx)(KK:Option MV→St→Ds→R)(n:Nat):Option MV→St→Ds→R:=ba (PW x) .nil (ba (PW x) (ag EG 3) (wz (PW x) mX KK n))
theorem i1:ax 7 (WL (PW x) mX KK (n+1) (cJ K h q s t x true i j c6 c7 c8) [(0,true),(0,true),(4000000,true),(z,true),(2,true)]) =
 (gT j z t (eR K h q s) (((!BR.contains z)==false)==true&&true),WL (PW x) mX KK n (cJ K h q s t x (BR.contains z) i (j+1) (pD (some z)) c7 c8) []):=by kernel_rfl
theorem i2:ax 6 (WL (PW x) mX KK (n+1) (cJ K h q s t x true i j c6 c7 c8) [(0,true),(0,true),(4000000,true),(z,true),(2,false)]) =
 (gT j z t (eR K h q s) (((!BR.contains z)==false)==false&&true),fG (PW x) xP (kA x KK n) 7 (zb (jA t i j)) (cJ K h q s t x true i j (pD (some z)) c7 c8) []):=by kernel_rfl
theorem Li:ax 4 (WL (PW x) mX KK (n+1) (cJ K h q s t x true i j c6 c7 c8) [(0,true),(0,false)]) =
 (gZ j t true,fG (PW x) xP (kA x KK n) 7 (zb (jA t i j)) (cJ K h q s t x true i j (pD none) c7 c8) []):=by kernel_rfl
theorem i3:ax 9 (WL (PW x) mX KK (n+1) (cJ K h q s t x false i j c6 c7 c8) [(0,true),(0,true),(4000000,true),(z,true),(2,false)]) =
 (gT j z t (eR K h q s) ((BR.contains z==false)==false&&true),WL (PW x) mX KK n (cJ K h q (qW (jA t i j) s) t x (BR.contains z) j (j+1) (pD (some z)) c7 (.val (.str (jA t i j)))) []):=by kernel_rfl
theorem i4:ax 7 (WL (PW x) mX KK (n+1) (cJ K h q s t x false i j c6 c7 c8) [(0,true),(0,true),(4000000,true),(z,true),(2,true)]) =
 (gT j z t (eR K h q s) ((BR.contains z==false)==true&&true),WL (PW x) mX KK n (cJ K h q s t x (BR.contains z) i (j+1) (pD (some z)) c7 c8) []):=by kernel_rfl
theorem i5:ax 9 (WL (PW x) mX KK (n+1) (cJ K h q s t x false i j c6 c7 c8) [(0,true),(0,false)]) =
 (gZ j t ((jd 6 43 [.loc .em,.none] (eR K h q (qW (jA t i j) s)) (.none,eR K h q (oU K.e (qW (jA t i j) s)))==true)&&true),WL (PW x) mX KK n (cJ K h q (oU K.e (qW (jA t i j) s)) t x false j (j+1) (pD none) c7 (.val (.str (jA t i j)))) []):=by kernel_rfl
theorem i6:ax 2 (WL (PW x) mX KK (n+1) (cJ K h q s t x b i j c6 c7 c8) [(0,false)])=((pJ (Int.ofNat j) (Int.ofNat t.length)==false)&&true,KK none (cJ K h q s t x b i j c6 c7 c8) []):=by kernel_rfl
noncomputable def uX(e:Tx)(d:Bool)(c:Nat):Tx:=bif d then e else [c]
theorem f1(c:Nat)(vs:List MV):bb.map (λd=>ax 3 (fG (PW x) xP KK 7 (.str [c]::vs) (cJ K h q s t x b i j c6 c7 c8) [(0,d)])) =
 mp (λd=>((eqX [c] [10]==d)&&((jd 6 43 [.loc .em,bif d then .none else .str [c]] (eR K h q s) (.none,eR K h q (oU (uX K.e d c) s))==true)&&true),fG (PW x) xP KK 7 vs (cJ K h q (oU (uX K.e d c) s) t x b i j c6 (.val (.str [c])) c8) [])) bb:=by kernel_rfl
theorem f0:ax 2 (fG (PW x) xP KK 7 [] (cJ K h q s t x b i j (pD (some z)) c7 c8) [])=((jd 6 42 [.loc .em] (eR K h q s) (.none,eR K h q (pIn K.e (iV h.ind) s))==true)&&true,KK none (cJ K h q (pIn K.e (iV h.ind) s) t x b j j (pD (some z)) c7 c8) []):=by kernel_rfl
theorem Lj:ax 0 (fG (PW x) xP KK 7 [] (cJ K h q s t x b i j (pD none) c7 c8) [])=(true,KK none (cJ K h q s t x b j j (pD none) c7 c8) []):=by kernel_rfl
theorem Lk:ax 1 (ba (PW x) .nil (ba (PW x) (ag EG 3) KK) none (cJ K h q s t x b i j (pD (some z)) c7 c8) [])=(true,KK none (cJ K h q s t x (BR.contains z) i (j+1) (pD (some z)) c7 c8) []):=by kernel_rfl
theorem Ll:ax 1 (ba (PW x) .nil (ba (PW x) (ag EG 3) KK) none (cJ K h q s t x b i j (pD none) c7 c8) [])=(true,KK none (cJ K h q s t x b i (j+1) (pD none) c7 c8) []):=by kernel_rfl
end
noncomputable def ey(e:Tx):Tx→RP→RP
 |[],s=>s
 |c::r,s=>ey e r (oU (uX e (eqX [c] [10]) c) s)
noncomputable def bE(e:Tx)(i:Int):Tx→Bool→Tx→RP→RP
 |[],true,p,s=>ey e p s
 |[],false,p,s=>oU e (qW p s)
 |c::r,true,p,s=>bif BR.contains c then bE e i r true (p++[c]) s else bE e i r false [c] (pIn e i (ey e p s))
 |c::r,false,p,s=>bif BR.contains c then bE e i r true [c] (qW p s) else bE e i r false (p++[c]) s
section
variable {K:Ko}{h:Wh}{q:Qs}
theorem Cq(s:RP):J 6 43 [.loc .em,.none] (eR K h q s) (.none,eR K h q (oU K.e s)):=y9 K h q s▸(Hp K h s.2 {q with rs:=s.1}).mono (by decide)
theorem Hx(s:RP)(x:Tx):J 6 43 [.loc .em,.str x] (eR K h q s) (.none,eR K h q (oU x s)):=za K h q s x▸(Hq K h s.2 {q with rs:=s.1} x).mono (by decide)
theorem Gk(s:RP)(hi:h.ind= .none∨ ∃i:Int,h.ind= .int i∧0≤i∧i≤1000)(hc:0≤s.2.c):J 6 42 [.loc .em] (eR K h q s) (.none,eR K h q (pIn K.e (iV h.ind) s)):=Co K h q s▸Le K h s.2 {q with rs:=s.1} hi hc
theorem Ke(s:RP)(x:Tx)(n w d:Bool)(hx:x.length≤1000000):J 6 41 [.loc .em,.str x,.bool n,.bool w,.bool d] (eR K h q s) (.none,eR K h q (pWi x n w d s)):=Cp K h q s x n w d▸(K9 K h s.2 {q with rs:=s.1} x n w d hx).mono (by decide)
theorem wL{e:Tx}:∀{p:Tx} {s:RP},0≤s.2.c→0≤(ey e p s).2.c
 |[],s,h=>h
 |c::r,s,h=>wL (p:=r) (s:=oU (uX e (eqX [c] [10]) c) s) (li 0)
theorem Au{e:Tx}{i:Int}{s:RP}(hi:0≤i)(h:0≤s.2.c):0≤(pIn e i s).2.c:=by
 show 0≤(bif bX (aQ (aE i s.2.c s.2.ws s.2.idn) s.2.c) i then i else aQ (aE i s.2.c s.2.ws s.2.idn) s.2.c);unfold aQ;generalize aE i s.2.c s.2.ws s.2.idn=b;cases b<;>cases (bX _ i)<;>first | exact hi | exact h | exact li 0
theorem qA:aD (bK (aF mX))=true:=by kernel_rfl
theorem Cr:aD (bK (aF xP))=true:=by kernel_rfl
theorem Cs:aD (aY xP)=true:=by kernel_rfl
theorem Hy:aD (ag EG 3)=true:=by kernel_rfl
variable {v:MV}{sh:Sto}{t x:Tx}
theorem mF{KK:Option MV→St→Ds→R}(hK:∀r st,Mn (KK r st)){b:Bool}{i j:Nat}{c6 c8:Cell}:∀(p:Tx) (s:RP) (c7:Cell),(∀c7,am (fG (PW x) xP KK 7 [] (cJ K h q (ey K.e p s) t x b i j c6 c7 c8) []) v sh)→am (fG (PW x) xP KK 7 (zb p) (cJ K h q s t x b i j c6 c7 c8) []) v sh
 |[],s,c7,H=>H c7
 |c::r,s,c7,H=>by
  refine aT (mC Cr Cs hK _ _) (ac (f1 K h q s t x b i j c6 c7 c8 KK c (zb r)) (ah (eqX [c] [10]))) ?_ (mF hK r (oU (uX K.e (eqX [c] [10]) c) s) (.val (.str [c])) H);refine an (fE rfl) (an (bt (aP ?_)) rfl);cases eqX [c] [10] with
  |true=>exact Cq s
  |false=>exact Hx s [c]
theorem uK{KK:Option MV→St→Ds→R}{n:Nat}(hK:∀r st,Mn (KK r st)):∀r st,Mn (kA x KK n r st):=dj (by rfl) (dj Hy (wH qA hK))
theorem jB(n j:Nat):PySem.clipAt n (Int.ofNat j)=min j n:=by
 have:=PySem.clipAt_cast n ((j:Nat):Int);show PySem.clipAt n ((j:Nat):Int)=_
 repeat' split at this
 all_goals omega
theorem oZ{pre p rest:Tx}:jA (pre++(p++rest)) pre.length (pre.length+p.length)=p:=by
 unfold jA;rw[jB,jB,a7,a7,Nat.min_eq_left (by omega),Nat.min_eq_left (by omega),List.take_length_add_append,List.drop_left,List.take_left]
theorem Hz{pre p r:Tx}{z:Nat}:(pre++(p++z::r))[pre.length+p.length]?=some z:=by
 rw[List.getElem?_append_right (by omega),List.getElem?_append_right (by omega),show pre.length+p.length-pre.length-p.length=0 by omega];rfl
theorem tu{sh:Sto}{pre p r:Tx}{z:Nat}{g:Bool}(hg:g=true):gT (pre.length+p.length) z (pre++(p++z::r)) sh g=true:=by
 have hl:pre.length+p.length<(pre++(p++z::r)).length:=by simp only [a7,List.length_cons];omega
 exact an (bt (pG (Int.ofNat_le.mpr (Nat.le_of_lt hl)))) (an (bt (pG (Int.ofNat_lt.mpr hl))) (an (bt (ib (ki (lB hl) Hz))) hg))
theorem Av{pre p:Tx}{g:Bool}(hg:g=true):gZ (pre.length+p.length) (pre++(p++[])) g=true:=by
 have hl:pre.length+p.length=(pre++(p++[])).length:=by simp only [a7,List.length_nil];omega
 refine an (bt (pG (Int.ofNat_le.mpr (Nat.le_of_eq hl)))) (an (fE (decide_eq_false λz=>?_)) hg);have:=Int.ofNat_lt.mp z;omega
theorem Aw{KK:Option MV→St→Ds→R}(hK:∀r st,Mn (KK r st)){b:Bool}{i n:Nat}{c6 c7 c8:Cell}{s:RP}{j:Nat}(hj:j=t.length)(H:am (KK none (cJ K h q s t x b i (j+1) c6 c7 c8) []) v sh):am (WL (PW x) mX KK (n+1) (cJ K h q s t x b i (j+1) c6 c7 c8) []) v sh:=by
 refine aT (kT qA hK _ _) (i6 K h q s t x b i (j+1) n c6 c7 c8 KK) (an (fE (decide_eq_false λz=>?_)) rfl) H;have:=Int.ofNat_le.mp z;omega
theorem gX{KK:Option MV→St→Ds→R}(hK:∀r st,Mn (KK r st)){ind:Int}(hi:h.ind= .int ind)(h0:0≤ind)(h1:ind≤1000):∀(rest:Tx) (b:Bool) (p pre:Tx) (s:RP) (n:Nat) (c6 c7 c8:Cell),t=pre++(p++rest)→rest.length+2≤n→0≤s.2.c →
  (∀b' i c6 c7 c8,am (KK none (cJ K h q (bE K.e ind rest b p s) t x b' i (t.length+1) c6 c7 c8) []) v sh) →
  am (WL (PW x) mX KK n (cJ K h q s t x b pre.length (pre.length+p.length) c6 c7 c8) []) v sh
 |[],true,p,pre,s,n,c6,c7,c8,ht,hn,hc,H=>by
  obtain⟨n,rfl⟩:∃m,n=m+2:=⟨n-2,by have:2≤n:=hn;omega⟩
  have hl:pre.length+p.length=t.length:=by rw[ht];simp only [a7,List.length_nil];omega
  refine aT (kT qA hK _ _) (Li K h q s t x (pre.length) (pre.length+p.length) (n+1) c6 c7 c8 KK) (ht▸Av rfl) ?_;rw[show jA t pre.length (pre.length+p.length)=p by rw[ht];exact oZ]
  refine mF (uK hK) p s c7 λc7=>aT (ds:=[]) (mC Cr Cs (uK hK) _ _) (Lj K h q (ey K.e p s) t x true _ _ c7 c8 _) rfl ?_;refine aT (ds:=[]) (x:=kA x KK (n+1) none _) (uK hK _ _) (Ll K h q (ey K.e p s) t x true _ _ c7 c8 (wz (PW x) mX KK (n+1))) rfl ?_;exact Aw hK hl (hl▸H _ _ _ _ _)
 |[],false,p,pre,s,n,c6,c7,c8,ht,hn,hc,H=>by
  obtain⟨n,rfl⟩:∃m,n=m+2:=⟨n-2,by have:2≤n:=hn;omega⟩
  have hl:pre.length+p.length=t.length:=by rw[ht];simp only [a7,List.length_nil];omega
  have hcut:jA t pre.length (pre.length+p.length)=p:=by rw[ht];exact oZ
  refine aT (kT qA hK _ _) (i5 K h q s t x (pre.length) (pre.length+p.length) (n+1) c6 c7 c8 KK) (ht▸Av (an (bt (aP (Cq _))) rfl)) ?_;rw[hcut];exact Aw hK hl (hl▸H _ _ _ _ _)
 |z::r,true,p,pre,s,n,c6,c7,c8,ht,hn,hc,H=>by
  obtain⟨n,rfl⟩:∃m,n=m+1:=⟨n-1,by have:r.length+1+2≤n:=hn;omega⟩
  have hn:r.length+2≤n:=by have:r.length+1+2≤n+1:=hn;omega
  have hcut:jA t pre.length (pre.length+p.length)=p:=by rw[ht];exact oZ
  cases hz:BR.contains z with
  |true=>
   have e:bE K.e ind (z::r) true p s=bE K.e ind r true (p++[z]) s:=by show (bif BR.contains z then _ else _)=_;rw[hz];rfl
   rw[e] at H;refine aT (kT qA hK _ _) (i1 K h q s t x (pre.length) (pre.length+p.length) n z c6 c7 c8 KK) (ht▸tu (by rw[hz];rfl)) ?_
   rw[hz];have:=gX hK hi h0 h1 r true (p++[z]) pre s n (pD (some z)) c7 c8 (by rw[ht];simp) hn hc H
   rw[a7] at this;exact this
  |false=>
   have e:bE K.e ind (z::r) true p s=bE K.e ind r false [z] (pIn K.e ind (ey K.e p s)):=by show (bif BR.contains z then _ else _)=_;rw[hz];rfl
   rw[e] at H;refine aT (kT qA hK _ _) (i2 K h q s t x (pre.length) (pre.length+p.length) n z c6 c7 c8 KK) (ht▸tu (by rw[hz];rfl)) ?_
   rw[hcut];have hv:iV h.ind=ind:=by rw[hi];rfl
   refine mF (uK hK) p s c7 λc7=>aT (ds:=[]) (mC Cr Cs (uK hK) _ _) (f0 K h q (ey K.e p s) t x true _ _ z c7 c8 _) (an (bt (aP (Gk _ (.inr ⟨ind,hi,h0,h1⟩) (wL hc)))) rfl) ?_;refine aT (ds:=[]) (x:=kA x KK n none _) (uK hK _ _) (Lk K h q _ t x true _ _ z c7 c8 (wz (PW x) mX KK n)) rfl ?_;rw[hz,hv];have:=gX hK hi h0 h1 r false [z] (pre++p) (pIn K.e ind (ey K.e p s)) n (pD (some z)) c7 c8 (by rw[ht];simp) hn (Au h0 (wL hc)) H
   rw[a7] at this;exact this
 |z::r,false,p,pre,s,n,c6,c7,c8,ht,hn,hc,H=>by
  obtain⟨n,rfl⟩:∃m,n=m+1:=⟨n-1,by have:r.length+1+2≤n:=hn;omega⟩
  have hn:r.length+2≤n:=by have:r.length+1+2≤n+1:=hn;omega
  have hcut:jA t pre.length (pre.length+p.length)=p:=by rw[ht];exact oZ
  cases hz:BR.contains z with
  |true=>
   have e:bE K.e ind (z::r) false p s=bE K.e ind r true [z] (qW p s):=by show (bif BR.contains z then _ else _)=_;rw[hz];rfl
   rw[e] at H;refine aT (kT qA hK _ _) (i3 K h q s t x (pre.length) (pre.length+p.length) n z c6 c7 c8 KK) (ht▸tu (by rw[hz];rfl)) ?_
   rw[hz,hcut];have:=gX hK hi h0 h1 r true [z] (pre++p) (qW p s) n (pD (some z)) c7 (.val (.str p)) (by rw[ht];simp) hn hc H
   rw[a7] at this;exact this
  |false=>
   have e:bE K.e ind (z::r) false p s=bE K.e ind r false (p++[z]) s:=by show (bif BR.contains z then _ else _)=_;rw[hz];rfl
   rw[e] at H;refine aT (kT qA hK _ _) (i4 K h q s t x (pre.length) (pre.length+p.length) n z c6 c7 c8 KK) (ht▸tu (by rw[hz];rfl)) ?_
   rw[hz];have:=gX hK hi h0 h1 r false (p++[z]) pre s n (pD (some z)) c7 c8 (by rw[ht];simp) hn hc H
   rw[a7] at this;exact this
end
theorem Ct{m:Nat}{a b c d:Bool}:(Ht m a b c d).length≤2:=by cases a<;>cases b<;>cases c<;>cases d<;>exact kM rfl
noncomputable def pLit(K:Ko)(ind:Int)(t:Tx)(s:RP):RP:=bE K.e ind t true [] (pH K (iC K.m t) (mE (iC K.m t)) s)
theorem Lm(K:Ko)(h:Wh)(q:Qs)(s:RP)(hm:K.m∈mL){t:Tx}(ht:t≠[])(hl:t.length≤1000){ind:Int}(hi:h.ind= .int ind)(h0:0≤ind)(h1:ind≤1000) :
  J 10 45 [.loc .em,.str t] (eR K h q s) (.none,eR K h q (pLit K ind t s)):=by
 refine gb (n:=6) (is:=Kb) (a:=aW (iC K.m t)) (O:=kS) (k:=2) (ds:=[(0,mE (iC K.m t))]) ?_;refine bS (r':=ae L1.T (PW (iC K.m t)) (aO 6 Hv mX) (Kd t (eR K h q s)) ai [(0,mE (iC K.m t))]) (by kernel_rfl) ?_
 have hx:(iC K.m t).length≤2:=Ct;have j44:=aP ((Lg K h s.2 {q with rs:=s.1} hm ht).mono (by decide:2≤6))
 unfold pLit;generalize iC K.m t=x at hx j44;refine aK (ac (Hw K h q s t x mX ai) (ah (mE x))) ?_ ?_
 ·exact an (bt j44) (an (bt (ao (by unfold ak;omega))) (an (bt (aP (Ke s (124::x) true false false (by simp only [List.length_cons];omega)))) (an (fE rfl) (an (bt (aP (Cq _))) rfl))))
 ·refine bS (r':=WL (PW x) mX (ba (PW x) (aY mX) ai) 100000 (cJ K h q (pH K x (mE x) s) t x true 0 0 .unset .unset .unset) []) (by kernel_rfl) ?_
  exact gX (dj (by kernel_rfl) di) hi h0 h1 t true [] [] (pH K x (mE x) s) 100000 .unset .unset .unset rfl (by omega) (li 0) λb' i c6 c7 c8=>⟨rfl,rfl⟩
noncomputable def wdL:List Tx:=[[119],[120,121],[107,45,122]]
noncomputable def pWd(w:Tx)(s:RP):RP:=bif s.2.ws then (s.1++[.str w],⟨s.2.L,s.2.c+Int.ofNat w.length,false,false,s.2.oe⟩) else ((s.1++[.str [32]])++[.str w],⟨s.2.L,s.2.c+1+Int.ofNat w.length,false,false,s.2.oe⟩)
theorem Ln(K:Ko)(h:Wh)(L c:Int)(oe:Bool)(q:Qs)(rs:List MV)(sp:Bool):wdL.map (λw=>bb.map λws=>bb.map λidn=>wC 0 uV uW kS 2 46 [.loc .em,.str w,.bool sp] (eR K {h with rt:=false} q (rs,⟨L,c,ws,idn,oe⟩)) []) =
 mp (λw=>mp (λws=>mp (λidn=>some (true,(.none,eR K {h with rt:=false} q (pWd w (rs,⟨L,c,ws,idn,oe⟩))))) bb) bb) wdL:=by kernel_rfl
theorem Lo(K:Ko)(h:Wh)(q:Qs)(s:RP)(sp:Bool)(hr:h.rt=false){w:Tx}(hw:w∈wdL):J 4 46 [.loc .em,.str w,.bool sp] (eR K h q s) (.none,eR K h q (pWd w s)):=by
 have e:=ac (ac (ac (Ln K h s.2.L s.2.c s.2.oe q s.1 sp) hw) (ah s.2.ws)) (ah s.2.idn);rw[show ({h with rt:=false}:Wh)=h by rw[← hr]] at e
 exact gW e rfl
noncomputable def nh(w:Tx):MV:=.inst 16 [.str w,.bool false,.bool false,.bool true,.bool true,.bool true,.bool true,.bool true]
theorem HA(K:Ko)(h:Wh)(q:Qs)(s:RP):wdL.map (λw=>wC 0 uV uW kS 2 37 [.loc .em,.str w] (eR K h q s) [])=mp (λw=>some (true,(nh w,eR K h q s))) wdL:=by kernel_rfl
theorem EH(K:Ko)(h:Wh)(q:Qs)(s:RP){w:Tx}(hw:w∈wdL):J 4 37 [.loc .em,.str w] (eR K h q s) (nh w,eR K h q s):=gW (ac (HA K h q s) hw) rfl
noncomputable def alA:List Nat:=[10,97,32,98,99,35,100,45,58,101,46,124,50,39,34,92,110,37,63,38,102,91,44,119,120,121,107,122]
noncomputable def alW:List Nat:=[8232,233,8233,128512]
noncomputable def al:List Nat:=alA++alW
noncomputable def WSx:Tx:=[0,32,9,13,10,133,8232,8233]
noncomputable def ni:Psi:=wB 0 uV uW kS 1
noncomputable def HB:MSs:=L1.b_Emitter_analyze_scalar
noncomputable def o0:MSs:=ag HB 17
noncomputable def Lp:MSs:=bK (aF o0)
noncomputable def zd:MSs:=ag Lp 4
structure Fl where
 b2:Bool
 b3:Bool
 b4:Bool
 b6:Bool
 b7:Bool
 b9:Bool
 b10:Bool
noncomputable def kU(sh:Sto)(t:Tx)(f:Fl)(b12 b13 b14 b15:Bool)(i:Nat)(c17 c18:Cell):St:=
 ⟨sh,[.val (.loc .em),.val (.str t),.val (.bool f.b2),.val (.bool f.b3),.val (.bool f.b4),.val (.bool false),.val (.bool f.b6),.val (.bool f.b7),.val (.bool false),.val (.bool f.b9),.val (.bool f.b10),.val (.bool false),.val (.bool b12),.val (.bool b13),.val (.bool b14),.val (.bool b15),.val (.int (Int.ofNat i)),c17,c18,.unset,.unset,.unset,.unset,.unset]⟩
noncomputable def Kf(t:Tx)(sh:Sto):St:=⟨sh,.val (.loc .em):: .val (.str t)::List.replicate 22 .unset⟩
noncomputable def S1:Tx:=[35,44,91,93,123,125,38,42,33,124,62,39,34,37,64,96]
noncomputable def HC(z:Nat)(d b12 b13:Bool):Bool:=bif d then S1.contains z||(Nat.beq z 63||(Nat.beq z 58||Nat.beq z 45))&&b13 else Nat.beq z 58&&b13||Nat.beq z 35&&b12
noncomputable def Lq(z:Nat)(d b12 b13:Bool):Bool:=bif d then S1.contains z||(Nat.beq z 63||(Nat.beq z 58||Nat.beq z 45&&b13)) else ([44,63,91,93,123,125]:Tx).contains z||(Nat.beq z 58||Nat.beq z 35&&b12)
noncomputable def wM(a b:Bool):Bool:=bif a then true else b
noncomputable def HD(z:Nat)(d b12 b13:Bool)(f:Fl):Fl:=⟨wM (HC z d b12 b13) f.b2,wM (Lq z d b12 b13) f.b3,wM (BR.contains z) f.b4,f.b6,f.b7,f.b9,f.b10⟩
noncomputable def Cu(z:Nat)(c:Cell):Cell:=bif alW.contains z then .val (.bool true) else c
noncomputable def DH(z:Nat)(b:Bool):Bool:=bif alW.contains z then true else b
noncomputable abbrev C4:=Nat×(Bool×(Bool×Bool))
noncomputable def q13(z:Nat):Bool:=Nat.beq z 63||(Nat.beq z 58||Nat.beq z 45)
noncomputable def A37:List C4:=pr (al.filter λz=>!(Nat.beq z 35||q13 z)) (pr bb (pr [false] [false]))++(pr [35] (pr bb (pr bb [false]))++pr [63,58,45] (pr bb (pr [false] bb)))
noncomputable def rV(z:Nat)(d b c:Bool):C4:=bif Nat.beq z 35 then (z,(d,(b,false))) else bif q13 z then (z,(d,(false,c))) else (z,(d,(false,false)))
theorem wN{z:Nat}(hz:z∈al)(d b c:Bool):rV z d b c∈A37:=by
 unfold rV A37;cases h:Nat.beq z 35 with
 |true=>
  obtain rfl:=jO h;exact xK _ (List.mem_append_left _ (bj (.head _) (bj (ah d) (bj (ah b) (.head _)))))
 |false=>
  cases h2:q13 z with
  |true=>
   have hm:z∈[63,58,45]:=by
    unfold q13 at h2;rcases qxz.mp h2 with h | h2
    ·rw[jO h];decide
    rcases qxz.mp h2 with h | h
    ·rw[jO h];decide
    ·rw[jO h];decide
   exact xK _ (xK _ (bj hm (bj (ah d) (bj (.head _) (ah c)))))
  |false=>exact List.mem_append_left _ (bj (List.mem_filter.mpr ⟨hz,by rw[h,h2];rfl⟩) (bj (ah d) (bj (.head _) (.head _))))
noncomputable def EI(z:Nat)(b c:Bool):Bool:=bif Nat.beq z 35 then c else b
noncomputable def EJ(z:Nat)(b c:Bool):Bool:=bif q13 z then c else b
theorem Lr(W:Int)(m:Nat)(e:Tx)(au:Bool)(h:Wh)(q:Qs)(s:RP)(t:Tx)(f:Fl)(b12 b13 b14 b15:Bool)(i n:Nat)(c17 c18:Cell)(KK:Option MV→St→Ds→R):A37.map (λx=>
  ax 4 (WL ni o0 KK (n+1) (kU (eR ⟨W,m,e,DH x.1 au⟩ h q s) t f (EI x.1 b12 x.2.2.1) (EJ x.1 b13 x.2.2.2) b14 b15 i c17 c18) [(0,true),(4000000,true),(x.1,true),(0,x.2.1)])) =
 mp (λx=>
  ((bX (Int.ofNat i) (Int.ofNat t.length)==true)&&((iI (fx (eR ⟨W,m,e,DH x.1 au⟩ h q s) (.str t) (.int (Int.ofNat i))) x.1==true)&&((aI (Int.ofNat i) 0==x.2.1)&&true)),
   ae L1.T ni zd (kU (eR ⟨W,m,e,DH x.1 au⟩ h q s) t (HD x.1 x.2.1 (EI x.1 b12 x.2.2.1) (EJ x.1 b13 x.2.2.2) f) (EI x.1 b12 x.2.2.1) (EJ x.1 b13 x.2.2.2) b14 b15 i (.val (.str [x.1])) (Cu x.1 c18)) (wz ni o0 KK n) [])) A37:=by kernel_rfl
noncomputable def Kg(z:Nat)(d dl b14 b15:Bool)(f:Fl):Fl:=⟨f.b2,f.b3,f.b4,wM (Nat.beq z 32&&d) f.b6,wM (BR.contains z&&d) f.b7,wM (BR.contains z&&dl) f.b9,wM (Nat.beq z 32&&b15) f.b10⟩
noncomputable def EK(dn:Bool)(y:Nat):Ds:=bif dn then [] else [(4000000,true),(y,true)]
noncomputable def Ls(z:Nat)(d dl dn:Bool)(y:Nat):Ds:=bif Nat.beq z 32 then (1,d)::(0,dl)::(1,!dn)::EK dn y else bif BR.contains z then (2,d)::(0,dl)::(1,!dn)::EK dn y else (2,!dn)::EK dn y
noncomputable def gN(i:Nat)(t:Tx)(dn:Bool)(y:Nat)(sh:Sto):Bool:=((pJ (Int.ofNat t.length) (Int.ofNat (i+1+1))==false)== !dn)&&(bif dn then true else (iI (fx sh (.str t) (.int (Int.ofNat (i+1+1)))) y==true)&&true)
noncomputable def gB(i:Nat)(t:Tx)(z:Nat)(d dl dn:Bool)(y:Nat)(sh:Sto):Bool:=bif Nat.beq z 32||BR.contains z then (aI (Int.ofNat i) 0==d)&&((aI (Int.ofNat i) (Int.ofNat t.length-1)==dl)&&gN i t dn y sh) else gN i t dn y sh
noncomputable def nB(z:Nat)(dn:Bool):Nat:=bif Nat.beq z 32||BR.contains z then bif dn then 8 else 10 else bif dn then 4 else 6
noncomputable def Kh(z:Nat):Bool:=Nat.beq z 32||BR.contains z
noncomputable abbrev C5:=Nat×(Bool×(Bool×(Bool×Bool)))
noncomputable def C37:List C5:=pr (al.filter λz=>!Kh z) (pr [false] (pr [false] (pr bb [false])))++(pr [32] (pr bb (pr [false] (pr bb bb)))++pr [10,8232,8233] (pr bb (pr bb (pr bb [false]))))
noncomputable def kW(z:Nat)(d dl dn b:Bool):C5:=bif Nat.beq z 32 then (z,(d,(false,(dn,b)))) else bif BR.contains z then (z,(d,(dl,(dn,false)))) else (z,(false,(false,(dn,false))))
theorem EL:(al.all λz=>!BR.contains z||([10,8232,8233]:List Nat).contains z)=true:=by kernel_rfl
theorem wO{z:Nat}(hz:z∈al)(d dl dn b:Bool):kW z d dl dn b∈C37:=by
 unfold kW C37;cases h:Nat.beq z 32 with
 |true=>
  obtain rfl:=jO h;exact xK _ (List.mem_append_left _ (bj (.head _) (bj (ah d) (bj (.head _) (bj (ah dn) (ah b))))))
 |false=>
  cases h2:BR.contains z with
  |true=>
   have:=qdz.mp EL z hz;rw[h2] at this;exact xK _ (xK _ (bj (List.contains_iff_mem.mp this) (bj (ah d) (bj (ah dl) (bj (ah dn) (.head _))))))
  |false=>exact List.mem_append_left _ (bj (List.mem_filter.mpr ⟨hz,by unfold Kh;rw[h,h2];rfl⟩) (bj (.head _) (bj (.head _) (bj (ah dn) (.head _)))))
noncomputable def ze(z:Nat)(b c:Bool):Bool:=bif Nat.beq z 32 then c else b
theorem HE(sh:Sto)(t:Tx)(f:Fl)(b12 b13 b14 b15:Bool)(i n y:Nat)(c18:Cell)(KK:Option MV→St→Ds→R):C37.map (λx=>
  ax (nB x.1 x.2.2.2.1) (ae L1.T ni zd (kU sh t f b12 b13 (!BR.contains x.1&&b14) (ze x.1 b15 x.2.2.2.2) i (.val (.str [x.1])) c18) (wz ni o0 KK n) (Ls x.1 x.2.1 x.2.2.1 x.2.2.2.1 y))) =
 mp (λx=>(gB i t x.1 x.2.1 x.2.2.1 x.2.2.2.1 y sh,WL ni o0 KK n (kU sh t (Kg x.1 x.2.1 x.2.2.1 (!BR.contains x.1&&b14) (ze x.1 b15 x.2.2.2.2) f) (WSx.contains x.1) (bif x.2.2.2.1 then pJ (Int.ofNat t.length) (Int.ofNat (i+1+1)) else WSx.contains y) (Nat.beq x.1 32) (BR.contains x.1) (i+1) (.val (.str [x.1])) c18) [])) C37:=by kernel_rfl
noncomputable def Ki(d1 d2 dn:Bool)(y:Nat):Ds:=(1,!d1)::(bif d1 then (1,!dn)::EK dn y else (0,!d2)::(1,!dn)::EK dn y)
noncomputable def nP(d1 dn:Bool):Nat:=bif d1 then bif dn then 5 else 6 else bif dn then 8 else 9
noncomputable def gP(t:Tx)(sh:Sto)(d1 d2 dn:Bool)(y:Nat):Bool:=((prefX [45,45,45] t==false)== !d1)&&(bif d1 then ((aI (Int.ofNat t.length) 1==false)== !dn)&&(bif dn then true else (iI (fx sh (.str t) (.int 1)) y==true)&&true)
 else ((prefX [46,46,46] t==false)== !d2)&&(((aI (Int.ofNat t.length) 1==false)== !dn)&&(bif dn then true else (iI (fx sh (.str t) (.int 1)) y==true)&&true)))
theorem Lu(sh:Sto)(c:Nat)(r:Tx)(y:Nat)(rest:MSs)(KK:Option MV→St→Ds→R):bb.map (λd1=>bb.map λd2=>bb.map λdn=>ax (nP d1 dn) (ae L1.T ni (aO 17 HB rest) (Kf (c::r) sh) KK (Ki d1 d2 dn y))) =
 mp (λd1=>mp (λd2=>mp (λdn=>(gP (c::r) sh d1 d2 dn y,ae L1.T ni rest (kU sh (c::r) ⟨d1||d2,d1||d2,false,false,false,false,false⟩ true (bif dn then aI (Int.ofNat (c::r).length) 1 else WSx.contains y) false false 0 .unset .unset) KK [])) bb) bb) bb:=by kernel_rfl
noncomputable def kj(t:Tx)(b:Bool)(x:Bool×(Bool×Bool)):MV:=.inst 16 [.str t,.bool false,.bool b,.bool x.1,.bool x.2.1,.bool x.2.2,.bool true,.bool true]
noncomputable def xF(f:Fl):Bool×(Bool×Bool):=(!(f.b6||(f.b7||(f.b9||(f.b10||(f.b4||f.b3))))),(!(f.b6||(f.b7||(f.b9||(f.b10||(f.b4||f.b2))))),!f.b10))
theorem Lv(K:Ko)(h:Wh)(q:Qs)(s:RP)(t:Tx)(b12 b13 b14 b15:Bool)(i:Nat)(c17 c18:Cell):bb.map (λb2=>bb.map λb3=>bb.map λb4=>bb.map λb6=>bb.map λb7=>bb.map λb9=>bb.map λb10=>
  aN (ba ni (aY o0) ai none (kU (eR K h q s) t ⟨b2,b3,b4,b6,b7,b9,b10⟩ b12 b13 b14 b15 i c17 c18) [])) =
 mp (λb2=>mp (λb3=>mp (λb4=>mp (λb6=>mp (λb7=>mp (λb9=>mp (λb10=>some (true,(kj t b4 (xF ⟨b2,b3,b4,b6,b7,b9,b10⟩),eR K h q s))) bb) bb) bb) bb) bb) bb) bb:=by kernel_rfl
theorem EM{K:Ko}{h:Wh}{q:Qs}{s:RP}{t:Tx}{f:Fl}{b12 b13 b14 b15:Bool}{i:Nat}{c17 c18:Cell}:am (ba ni (aY o0) ai none (kU (eR K h q s) t f b12 b13 b14 b15 i c17 c18) []) (kj t f.b4 (xF f)) (eR K h q s):=
 cG (ac (ac (ac (ac (ac (ac (ac (Lv K h q s t b12 b13 b14 b15 i c17 c18) (ah f.b2)) (ah f.b3)) (ah f.b4)) (ah f.b6)) (ah f.b7)) (ah f.b9)) (ah f.b10)) rfl
noncomputable def eV(au:Bool):Tx→Bool
 |[]=>true
 |z::r=>(alA.contains z||(au&&alW.contains z))&&((!Nat.beq z 32|| !BR.contains (r.headD 10))&&eV au r)
theorem Cv:(alA.all λz=>!alW.contains z)=true:=by kernel_rfl
theorem Ax{z:Nat}{au:Bool}(h:(alA.contains z||(au&&alW.contains z))=true):z∈al∧DH z au=au:=by
 rcases qxz.mp h with h | h
 ·have hm:=List.contains_iff_mem.mp h
  have:=qdz.mp Cv z hm;refine⟨List.mem_append_left _ hm,?_⟩;unfold DH;cases e:alW.contains z with
  |true=>rw[e] at this;exact aB this
  |false=>rfl
 ·refine⟨xK _ (List.contains_iff_mem.mp (aa h)),?_⟩
  unfold DH;rw[aa h];exact(ab h).symm
theorem Cw:aD (bK (aF o0))=true:=by kernel_rfl
theorem EN:aD zd=true:=by kernel_rfl
theorem HF:aD (aY o0)=true:=by kernel_rfl
theorem Cy(z:Nat)(d b c:Bool):(rV z d b c).1=z∧(rV z d b c).2.1=d∧EI z b (rV z d b c).2.2.1=b∧EJ z c (rV z d b c).2.2.2=c:=by
 unfold rV EI EJ;cases h:Nat.beq z 35 with
 |true=>
  obtain rfl:=jO h;exact⟨rfl,rfl,rfl,rfl⟩
 |false=>cases h2:q13 z<;>exact⟨rfl,rfl,rfl,rfl⟩
theorem Cz(z:Nat)(d dl dn b:Bool):(kW z d dl dn b).1=z∧(kW z d dl dn b).2.2.2.1=dn∧ze z b (kW z d dl dn b).2.2.2.2=b:=by
 unfold kW ze;cases h:Nat.beq z 32 with
 |true=>exact⟨rfl,rfl,rfl⟩
 |false=>cases h2:BR.contains z<;>exact⟨rfl,rfl,rfl⟩
theorem Lw(sh:Sto)(t:Tx)(f:Fl)(b12 b13 b14 b15:Bool)(i n:Nat)(c17 c18:Cell)(KK:Option MV→St→Ds→R):ax 2 (WL ni o0 KK (n+1) (kU sh t f b12 b13 b14 b15 i c17 c18) [(0,false)])=((bX (Int.ofNat i) (Int.ofNat t.length)==false)&&true,KK none (kU sh t f b12 b13 b14 b15 i c17 c18) []):=by kernel_rfl
theorem EO{i:Nat}{t:Tx}{sh:Sto}:gN i t (pJ (Int.ofNat t.length) (Int.ofNat (i+1+1))) ((t[i+1+1]?).getD 0) sh=true:=by
 unfold gN;cases h:pJ (Int.ofNat t.length) (Int.ofNat (i+1+1)) with
 |true=>rfl
 |false=>
  have h:¬(Int.ofNat t.length≤Int.ofNat (i+1+1)):=of_decide_eq_false h;have hl:i+1+1<t.length:=Nat.lt_of_not_le λz=>h (Int.ofNat_le.mpr z);have e:t[i+1+1]?=some ((t[i+1+1]?).getD 0):=by rw[List.getElem?_eq_getElem hl];rfl
  rw[ib (ki (lB hl) e)];rfl
theorem EP{i:Nat}{t:Tx}{z:Nat}{d dl dn b:Bool}{y:Nat}{sh:Sto}(hd:aI (Int.ofNat i) 0=d)(hl:aI (Int.ofNat i) (Int.ofNat t.length-1)=dl)(h32:z=32→dl=false)(hg:gN i t dn y sh=true):gB i t (kW z d dl dn b).1 (kW z d dl dn b).2.1 (kW z d dl dn b).2.2.1 (kW z d dl dn b).2.2.2.1 y sh=true:=by
 unfold kW gB;cases h:Nat.beq z 32 with
 |true=>
  obtain rfl:=jO h;obtain rfl:=h32 rfl;exact an (fE hd) (an (fE hl) hg)
 |false=>
  cases h2:BR.contains z with
  |true=>
   show (bif Nat.beq z 32||BR.contains z then _ else _)=true;rw[h,h2];exact an (fE hd) (an (fE hl) hg)
  |false=>
   show (bif Nat.beq z 32||BR.contains z then _ else _)=true;rw[h,h2];exact hg
theorem tv{K:Ko}{h:Wh}{q:Qs}{s:RP}{t:Tx}{KK:Option MV→St→Ds→R}(hK:∀r st,Mn (KK r st)):∀(rest pre:Tx) (f:Fl) (b12 b13 b14 b15:Bool) (n:Nat) (c17 c18:Cell),t=pre++rest→eV K.au rest=true→(b14=true→BR.contains (rest.headD 97)=false)→rest.length+1≤n →
  ∃f' x12 x13 x14 x15 x17 x18,f'.b4=wM (rest.any BR.contains) f.b4∧ ∀v sh,am (KK none (kU (eR K h q s) t f' x12 x13 x14 x15 t.length x17 x18) []) v sh →
  am (WL ni o0 KK n (kU (eR K h q s) t f b12 b13 b14 b15 pre.length c17 c18) []) v sh
 |[],pre,f,b12,b13,b14,b15,n,c17,c18,ht,ho,hb,hn=>by
  obtain⟨n,rfl⟩:∃m,n=m+1:=⟨n-1,by have:1≤n:=hn;omega⟩
  have hl:pre.length=t.length:=by rw[ht,fw]
  refine⟨f,b12,b13,b14,b15,c17,c18,rfl,λv sh H=>?_⟩;refine aT (kT Cw hK _ _) (Lw (eR K h q s) t f b12 b13 b14 b15 pre.length n c17 c18 KK) (an (fE (decide_eq_false λz=>?_)) rfl) (hl▸H);have:=Int.ofNat_lt.mp z;omega
 |z::r,pre,f,b12,b13,b14,b15,n,c17,c18,ht,ho,hb,hn=>by
  obtain⟨n,rfl⟩:∃m,n=m+1:=⟨n-1,by have:r.length+1+1≤n:=hn;omega⟩
  have hn:r.length+1≤n:=by have:r.length+1+1≤n+1:=hn;omega
  have ho1:=ab ho;have ho2:=ab (aa ho);have ho3:eV K.au r=true:=aa (aa ho);obtain⟨hz,hau⟩:=Ax ho1;have hlt:pre.length<t.length:=by rw[ht];simp only [a7,List.length_cons];omega
  have hat:t[pre.length]?=some z:=by rw[ht,List.getElem?_append_right (cz _),Nat.sub_self];rfl
  have e1:=ac (Lr K.W K.m K.e K.au h q s t f b12 b13 b14 b15 pre.length n c17 c18 KK) (wN hz (aI (Int.ofNat pre.length) 0) b12 b13);obtain⟨c1,c2,c3,c4⟩:=Cy z (aI (Int.ofNat pre.length) 0) b12 b13;rw[c1,c2,c3,c4,hau] at e1
  have h32:z=32→r≠[]:=λe z'=>by
   rw[e,z'] at ho2;exact aB ho2
  have e2:=ac (HE (eR K h q s) t (HD z (aI (Int.ofNat pre.length) 0) b12 b13 f) b12 b13 b14 b15 pre.length n ((t[pre.length+1+1]?).getD 0) (Cu z c18) KK) (wO hz (aI (Int.ofNat pre.length) 0) (aI (Int.ofNat pre.length) (Int.ofNat t.length-1)) (pJ (Int.ofNat t.length) (Int.ofNat (pre.length+1+1))) b15)
  have g2:=EP (z:=z) (b:=b15) (dn:=pJ (Int.ofNat t.length) (Int.ofNat (pre.length+1+1))) (sh:=eR K h q s) (y:=(t[pre.length+1+1]?).getD 0) (rfl:aI (Int.ofNat pre.length) 0=_) (rfl:aI (Int.ofNat pre.length) (Int.ofNat t.length-1)=_) (λe=>decide_eq_false λz'=>h32 e (xT (by
   have:t.length=pre.length+(r.length+1):=by rw[ht];simp only [a7,List.length_cons]
   have z':(pre.length:Int)=(t.length:Int)-1:=z';omega))) EO
  obtain⟨d1,d2,d3⟩:=Cz z (aI (Int.ofNat pre.length) 0) (aI (Int.ofNat pre.length) (Int.ofNat t.length-1)) (pJ (Int.ofNat t.length) (Int.ofNat (pre.length+1+1))) b15;generalize kW z (aI (Int.ofNat pre.length) 0) (aI (Int.ofNat pre.length) (Int.ofNat t.length-1)) (pJ (Int.ofNat t.length) (Int.ofNat (pre.length+1+1))) b15=x at e2 g2 d1 d2 d3;rw[d1,d2,d3] at e2;rw[d1,d2] at g2
  have hb14:(!BR.contains z&&b14)=b14:=by
   cases b14 with
   |true=>rw[show BR.contains z=false from hb rfl];rfl
   |false=>cases BR.contains z<;>rfl
  rw[hb14] at e2
  have:=tv (K:=K) (h:=h) (q:=q) (s:=s) (t:=t) hK r (pre++[z]) (Kg z x.2.1 x.2.2.1 b14 b15 (HD z (aI (Int.ofNat pre.length) 0) b12 b13 f)) (WSx.contains z) (bif pJ (Int.ofNat t.length) (Int.ofNat (pre.length+1+1)) then pJ (Int.ofNat t.length) (Int.ofNat (pre.length+1+1)) else WSx.contains ((t[pre.length+1+1]?).getD 0)) (Nat.beq z 32) (BR.contains z) n (.val (.str [z])) (Cu z c18) (by rw[ht];simp) ho3 (λe=>by
   rw[e] at ho2;cases r with
   |nil=>exact aB ho2
   |cons y r=>
    have ho2:(!BR.contains y)=true:=ho2;cases hy:BR.contains y with
    |true=>rw[hy] at ho2;exact aB ho2
    |false=>exact hy) hn
  rw[a7] at this;obtain⟨f',x12,x13,x14,x15,x17,x18,hf,H⟩:=this;refine⟨f',x12,x13,x14,x15,x17,x18,hf.trans ?_,λv sh G=>?_⟩
  ·show wM (r.any BR.contains) (wM (BR.contains z) f.b4)=wM (BR.contains z||r.any BR.contains) f.b4
   cases BR.contains z<;>cases r.any BR.contains<;>rfl
  ·refine aT (kT Cw hK _ _) e1 (an (bt (pG (Int.ofNat_lt.mpr hlt))) (an (bt (ib (ki (lB hlt) hat))) (an (fE rfl) rfl))) ?_
   refine aT (cH zd EN _ _ (wH Cw hK)) e2 g2 (H v sh G)
theorem zg(st:St):ae L1.T ni o0 st ai []=WL ni o0 (ba ni (aY o0) ai) 100000 st []:=by kernel_rfl
theorem zh(t:Tx)(sh:Sto)(ds:Ds):aR L1.T ni 37 [.loc .em,.str t] sh ds=ae L1.T ni (aO 17 HB o0) (Kf t sh) ai ds:=by kernel_rfl
theorem EQ(K:Ko)(h:Wh)(q:Qs)(s:RP){t:Tx}(ht:t≠[])(hl:t.length≤1000)(ho:eV K.au t=true):∃x,J 2 37 [.loc .em,.str t] (eR K h q s) (kj t (t.any BR.contains) x,eR K h q s):=by
 obtain⟨c,r,rfl⟩:∃c r,t=c::r:=by
  cases t with
  |nil=>exact absurd rfl ht
  |cons c r=>exact⟨c,r,rfl⟩
 suffices H:∃x ds,am (aR L1.T ni 37 [.loc .em,.str (c::r)] (eR K h q s) ds) (kj (c::r) ((c::r).any BR.contains) x) (eR K h q s) by
  obtain⟨x,ds,H⟩:=H;exact⟨x,gb (n:=0) (is:=uV) (a:=uW) (O:=kS) (k:=1) (r:=(_,_)) H⟩
 suffices H:∃x,am (WL ni o0 (ba ni (aY o0) ai) 100000 (kU (eR K h q s) (c::r) ⟨prefX [45,45,45] (c::r)||prefX [46,46,46] (c::r),prefX [45,45,45] (c::r)||prefX [46,46,46] (c::r),false,false,false,false,false⟩ true (bif aI (Int.ofNat (c::r).length) 1 then aI (Int.ofNat (c::r).length) 1 else WSx.contains (((c::r)[1]?).getD 0)) false false 0 .unset .unset) []) (kj (c::r) ((c::r).any BR.contains) x) (eR K h q s) by
  obtain⟨x,H⟩:=H;refine⟨x,Ki (prefX [45,45,45] (c::r)) (prefX [46,46,46] (c::r)) (aI (Int.ofNat (c::r).length) 1) (((c::r)[1]?).getD 0),?_⟩;refine bS (zh _ _ _) ?_;refine aK (ac (ac (ac (Lu (eR K h q s) c r (((c::r)[1]?).getD 0) o0 ai) (ah (prefX [45,45,45] (c::r)))) (ah (prefX [46,46,46] (c::r)))) (ah (aI (Int.ofNat (c::r).length) 1))) ?_ (bS (zg _) H)
  have h1:(bif aI (Int.ofNat (c::r).length) 1 then true else (iI (fx (eR K h q s) (.str (c::r)) (.int 1)) (((c::r)[1]?).getD 0)==true)&&true)=true:=by
   cases e:aI (Int.ofNat (c::r).length) 1 with
   |true=>rfl
   |false=>
    have hl2:1<(c::r).length:=by
     have:¬(Int.ofNat (c::r).length=1):=of_decide_eq_false e;cases r with
     |nil=>exact absurd rfl this
     |cons _ _=>exact Nat.succ_le_succ (Nat.succ_le_succ (iw _))
    have e2:(c::r)[1]?=some (((c::r)[1]?).getD 0):=by rw[List.getElem?_eq_getElem hl2];rfl
    rw[ib (ki (i:=1) (lB (k:=1) hl2) e2)];rfl
  unfold gP;rw[h1];cases prefX [45,45,45] (c::r)<;>cases prefX [46,46,46] (c::r)<;>cases aI (Int.ofNat (c::r).length) 1<;>rfl
 obtain⟨f',b12,b13,b14,b15,c17,c18,hf,H⟩:=tv (K:=K) (h:=h) (q:=q) (s:=s) (t:=c::r) (KK:=ba ni (aY o0) ai) (dj HF di) (c::r) [] ⟨prefX [45,45,45] (c::r)||prefX [46,46,46] (c::r),prefX [45,45,45] (c::r)||prefX [46,46,46] (c::r),false,false,false,false,false⟩ true (bif aI (Int.ofNat (c::r).length) 1 then aI (Int.ofNat (c::r).length) 1 else WSx.contains (((c::r)[1]?).getD 0)) false false 100000 .unset .unset rfl ho (λe=>aB e) (by omega)
 have hf:f'.b4=(c::r).any BR.contains:=by
  rw[hf];cases (c::r).any BR.contains<;>rfl
 exact⟨xF f',H _ _ (hf▸EM)⟩
noncomputable abbrev An:=List (Nat×(MV×Sto))
noncomputable def Lx(l:An)(f:Nat):Bool:=Nat.beq f 41||(Nat.beq f 42||(Nat.beq f 43||l.any λp=>Nat.beq p.1 f))
noncomputable def aX(l:An)(f:Nat)(as:List MV)(sh:Sto):MV×Sto:=bif Nat.beq f 41 then DG as sh else bif Nat.beq f 42 then Ar as sh else bif Nat.beq f 43 then Ap as sh else (vf l f).getD (.none,sh)
noncomputable def PX(n:Nat)(l:An)(k:Nat):Psi:=wB n (Lx l) (aX l) kS k
theorem JX{n:Nat}{l:An}{k f:Nat}{as:List MV}{sh:Sto}{ds:Ds}{v:MV}{sh':Sto}(h:am (aR L1.T (PX n l k) f as sh ds) v sh'):J (n+2*k) f as sh (v,sh'):=gb (r:=(v,sh')) h
theorem kX{n:Nat}{l:An}{k f:Nat}{as:List MV}{sh:Sto}{ds:Ds}{g:Bool}{r:MV×Sto}(h:aN (aR L1.T (PX n l k) f as sh ds)=some (g,r))(hg:g=true):J (n+2*k) f as sh r:=gW h hg
section
variable {K:Ko}{h:Wh}{q:Qs}{s:RP}{Ψ:Psi}{vars:List Cell}{k:MV→St→Ds→R}{ds:Ds}
theorem zi:dQ L1.T Ψ (.mc (.at (.v 0) 78) 1 .nil .nil) ⟨eR K h q s,.val (.loc .em)::vars⟩ k ds=dT true (cc (rh (t8 (eR K h q s) (.loc .indents) [])) λp=>dT p.1 (k p.2.1 ⟨p.2.2,.val (.loc .em)::vars⟩)) ds:=by kernel_rfl
theorem zj:dQ L1.T Ψ (.mc (.at (.v 0) 76) 1 .nil .nil) ⟨eR K h q s,.val (.loc .em)::vars⟩ k ds=dT true (cc (rh (t8 (eR K h q s) (.loc .states) [])) λp=>dT p.1 (k p.2.1 ⟨p.2.2,.val (.loc .em)::vars⟩)) ds:=by kernel_rfl
end
theorem dC{α:Type}{l:List α}{a:α}:(l++[a]).getLast?=some a:=by simp
theorem iS{α:Type}{l:List α}{a:α}:(l++[a]).dropLast=l:=by simp
theorem Ay{α β:Type}{l:List α}{a:α}{f:List α→α→Option β}:((l++[a]).getLast?.bind λv=>f (l++[a]).dropLast v)=f l a:=by rw[dC,iS];rfl
section
variable {K:Ko}{h:Wh}{s:RP}{Ψ:Psi}{vars:List Cell}{ds:Ds}{ss es is rs:List MV}{tp:Option (List MV)}{v:MV}{f:Nat}{rest:MSs}{KK:Option MV→St→Ds→R}{w:MV}{sh:Sto}
theorem ER:t8 (eR K h ⟨ss,es,is++[v],rs,tp⟩ s) (.loc .indents) []=some (v,eR K h ⟨ss,es,is,rs,tp⟩ s):=Ay (f:=λl v=>(bP (eR K h ⟨ss,es,is++[v],rs,tp⟩ s) l .indents).map λsh'=>(v,sh'))
theorem ES:t8 (eR K h ⟨ss++[v],es,is,rs,tp⟩ s) (.loc .states) []=some (v,eR K h ⟨ss,es,is,rs,tp⟩ s):=Ay (f:=λl w=>(bP (eR K h ⟨ss++[v],es,is,rs,tp⟩ s) l .states).map λsh'=>(w,sh'))
noncomputable def pI(r:MSs):MSs:=.cons (.asg [.at (.v 0) 33] (.mc (.at (.v 0) 78) 1 .nil .nil)) r
noncomputable def pS(r:MSs):MSs:=.cons (.asg [.at (.v 0) 61] (.mc (.at (.v 0) 76) 1 .nil .nil)) r
theorem ET{st:St}:ae L1.T Ψ (pI rest) st KK ds=dQ L1.T Ψ (.mc (.at (.v 0) 78) 1 .nil .nil) st (λv st=>dD L1.T Ψ v (.at (.v 0) 33) st λst=>pO none KK (λst=>ae L1.T Ψ rest st KK) st) ds:=by kernel_rfl
theorem EU{st:St}:ae L1.T Ψ (pS rest) st KK ds=dQ L1.T Ψ (.mc (.at (.v 0) 76) 1 .nil .nil) st (λv st=>dD L1.T Ψ v (.at (.v 0) 61) st λst=>pO none KK (λst=>ae L1.T Ψ rest st KK) st) ds:=by kernel_rfl
theorem ic(H:am (ae L1.T Ψ rest ⟨eR K {h with ind:=v} ⟨ss,es,is,rs,tp⟩ s,.val (.loc .em)::vars⟩ KK ds) w sh):am (ae L1.T Ψ (pI rest) ⟨eR K h ⟨ss,es,is++[v],rs,tp⟩ s,.val (.loc .em)::vars⟩ KK ds) w sh:=by
 rw[ET,zi,ER];exact⟨rfl,rfl,H⟩
theorem ie(H:am (ae L1.T Ψ rest ⟨eR K {h with st:=f} ⟨ss,es,is,rs,tp⟩ s,.val (.loc .em)::vars⟩ KK ds) w sh):am (ae L1.T Ψ (pS rest) ⟨eR K h ⟨ss++[.meth f .em],es,is,rs,tp⟩ s,.val (.loc .em)::vars⟩ KK ds) w sh:=by
 rw[EU,zj,ES];exact⟨rfl,rfl,H⟩
end
noncomputable def CA:MSs:=L1.b_Emitter_expect_scalar
theorem wP:ag CA 2=pI (pS .nil):=by kernel_rfl
theorem tw(sh:Sto)(Ψ:Psi)(ds:Ds):aR L1.T Ψ 20 [.loc .em] sh ds=ae L1.T Ψ (aO 2 CA (ag CA 2)) ⟨sh,[.val (.loc .em)]⟩ ai ds:=by kernel_rfl
noncomputable def jM(K:Ko)(v:MV):MV:=.int (bif isNone v then Int.ofNat K.m else iV v+Int.ofNat K.m)
noncomputable def kY(h:Wh)(q:Qs):Qs:={q with is:=q.is++[h.ind]}
noncomputable def vI(i:Int):List MV:=[.none,.int i]
noncomputable def tt(b:Bool):Bool:=(b==true)&&true
theorem bB{b:Bool}(h:b=true):tt b=true:=by rw[h];rfl
noncomputable def pE(h:Wh)(v an sy:MV):Wh:={h with an:=an,sy:=sy,ind:=v}
theorem HG(K:Ko)(h:Wh)(q:Qs)(s s2:RP)(t:Tx)(b:Bool)(x:Bool×(Bool×Bool))(i:Int)(rest:MSs):(vI i).map (λv=>ax 4 (ae L1.T (PX 10 [(45,(.none,eR K (pE h (jM K v) (kj t b x) (.str [124])) (kY {h with ind:=v} q) s2))] 2) (aO 2 CA rest) ⟨eR K (pE h v (kj t b x) (.str [124])) q s,[.val (.loc .em)]⟩ ai [])) =
 mp (λv=>((tt (aS (q.is.length+1) ak)==true)&&tt (tt (jd 10 45 [.loc .em,.str t] (eR K (pE h (jM K v) (kj t b x) (.str [124])) (kY {h with ind:=v} q) s) (.none,eR K (pE h (jM K v) (kj t b x) (.str [124])) (kY {h with ind:=v} q) s2))),
  ae L1.T (PX 10 [(45,(.none,eR K (pE h (jM K v) (kj t b x) (.str [124])) (kY {h with ind:=v} q) s2))] 2) rest ⟨eR K (pE h (jM K v) .none .none) (kY {h with ind:=v} q) s2,[.val (.loc .em)]⟩ ai [])) (vI i):=by kernel_rfl
theorem HH(K:Ko)(h:Wh)(q:Qs)(s s2:RP)(w:Tx)(i:Int)(rest:MSs):(vI i).map (λv=>ax 4 (ae L1.T (PX 10 [(46,(.none,eR K (pE h (jM K v) (nh w) (.str [])) (kY {h with ind:=v} q) s2))] 2) (aO 2 CA rest) ⟨eR K (pE h v (nh w) (.str [])) q s,[.val (.loc .em)]⟩ ai [])) =
 mp (λv=>((tt (aS (q.is.length+1) ak)==true)&&tt (tt (jd 10 46 [.loc .em,.str w,.bool (!h.sk)] (eR K (pE h (jM K v) (nh w) (.str [])) (kY {h with ind:=v} q) s) (.none,eR K (pE h (jM K v) (nh w) (.str [])) (kY {h with ind:=v} q) s2))),
  ae L1.T (PX 10 [(46,(.none,eR K (pE h (jM K v) (nh w) (.str [])) (kY {h with ind:=v} q) s2))] 2) rest ⟨eR K (pE h (jM K v) .none .none) (kY {h with ind:=v} q) s2,[.val (.loc .em)]⟩ ai [])) (vI i):=by kernel_rfl
section
variable (K:Ko)(h:Wh){ss es is rs:List MV}{tp:Option (List MV)}(s:RP){v:MV}{i:Int}{f:Nat}(hv:v∈vI i)(hs:is.length≤1000)
include hv hs
theorem HJ{t:Tx}{b:Bool}{x:Bool×(Bool×Bool)}(hm:K.m∈mL)(ht:t≠[])(hl:t.length≤1000)(h0:0≤iV (jM K v))(h1:iV (jM K v)≤1000) :
  J 14 20 [.loc .em] (eR K (pE h v (kj t b x) (.str [124])) ⟨ss++[.meth f .em],es,is,rs,tp⟩ s) (.none,eR K {pE h v .none .none with st:=f} ⟨ss,es,is,rs,tp⟩ (pLit K (iV (jM K v)) t s)):=by
 have j:=Lm K (pE h (jM K v) (kj t b x) (.str [124])) (kY {h with ind:=v} ⟨ss++[.meth f .em],es,is,rs,tp⟩) s hm ht hl (ind:=iV (jM K v)) rfl h0 h1
 generalize pLit K (iV (jM K v)) t s=s2 at j;have e:=ac (HG K h ⟨ss++[.meth f .em],es,is,rs,tp⟩ s s2 t b x i (ag CA 2)) hv;refine JX (n:=10) (k:=2) (ds:=[]) (bS (tw _ _ _) (aK e ?_ ?_))
 ·exact an (bt (bB (ao (by unfold ak;show is.length+1≤_;omega)))) (bB (bB (aP j)))
 ·rw[wP]
  exact ic (ie ⟨rfl,rfl⟩)
theorem HL{w:Tx}(hw:w∈wdL)(hr:h.rt=false) :
  J 14 20 [.loc .em] (eR K (pE h v (nh w) (.str [])) ⟨ss++[.meth f .em],es,is,rs,tp⟩ s) (.none,eR K {pE h v .none .none with st:=f} ⟨ss,es,is,rs,tp⟩ (pWd w s)):=by
 have j:=(Lo K (pE h (jM K v) (nh w) (.str [])) (kY {h with ind:=v} ⟨ss++[.meth f .em],es,is,rs,tp⟩) s (!h.sk) hr hw).mono (by decide:4≤10)
 generalize pWd w s=s2 at j;have e:=ac (HH K h ⟨ss++[.meth f .em],es,is,rs,tp⟩ s s2 w i (ag CA 2)) hv;refine JX (n:=10) (k:=2) (ds:=[]) (bS (tw _ _ _) (aK e ?_ ?_))
 ·exact an (bt (bB (ao (by unfold ak;show is.length+1≤_;omega)))) (bB (bB (aP j)))
 ·rw[wP]
  exact ic (ie ⟨rfl,rfl⟩)
end
noncomputable def cq(t:Tx):MV:=.inst 10 [.none,.none,.tup [.bool true,.bool true],.str t,.none,.none,.str [124]]
noncomputable def jC(w:Tx):MV:=.inst 10 [.none,.none,.tup [.bool true,.bool true],.str w,.none,.none,.none]
noncomputable def qB:MV:=.inst 11 [.none,.none,.bool true,.none,.none,.bool false]
noncomputable def qC:MV:=.inst 13 [.none,.none,.bool true,.none,.none,.bool false]
noncomputable def jD:MV:=.inst 12 [.none,.none]
noncomputable def jE:MV:=.inst 14 [.none,.none]
noncomputable def kZ(h:Wh)(rt sc mc sk:Bool):Wh:={h with rt:=rt,sc:=sc,mc:=mc,sk:=sk}
noncomputable def dF(h:Wh)(e a y:MV):Wh:={h with ev:=e,an:=a,sy:=y}
noncomputable def HM(K:Ko)(h:Wh)(q:Qs)(s:RP)(t:Tx)(b:Bool)(x:Bool×(Bool×Bool))(rt sc mc:Bool)(sh2:Sto):An:=[(37,(kj t b x,eR K (dF (kZ h rt sc mc false) (cq t) .none .none) q s)),(20,(.none,sh2))]
noncomputable def HN(K:Ko)(h:Wh)(q:Qs)(s:RP)(t:Tx)(b:Bool)(x:Bool×(Bool×Bool))(rt sc mc:Bool)(sh2:Sto)(a:MV):Bool:=
 bif isNone a then (tt (tt (jd 14 37 [.loc .em,.str t] (eR K (dF (kZ h rt sc mc false) (cq t) .none .none) q s) (kj t b x,eR K (dF (kZ h rt sc mc false) (cq t) .none .none) q s)))==true)&&tt (jd 14 20 [.loc .em] (eR K (dF (kZ h rt sc mc false) (cq t) (kj t b x) (.str [124])) q s) (.none,sh2))
 else tt (jd 14 20 [.loc .em] (eR K (dF (kZ h rt sc mc false) (cq t) (kj t b x) (.str [124])) q s) (.none,sh2))
theorem HO(K:Ko)(h:Wh)(q:Qs)(s:RP)(t:Tx)(b:Bool)(x:Bool×(Bool×Bool))(rt sc mc:Bool)(sh2:Sto):[MV.none,kj t b x].map (λa=>aN (aR L1.T (PX 14 (HM K h q s t b x rt sc mc sh2) 3) 19 [.loc .em,.bool rt,.bool sc,.bool mc,.bool false] (eR K (dF h (cq t) a .none) q s) [])) =
 mp (λa=>some (HN K h q s t b x rt sc mc sh2 a,(.none,sh2))) [MV.none,kj t b x]:=by kernel_rfl
noncomputable def HP(K:Ko)(h:Wh)(q:Qs)(s:RP)(w:Tx)(rt sc mc sk:Bool)(sh2:Sto):An:=[(37,(nh w,eR K (dF (kZ h rt sc mc sk) (jC w) .none .none) q s)),(20,(.none,sh2))]
noncomputable def HQ(K:Ko)(h:Wh)(q:Qs)(s:RP)(w:Tx)(rt sc mc sk:Bool)(sh2:Sto)(a:MV):Bool:=
 bif isNone a then (tt (tt (jd 14 37 [.loc .em,.str w] (eR K (dF (kZ h rt sc mc sk) (jC w) .none .none) q s) (nh w,eR K (dF (kZ h rt sc mc sk) (jC w) .none .none) q s)))==true)&&tt (jd 14 20 [.loc .em] (eR K (dF (kZ h rt sc mc sk) (jC w) (nh w) (.str [])) q s) (.none,sh2))
 else tt (jd 14 20 [.loc .em] (eR K (dF (kZ h rt sc mc sk) (jC w) (nh w) (.str [])) q s) (.none,sh2))
theorem HR(K:Ko)(h:Wh)(q:Qs)(s:RP)(w:Tx)(rt sc mc:Bool)(sh2:Sto):bb.map (λsk=>[MV.none,nh w].map (λa=>aN (aR L1.T (PX 14 (HP K h q s w rt sc mc sk sh2) 3) 19 [.loc .em,.bool rt,.bool sc,.bool mc,.bool sk] (eR K (dF h (jC w) a .none) q s) []))) =
 mp (λsk=>mp (λa=>some (HQ K h q s w rt sc mc sk sh2 a,(.none,sh2))) [MV.none,nh w]) bb:=by kernel_rfl
noncomputable def nod:List Nat:=[10,11,13]
noncomputable def mG(K:Ko)(v:MV)(mc idn:Bool):MV:=bif isNone v then .int 0 else bif mc&& !idn then v else jM K v
theorem HS(K:Ko)(h:Wh)(ss r is rs:List MV)(tp:Option (List MV))(rs':List MV)(L c:Int)(ws oe:Bool)(rt sc sk:Bool)(a y:MV)(fs:List MV)(i:Int):nod.map (λn=>bb.map λmc=>bb.map λidn=>(vI i).map (λv=>aN (aR L1.T (PX 14 [] 3) 19 [.loc .em,.bool rt,.bool sc,.bool mc,.bool sk] (eR K (dF {h with ind:=v} qB a y) ⟨ss,.inst n fs::r,is,rs,tp⟩ (rs',⟨L,c,ws,idn,oe⟩)) []))) =
 mp (λn=>mp (λmc=>mp (λidn=>mp (λv=>some (tt (tt (tt (aS (is.length+1) ak))),(.none,eR K {dF (kZ h rt sc mc sk) qB a y with ind:=mG K v mc idn,st:=22} ⟨ss,.inst n fs::r,is++[v],rs,tp⟩ (rs',⟨L,c,ws,idn,oe⟩)))) (vI i)) bb) bb) nod:=by kernel_rfl
noncomputable def mH(K:Ko)(v:MV):MV:=bif isNone v then .int 0 else jM K v
theorem HT(K:Ko)(h:Wh)(ss r is rs:List MV)(tp:Option (List MV))(s:RP)(rt sc mc sk:Bool)(a y:MV)(fs:List MV)(i:Int):nod.map (λn=>(vI i).map (λv=>aN (aR L1.T (PX 14 [] 3) 19 [.loc .em,.bool rt,.bool sc,.bool mc,.bool sk] (eR K (dF {h with ind:=v} qC a y) ⟨ss,.inst n fs::r,is,rs,tp⟩ s) []))) =
 mp (λn=>mp (λv=>some (tt (tt (tt (aS (is.length+1) ak))),(.none,eR K {dF (kZ h rt sc mc sk) qC a y with ind:=mH K v,st:=25} ⟨ss,.inst n fs::r,is++[v],rs,tp⟩ s))) (vI i)) nod:=by kernel_rfl
theorem Az{m:Nat}(h:m∈mL):2≤m∧m≤9:=by
 have:∀m∈mL,2≤m∧m≤9:=by decide
 exact this m h
theorem mJ{i:Int}{v:MV}(h:v∈vI i):v= .none∨v= .int i:=by
 rcases qkz.mp h with h | h
 ·exact .inl h
 ·exact .inr (qfz.mp h)
theorem EV{K:Ko}{i:Int}{v:MV}(hv:v∈vI i)(h0:0≤i)(h1:i≤500)(hm:K.m∈mL):0≤iV (jM K v)∧iV (jM K v)≤1000:=by
 have:=Az hm;rcases mJ hv with rfl | rfl
 ·show 0≤Int.ofNat K.m∧Int.ofNat K.m≤1000
  have:(Int.ofNat K.m:Int)=(K.m:Int):=rfl;omega
 ·show 0≤i+Int.ofNat K.m∧i+Int.ofNat K.m≤1000
  have:(Int.ofNat K.m:Int)=(K.m:Int):=rfl;omega
section
variable (K:Ko)(h:Wh){ss es is rs:List MV}{tp:Option (List MV)}(s:RP){i:Int}{f:Nat}(rt sc mc sk:Bool)(hv:h.ind∈vI i)(hs:is.length≤1000)
include hv hs
theorem HU{t:Tx}{a:MV}(ha:a= .none∨ ∃x,a=kj t (t.any BR.contains) x)(hm:K.m∈mL)(ht:t≠[])(hl:t.length≤1000)(ho:eV K.au t=true)(h0:0≤i)(h1:i≤500) :
  J 20 19 [.loc .em,.bool rt,.bool sc,.bool mc,.bool false] (eR K (dF h (cq t) a .none) ⟨ss++[.meth f .em],es,is,rs,tp⟩ s)
   (.none,eR K {dF (kZ h rt sc mc false) (cq t) .none .none with st:=f} ⟨ss,es,is,rs,tp⟩ (pLit K (iV (jM K h.ind)) t s)):=by
 obtain⟨u0,u1⟩:=EV hv h0 h1 hm
 have key:∀x a,a∈[MV.none,kj t (t.any BR.contains) x]→J 2 37 [.loc .em,.str t] (eR K (dF (kZ h rt sc mc false) (cq t) .none .none) ⟨ss++[.meth f .em],es,is,rs,tp⟩ s) (kj t (t.any BR.contains) x,eR K (dF (kZ h rt sc mc false) (cq t) .none .none) ⟨ss++[.meth f .em],es,is,rs,tp⟩ s)∨a≠ .none→J 20 19 [.loc .em,.bool rt,.bool sc,.bool mc,.bool false] (eR K (dF h (cq t) a .none) ⟨ss++[.meth f .em],es,is,rs,tp⟩ s)
   (.none,eR K {dF (kZ h rt sc mc false) (cq t) .none .none with st:=f} ⟨ss,es,is,rs,tp⟩ (pLit K (iV (jM K h.ind)) t s)):=λx a ha j37=>by
  have j20:=HJ K (dF (kZ h rt sc mc false) (cq t) .none .none) (ss:=ss) (es:=es) (is:=is) (rs:=rs) (tp:=tp) s (v:=h.ind) (f:=f) hv hs (t:=t) (b:=t.any BR.contains) (x:=x) hm ht hl u0 u1;have e:=ac (HO K h ⟨ss++[.meth f .em],es,is,rs,tp⟩ s t (t.any BR.contains) x rt sc mc (eR K {dF (kZ h rt sc mc false) (cq t) .none .none with st:=f} ⟨ss,es,is,rs,tp⟩ (pLit K (iV (jM K h.ind)) t s))) ha
  refine kX (n:=14) (k:=3) e ?_;have g20:=bB (aP j20);rcases qkz.mp ha with rfl | ha
  ·rcases j37 with j37 | j37
   ·exact an (bt (bB (bB (aP (j37.mono (by decide)))))) g20
   ·exact absurd rfl j37
  ·obtain rfl:=qfz.mp ha
   exact g20
 rcases ha with rfl | ⟨x,rfl⟩
 ·obtain⟨x,j⟩:=EQ K (dF (kZ h rt sc mc false) (cq t) .none .none) ⟨ss++[.meth f .em],es,is,rs,tp⟩ s ht hl ho
  exact key x _ (.head _) (.inl j)
 ·exact key x _ (.tail _ (.head _)) (.inr λe=>MV.noConfusion e)
theorem HV{w:Tx}{a:MV}(ha:a= .none∨a=nh w)(hw:w∈wdL) :
  J 20 19 [.loc .em,.bool false,.bool sc,.bool mc,.bool sk] (eR K (dF h (jC w) a .none) ⟨ss++[.meth f .em],es,is,rs,tp⟩ s)
   (.none,eR K {dF (kZ h false sc mc sk) (jC w) .none .none with st:=f} ⟨ss,es,is,rs,tp⟩ (pWd w s)):=by
 have j20:=HL K (dF (kZ h false sc mc sk) (jC w) .none .none) (ss:=ss) (es:=es) (is:=is) (rs:=rs) (tp:=tp) s (v:=h.ind) (f:=f) hv hs hw rfl;have j37:=EH K (dF (kZ h false sc mc sk) (jC w) .none .none) ⟨ss++[.meth f .em],es,is,rs,tp⟩ s hw;have e:=ac (ac (HR K h ⟨ss++[.meth f .em],es,is,rs,tp⟩ s w false sc mc (eR K {dF (kZ h false sc mc sk) (jC w) .none .none with st:=f} ⟨ss,es,is,rs,tp⟩ (pWd w s))) (ah sk)) (a:=a) (by rcases ha with rfl | rfl;exact .head _;exact .tail _ (.head _))
 refine kX (n:=14) (k:=3) e ?_;have g20:=bB (aP j20);rcases ha with rfl | rfl
 ·exact an (bt (bB (bB (aP (j37.mono (by decide)))))) g20
 ·exact g20
theorem HW{r:List MV}{n:Nat}{fs:List MV}(hn:n∈nod)(a y:MV) :
  J 20 19 [.loc .em,.bool rt,.bool sc,.bool mc,.bool sk] (eR K (dF h qB a y) ⟨ss,.inst n fs::r,is,rs,tp⟩ s)
   (.none,eR K {dF (kZ h rt sc mc sk) qB a y with ind:=mG K h.ind mc s.2.idn,st:=22} ⟨ss,.inst n fs::r,is++[h.ind],rs,tp⟩ s):=by
 have e:=ac (ac (ac (ac (HS K h ss r is rs tp s.1 s.2.L s.2.c s.2.ws s.2.oe rt sc sk a y fs i) hn) (ah mc)) (ah s.2.idn)) hv;exact kX (n:=14) (k:=3) e (bB (bB (bB (ao (by unfold ak;omega)))))
theorem HX{r:List MV}{n:Nat}{fs:List MV}(hn:n∈nod)(a y:MV) :
  J 20 19 [.loc .em,.bool rt,.bool sc,.bool mc,.bool sk] (eR K (dF h qC a y) ⟨ss,.inst n fs::r,is,rs,tp⟩ s)
   (.none,eR K {dF (kZ h rt sc mc sk) qC a y with ind:=mH K h.ind,st:=25} ⟨ss,.inst n fs::r,is++[h.ind],rs,tp⟩ s):=by
 have e:=ac (ac (HT K h ss r is rs tp s rt sc mc sk a y fs i) hn) hv;exact kX (n:=14) (k:=3) e (bB (bB (bB (ao (by unfold ak;omega)))))
end
noncomputable def gm:MV:=.inst 5 [.none,.none,.none]
noncomputable def km(o:Bool):MV:=.inst 7 [.none,.none,.bool o,.none,.none]
noncomputable def gY(o:Bool):MV:=.inst 8 [.none,.none,.bool o]
noncomputable def ee:MV:=.inst 6 [.none,.none]
noncomputable def EW:MV:=.sd [([33],[33]),([116,97,103,58,121,97,109,108,46,111,114,103,44,50,48,48,50,58],[33,33])]
noncomputable def jN(h:Wh)(e:MV):Wh:={h with ev:=e}
noncomputable def cI(K:Ko)(h:Wh)(q:Qs)(s s':RP):Bool:=jd 20 42 [.loc .em] (eR K h q s) (.none,eR K h q s')
noncomputable def cW(K:Ko)(h:Wh)(q:Qs)(x:Tx)(n d:Bool)(s:RP):Bool:=jd 20 41 [.loc .em,.str x,.bool n,.bool false,.bool d] (eR K h q s) (.none,eR K h q (pWi x n false d s))
noncomputable def nI(K:Ko)(h:Wh)(s:RP):RP:=pIn K.e (iV h.ind) s
noncomputable def CB(K:Ko)(h:Wh)(q:Qs)(s:RP)(f:Nat)(rt sc mc sk:Bool)(sh2:Sto):Bool:=(aS (q.ss.length+1) ak==true)&&((jd 20 19 [.loc .em,.bool rt,.bool sc,.bool mc,.bool sk] (eR K h {q with ss:=q.ss++[.meth f .em]} s) (.none,sh2)==true)&&true)
section
variable (K:Ko)(h:Wh)(q:Qs)(s:RP)(fs:List MV)(a:MV)(sh2:Sto)
theorem Ly:aN (aR L1.T (PX 20 [] 2) 13 [.loc .em] (eR K (jN h gm) q s) [])=some (true,(.none,eR K {jN h gm with st:=15} q s)):=by kernel_rfl
theorem Lz:aN (aR L1.T (PX 20 [(19,(.none,sh2))] 1) 18 [.loc .em] (eR K h q s) [])=some (CB K h q s 17 true false false false sh2,(.none,sh2)):=by kernel_rfl
theorem LA:nod.map (λn=>bb.map λfirst=>aN (aR L1.T (PX 20 [(19,(.none,sh2))] 1) 23 [.loc .em,.bool first] (eR K (jN h (.inst n fs)) q s) [])) =
 mp (λn=>mp (λfirst=>some ((cI K (jN h (.inst n fs)) q s (nI K h s)==true)&&((cW K (jN h (.inst n fs)) q [45] true true (nI K h s)==true)&&CB K (jN h (.inst n fs)) q (pWi [45] true false true (nI K h s)) 23 false true false false sh2),(.none,sh2))) bb) nod:=by kernel_rfl
theorem LB:aN (aR L1.T (PX 22 [(23,(.none,sh2))] 1) 22 [.loc .em] (eR K h q s) [])=some (tt (jd 22 23 [.loc .em,.bool true] (eR K h q s) (.none,sh2)),(.none,sh2)):=by kernel_rfl
theorem LC:aN (aR L1.T (PX 22 [(26,(.none,sh2))] 1) 25 [.loc .em] (eR K h q s) [])=some (tt (jd 22 26 [.loc .em,.bool true] (eR K h q s) (.none,sh2)),(.none,sh2)):=by kernel_rfl
noncomputable def EX(h:Wh)(a:MV):Wh:={h with an:=a}
noncomputable def LD(K:Ko)(h:Wh)(q:Qs)(s:RP)(a:MV)(sm:Bool)(sh2:Sto):Bool:=(cI K h q s (nI K h s)==true)&&((jd 20 32 [.loc .em] (eR K h q (nI K h s)) (.bool sm,eR K (EX h a) q (nI K h s))==true) &&
 bif sm then CB K (EX h a) q (nI K h s) 27 false false true true sh2 else (cW K (EX h a) q [63] true true (nI K h s)==true)&&CB K (EX h a) q (pWi [63] true false true (nI K h s)) 28 false false true false sh2)
theorem LE:nod.map (λn=>bb.map λfirst=>bb.map λsm=>aN (aR L1.T (PX 20 [(32,(.bool sm,eR K (EX (jN h (.inst n fs)) a) q (nI K h s))),(19,(.none,sh2))] 1) 26 [.loc .em,.bool first] (eR K (jN h (.inst n fs)) q s) [])) =
 mp (λn=>mp (λfirst=>mp (λsm=>some (LD K (jN h (.inst n fs)) q s a sm sh2,(.none,sh2))) bb) bb) nod:=by kernel_rfl
theorem LF:aN (aR L1.T (PX 20 [(19,(.none,sh2))] 1) 27 [.loc .em] (eR K h q s) [])=some ((cW K h q [58] false false s==true)&&CB K h q (pWi [58] false false false s) 26 false false true false sh2,(.none,sh2)):=by kernel_rfl
theorem LH:aN (aR L1.T (PX 20 [(19,(.none,sh2))] 1) 28 [.loc .em] (eR K h q s) [])=some ((cI K h q s (nI K h s)==true)&&((cW K h q [58] true true (nI K h s)==true)&&CB K h q (pWi [58] true false true (nI K h s)) 26 false false true false sh2),(.none,sh2)):=by kernel_rfl
theorem LI:bb.map (λcl=>aN (aR L1.T (PX 20 [] 1) 17 [.loc .em] (eR K (jN h (gY cl)) q s) [])) =
 mp (λcl=>some ((cI K (jN h (gY cl)) q s (nI K h s)==true)&&bif cl then (cW K (jN h (gY cl)) q [46,46,46] true false (nI K h s)==true)&&((cI K (jN h (gY cl)) q (pWi [46,46,46] true false false (nI K h s)) (nI K h (pWi [46,46,46] true false false (nI K h s)))==true)&&true) else true,
  (.none,eR K {jN h (gY cl) with st:=16} q (bif cl then nI K h (pWi [46,46,46] true false false (nI K h s)) else nI K h s)))) bb:=by kernel_rfl
theorem LJ(rs':List MV)(L c:Int)(ws idn:Bool):bb.map (λoe=>aN (aR L1.T (PX 20 [] 2) 16 [.loc .em,.bool false] (eR K (jN h ee) q (rs',⟨L,c,ws,idn,oe⟩)) [])) =
 mp (λoe=>some (bif oe then (cW K (jN h ee) q [46,46,46] true false (rs',⟨L,c,ws,idn,oe⟩)==true)&&((cI K (jN h ee) q (pWi [46,46,46] true false false (rs',⟨L,c,ws,idn,oe⟩)) (nI K h (pWi [46,46,46] true false false (rs',⟨L,c,ws,idn,oe⟩)))==true)&&true) else true,
  (.none,eR K {jN h ee with st:=14} q (bif oe then nI K h (pWi [46,46,46] true false false (rs',⟨L,c,ws,idn,oe⟩)) else (rs',⟨L,c,ws,idn,oe⟩))))) bb:=by kernel_rfl
noncomputable def HY(h:Wh)(o:Bool):Wh:={jN h (km o) with tp:=EW}
theorem LK(c:Nat)(t:Tx)(r:List MV):[cq (c::t),.inst 11 fs,.inst 13 fs].map (λe=>bb.map λo=>aN (aR L1.T (PX 20 [] 3) 15 [.loc .em] (eR K (jN h (km o)) {q with es:=e::r} s) [])) =
 mp (λe=>mp (λo=>some (bif o then tt ((cI K (HY h o) {q with es:=e::r} s (nI K h s)==true)&&((cW K (HY h o) {q with es:=e::r} [45,45,45] true false (nI K h s)==true)&&true)) else true,
  (.none,eR K {HY h o with st:=18} {q with es:=e::r} (bif o then pWi [45,45,45] true false false (nI K h s) else s)))) bb) [cq (c::t),.inst 11 fs,.inst 13 fs]:=by kernel_rfl
end
theorem HZ(K:Ko)(h:Wh)(q:Qs)(s:RP):wdL.map (λw=>aN (aR L1.T (PX 10 [(37,(nh w,eR K (dF h (jC w) .none .none) q s))] 1) 32 [.loc .em] (eR K (dF h (jC w) .none .none) q s) [])) =
 mp (λw=>some (tt (jd 10 37 [.loc .em,.str w] (eR K (dF h (jC w) .none .none) q s) (nh w,eR K (dF h (jC w) .none .none) q s)),(.bool true,eR K (dF h (jC w) (nh w) .none) q s))) wdL:=by kernel_rfl
theorem H0(K:Ko)(h:Wh)(q:Qs)(s:RP)(t:Tx)(x:Bool×(Bool×Bool)):aN (aR L1.T (PX 10 [(37,(kj t true x,eR K (dF h (cq t) .none .none) q s))] 2) 32 [.loc .em] (eR K (dF h (cq t) .none .none) q s) [(8,true)]) =
 some ((jd 10 37 [.loc .em,.str t] (eR K (dF h (cq t) .none .none) q s) (kj t true x,eR K (dF h (cq t) .none .none) q s)==true)&&(((bX (0+Int.ofNat t.length) 128==true)==true)&&true),(.bool false,eR K (dF h (cq t) (kj t true x) .none) q s)):=by kernel_rfl
theorem H3(K:Ko)(h:Wh)(q:Qs)(s:RP)(fs r:List MV):nod.map (λn=>[qB,qC].map λe=>aN (aR L1.T (PX 10 [] 2) 32 [.loc .em] (eR K (dF h e .none .none) {q with es:=.inst n fs::r} s) [])) =
 mp (λn=>mp (λe=>some (true,(.bool false,eR K (dF h e .none .none) {q with es:=.inst n fs::r} s))) [qB,qC]) nod:=by kernel_rfl
theorem H5(K:Ko)(h:Wh)(q:Qs)(s:RP){w:Tx}(hw:w∈wdL):J 20 32 [.loc .em] (eR K (dF h (jC w) .none .none) q s) (.bool true,eR K (dF h (jC w) (nh w) .none) q s):=
 (kX (n:=10) (k:=1) (ac (HZ K h q s) hw) (bB (aP ((EH K (dF h (jC w) .none .none) q s hw).mono (by decide))))).mono (by decide)
theorem H6(K:Ko)(h:Wh)(q:Qs)(s:RP){t:Tx}(ht:t≠[])(hl:t.length≤100)(ho:eV K.au t=true)(hb:t.any BR.contains=true):∃x,J 20 32 [.loc .em] (eR K (dF h (cq t) .none .none) q s) (.bool false,eR K (dF h (cq t) (kj t true x) .none) q s):=by
 obtain⟨x,j⟩:=EQ K (dF h (cq t) .none .none) q s ht (by omega) ho
 rw[hb] at j;refine⟨x,(kX (n:=10) (k:=2) (H0 K h q s t x) (an (bt (aP (j.mono (by decide)))) (an (bt (bt (pG ?_))) rfl))).mono (by decide)⟩
 have:(Int.ofNat t.length:Int)=(t.length:Int):=rfl;omega
theorem EY(K:Ko)(h:Wh){ss r is rs:List MV}{tp:Option (List MV)}(s:RP){n:Nat}(fs:List MV){e:MV}(hn:n∈nod)(he:e∈[qB,qC]):J 20 32 [.loc .em] (eR K (dF h e .none .none) ⟨ss,.inst n fs::r,is,rs,tp⟩ s) (.bool false,eR K (dF h e .none .none) ⟨ss,.inst n fs::r,is,rs,tp⟩ s):=
 (kX (n:=10) (k:=2) (ac (ac (H3 K h ⟨ss,[],is,rs,tp⟩ s fs r) hn) he) rfl).mono (by decide)
structure Ms where
 st:Nat
 ind:MV
 rt:Bool
 sc:Bool
 mc:Bool
 sk:Bool
 tp:MV
 ss:List MV
 is:List MV
 s:RP
noncomputable def io(a:Ms)(ev an:MV):Wh:=⟨a.st,ev,a.ind,a.rt,a.sc,a.mc,a.sk,a.tp,an,.none⟩
noncomputable def eM(K:Ko)(T:Option (List MV))(a:Ms)(ev:MV)(es:List MV):Sto:=eR K (io a ev .none) ⟨a.ss,es,a.is,[],T⟩ a.s
noncomputable def CC(st:Nat):List MV:=bif Nat.beq st 16||(Nat.beq st 23||Nat.beq st 26) then [.loc .em,.bool false] else [.loc .em]
def fM (K:Ko) (T:Option (List MV)) (e:MV) (r:List MV) (a b:Ms):Prop:=J 30 a.st (CC a.st) (eM K T a e r) (.none,eM K T b e r)
structure Pr where
 f:Nat
 rt:Bool
 sc:Bool
 mc:Bool
 sk:Bool
 s:RP
def qX (K:Ko) (T:Option (List MV)) (e:MV) (r:List MV) (a:Ms) (an:MV) (p:Pr):Prop:=∀sh2,J 20 19 [.loc .em,.bool p.rt,.bool p.sc,.bool p.mc,.bool p.sk] (eR K (io a e an) ⟨a.ss++[.meth p.f .em],r,a.is,[],T⟩ p.s) (.none,sh2)→J 30 a.st (CC a.st) (eM K T a e r) (.none,sh2)
structure Ok(a:Ms)(i:Int):Prop where
 hv:a.ind∈vI i
 h0:0≤i
 h1:i≤500
 hs:a.is.length≤1000
 hss:a.ss.length≤1000
 hc:0≤a.s.2.c
noncomputable def nx(K:Ko)(a:Ms):RP:=pIn K.e (iV a.ind) a.s
section
variable {K:Ko}{T:Option (List MV)}{e:MV}{r:List MV}{a:Ms}{i:Int}(A:Ok a i)
include A
theorem Ok.ind:a.ind= .none∨ ∃j:Int,a.ind= .int j∧0≤j∧j≤1000:=(mJ A.hv).imp id λh=>⟨i,h,A.h0,Int.le_trans A.h1 (by decide)⟩
theorem qD(ev an:MV)(q:Qs):cI K (io a ev an) q a.s (nI K (io a ev an) a.s)=true:=aP ((Gk (K:=K) (h:=io a ev an) (q:=q) a.s A.ind A.hc).mono (by decide))
omit A in
theorem mM{h:Wh}{q:Qs}{x:Tx}{n d:Bool}{s:RP}(hx:x.length≤1000):cW K h q x n d s=true:=aP ((Ke s x n false d (by omega)).mono (by decide))
theorem kp{h:Wh}{es:List MV}{s:RP}{f:Nat}{rt sc mc sk:Bool}{sh2:Sto}(j:J 20 19 [.loc .em,.bool rt,.bool sc,.bool mc,.bool sk] (eR K h ⟨a.ss++[.meth f .em],es,a.is,[],T⟩ s) (.none,sh2)):CB K h ⟨a.ss,es,a.is,[],T⟩ s f rt sc mc sk sh2=true:=
 an (bt (ao (by have:=A.hss;unfold ak;show a.ss.length+1≤_;omega))) (an (bt (aP j)) rfl)
theorem EZ(h:a.st=18):qX K T e r a .none ⟨17,true,false,false,false,a.s⟩:=λsh2 j=>by
 rw[h];exact(kX (n:=20) (k:=1) (Lz K (io a e .none) ⟨a.ss,r,a.is,[],T⟩ a.s sh2) (kp A j)).mono (by decide)
theorem Kj{n:Nat}{fs:List MV}(hn:n∈nod)(first:Bool){sh2:Sto}(j:J 20 19 [.loc .em,.bool false,.bool true,.bool false,.bool false] (eR K (io a (.inst n fs) .none) ⟨a.ss++[.meth 23 .em],r,a.is,[],T⟩ (pWi [45] true false true (nx K a))) (.none,sh2)):J 22 23 [.loc .em,.bool first] (eM K T a (.inst n fs) r) (.none,sh2):=
 kX (n:=20) (k:=1) (ac (ac (LA K (io a (.inst n fs) .none) ⟨a.ss,r,a.is,[],T⟩ a.s fs sh2) hn) (ah first)) (an (bt (qD A _ _ _)) (an (bt (mM (by decide))) (kp A j)))
theorem E1{n:Nat}{fs:List MV}(hn:n∈nod)(h:a.st=22):qX K T (.inst n fs) r a .none ⟨23,false,true,false,false,pWi [45] true false true (nx K a)⟩:=λsh2 j=>by
 rw[h];exact(kX (n:=22) (k:=1) (LB K (io a (.inst n fs) .none) ⟨a.ss,r,a.is,[],T⟩ a.s sh2) (bB (aP (Kj A hn true j)))).mono (by decide)
theorem E3{n:Nat}{fs:List MV}(hn:n∈nod)(h:a.st=23):qX K T (.inst n fs) r a .none ⟨23,false,true,false,false,pWi [45] true false true (nx K a)⟩:=λsh2 j=>by
 rw[h];exact(Kj A hn false j).mono (by decide)
theorem Kk{n:Nat}{fs:List MV}(hn:n∈nod)(first sm:Bool){an':MV}{sh2:Sto}(j32:J 20 32 [.loc .em] (eR K (io a (.inst n fs) .none) ⟨a.ss,r,a.is,[],T⟩ (nx K a)) (.bool sm,eR K (io a (.inst n fs) an') ⟨a.ss,r,a.is,[],T⟩ (nx K a)))
  (j:bif sm then J 20 19 [.loc .em,.bool false,.bool false,.bool true,.bool true] (eR K (io a (.inst n fs) an') ⟨a.ss++[.meth 27 .em],r,a.is,[],T⟩ (nx K a)) (.none,sh2) else J 20 19 [.loc .em,.bool false,.bool false,.bool true,.bool false] (eR K (io a (.inst n fs) an') ⟨a.ss++[.meth 28 .em],r,a.is,[],T⟩ (pWi [63] true false true (nx K a))) (.none,sh2)):J 22 26 [.loc .em,.bool first] (eM K T a (.inst n fs) r) (.none,sh2):=
 kX (n:=20) (k:=1) (ac (ac (ac (LE K (io a (.inst n fs) .none) ⟨a.ss,r,a.is,[],T⟩ a.s fs an' sh2) hn) (ah first)) (ah sm)) (an (bt (qD A _ _ _)) (an (bt (aP j32)) (by
  cases sm with
  |true=>exact kp A j
  |false=>exact an (bt (mM (by decide))) (kp A j))))
noncomputable def H7(K:Ko)(a:Ms)(sm:Bool):Pr:=bif sm then ⟨27,false,false,true,true,nx K a⟩ else ⟨28,false,false,true,false,pWi [63] true false true (nx K a)⟩
theorem ty{n:Nat}{fs:List MV}(hn:n∈nod)(h:a.st=25∨a.st=26)(sm:Bool){an':MV}(j32:J 20 32 [.loc .em] (eR K (io a (.inst n fs) .none) ⟨a.ss,r,a.is,[],T⟩ (nx K a)) (.bool sm,eR K (io a (.inst n fs) an') ⟨a.ss,r,a.is,[],T⟩ (nx K a))):qX K T (.inst n fs) r a an' (H7 K a sm):=λsh2 j=>by
 have j':bif sm then J 20 19 [.loc .em,.bool false,.bool false,.bool true,.bool true] (eR K (io a (.inst n fs) an') ⟨a.ss++[.meth 27 .em],r,a.is,[],T⟩ (nx K a)) (.none,sh2) else J 20 19 [.loc .em,.bool false,.bool false,.bool true,.bool false] (eR K (io a (.inst n fs) an') ⟨a.ss++[.meth 28 .em],r,a.is,[],T⟩ (pWi [63] true false true (nx K a))) (.none,sh2):=by
  cases sm<;>exact j
 rcases h with h | h
 ·rw[h]
  exact(kX (n:=22) (k:=1) (LC K (io a (.inst n fs) .none) ⟨a.ss,r,a.is,[],T⟩ a.s sh2) (bB (aP (Kk A hn true sm j32 j')))).mono (by decide)
 ·rw[h]
  exact(Kk A hn false sm j32 j').mono (by decide)
theorem tz(h:a.st=27):qX K T e r a .none ⟨26,false,false,true,false,pWi [58] false false false a.s⟩:=λsh2 j=>by
 rw[h];exact(kX (n:=20) (k:=1) (LF K (io a e .none) ⟨a.ss,r,a.is,[],T⟩ a.s sh2) (an (bt (mM (by decide))) (kp A j))).mono (by decide)
theorem tA(h:a.st=28):qX K T e r a .none ⟨26,false,false,true,false,pWi [58] true false true (nx K a)⟩:=λsh2 j=>by
 rw[h];exact(kX (n:=20) (k:=1) (LH K (io a e .none) ⟨a.ss,r,a.is,[],T⟩ a.s sh2) (an (bt (qD A _ _ _)) (an (bt (mM (by decide))) (kp A j)))).mono (by decide)
end
section
variable {K:Ko}{T:Option (List MV)}{r:List MV}{a:Ms}{i:Int}(A:Ok a i){p:Pr}{an':MV}
include A
theorem zk{t:Tx}(E:qX K T (cq t) r a an' p)(hk:p.sk=false)(ha:an'= .none∨ ∃x,an'=kj t (t.any BR.contains) x)(hm:K.m∈mL)(ht:t≠[])(hl:t.length≤100)(ho:eV K.au t=true) :
  fM K T (cq t) r a ⟨p.f,a.ind,p.rt,p.sc,p.mc,false,a.tp,a.ss,a.is,pLit K (iV (jM K a.ind)) t p.s⟩:=by
 refine E _ ?_;rw[hk];exact HU K (io a (cq t) an') (ss:=a.ss) (es:=r) (is:=a.is) (rs:=[]) (tp:=T) p.s (i:=i) (f:=p.f) p.rt p.sc p.mc A.hv A.hs ha hm ht (by omega) ho A.h0 A.h1
theorem tB{w:Tx}(E:qX K T (jC w) r a an' p)(hr:p.rt=false)(ha:an'= .none∨an'=nh w)(hw:w∈wdL) :
  fM K T (jC w) r a ⟨p.f,a.ind,false,p.sc,p.mc,p.sk,a.tp,a.ss,a.is,pWd w p.s⟩:=by
 refine E _ ?_;rw[hr];exact HV K (io a (jC w) an') (ss:=a.ss) (es:=r) (is:=a.is) (rs:=[]) (tp:=T) p.s (i:=i) (f:=p.f) p.sc p.mc p.sk A.hv A.hs ha hw
theorem rW{n:Nat}{fs:List MV}(hn:n∈nod)(E:qX K T qB (.inst n fs::r) a .none p) :
  fM K T qB (.inst n fs::r) a ⟨22,mG K a.ind p.mc p.s.2.idn,p.rt,p.sc,p.mc,p.sk,a.tp,a.ss++[.meth p.f .em],a.is++[a.ind],p.s⟩:=by
 refine E _ ?_;exact HW K (io a qB .none) (ss:=a.ss++[.meth p.f .em]) (is:=a.is) (rs:=[]) (tp:=T) p.s (i:=i) p.rt p.sc p.mc p.sk A.hv A.hs (r:=r) (n:=n) (fs:=fs) hn .none .none
theorem rX{n:Nat}{fs:List MV}(hn:n∈nod)(E:qX K T qC (.inst n fs::r) a .none p) :
  fM K T qC (.inst n fs::r) a ⟨25,mH K a.ind,p.rt,p.sc,p.mc,p.sk,a.tp,a.ss++[.meth p.f .em],a.is++[a.ind],p.s⟩:=by
 refine E _ ?_;exact HX K (io a qC .none) (ss:=a.ss++[.meth p.f .em]) (is:=a.is) (rs:=[]) (tp:=T) p.s (i:=i) p.rt p.sc p.mc p.sk A.hv A.hs (r:=r) (n:=n) (fs:=fs) hn .none .none
end
theorem LM(K:Ko)(h:Wh)(q:Qs)(s:RP):ax 1 (aR L1.T (PX 20 [] 1) 23 [.loc .em,.bool false] (eR K (jN h jD) q s) [])=(true,ae L1.T (PX 20 [] 1) (pI (pS .nil)) ⟨eR K (jN h jD) q s,[.val (.loc .em),.val (.bool false)]⟩ (ba (PX 20 [] 1) .nil ai) []):=by kernel_rfl
theorem LO(K:Ko)(h:Wh)(q:Qs)(s:RP):ax 1 (aR L1.T (PX 20 [] 1) 26 [.loc .em,.bool false] (eR K (jN h jE) q s) [])=(true,ae L1.T (PX 20 [] 1) (pI (pS .nil)) ⟨eR K (jN h jE) q s,[.val (.loc .em),.val (.bool false)]⟩ (ba (PX 20 [] 1) .nil ai) []):=by kernel_rfl
section
variable {K:Ko}{T:Option (List MV)}{r:List MV}{v:MV}{S I:List MV}{f:Nat}{s:RP}{H:Wh}
theorem H8:J 22 23 [.loc .em,.bool false] (eR K (jN H jD) ⟨S++[.meth f .em],r,I++[v],[],T⟩ s) (.none,eR K {jN H jD with ind:=v,st:=f} ⟨S,r,I,[],T⟩ s):=by
 have e:=LM K H ⟨S++[.meth f .em],r,I++[v],[],T⟩ s;refine JX (n:=20) (k:=1) (aK e rfl ?_);exact ic (ie ⟨rfl,rfl⟩)
theorem H9:J 22 26 [.loc .em,.bool false] (eR K (jN H jE) ⟨S++[.meth f .em],r,I++[v],[],T⟩ s) (.none,eR K {jN H jE with ind:=v,st:=f} ⟨S,r,I,[],T⟩ s):=by
 have e:=LO K H ⟨S++[.meth f .em],r,I++[v],[],T⟩ s;refine JX (n:=20) (k:=1) (aK e rfl ?_);exact ic (ie ⟨rfl,rfl⟩)
end
section
variable {K:Ko}{T:Option (List MV)}{r:List MV}{rt sc mc sk:Bool}{tp v v':MV}{S I:List MV}{f:Nat}{s:RP}
theorem zl:fM K T jD r ⟨23,v',rt,sc,mc,sk,tp,S++[.meth f .em],I++[v],s⟩ ⟨f,v,rt,sc,mc,sk,tp,S,I,s⟩:=
 (H8 (K:=K) (T:=T) (r:=r) (v:=v) (S:=S) (I:=I) (f:=f) (s:=s) (H:=⟨23,jD,v',rt,sc,mc,sk,tp,.none,.none⟩)).mono (by decide)
theorem zm:fM K T jE r ⟨26,v',rt,sc,mc,sk,tp,S++[.meth f .em],I++[v],s⟩ ⟨f,v,rt,sc,mc,sk,tp,S,I,s⟩:=
 (H9 (K:=K) (T:=T) (r:=r) (v:=v) (S:=S) (I:=I) (f:=f) (s:=s) (H:=⟨26,jE,v',rt,sc,mc,sk,tp,.none,.none⟩)).mono (by decide)
end
section
variable {K:Ko}{T:Option (List MV)}{r:List MV}{a:Ms}
theorem Ia(h:a.st=13):fM K T gm r a {a with st:=15}:=by
 unfold fM;rw[h];exact(kX (n:=20) (k:=2) (Ly K (io a gm .none) ⟨a.ss,r,a.is,[],T⟩ a.s) rfl).mono (by decide)
variable {i:Int}(A:Ok a i)
include A
theorem Ib(h:a.st=15)(o:Bool){fs:List MV}{c:Nat}{t:Tx}{e:MV}(he:e∈[cq (c::t),.inst 11 fs,.inst 13 fs]):fM K T (km o) (e::r) a {a with st:=18,tp:=EW,s:=bif o then pWi [45,45,45] true false false (nx K a) else a.s}:=by
 unfold fM;rw[h];have A':Ok {a with tp:=EW} i:=⟨A.hv,A.h0,A.h1,A.hs,A.hss,A.hc⟩
 refine(kX (n:=20) (k:=3) (ac (ac (LK K (io a (km o) .none) ⟨a.ss,[],a.is,[],T⟩ a.s fs c t r) he) (ah o)) ?_).mono (by decide)
 cases o with
 |false=>rfl
 |true=>exact bB (an (bt (qD A' (km true) .none ⟨a.ss,e::r,a.is,[],T⟩)) (an (bt (mM (by decide))) rfl))
noncomputable def jF(K:Ko)(a:Ms)(cl:Bool):RP:=bif cl then pIn K.e (iV a.ind) (pWi [46,46,46] true false false (nx K a)) else nx K a
theorem Ic(h:a.st=17)(cl:Bool):fM K T (gY cl) r a {a with st:=16,s:=jF K a cl}:=by
 unfold fM;rw[h];refine(kX (n:=20) (k:=1) (ac (LI K (io a (gY cl) .none) ⟨a.ss,r,a.is,[],T⟩ a.s) (ah cl)) ?_).mono (by decide)
 have c1:=qD (K:=K) A (gY cl) .none ⟨a.ss,r,a.is,[],T⟩;cases cl with
 |false=>exact an (bt c1) rfl
 |true=>
  refine an (bt c1) (an (bt (mM (by decide))) (an (bt (aP ((Gk _ A.ind ?_).mono (by decide)))) rfl))
  show 0≤(nx K a).2.c+Int.ofNat _;have:=Au (e:=K.e) (i:=iV a.ind) (s:=a.s) (by rcases mJ A.hv with e | e<;>rw[e];exact li 0;exact A.h0) A.hc
  exact Int.add_nonneg this (Int.natCast_nonneg _)
theorem Id(h:a.st=16):fM K T ee r a {a with st:=14,s:=bif a.s.2.oe then pIn K.e (iV a.ind) (pWi [46,46,46] true false false a.s) else a.s}:=by
 unfold fM;rw[h];refine(kX (n:=20) (k:=2) (ac (LJ K (io a ee .none) ⟨a.ss,r,a.is,[],T⟩ a.s.1 a.s.2.L a.s.2.c a.s.2.ws a.s.2.idn) (ah a.s.2.oe)) ?_).mono (by decide)
 cases h:a.s.2.oe with
 |false=>rfl
 |true=>
  refine an (bt (mM (by decide))) (an (bt (aP ((Gk _ A.ind ?_).mono (by decide)))) rfl)
  exact Int.add_nonneg A.hc (Int.natCast_nonneg _)
end
noncomputable def clsL':List Nat:=[5,6,7,8,10,11,12,13,14]
noncomputable def g7(c:Nat):Bool:=Nat.beq c 7||(Nat.beq c 11||Nat.beq c 13)
noncomputable def E4(c:Nat):Bool:=Nat.beq c 8||(Nat.beq c 12||Nat.beq c 14)
noncomputable def tC(lv:Int)(c:Nat):Int:=bif g7 c then lv+1 else bif E4 c then lv-1 else bif Nat.beq c 6 then -1 else lv
noncomputable def LQ:MSs:=L1.b_Emitter_need_events
noncomputable def CD:MSs:=ag LQ 1
noncomputable def DI:Psi:=PX 0 [] 0
noncomputable def uL(sh:Sto)(n lv:Int)(c:Cell):St:=⟨sh,[.val (.loc .em),.val (.int n),.val (.int lv),c]⟩
noncomputable def LR(c:Nat):Nat:=bif g7 c then 1 else bif E4 c then 2 else 3
noncomputable def LS(c:Nat):Nat:=bif g7 c then 3 else 4
theorem LT(sh:Sto)(n lv:Int)(c':Cell)(fs vs:List MV)(K:Option MV→St→Ds→R):clsL'.map (λc=>bb.map λd=>ax (LS c) (fG DI CD K 3 (.inst c fs::vs) (uL sh n lv c') [(LR c,d)])) =
 mp (λc=>mp (λd=>((bX (tC lv c) 0==d)&&true,bif d then K (some (.bool false)) (uL sh n (tC lv c) (.val (.inst c fs))) [] else fG DI CD K 3 vs (uL sh n (tC lv c) (.val (.inst c fs))) [])) bb) clsL':=by kernel_rfl
theorem LU(K:Ko)(h:Wh)(ss is rs:List MV)(tp:Option (List MV))(n:Int)(e:MV)(r:List MV)(s:RP):aR L1.T DI 11 [.loc .em,.int n] (eR K h ⟨ss,e::r,is,rs,tp⟩ s) []=fG DI CD ai 3 (((e::r).take (e::r).length).drop (PySem.clipAt (e::r).length 1)) (uL (eR K h ⟨ss,e::r,is,rs,tp⟩ s) n 0 .unset) []:=by kernel_rfl
theorem LV(K:Ko)(h:Wh)(ss is rs:List MV)(tp:Option (List MV))(n lv:Int)(es:List MV)(s:RP)(c':Cell):aN (fG DI CD ai 3 [] (uL (eR K h ⟨ss,es,is,rs,tp⟩ s) n lv c') [])=some (true,(.bool (bX (Int.ofNat es.length) (n+1)),eR K h ⟨ss,es,is,rs,tp⟩ s)):=by kernel_rfl
noncomputable def negs:Int→List Nat→Bool
 |_,[]=>false
 |lv,c::r=>bX (tC lv c) 0||negs (tC lv c) r
noncomputable def kc(e:MV):Nat:=((gz e).map λp=>p.1).getD 0
def k8 (e:MV):Prop:=∃c fs,e= .inst c fs∧c∈clsL'
theorem Ie:aD (bK (aF CD))=true:=by kernel_rfl
theorem Ig:aD (aY CD)=true:=by kernel_rfl
noncomputable def E5(n:Int)(r:List MV):Bool:=!negs 0 (r.map kc)&&bX (Int.ofNat (r.length+1)) (n+1)
theorem Kl{K:Ko}{h:Wh}{ss is rs:List MV}{tp:Option (List MV)}{n:Int}{es:List MV}{s:RP}:∀(r:List MV) (lv:Int) (c':Cell),(∀e∈r,k8 e)→am (fG DI CD ai 3 r (uL (eR K h ⟨ss,es,is,rs,tp⟩ s) n lv c') []) (.bool (!negs lv (r.map kc)&&bX (Int.ofNat es.length) (n+1))) (eR K h ⟨ss,es,is,rs,tp⟩ s)
 |[],lv,c',H=>cG (LV K h ss is rs tp n lv es s c') rfl
 |e::r,lv,c',H=>by
  obtain⟨c,fs,rfl,hc⟩:=H e (.head _);have t:=ac (ac (LT (eR K h ⟨ss,es,is,rs,tp⟩ s) n lv c' fs r ai) hc) (ah (bX (tC lv c) 0));refine aT (mC Ie Ig di _ _) t (an (fE rfl) rfl) ?_;show am (bif bX (tC lv c) 0 then _ else _) (.bool (!(bX (tC lv c) 0||negs (tC lv c) (r.map kc))&&_)) _;cases bX (tC lv c) 0 with
  |true=>exact⟨rfl,rfl⟩
  |false=>exact Kl r (tC lv c) _ λe m=>H e (.tail _ m)
theorem Km{e:MV}{r:List MV}:((e::r).take (e::r).length).drop (PySem.clipAt (e::r).length 1)=r:=by
 rw[show PySem.clipAt (e::r).length 1=1 from(jB _ 1).trans (Nat.min_eq_left (Nat.succ_le_succ (iw _))),List.take_length];rfl
theorem LW{K:Ko}{h:Wh}{ss is rs:List MV}{tp:Option (List MV)}(n:Int){e:MV}{r:List MV}{s:RP}(H:∀e∈r,k8 e):J 2 11 [.loc .em,.int n] (eR K h ⟨ss,e::r,is,rs,tp⟩ s) (.bool (E5 n r),eR K h ⟨ss,e::r,is,rs,tp⟩ s):=
 (JX (n:=0) (k:=0) (v:=.bool (E5 n r)) (bS ((LU K h ss is rs tp n e r s).trans (by rw[Km])) (Kl (K:=K) (h:=h) (ss:=ss) (is:=is) (rs:=rs) (tp:=tp) (n:=n) (es:=e::r) (s:=s) r 0 .unset H))).mono (m:=2) (iw 2)
theorem LX(K:Ko)(h:Wh)(ss is rs:List MV)(tp:Option (List MV))(fs r:List MV)(s:RP)(b:Bool):clsL'.map (λc=>aN (aR L1.T (PX 2 [(11,(.bool b,eR K h ⟨ss,.inst c fs::r,is,rs,tp⟩ s))] 1) 10 [.loc .em] (eR K h ⟨ss,.inst c fs::r,is,rs,tp⟩ s) [])) =
 mp (λc=>some (bif g7 c then tt (jd 2 11 [.loc .em,.int (bif Nat.beq c 7 then 1 else bif Nat.beq c 11 then 2 else 3)] (eR K h ⟨ss,.inst c fs::r,is,rs,tp⟩ s) (.bool b,eR K h ⟨ss,.inst c fs::r,is,rs,tp⟩ s)) else true,(.bool (bif g7 c then b else false),eR K h ⟨ss,.inst c fs::r,is,rs,tp⟩ s))) clsL':=by kernel_rfl
theorem Ih(K:Ko)(h:Wh)(ss is rs:List MV)(tp:Option (List MV))(s:RP):aN (aR L1.T (PX 2 [] 1) 10 [.loc .em] (eR K h ⟨ss,[],is,rs,tp⟩ s) [])=some (true,(.bool true,eR K h ⟨ss,[],is,rs,tp⟩ s)):=by kernel_rfl
noncomputable def CE(c:Nat):Int:=bif Nat.beq c 7 then 1 else bif Nat.beq c 11 then 2 else 3
noncomputable def gc:List MV→Bool
 |[]=>true
 |e::r=>bif g7 (kc e) then E5 (CE (kc e)) r else false
theorem LY{K:Ko}{h:Wh}{ss is rs:List MV}{tp:Option (List MV)}{s:RP}:∀{es:List MV},(∀e∈es,k8 e)→J 4 10 [.loc .em] (eR K h ⟨ss,es,is,rs,tp⟩ s) (.bool (gc es),eR K h ⟨ss,es,is,rs,tp⟩ s)
 |[],H=>kX (n:=2) (k:=1) (Ih K h ss is rs tp s) rfl
 |e::r,H=>by
  obtain⟨c,fs,rfl,hc⟩:=H e (.head _);have j:=LW (K:=K) (h:=h) (ss:=ss) (is:=is) (rs:=rs) (tp:=tp) (s:=s) (e:=.inst c fs) (CE c) λe m=>H e (.tail _ m);refine kX (n:=2) (k:=1) (ac (LX K h ss is rs tp fs r s (E5 (CE c) r)) hc) ?_;cases g7 c with
  |false=>rfl
  |true=>exact bB (aP j)
noncomputable def stL:List Nat:=[13,15,16,17,18,22,23,25,26,27,28]
noncomputable def Kn(f:Nat):Bool:=Nat.beq f 10||stL.any (Nat.beq f)
noncomputable def a9(G:Sto→Sto)(f:Nat)(as:List MV)(sh:Sto):MV×Sto:=bif Nat.beq f 10 then (.bool (gc (sh.events.getD [])),sh) else (.none,G sh)
noncomputable def P9(G:Sto→Sto):Psi:=wB 30 Kn (a9 G) kS 1
noncomputable def b9:MSs:=L1.b_Emitter_emit
noncomputable def L9:MSs:=ag b9 1
noncomputable def B9:MSs:=bK (aF L9)
noncomputable def xQ(K:Ko)(T:Option (List MV))(a:Ms)(ev:MV)(es:List MV)(x:MV):St:=⟨eM K T a ev es,[.val (.loc .em),.val x]⟩
section
variable (K:Ko)(T:Option (List MV))(ind:MV)(rt sc mc sk:Bool)(tp:MV)(ss is:List MV)(s:RP)(G:Sto→Sto)(e x:MV)(r:List MV)(n:Nat)(KK:Option MV→St→Ds→R)
noncomputable def g9(K:Ko)(T:Option (List MV))(a:Ms)(es:List MV)(d:Bool)(g:Bool):Bool:=(jd 30 10 [.loc .em] (eM K T a .none es) (.bool (gc es),eM K T a .none es)==true)&&(((!gc es)==d)&&g)
theorem t9:stL.map (λf=>ax 7 (WL (P9 G) L9 KK (n+1) (xQ K T ⟨f,ind,rt,sc,mc,sk,tp,ss,is,s⟩ .none (e::r) x) [(0,true)])) =
 mp (λf=>(g9 K T ⟨f,ind,rt,sc,mc,sk,tp,ss,is,s⟩ (e::r) true ((jd 30 f (CC f) (eM K T ⟨f,ind,rt,sc,mc,sk,tp,ss,is,s⟩ e r) (.none,G (eM K T ⟨f,ind,rt,sc,mc,sk,tp,ss,is,s⟩ e r))==true)&&true),
  ae L1.T (P9 G) (ag B9 2) ⟨G (eM K T ⟨f,ind,rt,sc,mc,sk,tp,ss,is,s⟩ e r),[.val (.loc .em),.val x]⟩ (wz (P9 G) L9 KK n) [])) stL:=by kernel_rfl
theorem u9(a:Ms):ax 0 (ae L1.T (P9 G) (ag B9 2) (xQ K T a e r x) (wz (P9 G) L9 KK n) [])=(true,WL (P9 G) L9 KK n (xQ K T a .none r x) []):=by kernel_rfl
theorem x9(a:Ms):ax 3 (WL (P9 G) L9 KK (n+1) (xQ K T a .none r x) [(0,false)])=(g9 K T a r false true,KK none (xQ K T a .none r x) []):=by kernel_rfl
theorem p9(a:Ms)(rest:MSs):ax 2 (ae L1.T (P9 G) (aO 1 b9 rest) ⟨eM K T a .none r,[.val (.loc .em),.val x]⟩ ai [])=((aS (r.length+1) ak==true)&&true,ae L1.T (P9 G) rest (xQ K T a .none (r++[x]) x) ai []):=by kernel_rfl
theorem q9(sh:Sto):aR L1.T (P9 G) 9 [.loc .em,x] sh []=ae L1.T (P9 G) (aO 1 b9 L9) ⟨sh,[.val (.loc .em),.val x]⟩ ai []:=by kernel_rfl
theorem w9(st:St):ae L1.T (P9 G) L9 st ai []=WL (P9 G) L9 (ba (P9 G) (aY L9) ai) 100000 st []:=by kernel_rfl
end
noncomputable def nM(K:Ko)(T:Option (List MV))(G:Sto→Sto)(b:Ms)(q':List MV):Ms→List MV→Prop
 |a,[]=>a=b∧q'=[]
 |a,e::r=>(gc (e::r)=true∧a=b∧q'=e::r)∨(gc (e::r)=false∧a.st∈stL∧ ∃m,fM K T e r a m∧G (eM K T a e r)=eM K T m e r∧nM K T G b q' m r)
theorem Ii:aD (bK (aF L9))=true:=by kernel_rfl
theorem LZ:aD (ag B9 2)=true:=by kernel_rfl
theorem L6:aD (aY L9)=true:=by kernel_rfl
section
variable {K:Ko}{T:Option (List MV)}{G:Sto→Sto}{x:MV}{b:Ms}{q':List MV}{KK:Option MV→St→Ds→R}{v:MV}{sh:Sto}
theorem AA{a:Ms}{es:List MV}{d g:Bool}(H:∀e∈es,k8 e)(hd:gc es= !d)(hg:g=true):g9 K T a es d g=true:=by
 refine an (bt (aP ((LY H).mono (by decide)))) (an (fE ?_) hg)
 rw[hd];cases d<;>rfl
theorem AB(hK:∀r st,Mn (KK r st)){a:Ms}{es:List MV}{n:Nat}(H:∀e∈es,k8 e)(hn:gc es=true)(h:am (KK none (xQ K T a .none es x) []) v sh):am (WL (P9 G) L9 KK (n+1) (xQ K T a .none es x) []) v sh:=
 aT (kT Ii hK _ _) (x9 K T G x es n KK a) (AA H hn rfl) h
theorem Kp(hK:∀r st,Mn (KK r st)):∀(q:List MV) (a:Ms) (n:Nat),q.length+1≤n→(∀e∈q,k8 e)→nM K T G b q' a q→am (KK none (xQ K T b .none q' x) []) v sh→am (WL (P9 G) L9 KK n (xQ K T a .none q x) []) v sh
 |[],a,n,hn,H,hc,h=>by
  obtain⟨n,rfl⟩:∃m,n=m+1:=⟨n-1,by have:1≤n:=hn;omega⟩
  obtain⟨rfl,rfl⟩:=hc;exact AB hK H rfl h
 |e::r,a,n,hn,H,hc,h=>by
  obtain⟨n,rfl⟩:∃m,n=m+1:=⟨n-1,by have:r.length+1+1≤n:=hn;omega⟩
  have hn:r.length+1≤n:=by have:r.length+1+1≤n+1:=hn;omega
  rcases hc with ⟨h1,rfl,rfl⟩ | ⟨h1,h2,m,h3,h4,h5⟩
  ·exact AB hK H h1 h
  ·obtain⟨st,ind,rt,sc,mc,sk,tp,ss,is,s⟩:=a
   have t:=ac (t9 K T ind rt sc mc sk tp ss is s G e x r n KK) h2;refine aT (kT Ii hK _ _) t (AA H h1 (an (bt (aP (h4▸h3))) rfl)) ?_;rw[h4];exact aT (cH _ LZ _ _ (wH Ii hK)) (u9 K T G e x r n KK m) rfl (Kp hK r m n hn (λe m=>H e (.tail _ m)) h5 h)
theorem J9{a:Ms}{q:List MV}(hl:q.length≤1000)(H:∀e∈q++[x],k8 e)(hc:nM K T G b q' a (q++[x])):J 32 9 [.loc .em,x] (eM K T a .none q) (.none,eM K T b .none q'):=by
 refine gb (n:=30) (is:=Kn) (a:=a9 G) (O:=kS) (k:=1) (ds:=[]) (r:=(.none,eM K T b .none q')) ?_;have e:=p9 K T G x q a L9;refine bS (q9 G x _) (aK e (an (bt (ao (by unfold ak;omega))) rfl) (bS (w9 G _) ?_))
 exact Kp (dj L6 di) (q++[x]) a 100000 (by rw[a7];show q.length+1+1≤_;omega) H hc ⟨rfl,rfl⟩
end
noncomputable def bc(K:Ko)(a:Ms)(sm:Bool):Pr:=bif Nat.beq a.st 18 then ⟨17,true,false,false,false,a.s⟩ else bif Nat.beq a.st 22||Nat.beq a.st 23 then ⟨23,false,true,false,false,pWi [45] true false true (nx K a)⟩ else bif Nat.beq a.st 25||Nat.beq a.st 26 then H7 K a sm else
 bif Nat.beq a.st 27 then ⟨26,false,false,true,false,pWi [58] false false false a.s⟩ else ⟨26,false,false,true,false,pWi [58] true false true (nx K a)⟩
noncomputable def xR(e:MV):List MV:=((gz e).map λp=>p.2).getD []
noncomputable def Gl(o:Option MV):Nat:=((o.bind lM).map λp=>p.1).getD 0
noncomputable def DJ(K:Ko)(a:Ms)(e:MV):Ms:=
 bif Nat.beq (kc e) 10 then (bif isNone (at_ (xR e) 6) then ⟨(bc K a true).f,a.ind,false,(bc K a true).sc,(bc K a true).mc,(bc K a true).sk,a.tp,a.ss,a.is,pWd (xV (at_ (xR e) 3)) (bc K a true).s⟩
  else ⟨(bc K a false).f,a.ind,(bc K a false).rt,(bc K a false).sc,(bc K a false).mc,false,a.tp,a.ss,a.is,pLit K (iV (jM K a.ind)) (xV (at_ (xR e) 3)) (bc K a false).s⟩)
 else bif Nat.beq (kc e) 11 then ⟨22,mG K a.ind (bc K a false).mc (bc K a false).s.2.idn,(bc K a false).rt,(bc K a false).sc,(bc K a false).mc,(bc K a false).sk,a.tp,a.ss++[.meth (bc K a false).f .em],a.is++[a.ind],(bc K a false).s⟩
 else bif Nat.beq (kc e) 13 then ⟨25,mH K a.ind,(bc K a false).rt,(bc K a false).sc,(bc K a false).mc,(bc K a false).sk,a.tp,a.ss++[.meth (bc K a false).f .em],a.is++[a.ind],(bc K a false).s⟩
 else bif Nat.beq (kc e) 12||Nat.beq (kc e) 14 then ⟨Gl a.ss.getLast?,a.is.getLast?.getD .none,a.rt,a.sc,a.mc,a.sk,a.tp,a.ss.dropLast,a.is.dropLast,a.s⟩
 else bif Nat.beq (kc e) 5 then {a with st:=15}
 else bif Nat.beq (kc e) 7 then {a with st:=18,tp:=EW,s:=bif bV (at_ (xR e) 2) then pWi [45,45,45] true false false (nx K a) else a.s}
 else bif Nat.beq (kc e) 8 then {a with st:=16,s:=jF K a (bV (at_ (xR e) 2))}
 else {a with st:=14,s:=bif a.s.2.oe then pIn K.e (iV a.ind) (pWi [46,46,46] true false false a.s) else a.s}
noncomputable def Path(K:Ko)(T:Option (List MV)):Ms→List MV→Ms→Prop
 |a,[],c=>a=c
 |a,e::E,c=>a.st∈stL∧(g7 (kc e)=true→E≠[])∧ ∃m,(∀r,(g7 (kc e)=true→ ∃y E' r',E=y::E'∧r=y::r')→fM K T e r a m)∧m=DJ K a e∧Path K T m E c
section
variable {K:Ko}{T:Option (List MV)}
theorem Path.app:∀{E:List MV} {a b c:Ms} {F:List MV},Path K T a E b→Path K T b F c→Path K T a (E++F) c
 |[],a,b,c,F,h,g=>by
  obtain rfl:a=b:=h;exact g
 |e::E,a,b,c,F,⟨h1,h2,m,h3,hd,h4⟩,g=>⟨h1,λu z=>h2 u (List.append_eq_nil_iff.mp z).1,m,λr u=>h3 r λhu=>by
   obtain⟨y,E',r',e1,e2⟩:=u hu;cases E with
   |nil=>exact absurd rfl (h2 hu)
   |cons y' E''=>
    obtain rfl:y'=y:=(List.cons.inj e1).1;exact⟨y',E'',r',rfl,e2⟩,hd,h4.app g⟩
theorem mN{a b:Ms}{e:MV}(h1:a.st∈stL)(h2:g7 (kc e)=false)(h:∀r,fM K T e r a b)(hd:b=DJ K a e):Path K T a [e] b:=⟨h1,λu=>aB (h2.symm.trans u),b,λr _=>h r,hd,rfl⟩
theorem AC{a b c:Ms}{e y:MV}{E:List MV}(h1:a.st∈stL)(h:∀r,fM K T e (y::r) a b)(h2:g7 (kc e)=true)(hd:b=DJ K a e)(g:Path K T b (y::E) c):Path K T a (e::y::E) c:=
 ⟨h1,λ_ z=>nl _ _ z,b,λr u=>by
  obtain⟨y',E',r',e1,rfl⟩:=u h2;obtain rfl:y=y':=(List.cons.inj e1).1;exact h r',hd,g⟩
theorem E6{a b:Ms}{e f:MV}{r q:List MV}(h:eM K T a e r=eM K T b f q):r=q:=ay (bJ Sto.events h)
theorem kJ{G G':Sto→Sto}{b:Ms}{q':List MV}:∀{q:List MV} {a:Ms},(∀a e r,r.length<q.length→G (eM K T a e r)=G' (eM K T a e r))→nM K T G b q' a q→nM K T G' b q' a q
 |[],a,H,h=>h
 |e::r,a,H,h=>h.imp id λ⟨h1,h2,m,h3,h4,h5⟩=>⟨h1,h2,m,h3,(H a e r (Nat.lt_succ_self _)).symm.trans h4,kJ (λa e r' hr=>H a e r' (Nat.lt_succ_of_lt hr)) h5⟩
theorem E7{e:MV}(h:g7 (kc e)=true):gc [e]=true:=by
 show (bif g7 (kc e) then E5 (CE (kc e)) [] else false)=true;rw[h];show (!false&&bX 1 (CE (kc e)+1))=true
 have:1≤CE (kc e):=by
  unfold CE;cases Nat.beq (kc e) 7 with
  |true=>exact li 1
  |false=>cases Nat.beq (kc e) 11<;>decide
 rw[As (by omega)];rfl
noncomputable def cr(K:Ko):List MV→Ms→Ms×List MV
 |[],a=>(a,[])
 |e::r,a=>bif gc (e::r) then (a,e::r) else cr K r (DJ K a e)
theorem qE:∀(Q:List MV) (R:List MV) {a c:Ms},Path K T a (Q++R) c→ ∃b q' G,nM K T G b q' a Q∧Path K T b (q'++R) c∧gc q'=true∧(∃p,Q=p++q')∧cr K Q a=(b,q')
 |[],R,a,c,h=>⟨a,[],id,⟨rfl,rfl⟩,h,rfl,⟨[],rfl⟩,rfl⟩
 |e::r,R,a,c,h=>by
  cases hn:gc (e::r) with
  |true=>exact⟨a,e::r,id,.inl ⟨hn,rfl,rfl⟩,h,hn,⟨[],rfl⟩,by show (bif gc (e::r) then _ else _)=_;rw[hn];rfl⟩
  |false=>
   obtain⟨h1,h2,m,h3,hd,h4⟩:=h
   have hs:fM K T e r a m:=h3 r λhu=>by
    cases r with
    |nil=>rw[E7 hu] at hn;exact aB hn.symm
    |cons y r'=>exact⟨y,r'++R,r',rfl,rfl⟩
   obtain⟨b,q',G,g1,g2,g3,⟨p,g4⟩,g5⟩:=qE r R h4;refine⟨b,q',λsh=>@ite _ (sh=eM K T a e r) (Classical.propDecidable _) (eM K T m e r) (G sh),.inr ⟨hn,h1,m,hs,cw rfl,kJ (λa' e' r' hr=>?_) g1⟩,g2,g3,⟨e::p,by rw[g4];rfl⟩,by show (bif gc (e::r) then _ else cr K r (DJ K a e))=_;rw[hn,← hd];exact g5⟩
   refine(bL λz=>?_).symm;rw[E6 z] at hr;exact Nat.lt_irrefl _ hr
theorem E8{a c:Ms}{q R:List MV}{e:MV}(hl:q.length≤1000)(H:∀x∈q++e::R,k8 x)(h:Path K T a (q++e::R) c):J 32 9 [.loc .em,e] (eM K T a .none q) (.none,eM K T (cr K (q++[e]) a).1 .none (cr K (q++[e]) a).2)∧Path K T (cr K (q++[e]) a).1 ((cr K (q++[e]) a).2++R) c∧gc (cr K (q++[e]) a).2=true∧ ∃p,q++[e]=p++(cr K (q++[e]) a).2:=by
 have h':Path K T a ((q++[e])++R) c:=by rw[cu];exact h
 obtain⟨b,q',G,g1,g2,g3,g4,g5⟩:=qE (q++[e]) R h';rw[g5]
 exact⟨J9 hl (λe' m=>H e' (by
  rw[show q++e::R=(q++[e])++R by rw[cu];rfl]
  exact List.mem_append_left _ m)) g1,g2,g3,g4⟩
theorem qF:∀(r:List Nat) (lv:Int),negs lv (r++[6])=true
 |[],lv=>rfl
 |c::r,lv=>by
  show (bX (tC lv c) 0||negs (tC lv c) (r++[6]))=true;rw[qF r];cases bX (tC lv c) 0<;>rfl
theorem wQ{e:MV}:∀{p:List MV},kc e=6→gc (p++[e])=false
 |[],h=>by
  show (bif g7 (kc e) then _ else false)=false;rw[h];rfl
 |y::p,h=>by
  show (bif g7 (kc y) then (!negs 0 ((p++[e]).map kc)&&_) else false)=false;rw[nY,show [e].map kc=[6] by rw[← h];rfl,qF]
  cases g7 (kc y)<;>rfl
theorem wR{a c:Ms}{q:List MV}{e:MV}(hl:q.length≤1000)(H:∀x∈q++[e],k8 x)(he:kc e=6)(h:Path K T a (q++[e]) c):cr K (q++[e]) a=(c,[]):=by
 obtain⟨j,g1,g2,p,g3⟩:=E8 (R:=[]) hl H h;generalize cr K (q++[e]) a=bq at j g1 g2 g3;obtain⟨b,q'⟩:=bq
 have:q'=[]:=by
  rcases List.eq_nil_or_concat q' with z | ⟨l,x,z⟩
  ·exact z
  ·rw[List.concat_eq_append] at z
   have g2:gc q'=true:=g2;have g3:q++[e]=p++q':=g3;rw[z,← cu] at g3;obtain rfl:e=x:=(List.cons.inj (List.append_inj' g3 rfl).2).1;rw[z,wQ he] at g2;exact aB g2
 subst this;have g1:Path K T b ([]++[]) c:=g1;obtain rfl:b=c:=g1;rfl
end
noncomputable def tx(l:List MV):Tx:=l.flatMap λv=>xV v
theorem tx_app{l:List MV}{x:Tx}:tx (l++[.str x])=tx l++x:=by
 unfold tx;rw[List.flatMap_append];show _++(x++[])=_;rw[fw]
noncomputable def sp(i:Int):Tx:=List.replicate i.toNat 32
theorem iT:∀n,dk [32] n=List.replicate n 32
 |0=>rfl
 |n+1=>bJ (List.cons 32) (iT n)
structure At(s:RP)(i:Int)(Y:Tx):Prop where
 t:tx s.1=Y
 c:s.2.c=i
 w:s.2.ws=true
 d:s.2.idn=true
structure After(s:RP)(i:Int)(Z:Tx):Prop where
 t:tx s.1=Z
 c:s.2.c=i+1
 w:s.2.ws=false
 d:s.2.idn=true
structure Settled(s:RP):Prop where
 c:0≤s.2.c
 d:s.2.idn=true→s.2.c=0∧s.2.ws=true
noncomputable def F(e:Tx)(s:RP):Tx:=tx s.1++bif s.2.idn then [] else e
theorem wS{b:Bool}{x:Tx}{rs:List MV}:tx (Aq b (.str x) rs)=tx rs++bif b then x else []:=by
 cases b with
 |true=>exact tx_app
 |false=>exact(fw _).symm
theorem L7:sp 0=[]:=rfl
theorem CF{i j:Int}(hi:0≤i)(hj:0≤j):sp (i+j)=sp i++sp j:=by
 unfold sp;rw[Int.toNat_add hi hj,List.replicate_append_replicate]
theorem rY{e:Tx}{i:Int}{s:RP}:tx (pIn e i s).1=(tx s.1++bif aE i s.2.c s.2.ws s.2.idn then e else [])++bif bX (aQ (aE i s.2.c s.2.ws s.2.idn) s.2.c) i then sp (i-aQ (aE i s.2.c s.2.ws s.2.idn) s.2.c) else []:=by
 unfold pIn;rw[wS,wS,iT];rfl
theorem eW{e:Tx}{i:Int}{s:RP}(S:Settled s)(hi:0≤i):At (pIn e i s) i (F e s++sp i):=by
 have hl:(bif bX 0 i then sp (i-0) else [])=sp i:=by
  cases h:bX 0 i with
  |true=>rw[Int.sub_zero];rfl
  |false=>
   have:¬0<i:=of_decide_eq_false h;obtain rfl:i=0:=by omega
   rfl
 have hc:(bif bX 0 i then i else 0)=i:=by
  cases h:bX 0 i with
  |true=>rfl
  |false=>
   have:¬0<i:=of_decide_eq_false h;show (0:Int)=i;omega
 obtain⟨rs,L,c,ws,idn,oe⟩:=s;cases idn with
 |false=>
  refine⟨?_,?_,?_,rfl⟩
  ·rw[rY]
   show (tx rs++e)++(bif bX 0 i then sp (i-0) else [])=_;rw[hl];rfl
  ·show (bif bX 0 i then i else 0)=i
   exact hc
  ·show (bX 0 i||(true||ws))=true
   cases bX 0 i<;>rfl
 |true=>
  obtain⟨hc0,hw⟩:=S.d rfl;have hc0:c=0:=hc0;have hw:ws=true:=hw;subst hc0 hw
  have hb:aE i 0 true true=false:=by
   unfold aE;rw[tq (show ¬i<0 by omega)]
   cases aI 0 i<;>rfl
  refine⟨?_,?_,?_,?_⟩
  ·rw[rY]
   show (tx rs++bif aE i 0 true true then e else [])++(bif bX (aQ (aE i 0 true true) 0) i then sp (i-aQ (aE i 0 true true) 0) else [])=_;rw[hb];show (tx rs++[])++(bif bX 0 i then sp (i-0) else [])=(tx rs++[])++sp i;rw[hl]
  ·show (bif bX (aQ (aE i 0 true true) 0) i then i else aQ (aE i 0 true true) 0)=i
   rw[hb];exact hc
  ·show (bX (aQ (aE i 0 true true) 0) i||(aE i 0 true true||true))=true
   rw[hb];cases bX (aQ false 0) i<;>rfl
  ·show (aE i 0 true true||true)=true
   rw[hb];rfl
theorem wT{e:Tx}{i m:Int}{s:RP}{Z:Tx}(A:After s i Z)(hm:2≤m):At (pIn e (i+m) s) (i+m) (Z++sp (m-1)):=by
 obtain⟨rs,L,c,ws,idn,oe⟩:=s;obtain⟨h1,h2,h3,h4⟩:=A;have h2:c=i+1:=h2;have h3:ws=false:=h3;have h4:idn=true:=h4;subst h2 h3 h4
 have hb:aE (i+m) (i+1) false true=false:=by
  unfold aE;rw[tq (show ¬i+m<i+1 by omega),show aI (i+1) (i+m)=false from decide_eq_false (by omega)];rfl
 have hl:bX (i+1) (i+m)=true:=As (by omega)
 refine⟨?_,?_,?_,?_⟩
 ·rw[rY]
  show (tx rs++bif aE (i+m) (i+1) false true then e else [])++(bif bX (aQ (aE (i+m) (i+1) false true) (i+1)) (i+m) then sp (i+m-aQ (aE (i+m) (i+1) false true) (i+1)) else [])=_;rw[hb];show (tx rs++[])++(bif bX (i+1) (i+m) then sp (i+m-(i+1)) else [])=_;rw[hl,fw,show tx rs=Z from h1,show i+m-(i+1)=m-1 by omega];rfl
 ·show (bif bX (aQ (aE (i+m) (i+1) false true) (i+1)) (i+m) then i+m else _)=i+m
  rw[hb];show (bif bX (i+1) (i+m) then i+m else _)=i+m;rw[hl];rfl
 ·show (bX (aQ (aE (i+m) (i+1) false true) (i+1)) (i+m)||_)=true
  rw[hb];show (bX (i+1) (i+m)||_)=true;rw[hl];rfl
 ·show (aE (i+m) (i+1) false true||true)=true
  rw[hb];rfl
theorem E9{s:RP}{i:Int}{Y:Tx}{m:Nat}{d:Bool}(A:At s i Y):tx (pWi [m] true false d s).1=Y++[m]∧(pWi [m] true false d s).2.c=i+1∧(pWi [m] true false d s).2.ws=false∧(pWi [m] true false d s).2.idn=d:=by
 obtain⟨rs,L,c,ws,idn,oe⟩:=s;obtain⟨h1,h2,h3,h4⟩:=A;have h3:ws=true:=h3;have h4:idn=true:=h4;subst h3 h4;exact⟨tx_app.trans (by rw[show tx rs=Y from h1];rfl),(by show c+1=i+1;rw[show c=i from h2]),rfl,rfl⟩
theorem o1{s:RP}{i:Int}{Y:Tx}{m:Nat}(A:At s i Y):After (pWi [m] true false true s) i (Y++[m]):=
 let ⟨h1,h2,h3,h4⟩:=E9 (m:=m) (d:=true) A
 ⟨h1,h2,h3,h4⟩
theorem Fa{s:RP}{w:Tx}(h:s.2.ws=false)(hc:0≤s.2.c):tx (pWd w s).1=tx s.1++32::w∧(pWd w s).2.idn=false∧0≤(pWd w s).2.c∧(pWd w s).2.ws=false:=by
 obtain⟨rs,L,c,ws,idn,oe⟩:=s;have h:ws=false:=h;subst h;have hc:0≤c:=hc;refine⟨?_,rfl,?_,rfl⟩
 ·show tx ((rs++[.str [32]])++[.str w])=_
  rw[tx_app,tx_app,cu];rfl
 ·show 0≤c+1+Int.ofNat w.length
  have:(Int.ofNat w.length:Int)=(w.length:Int):=rfl;omega
theorem Fb{s:RP}{i:Int}{Y w:Tx}(A:At s i Y):tx (pWd w s).1=Y++w∧(pWd w s).2.idn=false∧(pWd w s).2.c=i+Int.ofNat w.length∧(pWd w s).2.ws=false:=by
 obtain⟨rs,L,c,ws,idn,oe⟩:=s;obtain⟨h1,h2,h3,h4⟩:=A;have h3:ws=true:=h3;subst h3;exact⟨tx_app.trans (by rw[show tx rs=Y from h1]),rfl,(by show c+_=i+_;rw[show c=i from h2]),rfl⟩
noncomputable def B3:Tx:=[10,8232,8233]
noncomputable def rZ(e:Tx)(c:Nat):Tx:=uX e (eqX [c] [10]) c
mutual
noncomputable def nj(e p:Tx):Tx→Tx
 |[]=>[]
 |c::r=>bif B3.contains c then rZ e c++nj e p r else p++c::uY e p r
noncomputable def uY(e p:Tx):Tx→Tx
 |[]=>e
 |c::r=>bif B3.contains c then rZ e c++nj e p r else c::uY e p r
end
theorem r4{x:Tx}{s:RP}:tx (oU x s).1=tx s.1++x:=tx_app
theorem r5{e:Tx}:∀{p:Tx} {s:RP},tx (ey e p s).1=tx s.1++p.flatMap (rZ e)
 |[],s=>(fw _).symm
 |c::r,s=>by
  show tx (ey e r (oU (uX e (eqX [c] [10]) c) s)).1=_;rw[r5,r4,cu];rfl
theorem o9{e:Tx}:∀{p:Tx} {s:RP},s.2.ws=true→s.2.idn=true→(p=[]→s.2.c=0)→(ey e p s).2.ws=true∧(ey e p s).2.idn=true∧(ey e p s).2.c=0
 |[],s,h1,h2,h3=>⟨h1,h2,h3 rfl⟩
 |c::r,s,h1,h2,h3=>o9 (p:=r) (s:=oU (uX e (eqX [c] [10]) c) s) rfl rfl λ_=>rfl
theorem AD{c:Nat}(h:c≠133):BR.contains c=B3.contains c:=by
 unfold BR B3;have h2:(c==133)=false:=by simp [h]
 simp only [List.contains_cons,List.contains_nil,h2,Bool.false_or,Bool.or_false]
theorem Ij{e:Tx}{p:Tx}{c:Nat}:(p++[c]).flatMap (rZ e)=p.flatMap (rZ e)++rZ e c:=by
 rw[List.flatMap_append];show _++(rZ e c++[])=_;rw[fw]
theorem mO{e:Tx}{i:Int}(hi:0≤i):∀(r:Tx) (p:Tx) (s:RP),(∀c∈r,c≠133)→s.2.ws=true→s.2.idn=true →
  ((p=[]→s.2.c=0)→tx (bE e i r true p s).1=tx s.1++(p.flatMap (rZ e)++nj e (sp i) r)∧(bE e i r true p s).2.ws=true∧(bE e i r true p s).2.idn=true∧(bE e i r true p s).2.c=0) ∧
  (tx (bE e i r false p s).1=tx s.1++(p++uY e (sp i) r)∧(bE e i r false p s).2.ws=true∧(bE e i r false p s).2.idn=true∧(bE e i r false p s).2.c=0)
 |[],p,s,hr,hw,hd=>⟨λhc=>by
   obtain⟨h1,h2,h3⟩:=o9 (e:=e) (p:=p) hw hd hc;refine⟨?_,h1,h2,h3⟩;show tx (ey e p s).1=_++(_++[]);rw[r5,fw],by
   refine⟨?_,rfl,rfl,rfl⟩;show tx (oU e (qW p s)).1=_++(_++e);rw[r4,show tx (qW p s).1=tx s.1++p from tx_app,cu]⟩
 |c::r,p,s,hr,hw,hd=>by
  have hb:=AD (hr c (.head _));have hr:=λx m=>hr x (.tail _ m);constructor
  ·intro hc
   show tx (bif BR.contains c then bE e i r true (p++[c]) s else bE e i r false [c] (pIn e i (ey e p s))).1=tx s.1++(p.flatMap (rZ e)++bif B3.contains c then rZ e c++nj e (sp i) r else sp i++c::uY e (sp i) r)∧_;cases h:BR.contains c with
   |true=>
    rw[h] at hb;rw[← hb];have H:=(mO (e:=e) hi r (p++[c]) s hr hw hd).1 λz=>absurd z (by simp)
    have e1:bE e i (c::r) true p s=bE e i r true (p++[c]) s:=by show (bif BR.contains c then _ else _)=_;rw[h];rfl
    rw[e1];refine⟨H.1.trans ?_,H.2⟩;rw[Ij,cu];rfl
   |false=>
    rw[h] at hb;rw[← hb];obtain⟨h1,h2,h3⟩:=o9 (e:=e) (p:=p) hw hd hc;have A:=eW (e:=e) (i:=i) (s:=ey e p s) ⟨Int.le_of_eq h3.symm,λ_=>⟨h3,h1⟩⟩ hi;have H:=(mO (e:=e) hi r [c] (pIn e i (ey e p s)) hr A.w A.d).2;have e1:bE e i (c::r) true p s=bE e i r false [c] (pIn e i (ey e p s)):=by show (bif BR.contains c then _ else _)=_;rw[h];rfl
    rw[e1];refine⟨H.1.trans ?_,H.2⟩;rw[A.t];unfold F;rw[h2,r5];simp [cu]
  ·show tx (bif BR.contains c then bE e i r true [c] (qW p s) else bE e i r false (p++[c]) s).1=tx s.1++(p++bif B3.contains c then rZ e c++nj e (sp i) r else c::uY e (sp i) r)∧_
   cases h:BR.contains c with
   |true=>
    rw[h] at hb;rw[← hb];have H:=(mO (e:=e) hi r [c] (qW p s) hr hw hd).1 λz=>absurd z (by simp)
    have e1:bE e i (c::r) false p s=bE e i r true [c] (qW p s):=by show (bif BR.contains c then _ else _)=_;rw[h];rfl
    rw[e1];refine⟨H.1.trans ?_,H.2⟩;rw[show tx (qW p s).1=tx s.1++p from tx_app];simp [cu]
   |false=>
    rw[h] at hb;rw[← hb];have H:=(mO (e:=e) hi r (p++[c]) s hr hw hd).2;have e1:bE e i (c::r) false p s=bE e i r false (p++[c]) s:=by show (bif BR.contains c then _ else _)=_;rw[h];rfl
    rw[e1];refine⟨H.1.trans ?_,H.2⟩;simp [cu]
noncomputable def CG(m:Nat)(t:Tx):Tx:=124::iC m t
theorem Fd{K:Ko}{x:Tx}{b:Bool}{s:RP}:tx (pH K x b s).1=tx s.1++(eU s.2.ws true (124::x)++K.e):=by
 unfold pH;rw[r4];cases b with
 |true=>
  show tx (pWi (124::x) true false false s).1++K.e=_;rw[show tx (pWi (124::x) true false false s).1=tx s.1++eU s.2.ws true (124::x) from tx_app,cu]
 |false=>
  show tx (pWi (124::x) true false false s).1++K.e=_;rw[show tx (pWi (124::x) true false false s).1=tx s.1++eU s.2.ws true (124::x) from tx_app,cu]
theorem zo{K:Ko}{i:Int}{t:Tx}{s:RP}(hi:0≤i)(ht:∀c∈t,c≠133):tx (pLit K i t s).1=tx s.1++(eU s.2.ws true (CG K.m t)++(K.e++nj K.e (sp i) t))∧(pLit K i t s).2.ws=true∧(pLit K i t s).2.idn=true∧(pLit K i t s).2.c=0:=by
 unfold pLit;have H:=(mO (e:=K.e) hi t [] (pH K (iC K.m t) (mE (iC K.m t)) s) ht (by unfold pH;rfl) (by unfold pH;rfl)).1 λ_=>by unfold pH;rfl
 refine⟨H.1.trans ?_,H.2⟩;rw[Fd];simp [cu,CG]
inductive Nd
 |text (t:Tx) | word (w:Tx) | row (l:List Nd) | map (l:List (Nd×Nd))
noncomputable def dW{α:Type}(n:Nd)(t w:Tx→α)(r:List Nd→α)(m:List (Nd×Nd)→α):α:=Nd.casesOn (motive_1:=λ_=>α) n t w r m
noncomputable def ip(n:Nd):Bool:=dW n (λ_=>false) (λ_=>true) (λ_=>false) (λ_=>false)
noncomputable def g8(n:Nd):Tx:=dW n (λ_=>[]) (λw=>w) (λ_=>[]) (λ_=>[])
noncomputable def ef(n:Nd):Bool:=dW n (λt=>t.any BR.contains) (λ_=>true) (λ_=>true) (λ_=>true)
noncomputable def pa(au:Bool)(t:Tx):Bool:=!t.isEmpty&&(aS t.length 30&&eV au t)
noncomputable def av(au:Bool):Nat→Nd→Bool
 |0,n=>dW n (pa au) (λw=>wdL.contains w) (λ_=>false) (λ_=>false)
 |d+1,n=>dW n (pa au) (λw=>wdL.contains w) (λl=>!l.isEmpty&&l.all (av au d)) (λl=>!l.isEmpty&&l.all λp=>av au d p.1&&(ef p.1&&av au d p.2))
noncomputable def zp(I:Nd→List MV)(n:Nd):List MV:=dW n (λ_=>[]) (λ_=>[]) (λl=>l.flatMap I++[jD]) (λl=>(l.flatMap λp=>I p.1++I p.2)++[jE])
noncomputable def k9(n:Nd):MV:=dW n cq jC (λ_=>qB) (λ_=>qC)
noncomputable def bm:Nat→Nd→List MV
 |0,n=>[k9 n]
 |d+1,n=>k9 n::zp (bm d) n
noncomputable def cK(ck:Tx)(l:List Tx):Tx:=List.casesOn (motive:=λ_=>Tx) l [] λx r=>x++r.flatMap λy=>ck++y
noncomputable def dg(K:Ko)(I:Nd→Int→Tx)(n:Nd)(c:Int):Tx:=dW n (λt=>32::CG K.m t++(K.e++nj K.e (sp (c+Int.ofNat K.m)) t)) (λw=>32::w++K.e) (λ_=>sp (Int.ofNat K.m-1)++I n (c+Int.ofNat K.m)) (λ_=>sp (Int.ofNat K.m-1)++I n (c+Int.ofNat K.m))
noncomputable def tD(K:Ko)(I:Nd→Int→Tx)(n:Nd)(c:Int):Tx:=dW n (λ_=>dg K I n c) (λ_=>dg K I n c) (λ_=>K.e++(sp c++I n c)) (λ_=>K.e++(sp (c+Int.ofNat K.m)++I n (c+Int.ofNat K.m)))
noncomputable def cY(K:Ko)(I:Nd→Int→Tx)(p:Nd×Nd)(c:Int):Tx:=bif ip p.1 then g8 p.1++58::tD K I p.2 c else (63::dg K I p.1 c)++(sp c++58::dg K I p.2 c)
noncomputable def Ik(K:Ko)(I:Nd→Int→Tx)(n:Nd)(c:Int):Tx:=dW n (λ_=>[]) (λ_=>[]) (λl=>cK (sp c) (l.map λx=>45::dg K I x c)) (λl=>cK (sp c) (l.map λp=>cY K I p c))
noncomputable def inl(K:Ko):Nat→Nd→Int→Tx
 |0,_,_=>[]
 |d+1,n,c=>Ik K (inl K d) n c
noncomputable def Fe(m:Nat)(I:Nd→Bool)(n:Nd):Bool:=dW n (λt=>mE (iC m t)) (λ_=>false) (λl=>(l.getLast?.map I).getD false) (λl=>(l.getLast?.map λp=>I p.2).getD false)
noncomputable def oeN(m:Nat):Nat→Nd→Bool
 |0,n=>Fe m (λ_=>false) n
 |d+1,n=>Fe m (oeN m d) n
def Rw (l:List MV):Prop:=∀v∈l,∃x,v= .str x∧x≠[]
theorem Rw.add{l:List MV}{x:Tx}(h:Rw l)(hx:x≠[]):Rw (l++[.str x]):=λv m=>(List.mem_append.mp m).elim (h v) λm=>⟨x,qfz.mp m,hx⟩
theorem Rw.pIn{e:Tx}{i:Int}{s:RP}(h:Rw s.1)(he:e≠[]):Rw (pIn e i s).1:=by
 unfold Mine.pIn;show Rw (Aq _ _ (Aq _ _ s.1))
 have h1:Rw (Aq (aE i s.2.c s.2.ws s.2.idn) (.str e) s.1):=by
  cases aE i s.2.c s.2.ws s.2.idn with
  |true=>exact h.add he
  |false=>exact h
 cases hl:bX (aQ (aE i s.2.c s.2.ws s.2.idn) s.2.c) i with
 |false=>exact h1
 |true=>
  refine h1.add λz=>?_;have:aQ (aE i s.2.c s.2.ws s.2.idn) s.2.c<i:=uS hl;rw[iT] at z;have:=bJ List.length z;rw[List.length_replicate] at this;have h0:([]:Tx).length=0:=rfl;omega
theorem wU{b n:Bool}{x:Tx}(h:x≠[]):eU b n x≠[]:=by
 unfold eU;cases b|| !n with
 |true=>exact h
 |false=>exact nl _ _
theorem Rw.pWi{x:Tx}{n w d:Bool}{s:RP}(h:Rw s.1)(hx:x≠[]):Rw (pWi x n w d s).1:=h.add (wU hx)
theorem wV{w:Tx}(h:w∈wdL):w≠[]:=by
 have:∀w∈([[119],[120,121],[107,45,122]]:List Tx),w≠[]:=by decide
 exact this w h
theorem Rw.pWd{w:Tx}{s:RP}(h:Rw s.1)(hw:w∈wdL):Rw (pWd w s).1:=by
 unfold Mine.pWd;cases s.2.ws with
 |true=>exact h.add (wV hw)
 |false=>exact(h.add (by decide)).add (wV hw)
theorem CH{e:Tx}{b:Bool}{c:Nat}(he:e≠[]):uX e b c≠[]:=by
 cases b with
 |true=>exact he
 |false=>exact nl _ _
theorem Rw.brs{e:Tx}(he:e≠[]):∀{p:Tx} {s:RP},Rw s.1→Rw (ey e p s).1
 |[],s,h=>h
 |c::r,s,h=>Rw.brs he (p:=r) (s:=oU (uX e (eqX [c] [10]) c) s) (h.add (CH he))
theorem Rw.lit{e:Tx}{i:Int}(he:e≠[]):∀(r:Tx) (p:Tx) (s:RP),Rw s.1→Rw (bE e i r true p s).1∧(p≠[]→Rw (bE e i r false p s).1)
 |[],p,s,h=>⟨Rw.brs he h,λhp=>(h.add hp).add he⟩
 |c::r,p,s,h=>by
  refine⟨?_,λhp=>?_⟩
  ·show Rw (bif BR.contains c then bE e i r true (p++[c]) s else bE e i r false [c] (Mine.pIn e i (ey e p s))).1
   cases BR.contains c with
   |true=>exact(Rw.lit he r _ s h).1
   |false=>exact(Rw.lit he r [c] _ (Rw.pIn (Rw.brs he h) he)).2 (nl _ _)
  ·show Rw (bif BR.contains c then bE e i r true [c] (qW p s) else bE e i r false (p++[c]) s).1
   cases BR.contains c with
   |true=>exact(Rw.lit he r _ _ (h.add hp)).1
   |false=>exact(Rw.lit he r _ _ h).2 (by simp)
theorem Rw.pLit{K:Ko}{i:Int}{t:Tx}{s:RP}(he:K.e≠[])(h:Rw s.1):Rw (pLit K i t s).1:=by
 refine(Rw.lit he t [] _ ?_).1;unfold pH;cases mE (iC K.m t) with
 |true=>exact(Rw.pWi (n:=true) (w:=false) (d:=false) h (nl _ _)).add he
 |false=>exact(Rw.pWi (n:=true) (w:=false) (d:=false) h (nl _ _)).add he
theorem r6{e:Tx}:∀{p:Tx} {s:RP},(ey e p s).2.oe=s.2.oe
 |[],s=>rfl
 |c::r,s=>r6 (p:=r) (s:=oU (uX e (eqX [c] [10]) c) s)
theorem mP{e:Tx}{i:Int}:∀(r:Tx) (b:Bool) (p:Tx) (s:RP),(bE e i r b p s).2.oe=s.2.oe
 |[],true,p,s=>r6
 |[],false,p,s=>rfl
 |c::r,true,p,s=>by
  show (bif BR.contains c then bE e i r true (p++[c]) s else bE e i r false [c] (pIn e i (ey e p s))).2.oe=s.2.oe;cases BR.contains c with
  |true=>exact mP r true _ s
  |false=>exact(mP r false _ _).trans r6
 |c::r,false,p,s=>by
  show (bif BR.contains c then bE e i r true [c] (qW p s) else bE e i r false (p++[c]) s).2.oe=s.2.oe;cases BR.contains c with
  |true=>exact mP r true _ _
  |false=>exact mP r false _ s
theorem zq{K:Ko}{i:Int}{t:Tx}{s:RP}:(pLit K i t s).2.oe=mE (iC K.m t):=by
 refine(mP t true [] _).trans ?_;unfold pH;cases mE (iC K.m t)<;>rfl
structure KOk(K:Ko):Prop where
 m:K.m∈mL
 e:K.e≠[]
structure Bd(d:Nat)(a:Ms)(c:Int):Prop where
 hv:a.ind= .int c
 h0:0≤c
 h1:c+9*(d+1)≤500
 hs:a.is.length+d≤900
 hss:a.ss.length+d≤900
theorem Bd.ok{d:Nat}{a:Ms}{c:Int}(B:Bd d a c)(hc:0≤a.s.2.c):Ok a c:=⟨by rw[B.hv];exact .tail _ (.head _),B.h0,by have:=B.h1;omega,by have:=B.hs;omega,by have:=B.hss;omega,hc⟩
structure Dn(K:Ko)(T:Option (List MV))(a:Ms)(E:List MV)(f:Nat)(ss is:List MV)(ind:MV)(X:Tx)(o:Bool)(b:Ms):Prop where
 p:Path K T a E b
 st:b.st=f
 ss:b.ss=ss
 is:b.is=is
 ind:b.ind=ind
 tp:b.tp=a.tp
 s:Settled b.s
 x:F K.e b.s=X
 rw:Rw b.s.1
 oe:b.s.2.oe=o
def kL (K:Ko) (T:Option (List MV)) (a:Ms) (p:Pr) (n:Nd):Prop:=dW n
 (λt=>∀r,∃an,qX K T (cq t) r a an p∧(an= .none∨ ∃x,an=kj t (t.any BR.contains) x)) (λw=>∀r,qX K T (jC w) r a .none p)
 (λ_=>∀c fs r,c∈nod→qX K T qB (.inst c fs::r) a .none p) (λ_=>∀c fs r,c∈nod→qX K T qC (.inst c fs::r) a .none p)
theorem nN{au:Bool}:∀{t:Tx},eV au t=true→ ∀c∈t,c≠133
 |z::r,h,c,m=>by
  have h1:=ab h;have h2:eV au r=true:=aa (aa h);rcases qkz.mp m with rfl | m
  ·rintro rfl
   have:(alA.contains 133||(au&&alW.contains 133))=false:=by cases au<;>kernel_rfl
   rw[this] at h1;exact aB h1
  ·exact nN h2 c m
structure TxOk(au:Bool)(t:Tx):Prop where
 ne:t≠[]
 le:t.length≤30
 ok:eV au t=true
theorem tF{au:Bool}{t:Tx}(h:pa au t=true):TxOk au t:=⟨λe=>by rw[e] at h;exact aB h,kM (ab (aa h)),aa (aa h)⟩
theorem zr{e:Tx}{s:RP}(h:s.2.idn=true):F e s=tx s.1:=by
 unfold F;rw[h];exact fw _
theorem lC{e:Tx}{s:RP}(h:s.2.idn=false):F e s=tx s.1++e:=by
 unfold F;rw[h];rfl
section
variable {K:Ko}{T:Option (List MV)}(hK:KOk K)
include hK
theorem pb{a:Ms}{p:Pr}{t:Tx}{i j:Int}{Z:Tx}{wsb:Bool}(A:Ok a i)(hst:a.st∈stL)(P:kL K T a p (.text t))(hk:p.sk=false)(ht:TxOk K.au t)(hu:iV (jM K a.ind)=j)(hj:0≤j)(hz:tx p.s.1=Z)(hw:p.s.2.ws=wsb)(hr:Rw p.s.1)(hp:p=bc K a false) :
  ∃b,Dn K T a [cq t] p.f a.ss a.is a.ind (Z++(eU wsb true (CG K.m t)++(K.e++nj K.e (sp j) t))) (mE (iC K.m t)) b:=by
 obtain⟨h1,h2,h3,h4⟩:=zo (K:=K) (i:=j) (t:=t) (s:=p.s) hj (nN ht.ok);refine⟨⟨p.f,a.ind,p.rt,p.sc,p.mc,false,a.tp,a.ss,a.is,pLit K (iV (jM K a.ind)) t p.s⟩,mN hst rfl (λr=>?_) (by rw[hp];rfl),rfl,rfl,rfl,rfl,rfl,?_,?_,Rw.pLit hK.e hr,zq⟩
 ·obtain⟨an,E,ha⟩:=P r
  exact zk A E hk ha hK.m ht.ne (by have:=ht.le;omega) ht.ok
 ·rw[hu]
  exact⟨Int.le_of_eq h4.symm,λ_=>⟨h4,h2⟩⟩
 ·rw[hu,zr h3,h1,hz,hw]
theorem tG{a:Ms}{p:Pr}{w:Tx}{i:Int}{Z:Tx}(A:Ok a i)(hst:a.st∈stL)(P:kL K T a p (.word w))(hrt:p.rt=false)(hwd:w∈wdL)(hz:tx p.s.1=Z)(hw:p.s.2.ws=false)(hc:0≤p.s.2.c)(hr:Rw p.s.1)(ho:p.s.2.oe=false)(hp:p=bc K a true) :
  ∃b,Dn K T a [jC w] p.f a.ss a.is a.ind (Z++(32::w++K.e)) false b:=by
 obtain⟨h1,h2,h3,h4⟩:=Fa (w:=w) hw hc;refine⟨⟨p.f,a.ind,false,p.sc,p.mc,p.sk,a.tp,a.ss,a.is,pWd w p.s⟩,mN hst rfl (λr=>tB A (P r) hrt (.inl rfl) hwd) (by rw[hp];rfl),rfl,rfl,rfl,rfl,rfl,⟨h3,λz=>aB (h2.symm.trans z)⟩,?_,Rw.pWd hr hwd,?_⟩
 ·rw[lC h2,h1,hz,cu]
 ·show (pWd w p.s).2.oe=false
  unfold pWd;rw[hw];exact ho
end
noncomputable def Ff:Nat→Nd→List MV
 |0,_=>[]
 |d+1,n=>zp (bm d) n
theorem pc:∀{d:Nat} {n:Nd},bm d n=k9 n::Ff d n
 |0,n=>rfl
 |d+1,n=>rfl
theorem pe(n:Nd):∃c fs,k9 n= .inst c fs∧c∈nod:=by
 cases n with
 |text t=>exact⟨10,_,rfl,.head _⟩
 |word w=>exact⟨10,_,rfl,.head _⟩
 |row l=>exact⟨11,_,rfl,.tail _ (.head _)⟩
 |map l=>exact⟨13,_,rfl,.tail _ (.tail _ (.head _))⟩
noncomputable def lb(n:Nd):Bool:=dW n (λ_=>false) (λ_=>false) (λ_=>true) (λ_=>true)
theorem CI{au:Bool}:∀{d:Nat} {n:Nd},av au d n=true→lb n=true→ ∃c fs E,Ff d n= .inst c fs::E∧c∈nod
 |0,.row l,h,_=>aB h
 |0,.map l,h,_=>aB h
 |d+1,.row [],h,_=>aB h
 |d+1,.map [],h,_=>aB h
 |d+1,.row (x::r),h,_=>by
  obtain⟨c,fs,e,hc⟩:=pe x;refine⟨c,fs,Ff d x++(r.flatMap (bm d)++[jD]),?_,hc⟩;show (bm d x++r.flatMap (bm d))++[jD]=_;rw[pc,e,cu];rfl
 |d+1,.map (p::r),h,_=>by
  obtain⟨c,fs,e,hc⟩:=pe p.1;refine⟨c,fs,Ff d p.1++(bm d p.2++((r.flatMap λp=>bm d p.1++bm d p.2)++[jE])),?_,hc⟩;show ((bm d p.1++bm d p.2)++r.flatMap λp=>bm d p.1++bm d p.2)++[jE]=_;rw[pc,e];simp [cu]
theorem Dn.app{K:Ko}{T:Option (List MV)}{a b c:Ms}{E E':List MV}{f f':Nat}{ss is ss' is':List MV}{v v':MV}{X X':Tx}{o o':Bool}(h:Dn K T a E f ss is v X o b)(g:Dn K T b E' f' ss' is' v' X' o' c):Dn K T a (E++E') f' ss' is' v' X' o' c:=
 ⟨h.p.app g.p,g.st,g.ss,g.is,g.ind,g.tp.trans h.tp,g.s,g.x,g.rw,g.oe⟩
theorem Bd.of{d:Nat}{a b:Ms}{c:Int}(B:Bd d a c)(h1:b.ss=a.ss)(h2:b.is=a.is)(h3:b.ind=a.ind):Bd d b c:=⟨h3.trans B.hv,B.h0,B.h1,h2▸B.hs,h1▸B.hss⟩
theorem CJ{K:Ko}{a:Ms}(h:a.st=18)(b:Bool):bc K a b=⟨17,true,false,false,false,a.s⟩:=by unfold bc;rw[h];rfl
theorem tH{K:Ko}{a:Ms}(h:a.st=22∨a.st=23)(b:Bool):bc K a b=⟨23,false,true,false,false,pWi [45] true false true (nx K a)⟩:=by
 unfold bc;rcases h with h | h<;>rw[h]<;>rfl
theorem Fg{K:Ko}{a:Ms}(h:a.st=25∨a.st=26)(b:Bool):bc K a b=H7 K a b:=by
 unfold bc;rcases h with h | h<;>rw[h]<;>rfl
theorem Il{K:Ko}{a:Ms}(h:a.st=28)(b:Bool):bc K a b=⟨26,false,false,true,false,pWi [58] true false true (nx K a)⟩:=by unfold bc;rw[h];rfl
section
variable {K:Ko}{T:Option (List MV)}{a:Ms}{i:Int}(A:Ok a i)
include A
theorem qG(h:a.st=22∨a.st=23)(n:Nd):kL K T a ⟨23,false,true,false,false,pWi [45] true false true (nx K a)⟩ n:=by
 have H:∀c fs r,c∈nod→qX K T (.inst c fs) r a .none ⟨23,false,true,false,false,pWi [45] true false true (nx K a)⟩:=λc fs r hc=>by
  rcases h with h | h
  ·exact E1 A hc h
  ·exact E3 A hc h
 cases n with
 |text t=>exact λr=>⟨.none,H 10 _ r (.head _),.inl rfl⟩
 |word w=>exact λr=>H 10 _ r (.head _)
 |row l=>exact λc fs r hc=>H 11 _ _ (.tail _ (.head _))
 |map l=>exact λc fs r hc=>H 13 _ _ (.tail _ (.tail _ (.head _)))
theorem CK(h:a.st=27)(n:Nd):kL K T a ⟨26,false,false,true,false,pWi [58] false false false a.s⟩ n:=by
 cases n with
 |text t=>exact λr=>⟨.none,tz A h,.inl rfl⟩
 |word w=>exact λr=>tz A h
 |row l=>exact λc fs r hc=>tz A h
 |map l=>exact λc fs r hc=>tz A h
theorem CL(h:a.st=28)(n:Nd):kL K T a ⟨26,false,false,true,false,pWi [58] true false true (nx K a)⟩ n:=by
 cases n with
 |text t=>exact λr=>⟨.none,tA A h,.inl rfl⟩
 |word w=>exact λr=>tA A h
 |row l=>exact λc fs r hc=>tA A h
 |map l=>exact λc fs r hc=>tA A h
theorem zt(h:a.st=25∨a.st=26){d:Nat}{n:Nd}(ho:av K.au d n=true)(hk:ef n=true)(hw:ip n=false):kL K T a ⟨28,false,false,true,false,pWi [63] true false true (nx K a)⟩ n:=by
 cases n with
 |text t=>
  have ht:TxOk K.au t:=tF (by cases d<;>exact ho)
  refine λr=>?_;obtain⟨x,j⟩:=H6 K (io a (cq t) .none) ⟨a.ss,r,a.is,[],T⟩ (nx K a) ht.ne (by have:=ht.le;omega) ht.ok hk
  exact⟨_,ty A (.head _) h false j,.inr ⟨x,by rw[show t.any BR.contains=true from hk]⟩⟩
 |word w=>exact aB hw.symm
 |row l=>exact λc fs r hc=>ty A (.tail _ (.head _)) h false (EY K (io a qB .none) (nx K a) fs hc (.head _))
 |map l=>exact λc fs r hc=>ty A (.tail _ (.tail _ (.head _))) h false (EY K (io a qC .none) (nx K a) fs hc (.tail _ (.head _)))
theorem wW(h:a.st=25∨a.st=26){w:Tx}(hw:w∈wdL)(hst:a.st∈stL):Path K T a [jC w] ⟨27,a.ind,false,false,true,true,a.tp,a.ss,a.is,pWd w (nx K a)⟩:=
 mN hst rfl (λr=>tB A (p:=⟨27,false,false,true,true,nx K a⟩) (ty A (.head _) h true (H5 K (io a (jC w) .none) ⟨a.ss,r,a.is,[],T⟩ (nx K a) hw)) rfl (.inr rfl) hw) (by
  show _=(⟨(bc K a true).f,a.ind,false,(bc K a true).sc,(bc K a true).mc,(bc K a true).sk,a.tp,a.ss,a.is,pWd w (bc K a true).s⟩:Ms);rw[Fg h];rfl)
end
noncomputable def Kr(n:Nd):Nat:=dW n (λ_=>22) (λ_=>22) (λ_=>22) (λ_=>25)
def iU (K:Ko) (T:Option (List MV)) (d:Nat):Prop:=∀(n:Nd),lb n=true→av K.au d n=true→ ∀(a:Ms) (c:Int) (f:Nat) (S I:List MV) (v:MV) (Y:Tx),Bd d a c→a.st=Kr n→a.ss=S++[.meth f .em]→a.is=I++[v]→At (nx K a) c Y→Rw a.s.1→0≤a.s.2.c →
 ∃b,Dn K T a (Ff d n) f S I v (Y++inl K d n c) (oeN K.m d n) b
theorem uZ{K:Ko}(hK:KOk K):2≤Int.ofNat K.m∧Int.ofNat K.m≤9:=by
 have:=Az hK.m;have:(Int.ofNat K.m:Int)=(K.m:Int):=rfl;omega
theorem gf{au:Bool}{d:Nat}{t:Tx}(h:av au d (.text t)=true):TxOk au t:=tF (by cases d<;>exact h)
theorem gg{au:Bool}{d:Nat}{w:Tx}(h:av au d (.word w)=true):w∈wdL:=by
 have h:wdL.contains w=true:=by cases d<;>exact h
 exact List.contains_iff_mem.mp h
theorem tI{m d:Nat}{t:Tx}:oeN m d (.text t)=mE (iC m t):=by cases d<;>rfl
theorem tJ{m d:Nat}{w:Tx}:oeN m d (.word w)=false:=by cases d<;>rfl
section
variable {K:Ko}{T:Option (List MV)}(hK:KOk K)
include hK
theorem ig{d:Nat}(P:iU K T d){n:Nd}(hc:lb n=true)(ho:av K.au d n=true){a b0:Ms}{c:Int}{f:Nat}{Y:Tx}(hst:a.st∈stL)(htp:b0.tp=a.tp)
  (hs:∀k fs r,k∈nod→fM K T (k9 n) (.inst k fs::r) a b0) (hu:g7 (kc (k9 n))=true) (hd:b0=DJ K a (k9 n)) (B:Bd d b0 c) (h1:b0.st=Kr n) (h2:b0.ss=a.ss++[.meth f .em]) (h3:b0.is=a.is++[a.ind]) (hA:At (nx K b0) c Y) (hr:Rw b0.s.1) (h0:0≤b0.s.2.c) :
  ∃b,Dn K T a (bm d n) f a.ss a.is a.ind (Y++inl K d n c) (oeN K.m d n) b:=by
 obtain⟨b,D⟩:=P n hc ho b0 c f a.ss a.is a.ind Y B h1 h2 h3 hA hr h0;obtain⟨k,fs,E,e,hk⟩:=CI ho hc;refine⟨b,?_,D.st,D.ss,D.is,D.ind,D.tp.trans htp,D.s,D.x,D.rw,D.oe⟩;have p:=D.p;rw[pc];rw[e] at p ⊢;exact AC hst (λr=>hs k fs r hk) hu hd p
theorem lD{d:Nat}(P:iU K T d){n:Nd}(ho:av K.au d n=true){a:Ms}{p:Pr}{c:Int}{Z:Tx}(B:Bd (d+1) a c)(hc:0≤a.s.2.c)(hst:a.st∈stL)(PO:kL K T a p n)(hk:p.sk=false)(hrt:p.rt=false)(A:After p.s c Z)(hr:Rw p.s.1)(hoe:p.s.2.oe=false)(hp:p=bc K a (ip n)) :
  ∃b,Dn K T a (bm d n) p.f a.ss a.is a.ind (Z++dg K (inl K d) n c) (oeN K.m d n) b:=by
 obtain⟨m2,m9⟩:=uZ hK;have b1:=B.h1;have b2:=B.hs;have b3:=B.hss;have b0:=B.h0;cases n with
 |text t=>
  obtain⟨b,D⟩:=pb hK (B.ok hc) hst PO hk (gf ho) (j:=c+Int.ofNat K.m) (by rw[B.hv];rfl) (by omega) A.t A.w hr hp
  refine⟨b,?_⟩;rw[tI];cases d<;>exact D
 |word w=>
  obtain⟨b,D⟩:=tG hK (B.ok hc) hst PO hrt (gg ho) A.t A.w (by rw[A.c];omega) hr hoe hp
  refine⟨b,?_⟩;rw[tJ];cases d<;>exact D
 |row l=>
  have hi:mG K a.ind p.mc p.s.2.idn= .int (c+Int.ofNat K.m):=by
   rw[A.d,B.hv];cases p.mc<;>rfl
  obtain⟨b,D⟩:=ig (T:=T) (n:=.row l) hK P rfl ho (a:=a) (b0:=⟨22,mG K a.ind p.mc p.s.2.idn,p.rt,p.sc,p.mc,p.sk,a.tp,a.ss++[MV.meth p.f Loc.em],a.is++[a.ind],p.s⟩) (c:=c+Int.ofNat K.m) (Y:=Z++sp (Int.ofNat K.m-1)) (f:=p.f) hst rfl
   (λk fs r hk=>rW (B.ok hc) hk (PO k fs r hk)) rfl (by rw[hp];rfl) ⟨hi,by omega,by omega,by show (a.is++[a.ind]).length+d≤_;rw[a7];show a.is.length+1+d≤_;omega,by show (a.ss++[_]).length+d≤_;rw[a7];show a.ss.length+1+d≤_;omega⟩ rfl rfl rfl
   (by unfold nx;rw[hi];exact wT A m2) hr (by show 0≤p.s.2.c;rw[A.c];omega)
  exact⟨b,by rw[cu] at D;exact D⟩
 |map l=>
  have hi:mH K a.ind= .int (c+Int.ofNat K.m):=by rw[B.hv];rfl
  obtain⟨b,D⟩:=ig (T:=T) (n:=.map l) hK P rfl ho (a:=a) (b0:=⟨25,mH K a.ind,p.rt,p.sc,p.mc,p.sk,a.tp,a.ss++[MV.meth p.f Loc.em],a.is++[a.ind],p.s⟩) (c:=c+Int.ofNat K.m) (Y:=Z++sp (Int.ofNat K.m-1)) (f:=p.f) hst rfl
   (λk fs r hk=>rX (B.ok hc) hk (PO k fs r hk)) rfl (by rw[hp];rfl) ⟨hi,by omega,by omega,by show (a.is++[a.ind]).length+d≤_;rw[a7];show a.is.length+1+d≤_;omega,by show (a.ss++[_]).length+d≤_;rw[a7];show a.ss.length+1+d≤_;omega⟩ rfl rfl rfl
   (by unfold nx;rw[hi];exact wT A m2) hr (by show 0≤p.s.2.c;rw[A.c];omega)
  exact⟨b,by rw[cu] at D;exact D⟩
theorem CM{d:Nat}(P:iU K T d){n:Nd}(ho:av K.au d n=true){a:Ms}{p:Pr}{c:Int}{Z:Tx}(B:Bd (d+1) a c)(hc:0≤a.s.2.c)(hst:a.st∈stL)(PO:kL K T a p n)(hk:p.sk=false)(hrt:p.rt=false)(hmc:p.mc=true)(ht:tx p.s.1=Z)(hw:p.s.2.ws=false)(hd:p.s.2.idn=false)(hpc:0≤p.s.2.c)(hr:Rw p.s.1)(hoe:p.s.2.oe=false)(hp:p=bc K a (ip n)) :
  ∃b,Dn K T a (bm d n) p.f a.ss a.is a.ind (Z++tD K (inl K d) n c) (oeN K.m d n) b:=by
 obtain⟨m2,m9⟩:=uZ hK;have b1:=B.h1;have b2:=B.hs;have b3:=B.hss;have b0:=B.h0;have hS:Settled p.s:=⟨hpc,λz=>aB (hd.symm.trans z)⟩;have hF:F K.e p.s=Z++K.e:=by rw[lC hd,ht]
 cases n with
 |text t=>
  obtain⟨b,D⟩:=pb hK (B.ok hc) hst PO hk (gf ho) (j:=c+Int.ofNat K.m) (by rw[B.hv];rfl) (by omega) ht hw hr hp
  refine⟨b,?_⟩;rw[tI];cases d<;>exact D
 |word w=>
  obtain⟨b,D⟩:=tG hK (B.ok hc) hst PO hrt (gg ho) ht hw hpc hr hoe hp;refine⟨b,?_⟩;rw[tJ];cases d<;>exact D
 |row l=>
  have hi:mG K a.ind p.mc p.s.2.idn= .int c:=by rw[hd,B.hv,hmc];rfl
  obtain⟨b,D⟩:=ig (T:=T) (n:=.row l) hK P rfl ho (a:=a) (b0:=⟨22,mG K a.ind p.mc p.s.2.idn,p.rt,p.sc,p.mc,p.sk,a.tp,a.ss++[MV.meth p.f Loc.em],a.is++[a.ind],p.s⟩) (c:=c) (Y:=(Z++K.e)++sp c) (f:=p.f) hst rfl
   (λk fs r hk=>rW (B.ok hc) hk (PO k fs r hk)) rfl (by rw[hp];rfl) ⟨hi,by omega,by omega,by show (a.is++[a.ind]).length+d≤_;rw[a7];show a.is.length+1+d≤_;omega,by show (a.ss++[_]).length+d≤_;rw[a7];show a.ss.length+1+d≤_;omega⟩ rfl rfl rfl
   (by unfold nx;rw[hi,← hF];exact eW hS b0) hr hpc
  exact⟨b,by rw[cu,cu] at D;exact D⟩
 |map l=>
  have hi:mH K a.ind= .int (c+Int.ofNat K.m):=by rw[B.hv];rfl
  obtain⟨b,D⟩:=ig (T:=T) (n:=.map l) hK P rfl ho (a:=a) (b0:=⟨25,mH K a.ind,p.rt,p.sc,p.mc,p.sk,a.tp,a.ss++[MV.meth p.f Loc.em],a.is++[a.ind],p.s⟩) (c:=c+Int.ofNat K.m) (Y:=(Z++K.e)++sp (c+Int.ofNat K.m)) (f:=p.f) hst rfl
   (λk fs r hk=>rX (B.ok hc) hk (PO k fs r hk)) rfl (by rw[hp];rfl) ⟨hi,by omega,by omega,by show (a.is++[a.ind]).length+d≤_;rw[a7];show a.is.length+1+d≤_;omega,by show (a.ss++[_]).length+d≤_;rw[a7];show a.ss.length+1+d≤_;omega⟩ rfl rfl rfl
   (by unfold nx;rw[hi,← hF];exact eW hS (by show 0≤c+Int.ofNat K.m;omega)) hr hpc
  exact⟨b,by rw[cu,cu] at D;exact D⟩
end
theorem pf{ck x y:Tx}{r:List Tx}:cK ck (x::y::r)=x++(ck++cK ck (y::r)):=by
 show x++((ck++y)++r.flatMap λy=>ck++y)=x++(ck++(y++r.flatMap λy=>ck++y));rw[cu ck]
section
variable {K:Ko}{T:Option (List MV)}(hK:KOk K)
include hK
theorem qH{d:Nat}(P:iU K T d):∀(l:List Nd) (x:Nd),(∀y∈x::l,av K.au d y=true)→ ∀{a:Ms} {c:Int} {Y:Tx},Bd (d+1) a c→(a.st=22∨a.st=23)→At (nx K a) c Y→Rw a.s.1→0≤a.s.2.c →
  ∃b,Dn K T a ((x::l).flatMap (bm d)) 23 a.ss a.is a.ind (Y++cK (sp c) ((x::l).map λx=>45::dg K (inl K d) x c)) ((((x::l).getLast?).map (oeN K.m d)).getD false) b
 |[],x,ho,a,c,Y,B,hst,hA,hr,hc=>by
  have hL:a.st∈stL:=by rcases hst with h | h<;>rw[h]<;>decide
  obtain⟨b,D⟩:=lD hK P (ho x (.head _)) B hc hL (qG (B.ok hc) hst x) rfl rfl (o1 (m:=45) hA) (Rw.pWi (Rw.pIn hr hK.e) (nl _ _)) rfl (tH hst _).symm;refine⟨b,?_⟩
  have e:(Y++[45])++dg K (inl K d) x c=Y++cK (sp c) ([x].map λx=>45::dg K (inl K d) x c):=by
   rw[cu];show Y++(45::dg K (inl K d) x c)=Y++((45::dg K (inl K d) x c)++[]);rw[fw]
  rw[e] at D;rw[show [x].flatMap (bm d)=bm d x from fw _];exact D
 |y::l,x,ho,a,c,Y,B,hst,hA,hr,hc=>by
  have hL:a.st∈stL:=by rcases hst with h | h<;>rw[h]<;>decide
  obtain⟨b,D⟩:=lD hK P (ho x (.head _)) B hc hL (qG (B.ok hc) hst x) rfl rfl (o1 (m:=45) hA) (Rw.pWi (Rw.pIn hr hK.e) (nl _ _)) rfl (tH hst _).symm
  have hA2:At (nx K b) c (F K.e b.s++sp c):=by
   unfold nx;rw[D.ind,B.hv];exact eW D.s B.h0
  obtain⟨b2,D2⟩:=qH P l y (λz m=>ho z (.tail _ m)) (B.of D.ss D.is D.ind) (.inr D.st) hA2 D.rw D.s.c;have D3:=D.app D2;rw[D.ss,D.is,D.ind,D.x] at D3;refine⟨b2,?_⟩
  have e:(((Y++[45])++dg K (inl K d) x c)++sp c)++cK (sp c) ((y::l).map λx=>45::dg K (inl K d) x c)=Y++cK (sp c) ((x::y::l).map λx=>45::dg K (inl K d) x c):=by
   rw[show cK (sp c) ((x::y::l).map λx=>45::dg K (inl K d) x c)=(45::dg K (inl K d) x c)++(sp c++cK (sp c) ((y::l).map λx=>45::dg K (inl K d) x c)) from pf];generalize cK (sp c) ((y::l).map λx=>45::dg K (inl K d) x c)=W;simp [cu]
  rw[e] at D3;exact D3
theorem tK{d:Nat}(P:iU K T d){p:Nd×Nd}(h1:av K.au d p.1=true)(h2:ef p.1=true)(h3:av K.au d p.2=true){a:Ms}{c:Int}{Y:Tx}(B:Bd (d+1) a c)(hst:a.st=25∨a.st=26)(hA:At (nx K a) c Y)(hr:Rw a.s.1)(hc:0≤a.s.2.c) :
  ∃b,Dn K T a (bm d p.1++bm d p.2) 26 a.ss a.is a.ind (Y++cY K (inl K d) p c) (oeN K.m d p.2) b:=by
 have hL:a.st∈stL:=by rcases hst with h | h<;>rw[h]<;>decide
 obtain⟨k,v⟩:=p;cases hw:ip k with
 |true=>
  obtain⟨w,rfl⟩:∃w,k= .word w:=by
   cases k with
   |word w=>exact⟨w,rfl⟩
   |_=>exact aB hw
  obtain⟨q1,q2,q3,q4⟩:=Fb (w:=w) hA;have pk:=wW (K:=K) (T:=T) (B.ok hc) hst (gg h1) hL
  have hcw:0≤(pWd w (nx K a)).2.c:=by
   rw[q3];have:=B.h0;have:(Int.ofNat w.length:Int)=(w.length:Int):=rfl;omega
  have hB:Bd (d+1) (⟨27,a.ind,false,false,true,true,a.tp,a.ss,a.is,pWd w (nx K a)⟩:Ms) c:=B.of rfl rfl rfl
  obtain⟨b,D⟩:=CM hK P h3 hB hcw (by show 27∈stL;decide) (CK (hB.ok hcw) rfl v) rfl rfl rfl (Z:=(Y++w)++[58])
   (tx_app.trans (by rw[q1,q4];rfl)) rfl (by show ((pWd w (nx K a)).2.idn&&false)=false;cases (pWd w (nx K a)).2.idn<;>rfl) (Int.add_nonneg hcw (Int.natCast_nonneg _)) (Rw.pWi (Rw.pWd (Rw.pIn hr hK.e) (gg h1)) (nl _ _)) rfl rfl
  refine⟨b,?_⟩
  have e:((Y++w)++[58])++tD K (inl K d) v c=Y++cY K (inl K d) (.word w,v) c:=by
   show _=Y++(w++58::tD K (inl K d) v c);simp [cu]
  have ek:bm d (.word w)=[jC w]:=by cases d<;>rfl
  have p:=D.p;rw[← e,ek];exact⟨pk.app p,D.st,D.ss,D.is,D.ind,D.tp,D.s,D.x,D.rw,D.oe⟩
 |false=>
  obtain⟨b,D⟩:=lD hK P h1 B hc hL (zt (B.ok hc) hst h1 h2 hw) rfl rfl (o1 (m:=63) hA) (Rw.pWi (Rw.pIn hr hK.e) (nl _ _)) rfl (by rw[hw,Fg hst];rfl)
  have hA2:At (nx K b) c (F K.e b.s++sp c):=by
   unfold nx;rw[D.ind,B.hv];exact eW D.s B.h0
  have hB:Bd (d+1) b c:=B.of D.ss D.is D.ind;obtain⟨b2,D2⟩:=lD hK P h3 hB D.s.c (by rw[D.st];show 28∈stL;decide) (CL (hB.ok D.s.c) D.st v) rfl rfl (o1 (m:=58) hA2) (Rw.pWi (Rw.pIn D.rw hK.e) (nl _ _)) rfl (Il D.st _).symm
  have D3:=D.app D2;rw[D.ss,D.is,D.ind,D.x] at D3;refine⟨b2,?_⟩
  have e:((((Y++[63])++dg K (inl K d) k c)++sp c)++[58])++dg K (inl K d) v c=Y++cY K (inl K d) (k,v) c:=by
   unfold cY;rw[show ip (k,v).1=false from hw];show _=Y++((63::dg K (inl K d) k c)++(sp c++58::dg K (inl K d) v c));simp [cu]
  rw[e] at D3;exact D3
theorem qI{d:Nat}(P:iU K T d):∀(l:List (Nd×Nd)) (x:Nd×Nd),(∀p∈x::l,(av K.au d p.1&&(ef p.1&&av K.au d p.2))=true)→ ∀{a:Ms} {c:Int} {Y:Tx},Bd (d+1) a c→(a.st=25∨a.st=26)→At (nx K a) c Y→Rw a.s.1→0≤a.s.2.c →
  ∃b,Dn K T a ((x::l).flatMap λp=>bm d p.1++bm d p.2) 26 a.ss a.is a.ind (Y++cK (sp c) ((x::l).map λp=>cY K (inl K d) p c)) ((((x::l).getLast?).map λp=>oeN K.m d p.2).getD false) b
 |[],x,ho,a,c,Y,B,hst,hA,hr,hc=>by
  have h:=ho x (.head _);obtain⟨b,D⟩:=tK hK P (ab h) (ab (aa h)) (aa (aa h)) B hst hA hr hc;refine⟨b,?_⟩
  have e:Y++cY K (inl K d) x c=Y++cK (sp c) ([x].map λp=>cY K (inl K d) p c):=by
   show _=Y++(cY K (inl K d) x c++[]);rw[fw]
  rw[e] at D;rw[show ([x].flatMap λp=>bm d p.1++bm d p.2)=bm d x.1++bm d x.2 from fw _];exact D
 |y::l,x,ho,a,c,Y,B,hst,hA,hr,hc=>by
  have h:=ho x (.head _);obtain⟨b,D⟩:=tK hK P (ab h) (ab (aa h)) (aa (aa h)) B hst hA hr hc
  have hA2:At (nx K b) c (F K.e b.s++sp c):=by
   unfold nx;rw[D.ind,B.hv];exact eW D.s B.h0
  obtain⟨b2,D2⟩:=qI P l y (λz m=>ho z (.tail _ m)) (B.of D.ss D.is D.ind) (.inr D.st) hA2 D.rw D.s.c;have D3:=D.app D2;rw[D.ss,D.is,D.ind,D.x] at D3;refine⟨b2,?_⟩
  have e:((Y++cY K (inl K d) x c)++sp c)++cK (sp c) ((y::l).map λp=>cY K (inl K d) p c)=Y++cK (sp c) ((x::y::l).map λp=>cY K (inl K d) p c):=by
   rw[show cK (sp c) ((x::y::l).map λp=>cY K (inl K d) p c)=cY K (inl K d) x c++(sp c++cK (sp c) ((y::l).map λp=>cY K (inl K d) p c)) from pf];generalize cK (sp c) ((y::l).map λp=>cY K (inl K d) p c)=W;simp [cu]
  rw[e] at D3;exact D3
theorem pg{a:Ms}{st:Nat}{ss is:List MV}(h1:a.st=st)(h2:a.ss=ss)(h3:a.is=is):a=⟨st,a.ind,a.rt,a.sc,a.mc,a.sk,a.tp,ss,is,a.s⟩:=by
 subst h1 h2 h3;rfl
theorem mQ:∀d,iU K T d
 |0=>λn hc ho=>by
  cases n with
  |row l=>exact aB ho
  |map l=>exact aB ho
  |_=>exact aB hc
 |d+1=>λn hc ho a c f S I v Y B hst hss his hA hr h0=>by
  have P:=mQ d;cases n with
  |row l=>
   cases l with
   |nil=>exact aB ho
   |cons x l=>
    have ho:(!(x::l).isEmpty&&(x::l).all (av K.au d))=true:=ho;obtain⟨b,D⟩:=qH hK P l x (λy m=>qdz.mp (aa ho) y m) B (.inl hst) hA hr h0;refine⟨⟨f,v,b.rt,b.sc,b.mc,b.sk,b.tp,S,I,b.s⟩,?_,rfl,rfl,rfl,rfl,D.tp,D.s,D.x,D.rw,D.oe⟩;refine D.p.app (mN (by rw[D.st];decide) rfl (λr=>?_) ?_)
    ·rw[pg hK D.st (D.ss.trans hss) (D.is.trans his)]
     exact zl
    ·rw[pg hK D.st (D.ss.trans hss) (D.is.trans his)]
     show _=(⟨Gl (S++[MV.meth f .em]).getLast?,((I++[v]).getLast?).getD .none,b.rt,b.sc,b.mc,b.sk,b.tp,(S++[MV.meth f .em]).dropLast,(I++[v]).dropLast,b.s⟩:Ms);rw[dC,dC,iS,iS];rfl
  |map l=>
   cases l with
   |nil=>exact aB ho
   |cons x l=>
    have ho:(!(x::l).isEmpty&&(x::l).all λp=>av K.au d p.1&&(ef p.1&&av K.au d p.2))=true:=ho;obtain⟨b,D⟩:=qI hK P l x (λy m=>qdz.mp (aa ho) y m) B (.inl hst) hA hr h0;refine⟨⟨f,v,b.rt,b.sc,b.mc,b.sk,b.tp,S,I,b.s⟩,?_,rfl,rfl,rfl,rfl,D.tp,D.s,D.x,D.rw,D.oe⟩;refine D.p.app (mN (by rw[D.st];decide) rfl (λr=>?_) ?_)
    ·rw[pg hK D.st (D.ss.trans hss) (D.is.trans his)]
     exact zm
    ·rw[pg hK D.st (D.ss.trans hss) (D.is.trans his)]
     show _=(⟨Gl (S++[MV.meth f .em]).getLast?,((I++[v]).getLast?).getD .none,b.rt,b.sc,b.mc,b.sk,b.tp,(S++[MV.meth f .em]).dropLast,(I++[v]).dropLast,b.s⟩:Ms);rw[dC,dC,iS,iS];rfl
  |_=>exact aB hc
end
noncomputable def a0:Ms:=⟨13,.none,false,false,false,false,.none,[],[],([],⟨0,0,true,true,false⟩)⟩
noncomputable def Gm(o:Bool):Tx:=bif o then [45,45,45] else []
noncomputable def CN(b:Bool)(e:Tx):Tx:=bif b then [46,46,46]++e else []
noncomputable def nO(K:Ko)(o:Bool)(n:Nd):Tx:=dW n (λt=>Gm o++(eU (!o) true (CG K.m t)++(K.e++nj K.e (sp (Int.ofNat K.m)) t))) (λ_=>[]) (λ_=>(bif o then [45,45,45]++K.e else [])++inl K 3 n 0) (λ_=>(bif o then [45,45,45]++K.e else [])++inl K 3 n 0)
noncomputable def zu(K:Ko)(o cl:Bool)(n:Nd):Tx:=nO K o n++CN (cl||oeN K.m 3 n) K.e
noncomputable def CO(o cl:Bool)(n:Nd):List MV:=gm::km o::(bm 3 n++[gY cl,ee])
section
variable {K:Ko}{T:Option (List MV)}(hK:KOk K)
include hK
theorem CP{e:Tx}{i:Int}{s:RP}:(pIn e i s).2.oe=s.2.oe:=rfl
theorem uM(o:Bool):∃s,s=(bif o then pWi [45,45,45] true false false (pIn K.e 0 a0.s) else a0.s)∧tx s.1=Gm o∧s.2.ws=(!o)∧Settled s∧F K.e s=(bif o then [45,45,45]++K.e else [])∧Rw s.1:=by
 have S0:Settled a0.s:=⟨li 0,λ_=>⟨rfl,rfl⟩⟩;have A:=eW (e:=K.e) S0 (li 0);have r0:Rw a0.s.1:=λv m=>(nX m).elim;cases o with
 |false=>exact⟨_,rfl,rfl,rfl,S0,rfl,r0⟩
 |true=>
  have ht:tx (pWi [45,45,45] true false false (pIn K.e 0 a0.s)).1=[45,45,45]:=by
   refine tx_app.trans ?_;rw[A.t,A.w];rfl
  have hd:(pWi [45,45,45] true false false (pIn K.e 0 a0.s)).2.idn=false:=by
   show ((pIn K.e 0 a0.s).2.idn&&false)=false;cases (pIn K.e 0 a0.s).2.idn<;>rfl
  refine⟨_,rfl,ht,rfl,⟨?_,λz=>aB (hd.symm.trans z)⟩,?_,Rw.pWi (Rw.pIn r0 hK.e) (nl _ _)⟩
  ·show 0≤(pIn K.e 0 a0.s).2.c+_
   rw[A.c];exact Int.add_nonneg (li 0) (Int.natCast_nonneg _)
  ·show F K.e (pWi [45,45,45] true false false (pIn K.e 0 a0.s))=_
   rw[lC hd,ht];rfl
theorem zv{n:Nd}(ho:av K.au 3 n=true)(hw:ip n=false){a:Ms}{o:Bool}(h1:a.st=18)(h2:a.ind= .none)(h3:a.ss=[])(h4:a.is=[])(ht:tx a.s.1=Gm o)(hws:a.s.2.ws= !o)(S:Settled a.s)(hF:F K.e a.s=(bif o then [45,45,45]++K.e else []))(hr:Rw a.s.1) :
  ∃b,Dn K T a (bm 3 n) 17 [] [] .none (nO K o n) (oeN K.m 3 n) b:=by
 obtain⟨m2,m9⟩:=uZ hK;have A:Ok a 0:=⟨by rw[h2];exact .head _,li 0,by decide,by rw[h4];decide,by rw[h3];decide,S.c⟩
 have hL:a.st∈stL:=by rw[h1];decide
 have E:∀e r,qX K T e r a .none ⟨17,true,false,false,false,a.s⟩:=λe r=>EZ A h1;have e0:(bif o then [45,45,45]++K.e else [])++sp 0=(bif o then [45,45,45]++K.e else []):=fw _;cases n with
 |text t=>
  obtain⟨b,D⟩:=pb hK A hL (p:=⟨17,true,false,false,false,a.s⟩) (λr=>⟨.none,E _ r,.inl rfl⟩) rfl (gf ho) (j:=Int.ofNat K.m) (by rw[h2];rfl) (by omega) ht hws hr (CJ h1 _).symm
  rw[h2,h3,h4] at D;exact⟨b,D⟩
 |word w=>exact aB hw.symm
 |row l=>
  have hi:mG K a.ind false a.s.2.idn= .int 0:=by rw[h2];rfl
  obtain⟨b,D⟩:=ig (T:=T) (n:=.row l) hK (mQ hK 3) rfl ho (a:=a) (b0:=⟨22,mG K a.ind false a.s.2.idn,true,false,false,false,a.tp,a.ss++[MV.meth 17 Loc.em],a.is++[a.ind],a.s⟩) (c:=0) (Y:=(bif o then [45,45,45]++K.e else [])) (f:=17) hL rfl
   (λk fs r hk=>rW A hk (E _ _)) rfl (by
   show _=(⟨22,mG K a.ind (bc K a false).mc (bc K a false).s.2.idn,(bc K a false).rt,(bc K a false).sc,(bc K a false).mc,(bc K a false).sk,a.tp,a.ss++[MV.meth (bc K a false).f Loc.em],a.is++[a.ind],(bc K a false).s⟩:Ms);rw[CJ h1]) ⟨hi,li 0,by decide,by show (a.is++[a.ind]).length+3≤_;rw[h4];exact kM rfl,by show (a.ss++[_]).length+3≤_;rw[h3];exact kM rfl⟩ rfl rfl rfl
   (by unfold nx;rw[hi,← e0,← hF];exact eW S (li 0)) hr S.c
  rw[h2,h3,h4] at D;exact⟨b,D⟩
 |map l=>
  have hi:mH K a.ind= .int 0:=by rw[h2];rfl
  obtain⟨b,D⟩:=ig (T:=T) (n:=.map l) hK (mQ hK 3) rfl ho (a:=a) (b0:=⟨25,mH K a.ind,true,false,false,false,a.tp,a.ss++[MV.meth 17 Loc.em],a.is++[a.ind],a.s⟩) (c:=0) (Y:=(bif o then [45,45,45]++K.e else [])) (f:=17) hL rfl
   (λk fs r hk=>rX A hk (E _ _)) rfl (by
   show _=(⟨25,mH K a.ind,(bc K a false).rt,(bc K a false).sc,(bc K a false).mc,(bc K a false).sk,a.tp,a.ss++[MV.meth (bc K a false).f Loc.em],a.is++[a.ind],(bc K a false).s⟩:Ms);rw[CJ h1]) ⟨hi,li 0,by decide,by show (a.is++[a.ind]).length+3≤_;rw[h4];exact kM rfl,by show (a.ss++[_]).length+3≤_;rw[h3];exact kM rfl⟩ rfl rfl rfl
   (by unfold nx;rw[hi,← e0,← hF];exact eW S (li 0)) hr S.c
  rw[h2,h3,h4] at D;exact⟨b,D⟩
theorem wX{s:RP}{X:Tx}(h:tx s.1=X)(hd:s.2.idn=true)(hw:s.2.ws=true)(hc:s.2.c=0)(hr:Rw s.1):At (pIn K.e 0 (pWi [46,46,46] true false false s)) 0 (X++([46,46,46]++K.e))∧Rw (pIn K.e 0 (pWi [46,46,46] true false false s)).1:=by
 have hd2:(pWi [46,46,46] true false false s).2.idn=false:=by
  show (s.2.idn&&false)=false;cases s.2.idn<;>rfl
 have S:Settled (pWi [46,46,46] true false false s):=⟨by show 0≤s.2.c+_;rw[hc];exact Int.add_nonneg (li 0) (Int.natCast_nonneg _),λz=>aB (hd2.symm.trans z)⟩
 have A:=eW (e:=K.e) S (li 0);rw[lC hd2,show tx (pWi [46,46,46] true false false s).1=tx s.1++eU s.2.ws true [46,46,46] from tx_app,h,hw] at A;refine⟨?_,Rw.pIn (Rw.pWi hr (nl _ _)) hK.e⟩
 have e:((X++eU true true [46,46,46])++K.e)++sp 0=X++([46,46,46]++K.e):=by
  show ((X++[46,46,46])++K.e)++[]=_;rw[fw,cu]
 rw[e] at A;exact A
theorem wY{n:Nd}(ho:av K.au 3 n=true)(hw:ip n=false)(o cl:Bool):∃c,Path K T a0 (CO o cl n) c∧tx c.s.1=zu K o cl n∧Rw c.s.1:=by
 obtain⟨s,hs,s1,s2,s3,s4,s5⟩:=uM hK o;have A1:Ok {a0 with st:=15} 0:=⟨.head _,li 0,by decide,by decide,by decide,li 0⟩
 obtain⟨b,D⟩:=zv (T:=T) hK ho hw (a:={a0 with st:=18,tp:=EW,s:=s}) rfl rfl rfl rfl s1 s2 s3 s4 s5
 have B1:Ok b 0:=⟨by rw[D.ind];exact .head _,li 0,by decide,by rw[D.is];decide,by rw[D.ss];decide,D.s.c⟩
 have hbi:iV b.ind=0:=by rw[D.ind];rfl
 have N:=eW (e:=K.e) D.s (li 0);rw[D.x,show nO K o n++sp 0=nO K o n from fw _] at N;have rN:=Rw.pIn (i:=0) D.rw hK.e
 have hde:jF K b cl=bif cl then pIn K.e 0 (pWi [46,46,46] true false false (pIn K.e 0 b.s)) else pIn K.e 0 b.s:=by
  unfold jF nx;rw[hbi]
 obtain⟨d1,d2⟩:=wX hK N.t N.d N.w N.c rN;have step0:Path K T b [gY cl] {b with st:=16,s:=jF K b cl}:=mN (by rw[D.st];decide) rfl (λr=>Ic B1 D.st cl) rfl
 have hd:0≤(jF K b cl).2.c:=by
  rw[hde];cases cl with
  |true=>exact Int.le_of_eq d1.c.symm
  |false=>exact Int.le_of_eq N.c.symm
 have B2:Ok {b with st:=16,s:=jF K b cl} 0:=⟨by show b.ind∈_;rw[D.ind];exact .head _,li 0,by decide,by show b.is.length≤_;rw[D.is];decide,by show b.ss.length≤_;rw[D.ss];decide,hd⟩
 have step1:=mN (K:=K) (T:=T) (a:={b with st:=16,s:=jF K b cl}) (e:=ee) (by show 16∈stL;decide) rfl (λr=>Id (r:=r) B2 rfl) rfl
 have pre:Path K T a0 (gm::km o::bm 3 n) b:=by
  refine⟨by decide,λz=>aB z,_,λr _=>Ia rfl,rfl,?_⟩
  have p:=D.p;rw[pc] at p ⊢;refine AC (by show 15∈stL;decide) (λr=>?_) rfl (by rw[hs];rfl) p
  have hst:∃c t fs,k9 n∈[cq (c::t),.inst 11 fs,.inst 13 fs]:=by
   cases n with
   |text t=>
    have ht:=(gf ho).ne;cases t with
    |nil=>exact absurd rfl ht
    |cons c t=>exact⟨c,t,[],.head _⟩
   |word w=>exact aB hw.symm
   |row l=>exact⟨0,[],_,.tail _ (.head _)⟩
   |map l=>exact⟨0,[],_,.tail _ (.tail _ (.head _))⟩
  obtain⟨c,t,fs,he⟩:=hst;have:=Ib (K:=K) (T:=T) (r:=r) A1 rfl o he;have hs':(bif o then pWi [45,45,45] true false false (nx K {a0 with st:=15}) else ({a0 with st:=15}:Ms).s)=s:=hs.symm
  rw[hs'] at this;exact this
 refine⟨_,(pre.app (step0.app step1):Path K T a0 (gm::km o::bm 3 n++([gY cl]++[ee])) _),?_,?_⟩
 ·show tx (bif (jF K b cl).2.oe then pIn K.e (iV b.ind) (pWi [46,46,46] true false false (jF K b cl)) else jF K b cl).1=zu K o cl n
  rw[hbi,hde];unfold zu CN;cases cl with
  |true=>exact d1.t
  |false=>
   show tx (bif (pIn K.e 0 b.s).2.oe then pIn K.e 0 (pWi [46,46,46] true false false (pIn K.e 0 b.s)) else pIn K.e 0 b.s).1=nO K o n++bif oeN K.m 3 n then _ else _;rw[CP hK,D.oe];cases oeN K.m 3 n with
   |true=>exact d1.t
   |false=>exact N.t.trans (fw _).symm
 ·show Rw (bif (jF K b cl).2.oe then pIn K.e (iV b.ind) (pWi [46,46,46] true false false (jF K b cl)) else jF K b cl).1
  rw[hbi,hde];cases cl with
  |true=>exact d2
  |false=>
   show Rw (bif (pIn K.e 0 b.s).2.oe then pIn K.e 0 (pWi [46,46,46] true false false (pIn K.e 0 b.s)) else pIn K.e 0 b.s).1;cases (pIn K.e 0 b.s).2.oe with
   |true=>exact d2
   |false=>exact rN
end
noncomputable def ch(l:List Int):Sto:=⟨none,none,none,none,none,none,some (l.map .int),none⟩
noncomputable def aw(l:List Int):Int×List Int:=List.casesOn (motive:=λ_=>Int×List Int) l (0,[]) λn r=>(n,r)
theorem Im(n:Int)(r:List MV):aN (aR L1.T (PX 0 [] 1) 52 [.loc .tape] ⟨none,none,none,none,none,none,some (.int n::r),none⟩ [])=some (true,(.int n,⟨none,none,none,none,none,none,some r,none⟩)):=by kernel_rfl
theorem Io:aN (aR L1.T (PX 0 [] 1) 52 [.loc .tape] ⟨none,none,none,none,none,none,some [],none⟩ [])=some (true,(.int 0,⟨none,none,none,none,none,none,some [],none⟩)):=by kernel_rfl
theorem Ks:∀l:List Int,J 2 52 [.loc .tape] (ch l) (.int (aw l).1,ch (aw l).2)
 |[]=>kX (n:=0) (k:=1) Io rfl
 |n::r=>kX (n:=0) (k:=1) (Im n (r.map .int)) rfl
noncomputable def qY(Ψ:Psi)(L:MSs)(K:Option MV→St→Ds→R)(i:Nat)(vs:List MV):Option MV→St→Ds→R:=λr st=>pO r (ba Ψ (aY L) K) (fG Ψ L K i vs) st
noncomputable def qJ:Psi:=PX 0 [] 0
noncomputable def L8:MSs:=L1.b__law_lines
noncomputable def r7:MSs:=ag L8 2
noncomputable def ld(sh:Sto)(t:Tx)(ls:List MV)(p:Tx)(c:Cell):St:=⟨sh,[.val (.str t),.own ls,.val (.str p),c]⟩
noncomputable def Ip(sh:Sto)(t:Tx)(ls:List MV)(p:Tx)(c:Cell)(w:MV)(k:St→Ds→R):R:=cc (dm (ld sh t ls p c) 1 w) k []
section
variable (sh:Sto)(t:Tx)(ls:List MV)(p:Tx)(c:Cell)(z:Nat)(vs:List MV)(K:Option MV→St→Ds→R)
theorem Iq:ax 2 (fG qJ r7 K 3 (.str [z]::vs) (ld sh t ls p c) [(0,true)])=((B3.contains z==true)&&true,Ip sh t ls p (.val (.str [z])) (.tup [.str p,.str [z]]) λst=>ae L1.T qJ (aY (ec (aF (bK (aF r7))))) st (ba qJ .nil (qY qJ r7 K 3 vs))):=by kernel_rfl
theorem Ir:ax 2 (fG qJ r7 K 3 (.str [z]::vs) (ld sh t ls p c) [(0,false)])=((B3.contains z==false)&&((aS (p.length+1) ak==true)&&true),fG qJ r7 K 3 vs (ld sh t ls (p++[z]) (.val (.str [z]))) []):=by kernel_rfl
theorem It:ax 0 (ae L1.T qJ (aY (ec (aF (bK (aF r7))))) (ld sh t ls p c) (ba qJ .nil (qY qJ r7 K 3 vs)) [])=(true,fG qJ r7 K 3 vs (ld sh t ls [] c) []):=by kernel_rfl
theorem Iu:aN (fG qJ r7 ai 3 [] (ld sh t ls [] c) [])=some (true,(.lst ls,sh)):=by kernel_rfl
theorem Iv:ax 1 (fG qJ r7 ai 3 [] (ld sh t ls (z::p) c) [])=(true,Ip sh t ls (z::p) c (.tup [.str (z::p),.str []]) λst=>ae L1.T qJ (.cons (.ret (.v 1)) .nil) st ai):=by kernel_rfl
theorem Iw:aN (ae L1.T qJ (.cons (.ret (.v 1)) .nil) (ld sh t ls p c) ai [])=some (true,(.lst ls,sh)):=by kernel_rfl
theorem zw:aR L1.T qJ 53 [.str t] sh []=fG qJ r7 ai 3 (zb t) (ld sh t [] [] .unset) []:=by kernel_rfl
end
noncomputable def fh(x:Tx×Tx):MV:=.tup [.str x.1,.str x.2]
noncomputable def bF:Tx→Tx→List (Tx×Tx)
 |p,[]=>bif p.isEmpty then [] else [(p,[])]
 |p,c::r=>bif B3.contains c then (p,[c])::bF [] r else bF (p++[c]) r
noncomputable def dX(t:Tx):List (Tx×Tx):=bF [] t
theorem AE{sh:Sto}{t:Tx}{ls:List MV}{p:Tx}{c:Cell}{w:MV}{k:St→Ds→R}(h:ls.length≤10000):Ip sh t ls p c w k=k (ld sh t (ls++[w]) p c) []:=by
 show cc (xL (aS (ls.length+1) ak) (some _)) k []=_;rw[ao (by unfold ak;omega)];rfl
theorem CQ:aD (bK (aF r7))=true:=by kernel_rfl
theorem CR:aD (aY r7)=true:=by kernel_rfl
theorem Ix:aD (aY (ec (aF (bK (aF r7)))))=true:=by kernel_rfl
theorem mR:aD .nil=true:=by kernel_rfl
theorem wZ{Ψ:Psi}{L:MSs}{K:Option MV→St→Ds→R}{i:Nat}{vs:List MV}(nb:aD (bK (aF L))=true)(nt:aD (aY L)=true)(h:∀r st,Mn (K r st)):∀r st,Mn (qY Ψ L K i vs r st):=λr st=>wG (dj nt h) λst=>mC nb nt h vs st
theorem Iy{sh:Sto}{t:Tx}:∀(r:Tx) (ls:List MV) (p:Tx) (c:Cell),ls.length+r.length≤9000→p.length+r.length≤9000→am (fG qJ r7 ai 3 (zb r) (ld sh t ls p c) []) (.lst (ls++(bF p r).map fh)) sh
 |[],ls,[],c,h1,h2=>by
  rw[show ls++(bF [] []).map fh=ls from fw _];exact cG (Iu sh t ls c) rfl
 |[],ls,z::p,c,h1,h2=>by
  have e:=Iv sh t ls p c z;rw[AE (by have:ls.length+0≤9000:=h1;omega)] at e
  exact aK e rfl (cG (Iw sh t (ls++[.tup [.str (z::p),.str []]]) (z::p) c) rfl)
 |z::r,ls,p,c,h1,h2=>by
  have h1:ls.length+(r.length+1)≤9000:=h1;have h2:p.length+(r.length+1)≤9000:=h2;cases h:B3.contains z with
  |true=>
   have e:=Iq sh t ls p c z (zb r) ai;rw[AE (by omega)] at e
   refine aT (mC CQ CR di _ _) e (by rw[h];rfl) (aT (cH _ Ix _ _ (dj mR (wZ CQ CR di))) (It sh t (ls++[.tup [.str p,.str [z]]]) p (.val (.str [z])) (zb r) ai) rfl ?_)
   have g:=Iy (sh:=sh) (t:=t) r (ls++[.tup [.str p,.str [z]]]) [] (.val (.str [z])) (by rw[a7];show ls.length+1+r.length≤_;omega) (by show 0+r.length≤_;omega)
   have e2:bF p (z::r)=(p,[z])::bF [] r:=by show (bif B3.contains z then _ else _)=_;rw[h];rfl
   rw[e2];rw[cu] at g;exact g
  |false=>
   refine aT (mC CQ CR di _ _) (Ir sh t ls p c z (zb r) ai) (by rw[h,ao (show p.length+1≤ak by unfold ak;omega)];rfl) ?_
   have e2:bF p (z::r)=bF (p++[z]) r:=by show (bif B3.contains z then _ else _)=_;rw[h];rfl
   rw[e2];exact Iy (sh:=sh) (t:=t) r ls (p++[z]) (.val (.str [z])) (by omega) (by rw[a7];show p.length+1+r.length≤_;omega)
theorem Iz{sh:Sto}{t:Tx}(h:t.length≤9000):J 2 53 [.str t] sh (.lst ((dX t).map fh),sh):=
 (JX (n:=0) (k:=0) (v:=.lst ((dX t).map fh)) (bS (zw sh t) (Iy (sh:=sh) (t:=t) t [] [] .unset (by show 0+t.length≤_;omega) (by show 0+t.length≤_;omega)))).mono (m:=2) (iw 2)
noncomputable def CS(f:Nat):Bool:=Nat.beq f 52||(Nat.beq f 53||Nat.beq f 54)
structure Op where
 X:Sto→Int
 W:Sto→Sto
 V:Sto→MV
 Y:Sto→Sto
 A:MV→Tx
 B:MV→Tx
 C:MV→List MV
noncomputable def LN(o:Op)(v:MV):MV:=.lst (.tup [.str (o.A v),.str (o.B v)]::o.C v)
noncomputable def IA(o:Op)(f:Nat)(as:List MV)(sh:Sto):MV×Sto:=bif Nat.beq f 52 then (.int (o.X sh),o.W sh) else bif Nat.beq f 53 then (LN o (at_ as 0),sh) else (o.V sh,o.Y sh)
noncomputable def hH(n:Nat)(o:Op):Psi:=wB n CS (IA o) kS 1
noncomputable def CU:MSs:=L1.b__law_node
noncomputable def Kt(s:MS):ME:=MS.casesOn (motive_1:=λ_=>ME) s (λe=>e) (λ_ e=>e) (λ_ _=>.dead) (λ_ _ e=>e) (λ_ e=>e) (λ_ _ _ e=>e) (λ_ e=>e) (λ_ _ _=>.dead) (λ_ _=>.dead) (λ_ e _=>e) (λ_ e _=>e) (λe=>e) .dead .dead .dead (λ_ _ _ e=>e) (λ_ _ a _=>a) (λ_ _=>.dead) (λ_ _ _ _ e=>e) (λ_ e _=>e)
noncomputable def bA:Tx:=[116,101,120,116]
noncomputable def br:Tx:=[119,111,114,100]
noncomputable def b8:Tx:=[114,111,119]
noncomputable def bI:Tx:=[109,97,112]
noncomputable def zx:ME:=Kt (aF (ec (aF (ag CU 3))))
noncomputable def zy:ME:=Kt (aF (ec (aF (ag CU 5))))
noncomputable def gh(sh:Sto)(dep sg n kd:Int)(c5 c6 c7 c8:Cell):St:=⟨sh,[.val (.loc .tape),.val (.int dep),.val (.int sg),.val (.int n),.val (.int kd),c5,c6,c7,c8]⟩
noncomputable def IB(n:Nat)(o:Op)(i:Nat):Option MV→St→Ds→R:=ba (hH n o) .nil (ba (hH n o) (ag CU i) ai)
noncomputable def CT(n:Nat)(o:Op)(sg:Int)(e:ME)(vals:List Cell)(KK:List MV→Sto→Ds→R)(k:Nat)(vs:List MV)(sh:Sto)(ds:Ds):R:=no (λsh k=>dQ L1.T (hH n o) e ⟨sh,vals⟩ λv st=>k v st.sh) KK k vs sh ds
noncomputable def AF(n:Nat)(o:Op)(sh:Sto):Bool:=jd n 52 [.loc .tape] sh (.int (o.X sh),o.W sh)
noncomputable def kd(dep:Int)(x:Int):Int:=bif aI dep 0 then Int.fmod x 2 else Int.fmod x 4
noncomputable def dpL:List Int:=[0,1,2,3]
noncomputable def sgs:List Int:=[22,18]
section
variable (n:Nat)(o:Op)(sh:Sto)(KK:List MV→Sto→Ds→R)(k:Nat)(vs:List MV)
theorem Ma:dpL.map (λdep=>sgs.map λsg=>ax 7 (aR L1.T (hH n o) 54 [.loc .tape,.int dep,.int sg] sh [(1,true)])) =
 mp (λdep=>mp (λsg=>((AF n o sh==true)&&((aI (kd dep (o.X sh)) 0==true)&&((aS (1+Int.fmod (Int.fdiv (o.X sh) 4) 6).natAbs 1000==true)&&true)),
  CT n o sg zx [.val (.loc .tape),.val (.int sg)] (ua bA true (gh (o.W sh) dep sg (Int.fdiv (o.X sh) 4) (kd dep (o.X sh)) .unset .unset .unset .unset) (IB n o 4)) (1+Int.fmod (Int.fdiv (o.X sh) 4) 6).toNat [] (o.W sh) [])) sgs) dpL:=by kernel_rfl
end
noncomputable def qK(j:Nat):Tx:=(c0 wdL j).getD []
noncomputable def pF:MSs:=ag CU 7
noncomputable def xS:MSs:=bK (aF pF)
noncomputable def Gn:MSs:=ec (aF (ag xS 2))
noncomputable def CV(n:Nat)(o:Op)(dep sg:Int)(sh:Sto):Bool:=jd n 54 [.loc .tape,.int (dep-1),.int sg] sh (o.V sh,o.Y sh)
noncomputable def dp3:List Int:=[1,2,3]
noncomputable def uN(j:Nat):Tx:=(c0 ([[10],[97],[32,98],[10,10],[32,32,32,99],[35,100],[45],[58,32,101],[45,45,45],[46,46,46],[124,50,45],[39],[34],[92,110],[37],[63],[38,102],[91,44],[8232],[233],[8233],[128512]]:List Tx) j).getD []
section
variable (n:Nat)(o:Op)(sh:Sto)
theorem IC:dpL.map (λdep=>sgs.map λsg=>(List.range 3).map λj=>aN (aR L1.T (hH n o) 54 [.loc .tape,.int dep,.int sg] sh [(1,false),(0,true),(0,true),(1000000+j,true)])) =
 mp (λdep=>mp (λsg=>mp (λj=>some ((AF n o sh==true)&&((aI (kd dep (o.X sh)) 0==false)&&((aI (kd dep (o.X sh)) 1==true)&&((aI (Int.fmod (Int.fdiv (o.X sh) 4) 3) (Int.ofNat j)==true)&&true))),(.tup [.str br,.str (qK j)],o.W sh))) (List.range 3)) sgs) dpL:=by kernel_rfl
theorem ID:dp3.map (λdep=>sgs.map λsg=>ax 9 (aR L1.T (hH n o) 54 [.loc .tape,.int dep,.int sg] sh [(1,false),(0,false),(0,true)])) =
 mp (λdep=>mp (λsg=>((AF n o sh==true)&&((aI (kd dep (o.X sh)) 0==false)&&((aI (kd dep (o.X sh)) 1==false)&&((aI (kd dep (o.X sh)) 2==true)&&((aS (1+Int.fmod (Int.fdiv (o.X sh) 4) 3).natAbs 1000==true)&&true)))),
  CT n o sg zy [.val (.loc .tape),.val (.int dep),.val (.int sg)] (ua b8 false (gh (o.W sh) dep sg (Int.fdiv (o.X sh) 4) (kd dep (o.X sh)) .unset .unset .unset .unset) (IB n o 6)) (1+Int.fmod (Int.fdiv (o.X sh) 4) 3).toNat [] (o.W sh) [])) sgs) dp3:=by kernel_rfl
theorem IE:dp3.map (λdep=>sgs.map λsg=>[1,2].map λk=>ax 10 (aR L1.T (hH n o) 54 [.loc .tape,.int dep,.int sg] sh [(1,false),(0,false),(0,false),(2000000+k,true)])) =
 mp (λdep=>mp (λsg=>mp (λk=>((AF n o sh==true)&&((aI (kd dep (o.X sh)) 0==false)&&((aI (kd dep (o.X sh)) 1==false)&&((aI (kd dep (o.X sh)) 2==false)&&((aI (1+Int.fmod (Int.fdiv (o.X sh) 4) 2) (Int.ofNat k)==true)&&true)))),
  fG (hH n o) pF ai 6 (dS k) (gh (o.W sh) dep sg (Int.fdiv (o.X sh) 4) (kd dep (o.X sh)) (.own []) .unset .unset .unset) [])) [1,2]) sgs) dp3:=by kernel_rfl
theorem IF(KK:List MV→Sto→Ds→R)(k:Nat)(vs:List MV):sgs.map (λsg=>(List.range 22).map λj=>ax 3 (CT n o sg zx [.val (.loc .tape),.val (.int sg)] KK (k+1) vs sh [(0,true),(1000000+j,true)])) =
 mp (λsg=>mp (λj=>((AF n o sh==true)&&((aI (Int.fmod (o.X sh) sg) (Int.ofNat j)==true)&&true),CT n o sg zx [.val (.loc .tape),.val (.int sg)] KK k (vs++[.str (uN j)]) (o.W sh) [])) (List.range 22)) sgs:=by kernel_rfl
theorem IG(KK:List MV→Sto→Ds→R)(k:Nat)(vs:List MV)(dep sg:Int):ax 2 (CT n o sg zy [.val (.loc .tape),.val (.int dep),.val (.int sg)] KK (k+1) vs sh []) =
 ((CV n o dep sg sh==true)&&true,CT n o sg zy [.val (.loc .tape),.val (.int dep),.val (.int sg)] KK k (vs++[o.V sh]) (o.Y sh) []):=by kernel_rfl
theorem Fh(sg:Int)(e:ME)(vals:List Cell)(KK:List MV→Sto→Ds→R)(vs:List MV)(ds:Ds):CT n o sg e vals KK 0 vs sh ds=KK vs sh ds:=by kernel_rfl
variable (dep sg q kd:Int)(ps vs:List MV)(c6 c7 c8:Cell)(x:MV)(K:Option MV→St→Ds→R)
noncomputable def CW(st:St)(v:MV)(K:Option MV→St→Ds→R):R:=cc (dm st 5 v) (λst=>K none st) []
noncomputable def II(j:Nat):MV:=.tup [.str br,.str (qK j)]
theorem IJ:(List.range 3).map (λj=>ax 10 (fG (hH n o) pF K 6 (x::vs) (gh sh dep sg q kd (.own ps) c6 c7 c8) [(0,true),(1000000+j,true),(0,false)])) =
 mp (λj=>((AF n o sh==true)&&((aI (Int.fmod (Int.fdiv (o.X sh) 3) 3) (Int.ofNat j)==true)&&((aI (Int.fmod (o.X sh) 3) 2==false)&&((CV n o dep sg (o.W sh)==true)&&true))),
  CW (gh (o.Y (o.W sh)) dep sg q kd (.own ps) (.val x) (.val (.int (o.X sh))) (.val (II j))) (.tup [II j,o.V (o.W sh)]) (qY (hH n o) pF K 6 vs))) (List.range 3):=by kernel_rfl
theorem IK:(List.range 3).map (λj=>ax 9 (fG (hH n o) pF K 6 (x::vs) (gh sh dep sg q kd (.own ps) c6 c7 c8) [(0,true),(1000000+j,true),(0,true)])) =
 mp (λj=>((AF n o sh==true)&&((aI (Int.fmod (Int.fdiv (o.X sh) 3) 3) (Int.ofNat j)==true)&&((aI (Int.fmod (o.X sh) 3) 2==true)&&((CV n o dep sg (o.W sh)==true)&&true))),
  ae L1.T (hH n o) (aY Gn) (gh (o.Y (o.W sh)) dep sg q kd (.own ps) (.val x) (.val (.int (o.X sh))) (.val (o.V (o.W sh)))) (ba (hH n o) (ag xS 3) (qY (hH n o) pF K 6 vs)) [])) (List.range 3):=by kernel_rfl
theorem IL(t:Tx):bb.map (λd=>ax (bif d then 3 else 2) (ae L1.T (hH n o) (aY Gn) (gh sh dep sg q kd (.own ps) c6 c7 (.val (.tup [.str bA,.str t]))) K [(1,d)])) =
 mp (λd=>((jd n 53 [.str t] sh (LN o (.str t),sh)==true)&&(((eqX (o.B (.str t)) []==true)==d)&&bif d then (aS (t.length+1) ak==true)&&true else true),K none (gh sh dep sg q kd (.own ps) c6 c7 (.val (.tup [.str bA,.str (bif d then t++[10] else t)]))) [])) bb:=by kernel_rfl
theorem CX(v:MV):[br,b8,bI].map (λg=>ax 0 (ae L1.T (hH n o) (aY Gn) (gh sh dep sg q kd (.own ps) c6 c7 (.val (.tup [.str g,v]))) K [])) =
 mp (λg=>(true,K none (gh sh dep sg q kd (.own ps) c6 c7 (.val (.tup [.str g,v]))) [])) [br,b8,bI]:=by kernel_rfl
theorem Mb(v:MV):ax 3 (ae L1.T (hH n o) (ag xS 3) (gh sh dep sg q kd (.own ps) c6 c7 (.val v)) K []) =
 ((CV n o dep sg sh==true)&&true,CW (gh (o.Y sh) dep sg q kd (.own ps) c6 c7 (.val v)) (.tup [v,o.V sh]) K):=by kernel_rfl
theorem Mc:aN (fG (hH n o) pF ai 6 [] (gh sh dep sg q kd (.own ps) c6 c7 c8) [])=some (true,(.tup [.str bI,.lst ps],sh)):=by kernel_rfl
end
noncomputable def iW{α:Type}(f:List Int→α×List Int):Nat→List Int→List α×List Int
 |0,l=>([],l)
 |k+1,l=>((f l).1::(iW f k (f l).2).1,(iW f k (f l).2).2)
noncomputable def ph(sg:Int)(l:List Int):Tx×List Int:=(uN (Int.fmod (aw l).1 sg).toNat,(aw l).2)
noncomputable def w0(t:Tx):Tx:=((dX t).head?.map λx=>x.2).getD []
noncomputable def w6(t:Tx):Tx:=bif eqX (w0 t) [] then t++[10] else t
noncomputable def uO(n:Nd):Nd:=dW n (λt=>.text (w6 t)) .word .row .map
noncomputable def kq(I:List Int→Nd×List Int)(l:List Int):Nd×List Int:=bif aI (Int.fmod (aw l).1 3) 2 then (uO (I (aw l).2).1,(I (aw l).2).2) else (.word (qK (Int.fmod (Int.fdiv (aw l).1 3) 3).toNat),(aw l).2)
noncomputable def cZ(I:List Int→Nd×List Int)(l:List Int):(Nd×Nd)×List Int:=(((kq I l).1,(I (kq I l).2).1),(I (kq I l).2).2)
noncomputable def fN(sg n:Int)(r:List Int):Nd×List Int:=(.text (dh [] (iW (ph sg) (1+Int.fmod (Int.fdiv n 4) 6).toNat r).1),(iW (ph sg) (1+Int.fmod (Int.fdiv n 4) 6).toNat r).2)
noncomputable def gn(n:Int)(r:List Int):Nd×List Int:=(.word (qK (Int.fmod (Int.fdiv n 4) 3).toNat),r)
noncomputable def w7(I:List Int→Nd×List Int)(n:Int)(r:List Int):Nd×List Int:=(.row (iW I (1+Int.fmod (Int.fdiv n 4) 3).toNat r).1,(iW I (1+Int.fmod (Int.fdiv n 4) 3).toNat r).2)
noncomputable def w8(I:List Int→Nd×List Int)(n:Int)(r:List Int):Nd×List Int:=(.map (iW (cZ I) (1+Int.fmod (Int.fdiv n 4) 2).toNat r).1,(iW (cZ I) (1+Int.fmod (Int.fdiv n 4) 2).toNat r).2)
noncomputable def aq(sg:Int):Nat→List Int→Nd×List Int
 |0,l=>bif aI (Int.fmod (aw l).1 2) 0 then fN sg (aw l).1 (aw l).2 else gn (aw l).1 (aw l).2
 |d+1,l=>bif aI (Int.fmod (aw l).1 4) 0 then fN sg (aw l).1 (aw l).2 else bif aI (Int.fmod (aw l).1 4) 1 then gn (aw l).1 (aw l).2 else
   bif aI (Int.fmod (aw l).1 4) 2 then w7 (aq sg d) (aw l).1 (aw l).2 else w8 (aq sg d) (aw l).1 (aw l).2
noncomputable def af(au:Bool):Int:=bif au then 22 else 18
theorem ii{α:Type}{f:List Int→α×List Int}{p:α→Bool}(h:∀l,p (f l).1=true):∀k l,(iW f k l).1.all p=true
 |0,l=>rfl
 |k+1,l=>an (h l) (ii h k _)
theorem jG{α:Type}{f:List Int→α×List Int}:∀k l,(iW f k l).1.length=k
 |0,l=>rfl
 |k+1,l=>bJ (· + 1) (jG k _)
theorem jJ:∀xs:List Tx,dh [] xs=xs.flatten
 |[]=>rfl
 |[x]=>(fw x).symm
 |x::y::r=>by
  show (x++[])++dh [] (y::r)=x++(y::r).flatten;rw[fw,jJ (y::r)]
theorem IM(au:Bool)(r:Tx):(List.range 18).map (λj=>eV au (uN j++r))=mp (λ_=>eV au r) (List.range 18):=by kernel_rfl
theorem IN(r:Tx):(List.range 22).map (λj=>eV true (uN j++r))=mp (λ_=>eV true r) (List.range 22):=by kernel_rfl
theorem Fj:((List.range 22).all λj=>aS 1 (uN j).length&&aS (uN j).length 4)=true:=by kernel_rfl
noncomputable def zz(au:Bool)(x:Tx):Bool:=@decide (∃j,j<(af au).toNat∧x=uN j) (Classical.propDecidable _)
theorem zA{au:Bool}{x:Tx}(h:zz au x=true):∃j,j<(af au).toNat∧x=uN j:=@of_decide_eq_true _ (Classical.propDecidable _) h
theorem cg{a b:Int}(hb:0<b):0≤Int.fmod a b∧Int.fmod a b<b:=⟨Int.fmod_nonneg_of_pos a hb,Int.fmod_lt_of_pos a hb⟩
theorem zB{au:Bool}(l:List Int):zz au (ph (af au) l).1=true:=by
 refine @decide_eq_true _ (Classical.propDecidable _) ⟨(Int.fmod (aw l).1 (af au)).toNat,?_,rfl⟩;have:0<af au:=by cases au<;>decide
 have:=cg (a:=(aw l).1) this;omega
theorem AG{au:Bool}:∀{xs:List Tx},xs.all (zz au)=true→eV au xs.flatten=true∧xs.length≤xs.flatten.length∧xs.flatten.length≤4*xs.length
 |[],_=>⟨rfl,cz 0,cz 0⟩
 |x::xs,h=>by
  obtain⟨j,hj,rfl⟩:=zA (ab h);obtain⟨h1,h2,h3⟩:=AG (aa h)
  have hj22:j<22:=by cases au with
   |true=>exact hj
   |false=>exact Nat.lt_of_lt_of_le (show j<18 from hj) (by decide)
  have hl:=qdz.mp Fj j (qzz.mpr hj22);have l1:1≤(uN j).length:=kM (ab hl);have l2:(uN j).length≤4:=kM (aa hl);refine⟨?_,?_,?_⟩
  ·show eV au (uN j++xs.flatten)=true
   cases au with
   |true=>exact(ac (IN xs.flatten) (qzz.mpr hj)).trans h1
   |false=>exact(ac (IM false xs.flatten) (qzz.mpr hj)).trans h1
  ·show xs.length+1≤(uN j++xs.flatten).length
   rw[a7];omega
  ·show (uN j++xs.flatten).length≤4*(xs.length+1)
   rw[a7];omega
theorem tL{au:Bool}{t:Tx}(h1:t≠[])(h2:t.length≤30)(h3:eV au t=true):pa au t=true:=by
 refine an ?_ (an (ao h2) h3);cases t with
 |nil=>exact absurd rfl h1
 |cons _ _=>rfl
structure Tx24(au:Bool)(t:Tx):Prop where
 ne:t≠[]
 le:t.length≤24
 ok:eV au t=true
theorem Tx24.lt{au:Bool}{t:Tx}(h:Tx24 au t):pa au t=true:=tL h.ne (by have:=h.le;omega) h.ok
theorem text24{au:Bool}{n:Int}{r:List Int}:Tx24 au (dh [] (iW (ph (af au)) (1+Int.fmod (Int.fdiv n 4) 6).toNat r).1):=by
 have hk:=cg (a:=Int.fdiv n 4) (b:=6) (by decide)
 obtain⟨h1,h2,h3⟩:=AG (ii (f:=ph (af au)) (p:=zz au) zB (1+Int.fmod (Int.fdiv n 4) 6).toNat r);rw[jG] at h2 h3;rw[jJ];refine⟨λe=>?_,by omega,h1⟩
 rw[e] at h2;have:(1+Int.fmod (Int.fdiv n 4) 6).toNat≤0:=h2;omega
theorem xa{au:Bool}:∀{t:Tx},eV au t=true→eV au (t++[10])=true
 |[],_=>by cases au<;>kernel_rfl
 |[z],h=>by
  have h1:=ab h;have h2:=ab (aa h);refine an h1 (an ?_ (by cases au<;>kernel_rfl))
  exact h2
 |z::y::r,h=>an (ab h) (an (ab (aa h)) (xa (t:=y::r) (aa (aa h))))
theorem AH:∀(t p:Tx),t.any BR.contains=false→((bF p t).head?.map λx=>x.2).getD []=[]
 |[],p,h=>by
  show ((bif p.isEmpty then [] else [(p,[])]:List (Tx×Tx)).head?.map λx=>x.2).getD []=[];cases p<;>rfl
 |c::r,p,h=>by
  have hc:BR.contains c=false:=(Bool.or_eq_false_iff.mp h).1
  have h3:B3.contains c=false:=by
   cases e:B3.contains c with
   |false=>rfl
   |true=>
    have:c∈B3:=List.contains_iff_mem.mp e
    have:∀c∈B3,BR.contains c=true:=by
     have hk:B3.all BR.contains=true:=by kernel_rfl
     exact qdz.mp hk
    rw[this c ‹c∈B3›] at hc;exact aB hc.symm
  show ((bif B3.contains c then (p,[c])::bF [] r else bF (p++[c]) r:List (Tx×Tx)).head?.map λx=>x.2).getD []=[];rw[h3];exact AH r _ (Bool.or_eq_false_iff.mp h).2
theorem CY{au:Bool}{t:Tx}(h:Tx24 au t):pa au (w6 t)=true∧(w6 t).any BR.contains=true:=by
 unfold w6;cases e:eqX (w0 t) [] with
 |true=>
  refine⟨tL (λz=>List.append_ne_nil_of_right_ne_nil t (nl _ _) z) ?_ (xa h.ok),?_⟩
  ·show (t++[10]).length≤30
   rw[a7];have:=h.le;show t.length+1≤30;omega
  ·show (t++[10]).any BR.contains=true
   rw[List.any_append];cases t.any BR.contains<;>rfl
 |false=>
  refine⟨h.lt,?_⟩;show t.any BR.contains=true;cases hb:t.any BR.contains with
  |true=>rfl
  |false=>
   have:w0 t=[]:=AH t [] hb;rw[this] at e;exact aB (show false=true from e.symm.trans (pG rfl))
structure Qn(au:Bool)(d:Nat)(n:Nd):Prop where
 ok:av au d n=true
 tx:∀t,n= .text t→Tx24 au t
theorem qM{i:Int}:wdL.contains (qK (Int.fmod i 3).toNat)=true:=by
 have h:=cg (a:=i) (b:=3) (by decide)
 have hk:((List.range 3).all λj=>wdL.contains (qK j))=true:=by kernel_rfl
 exact qdz.mp hk _ (qzz.mpr (by omega))
theorem nQ{au:Bool}{d:Nat}{t:Tx}(h:pa au t=true):av au d (.text t)=true:=by cases d<;>exact h
theorem nR{au:Bool}{d:Nat}{w:Tx}(h:wdL.contains w=true):av au d (.word w)=true:=by cases d<;>exact h
theorem xb{au:Bool}{d:Nat}{n:Int}{r:List Int}:Qn au d (fN (af au) n r).1:=⟨nQ text24.lt,λt e=>by
 have e:Nd.text _=Nd.text t:=e;injection e with e
 rw[← e];exact text24⟩
theorem xc{au:Bool}{d:Nat}{n:Int}{r:List Int}:Qn au d (gn n r).1:=⟨nR qM,λt e=>by
 have e:Nd.word _=Nd.text t:=e;exact Nd.noConfusion e⟩
theorem nS{α:Type}{l:List α}(h:l.length≠0):(!l.isEmpty)=true:=by
 cases l with
 |nil=>exact absurd rfl h
 |cons _ _=>rfl
theorem CZ{au:Bool}{d:Nat}{I:List Int→Nd×List Int}(h:∀l,Qn au d (I l).1)(l:List Int):av au d (kq I l).1=true∧ef (kq I l).1=true:=by
 unfold kq;cases aI (Int.fmod (aw l).1 3) 2 with
 |false=>exact⟨nR qM,rfl⟩
 |true=>
  show av au d (uO (I (aw l).2).1)=true∧ef (uO (I (aw l).2).1)=true;have hq:=h (aw l).2;generalize (I (aw l).2).1=n at hq;cases n with
  |text t=>
   obtain⟨h1,h2⟩:=CY (hq.tx t rfl);exact⟨nQ h1,h2⟩
  |word w=>exact⟨hq.ok,rfl⟩
  |row l=>exact⟨hq.ok,rfl⟩
  |map l=>exact⟨hq.ok,rfl⟩
theorem pi{au:Bool}:∀d l,Qn au d (aq (af au) d l).1
 |0,l=>by
  show Qn au 0 (bif aI (Int.fmod (aw l).1 2) 0 then fN (af au) (aw l).1 (aw l).2 else gn (aw l).1 (aw l).2).1;cases aI (Int.fmod (aw l).1 2) 0 with
  |true=>exact xb
  |false=>exact xc
 |d+1,l=>by
  have IH:=pi (au:=au) d
  show Qn au (d+1) (bif aI (Int.fmod (aw l).1 4) 0 then fN (af au) (aw l).1 (aw l).2 else bif aI (Int.fmod (aw l).1 4) 1 then gn (aw l).1 (aw l).2 else
   bif aI (Int.fmod (aw l).1 4) 2 then w7 (aq (af au) d) (aw l).1 (aw l).2 else w8 (aq (af au) d) (aw l).1 (aw l).2).1
  cases aI (Int.fmod (aw l).1 4) 0 with
  |true=>exact xb
  |false=>
  cases aI (Int.fmod (aw l).1 4) 1 with
  |true=>exact xc
  |false=>
  cases aI (Int.fmod (aw l).1 4) 2 with
  |true=>
   have hk:=cg (a:=Int.fdiv (aw l).1 4) (b:=3) (by decide)
   refine⟨an (nS ?_) (ii (λl=>(IH l).ok) _ _),λt e=>?_⟩
   ·rw[jG];omega
   ·have e:Nd.row _=Nd.text t:=e
    exact Nd.noConfusion e
  |false=>
   have hk:=cg (a:=Int.fdiv (aw l).1 4) (b:=2) (by decide)
   refine⟨an (nS ?_) (ii (p:=λp:Nd×Nd=>av au d p.1&&(ef p.1&&av au d p.2)) (λl=>?_) _ _),λt e=>?_⟩
   ·rw[jG];omega
   ·obtain⟨h1,h2⟩:=CZ IH l
    exact an h1 (an h2 (IH (kq (aq (af au) d) l).2).ok)
   ·have e:Nd.map _=Nd.text t:=e
    exact Nd.noConfusion e
noncomputable def Fk(I:Nd→MV)(n:Nd):MV:=dW n (λt=>.tup [.str bA,.str t]) (λw=>.tup [.str br,.str w]) (λl=>.tup [.str b8,.lst (l.map I)]) (λl=>.tup [.str bI,.lst (l.map λp=>.tup [I p.1,I p.2])])
noncomputable def aU:Nat→Nd→MV
 |0,n=>Fk (λ_=>.none) n
 |d+1,n=>Fk (aU d) n
noncomputable def xd(sh:Sto):List Int:=(sh.tape.getD []).map iV
theorem gi(l:List Int):xd (ch l)=l:=by
 show (l.map MV.int).map iV=l;rw[List.map_map];exact List.map_id'' (λ_=>rfl) l
noncomputable def oN(sg:Int)(d:Nat):Op:=⟨λsh=>(aw (xd sh)).1,λsh=>ch (aw (xd sh)).2,λsh=>aU d (aq sg d (xd sh)).1,λsh=>ch (aq sg d (xd sh)).2,λv=>((dX (xV v)).head?.map λx=>x.1).getD [],λv=>w0 (xV v),λv=>(dX (xV v)).tail.map fh⟩
theorem tM:∀(t p:Tx),(t≠[]∨p≠[])→bF p t≠[]
 |[],p,h=>by
  cases p with
  |nil=>exact absurd rfl (h.elim id id)
  |cons x p=>exact nl _ _
 |c::r,p,h=>by
  show (bif B3.contains c then (p,[c])::bF [] r else bF (p++[c]) r)≠[];cases B3.contains c with
  |true=>exact nl _ _
  |false=>exact tM r _ (.inr (by simp))
theorem Fn{sg:Int}{d:Nat}{t:Tx}(h:t≠[]):LN (oN sg d) (.str t)= .lst ((dX t).map fh):=by
 unfold LN;show MV.lst (.tup [.str (((dX t).head?.map λx=>x.1).getD []),.str (w0 t)]::(dX t).tail.map fh)=_;unfold w0;have:=tM t [] (.inl h);cases e:dX t with
 |nil=>exact absurd e this
 |cons x r=>rfl
section
variable {n:Nat}{sg:Int}{d:Nat}
theorem iX(hn:2≤n)(l:List Int):AF n (oN sg d) (ch l)=true:=by
 refine aP ?_;have:=(Ks l).mono hn;show J n 52 [.loc .tape] (ch l) (.int (aw (xd (ch l))).1,ch (aw (xd (ch l))).2);rw[gi];exact this
end
theorem mS{sg:Int}{d:Nat}(l:List Int):(oN sg d).X (ch l)=(aw l).1:=bJ (λl=>(aw l).1) (gi l)
theorem pj{sg:Int}{d:Nat}(l:List Int):(oN sg d).W (ch l)=ch (aw l).2:=bJ (λl=>ch (aw l).2) (gi l)
theorem xe{sg:Int}{d:Nat}(l:List Int):(oN sg d).V (ch l)=aU d (aq sg d l).1:=bJ (λl=>aU d (aq sg d l).1) (gi l)
theorem xf{sg:Int}{d:Nat}(l:List Int):(oN sg d).Y (ch l)=ch (aq sg d l).2:=bJ (λl=>ch (aq sg d l).2) (gi l)
theorem Fo{n:Nat}{o:Op}{sg:Int}{e:ME}{vals:List Cell}{KK:List MV→Sto→Ds→R}(h:∀vs sh,Mn (KK vs sh))(k:Nat)(vs:List MV)(sh:Sto):Mn (CT n o sg e vals KK k vs sh):=rU (λsh k hk=>bO e _ _ λv st=>hk v st.sh) h k vs sh
theorem xg{tag:Tx}{j:Bool}{st:St}{k:Option MV→St→Ds→R}(h:∀r st,Mn (k r st))(vs:List MV)(sh:Sto):Mn (ua tag j st k vs sh):=by
 cases j with
 |true=>exact bN λxs=>eT (h _ _)
 |false=>exact h _ _
theorem AI{n:Nat}{o:Op}{i:Nat}(h:aD (ag CU i)=true):∀r st,Mn (IB n o i r st):=dj mR (dj h di)
theorem gj:∀xs:List Tx,cA (xs.map .str)=some xs
 |[]=>rfl
 |x::xs=>by
  show (cA (xs.map .str)).map (x:: ·)=_
  rw[gj xs];rfl
theorem mT(au:Bool):af au∈sgs:=by cases au;exact .tail _ (.head _);exact .head _
section
variable {au:Bool}{d n:Nat}(hn:2≤n){v:MV}{sh:Sto}
include hn
theorem tO{KK:List MV→Sto→Ds→R}(hK:∀vs sh,Mn (KK vs sh)):∀(k:Nat) (vs:List MV) (l:List Int),am (KK (vs++(iW (ph (af au)) k l).1.map .str) (ch (iW (ph (af au)) k l).2) []) v sh→am (CT n (oN (af au) d) (af au) zx [.val (.loc .tape),.val (.int (af au))] KK k vs (ch l) []) v sh
 |0,vs,l,H=>by
  rw[Fh];rw[show vs++(iW (ph (af au)) 0 l).1.map .str=vs from fw _] at H;exact H
 |k+1,vs,l,H=>by
  have hb:=cg (a:=(aw l).1) (b:=af au) (by cases au<;>decide)
  have hj:(Int.fmod (aw l).1 (af au)).toNat∈List.range 22:=qzz.mpr (by
   have:af au≤22:=by cases au<;>decide
   omega)
  refine aT (Fo hK _ _ _) (ac (ac (IF n (oN (af au) d) (ch l) KK k vs) (mT au)) hj) (an (bt (iX hn l)) (an (bt ?_) rfl)) ?_
  ·rw[mS]
   refine pG ?_;show _=(((Int.fmod (aw l).1 (af au)).toNat:Nat):Int);omega
  ·rw[pj]
   refine tO hK k _ _ ?_;rw[cu];exact H
theorem nT(hj:∀l,CV n (oN (af au) d) (Int.ofNat (d+1)) (af au) (ch l)=true){KK:List MV→Sto→Ds→R}(hK:∀vs sh,Mn (KK vs sh)):∀(k:Nat) (vs:List MV) (l:List Int),am (KK (vs++(iW (aq (af au) d) k l).1.map (aU d)) (ch (iW (aq (af au) d) k l).2) []) v sh→am (CT n (oN (af au) d) (af au) zy [.val (.loc .tape),.val (.int (Int.ofNat (d+1))),.val (.int (af au))] KK k vs (ch l) []) v sh
 |0,vs,l,H=>by
  rw[Fh];rw[show vs++(iW (aq (af au) d) 0 l).1.map (aU d)=vs from fw _] at H;exact H
 |k+1,vs,l,H=>by
  refine aT (Fo hK _ _ _) (IG n (oN (af au) d) (ch l) KK k vs (Int.ofNat (d+1)) (af au)) (an (bt (hj l)) rfl) ?_;rw[xf,xe];refine nT hj hK k _ _ ?_;rw[cu];exact H
end
noncomputable def iY(d:Nat)(p:Nd×Nd):MV:=.tup [aU d p.1,aU d p.2]
theorem ft{d:Nat}{t:Tx}:aU d (.text t)= .tup [.str bA,.str t]:=by cases d<;>rfl
theorem ez{d:Nat}{w:Tx}:aU d (.word w)= .tup [.str br,.str w]:=by cases d<;>rfl
theorem AJ{sh:Sto}{dep sg q kd:Int}{ps:List MV}{c6 c7 c8:Cell}{v:MV}{K:Option MV→St→Ds→R}(h:ps.length≤1000):CW (gh sh dep sg q kd (.own ps) c6 c7 c8) v K=K none (gh sh dep sg q kd (.own (ps++[v])) c6 c7 c8) []:=by
 show cc (xL (aS (ps.length+1) ak) (some _)) (λst=>K none st) []=_;rw[ao (by unfold ak;omega)];rfl
theorem zC:aD (bK (aF pF))=true:=by kernel_rfl
theorem zE:aD (aY pF)=true:=by kernel_rfl
theorem zG:aD (aY Gn)=true:=by kernel_rfl
theorem Fp:aD (ag xS 3)=true:=by kernel_rfl
theorem IO:aD (ag CU 4)=true:=by kernel_rfl
theorem IP:aD (ag CU 6)=true:=by kernel_rfl
theorem hJ{Ψ:Psi}{L:MSs}{K:Option MV→St→Ds→R}{i:Nat}{vs:List MV}{st:St}{ds:Ds}:qY Ψ L K i vs none st ds=fG Ψ L K i vs st ds:=rfl
theorem qN{au:Bool}{d n:Nat}(hn:2≤n)(hj:∀l,CV n (oN (af au) d) (Int.ofNat (d+1)) (af au) (ch l)=true){q kd:Int}:∀(xs:List MV) (ps:List MV) (l:List Int) (c6 c7 c8:Cell),ps.length+xs.length≤900 →
  am (fG (hH n (oN (af au) d)) pF ai 6 xs (gh (ch l) (Int.ofNat (d+1)) (af au) q kd (.own ps) c6 c7 c8) []) (.tup [.str bI,.lst (ps++(iW (cZ (aq (af au) d)) xs.length l).1.map (iY d))]) (ch (iW (cZ (aq (af au) d)) xs.length l).2)
 |[],ps,l,c6,c7,c8,hl=>by
  rw[show ps++(iW (cZ (aq (af au) d)) ([]:List MV).length l).1.map (iY d)=ps from fw _];exact cG (Mc n (oN (af au) d) (ch l) _ _ q kd ps c6 c7 c8) rfl
 |x::xs,ps,l,c6,c7,c8,hl=>by
  have hl:ps.length+(xs.length+1)≤900:=hl;have hb:=cg (a:=Int.fdiv (aw l).1 3) (b:=3) (by decide)
  have hjm:(Int.fmod (Int.fdiv (aw l).1 3) 3).toNat∈List.range 3:=qzz.mpr (by omega)
  have e3:aI (Int.fmod (Int.fdiv ((oN (af au) d).X (ch l)) 3) 3) (Int.ofNat (Int.fmod (Int.fdiv (aw l).1 3) 3).toNat)=true:=by
   rw[mS];refine pG ?_;show _=(((Int.fmod (Int.fdiv (aw l).1 3) 3).toNat:Nat):Int);omega
  -- the pair's second half,and the rest
  have tail:∀(k:Nd) (l1:List Int) (c6 c7 c8:Cell),kq (aq (af au) d) l=(k,l1)→am (fG (hH n (oN (af au) d)) pF ai 6 xs (gh (ch (aq (af au) d l1).2) (Int.ofNat (d+1)) (af au) q kd (.own (ps++[.tup [aU d k,aU d (aq (af au) d l1).1]])) c6 c7 c8) [])
    (.tup [.str bI,.lst (ps++(iW (cZ (aq (af au) d)) (x::xs).length l).1.map (iY d))]) (ch (iW (cZ (aq (af au) d)) (x::xs).length l).2):=λk l1 c6 c7 c8 hk=>by
   have H:=qN hn hj (q:=q) (kd:=kd) xs (ps++[.tup [aU d k,aU d (aq (af au) d l1).1]]) (aq (af au) d l1).2 c6 c7 c8 (by rw[a7];show ps.length+1+xs.length≤_;omega)
   have e1:cZ (aq (af au) d) l=((k,(aq (af au) d l1).1),(aq (af au) d l1).2):=by unfold cZ;rw[hk]
   have e2:iW (cZ (aq (af au) d)) (x::xs).length l=((k,(aq (af au) d l1).1)::(iW (cZ (aq (af au) d)) xs.length (aq (af au) d l1).2).1,(iW (cZ (aq (af au) d)) xs.length (aq (af au) d l1).2).2):=by
    show ((cZ (aq (af au) d) l).1::(iW (cZ (aq (af au) d)) xs.length (cZ (aq (af au) d) l).2).1,(iW (cZ (aq (af au) d)) xs.length (cZ (aq (af au) d) l).2).2)=_;rw[e1]
   rw[e2];rw[cu] at H;exact H
  cases h:aI (Int.fmod (aw l).1 3) 2 with
  |false=>
   refine aT (mC zC zE di _ _) (ac (IJ n (oN (af au) d) (ch l) (Int.ofNat (d+1)) (af au) q kd ps xs c6 c7 c8 x ai) hjm) (an (bt (iX hn l)) (an (bt e3) (an (fE (by rw[mS];exact h)) (an (bt (by rw[pj];exact hj _)) rfl)))) ?_
   rw[pj,xe,xf,AJ (by omega),hJ]
   have:=tail (.word (qK (Int.fmod (Int.fdiv (aw l).1 3) 3).toNat)) (aw l).2 (.val x) (.val (.int ((oN (af au) d).X (ch l)))) (.val (II (Int.fmod (Int.fdiv (aw l).1 3) 3).toNat)) (by unfold kq;rw[h];rfl)
   rw[ez] at this;exact this
  |true=>
   refine aT (mC zC zE di _ _) (ac (IK n (oN (af au) d) (ch l) (Int.ofNat (d+1)) (af au) q kd ps xs c6 c7 c8 x ai) hjm) (an (bt (iX hn l)) (an (bt e3) (an (fE (by rw[mS];exact h)) (an (bt (by rw[pj];exact hj _)) rfl)))) ?_
   rw[pj,xe,xf];have hm2:∀r st,Mn (ba (hH n (oN (af au) d)) (ag xS 3) (qY (hH n (oN (af au) d)) pF ai 6 xs) r st):=dj Fp (wZ zC zE di);have hkey:kq (aq (af au) d) l=(uO (aq (af au) d (aw l).2).1,(aq (af au) d (aw l).2).2):=by unfold kq;rw[h];rfl
   have hq:=pi (au:=au) d (aw l).2
   have fin:∀kn,uO (aq (af au) d (aw l).2).1=kn→am (ba (hH n (oN (af au) d)) (ag xS 3) (qY (hH n (oN (af au) d)) pF ai 6 xs) none (gh (ch (aq (af au) d (aw l).2).2) (Int.ofNat (d+1)) (af au) q kd (.own ps) (.val x) (.val (.int ((oN (af au) d).X (ch l)))) (.val (aU d kn))) [])
     (.tup [.str bI,.lst (ps++(iW (cZ (aq (af au) d)) (x::xs).length l).1.map (iY d))]) (ch (iW (cZ (aq (af au) d)) (x::xs).length l).2):=λkn hkn=>by
    refine aT (cH _ Fp _ _ (wZ zC zE di)) (Mb n (oN (af au) d) (ch (aq (af au) d (aw l).2).2) (Int.ofNat (d+1)) (af au) q kd ps _ _ (qY (hH n (oN (af au) d)) pF ai 6 xs) (aU d kn)) (an (bt (hj _)) rfl) ?_;rw[xe,xf,AJ (by omega),hJ]
    exact tail kn (aq (af au) d (aw l).2).2 _ _ _ (by rw[hkey,hkn])
   generalize (aq (af au) d (aw l).2).1=kn0 at hq fin;cases kn0 with
   |text t=>
    rw[ft];refine aT (cH _ zG _ _ hm2) (ac (IL n (oN (af au) d) (ch (aq (af au) d (aw l).2).2) (Int.ofNat (d+1)) (af au) q kd ps _ _ (ba (hH n (oN (af au) d)) (ag xS 3) (qY (hH n (oN (af au) d)) pF ai 6 xs)) t) (ah (eqX (w0 t) []))) ?_ ?_
    ·have ht:=hq.tx t rfl
     refine an (bt (aP ?_)) (an ?_ ?_)
     ·rw[Fn ht.ne]
      exact(Iz (by have:=ht.le;omega)).mono hn
     ·show ((eqX (w0 t) []==true)==eqX (w0 t) [])=true
      cases eqX (w0 t) []<;>rfl
     ·rw[ao (show t.length+1≤ak by have:=ht.le;unfold ak;omega)]
      cases eqX (w0 t) []<;>rfl
    ·have:=fin (.text (w6 t)) rfl
     rw[ft] at this;exact this
   |word w=>
    rw[ez];refine aT (cH _ zG _ _ hm2) (ac (CX n (oN (af au) d) (ch (aq (af au) d (aw l).2).2) (Int.ofNat (d+1)) (af au) q kd ps _ _ (ba (hH n (oN (af au) d)) (ag xS 3) (qY (hH n (oN (af au) d)) pF ai 6 xs)) (.str w)) (.head _)) rfl ?_;have:=fin (.word w) rfl;rw[ez] at this;exact this
   |row r=>
    have e:∃r',aU d (.row r)= .tup [.str b8,r']:=by cases d<;>exact⟨_,rfl⟩
    obtain⟨r',e⟩:=e;have:=fin (.row r) rfl;rw[e] at this ⊢;exact aT (cH _ zG _ _ hm2) (ac (CX n (oN (af au) d) (ch (aq (af au) d (aw l).2).2) (Int.ofNat (d+1)) (af au) q kd ps _ _ (ba (hH n (oN (af au) d)) (ag xS 3) (qY (hH n (oN (af au) d)) pF ai 6 xs)) r') (.tail _ (.head _))) rfl this
   |map r=>
    have e:∃r',aU d (.map r)= .tup [.str bI,r']:=by cases d<;>exact⟨_,rfl⟩
    obtain⟨r',e⟩:=e;have:=fin (.map r) rfl;rw[e] at this ⊢;exact aT (cH _ zG _ _ hm2) (ac (CX n (oN (af au) d) (ch (aq (af au) d (aw l).2).2) (Int.ofNat (d+1)) (af au) q kd ps _ _ (ba (hH n (oN (af au) d)) (ag xS 3) (qY (hH n (oN (af au) d)) pF ai 6 xs)) r') (.tail _ (.tail _ (.head _)))) rfl this
theorem xh{d:Nat}(h:d≤3):Int.ofNat d∈dpL:=by
 match d,h with
 |0,_=>exact .head _
 |1,_=>exact .tail _ (.head _)
 |2,_=>exact .tail _ (.tail _ (.head _))
 |3,_=>exact .tail _ (.tail _ (.tail _ (.head _)))
 |n+4,h=>exact absurd h (by omega)
theorem tP{d:Nat}(h:d+1≤3):Int.ofNat (d+1)∈dp3:=by
 match d,h with
 |0,_=>exact .head _
 |1,_=>exact .tail _ (.head _)
 |2,_=>exact .tail _ (.tail _ (.head _))
 |n+3,h=>exact absurd h (by omega)
theorem xi{d:Nat}{x:Int}:kd (Int.ofNat (d+1)) x=Int.fmod x 4:=by
 unfold kd
 rw[show aI (Int.ofNat (d+1)) 0=false from decide_eq_false (by
  have:(Int.ofNat (d+1):Int)=((d+1:Nat):Int):=rfl;omega)];rfl
theorem JN{n:Nat}{o:Op}{f:Nat}{as:List MV}{sh:Sto}{ds:Ds}{v:MV}{sh':Sto}(h:am (aR L1.T (hH n o) f as sh ds) v sh'):J (n+2) f as sh (v,sh'):=gb (n:=n) (is:=CS) (a:=IA o) (O:=kS) (k:=1) (r:=(v,sh')) h
theorem Md{n:Nat}{o:Op}{f:Nat}{as:List MV}{sh:Sto}{ds:Ds}{g:Bool}{r:MV×Sto}(h:aN (aR L1.T (hH n o) f as sh ds)=some (g,r))(hg:g=true):J (n+2) f as sh r:=gW (n:=n) (is:=CS) (a:=IA o) (O:=kS) (k:=1) h hg
section
variable {au:Bool}{n d:Nat}(hn:2≤n)(hd:d≤3)(l:List Int)
include hn hd
theorem qO(hk:aI (kd (Int.ofNat d) (aw l).1) 0=true):J (n+2) 54 [.loc .tape,.int (Int.ofNat d),.int (af au)] (ch l) (aU d (fN (af au) (aw l).1 (aw l).2).1,ch (fN (af au) (aw l).1 (aw l).2).2):=by
 have hb:=cg (a:=Int.fdiv (aw l).1 4) (b:=6) (by decide)
 refine JN (o:=oN (af au) 0) (aK (ac (ac (Ma n (oN (af au) 0) (ch l)) (xh hd)) (mT au)) ?_ ?_)
 ·rw[mS]
  exact an (bt (iX hn l)) (an (bt hk) (an (bt (ao (by omega))) rfl))
 ·rw[mS,pj]
  refine tO (au:=au) (d:=0) hn (xg (AI IO)) _ _ _ ?_;have ht:=text24 (au:=au) (n:=(aw l).1) (r:=(aw l).2);rw[List.nil_append,show aU d (fN (af au) (aw l).1 (aw l).2).1=_ from ft];show am (cc (cA ((iW (ph (af au)) (1+Int.fmod (Int.fdiv (aw l).1 4) 6).toNat (aw l).2).1.map .str)) _ []) _ _;rw[gj];refine⟨ao ?_,rfl,rfl⟩;have:=ht.le;rw[jJ] at this;rw[List.length_flatten] at this;unfold ak;omega
theorem qP(hk:aI (kd (Int.ofNat d) (aw l).1) 0=false)(hk1:aI (kd (Int.ofNat d) (aw l).1) 1=true):J (n+2) 54 [.loc .tape,.int (Int.ofNat d),.int (af au)] (ch l) (aU d (gn (aw l).1 (aw l).2).1,ch (gn (aw l).1 (aw l).2).2):=by
 have hb:=cg (a:=Int.fdiv (aw l).1 4) (b:=3) (by decide)
 have e:=ac (ac (ac (IC n (oN (af au) 0) (ch l)) (xh hd)) (mT au)) (a:=(Int.fmod (Int.fdiv (aw l).1 4) 3).toNat) (qzz.mpr (by omega))
 rw[mS,pj] at e;have h:=Md e (an (bt (iX hn l)) (an (fE hk) (an (bt hk1) (an (bt (pG (by show _=(((Int.fmod (Int.fdiv (aw l).1 4) 3).toNat:Nat):Int);omega))) rfl))))
 show J (n+2) 54 _ _ (aU d (.word (qK (Int.fmod (Int.fdiv (aw l).1 4) 3).toNat)),_);rw[ez];exact h
end
theorem Me{x:Int}(h:aI (Int.fmod x 2) 0=false):aI (Int.fmod x 2) 1=true:=by
 have:=cg (a:=x) (b:=2) (by decide)
 have h:¬Int.fmod x 2=0:=of_decide_eq_false h;exact pG (by omega)
theorem Ku{au:Bool}:∀d,d≤3→ ∀l,J (4+2*d) 54 [.loc .tape,.int (Int.ofNat d),.int (af au)] (ch l) (aU d (aq (af au) d l).1,ch (aq (af au) d l).2)
 |0,hd,l=>by
  show J (2+2) 54 _ _ (aU 0 (bif aI (Int.fmod (aw l).1 2) 0 then fN (af au) (aw l).1 (aw l).2 else gn (aw l).1 (aw l).2).1,ch (bif aI (Int.fmod (aw l).1 2) 0 then fN (af au) (aw l).1 (aw l).2 else gn (aw l).1 (aw l).2).2);cases h:aI (Int.fmod (aw l).1 2) 0 with
  |true=>exact qO (au:=au) (n:=2) (cz 2) hd l h
  |false=>exact qP (au:=au) (n:=2) (cz 2) hd l h (Me h)
 |d+1,hd,l=>by
  have IH:=Ku (au:=au) d (by omega)
  have hn:2≤4+2*d:=by omega
  have hj:∀l,CV (4+2*d) (oN (af au) d) (Int.ofNat (d+1)) (af au) (ch l)=true:=λl=>by
   refine aP ?_;rw[xe,xf]
   have e:Int.ofNat (d+1)-1=Int.ofNat d:=by
    have h1:(Int.ofNat (d+1):Int)=((d+1:Nat):Int):=rfl;have h2:(Int.ofNat d:Int)=((d:Nat):Int):=rfl;omega
   rw[e];exact IH l
  have en:4+2*(d+1)=(4+2*d)+2:=by omega
  rw[en]
  show J ((4+2*d)+2) 54 _ _ (aU (d+1) (bif aI (Int.fmod (aw l).1 4) 0 then fN (af au) (aw l).1 (aw l).2 else bif aI (Int.fmod (aw l).1 4) 1 then gn (aw l).1 (aw l).2 else
   bif aI (Int.fmod (aw l).1 4) 2 then w7 (aq (af au) d) (aw l).1 (aw l).2 else w8 (aq (af au) d) (aw l).1 (aw l).2).1,ch (bif aI (Int.fmod (aw l).1 4) 0 then fN (af au) (aw l).1 (aw l).2 else bif aI (Int.fmod (aw l).1 4) 1 then gn (aw l).1 (aw l).2 else
   bif aI (Int.fmod (aw l).1 4) 2 then w7 (aq (af au) d) (aw l).1 (aw l).2 else w8 (aq (af au) d) (aw l).1 (aw l).2).2)
  cases h0:aI (Int.fmod (aw l).1 4) 0 with
  |true=>exact qO (au:=au) hn hd l (by rw[xi];exact h0)
  |false=>
  cases h1:aI (Int.fmod (aw l).1 4) 1 with
  |true=>exact qP (au:=au) hn hd l (by rw[xi];exact h0) (by rw[xi];exact h1)
  |false=>
  cases h2:aI (Int.fmod (aw l).1 4) 2 with
  |true=>
   have hb:=cg (a:=Int.fdiv (aw l).1 4) (b:=3) (by decide)
   refine JN (o:=oN (af au) d) (aK (ac (ac (ID (4+2*d) (oN (af au) d) (ch l)) (tP hd)) (mT au)) ?_ ?_)
   ·rw[mS,xi]
    exact an (bt (iX hn l)) (an (fE h0) (an (fE h1) (an (bt h2) (an (bt (ao (by omega))) rfl))))
   ·rw[mS,pj]
    exact nT (au:=au) (d:=d) hn hj (xg (AI IP)) _ _ _ ⟨rfl,rfl⟩
  |false=>
   have hb:=cg (a:=Int.fdiv (aw l).1 4) (b:=2) (by decide)
   have hm:(1+Int.fmod (Int.fdiv (aw l).1 4) 2).toNat∈[1,2]:=by
    have:(1+Int.fmod (Int.fdiv (aw l).1 4) 2).toNat=1∨(1+Int.fmod (Int.fdiv (aw l).1 4) 2).toNat=2:=by omega
    rcases this with e | e<;>rw[e]
    ·exact .head _
    ·exact .tail _ (.head _)
   refine JN (o:=oN (af au) d) (aK (ac (ac (ac (IE (4+2*d) (oN (af au) d) (ch l)) (tP hd)) (mT au)) hm) ?_ ?_)
   ·rw[mS,xi]
    exact an (bt (iX hn l)) (an (fE h0) (an (fE h1) (an (fE h2) (an (bt (pG (by show _=(((1+Int.fmod (Int.fdiv (aw l).1 4) 2).toNat:Nat):Int);omega))) rfl))))
   ·rw[mS,pj]
    have:=qN (au:=au) (d:=d) hn hj (q:=Int.fdiv (aw l).1 4) (kd:=kd (Int.ofNat (d+1)) (aw l).1) (dS (1+Int.fmod (Int.fdiv (aw l).1 4) 2).toNat) [] (aw l).2 .unset .unset .unset (by rw[cp];show 0+_≤_;omega)
    rw[cp,List.nil_append] at this;exact this
noncomputable def C0(f:Nat):Bool:=Nat.beq f 55
noncomputable def IQ(E:MV→List MV)(f:Nat)(as:List MV)(sh:Sto):MV×Sto:=(.lst (E (at_ as 0)),sh)
noncomputable def lf(n:Nat)(E:MV→List MV):Psi:=wB n C0 (IQ E) kS 1
noncomputable def C1:MSs:=L1.b__law_events
noncomputable def cV(e:List MV)(ss es is rs tp du:Option (List MV)):Sto:=⟨some e,none,ss,es,is,rs,tp,du⟩
noncomputable def IR:MSs:=ec (aF (ag C1 2))
noncomputable def r8:MSs:=ag IR 1
noncomputable def r9:MSs:=ag C1 4
noncomputable def lg(sh:Sto)(nd:MV)(ls:List MV)(c2 c3 c4:Cell):St:=⟨sh,[.val nd,.own ls,c2,c3,c4]⟩
noncomputable def j55(n:Nat)(E:MV→List MV)(x:MV)(sh:Sto):Bool:=jd n 55 [x] sh (.lst (E x),sh)
noncomputable def C2(st:St)(v:MV)(K:St→Ds→R):R:=cc (eA st 1 v) K []
section
variable (n:Nat)(E:MV→List MV)(e:List MV)(ss es is rs tp du:Option (List MV))(x y:MV)(xs ls:List MV)(nd:MV)(c2 c3 c4:Cell)(K:Option MV→St→Ds→R)(sh:Sto)
theorem Kv(t:Tx):aN (aR L1.T (lf n E) 55 [.tup [.str bA,.str t]] (cV e ss es is rs tp du) [])=some (tt (im (cV e ss es is rs tp du) (cV e ss es is rs tp du)),(.lst [cq t],cV e ss es is rs tp du)):=by kernel_rfl
theorem Kw(t:Tx):aN (aR L1.T (lf n E) 55 [.tup [.str br,.str t]] (cV e ss es is rs tp du) [])=some (tt (im (cV e ss es is rs tp du) (cV e ss es is rs tp du)),(.lst [jC t],cV e ss es is rs tp du)):=by kernel_rfl
theorem Mf:ax 1 (aR L1.T (lf n E) 55 [.tup [.str b8,.lst xs]] (cV e ss es is rs tp du) [])=(tt (im (cV e ss es is rs tp du) (cV e ss es is rs tp du)),fG (lf n E) r8 (ba (lf n E) .nil (ba (lf n E) (ag C1 3) ai)) 2 xs (lg (cV e ss es is rs tp du) (.tup [.str b8,.lst xs]) [qB] .unset .unset .unset) []):=by kernel_rfl
theorem IS:ax 2 (fG (lf n E) r8 K 2 (x::xs) (lg sh nd ls c2 c3 c4) [])=(tt (j55 n E x sh),C2 (lg sh nd ls (.val x) c3 c4) (.lst (E x)) λst=>qY (lf n E) r8 K 2 xs none st):=by kernel_rfl
theorem IT:ax 2 (fG (lf n E) r8 (ba (lf n E) .nil (ba (lf n E) (ag C1 3) ai)) 2 [] (lg (cV e ss es is rs tp du) nd ls c2 c3 c4) [])=((im (cV e ss es is rs tp du) (cV e ss es is rs tp du)==true)&&((aS (ls.length+1) ak==true)&&true),.fin (.lst (ls++[jD])) (cV e ss es is rs tp du)):=by kernel_rfl
theorem Mg:ax 1 (aR L1.T (lf n E) 55 [.tup [.str bI,.lst xs]] (cV e ss es is rs tp du) [])=(tt (im (cV e ss es is rs tp du) (cV e ss es is rs tp du)),eQ (lf n E) r9 ai (.tup [3,4]) xs (lg (cV e ss es is rs tp du) (.tup [.str bI,.lst xs]) [qC] .unset .unset .unset) []):=by kernel_rfl
noncomputable def C3(Ψ:Psi)(L:MSs)(K:Option MV→St→Ds→R)(t:MT)(vs:List MV):Option MV→St→Ds→R:=λr st=>pO r (ba Ψ (aY L) K) (eQ Ψ L K t vs) st
theorem IU:ax 4 (eQ (lf n E) r9 K (.tup [3,4]) (.tup [x,y]::xs) (lg sh nd ls c2 c3 c4) [])=((j55 n E x sh==true)&&((j55 n E y sh==true)&&((aS ((E x).length+(E y).length) ak==true)&&true)),C2 (lg sh nd ls c2 (.val x) (.val y)) (.lst (E x++E y)) λst=>C3 (lf n E) r9 K (.tup [3,4]) xs none st):=by kernel_rfl
theorem IV:ax 2 (eQ (lf n E) r9 ai (.tup [3,4]) [] (lg (cV e ss es is rs tp du) nd ls c2 c3 c4) [])=((im (cV e ss es is rs tp du) (cV e ss es is rs tp du)==true)&&((aS (ls.length+1) ak==true)&&true),.fin (.lst (ls++[jE])) (cV e ss es is rs tp du)):=by kernel_rfl
end
theorem pq{α β:Type}{f:α→β}{p:α→Bool}(h:∀x y,p x=true→p y=true→f x=f y→x=y):∀{l l':List α},l.all p=true→l'.all p=true→l.map f=l'.map f→l=l'
 |[],[],_,_,_=>rfl
 |[],_::_,_,_,e=>by cases e
 |_::_,[],_,_,e=>by cases e
 |x::l,y::l',h1,h2,e=>by
  have e1:=(List.cons.inj e).1;have e2:=(List.cons.inj e).2;rw[h x y (ab h1) (ab h2) e1,pq h (aa h1) (aa h2) e2]
theorem xj{a b:Tx}(e:MV.str a= .str b):a=b:=bJ xV e
theorem Fq{a b:List MV}(e:MV.tup a= .tup b):a=b:=bJ (λv=>(pK v).getD []) e
theorem Fr{a b:List MV}(e:MV.lst a= .lst b):a=b:=bJ (λv=>(dH v).getD []) e
theorem fO{a b:Tx}{x y:MV}(e:MV.tup [.str a,x]= .tup [.str b,y]):a=b∧x=y:=by
 have e1:=Fq e;have e2:=List.cons.inj e1;exact⟨xj e2.1,(List.cons.inj e2.2).1⟩
theorem C6:bA≠br∧bA≠b8∧bA≠bI∧br≠b8∧br≠bI∧b8≠bI:=by
 unfold bA br b8 bI;decide
theorem C7{d:Nat}{l:List Nd}:aU (d+1) (.row l)= .tup [.str b8,.lst (l.map (aU d))]:=rfl
theorem C8{d:Nat}{l:List (Nd×Nd)}:aU (d+1) (.map l)= .tup [.str bI,.lst (l.map (iY d))]:=rfl
theorem lE{au:Bool}:∀(d:Nat) (n n':Nd),av au d n=true→av au d n'=true→aU d n=aU d n'→n=n'
 |0,n,n',h,h',e=>by
  obtain⟨t1,t2,t3,t4,t5,t6⟩:=C6;cases n with
  |row l=>exact aB h
  |map l=>exact aB h
  |text t=>cases n' with
   |text t'=>rw[xj (fO e).2]
   |word w=>exact absurd (fO e).1 t1
   |row l=>exact aB h'
   |map l=>exact aB h'
  |word t=>cases n' with
   |text t'=>exact absurd (fO e).1.symm t1
   |word w=>rw[xj (fO e).2]
   |row l=>exact aB h'
   |map l=>exact aB h'
 |d+1,n,n',h,h',e=>by
  obtain⟨t1,t2,t3,t4,t5,t6⟩:=C6;cases n with
  |text t=>cases n' with
   |text t'=>rw[xj (fO e).2]
   |word w=>exact absurd (fO e).1 t1
   |row l=>exact absurd (fO e).1 t2
   |map l=>exact absurd (fO e).1 t3
  |word t=>cases n' with
   |text t'=>exact absurd (fO e).1.symm t1
   |word w=>rw[xj (fO e).2]
   |row l=>exact absurd (fO e).1 t4
   |map l=>exact absurd (fO e).1 t5
  |row l=>cases n' with
   |text t'=>exact absurd (fO e).1.symm t2
   |word w=>exact absurd (fO e).1.symm t4
   |row l'=>
    have h:(!l.isEmpty&&l.all (av au d))=true:=h;have h':(!l'.isEmpty&&l'.all (av au d))=true:=h';rw[pq (lE d) (aa h) (aa h') (Fr (fO e).2)]
   |map l'=>exact absurd (fO e).1 t6
  |map l=>cases n' with
   |text t'=>exact absurd (fO e).1.symm t3
   |word w=>exact absurd (fO e).1.symm t5
   |row l'=>exact absurd (fO e).1.symm t6
   |map l'=>
    have h:(!l.isEmpty&&l.all λp=>av au d p.1&&(ef p.1&&av au d p.2))=true:=h;have h':(!l'.isEmpty&&l'.all λp=>av au d p.1&&(ef p.1&&av au d p.2))=true:=h'
    rw[pq (f:=iY d) (λx y hx hy e=>by
     have e1:=List.cons.inj (Fq e);exact Prod.ext (lE d _ _ (ab hx) (ab hy) e1.1) (lE d _ _ (aa (aa hx)) (aa (aa hy)) (List.cons.inj e1.2).1)) (aa h) (aa h') (Fr (fO e).2)]
noncomputable def qQ{α:Type}(au:Bool)(d:Nat)(f:Nd→α)(z:α)(v:MV):α:=@dite _ (∃n,av au d n=true∧aU d n=v) (Classical.propDecidable _) (λh=>f h.choose) (λ_=>z)
theorem lF{α:Type}{au:Bool}{d:Nat}{f:Nd→α}{z:α}{n:Nd}(h:av au d n=true):qQ au d f z (aU d n)=f n:=by
 have hx:∃m,av au d m=true∧aU d m=aU d n:=⟨n,h,rfl⟩;have e:qQ au d f z (aU d n)=f hx.choose:=dif_pos hx;rw[e,lE d _ _ hx.choose_spec.1 h hx.choose_spec.2]
noncomputable def eX:Nat→Nd→Bool
 |0,_=>true
 |d+1,n=>dW n (λ_=>true) (λ_=>true) (λl=>aS l.length 3&&l.all (eX d)) (λl=>aS l.length 2&&l.all λp=>eX d p.1&&eX d p.2)
noncomputable def u3:Nat→Nat
 |0=>1
 |d+1=>4*u3 d+2
theorem sb{α β:Type}{f:α→List β}{c:Nat}:∀{l:List α},(∀x∈l,(f x).length≤c)→(l.flatMap f).length≤l.length*c
 |[],_=>iw _
 |x::l,h=>by
  show (f x++l.flatMap f).length≤(l.length+1)*c;rw[a7,Nat.add_mul,Nat.one_mul];have h1:=h x (.head _);have h2:=sb (l:=l) λy m=>h y (.tail _ m);omega
theorem zH:∀d,1≤u3 d
 |0=>cz 1
 |d+1=>by show 1≤4*u3 d+2;omega
theorem jK:∀(d:Nat) (n:Nd),eX d n=true→(bm d n).length≤u3 d
 |0,n,h=>cz 1
 |d+1,n,h=>by
  show (k9 n::zp (bm d) n).length≤4*u3 d+2;have hc:=zH d;cases n with
  |text t=>show 1≤_;omega
  |word t=>show 1≤_;omega
  |row l=>
   have h:(aS l.length 3&&l.all (eX d))=true:=h;show (l.flatMap (bm d)++[jD]).length+1≤_;rw[a7];have h1:=sb (l:=l) (f:=bm d) (c:=u3 d) λx m=>jK d x (qdz.mp (aa h) x m);have h2:l.length≤3:=kM (ab h);have h3:l.length*u3 d≤3*u3 d:=Nat.mul_le_mul_right _ h2;show (l.flatMap (bm d)).length+1+1≤_;omega
  |map l=>
   have h:(aS l.length 2&&l.all λp=>eX d p.1&&eX d p.2)=true:=h;show ((l.flatMap λp=>bm d p.1++bm d p.2)++[jE]).length+1≤_;rw[a7]
   have h1:=sb (l:=l) (f:=λp=>bm d p.1++bm d p.2) (c:=2*u3 d) λx m=>by
    have hx:=qdz.mp (aa h) x m;have a1:=jK d x.1 (ab hx);have a2:=jK d x.2 (aa hx);rw[a7];omega
   have h2:l.length≤2:=kM (ab h);have h3:l.length*(2*u3 d)≤2*(2*u3 d):=Nat.mul_le_mul_right _ h2;show (l.flatMap λp=>bm d p.1++bm d p.2).length+1+1≤_;omega
theorem JE{n:Nat}{E:MV→List MV}{f:Nat}{as:List MV}{sh:Sto}{ds:Ds}{v:MV}{sh':Sto}(h:am (aR L1.T (lf n E) f as sh ds) v sh'):J (n+2) f as sh (v,sh'):=gb (n:=n) (is:=C0) (a:=IQ E) (O:=kS) (k:=1) (r:=(v,sh')) h
theorem Gp{n:Nat}{E:MV→List MV}{f:Nat}{as:List MV}{sh:Sto}{ds:Ds}{g:Bool}{r:MV×Sto}(h:aN (aR L1.T (lf n E) f as sh ds)=some (g,r))(hg:g=true):J (n+2) f as sh r:=gW (n:=n) (is:=C0) (a:=IQ E) (O:=kS) (k:=1) h hg
structure Gs(r:R)(v:MV)(sh:Sto):Prop where
 of ::
 go:am r v sh
theorem bC{v:MV}{sh:Sto}{n:Nat}{r r':R}{g:Bool}(e:ax n r=(g,r'))(hg:g=true)(h:Gs r' v sh):Gs r v sh:=⟨aK e hg h.go⟩
theorem Kx{n:Nat}{E:MV→List MV}{f:Nat}{as:List MV}{sh:Sto}{ds:Ds}{v:MV}{sh':Sto}(h:Gs (aR L1.T (lf n E) f as sh ds) v sh'):J (n+2) f as sh (v,sh'):=JE h.go
theorem AK{sh:Sto}{nd:MV}{ls ws:List MV}{c2 c3 c4:Cell}{K:St→Ds→R}(h:ls.length+ws.length≤10000):C2 (lg sh nd ls c2 c3 c4) (.lst ws) K=K (lg sh nd (ls++ws) c2 c3 c4) []:=by
 show cc (xL (aS (ls.length+ws.length) ak) (some _)) K []=_;rw[ao (by unfold ak;omega)];rfl
theorem pu{Ψ:Psi}{L:MSs}{K:Option MV→St→Ds→R}{t:MT}(nb:aD (bK (aF L))=true)(nt:aD (aY L)=true)(h:∀r st,Mn (K r st)):∀vs st,Mn (eQ Ψ L K t vs st):=rT (λst k hk=>cH _ nb st k hk) (dj nt h)
theorem Fs:aD (bK (aF r8))=true:=by kernel_rfl
theorem Ft:aD (aY r8)=true:=by kernel_rfl
theorem Fu:aD (bK (aF r9))=true:=by kernel_rfl
theorem Fv:aD (aY r9)=true:=by kernel_rfl
theorem IW:aD (ag C1 3)=true:=by kernel_rfl
section
variable {n d:Nat}{E:MV→List MV}{e:List MV}{ss es is rs tp du:Option (List MV)}{nd:MV}
theorem AL:∀(xs:List Nd) (ls:List MV) (c2 c3 c4:Cell),(∀x∈xs,j55 n E (aU d x) (cV e ss es is rs tp du)=true∧E (aU d x)=bm d x∧(bm d x).length≤500)→ls.length+xs.length*500≤5000 →
  am (fG (lf n E) r8 (ba (lf n E) .nil (ba (lf n E) (ag C1 3) ai)) 2 (xs.map (aU d)) (lg (cV e ss es is rs tp du) nd ls c2 c3 c4) []) (.lst ((ls++xs.flatMap (bm d))++[jD])) (cV e ss es is rs tp du)
 |[],ls,c2,c3,c4,H,hl=>by
  rw[show ls++([]:List Nd).flatMap (bm d)=ls from fw _];exact aK (IT n E e ss es is rs tp du ls nd c2 c3 c4) (an (bt (cM _)) (an (bt (ao (by unfold ak;omega))) rfl)) ⟨rfl,rfl⟩
 |x::xs,ls,c2,c3,c4,H,hl=>by
  have hl:ls.length+(xs.length+1)*500≤5000:=hl;obtain⟨h1,h2,h3⟩:=H x (.head _);have hm:∀r st,Mn (ba (lf n E) .nil (ba (lf n E) (ag C1 3) ai) r st):=dj mR (dj IW di);refine aT (mC Fs Ft hm _ _) (IS n E (aU d x) (xs.map (aU d)) ls nd c2 c3 c4 _ (cV e ss es is rs tp du)) (bB h1) ?_;rw[h2,AK (by omega),hJ]
  have:=AL xs (ls++bm d x) (.val (aU d x)) c3 c4 (λy m=>H y (.tail _ m)) (by rw[a7];omega)
  rw[cu ls] at this;exact this
theorem AM:∀(xs:List (Nd×Nd)) (ls:List MV) (c2 c3 c4:Cell),(∀p∈xs,(j55 n E (aU d p.1) (cV e ss es is rs tp du)=true∧E (aU d p.1)=bm d p.1∧(bm d p.1).length≤500)∧(j55 n E (aU d p.2) (cV e ss es is rs tp du)=true∧E (aU d p.2)=bm d p.2∧(bm d p.2).length≤500))→ls.length+xs.length*1000≤5000 →
  am (eQ (lf n E) r9 ai (.tup [3,4]) (xs.map (iY d)) (lg (cV e ss es is rs tp du) nd ls c2 c3 c4) []) (.lst ((ls++xs.flatMap λp=>bm d p.1++bm d p.2)++[jE])) (cV e ss es is rs tp du)
 |[],ls,c2,c3,c4,H,hl=>by
  rw[show (ls++([]:List (Nd×Nd)).flatMap λp=>bm d p.1++bm d p.2)=ls from fw _];exact aK (IV n E e ss es is rs tp du ls nd c2 c3 c4) (an (bt (cM _)) (an (bt (ao (by unfold ak;omega))) rfl)) ⟨rfl,rfl⟩
 |p::xs,ls,c2,c3,c4,H,hl=>by
  have hl:ls.length+(xs.length+1)*1000≤5000:=hl;obtain⟨⟨h1,h2,h3⟩,h4,h5,h6⟩:=H p (.head _);refine aT (pu Fu Fv di _ _) (IU n E (aU d p.1) (aU d p.2) (xs.map (iY d)) ls nd c2 c3 c4 ai (cV e ss es is rs tp du)) (an (bt h1) (an (bt h4) (an (bt (ao (by rw[h2,h5];unfold ak;omega))) rfl))) ?_
  rw[h2,h5,AK (by rw[a7];omega)]
  have:=AM xs (ls++(bm d p.1++bm d p.2)) c2 (.val (aU d p.1)) (.val (aU d p.2)) (λy m=>H y (.tail _ m)) (by rw[a7,a7];omega)
  rw[cu ls] at this;exact this
theorem IX(xs:List Nd)(H:∀x∈xs,j55 n E (aU d x) (cV e ss es is rs tp du)=true∧E (aU d x)=bm d x∧(bm d x).length≤500)(hl:xs.length≤3):J (n+2) 55 [.tup [.str b8,.lst (xs.map (aU d))]] (cV e ss es is rs tp du) (.lst (([qB]++xs.flatMap (bm d))++[jD]),cV e ss es is rs tp du):=by
 have hb:[qB].length+xs.length*500≤5000:=by show 1+_≤_;omega
 have g:=Mf n E e ss es is rs tp du (xs.map (aU d));have h:=AL (n:=n) (d:=d) (E:=E) (e:=e) (ss:=ss) (es:=es) (is:=is) (rs:=rs) (tp:=tp) (du:=du) (nd:=.tup [.str b8,.lst (xs.map (aU d))]) xs [qB] .unset .unset .unset H hb;exact Kx (bC g (bB (cM _)) ⟨h⟩)
theorem IY(xs:List (Nd×Nd))(H:∀p∈xs,(j55 n E (aU d p.1) (cV e ss es is rs tp du)=true∧E (aU d p.1)=bm d p.1∧(bm d p.1).length≤500)∧(j55 n E (aU d p.2) (cV e ss es is rs tp du)=true∧E (aU d p.2)=bm d p.2∧(bm d p.2).length≤500))(hl:xs.length≤2):J (n+2) 55 [.tup [.str bI,.lst (xs.map (iY d))]] (cV e ss es is rs tp du) (.lst (([qC]++xs.flatMap λp=>bm d p.1++bm d p.2)++[jE]),cV e ss es is rs tp du):=by
 have hb:[qC].length+xs.length*1000≤5000:=by show 1+_≤_;omega
 have g:=Mg n E e ss es is rs tp du (xs.map (iY d));have h:=AM (n:=n) (d:=d) (E:=E) (e:=e) (ss:=ss) (es:=es) (is:=is) (rs:=rs) (tp:=tp) (du:=du) (nd:=.tup [.str bI,.lst (xs.map (iY d))]) xs [qC] .unset .unset .unset H hb;exact Kx (bC g (bB (cM _)) ⟨h⟩)
end
theorem xk{d:Nat}(h:d≤3):u3 d≤500:=by
 match d,h with
 |0,_=>decide
 |1,_=>decide
 |2,_=>decide
 |3,_=>decide
 |n+4,h=>exact absurd h (by omega)
theorem Ky{au:Bool}{e:List MV}{ss es is rs tp du:Option (List MV)}:∀(d:Nat),d≤3→ ∀(n:Nd),av au d n=true→eX d n=true→J (4+2*d) 55 [aU d n] (cV e ss es is rs tp du) (.lst (bm d n),cV e ss es is rs tp du)
 |0,hd,n,ho,hz=>by
  cases n with
  |text t=>exact Gp (n:=2) (Kv 2 (λ_=>[]) e ss es is rs tp du t) (bB (cM _))
  |word t=>exact Gp (n:=2) (Kw 2 (λ_=>[]) e ss es is rs tp du t) (bB (cM _))
  |row l=>exact aB ho
  |map l=>exact aB ho
 |d+1,hd,n,ho,hz=>by
  have IH:=Ky (au:=au) (e:=e) (ss:=ss) (es:=es) (is:=is) (rs:=rs) (tp:=tp) (du:=du) d (by omega)
  have hx:∀x,av au d x=true→eX d x=true→j55 (4+2*d) (qQ au d (bm d) []) (aU d x) (cV e ss es is rs tp du)=true∧qQ au d (bm d) [] (aU d x)=bm d x∧(bm d x).length≤500:=λx h1 h2=>by
   refine⟨aP ?_,lF h1,iE (jK d x h2) (xk (by omega))⟩
   rw[lF h1];exact IH x h1 h2
  rw[show 4+2*(d+1)=(4+2*d)+2 by omega]
  cases n with
  |text t=>exact Gp (n:=4+2*d) (Kv (4+2*d) (λ_=>[]) e ss es is rs tp du t) (bB (cM _))
  |word t=>exact Gp (n:=4+2*d) (Kw (4+2*d) (λ_=>[]) e ss es is rs tp du t) (bB (cM _))
  |row l=>
   have ho:(!l.isEmpty&&l.all (av au d))=true:=ho;have hz:(aS l.length 3&&l.all (eX d))=true:=hz;have hl:l.length≤3:=kM (ab hz);exact IX (n:=4+2*d) (d:=d) (E:=qQ au d (bm d) []) l (λx m=>hx x (qdz.mp (aa ho) x m) (qdz.mp (aa hz) x m)) hl
  |map l=>
   have ho:(!l.isEmpty&&l.all λp=>av au d p.1&&(ef p.1&&av au d p.2))=true:=ho;have hz:(aS l.length 2&&l.all λp=>eX d p.1&&eX d p.2)=true:=hz;have hl:l.length≤2:=kM (ab hz)
   exact IY (n:=4+2*d) (d:=d) (E:=qQ au d (bm d) []) l (λp m=>by
    have h1:=qdz.mp (aa ho) p m;have h2:=qdz.mp (aa hz) p m;exact⟨hx _ (ab h1) (ab h2),hx _ (aa (aa h1)) (aa h2)⟩) hl
noncomputable def qZ:MSs:=L1.b__law_text
noncomputable def Kz:MSs:=ag qZ 4
noncomputable def IZ:MS:=aF (ag qZ 2)
noncomputable def u4(ls:List MV)(sh:Sto):Psi:=PX 2 [(53,(.lst ls,sh))] 1
noncomputable def cD(sh:Sto)(h v:Tx)(c m:Int)(e:Tx)(c5 c6 c7 c8:Cell):St:=⟨sh,[.val (.str h),.val (.str v),.val (.int c),.val (.int m),.val (.str e),c5,c6,c7,c8]⟩
noncomputable def mI:List Nat:=[2,3,4,5,6,7,8,9]
noncomputable def Fw(r:MV)(i:Int):MB:=.cmp (.sub (.k r) (.k (.int i))) (.cons .eq (.k (.str [])) .nil)
noncomputable def enL:List Tx:=[[],[10],[8232],[8233]]
noncomputable def u5(e en:Tx):Tx:=bif eqX en []||eqX en [10] then e else en
noncomputable def Gq(c:Int)(ln:Tx):Tx:=bif ln.isEmpty then [] else dk [32] c.toNat++ln
noncomputable def mU(c:Int)(e:Tx)(x:Tx×Tx):Tx:=Gq c x.1++u5 e x.2
noncomputable def C9(st:St)(v:MV)(K:St→Ds→R)(ds:Ds):R:=cc (dm st 6 v) K ds
section
variable (ls ls':List MV)(sh sh':Sto)(h v e:Tx)(c m:Int)(z:Nat)(a b:Tx)(r:List MV)(rest:MSs)(K:Option MV→St→Ds→R)(c5 c6 c7 c8:Cell)(N:Nat)
noncomputable def lG(b:Bool)(t:Nat):Ds:=bif b then [(3000400-t,false)] else []
noncomputable def Gr(v:Tx)(ls:List MV)(sh:Sto):Bool:=jd 2 53 [.str v] sh (.lst ls,sh)
theorem I6:mI.map (λm=>bb.map λD=>ax 2 (ae L1.T (u4 (.tup [.str [],.str b]::r) sh) (aO 2 qZ rest) (cD sh h v c (Int.ofNat m) e .unset .unset .unset .unset) K (lG D 1))) =
 mp (λm=>mp (λD=>((Gr v (.tup [.str [],.str b]::r) sh==true)&&((aS (h.length+1) ak==true)&&true),ae L1.T (u4 (.tup [.str [],.str b]::r) sh) rest (cD sh (h++[48+m]) v c (Int.ofNat m) e (.val (.lst (.tup [.str [],.str b]::r))) .unset .unset .unset) K (lG D 3))) bb) mI:=by kernel_rfl
theorem I7:mI.map (λm=>bb.map λD=>ax 2 (ae L1.T (u4 (.tup [.str (32::a),.str b]::r) sh) (aO 2 qZ rest) (cD sh h v c (Int.ofNat m) e .unset .unset .unset .unset) K (lG D 0))) =
 mp (λm=>mp (λD=>((Gr v (.tup [.str (32::a),.str b]::r) sh==true)&&((aS (h.length+1) ak==true)&&true),ae L1.T (u4 (.tup [.str (32::a),.str b]::r) sh) rest (cD sh (h++[48+m]) v c (Int.ofNat m) e (.val (.lst (.tup [.str (32::a),.str b]::r))) .unset .unset .unset) K (lG D 3))) bb) mI:=by kernel_rfl
noncomputable def al0:List Nat:=al.filter λz=>!Nat.beq z 32
theorem I8:al0.map (λz=>bb.map λD=>ax 1 (ae L1.T (u4 (.tup [.str (z::a),.str b]::r) sh) (aO 2 qZ rest) (cD sh h v c m e .unset .unset .unset .unset) K (lG D 0))) =
 mp (λz=>mp (λD=>((Gr v (.tup [.str (z::a),.str b]::r) sh==true)&&true,ae L1.T (u4 (.tup [.str (z::a),.str b]::r) sh) rest (cD sh h v c m e (.val (.lst (.tup [.str (z::a),.str b]::r))) .unset .unset .unset) K (lG D 3))) bb) al0:=by kernel_rfl
noncomputable def Da(r:MV):MS:=.ife (Fw r 1) (ec IZ) (Am IZ)
noncomputable def Db(r:MV):MS:=.ife (Fw r 0) (ec (aF (Am IZ))) .nil
theorem I9(Ψ:Psi)(k:Nat):bb.map (λD=>ae L1.T Ψ (aO 1 (ag qZ 2) rest) (cD sh h v c m e (.val (.lst ls)) c6 c7 c8) K (lG D 3)) =
 mp (λD=>cc (fx sh (.lst ls) (.int (-1))) (λr=>ae L1.T Ψ (.cons (Da r) rest) (cD sh h v c m e (.val (.lst ls)) c6 c7 c8) K) (lG D 3)) bb:=by kernel_rfl
theorem Ja(Ψ:Psi):bb.map (λD=>ax 1 (ae L1.T Ψ (.cons (Da (.tup [.str a,.str []])) rest) (cD sh h v c m e c5 c6 c7 c8) K (lG D 3))) =
 mp (λD=>((aS (h.length+1) ak==true)&&true,ae L1.T Ψ rest (cD sh (h++[45]) v c m e c5 c6 c7 c8) K (lG D 4))) bb:=by kernel_rfl
theorem Jb(Ψ:Psi):bb.map (λD=>ae L1.T Ψ (.cons (Da (.tup [.str a,.str [z]])) rest) (cD sh h v c m e (.val (.lst ls)) c6 c7 c8) K (lG D 3)) =
 mp (λD=>cc (fx sh (.lst ls) (.int (-1))) (λr=>ae L1.T Ψ (.cons (Db r) .nil) (cD sh h v c m e (.val (.lst ls)) c6 c7 c8) (ba Ψ rest K)) (lG D 4)) bb:=by kernel_rfl
theorem Jc(Ψ:Psi):bb.map (λD=>ax 1 (ae L1.T Ψ (.cons (Db (.tup [.str [],.str b])) .nil) (cD sh h v c m e c5 c6 c7 c8) (ba Ψ rest K) (lG D 4))) =
 mp (λD=>((aS (h.length+1) ak==true)&&true,ae L1.T Ψ rest (cD sh (h++[43]) v c m e c5 c6 c7 c8) K (lG D 5))) bb:=by kernel_rfl
theorem Jd(Ψ:Psi):bb.map (λD=>ax 0 (ae L1.T Ψ (.cons (Db (.tup [.str (z::a),.str b])) .nil) (cD sh h v c m e c5 c6 c7 c8) (ba Ψ rest K) (lG D 4))) =
 mp (λD=>(true,ae L1.T Ψ rest (cD sh h v c m e c5 c6 c7 c8) K (lG D 5))) bb:=by kernel_rfl
noncomputable def uP(Ψ:Psi)(xs:List MV)(st:St)(ds:Ds):R:=eQ Ψ Kz ai (.tup [7,8]) xs st ds
theorem Mh(Ψ:Psi):[4,5].map (λk=>bb.map λD=>ax 1 (ae L1.T Ψ (ag qZ 3) (cD sh h v c m e (.val (.lst ls)) c6 c7 c8) ai (lG D k))) =
 mp (λk=>mp (λD=>((aS (h.length+e.length) ak==true)&&true,uP Ψ ls (cD sh h v c m e (.val (.lst ls)) (.own [.str (h++e)]) c7 c8) (lG D k))) bb) [4,5]:=by kernel_rfl
noncomputable def dN(D:Bool)(N:Nat):Ds:=bif D then [(N,false)] else []
noncomputable def tE(en:Tx):Nat:=bif eqX en [] then 3 else 4
noncomputable def Je(Ψ:Psi)(xs:List MV)(st:St):Ds→R:=C3 Ψ Kz ai (.tup [7,8]) xs none st
theorem Jf(Ψ:Psi)(rs xs:List MV):enL.map (λen=>bb.map λD=>ax 2 (uP Ψ (.tup [.str [],.str en]::xs) (cD sh h v c m e c5 (.own rs) c7 c8) (dN D (N+tE en)))) =
 mp (λen=>mp (λD=>((aS (0+(u5 e en).length) ak==true)&&true,C9 (cD sh h v c m e c5 (.own rs) (.val (.str [])) (.val (.str en))) (.str (u5 e en)) (Je Ψ xs) (dN D N))) bb) enL:=by kernel_rfl
theorem Jg(Ψ:Psi)(rs xs:List MV):enL.map (λen=>bb.map λD=>ax 4 (uP Ψ (.tup [.str (z::a),.str en]::xs) (cD sh h v c m e c5 (.own rs) c7 c8) (dN D (N+tE en)))) =
 mp (λen=>mp (λD=>(((aS (1*c.toNat) ak&&aS c.natAbs ak)==true)&&((aS ((dk [32] c.toNat).length+(z::a).length) ak==true)&&((aS ((dk [32] c.toNat++z::a).length+(u5 e en).length) ak==true)&&true)),C9 (cD sh h v c m e c5 (.own rs) (.val (.str (z::a))) (.val (.str en))) (.str ((dk [32] c.toNat++z::a)++u5 e en)) (Je Ψ xs) (dN D N))) bb) enL:=by kernel_rfl
theorem Jh(Ψ:Psi)(rs:List MV):aN (uP Ψ [] (cD sh h v c m e c5 (.own rs) c7 c8) [])=some (true,(.lst rs,sh)):=by kernel_rfl
theorem Ji(Ψ:Psi)(rs:List MV)(E:List MV)(ss es is rs' tp:Option (List MV)):uP Ψ [] (cD (cV E ss es is rs' tp none) h v c m e c5 (.own rs) c7 c8) [(N,false)]=(bif Nat.ble 3000000 N then .fin (.loc .due) (cV E ss es is rs' tp (some rs)) else .fin (.lst rs) (cV E ss es is rs' tp none)):=by
 show yf .due 6 _ _ [(N,false)]=_;unfold yf;show (bif Nat.ble 3000000 N then ye .due 6 _ _ [] else vr 6 _ _ [(N,false)])=_;cases Nat.ble 3000000 N with
 |true=>kernel_rfl
 |false=>kernel_rfl
end
noncomputable def bu:Tx→Tx→Tx
 |p,[]=>p
 |p,c::r=>bif B3.contains c then bu [] r else bu (p++[c]) r
noncomputable def kr:Tx→Tx→List (Tx×Tx)
 |p,[]=>[]
 |p,c::r=>bif B3.contains c then (p,[c])::kr [] r else kr (p++[c]) r
theorem pv:∀(t p s:Tx),bF p (t++s)=kr p t++bF (bu p t) s
 |[],p,s=>rfl
 |c::r,p,s=>by
  show (bif B3.contains c then (p,[c])::bF [] (r++s) else bF (p++[c]) (r++s))=(bif B3.contains c then (p,[c])::kr [] r else kr (p++[c]) r)++bF (bif B3.contains c then bu [] r else bu (p++[c]) r) s;cases B3.contains c with
  |true=>
   show (p,[c])::bF [] (r++s)=_;rw[pv r [] s];rfl
  |false=>exact pv r _ s
theorem pw:∀(t p s:Tx),bu p (t++s)=bu (bu p t) s
 |[],p,s=>rfl
 |c::r,p,s=>by
  show (bif B3.contains c then bu [] (r++s) else bu (p++[c]) (r++s))=bu (bif B3.contains c then bu [] r else bu (p++[c]) r) s;cases B3.contains c with
  |true=>exact pw r [] s
  |false=>exact pw r _ s
noncomputable def fu(q:Tx)(c:Nat):Tx×Tx:=bif B3.contains c then (q,[c]) else (q++[c],[])
theorem qR(t:Tx)(c:Nat):dX (t++[c])=kr [] t++[fu (bu [] t) c]:=by
 unfold dX;rw[pv];show _++(bif B3.contains c then (bu [] t,[c])::bF [] [] else bF (bu [] t++[c]) [])=_;unfold fu;cases B3.contains c with
 |true=>rfl
 |false=>
  show _++(bif (bu [] t++[c]).isEmpty then [] else [(bu [] t++[c],[])])=_;cases e:bu [] t<;>rfl
theorem tQ(t:Tx)(x:Nat):(bu [] (t++[x])=[])↔B3.contains x=true:=by
 rw[pw];show ((bif B3.contains x then bu [] [] else bu (bu [] t++[x]) [])=[])↔_;cases B3.contains x with
 |true=>exact⟨λ_=>rfl,λ_=>rfl⟩
 |false=>exact⟨λz=>absurd z (by show bu [] t++[x]≠[];simp),λz=>aB z⟩
theorem nU:∀(r p:Tx),p≠[]→ ∃a b q,bF p r=(p++a,b)::q
 |[],p,h=>by
  cases p with
  |nil=>exact absurd rfl h
  |cons x p=>exact⟨[],[],[],by rw[fw];rfl⟩
 |c::r,p,h=>by
  show ∃a b q,(bif B3.contains c then (p,[c])::bF [] r else bF (p++[c]) r)=(p++a,b)::q;cases B3.contains c with
  |true=>exact⟨[],[c],bF [] r,by rw[fw];rfl⟩
  |false=>
   obtain⟨a,b,q,e⟩:=nU r (p++[c]) (by simp)
   exact⟨c::a,b,q,e.trans (by rw[cu];rfl)⟩
theorem lH:∀(t p:Tx),∀x∈bF p t,x.2∈enL
 |[],p,x,m=>by
  have m:x∈(bif p.isEmpty then [] else [(p,[])]:List (Tx×Tx)):=m;cases p with
  |nil=>exact absurd m (nX)
  |cons y p=>
   rw[qfz.mp (show x∈[(y::p,([]:Tx))] from m)];exact .head _
 |c::r,p,x,m=>by
  have m:x∈(bif B3.contains c then (p,[c])::bF [] r else bF (p++[c]) r):=m;cases h:B3.contains c with
  |true=>
   rw[h] at m;rcases qkz.mp m with rfl | m
   ·have:c∈B3:=List.contains_iff_mem.mp h
    have hk:∀c∈B3,[c]∈enL:=by unfold B3 enL;decide
    exact hk c this
   ·exact lH r [] x m
  |false=>
   rw[h] at m;exact lH r _ x m
theorem px:∀(t p:Tx),(bF p t).length≤t.length+1∧ ∀x∈bF p t,x.1.length≤p.length+t.length
 |[],p=>by
  show (bif p.isEmpty then [] else [(p,[])]:List (Tx×Tx)).length≤0+1∧ ∀x∈(bif p.isEmpty then [] else [(p,[])]:List (Tx×Tx)),_;cases p with
  |nil=>exact⟨iw _,λx m=>absurd m (nX)⟩
  |cons y p=>exact⟨cz _,λx m=>by rw[qfz.mp (show x∈[(y::p,([]:Tx))] from m)];exact cz _⟩
 |c::r,p=>by
  show (bif B3.contains c then (p,[c])::bF [] r else bF (p++[c]) r).length≤r.length+1+1∧ ∀x∈(bif B3.contains c then (p,[c])::bF [] r else bF (p++[c]) r),x.1.length≤p.length+(r.length+1);cases B3.contains c with
  |true=>
   obtain⟨h1,h2⟩:=px r [];refine⟨Nat.succ_le_succ h1,λx m=>?_⟩;rcases qkz.mp m with rfl | m
   ·exact Nat.le_add_right _ _
   ·have:=h2 x m
    have e:([]:Tx).length=0:=rfl;omega
  |false=>
   obtain⟨h1,h2⟩:=px r (p++[c]);refine⟨Nat.le_succ_of_le h1,λx m=>?_⟩;have:=h2 x m;rw[a7] at this;have e:[c].length=1:=rfl;omega
theorem lI{e:Tx}{c:Int}:∀(t p:Tx),((bF p t).map (mU c e)).flatten=bif p.isEmpty then nj e (sp c) t else (sp c++p)++uY e (sp c) t
 |[],p=>by
  cases p with
  |nil=>rfl
  |cons y p=>
   show mU c e (y::p,[])++[]=(sp c++y::p)++e;rw[fw];show (dk [32] c.toNat++y::p)++e=_;rw[iT];rfl
 |z::r,p=>by
  show ((bif B3.contains z then (p,[z])::bF [] r else bF (p++[z]) r).map (mU c e)).flatten=bif p.isEmpty then (bif B3.contains z then rZ e z++nj e (sp c) r else sp c++z::uY e (sp c) r) else (sp c++p)++(bif B3.contains z then rZ e z++nj e (sp c) r else z::uY e (sp c) r);cases h:B3.contains z with
  |true=>
   show mU c e (p,[z])++((bF [] r).map (mU c e)).flatten=_;rw[lI r []]
   have hb:u5 e [z]=rZ e z:=by
    show (bif eqX [z] []||eqX [z] [10] then e else [z])=uX e (eqX [z] [10]) z;rw[show eqX [z] []=false from decide_eq_false (by simp)]
    cases eqX [z] [10]<;>rfl
   cases p with
   |nil=>
    show ([]++u5 e [z])++nj e (sp c) r=_;rw[hb];rfl
   |cons y p=>
    show ((dk [32] c.toNat++y::p)++u5 e [z])++nj e (sp c) r=(sp c++y::p)++(rZ e z++nj e (sp c) r);rw[hb,iT,cu];rfl
  |false=>
   show ((bF (p++[z]) r).map (mU c e)).flatten=_;rw[lI r (p++[z])];cases p with
   |nil=>
    show (sp c++[z])++uY e (sp c) r=sp c++z::uY e (sp c) r;rw[cu];rfl
   |cons y p=>
    show (sp c++(y::p++[z]))++uY e (sp c) r=(sp c++y::p)++z::uY e (sp c) r;simp [cu]
theorem xl{α:Type}{l:List α}{x:α}:qV (l++[x]).length (-1)=some l.length:=by
 have:=oT (n:=(l++[x]).length) (k:=0) (by rw[a7];exact Nat.succ_le_succ (iw _))
 refine Eq.trans this ?_;rw[a7];rfl
theorem hO{sh:Sto}{l:List MV}{x:MV}:fx sh (.lst (l++[x])) (.int (-1))=some x:=by
 have h:(qV (l++[x]).length (-1)).bind (c0 (l++[x]))=some x:=by
  rw[xl,mY,bG,List.getElem?_append_right (cz _),Nat.sub_self];rfl
 show kP (kP ((qV (l++[x]).length (-1)).bind (c0 (l++[x]))) _) _=_;rw[h];rfl
theorem ij{α:Type}{a:α}{k:α→Ds→R}{ds:Ds}:cc (some a) k ds=k a ds:=rfl
theorem Fx{z:Nat}(h:z∈al):(SBx.contains z=true↔(B3.contains z=true∨z=32)):=by
 have hk:(al.all λz=>SBx.contains z==(B3.contains z||Nat.beq z 32))=true:=by kernel_rfl
 have:=eq_of_beq (qdz.mp hk z h);rw[this];exact qxz.trans (or_congr Iff.rfl (Iff.of_eq Nat.beq_eq))
theorem zJ{z:Nat}(h:z∈al)(h32:z≠32):z∈al0:=List.mem_filter.mpr ⟨h,by
 cases e:Nat.beq z 32 with
 |true=>exact absurd (jO e) h32
 |false=>rfl⟩
noncomputable def lh(m:Nat)(t:Tx):Tx:=bif SBx.contains (t.headD 0) then [48+m] else []
theorem Fy{m:Nat}(h:m∈mL):m∈mI:=h
theorem Jj{sh:Sto}{h e:Tx}{c:Int}{m:Nat}{D:Bool}{v:Tx}{au:Bool}{K:Option MV→St→Ds→R}(hm:m∈mL)(hv:TxOk au v)(hh:h.length≤1000)(rest:MSs):∃k0,k0≤1∧ ∀V S,am (ae L1.T (u4 ((dX v).map fh) sh) rest (cD sh (h++lh m v) v c (Int.ofNat m) e (.val (.lst ((dX v).map fh))) .unset .unset .unset) K (lG D 3)) V S →
  am (ae L1.T (u4 ((dX v).map fh) sh) (aO 2 qZ rest) (cD sh h v c (Int.ofNat m) e .unset .unset .unset .unset) K (lG D k0)) V S:=by
 obtain⟨z,r,rfl⟩:∃z r,v=z::r:=by
  cases v with
  |nil=>exact absurd rfl hv.ne
  |cons z r=>exact⟨z,r,rfl⟩
 have hz:=(Ax (ab hv.ok)).1;have hS:=Fx hz;have hj:Gr (z::r) ((dX (z::r)).map fh) sh=true:=aP (Iz (by have:=hv.le;omega))
 have hl:aS (h.length+1) ak=true:=ao (by unfold ak;omega)
 have hs:lh m (z::r)=bif SBx.contains z then [48+m] else []:=rfl;cases hb:B3.contains z with
 |true=>
  have e1:dX (z::r)=([],[z])::bF [] r:=by show (bif B3.contains z then _ else _)=_;rw[hb];rfl
  rw[hS.mpr (.inl hb)] at hs;rw[hs];rw[e1] at hj ⊢;refine⟨1,cz 1,λV S G=>?_⟩;exact aK (ac (ac (I6 sh h (z::r) e c [z] ((bF [] r).map fh) rest K) (Fy hm)) (ah D)) (an (bt hj) (an (bt hl) rfl)) G
 |false=>
  obtain⟨a,b,q,e2⟩:=nU r [z] (nl _ _)
  have e1:dX (z::r)=(z::a,b)::q:=by
   show (bif B3.contains z then _ else bF ([]++[z]) r)=_;rw[hb];exact e2
  by_cases h32:z=32
  ·subst h32
   rw[hS.mpr (.inr rfl)] at hs;rw[hs];rw[e1] at hj ⊢;refine⟨0,iw 1,λV S G=>?_⟩;exact aK (ac (ac (I7 sh h (32::r) e c a b (q.map fh) rest K) (Fy hm)) (ah D)) (an (bt hj) (an (bt hl) rfl)) G
  ·have hS0:SBx.contains z=false:=by
    cases e:SBx.contains z with
    |false=>rfl
    |true=>exact((hS.mp e).elim (λz'=>aB (hb.symm.trans z')) λz'=>absurd z' h32)
   rw[hS0] at hs;rw[hs];rw[e1] at hj ⊢;refine⟨0,iw 1,λV S G=>?_⟩;rw[show h++(bif false then [48+m] else [])=h from fw _] at G;exact aK (ac (ac (I8 sh h (z::r) e c (Int.ofNat m) a b (q.map fh) rest K) (zJ hz h32)) (ah D)) (an (bt hj) rfl) G
noncomputable def iZ(t:Tx):Tx:=bif !BR.contains (lst t) then [45] else bif aI (Int.ofNat t.length) 1||BR.contains (qz t) then [43] else []
theorem se{m:Nat}{t:Tx}:iC m t=lh m t++iZ t:=rfl
theorem qS{c:Nat}(h:c≠133):BR.contains c=B3.contains c:=AD h
theorem Jk{sh:Sto}{h e:Tx}{c m:Int}{D:Bool}{v:Tx}{au:Bool}{K:Option MV→St→Ds→R}{Ψ:Psi}{c6 c7 c8:Cell}(hv:TxOk au v)(hh:h.length≤1000)(rest:MSs):∃k,k∈[4,5]∧ ∀V S,am (ae L1.T Ψ rest (cD sh (h++iZ v) v c m e (.val (.lst ((dX v).map fh))) c6 c7 c8) K (lG D k)) V S →
  am (ae L1.T Ψ (aO 1 (ag qZ 2) rest) (cD sh h v c m e (.val (.lst ((dX v).map fh))) c6 c7 c8) K (lG D 3)) V S:=by
 obtain⟨t,x,rfl⟩:∃t x,v=t++[x]:=by
  rcases List.eq_nil_or_concat v with z | ⟨l,x,z⟩
  ·exact absurd z hv.ne
  ·exact⟨l,x,by rw[z,List.concat_eq_append]⟩
 have hx:x≠133:=nN hv.ok x (by simp)
 have hl:aS (h.length+1) ak=true:=ao (by unfold ak;omega)
 have e1:(dX (t++[x])).map fh=(kr [] t).map fh++[fh (fu (bu [] t) x)]:=by rw[qR,nY];rfl
 have eb:=ac (I9 ((kr [] t).map fh++[fh (fu (bu [] t) x)]) sh h (t++[x]) e c m rest K c6 c7 c8 Ψ 0) (ah D);rw[hO,ij] at eb;have hlst:lst (t++[x])=x:=by unfold lst;rw[dC];rfl
 rw[e1];cases hb:B3.contains x with
 |false=>
  refine⟨4,.head _,λV S G=>bS eb ?_⟩;have el:fu (bu [] t) x=(bu [] t++[x],[]):=by unfold fu;rw[hb];rfl
  have es:iZ (t++[x])=[45]:=by unfold iZ;rw[hlst,qS hx,hb];rfl
  rw[es] at G;rw[el] at G ⊢;exact aK (ac (Ja sh h (t++[x]) e c m (bu [] t++[x]) rest K (.val (.lst ((kr [] t).map fh++[fh (bu [] t++[x],[])]))) c6 c7 c8 Ψ) (ah D)) (an (bt hl) rfl) G
 |true=>
  have el:fu (bu [] t) x=(bu [] t,[x]):=by unfold fu;rw[hb];rfl
  have ed:=ac (Jb ((kr [] t).map fh++[fh (fu (bu [] t) x)]) sh h (t++[x]) e c m x (bu [] t) rest K c6 c7 c8 Ψ) (ah D);rw[hO,ij] at ed;refine⟨5,.tail _ (.head _),λV S G=>bS eb ?_⟩;have es:iZ (t++[x])=bif aI (Int.ofNat (t++[x]).length) 1||BR.contains (qz (t++[x])) then [43] else []:=by unfold iZ;rw[hlst,qS hx,hb];rfl
  have hsc:qz (t++[x])=t.getLast?.getD 0:=by unfold qz;rw[iS]
  have hd:(aI (Int.ofNat (t++[x]).length) 1||BR.contains (qz (t++[x])))=(bu [] t).isEmpty:=by
   rw[hsc];rcases List.eq_nil_or_concat t with z | ⟨l,y,z⟩
   ·subst z;rfl
   ·rw[List.concat_eq_append] at z
    subst z;have hy:y≠133:=nN hv.ok y (by simp)
    rw[dC];show (aI (Int.ofNat (l++[y]++[x]).length) 1||BR.contains y)=_
    rw[show aI (Int.ofNat (l++[y]++[x]).length) 1=false from decide_eq_false (by
     have:(Int.ofNat (l++[y]++[x]).length:Int)=(((l++[y]++[x]).length:Nat):Int):=rfl;rw[a7,a7] at this;have e:[x].length=1:=rfl;have e':[y].length=1:=rfl;rw[a7,a7];omega),qS hy,Bool.false_or]
    have:=tQ l y;cases e:bu [] (l++[y]) with
    |nil=>exact this.mp e
    |cons p q=>
     cases e2:B3.contains y with
     |false=>rfl
     |true=>exact absurd (this.mpr e2) (by rw[e];exact nl _ _)
  rw[hd] at es;rw[es] at G;rw[el] at G ed ⊢;refine bS ed ?_;cases ea:bu [] t with
  |nil=>
   rw[ea] at G;exact aK (ac (Jc sh h (t++[x]) e c m [x] rest K (.val (.lst ((kr [] t).map fh++[fh ([],[x])]))) c6 c7 c8 Ψ) (ah D)) (an (bt hl) rfl) G
  |cons y q=>
   rw[ea] at G;rw[show h++(bif (y::q).isEmpty then [43] else [])=h from fw _] at G;exact aK (ac (Jd sh h (t++[x]) e c m y q [x] rest K (.val (.lst ((kr [] t).map fh++[fh (y::q,[x])]))) c6 c7 c8 Ψ) (ah D)) rfl G
noncomputable def TT:List (Tx×Tx)→Nat
 |[]=>0
 |x::xs=>TT xs+tE x.2
noncomputable def xm(D:Bool)(E:List MV)(ss es is rs tp:Option (List MV))(rows:List MV):MV×Sto:=bif D then (.loc .due,cV E ss es is rs tp (some rows)) else (.lst rows,cV E ss es is rs tp none)
theorem tR{sh:Sto}{h v e:Tx}{c m:Int}{c5 c7 c8:Cell}{rs:List MV}{w:MV}{K:St→Ds→R}{ds:Ds}(hl:rs.length≤2000):C9 (cD sh h v c m e c5 (.own rs) c7 c8) w K ds=K (cD sh h v c m e c5 (.own (rs++[w])) c7 c8) ds:=by
 show cc (xL (aS (rs.length+1) ak) (some _)) K ds=_;rw[ao (by unfold ak;omega)];rfl
theorem xn{e en:Tx}(he:e.length≤10)(hn:en∈enL):(u5 e en).length≤10:=by
 unfold u5;cases eqX en []||eqX en [10] with
 |true=>exact he
 |false=>
  have:∀en∈enL,en.length≤10:=by unfold enL;decide
  exact this en hn
theorem lJ(n:Nat):(dk [32] n).length=n:=by rw[iT,List.length_replicate]
section
variable {Ψ:Psi}{h v e:Tx}{c m:Int}{c5:Cell}{E:List MV}{ss es is rs' tp:Option (List MV)}{D:Bool}(h0:0≤c)(h1:c≤1000)(he:e.length≤10)
include h0 h1 he
theorem KA:∀(xs:List (Tx×Tx)) (rs:List MV) (N:Nat) (c7 c8:Cell),(D=true→3000000≤N)→(∀x∈xs,x.2∈enL∧x.1.length≤1000)→rs.length+xs.length≤1000 →
  am (uP Ψ (xs.map fh) (cD (cV E ss es is rs' tp none) h v c m e c5 (.own rs) c7 c8) (dN D (N+TT xs))) (xm D E ss es is rs' tp (rs++xs.map λx=>.str (mU c e x))).1 (xm D E ss es is rs' tp (rs++xs.map λx=>.str (mU c e x))).2
 |[],rs,N,c7,c8,hN,hx,hl=>by
  rw[show (rs++([]:List (Tx×Tx)).map λx=>MV.str (mU c e x))=rs from fw _];cases D with
  |false=>exact cG (Jh (cV E ss es is rs' tp none) h v e c m c5 c7 c8 Ψ rs) rfl
  |true=>
   refine bS (Ji h v e c m c5 c7 c8 N Ψ rs E ss es is rs' tp) ?_;rw[show Nat.ble 3000000 N=true from Nat.ble_eq_true_of_le (hN rfl)];exact⟨rfl,rfl⟩
 |x::xs,rs,N,c7,c8,hN,hx,hl=>by
  have hl:rs.length+(xs.length+1)≤1000:=hl;obtain⟨a1,a2⟩:=hx x (.head _);have hr:=xn he a1;have eN:N+TT (x::xs)=(N+TT xs)+tE x.2:=(Nat.add_assoc _ _ _).symm;rw[eN];have IH:=λw c7 c8=>KA xs (rs++[w]) N c7 c8 hN (λy m=>hx y (.tail _ m)) (by rw[a7];show rs.length+1+xs.length≤_;omega)
  obtain⟨ln,en⟩:=x;have a1:en∈enL:=a1;have a2:ln.length≤1000:=a2;have hr:(u5 e en).length≤10:=hr
  have fin:∀c7 c8,am (Je Ψ (xs.map fh) (cD (cV E ss es is rs' tp none) h v c m e c5 (.own (rs++[.str (mU c e (ln,en))])) c7 c8) (dN D (N+TT xs))) (xm D E ss es is rs' tp (rs++((ln,en)::xs).map λx=>.str (mU c e x))).1 (xm D E ss es is rs' tp (rs++((ln,en)::xs).map λx=>.str (mU c e x))).2:=λc7 c8=>by
   have:=IH (.str (mU c e (ln,en))) c7 c8;rw[cu] at this;exact this
  cases ln with
  |nil=>
   refine aK (ac (ac (Jf (cV E ss es is rs' tp none) h v e c m c5 c7 c8 (N+TT xs) Ψ rs (xs.map fh)) a1) (ah D)) (an (bt (ao (by unfold ak;omega))) rfl) ?_
   rw[tR (by omega)]
   exact fin _ _
  |cons z l=>
   have a2:l.length+1≤1000:=a2;refine aK (ac (ac (Jg (cV E ss es is rs' tp none) h v e c m z l c5 c7 c8 (N+TT xs) Ψ rs (xs.map fh)) a1) (ah D)) (an (bt (an (ao (by unfold ak;omega)) (ao (by unfold ak;omega)))) (an (bt (ao (by rw[lJ];show _+(l.length+1)≤_;unfold ak;omega))) (an (bt (ao (by rw[a7,lJ];show _+(l.length+1)+_≤_;unfold ak;omega))) rfl))) ?_
   rw[tR (by omega)]
   exact fin _ _
end
noncomputable def nV(h:Tx)(v:Tx)(c:Int)(m:Nat)(e:Tx):List Tx:=(h++iC m v++e)::(dX v).map (mU c e)
theorem zK(Ψ:Psi)(h v e:Tx)(c m:Int)(sh:Sto)(ds:Ds):aR L1.T Ψ 56 [.str h,.str v,.int c,.int m,.str e] sh ds=ae L1.T Ψ (aO 2 qZ (ag qZ 2)) (cD sh h v c m e .unset .unset .unset .unset) ai ds:=by kernel_rfl
theorem Fz:ag qZ 2=aO 1 (ag qZ 2) (ag qZ 3):=by kernel_rfl
theorem AN:∀xs,TT xs≤4*xs.length
 |[]=>cz 0
 |x::xs=>by
  have h:tE x.2≤4:=by unfold tE;cases eqX x.2 []<;>decide
  have:=AN xs;show TT xs+tE x.2≤4*(xs.length+1);omega
theorem xo(m:Nat)(t:Tx):(lh m t).length≤1∧(iZ t).length≤1:=by
 constructor
 ·unfold lh;cases SBx.contains (t.headD 0)<;>exact kM rfl
 ·unfold iZ
  cases !BR.contains (lst t) with
  |true=>exact cz 1
  |false=>cases aI (Int.ofNat t.length) 1||BR.contains (qz t)<;>exact kM rfl
theorem KB{au:Bool}{h v e:Tx}{c:Int}{m:Nat}{E:List MV}{ss es is rs tp:Option (List MV)}(D:Bool)(hm:m∈mL)(hv:TxOk au v)(hh:h.length≤900)(h0:0≤c)(h1:c≤1000)(he:e.length≤10) :
  J 4 56 [.str h,.str v,.int c,.int (Int.ofNat m),.str e] (cV E ss es is rs tp none) (xm D E ss es is rs tp ((nV h v c m e).map .str)):=by
 obtain⟨k0,hk0,p1⟩:=Jj (sh:=cV E ss es is rs tp none) (h:=h) (e:=e) (c:=c) (D:=D) (K:=ai) hm hv (by omega) (ag qZ 2)
 obtain⟨u1,u2⟩:=xo m v;obtain⟨k,hk,p2⟩:=Jk (sh:=cV E ss es is rs tp none) (h:=h++lh m v) (e:=e) (c:=c) (m:=Int.ofNat m) (D:=D) (K:=ai) (Ψ:=u4 ((dX v).map fh) (cV E ss es is rs tp none)) (c6:=.unset) (c7:=.unset) (c8:=.unset) hv (by rw[a7];omega) (ag qZ 3)
 obtain⟨z1,z2⟩:=px v [];have hvl:=hv.le;have g:=ac (ac (Mh ((dX v).map fh) (cV E ss es is rs tp none) ((h++lh m v)++iZ v) v e c (Int.ofNat m) .unset .unset .unset (u4 ((dX v).map fh) (cV E ss es is rs tp none))) hk) (ah D);have hT:=AN (dX v)
 have hk2:k≤5:=by
  rcases qkz.mp hk with rfl | hk
  ·decide
  ·rw[qfz.mp hk];decide
 have L:=KA (Ψ:=u4 ((dX v).map fh) (cV E ss es is rs tp none)) (h:=(h++lh m v)++iZ v) (v:=v) (e:=e) (c:=c) (m:=Int.ofNat m) (c5:=.val (.lst ((dX v).map fh))) (E:=E) (ss:=ss) (es:=es) (is:=is) (rs':=rs) (tp:=tp) (D:=D) h0 h1 he (dX v) [.str (((h++lh m v)++iZ v)++e)] (3000400-k-TT (dX v)) .unset .unset (λ_=>by have:(dX v).length≤v.length+1:=z1;omega) (λx mm=>⟨lH v [] x mm,by have:=z2 x mm;have e0:([]:Tx).length=0:=rfl;omega⟩) (by have:(dX v).length≤v.length+1:=z1;show 1+_≤_;omega)
 have ed:dN D (3000400-k-TT (dX v)+TT (dX v))=lG D k:=by
  have:(dX v).length≤v.length+1:=z1;rw[show 3000400-k-TT (dX v)+TT (dX v)=3000400-k by omega];rfl
 rw[ed] at L
 have er:([.str (((h++lh m v)++iZ v)++e)]++(dX v).map λx=>MV.str (mU c e x))=(nV h v c m e).map .str:=by
  show MV.str (((h++lh m v)++iZ v)++e)::(dX v).map (λx=>MV.str (mU c e x))=MV.str (h++iC m v++e)::((dX v).map (mU c e)).map .str;rw[se,List.map_map,cu h];rfl
 rw[er] at L;have G:=p1 _ _ (bS (bJ (λb=>ae L1.T (u4 ((dX v).map fh) (cV E ss es is rs tp none)) b _ _ _) Fz) (p2 _ _ (aK g (an (bt (ao (by rw[a7,a7];unfold ak;omega))) rfl) L)))
 exact gb (n:=2) (k:=1) (ds:=lG D k0) (bS (zK _ _ _ _ _ _ _ _) G)
section
variable (n:Nat)(sh:Sto)(h e:Tx)(c m:Int)
theorem Mi(w:Tx):aN (aR L1.T (PX n [] 1) 57 [.str h,.tup [.str br,.str w],.int c,.int m,.str e] sh [])=some ((aS (h.length+1) ak==true)&&((aS ((h++[32]).length+w.length) ak==true)&&((aS (((h++[32])++w).length+e.length) ak==true)&&true)),(.lst [.str (((h++[32])++w)++e)],sh)):=by kernel_rfl
theorem Mj(t:Tx)(rows:List MV):aN (aR L1.T (PX n [(56,(.lst rows,sh))] 1) 57 [.str h,.tup [.str bA,.str t],.int c,.int m,.str e] sh [])=some ((aS (h.length+2) ak==true)&&((jd n 56 [.str (h++[32,124]),.str t,.int (c+m),.int m,.str e] sh (.lst rows,sh)==true)&&true),(.lst rows,sh)):=by kernel_rfl
noncomputable def py(R:Tx)(c:Int):Tx:=(R.take R.length).drop (PySem.clipAt R.length c)
theorem Mk(x:MV)(R:Tx)(Rs:List MV):[b8,bI].map (λg=>aN (aR L1.T (PX n [(58,(.lst (.str R::Rs),sh))] 1) 57 [.str h,.tup [.str g,x],.int c,.int m,.str e] sh [])) =
 mp (λg=>some ((jd n 58 [.tup [.str g,x],.int (c+m),.int m,.str e] sh (.lst (.str R::Rs),sh)==true)&&((aS (h.length+(py R (c+1)).length) ak==true)&&((aS (1+(((MV.str R::Rs).take (MV.str R::Rs).length).drop (PySem.clipAt (MV.str R::Rs).length 1)).length) ak==true)&&true)),(.lst ([.str (h++py R (c+1))]++((MV.str R::Rs).take (MV.str R::Rs).length).drop (PySem.clipAt (MV.str R::Rs).length 1)),sh))) [b8,bI]:=by kernel_rfl
end
noncomputable def FA(f:Nat):Bool:=Nat.beq f 57||Nat.beq f 58
noncomputable def KC(H Q:List MV→List MV)(f:Nat)(as:List MV)(sh:Sto):MV×Sto:=bif Nat.beq f 57 then (.lst (H as),sh) else (.lst (Q as),sh)
noncomputable def ik(n:Nat)(H Q:List MV→List MV):Psi:=wB n FA (KC H Q) kS 1
noncomputable def Dc:MSs:=L1.b__law_block
noncomputable def sf:MSs:=ec (aF (ag Dc 2))
noncomputable def i7:MSs:=ag Dc 3
noncomputable def De:MSs:=bK (aF i7)
noncomputable def fF(sh:Sto)(nd:MV)(c m:Int)(e p:Tx)(ls:List MV)(c6 c7 c8:Cell):St:=⟨sh,[.val nd,.val (.int c),.val (.int m),.val (.str e),.val (.str p),.own ls,c6,c7,c8]⟩
noncomputable def si(st:St)(v:MV)(K:St→Ds→R):R:=cc (eA st 5 v) K []
noncomputable def zL(c:Int):Bool:=aS (1*c.toNat) ak&&aS c.natAbs ak
noncomputable def jH(n:Nat)(H:List MV→List MV)(sh:Sto)(h:Tx)(x:MV)(c m:Int)(e:Tx):Bool:=jd n 57 [.str h,x,.int c,.int m,.str e] sh (.lst (H [.str h,x,.int c,.int m,.str e]),sh)
noncomputable def jQ(n:Nat)(Q:List MV→List MV)(sh:Sto)(x:MV)(c m:Int)(e:Tx):Bool:=jd n 58 [x,.int c,.int m,.str e] sh (.lst (Q [x,.int c,.int m,.str e]),sh)
section
variable (n:Nat)(H Q:List MV→List MV)(sh:Sto)(e p:Tx)(c m:Int)(nd x y:MV)(xs ls:List MV)(c6 c7 c8:Cell)(K:Option MV→St→Ds→R)(w:Tx)
theorem Ml:ax 1 (aR L1.T (ik n H Q) 58 [.tup [.str b8,.lst xs],.int c,.int m,.str e] sh [])=((zL c==true)&&true,fG (ik n H Q) sf (ba (ik n H Q) .nil (ba (ik n H Q) (ag Dc 3) ai)) 6 xs (fF sh (.tup [.str b8,.lst xs]) c m e (dk [32] c.toNat) [] .unset .unset .unset) []):=by kernel_rfl
theorem Mm:ax 1 (aR L1.T (ik n H Q) 58 [.tup [.str bI,.lst xs],.int c,.int m,.str e] sh [])=((zL c==true)&&true,eQ (ik n H Q) i7 ai (.tup [7,8]) xs (fF sh (.tup [.str bI,.lst xs]) c m e (dk [32] c.toNat) [] .unset .unset .unset) []):=by kernel_rfl
theorem Jl:ax 3 (fG (ik n H Q) sf K 6 (x::xs) (fF sh nd c m e p ls c6 c7 c8) [])=((aS (p.length+1) ak==true)&&((jH n H sh (p++[45]) x c m e==true)&&true),si (fF sh nd c m e p ls (.val x) c7 c8) (.lst (H [.str (p++[45]),x,.int c,.int m,.str e])) λst=>qY (ik n H Q) sf K 6 xs none st):=by kernel_rfl
theorem Jm:ax 0 (fG (ik n H Q) sf (ba (ik n H Q) .nil (ba (ik n H Q) (ag Dc 3) ai)) 6 [] (fF sh nd c m e p ls c6 c7 c8) [])=(true,.fin (.lst ls) sh):=by kernel_rfl
theorem Jn:ax 0 (eQ (ik n H Q) i7 ai (.tup [7,8]) [] (fF sh nd c m e p ls c6 c7 c8) [])=(true,.fin (.lst ls) sh):=by kernel_rfl
noncomputable def zM(n:Nat)(H Q:List MV→List MV)(xs:List MV):St→Ds→R:=C3 (ik n H Q) i7 ai (.tup [7,8]) xs none
theorem Jo:[bA,b8,bI].map (λg=>ax 3 (eQ (ik n H Q) i7 ai (.tup [7,8]) (.tup [.tup [.str g,x],y]::xs) (fF sh nd c m e p ls c6 c7 c8) [])) =
 mp (λg=>((aS (p.length+1) ak==true)&&((jH n H sh (p++[63]) (.tup [.str g,x]) c m e==true)&&true),si (fF sh nd c m e p ls c6 (.val (.tup [.str g,x])) (.val y)) (.lst (H [.str (p++[63]),.tup [.str g,x],.int c,.int m,.str e])) λst=>ae L1.T (ik n H Q) (aY (ec (aF De))) st (ba (ik n H Q) .nil (C3 (ik n H Q) i7 ai (.tup [7,8]) xs)))) [bA,b8,bI]:=by kernel_rfl
theorem Jp:ax 3 (ae L1.T (ik n H Q) (aY (ec (aF De))) (fF sh nd c m e p ls c6 (.val x) (.val y)) (ba (ik n H Q) .nil (C3 (ik n H Q) i7 ai (.tup [7,8]) xs)) []) =
 ((aS (p.length+1) ak==true)&&((jH n H sh (p++[58]) y c m e==true)&&true),si (fF sh nd c m e p ls c6 (.val x) (.val y)) (.lst (H [.str (p++[58]),y,.int c,.int m,.str e])) (zM n H Q xs)):=by kernel_rfl
theorem Jq:ax 6 (eQ (ik n H Q) i7 ai (.tup [7,8]) (.tup [.tup [.str br,.str w],.tup [.str b8,y]]::xs) (fF sh nd c m e p ls c6 c7 c8) []) =
 ((aS (p.length+w.length) ak==true)&&((aS ((p++w).length+1) ak==true)&&((aS (((p++w)++[58]).length+e.length) ak==true)&&((jQ n Q sh (.tup [.str b8,y]) c m e==true)&&((aS (1+(Q [.tup [.str b8,y],.int c,.int m,.str e]).length) ak==true)&&true)))),si (fF sh nd c m e p ls c6 (.val (.tup [.str br,.str w])) (.val (.tup [.str b8,y]))) (.lst ([.str (((p++w)++[58])++e)]++Q [.tup [.str b8,y],.int c,.int m,.str e])) (zM n H Q xs)):=by kernel_rfl
theorem Jr:ax 7 (eQ (ik n H Q) i7 ai (.tup [7,8]) (.tup [.tup [.str br,.str w],.tup [.str bI,y]]::xs) (fF sh nd c m e p ls c6 c7 c8) []) =
 ((aS (p.length+w.length) ak==true)&&((aS ((p++w).length+1) ak==true)&&((aS (((p++w)++[58]).length+e.length) ak==true)&&((jQ n Q sh (.tup [.str bI,y]) (c+m) m e==true)&&((aS (1+(Q [.tup [.str bI,y],.int (c+m),.int m,.str e]).length) ak==true)&&true)))),si (fF sh nd c m e p ls c6 (.val (.tup [.str br,.str w])) (.val (.tup [.str bI,y]))) (.lst ([.str (((p++w)++[58])++e)]++Q [.tup [.str bI,y],.int (c+m),.int m,.str e])) (zM n H Q xs)):=by kernel_rfl
theorem FB:[bA,br].map (λg=>ax 4 (eQ (ik n H Q) i7 ai (.tup [7,8]) (.tup [.tup [.str br,.str w],.tup [.str g,y]]::xs) (fF sh nd c m e p ls c6 c7 c8) [])) =
 mp (λg=>((aS (p.length+w.length) ak==true)&&((aS ((p++w).length+1) ak==true)&&((jH n H sh ((p++w)++[58]) (.tup [.str g,y]) c m e==true)&&true)),si (fF sh nd c m e p ls c6 (.val (.tup [.str br,.str w])) (.val (.tup [.str g,y]))) (.lst (H [.str ((p++w)++[58]),.tup [.str g,y],.int c,.int m,.str e])) (zM n H Q xs))) [bA,br]:=by kernel_rfl
end
noncomputable def ck(c:Int):Tx:=dk [32] c.toNat
noncomputable def uQ(h:Tx)(c:Int)(rows:List Tx):List Tx:=List.casesOn (motive:=λ_=>List Tx) rows [] λR Rs=>(h++py R (c+1))::Rs
noncomputable def bD(K:Ko)(I:Nd→Int→List Tx)(h:Tx)(n:Nd)(c:Int):List Tx:=dW n (λt=>nV (h++[32,124]) t (c+Int.ofNat K.m) K.m K.e) (λw=>[((h++[32])++w)++K.e]) (λ_=>uQ h c (I n (c+Int.ofNat K.m))) (λ_=>uQ h c (I n (c+Int.ofNat K.m)))
noncomputable def eY(K:Ko)(I:Nd→Int→List Tx)(p:Nd×Nd)(c:Int):List Tx:=bif ip p.1 then dW p.2 (λ_=>bD K I ((ck c++g8 p.1)++[58]) p.2 c) (λ_=>bD K I ((ck c++g8 p.1)++[58]) p.2 c) (λ_=>(((ck c++g8 p.1)++[58])++K.e)::I p.2 c) (λ_=>(((ck c++g8 p.1)++[58])++K.e)::I p.2 (c+Int.ofNat K.m))
 else bD K I (ck c++[63]) p.1 c++bD K I (ck c++[58]) p.2 c
noncomputable def FC(K:Ko)(I:Nd→Int→List Tx)(n:Nd)(c:Int):List Tx:=dW n (λ_=>[]) (λ_=>[]) (λl=>l.flatMap λx=>bD K I (ck c++[45]) x c) (λl=>l.flatMap λp=>eY K I p c)
noncomputable def aH(K:Ko):Nat→Nd→Int→List Tx
 |0,_,_=>[]
 |d+1,n,c=>FC K (aH K d) n c
def Lay (h:Tx) (rows:List Tx) (X:Tx):Prop:=∃R Rs,rows=(h++R)::Rs∧R++Rs.flatten=X
theorem Lay.fl{h X:Tx}{rows:List Tx}(L:Lay h rows X):rows.flatten=h++X:=by
 obtain⟨R,Rs,rfl,rfl⟩:=L;show (h++R)++Rs.flatten=_;rw[cu]
theorem Lay.more{h X Y:Tx}{rows rest:List Tx}(L:Lay h rows X)(e:rest.flatten=Y):Lay h (rows++rest) (X++Y):=by
 obtain⟨R,Rs,rfl,rfl⟩:=L;exact⟨R,Rs++rest,rfl,by rw[List.flatten_append,e,cu]⟩
theorem Lay.hd{h g X:Tx}{rows:List Tx}(L:Lay (h++g) rows X):Lay h rows (g++X):=by
 obtain⟨R,Rs,rfl,rfl⟩:=L;exact⟨g++R,Rs,by rw[cu],by rw[cu]⟩
theorem sj(c:Int):ck c=sp c:=iT _
theorem xp{h t e:Tx}{c:Int}{m:Nat}:Lay h (nV (h++[32,124]) t c m e) (32::CG m t++(e++nj e (sp c) t)):=by
 refine⟨([32,124]++iC m t)++e,(dX t).map (mU c e),?_,?_⟩
 ·show ((h++[32,124])++iC m t++e)::_=_
  simp [cu]
 ·rw[show ((dX t).map (mU c e)).flatten=nj e (sp c) t from lI t []]
  show (([32,124]++iC m t)++e)++nj e (sp c) t=(32::124::iC m t)++(e++nj e (sp c) t);simp [cu]
theorem xq{c:Int}{m:Nat}{R:Tx}(hc:0≤c)(hm:2≤Int.ofNat m):py (sp (c+Int.ofNat m)++R) (c+1)=sp (Int.ofNat m-1)++R:=by
 unfold py;rw[List.take_length];have e:c+Int.ofNat m=(c+1)+(Int.ofNat m-1):=by omega
 have e1:sp (c+Int.ofNat m)=sp (c+1)++sp (Int.ofNat m-1):=by rw[e];exact CF (by omega) (by omega)
 have hl:(sp (c+1)).length=(c+1).toNat:=List.length_replicate
 have hk:PySem.clipAt (sp (c+Int.ofNat m)++R).length (c+1)=(c+1).toNat:=by
  have h1:=jB (sp (c+Int.ofNat m)++R).length (c+1).toNat;rw[show Int.ofNat (c+1).toNat=c+1 from Int.toNat_of_nonneg (by omega)] at h1
  rw[h1,e1,a7,a7,hl];omega
 rw[hk,e1,cu,← hl,List.drop_left]
section
variable {K:Ko}(hK:KOk K)
include hK
theorem hR{au:Bool}{d:Nat}(P:∀n,lb n=true→av au d n=true→ ∀c:Int,0≤c→Lay (sp c) (aH K d n c) (inl K d n c)){n:Nd}(ho:av au d n=true){c:Int}(hc:0≤c)(h:Tx):Lay h (bD K (aH K d) h n c) (dg K (inl K d) n c):=by
 obtain⟨m2,m9⟩:=uZ hK;cases n with
 |text t=>exact xp
 |word w=>
  refine⟨(32::w)++K.e,[],?_,fw _⟩;show [((h++[32])++w)++K.e]=_;simp [cu]
 |row l=>
  obtain⟨R,Rs,e1,e2⟩:=P (.row l) rfl ho (c+Int.ofNat K.m) (by omega)
  refine⟨sp (Int.ofNat K.m-1)++R,Rs,?_,?_⟩
  ·show uQ h c (aH K d (.row l) (c+Int.ofNat K.m))=_
   rw[e1];show (h++py (sp (c+Int.ofNat K.m)++R) (c+1))::Rs=_;rw[xq hc m2]
  ·show _=sp (Int.ofNat K.m-1)++inl K d (.row l) (c+Int.ofNat K.m)
   rw[← e2,cu]
 |map l=>
  obtain⟨R,Rs,e1,e2⟩:=P (.map l) rfl ho (c+Int.ofNat K.m) (by omega)
  refine⟨sp (Int.ofNat K.m-1)++R,Rs,?_,?_⟩
  ·show uQ h c (aH K d (.map l) (c+Int.ofNat K.m))=_
   rw[e1];show (h++py (sp (c+Int.ofNat K.m)++R) (c+1))::Rs=_;rw[xq hc m2]
  ·show _=sp (Int.ofNat K.m-1)++inl K d (.map l) (c+Int.ofNat K.m)
   rw[← e2,cu]
theorem xr{au:Bool}{d:Nat}(P:∀n,lb n=true→av au d n=true→ ∀c:Int,0≤c→Lay (sp c) (aH K d n c) (inl K d n c)){p:Nd×Nd}(h1:av au d p.1=true)(h2:av au d p.2=true){c:Int}(hc:0≤c):Lay (sp c) (eY K (aH K d) p c) (cY K (inl K d) p c):=by
 obtain⟨m2,m9⟩:=uZ hK;obtain⟨k,v⟩:=p;unfold eY cY;rw[sj];cases hw:ip k with
 |false=>
  show Lay (sp c) (bD K (aH K d) (sp c++[63]) k c++bD K (aH K d) (sp c++[58]) v c) ((63::dg K (inl K d) k c)++(sp c++58::dg K (inl K d) v c));have L1:=(hR hK P h1 hc (sp c++[63])).hd;have L2:=(hR hK P h2 hc (sp c++[58])).fl;exact L1.more (L2.trans (by rw[cu];rfl))
 |true=>
  cases v with
  |text t=>
   have L:=(hR (n:=.text t) hK P h2 hc ((sp c++g8 k)++[58]));rw[cu (sp c)] at L;have L:=L.hd;rw[cu] at L;show Lay (sp c) (bD K (aH K d) ((sp c++g8 k)++[58]) (.text t) c) (g8 k++58::dg K (inl K d) (.text t) c);rw[cu (sp c)];exact L
  |word w=>
   have L:=(hR (n:=.word w) hK P h2 hc ((sp c++g8 k)++[58]));rw[cu (sp c)] at L;have L:=L.hd;rw[cu] at L;show Lay (sp c) (bD K (aH K d) ((sp c++g8 k)++[58]) (.word w) c) (g8 k++58::dg K (inl K d) (.word w) c);rw[cu (sp c)];exact L
  |row l=>
   have L:=(P (.row l) rfl h2 c hc).fl;refine⟨(g8 k++[58])++K.e,aH K d (.row l) c,?_,?_⟩
   ·show (((sp c++g8 k)++[58])++K.e)::aH K d (.row l) c=_
    simp [cu]
   ·show _=g8 k++58::(K.e++(sp c++inl K d (.row l) c))
    rw[L];simp [cu]
  |map l=>
   have L:=(P (.map l) rfl h2 (c+Int.ofNat K.m) (by omega)).fl
   refine⟨(g8 k++[58])++K.e,aH K d (.map l) (c+Int.ofNat K.m),?_,?_⟩
   ·show (((sp c++g8 k)++[58])++K.e)::aH K d (.map l) (c+Int.ofNat K.m)=_
    simp [cu]
   ·show _=g8 k++58::(K.e++(sp (c+Int.ofNat K.m)++inl K d (.map l) (c+Int.ofNat K.m)))
    rw[L];simp [cu]
omit hK in
theorem mV{α:Type}{pd:Tx}{f:α→List Tx}{g:α→Tx}:∀(l:List α) (x:α),(∀y∈x::l,Lay pd (f y) (g y))→Lay pd ((x::l).flatMap f) (cK pd ((x::l).map g))
 |[],x,H=>by
  show Lay pd (f x++[]) (g x++[]);rw[fw,fw];exact H x (.head _)
 |y::l,x,H=>by
  have L:=(mV l y λz m=>H z (.tail _ m)).fl;rw[show cK pd ((x::y::l).map g)=g x++(pd++cK pd ((y::l).map g)) from pf];exact(H x (.head _)).more L
theorem il{au:Bool}:∀(d:Nat) (n:Nd),lb n=true→av au d n=true→ ∀c:Int,0≤c→Lay (sp c) (aH K d n c) (inl K d n c)
 |0,.row l,_,h,_,_=>aB h
 |0,.map l,_,h,_,_=>aB h
 |d+1,.row [],_,h,_,_=>aB h
 |d+1,.map [],_,h,_,_=>aB h
 |d+1,.row (x::l),_,h,c,hc=>by
  have h:(!(x::l).isEmpty&&(x::l).all (av au d))=true:=h;refine mV (f:=λx=>bD K (aH K d) (ck c++[45]) x c) (g:=λx=>45::dg K (inl K d) x c) l x λy m=>?_;have L:=(hR hK (il d) (qdz.mp (aa h) y m) hc (ck c++[45]));rw[sj] at L;have L:=L.hd;show Lay (sp c) (bD K (aH K d) (ck c++[45]) y c) _;rw[sj];exact L
 |d+1,.map (x::l),_,h,c,hc=>by
  have h:(!(x::l).isEmpty&&(x::l).all λp=>av au d p.1&&(ef p.1&&av au d p.2))=true:=h;refine mV (f:=λp=>eY K (aH K d) p c) (g:=λp=>cY K (inl K d) p c) l x λy m=>?_;have hy:=qdz.mp (aa h) y m;exact xr hK (il d) (ab hy) (aa (aa hy)) hc
end
structure Bnd(L B:Nat)(rows:List Tx):Prop where
 n:rows.length≤L
 b:∀R∈rows,R.length≤B
theorem xt{R:Tx}{c:Int}:(py R c).length≤R.length:=by
 unfold py;rw[List.length_drop,List.take_length];exact Nat.sub_le _ _
theorem tS{L B:Nat}{rows:List Tx}{h:Tx}{c:Int}(P:Bnd L B rows):Bnd L (h.length+B) (uQ h c rows):=by
 cases rows with
 |nil=>exact⟨iw _,λR m=>(nX m).elim⟩
 |cons R Rs=>
  refine⟨P.n,λS m=>?_⟩;rcases qkz.mp m with rfl | m
  ·rw[a7]
   have:=P.b R (.head _);have:=xt (R:=R) (c:=c+1);omega
  ·have:=P.b S (.tail _ m)
   omega
theorem Bnd.mono{L B L' B':Nat}{rows:List Tx}(P:Bnd L B rows)(h1:L≤L')(h2:B≤B'):Bnd L' B' rows:=⟨iE P.n h1,λR m=>iE (P.b R m) h2⟩
theorem Bnd.app{L B L':Nat}{rows rows':List Tx}(P:Bnd L B rows)(Q:Bnd L' B rows'):Bnd (L+L') B (rows++rows'):=⟨by rw[a7];have:=P.n;have:=Q.n;omega,λR m=>(List.mem_append.mp m).elim (P.b R) (Q.b R)⟩
theorem Bnd.fm{α:Type}{L B:Nat}{f:α→List Tx}:∀{l:List α},(∀x∈l,Bnd L B (f x))→Bnd (l.length*L) B (l.flatMap f)
 |[],_=>⟨iw _,λR m=>(nX m).elim⟩
 |x::l,h=>by
  have a:=(h x (.head _)).app (Bnd.fm (l:=l) λy m=>h y (.tail _ m));exact a.mono (by show L+l.length*L≤(l.length+1)*L;rw[Nat.add_mul,Nat.one_mul];omega) (cz _)
theorem lK{c:Int}(h:c≤100):(ck c).length≤100:=by
 unfold ck;rw[lJ];omega
theorem qT{au:Bool}{h t e:Tx}{c:Int}{m:Nat}(ht:TxOk au t)(hc:c≤100)(he:e.length≤10):Bnd 40 (h.length+200) (nV h t c m e):=by
 obtain⟨z1,z2⟩:=px t [];have z1:(dX t).length≤t.length+1:=z1;have hl:=ht.le;obtain⟨u1,u2⟩:=xo m t;refine⟨by show ((dX t).map (mU c e)).length+1≤40;rw[fP];omega,λR mm=>?_⟩
 rcases qkz.mp mm with rfl | mm
 ·rw[se,a7,a7,a7];omega
 ·obtain⟨x,hx,rfl⟩:=List.mem_map.mp mm
  have a1:=z2 x hx;have e0:([]:Tx).length=0:=rfl;have a2:=xn he (lH t [] x hx)
  have a3:(Gq c x.1).length≤c.toNat+x.1.length:=by
   unfold Gq;cases x.1.isEmpty with
   |true=>exact iw _
   |false=>
    show (dk [32] c.toNat++x.1).length≤_;rw[a7,lJ];omega
  show (Gq c x.1++u5 e x.2).length≤_;rw[a7];omega
theorem pz{w:Tx}(h:w∈wdL):w.length≤3:=by
 have:∀w∈([[119],[120,121],[107,45,122]]:List Tx),w.length≤3:=by decide
 exact this w h
noncomputable def cR:Nat→Nat
 |0=>0
 |d+1=>4*(41+cR d)
def BP (K:Ko) (au:Bool) (d:Nat):Prop:=∀n,av au d n=true→eX d n=true→ ∀c:Int,0≤c→c+9*(d+1)≤100→Bnd (cR d) (400*d) (aH K d n c)
section
variable {K:Ko}(hK:KOk K)(he:K.e.length≤10)
include hK he
theorem jL{au:Bool}{d:Nat}(P:BP K au d){n:Nd}(ho:av au d n=true)(hz:eX d n=true){c:Int}(h0:0≤c)(h1:c+9*(d+2)≤100)(h:Tx):Bnd (40+cR d) (h.length+400*d+202) (bD K (aH K d) h n c):=by
 obtain⟨m2,m9⟩:=uZ hK;cases n with
 |text t=>exact(qT (h:=h++[32,124]) (gf ho) (by omega) he).mono (by omega) (by rw[a7];show h.length+2+200≤_;omega)
 |word w=>
  have hw:=pz (gg ho);refine⟨by show 1≤_;omega,λR m=>?_⟩
  rw[qfz.mp (show R∈[((h++[32])++w)++K.e] from m),a7,a7,a7];show h.length+1+w.length+K.e.length≤_;omega
 |row l=>exact(tS (h:=h) (c:=c) (P (.row l) ho hz (c+Int.ofNat K.m) (by omega) (by omega))).mono (by omega) (by omega)
 |map l=>exact(tS (h:=h) (c:=c) (P (.map l) ho hz (c+Int.ofNat K.m) (by omega) (by omega))).mono (by omega) (by omega)
theorem zN{au:Bool}{d:Nat}(P:BP K au d){p:Nd×Nd}(ho1:av au d p.1=true)(hz1:eX d p.1=true)(ho2:av au d p.2=true)(hz2:eX d p.2=true){c:Int}(h0:0≤c)(h1:c+9*(d+2)≤100):Bnd (2*(40+cR d)+1) (400*(d+1)) (eY K (aH K d) p c):=by
 obtain⟨m2,m9⟩:=uZ hK;have hp:=lK (c:=c) (by omega)
 obtain⟨k,v⟩:=p;unfold eY;cases hw:ip k with
 |false=>
  have a:=(jL hK he P ho1 hz1 h0 h1 (ck c++[63])).mono (cz _) (show _≤400*(d+1) by rw[a7];show (ck c).length+1+400*d+202≤_;omega)
  have b:=(jL hK he P ho2 hz2 h0 h1 (ck c++[58])).mono (cz _) (show _≤400*(d+1) by rw[a7];show (ck c).length+1+400*d+202≤_;omega)
  exact(a.app b).mono (by omega) (cz _)
 |true=>
  obtain⟨w,rfl⟩:∃w,k= .word w:=by
   cases k with
   |word w=>exact⟨w,rfl⟩
   |_=>exact aB hw
  have hwl:=pz (gg ho1);have hh:((ck c++w)++[58]).length≤104:=by rw[a7,a7];show (ck c).length+w.length+1≤_;omega
  have q:=jL hK he P ho2 hz2 h0 h1 ((ck c++w)++[58])
  have sr:∀rows,Bnd (cR d) (400*d) rows→Bnd (2*(40+cR d)+1) (400*(d+1)) ((((ck c++w)++[58])++K.e)::rows):=λrows b=>⟨by show rows.length+1≤_;have:=b.n;omega,λR m=>by
   rcases qkz.mp m with rfl | m
   ·rw[a7];omega
   ·have:=b.b R m;omega⟩
  cases v with
  |text t=>exact q.mono (by omega) (by omega)
  |word w'=>exact q.mono (by omega) (by omega)
  |row l=>exact sr _ (P (.row l) ho2 hz2 c h0 (by omega))
  |map l=>exact sr _ (P (.map l) ho2 hz2 (c+Int.ofNat K.m) (by omega) (by omega))
theorem hU{au:Bool}:∀d,BP K au d
 |0=>λn ho hz c h0 h1=>⟨cz 0,λR m=>(nX m).elim⟩
 |d+1=>λn ho hz c h0 h1=>by
  have P:=hU (au:=au) d;have hp:=lK (c:=c) (by omega)
  have h1:c+9*(d+2)≤100:=by omega
  cases n with
  |text t=>exact⟨iw _,λR m=>(nX m).elim⟩
  |word w=>exact⟨iw _,λR m=>(nX m).elim⟩
  |row l=>
   have ho:(!l.isEmpty&&l.all (av au d))=true:=ho;have hz:(aS l.length 3&&l.all (eX d))=true:=hz;have hl:l.length≤3:=kM (ab hz);have a:=Bnd.fm (l:=l) (f:=λx=>bD K (aH K d) (ck c++[45]) x c) (L:=40+cR d) (B:=400*(d+1)) λx m=>(jL hK he P (qdz.mp (aa ho) x m) (qdz.mp (aa hz) x m) h0 h1 (ck c++[45])).mono (cz _) (by rw[a7];show (ck c).length+1+400*d+202≤_;omega)
   refine a.mono ?_ (cz _);have:=Nat.mul_le_mul_right (40+cR d) hl;show _≤4*(41+cR d);omega
  |map l=>
   have ho:(!l.isEmpty&&l.all λp=>av au d p.1&&(ef p.1&&av au d p.2))=true:=ho;have hz:(aS l.length 2&&l.all λp=>eX d p.1&&eX d p.2)=true:=hz;have hl:l.length≤2:=kM (ab hz)
   have a:=Bnd.fm (l:=l) (f:=λp=>eY K (aH K d) p c) (L:=2*(40+cR d)+1) (B:=400*(d+1)) λp m=>by
    have h2:=qdz.mp (aa ho) p m;have h3:=qdz.mp (aa hz) p m;exact zN hK he P (ab h2) (ab h3) (aa (aa h2)) (aa h3) h0 h1
   refine a.mono ?_ (cz _);have:=Nat.mul_le_mul_right (2*(40+cR d)+1) hl;show _≤4*(41+cR d);omega
end
theorem gl{sh:Sto}{nd:MV}{c m:Int}{e p:Tx}{ls ws:List MV}{c6 c7 c8:Cell}{K:St→Ds→R}(h:ls.length+ws.length≤100000):si (fF sh nd c m e p ls c6 c7 c8) (.lst ws) K=K (fF sh nd c m e p (ls++ws) c6 c7 c8) []:=by
 show cc (xL (aS (ls.length+ws.length) ak) (some _)) K []=_;rw[ao (by unfold ak;omega)];rfl
theorem JH{n:Nat}{H Q:List MV→List MV}{f:Nat}{as:List MV}{sh:Sto}{ds:Ds}{v:MV}{sh':Sto}(h:Gs (aR L1.T (ik n H Q) f as sh ds) v sh'):J (n+2) f as sh (v,sh'):=gb (n:=n) (is:=FA) (a:=KC H Q) (O:=kS) (k:=1) (r:=(v,sh')) h.go
noncomputable def HK(K:Ko)(au:Bool)(d:Nat)(as:List MV):List MV:=qQ au d (λx=>(bD K (aH K d) (xV (at_ as 0)) x (iV (at_ as 2))).map MV.str) [] (at_ as 1)
noncomputable def QK(K:Ko)(au:Bool)(d:Nat)(as:List MV):List MV:=qQ au d (λx=>(aH K d x (iV (at_ as 1))).map MV.str) [] (at_ as 0)
theorem nW{K:Ko}{au:Bool}{d:Nat}{h:Tx}{x:Nd}{c:Int}{m e:MV}(ho:av au d x=true):HK K au d [.str h,aU d x,.int c,m,e]=(bD K (aH K d) h x c).map MV.str:=lF (f:=λx=>(bD K (aH K d) h x c).map MV.str) ho
theorem xu{K:Ko}{au:Bool}{d:Nat}{x:Nd}{c:Int}{m e:MV}(ho:av au d x=true):QK K au d [aU d x,.int c,m,e]=(aH K d x c).map MV.str:=lF (f:=λx=>(aH K d x c).map MV.str) ho
theorem Df{h X:Tx}{rows:List Tx}(L:Lay h rows X):rows≠[]:=by
 obtain⟨R,Rs,rfl,_⟩:=L;exact nl _ _
noncomputable def pA(E:List MV)(ss es is rs tp:Option (List MV)):Sto:=cV E ss es is rs tp none
def Gu (K:Ko) (au:Bool) (E:List MV) (ss es is rs tp:Option (List MV)) (d n:Nat):Prop:=∀x,lb x=true→av au d x=true→eX d x=true→ ∀c:Int,0≤c→c+9*(d+1)≤100→J n 58 [aU d x,.int c,.int (Int.ofNat K.m),.str K.e] (pA E ss es is rs tp) (.lst ((aH K d x c).map .str),pA E ss es is rs tp)
section
variable {K:Ko}(hK:KOk K)(he:K.e.length≤10){E:List MV}{ss es is rs tp:Option (List MV)}
include hK he
theorem FD{n d:Nat}{h:Tx}{c:Int}{x:Nd}{au:Bool}(hB:Gu K au E ss es is rs tp d n)(hc:lb x=true)(ho:av au d x=true)(hz:eX d x=true)(hh:h.length≤300)(h0:0≤c)(h1:c+9*(d+2)≤100)(hd:d≤3){g:Tx}{y:MV}(hg:g∈[b8,bI])(hm:aU d x= .tup [.str g,y])(hx:bD K (aH K d) h x c=uQ h c (aH K d x (c+Int.ofNat K.m))) :
  J (n+2) 57 [.str h,aU d x,.int c,.int (Int.ofNat K.m),.str K.e] (pA E ss es is rs tp) (.lst ((bD K (aH K d) h x c).map .str),pA E ss es is rs tp):=by
 obtain⟨m2,m9⟩:=uZ hK;have j:=hB x hc ho hz (c+Int.ofNat K.m) (by omega) (by omega)
 have bn:=hU hK he (au:=au) d x ho hz (c+Int.ofNat K.m) (by omega) (by omega)
 have ne:=Df (il hK d x hc ho (c+Int.ofNat K.m) (by omega))
 rw[hx];generalize aH K d x (c+Int.ofNat K.m)=rows at j bn ne;cases rows with
 |nil=>exact absurd rfl ne
 |cons R Rs=>
  rw[hm] at j ⊢;have e:=ac (Mk n (pA E ss es is rs tp) h K.e c (Int.ofNat K.m) y R (Rs.map .str)) hg;rw[Km] at e;have b1:=bn.b R (.head _);have b2:Rs.length+1≤cR d:=bn.n
  have b3:cR d≤5000:=by
   match d,hd with
   |0,_=>decide
   |1,_=>decide
   |2,_=>decide
   |3,_=>decide
   |d+4,hd=>exact absurd hd (by omega)
  have b4:=xt (R:=R) (c:=c+1);have b5:400*d≤1200:=by omega
  exact kX (n:=n) (k:=1) e (an (bt (aP j)) (an (bt (ao (by unfold ak;omega))) (an (bt (ao (by rw[fP];unfold ak;omega))) rfl)))
theorem Mo{n d:Nat}{au:Bool}(hn:4≤n)(hd:d≤3)(hB:Gu K au E ss es is rs tp d n)(x:Nd)(ho:av au d x=true)(hz:eX d x=true){h:Tx}{c:Int}(hh:h.length≤300)(h0:0≤c)(h1:c+9*(d+2)≤100) :
  J (n+2) 57 [.str h,aU d x,.int c,.int (Int.ofNat K.m),.str K.e] (pA E ss es is rs tp) (.lst ((bD K (aH K d) h x c).map .str),pA E ss es is rs tp):=by
 obtain⟨m2,m9⟩:=uZ hK;cases x with
 |text t=>
  have j:=KB (E:=E) (ss:=ss) (es:=es) (is:=is) (rs:=rs) (tp:=tp) (h:=h++[32,124]) (c:=c+Int.ofNat K.m) (m:=K.m) (e:=K.e) false hK.m (gf ho) (by rw[a7];show h.length+2≤_;omega) (by omega) (by omega) he
  rw[ft];exact kX (n:=n) (k:=1) (Mj n (pA E ss es is rs tp) h K.e c (Int.ofNat K.m) t _) (an (bt (ao (by unfold ak;omega))) (an (bt (aP (j.mono hn))) rfl))
 |word w=>
  have hw:=pz (gg ho);rw[ez];exact kX (n:=n) (k:=1) (Mi n (pA E ss es is rs tp) h K.e c (Int.ofNat K.m) w) (an (bt (ao (by unfold ak;omega))) (an (bt (ao (by rw[a7];show h.length+1+_≤_;unfold ak;omega))) (an (bt (ao (by rw[a7,a7];show h.length+1+_+_≤_;unfold ak;omega))) rfl)))
 |row l=>
  have e:∃y,aU d (.row l)= .tup [.str b8,y]:=by cases d<;>exact⟨_,rfl⟩
  obtain⟨y,e⟩:=e;exact FD hK he hB rfl ho hz hh h0 h1 hd (.head _) e rfl
 |map l=>
  have e:∃y,aU d (.map l)= .tup [.str bI,y]:=by cases d<;>exact⟨_,rfl⟩
  obtain⟨y,e⟩:=e;exact FD hK he hB rfl ho hz hh h0 h1 hd (.tail _ (.head _)) e rfl
end
theorem FE:aD (bK (aF sf))=true:=by kernel_rfl
theorem FF:aD (aY sf)=true:=by kernel_rfl
theorem AO:aD (bK (aF i7))=true:=by kernel_rfl
theorem AP:aD (aY i7)=true:=by kernel_rfl
theorem Js:aD (ag Dc 3)=true:=by kernel_rfl
theorem Jt:aD (aY (ec (aF De)))=true:=by kernel_rfl
theorem FG{Ψ:Psi}{L:MSs}{K:Option MV→St→Ds→R}{t:MT}{vs:List MV}(nb:aD (bK (aF L))=true)(nt:aD (aY L)=true)(h:∀r st,Mn (K r st)):∀r st,Mn (C3 Ψ L K t vs r st):=λr st=>wG (dj nt h) λst=>pu nb nt h vs st
section
variable {n d:Nat}{K:Ko}{au:Bool}{sh:Sto}{nd:MV}{c:Int}
structure Below(n d:Nat)(K:Ko)(au:Bool)(sh:Sto)(c:Int):Prop where
 h:∀x h,av au d x=true→eX d x=true→h.length≤300→jH n (HK K au d) sh h (aU d x) c (Int.ofNat K.m) K.e=true∧(bD K (aH K d) h x c).length≤5000
 q:∀x,lb x=true→av au d x=true→eX d x=true→(jQ n (QK K au d) sh (aU d x) c (Int.ofNat K.m) K.e=true∧(aH K d x c).length≤5000)∧jQ n (QK K au d) sh (aU d x) (c+Int.ofNat K.m) (Int.ofNat K.m) K.e=true∧(aH K d x (c+Int.ofNat K.m)).length≤5000
 c:c≤100
 e:K.e.length≤10
theorem xv(B:Below n d K au sh c):∀(xs:List Nd) (ls:List Tx) (c6 c7 c8:Cell),(∀x∈xs,av au d x=true∧eX d x=true)→ls.length+xs.length*5000≤50000 →
  am (fG (ik n (HK K au d) (QK K au d)) sf (ba (ik n (HK K au d) (QK K au d)) .nil (ba (ik n (HK K au d) (QK K au d)) (ag Dc 3) ai)) 6 (xs.map (aU d)) (fF sh nd c (Int.ofNat K.m) K.e (ck c) (ls.map .str) c6 c7 c8) []) (.lst ((ls++xs.flatMap λx=>bD K (aH K d) (ck c++[45]) x c).map .str)) sh
 |[],ls,c6,c7,c8,H,hl=>by
  rw[show (ls++([]:List Nd).flatMap λx=>bD K (aH K d) (ck c++[45]) x c)=ls from fw _];exact aK (Jm n (HK K au d) (QK K au d) sh K.e (ck c) c (Int.ofNat K.m) nd (ls.map .str) c6 c7 c8) rfl ⟨rfl,rfl⟩
 |x::xs,ls,c6,c7,c8,H,hl=>by
  have hl:ls.length+(xs.length+1)*5000≤50000:=hl;obtain⟨h1,h2⟩:=H x (.head _);have hp:=lK B.c;obtain⟨j,jl⟩:=B.h x (ck c++[45]) h1 h2 (by rw[a7];show (ck c).length+1≤_;omega)
  have hm:∀r st,Mn (ba (ik n (HK K au d) (QK K au d)) .nil (ba (ik n (HK K au d) (QK K au d)) (ag Dc 3) ai) r st):=dj mR (dj Js di);refine aT (mC FE FF hm _ _) (Jl n (HK K au d) (QK K au d) sh K.e (ck c) c (Int.ofNat K.m) nd (aU d x) (xs.map (aU d)) (ls.map .str) c6 c7 c8 _) (an (bt (ao (by unfold ak;omega))) (an (bt j) rfl)) ?_
  rw[nW h1,gl (by rw[fP,fP];omega),hJ,← nY]
  have:=xv B xs (ls++bD K (aH K d) (ck c++[45]) x c) (.val (aU d x)) c7 c8 (λy m=>H y (.tail _ m)) (by rw[a7];omega)
  rw[cu ls] at this;exact this
theorem tT(B:Below n d K au sh c):∀(xs:List (Nd×Nd)) (ls:List Tx) (c6 c7 c8:Cell),(∀p∈xs,(av au d p.1=true∧eX d p.1=true)∧(av au d p.2=true∧eX d p.2=true))→ls.length+xs.length*10000≤50000 →
  am (eQ (ik n (HK K au d) (QK K au d)) i7 ai (.tup [7,8]) (xs.map (iY d)) (fF sh nd c (Int.ofNat K.m) K.e (ck c) (ls.map .str) c6 c7 c8) []) (.lst ((ls++xs.flatMap λp=>eY K (aH K d) p c).map .str)) sh
 |[],ls,c6,c7,c8,H,hl=>by
  rw[show (ls++([]:List (Nd×Nd)).flatMap λp=>eY K (aH K d) p c)=ls from fw _];exact aK (Jn n (HK K au d) (QK K au d) sh K.e (ck c) c (Int.ofNat K.m) nd (ls.map .str) c6 c7 c8) rfl ⟨rfl,rfl⟩
 |(k,v)::xs,ls,c6,c7,c8,H,hl=>by
  have hl:ls.length+(xs.length+1)*10000≤50000:=hl;obtain⟨⟨h1,h2⟩,h3,h4⟩:(av au d k=true∧eX d k=true)∧(av au d v=true∧eX d v=true):=H (k,v) (.head _);have hp:=lK B.c;have hMl:=pu (Ψ:=ik n (HK K au d) (QK K au d)) (t:=.tup [7,8]) AO AP di
  -- what is left once a pair's rows stand
  have tail:∀(rows:List Tx) (c6 c7 c8:Cell),eY K (aH K d) (k,v) c=rows→rows.length≤10000→am (eQ (ik n (HK K au d) (QK K au d)) i7 ai (.tup [7,8]) (xs.map (iY d)) (fF sh nd c (Int.ofNat K.m) K.e (ck c) ((ls++rows).map .str) c6 c7 c8) []) (.lst ((ls++((k,v)::xs).flatMap λp=>eY K (aH K d) p c).map .str)) sh:=λrows c6 c7 c8 hr hrl=>by
   have:=tT B xs (ls++rows) c6 c7 c8 (λy m=>H y (.tail _ m)) (by rw[a7];omega)
   rw[cu ls] at this;show am _ (.lst ((ls++(eY K (aH K d) (k,v) c++xs.flatMap λp=>eY K (aH K d) p c)).map .str)) sh;rw[hr];exact this
  cases hw:ip k with
  |false=>
   obtain⟨g,y,e,hg⟩:∃g y,aU d k= .tup [.str g,y]∧g∈[bA,b8,bI]:=by
    cases k with
    |text t=>exact⟨_,_,ft,.head _⟩
    |word w=>exact aB hw.symm
    |row l=>cases d<;>exact⟨_,_,rfl,.tail _ (.head _)⟩
    |map l=>cases d<;>exact⟨_,_,rfl,.tail _ (.tail _ (.head _))⟩
   obtain⟨j1,l1⟩:=B.h k (ck c++[63]) h1 h2 (by rw[a7];show (ck c).length+1≤_;omega)
   obtain⟨j2,l2⟩:=B.h v (ck c++[58]) h3 h4 (by rw[a7];show (ck c).length+1≤_;omega)
   have a:=ac (Jo n (HK K au d) (QK K au d) sh K.e (ck c) c (Int.ofNat K.m) nd y (aU d v) (xs.map (iY d)) (ls.map .str) c6 c7 c8) hg;rw[← e] at a;have hmk:∀r st,Mn (ba (ik n (HK K au d) (QK K au d)) .nil (C3 (ik n (HK K au d) (QK K au d)) i7 ai (.tup [7,8]) (xs.map (iY d))) r st):=dj mR (FG AO AP di);refine aT (hMl _ _) a (an (bt (ao (by unfold ak;omega))) (an (bt j1) rfl)) ?_
   rw[nW h1,gl (by rw[fP,fP];omega),← nY]
   have b:=Jp n (HK K au d) (QK K au d) sh K.e (ck c) c (Int.ofNat K.m) nd (aU d k) (aU d v) (xs.map (iY d)) ((ls++bD K (aH K d) (ck c++[63]) k c).map .str) c6;refine aT (cH _ Jt _ _ hmk) b (an (bt (ao (by unfold ak;omega))) (an (bt j2) rfl)) ?_
   rw[nW h3,gl (by rw[fP,fP,a7];omega),← nY,cu]
   refine tail (bD K (aH K d) (ck c++[63]) k c++bD K (aH K d) (ck c++[58]) v c) _ _ _ ?_ (by rw[a7];omega)
   unfold eY;rw[show ip (k,v).1=false from hw];rfl
  |true=>
   obtain⟨w,rfl⟩:∃w,k= .word w:=by
    cases k with
    |word w=>exact⟨w,rfl⟩
    |_=>exact aB hw
   have hwl:=pz (gg h1);have ek:aU d (.word w)= .tup [.str br,.str w]:=ez;have l1:aS ((ck c).length+w.length) ak=true:=ao (by unfold ak;omega)
   have l2:aS ((ck c++w).length+1) ak=true:=ao (by rw[a7];unfold ak;omega)
   have l3:aS (((ck c++w)++[58]).length+K.e.length) ak=true:=ao (by
    rw[a7,a7];have:=B.e;show (ck c).length+w.length+1+K.e.length≤_;unfold ak;omega)
   cases v with
   |text t=>
    obtain⟨j,jl⟩:=B.h (.text t) ((ck c++w)++[58]) h3 h4 (by rw[a7,a7];show (ck c).length+w.length+1≤_;omega)
    have a:=ac (FB n (HK K au d) (QK K au d) sh K.e (ck c) c (Int.ofNat K.m) nd (.str t) (xs.map (iY d)) (ls.map .str) c6 c7 c8 w) (.head _);rw[← ek,← (ft (d:=d))] at a;refine aT (hMl _ _) a (an (bt l1) (an (bt l2) (an (bt j) rfl))) ?_;rw[nW h3,gl (by rw[fP,fP];omega),← nY]
    exact tail _ _ _ _ rfl (by show (bD K (aH K d) ((ck c++w)++[58]) (.text t) c).length≤_;omega)
   |word t=>
    obtain⟨j,jl⟩:=B.h (.word t) ((ck c++w)++[58]) h3 h4 (by rw[a7,a7];show (ck c).length+w.length+1≤_;omega)
    have a:=ac (FB n (HK K au d) (QK K au d) sh K.e (ck c) c (Int.ofNat K.m) nd (.str t) (xs.map (iY d)) (ls.map .str) c6 c7 c8 w) (.tail _ (.head _));rw[← ek,← (ez (d:=d) (w:=t))] at a;refine aT (hMl _ _) a (an (bt l1) (an (bt l2) (an (bt j) rfl))) ?_;rw[nW h3,gl (by rw[fP,fP];omega),← nY]
    exact tail _ _ _ _ rfl (by show (bD K (aH K d) ((ck c++w)++[58]) (.word t) c).length≤_;omega)
   |row l=>
    obtain⟨y,e⟩:∃y,aU d (.row l)= .tup [.str b8,y]:=by cases d<;>exact⟨_,rfl⟩
    obtain⟨⟨j,jl⟩,_⟩:=B.q (.row l) rfl h3 h4;have a:=Jq n (HK K au d) (QK K au d) sh K.e (ck c) c (Int.ofNat K.m) nd y (xs.map (iY d)) (ls.map .str) c6 c7 c8 w;rw[← ek,← e] at a;rw[xu h3] at a;refine aT (hMl _ _) a (an (bt l1) (an (bt l2) (an (bt l3) (an (bt j) (an (bt (ao (by rw[fP];unfold ak;omega))) rfl))))) ?_
    rw[show ([.str (((ck c++w)++[58])++K.e)]++(aH K d (.row l) c).map MV.str:List MV)=((((ck c++w)++[58])++K.e)::aH K d (.row l) c).map MV.str from rfl,gl (by rw[fP,fP];show _+(_+1)≤_;omega),← nY]
    exact tail _ _ _ _ rfl (by show (aH K d (.row l) c).length+1≤_;omega)
   |map l=>
    obtain⟨y,e⟩:∃y,aU d (.map l)= .tup [.str bI,y]:=by cases d<;>exact⟨_,rfl⟩
    obtain⟨_,j,jl⟩:=B.q (.map l) rfl h3 h4;have a:=Jr n (HK K au d) (QK K au d) sh K.e (ck c) c (Int.ofNat K.m) nd y (xs.map (iY d)) (ls.map .str) c6 c7 c8 w;rw[← ek,← e] at a;rw[xu h3] at a;refine aT (hMl _ _) a (an (bt l1) (an (bt l2) (an (bt l3) (an (bt j) (an (bt (ao (by rw[fP];unfold ak;omega))) rfl))))) ?_
    rw[show ([.str (((ck c++w)++[58])++K.e)]++(aH K d (.map l) (c+Int.ofNat K.m)).map MV.str:List MV)=((((ck c++w)++[58])++K.e)::aH K d (.map l) (c+Int.ofNat K.m)).map MV.str from rfl,gl (by rw[fP,fP];show _+(_+1)≤_;omega),← nY]
    exact tail _ _ _ _ rfl (by show (aH K d (.map l) (c+Int.ofNat K.m)).length+1≤_;omega)
end
theorem xw{d:Nat}(h:d≤3):cR d≤4000:=by
 match d,h with
 |0,_=>decide
 |1,_=>decide
 |2,_=>decide
 |3,_=>decide
 |n+4,h=>exact absurd h (by omega)
section
variable {K:Ko}(hK:KOk K)(he:K.e.length≤10){E:List MV}{ss es is rs tp:Option (List MV)}{au:Bool}
include hK he
theorem xy{d n:Nat}{c:Int}(hd:d≤3)(hn:4≤n)(IH:Gu K au E ss es is rs tp d n)(h0:0≤c)(h1:c+9*(d+2)≤100):Below (n+2) d K au (pA E ss es is rs tp) c:=by
 obtain⟨m2,m9⟩:=uZ hK;have P:=hU hK he (au:=au) d;have hc:=xw hd
 have q:∀x,lb x=true→av au d x=true→eX d x=true→ ∀c:Int,0≤c→c+9*(d+1)≤100→jQ (n+2) (QK K au d) (pA E ss es is rs tp) (aU d x) c (Int.ofNat K.m) K.e=true∧(aH K d x c).length≤5000:=λx hx ho hz c h0 h1=>by
  refine⟨aP ?_,iE (P x ho hz c h0 h1).n (by omega)⟩
  rw[xu ho];exact(IH x hx ho hz c h0 h1).mono (by omega)
 refine⟨λx h ho hz hh=>⟨aP ?_,iE (jL hK he P ho hz h0 h1 h).n (by omega)⟩,λx hx ho hz=>⟨q x hx ho hz c h0 (by omega),q x hx ho hz (c+Int.ofNat K.m) (by omega) (by omega)⟩,by omega,he⟩
 rw[nW ho];exact Mo hK he hn hd IH x ho hz hh h0 h1
theorem zO{n d:Nat}{c:Int}{l:List Nd}(B:Below n d K au (pA E ss es is rs tp) c)(h0:0≤c)(H:∀x∈l,av au d x=true∧eX d x=true)(hl:l.length≤3):J (n+2) 58 [.tup [.str b8,.lst (l.map (aU d))],.int c,.int (Int.ofNat K.m),.str K.e] (pA E ss es is rs tp) (.lst ((l.flatMap λx=>bD K (aH K d) (ck c++[45]) x c).map .str),pA E ss es is rs tp):=by
 have hb:([]:List Tx).length+l.length*5000≤50000:=by show 0+_≤_;omega
 have hc:=B.c;have hp:zL c=true:=an (ao (by unfold ak;omega)) (ao (by unfold ak;omega))
 have g:=Ml n (HK K au d) (QK K au d) (pA E ss es is rs tp) K.e c (Int.ofNat K.m) (l.map (aU d));have h:=xv (nd:=.tup [.str b8,.lst (l.map (aU d))]) B l [] .unset .unset .unset H hb;rw[List.nil_append] at h;exact JH (bC g (an (bt hp) rfl) ⟨h⟩)
theorem zP{n d:Nat}{c:Int}{l:List (Nd×Nd)}(B:Below n d K au (pA E ss es is rs tp) c)(h0:0≤c)(H:∀p∈l,(av au d p.1=true∧eX d p.1=true)∧(av au d p.2=true∧eX d p.2=true))(hl:l.length≤2):J (n+2) 58 [.tup [.str bI,.lst (l.map (iY d))],.int c,.int (Int.ofNat K.m),.str K.e] (pA E ss es is rs tp) (.lst ((l.flatMap λp=>eY K (aH K d) p c).map .str),pA E ss es is rs tp):=by
 have hb:([]:List Tx).length+l.length*10000≤50000:=by show 0+_≤_;omega
 have hc:=B.c;have hp:zL c=true:=an (ao (by unfold ak;omega)) (ao (by unfold ak;omega))
 have g:=Mm n (HK K au d) (QK K au d) (pA E ss es is rs tp) K.e c (Int.ofNat K.m) (l.map (iY d));have h:=tT (nd:=.tup [.str bI,.lst (l.map (iY d))]) B l [] .unset .unset .unset H hb;rw[List.nil_append] at h;exact JH (bC g (an (bt hp) rfl) ⟨h⟩)
theorem tU:∀d,d≤3→Gu K au E ss es is rs tp d (4+4*d)
 |0,_=>λx hx ho=>by
  cases x with
  |row l=>exact aB ho
  |map l=>exact aB ho
  |_=>exact aB hx
 |d+1,hd=>λx hx ho hz c h0 h1=>by
  have B:=xy hK he (d:=d) (by omega) (by omega) (tU d (by omega)) h0 (c:=c) (by omega)
  rw[show 4+4*(d+1)=(4+4*d+2)+2 by omega]
  cases x with
  |row l=>
   have ho:(!l.isEmpty&&l.all (av au d))=true:=ho;have hz:(aS l.length 3&&l.all (eX d))=true:=hz;exact zO hK he B h0 (λx m=>⟨qdz.mp (aa ho) x m,qdz.mp (aa hz) x m⟩) (kM (ab hz))
  |map l=>
   have ho:(!l.isEmpty&&l.all λp=>av au d p.1&&(ef p.1&&av au d p.2))=true:=ho;have hz:(aS l.length 2&&l.all λp=>eX d p.1&&eX d p.2)=true:=hz
   exact zP hK he B h0 (λp m=>by
    have h2:=qdz.mp (aa ho) p m;have h3:=qdz.mp (aa hz) p m;exact⟨⟨ab h2,ab h3⟩,aa (aa h2),aa h3⟩) (kM (ab hz))
  |_=>exact aB hx
end
theorem xz{α:Type}{f:List Int→α×List Int}{k j:Nat}{l:List Int}(h:k≤j):aS (iW f k l).1.length j=true:=ao (by rw[jG];exact h)
theorem Dg{d:Nat}{I:List Int→Nd×List Int}(h:∀l,eX d (I l).1=true)(l:List Int):eX d (kq I l).1=true:=by
 unfold kq;cases aI (Int.fmod (aw l).1 3) 2 with
 |false=>cases d<;>rfl
 |true=>
  show eX d (uO (I (aw l).2).1)=true;have hq:=h (aw l).2;generalize (I (aw l).2).1=n at hq;cases n with
  |text t=>cases d<;>rfl
  |word w=>exact hq
  |row l=>exact hq
  |map l=>exact hq
theorem tV{sg:Int}:∀d l,eX d (aq sg d l).1=true
 |0,l=>rfl
 |d+1,l=>by
  have IH:=tV (sg:=sg) d
  show eX (d+1) (bif aI (Int.fmod (aw l).1 4) 0 then fN sg (aw l).1 (aw l).2 else bif aI (Int.fmod (aw l).1 4) 1 then gn (aw l).1 (aw l).2 else
   bif aI (Int.fmod (aw l).1 4) 2 then w7 (aq sg d) (aw l).1 (aw l).2 else w8 (aq sg d) (aw l).1 (aw l).2).1=true
  cases aI (Int.fmod (aw l).1 4) 0 with
  |true=>rfl
  |false=>
  cases aI (Int.fmod (aw l).1 4) 1 with
  |true=>rfl
  |false=>
  cases aI (Int.fmod (aw l).1 4) 2 with
  |true=>
   have hk:=cg (a:=Int.fdiv (aw l).1 4) (b:=3) (by decide)
   exact an (xz (by omega)) (ii IH _ _)
  |false=>
   have hk:=cg (a:=Int.fdiv (aw l).1 4) (b:=2) (by decide)
   exact an (xz (by omega)) (ii (p:=λp:Nd×Nd=>eX d p.1&&eX d p.2) (λl=>an (Dg IH l) (IH _)) _ _)
noncomputable def FH(f:Nat):Bool:=Nat.beq f 52||(Nat.beq f 54||(Nat.beq f 9||(Nat.beq f 55||(Nat.beq f 56||(Nat.beq f 58||(Nat.beq f 53||Nat.beq f 49))))))
structure OpL where
 X:Sto→Int
 W:Sto→Sto
 V:Sto→MV
 Y:Sto→Sto
 G:MV→Sto→Sto
 E:List MV
 U:Sto→Sto
 BL:List MV
 LL:List MV
 XT:Tx
noncomputable def KD(o:OpL)(f:Nat)(as:List MV)(sh:Sto):MV×Sto:=bif Nat.beq f 52 then (.int (o.X sh),o.W sh) else bif Nat.beq f 54 then (o.V sh,o.Y sh) else bif Nat.beq f 9 then (.none,o.G (at_ as 1) sh) else bif Nat.beq f 55 then (.lst o.E,sh) else
 bif Nat.beq f 56 then (.loc .due,o.U sh) else bif Nat.beq f 58 then (.lst o.BL,sh) else bif Nat.beq f 53 then (.lst o.LL,sh) else (.str o.XT,sh)
noncomputable def cL(o:OpL)(q8:Ds):Psi:=wB 40 FH (KD o) (λf=>bif Nat.beq f 8 then q8 else []) 1
noncomputable def bW:MSs:=L1.b__law
noncomputable def aZ(sh:Sto)(v0 c1 c2 c3 c4 c5 c6 c7 c8 c9 c10 c11 c12 c13 c14 c15:Cell):St:=⟨sh,[v0,c1,c2,c3,c4,c5,c6,c7,c8,c9,c10,c11,c12,c13,c14,c15]⟩
noncomputable def vt:Cell:=.val (.loc .tape)
noncomputable def ci(i:Int):Cell:=.val (.int i)
noncomputable def cN(b:Bool):Cell:=.val (.bool b)
noncomputable def xA:Sto:=⟨none,none,none,none,none,none,none,none⟩
noncomputable def KE(ws:List MV):Sto:=⟨none,none,none,none,none,none,some ws,none⟩
noncomputable def Mp:List MV:=[.none,.str [13],.str [13,10],.str [10],.str [10,10]]
noncomputable def q6(j:Nat):MV:=(c0 Mp j).getD .none
noncomputable def Gv(o:OpL)(sh:Sto):Bool:=jd 40 52 [.loc .tape] sh (.int (o.X sh),o.W sh)
section
variable (o:OpL)(q8:Ds)(L:List MV)(sh:Sto)
theorem Ju:ax 1 (aR L1.T (cL o q8) 59 [.lst L] xA [])=((aS ((L.take (PySem.clipAt L.length 18)).drop 0).length ak==true)&&true,cc (bp 5040 ((L.take (PySem.clipAt L.length 18)).drop 0)) (λws=>ae L1.T (cL o q8) (ag bW 1) (aZ (KE ws) (.val (.lst L)) vt .unset .unset .unset .unset .unset .unset .unset .unset .unset .unset .unset .unset .unset .unset) ai) []):=by kernel_rfl
noncomputable def fl(o:OpL)(sh:Sto):Int:=o.X sh
noncomputable def iD(o:OpL)(sh:Sto):Int:=Int.fmod (o.X (o.W sh)) 12-1
noncomputable def wD(o:OpL)(sh:Sto):Int:=Int.fmod (o.X (o.W (o.W sh))) 60-9
noncomputable def s3(o:OpL)(sh:Sto):Sto:=o.W (o.W (o.W sh))
noncomputable def xB(f k:Int):Bool:=aI (Int.fmod (Int.fdiv f k) 2) 1
theorem Jv(v0:Cell):(List.range 5).map (λj=>bb.map λd=>ax 18 (ae L1.T (cL o q8) (aO 8 (ag bW 1) (ag bW 9)) (aZ sh v0 vt .unset .unset .unset .unset .unset .unset .unset .unset .unset .unset .unset .unset .unset .unset) ai [(0,true),(1000000+j,true),(0,d)])) =
 mp (λj=>mp (λd=>((Gv o sh==true)&&((Gv o (o.W sh)==true)&&((Gv o (o.W (o.W sh))==true)&&((aI (Int.fmod (Int.fdiv (fl o sh) 8) 5) (Int.ofNat j)==true)&&((xB (fl o sh) 4==d)&&((jd 40 54 [.loc .tape,.int 3,.int (bif d then 22 else 18)] (s3 o sh) (o.V (s3 o sh),o.Y (s3 o sh))==true)&&true))))),
  ae L1.T (cL o q8) (ag bW 9) (aZ (o.Y (s3 o sh)) v0 vt (ci (fl o sh)) (ci (iD o sh)) (ci (wD o sh)) (cN (aI (Int.fmod (fl o sh) 2) 1)) (cN (xB (fl o sh) 2)) (cN (xB (fl o sh) 4)) (.val (q6 j)) (.val (o.V (s3 o sh))) .unset .unset .unset .unset .unset .unset) ai [])) bb) (List.range 5):=by kernel_rfl
theorem zT(v0 c2 c3 c4 c5 c6 c7 c8:Cell)(x:MV):[bA,br,b8,bI].map (λg=>ax 0 (ae L1.T (cL o q8) (aO 1 (ag bW 9) (ag bW 10)) (aZ sh v0 vt c2 c3 c4 c5 c6 c7 c8 (.val (.tup [.str g,x])) .unset .unset .unset .unset .unset .unset) ai [])) =
 mp (λg=>(true,ae L1.T (cL o q8) (ag bW 10) (aZ sh v0 vt c2 c3 c4 c5 c6 c7 c8 (.val (.tup [.str (bif eqX g br then bA else g),x])) .unset .unset .unset .unset .unset .unset) ai [])) [bA,br,b8,bI]:=by kernel_rfl
noncomputable def mK(k:Nat):Nat:=bif aS 3 k&&aS k 10 then k-1 else 2
noncomputable def eZ(j:Nat):Tx:=(c0 ([[10],[13],[13,10],[10],[10]]:List Tx) j).getD []
noncomputable def O8(k:Nat)(d1 d2:Bool):Ds:=(bif Nat.beq k 1 then 2 else 4,d1)::bif d1 then [(0,d2)] else []
noncomputable def wK(w:Int)(d1 d2:Bool):Int:=bif d1&&d2 then w else 80
noncomputable def kK(k j:Nat)(w:Int)(d1 d2 au:Bool):Ko:=⟨wK w d1 d2,mK k,eZ j,au⟩
noncomputable def gK(k:Nat)(w:Int)(d1 d2:Bool):Bool:=(((!aI w 0)==true)==d1)&&bif d1 then ((bX (Int.ofNat (mK k)*2) w==true)==d2)&&true else true
theorem Jw(w:Int)(au:Bool)(v0 c2 c5 c6:Cell)(rt:MV):(List.range 12).map (λk=>(List.range 5).map λj=>bb.map λd1=>bb.map λd2=>ax 2 (ae L1.T (cL o (O8 k d1 d2)) (aO 3 (ag bW 10) (ag bW 13)) (aZ (KE L) v0 vt c2 (ci (Int.ofNat k-1)) (ci w) c5 c6 (cN au) (.val (q6 j)) (.val rt) .unset .unset .unset .unset .unset .unset) ai [])) =
 mp (λk=>mp (λj=>mp (λd1=>mp (λd2=>((fr (some L) (some L)==true)&&(((gK k w d1 d2&&fr (some L) (some L))==true)&&true),
  ae L1.T (cL o (O8 k d1 d2)) (ag bW 13) (aZ (eM (kK k j w d1 d2 au) (some L) a0 .none []) v0 vt c2 (ci (Int.ofNat k-1)) (ci w) c5 c6 (cN au) (.val (q6 j)) (.val rt) (ci (Int.ofNat (mK k))) (.val (.str (eZ j))) (.val (.loc .em)) .unset .unset .unset) ai [])) bb) bb) (List.range 5)) (List.range 12):=by kernel_rfl
end
noncomputable def vE:Cell:=.val (.loc .em)
noncomputable def vD:Cell:=.val (.loc .due)
noncomputable def j9(o:OpL)(e:MV)(sh:Sto):Bool:=jd 40 9 [.loc .em,e] sh (.none,o.G e sh)
noncomputable def Dh:MSs:=ag bW 15
noncomputable def uR:MSs:=ag bW 20
noncomputable def eD(K:Ko)(T:Option (List MV))(a:Ms)(dl:List MV):Sto:={eM K T a .none [] with due:=some dl}
section
variable (o:OpL)(q8:Ds)(K:Ko)(T:Option (List MV))(a:Ms)(q:List MV)(rest:MSs)(v0 c1 c2 c3 c4 c5 c6 c7 c8 c9 c10 c11 c13 c14 c15:Cell)(e:MV)(es:List MV)(b:Bool)(sh:Sto)
theorem Jx:ax 3 (ae L1.T (cL o q8) (aO 1 (ag bW 13) rest) (aZ (eM K T a .none q) v0 c1 c2 c3 c4 c5 c6 c7 c8 c9 c10 c11 vE c13 c14 c15) ai []) =
 ((im (eM K T a .none q) (eM K T a .none q)==true)&&((j9 o gm (eM K T a .none q)==true)&&true),ae L1.T (cL o q8) rest (aZ (o.G gm (eM K T a .none q)) v0 c1 c2 c3 c4 c5 c6 c7 c8 c9 c10 c11 vE c13 c14 c15) ai []):=by kernel_rfl
theorem Jy:ax 3 (ae L1.T (cL o q8) (aO 1 (ag bW 14) rest) (aZ (eM K T a .none q) v0 c1 c2 c3 c4 (cN b) c6 c7 c8 c9 c10 c11 vE c13 c14 c15) ai []) =
 ((im (eM K T a .none q) (eM K T a .none q)==true)&&((j9 o (km b) (eM K T a .none q)==true)&&true),ae L1.T (cL o q8) rest (aZ (o.G (km b) (eM K T a .none q)) v0 c1 c2 c3 c4 (cN b) c6 c7 c8 c9 c10 c11 vE c13 c14 c15) ai []):=by kernel_rfl
theorem Jz:ax 1 (ae L1.T (cL o q8) Dh (aZ sh v0 c1 c2 c3 c4 c5 c6 c7 c8 (.val e) c10 c11 vE c13 c14 c15) ai []) =
 ((jd 40 55 [e] sh (.lst o.E,sh)==true)&&true,fG (cL o q8) Dh ai 13 o.E (aZ sh v0 c1 c2 c3 c4 c5 c6 c7 c8 (.val e) c10 c11 vE c13 c14 c15) []):=by kernel_rfl
theorem Mq:ax 2 (fG (cL o q8) Dh ai 13 (e::es) (aZ (eM K T a .none q) v0 c1 c2 c3 c4 c5 c6 c7 c8 c9 c10 c11 vE c13 c14 c15) []) =
 ((j9 o e (eM K T a .none q)==true)&&true,qY (cL o q8) Dh ai 13 es none (aZ (o.G e (eM K T a .none q)) v0 c1 c2 c3 c4 c5 c6 c7 c8 c9 c10 c11 vE (.val e) c14 c15) []):=by kernel_rfl
theorem Mr:fG (cL o q8) Dh ai 13 [] (aZ sh v0 c1 c2 c3 c4 c5 c6 c7 c8 c9 c10 c11 vE c13 c14 c15) []=ae L1.T (cL o q8) (ag bW 16) (aZ sh v0 c1 c2 c3 c4 c5 c6 c7 c8 c9 c10 c11 vE c13 c14 c15) ai []:=by kernel_rfl
theorem JA:ax 3 (ae L1.T (cL o q8) (aO 1 (ag bW 16) rest) (aZ (eM K T a .none q) v0 c1 c2 c3 c4 c5 (cN b) c7 c8 c9 c10 c11 vE c13 c14 c15) ai []) =
 ((im (eM K T a .none q) (eM K T a .none q)==true)&&((j9 o (gY b) (eM K T a .none q)==true)&&true),ae L1.T (cL o q8) rest (aZ (o.G (gY b) (eM K T a .none q)) v0 c1 c2 c3 c4 c5 (cN b) c7 c8 c9 c10 c11 vE c13 c14 c15) ai []):=by kernel_rfl
theorem JB:ax 3 (ae L1.T (cL o q8) (aO 1 (ag bW 17) rest) (aZ (eM K T a .none q) v0 c1 c2 c3 c4 c5 c6 c7 c8 c9 c10 c11 vE c13 c14 c15) ai []) =
 ((im (eM K T a .none q) (eM K T a .none q)==true)&&((j9 o ee (eM K T a .none q)==true)&&true),ae L1.T (cL o q8) rest (aZ (o.G ee (eM K T a .none q)) v0 c1 c2 c3 c4 c5 c6 c7 c8 c9 c10 c11 vE c13 c14 c15) ai []):=by kernel_rfl
noncomputable def AQ(b:Bool):Tx:=bif b then [45,45,45,32,124] else [124]
theorem JC(t d:Tx)(m:Int):bb.map (λb=>ax 1 (ae L1.T (cL o q8) (aO 1 (ag bW 18) rest) (aZ sh v0 c1 c2 c3 c4 (cN b) c6 c7 c8 (.val (.tup [.str bA,.str t])) (ci m) (.val (.str d)) vE c13 c14 c15) ai [])) =
 mp (λb=>((jd 40 56 [.str (AQ b),.str t,.int m,.int m,.str d] sh (.loc .due,o.U sh)==true)&&true,ae L1.T (cL o q8) rest (aZ (o.U sh) v0 c1 c2 c3 c4 (cN b) c6 c7 c8 (.val (.tup [.str bA,.str t])) (ci m) (.val (.str d)) vE c13 vD c15) ai [])) bb:=by kernel_rfl
noncomputable def FI(b:Bool)(d:Tx):List MV:=bif b then [.str ([45,45,45]++d)] else []
theorem JD(x:MV)(d:Tx)(m:Int):[b8,bI].map (λg=>bb.map λb=>ax (bif b then 3 else 2) (ae L1.T (cL o q8) (aO 1 (ag bW 18) rest) (aZ (eM K T a .none []) v0 c1 c2 c3 c4 (cN b) c6 c7 c8 (.val (.tup [.str g,x])) (ci m) (.val (.str d)) vE c13 c14 c15) ai [])) =
 mp (λg=>mp (λb=>(bif b then (aS (3+d.length) ak==true)&&((jd 40 58 [.tup [.str g,x],.int 0,.int m,.str d] (eM K T a .none []) (.lst o.BL,eM K T a .none [])==true)&&((aS (FI b d++o.BL).length ak==true)&&true)) else (jd 40 58 [.tup [.str g,x],.int 0,.int m,.str d] (eM K T a .none []) (.lst o.BL,eM K T a .none [])==true)&&((aS (FI b d++o.BL).length ak==true)&&true),
  ae L1.T (cL o q8) rest (aZ (eD K T a (FI b d++o.BL)) v0 c1 c2 c3 c4 (cN b) c6 c7 c8 (.val (.tup [.str g,x])) (ci m) (.val (.str d)) vE c13 vD c15) ai [])) bb) [b8,bI]:=by kernel_rfl
theorem JF:ax 0 (ae L1.T (cL o q8) (aO 1 (ag bW 19) rest) (aZ sh v0 c1 c2 c3 c4 c5 c6 c7 c8 (.val e) c10 c11 vE c13 c14 c15) ai [])=(true,ae L1.T (cL o q8) rest (aZ sh v0 c1 c2 c3 c4 c5 c6 c7 c8 (.val e) c10 c11 vE c13 c14 (.val e)) ai []):=by kernel_rfl
theorem Mt(st:St):ae L1.T (cL o q8) uR st ai []=WL (cL o q8) uR (ba (cL o q8) (aY uR) ai) 100000 st []:=by kernel_rfl
theorem KF(KK:Option MV→St→Ds→R)(n:Nat):[bA,br].map (λg=>ax 0 (WL (cL o q8) uR KK (n+1) (aZ sh v0 c1 c2 c3 c4 c5 c6 c7 c8 c9 c10 c11 vE c13 c14 (.val (.tup [.str g,e]))) []))=mp (λg=>(true,KK none (aZ sh v0 c1 c2 c3 c4 c5 c6 c7 c8 c9 c10 c11 vE c13 c14 (.val (.tup [.str g,e]))) [])) [bA,br]:=by kernel_rfl
theorem JG(KK:Option MV→St→Ds→R)(n:Nat)(xs:List MV):ax 0 (WL (cL o q8) uR KK (n+1) (aZ sh v0 c1 c2 c3 c4 c5 c6 c7 c8 c9 c10 c11 vE c13 c14 (.val (.tup [.str b8,.lst xs]))) [])=(true,cc (fx sh (.lst xs) (.int (-1))) (λr=>wz (cL o q8) uR KK n none (aZ sh v0 c1 c2 c3 c4 c5 c6 c7 c8 c9 c10 c11 vE c13 c14 (.val r))) []):=by kernel_rfl
theorem JI(KK:Option MV→St→Ds→R)(n:Nat)(xs:List MV):ax 0 (WL (cL o q8) uR KK (n+1) (aZ sh v0 c1 c2 c3 c4 c5 c6 c7 c8 c9 c10 c11 vE c13 c14 (.val (.tup [.str bI,.lst xs]))) [])=(true,cc (fx sh (.lst xs) (.int (-1))) (λr=>ae L1.T (cL o q8) (.cons (.asg [.v 15] (.sub (.k r) (.k (.int 1)))) .nil) (aZ sh v0 c1 c2 c3 c4 c5 c6 c7 c8 c9 c10 c11 vE c13 c14 (.val (.tup [.str bI,.lst xs]))) (wz (cL o q8) uR KK n)) []):=by kernel_rfl
theorem JJ(KK:Option MV→St→Ds→R)(n:Nat)(x y:MV):ax 0 (ae L1.T (cL o q8) (.cons (.asg [.v 15] (.sub (.k (.tup [x,y])) (.k (.int 1)))) .nil) (aZ sh v0 c1 c2 c3 c4 c5 c6 c7 c8 c9 c10 c11 vE c13 c14 c15) (wz (cL o q8) uR KK n) [])=(true,WL (cL o q8) uR KK n (aZ sh v0 c1 c2 c3 c4 c5 c6 c7 c8 c9 c10 c11 vE c13 c14 (.val y)) []):=by kernel_rfl
end
noncomputable def Mu:MS:=aF (ag bW 21)
noncomputable def JK(r:MV):MS:=.ife (.bo false (.cons (.val (.v 6)) (.cons (.bo true (.cons (.cmp (.sub (.v 15) (.k (.int 0))) (.cons .eq (.k (.str bA)) .nil)) (.cons (.cmp (.sub (.k r) (.k (.int 0))) (.cons .eq (.k (.str [])) .nil)) .nil))) .nil))) (ec Mu) .nil
section
variable (o:OpL)(q8:Ds)(K:Ko)(T:Option (List MV))(a:Ms)(dl ls:List MV)(rest:MSs)(v0 c1 c2 c3 c4 c5 c7 c8 c9 c10 c13:Cell)(e r:MV)(d t:Tx)(b:Bool)(sh:Sto)(xs:List MV)
noncomputable def gD(dl:List MV)(d:Tx):Bool:=(aS (3+d.length) ak==true)&&((aS (dl.length+1) ak==true)&&true)
noncomputable def Gw(d:Tx):MV:=.str ([46,46,46]++d)
theorem JL:ax 3 (ae L1.T (cL o q8) (aO 1 (ag bW 21) rest) (aZ (eD K T a dl) v0 c1 c2 c3 c4 c5 (cN true) c7 c8 c9 c10 (.val (.str d)) vE c13 vD (.val e)) ai []) =
 (gD dl d,ae L1.T (cL o q8) rest (aZ (eD K T a (dl++[Gw d])) v0 c1 c2 c3 c4 c5 (cN true) c7 c8 c9 c10 (.val (.str d)) vE c13 vD (.val e)) ai []):=by kernel_rfl
theorem JM:ax 0 (ae L1.T (cL o q8) (aO 1 (ag bW 21) rest) (aZ (eD K T a dl) v0 c1 c2 c3 c4 c5 (cN false) c7 c8 c9 c10 (.val (.str d)) vE c13 vD (.val (.tup [.str br,e]))) ai []) =
 (true,ae L1.T (cL o q8) rest (aZ (eD K T a dl) v0 c1 c2 c3 c4 c5 (cN false) c7 c8 c9 c10 (.val (.str d)) vE c13 vD (.val (.tup [.str br,e]))) ai []):=by kernel_rfl
theorem JO:ax 1 (ae L1.T (cL o q8) (aO 1 (ag bW 21) rest) (aZ (eD K T a dl) v0 c1 c2 c3 c4 c5 (cN false) c7 c8 c9 c10 (.val (.str d)) vE c13 vD (.val (.tup [.str bA,.str t]))) ai []) =
 ((jd 40 53 [.str t] (eD K T a dl) (.lst o.LL,eD K T a dl)==true)&&true,cc (fx (eD K T a dl) (.lst o.LL) (.int (-1))) (λr=>ae L1.T (cL o q8) (.cons (JK r) rest) (aZ (eD K T a dl) v0 c1 c2 c3 c4 c5 (cN false) c7 c8 c9 c10 (.val (.str d)) vE c13 vD (.val (.tup [.str bA,.str t]))) ai) []):=by kernel_rfl
theorem JP:ax 3 (ae L1.T (cL o q8) (.cons (JK (.tup [.str [],r])) rest) (aZ (eD K T a dl) v0 c1 c2 c3 c4 c5 (cN false) c7 c8 c9 c10 (.val (.str d)) vE c13 vD (.val (.tup [.str bA,.str t]))) ai []) =
 (gD dl d,ae L1.T (cL o q8) rest (aZ (eD K T a (dl++[Gw d])) v0 c1 c2 c3 c4 c5 (cN false) c7 c8 c9 c10 (.val (.str d)) vE c13 vD (.val (.tup [.str bA,.str t]))) ai []):=by kernel_rfl
theorem JQ(z:Nat)(y:Tx):ax 0 (ae L1.T (cL o q8) (.cons (JK (.tup [.str (z::y),r])) rest) (aZ (eD K T a dl) v0 c1 c2 c3 c4 c5 (cN false) c7 c8 c9 c10 (.val (.str d)) vE c13 vD (.val (.tup [.str bA,.str t]))) ai []) =
 (true,ae L1.T (cL o q8) rest (aZ (eD K T a dl) v0 c1 c2 c3 c4 c5 (cN false) c7 c8 c9 c10 (.val (.str d)) vE c13 vD (.val (.tup [.str bA,.str t]))) ai []):=by kernel_rfl
noncomputable def jn(sh:Sto)(l:Loc):Option (Bool×MV×Sto):=ri L1.T (λ_ _ _=>none) none (.str []) 3 [.loc l] [] sh
theorem Mv:ax 2 (ae L1.T (cL o q8) (ag bW 22) (aZ (eD K T a dl) v0 c1 c2 c3 c4 c5 (cN b) c7 c8 c9 c10 (.val (.str d)) vE c13 vD (.val e)) ai []) =
 ((jd 40 49 [.inst 18 [.loc .rows]] (eD K T a dl) (.str o.XT,eD K T a dl)==true)&&true,dT (iG (eD K T a dl) (.str []) 3 [.loc .due]) (cc (jn (eD K T a dl) .due) λp=>dT p.1 (cc (kt .eq (.str o.XT) p.2.1) λb _=>.fin (.bool b) p.2.2)) []):=by kernel_rfl
theorem Mw:aR L1.T (PX 0 [] 0) 49 [.inst 18 [.loc .rows]] (eD K T a dl) []=dT (iG (eD K T a dl) (.str []) 3 [.loc .rows]) (cc (jn (eD K T a dl) .rows) λp=>dT p.1 (λ_=>.fin p.2.1 p.2.2)) []:=by kernel_rfl
end
noncomputable def t0(l:List Int):List Int:=(l.take (PySem.clipAt l.length 18)).map λi=>Int.fmod i 5040
noncomputable def fI(l:List Int):Int:=(aw (t0 l)).1
noncomputable def t1(l:List Int):List Int:=(aw (t0 l)).2
noncomputable def t2(l:List Int):List Int:=(aw (t1 l)).2
noncomputable def t3(l:List Int):List Int:=(aw (t2 l)).2
noncomputable def kI(l:List Int):Nat:=(Int.fmod (aw (t1 l)).1 12).toNat
noncomputable def wI(l:List Int):Int:=Int.fmod (aw (t2 l)).1 60-9
noncomputable def fb(l:List Int):Bool:=aI (Int.fmod (fI l) 2) 1
noncomputable def iq(l:List Int):Bool:=xB (fI l) 2
noncomputable def ir(l:List Int):Bool:=xB (fI l) 4
noncomputable def jI(l:List Int):Nat:=(Int.fmod (Int.fdiv (fI l) 8) 5).toNat
noncomputable def FJ(l:List Int):Nd:=(aq (af (ir l)) 3 (t3 l)).1
noncomputable def t4(l:List Int):List Int:=(aq (af (ir l)) 3 (t3 l)).2
noncomputable def FK(n:Nd):Nd:=dW n .text .text .row .map
noncomputable def ca(l:List Int):Nd:=FK (FJ l)
noncomputable def JR(l:List Int):Bool:=!aI (wI l) 0
noncomputable def JS(l:List Int):Bool:=bX (Int.ofNat (mK (kI l))*2) (wI l)
noncomputable def KI(l:List Int):Ko:=kK (kI l) (jI l) (wI l) (JR l) (JS l) (ir l)
noncomputable def TI(l:List Int):Option (List MV):=some ((t4 l).map .int)
noncomputable def dM(sh:Sto):Ms×List MV:=(⟨Gl (some (gE sh 3)),gE sh 7,bV (gE sh 9),bV (gE sh 10),bV (gE sh 11),bV (gE sh 12),gE sh 23,sh.states.getD [],sh.indents.getD [],(sh.rows.getD [],⟨iV (gE sh 13),iV (gE sh 14),bV (gE sh 15),bV (gE sh 16),bV (gE sh 17)⟩)⟩,sh.events.getD [])
noncomputable def GI(K:Ko)(T:Option (List MV))(e:MV)(sh:Sto):Sto:=eM K T (cr K ((dM sh).2++[e]) (dM sh).1).1 .none (cr K ((dM sh).2++[e]) (dM sh).1).2
noncomputable def oL(l:List Int)(E:List MV)(U:Sto)(BL LL:List MV)(XT:Tx):OpL:=⟨λsh=>(aw (xd sh)).1,λsh=>ch (aw (xd sh)).2,λsh=>aU 3 (aq (af (ir l)) 3 (xd sh)).1,λsh=>ch (aq (af (ir l)) 3 (xd sh)).2,GI (KI l) (TI l),E,λ_=>U,BL,LL,XT⟩
theorem qU(m:Int):∀l:List Int,bp m (l.map .int)=some ((l.map λi=>Int.fmod i m).map .int)
 |[]=>rfl
 |i::l=>by
  show ((some i).bind λi=>(bp m (l.map .int)).map (MV.int (Int.fmod i m):: ·))=_
  rw[qU m l];rfl
theorem Di{k:Nat}(h:k∈List.range 12):mK k∈mL:=by
 have hk:((List.range 12).all λk=>mL.contains (mK k))=true:=by kernel_rfl
 exact List.contains_iff_mem.mp (qdz.mp hk k h)
theorem xC{j:Nat}(h:j∈List.range 5):eZ j≠[]∧(eZ j).length≤10:=by
 have hk:((List.range 5).all λj=>!(eZ j).isEmpty&&aS (eZ j).length 10)=true:=by kernel_rfl
 have:=qdz.mp hk j h;refine⟨λe=>?_,kM (aa this)⟩;rw[e] at this;exact aB this
section
variable (l:List Int)
theorem xD:kI l∈List.range 12:=qzz.mpr (by have:=cg (a:=(aw (t1 l)).1) (b:=12) (by decide);unfold kI;omega)
theorem pB:jI l∈List.range 5:=qzz.mpr (by have:=cg (a:=Int.fdiv (fI l) 8) (b:=5) (by decide);unfold jI;omega)
theorem AR:KOk (KI l):=⟨Di (xD l),(xC (pB l)).1⟩
theorem FM:(KI l).e.length≤10:=(xC (pB l)).2
theorem Dj:Qn (ir l) 3 (FJ l):=pi 3 (t3 l)
theorem Dk:eX 3 (FJ l)=true:=tV 3 (t3 l)
end
theorem Dl:∀w∈wdL,∀au,pa au w=true:=by
 have hk:∀au,(wdL.all λw=>pa au w)=true:=λau=>by cases au<;>kernel_rfl
 exact λw m au=>qdz.mp (hk au) w m
theorem xE(l:List Int):av (ir l) 3 (ca l)=true∧eX 3 (ca l)=true∧ip (ca l)=false:=by
 have h1:=(Dj l).ok;have h2:=Dk l;unfold ca;generalize FJ l=n at h1 h2;cases n with
 |text t=>exact⟨h1,rfl,rfl⟩
 |word w=>exact⟨Dl w (gg h1) _,rfl,rfl⟩
 |row l=>exact⟨h1,h2,rfl⟩
 |map l=>exact⟨h1,h2,rfl⟩
def u6 (o:OpL) (q8:Ds) (i:Nat) (st:St) (v:MV) (sh:Sto):Prop:=Gs (ae L1.T (cL o q8) (ag bW i) st ai []) v sh
theorem FN:ag bW 1=aO 8 (ag bW 1) (ag bW 9):=by kernel_rfl
theorem FO:ag bW 9=aO 1 (ag bW 9) (ag bW 10):=by kernel_rfl
theorem Dm:ag bW 10=aO 3 (ag bW 10) (ag bW 13):=by kernel_rfl
theorem FP{x:Ds→R}{ds:Ds}{n:Nat}{g:Bool}{r:R}{v:MV}{sh:Sto}(hm:Mn x)(e:ax n (x ds)=(g,r))(hg:g=true)(h:Gs r v sh):Gs (x []) v sh:=⟨aT hm e hg h.go⟩
theorem JT:aD (aO 8 (ag bW 1) (ag bW 9))=true:=by kernel_rfl
theorem tW{r r':R}{v:MV}{sh:Sto}(e:r=r')(h:Gs r' v sh):Gs r v sh:=e▸h
theorem i8{o:OpL}{q8:Ds}{i:Nat}{b:MSs}{st:St}{v:MV}{sh:Sto}(e:ag bW i=b)(h:Gs (ae L1.T (cL o q8) b st ai []) v sh):u6 o q8 i st v sh:=by
 unfold u6;rw[e];exact h
section
variable {l:List Int}{E BL LL:List MV}{U:Sto}{XT:Tx}
theorem oX(s:List Int):(oL l E U BL LL XT).X (ch s)=(aw s).1:=bJ (λs=>(aw s).1) (gi s)
theorem oW(s:List Int):(oL l E U BL LL XT).W (ch s)=ch (aw s).2:=bJ (λs=>ch (aw s).2) (gi s)
theorem oV(s:List Int):(oL l E U BL LL XT).V (ch s)=aU 3 (aq (af (ir l)) 3 s).1:=bJ (λs=>aU 3 (aq (af (ir l)) 3 s).1) (gi s)
theorem oY(s:List Int):(oL l E U BL LL XT).Y (ch s)=ch (aq (af (ir l)) 3 s).2:=bJ (λs=>ch (aq (af (ir l)) 3 s).2) (gi s)
theorem sn(s:List Int):Gv (oL l E U BL LL XT) (ch s)=true:=by
 refine aP ?_;rw[oX,oW];exact(Ks s).mono (by decide)
theorem FQ:fl (oL l E U BL LL XT) (ch (t0 l))=fI l:=oX _
theorem FR:iD (oL l E U BL LL XT) (ch (t0 l))=Int.ofNat (kI l)-1:=by
 unfold iD;rw[oW,oX];have:=cg (a:=(aw (t1 l)).1) (b:=12) (by decide)
 have e:Int.ofNat (kI l)=Int.fmod (aw (t1 l)).1 12:=Int.toNat_of_nonneg this.1;rw[e];rfl
theorem FS:wD (oL l E U BL LL XT) (ch (t0 l))=wI l:=by
 unfold wD;rw[oW,oW,oX];rfl
theorem FT:s3 (oL l E U BL LL XT) (ch (t0 l))=ch (t3 l):=by
 unfold s3;rw[oW,oW,oW];rfl
end
section
variable {o:OpL}{q8:Ds}{sh sh':Sto}{v0 c2 c3 c4 c5 c6 c7 c8:Cell}{v:MV}
theorem FU{n:Nd}(H:u6 o q8 10 (aZ sh v0 vt c2 c3 c4 c5 c6 c7 c8 (.val (aU 3 (FK n))) .unset .unset .unset .unset .unset .unset) v sh'):u6 o q8 9 (aZ sh v0 vt c2 c3 c4 c5 c6 c7 c8 (.val (aU 3 n)) .unset .unset .unset .unset .unset .unset) v sh':=by
 obtain⟨g1,g2,g3,g4,g5,g6⟩:=C6;refine i8 FO ?_;cases n with
 |text t=>
  have e:=ac (zT o q8 sh v0 c2 c3 c4 c5 c6 c7 c8 (.str t)) (.head _);rw[show eqX bA br=false from decide_eq_false g1] at e;exact bC e rfl H
 |word w=>
  have e:=ac (zT o q8 sh v0 c2 c3 c4 c5 c6 c7 c8 (.str w)) (.tail _ (.head _));rw[show eqX br br=true from pG rfl] at e;exact bC e rfl H
 |row l=>
  have e:=ac (zT o q8 sh v0 c2 c3 c4 c5 c6 c7 c8 (.lst (l.map (aU 2)))) (.tail _ (.tail _ (.head _)));rw[show eqX b8 br=false from decide_eq_false g4.symm] at e;exact bC e rfl H
 |map l=>
  have e:=ac (zT o q8 sh v0 c2 c3 c4 c5 c6 c7 c8 (.lst (l.map (iY 2)))) (.tail _ (.tail _ (.tail _ (.head _))));rw[show eqX bI br=false from decide_eq_false g5.symm] at e;exact bC e rfl H
end
theorem FV{k:Nat}{w:Int}:gK k w (!aI w 0) (bX (Int.ofNat (mK k)*2) w)=true:=by
 unfold gK;cases aI w 0<;>cases bX (Int.ofNat (mK k)*2) w<;>rfl
noncomputable def ja(l:List Int):Ds:=O8 (kI l) (JR l) (JS l)
noncomputable def vL(l:List Int):Cell:=.val (.lst (l.map .int))
noncomputable def zU(l:List Int)(sh:Sto)(c13 c14 c15:Cell):St:=aZ sh (vL l) vt (ci (fI l)) (ci (Int.ofNat (kI l)-1)) (ci (wI l)) (cN (fb l)) (cN (iq l)) (cN (ir l)) (.val (q6 (jI l))) (.val (aU 3 (ca l))) (ci (Int.ofNat (mK (kI l)))) (.val (.str (eZ (jI l)))) vE c13 c14 c15
theorem FW{l:List Int}{E BL LL:List MV}{U:Sto}{XT:Tx}{v:MV}{sh':Sto}(hl:l.length<64)(H:u6 (oL l E U BL LL XT) (ja l) 13 (zU l (eM (KI l) (TI l) a0 .none []) .unset .unset .unset) v sh'):Gs (aR L1.T (cL (oL l E U BL LL XT) (ja l)) 59 [.lst (l.map .int)] xA []) v sh':=by
 have e0:((l.map MV.int).take (PySem.clipAt (l.map MV.int).length 18)).drop 0=(l.take (PySem.clipAt l.length 18)).map .int:=by rw[fP,List.drop_zero,List.map_take]
 have ea:=Ju (oL l E U BL LL XT) (ja l) (l.map .int);rw[e0,qU,ij] at ea;refine bC ea (an (bt (ao ?_)) rfl) ?_
 ·rw[fP,List.length_take];unfold ak;omega
 show u6 (oL l E U BL LL XT) (ja l) 1 (aZ (ch (t0 l)) (vL l) vt .unset .unset .unset .unset .unset .unset .unset .unset .unset .unset .unset .unset .unset .unset) v sh';refine i8 FN ?_;have eb:=ac (ac (Jv (oL l E U BL LL XT) (ja l) (ch (t0 l)) (vL l)) (pB l)) (ah (ir l));rw[FQ,FR,FS,FT,oV,oY,oW,oW] at eb;refine FP (cH _ JT _ _ di) eb ?_ ?_
 ·have hj:=cg (a:=Int.fdiv (fI l) 8) (b:=5) (by decide)
  refine an (bt (sn _)) (an (bt (sn _)) (an (bt (sn _)) (an (bt (pG ?_)) (an (fE rfl) (an (bt (aP ?_)) rfl)))))
  ·show _=(((Int.fmod (Int.fdiv (fI l) 8) 5).toNat:Nat):Int)
   omega
  ·exact(Ku (au:=ir l) 3 (cz 3) (t3 l)).mono (by decide)
 refine FU (n:=FJ l) (i8 Dm ?_);have ed:=ac (ac (ac (ac (Jw (oL l E U BL LL XT) ((t4 l).map .int) (wI l) (ir l) (vL l) (ci (fI l)) (cN (fb l)) (cN (iq l)) (aU 3 (ca l))) (xD l)) (pB l)) (ah (JR l))) (ah (JS l));exact bC ed (an (bt (ew _)) (an (bt (an FV (ew _))) rfl)) H
theorem Do:ag bW 13=aO 1 (ag bW 13) (ag bW 14):=by kernel_rfl
theorem Dp:ag bW 14=aO 1 (ag bW 14) (ag bW 15):=by kernel_rfl
theorem Dq:ag bW 16=aO 1 (ag bW 16) (ag bW 17):=by kernel_rfl
theorem Dr:ag bW 17=aO 1 (ag bW 17) (ag bW 18):=by kernel_rfl
theorem AS(n:Nd):k8 (k9 n):=by
 obtain⟨c,fs,e,hc⟩:=pe n;refine⟨c,fs,e,?_⟩;have:∀c∈nod,c∈clsL':=by unfold nod clsL';decide
 exact this c hc
theorem pC:∀(d:Nat) (n:Nd),∀e∈bm d n,k8 e
 |0,n,e,m=>by
  rw[qfz.mp (show e∈[k9 n] from m)];exact AS n
 |d+1,n,e,m=>by
  rcases qkz.mp (show e∈k9 n::zp (bm d) n from m) with rfl | m
  ·exact AS n
  ·cases n with
   |text t=>exact absurd m (nX)
   |word t=>exact absurd m (nX)
   |row l=>
    rcases List.mem_append.mp (show e∈l.flatMap (bm d)++[jD] from m) with m | m
    ·obtain⟨x,_,hx⟩:=List.mem_flatMap.mp m
     exact pC d x e hx
    ·rw[qfz.mp m];exact⟨12,_,rfl,by unfold clsL';decide⟩
   |map l=>
    rcases List.mem_append.mp (show e∈(l.flatMap λp=>bm d p.1++bm d p.2)++[jE] from m) with m | m
    ·obtain⟨x,_,hx⟩:=List.mem_flatMap.mp m
     rcases List.mem_append.mp hx with hx | hx
     ·exact pC d x.1 e hx
     ·exact pC d x.2 e hx
    ·rw[qfz.mp m];exact⟨14,_,rfl,by unfold clsL';decide⟩
structure Inv(K:Ko)(T:Option (List MV))(p:Ms×List MV)(R:List MV)(c:Ms):Prop where
 pt:Path K T p.1 (p.2++R) c
 e:∀x∈p.2++R,k8 x
 l:p.2.length+R.length≤900
noncomputable def AT(K:Ko)(p:Ms×List MV)(e:MV):Ms×List MV:=cr K (p.2++[e]) p.1
noncomputable def eP(K:Ko)(T:Option (List MV))(p:Ms×List MV):Sto:=eM K T p.1 .none p.2
section
variable {l:List Int}{E BL LL:List MV}{U:Sto}{XT:Tx}{c:Ms}
theorem mW{p:Ms×List MV}{e:MV}{R:List MV}(I:Inv (KI l) (TI l) p (e::R) c):j9 (oL l E U BL LL XT) e (eP (KI l) (TI l) p)=true∧Inv (KI l) (TI l) (AT (KI l) p e) R c:=by
 obtain⟨i1,i2,i3⟩:=I;have i3:p.2.length+(R.length+1)≤900:=i3;obtain⟨j,h1,h2,x,h3⟩:=E8 (K:=KI l) (T:=TI l) (by omega) i2 i1
 refine⟨aP (j.mono (by decide)),h1,λy m=>?_,?_⟩
 ·rcases List.mem_append.mp m with m | m
  ·refine i2 y ?_
   rw[show p.2++e::R=(p.2++[e])++R by rw[cu];rfl,h3]
   exact List.mem_append_left _ (xK _ m)
  ·exact i2 y (xK _ (.tail _ m))
 ·have:=bJ List.length h3
  rw[a7,a7] at this;have e1:[e].length=1:=rfl;show (cr (KI l) (p.2++[e]) p.1).2.length+R.length≤900;omega
theorem xG{v:MV}{sh':Sto}{R:List MV}:∀(es:List MV) (p:Ms×List MV) (c13:Cell),Inv (KI l) (TI l) p (es++R) c →
  (∀p c13,Inv (KI l) (TI l) p R c→u6 (oL l E U BL LL XT) (ja l) 16 (zU l (eP (KI l) (TI l) p) c13 .unset .unset) v sh')→Gs (fG (cL (oL l E U BL LL XT) (ja l)) Dh ai 13 es (zU l (eP (KI l) (TI l) p) c13 .unset .unset) []) v sh'
 |[],p,c13,I,H=>tW (Mr (oL l E U BL LL XT) (ja l) (vL l) vt (ci (fI l)) (ci (Int.ofNat (kI l)-1)) (ci (wI l)) (cN (fb l)) (cN (iq l)) (cN (ir l)) (.val (q6 (jI l))) (.val (aU 3 (ca l))) (ci (Int.ofNat (mK (kI l)))) (.val (.str (eZ (jI l)))) c13 .unset .unset (eP (KI l) (TI l) p)) (H p c13 I)
 |e::es,p,c13,I,H=>by
  obtain⟨j,I'⟩:=mW (E:=E) (BL:=BL) (LL:=LL) (U:=U) (XT:=XT) I;have a:=Mq (oL l E U BL LL XT) (ja l) (KI l) (TI l) p.1 p.2 (vL l) vt (ci (fI l)) (ci (Int.ofNat (kI l)-1)) (ci (wI l)) (cN (fb l)) (cN (iq l)) (cN (ir l)) (.val (q6 (jI l))) (.val (aU 3 (ca l))) (ci (Int.ofNat (mK (kI l)))) (.val (.str (eZ (jI l)))) c13 .unset .unset e es;refine bC a (an (bt j) rfl) ?_;rw[hJ];exact xG es (AT (KI l) p e) (.val e) I' H
theorem FX{v:MV}{sh':Sto}(hP:Path (KI l) (TI l) a0 (CO (fb l) (iq l) (ca l)) c)(H:∀c13,u6 (oL l (bm 3 (ca l)) U BL LL XT) (ja l) 18 (zU l (eM (KI l) (TI l) c .none []) c13 .unset .unset) v sh') :
  u6 (oL l (bm 3 (ca l)) U BL LL XT) (ja l) 13 (zU l (eM (KI l) (TI l) a0 .none []) .unset .unset .unset) v sh':=by
 obtain⟨r1,r2,r3⟩:=xE l;have hlen:=iE (jK 3 (ca l) r2) (xk (cz 3))
 have I0:Inv (KI l) (TI l) (a0,[]) (CO (fb l) (iq l) (ca l)) c:=⟨hP,λx m=>by
  rcases qkz.mp (show x∈gm::km (fb l)::(bm 3 (ca l)++[gY (iq l),ee]) from m) with rfl | m
  ·exact⟨5,_,rfl,by unfold clsL';decide⟩
  rcases qkz.mp m with rfl | m
  ·exact⟨7,_,rfl,by unfold clsL';decide⟩
  rcases List.mem_append.mp m with m | m
  ·exact pC 3 _ x m
  rcases qkz.mp m with rfl | m
  ·exact⟨8,_,rfl,by unfold clsL';decide⟩
  ·rw[qfz.mp m];exact⟨6,_,rfl,by unfold clsL';decide⟩,by
  show 0+((bm 3 (ca l)++[gY (iq l),ee]).length+1+1)≤900;rw[a7];show 0+((bm 3 (ca l)).length+2+1+1)≤900;omega⟩
 obtain⟨j1,I1⟩:=mW (E:=bm 3 (ca l)) (BL:=BL) (LL:=LL) (U:=U) (XT:=XT) I0;refine i8 Do ?_;refine bC (Jx (oL l (bm 3 (ca l)) U BL LL XT) (ja l) (KI l) (TI l) a0 [] (ag bW 14) (vL l) vt (ci (fI l)) (ci (Int.ofNat (kI l)-1)) (ci (wI l)) (cN (fb l)) (cN (iq l)) (cN (ir l)) (.val (q6 (jI l))) (.val (aU 3 (ca l))) (ci (Int.ofNat (mK (kI l)))) (.val (.str (eZ (jI l)))) .unset .unset .unset) (an (bt (cM _)) (an (bt j1) rfl)) ?_;obtain⟨j2,I2⟩:=mW (E:=bm 3 (ca l)) (BL:=BL) (LL:=LL) (U:=U) (XT:=XT) I1;show u6 (oL l (bm 3 (ca l)) U BL LL XT) (ja l) 14 (zU l (eP (KI l) (TI l) (AT (KI l) (a0,[]) gm)) .unset .unset .unset) v sh';generalize AT (KI l) (a0,[]) gm=p1 at I2 j2;refine i8 Dp ?_;refine bC (Jy (oL l (bm 3 (ca l)) U BL LL XT) (ja l) (KI l) (TI l) p1.1 p1.2 (ag bW 15) (vL l) vt (ci (fI l)) (ci (Int.ofNat (kI l)-1)) (ci (wI l)) (cN (iq l)) (cN (ir l)) (.val (q6 (jI l))) (.val (aU 3 (ca l))) (ci (Int.ofNat (mK (kI l)))) (.val (.str (eZ (jI l)))) .unset .unset .unset (fb l)) (an (bt (cM _)) (an (bt j2) rfl)) ?_;show Gs (ae L1.T (cL (oL l (bm 3 (ca l)) U BL LL XT) (ja l)) Dh (zU l (eP (KI l) (TI l) (AT (KI l) p1 (km (fb l)))) .unset .unset .unset) ai []) v sh';generalize AT (KI l) p1 (km (fb l))=p2 at I2;have j55:=Ky (au:=ir l) (e:=(eP (KI l) (TI l) p2).em.getD []) (ss:=(eP (KI l) (TI l) p2).states) (es:=(eP (KI l) (TI l) p2).events) (is:=(eP (KI l) (TI l) p2).indents) (rs:=(eP (KI l) (TI l) p2).rows) (tp:=TI l) (du:=none) 3 (cz 3) (ca l) r1 r2;refine bC (Jz (oL l (bm 3 (ca l)) U BL LL XT) (ja l) (vL l) vt (ci (fI l)) (ci (Int.ofNat (kI l)-1)) (ci (wI l)) (cN (fb l)) (cN (iq l)) (cN (ir l)) (.val (q6 (jI l))) (ci (Int.ofNat (mK (kI l)))) (.val (.str (eZ (jI l)))) .unset .unset .unset (aU 3 (ca l)) (eP (KI l) (TI l) p2)) (an (bt (aP (j55.mono (by decide)))) rfl) ?_
 refine xG (bm 3 (ca l)) p2 .unset I2 λp3 c13 I3=>?_;obtain⟨j4,I4⟩:=mW (E:=bm 3 (ca l)) (BL:=BL) (LL:=LL) (U:=U) (XT:=XT) I3;refine i8 Dq ?_;refine bC (JA (oL l (bm 3 (ca l)) U BL LL XT) (ja l) (KI l) (TI l) p3.1 p3.2 (ag bW 17) (vL l) vt (ci (fI l)) (ci (Int.ofNat (kI l)-1)) (ci (wI l)) (cN (fb l)) (cN (ir l)) (.val (q6 (jI l))) (.val (aU 3 (ca l))) (ci (Int.ofNat (mK (kI l)))) (.val (.str (eZ (jI l)))) c13 .unset .unset (iq l)) (an (bt (cM _)) (an (bt j4) rfl)) ?_;show u6 (oL l (bm 3 (ca l)) U BL LL XT) (ja l) 17 (zU l (eP (KI l) (TI l) (AT (KI l) p3 (gY (iq l)))) c13 .unset .unset) v sh';generalize AT (KI l) p3 (gY (iq l))=p4 at I4;obtain⟨j5,I5⟩:=mW (E:=bm 3 (ca l)) (BL:=BL) (LL:=LL) (U:=U) (XT:=XT) I4;have hend:=wR (K:=KI l) (T:=TI l) (e:=ee) (by have:=I4.l;omega) I4.e rfl I4.pt
 refine i8 Dr ?_;refine bC (JB (oL l (bm 3 (ca l)) U BL LL XT) (ja l) (KI l) (TI l) p4.1 p4.2 (ag bW 18) (vL l) vt (ci (fI l)) (ci (Int.ofNat (kI l)-1)) (ci (wI l)) (cN (fb l)) (cN (iq l)) (cN (ir l)) (.val (q6 (jI l))) (.val (aU 3 (ca l))) (ci (Int.ofNat (mK (kI l)))) (.val (.str (eZ (jI l)))) c13 .unset .unset) (an (bt (cM _)) (an (bt j5) rfl)) ?_;show u6 (oL l (bm 3 (ca l)) U BL LL XT) (ja l) 18 (zU l (eM (KI l) (TI l) (cr (KI l) (p4.2++[ee]) p4.1).1 .none (cr (KI l) (p4.2++[ee]) p4.1).2) c13 .unset .unset) v sh';rw[hend];exact H c13
end
theorem zV{au:Bool}{t:Tx}{x:Nat}(hv:eV au (t++[x])=true):iZ (t++[x])=bif B3.contains x then (bif (bu [] t).isEmpty then [43] else []) else [45]:=by
 have hx:x≠133:=nN hv x (by simp)
 have hlst:lst (t++[x])=x:=by unfold lst;rw[dC];rfl
 have hsc:qz (t++[x])=t.getLast?.getD 0:=by unfold qz;rw[iS]
 unfold iZ;rw[hlst,qS hx];cases hb:B3.contains x with
 |false=>rfl
 |true=>
  have hd:(aI (Int.ofNat (t++[x]).length) 1||BR.contains (qz (t++[x])))=(bu [] t).isEmpty:=by
   rw[hsc];rcases List.eq_nil_or_concat t with z | ⟨l,y,z⟩
   ·subst z;rfl
   ·rw[List.concat_eq_append] at z
    subst z;have hy:y≠133:=nN hv y (by simp)
    rw[dC];show (aI (Int.ofNat (l++[y]++[x]).length) 1||BR.contains y)=_
    rw[show aI (Int.ofNat (l++[y]++[x]).length) 1=false from decide_eq_false (by
     have:(Int.ofNat (l++[y]++[x]).length:Int)=(((l++[y]++[x]).length:Nat):Int):=rfl;rw[a7,a7] at this;have e:[x].length=1:=rfl;have e':[y].length=1:=rfl;rw[a7,a7];omega),qS hy,Bool.false_or]
    have:=tQ l y;cases e:bu [] (l++[y]) with
    |nil=>exact this.mp e
    |cons p q=>
     cases e2:B3.contains y with
     |false=>rfl
     |true=>exact absurd (this.mpr e2) (by rw[e];exact nl _ _)
  rw[hd];rfl
theorem Dt:(mL.all λm=>(mE [48+m]==false)&&((mE ([48+m]++[43])==true)&&((mE ([48+m]++[45])==false)&&((mE []==false)&&((mE [43]==true)&&(mE [45]==false))))))=true:=by kernel_rfl
theorem zW{au:Bool}{m:Nat}{t:Tx}{x:Nat}(hm:m∈mL)(hv:eV au (t++[x])=true):mE (iC m (t++[x]))=(fu (bu [] t) x).1.isEmpty:=by
 have h:=qdz.mp Dt m hm;have h1:=eq_of_beq (ab h);have h2:=eq_of_beq (ab (aa h));have h3:=eq_of_beq (ab (aa (aa h)));have h4:=eq_of_beq (ab (aa (aa (aa h))));have h5:=eq_of_beq (ab (aa (aa (aa (aa h)))));have h6:=eq_of_beq (aa (aa (aa (aa (aa h)))));rw[se,zV hv];unfold fu lh;cases B3.contains x with
 |false=>
  have:(bu [] t++[x]).isEmpty=false:=by cases bu [] t<;>rfl
  show mE ((bif SBx.contains ((t++[x]).headD 0) then [48+m] else [])++[45])=(bu [] t++[x]).isEmpty;rw[this];cases SBx.contains ((t++[x]).headD 0) with
  |true=>exact h3
  |false=>exact h6
 |true=>
  show mE ((bif SBx.contains ((t++[x]).headD 0) then [48+m] else [])++bif (bu [] t).isEmpty then [43] else [])=(bu [] t).isEmpty;cases (bu [] t).isEmpty with
  |true=>
   cases SBx.contains ((t++[x]).headD 0) with
   |true=>exact h2
   |false=>exact h5
  |false=>
   cases SBx.contains ((t++[x]).headD 0) with
   |true=>exact h1
   |false=>exact h4
noncomputable def JU(I:Nd→Nd)(n:Nd):Nd:=dW n .text .word (λl=>(l.getLast?.map I).getD n) (λl=>(l.getLast?.map λp=>I p.2).getD n)
noncomputable def iu:Nat→Nd→Nd
 |0,n=>n
 |d+1,n=>JU (iu d) n
theorem xH{au:Bool}{m:Nat}:∀(d:Nat) (n:Nd),av au d n=true→av au 0 (iu d n)=true∧oeN m 0 (iu d n)=oeN m d n
 |0,n,h=>⟨h,rfl⟩
 |d+1,.text t,h=>⟨h,rfl⟩
 |d+1,.word w,h=>⟨h,rfl⟩
 |d+1,.row l,h=>by
  have h:(!l.isEmpty&&l.all (av au d))=true:=h;rcases List.eq_nil_or_concat l with z | ⟨p,y,z⟩
  ·rw[z] at h;exact aB h
  ·rw[List.concat_eq_append] at z
   subst z;have hy:=qdz.mp (aa h) y (by simp)
   obtain⟨h1,h2⟩:=xH (m:=m) d y hy;show av au 0 (((p++[y]).getLast?.map (iu d)).getD _)=true∧oeN m 0 (((p++[y]).getLast?.map (iu d)).getD _)=((p++[y]).getLast?.map (oeN m d)).getD false;rw[dC];exact⟨h1,h2⟩
 |d+1,.map l,h=>by
  have h:(!l.isEmpty&&l.all λp=>av au d p.1&&(ef p.1&&av au d p.2))=true:=h;rcases List.eq_nil_or_concat l with z | ⟨p,y,z⟩
  ·rw[z] at h;exact aB h
  ·rw[List.concat_eq_append] at z
   subst z;have hy:=qdz.mp (aa h) y (by simp)
   obtain⟨h1,h2⟩:=xH (m:=m) d y.2 (aa (aa hy));show av au 0 (((p++[y]).getLast?.map λp=>iu d p.2).getD _)=true∧oeN m 0 (((p++[y]).getLast?.map λp=>iu d p.2).getD _)=((p++[y]).getLast?.map λp=>oeN m d p.2).getD false;rw[dC];exact⟨h1,h2⟩
section
variable {o:OpL}{q8:Ds}{sh:Sto}{v0 c1 c2 c3 c4 c5 c6 c7 c8 c9 c10 c11 c13 c14:Cell}{KK:Option MV→St→Ds→R}{au:Bool}{v:MV}{sh':Sto}
theorem sq:∀(d:Nat) (n:Nd) (k:Nat),av au d n=true→d+1≤k→Gs (KK none (aZ sh v0 c1 c2 c3 c4 c5 c6 c7 c8 c9 c10 c11 vE c13 c14 (.val (aU 0 (iu d n)))) []) v sh' →
  Gs (WL (cL o q8) uR KK k (aZ sh v0 c1 c2 c3 c4 c5 c6 c7 c8 c9 c10 c11 vE c13 c14 (.val (aU d n))) []) v sh'
 |d,.text t,k,ho,hk,H=>by
  obtain⟨k,rfl⟩:∃j,k=j+1:=⟨k-1,by omega⟩
  have e:iu d (.text t)= .text t:=by cases d<;>rfl
  rw[e,ft] at H;rw[ft];exact bC (ac (KF o q8 v0 c1 c2 c3 c4 c5 c6 c7 c8 c9 c10 c11 c13 c14 (.str t) sh KK k) (.head _)) rfl H
 |d,.word w,k,ho,hk,H=>by
  obtain⟨k,rfl⟩:∃j,k=j+1:=⟨k-1,by omega⟩
  have e:iu d (.word w)= .word w:=by cases d<;>rfl
  rw[e,ez] at H;rw[ez];exact bC (ac (KF o q8 v0 c1 c2 c3 c4 c5 c6 c7 c8 c9 c10 c11 c13 c14 (.str w) sh KK k) (.tail _ (.head _))) rfl H
 |0,.row l,k,ho,hk,H=>aB ho
 |0,.map l,k,ho,hk,H=>aB ho
 |d+1,.row l,k,ho,hk,H=>by
  obtain⟨k,rfl⟩:∃j,k=j+1:=⟨k-1,by omega⟩
  have ho:(!l.isEmpty&&l.all (av au d))=true:=ho;rcases List.eq_nil_or_concat l with z | ⟨p,y,z⟩
  ·rw[z] at ho;exact aB ho
  ·rw[List.concat_eq_append] at z
   subst z;have hy:=qdz.mp (aa ho) y (by simp)
   have e:iu (d+1) (.row (p++[y]))=iu d y:=by
    show ((p++[y]).getLast?.map (iu d)).getD _=_;rw[dC];rfl
   rw[e] at H;have a:=JG o q8 v0 c1 c2 c3 c4 c5 c6 c7 c8 c9 c10 c11 c13 c14 sh KK k ((p++[y]).map (aU d));rw[show (p++[y]).map (aU d)=p.map (aU d)++[aU d y] by rw[nY];rfl,hO,ij] at a
   rw[C7,show (p++[y]).map (aU d)=p.map (aU d)++[aU d y] by rw[nY];rfl]
   exact bC a rfl (sq d y k hy (by omega) H)
 |d+1,.map l,k,ho,hk,H=>by
  obtain⟨k,rfl⟩:∃j,k=j+1:=⟨k-1,by omega⟩
  have ho:(!l.isEmpty&&l.all λp=>av au d p.1&&(ef p.1&&av au d p.2))=true:=ho;rcases List.eq_nil_or_concat l with z | ⟨p,y,z⟩
  ·rw[z] at ho;exact aB ho
  ·rw[List.concat_eq_append] at z
   subst z;have hy:=qdz.mp (aa ho) y (by simp)
   have e:iu (d+1) (.map (p++[y]))=iu d y.2:=by
    show ((p++[y]).getLast?.map λp=>iu d p.2).getD _=_;rw[dC];rfl
   rw[e] at H;have a:=JI o q8 v0 c1 c2 c3 c4 c5 c6 c7 c8 c9 c10 c11 c13 c14 sh KK k ((p++[y]).map (iY d));rw[show (p++[y]).map (iY d)=p.map (iY d)++[iY d y] by rw[nY];rfl,hO,ij] at a
   rw[C8,show (p++[y]).map (iY d)=p.map (iY d)++[iY d y] by rw[nY];rfl]
   refine bC a rfl ?_;exact bC (JJ o q8 v0 c1 c2 c3 c4 c5 c6 c7 c8 c9 c10 c11 c13 c14 _ sh KK k (aU d y.1) (aU d y.2)) rfl (sq d y.2 k (aa (aa hy)) (by omega) H)
end
theorem Du:ag bW 18=aO 1 (ag bW 18) (ag bW 19):=by kernel_rfl
theorem Dv:ag bW 19=aO 1 (ag bW 19) (ag bW 20):=by kernel_rfl
theorem Dw:ag bW 20=uR:=by kernel_rfl
theorem Dx:ag bW 21=aO 1 (ag bW 21) (ag bW 22):=by kernel_rfl
theorem Mx(Ψ:Psi)(st:St):ba Ψ (aY uR) ai none st []=ae L1.T Ψ (ag bW 21) st ai []:=by kernel_rfl
noncomputable def hW(K:Ko)(o:Bool)(n:Nd):List Tx:=dW n (λt=>nV (AQ o) t (Int.ofNat K.m) K.m K.e) (λ_=>[]) (λ_=>(bif o then [[45,45,45]++K.e] else [])++aH K 3 n 0) (λ_=>(bif o then [[45,45,45]++K.e] else [])++aH K 3 n 0)
section
variable {K:Ko}(hK:KOk K)(he:K.e.length≤10)
include hK he
theorem Dy{au o:Bool}{n:Nd}(ho:av au 3 n=true)(hw:ip n=false):(hW K o n).flatten=nO K o n:=by
 have col:lb n=true→((bif o then [[45,45,45]++K.e] else [])++aH K 3 n 0).flatten=(bif o then [45,45,45]++K.e else [])++inl K 3 n 0:=λhc=>by
  have L:=(il hK 3 n hc ho 0 (li 0)).fl;rw[List.flatten_append,L];cases o with
  |true=>show ([[45,45,45]++K.e]:List Tx).flatten++(sp 0++inl K 3 n 0)=([45,45,45]++K.e)++inl K 3 n 0;rw[L7];simp
  |false=>rfl
 cases n with
 |text t=>
  show ((AQ o++iC K.m t++K.e)::(dX t).map (mU (Int.ofNat K.m) K.e)).flatten=Gm o++(eU (!o) true (CG K.m t)++(K.e++nj K.e (sp (Int.ofNat K.m)) t));show (AQ o++iC K.m t++K.e)++((dX t).map (mU (Int.ofNat K.m) K.e)).flatten=_;rw[show ((dX t).map (mU (Int.ofNat K.m) K.e)).flatten=nj K.e (sp (Int.ofNat K.m)) t from lI t []];cases o with
  |true=>
   show ([45,45,45,32,124]++iC K.m t++K.e)++_=[45,45,45]++((32::124::iC K.m t)++(K.e++_));simp [cu]
  |false=>
   show ([124]++iC K.m t++K.e)++_=[]++((124::iC K.m t)++(K.e++_));simp [cu]
 |word w=>exact aB hw.symm
 |row l=>exact col rfl
 |map l=>exact col rfl
theorem xI{au o:Bool}{n:Nd}(ho:av au 3 n=true)(hz:eX 3 n=true):Bnd 4001 1300 (hW K o n):=by
 obtain⟨m2,m9⟩:=uZ hK
 have b:Bnd 1 1300 (bif o then [[45,45,45]++K.e] else []:List Tx):=by
  cases o with
  |true=>exact⟨cz 1,λR m=>by rw[qfz.mp (show R∈[[45,45,45]++K.e] from m),a7];show 3+_≤_;omega⟩
  |false=>exact⟨iw 1,λR m=>(nX m).elim⟩
 have col:Bnd 4001 1300 ((bif o then [[45,45,45]++K.e] else [])++aH K 3 n 0):=(b.app ((hU hK he (au:=au) 3 n ho hz 0 (li 0) (by decide)).mono (xw (cz 3)) (by decide))).mono (by decide) (cz _)
 cases n with
 |text t=>
  have h:(AQ o).length≤5:=by cases o<;>decide
  exact(qT (h:=AQ o) (gf ho) (by omega) he).mono (by decide) (by omega)
 |word w=>exact⟨iw _,λR m=>(nX m).elim⟩
 |row l=>exact col
 |map l=>exact col
end
theorem AU{L B:Nat}:∀{rows:List Tx},Bnd L B rows→rows.flatten.length≤rows.length*B
 |[],_=>iw _
 |R::Rs,b=>by
  have h:=AU (L:=L) (B:=B) (rows:=Rs) ⟨by have:=b.n;exact iE (Nat.le_succ _) this,λS m=>b.b S (.tail _ m)⟩
  have:=b.b R (.head _);show (R++Rs.flatten).length≤(Rs.length+1)*B;rw[a7,Nat.add_mul,Nat.one_mul];omega
theorem tX:∀{vs:List MV},Rw vs→ ∃xs:List Tx,vs=xs.map .str∧xs.length≤(tx vs).length∧tx vs=xs.flatten
 |[],_=>⟨[],rfl,cz 0,rfl⟩
 |v::vs,h=>by
  obtain⟨x,rfl,hx⟩:=h v (.head _);obtain⟨xs,e1,e2,e3⟩:=tX (vs:=vs) λw m=>h w (.tail _ m);refine⟨x::xs,by rw[e1];rfl,?_,?_⟩
  ·show xs.length+1≤(x++tx vs).length
   rw[a7]
   have:1≤x.length:=by
    cases x with
    |nil=>exact absurd rfl hx
    |cons _ _=>exact Nat.succ_le_succ (iw _)
   omega
  ·show x++tx vs=x++xs.flatten
   rw[e3]
theorem AV{sh:Sto}{l:Loc}{xs:List Tx}(h:ap sh l=some (xs.map .str))(hs:xs.flatten.length≤ak):iG sh (.str []) 3 [.loc l]=true∧jn sh l=some (true,.str xs.flatten,sh):=by
 constructor
 ·show ((((ap sh l).bind λvs=>(cA vs).map λxs=>aS ((xs.map List.length).sum+xs.length*0) ak)).getD true)=true
  rw[h];show ((cA (xs.map .str)).map λxs=>aS ((xs.map List.length).sum+xs.length*0) ak).getD true=true;rw[gj];show aS ((xs.map List.length).sum+xs.length*0) ak=true;rw[List.length_flatten] at hs;exact ao (by omega)
 ·show rh ((ap sh l).bind λvs=>(cA vs).map λxs=>(MV.str (dh [] xs),sh))=_
  rw[h];show rh ((cA (xs.map .str)).map λxs=>(MV.str (dh [] xs),sh))=_;rw[gj,← jJ];rfl
theorem My{K:Ko}{T:Option (List MV)}{c:Ms}{dl:List MV}{xs:List Tx}(h:c.s.1=xs.map .str)(hs:xs.flatten.length≤ak):J 40 49 [.inst 18 [.loc .rows]] (eD K T c dl) (.str xs.flatten,eD K T c dl):=by
 obtain⟨h1,h2⟩:=AV (sh:=eD K T c dl) (l:=.rows) (xs:=xs) (bJ some h) hs
 have g:Gs (aR L1.T (PX 0 [] 0) 49 [.inst 18 [.loc .rows]] (eD K T c dl) []) (.str xs.flatten) (eD K T c dl):=by
  refine tW (Mw K T c dl) ⟨?_⟩;refine⟨h1,?_⟩;rw[h2];exact⟨rfl,rfl,rfl⟩
 exact(JX (n:=0) (k:=0) g.go).mono (iw _)
noncomputable def JV(l:List Int)(n:Nd)(sh:Sto)(c13 c14 c15:Cell):St:=aZ sh (vL l) vt (ci (fI l)) (ci (Int.ofNat (kI l)-1)) (ci (wI l)) (cN (fb l)) (cN (iq l)) (cN (ir l)) (.val (q6 (jI l))) (.val (aU 3 n)) (ci (Int.ofNat (mK (kI l)))) (.val (.str (eZ (jI l)))) vE c13 c14 c15
noncomputable def FY(n:Nd):List MV:=dW n (λt=>(dX t).map fh) (λ_=>[]) (λ_=>[]) (λ_=>[])
section
variable {l:List Int}{E:List MV}{XT:Tx}{c:Ms}{LL:List MV}{v:MV}{sh':Sto}{c13:Cell}
noncomputable def oF(l:List Int)(E:List MV)(c:Ms)(n:Nd)(LL:List MV)(XT:Tx):OpL:=oL l E (eD (KI l) (TI l) c ((hW (KI l) (fb l) n).map .str)) ((aH (KI l) 3 n 0).map .str) LL XT
theorem zX{n:Nd}(ho:av (ir l) 3 n=true)(hz:eX 3 n=true)(hw:ip n=false)(H:Gs (ae L1.T (cL (oF l E c n LL XT) (ja l)) (ag bW 19) (JV l n (eD (KI l) (TI l) c ((hW (KI l) (fb l) n).map .str)) c13 vD .unset) ai []) v sh') :
  Gs (ae L1.T (cL (oF l E c n LL XT) (ja l)) (ag bW 18) (JV l n (eM (KI l) (TI l) c .none []) c13 .unset .unset) ai []) v sh':=by
 have hK:=AR l;have he:=FM l;obtain⟨m2,m9⟩:=uZ hK;rw[Du]
 have col:∀g y,g∈[b8,bI]→aU 3 n= .tup [.str g,y]→lb n=true→hW (KI l) (fb l) n=(bif fb l then [[45,45,45]++(KI l).e] else [])++aH (KI l) 3 n 0→Gs (ae L1.T (cL (oF l E c n LL XT) (ja l)) (aO 1 (ag bW 18) (ag bW 19)) (JV l n (eM (KI l) (TI l) c .none []) c13 .unset .unset) ai []) v sh':=λg y hg hm hc hd=>by
  have j:=(tU hK he (E:=(eM (KI l) (TI l) c .none []).em.getD []) (ss:=(eM (KI l) (TI l) c .none []).states) (es:=(eM (KI l) (TI l) c .none []).events) (is:=(eM (KI l) (TI l) c .none []).indents) (rs:=(eM (KI l) (TI l) c .none []).rows) (tp:=TI l) (au:=ir l) 3 (cz 3)) n hc ho hz 0 (li 0) (by decide)
  have bn:=hU hK he (au:=ir l) 3 n ho hz 0 (li 0) (by decide)
  have hn4:=iE bn.n (xw (cz 3));have j:=aP (j.mono (by decide:4+4*3≤40))
  have e:=ac (ac (JD (oF l E c n LL XT) (ja l) (KI l) (TI l) c (ag bW 19) (vL l) vt (ci (fI l)) (ci (Int.ofNat (kI l)-1)) (ci (wI l)) (cN (iq l)) (cN (ir l)) (.val (q6 (jI l))) c13 .unset .unset y (eZ (jI l)) (Int.ofNat (mK (kI l)))) hg) (ah (fb l))
  have hD:(hW (KI l) (fb l) n).map MV.str=FI (fb l) (eZ (jI l))++(oF l E c n LL XT).BL:=by
   rw[hd];show ((bif fb l then [[45,45,45]++(KI l).e] else [])++aH (KI l) 3 n 0).map MV.str=FI (fb l) (eZ (jI l))++(aH (KI l) 3 n 0).map .str;rw[nY];cases fb l<;>rfl
  rw[← hm,← hD] at e
  have hlen:aS ((hW (KI l) (fb l) n).map MV.str).length ak=true:=by
   refine ao ?_;rw[fP];have:=(xI hK he (o:=fb l) ho hz).n;unfold ak;omega
  refine bC e ?_ H;have hel:=he;have hl3:aS (3+(eZ (jI l)).length) ak=true:=ao (by have:(eZ (jI l)).length≤10:=hel;unfold ak;omega)
  cases hop:fb l with
  |true=>rw[hop] at hlen;exact an (bt hl3) (an (bt j) (an (bt hlen) rfl))
  |false=>rw[hop] at hlen;exact an (bt j) (an (bt hlen) rfl)
 cases n with
 |text t=>
  have h:(AQ (fb l)).length≤5:=by cases fb l<;>decide
  have j:=KB (E:=(eM (KI l) (TI l) c .none []).em.getD []) (ss:=(eM (KI l) (TI l) c .none []).states) (es:=(eM (KI l) (TI l) c .none []).events) (is:=(eM (KI l) (TI l) c .none []).indents) (rs:=(eM (KI l) (TI l) c .none []).rows) (tp:=TI l) (h:=AQ (fb l)) (c:=Int.ofNat (KI l).m) (m:=(KI l).m) (e:=(KI l).e) true hK.m (gf ho) (by omega) (by omega) (by omega) he
  have e:=ac (JC (oF l E c (.text t) LL XT) (ja l) (ag bW 19) (vL l) vt (ci (fI l)) (ci (Int.ofNat (kI l)-1)) (ci (wI l)) (cN (iq l)) (cN (ir l)) (.val (q6 (jI l))) c13 .unset .unset (eM (KI l) (TI l) c .none []) t (eZ (jI l)) (Int.ofNat (mK (kI l)))) (ah (fb l));exact bC e (an (bt (aP (j.mono (by decide)))) rfl) H
 |word w=>exact aB hw.symm
 |row r=>exact col b8 _ (.head _) rfl rfl rfl
 |map r=>exact col bI _ (.tail _ (.head _)) rfl rfl rfl
theorem zY{o:OpL}{q8:Ds}{n:Nd}{dl:List MV}(ho:av (ir l) 0 n=true)(hLL:o.LL=FY n)(hdl:dl.length≤10000){v0 c1 c2 c3 c4 c5 c7 c8 c9 c10:Cell}{K:Ko}{T:Option (List MV)}(hm:K.m∈mL)(he:K.e.length≤10){cl:Bool}
  (H:Gs (ae L1.T (cL o q8) (ag bW 22) (aZ (eD K T c (dl++bif cl||oeN K.m 0 n then [Gw K.e] else [])) v0 c1 c2 c3 c4 c5 (cN cl) c7 c8 c9 c10 (.val (.str K.e)) vE c13 vD (.val (aU 0 n))) ai []) v sh') :
  Gs (ae L1.T (cL o q8) (ag bW 21) (aZ (eD K T c dl) v0 c1 c2 c3 c4 c5 (cN cl) c7 c8 c9 c10 (.val (.str K.e)) vE c13 vD (.val (aU 0 n))) ai []) v sh':=by
 have gd:gD dl K.e=true:=an (bt (ao (by unfold ak;omega))) (an (bt (ao (by unfold ak;omega))) rfl)
 rw[Dx];cases cl with
 |true=>exact bC (JL o q8 K T c dl (ag bW 22) v0 c1 c2 c3 c4 c5 c7 c8 c9 c10 c13 (aU 0 n) K.e) gd H
 |false=>
  cases n with
  |word w=>
   have H:Gs (ae L1.T (cL o q8) (ag bW 22) (aZ (eD K T c (dl++[])) v0 c1 c2 c3 c4 c5 (cN false) c7 c8 c9 c10 (.val (.str K.e)) vE c13 vD (.val (aU 0 (.word w)))) ai []) v sh':=H;rw[fw] at H;exact bC (JM o q8 K T c dl (ag bW 22) v0 c1 c2 c3 c4 c5 c7 c8 c9 c10 c13 (.str w) K.e) rfl H
  |text t=>
   have ht:TxOk (ir l) t:=gf ho;have hLL:o.LL=(dX t).map fh:=hLL;have j:J 2 53 [.str t] (eD K T c dl) (.lst ((dX t).map fh),eD K T c dl):=Iz (by have:=ht.le;omega)
   have a:=JO o q8 K T c dl (ag bW 22) v0 c1 c2 c3 c4 c5 c7 c8 c9 c10 c13 K.e t;rw[hLL] at a
   obtain⟨t',x,rfl⟩:∃t' x,t=t'++[x]:=by
    rcases List.eq_nil_or_concat t with z | ⟨p,x,z⟩
    ·exact absurd z ht.ne
    ·exact⟨p,x,by rw[z,List.concat_eq_append]⟩
   have e1:(dX (t'++[x])).map fh=(kr [] t').map fh++[fh (fu (bu [] t') x)]:=by rw[qR,nY];rfl
   rw[e1] at j a;rw[hO,ij] at a;refine bC a (an (bt (aP (j.mono (by decide)))) rfl) ?_
   have ho2:oeN K.m 0 (.text (t'++[x]))=(fu (bu [] t') x).1.isEmpty:=zW hm ht.ok;rw[ho2] at H;generalize fu (bu [] t') x=y at H;obtain⟨y1,y2⟩:=y;cases y1 with
   |nil=>exact bC (JP o q8 K T c dl (ag bW 22) v0 c1 c2 c3 c4 c5 c7 c8 c9 c10 c13 (.str y2) K.e (t'++[x])) gd H
   |cons z y1=>
    have H:Gs (ae L1.T (cL o q8) (ag bW 22) (aZ (eD K T c (dl++[])) v0 c1 c2 c3 c4 c5 (cN false) c7 c8 c9 c10 (.val (.str K.e)) vE c13 vD (.val (aU 0 (.text (t'++[x]))))) ai []) v sh':=H;rw[fw] at H;exact bC (JQ o q8 K T c dl (ag bW 22) v0 c1 c2 c3 c4 c5 c7 c8 c9 c10 c13 (.str y2) K.e (t'++[x]) z y1) rfl H
  |row r=>exact aB ho
  |map r=>exact aB ho
end
theorem Dz(a b:Tx):kt .eq (.str a) (.str b)=some (eqX a b):=by kernel_rfl
theorem DA{l:List Int}(hl:l.length<64):∃sh',J 42 59 [.lst (l.map .int)] xA (.bool true,sh')∧rl sh'≤ak:=by
 have hK:=AR l;have he:=FM l;obtain⟨r1,r2,r3⟩:=xE l;obtain⟨c,hP,hx,hr⟩:=wY (K:=KI l) (T:=TI l) hK (n:=ca l) r1 r3 (fb l) (iq l);obtain⟨lf1,lf2⟩:=xH (m:=(KI l).m) 3 (ca l) r1;obtain⟨xs,x1,x2,x3⟩:=tX hr;have bn:=xI hK he (o:=fb l) r1 r2;have fl:=Dy hK he (o:=fb l) r1 r3
 -- the due text,whole
 have hdue:((hW (KI l) (fb l) (ca l))++(bif iq l||oeN (KI l).m 0 (iu 3 (ca l)) then [[46,46,46]++(KI l).e] else [])).flatten=xs.flatten:=by
  rw[← x3,hx,List.flatten_append,fl,lf2];unfold zu CN;cases iq l||oeN (KI l).m 3 (ca l) with
  |true=>show _++(([46,46,46]++(KI l).e)++[])=_;rw[fw];rfl
  |false=>rfl
 have hlim:xs.flatten.length≤ak:=by
  rw[← hdue,List.flatten_append,a7];have h1:=AU bn;have h2:=Nat.mul_le_mul_right 1300 bn.n
  have h3:(bif iq l||oeN (KI l).m 0 (iu 3 (ca l)) then [[46,46,46]++(KI l).e] else []:List Tx).flatten.length≤20:=by
   cases iq l||oeN (KI l).m 0 (iu 3 (ca l)) with
   |true=>show (([46,46,46]++(KI l).e)++[]).length≤20;rw[fw,a7];show 3+_≤_;omega
   |false=>exact iw _
  unfold ak;omega
 rw[x3] at x2;refine⟨eD (KI l) (TI l) c (((hW (KI l) (fb l) (ca l))++(bif iq l||oeN (KI l).m 0 (iu 3 (ca l)) then [[46,46,46]++(KI l).e] else [])).map .str),?_,?_⟩
 ·have G:Gs (aR L1.T (cL (oF l (bm 3 (ca l)) c (ca l) (FY (iu 3 (ca l))) xs.flatten) (ja l)) 59 [.lst (l.map .int)] xA []) (.bool true) (eD (KI l) (TI l) c (((hW (KI l) (fb l) (ca l))++(bif iq l||oeN (KI l).m 0 (iu 3 (ca l)) then [[46,46,46]++(KI l).e] else [])).map .str)):=by
   refine FW hl (FX hP λc13=>zX (n:=ca l) r1 r2 r3 ?_);rw[Dv];refine bC (JF _ (ja l) (ag bW 20) (vL l) vt (ci (fI l)) (ci (Int.ofNat (kI l)-1)) (ci (wI l)) (cN (fb l)) (cN (iq l)) (cN (ir l)) (.val (q6 (jI l))) (ci (Int.ofNat (mK (kI l)))) (.val (.str (eZ (jI l)))) c13 vD .unset (aU 3 (ca l)) (eD (KI l) (TI l) c ((hW (KI l) (fb l) (ca l)).map .str))) rfl ?_;rw[Dw];refine tW (Mt _ (ja l) _) ?_;refine sq 3 (ca l) 100000 r1 (by decide) ?_
   refine tW (Mx _ _) ?_;refine zY (n:=iu 3 (ca l)) (dl:=(hW (KI l) (fb l) (ca l)).map .str) (K:=KI l) lf1 rfl (by rw[fP];have:=bn.n;omega) hK.m he ?_
   have hmap:(hW (KI l) (fb l) (ca l)).map MV.str++(bif iq l||oeN (KI l).m 0 (iu 3 (ca l)) then [Gw (KI l).e] else [])=((hW (KI l) (fb l) (ca l))++(bif iq l||oeN (KI l).m 0 (iu 3 (ca l)) then [[46,46,46]++(KI l).e] else [])).map MV.str:=by
    rw[nY];cases iq l||oeN (KI l).m 0 (iu 3 (ca l))<;>rfl
   rw[hmap];obtain⟨h1,h2⟩:=AV (sh:=eD (KI l) (TI l) c (((hW (KI l) (fb l) (ca l))++(bif iq l||oeN (KI l).m 0 (iu 3 (ca l)) then [[46,46,46]++(KI l).e] else [])).map .str)) (l:=.due) rfl (by rw[hdue];exact hlim)
   have j:=My (K:=KI l) (T:=TI l) (c:=c) (dl:=((hW (KI l) (fb l) (ca l))++(bif iq l||oeN (KI l).m 0 (iu 3 (ca l)) then [[46,46,46]++(KI l).e] else [])).map .str) x1 hlim;rw[hdue] at h2;generalize ((hW (KI l) (fb l) (ca l))++(bif iq l||oeN (KI l).m 0 (iu 3 (ca l)) then [[46,46,46]++(KI l).e] else [])).map MV.str=dl at h1 h2 j;refine bC (Mv (oF l (bm 3 (ca l)) c (ca l) (FY (iu 3 (ca l))) xs.flatten) (ja l) (KI l) (TI l) c dl (vL l) vt (ci (fI l)) (ci (Int.ofNat (kI l)-1)) (ci (wI l)) (cN (fb l)) (cN (ir l)) (.val (q6 (jI l))) (.val (aU 3 (ca l))) (ci (Int.ofNat (mK (kI l)))) c13 (aU 0 (iu 3 (ca l))) (eZ (jI l)) (iq l)) (an (bt (aP j)) rfl) ⟨?_⟩;refine⟨h1,?_⟩;rw[h2];refine⟨rfl,?_⟩;have hc:kt .eq (.str (oF l (bm 3 (ca l)) c (ca l) (FY (iu 3 (ca l))) xs.flatten).XT) (true,MV.str xs.flatten,eD (KI l) (TI l) c dl).2.1=some true:=(Dz _ _).trans (bJ some (pG rfl));rw[hc];exact⟨rfl,rfl⟩
  exact gb (n:=40) (is:=FH) (a:=KD (oF l (bm 3 (ca l)) c (ca l) (FY (iu 3 (ca l))) xs.flatten)) (O:=λf=>bif Nat.beq f 8 then ja l else []) (k:=1) (ds:=[]) (r:=(.bool true,_)) G.go
 ·show ((some c.s.1).map List.length).getD 0≤ak
  show c.s.1.length≤ak;rw[x1,fP];omega
open PySem PySem.W PyProof.Rows PySem.Calls PySem.Builtin
noncomputable def JW(h:Heap):Wd:=⟨λ_=>none,h.get?⟩
theorem xJ{N:Nm}{h:Heap}(e:N.h₀=h):Sh N (JW h) (λ_=>none) xA h:=
 ⟨λa o q=>e▸q,λ_ _ q=>q,λ_ _ q=>aG q,λ_ _ _=>rfl,λl=>by cases l<;>rfl,λ_ _ _ q=>aG q,λ_ _ q=>aG q,λ_ _ q=>aG q,λ_ _ q=>aG q⟩
theorem tY{N:Nm}{w:Wd}{cl:Str→Option Addr}{h:Heap}:∀{xs:List WData} {vs:List Value} {as:List Addr},WShape.hasItems [] xs .int=true→ReadsAllW [] cl h vs xs as→ ∃l:List Int,xs=l.map .int∧VRels N w (l.map .int) vs
 |[],vs,as,_,r=>by
  obtain⟨rfl,_⟩:=readsAllW_nil_inv r;exact⟨[],rfl,.nil⟩
 |x::xs,vs,as,hx,r=>by
  have hx:(WShape.has [] x .int&&WShape.hasItems [] xs .int)=true:=by rw[← hx];simp only [WShape.hasItems]
  obtain⟨i,rfl⟩:=hasW_int (ab hx);obtain⟨v,vs',as1,as2,rfl,_,r1,r2⟩:=readsAllW_cons_inv r;obtain⟨t,rfl,_⟩:=readsW_int_inv r1;obtain⟨l,e,hv⟩:=tY (aa hx) r2;exact⟨i::l,by rw[e];rfl,.cons (.int i t) hv⟩
theorem zZ{xs:List WData}(h:WTm.holds [] (.and (.not (.lt (.lit (.int 63)) (.len (.arg 0)))) (.lit (.bool true))) {args:=[.list xs]}=true):xs.length<64:=by
 refine Nat.lt_of_not_le λz=>?_;have hl:decide ((63:Int)<xs.length)=true:=pG (by omega)
 simp [WTm.holds,WTm.value,less?,Num.less?,hl] at h
theorem FZ{d:DefRec}{kwd:List (Str×Expr)}(hn:d.name= "law"):WalkO hq gy (XL hq []) hHook.says PySem.Challenge.rw_te0009_02.row.toRowW d kwd λf vs=>PySem.call f vs:=by
 intro w s₀ s₁ mg mb G Y a o pm cd doc dV kV ho hd hcd hdf hmg hgens args vals as hpre hlay hrd hwell hlow;refine enter_call ?_;have X:(hK w.params).In s₁.heap:=kIn_of Y;have T:=topRead_of G.T;have B:Base (f7 (hK w.params) s₁.heap PySem.Challenge.rw_te0009_02.row.toRowW.prog w mg mb hq (looseW hq gy)):=yU ⟨KX ..,KY ..,KZ ..,K0 ..,K1 ..,K2 ..,K3 ..,K4 ..,K5 ..⟩ X T;have ha:mg "law" = some (.ref 842):=mg_of X G.T.g (by kernel_rfl)
 rw[hn,ha] at hmg;obtain rfl:842=a:=Value.ref.inj (ay hmg);obtain⟨hs,hp⟩:=pre_splitW hpre;obtain⟨d1,r1,rfl,h1,h2⟩:=hasAllW_cons hs;obtain rfl:=hasAllW_nil h2;obtain⟨xs,rfl,hx⟩:=hasW_list h1;have hlen:=zZ hp;obtain⟨v,vs,as1,as2,rfl,_,q1,q2⟩:=readsAllW_cons_inv hrd;obtain⟨rfl,_⟩:=readsAllW_nil_inv q2;obtain⟨q,arr,as',rfl,⟨ob,hob,hcls,n,hdat⟩,q3,_⟩:=readsW_list_inv q1;obtain⟨l,rfl,hv⟩:=tY (N:=(f7 (hK w.params) s₁.heap PySem.Challenge.rw_te0009_02.row.toRowW.prog w mg mb hq (looseW hq gy)).N) (w:=JW s₁.heap) hx q3;rw[fP] at hlen;obtain⟨sh',hj,hr⟩:=DA hlen;obtain⟨Ψ,D,g⟩:=hj.go B rfl
 have hl2:arr.toList.length≤ak:=by
  have:=q3.length;rw[fP] at this;unfold ak;omega
 have hV:VRel (f7 (hK w.params) s₁.heap PySem.Challenge.rw_te0009_02.row.toRowW.prog w mg mb hq (looseW hq gy)).N (JW s₁.heap) (.lst (l.map .int)) (.ref q):=VRel.lst hob ⟨hl2,hcls,n,hdat⟩ hv;refine Ej D B.G B.PO (pos:=[.lst (l.map .int)]) (kws:=[]) (as:=[.lst (l.map .int)]) (by kernel_rfl) g hr (A:=callerA) ⟨by decide,by decide,rfl⟩ (xJ rfl) (.cons hV .nil) .nil λw' h' tk b x S V=>?_
 obtain rfl:b= .bool true:=V;exact⟨.inl ⟨.bool true,.bool true,[],rfl,λ_=>rfl,.bool true,by kernel_rfl,λ_=>⟨.nil,λ_ z=>(nX z).elim⟩⟩,.of_keep λc o e=>S.frz _ _ (x.G _ _ e),rfl,.of_eq hgens⟩
open PySem PySem.W PyProof.Rows PySem.Calls
theorem Ga:LeftO hp hq gy GO (Hook.obs hHook) (Hook.val hHook) 14534 true:=
 LeftO.of_pieces (H₁:=z0) (boot_open A2 (by kernel_rfl) A3) DP GP KR (λw=>funext λos=>looks_pair (congrFun (DQ w) os) (looks_pair (congrFun (DS w) os) (congrFun (DR w) os)))
end Mine
open PySem PySem.W PyProof.Rows PySem.Calls Mine
theorem PySem.Challenge.cw_te0009_02_holds : PySem.Challenge.rw_te0009_02.Holds := by
 refine holds_law DT λsaid=>?_;exact holds_open (r:=PySem.Challenge.rw_te0009_02.row) (q:=hq) (loose:=gy) (Xt:=GO) (XP:=XL hq []) (Yf:=Hook.obs hHook) (Ya:=Hook.val hHook) (YP:=Hook.says hHook) (N:=14534) Ga (Hook.of hHook) (Hook.keeps hHook) (λs e=>xl_of s (qmz.mp e).1) XL.keeps (by rfl) (by rfl) (by rfl) (λs e=>recFacts_of (qmz.mp e).2) (by rfl) said (by decide +kernel) ⟨rfl,rfl,rfl,rfl,rfl,tq9⟩ DU (FZ rfl)
