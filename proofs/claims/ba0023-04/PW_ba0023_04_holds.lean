import PyProof.Rows.All
import Wide.All
import OpenK.KLine
import Wide.FinOn
import OpenK.AllK
import Lean
import PySem.Challenge.RW_ba0023_04
set_option Elab.async false
set_option linter.all false
set_option tactic.hygienic false
set_option genInjectivity false
set_option bootstrap.genMatcherCode false
set_option genSizeOfSpec false
set_option genSizeOf false
set_option maxRecDepth 100000
set_option maxHeartbeats 1000000
open Option renaming none → ac, isSome_iff_exists → cG, map_eq_some_iff → jd, bind → mi, isNone_iff_eq_none → yc, filter_eq_some_iff → yd
open PySem renaming Shared → ae, wpAny_bind → ag, wpAny_pure → aj, wpAny_items_cons → am, Spec → ao, Around → aw, wpAny_items_nil → az, recursionLimit → aA, Sem → aH, wpAny_execs_cons → aK, Params → aM, wpAny_Call_ofName → aN, Fin → aP, wpAny_mono → aR, wpAny_holding → aX, codeAny_of_tree → bc, GenState → bk, wpAny_standAt → bl, wpAny_call → bw, wpAny_Constant_int → bD, Program → bF, Builtin → bH, wpAny_loadName_local → bL, mainGlobals → bM, compEnvC → bQ, wpAny_onRaise → bS, starEach → bT, codeAny → bY, theTreesLotGoes → ca, splitAtGen → ch, wpAny_Name → cA, wpAny_truthy_bool → cH, wpAny_Assign_Name → cJ, closureFor → cU, wpAny_Return_some → cV, codeAny_call_builtin → da, noteFrame → dq, wpAny_loadName_cell → ds, slot_list_getitem → dv, relabel → dw, step → dA, compareOp → dH, wpAny_BinOp → dR, foldedSetIterable → ei, Result → ej, letOwnedTupleGo → eJ, Thread → eR, BindsTo → e8, lookup_relabel_local → fa, wpAny_execs_nil → fi, backTo → fm, assign → fy, OsState → fz, swappedStores → fB, rawInt → fG, newFunctionEnv → fH, isInstance → fY, wpAny_askSetting → gk, typeOf → gl, methodCallForm → gm, DictEntry → gv, wpAny_of_eq → gC, bindSpecial → gE, IsRangeIter → gF, wpAny_rule → gH, builtinsNs → gK, treeTable → gR, wpAny_newObj_type → g9, getAttr → hM, wpAny_load → ij, wpAny_Tuple → im, NameKind → iu, Config → iw, holding → iF, getMethod → iG, checkBuiltinCall → iH, wpAny_Constant_bool → iO, wpAny_Assign_stores → iP, wpAny_assignInOrder_more → jb, leftWithCleanup → jl, Outcome → jp, storeName → jz, standAt → jQ, callAny → jT, wpAny_isTrue_Compare1 → j6, isSubtype → kj, assignEach → kF, swapsWithSole → kM, forTurn → kN, wpAny_field → kP, keywordEach → kS, interactive → kU, lookup_reverse_snoc → lZ, bindSpecialIfBound? → me, wpAny_tupleItemsOf → mJ, wpAny_List → mK, typeLookup → mL, entryFor → mX, Operator → mZ, richCompare → nV, leaving → nW, builtinKind → nZ, wpAny_comprehension_free → n5, compTurn → oV, wpAny_storeName_local → qr, wpAny_assign_Name → wS
open List renaming mem_singleton → ah, mem_cons → aq, mem_append_right → aF, mem_append → aL, forall_mem_cons → aY, getElem?_eq_getElem → bh, all_eq_true → bj, range → bn, toArray → br, getElem?_eq_some_iff → bu, mem_append_left → bC, length_append → bG, length_map → bW, length_range → cR, map_append → db, lookup_cons → dT, getElem?_toArray → ey, map_map → eL, not_mem_nil → fq, mem_of_getElem? → fK, mem_map → gj, of_mem_zip → gp, nodup_cons → iy, forIn_cons → iz, getElem?_map → jf, length_take → jG, isEmpty_iff → jH, any_cons → jO, mem_iff_getElem → jU, filterMap_cons → j7, map_inj_left → mj, mem_reverse → m6, reverse_cons → sa, nodup_append → sd, mem_range → xT, getElem?_append_left → ye
open PySem.Heap renaming get?_push_of_some → ak, get?_push_size → ar, get?_none_of_le → aB, lt_size → bp, size_push → bN, SameBut → bU, get?_update_self → fL, get?_update_other → gN, ExtBut → ll
open Nat renaming le_trans → au, lt_of_le_of_lt → av, le_add_right → aE, le_refl → aQ, add_le_add_left → aT, le_succ → aW, le_of_ble_eq_true → bK, lt_of_lt_of_le → bO, ne_of_lt → bV, lt_add_of_pos_right → cr, lt_succ_self → cD, lt_irrefl → dh, zero_le → dB, lt_succ_of_lt → eV, ne_of_gt → fJ, succ_ne_self → jF
open PySem.W renaming hideAll_get → aU, hideAll → bJ, looks_findIn → cT, of_hideAll → di, emptyDict → du, findIn → dI, hideAll_none → dX, behindTheImports → eW, tabObj → fv, methodObj → gz, instObj → gQ, looks_pair → iD, handedIn → lJ, boot_heap → np, findObj → oO
open Array renaming getElem?_eq_some_iff → aZ, size_push → j5, getElem?_eq_getElem → lT, size_setIfInBounds → my, mem_map → mz
open PySem.W.Fast renaming te14364793385576792824 → bE, te10110043849684766642 → cQ
open Bool renaming and_eq_true_iff → bP, false_eq_true → bX, false_ne_true → dD, and_eq_true → g8, not_true → jP
open Ne renaming symm → cb
open PySem.Frame renaming guarded → cF, where_ → fW
open PySem.W.Looks renaming of_pure → cK, ld → eT, of_peek → fc
open PySem.Shared renaming setGen → cZ, forget_eq → iK
open PySem.Value renaming ref → df, none → gL, int → jA, type → mY
open PySem.Sem renaming bind_eq_wrap' → dz, wrap_wrap → fE, bind_eq_wrap → kJ
open PySem.Runs renaming head' → dP
open PySem.BindsTo renaming of_eq → dU
open PySem.Challenge renaming rw_ba0023_04 → eY
open PySem.Config renaming single → eZ
open PySem.Builtin.Generator renaming sleptOver → fA, endsTheTurnAsAValue → iL
open PySem.Builtin.Range renaming rangeSize → gw, small → iV, rangeFitsLong → mx
open PyProof.Rows renaming Subscript_ → ie, tail_any → jj, Attribute_any_ → jr, depth_under_make → sC
open PySem.Calls renaming Name_function_global → je
open Int renaming sub_self → jg, lt_trichotomy → jh, ne_of_lt → kL
open And renaming intro → jJ
open PySem.Step renaming go → kO
open List.Perm renaming swap → lj
open PySem.Heap.SameBut renaming update → mq
open PySem.Builtin.List renaming listFitsIndex → ni
open PySem.NameKind renaming free → oK, globalImplicit → oX
noncomputable section
open PySem PySem.W PySem.Spec PySem.Calls PyProof.Rows
open PySem.Sem (wp)
namespace Internal
local macro_rules | `(tactic| lk) => `(tactic| kernel_rfl)
set_option backward.match.sparseCases false
abbrev pw:bF:=PySem.Challenge.pw_ba0023_04
abbrev zW:=aM
noncomputable def e (P:aM)(y:String)(t:Nat)(v:Value):gv:=let x:=Str.ofString y;⟨PyData.keyHash P x,.str x t,v⟩
noncomputable def zS (x:String)(n:Nat):Value:=.str (.ofString x) n
noncomputable def zI (n:Nat):Value:=.int (.ofNat n) 0
noncomputable def zO (c:String)(d:Data):Obj:=⟨.type c,none,d,#[]⟩
noncomputable def zN (d:Data):Obj:=⟨.none,none,d,#[]⟩
def zT (l:List Value):Obj:=zO "tuple" (.seq l.toArray 0)
noncomputable def zR (a:Nat):Value:=.ref a
def zC (n q:String)(t l a b c d r:Nat)(f:Bool)(z r2:Nat)(v1 v2 v3 v4:Value)(k:Nat):Obj:=zO "code" (.fields #[zS n t,zS q (t+1),zS "/claim/cut.py" (t+2),zI l,zI a,zI b,zI c,zI d,.ref r,.bool f,zI z,.ref r2,v1,v2,v3,v4,zI k,zI l,zS "/claim/cut.py" (k+1)])
noncomputable def bo (i:Nat)(P:zW):Obj:=((np P).get? i).getD default
noncomputable def alt (l:List Obj):List Obj×List Obj:=List.rec (motive:=λ_=>List Obj×List Obj) ([],[]) (λo _ p=>(o :: p.2,p.1)) l
def bt (n:Nat):List Obj->BT:=Nat.rec (motive:=λ_=>List Obj->BT) (λ_=>.nil) (λ_ ih l=>List.rec (motive:=λ_=>BT) .nil (λo r _=>.node o (ih (alt r).1) (ih (alt r).2)) l) n
noncomputable def a1 (i:Nat):Stmt:=(pw.main.body[i]?).getD default
noncomputable def uO:Stmt->List Expr×List (List Stmt)×Pos×Str×Arguments×Scope
 | .FunctionDef n args b _ _ _ scope _ _ p=>([],[b],p,n,args,scope)
 | .ClassDef _ _ _ b _ _ _ _ _ _ p=>([],[b],p,default)
 | .Return e p=>(e.toList,[],p,default)
 | .Assign ts e p=>(e :: ts,[],p,default)
 | .For t i b o p=>([i,t],[b,o],p,default)
 | .While t b o p=>([t],[b,o],p,default)
 | .If t b o p=>([t],[b,o],p,default)
 | .Expr e p=>([e],[],p,default)
 | _=>default
noncomputable def xZ:Expr->List Expr×Nat×List Comprehension×Scope
 | .BoolOp _ l _=>(l,default)
 | .BinOp l _ r _=>([l,r],default)
 | .ListComp e g s _=>([e],0,g,s)
 | .YieldFrom e _=>([e],default)
 | .Compare l _ r _=>(l :: r,default)
 | .Call f as _ _=>(f :: as,default)
 | .Constant _ k _=>([],k,default)
 | .List l _=>(l,default)
 | .Tuple l k _=>(l,k,default)
 | _=>default
def a2 (i j:Nat):Stmt:=(((uO (a1 i)).2.1.headD [])[j]?).getD default
def fd (s:Stmt)(qual:Str)(g:Addr)(cl:List (Str×Addr))(dV kV doc pm:Value)(an:Option Addr)(cdv ct:Value)(b:Addr):FuncData:=
 { name:=(uO s).2.2.2.1,qualname:=qual,params:=(uO s).2.2.2.2.1,body:=.stmts ((uO s).2.1.headD []),scope:=(uO s).2.2.2.2.2,globals:=g,closure:=cl,defaults:=dV,kwdefaults:=kV,doc:=doc,pyModule:=pm,annotations:=an,code:=cdv,closureTuple:=ct,builtins:=b }
def dV (s:Stmt)(t:Nat):Value:=.str ((docOf ((uO s).2.1.headD [])).getD default) t
def f0 (s:Stmt)(q:String):FuncData:=fd s (.ofString q) 0 [] .none .none .none .none none .none .none 0
def f1 (s:Stmt)(q:String)(m:Value)(a:Addr):FuncData:=fd s (.ofString q) 3 [] .none .none .none m none (.ref a) .none 0
def zF (s:Stmt)(q:String)(m:Value)(a:Addr):Obj:=zO "function" (.func (f1 s q m a))
def z0:=zS "bentley_ottmann._core.hints" 302
def z1:=zS "bentley_ottmann._core.events_registry" 1001
def z2:=zS "bentley_ottmann._core.base" 1341
def z3:=zS "/claim/cut.py" 172
def z4:=zS "bentley_ottmann._core.events_queue_key" 250
def z5:=zS "bentley_ottmann._core.sweep_line_key" 937
def z6:=zS "bentley_ottmann._core.event" 220
def z7:=zS "bentley_ottmann._core.utils" 194
def o0 (P:zW):=bo 0 P
def o1 (P:zW):=bo 1 P
def o2 (P:zW):=bo 2 P
def o3 (P:zW):=bo 3 P
def o4 (P:zW):=bo 4 P
def o5 (P:zW):=bo 5 P
def o6 (P:zW):=bo 6 P
def o7 (P:zW):=bo 7 P
def o8 (P:zW):=bo 8 P
def o9 (P:zW):=bo 9 P
def o10 (P:zW):=bo 10 P
def aV:=zT []
def ft:=zN (.fields #[])
def o13:=zC "<module>" "<module>" 182 1 0 0 0 0 11 false 181 12 .none .none .none .none 185
def o14:Obj:=⟨(.type "frame"),none,.plain,#[(some (zR 13)),(some (zR 3)),(some (zR 3)),none,(some (zS "__main__" 164)),none,(some (zR 0))]⟩
def o15 (P:zW):=zO "dict" (.dict #[e P "__name__" 165 z0,e P "__doc__" 166 .none,e P "__package__" 167 .none,e P "__loader__" 168 (.builtin "__main__.__loader__#opaque"),e P "__spec__" 169 .none,e P "__annotations__" 170 (zR 6),e P "__builtins__" 171 (zR 4),e P "__file__" 173 z3,e P "__cached__" 174 .none,e P "_wall" 193 (zR 21),e P "all_unique" 204 (zR 28),e P "is_even" 211 (zR 35),e P "to_sorted_pair" 219 (zR 42),e P "Event" 228 (zR 49),e P "is_event_left" 235 (zR 56),e P "segment_id_to_left_event" 242 (zR 63),e P "segment_id_to_right_event" 249 (zR 70),e P "EventsQueueKey" 301 (zR 94),e P "_tuplegetter" 360 (zR 137)] 19)
def o16:=zN (.fields #[(zI 1),(zI 0),(zR 20),(zI 5),(zI 0),(zR 27),(zI 12),(zI 0),(zR 34),(zI 14),(zI 0),(zR 41),(zI 17),(zI 0),(zR 48),(zI 19),(zI 0),(zR 55),(zI 21),(zI 0),(zR 62),(zI 23),(zI 0),(zR 69),(zI 26),(zI 0),(zR 76),(zI 47),(zI 0),(zR 104)])
def o19:=zT [(zS "k" 190)]
def o22:=zC "_wall" "_wall" 187 1 1 0 0 3 15 true 181 16 .none (zR 17) (zR 18) (zR 19) 191
def o23:=zF (a1 0) "_wall" (zS "__main__" 164) 20
def o26:=zT [(zS "values" 199),(zS "seen" 200),(zS "value" 201)]
def o29:=zC "all_unique" "all_unique" 196 5 1 1 0 3 22 true 181 23 .none (zR 24) (zR 25) (zR 26) 202
def o30:=zF (a1 2) "all_unique" z7 27
def o33:=zT [(zS "value" 208)]
def o36:=zC "is_even" "is_even" 205 12 1 1 0 3 29 true 181 30 .none (zR 31) (zR 32) (zR 33) 209
def o37:=zF (a1 3) "is_even" z7 34
def o40:=zT [(zS "first" 215),(zS "second" 216)]
def o43:=zC "to_sorted_pair" "to_sorted_pair" 212 14 2 2 0 3 36 true 181 37 .none (zR 38) (zR 39) (zR 40) 217
def o44:=zF (a1 4) "to_sorted_pair" z7 41
def o47:=zT [(zS "value" 225)]
def o50:=zC "Event" "Event" 222 17 1 0 0 3 43 true 181 44 .none (zR 45) (zR 46) (zR 47) 226
def o51:=zF (a1 6) "Event" z6 48
def o54:=zT [(zS "event" 232)]
def o57:=zC "is_event_left" "is_event_left" 229 19 1 0 0 3 50 true 181 51 .none (zR 52) (zR 53) (zR 54) 233
def o58:=zF (a1 7) "is_event_left" z6 55
def o61:=zT [(zS "segment_id" 239)]
def o64:=zC "segment_id_to_left_event" "segment_id_to_left_event" 236 21 1 1 0 3 57 true 181 58 .none (zR 59) (zR 60) (zR 61) 240
def o65:=zF (a1 8) "segment_id_to_left_event" z6 62
def o68:=zT [(zS "segment_id" 246)]
def o71:=zC "segment_id_to_right_event" "segment_id_to_right_event" 243 23 1 1 0 3 64 true 181 65 .none (zR 66) (zR 67) (zR 68) 247
def o72:=zF (a1 9) "segment_id_to_right_event" z6 69
def vi:=zO "builtin_function_or_method" (.fields #[(.builtin "type.__prepare__"),(.type "type")])
def o82:=zT [(zS "self" 267),(zS "endpoints" 268),(zS "opposites" 269),(zS "event" 270)]
def o85:=zC "__init__" "EventsQueueKey.__init__" 264 28 4 4 0 3 78 true 181 79 .none (zR 80) (zR 81) (zR 82) 271
def o86:=zF (a2 11 0) "EventsQueueKey.__init__" z4 83
def o89:=zT [(zS "self" 277),(zS "other" 278),(zS "event" 279),(zS "other_event" 280),(zS "event_start" 281),(zS "other_event_start" 282),(zS "start_x" 283),(zS "start_y" 284),(zS "other_start_x" 285),(zS "other_start_y" 286)]
def o92:=zC "__lt__" "EventsQueueKey.__lt__" 274 31 2 2 0 3 85 true 181 86 .none (zR 87) (zR 88) (zR 89) 287
def o93:=zO "function" (.func (fd (a2 11 1) (.ofString "EventsQueueKey.__lt__") 3 [] .none .none (dV (a2 11 1) 289) z4 none (zR 90) .none 0))
def o94:=zT [(zS "endpoints" 291),(zS "event" 292),(zS "opposites" 293)]
def o95 (P:zW):=zO "dict" (.dict #[e P "__module__" 259 z4,e P "__firstlineno__" 263 (.int 26 262),e P "__init__" 273 (zR 84),e P "__lt__" 290 (zR 91),e P "__static_attributes__" 294 (zR 92),e P "__dict__" 296 (zR 95),e P "__weakref__" 298 (zR 96),e P "__doc__" 299 .none] 4)
def o96:Obj:=⟨(.type "type"),none,(.cls ⟨(.ofString "EventsQueueKey"),[(.type "object")],[(zR 94),(.type "object")],93,(.ofString "EventsQueueKey"),true,[],[],false,none,false⟩),#[none,none,(some (zS "EventsQueueKey" 252)),(some (zS "EventsQueueKey" 260)),(some (.builtin "object.__new__")),(some (.bool true))]⟩
def o97:=zO "getset_descriptor" (.fields #[(zS "__dict__" 295),(zR 94),(.builtin "function.__dict__"),(.builtin "function.__dict__#set")])
def o98:=zO "getset_descriptor" (.fields #[(zS "__weakref__" 297),(zR 94),(.builtin "ExceptionGroup.__weakref__"),.none])
def o110:=zT [(zS "self" 319),(zS "index" 320),(zS "doc" 321)]
def o113:=zC "__init__" "_tuplegetter.__init__" 316 49 3 0 0 3 106 true 181 107 .none (zR 108) (zR 109) (zR 110) 322
def o114:=zF (a2 13 0) "_tuplegetter.__init__" z0 111
def FZ:=zT [.none]
def o118:=zT [(zS "self" 328),(zS "obj" 329),(zS "objtype" 330)]
def o121:=zC "__get__" "_tuplegetter.__get__" 325 53 3 0 0 3 114 true 181 115 .none (zR 116) (zR 117) (zR 118) 331
def o122:=zO "function" (.func (fd (a2 13 1) (.ofString "_tuplegetter.__get__") 3 [] (zR 113) .none .none z0 none (zR 119) .none 0))
def o125:=zT [(zS "self" 337),(zS "obj" 338),(zS "value" 339)]
def o128:=zC "__set__" "_tuplegetter.__set__" 334 60 3 0 0 3 121 true 181 122 .none (zR 123) (zR 124) (zR 125) 340
def o129:=zF (a2 13 2) "_tuplegetter.__set__" z0 126
def o132:=zT [(zS "self" 346),(zS "obj" 347)]
def o135:=zC "__delete__" "_tuplegetter.__delete__" 343 63 2 0 0 3 128 true 181 129 .none (zR 130) (zR 131) (zR 132) 348
def o136:=zF (a2 13 3) "_tuplegetter.__delete__" z0 133
def o137:=zT [(zS "__doc__" 351),(zS "index" 352)]
def o138 (P:zW):=zO "dict" (.dict #[e P "__module__" 311 z0,e P "__firstlineno__" 315 (.int 47 314),e P "__init__" 324 (zR 112),e P "__get__" 333 (zR 120),e P "__set__" 342 (zR 127),e P "__delete__" 350 (zR 134),e P "__static_attributes__" 353 (zR 135),e P "__dict__" 355 (zR 138),e P "__weakref__" 357 (zR 139),e P "__doc__" 358 .none] 4)
def o139:Obj:=⟨(.type "type"),none,(.cls ⟨(.ofString "_tuplegetter"),[(.type "object")],[(zR 137),(.type "object")],136,(.ofString "_tuplegetter"),true,[],[],false,none,false⟩),#[none,none,(some (zS "_tuplegetter" 304)),(some (zS "_tuplegetter" 312)),(some (.builtin "object.__new__")),(some (.bool true))]⟩
def o140:=zO "getset_descriptor" (.fields #[(zS "__dict__" 354),(zR 137),(.builtin "function.__dict__"),(.builtin "function.__dict__#set")])
def o141:=zO "getset_descriptor" (.fields #[(zS "__weakref__" 356),(zR 137),(.builtin "ExceptionGroup.__weakref__"),.none])
def o144 (P:zW):=zO "dict" (.dict #[e P "__name__" 165 z0,e P "__doc__" 166 .none,e P "__package__" 167 .none,e P "__loader__" 168 (.builtin "__main__.__loader__#opaque"),e P "__spec__" 169 .none,e P "__annotations__" 170 (zR 6),e P "__builtins__" 171 (zR 4),e P "__file__" 173 z3,e P "__cached__" 174 .none,e P "_wall" 193 (zR 21),e P "all_unique" 204 (zR 28),e P "is_even" 211 (zR 35),e P "to_sorted_pair" 219 (zR 42),e P "Event" 228 (zR 49),e P "is_event_left" 235 (zR 56),e P "segment_id_to_left_event" 242 (zR 63),e P "segment_id_to_right_event" 249 (zR 70),e P "EventsQueueKey" 301 (zR 94),e P "_tuplegetter" 360 (zR 137),e P "Point" 475 (zR 209)] 20)
def o145:=zN (.fields #[(zI 1),(zI 0),(zR 20),(zI 5),(zI 0),(zR 27),(zI 12),(zI 0),(zR 34),(zI 14),(zI 0),(zR 41),(zI 17),(zI 0),(zR 48),(zI 19),(zI 0),(zR 55),(zI 21),(zI 0),(zR 62),(zI 23),(zI 0),(zR 69),(zI 26),(zI 0),(zR 76),(zI 47),(zI 0),(zR 104),(zI 65),(zI 0),(zR 148)])
def o146:=zT [(.type "tuple")]
def o149:=zO "cell" (.cell (some (zR 209)))
def o155:=zT [(zS "x" 377),(zS "y" 378)]
def tx:=zO "dict" (.dict #[] 0)
def o159:=zT [(zS "_cls" 384),(zS "x" 385),(zS "y" 386)]
def o162:=zC "__new__" "Point.__new__" 381 71 3 0 0 3 153 true 181 154 .none (zR 155) (zR 156) (zR 157) 387
def o163:=zO "function" (.func (fd (a2 14 4) (.ofString "Point.__new__") 3 [] .none .none (dV (a2 14 4) 389) z0 none (zR 158) .none 0))
def o166:=zT [(zS "cls" 394),(zS "iterable" 395),(zS "result" 396)]
def o169:=zC "_make" "Point._make" 391 75 2 0 0 3 160 true 181 161 .none (zR 162) (zR 163) (zR 164) 397
def o170:=zO "function" (.func (fd (a2 14 5) (.ofString "Point._make") 3 [] .none .none (zS "Make a new Point object from a sequence or iterable" 399) z0 (some 169) (zR 165) .none 0))
def o171 (P:zW):=zO "dict" (.dict #[e P "__module__" 401 z0,e P "__name__" 404 (zS "_make" 403),e P "__qualname__" 407 (zS "Point._make" 406),e P "__doc__" 409 (zS "Make a new Point object from a sequence or iterable" 399),e P "__annotations__" 411 (zR 169)] 5)
def o172:Obj:=⟨(.type "classmethod"),(some 167),(.fields #[(zR 166),(.bool false)]),#[]⟩
def o174:=zT [(zR 145)]
def o175:=zT [(zS "__class__" 416)]
def o177:=zT [(zS "self" 417),(zS "kwds" 418),(zS "result" 419)]
def o180:=zC "_replace" "Point._replace" 413 83 1 1 0 11 171 true 181 172 .none (zR 173) (zR 174) (zR 175) 420
def o181:=zO "function" (.func (fd (a2 14 6) (.ofString "Point._replace") 3 [((.ofString "__class__"),145)] .none .none (zS "Return a new Point object replacing specified fields with new values" 422) z0 none (zR 176) (zR 170) 0))
def o184:=zT [(zS "self" 428)]
def o187:=zC "__repr__" "Point.__repr__" 425 94 1 0 0 3 178 true 181 179 .none (zR 180) (zR 181) (zR 182) 429
def o188:=zO "function" (.func (fd (a2 14 8) (.ofString "Point.__repr__") 3 [] .none .none (dV (a2 14 8) 431) z0 none (zR 183) .none 0))
def o191:=zT [(zS "self" 436)]
def o194:=zC "_asdict" "Point._asdict" 433 98 1 0 0 3 185 true 181 186 .none (zR 187) (zR 188) (zR 189) 437
def o195:=zF (a2 14 9) "Point._asdict" z0 190
def o198:=zT [(zS "self" 443)]
def o201:=zC "__getnewargs__" "Point.__getnewargs__" 440 101 1 0 0 3 192 true 181 193 .none (zR 194) (zR 195) (zR 196) 444
def o202:=zO "function" (.func (fd (a2 14 10) (.ofString "Point.__getnewargs__") 3 [] .none .none (dV (a2 14 10) 446) z0 none (zR 197) .none 0))
def o203:=zT [(zS "x" 448),(zS "y" 449)]
def Ci (P:zW):=zO "dict" (.dict #[e P "index" 457 (.int 0 451),e P "__doc__" 459 (zS "Alias for field number 0" 452)] 2)
def FY:Obj:=⟨(zR 137),(some 200),.plain,#[]⟩
def Ch (P:zW):=zO "dict" (.dict #[e P "index" 467 (.int 1 461),e P "__doc__" 469 (zS "Alias for field number 1" 462)] 2)
def FX:Obj:=⟨(zR 137),(some 203),.plain,#[]⟩
def o212 (P:zW):=zO "dict" (.dict #[e P "__module__" 368 z0,e P "__firstlineno__" 372 (.int 65 371),e P "__doc__" 374 (zS "Point(x, y)" 373),e P "__slots__" 376 (zR 150),e P "_fields" 379 (zR 151),e P "_field_defaults" 380 (zR 152),e P "__new__" 390 (zR 210),e P "_make" 412 (zR 168),e P "_replace" 423 (zR 177),e P "__replace__" 424 (zR 177),e P "__repr__" 432 (zR 184),e P "_asdict" 439 (zR 191),e P "__getnewargs__" 447 (zR 198),e P "__match_args__" 450 (zR 199),e P "x" 460 (zR 201),e P "y" 470 (zR 204),e P "__static_attributes__" 471 (zR 206)] 2)
def Cg:Obj:=⟨(.type "type"),none,(.cls ⟨(.ofString "Point"),[(.type "tuple")],[(zR 209),(.type "tuple"),(.type "object")],208,(.ofString "Point"),false,[],[],false,none,false⟩),#[(some (zR 142)),none,(some (zS "Point" 361)),(some (zS "Point" 369)),(some .none),(some (.bool false))]⟩
def o214:=zO "staticmethod" (.fields #[(zR 159)])
def o217 (P:zW):=zO "dict" (.dict #[e P "__name__" 165 z0,e P "__doc__" 166 .none,e P "__package__" 167 .none,e P "__loader__" 168 (.builtin "__main__.__loader__#opaque"),e P "__spec__" 169 .none,e P "__annotations__" 170 (zR 6),e P "__builtins__" 171 (zR 4),e P "__file__" 173 z3,e P "__cached__" 174 .none,e P "_wall" 193 (zR 21),e P "all_unique" 204 (zR 28),e P "is_even" 211 (zR 35),e P "to_sorted_pair" 219 (zR 42),e P "Event" 228 (zR 49),e P "is_event_left" 235 (zR 56),e P "segment_id_to_left_event" 242 (zR 63),e P "segment_id_to_right_event" 249 (zR 70),e P "EventsQueueKey" 301 (zR 94),e P "_tuplegetter" 360 (zR 137),e P "Point" 475 (zR 209),e P "Kind" 506 (zR 229),e P "Orientation" 545 (zR 252),e P "Relation" 607 (zR 287)] 23)
def o218:=zN (.fields #[(zI 1),(zI 0),(zR 20),(zI 5),(zI 0),(zR 27),(zI 12),(zI 0),(zR 34),(zI 14),(zI 0),(zR 41),(zI 17),(zI 0),(zR 48),(zI 19),(zI 0),(zR 55),(zI 21),(zI 0),(zR 62),(zI 23),(zI 0),(zR 69),(zI 26),(zI 0),(zR 76),(zI 47),(zI 0),(zR 104),(zI 65),(zI 0),(zR 148),(zI 107),(zI 0),(zR 218),(zI 112),(zI 0),(zR 239),(zI 116),(zI 0),(zR 262)])
def o228:=zT [(zS "self" 494),(zS "value" 495)]
def o231:=zC "__init__" "Kind.__init__" 491 110 2 0 0 3 220 true 181 221 .none (zR 222) (zR 223) (zR 224) 496
def o232:=zF (a2 15 1) "Kind.__init__" z0 225
def o233:=zT [(zS "value" 499)]
def o234 (P:zW):=zO "dict" (.dict #[e P "__module__" 483 z0,e P "__firstlineno__" 487 (.int 107 486),e P "__doc__" 489 (zS "One of a few kinds, known by itself." 488),e P "__init__" 498 (zR 226),e P "__static_attributes__" 500 (zR 227),e P "__dict__" 502 (zR 230),e P "__weakref__" 504 (zR 231)] 3)
def o235:Obj:=⟨(.type "type"),none,(.cls ⟨(.ofString "Kind"),[(.type "object")],[(zR 229),(.type "object")],228,(.ofString "Kind"),true,[],[],false,none,false⟩),#[none,none,(some (zS "Kind" 476)),(some (zS "Kind" 484)),(some (.builtin "object.__new__")),(some (.bool true))]⟩
def o236:=zO "getset_descriptor" (.fields #[(zS "__dict__" 501),(zR 229),(.builtin "function.__dict__"),(.builtin "function.__dict__#set")])
def o237:=zO "getset_descriptor" (.fields #[(zS "__weakref__" 503),(zR 229),(.builtin "ExceptionGroup.__weakref__"),.none])
def o247 (P:zW):=zO "dict" (.dict #[e P "value" 524 (.int (-1) 520)] 1)
def o248:Obj:=⟨(zR 229),(some 241),.plain,#[]⟩
def o250 (P:zW):=zO "dict" (.dict #[e P "value" 530 (.int 0 526)] 1)
def o251:Obj:=⟨(zR 229),(some 244),.plain,#[]⟩
def o253 (P:zW):=zO "dict" (.dict #[e P "value" 536 (.int 1 532)] 1)
def o254:Obj:=⟨(zR 229),(some 247),.plain,#[]⟩
def o257 (P:zW):=zO "dict" (.dict #[e P "__module__" 514 z0,e P "__firstlineno__" 518 (.int 112 517),e P "CLOCKWISE" 525 (zR 242),e P "COLLINEAR" 531 (zR 245),e P "COUNTERCLOCKWISE" 537 (zR 248),e P "__static_attributes__" 538 (zR 250),e P "__dict__" 540 (zR 253),e P "__weakref__" 542 (zR 254),e P "__doc__" 543 .none] 4)
def o258:Obj:=⟨(.type "type"),none,(.cls ⟨(.ofString "Orientation"),[(.type "object")],[(zR 252),(.type "object")],251,(.ofString "Orientation"),true,[],[],false,none,false⟩),#[none,none,(some (zS "Orientation" 507)),(some (zS "Orientation" 515)),(some (.builtin "object.__new__")),(some (.bool true))]⟩
def o259:=zO "getset_descriptor" (.fields #[(zS "__dict__" 539),(zR 252),(.builtin "function.__dict__"),(.builtin "function.__dict__#set")])
def o260:=zO "getset_descriptor" (.fields #[(zS "__weakref__" 541),(zR 252),(.builtin "ExceptionGroup.__weakref__"),.none])
def o270 (P:zW):=zO "dict" (.dict #[e P "value" 562 (.int 0 558)] 1)
def o271:Obj:=⟨(zR 229),(some 264),.plain,#[]⟩
def o273 (P:zW):=zO "dict" (.dict #[e P "value" 568 (.int 1 564)] 1)
def o274:Obj:=⟨(zR 229),(some 267),.plain,#[]⟩
def o276 (P:zW):=zO "dict" (.dict #[e P "value" 574 (.int 2 570)] 1)
def o277:Obj:=⟨(zR 229),(some 270),.plain,#[]⟩
def o279 (P:zW):=zO "dict" (.dict #[e P "value" 580 (.int 3 576)] 1)
def o280:Obj:=⟨(zR 229),(some 273),.plain,#[]⟩
def o282 (P:zW):=zO "dict" (.dict #[e P "value" 586 (.int 4 582)] 1)
def o283:Obj:=⟨(zR 229),(some 276),.plain,#[]⟩
def o285 (P:zW):=zO "dict" (.dict #[e P "value" 592 (.int 5 588)] 1)
def o286:Obj:=⟨(zR 229),(some 279),.plain,#[]⟩
def o288 (P:zW):=zO "dict" (.dict #[e P "value" 598 (.int 6 594)] 1)
def o289:Obj:=⟨(zR 229),(some 282),.plain,#[]⟩
def o292 (P:zW):=zO "dict" (.dict #[e P "__module__" 553 z0,e P "__firstlineno__" 557 (.int 116 556),e P "DISJOINT" 563 (zR 265),e P "TOUCH" 569 (zR 268),e P "CROSS" 575 (zR 271),e P "OVERLAP" 581 (zR 274),e P "COMPOSITE" 587 (zR 277),e P "EQUAL" 593 (zR 280),e P "COMPONENT" 599 (zR 283),e P "__static_attributes__" 600 (zR 285),e P "__dict__" 602 (zR 288),e P "__weakref__" 604 (zR 289),e P "__doc__" 605 .none] 4)
def o293:Obj:=⟨(.type "type"),none,(.cls ⟨(.ofString "Relation"),[(.type "object")],[(zR 287),(.type "object")],286,(.ofString "Relation"),true,[],[],false,none,false⟩),#[none,none,(some (zS "Relation" 546)),(some (zS "Relation" 554)),(some (.builtin "object.__new__")),(some (.bool true))]⟩
def o294:=zO "getset_descriptor" (.fields #[(zS "__dict__" 601),(zR 287),(.builtin "function.__dict__"),(.builtin "function.__dict__#set")])
def o295:=zO "getset_descriptor" (.fields #[(zS "__weakref__" 603),(zR 287),(.builtin "ExceptionGroup.__weakref__"),.none])
def o298 (P:zW):=zO "dict" (.dict #[e P "__name__" 165 z0,e P "__doc__" 166 .none,e P "__package__" 167 .none,e P "__loader__" 168 (.builtin "__main__.__loader__#opaque"),e P "__spec__" 169 .none,e P "__annotations__" 170 (zR 6),e P "__builtins__" 171 (zR 4),e P "__file__" 173 z3,e P "__cached__" 174 .none,e P "_wall" 193 (zR 21),e P "all_unique" 204 (zR 28),e P "is_even" 211 (zR 35),e P "to_sorted_pair" 219 (zR 42),e P "Event" 228 (zR 49),e P "is_event_left" 235 (zR 56),e P "segment_id_to_left_event" 242 (zR 63),e P "segment_id_to_right_event" 249 (zR 70),e P "EventsQueueKey" 301 (zR 94),e P "_tuplegetter" 360 (zR 137),e P "Point" 475 (zR 209),e P "Kind" 506 (zR 229),e P "Orientation" 545 (zR 252),e P "Relation" 607 (zR 287),e P "Segment" 638 (zR 308),e P "Contour" 667 (zR 329),e P "Context" 732 (zR 369),e P "PriorityQueue" 790 (zR 411),e P "KeyedSet" 897 (zR 488)] 28)
def o299:=zN (.fields #[(zI 1),(zI 0),(zR 20),(zI 5),(zI 0),(zR 27),(zI 12),(zI 0),(zR 34),(zI 14),(zI 0),(zR 41),(zI 17),(zI 0),(zR 48),(zI 19),(zI 0),(zR 55),(zI 21),(zI 0),(zR 62),(zI 23),(zI 0),(zR 69),(zI 26),(zI 0),(zR 76),(zI 47),(zI 0),(zR 104),(zI 65),(zI 0),(zR 148),(zI 107),(zI 0),(zR 218),(zI 112),(zI 0),(zR 239),(zI 116),(zI 0),(zR 262),(zI 124),(zI 0),(zR 297),(zI 128),(zI 0),(zR 318),(zI 132),(zI 0),(zR 339),(zI 160),(zI 0),(zR 379),(zI 182),(zI 0),(zR 421)])
def o309:=zT [(zS "self" 623),(zS "start" 624),(zS "end" 625)]
def o312:=zC "__init__" "Segment.__init__" 620 126 3 0 0 3 299 true 181 300 .none (zR 301) (zR 302) (zR 303) 626
def o313:=zF (a2 18 0) "Segment.__init__" z0 304
def o314:=zT [(zS "end" 629),(zS "start" 630)]
def o315 (P:zW):=zO "dict" (.dict #[e P "__module__" 615 z0,e P "__firstlineno__" 619 (.int 124 618),e P "__init__" 628 (zR 305),e P "__static_attributes__" 631 (zR 306),e P "__dict__" 633 (zR 309),e P "__weakref__" 635 (zR 310),e P "__doc__" 636 .none] 4)
def o316:Obj:=⟨(.type "type"),none,(.cls ⟨(.ofString "Segment"),[(.type "object")],[(zR 308),(.type "object")],307,(.ofString "Segment"),true,[],[],false,none,false⟩),#[none,none,(some (zS "Segment" 608)),(some (zS "Segment" 616)),(some (.builtin "object.__new__")),(some (.bool true))]⟩
def o317:=zO "getset_descriptor" (.fields #[(zS "__dict__" 632),(zR 308),(.builtin "function.__dict__"),(.builtin "function.__dict__#set")])
def o318:=zO "getset_descriptor" (.fields #[(zS "__weakref__" 634),(zR 308),(.builtin "ExceptionGroup.__weakref__"),.none])
def o330:=zT [(zS "self" 654),(zS "vertices" 655)]
def o333:=zC "__init__" "Contour.__init__" 651 130 2 0 0 3 320 true 181 321 .none (zR 322) (zR 323) (zR 324) 656
def o334:=zF (a2 19 0) "Contour.__init__" z0 325
def o335:=zT [(zS "vertices" 659)]
def o336 (P:zW):=zO "dict" (.dict #[e P "__module__" 646 z0,e P "__firstlineno__" 650 (.int 128 649),e P "__init__" 658 (zR 326),e P "__static_attributes__" 660 (zR 327),e P "__dict__" 662 (zR 330),e P "__weakref__" 664 (zR 331),e P "__doc__" 665 .none] 4)
def o337:Obj:=⟨(.type "type"),none,(.cls ⟨(.ofString "Contour"),[(.type "object")],[(zR 329),(.type "object")],328,(.ofString "Contour"),true,[],[],false,none,false⟩),#[none,none,(some (zS "Contour" 639)),(some (zS "Contour" 647)),(some (.builtin "object.__new__")),(some (.bool true))]⟩
def o338:=zO "getset_descriptor" (.fields #[(zS "__dict__" 661),(zR 329),(.builtin "function.__dict__"),(.builtin "function.__dict__#set")])
def o339:=zO "getset_descriptor" (.fields #[(zS "__weakref__" 663),(zR 329),(.builtin "ExceptionGroup.__weakref__"),.none])
def o351:=zT [(zS "self" 686),(zS "start" 687),(zS "end" 688)]
def o354:=zC "segment_cls" "Context.segment_cls" 683 135 3 0 0 3 341 true 181 342 .none (zR 343) (zR 344) (zR 345) 689
def o355:=zF (a2 20 1) "Context.segment_cls" z0 346
def o359:=zC "contour_segments" "Context.contour_segments" 692 138 2 0 0 3 348 true 181 349 .none .none .none (zR 350) 695
def o360:=zF (a2 20 2) "Context.contour_segments" z0 351
def o363:=zT [(zS "self" 701),(zS "vertex" 702),(zS "first" 703),(zS "second" 704),(zS "product" 705)]
def o366:=zC "angle_orientation" "Context.angle_orientation" 698 142 4 0 0 3 353 true 181 354 .none (zR 355) (zR 356) (zR 357) 706
def o367:=zO "function" (.func (fd (a2 20 3) (.ofString "Context.angle_orientation") 3 [] .none .none (dV (a2 20 3) 708) z0 none (zR 358) .none 0))
def o370:=zT [(zS "self" 713),(zS "first" 714),(zS "second" 715),(zS "x" 716),(zS "y" 717),(zS "other_x" 718),(zS "other_y" 719),(zS "scale" 720),(zS "share" 721)]
def o373:=zC "segments_intersection" "Context.segments_intersection" 710 151 3 0 0 3 360 true 181 361 .none (zR 362) (zR 363) (zR 364) 722
def o374:=zO "function" (.func (fd (a2 20 4) (.ofString "Context.segments_intersection") 3 [] .none .none (dV (a2 20 4) 724) z0 none (zR 365) .none 0))
def o376 (P:zW):=zO "dict" (.dict #[e P "__module__" 675 z0,e P "__firstlineno__" 679 (.int 132 678),e P "__doc__" 681 (zS "The geometric context: whole numbers as coordinates, nothing rounded." 680),e P "segment_cls" 691 (zR 347),e P "contour_segments" 697 (zR 352),e P "angle_orientation" 709 (zR 359),e P "segments_intersection" 725 (zR 366),e P "__static_attributes__" 726 (zR 367),e P "__dict__" 728 (zR 370),e P "__weakref__" 730 (zR 371)] 3)
def o377:Obj:=⟨(.type "type"),none,(.cls ⟨(.ofString "Context"),[(.type "object")],[(zR 369),(.type "object")],368,(.ofString "Context"),true,[],[],false,none,false⟩),#[none,none,(some (zS "Context" 668)),(some (zS "Context" 676)),(some (.builtin "object.__new__")),(some (.bool true))]⟩
def o378:=zO "getset_descriptor" (.fields #[(zS "__dict__" 727),(zR 369),(.builtin "function.__dict__"),(.builtin "function.__dict__#set")])
def o379:=zO "getset_descriptor" (.fields #[(zS "__weakref__" 729),(zR 369),(.builtin "ExceptionGroup.__weakref__"),.none])
def o391:=zT [(zS "self" 751),(zS "key" 752)]
def o394:=zC "__init__" "PriorityQueue.__init__" 748 163 2 0 0 3 381 true 181 382 .none (zR 383) (zR 384) (zR 385) 753
def o395:=zF (a2 21 1) "PriorityQueue.__init__" z0 386
def o398:=zT [(zS "self" 759)]
def o401:=zC "__bool__" "PriorityQueue.__bool__" 756 166 1 0 0 3 388 true 181 389 .none (zR 390) (zR 391) (zR 392) 760
def o402:=zF (a2 21 2) "PriorityQueue.__bool__" z0 393
def o405:=zT [(zS "self" 766),(zS "value" 767),(zS "key" 768),(zS "low" 769),(zS "high" 770),(zS "middle" 771)]
def o408:=zC "push" "PriorityQueue.push" 763 169 2 0 0 3 395 true 181 396 .none (zR 397) (zR 398) (zR 399) 772
def o409:=zF (a2 21 3) "PriorityQueue.push" z0 400
def o412:=zT [(zS "self" 778)]
def o415:=zC "pop" "PriorityQueue.pop" 775 180 1 0 0 3 402 true 181 403 .none (zR 404) (zR 405) (zR 406) 779
def o416:=zF (a2 21 4) "PriorityQueue.pop" z0 407
def o417:=zT [(zS "_rows" 782),(zS "key" 783)]
def o418 (P:zW):=zO "dict" (.dict #[e P "__module__" 740 z0,e P "__firstlineno__" 744 (.int 160 743),e P "__doc__" 746 (zS "Values by their key; among equal ones the first that was pushed." 745),e P "__init__" 755 (zR 387),e P "__bool__" 762 (zR 394),e P "push" 774 (zR 401),e P "pop" 781 (zR 408),e P "__static_attributes__" 784 (zR 409),e P "__dict__" 786 (zR 412),e P "__weakref__" 788 (zR 413)] 3)
def o419:Obj:=⟨(.type "type"),none,(.cls ⟨(.ofString "PriorityQueue"),[(.type "object")],[(zR 411),(.type "object")],410,(.ofString "PriorityQueue"),true,[],[],false,none,false⟩),#[none,none,(some (zS "PriorityQueue" 733)),(some (zS "PriorityQueue" 741)),(some (.builtin "object.__new__")),(some (.bool true))]⟩
def o420:=zO "getset_descriptor" (.fields #[(zS "__dict__" 785),(zR 411),(.builtin "function.__dict__"),(.builtin "function.__dict__#set")])
def o421:=zO "getset_descriptor" (.fields #[(zS "__weakref__" 787),(zR 411),(.builtin "ExceptionGroup.__weakref__"),.none])
def o433:=zT [(zS "self" 809),(zS "key" 810)]
def o436:=zC "__init__" "KeyedSet.__init__" 806 185 2 0 0 3 423 true 181 424 .none (zR 425) (zR 426) (zR 427) 811
def o437:=zF (a2 22 1) "KeyedSet.__init__" z0 428
def o440:=zT [(zS "self" 817),(zS "value" 818),(zS "key" 819),(zS "low" 820),(zS "high" 821),(zS "middle" 822)]
def o443:=zC "_place" "KeyedSet._place" 814 188 2 0 0 3 430 true 181 431 .none (zR 432) (zR 433) (zR 434) 823
def o444:=zO "function" (.func (fd (a2 22 2) (.ofString "KeyedSet._place") 3 [] .none .none (dV (a2 22 2) 825) z0 none (zR 435) .none 0))
def o447:=zT [(zS "self" 830),(zS "place" 831),(zS "value" 832)]
def o450:=zC "_holds" "KeyedSet._holds" 827 200 3 0 0 3 437 true 181 438 .none (zR 439) (zR 440) (zR 441) 833
def o451:=zF (a2 22 3) "KeyedSet._holds" z0 442
def o454:=zT [(zS "self" 839),(zS "value" 840),(zS "place" 841)]
def o457:=zC "_index" "KeyedSet._index" 836 203 2 0 0 3 444 true 181 445 .none (zR 446) (zR 447) (zR 448) 842
def o458:=zF (a2 22 4) "KeyedSet._index" z0 449
def o461:=zT [(zS "self" 848),(zS "value" 849),(zS "place" 850)]
def o464:=zC "add" "KeyedSet.add" 845 211 2 0 0 3 451 true 181 452 .none (zR 453) (zR 454) (zR 455) 851
def o465:=zF (a2 22 5) "KeyedSet.add" z0 456
def o468:=zT [(zS "self" 857),(zS "value" 858)]
def o471:=zC "remove" "KeyedSet.remove" 854 216 2 0 0 3 458 true 181 459 .none (zR 460) (zR 461) (zR 462) 859
def o472:=zF (a2 22 6) "KeyedSet.remove" z0 463
def o475:=zT [(zS "self" 865),(zS "value" 866),(zS "place" 867)]
def o478:=zC "floor" "KeyedSet.floor" 862 219 2 0 0 3 465 true 181 466 .none (zR 467) (zR 468) (zR 469) 868
def o479:=zF (a2 22 7) "KeyedSet.floor" z0 470
def o482:=zT [(zS "self" 874),(zS "value" 875),(zS "place" 876)]
def o485:=zC "next" "KeyedSet.next" 871 227 2 0 0 3 472 true 181 473 .none (zR 474) (zR 475) (zR 476) 877
def o486:=zF (a2 22 8) "KeyedSet.next" z0 477
def o489:=zT [(zS "self" 883),(zS "value" 884),(zS "place" 885)]
def o492:=zC "prev" "KeyedSet.prev" 880 233 2 0 0 3 479 true 181 480 .none (zR 481) (zR 482) (zR 483) 886
def o493:=zF (a2 22 9) "KeyedSet.prev" z0 484
def o494:=zT [(zS "_values" 889),(zS "key" 890)]
def o495 (P:zW):=zO "dict" (.dict #[e P "__module__" 798 z0,e P "__firstlineno__" 802 (.int 182 801),e P "__doc__" 804 (zS "Values in the order of their keys, no two with equal ones." 803),e P "__init__" 813 (zR 429),e P "_place" 826 (zR 436),e P "_holds" 835 (zR 443),e P "_index" 844 (zR 450),e P "add" 853 (zR 457),e P "remove" 861 (zR 464),e P "floor" 870 (zR 471),e P "next" 879 (zR 478),e P "prev" 888 (zR 485),e P "__static_attributes__" 891 (zR 486),e P "__dict__" 893 (zR 489),e P "__weakref__" 895 (zR 490)] 3)
def o496:Obj:=⟨(.type "type"),none,(.cls ⟨(.ofString "KeyedSet"),[(.type "object")],[(zR 488),(.type "object")],487,(.ofString "KeyedSet"),true,[],[],false,none,false⟩),#[none,none,(some (zS "KeyedSet" 791)),(some (zS "KeyedSet" 799)),(some (.builtin "object.__new__")),(some (.bool true))]⟩
def o497:=zO "getset_descriptor" (.fields #[(zS "__dict__" 892),(zR 488),(.builtin "function.__dict__"),(.builtin "function.__dict__#set")])
def o498:=zO "getset_descriptor" (.fields #[(zS "__weakref__" 894),(zR 488),(.builtin "ExceptionGroup.__weakref__"),.none])
def o501 (P:zW):=zO "dict" (.dict #[e P "__name__" 165 z1,e P "__doc__" 166 .none,e P "__package__" 167 .none,e P "__loader__" 168 (.builtin "__main__.__loader__#opaque"),e P "__spec__" 169 .none,e P "__annotations__" 170 (zR 6),e P "__builtins__" 171 (zR 4),e P "__file__" 173 z3,e P "__cached__" 174 .none,e P "_wall" 193 (zR 21),e P "all_unique" 204 (zR 28),e P "is_even" 211 (zR 35),e P "to_sorted_pair" 219 (zR 42),e P "Event" 228 (zR 49),e P "is_event_left" 235 (zR 56),e P "segment_id_to_left_event" 242 (zR 63),e P "segment_id_to_right_event" 249 (zR 70),e P "EventsQueueKey" 301 (zR 94),e P "_tuplegetter" 360 (zR 137),e P "Point" 475 (zR 209),e P "Kind" 506 (zR 229),e P "Orientation" 545 (zR 252),e P "Relation" 607 (zR 287),e P "Segment" 638 (zR 308),e P "Contour" 667 (zR 329),e P "Context" 732 (zR 369),e P "PriorityQueue" 790 (zR 411),e P "KeyedSet" 897 (zR 488),e P "red_black" 936 (zR 512),e P "SweepLineKey" 1000 (zR 540)] 30)
def o502:=zN (.fields #[(zI 1),(zI 0),(zR 20),(zI 5),(zI 0),(zR 27),(zI 12),(zI 0),(zR 34),(zI 14),(zI 0),(zR 41),(zI 17),(zI 0),(zR 48),(zI 19),(zI 0),(zR 55),(zI 21),(zI 0),(zR 62),(zI 23),(zI 0),(zR 69),(zI 26),(zI 0),(zR 76),(zI 47),(zI 0),(zR 104),(zI 65),(zI 0),(zR 148),(zI 107),(zI 0),(zR 218),(zI 112),(zI 0),(zR 239),(zI 116),(zI 0),(zR 262),(zI 124),(zI 0),(zR 297),(zI 128),(zI 0),(zR 318),(zI 132),(zI 0),(zR 339),(zI 160),(zI 0),(zR 379),(zI 182),(zI 0),(zR 421),(zI 238),(zI 0),(zR 498),(zI 244),(zI 0),(zR 522)])
def o512:=zT [(zS "key" 913)]
def o515:=zC "set_" "red_black.set_" 910 240 1 0 0 3 500 true 181 501 .none (zR 502) (zR 503) (zR 504) 914
def o516:=zO "function" (.func (fd (a2 23 0) (.ofString "red_black.set_") 3 [] .none .none .none z0 (some 509) (zR 505) .none 0))
def o517 (P:zW):=zO "dict" (.dict #[e P "__module__" 917 z0,e P "__name__" 920 (zS "set_" 919),e P "__qualname__" 923 (zS "red_black.set_" 922),e P "__doc__" 925 .none,e P "__annotations__" 927 (zR 509)] 5)
def o518:Obj:=⟨(.type "staticmethod"),(some 507),(.fields #[(zR 506),(.bool false)]),#[]⟩
def o521 (P:zW):=zO "dict" (.dict #[e P "__module__" 905 z0,e P "__firstlineno__" 909 (.int 238 908),e P "set_" 928 (zR 508),e P "__static_attributes__" 929 (zR 510),e P "__dict__" 931 (zR 513),e P "__weakref__" 933 (zR 514),e P "__doc__" 934 .none] 4)
def o522:Obj:=⟨(.type "type"),none,(.cls ⟨(.ofString "red_black"),[(.type "object")],[(zR 512),(.type "object")],511,(.ofString "red_black"),true,[],[],false,none,false⟩),#[none,none,(some (zS "red_black" 898)),(some (zS "red_black" 906)),(some (.builtin "object.__new__")),(some (.bool true))]⟩
def o523:=zO "getset_descriptor" (.fields #[(zS "__dict__" 930),(zR 512),(.builtin "function.__dict__"),(.builtin "function.__dict__#set")])
def o524:=zO "getset_descriptor" (.fields #[(zS "__weakref__" 932),(zR 512),(.builtin "ExceptionGroup.__weakref__"),.none])
def o536:=zT [(zS "self" 954),(zS "endpoints" 955),(zS "opposites" 956),(zS "event" 957),(zS "orienteer" 958)]
def o539:=zC "__init__" "SweepLineKey.__init__" 951 246 5 5 0 3 524 true 181 525 .none (zR 526) (zR 527) (zR 528) 959
def o540:=zF (a2 25 0) "SweepLineKey.__init__" z5 529
def o543:=zT [(zS "self" 965),(zS "other" 966),(zS "event" 967),(zS "other_event" 968),(zS "start" 969),(zS "other_start" 970),(zS "end" 971),(zS "other_end" 972),(zS "other_start_orientation" 973),(zS "other_end_orientation" 974),(zS "start_x" 975),(zS "start_y" 976),(zS "other_start_x" 977),(zS "other_start_y" 978),(zS "end_x" 979),(zS "end_y" 980),(zS "other_end_x" 981),(zS "other_end_y" 982),(zS "start_orientation" 983),(zS "end_orientation" 984)]
def o546:=zC "__lt__" "SweepLineKey.__lt__" 962 249 2 2 0 3 531 true 181 532 .none (zR 533) (zR 534) (zR 535) 985
def o547:=zO "function" (.func (fd (a2 25 1) (.ofString "SweepLineKey.__lt__") 3 [] .none .none (dV (a2 25 1) 987) z5 none (zR 536) .none 0))
def o548:=zT [(zS "_orienteer" 989),(zS "endpoints" 990),(zS "event" 991),(zS "opposites" 992)]
def o549 (P:zW):=zO "dict" (.dict #[e P "__module__" 946 z5,e P "__firstlineno__" 950 (.int 244 949),e P "__init__" 961 (zR 530),e P "__lt__" 988 (zR 537),e P "__static_attributes__" 993 (zR 538),e P "__dict__" 995 (zR 541),e P "__weakref__" 997 (zR 542),e P "__doc__" 998 .none] 4)
def o550:Obj:=⟨(.type "type"),none,(.cls ⟨(.ofString "SweepLineKey"),[(.type "object")],[(zR 540),(.type "object")],539,(.ofString "SweepLineKey"),true,[],[],false,none,false⟩),#[none,none,(some (zS "SweepLineKey" 939)),(some (zS "SweepLineKey" 947)),(some (.builtin "object.__new__")),(some (.bool true))]⟩
def o551:=zO "getset_descriptor" (.fields #[(zS "__dict__" 994),(zR 540),(.builtin "function.__dict__"),(.builtin "function.__dict__#set")])
def o552:=zO "getset_descriptor" (.fields #[(zS "__weakref__" 996),(zR 540),(.builtin "ExceptionGroup.__weakref__"),.none])
def o555 (P:zW):=zO "dict" (.dict #[e P "__name__" 165 (zS "law_ba0023_04" 1456),e P "__doc__" 166 .none,e P "__package__" 167 .none,e P "__loader__" 168 (.builtin "__main__.__loader__#opaque"),e P "__spec__" 169 .none,e P "__annotations__" 170 (zR 6),e P "__builtins__" 171 (zR 4),e P "__file__" 173 z3,e P "__cached__" 174 .none,e P "_wall" 193 (zR 21),e P "all_unique" 204 (zR 28),e P "is_even" 211 (zR 35),e P "to_sorted_pair" 219 (zR 42),e P "Event" 228 (zR 49),e P "is_event_left" 235 (zR 56),e P "segment_id_to_left_event" 242 (zR 63),e P "segment_id_to_right_event" 249 (zR 70),e P "EventsQueueKey" 301 (zR 94),e P "_tuplegetter" 360 (zR 137),e P "Point" 475 (zR 209),e P "Kind" 506 (zR 229),e P "Orientation" 545 (zR 252),e P "Relation" 607 (zR 287),e P "Segment" 638 (zR 308),e P "Contour" 667 (zR 329),e P "Context" 732 (zR 369),e P "PriorityQueue" 790 (zR 411),e P "KeyedSet" 897 (zR 488),e P "red_black" 936 (zR 512),e P "SweepLineKey" 1000 (zR 540),e P "EventsRegistry" 1340 (zR 761),e P "Intersection" 1419 (zR 822),e P "sweep" 1433 (zR 833),e P "segments_ids_containing_point_to_intersections" 1439 (zR 838),e P "contour_self_intersects" 1455 (zR 845),e P "_law_spread" 1459 (.int 5040 1458),e P "law" 1465 (zR 850)] 37)
def o566:=zT [(zS "cls" 1018),(zS "segments" 1019),(zS "orienteer" 1020),(zS "segments_intersector" 1021),(zS "unique" 1022),(zS "result" 1023),(zS "segment_id" 1024),(zS "segment" 1025),(zS "left_event" 1026),(zS "right_event" 1027),(zS "start" 1028),(zS "end" 1029)]
def o569:=zC "from_segments" "EventsRegistry.from_segments" 1015 289 4 4 1 3 552 true 181 553 .none (zR 554) (zR 555) (zR 556) 1030
def o570:=zO "function" (.func (fd (a2 27 0) (.ofString "EventsRegistry.from_segments") 3 [] .none .none .none z1 (some 561) (zR 557) .none 0))
def o571 (P:zW):=zO "dict" (.dict #[e P "__module__" 1033 z1,e P "__name__" 1036 (zS "from_segments" 1035),e P "__qualname__" 1039 (zS "EventsRegistry.from_segments" 1038),e P "__doc__" 1041 .none,e P "__annotations__" 1043 (zR 561)] 5)
def o572:Obj:=⟨(.type "classmethod"),(some 559),(.fields #[(zR 558),(.bool false)]),#[]⟩
def o576:=zT [(zS "self" 1048)]
def o579:=zC "unique" "EventsRegistry.unique" 1045 308 1 1 0 3 562 true 181 563 .none (zR 564) (zR 565) (zR 566) 1049
def o580:=zF (a2 27 1) "EventsRegistry.unique" z1 567
def o581:=zO "property" (.fields #[(zR 568),.none,.none,.none,(zS "unique" 1052),(.bool false)])
def o584:=zT [(zS "self" 1056),(zS "first_segment_id" 1057),(zS "second_segment_id" 1058)]
def o587:=zC "are_collinear" "EventsRegistry.are_collinear" 1053 312 3 3 0 3 570 true 181 571 .none (zR 572) (zR 573) (zR 574) 1059
def o588:=zF (a2 27 2) "EventsRegistry.are_collinear" z1 575
def o591:=zT [(zS "self" 1065),(zS "event" 1066)]
def o594:=zC "to_event_end" "EventsRegistry.to_event_end" 1062 315 2 2 0 3 577 true 181 578 .none (zR 579) (zR 580) (zR 581) 1067
def o595:=zF (a2 27 3) "EventsRegistry.to_event_end" z1 582
def o598:=zT [(zS "self" 1073),(zS "event" 1074)]
def o601:=zC "to_event_segment_id" "EventsRegistry.to_event_segment_id" 1070 318 2 2 0 3 584 true 181 585 .none (zR 586) (zR 587) (zR 588) 1075
def o602:=zF (a2 27 4) "EventsRegistry.to_event_segment_id" z1 589
def o605:=zT [(zS "self" 1081),(zS "event" 1082)]
def o608:=zC "to_event_start" "EventsRegistry.to_event_start" 1078 321 2 2 0 3 591 true 181 592 .none (zR 593) (zR 594) (zR 595) 1083
def o609:=zF (a2 27 5) "EventsRegistry.to_event_start" z1 596
def o612:=zT [(zS "self" 1089),(zS "segment_id" 1090)]
def o615:=zC "to_segment_end" "EventsRegistry.to_segment_end" 1086 324 2 2 0 3 598 true 181 599 .none (zR 600) (zR 601) (zR 602) 1091
def o616:=zF (a2 27 6) "EventsRegistry.to_segment_end" z1 603
def o619:=zT [(zS "self" 1097),(zS "segment_id" 1098)]
def o622:=zC "to_segment_start" "EventsRegistry.to_segment_start" 1094 327 2 2 0 3 605 true 181 606 .none (zR 607) (zR 608) (zR 609) 1099
def o623:=zF (a2 27 7) "EventsRegistry.to_segment_start" z1 610
def o626:=zT [(zS "self" 1105),(zS "orienteer" 1106),(zS "segments_intersector" 1107),(zS "unique" 1108)]
def o627:=zT [(zS "self" 1109)]
def FW:=zC "__init__" "EventsRegistry.__init__" 1102 330 4 4 0 3 612 true 181 613 .none (zR 614) (zR 615) (zR 616) 1110
def o630:=zF (a2 27 8) "EventsRegistry.__init__" z1 617
def o633:=zT [(zS "self" 1116),(zS "event" 1117)]
def o636:=zC "_event_to_sweep_line_key" "EventsRegistry._event_to_sweep_line_key" 1113 339 2 2 0 3 619 true 181 620 .none (zR 621) (zR 622) (zR 623) 1118
def o637:=zF (a2 27 9) "EventsRegistry._event_to_sweep_line_key" z1 624
def o640:=zT [(zS "self" 1124)]
def o643:=zC "__bool__" "EventsRegistry.__bool__" 1121 342 1 1 0 3 626 true 181 627 .none (zR 628) (zR 629) (zR 630) 1125
def o644:=zF (a2 27 10) "EventsRegistry.__bool__" z1 631
def o647:=zT [(zS "self" 1131),(zS "event" 1132),(zS "equal_segment_event" 1133),(zS "below_event" 1134),(zS "above_event" 1135),(zS "event_opposite" 1136)]
def o650:=zC "__iter__" "EventsRegistry.__iter__" 1128 345 1 1 0 35 633 true 181 634 .none (zR 635) (zR 636) (zR 637) 1137
def o651:=zF (a2 27 11) "EventsRegistry.__iter__" z1 638
def o654:=zT [(zS "self" 1143),(zS "event" 1144)]
def o657:=zC "_above" "EventsRegistry._above" 1140 377 2 2 0 3 640 true 181 641 .none (zR 642) (zR 643) (zR 644) 1145
def o658:=zF (a2 27 12) "EventsRegistry._above" z1 645
def o661:=zT [(zS "self" 1151),(zS "event" 1152)]
def o664:=zC "_add" "EventsRegistry._add" 1148 384 2 2 0 3 647 true 181 648 .none (zR 649) (zR 650) (zR 651) 1153
def o665:=zF (a2 27 13) "EventsRegistry._add" z1 652
def o668:=zT [(zS "self" 1159),(zS "event" 1160)]
def o671:=zC "_below" "EventsRegistry._below" 1156 388 2 2 0 3 654 true 181 655 .none (zR 656) (zR 657) (zR 658) 1161
def o672:=zF (a2 27 14) "EventsRegistry._below" z1 659
def o675:=zT [(zS "self" 1167),(zS "below_event" 1168),(zS "event" 1169),(zS "event_start" 1170),(zS "event_end" 1171),(zS "below_event_start" 1172),(zS "below_event_end" 1173),(zS "event_start_orientation" 1174),(zS "event_end_orientation" 1175),(zS "max_end_event" 1176),(zS "min_end_event" 1177),(zS "min_end" 1178),(zS "_" 1179),(zS "min_end_max_end_event" 1180),(zS "max_start_event" 1181),(zS "min_start_event" 1182),(zS "max_start" 1183),(zS "max_start_to_min_start_event" 1184),(zS "max_start_to_end_event" 1185),(zS "point" 1186),(zS "below_event_start_orientation" 1187),(zS "below_event_end_orientation" 1188),(zS "cross_point" 1189)]
def o678:=zC "_detect_intersection" "EventsRegistry._detect_intersection" 1164 395 3 3 0 3 661 true 181 662 .none (zR 663) (zR 664) (zR 665) 1190
def o679:=zF (a2 27 15) "EventsRegistry._detect_intersection" z1 666
def o682:=zT [(zS "self" 1196),(zS "event" 1197),(zS "mid_point" 1198),(zS "opposite_event" 1199),(zS "mid_point_to_event_end_event" 1200),(zS "mid_point_to_event_start_event" 1201)]
def o685:=zC "_divide" "EventsRegistry._divide" 1193 457 3 3 0 3 668 true 181 669 .none (zR 670) (zR 671) (zR 672) 1202
def o686:=zF (a2 27 16) "EventsRegistry._divide" z1 673
def o689:=zT [(zS "self" 1208),(zS "event" 1209),(zS "mid_segment_event" 1210),(zS "mid_segment_event_start" 1211),(zS "mid_segment_event_end" 1212),(zS "mid_segment_event_start_to_event_start_event" 1213),(zS "min_segment_event_start_to_min_segment_event_end_event" 1214)]
def o692:=zC "_divide_event_by_mid_segment_event_endpoints" "EventsRegistry._divide_event_by_mid_segment_event_endpoints" 1205 471 5 5 0 3 675 true 181 676 .none (zR 677) (zR 678) (zR 679) 1215
def o693:=zF (a2 27 17) "EventsRegistry._divide_event_by_mid_segment_event_endpoints" z1 680
def o696:=zT [(zS "self" 1221),(zS "event" 1222),(zS "point" 1223),(zS "point_to_event_start_event" 1224),(zS "point_to_event_end_event" 1225)]
def o699:=zC "_divide_event_by_midpoint" "EventsRegistry._divide_event_by_midpoint" 1218 477 3 3 0 3 682 true 181 683 .none (zR 684) (zR 685) (zR 686) 1226
def o700:=zF (a2 27 18) "EventsRegistry._divide_event_by_midpoint" z1 687
def o703:=zT [(zS "self" 1232),(zS "event" 1233),(zS "point" 1234),(zS "above_event" 1235)]
def o706:=zC "_divide_event_by_midpoint_checking_above" "EventsRegistry._divide_event_by_midpoint_checking_above" 1229 482 3 3 0 3 689 true 181 690 .none (zR 691) (zR 692) (zR 693) 1236
def o707:=zF (a2 27 19) "EventsRegistry._divide_event_by_midpoint_checking_above" z1 694
def o710:=zT [(zS "self" 1242),(zS "min_start_event" 1243),(zS "max_start_event" 1244),(zS "max_start" 1245),(zS "min_end" 1246),(zS "max_start_to_min_start_event" 1247),(zS "max_start_to_min_end_event" 1248)]
def o713:=zC "_divide_overlapping_events" "EventsRegistry._divide_overlapping_events" 1239 491 5 5 0 3 696 true 181 697 .none (zR 698) (zR 699) (zR 700) 1249
def o714:=zF (a2 27 20) "EventsRegistry._divide_overlapping_events" z1 701
def o717:=zT [(zS "self" 1255),(zS "event" 1256),(zS "candidate" 1257)]
def o720:=zC "_find" "EventsRegistry._find" 1252 497 2 2 0 3 703 true 181 704 .none (zR 705) (zR 706) (zR 707) 1258
def o721:=zF (a2 27 21) "EventsRegistry._find" z1 708
def o724:=zT [(zS "self" 1264),(zS "first" 1265),(zS "second" 1266),(zS "first_segment_id" 1267),(zS "second_segment_id" 1268),(zS "first_min_collinear_segment_id" 1269),(zS "second_min_collinear_segment_id" 1270),(zS "min_collinear_segment_id" 1271)]
def o727:=zC "_merge_equal_segment_events" "EventsRegistry._merge_equal_segment_events" 1261 506 3 3 0 3 710 true 181 711 .none (zR 712) (zR 713) (zR 714) 1272
def o728:=zF (a2 27 22) "EventsRegistry._merge_equal_segment_events" z1 715
def o731:=zT [(zS "self" 1278)]
def o734:=zC "_pop" "EventsRegistry._pop" 1275 517 1 1 0 3 717 true 181 718 .none (zR 719) (zR 720) (zR 721) 1279
def o735:=zF (a2 27 23) "EventsRegistry._pop" z1 722
def o738:=zT [(zS "self" 1285),(zS "event" 1286)]
def o741:=zC "_push" "EventsRegistry._push" 1282 520 2 2 0 3 724 true 181 725 .none (zR 726) (zR 727) (zR 728) 1287
def o742:=zF (a2 27 24) "EventsRegistry._push" z1 729
def o745:=zT [(zS "self" 1293),(zS "event" 1294)]
def o748:=zC "_remove" "EventsRegistry._remove" 1290 523 2 2 0 3 731 true 181 732 .none (zR 733) (zR 734) (zR 735) 1295
def o749:=zF (a2 27 25) "EventsRegistry._remove" z1 736
def o752:=zT [(zS "self" 1301),(zS "event" 1302)]
def o755:=zC "_to_left_event_segment_id" "EventsRegistry._to_left_event_segment_id" 1298 527 2 2 0 3 738 true 181 739 .none (zR 740) (zR 741) (zR 742) 1303
def o756:=zF (a2 27 26) "EventsRegistry._to_left_event_segment_id" z1 743
def o759:=zT [(zS "self" 1309),(zS "segment_id" 1310),(zS "candidate" 1311),(zS "iterations_count" 1312)]
def o762:=zC "_to_min_collinear_segment_id" "EventsRegistry._to_min_collinear_segment_id" 1306 531 2 2 0 3 745 true 181 746 .none (zR 747) (zR 748) (zR 749) 1313
def o763:=zF (a2 27 27) "EventsRegistry._to_min_collinear_segment_id" z1 750
def o766:=zT [(zS "self" 1319),(zS "event" 1320)]
def o769:=zC "_to_opposite_event" "EventsRegistry._to_opposite_event" 1316 540 2 2 0 3 752 true 181 753 .none (zR 754) (zR 755) (zR 756) 1321
def o770:=zF (a2 27 28) "EventsRegistry._to_opposite_event" z1 757
def o771:=zT [(zS "_endpoints" 1324),(zS "_events_queue_data" 1325),(zS "_min_collinear_segments_ids" 1326),(zS "_opposites" 1327),(zS "_orienteer" 1328),(zS "_segments_ids" 1329),(zS "_segments_intersector" 1330),(zS "_sweep_line_data" 1331),(zS "_unique" 1332)]
def o772 (P:zW):=zO "dict" (.dict #[e P "__module__" 1010 z1,e P "__firstlineno__" 1014 (.int 287 1013),e P "from_segments" 1044 (zR 560),e P "unique" 1052 (zR 569),e P "are_collinear" 1061 (zR 576),e P "to_event_end" 1069 (zR 583),e P "to_event_segment_id" 1077 (zR 590),e P "to_event_start" 1085 (zR 597),e P "to_segment_end" 1093 (zR 604),e P "to_segment_start" 1101 (zR 611),e P "__init__" 1112 (zR 618),e P "_event_to_sweep_line_key" 1120 (zR 625),e P "__bool__" 1127 (zR 632),e P "__iter__" 1139 (zR 639),e P "_above" 1147 (zR 646),e P "_add" 1155 (zR 653),e P "_below" 1163 (zR 660),e P "_detect_intersection" 1192 (zR 667),e P "_divide" 1204 (zR 674),e P "_divide_event_by_mid_segment_event_endpoints" 1217 (zR 681),e P "_divide_event_by_midpoint" 1228 (zR 688),e P "_divide_event_by_midpoint_checking_above" 1238 (zR 695),e P "_divide_overlapping_events" 1251 (zR 702),e P "_find" 1260 (zR 709),e P "_merge_equal_segment_events" 1274 (zR 716),e P "_pop" 1281 (zR 723),e P "_push" 1289 (zR 730),e P "_remove" 1297 (zR 737),e P "_to_left_event_segment_id" 1305 (zR 744),e P "_to_min_collinear_segment_id" 1315 (zR 751),e P "_to_opposite_event" 1323 (zR 758),e P "__static_attributes__" 1333 (zR 759),e P "__dict__" 1335 (zR 762),e P "__weakref__" 1337 (zR 763),e P "__doc__" 1338 .none] 4)
def o773:Obj:=⟨(.type "type"),none,(.cls ⟨(.ofString "EventsRegistry"),[(.type "object")],[(zR 761),(.type "object")],760,(.ofString "EventsRegistry"),true,[],[],false,none,false⟩),#[none,none,(some (zS "EventsRegistry" 1003)),(some (zS "EventsRegistry" 1011)),(some (.builtin "object.__new__")),(some (.bool true))]⟩
def o774:=zO "getset_descriptor" (.fields #[(zS "__dict__" 1334),(zR 761),(.builtin "function.__dict__"),(.builtin "function.__dict__#set")])
def o775:=zO "getset_descriptor" (.fields #[(zS "__weakref__" 1336),(zR 761),(.builtin "ExceptionGroup.__weakref__"),.none])
def o787:=zT [(zS "self" 1358)]
def o790:=zC "end" "Intersection.end" 1355 545 1 1 0 3 773 true 181 774 .none (zR 775) (zR 776) (zR 777) 1359
def o791:=zF (a2 29 0) "Intersection.end" z2 778
def o792:=zO "property" (.fields #[(zR 779),.none,.none,.none,(zS "end" 1362),(.bool false)])
def o795:=zT [(zS "self" 1366)]
def o798:=zC "first_segment_id" "Intersection.first_segment_id" 1363 549 1 1 0 3 781 true 181 782 .none (zR 783) (zR 784) (zR 785) 1367
def o799:=zF (a2 29 1) "Intersection.first_segment_id" z2 786
def o800:=zO "property" (.fields #[(zR 787),.none,.none,.none,(zS "first_segment_id" 1370),(.bool false)])
def o803:=zT [(zS "self" 1374)]
def o806:=zC "relation" "Intersection.relation" 1371 553 1 1 0 3 789 true 181 790 .none (zR 791) (zR 792) (zR 793) 1375
def o807:=zF (a2 29 2) "Intersection.relation" z2 794
def o808:=zO "property" (.fields #[(zR 795),.none,.none,.none,(zS "relation" 1378),(.bool false)])
def o811:=zT [(zS "self" 1382)]
def o814:=zC "second_segment_id" "Intersection.second_segment_id" 1379 557 1 1 0 3 797 true 181 798 .none (zR 799) (zR 800) (zR 801) 1383
def o815:=zF (a2 29 3) "Intersection.second_segment_id" z2 802
def o816:=zO "property" (.fields #[(zR 803),.none,.none,.none,(zS "second_segment_id" 1386),(.bool false)])
def o819:=zT [(zS "self" 1390)]
def o822:=zC "start" "Intersection.start" 1387 561 1 1 0 3 805 true 181 806 .none (zR 807) (zR 808) (zR 809) 1391
def o823:=zF (a2 29 4) "Intersection.start" z2 810
def o824:=zO "property" (.fields #[(zR 811),.none,.none,.none,(zS "start" 1394),(.bool false)])
def o827:=zT [(zS "self" 1398),(zS "first_segment_id" 1399),(zS "second_segment_id" 1400),(zS "relation" 1401),(zS "start" 1402),(zS "end" 1403)]
def o830:=zC "__init__" "Intersection.__init__" 1395 565 6 6 0 3 813 true 181 814 .none (zR 815) (zR 816) (zR 817) 1404
def o831:=zF (a2 29 5) "Intersection.__init__" z2 818
def o832:=zT [(zS "_end" 1407),(zS "_first_segment_id" 1408),(zS "_relation" 1409),(zS "_second_segment_id" 1410),(zS "_start" 1411)]
def o833 (P:zW):=zO "dict" (.dict #[e P "__module__" 1350 z2,e P "__firstlineno__" 1354 (.int 543 1353),e P "end" 1362 (zR 780),e P "first_segment_id" 1370 (zR 788),e P "relation" 1378 (zR 796),e P "second_segment_id" 1386 (zR 804),e P "start" 1394 (zR 812),e P "__init__" 1406 (zR 819),e P "__static_attributes__" 1412 (zR 820),e P "__dict__" 1414 (zR 823),e P "__weakref__" 1416 (zR 824),e P "__doc__" 1417 .none] 4)
def o834:Obj:=⟨(.type "type"),none,(.cls ⟨(.ofString "Intersection"),[(.type "object")],[(zR 822),(.type "object")],821,(.ofString "Intersection"),true,[],[],false,none,false⟩),#[none,none,(some (zS "Intersection" 1343)),(some (zS "Intersection" 1351)),(some (.builtin "object.__new__")),(some (.bool true))]⟩
def o835:=zO "getset_descriptor" (.fields #[(zS "__dict__" 1413),(zR 822),(.builtin "function.__dict__"),(.builtin "function.__dict__#set")])
def o836:=zO "getset_descriptor" (.fields #[(zS "__weakref__" 1415),(zR 822),(.builtin "ExceptionGroup.__weakref__"),.none])
def o841:=zT [(zS "segments" 1423),(zS "orienteer" 1424),(zS "segments_intersector" 1425),(zS "events_registry" 1426),(zS "start" 1427),(zS "segments_ids_containing_start" 1428),(zS "event" 1429),(zS "event_start" 1430)]
def o844:=zC "sweep" "sweep" 1420 568 3 3 0 35 827 true 181 828 .none (zR 829) (zR 830) (zR 831) 1431
def o845:=zF (a1 30) "sweep" z2 832
def o849:=zC "segments_ids_containing_point_to_intersections" "segments_ids_containing_point_to_intersections" 1434 581 3 3 0 35 834 true 181 835 .none .none .none (zR 836) 1437
def o850:=zF (a1 31) "segments_ids_containing_point_to_intersections" z2 837
def o853:=zT [(zS "contour" 1445),(zS "context" 1446),(zS "vertices" 1447),(zS "segments" 1448),(zS "previous" 1449),(zS "intersection" 1450)]
def o854:=zT [(zS "context" 1451)]
def FV:=zC "contour_self_intersects" "contour_self_intersects" 1442 622 1 1 1 3 839 true 181 840 .none (zR 841) (zR 842) (zR 843) 1452
def o857:=zO "function" (.func (fd (a1 33) (.ofString "contour_self_intersects") 3 [] .none .none (dV (a1 33) 1454) (zS "bentley_ottmann.planar" 1440) none (zR 844) .none 0))
def o861:=zC "law" "law" 1460 678 1 0 0 3 846 true 181 847 .none .none .none (zR 848) 1463
def o862:=zF (a1 36) "law" (zS "law_ba0023_04" 1456) 849
def oo (P:zW):List Obj:=[o0 P,o1 P,o2 P,o555 P,o4 P,o5 P,o6 P,o7 P,o8 P,o9 P,o10 P,aV,zN (.fields #[(zI 1),(zI 0),(zR 20),(zI 5),(zI 0),(zR 27),(zI 12),(zI 0),(zR 34),(zI 14),(zI 0),(zR 41),(zI 17),(zI 0),(zR 48),(zI 19),(zI 0),(zR 55),(zI 21),(zI 0),(zR 62),(zI 23),(zI 0),(zR 69),(zI 26),(zI 0),(zR 76),(zI 47),(zI 0),(zR 104),(zI 65),(zI 0),(zR 148),(zI 107),(zI 0),(zR 218),(zI 112),(zI 0),(zR 239),(zI 116),(zI 0),(zR 262),(zI 124),(zI 0),(zR 297),(zI 128),(zI 0),(zR 318),(zI 132),(zI 0),(zR 339),(zI 160),(zI 0),(zR 379),(zI 182),(zI 0),(zR 421),(zI 238),(zI 0),(zR 498),(zI 244),(zI 0),(zR 522),(zI 287),(zI 0),(zR 550),(zI 543),(zI 0),(zR 771),(zI 568),(zI 0),(zR 832),(zI 581),(zI 0),(zR 837),(zI 622),(zI 0),(zR 844),(zI 678),(zI 0),(zR 849)]),o13,o14,aV,ft,o19,aV,zN (.func (f0 (a1 0) "_wall")),o22,o23,aV,ft,o26,aV,zN (.func (f0 (a1 2) "all_unique")),o29,o30,aV,ft,o33,aV,zN (.func (f0 (a1 3) "is_even")),o36,o37,aV,ft,o40,aV,zN (.func (f0 (a1 4) "to_sorted_pair")),o43,o44,aV,ft,o47,aV,zN (.func (f0 (a1 6) "Event")),o50,o51,aV,ft,o54,aV,zN (.func (f0 (a1 7) "is_event_left")),o57,o58,aV,ft,o61,aV,zN (.func (f0 (a1 8) "segment_id_to_left_event")),o64,o65,aV,ft,o68,aV,zN (.func (f0 (a1 9) "segment_id_to_right_event")),o71,o72,aV,vi,zO "dict" (.dict #[e P "__module__" 259 z4,e P "__qualname__" 261 (zS "EventsQueueKey" 260),e P "__firstlineno__" 263 (.int 26 262),e P "__init__" 273 (zR 84),e P "__lt__" 290 (zR 91),e P "__static_attributes__" 294 (zR 92)] 6),aV,zN (.fields #[(zI 28),(zI 4),(zR 83),(zI 31),(zI 4),(zR 90)]),zC "EventsQueueKey" "EventsQueueKey" 254 26 0 0 0 0 74 false 181 75 .none .none .none .none 257,⟨(.type "frame"),none,.plain,#[(some (zR 76)),(some (zR 3)),(some (zR 73)),none,(some z4),none,(some (zR 0))]⟩,aV,ft,o82,aV,zN (.func (f0 (a2 11 0) "EventsQueueKey.__init__")),o85,o86,aV,ft,o89,aV,zN (.func (f0 (a2 11 1) "EventsQueueKey.__lt__")),o92,o93,o94,o95 P,o96,o97,o98,zO "super" (.fields #[(zR 94),(zR 94),(zR 94)]),zO "builtin_function_or_method" (.fields #[(.builtin "object.__init_subclass__"),(zR 94)]),aV,vi,zO "dict" (.dict #[e P "__module__" 311 z0,e P "__qualname__" 313 (zS "_tuplegetter" 312),e P "__firstlineno__" 315 (.int 47 314),e P "__init__" 324 (zR 112),e P "__get__" 333 (zR 120),e P "__set__" 342 (zR 127),e P "__delete__" 350 (zR 134),e P "__static_attributes__" 353 (zR 135)] 8),aV,zN (.fields #[(zI 49),(zI 4),(zR 111),(zI 53),(zI 4),(zR 119),(zI 60),(zI 4),(zR 126),(zI 63),(zI 4),(zR 133)]),zC "_tuplegetter" "_tuplegetter" 306 47 0 0 0 0 102 false 181 103 .none .none .none .none 309,⟨(.type "frame"),none,.plain,#[(some (zR 104)),(some (zR 3)),(some (zR 101)),none,(some z0),none,(some (zR 0))]⟩,aV,ft,o110,aV,zN (.func (f0 (a2 13 0) "_tuplegetter.__init__")),o113,o114,FZ,aV,ft,o118,aV,zN (.func (f0 (a2 13 1) "_tuplegetter.__get__")),o121,o122,aV,ft,o125,aV,zN (.func (f0 (a2 13 2) "_tuplegetter.__set__")),o128,o129,aV,ft,o132,aV,zN (.func (f0 (a2 13 3) "_tuplegetter.__delete__")),o135,o136,o137,o138 P,o139,o140,o141,zO "super" (.fields #[(zR 137),(zR 137),(zR 137)]),zO "builtin_function_or_method" (.fields #[(.builtin "object.__init_subclass__"),(zR 137)]),o146,vi,zO "dict" (.dict #[e P "__module__" 368 z0,e P "__qualname__" 370 (zS "Point" 369),e P "__firstlineno__" 372 (.int 65 371),e P "__doc__" 374 (zS "Point(x, y)" 373),e P "__slots__" 376 (zR 150),e P "_fields" 379 (zR 151),e P "_field_defaults" 380 (zR 152),e P "__new__" 390 (zR 159),e P "_make" 412 (zR 168),e P "_replace" 423 (zR 177),e P "__replace__" 424 (zR 177),e P "__repr__" 432 (zR 184),e P "_asdict" 439 (zR 191),e P "__getnewargs__" 447 (zR 198),e P "__match_args__" 450 (zR 199),e P "x" 460 (zR 201),e P "y" 470 (zR 204),e P "__static_attributes__" 471 (zR 206),e P "__classcell__" 472 (zR 145)] 19),o149,aV,zN (.fields #[(zI 71),(zI 4),(zR 158),(zI 76),(zI 4),(zR 165),(zI 83),(zI 4),(zR 176),(zI 94),(zI 4),(zR 183),(zI 98),(zI 4),(zR 190),(zI 101),(zI 4),(zR 197)]),zC "Point" "Point" 363 65 0 0 0 0 146 false 181 147 .none .none .none .none 366,⟨(.type "frame"),none,.plain,#[(some (zR 148)),(some (zR 3)),(some (zR 144)),none,(some z0),none,(some (zR 0))]⟩,aV,o155,tx,aV,ft,o159,aV,zN (.func (f0 (a2 14 4) "Point.__new__")),o162,o163,aV,ft,o166,aV,zN (.func (f0 (a2 14 5) "Point._make")),o169,o170,o171 P,o172,tx,o174,o175,ft,o177,aV,zN (.func (f0 (a2 14 6) "Point._replace")),o180,o181,aV,ft,o184,aV,zN (.func (f0 (a2 14 8) "Point.__repr__")),o187,o188,aV,ft,o191,aV,zN (.func (f0 (a2 14 9) "Point._asdict")),o194,o195,aV,ft,o198,aV,zN (.func (f0 (a2 14 10) "Point.__getnewargs__")),o201,o202,o203,Ci P,FY,zO "frame" (.dict #[e P "self" 453 (zR 201),e P "index" 454 (.int 0 451),e P "doc" 455 (zS "Alias for field number 0" 452)] 3),Ch P,FX,zO "frame" (.dict #[e P "self" 463 (zR 204),e P "index" 464 (.int 1 461),e P "doc" 465 (zS "Alias for field number 1" 462)] 3),aV,zO "list" (.seq #[] 0),o212 P,Cg,o214,zO "super" (.fields #[(zR 209),(zR 209),(zR 209)]),zO "builtin_function_or_method" (.fields #[(.builtin "object.__init_subclass__"),(zR 209)]),aV,vi,zO "dict" (.dict #[e P "__module__" 483 z0,e P "__qualname__" 485 (zS "Kind" 484),e P "__firstlineno__" 487 (.int 107 486),e P "__doc__" 489 (zS "One of a few kinds, known by itself." 488),e P "__init__" 498 (zR 226),e P "__static_attributes__" 500 (zR 227)] 6),aV,zN (.fields #[(zI 110),(zI 4),(zR 225)]),zC "Kind" "Kind" 478 107 0 0 0 0 216 false 181 217 .none .none .none .none 481,⟨(.type "frame"),none,.plain,#[(some (zR 218)),(some (zR 3)),(some (zR 215)),none,(some z0),none,(some (zR 0))]⟩,aV,ft,o228,aV,zN (.func (f0 (a2 15 1) "Kind.__init__")),o231,o232,o233,o234 P,o235,o236,o237,zO "super" (.fields #[(zR 229),(zR 229),(zR 229)]),zO "builtin_function_or_method" (.fields #[(.builtin "object.__init_subclass__"),(zR 229)]),aV,vi,zO "dict" (.dict #[e P "__module__" 514 z0,e P "__qualname__" 516 (zS "Orientation" 515),e P "__firstlineno__" 518 (.int 112 517),e P "CLOCKWISE" 525 (zR 242),e P "COLLINEAR" 531 (zR 245),e P "COUNTERCLOCKWISE" 537 (zR 248),e P "__static_attributes__" 538 (zR 250)] 7),aV,ft,zC "Orientation" "Orientation" 509 112 0 0 0 0 237 false 181 238 .none .none .none .none 512,⟨(.type "frame"),none,.plain,#[(some (zR 239)),(some (zR 3)),(some (zR 236)),none,(some z0),none,(some (zR 0))]⟩,o247 P,o248,zO "frame" (.dict #[e P "self" 521 (zR 242),e P "value" 522 (.int (-1) 520)] 2),o250 P,o251,zO "frame" (.dict #[e P "self" 527 (zR 245),e P "value" 528 (.int 0 526)] 2),o253 P,o254,zO "frame" (.dict #[e P "self" 533 (zR 248),e P "value" 534 (.int 1 532)] 2),aV,o257 P,o258,o259,o260,zO "super" (.fields #[(zR 252),(zR 252),(zR 252)]),zO "builtin_function_or_method" (.fields #[(.builtin "object.__init_subclass__"),(zR 252)]),aV,vi,zO "dict" (.dict #[e P "__module__" 553 z0,e P "__qualname__" 555 (zS "Relation" 554),e P "__firstlineno__" 557 (.int 116 556),e P "DISJOINT" 563 (zR 265),e P "TOUCH" 569 (zR 268),e P "CROSS" 575 (zR 271),e P "OVERLAP" 581 (zR 274),e P "COMPOSITE" 587 (zR 277),e P "EQUAL" 593 (zR 280),e P "COMPONENT" 599 (zR 283),e P "__static_attributes__" 600 (zR 285)] 11),aV,ft,zC "Relation" "Relation" 548 116 0 0 0 0 260 false 181 261 .none .none .none .none 551,⟨(.type "frame"),none,.plain,#[(some (zR 262)),(some (zR 3)),(some (zR 259)),none,(some z0),none,(some (zR 0))]⟩,o270 P,o271,zO "frame" (.dict #[e P "self" 559 (zR 265),e P "value" 560 (.int 0 558)] 2),o273 P,o274,zO "frame" (.dict #[e P "self" 565 (zR 268),e P "value" 566 (.int 1 564)] 2),o276 P,o277,zO "frame" (.dict #[e P "self" 571 (zR 271),e P "value" 572 (.int 2 570)] 2),o279 P,o280,zO "frame" (.dict #[e P "self" 577 (zR 274),e P "value" 578 (.int 3 576)] 2),o282 P,o283,zO "frame" (.dict #[e P "self" 583 (zR 277),e P "value" 584 (.int 4 582)] 2),o285 P,o286,zO "frame" (.dict #[e P "self" 589 (zR 280),e P "value" 590 (.int 5 588)] 2),o288 P,o289,zO "frame" (.dict #[e P "self" 595 (zR 283),e P "value" 596 (.int 6 594)] 2),aV,o292 P,o293,o294,o295,zO "super" (.fields #[(zR 287),(zR 287),(zR 287)]),zO "builtin_function_or_method" (.fields #[(.builtin "object.__init_subclass__"),(zR 287)]),aV,vi,zO "dict" (.dict #[e P "__module__" 615 z0,e P "__qualname__" 617 (zS "Segment" 616),e P "__firstlineno__" 619 (.int 124 618),e P "__init__" 628 (zR 305),e P "__static_attributes__" 631 (zR 306)] 5),aV,zN (.fields #[(zI 126),(zI 4),(zR 304)]),zC "Segment" "Segment" 610 124 0 0 0 0 295 false 181 296 .none .none .none .none 613,⟨(.type "frame"),none,.plain,#[(some (zR 297)),(some (zR 3)),(some (zR 294)),none,(some z0),none,(some (zR 0))]⟩,aV,ft,o309,aV,zN (.func (f0 (a2 18 0) "Segment.__init__")),o312,o313,o314,o315 P,o316,o317,o318,zO "super" (.fields #[(zR 308),(zR 308),(zR 308)]),zO "builtin_function_or_method" (.fields #[(.builtin "object.__init_subclass__"),(zR 308)]),aV,vi,zO "dict" (.dict #[e P "__module__" 646 z0,e P "__qualname__" 648 (zS "Contour" 647),e P "__firstlineno__" 650 (.int 128 649),e P "__init__" 658 (zR 326),e P "__static_attributes__" 660 (zR 327)] 5),aV,zN (.fields #[(zI 130),(zI 4),(zR 325)]),zC "Contour" "Contour" 641 128 0 0 0 0 316 false 181 317 .none .none .none .none 644,⟨(.type "frame"),none,.plain,#[(some (zR 318)),(some (zR 3)),(some (zR 315)),none,(some z0),none,(some (zR 0))]⟩,aV,ft,o330,aV,zN (.func (f0 (a2 19 0) "Contour.__init__")),o333,o334,o335,o336 P,o337,o338,o339,zO "super" (.fields #[(zR 329),(zR 329),(zR 329)]),zO "builtin_function_or_method" (.fields #[(.builtin "object.__init_subclass__"),(zR 329)]),aV,vi,zO "dict" (.dict #[e P "__module__" 675 z0,e P "__qualname__" 677 (zS "Context" 676),e P "__firstlineno__" 679 (.int 132 678),e P "__doc__" 681 (zS "The geometric context: whole numbers as coordinates, nothing rounded." 680),e P "segment_cls" 691 (zR 347),e P "contour_segments" 697 (zR 352),e P "angle_orientation" 709 (zR 359),e P "segments_intersection" 725 (zR 366),e P "__static_attributes__" 726 (zR 367)] 9),aV,zN (.fields #[(zI 135),(zI 4),(zR 346),(zI 138),(zI 4),(zR 351),(zI 142),(zI 4),(zR 358),(zI 151),(zI 4),(zR 365)]),zC "Context" "Context" 670 132 0 0 0 0 337 false 181 338 .none .none .none .none 673,⟨(.type "frame"),none,.plain,#[(some (zR 339)),(some (zR 3)),(some (zR 336)),none,(some z0),none,(some (zR 0))]⟩,aV,ft,o351,aV,zN (.func (f0 (a2 20 1) "Context.segment_cls")),o354,o355,aV,ft,zN (.func (f0 (a2 20 2) "Context.contour_segments")),o359,o360,aV,ft,o363,aV,zN (.func (f0 (a2 20 3) "Context.angle_orientation")),o366,o367,aV,ft,o370,aV,zN (.func (f0 (a2 20 4) "Context.segments_intersection")),o373,o374,aV,o376 P,o377,o378,o379,zO "super" (.fields #[(zR 369),(zR 369),(zR 369)]),zO "builtin_function_or_method" (.fields #[(.builtin "object.__init_subclass__"),(zR 369)]),aV,vi,zO "dict" (.dict #[e P "__module__" 740 z0,e P "__qualname__" 742 (zS "PriorityQueue" 741),e P "__firstlineno__" 744 (.int 160 743),e P "__doc__" 746 (zS "Values by their key; among equal ones the first that was pushed." 745),e P "__init__" 755 (zR 387),e P "__bool__" 762 (zR 394),e P "push" 774 (zR 401),e P "pop" 781 (zR 408),e P "__static_attributes__" 784 (zR 409)] 9),aV,zN (.fields #[(zI 163),(zI 4),(zR 386),(zI 166),(zI 4),(zR 393),(zI 169),(zI 4),(zR 400),(zI 180),(zI 4),(zR 407)]),zC "PriorityQueue" "PriorityQueue" 735 160 0 0 0 0 377 false 181 378 .none .none .none .none 738,⟨(.type "frame"),none,.plain,#[(some (zR 379)),(some (zR 3)),(some (zR 376)),none,(some z0),none,(some (zR 0))]⟩,aV,ft,o391,aV,zN (.func (f0 (a2 21 1) "PriorityQueue.__init__")),o394,o395,aV,ft,o398,aV,zN (.func (f0 (a2 21 2) "PriorityQueue.__bool__")),o401,o402,aV,ft,o405,aV,zN (.func (f0 (a2 21 3) "PriorityQueue.push")),o408,o409,aV,ft,o412,aV,zN (.func (f0 (a2 21 4) "PriorityQueue.pop")),o415,o416,o417,o418 P,o419,o420,o421,zO "super" (.fields #[(zR 411),(zR 411),(zR 411)]),zO "builtin_function_or_method" (.fields #[(.builtin "object.__init_subclass__"),(zR 411)]),aV,vi,zO "dict" (.dict #[e P "__module__" 798 z0,e P "__qualname__" 800 (zS "KeyedSet" 799),e P "__firstlineno__" 802 (.int 182 801),e P "__doc__" 804 (zS "Values in the order of their keys, no two with equal ones." 803),e P "__init__" 813 (zR 429),e P "_place" 826 (zR 436),e P "_holds" 835 (zR 443),e P "_index" 844 (zR 450),e P "add" 853 (zR 457),e P "remove" 861 (zR 464),e P "floor" 870 (zR 471),e P "next" 879 (zR 478),e P "prev" 888 (zR 485),e P "__static_attributes__" 891 (zR 486)] 14),aV,zN (.fields #[(zI 185),(zI 4),(zR 428),(zI 188),(zI 4),(zR 435),(zI 200),(zI 4),(zR 442),(zI 203),(zI 4),(zR 449),(zI 211),(zI 4),(zR 456),(zI 216),(zI 4),(zR 463),(zI 219),(zI 4),(zR 470),(zI 227),(zI 4),(zR 477),(zI 233),(zI 4),(zR 484)]),zC "KeyedSet" "KeyedSet" 793 182 0 0 0 0 419 false 181 420 .none .none .none .none 796,⟨(.type "frame"),none,.plain,#[(some (zR 421)),(some (zR 3)),(some (zR 418)),none,(some z0),none,(some (zR 0))]⟩,aV,ft,o433,aV,zN (.func (f0 (a2 22 1) "KeyedSet.__init__")),o436,o437,aV,ft,o440,aV,zN (.func (f0 (a2 22 2) "KeyedSet._place")),o443,o444,aV,ft,o447,aV,zN (.func (f0 (a2 22 3) "KeyedSet._holds")),o450,o451,aV,ft,o454,aV,zN (.func (f0 (a2 22 4) "KeyedSet._index")),o457,o458,aV,ft,o461,aV,zN (.func (f0 (a2 22 5) "KeyedSet.add")),o464,o465,aV,ft,o468,aV,zN (.func (f0 (a2 22 6) "KeyedSet.remove")),o471,o472,aV,ft,o475,aV,zN (.func (f0 (a2 22 7) "KeyedSet.floor")),o478,o479,aV,ft,o482,aV,zN (.func (f0 (a2 22 8) "KeyedSet.next")),o485,o486,aV,ft,o489,aV,zN (.func (f0 (a2 22 9) "KeyedSet.prev")),o492,o493,o494,o495 P,o496,o497,o498,zO "super" (.fields #[(zR 488),(zR 488),(zR 488)]),zO "builtin_function_or_method" (.fields #[(.builtin "object.__init_subclass__"),(zR 488)]),aV,vi,zO "dict" (.dict #[e P "__module__" 905 z0,e P "__qualname__" 907 (zS "red_black" 906),e P "__firstlineno__" 909 (.int 238 908),e P "set_" 928 (zR 508),e P "__static_attributes__" 929 (zR 510)] 5),aV,zN (.fields #[(zI 241),(zI 4),(zR 505)]),zC "red_black" "red_black" 900 238 0 0 0 0 496 false 181 497 .none .none .none .none 903,⟨(.type "frame"),none,.plain,#[(some (zR 498)),(some (zR 3)),(some (zR 495)),none,(some z0),none,(some (zR 0))]⟩,aV,ft,o512,aV,zN (.func (f0 (a2 23 0) "red_black.set_")),o515,o516,o517 P,o518,tx,aV,o521 P,o522,o523,o524,zO "super" (.fields #[(zR 512),(zR 512),(zR 512)]),zO "builtin_function_or_method" (.fields #[(.builtin "object.__init_subclass__"),(zR 512)]),aV,vi,zO "dict" (.dict #[e P "__module__" 946 z5,e P "__qualname__" 948 (zS "SweepLineKey" 947),e P "__firstlineno__" 950 (.int 244 949),e P "__init__" 961 (zR 530),e P "__lt__" 988 (zR 537),e P "__static_attributes__" 993 (zR 538)] 6),aV,zN (.fields #[(zI 246),(zI 4),(zR 529),(zI 249),(zI 4),(zR 536)]),zC "SweepLineKey" "SweepLineKey" 941 244 0 0 0 0 520 false 181 521 .none .none .none .none 944,⟨(.type "frame"),none,.plain,#[(some (zR 522)),(some (zR 3)),(some (zR 519)),none,(some z5),none,(some (zR 0))]⟩,aV,ft,o536,aV,zN (.func (f0 (a2 25 0) "SweepLineKey.__init__")),o539,o540,aV,ft,o543,aV,zN (.func (f0 (a2 25 1) "SweepLineKey.__lt__")),o546,o547,o548,o549 P,o550,o551,o552,zO "super" (.fields #[(zR 540),(zR 540),(zR 540)]),zO "builtin_function_or_method" (.fields #[(.builtin "object.__init_subclass__"),(zR 540)]),aV,vi,zO "dict" (.dict #[e P "__module__" 1010 z1,e P "__qualname__" 1012 (zS "EventsRegistry" 1011),e P "__firstlineno__" 1014 (.int 287 1013),e P "from_segments" 1044 (zR 560),e P "unique" 1052 (zR 569),e P "are_collinear" 1061 (zR 576),e P "to_event_end" 1069 (zR 583),e P "to_event_segment_id" 1077 (zR 590),e P "to_event_start" 1085 (zR 597),e P "to_segment_end" 1093 (zR 604),e P "to_segment_start" 1101 (zR 611),e P "__init__" 1112 (zR 618),e P "_event_to_sweep_line_key" 1120 (zR 625),e P "__bool__" 1127 (zR 632),e P "__iter__" 1139 (zR 639),e P "_above" 1147 (zR 646),e P "_add" 1155 (zR 653),e P "_below" 1163 (zR 660),e P "_detect_intersection" 1192 (zR 667),e P "_divide" 1204 (zR 674),e P "_divide_event_by_mid_segment_event_endpoints" 1217 (zR 681),e P "_divide_event_by_midpoint" 1228 (zR 688),e P "_divide_event_by_midpoint_checking_above" 1238 (zR 695),e P "_divide_overlapping_events" 1251 (zR 702),e P "_find" 1260 (zR 709),e P "_merge_equal_segment_events" 1274 (zR 716),e P "_pop" 1281 (zR 723),e P "_push" 1289 (zR 730),e P "_remove" 1297 (zR 737),e P "_to_left_event_segment_id" 1305 (zR 744),e P "_to_min_collinear_segment_id" 1315 (zR 751),e P "_to_opposite_event" 1323 (zR 758),e P "__static_attributes__" 1333 (zR 759)] 33),aV,zN (.fields #[(zI 290),(zI 4),(zR 557),(zI 309),(zI 4),(zR 567),(zI 312),(zI 4),(zR 575),(zI 315),(zI 4),(zR 582),(zI 318),(zI 4),(zR 589),(zI 321),(zI 4),(zR 596),(zI 324),(zI 4),(zR 603),(zI 327),(zI 4),(zR 610),(zI 330),(zI 4),(zR 617),(zI 339),(zI 4),(zR 624),(zI 342),(zI 4),(zR 631),(zI 345),(zI 4),(zR 638),(zI 377),(zI 4),(zR 645),(zI 384),(zI 4),(zR 652),(zI 388),(zI 4),(zR 659),(zI 395),(zI 4),(zR 666),(zI 457),(zI 4),(zR 673),(zI 471),(zI 4),(zR 680),(zI 477),(zI 4),(zR 687),(zI 482),(zI 4),(zR 694),(zI 491),(zI 4),(zR 701),(zI 497),(zI 4),(zR 708),(zI 506),(zI 4),(zR 715),(zI 517),(zI 4),(zR 722),(zI 520),(zI 4),(zR 729),(zI 523),(zI 4),(zR 736),(zI 527),(zI 4),(zR 743),(zI 531),(zI 4),(zR 750),(zI 540),(zI 4),(zR 757)]),zC "EventsRegistry" "EventsRegistry" 1005 287 0 0 0 0 548 false 181 549 .none .none .none .none 1008,⟨(.type "frame"),none,.plain,#[(some (zR 550)),(some (zR 3)),(some (zR 547)),none,(some z1),none,(some (zR 0))]⟩,aV,ft,o566,aV,zN (.func (f0 (a2 27 0) "EventsRegistry.from_segments")),o569,o570,o571 P,o572,tx,aV,ft,o576,aV,zN (.func (f0 (a2 27 1) "EventsRegistry.unique")),o579,o580,o581,aV,ft,o584,aV,zN (.func (f0 (a2 27 2) "EventsRegistry.are_collinear")),o587,o588,aV,ft,o591,aV,zN (.func (f0 (a2 27 3) "EventsRegistry.to_event_end")),o594,o595,aV,ft,o598,aV,zN (.func (f0 (a2 27 4) "EventsRegistry.to_event_segment_id")),o601,o602,aV,ft,o605,aV,zN (.func (f0 (a2 27 5) "EventsRegistry.to_event_start")),o608,o609,aV,ft,o612,aV,zN (.func (f0 (a2 27 6) "EventsRegistry.to_segment_end")),o615,o616,aV,ft,o619,aV,zN (.func (f0 (a2 27 7) "EventsRegistry.to_segment_start")),o622,o623,aV,ft,o626,o627,zN (.func (f0 (a2 27 8) "EventsRegistry.__init__")),FW,o630,aV,ft,o633,aV,zN (.func (f0 (a2 27 9) "EventsRegistry._event_to_sweep_line_key")),o636,o637,aV,ft,o640,aV,zN (.func (f0 (a2 27 10) "EventsRegistry.__bool__")),o643,o644,aV,ft,o647,aV,zN (.func (f0 (a2 27 11) "EventsRegistry.__iter__")),o650,o651,aV,ft,o654,aV,zN (.func (f0 (a2 27 12) "EventsRegistry._above")),o657,o658,aV,ft,o661,aV,zN (.func (f0 (a2 27 13) "EventsRegistry._add")),o664,o665,aV,ft,o668,aV,zN (.func (f0 (a2 27 14) "EventsRegistry._below")),o671,o672,aV,ft,o675,aV,zN (.func (f0 (a2 27 15) "EventsRegistry._detect_intersection")),o678,o679,aV,ft,o682,aV,zN (.func (f0 (a2 27 16) "EventsRegistry._divide")),o685,o686,aV,ft,o689,aV,zN (.func (f0 (a2 27 17) "EventsRegistry._divide_event_by_mid_segment_event_endpoints")),o692,o693,aV,ft,o696,aV,zN (.func (f0 (a2 27 18) "EventsRegistry._divide_event_by_midpoint")),o699,o700,aV,ft,o703,aV,zN (.func (f0 (a2 27 19) "EventsRegistry._divide_event_by_midpoint_checking_above")),o706,o707,aV,ft,o710,aV,zN (.func (f0 (a2 27 20) "EventsRegistry._divide_overlapping_events")),o713,o714,aV,ft,o717,aV,zN (.func (f0 (a2 27 21) "EventsRegistry._find")),o720,o721,aV,ft,o724,aV,zN (.func (f0 (a2 27 22) "EventsRegistry._merge_equal_segment_events")),o727,o728,aV,ft,o731,aV,zN (.func (f0 (a2 27 23) "EventsRegistry._pop")),o734,o735,aV,ft,o738,aV,zN (.func (f0 (a2 27 24) "EventsRegistry._push")),o741,o742,aV,ft,o745,aV,zN (.func (f0 (a2 27 25) "EventsRegistry._remove")),o748,o749,aV,ft,o752,aV,zN (.func (f0 (a2 27 26) "EventsRegistry._to_left_event_segment_id")),o755,o756,aV,ft,o759,aV,zN (.func (f0 (a2 27 27) "EventsRegistry._to_min_collinear_segment_id")),o762,o763,aV,ft,o766,aV,zN (.func (f0 (a2 27 28) "EventsRegistry._to_opposite_event")),o769,o770,o771,o772 P,o773,o774,o775,zO "super" (.fields #[(zR 761),(zR 761),(zR 761)]),zO "builtin_function_or_method" (.fields #[(.builtin "object.__init_subclass__"),(zR 761)]),aV,vi,zO "dict" (.dict #[e P "__module__" 1350 z2,e P "__qualname__" 1352 (zS "Intersection" 1351),e P "__firstlineno__" 1354 (.int 543 1353),e P "end" 1362 (zR 780),e P "first_segment_id" 1370 (zR 788),e P "relation" 1378 (zR 796),e P "second_segment_id" 1386 (zR 804),e P "start" 1394 (zR 812),e P "__init__" 1406 (zR 819),e P "__static_attributes__" 1412 (zR 820)] 10),aV,zN (.fields #[(zI 546),(zI 4),(zR 778),(zI 550),(zI 4),(zR 786),(zI 554),(zI 4),(zR 794),(zI 558),(zI 4),(zR 802),(zI 562),(zI 4),(zR 810),(zI 565),(zI 4),(zR 818)]),zC "Intersection" "Intersection" 1345 543 0 0 0 0 769 false 181 770 .none .none .none .none 1348,⟨(.type "frame"),none,.plain,#[(some (zR 771)),(some (zR 3)),(some (zR 768)),none,(some z2),none,(some (zR 0))]⟩,aV,ft,o787,aV,zN (.func (f0 (a2 29 0) "Intersection.end")),o790,o791,o792,aV,ft,o795,aV,zN (.func (f0 (a2 29 1) "Intersection.first_segment_id")),o798,o799,o800,aV,ft,o803,aV,zN (.func (f0 (a2 29 2) "Intersection.relation")),o806,o807,o808,aV,ft,o811,aV,zN (.func (f0 (a2 29 3) "Intersection.second_segment_id")),o814,o815,o816,aV,ft,o819,aV,zN (.func (f0 (a2 29 4) "Intersection.start")),o822,o823,o824,aV,ft,o827,aV,zN (.func (f0 (a2 29 5) "Intersection.__init__")),o830,o831,o832,o833 P,o834,o835,o836,zO "super" (.fields #[(zR 822),(zR 822),(zR 822)]),zO "builtin_function_or_method" (.fields #[(.builtin "object.__init_subclass__"),(zR 822)]),aV,ft,o841,aV,zN (.func (f0 (a1 30) "sweep")),o844,o845,aV,ft,zN (.func (f0 (a1 31) "segments_ids_containing_point_to_intersections")),o849,o850,aV,ft,o853,o854,zN (.func (f0 (a1 33) "contour_self_intersects")),FV,o857,aV,ft,zN (.func (f0 (a1 36) "law")),o861,o862]
def hA (P:zW):Heap:=⟨#[o0 P,o1 P,o2 P,o3 P,o4 P,o5 P,o6 P,o7 P,o8 P,o9 P,o10 P,aV,ft,o13,o14],{}⟩
def tA (P:zW):BT:=bt 11 ((((oo P).take 15).set 3 (o3 P)).set 12 (ft))
def t0 (P:zW):BT:=bt 11 ((((oo P).take 142).set 3 (o15 P)).set 12 (o16))
def t1 (P:zW):BT:=bt 11 ((((oo P).take 213).set 3 (o144 P)).set 12 (o145))
def t2 (P:zW):BT:=bt 11 ((((oo P).take 292).set 3 (o217 P)).set 12 (o218))
def t3 (P:zW):BT:=bt 11 ((((oo P).take 493).set 3 (o298 P)).set 12 (o299))
def t4 (P:zW):BT:=bt 11 ((((oo P).take 545).set 3 (o501 P)).set 12 (o502))
def t5 (P:zW):BT:=bt 11 ((oo P).take 851)
def hF (P:zW):Heap:=⟨(oo P).toArray,{}⟩
def K (P:zW):Frag:=([(35,o37),(42,o44),(49,o51),(56,o58),(63,o65),(70,o72),(91,o93),(347,o355),(359,o367),(366,o374),(394,o402),(401,o409),(408,o416),(436,o444),(443,o451),(450,o458),(457,o465),(464,o472),(471,o479),(478,o486),(485,o493),(537,o547),(568,o580),(576,o588),(583,o595),(590,o602),(597,o609),(604,o616),(611,o623),(625,o637),(632,o644),(646,o658),(653,o665),(660,o672),(667,o679),(674,o686),(681,o693),(688,o700),(695,o707),(702,o714),(709,o721),(716,o728),(723,o735),(730,o742),(737,o749),(744,o756),(751,o763),(758,o770),(795,o807),(811,o823),(28,o30),(352,o360),(387,o395),(429,o437),(506,o516),(326,o334),(558,o570),(618,o630),(639,o651),(819,o831),(833,o845),(838,o850),(845,o857),(2,o2 P),(3,o555 P),(15,aV),(17,o19),(18,aV),(20,o22),(21,o23),(22,aV),(24,o26),(25,aV),(27,o29),(29,aV),(31,o33),(32,aV),(34,o36),(36,aV),(38,o40),(39,aV),(41,o43),(43,aV),(45,o47),(46,aV),(48,o50),(50,aV),(52,o54),(53,aV),(55,o57),(57,aV),(59,o61),(60,aV),(62,o64),(64,aV),(66,o68),(67,aV),(69,o71),(78,aV),(80,o82),(81,aV),(83,o85),(84,o86),(85,aV),(87,o89),(88,aV),(90,o92),(92,o94),(93,o95 P),(94,o96),(95,o97),(96,o98),(106,aV),(108,o110),(109,aV),(111,o113),(112,o114),(113,FZ),(114,aV),(116,o118),(117,aV),(119,o121),(120,o122),(121,aV),(123,o125),(124,aV),(126,o128),(127,o129),(128,aV),(130,o132),(131,aV),(133,o135),(134,o136),(135,o137),(136,o138 P),(137,o139),(138,o140),(139,o141),(142,o146),(145,o149),(150,aV),(151,o155),(152,tx),(153,aV),(155,o159),(156,aV),(158,o162),(159,o163),(160,aV),(162,o166),(163,aV),(165,o169),(166,o170),(167,o171 P),(168,o172),(169,tx),(170,o174),(171,o175),(173,o177),(174,aV),(176,o180),(177,o181),(178,aV),(180,o184),(181,aV),(183,o187),(184,o188),(185,aV),(187,o191),(188,aV),(190,o194),(191,o195),(192,aV),(194,o198),(195,aV),(197,o201),(198,o202),(199,o203),(200,Ci P),(201,FY),(203,Ch P),(204,FX),(206,aV),(208,o212 P),(209,Cg),(210,o214),(220,aV),(222,o228),(223,aV),(225,o231),(226,o232),(227,o233),(228,o234 P),(229,o235),(230,o236),(231,o237),(241,o247 P),(242,o248),(244,o250 P),(245,o251),(247,o253 P),(248,o254),(250,aV),(251,o257 P),(252,o258),(253,o259),(254,o260),(264,o270 P),(265,o271),(267,o273 P),(268,o274),(270,o276 P),(271,o277),(273,o279 P),(274,o280),(276,o282 P),(277,o283),(279,o285 P),(280,o286),(282,o288 P),(283,o289),(285,aV),(286,o292 P),(287,o293),(288,o294),(289,o295),(299,aV),(301,o309),(302,aV),(304,o312),(305,o313),(306,o314),(307,o315 P),(308,o316),(309,o317),(310,o318),(320,aV),(322,o330),(323,aV),(325,o333),(327,o335),(328,o336 P),(329,o337),(330,o338),(331,o339),(341,aV),(343,o351),(344,aV),(346,o354),(348,aV),(351,o359),(353,aV),(355,o363),(356,aV),(358,o366),(360,aV),(362,o370),(363,aV),(365,o373),(367,aV),(368,o376 P),(369,o377),(370,o378),(371,o379),(381,aV),(383,o391),(384,aV),(386,o394),(388,aV),(390,o398),(391,aV),(393,o401),(395,aV),(397,o405),(398,aV),(400,o408),(402,aV),(404,o412),(405,aV),(407,o415),(409,o417),(410,o418 P),(411,o419),(412,o420),(413,o421),(423,aV),(425,o433),(426,aV),(428,o436),(430,aV),(432,o440),(433,aV),(435,o443),(437,aV),(439,o447),(440,aV),(442,o450),(444,aV),(446,o454),(447,aV),(449,o457),(451,aV),(453,o461),(454,aV),(456,o464),(458,aV),(460,o468),(461,aV),(463,o471),(465,aV),(467,o475),(468,aV),(470,o478),(472,aV),(474,o482),(475,aV),(477,o485),(479,aV),(481,o489),(482,aV),(484,o492),(486,o494),(487,o495 P),(488,o496),(489,o497),(490,o498),(500,aV),(502,o512),(503,aV),(505,o515),(507,o517 P),(508,o518),(509,tx),(510,aV),(511,o521 P),(512,o522),(513,o523),(514,o524),(524,aV),(526,o536),(527,aV),(529,o539),(530,o540),(531,aV),(533,o543),(534,aV),(536,o546),(538,o548),(539,o549 P),(540,o550),(541,o551),(542,o552),(552,aV),(554,o566),(555,aV),(557,o569),(559,o571 P),(560,o572),(561,tx),(562,aV),(564,o576),(565,aV),(567,o579),(569,o581),(570,aV),(572,o584),(573,aV),(575,o587),(577,aV),(579,o591),(580,aV),(582,o594),(584,aV),(586,o598),(587,aV),(589,o601),(591,aV),(593,o605),(594,aV),(596,o608),(598,aV),(600,o612),(601,aV),(603,o615),(605,aV),(607,o619),(608,aV),(610,o622),(612,aV),(614,o626),(615,o627),(617,FW),(619,aV),(621,o633),(622,aV),(624,o636),(626,aV),(628,o640),(629,aV),(631,o643),(633,aV),(635,o647),(636,aV),(638,o650),(640,aV),(642,o654),(643,aV),(645,o657),(647,aV),(649,o661),(650,aV),(652,o664),(654,aV),(656,o668),(657,aV),(659,o671),(661,aV),(663,o675),(664,aV),(666,o678),(668,aV),(670,o682),(671,aV),(673,o685),(675,aV),(677,o689),(678,aV),(680,o692),(682,aV),(684,o696),(685,aV),(687,o699),(689,aV),(691,o703),(692,aV),(694,o706),(696,aV),(698,o710),(699,aV),(701,o713),(703,aV),(705,o717),(706,aV),(708,o720),(710,aV),(712,o724),(713,aV),(715,o727),(717,aV),(719,o731),(720,aV),(722,o734),(724,aV),(726,o738),(727,aV),(729,o741),(731,aV),(733,o745),(734,aV),(736,o748),(738,aV),(740,o752),(741,aV),(743,o755),(745,aV),(747,o759),(748,aV),(750,o762),(752,aV),(754,o766),(755,aV),(757,o769),(759,o771),(760,o772 P),(761,o773),(762,o774),(763,o775),(773,aV),(775,o787),(776,aV),(778,o790),(779,o791),(780,o792),(781,aV),(783,o795),(784,aV),(786,o798),(787,o799),(788,o800),(789,aV),(791,o803),(792,aV),(794,o806),(796,o808),(797,aV),(799,o811),(800,aV),(802,o814),(803,o815),(804,o816),(805,aV),(807,o819),(808,aV),(810,o822),(812,o824),(813,aV),(815,o827),(816,aV),(818,o830),(820,o832),(821,o833 P),(822,o834),(823,o835),(824,o836),(827,aV),(829,o841),(830,aV),(832,o844),(834,aV),(837,o849),(839,aV),(841,o853),(842,o854),(844,FV),(846,aV),(849,o861),(850,o862)]:List (Nat×Obj))
noncomputable def en:Env:={ scope:=pw.main.scope,locals:=mainNs,globals:=mainNs,cells:=[],code:=(.ref 13),frame:=some 14 }
abbrev cE:Code:=.body (eW pw) en
noncomputable abbrev tf:Frame:=topFrame ⟨0,0,0,0⟩
noncomputable abbrev x9:Option Value:=(some (.ref 6))
noncomputable def l0:List Stmt:=((eW pw).drop 0).take 14
noncomputable def l1:List Stmt:=((eW pw).drop 14).take 1
noncomputable def l2:List Stmt:=((eW pw).drop 15).take 3
noncomputable def l3:List Stmt:=((eW pw).drop 18).take 5
noncomputable def l4:List Stmt:=((eW pw).drop 23).take 4
noncomputable def l5:List Stmt:=((eW pw).drop 27).take 10
theorem pre (w:World)(os:fz):topGo gR pw w 11 x9 12 ⟨np w.params,Array.mk [],boot_drawn,boot_toks,os⟩ (topStub pw)=some (⟨hA w.params,#[],{},187,os⟩,⟨denote gR cE,cE,⟨0,0,0,0⟩,[tf]⟩):=by
 rw [PySem.W.Fast.te15667345088766844465,bE,PySem.W.Fast.te11892475500146522536];lk
theorem block (w:World)(os:fz):segRun gR pw w 11 x9 1 1 ⟨hA w.params,#[],{},187,os⟩ (blockOf (eW pw) en cE ⟨0,0,0,0⟩ [tf])=some (.next,SharedT.abs ⟨tA w.params,15,{},#[],{},187,os⟩,cE,⟨0,0,0,0⟩):=by
 rw [PySem.W.Fast.te14374325043358763698,bE];lk
theorem p0 (w:World)(os:fz):segRunT gR pw w 11 x9 1 862 ⟨tA w.params,15,{},#[],{},187,os⟩ (piecesOf l0 en cE ⟨0,0,0,0⟩ [tf])=some (.next,⟨t0 w.params,142,{},#[],{},361,os⟩,cE,⟨47,0,64,54⟩):=by
 rw [cQ,bE];lk
theorem p1 (w:World)(os:fz):segRunT gR pw w 11 x9 1 900 ⟨t0 w.params,142,{},#[],{},361,os⟩ (piecesOf l1 en cE ⟨47,0,64,54⟩ [tf])=some (.next,⟨t1 w.params,213,{},#[],{},476,os⟩,cE,⟨65,0,106,51⟩):=by
 rw [cQ,bE];lk
theorem p2 (w:World)(os:fz):segRunT gR pw w 11 x9 1 1710 ⟨t1 w.params,213,{},#[],{},476,os⟩ (piecesOf l2 en cE ⟨65,0,106,51⟩ [tf])=some (.next,⟨t2 w.params,292,{},#[],{},608,os⟩,cE,⟨116,0,123,23⟩):=by
 rw [cQ,bE];lk
theorem p3 (w:World)(os:fz):segRunT gR pw w 11 x9 1 1596 ⟨t2 w.params,292,{},#[],{},608,os⟩ (piecesOf l3 en cE ⟨116,0,123,23⟩ [tf])=some (.next,⟨t3 w.params,493,{},#[],{},898,os⟩,cE,⟨182,0,237,38⟩):=by
 rw [cQ,bE];lk
theorem p4 (w:World)(os:fz):segRunT gR pw w 11 x9 1 650 ⟨t3 w.params,493,{},#[],{},898,os⟩ (piecesOf l4 en cE ⟨182,0,237,38⟩ [tf])=some (.next,⟨t4 w.params,545,{},#[],{},1003,os⟩,cE,⟨286,0,286,8⟩):=by
 rw [cQ,bE];lk
theorem p5 (w:World)(os:fz):segRunT gR pw w 11 x9 1 2216 ⟨t4 w.params,545,{},#[],{},1003,os⟩ (piecesOf l5 en cE ⟨286,0,286,8⟩ [tf])=some (.next,⟨t5 w.params,851,{},#[],{},1466,os⟩,cE,⟨678,0,688,110⟩):=by
 rw [cQ,bE];lk
theorem fin (w:World)(os:fz):topRun gR pw w 11 x9 2 (SharedT.abs ⟨t5 w.params,851,{},#[],{},1466,os⟩) ⟨doneF .next,cE,⟨678,0,688,110⟩,[tf]⟩=some ⟨hF w.params,#[],{},1466,os⟩:=by
 rw [PySem.W.Fast.te14082659384304107361,bE];lk
theorem oM:eW pw=(l0++(l1++(l2++(l3++(l4++(l5++[])))))):=by lk
noncomputable abbrev M:Nat:=12+(1+(862+(900+(1710+(1596+(650+(2216+2)))))))
theorem run (w:World)(os:fz):topRun gR pw w 11 x9 M ⟨np w.params,Array.mk [],boot_drawn,boot_toks,os⟩ (topStub pw)=some ⟨hF w.params,#[],{},1466,os⟩:=by
 have k:=(piece_app (segRun_of (p0 w os)) (piece_app (segRun_of (p1 w os)) (piece_app (segRun_of (p2 w os)) (piece_app (segRun_of (p3 w os)) (piece_app (segRun_of (p4 w os)) (piece_app (segRun_of (p5 w os)) (piece_nil (fin w os))))))))
 have k':=(congrArg (λb=>topRun gR pw w 11 x9 (862+(900+(1710+(1596+(650+(2216+2)))))) (SharedT.abs ⟨tA w.params,15,{},#[],{},187,os⟩) (restOf b en cE ⟨0,0,0,0⟩ [tf])) oM).trans k
 exact go_top (pre w os) (piece_block (block w os) k')
variable {x' y' e' z:Int} {q pos xp yp tp:Pos} {A:aw} {E Q:Value->ae->Prop} {h h' h'' aa ab hX:Heap} {o:Obj} {dx oa dy fI it aG ia c2 D1 D2:Addr} {j kk gG:Nat} {sc:Scope} {m m':Str->Option Value} {us:List Value} {s':ae} {P:aM} {self:Value} {sl sl':Array (Option Value)} {expr:Bool} {body:List Stmt} {xs:Str} {names:List Str} {as:List Expr} {RR:ej->ae->Prop} {a' b':Int×Int} {Γ:PySem.Ctx} {kw:List (Str×Value)} {Φ:End->ae->Prop} {gs:bk} {eG:Env} {tn:Tok}
set_option backward.match.sparseCases true
theorem said:PySem.Challenge.rw_ba0023_04.wellSaid=true:=by lk
abbrev nU:OpenLaw:=eY
def qv:bF:={ pw with main:={ pw.main with body:=[a1 36] } }
noncomputable def lo:List Str:=[.ofString "_wall",.ofString "all_unique",.ofString "is_even",.ofString "to_sorted_pair",.ofString "Event",.ofString "is_event_left",.ofString "segment_id_to_left_event",.ofString "segment_id_to_right_event",.ofString "EventsQueueKey",.ofString "_tuplegetter",.ofString "Point",.ofString "Kind",.ofString "Orientation",.ofString "Relation",.ofString "Segment",.ofString "Contour",.ofString "Context",.ofString "PriorityQueue",.ofString "KeyedSet",.ofString "red_black",.ofString "SweepLineKey",.ofString "EventsRegistry",.ofString "Intersection",.ofString "sweep",.ofString "segments_ids_containing_point_to_intersections",.ofString "contour_self_intersects",.ofString "_law_spread"]
theorem size (w:World):((np w.params).isNs bM && (Array.mk []:Array bk).size == 0,(np w.params).objs.size,(np w.params).nsMap bM "__annotations__")=(true,11,x9):=by lk
theorem FP:opening pw=plainProg pw.main.scope.names:=by lk
theorem fence (s:ae):fenceModules? pw s=some s:=by lk
abbrev sF (w:World)(os:fz):ae:=⟨hF w.params,#[],{},1466,os⟩
theorem k1 (w:World)(os:fz):(staticsOk (importedModules pw.main.body) (np w.params) (hF w.params) && namesBound pw (hF w.params) && gensDone (sF w os) && laidKept (np w.params) (hF w.params))=true:=by lk
noncomputable abbrev Xt:ae->Bool:=λ_=>true
theorem k2 (w:World)(os:fz):openSeen qv lo (importedModules pw.main.body) Xt true (sF w os)=openGood qv lo:=by
 unfold openSeen openGood
 refine iD ?_ (iD ?_ (iD ?_ (iD ?_ (iD ?_ (iD ?_ (iD ?_ (iD ?_ ?_)))))))
 all_goals lk
theorem left:LeftO pw qv lo Xt (λs=>s.heap) (λw=>hF w.params) 20000:=
 LeftO.of_pieces (boot_open FP (by lk) fence) size run (by lk) λw=>funext λos=>iD (k1 w os) (iD (k2 w os) rfl)
theorem kIn (P:aM):(K P).In (hF P):=Frag.in_of (as:=(K P).map (·.1)) rfl (by lk)
def oS:DefRec:={ name:=(uO (a1 36)).2.2.2.1,params:=(uO (a1 36)).2.2.2.2.1,body:=(uO (a1 36)).2.1.headD [],scope:=(uO (a1 36)).2.2.2.2.2,pos:=(uO (a1 36)).2.2.1 }
abbrev YP (w:World)(h:Heap):Prop:=(K w.params).In h/\h.get? 613=some { cls:=.none,data:=.fields #[] }/\h.get? 840=some { cls:=.none,data:=.fields #[] }
theorem tIn (P:aM):(hF P).get? 613=some { cls:=.none,data:=.fields #[] }/\(hF P).get? 840=some { cls:=.none,data:=.fields #[] }:=⟨by lk,by lk⟩
theorem ok1:(chainsOk qv && opensWell nU.row.prog && (frees nU.row.toRowW && nU.row.within.isEmpty))=true:=by lk
theorem Eo:defOf qv nU.row.name=some (oS,[]):=by lk
theorem eU:nU.row.prog.theDef nU.row.name=some (oS.params,oS.body,oS.scope):=by lk
theorem EO:nU.row.prog.bare:=⟨rfl,rfl,rfl,rfl,rfl,by lk⟩
theorem prom:nU.row.toRowW.promised:=by w_witness2
section
set_option maxHeartbeats 400000
theorem hY1 (w:World)(s:ae)(x:(λs:ae=>s.heap) s=(λw:World=>hF w.params) w):YP w s.heap:=by
 have x':s.heap=hF w.params:=x
 rw [x']
 exact ⟨kIn w.params,tIn w.params⟩
theorem hYk1 (w:World)(h h':Heap)(x:YP w h)(k:∀ b o,h.get? b=some o->h'.get? b=some o):YP w h':=⟨Frag.In.keeps x.1 k,k _ _ x.2.1,k _ _ x.2.2⟩
theorem hk1:kwWritten? oS.params.kwonlyargs oS.params.kw_defaults=some []:=by lk
theorem Ap (s:ae)(_:Xt s=true):RecFacts nU.row.toRowW.records s.heap:=recFacts_nil (by lk)
theorem hw1:(!nU.row.writes || nU.row.toRowW.records.isEmpty)=true:=by lk
theorem Ej:LeftO nU.row.toRowW.prog qv lo Xt (λs=>s.heap) (λw=>hF w.params) 20000:=left
theorem head (call:WalkO qv lo (λ_ _=>True) YP nU.row.toRowW oS [] λf vs=>PySem.call f vs):PySem.Challenge.rw_ba0023_04.Holds:=
 holds_law said λhs=>holds_open (r:=nU.row) (q:=qv) (loose:=lo) (Xt:=Xt) (XP:=λ_ _=>True) (Yf:=λs=>s.heap) (Ya:=λw=>hF w.params) (YP:=YP) (d:=oS) (kwd:=[]) (N:=20000)
  Ej hY1 hYk1 (λ_ _=>trivial) (λ_ _ _ _ _=>trivial) Eo eU hk1 Ap hw1 hs ok1 EO prom call
end
structure sr (L U:Int->Int):Prop where
 l:∀ k,0<=L k/\L k<=5
 u:∀ k,0<=U k/\U k<=5
 lt:∀ k,L k < U k
noncomputable def tw (L U:Int->Int)(j:Int):Int:=5040 * (U j - L j) / (U j - L j+(U (j+1) - L (j+1)))
def cX (L U:Int->Int)(c:Int):Int:=5040 * (c / 2)+bif c % 2 == 0 then 0 else tw L U (c / 2)
def cY (L U:Int->Int)(c r:Int):Int:=bif c % 2 == 0 then 5040 * (L (c / 2)+r * (U (c / 2) - L (c / 2))) else r+(5040 * L (c / 2)+(U (c / 2+1) - L (c / 2)) * tw L U (c / 2))
section
variable {L U:Int->Int}
theorem Cf:∀ a b:Fin 5,0 < (5040 * ((a:Int)+1)) / ((a:Int)+1+((b:Int)+1))/\(5040 * ((a:Int)+1)) / ((a:Int)+1+((b:Int)+1)) < 5040:=by decide
theorem fin5 {x:Int}(h:1<=x/\x<=5):∃ a:Fin 5,x=(a:Int)+1:=
 have z:0<=x - 1:=Int.sub_nonneg_of_le h.1
 ⟨⟨(x - 1).toNat,(Int.toNat_lt z).mpr (Int.lt_of_le_of_lt (Int.sub_le_sub_right h.2 1) (by decide))⟩,(by show x=(((x - 1).toNat:Nat):Int)+1;rw [Int.toNat_of_nonneg z,Int.sub_add_cancel])⟩
theorem gap {a b:Int}(h:0<=a/\a<=5)(k:0<=b/\b<=5)(l:a < b):1<=b - a/\b - a<=5:=⟨Int.sub_pos_of_lt l,Int.le_trans (Int.sub_le_self b h.1) k.2⟩
theorem sr.off (H:sr L U)(j:Int):0 < tw L U j/\tw L U j < 5040:=by
 obtain ⟨x,hx⟩:=fin5 (gap (H.l j) (H.u j) (H.lt j))
 obtain ⟨y,hy⟩:=fin5 (gap (H.l (j+1)) (H.u (j+1)) (H.lt (j+1)))
 unfold tw
 rw [hx,hy]
 exact Cf x y
def uN (c x:Int):Prop:=(c % 2=0/\x=5040 * (c / 2))\/(c % 2=1/\5040 * (c / 2) < x/\x < 5040 * (c / 2)+5040)
theorem sr.col (H:sr L U)(c:Int):uN c (cX L U c):=by
 unfold cX
 rcases Int.emod_two_eq c with e | e
 ·exact .inl ⟨e,by rw [e];exact Int.add_zero _⟩
 ·have o:=H.off (c / 2)
  exact .inr ⟨e,by rw [e];exact Int.lt_add_of_pos_right _ o.1,by rw [e];exact Int.add_lt_add_left o.2 _⟩
theorem uN.bd {c x:Int}(h:uN c x):5040 * (c / 2)<=x/\x < 5040 * (c / 2)+5040:=h.elim (λe=>e.2▸⟨Int.le_refl _,Int.lt_add_of_pos_right _ (by decide)⟩) λe=>⟨Int.le_of_lt e.2.1,e.2.2⟩
theorem AR {c c' x:Int}(h:uN c x)(h':uN c' x')(l:c < c'):x < x':=by
 rcases Int.le_iff_lt_or_eq.mp (Int.ediv_le_ediv (c:=2) (by decide) (Int.le_of_lt l)) with e | e
 ·have z:5040 * (c / 2+1)<=5040 * (c' / 2):=Int.mul_le_mul_of_nonneg_left e (by decide)
  rw [Int.mul_add] at z
  exact Int.lt_of_lt_of_le h.bd.2 (Int.le_trans z h'.bd.1)
 ·have k:c % 2 < c' % 2:=Int.lt_of_add_lt_add_left (a:=2 * (c / 2)) (by rw [Int.mul_ediv_add_emod,e,Int.mul_ediv_add_emod];exact l)
  rcases h with h | h
  ·rcases h' with h' | h'
   ·rw [h.1,h'.1] at k;exact absurd k (by decide)
   ·rw [h.2,e];exact h'.2.1
  ·rw [h.1] at k
   exact absurd k (Int.not_lt.mpr (h'.elim (λq=>q.1▸(by decide)) λq=>q.1▸Int.le_refl _))
def Al (a b x y:Int):Prop:=(a < b↔x < y)/\(a=b↔x=y)
theorem EP {a b x y:Int}(h:a < b->x < y)(h1:b < a->y < x)(h2:a=b->x=y):Al a b x y:=by
 rcases jh a b with k | k | k
 ·exact ⟨iff_of_true k (h k),iff_of_false (kL k) (kL (h k))⟩
 ·exact ⟨iff_of_false (λe=>kL e k) (λe=>kL e (h2 k)),iff_of_true k (h2 k)⟩
 ·exact ⟨iff_of_false (Int.lt_asymm k) (Int.lt_asymm (h1 k)),iff_of_false (Int.ne_of_gt k) (Int.ne_of_gt (h1 k))⟩
theorem sr.xal (H:sr L U)(c c':Int):Al c c' (cX L U c) (cX L U c'):=EP (AR (H.col c) (H.col c')) (AR (H.col c') (H.col c)) λe=>congrArg _ e
theorem sr.y01 (H:sr L U)(c:Int){r r':Int}(l:r < r'):cY L U c r < cY L U c r':=by
 unfold cY
 cases c % 2 == 0 with
 | true=>exact Int.mul_lt_mul_of_pos_left (Int.add_lt_add_left (Int.mul_lt_mul_of_pos_right l (Int.sub_pos.mpr (H.lt _))) _) (by decide)
 | false=>exact Int.add_lt_add_right l _
theorem sr.yal (H:sr L U)(c r r':Int):Al r r' (cY L U c r) (cY L U c r'):=EP (H.y01 c) (H.y01 c) λe=>congrArg _ e
theorem A8 {a b c d:Prop}(h:a↔b)(g:a->(c↔d)):a/\c↔b/\d:=⟨λz=>⟨h.mp z.1,(g z.1).mp z.2⟩,λz=>⟨h.mpr z.1,(g (h.mpr z.1)).mpr z.2⟩⟩
end
abbrev Pn:=Bool×Int×Int
structure Hp where
 L:Int->Int
 U:Int->Int
 ok:sr L U
variable {H:Hp}
def Hp.x (H:Hp)(p:Pn):Int:=bif p.1 then cX H.L H.U p.2.1 else p.2.1
def Hp.y (H:Hp)(p:Pn):Int:=bif p.1 then cY H.L H.U p.2.1 p.2.2 else p.2.2
section
variable {p q:Pn}
theorem Hp.al (e:p.1=q.1):Al p.2.1 q.2.1 (H.x p) (H.x q)/\(p.2.1=q.2.1->Al p.2.2 q.2.2 (H.y p) (H.y q)):=by
 unfold Hp.x Hp.y
 rw [e]
 cases q.1 with
 | true=>exact ⟨H.ok.xal _ _,λh=>by rw [h];exact H.ok.yal _ _ _⟩
 | false=>exact ⟨⟨.rfl,.rfl⟩,λ_=>⟨.rfl,.rfl⟩⟩
theorem Hp.eq (e:p.1=q.1):p.2.1=q.2.1/\p.2.2=q.2.2↔H.x p=H.x q/\H.y p=H.y q:=A8 (Hp.al e).1.2 λh=>((Hp.al e).2 h).2
theorem Hp.lt (e:p.1=q.1):(p.2.1 < q.2.1\/p.2.1=q.2.1/\p.2.2 < q.2.2)↔(H.x p < H.x q\/H.x p=H.x q/\H.y p < H.y q):=or_congr (Hp.al e).1.1 (A8 (Hp.al e).1.2 λh=>((Hp.al e).2 h).1)
end
set_option backward.match.sparseCases false
section
abbrev Sb (h h':Heap):Prop:=∀ b o,h.get? b=some o->h'.get? b=some o
theorem C2 {P0 P1 P2:Prop}{G:Prop}(h:P0/\P1/\P2)(k:P0->P1->P2->G):G:=k h.1 h.2.1 h.2.2
theorem xJ {P0 P1 P2 P3:Prop}{G:Prop}(h:P0/\P1/\P2/\P3)(k:P0->P1->P2->P3->G):G:=k h.1 h.2.1 h.2.2.1 h.2.2.2
theorem um {P0 P1 P2 P3 P4:Prop}{G:Prop}(h:P0/\P1/\P2/\P3/\P4)(k:P0->P1->P2->P3->P4->G):G:=k h.1 h.2.1 h.2.2.1 h.2.2.2.1 h.2.2.2.2
theorem bg {α0:Type}{P0 P1:α0->Prop}{G:Prop}(h:∃ a0,P0 a0/\P1 a0)(k:∀ a0,P0 a0->P1 a0->G):G:=h.elim λa0 h=>k a0 h.1 h.2
theorem dJ {α0:Type}{P0 P1 P2:α0->Prop}{G:Prop}(h:∃ a0,P0 a0/\P1 a0/\P2 a0)(k:∀ a0,P0 a0->P1 a0->P2 a0->G):G:=h.elim λa0 h=>k a0 h.1 h.2.1 h.2.2
theorem el14 {α0:Type}{P0 P1 P2 P3:α0->Prop}{G:Prop}(h:∃ a0,P0 a0/\P1 a0/\P2 a0/\P3 a0)(k:∀ a0,P0 a0->P1 a0->P2 a0->P3 a0->G):G:=h.elim λa0 h=>k a0 h.1 h.2.1 h.2.2.1 h.2.2.2
theorem el15 {α0:Type}{P0 P1 P2 P3 P4:α0->Prop}{G:Prop}(h:∃ a0,P0 a0/\P1 a0/\P2 a0/\P3 a0/\P4 a0)(k:∀ a0,P0 a0->P1 a0->P2 a0->P3 a0->P4 a0->G):G:=h.elim λa0 h=>k a0 h.1 h.2.1 h.2.2.1 h.2.2.2.1 h.2.2.2.2
theorem el21 {α0 α1:Type}{P0:α0->α1->Prop}{G:Prop}(h:∃ a0 a1,P0 a0 a1)(k:∀ a0 a1,P0 a0 a1->G):G:=h.elim λa0 h=>h.elim λa1 h=>k a0 a1 h
theorem cB {α0 α1:Type}{P0 P1:α0->α1->Prop}{G:Prop}(h:∃ a0 a1,P0 a0 a1/\P1 a0 a1)(k:∀ a0 a1,P0 a0 a1->P1 a0 a1->G):G:=h.elim λa0 h=>h.elim λa1 h=>k a0 a1 h.1 h.2
theorem xI {α0 α1:Type}{P0 P1 P2:α0->α1->Prop}{G:Prop}(h:∃ a0 a1,P0 a0 a1/\P1 a0 a1/\P2 a0 a1)(k:∀ a0 a1,P0 a0 a1->P1 a0 a1->P2 a0 a1->G):G:=h.elim λa0 h=>h.elim λa1 h=>k a0 a1 h.1 h.2.1 h.2.2
theorem C1 {α0 α1:Type}{P0 P1 P2 P3:α0->α1->Prop}{G:Prop}(h:∃ a0 a1,P0 a0 a1/\P1 a0 a1/\P2 a0 a1/\P3 a0 a1)(k:∀ a0 a1,P0 a0 a1->P1 a0 a1->P2 a0 a1->P3 a0 a1->G):G:=h.elim λa0 h=>h.elim λa1 h=>k a0 a1 h.1 h.2.1 h.2.2.1 h.2.2.2
theorem el26 {α0 α1:Type}{P0 P1 P2 P3 P4 P5:α0->α1->Prop}{G:Prop}(h:∃ a0 a1,P0 a0 a1/\P1 a0 a1/\P2 a0 a1/\P3 a0 a1/\P4 a0 a1/\P5 a0 a1)(k:∀ a0 a1,P0 a0 a1->P1 a0 a1->P2 a0 a1->P3 a0 a1->P4 a0 a1->P5 a0 a1->G):G:=h.elim λa0 h=>h.elim λa1 h=>k a0 a1 h.1 h.2.1 h.2.2.1 h.2.2.2.1 h.2.2.2.2.1 h.2.2.2.2.2
theorem el31 {α0 α1 α2:Type}{P0:α0->α1->α2->Prop}{G:Prop}(h:∃ a0 a1 a2,P0 a0 a1 a2)(k:∀ a0 a1 a2,P0 a0 a1 a2->G):G:=h.elim λa0 h=>h.elim λa1 h=>h.elim λa2 h=>k a0 a1 a2 h
theorem kW {α0 α1 α2:Type}{P0 P1:α0->α1->α2->Prop}{G:Prop}(h:∃ a0 a1 a2,P0 a0 a1 a2/\P1 a0 a1 a2)(k:∀ a0 a1 a2,P0 a0 a1 a2->P1 a0 a1 a2->G):G:=h.elim λa0 h=>h.elim λa1 h=>h.elim λa2 h=>k a0 a1 a2 h.1 h.2
theorem qb {α0 α1 α2:Type}{P0 P1 P2:α0->α1->α2->Prop}{G:Prop}(h:∃ a0 a1 a2,P0 a0 a1 a2/\P1 a0 a1 a2/\P2 a0 a1 a2)(k:∀ a0 a1 a2,P0 a0 a1 a2->P1 a0 a1 a2->P2 a0 a1 a2->G):G:=h.elim λa0 h=>h.elim λa1 h=>h.elim λa2 h=>k a0 a1 a2 h.1 h.2.1 h.2.2
theorem qa {α0 α1 α2:Type}{P0 P1 P2 P3:α0->α1->α2->Prop}{G:Prop}(h:∃ a0 a1 a2,P0 a0 a1 a2/\P1 a0 a1 a2/\P2 a0 a1 a2/\P3 a0 a1 a2)(k:∀ a0 a1 a2,P0 a0 a1 a2->P1 a0 a1 a2->P2 a0 a1 a2->P3 a0 a1 a2->G):G:=h.elim λa0 h=>h.elim λa1 h=>h.elim λa2 h=>k a0 a1 a2 h.1 h.2.1 h.2.2.1 h.2.2.2
theorem el35 {α0 α1 α2:Type}{P0 P1 P2 P3 P4:α0->α1->α2->Prop}{G:Prop}(h:∃ a0 a1 a2,P0 a0 a1 a2/\P1 a0 a1 a2/\P2 a0 a1 a2/\P3 a0 a1 a2/\P4 a0 a1 a2)(k:∀ a0 a1 a2,P0 a0 a1 a2->P1 a0 a1 a2->P2 a0 a1 a2->P3 a0 a1 a2->P4 a0 a1 a2->G):G:=h.elim λa0 h=>h.elim λa1 h=>h.elim λa2 h=>k a0 a1 a2 h.1 h.2.1 h.2.2.1 h.2.2.2.1 h.2.2.2.2
theorem el41 {α0 α1 α2 α3:Type}{P0:α0->α1->α2->α3->Prop}{G:Prop}(h:∃ a0 a1 a2 a3,P0 a0 a1 a2 a3)(k:∀ a0 a1 a2 a3,P0 a0 a1 a2 a3->G):G:=h.elim λa0 h=>h.elim λa1 h=>h.elim λa2 h=>h.elim λa3 h=>k a0 a1 a2 a3 h
theorem xH {α0 α1 α2 α3:Type}{P0 P1 P2 P3:α0->α1->α2->α3->Prop}{G:Prop}(h:∃ a0 a1 a2 a3,P0 a0 a1 a2 a3/\P1 a0 a1 a2 a3/\P2 a0 a1 a2 a3/\P3 a0 a1 a2 a3)(k:∀ a0 a1 a2 a3,P0 a0 a1 a2 a3->P1 a0 a1 a2 a3->P2 a0 a1 a2 a3->P3 a0 a1 a2 a3->G):G:=h.elim λa0 h=>h.elim λa1 h=>h.elim λa2 h=>h.elim λa3 h=>k a0 a1 a2 a3 h.1 h.2.1 h.2.2.1 h.2.2.2
theorem xG {α0 α1 α2 α3:Type}{P0 P1 P2 P3 P4:α0->α1->α2->α3->Prop}{G:Prop}(h:∃ a0 a1 a2 a3,P0 a0 a1 a2 a3/\P1 a0 a1 a2 a3/\P2 a0 a1 a2 a3/\P3 a0 a1 a2 a3/\P4 a0 a1 a2 a3)(k:∀ a0 a1 a2 a3,P0 a0 a1 a2 a3->P1 a0 a1 a2 a3->P2 a0 a1 a2 a3->P3 a0 a1 a2 a3->P4 a0 a1 a2 a3->G):G:=h.elim λa0 h=>h.elim λa1 h=>h.elim λa2 h=>h.elim λa3 h=>k a0 a1 a2 a3 h.1 h.2.1 h.2.2.1 h.2.2.2.1 h.2.2.2.2
theorem C0 {α0 α1 α2 α3:Type}{P0 P1 P2 P3 P4 P5 P6 P7:α0->α1->α2->α3->Prop}{G:Prop}(h:∃ a0 a1 a2 a3,P0 a0 a1 a2 a3/\P1 a0 a1 a2 a3/\P2 a0 a1 a2 a3/\P3 a0 a1 a2 a3/\P4 a0 a1 a2 a3/\P5 a0 a1 a2 a3/\P6 a0 a1 a2 a3/\P7 a0 a1 a2 a3)(k:∀ a0 a1 a2 a3,P0 a0 a1 a2 a3->P1 a0 a1 a2 a3->P2 a0 a1 a2 a3->P3 a0 a1 a2 a3->P4 a0 a1 a2 a3->P5 a0 a1 a2 a3->P6 a0 a1 a2 a3->P7 a0 a1 a2 a3->G):G:=h.elim λa0 h=>h.elim λa1 h=>h.elim λa2 h=>h.elim λa3 h=>k a0 a1 a2 a3 h.1 h.2.1 h.2.2.1 h.2.2.2.1 h.2.2.2.2.1 h.2.2.2.2.2.1 h.2.2.2.2.2.2.1 h.2.2.2.2.2.2.2
theorem uk {α0 α1 α2 α3 α4:Type}{P0:α0->α1->α2->α3->α4->Prop}{G:Prop}(h:∃ a0 a1 a2 a3 a4,P0 a0 a1 a2 a3 a4)(k:∀ a0 a1 a2 a3 a4,P0 a0 a1 a2 a3 a4->G):G:=h.elim λa0 h=>h.elim λa1 h=>h.elim λa2 h=>h.elim λa3 h=>h.elim λa4 h=>k a0 a1 a2 a3 a4 h
theorem AH {α0 α1 α2 α3 α4:Type}{P0 P1 P2:α0->α1->α2->α3->α4->Prop}{G:Prop}(h:∃ a0 a1 a2 a3 a4,P0 a0 a1 a2 a3 a4/\P1 a0 a1 a2 a3 a4/\P2 a0 a1 a2 a3 a4)(k:∀ a0 a1 a2 a3 a4,P0 a0 a1 a2 a3 a4->P1 a0 a1 a2 a3 a4->P2 a0 a1 a2 a3 a4->G):G:=h.elim λa0 h=>h.elim λa1 h=>h.elim λa2 h=>h.elim λa3 h=>h.elim λa4 h=>k a0 a1 a2 a3 a4 h.1 h.2.1 h.2.2
theorem el63 {α0 α1 α2 α3 α4 α5:Type}{P0 P1 P2:α0->α1->α2->α3->α4->α5->Prop}{G:Prop}(h:∃ a0 a1 a2 a3 a4 a5,P0 a0 a1 a2 a3 a4 a5/\P1 a0 a1 a2 a3 a4 a5/\P2 a0 a1 a2 a3 a4 a5)(k:∀ a0 a1 a2 a3 a4 a5,P0 a0 a1 a2 a3 a4 a5->P1 a0 a1 a2 a3 a4 a5->P2 a0 a1 a2 a3 a4 a5->G):G:=h.elim λa0 h=>h.elim λa1 h=>h.elim λa2 h=>h.elim λa3 h=>h.elim λa4 h=>h.elim λa5 h=>k a0 a1 a2 a3 a4 a5 h.1 h.2.1 h.2.2
theorem el73 {α0 α1 α2 α3 α4 α5 α6:Type}{P0 P1 P2:α0->α1->α2->α3->α4->α5->α6->Prop}{G:Prop}(h:∃ a0 a1 a2 a3 a4 a5 a6,P0 a0 a1 a2 a3 a4 a5 a6/\P1 a0 a1 a2 a3 a4 a5 a6/\P2 a0 a1 a2 a3 a4 a5 a6)(k:∀ a0 a1 a2 a3 a4 a5 a6,P0 a0 a1 a2 a3 a4 a5 a6->P1 a0 a1 a2 a3 a4 a5 a6->P2 a0 a1 a2 a3 a4 a5 a6->G):G:=h.elim λa0 h=>h.elim λa1 h=>h.elim λa2 h=>h.elim λa3 h=>h.elim λa4 h=>h.elim λa5 h=>h.elim λa6 h=>k a0 a1 a2 a3 a4 a5 a6 h.1 h.2.1 h.2.2
theorem el75 {α0 α1 α2 α3 α4 α5 α6:Type}{P0 P1 P2 P3 P4:α0->α1->α2->α3->α4->α5->α6->Prop}{G:Prop}(h:∃ a0 a1 a2 a3 a4 a5 a6,P0 a0 a1 a2 a3 a4 a5 a6/\P1 a0 a1 a2 a3 a4 a5 a6/\P2 a0 a1 a2 a3 a4 a5 a6/\P3 a0 a1 a2 a3 a4 a5 a6/\P4 a0 a1 a2 a3 a4 a5 a6)(k:∀ a0 a1 a2 a3 a4 a5 a6,P0 a0 a1 a2 a3 a4 a5 a6->P1 a0 a1 a2 a3 a4 a5 a6->P2 a0 a1 a2 a3 a4 a5 a6->P3 a0 a1 a2 a3 a4 a5 a6->P4 a0 a1 a2 a3 a4 a5 a6->G):G:=h.elim λa0 h=>h.elim λa1 h=>h.elim λa2 h=>h.elim λa3 h=>h.elim λa4 h=>h.elim λa5 h=>h.elim λa6 h=>k a0 a1 a2 a3 a4 a5 a6 h.1 h.2.1 h.2.2.1 h.2.2.2.1 h.2.2.2.2
theorem el82 {α0 α1 α2 α3 α4 α5 α6 α7:Type}{P0 P1:α0->α1->α2->α3->α4->α5->α6->α7->Prop}{G:Prop}(h:∃ a0 a1 a2 a3 a4 a5 a6 a7,P0 a0 a1 a2 a3 a4 a5 a6 a7/\P1 a0 a1 a2 a3 a4 a5 a6 a7)(k:∀ a0 a1 a2 a3 a4 a5 a6 a7,P0 a0 a1 a2 a3 a4 a5 a6 a7->P1 a0 a1 a2 a3 a4 a5 a6 a7->G):G:=h.elim λa0 h=>h.elim λa1 h=>h.elim λa2 h=>h.elim λa3 h=>h.elim λa4 h=>h.elim λa5 h=>h.elim λa6 h=>h.elim λa7 h=>k a0 a1 a2 a3 a4 a5 a6 a7 h.1 h.2
theorem el85 {α0 α1 α2 α3 α4 α5 α6 α7:Type}{P0 P1 P2 P3 P4:α0->α1->α2->α3->α4->α5->α6->α7->Prop}{G:Prop}(h:∃ a0 a1 a2 a3 a4 a5 a6 a7,P0 a0 a1 a2 a3 a4 a5 a6 a7/\P1 a0 a1 a2 a3 a4 a5 a6 a7/\P2 a0 a1 a2 a3 a4 a5 a6 a7/\P3 a0 a1 a2 a3 a4 a5 a6 a7/\P4 a0 a1 a2 a3 a4 a5 a6 a7)(k:∀ a0 a1 a2 a3 a4 a5 a6 a7,P0 a0 a1 a2 a3 a4 a5 a6 a7->P1 a0 a1 a2 a3 a4 a5 a6 a7->P2 a0 a1 a2 a3 a4 a5 a6 a7->P3 a0 a1 a2 a3 a4 a5 a6 a7->P4 a0 a1 a2 a3 a4 a5 a6 a7->G):G:=h.elim λa0 h=>h.elim λa1 h=>h.elim λa2 h=>h.elim λa3 h=>h.elim λa4 h=>h.elim λa5 h=>h.elim λa6 h=>h.elim λa7 h=>k a0 a1 a2 a3 a4 a5 a6 a7 h.1 h.2.1 h.2.2.1 h.2.2.2.1 h.2.2.2.2
theorem el92 {α0 α1 α2 α3 α4 α5 α6 α7 α8:Type}{P0 P1:α0->α1->α2->α3->α4->α5->α6->α7->α8->Prop}{G:Prop}(h:∃ a0 a1 a2 a3 a4 a5 a6 a7 a8,P0 a0 a1 a2 a3 a4 a5 a6 a7 a8/\P1 a0 a1 a2 a3 a4 a5 a6 a7 a8)(k:∀ a0 a1 a2 a3 a4 a5 a6 a7 a8,P0 a0 a1 a2 a3 a4 a5 a6 a7 a8->P1 a0 a1 a2 a3 a4 a5 a6 a7 a8->G):G:=h.elim λa0 h=>h.elim λa1 h=>h.elim λa2 h=>h.elim λa3 h=>h.elim λa4 h=>h.elim λa5 h=>h.elim λa6 h=>h.elim λa7 h=>h.elim λa8 h=>k a0 a1 a2 a3 a4 a5 a6 a7 a8 h.1 h.2
theorem el95 {α0 α1 α2 α3 α4 α5 α6 α7 α8:Type}{P0 P1 P2 P3 P4:α0->α1->α2->α3->α4->α5->α6->α7->α8->Prop}{G:Prop}(h:∃ a0 a1 a2 a3 a4 a5 a6 a7 a8,P0 a0 a1 a2 a3 a4 a5 a6 a7 a8/\P1 a0 a1 a2 a3 a4 a5 a6 a7 a8/\P2 a0 a1 a2 a3 a4 a5 a6 a7 a8/\P3 a0 a1 a2 a3 a4 a5 a6 a7 a8/\P4 a0 a1 a2 a3 a4 a5 a6 a7 a8)(k:∀ a0 a1 a2 a3 a4 a5 a6 a7 a8,P0 a0 a1 a2 a3 a4 a5 a6 a7 a8->P1 a0 a1 a2 a3 a4 a5 a6 a7 a8->P2 a0 a1 a2 a3 a4 a5 a6 a7 a8->P3 a0 a1 a2 a3 a4 a5 a6 a7 a8->P4 a0 a1 a2 a3 a4 a5 a6 a7 a8->G):G:=h.elim λa0 h=>h.elim λa1 h=>h.elim λa2 h=>h.elim λa3 h=>h.elim λa4 h=>h.elim λa5 h=>h.elim λa6 h=>h.elim λa7 h=>h.elim λa8 h=>k a0 a1 a2 a3 a4 a5 a6 a7 a8 h.1 h.2.1 h.2.2.1 h.2.2.2.1 h.2.2.2.2
theorem wq {α:Type}{M:Model}{m m':Sem α}{Q:α->ae->Prop}{s:ae}(h:m=m')(k:wpAny M A m' Q E s):wpAny M A m Q E s:=h▸k
theorem wq' {α:Type}{M:Model}{m m':Sem α}{Q:α->ae->Prop}{s:ae}(h:m'=m)(k:wpAny M A m' Q E s):wpAny M A m Q E s:=h▸k
theorem pj2 {α β:Type}{a c:α}{b d:β}{G:Prop}(h:some (a,b)=some (c,d))(k:a=c->b=d->G):G:=have z:=Option.some.inj h;k (congrArg Prod.fst z) (congrArg Prod.snd z)
theorem pj3 {α β γ:Type}{a c:α}{b d:β}{e f:γ}{G:Prop}(h:some (a,b,e)=some (c,d,f))(k:a=c->b=d->e=f->G):G:=have z:=Option.some.inj h;k (congrArg Prod.fst z) (congrArg (λp=>p.2.1) z) (congrArg (λp=>p.2.2) z)
@[irreducible] noncomputable def pg:bF:=nU.row.toRowW.prog
abbrev Md (w:World):Model:=model pg w
noncomputable abbrev up (s:ae)(h:Heap)(t:Nat):ae:={ s with heap:=h,toks:=t }
def dQ (C:List Addr)(h h':Heap):Prop:=∀ b o,b∉C->h.get? b=some o->(∀ vs,o.data≠.fields vs)->∃ sl,h'.get? b=some { o with slots:=sl }
def CL (C:List Addr)(h:Heap):Prop:=∀ c∈C,∃ o,h.get? c=some o/\(o.cls=.type "list"\/o.cls=.type "frame")/\∀ vs,o.data≠.fields vs
theorem dQ.refl (C:List Addr)(h:Heap):dQ C h h:=λ_ o _ e _=>⟨o.slots,e⟩
theorem dQ.trans {C:List Addr}(x:dQ C h h')(y:dQ C h' h''):dQ C h h'':=λb o hb e n=>by
 obtain ⟨sl,e'⟩:=x b o hb e n
 obtain ⟨sl',e''⟩:=y b _ hb e' n
 exact ⟨sl',e''⟩
theorem dQ.mono {C C':List Addr}(x:dQ C h h')(s:∀ c∈C,c∈C'):dQ C' h h':=λb o hb e=>x b o (λq=>hb (s b q)) e
theorem dQ.ext {C:List Addr}(k:Sb h h'):dQ C h h':=λb o _ e _=>⟨o.slots,k b o e⟩
theorem dQ.slots {C:List Addr}(k:h.UpToSlots h'):dQ C h h':=λb o _ e n=>k b o e n
theorem dQ.obj {C:List Addr}{b:Addr}(x:dQ C h h')(cl:CL C h)(e:h.get? b=some o)(hf:o.cls≠.type "frame")(hl:o.cls≠.type "list")(n:∀ vs,o.data≠.fields vs):∃ sl,h'.get? b=some { o with slots:=sl }:=by
 have hb:b∉C:=λq=>by
  obtain ⟨o',e',c⟩:=cl b q
  rw [e] at e'
  cases e'
  exact c.1.elim hl hf
 exact x b o hb e n
noncomputable def P0:aM:={ strHash:=λ_=>0,shareClass:=λ_=>0,mergeTok:=λt=>t,idOf:=λ_=>0,idOfShared:=λ_ _=>0,followText:=λ_=>true,idOfImm:=λ_=>0 }
def eE (f:Addr):FuncData:=match (K P0).lookup f with | some ⟨_,_,.func fd,_⟩=>fd | _=>default
def aO (f:Addr):List Stmt:=match (eE f).body with | .stmts b=>b | _=>[]
def dK (f:Addr):List Str:=(eE f).params.posonlyargs.map (·.arg)++(eE f).params.args.map (·.arg)
def aJ (f:Addr):Scope:=(eE f).scope
inductive EV where
 | name (x:Str) (p:Pos) | const (c:Const) (k:Nat) (p:Pos) | bin (l:Expr) (op:mZ) (r:Expr) (p:Pos) | una (op:UnaryOp) (x:Expr) (p:Pos) | boo (op:BoolOp) (l:List Expr) (p:Pos)
 | cmp (l:Expr) (ops:List CmpOp) (rs:List Expr) (p:Pos) | ife (t x y:Expr) (p:Pos) | att (o:Expr) (a:Str) (p:Pos) | sub (o i:Expr) (p:Pos) | tup (l:List Expr) (k:Nat) (p:Pos)
 | call (f:Expr) (as:List Expr) (ks:List Keyword) (p:Pos) | lam (a:Arguments) (b:Expr) (s:Scope) (p:Pos) | other
noncomputable def jB:Expr->EV
 | .Name x p=>.name x p
 | .Constant c k p=>.const c k p
 | .BinOp l op r p=>.bin l op r p
 | .UnaryOp op x p=>.una op x p
 | .BoolOp op l p=>.boo op l p
 | .Compare l ops rs p=>.cmp l ops rs p
 | .IfExp t x y p=>.ife t x y p
 | .Attribute o a p=>.att o a p
 | .Subscript o i p=>.sub o i p
 | .Tuple l k p=>.tup l k p
 | .Call f as ks p=>.call f as ks p
 | .Lambda a b s p=>.lam a b s p
 | _=>.other
noncomputable def EV.back:EV->Expr
 | .name x p=>.Name x p
 | .const c k p=>.Constant c k p
 | .bin l op r p=>.BinOp l op r p
 | .una op x p=>.UnaryOp op x p
 | .boo op l p=>.BoolOp op l p
 | .cmp l ops rs p=>.Compare l ops rs p
 | .ife t x y p=>.IfExp t x y p
 | .att o a p=>.Attribute o a p
 | .sub o i p=>.Subscript o i p
 | .tup l k p=>.Tuple l k p
 | .call f as ks p=>.Call f as ks p
 | .lam a b s p=>.Lambda a b s p
 | .other=>default
theorem ji:∀ e:Expr,jB e=.other\/e=(jB e).back:=by intro e;cases e<;>first | exact .inr rfl | exact .inl rfl
def zZ (e:Expr):Arguments×Expr×Scope:=match jB e with
 | .lam a b s _=>(a,b,s)
 | _=>(default,default,default)
def pU (e:Expr):Arguments:=(zZ e).1
def jL (e:Expr):Expr:=(zZ e).2.1
def fT (e:Expr):Scope:=(zZ e).2.2
def se (s:Stmt)(i:Nat):Expr:=(uO s).1.getD i default
def sb (s:Stmt)(i:Nat):List Stmt:=(uO s).2.1.getD i []
def sp (s:Stmt):Pos:=(uO s).2.2.1
def ee (e:Expr)(i:Nat):Expr:=(xZ e).1.getD i default
def valE (s:Stmt):Expr:=se s 0
def EN (e:Expr):List Expr:=match jB e with
 | .call _ as ks _=>as++ks.map (·.value)
 | _=>[]
def j9:Expr:=((EN (valE ((aO 618).getD 5 default)))).getD 0 default
def jY:Expr:=((EN (valE ((aO 845).getD 6 default)))).getD 2 default
inductive Rt where
 | reg | qu | ks | qkf | skf | orient | inter
 deriving DecidableEq,Inhabited
inductive Mv where
 | none
 | bool (b:Bool)
 | int (i:Int)
 | str (s:Str)
 | addr (a:Addr)
 | root (r:Rt)
 | list (i:Nat)
 | ctx
 | contour (i:Nat)
 | pt (p:Pn)
 | pair (p q:Mv)
 | qk (e:Int)
 | sk (e:Int)
 | seg (p q:Pn)
 | isec (i j:Int) (rel:Addr) (s e:Pn)
 deriving Inhabited
structure aD where
 live:Bool
 at_:Rt->Addr
 cells:List Addr
 hp:Hp
def cL (h:Heap)(a C:Addr)(at_:List (Str×Value)):Prop:=
 ∃ sl d sl' es n,h.get? a=some ⟨.ref C,some d,.plain,sl⟩/\h.get? d=some ⟨.type "dict",ac,.dict (br es) n,sl'⟩/\∀ x:Str,getL x es=some ((at_.find? (λp=>p.1 == x)).map (·.2))
def eH (h:Heap)(a:Addr)(o:Obj):Prop:=∃ sl,h.get? a=some { o with slots:=sl }
noncomputable abbrev ptO (dx:Addr)(x y:Int)(t u:Tok):Obj:=⟨.ref 209,some dx,.seq #[.int x t,.int y u] 0,#[]⟩
noncomputable abbrev dct (es:List gv)(n:Nat):Obj:=⟨.type "dict",ac,.dict es.toArray n,#[]⟩
noncomputable abbrev BC (u v:Value):Obj:=⟨.type "tuple",ac,.seq #[u,v] 0,#[]⟩
noncomputable abbrev qkA (ea oa:Addr)(e:Int)(t:Tok):List (Str×Value):=[("endpoints",.ref ea),("event",.int e t),("opposites",.ref oa)]
noncomputable abbrev skA (ori ea oa:Addr)(e:Int)(t:Tok):List (Str×Value):=[("endpoints",.ref ea),("event",.int e t),("opposites",.ref oa),("_orienteer",.ref ori)]
inductive Bo (i:Int):Value->Prop
 | mk (t:Tok):Bo i (.int i t)
inductive StrV (x:Str):Value->Prop
 | mk (t:Tok):StrV x (.str x t)
inductive uG (R:aD) (r:Rt):Value->Prop
 | mk:R.live=true->uG R r (.ref (R.at_ r))
inductive uI (R:aD) (i:Nat):Value->Prop
 | mk {a:Addr}:R.cells[i]? = some a->uI R i (.ref a)
inductive CtxV (h:Heap):Value->Prop
 | mk {a:Addr}:cL h a 369 []->CtxV h (.ref a)
inductive EW (R:aD) (h:Heap) (i:Nat):Value->Prop
 | mk {a c:Addr}:R.cells[i]? = some c->cL h a 329 [("vertices",.ref c)]->EW R h i (.ref a)
inductive pu (h:Heap) (x y:Int):Value->Prop
 | mk {a dx:Addr}{t u:Tok}{n:Nat}:eH h a (ptO dx x y t u)->eH h dx (dct [] n)->pu h x y (.ref a)
inductive oR (h:Heap) (P Q:Value->Prop):Value->Prop
 | mk {a:Addr}{u v:Value}:eH h a (BC u v)->P u->Q v->oR h P Q (.ref a)
inductive QkV (R:aD) (h:Heap) (e:Int):Value->Prop
 | mk {a ea oa:Addr}{t:Tok}:R.cells[0]? = some ea->R.cells[1]? = some oa->cL h a 94 (qkA ea oa e t)->QkV R h e (.ref a)
inductive SkV (R:aD) (h:Heap) (e:Int):Value->Prop
 | mk {a ea oa:Addr}{t:Tok}:R.live=true->R.cells[0]? = some ea->R.cells[1]? = some oa->cL h a 540 (skA (R.at_ .orient) ea oa e t)->SkV R h e (.ref a)
inductive Hl (h:Heap) (P Q:Value->Prop):Value->Prop
 | mk {a:Addr}{u v:Value}:cL h a 308 [("start",u),("end",v)]->P u->Q v->Hl h P Q (.ref a)
inductive ES (h:Heap) (P Q:Value->Prop) (i j:Int) (rel:Addr):Value->Prop
 | mk {a:Addr}{t t':Tok}{u v:Value}:cL h a 822 [("_end",v),("_first_segment_id",.int i t),("_relation",.ref rel),("_second_segment_id",.int j t'),("_start",u)]->P u->Q v->ES h P Q i j rel (.ref a)
def Pv (R:aD)(h:Heap)(p:Pn):Value->Prop:=pu h (R.hp.x p) (R.hp.y p)
def V (R:aD)(h:Heap)(m:Mv):Value->Prop:=
 Mv.rec (motive:=λ_=>Value->Prop) (· = .none) (λb=>(· = .bool b)) Bo StrV (λa=>(· = .ref a)) (uG R) (uI R) (CtxV h) (EW R h) (Pv R h) (λ_ _=>oR h) (QkV R h) (SkV R h) (λp q=>Hl h (Pv R h p) (Pv R h q)) (λi j r p q=>ES h (Pv R h p) (Pv R h q) i j r) m
section
variable {R:aD}
theorem V.none:V R h .none .none:=rfl
theorem V.bool (b:Bool):V R h (.bool b) (.bool b):=rfl
theorem V.int (i:Int)(t:Tok):V R h (.int i) (.int i t):=.mk t
theorem V.str (s:Str)(t:Tok):V R h (.str s) (.str s t):=.mk t
theorem V.addr (a:Addr):V R h (.addr a) (.ref a):=rfl
theorem V.root (r:Rt)(l:R.live=true):V R h (.root r) (.ref (R.at_ r)):=.mk l
theorem V.list {i:Nat}{a:Addr}(e:R.cells[i]? = some a):V R h (.list i) (.ref a):=.mk e
theorem V.ctx {a:Addr}(i:cL h a 369 []):V R h .ctx (.ref a):=.mk i
theorem V.contour {i:Nat}{a c:Addr}(e:R.cells[i]? = some c)(f:cL h a 329 [("vertices",.ref c)]):V R h (.contour i) (.ref a):=.mk e f
theorem V.pt {a:Addr}{x y:Int}{t u:Tok}{n:Nat}(e:eH h a (ptO dx x y t u))(f:eH h dx (dct [] n)):V R h (.pt (false,x,y)) (.ref a):=(.mk e f:pu h x y _)
theorem V.pair {a:Addr}{p q:Mv}{u v:Value}(o:eH h a (BC u v))(e:V R h p u)(f:V R h q v):V R h (.pair p q) (.ref a):=.mk o e f
theorem V.qk {a ea:Addr}{e:Int}{t:Tok}(e1:R.cells[0]? = some ea)(e2:R.cells[1]? = some oa)(i:cL h a 94 (qkA ea oa e t)):V R h (.qk e) (.ref a):=.mk e1 e2 i
theorem V.sk {a ea:Addr}{e:Int}{t:Tok}(l:R.live=true)(e1:R.cells[0]? = some ea)(e2:R.cells[1]? = some oa)(i:cL h a 540 (skA (R.at_ .orient) ea oa e t)):V R h (.sk e) (.ref a):=.mk l e1 e2 i
theorem V.seg {a:Addr}{p q:Pn}{u v:Value}(i:cL h a 308 [("start",u),("end",v)])(e:V R h (.pt p) u)(f:V R h (.pt q) v):V R h (.seg p q) (.ref a):=.mk i e f
theorem V.isec {a:Addr}{i j:Int}{t t':Tok}{rel:Addr}{p q:Pn}{u v:Value}
  (k:cL h a 822 [("_end",v),("_first_segment_id",.int i t),("_relation",.ref rel),("_second_segment_id",.int j t'),("_start",u)]) (e:V R h (.pt p) u) (f:V R h (.pt q) v):V R h (.isec i j rel p q) (.ref a):=.mk k e f
end
def Br (_:Heap)(R R':aD):Prop:=R'=R
theorem Br.refl (h:Heap)(R:aD):Br h R R:=rfl
theorem Br.cell {R R':aD}(x:Br h R R'){i:Nat}{a:Addr}(e:R.cells[i]? = some a):R'.cells[i]? = some a:=by cases x;exact e
theorem Br.live {R R':aD}(x:Br h R R')(l:R.live=true):R'.live=true/\R'.at_=R.at_:=by cases x;exact ⟨l,rfl⟩
theorem Br.sub {R R':aD}(x:Br h R R'):∀ c∈R.cells,c∈R'.cells:=by cases x;exact λ_ q=>q
theorem dF:mY "dict"≠.type "frame":=by decide
theorem dL:mY "dict"≠.type "list":=by decide
theorem tF:mY "tuple"≠.type "frame":=by decide
theorem tL:mY "tuple"≠.type "list":=by decide
section
variable {R R':aD}{C:List Addr}
theorem eH.keep {a:Addr}(x:dQ C h h')(cl:CL C h)(i:eH h a o)(hf:o.cls≠.type "frame")(hl:o.cls≠.type "list")(n:∀ vs,o.data≠.fields vs):eH h' a o:=by
 obtain ⟨sl,e⟩:=i
 obtain ⟨sl',e'⟩:=x.obj cl e hf hl n
 exact ⟨sl',e'⟩
theorem cL.keep {a Cl:Addr}{at_:List (Str×Value)}(x:dQ C h h')(cl:CL C h)(i:cL h a Cl at_):cL h' a Cl at_:=by
 obtain ⟨sl,d,sl',es,n,e1,e2,g⟩:=i
 obtain ⟨s1,e1'⟩:=x.obj cl e1 nofun nofun nofun
 obtain ⟨s2,e2'⟩:=x.obj cl e2 dF dL nofun
 exact ⟨s1,d,s2,es,n,e1',e2',g⟩
theorem eH.ext {a:Addr}(k:Sb h h')(i:eH h a o):eH h' a o:=i.imp λ_ e=>k _ _ e
theorem cL.ext {a Cl:Addr}{at_:List (Str×Value)}(k:Sb h h')(i:cL h a Cl at_):cL h' a Cl at_:=by
 obtain ⟨sl,d,sl',es,n,e1,e2,g⟩:=i
 exact ⟨sl,d,sl',es,n,k _ _ e1,k _ _ e2,g⟩
theorem pu.keep {x y:Int}{u:Value}(k:dQ C h h')(cl:CL C h)(i:pu h x y u):pu h' x y u:=by
 cases i with | mk e f=>exact .mk (e.keep k cl nofun nofun nofun) (f.keep k cl dF dL nofun)
theorem oR.keep {P Q P' Q':Value->Prop}{u:Value}(k:dQ C h h')(cl:CL C h)(i:oR h P Q u)(p:∀ u,P u->P' u)(q:∀ u,Q u->Q' u):oR h' P' Q' u:=by
 cases i with | mk o e f=>exact .mk (o.keep k cl tF tL nofun) (p _ e) (q _ f)
theorem V.keep {v:Mv}{u:Value}(x:dQ C h h')(cl:CL C h){k:Heap}(ex:Br k R R')(i:V R h v u):V R' h' v u:=by
 cases ex
 induction v generalizing u with
 | ctx=>cases i with | mk e=>exact .mk (e.keep x cl)
 | contour=>cases i with | mk e f=>exact .mk e (f.keep x cl)
 | pt=>exact pu.keep x cl i
 | pair p q ip iq=>exact oR.keep x cl i (λ_=>ip) λ_=>iq
 | qk=>cases i with | mk e f k=>exact .mk e f (k.keep x cl)
 | sk=>cases i with | mk l e f k=>exact .mk l e f (k.keep x cl)
 | seg=>cases i with | mk k e f=>exact .mk (k.keep x cl) (pu.keep x cl e) (pu.keep x cl f)
 | isec=>cases i with | mk k e f=>exact .mk (k.keep x cl) (pu.keep x cl e) (pu.keep x cl f)
 | _=>exact i
end
abbrev St:=List (List Mv)
inductive bz {α β:Type}(P:α->β->Prop):List α->List β->Prop
 | nil:bz P [] []
 | cons {a b l m}:P a b->bz P l m->bz P (a :: l) (b :: m)
theorem bz.imp {α β:Type}{P Q:α->β->Prop}{l:List α}{m:List β}(x:bz P l m)(f:∀ a b,P a b->Q a b):bz Q l m:=by
 induction x with
 | nil=>exact .nil
 | cons p _ ih=>exact .cons (f _ _ p) ih
theorem bz.length {α β:Type}{P:α->β->Prop}{l:List α}{m:List β}(x:bz P l m):l.length=m.length:=by
 induction x with
 | nil=>rfl
 | cons p _ ih=>simp [ih]
theorem bz.get {α β:Type}{P:α->β->Prop}{l:List α}{m:List β}(x:bz P l m):∀ {i:Nat}{a:α},l[i]? = some a->∃ b,m[i]? = some b/\P a b:=by
 induction x with
 | nil=>intro i a e;simp at e
 | cons p _ ih =>
  intro i a e
  cases i with
  | zero=>simp at e;subst e;exact ⟨_,by simp,p⟩
  | succ i=>simp at e;obtain ⟨b,e1,e2⟩:=ih e;exact ⟨b,by simpa using e1,e2⟩
def nP (R:aD)(h:Heap)(a:Addr)(l:List Mv):Prop:=∃ (vs:List Value) (n:Nat),IsL h a vs.toArray n/\bz (V R h) l vs
structure Hs (R:aD) (st:St) (h:Heap):Prop where
 nodup:R.cells.Nodup
 all:bz (λa l=>nP R h a l) R.cells st
theorem Hs.cl {R:aD}{st:St}(x:Hs R st h):CL R.cells h:=by
 intro c hc
 obtain ⟨i,hi,rfl⟩:=jU.mp hc
 obtain ⟨l,_,vs,n,e,_⟩:=x.all.get (bh hi)
 exact ⟨_,e,.inl rfl,λvs q=>by cases q⟩
def fU (h:Heap)(a:Addr)(l:Expr)(q:Str)(x:Str)(v:Value):Prop:=
 ∃ pm cdv ct cell od oc fs t,eH h a ⟨.type "function",od,.func (kla_fn "<lambda>" q (pU l) (jL l) (fT l) [(x,cell)] pm (.ref cdv) ct),#[]⟩/\eH h cell ⟨.type "cell",ac,.cell (some v),#[]⟩ /\
  eH h cdv oc/\oc.data=.fields fs/\fs[1]? = some (.str q t)
theorem fU.map {a:Addr}{l:Expr}{q x:Str}{v:Value}(k:∀ b o,h.get? b=some o->(o.cls=.type "function"\/o.cls=.type "cell"\/∃ fs,o.data=.fields fs)->h'.get? b=some o)(i:fU h a l q x v):fU h' a l q x v:=by
 obtain ⟨pm,cdv,ct,cell,od,oc,fs,t,⟨s1,e1⟩,⟨s2,e2⟩,⟨s3,e3⟩,d,g⟩:=i
 exact ⟨pm,cdv,ct,cell,od,oc,fs,t,⟨s1,k _ _ e1 (.inl rfl)⟩,⟨s2,k _ _ e2 (.inr (.inl rfl))⟩,⟨s3,k _ _ e3 (.inr (.inr ⟨fs,d⟩))⟩,d,g⟩
theorem fU.ext {a:Addr}{l:Expr}{q x:Str}{v:Value}(k:Sb h h')(i:fU h a l q x v):fU h' a l q x v:=i.map λb o e _=>k b o e
noncomputable abbrev fx (f c:Addr):Obj:=gz (.ref f) (.ref c)
structure gA (R:aD) (h:Heap):Prop where
 reg:∃ c0 c1 c2 c3,R.cells[0]? = some c0/\R.cells[1]? = some c1/\R.cells[2]? = some c2/\R.cells[3]? = some c3 /\
  cL h (R.at_ .reg) 761 [("_orienteer",.ref (R.at_ .orient)),("_segments_intersector",.ref (R.at_ .inter)),("_unique",.bool false),("_opposites",.ref c1),("_endpoints",.ref c0),("_segments_ids",.ref c2),
   ("_min_collinear_segments_ids",.ref c3),("_events_queue_data",.ref (R.at_ .qu)),("_sweep_line_data",.ref (R.at_ .ks))]
 qu:∃ c4,R.cells[4]? = some c4/\cL h (R.at_ .qu) 411 [("key",.ref (R.at_ .qkf)),("_rows",.ref c4)]
 ks:∃ c5,R.cells[5]? = some c5/\cL h (R.at_ .ks) 488 [("key",.ref (R.at_ .skf)),("_values",.ref c5)]
 orient:∃ c,eH h (R.at_ .orient) (fx 359 c)/\cL h c 369 []
 skf:eH h (R.at_ .skf) (fx 625 (R.at_ .reg))
 qkf:fU h (R.at_ .qkf) j9 "EventsRegistry.__init__.<locals>.<lambda>" "self" (.ref (R.at_ .reg))
 inter:∃ c,fU h (R.at_ .inter) jY "contour_self_intersects.<locals>.<lambda>" "context" (.ref c)/\cL h c 369 []
structure Gd (w:World) (aa:Heap):Prop where
 X:(K w.params).In aa
 T:∃ p l mean mg mb,Top p l mean mg mb aa
theorem gA.map {R:aD}(ki:∀ a C at_,cL h a C at_->cL h' a C at_)(ko:∀ a f c,eH h a (fx f c)->eH h' a (fx f c))(kl:∀ a l q x v,fU h a l q x v->fU h' a l q x v)(s:gA R h):gA R h':=by
 obtain ⟨⟨c0,c1,c2,c3,e0,e1,e2,e3,r⟩,⟨c4,e4,q⟩,⟨c5,e5,k'⟩,⟨c,o,i⟩,f,lq,c',li,i'⟩:=s
 exact ⟨⟨c0,c1,c2,c3,e0,e1,e2,e3,ki _ _ _ r⟩,⟨c4,e4,ki _ _ _ q⟩,⟨c5,e5,ki _ _ _ k'⟩,⟨c,ko _ _ _ o,ki _ _ _ i⟩,ko _ _ _ f,kl _ _ _ _ _ lq,c',kl _ _ _ _ _ li,ki _ _ _ i'⟩
theorem gA.ext {R:aD}(k:Sb h h')(s:gA R h):gA R h':=s.map (λ_ _ _ i=>i.ext k) (λ_ _ _ i=>i.ext k) λ_ _ _ _ _ i=>i.ext k
structure nQ (aa:Heap) (R:aD) (st:St) (h:Heap):Prop where
 base:Sb aa h
 off:∀ c∈R.cells,aa.get? c=ac
 still0:R.live=true->gA R aa
 hs:Hs R st h
theorem nQ.still {R:aD}{st:St}(i:nQ aa R st h)(l:R.live=true):gA R h:=(i.still0 l).ext i.base
theorem nQ.X {w:World}{R:aD}{st:St}(i:nQ aa R st h)(G:Gd w aa):(K w.params).In h:=G.X.keeps i.base
theorem nQ.cl {R:aD}{st:St}(i:nQ aa R st h):CL R.cells h:=i.hs.cl
structure Nx (aa:Heap) (R:aD) (h:Heap) (R':aD) (st':St) (h':Heap):Prop where
 ext:Br h R R'
 inv:nQ aa R' st' h'
 keep:dQ R.cells h h'
theorem Nx.refl {R:aD}{st:St}(i:nQ aa R st h):Nx aa R h R st h:=⟨.refl _ _,i,.refl _ _⟩
theorem Nx.trans {R R' R'':aD}{st' st'':St}(x:Nx aa R h R' st' h')(y:Nx aa R' h' R'' st'' h''):Nx aa R h R'' st'' h'':=by
 have e:=x.ext
 have e':=y.ext
 cases e
 cases e'
 exact ⟨rfl,y.inv,x.keep.trans y.keep⟩
theorem V.nx {R R':aD}{st st':St}{v:Mv}{u:Value}(x:Nx aa R h R' st' h')(i:nQ aa R st h)(y:V R h v u):V R' h' v u:=y.keep x.keep i.cl x.ext
abbrev Lo:=Str->Option Mv
def ci (R:aD)(h:Heap)(lo:Lo)(m:Str->Option Value):Prop:=∀ x v,lo x=some v->∃ u,m x=some u/\V R h v u
structure bZ (env:Env) (sc:Scope) (h:Heap) (m:Str->Option Value):Prop where
 sce:env.scope=sc
 kind:sc.kind=.function
 gen:sc.isCoroutine=false
 glob:env.globals=bM
 blt:env.builtins=gK
 frame:env.frame=some env.locals
 at_:∃ o es ep,h.get? env.locals=some o/\o.cls=.type "frame"/\o.data=.dict es ep/\StrKeys es/\∀ name,nsFind es name=m name
theorem bZ.ns {env:Env}(F:bZ env sc h m):h.Ns env.locals m:=
 let ⟨o,es,ep,e,_,r⟩:=F.at_;⟨o,es,ep,e,r⟩
theorem bZ.off {env:Env}(F:bZ env sc h m){R:aD}{st:St}(s:Hs R st h):env.locals∉R.cells:=λq=>by
 obtain ⟨o,es,ep,e,c,d,_⟩:=F.at_
 obtain ⟨i,hi,e'⟩:=jU.mp q
 obtain ⟨l,_,vs,n,e1,_⟩:=s.all.get (bh hi)
 rw [e'] at e1
 have e1':h.get? env.locals=_:=e1
 rw [e] at e1'
 cases e1'
 cases d
theorem bZ.keep {env:Env}{C:List Addr}(F:bZ env sc h m)(x:dQ C h h')(hL:env.locals∉C):bZ env sc h' m:=by
 obtain ⟨h1,h2,h2',h3,h4,h5,o,es,ep,e,c,d,r⟩:=F
 obtain ⟨sl,e'⟩:=x _ o hL e (by rw [d];simp)
 exact ⟨h1,h2,h2',h3,h4,h5,_,es,ep,e',c,d,r⟩
theorem bZ.nx {env:Env}{R R':aD}{st st':St}(x:Nx aa R h R' st' h')(i:nQ aa R st h)(F:bZ env sc h m):bZ env sc h' m:=F.keep x.keep (F.off i.hs)
theorem ci.nx {R R':aD}{st st':St}{lo:Lo}(x:Nx aa R h R' st' h')(i:nQ aa R st h)(l:ci R h lo m):ci R' h' lo m:=λy v e =>
 bg (l y v e) λu a b=>⟨u,a,b.nx x i⟩
def Bq (h:Heap)(l:List Env):Prop:=∀ L∈l.filterMap (·.frame),∃ o,h.get? L=some o/\o.cls=.type "frame"/\∀ vs,o.data≠.fields vs
def Bw (aa:Heap)(A:aw)(h:Heap):Prop:=∃ outer,A.frames=some outer/\h.FunFrames aa outer/\Bq h outer
theorem FunFrames.keep {C:List Addr}{base:Heap}(x:dQ C h h')(cl:CL C h')(hl:∀ c∈C,∃ o,h'.get? c=some o/\∀ vs,o.data≠.fields vs):∀ {l:List Env},h.FunFrames base l->h'.FunFrames base l
 | [],_=>trivial
 | env :: _,⟨hk,⟨L,o,hf,hn,ho,hd⟩,hr⟩=>by
  refine ⟨hk,?_,FunFrames.keep x cl hl hr⟩
  by_cases q:L∈C
  ·refine bg (hl L q) λo' e d=>?_
   exact ⟨L,o',hf,hn,e,d⟩
  ·obtain ⟨sl,e⟩:=x L o q ho hd
   exact ⟨L,_,hf,hn,e,hd⟩
theorem Hs.nofields {R:aD}{st:St}(x:Hs R st h):∀ c∈R.cells,∃ o,h.get? c=some o/\∀ vs,o.data≠.fields vs:=by
 intro c hc
 obtain ⟨i,hi,rfl⟩:=jU.mp hc
 obtain ⟨l,_,vs,n,e,_⟩:=x.all.get (bh hi)
 exact ⟨_,e,λvs q=>by cases q⟩
theorem Hs.notFrame {R:aD}{st:St}(x:Hs R st h){L:Addr}(e:h.get? L=some o)(c:o.cls=.type "frame"):L∉R.cells:=λq=>by
 obtain ⟨i,hi,e'⟩:=jU.mp q
 obtain ⟨l,_,vs,n,e1,_⟩:=x.all.get (bh hi)
 rw [e'] at e1
 have e1':h.get? L=_:=e1
 rw [e] at e1'
 cases e1'
 simp at c
theorem Bw.nx {R R':aD}{st st':St}(x:Nx aa R h R' st' h')(i:nQ aa R st h)(s:Bw aa A h):Bw aa A h':=by
 refine dJ s λouter e f c=>?_
 refine ⟨outer,e,FunFrames.keep x.keep (λc hc=>x.inv.cl c (x.ext.sub c hc)) (λc hc=>x.inv.hs.nofields c (x.ext.sub c hc)) f,λL hL=>?_⟩
 refine dJ (c L hL) λo e1 c1 d1=>?_
 obtain ⟨sl,e2⟩:=x.keep L o (i.hs.notFrame e1 c1) e1 d1
 exact ⟨_,e2,c1,d1⟩
structure Ok (k:Nat) (A:aw):Prop where
 handled:A.handled=ac
 depth:A.depth+3 * k < aA
 units:A.units+24 * k+8 < cLine
theorem ya {a b k:Nat}(h:k<=j):a+k+b<=a+(b+j):=by rw [Nat.add_assoc,Nat.add_comm k];exact aT (aT h b) a
theorem Ok.un {k n:Nat}(x:Ok (n+1) A)(h:k<=24):A.units+k+24 * n+8 < cLine:=av (Nat.add_le_add_right (ya h) 8) x.units
theorem Ok.u {k n:Nat}(x:Ok (n+1) A)(h:k<=24):A.units+k < cLine:=av (au (aE _ (24 * n)) (aE _ 8)) (x.un h)
theorem Ok.d {k n m:Nat}(x:Ok (n+m) A)(h:k<=3 * m):A.depth+k < aA:=av (aT (au h (Nat.mul_le_mul_left 3 (Nat.le_add_left m n))) _) x.depth
theorem Ok.u1 {k:Nat}(x:Ok k A):A.units+1 < cLine:=av (au (aT (show 1<=8 by decide) _) (Nat.add_le_add_right (aE _ _) 8)) x.units
theorem pT (h:us.length<=1000):((us.toArray.size:Nat):Int) < 2 ^ 63:=Int.lt_of_le_of_lt (Int.ofNat_le.mpr (au (Nat.le_of_eq List.size_toArray) h)) (by decide)
theorem Ok.le {k k':Nat}(x:Ok k A)(h:k'<=k):Ok k' A:=⟨x.handled,av (aT (Nat.mul_le_mul_left 3 h) _) x.depth,av (Nat.add_le_add_right (aT (Nat.mul_le_mul_left 24 h) _) 8) x.units⟩
def DC (aa:Heap)(e:Addr)(h:Heap):Prop:=aa.get? e=ac/\∃ a0,h.TracedW aa e (.type "ValueError") a0
inductive Rs where
 | ok (v:Mv)
 | err
 deriving Inhabited
abbrev Ex:=Lo->St->Option (Rs×St)
structure Be (w:World) (aa:Heap) (k:Nat) (A:aw) (R:aD) (st:St) (s:ae):Prop where
 G:Gd w aa
 O:Ok k A
 S:Bw aa A s.heap
 I:nQ aa R st s.heap
theorem Be.le {w:World}{k k':Nat}{R:aD}{st:St}{s:ae}(x:Be w aa k A R st s)(h:k'<=k):Be w aa k' A R st s:=⟨x.G,x.O.le h,x.S,x.I⟩
theorem Be.nx {w:World}{k:Nat}{R R':aD}{st st':St}{s:ae}(x:Be w aa k A R st s)(n:Nx aa R s.heap R' st' s'.heap):Be w aa k A R' st' s':=⟨x.G,x.O,x.S.nx n x.I,n.inv⟩
def Po (aa:Heap)(R:aD)(s:ae)(r:Rs)(st':St)(Q E:Value->ae->Prop):Prop:=
 ∀ R' h' t',Nx aa R s.heap R' st' h'->match r with
  | .ok v=>∀ u,V R' h' v u->Q u (up s h' t')
  | .err=>∀ e,DC aa e h'->E (.ref e) (up s h' t')
def kH (k:Nat)(sc:Scope)(e:Expr)(f:Ex):Prop:=
 ∀ (w:World) (aa:Heap) (A:aw) (env:Env) (m:Str->Option Value) (s:ae) (R:aD) (lo:Lo) (st:St) (r:Rs) (st':St) (Q E:Value->ae->Prop),
  Be w aa k A R st s->bZ env sc s.heap m->ci R s.heap lo m->f lo st=some (r,st')->Po aa R s r st' Q E->wpAny (Md w) A (eval e env) Q E s
end
variable {R' R0:aD} {st' st0:St} {lo' loI:Lo} {ms segs:List Mv}
set_option backward.match.sparseCases true
section
set_option maxHeartbeats 400000
section
variable {w:World}{s:ae}
theorem fEq (P:aM):dI (K P) (.ref 209) "__eq__" = some (some (.builtin "tuple.__eq__")):=by with_unfolding_all rfl
theorem fLt (P:aM):dI (K P) (.ref 209) "__lt__" = some (some (.builtin "tuple.__lt__")):=by with_unfolding_all rfl
theorem fNe (P:aM):dI (K P) (.ref 209) "__ne__" = some (some (.builtin "tuple.__ne__")):=by with_unfolding_all rfl
theorem fGt (P:aM):dI (K P) (.ref 209) "__gt__" = some (some (.builtin "tuple.__gt__")):=by with_unfolding_all rfl
theorem uf (P:aM):mroIn (K P) 209 (.type "tuple")=some true:=by with_unfolding_all rfl
end
end
section
set_option maxHeartbeats 400000
section
variable {p:bF}{w:World}{s:ae}
theorem lV {op:CmpOp}{a b C:Addr}{f:Value}(hu:A.units < cLine)(ty1:Looks (model p w) s.heap (gl (.ref a)) (.ref C))(ty2:Looks (model p w) s.heap (gl (.ref b)) (.ref C))
  (fl:Looks (model p w) s.heap (mL (.ref C) (cmpInfo op).2.1) (some f)) (bs:Looks (model p w) s.heap (gE f (.ref a)) (f,[.ref a]))
  (h:wpAny (model p w) A (call f [.ref a,.ref b]) (λv s'=>v≠.notImplemented/\Q v s') E s):wpAny (model p w) A (nV op (.ref a) (.ref b)) Q E s:=by
 have one:wpAny (model p w) A (tryCompare (.ref a) (cmpInfo op).2.1 (.ref b)) (λr s'=>∃ v,r=some v/\Q v s') E s:=by
  unfold tryCompare
  refine ag ?_
  unfold callSpecialIfBound? me
  have fin:wpAny (model p w) A (call f ([.ref a]++[.ref b]) >>= λv=>pure (some v)) (λa_1 s'=>wpAny (model p w) A (match a_1 with
    | some .notImplemented | none=>pure none
    | some v=>pure (some v)) (λr s'=>∃ v,r=some v/\Q v s') E s') E s:=
   ag (aR h (λv s' h'=>aj (by cases v<;>first | exact absurd rfl h'.1 | exact aj ⟨_,rfl,h'.2⟩)) λ_ _ h'=>h')
  refine aX (ag (ag (ag (ty1.here (fl.here ?_)))))
  refine ag (gk (wpAny_ite ?_))
  split
  ·exact ag (bs.here (aj (by exact fin)))
  ·exact wpAny_tryCatch (ag (bs.here (aj (by exact fin))))
 unfold nV
 refine aX (ag (wpAny_cRoomFor hu ?_))
 refine ag (ty1.here (ag (ty2.here ?_)))
 refine wq (if_neg (by simp)) ?_
 refine ag (aj ?_)
 refine ag (aR one (λr s' z=>?_) λ_ _ e=>e)
 refine bg z λv y15 hq=>?_;subst y15
 exact aj hq
end
section
variable {p:bF}{w:World}{g:Array bk}{d:Drawn}{t:Nat}{os:fz}
noncomputable abbrev kR (dx:Addr)(x y:Int)(t1 t2:Tok)(sl:Array (Option Value)):Obj:=⟨.ref 209,some dx,.seq #[.int x t1,.int y t2] 0,sl⟩
theorem eqB {x y:Int}{t1 t2:Tok}{s:ae}{Q:Bool->ae->Prop}(q:Q (decide (x=y)) s):wpAny (model p w) A (eqBool (.int x t1) (.int y t2)) Q E s:=
 (intKind p w).eqBool (a:=x) (b:=y) (intKind_is _ _ _ _) (intKind_is _ _ _ _) q
theorem kt {a C:Addr}(X:(K P).In h)(ty:Looks (model p w) h (gl (.ref a)) (.ref C))(sub:mroIn (K P) C (.type "tuple")=some true):Looks (model p w) h (fY (.ref a) (.type "tuple")) true:=by
 have f2:Looks (model p w) h (kj (.ref C) (.type "tuple")) true:=looks_mroIn X sub
 exact ty.andThen f2
theorem jm {M:Model}{id owner n:String}{rest:List Value}(hk:nZ id=some .slot)(hs:splitId id=some (owner,n))(hi:Looks M h (fY self (.type owner)) true)(ha:argsOk id ⟨self :: rest,[]⟩) :
  Looks M h (iH id ⟨self :: rest,[]⟩) ():=by
 rw [iH,hk,hs]
 refine hi.andThen ?_
 cases hsig:Manifest.signature? id with
 | none=>exact .now
 | some sig =>
  simp only [argsOk,hsig] at ha
  refine cK ?_
  exact ha
theorem kEq:nZ "tuple.__eq__" = some .slot:=by lk
theorem sEq:splitId "tuple.__eq__" = some ("tuple","__eq__"):=by lk
theorem bsEq (p:bF)(w:World)(v:Value):Looks (model p w) h (gE (.builtin "tuple.__eq__") v) (.builtin "tuple.__eq__",[v]):=cK (F.slot_tuple_eq.bind v)
theorem zp {a b:Addr}{x y:Int}{t1 t2 t3 t4:Tok}(P:aM)(X:(K P).In h)
  (ha:h.get? a=some (kR dx x y t1 t2 sl)) (hb:h.get? b=some (kR dy x' y' t3 t4 sl'))
  (q:Q (.bool (decide (x=x'/\y=y'))) ⟨h,g,d,t,os⟩):wpAny (model p w) A (call (.builtin "tuple.__eq__") [.ref a,.ref b]) Q E ⟨h,g,d,t,os⟩:=by
 have i1:=kt (p:=p) (w:=w) X ((eT ha).andThen .now) (uf P)
 have i2:=kt (p:=p) (w:=w) X ((eT hb).andThen .now) (uf P)
 have c1:=jm (h:=h) (M:=model p w) (id:="tuple.__eq__") (owner:="tuple") (n:="__eq__") (self:=.ref a) (rest:=[.ref b]) kEq sEq i1 (F.args_tuple_eq_2 (.ref a) (.ref b))
 refine bw ?_
 refine da F.slot_tuple_eq.plain F.entry_tuple_eq ?_
 refine Looks.at c1 ?_
 show wpAny _ _ (fY (.ref b) (.type "tuple") >>= _) _ _ _
 refine ag (Looks.at i2 ?_)
 dsimp only [jP,bX,if_false]
 refine ag (mJ ha rfl ?_)
 refine ag (mJ hb rfl ?_)
 show wpAny _ _ (forIn [(_,_),(_,_)] _ _ >>= _) _ _ _
 rw [iz]
 refine ag (ag (ag (eqB ?_)))
 by_cases hx:x=x'
 ·subst hx
  simp only [decide_true,jP,bX,if_false]
  refine aj ?_
  dsimp only
  rw [iz]
  refine ag (ag (eqB ?_))
  by_cases hy:y=y'
  ·subst hy
   simp only [decide_true,jP,bX,if_false]
   refine aj ?_
   dsimp only
   refine wq List.forIn_nil ?_
   refine aj (aj ?_)
   show Q (.bool _) _
   simpa using q
  ·simp only [hy,decide_false,Bool.not_false,if_true]
   refine ag (ag (aj (aj ?_)))
   refine aj (aj (aj ?_))
   show Q (.bool _) _
   simpa [hy] using q
 ·simp only [hx,decide_false,Bool.not_false,if_true]
  refine ag (aj (aj ?_))
  refine aj (aj ?_)
  show Q (.bool _) _
  simpa [hx] using q
theorem ptEq {a b:Addr}{x y:Int}{t1 t2 t3 t4:Tok}(P:aM)(X:(K P).In h)(hu:A.units < cLine)
  (ha:h.get? a=some (kR dx x y t1 t2 sl)) (hb:h.get? b=some (kR dy x' y' t3 t4 sl'))
  (q:Q (.bool (decide (x=x'/\y=y'))) ⟨h,g,d,t,os⟩):wpAny (model p w) A (dH .Eq (.ref a) (.ref b)) Q E ⟨h,g,d,t,os⟩:=
 lV (C:=209) (op:=.Eq) hu ((eT ha).andThen .now) ((eT hb).andThen .now) (cT X (fEq P)) (bsEq p w _) (zp P X ha hb ⟨by simp,q⟩)
theorem kLt:nZ "tuple.__lt__" = some .slot:=by lk
theorem sLt:splitId "tuple.__lt__" = some ("tuple","__lt__"):=by lk
theorem bsLt (p:bF)(w:World)(v:Value):Looks (model p w) h (gE (.builtin "tuple.__lt__") v) (.builtin "tuple.__lt__",[v]):=cK (F.slot_tuple_lt.bind v)
theorem zm {a b:Addr}{x y:Int}{t1 t2 t3 t4:Tok}(P:aM)(X:(K P).In h)
  (ha:h.get? a=some (kR dx x y t1 t2 sl)) (hb:h.get? b=some (kR dy x' y' t3 t4 sl'))
  (q:Q (.bool (decide (x < x'\/x=x'/\y < y'))) ⟨h,g,d,t,os⟩):wpAny (model p w) A (call (.builtin "tuple.__lt__") [.ref a,.ref b]) Q E ⟨h,g,d,t,os⟩:=by
 have i1:=kt (p:=p) (w:=w) X ((eT ha).andThen .now) (uf P)
 have i2:=kt (p:=p) (w:=w) X ((eT hb).andThen .now) (uf P)
 have c1:=jm (h:=h) (M:=model p w) (id:="tuple.__lt__") (owner:="tuple") (n:="__lt__") (self:=.ref a) (rest:=[.ref b]) kLt sLt i1 (F.args_tuple_lt_2 (.ref a) (.ref b))
 refine bw ?_
 refine da F.slot_tuple_lt.plain F.entry_tuple_lt ?_
 refine Looks.at c1 ?_
 show wpAny _ _ (fY (.ref b) (.type "tuple") >>= _) _ _ _
 refine ag (Looks.at i2 ?_)
 dsimp only [jP,bX,if_false]
 refine ag (mJ ha rfl ?_)
 refine ag (mJ hb rfl ?_)
 show wpAny _ _ (forIn [(_,_),(_,_)] _ _ >>= _) _ _ _
 rw [iz]
 refine ag (ag (ag (eqB ?_)))
 by_cases hx:x=x'
 ·subst hx
  simp only [decide_true,jP,bX,if_false]
  refine aj ?_
  dsimp only
  rw [iz]
  refine ag (ag (eqB ?_))
  by_cases hy:y=y'
  ·subst hy
   simp only [decide_true,jP,bX,if_false]
   refine aj ?_
   dsimp only
   refine wq List.forIn_nil ?_
   refine aj (aj ?_)
   show Q (.bool _) _
   simpa using q
  ·simp only [hy,decide_false,Bool.not_false,if_true]
   refine ag (gH (ag ?_))
   refine lt_int (ag (aj (aj ?_)))
   refine aj (aj ?_)
   show Q (.bool _) _
   simpa [hy] using q
 ·simp only [hx,decide_false,Bool.not_false,if_true]
  refine ag (gH (ag ?_))
  refine lt_int (ag (aj (aj ?_)))
  refine aj (aj ?_)
  show Q (.bool _) _
  simpa [hx] using q
theorem ptLt {a b:Addr}{x y:Int}{t1 t2 t3 t4:Tok}(P:aM)(X:(K P).In h)(hu:A.units < cLine)
  (ha:h.get? a=some (kR dx x y t1 t2 sl)) (hb:h.get? b=some (kR dy x' y' t3 t4 sl'))
  (q:Q (.bool (decide (x < x'\/x=x'/\y < y'))) ⟨h,g,d,t,os⟩):wpAny (model p w) A (dH .Lt (.ref a) (.ref b)) Q E ⟨h,g,d,t,os⟩:=
 lV (C:=209) (op:=.Lt) hu ((eT ha).andThen .now) ((eT hb).andThen .now) (cT X (fLt P)) (bsLt p w _) (zm P X ha hb ⟨by simp,q⟩)
end
end
section
set_option maxHeartbeats 400000
section
variable {p:bF}{w:World}{s:ae}
structure ii (P:aM) (C:Addr):Prop where
 ga:dI (K P) (.ref C) "__getattribute__" = some (some (.builtin "object.__getattribute__"))
 gt:dI (K P) (.ref C) "__getattr__" = some none
 cls:(clsIn (K P) C).any (·.hasDict)=true
theorem cL.at {a C:Addr}{at_:List (Str×Value)}(i:cL h a C at_):∃ ox od,InstAt h a ox C (some od)/\∀ x,lookIn x od=some ((at_.find? (λp=>p.1 == x)).map (·.2)):=by
 refine AH i λsl d sl' es n e1 e2 g=>?_
 exact ⟨_,_,⟨e1,rfl,rfl,e2⟩,λx=>by rw [<- g x];rfl⟩
theorem nL {C:Addr}{od:Obj}{name:Str}{v:Value}(k:ii P C)(hn:dI (K P) (.ref C) name=some none)(hv:lookIn name od=some (some v)):oO (K P) C (some od) name=some (.value v):=by
 refine bg (any_some k.cls) λcd hc hd=>?_
 unfold oO
 rw [hc,Option.bind_some,hn]
 have ho:PySem.W.ownOf cd (some od) name=some (some v):=(if_pos hd).trans hv
 show mi (PySem.W.ownOf cd (some od) name) _=_
 rw [ho];rfl
theorem tU {C a:Addr}{at_:List (Str×Value)}{name:Str}{v:Value}(X:(K P).In s.heap)(k:ii P C)(i:cL s.heap a C at_)(hn:dI (K P) (.ref C) name=some none)
  (hv:at_.find? (λp=>p.1 == name)=some (name,v)) (hh:lJ v=true) (h:Q v { s with toks:=s.toks+1 }):wpAny (model p w) A (hM (.ref a) name expr) Q E s:=by
 refine cB i.at λox od I g=>?_
 exact get_value X I k.ga (nL k hn (by rw [g,hv];rfl)) hh h
theorem ck94 (P:aM):ii P 94:=⟨by lk,by lk,by lk⟩
theorem EI (P:aM):ii P 540:=⟨by lk,by lk,by lk⟩
theorem ux (P:aM):ii P 761:=⟨by lk,by lk,by lk⟩
theorem EK (P:aM):ii P 411:=⟨by lk,by lk,by lk⟩
theorem EJ (P:aM):ii P 488:=⟨by lk,by lk,by lk⟩
theorem ck308 (P:aM):ii P 308:=⟨by lk,by lk,by lk⟩
theorem EL (P:aM):ii P 329:=⟨by lk,by lk,by lk⟩
theorem AU (P:aM):ii P 822:=⟨by lk,by lk,by lk⟩
theorem n94 (P:aM):∀ n∈(["event","endpoints","opposites"]:List Str),dI (K P) (.ref 94) n=some none:=by
 intro n hn
 simp only [aq,fq,or_false] at hn
 rcases hn with rfl | rfl | rfl<;>lk
theorem n540 (P:aM):∀ n∈(["event","endpoints","opposites","_orienteer"]:List Str),dI (K P) (.ref 540) n=some none:=by
 intro n hn
 simp only [aq,fq,or_false] at hn
 rcases hn with rfl | rfl | rfl | rfl<;>lk
theorem Ga (P:aM):∀ n∈(["_orienteer","_segments_intersector","_unique","_opposites","_endpoints","_segments_ids","_min_collinear_segments_ids","_events_queue_data","_sweep_line_data"]:List Str),dI (K P) (.ref 761) n=some none:=by
 intro n hn
 simp only [aq,fq,or_false] at hn
 rcases hn with rfl | rfl | rfl | rfl | rfl | rfl | rfl | rfl | rfl<;>lk
theorem n411 (P:aM):∀ n∈(["key","_rows"]:List Str),dI (K P) (.ref 411) n=some none:=by
 intro n hn
 simp only [aq,fq,or_false] at hn
 rcases hn with rfl | rfl<;>lk
theorem n488 (P:aM):∀ n∈(["key","_values"]:List Str),dI (K P) (.ref 488) n=some none:=by
 intro n hn
 simp only [aq,fq,or_false] at hn
 rcases hn with rfl | rfl<;>lk
theorem n308 (P:aM):∀ n∈(["start","end"]:List Str),dI (K P) (.ref 308) n=some none:=by
 intro n hn
 simp only [aq,fq,or_false] at hn
 rcases hn with rfl | rfl<;>lk
theorem n822 (P:aM):∀ n∈(["_end","_first_segment_id","_relation","_second_segment_id","_start"]:List Str),dI (K P) (.ref 822) n=some none:=by
 intro n hn
 simp only [aq,fq,or_false] at hn
 rcases hn with rfl | rfl | rfl | rfl | rfl<;>lk
end
end
section
set_option maxHeartbeats 400000
section
variable {p:bF}{w:World}{g:Array bk}{d:Drawn}{t:Nat}{os:fz}
theorem xO (P:aM)(X:(K P).In h)(q:Q (.bool true) ⟨h,g,d,t,os⟩):wpAny (model p w) A (call (.builtin "issubclass") [.ref 209,.type "tuple"]) Q E ⟨h,g,d,t,os⟩:=by
 have f2:Looks (model p w) h (kj (.ref 209) (.type "tuple")) true:=looks_mroIn X (uf _)
 have f3:Looks (model p w) h (gl (.type "tuple")) (.type "type"):=cK (by lk)
 have c1:Looks (model p w) h (iH "issubclass" ⟨[.ref 209,.type "tuple"],[]⟩) ():=cK (by lk)
 refine bw (da F.plain_issubclass F.entry_issubclass ?_)
 refine Looks.at c1 ?_
 refine issubclass_outer ?_
 unfold Builtin.«issubclass.nested»
 dsimp only
 refine ag (Looks.at f3 ?_)
 rw [if_pos (by rfl)]
 refine ag ?_
 have hc:h.get? 209=some Cg:=X 209 _ (by lk)
 repeat lk
 exact q
theorem gtf (P:aM):dI (K P) (.ref 209) "__getitem__" = some (some (.builtin "tuple.__getitem__")):=by lk
theorem kGet:nZ "tuple.__getitem__" = some .slot:=by lk
theorem sGet:splitId "tuple.__getitem__" = some ("tuple","__getitem__"):=by lk
theorem AX {a:Addr}{x y:Int}{t1 t2 tk:Tok}{i:Nat}(hi:i=0\/i=1)(P:aM)(X:(K P).In h)(ha:h.get? a=some (kR dx x y t1 t2 sl))
  (q:Q (if i=0 then .int x t1 else .int y t2) ⟨h,g,d,t,os⟩):wpAny (model p w) A (call (.builtin "tuple.__getitem__") [.ref a,.int i tk]) Q E ⟨h,g,d,t,os⟩:=by
 have i1:=kt (p:=p) (w:=w) X ((eT ha).andThen .now) (uf P)
 have c1:=jm (h:=h) (M:=model p w) (id:="tuple.__getitem__") (owner:="tuple") (n:="__getitem__") (self:=.ref a) (rest:=[.int i tk]) kGet sGet i1 (F.args_tuple_getitem_2 (.ref a) (.int i tk))
 refine bw ?_
 refine da F.slot_tuple_getitem.plain F.entry_tuple_getitem ?_
 refine Looks.at c1 ?_
 unfold Builtin.«tuple.__getitem__»
 rcases hi with rfl | rfl
 ·repeat lk
  exact q
 ·repeat lk
  exact q
end
end
section
set_option maxHeartbeats 400000
def uP (h:Heap)(a:Addr)(m:Str->Option Value):Prop:=∃ o es ep,h.get? a=some o/\o.cls=.type "frame"/\o.data=.dict es ep/\StrKeys es/\∀ name,nsFind es name=m name
theorem uP.ns {a:Addr}(x:uP h a m):h.Ns a m:=qb x λo es ep e _ r=>⟨o,es,ep,e,r⟩
theorem rH {a:Addr}(x:h.Ns a m)(e:h.get? a=some o)(c:o.cls=.type "frame"):uP h a m:=by
 refine kW x λo' es ep e' r=>?_
 rw [e] at e';cases e'
 exact ⟨_,es,ep,e,c,r⟩
theorem s6 (name:Str)(hs:Int)(k v:Value)(o:Obj):(Obj.putName name hs k v o).cls=o.cls:=by
 obtain ⟨c,d,dt,sl⟩:=o
 cases dt<;>first | rfl | (simp only [Obj.putName_eq,Obj.putNameByArray];split<;>rfl)
theorem rF (name:Str)(hs:Int)(k v:Value){es ep}(hd:o.data=.dict es ep):(Obj.putName name hs k v o).isFreed=false:=by
 obtain ⟨c,d,dt,sl⟩:=o
 subst hd
 simp only [Obj.putName_eq,Obj.putNameByArray]
 split<;>rfl
section
variable {M:Model}{s:ae}
theorem qY {a:Addr}{m}{name:Str}{v:Value}{Q:Unit->ae->Prop}(hn:uP s.heap a m)
  (h:∀ h',uP h' a (λx=>if x=name then some v else m x)->bU a s.heap h'->Q () { s with heap:=h',toks:=s.toks+1 }):wpAny M A (nsSet a name v) Q E s:=by
 intro Γ p _
 have key:=Sem.wp_nsSet M Γ (λe _ s'=>E e s') p s hn.ns name v (λ_ _ s'=>s'.heap.Ns a (λx=>if x=name then some v else m x)/\bU a s.heap s'.heap) (λh' x y=>⟨x,y⟩)
 refine el35 hn λo es ep ho hc hd hk hm=>?_
 have hany:es.any (·.refKey)=false:=by
  rw [Array.any_eq_false'];intro e he;refine el21 (hk e he) λn t h=>?_;simp [DictEntry.refKey,h]
 simp only [nsSet,strHash,Sem.wp_bind',Sem.wp_cmd_ask,Sem.wp_pure',Sem.wp_cmd_mkText] at key ⊢
 rw [Sem.wp_loadPart_of M Γ (λe _ s'=>E e s') p { s with toks:=s.toks+1 } (o:=o) _ ho] at key ⊢
 simp only [hd,aRefKeyMayBeTheName_eq,aRefKeyMayBeTheNameByArray,hany,Bool.and_false,bX,if_false,Sem.wp_cmd_updatePart] at key ⊢
 refine ⟨key.1,h _ (rH key.2.1 (fL _ ho (rF _ _ _ _ hd)) ((s6 _ _ _ _ _).trans hc)) key.2.2⟩
theorem pF {env:Env}{name:Str}{m}{v:Value}{Q:Unit->ae->Prop}(hl:env.kindOf name=some .local)(hk:env.scope.kind=.function)(hn:uP s.heap env.locals m)
  (h:∀ h',uP h' env.locals (λx=>if x=name then some v else m x)->bU env.locals s.heap h'->Q () { s with heap:=h',toks:=s.toks+1 }):wpAny M A (jz env name v) Q E s:=by
 rw [storeName_local hl (by rw [hk];rfl)];exact qY hn h
theorem lY {scope:Scope}{globals:Addr}{closure:List (Str×Addr)}{binds:List (Str×Value)}{qual:Str}{func:Option Addr}{code:Value}{builtins:Addr}{Q:Env->ae->Prop}
  (hc:∀ x∈scope.names,x.2≠.cell) (hl:∀ x∈binds,scope.names.lookup x.1=some .local)
  (hQ:∀ h',uP h' s.heap.objs.size (λx=>binds.reverse.lookup x)->bU s.heap.objs.size (s.heap.push { cls:=.type "frame",data:=.dict #[] }) h' ->
   Q (newEnv scope s.heap.objs.size globals closure qual func code none builtins) { s with heap:=h',toks:=s.toks+binds.length })
  (hk:scope.kind=.function):wpAny M A (fH scope globals closure binds qual func code none builtins) Q E s:=by
 dsimp only [fH,Option.isSome_none,bX,if_false]
 simp only [newEnv] at hQ
 refine ag (wpAny_alloc ?_)
 rw [forIn_yield_id closure (λx hx c=>by
  obtain ⟨name,kind⟩:=x
  have:(kind == NameKind.cell)=false:=by simpa using hc _ hx
  simp only [this,bX,if_false])]
 refine ag (aj (ag ?_))
 refine wpAny_forIn_list _
  (λrest _ s'=>∃ done h',binds=done++rest/\s'={ s with heap:=h',toks:=s.toks+done.length }/\uP h' s.heap.objs.size (λx=>done.reverse.lookup x) /\
   bU s.heap.objs.size (s.heap.push { cls:=.type "frame",data:=.dict #[] }) h') _ ?_ ?_ binds _ ⟨[],_,rfl,rfl,rH (Heap.Ns.new ..) (ar _ rfl) rfl,Heap.SameBut.refl ..⟩
 ·rintro ⟨name,v⟩ rest _ s' ⟨done,h',hb,rfl,hns,hsb⟩
  refine ag (pF (m:=λx=>done.reverse.lookup x) (hl (name,v) (by rw [hb];simp)) hk hns λh'' hns' hsb'=>aj ⟨done++[(name,v)],h'',by simp [hb],?_,?_,hsb.trans hsb'⟩)
  ·simp [Nat.add_assoc]
  ·rw [lZ];exact hns'
 ·rintro _ s' ⟨done,h',hb,rfl,hns,hsb⟩
  rw [List.append_nil] at hb;subst hb
  exact aj (hQ h' hns hsb)
end
structure vJ (f:Addr) (ps:List Str) (body:List Stmt) (sc:Scope):Prop where
 at_:∀ P,∃ oc od osl fd,(K P).lookup f=some ⟨oc,od,.func fd,osl⟩/\fd.body=.stmts body/\fd.scope=sc/\fd.globals=bM/\fd.builtins=gK/\fd.closure=[]/\codeIn (K P) fd.code fd.qualname=true /\
  ∀ s vs,(K P).In s.heap->vs.length=ps.length->e8 s fd ⟨vs,[]⟩ (ps.zip vs)
 cell:∀ x∈sc.names,x.2≠.cell
 loc:∀ x∈ps,sc.names.lookup x=some .local
 co:sc.isCoroutine=false
 gen:sc.isGenerator=false
 kind:sc.kind=.function
theorem AW {w:World}{p:bF}{s:ae}{f:Addr}{ps:List Str}(FR:vJ f ps body sc)(X:(K P).In s.heap)(nl:s.heap.NoLimit)(hroom:A.depth < aA)
  (hl:us.length=ps.length) (h:∀ ab env,bZ env sc ab (λx=>(ps.zip us).reverse.lookup x)->env.locals=s.heap.objs.size->env.cells=[]->(Sb s.heap ab) ->
   wpAny (model p w) (A.deeper env) (execs body env) (λf s'=>Q (match f with | .ret v=>v | _=>.none) s') (λe s'=>wpAny (model p w) (A.deeper env) (nW env e) (λ_ s''=>E e s'') (λe' s''=>E e' s'') s')
    { s with heap:=ab,toks:=s.toks+us.length }):wpAny (model p w) A (call (.ref f) us) Q E s:=by
 refine C0 (FR.at_ P) λoc od osl fd hK hb hs hg hbl hc hcd hbind=>?_
 subst hs
 refine bw (codeAny_call_function (o:=⟨oc,od,.func fd,osl⟩) hroom (X _ _ hK) rfl FR.co FR.gen hb (codeRec_of X hcd) (hbind s us X hl _ _ _ _ ?_))
 have hlen:(ps.zip us).length=us.length:=by rw [List.length_zip,hl,Nat.min_self]
 refine lY FR.cell (λx hx=>FR.loc x.1 (gp hx).1) (λab hns hsb=>⟨nl.fresh _ hsb,codeAny_func ?_⟩) FR.kind
 rw [hlen]
 refine h ab _ ⟨rfl,FR.kind,FR.co,hg,hbl,rfl,hns⟩ rfl hc λb o e=>hsb.extBut b o (bV (bp e)) (ak _ e)
end
section
set_option maxHeartbeats 400000
def rq (f:Addr):Bool:=((aJ f).names.all λx=>!(x.2 == .cell)) && ((dK f).all λx=>(aJ f).names.lookup x == some .local) && !(aJ f).isCoroutine && !(aJ f).isGenerator && (aJ f).kind == .function
theorem frOf {f:Addr}(g:rq f=true) (h:∀ P,∃ oc od osl fd,(K P).lookup f=some ⟨oc,od,.func fd,osl⟩/\fd.body=.stmts (aO f)/\fd.scope=aJ f/\fd.globals=bM/\fd.builtins=gK/\fd.closure=[]/\codeIn (K P) fd.code fd.qualname=true /\
  ∀ s vs,(K P).In s.heap->vs.length=(dK f).length->e8 s fd ⟨vs,[]⟩ ((dK f).zip vs)):vJ f (dK f) (aO f) (aJ f):=by
 simp only [rq,g8,bj,beq_iff_eq,Bool.not_eq_true',beq_eq_false_iff_ne] at g
 obtain ⟨⟨⟨⟨a,b⟩,c⟩,d⟩,e⟩:=g
 exact ⟨h,a,b,c,d,e⟩
noncomputable def sB:List Addr:=[35,42,49,56,63,70,84,91,159,305,326,347,359,366,387,394,401,408,429,436,443,450,457,464,471,478,485,530,537,568,576,583,590,597,604,611,625,632,646,653,660,667,674,681,688,695,702,709,716,723,730,737,744,751,758,779,787,795,803,811,819,28]
noncomputable def sJ (n:Nat)(g:Nat->Value):List Value:=(bn n).map g
theorem vR (vs:List Value):vs=sJ vs.length (λi=>vs.getD i .none):=
 List.ext_getElem (by simp [sJ]) λi h1 h2=>by simp [sJ,h1]
theorem GD:∀ f∈sB,rq f=true:=bj.mp (by lk:sB.all rq=true)
theorem fnAt (P:aM):∀ f∈sB,(K P).lookup f=some ⟨.type "function",none,.func (eE f),#[]⟩:=
 mj.mp (by lk:sB.map (λf=>(K P).lookup f)=sB.map λf=>some ⟨.type "function",none,.func (eE f),#[]⟩)
theorem GI (g:Nat->Value):∀ f∈sB,bindArgs (eE f) ⟨sJ (dK f).length g,[]⟩=pure ((dK f).zip (sJ (dK f).length g)):=
 mj.mp (by lk:sB.map (λf=>bindArgs (eE f) ⟨sJ (dK f).length g,[]⟩)=sB.map λf=>pure ((dK f).zip (sJ (dK f).length g)))
theorem GH:∀ f∈sB,(eE f).body=.stmts (aO f):=mj.mp (by lk:sB.map (λf=>(eE f).body)=sB.map λf=>.stmts (aO f))
theorem GF:∀ f∈sB,((eE f).globals,(eE f).builtins,(eE f).closure)=(bM,gK,[]):=mj.mp (by lk:sB.map (λf=>((eE f).globals,(eE f).builtins,(eE f).closure))=sB.map λ_=>(bM,gK,[]))
theorem GG (P:aM):∀ f∈sB,codeIn (K P) (eE f).code (eE f).qualname=true:=bj.mp (by lk:sB.all (λf=>codeIn (K P) (eE f).code (eE f).qualname)=true)
theorem Ew (f:Addr)(m:f∈sB):vJ f (dK f) (aO f) (aJ f):=frOf (GD f m) λP =>
 have g:=GF f m
 ⟨_,_,_,eE f,fnAt P f m,GH f m,rfl,congrArg (·.1) g,congrArg (·.2.1) g,congrArg (·.2.2) g,GG P f m,λs vs _ h=>by
  rw [vR vs,h];exact dU (GI _ f m)⟩
theorem fr28:vJ 28 (dK 28) (aO 28) (aJ 28):=Ew 28 (by decide)
theorem fr159:vJ 159 (dK 159) (aO 159) (aJ 159):=Ew 159 (by decide)
theorem fr305:vJ 305 (dK 305) (aO 305) (aJ 305):=Ew 305 (by decide)
theorem fr347:vJ 347 (dK 347) (aO 347) (aJ 347):=Ew 347 (by decide)
theorem fr530:vJ 530 (dK 530) (aO 530) (aJ 530):=Ew 530 (by decide)
theorem fr819:vJ 819 (dK 819) (aO 819) (aJ 819):=Ew 819 (by decide)
theorem fr84:vJ 84 (dK 84) (aO 84) (aJ 84):=Ew 84 (by decide)
end
section
set_option maxHeartbeats 400000
theorem Ds {s:ae}(X:(K P).In s.heap)(v0 v1 v2:Value):e8 s (eE 120) ⟨[v0,v1,v2],[]⟩ ((dK 120).zip [v0,v1,v2]):=
 BindsTo.of_defaults (fd:=eE 120) (T:=113) (o:=FZ) (items:=#[.none]) (n:=0) (by lk) (X 113 _ (by lk)) rfl (by with_unfolding_all rfl) (by lk)
theorem fr120:vJ 120 (dK 120) (aO 120) (aJ 120):=frOf (by lk) λP=>⟨_,_,_,eE 120,(by lk:(K P).lookup 120=some ⟨.type "function",none,.func (eE 120),#[]⟩),by lk,rfl,by lk,by lk,by lk,by lk,λs vs X h=>by
 rw [vR vs,h,(by lk:sJ (dK 120).length (λi=>vs.getD i .none)=[vs.getD 0 .none,vs.getD 1 .none,vs.getD 2 .none])]
 exact Ds X _ _ _⟩
end
section
variable {w:World}{env:Env}{s:ae}
theorem hU {u:Value}(F:bZ env sc s.heap m)(hm:m xs=some u)(hQ:Q u s)(hl:sc.names.lookup xs=some .local:=by lk)(hd:(xs == ("__debug__" : Str))=false:=by lk):wpAny (Md w) A (eval (.Name xs pos) env) Q E s:=
 cA (bL (by rw [F.sce];exact F.kind) (by show env.scope.names.lookup _=_;rw [F.sce];exact hl) F.ns hm hQ) hd
theorem wm {pos:Pos}{v:Value}(F:bZ env sc s.heap m)(G:Gd w aa)(b:Sb aa s.heap)(hQ:Q v s)(hg:∀ P,nsIn (K P) bM xs=some (some v):=by intro P;lk)(hl:sc.names.lookup xs=some .globalImplicit:=by lk)(hd:(xs == ("__debug__" : Str))=false:=by lk) :
  wpAny (Md w) A (eval (.Name xs pos) env) Q E s:=by
 refine uk G.T λp l mean mg mb T=>?_
 refine je (by rw [F.sce];exact F.kind) (by show env.scope.names.lookup _=_;rw [F.sce];exact hl) (loadGlobal_global (mg:=mg) ?_ (mg_of G.X T.g (hg w.params)) hQ) hd
 rw [F.glob];exact T.g.keeps b
theorem sy {pos:Pos}{v:Value}(F:bZ env sc s.heap m)(G:Gd w aa)(b:Sb aa s.heap)(hQ:Q v s)(hg:∀ P,nsIn (K P) bM xs=some none:=by intro P;lk)
  (hb:bootBuiltins xs=some v:=by lk) (hne:(xs == ("__name__" : Str))=false:=by lk) (hl:sc.names.lookup xs=some .globalImplicit:=by lk) (hd:(xs == ("__debug__" : Str))=false:=by lk) :
  wpAny (Md w) A (eval (.Name xs pos) env) Q E s:=by
 refine uk G.T λp l mean mg mb T=>?_
 have hm:mb xs=some v:=(T.builtins xs (λq=>by rw [q] at hne;trivial)).trans hb
 refine je (by rw [F.sce];exact F.kind) (by show env.scope.names.lookup _=_;rw [F.sce];exact hl) (loadGlobal_builtin (mg:=mg) (mb:=mb) ?_ (ns_none_of G.X T.g (hg w.params)) ?_ hm hQ) hd
 ·rw [F.glob];exact T.g.keeps b
 ·rw [F.blt];exact T.b.keeps b
def Kp (M:Model)(h:Heap)(f:Value):Prop:=∃ k,(k=Keeper.frame\/k=Keeper.machine\/k=Keeper.boundFrame)/\Looks M h (keeperOf f) k
theorem xq {M:Model}{id:String}:Kp M h (.builtin id):=⟨.machine,.inr (.inl rfl),cK rfl⟩
theorem Bu {M:Model}{T:String}:Kp M h (.type T):=⟨.machine,.inr (.inl rfl),cK rfl⟩
theorem wn {M:Model}{f:Value}(X:(K P).In h)(hk:keepIn (K P) f=true):Kp M h f:=keeps_K hk h X
theorem cw {M:Model}{f:Value}{first:List Value}{e:Expr}{rest:List Expr}(h:wpAny M A (spliced (fm pos (bT (e :: rest) env))) (λvs aan=>Kp M aan.heap f/\wpAny M A (call f (first++vs)) Q E aan) E s)
  (he:bT (e :: rest) env=(false,eval e env) :: bT rest env:=by rfl) (hplain:(fm pos (bT rest env)).any (·.1)=false:=by rfl) :
  wpAny M A (callWith pos f first (fm pos (bT (e :: rest) env)) []) Q E s:=by
 rw [he] at h ⊢
 exact callWith_of (P:=λh=>Kp M h f) (by show ((false || (fm pos (bT rest env)).any (·.1)) || false)=false;rw [hplain];rfl) (λ_ k=>k) (evalArgs_plain h)
theorem cw0 {M:Model}{f:Value}{first:List Value}(k:Kp M s.heap f)(h:wpAny M A (call f (first++[])) Q E s):wpAny M A (callWith pos f first (fm pos (bT [] env)) []) Q E s:=
 callWith_of (P:=λh=>Kp M h f) rfl (λ_ k=>k) (evalArgs_nil3 ⟨k,h⟩)
theorem jq {M:Model}{o:Expr}{name:Str}{apos:Pos}{args:List Expr}(h:wpAny M A (eval o env) (λov aan=>∀ pl,wpAny M A (iG ov name pl) (λr aao=>wpAny M A (callWith pos r.1 r.2 (fm pos (bT args env)) []) Q E aao) E aan) E s)
  (hbase:attributeBase o name env (eval o env)=eval o env:=by rfl) (hfew:gm (args.length+0) (fm pos (bT args env)) []=true:=by rfl) (hline:(apos.endLine == pos.line)=true:=by rfl):wpAny M A (eval (.Call (.Attribute o name apos) args [] pos) env) Q E s:=by
 rw [arm_eval_Call,hbase]
 refine ag (aR h (λov aan aa=>?_) λ_ _ e=>e)
 refine ag (bl ?_)
 show wpAny M A (methodCall o name apos pos env ov (args.length+0) (fm pos (bT args env)) []) Q E aan
 unfold methodCall
 rw [show calleeOf (gm _ (fm pos (bT args env)) _) o env ov name=iG ov name _ from if_pos hfew,show methodCallPos (gm _ (fm pos (bT args env)) _) o env apos pos=pure pos from if_pos (by rw [hline,Bool.or_true])]
 refine ag (aX (aR (aa _) (λr aao aag=>?_) λ_ _ e=>e))
 exact ag (aj aag)
theorem tgaT:(dI [] (.type "type") "__getattribute__")=some (some (.builtin "type.__getattribute__")):=by lk
theorem tC {T:String}{name:Str}{v:Value}{pl:Sem Bool}{Q:Value×List Value->ae->Prop}(X:(K P).In s.heap)(ht:gl (.type T)=pure (.type "type"))(hs:Manifest.isStub T=false)
  (e:findCls (K P) (.type T) (.type "type") name=some (.val v)) (hh:lJ v=true) (h:Q (v,[]) { s with toks:=s.toks+1 }):wpAny (Md w) A (iG (.type T) name pl) Q E s:=by
 have hstub:opaqueClassAbove (.type T)=pure none:=by unfold opaqueClassAbove;dsimp only;rw [hs];rfl
 have L0:Looks (Md w) s.heap (gl (.type T)) (.type "type"):=cK ht
 have hg:dI (K P) (.type "type") "__getattribute__" = some (some (.builtin "type.__getattribute__")):=tgaT
 have g:wpAny (Md w) A (hM (.type T) name) (λv s'=>Q (v,[]) s') E s:=
  cls_open X (cK hstub) L0 hg (looks_hook X (r:=none) (by lk)) (by lk) e (aj (by show wpAny _ _ (handedOut v) _ _ _;refine wq (handedOut_of hh) ?_;exact aj h))
 unfold iG specialOf
 refine ag (ag (L0.here ((cT X hg).here ?_)))
 dsimp only
 refine wq (if_pos canon_tga) ?_
 exact ag (aR g (λ_ _ z=>aj z) λ_ _ z=>z)
theorem EM (P:aM):ii P 137:=⟨by lk,by lk,by lk⟩
theorem CN {a:Addr}{x y:Int}{t1 t2:Tok}{i:Nat}(hi:i=0\/i=1){de dd:Addr}{od:Obj}{tk:Tok}{Q:Flow->ae->Prop}(G:Gd w aa)(b:Sb aa s.heap)
  (F:bZ env sc s.heap m) (hsc:sc=aJ 120) (hobj:m "obj" = some (.ref a)) (hself:m "self" = some (.ref de)) (ha:s.heap.get? a=some (kR dx x y t1 t2 sl)) (I:InstAt s.heap de ⟨.ref 137,some dd,.plain,#[]⟩ 137 (some od)) (hod:lookIn "index" od=some (some (.int i tk)))
  (q:∀ t',Q (.ret (if i=0 then .int x t1 else .int y t2)) { s with toks:=t' }):wpAny (Md w) A (execs (aO 120) env) Q E s:=by
 subst hsc
 obtain ⟨hp,g,d,t,os⟩:=s
 have X:(K w.params).In hp:=G.X.keeps b
 with_unfolding_all show wpAny _ _ (execs [.If (.Compare (.Name _ _) [.Is] [.Constant .none _ _] _) [.Return (some (.Name _ _)) _] [] _,.If (.UnaryOp .Not (.Call (.Name _ _) [.Call (.Name _ _) [.Name _ _] [] _,.Name _ _] [] _) _) _ [] _,.Return (some (.Call (.Attribute (.Name _ _) _ _) [.Name _ _,.Attribute (.Name _ _) _ _] [] _)) _] env) _ _ _
 refine aK (wpAny_If (j6 (hU F hobj (wpAny_Constant_none (is_none (cH ?_))))))
 rw [if_neg (by simp)]
 refine fi ?_
 refine aK (wpAny_If (wpAny_isTrue_Not (wpAny_isTrue_value (aN (sy (v:=.builtin "issubclass") F G b ?_)))))
 refine cw (am (aN (sy (v:=.type "type") F G b (cw (am (hU F hobj (az ⟨Bu,?_⟩)))))))
 refine call_type_obj ha rfl (am (sy (v:=.type "tuple") F G b (az ⟨xq,?_⟩)))
 refine xO w.params X (cH ?_)
 rw [if_neg (by decide)]
 refine fi ?_
 refine aK (cV ?_)
 refine jq (sy (v:=.type "tuple") F G b λpl=>?_)
 have e1:gl (.type "tuple")=pure (.type "type"):=by lk
 have e2:Manifest.isStub "tuple" = false:=by lk
 have e3:findCls (K w.params) (.type "tuple") (.type "type") "__getitem__" = some (.val (.builtin "tuple.__getitem__")):=by lk
 have e4:lJ (.builtin "tuple.__getitem__")=true:=by lk
 refine tC (P:=w.params) (T:="tuple") (v:=.builtin "tuple.__getitem__") (s:=⟨hp,g,d,t,os⟩) X e1 e2 e3 e4 ?_
 refine cw ?_
 refine am ?_
 refine hU F hobj ?_
 refine am ?_
 refine jr ?_
 refine hU F hself ?_
 have hfo:oO (K w.params) 137 (some od) "index" = some (.value (.int i tk)):=nL (EM w.params) (by lk) hod
 refine get_value (K:=K w.params) (v:=.int i tk) X I (EM w.params).ga hfo rfl ?_
 refine az ⟨xq,?_⟩
 exact AX (p:=pg) (w:=w) (sl:=sl) (dx:=dx) hi w.params X ha (q _)
end
theorem ps120:dK 120=[("self" : Str),"obj","objtype"]:=by lk
theorem h201 (P:aM):(K P).lookup 201=some FY:=by lk
theorem h200 (P:aM):(K P).lookup 200=some (Ci P):=by lk
theorem h204 (P:aM):(K P).lookup 204=some FX:=by lk
theorem h203 (P:aM):(K P).lookup 203=some (Ch P):=by lk
theorem li0 (P:aM):lookIn "index" (Ci P)=some (some (.int ((0:Nat):Int) 451)):=by lk
theorem li1 (P:aM):lookIn "index" (Ch P)=some (some (.int ((1:Nat):Int) 461)):=by lk
theorem gaP (P:aM):dI (K P) (.ref 209) "__getattribute__" = some (some (.builtin "tuple.__getattribute__")):=by lk
theorem gtP (P:aM):dI (K P) (.ref 209) "__getattr__" = some none:=by lk
theorem fbX (P:aM)(od:Obj):oO (K P) 209 (some od) "x" = some (.bind (.ref 120) (.ref 201)):=by lk
theorem fbY (P:aM)(od:Obj):oO (K P) 209 (some od) "y" = some (.bind (.ref 120) (.ref 204)):=by lk
theorem kTga:nZ "tuple.__getattribute__" = some .slot:=by lk
theorem sTga:splitId "tuple.__getattribute__" = some ("tuple","__getattribute__"):=by lk
theorem eTga:mX table "tuple.__getattribute__" = some Builtin.«object.__getattribute__»:=F.entry_tuple_ga
theorem aTga (a b:Value):argsOk "tuple.__getattribute__" ⟨[a,b],[]⟩:=by unfold argsOk;lk
theorem pTga:plainId "tuple.__getattribute__" = true:=by lk
theorem bTga (v:Value):gE (.builtin "tuple.__getattribute__") v=pure (.builtin "tuple.__getattribute__",[v]):=by lk
section
variable {w:World}{s:ae}
theorem Gd.nolimit (G:Gd w aa)(b:Sb aa h):h.NoLimit:=by
 refine uk G.T λp l mean mg mb T=>?_
 exact T.nolimit.keeps b
theorem qT {a:Addr}{ox:Obj}{od:Option Obj}{name:Str}{expr:Bool}{g d:Value}(X:(K P).In s.heap)(I:W.InstAt s.heap a ox 209 od)(hf:oO (K P) 209 od name=some (.bind g d))
  (h:wpAny (Md w) A.in1 (call g [d,.ref a,.ref 209]) (λv s'=>wpAny (Md w) A (handedOut v) Q E s') (λ_ _=>False) { s with toks:=s.toks+1 }) :
  wpAny (Md w) A (hM (.ref a) name expr) Q E s:=by
 obtain ⟨hp,gg,dr,t,os⟩:=s
 have L0:=I.type (M:=Md w)
 have L1:=cT (M:=Md w) X (gaP P)
 have L2:=cT (M:=Md w) X (gtP P)
 have L3:=looks_find (M:=Md w) X I hf
 have i1:=kt (p:=pg) (w:=w) X L0 (uf P)
 have c1:=jm (h:=hp) (M:=Md w) (id:="tuple.__getattribute__") (owner:="tuple") (n:="__getattribute__") (self:=.ref a) (rest:=[.str name t]) kTga sTga i1 (aTga (.ref a) (.str name t))
 unfold hM getAttrBy
 refine ag (wpAny_mkText (aX (ag (L0.at (ag (L1.at ?_))))))
 dsimp only
 rw [if_neg (by decide +kernel)]
 unfold getAttrByItsOwn hookBefore
 rw [if_pos (by rfl)]
 refine ag (L2.at (ag (wpAny_attempt (aX ?_))))
 unfold callGetattribute
 rw [if_neg (by rw [show onTheHeap (Value.builtin "tuple.__getattribute__")=false from rfl,Bool.and_false];decide)]
 unfold boundAndCalled
 rw [bTga]
 refine ag (aj ?_)
 show wpAny _ _ (call (.builtin "tuple.__getattribute__") [.ref a,.str name t]) _ _ _
 refine bw ?_
 refine da pTga eTga ?_
 refine Looks.at c1 ?_
 unfold Builtin.«object.__getattribute__»
 refine ag (aj ?_)
 dsimp only
 refine ag (aj (ag (L0.at (ag (L3.at ?_)))))
 show wpAny _ _ (iF [d] (call g [d,.ref a,.ref 209]) >>= ret) _ _ _
 exact ag (aX (aR h (λv s' z=>aj z) λ_ _ z=>z.elim))
theorem zk {a:Addr}{x y:Int}{t1 t2:Tok}{i:Nat}{name:Str}{od:Obj}(hi:(i=0/\name = "x")\/(i=1/\name = "y"))(G:Gd w aa)(b:Sb aa s.heap)
  (hr:A.depth < aA) (ha:s.heap.get? a=some (kR dx x y t1 t2 sl)) (hd:s.heap.get? dx=some od)
  (q:∀ h' t',(Sb s.heap h')->Q (if i=0 then .int x t1 else .int y t2) (up s h' t')):wpAny (Md w) A (hM (.ref a) name expr) Q E s:=by
 have X:=G.X.keeps b
 have I:W.InstAt s.heap a (kR dx x y t1 t2 sl) 209 (some od):=⟨ha,rfl,rfl,hd⟩
 have hh:∀ v,lJ (.int v 0)=true:=λ_=>rfl
 have body:∀ (de dd:Addr) (od':Obj) (tk:Tok) (oo:Obj) (k:(K w.params).lookup de=some oo) (eo:oo=⟨.ref 137,some dd,.plain,#[]⟩) (k':(K w.params).lookup dd=some od') (l:lookIn "index" od'=some (some (.int i tk))) (s':ae),s'.heap=s.heap->s'.gens=s.gens->s'.drawn=s.drawn->s'.os=s.os ->
   wpAny (Md w) A.in1 (call (.ref 120) [.ref de,.ref a,.ref 209]) (λv s'=>wpAny (Md w) A (handedOut v) Q E s') (λ_ _=>False) s':=by
  intro de dd od' tk oo k eo k' l s' e1 e2 e3 e4
  subst eo
  obtain ⟨hp,g,d,t,os⟩:=s'
  dsimp only at e1 e2 e3 e4
  subst e1 e2 e3 e4
  refine AW (P:=w.params) fr120 X (G.nolimit b) hr (by rfl) λab env F _ _ kp=>?_
  have b':Sb aa ab:=λc o e=>kp c o (b c o e)
  have X':=G.X.keeps b'
  refine CN (hi.imp (·.1) (·.1)) G b' F rfl ?_ ?_ (kp _ _ ha) ⟨X' _ _ k,rfl,rfl,X' _ _ k'⟩ l λt'=>?_
  ·rfl
  ·rfl
  ·have:∀ v,(v=jA x t1\/v=jA y t2)->handedOut v=pure v:=λv hv=>by rcases hv with rfl | rfl<;>exact handedOut_of rfl
   show wpAny _ _ (handedOut (if i=0 then jA x t1 else jA y t2)) _ _ _
   rw [this _ (by by_cases q:i=0<;>simp [q])]
   exact aj (q ab t' kp)
 rcases hi with ⟨rfl,rfl⟩ | ⟨rfl,rfl⟩
 ·exact qT X I (fbX _ _) (body 201 200 _ 451 _ (h201 _) rfl (h200 _) (li0 _) _ rfl rfl rfl rfl)
 ·exact qT X I (fbY _ _) (body 204 203 _ 461 _ (h204 _) rfl (h203 _) (li1 _) _ rfl rfl rfl rfl)
end
open PySem PySem.W PySem.Spec PySem.Calls PyProof.Rows PySem.SeqAt
noncomputable def eM:List Addr:=[242,245,248,265,268,271,274,277,280,283]
section
variable {p:bF}{w:World}{s:ae}
theorem vS {a b C f:Value}{name:Str}{Q:Option Value->ae->Prop}(ty:Looks (model p w) s.heap (gl a) C)(fl:Looks (model p w) s.heap (mL C name) (some f))(bs:Looks (model p w) s.heap (gE f a) (f,[a]))
  (h:wpAny (model p w) A (call f [a,b]) (λv s'=>v=.notImplemented/\Q none s') E s):wpAny (model p w) A (tryCompare a name b) Q E s:=by
 unfold tryCompare
 refine ag ?_
 unfold callSpecialIfBound? me
 have fin:wpAny (model p w) A (call f ([a]++[b]) >>= λv=>pure (some v)) (λa_1 s'=>wpAny (model p w) A (match a_1 with
   | some .notImplemented | none=>pure none
   | some v=>pure (some v)) Q E s') E s:=
  ag (aR h (λv s' h'=>aj (by obtain ⟨rfl,h'⟩:=h';exact aj h')) λ_ _ h'=>h')
 refine aX (ag (ag (ag (ty.here (fl.here ?_)))))
 refine ag (gk (wpAny_ite ?_))
 split
 ·exact ag (bs.here (aj (by exact fin)))
 ·exact wpAny_tryCatch (ag (bs.here (aj (by exact fin))))
theorem we {a b Ca Cb f g:Value}(hu:A.units < cLine)(ho:oneThing? .Eq a b=none)(ty1:Looks (model p w) s.heap (gl a) Ca)(ty2:Looks (model p w) s.heap (gl b) Cb)
  (sub:Ca≠Cb->Looks (model p w) s.heap (kj Cb Ca) false) (fl1:Looks (model p w) s.heap (mL Ca "__eq__") (some f)) (fl2:Looks (model p w) s.heap (mL Cb "__eq__") (some g))
  (bs1:Looks (model p w) s.heap (gE f a) (f,[a])) (bs2:Looks (model p w) s.heap (gE g b) (g,[b]))
  (h1:∀ Q:Value->ae->Prop,Q .notImplemented s->wpAny (model p w) A (call f [a,b]) Q E s) (h2:∀ Q:Value->ae->Prop,Q .notImplemented s->wpAny (model p w) A (call g [b,a]) Q E s)
  (hs:∀ Q:Bool->ae->Prop,Q false s->wpAny (model p w) A (isSame a b) Q E s) (q:Q (.bool false) s):wpAny (model p w) A (nV .Eq a b) Q E s:=by
 unfold nV
 refine aX (ag (wpAny_cRoomFor hu ?_))
 rw [ho]
 have rest:wpAny (model p w) A (do
   if let some v <- tryCompare a "__eq__" b then return v
   if let some v <- tryCompare b "__eq__" a then return v
   rule "compare.eq-identity"
   return .bool (<- isSame a b)) Q E s:=by
  refine ag (vS ty1 fl1 bs1 (h1 _ ⟨rfl,?_⟩))
  refine ag (vS ty2 fl2 bs2 (h2 _ ⟨rfl,?_⟩))
  exact ag (gH (ag (hs _ (aj q))))
 refine ag (ty1.here (ag (ty2.here ?_)))
 by_cases e:Ca=Cb
 ·subst e
  rw [if_neg (by simp)]
  exact ag (aj rest)
 ·rw [if_pos (by simpa using e)]
  exact ag ((sub e).here rest)
end
theorem yE:kj (.type "NoneType") (.ref 209)=pure false:=by first | rfl | (simp only [kj];rfl) | lk
theorem HA:fY .none (.type "tuple")=pure false:=by first | rfl | lk
section
variable {p:bF}{w:World}{s:ae}
theorem zo {a:Addr}{x y:Int}{t1 t2:Tok}(P:aM)(X:(K P).In s.heap)(hu:A.units < cLine)(ha:s.heap.get? a=some (kR dx x y t1 t2 sl))(q:Q (.bool false) s) :
  wpAny (model p w) A (dH .Eq (.ref a) .none) Q E s:=by
 have ty1:Looks (model p w) s.heap (gl (.ref a)) (.ref 209):=(eT ha).andThen .now
 refine we (f:=.builtin "tuple.__eq__") (g:=.builtin "NoneType.__eq__") hu rfl ty1 (cK rfl) (λ_=>cK yE) (cT X (fEq P)) (cK F.slot_NoneType_eq.lookup) (bsEq p w _) (cK (F.slot_NoneType_eq.bind _)) ?_ ?_ ?_ q
 ·intro Q' q'
  have i1:=kt (p:=p) (w:=w) X ty1 (uf P)
  have c1:=jm (h:=s.heap) (M:=model p w) (id:="tuple.__eq__") (owner:="tuple") (n:="__eq__") (self:=.ref a) (rest:=[.none]) kEq sEq i1 (F.args_tuple_eq_2 (.ref a) .none)
  refine bw ?_
  refine da F.slot_tuple_eq.plain F.entry_tuple_eq ?_
  refine Looks.at c1 ?_
  have e:Builtin.«tuple.__eq__» ⟨[.ref a,.none],[]⟩=PySem.ret .notImplemented:=by first | rfl | lk
  rw [e]
  exact aj q'
 ·intro Q' q'
  refine wpAny_call_entry F.slot_NoneType_eq rfl F.entry_NoneType_eq ?_ (F.args_NoneType_eq_2 _ _)
  have e:Builtin.«NoneType.__eq__» ⟨[.none,.ref a],[]⟩=PySem.ret .notImplemented:=by first | rfl | lk
  rw [e]
  exact aj ⟨_,rfl,q'⟩
 ·intro Q' q'
  exact gC (a:=false) rfl q'
theorem FL {a b:Addr}{x y:Int}{t1 t2 t3 t4:Tok}(P:aM)(X:(K P).In s.heap)(hu:A.units < cLine)(ha:s.heap.get? a=some (kR dx x y t1 t2 sl))(hb:s.heap.get? b=some (kR dy x' y' t3 t4 sl')) :
  EqAt A s (.ref a) (.ref b) (decide (x=x'/\y=y')):=by
 intro p w E Q q
 unfold eqBool
 refine aX ?_
 by_cases e:a=b
 ·subst e
  rw [ha] at hb
  cases hb
  rw [if_pos (by exact if_pos rfl)]
  refine ag (gH (aj ?_))
  simpa using q
 ·rw [if_neg (by simpa using e)]
  refine ag (m:=nV .Eq (.ref a) (.ref b)) (ptEq (p:=p) (w:=w) P X hu ha hb ?_)
  exact cH q
theorem CA:∀ k∈eM,∀ P,∃ o,(K P).lookup k=some o/\o.cls=.ref 229:=by
 have key:∀ P,(eM.all λk=>((K P).lookup k).any λo=>(o.cls == .ref 229))=true:=λP=>by lk
 intro k hk P
 have:=bj.mp (key P) k hk
 refine bg (any_some this) λo e c=>?_
 exact ⟨o,e,by simpa using c⟩
theorem f229 (P:aM):dI (K P) (.ref 229) "__eq__" = some (some (.builtin "object.__eq__")):=by lk
theorem m229 (P:aM):mroIn (K P) 229 (.type "object")=some true:=by lk
theorem kOEq:nZ "object.__eq__" = some .slot:=by lk
theorem sOEq:splitId "object.__eq__" = some ("object","__eq__"):=by lk
theorem Ab {a b:Addr}(P:aM)(X:(K P).In s.heap)(ha:a∈eM)(hb:b∈eM)(hne:a≠b)(q:Q .notImplemented s):wpAny (model p w) A (call (.builtin "object.__eq__") [.ref a,.ref b]) Q E s:=by
 refine bg (CA a ha P) λoa e1 c1=>?_
 refine bg (CA b hb P) λob e2 c2=>?_
 have ty1:Looks (model p w) s.heap (gl (.ref a)) (.ref 229):=c1▸(eT (X _ _ e1)).andThen .now
 have i1:Looks (model p w) s.heap (fY (.ref a) (.type "object")) true:=ty1.andThen (looks_mroIn X (m229 P))
 have k1:=jm (h:=s.heap) (M:=model p w) (id:="object.__eq__") (owner:="object") (n:="__eq__") (self:=.ref a) (rest:=[.ref b]) kOEq sOEq i1 (F.args_object_eq_2 _ _)
 refine bw (da F.slot_object_eq.plain F.entry_object_eq (Looks.at k1 ?_))
 show wpAny _ _ (isSame (.ref a) (.ref b) >>= _) _ _ _
 refine ag (wpAny_isSame_ref_other hne (X _ _ e1) (X _ _ e2) (by rw [c1];decide) ?_)
 exact aj q
theorem tP {a b:Addr}(P:aM)(X:(K P).In s.heap)(hu:A.units < cLine)(ha:a∈eM)(hb:b∈eM):EqAt A s (.ref a) (.ref b) (a == b):=by
 intro p w E Q q
 refine bg (CA a ha P) λoa e1 c1=>?_
 refine bg (CA b hb P) λob e2 c2=>?_
 unfold eqBool
 refine aX ?_
 by_cases e:a=b
 ·subst e
  rw [if_pos (by exact if_pos rfl)]
  refine ag (gH (aj ?_))
  simpa using q
 ·rw [if_neg (by simpa using e)]
  rw [beq_eq_false_iff_ne.mpr e] at q
  have ty1:Looks (model p w) s.heap (gl (.ref a)) (.ref 229):=c1▸(eT (X _ _ e1)).andThen .now
  have ty2:Looks (model p w) s.heap (gl (.ref b)) (.ref 229):=c2▸(eT (X _ _ e2)).andThen .now
  refine ag (m:=nV .Eq (.ref a) (.ref b)) (we (f:=.builtin "object.__eq__") (g:=.builtin "object.__eq__") hu rfl ty1 ty2 (λh=>absurd rfl h) (cT X (f229 P)) (cT X (f229 P)) (cK (F.slot_object_eq.bind _)) (cK (F.slot_object_eq.bind _))
   (λQ' q'=>Ab P X ha hb e q') (λQ' q'=>Ab P X hb ha (cb e) q') (λQ' q'=>wpAny_isSame_ref_other e (X _ _ e1) (X _ _ e2) (by rw [c1];decide) q') ?_)
  exact cH q
end
set_option backward.match.sparseCases false
inductive Fl where
 | next | brk | cont | err
 | ret (v:Mv)
 deriving Inhabited
section
variable {α β:Type}
noncomputable def FT (x:Option (Rs×St)):Option (Mv×St):=Option.rec (motive:=λ_=>Option (Mv×St)) ac (λp=>Prod.rec (motive:=λ_=>Option (Mv×St)) (λr st=>Rs.rec (motive:=λ_=>Option (Mv×St)) (λv=>some (v,st)) ac r) p) x
noncomputable def gD (x:Option (α×St))(f:α->St->Option β):Option β:=Option.rec (motive:=λ_=>Option β) ac (λp=>Prod.rec (motive:=λ_=>Option β) f p) x
def fe (x:Option (Rs×St))(f:Mv->St->Option β):Option β:=gD (FT x) f
noncomputable def Eb (l:List α)(r:Option β):Option β:=List.rec (motive:=λ_=>Option β) r (λ_ _ _=>ac) l
def zt (l:List α)(f:α->Option β):Option β:=List.rec (motive:=λ_=>Option β) ac (λa l _=>Eb l (f a)) l
def xY (l:List α)(f:α->α->Option β):Option β:=List.rec (motive:=λ_=>Option β) ac (λa l _=>zt l (f a)) l
noncomputable def dS (c:Bool)(x:Option β):Option β:=Bool.rec (motive:=λ_=>Option β) ac x c
noncomputable def rv (v:Mv)(st:St):Option (Rs×St):=some (.ok v,st)
end
noncomputable def eO:Mv->Option Int | .int i=>some i | _=>ac
noncomputable def kG:Mv->Option Bool | .bool i=>some i | _=>ac
noncomputable def kY:Mv->Option Pn | .pt p=>some p | _=>ac
noncomputable def fZ:Mv->Option Addr | .addr i=>some i | _=>ac
noncomputable def gZ:Mv->Option Nat | .list i=>some i | _=>ac
noncomputable def lN:Mv->Option (Mv×Mv) | .pair a b=>some (a,b) | _=>ac
noncomputable def qj:Mv->Option Rt | .root r=>some r | _=>ac
noncomputable def zw:Mv->Option Bool
 | .none=>some true
 | .int _=>some false
 | .pt _=>some false
 | .isec .. => some false
 | _=>ac
noncomputable def isNone:Mv->Bool | .none=>true | _=>false
def yr (v:Mv):Option Bool:=match kG v with
 | some b=>some b
 | ac=>match eO v with
  | some i=>some (i != 0)
  | ac=>bif isNone v then some false else ac
def rY:mZ->Int->Int->Option Int
 | .Add,a,b=>some (a+b)
 | .Sub,a,b=>some (a - b)
 | .Mult,a,b=>dS (decide (a.natAbs < 2 ^ 64)) (some (a * b))
 | .FloorDiv,a,b=>dS (decide (b≠0/\b.natAbs < 2 ^ 1000)) (some (a.fdiv b))
 | .Mod,a,b=>dS (decide (b≠0)) (some (a.fmod b))
 | .BitAnd,a,b=>some (Builtin.bitAnd a b)
 | _,_,_=>ac
def bin (op:mZ)(a b:Mv):Option Mv:=(eO a).bind λx=>(eO b).bind λy=>(rY op x y).map .int
def sV (a b:Mv):Option Bool:=
 bif isNone b then zw a else bif isNone a then zw b else match fZ a with
  | some x=>(fZ b).bind λy=>dS (decide (x∈eM/\y∈eM)) (some (x == y))
  | ac=>(gZ a).bind λi=>(gZ b).bind λj=>dS (decide (i=j)) (some true)
noncomputable def cmpZ (op:CmpOp)(a b:Int):Option Bool:=match op with
 | .Eq=>some (a == b)
 | .NotEq=>some (a != b)
 | .Lt=>some (decide (a < b))
 | .LtE=>some (decide (a<=b))
 | .Gt=>some (decide (a > b))
 | _=>ac
noncomputable def cmpB (op:CmpOp)(a b:Bool):Option Bool:=match op with
 | .Eq=>some (a == b)
 | .NotEq=>some (a != b)
 | _=>ac
def cmpP (op:CmpOp)(a b:Pn):Option Bool:=dS (a.1 == b.1) (match op with
 | .Eq=>some (decide (a.2.1=b.2.1/\a.2.2=b.2.2))
 | .Lt=>some (decide (a.2.1 < b.2.1\/a.2.1=b.2.1/\a.2.2 < b.2.2))
 | _=>ac)
noncomputable def Gs:CmpOp->Bool | .Eq=>true | _=>false
def G2 (op:CmpOp)(a b:Mv):Option Bool:=match eO a with
 | some x=>(eO b).bind λy=>cmpZ op x y
 | ac=>match kG a with
  | some x=>(kG b).bind λy=>cmpB op x y
  | ac=>(kY a).bind λp=>bif isNone b then dS (Gs op) (some false) else (kY b).bind λq=>cmpP op p q
def cmp (op:CmpOp)(a b:Mv):Option Bool:=match op with
 | .Is=>sV a b
 | .IsNot=>(sV a b).map (!·)
 | op=>G2 op a b
noncomputable def Hk:List (Str×Mv):=[("CLOCKWISE",.addr 242),("COLLINEAR",.addr 245),("COUNTERCLOCKWISE",.addr 248)]
noncomputable def Hj:List (Str×Mv):=[("DISJOINT",.addr 265),("TOUCH",.addr 268),("CROSS",.addr 271),("OVERLAP",.addr 274),("COMPOSITE",.addr 277),("EQUAL",.addr 280),("COMPONENT",.addr 283)]
noncomputable def T94 (e:Int):List (Str×Mv):=[("event",.int e),("endpoints",.list 0),("opposites",.list 1)]
noncomputable def Bf (e:Int):List (Str×Mv):=[("event",.int e),("endpoints",.list 0),("opposites",.list 1),("_orienteer",.root .orient)]
noncomputable def T308 (p q:Pn):List (Str×Mv):=[("start",.pt p),("end",.pt q)]
noncomputable def T822 (i j:Int)(r:Addr)(p q:Pn):List (Str×Mv):=[("_end",.pt q),("_first_segment_id",.int i),("_relation",.addr r),("_second_segment_id",.int j),("_start",.pt p)]
noncomputable def T761:List (Str×Mv):=[("_orienteer",.root .orient),("_segments_intersector",.root .inter),("_unique",.bool false),("_opposites",.list 1),("_endpoints",.list 0),("_segments_ids",.list 2),("_min_collinear_segments_ids",.list 3),("_events_queue_data",.root .qu),("_sweep_line_data",.root .ks)]
noncomputable def T411:List (Str×Mv):=[("key",.root .qkf),("_rows",.list 4)]
noncomputable def T488:List (Str×Mv):=[("key",.root .skf),("_values",.list 5)]
def pL:Rt->List (Str×Mv)
 | .reg=>T761
 | .qu=>T411
 | .ks=>T488
 | _=>[]
def attrT:Mv->List (Str×Mv)
 | .pt p=>bif p.1 then [] else [("x",.int p.2.1),("y",.int p.2.2)]
 | .qk e=>T94 e
 | .sk e=>Bf e
 | .root r=>pL r
 | .seg p q=>T308 p q
 | .isec i j r p q=>T822 i j r p q
 | .contour i=>[("vertices",.list i)]
 | .addr a=>bif a == 252 then Hk else bif a == 287 then Hj else []
 | _=>[]
def G9 (v:Mv)(x:Str):Option Mv:=(attrT v).lookup x
noncomputable def prop:Mv->Str->Option Addr
 | .root r,a=>match r with
  | .reg=>[(("unique" : Str),568)].lookup a
  | _=>ac
 | .isec ..,a=>[(("start" : Str),811),("relation",795)].lookup a
 | _,_=>ac
noncomputable def m761:List (Str×Addr):=[("are_collinear",576),("to_event_end",583),("to_event_segment_id",590),("to_event_start",597),("to_segment_end",604),("to_segment_start",611),("_above",646),("_add",653),("_below",660),("_detect_intersection",667),("_divide",674),("_divide_event_by_mid_segment_event_endpoints",681),("_divide_event_by_midpoint",688),("_divide_event_by_midpoint_checking_above",695),("_divide_overlapping_events",702),("_find",709),("_merge_equal_segment_events",716),("_pop",723),("_push",730),("_remove",737),("_to_left_event_segment_id",744),("_to_min_collinear_segment_id",751),("_to_opposite_event",758)]
noncomputable def m411:List (Str×Addr):=[("push",401),("pop",408)]
noncomputable def m488:List (Str×Addr):=[("_place",436),("_holds",443),("_index",450),("add",457),("remove",464),("floor",471),("next",478),("prev",485)]
noncomputable def m369:List (Str×Addr):=[("segment_cls",347),("angle_orientation",359),("segments_intersection",366)]
def rootM:Rt->List (Str×Addr)
 | .reg=>m761
 | .qu=>m411
 | .ks=>m488
 | _=>[]
def qV:Mv->Str->Option Mv
 | .root r,a=>(pL r).lookup a
 | .sk e,a=>(Bf e).lookup a
 | _,_=>ac
def xh:Mv->Str->Option Addr
 | .root r,a=>(rootM r).lookup a
 | .ctx,a=>m369.lookup a
 | _,_=>ac
noncomputable def rootB:Rt->Option Addr
 | .reg=>some 632
 | .qu=>some 394
 | _=>ac
def A1 (v:Mv):Option Addr:=(qj v).bind rootB
noncomputable def ltFn:Mv->Mv->Option Addr
 | .qk _,b=>match b with | .qk _=>some 91 | _=>ac
 | .sk _,b=>match b with | .sk _=>some 537 | _=>ac
 | _,_=>ac
noncomputable def lK:List (Str×Addr):=[("is_even",35),("to_sorted_pair",42),("Event",49),("is_event_left",56),("segment_id_to_left_event",63),("segment_id_to_right_event",70),("EventsQueueKey",94),("Point",209),("Orientation",252),("Relation",287),
 ("Segment",308),("SweepLineKey",540),("Intersection",822)]
noncomputable def rS:List Addr:=[35,42,49,56,63,70,91,347,359,366,394,401,408,436,443,450,457,464,471,478,485,537,568,576,583,590,597,604,611,625,632,646,653,660,667,674,681,688,695,702,709,716,723,730,737,744,751,758,795,811]
def mV (v:Mv)(k:Nat):Bool:=gZ v == some k
def xu (v:Mv)(k:Rt):Bool:=qj v == some k
def make (f:Addr)(vs:List Mv):Option Mv:=match vs with
 | [a,b]=>bif f == 308 then (kY a).bind λp=>(kY b).bind λq=>some (.seg p q) else dS (f == 209) ((eO a).bind λx=>(eO b).bind λy=>some (.pt (false,x,y)))
 | [a,b,c]=>dS (f == 94 && (mV a 0 && mV b 1)) ((eO c).bind λe=>some (.qk e))
 | [a,b,c,d]=>dS (f == 540 && (mV a 0 && (mV b 1 && xu d .orient))) ((eO c).bind λe=>some (.sk e))
 | [a,b,c,d,e]=>dS (f == 822) ((eO a).bind λi=>(eO b).bind λj=>(fZ c).bind λr=>(kY d).bind λp=>(kY e).bind λq=>dS (decide (i≠j)) (some (.isec i j r p q)))
 | _=>ac
noncomputable def pI (st:St)(i:Nat)(l:List Mv):St:=st.set i l
noncomputable def idxOf:Int->Nat->Option Nat
 | .ofNat k,n=>bif Nat.blt k n then some k else ac
 | .negSucc k,n=>bif Nat.blt k n then some (n - (k+1)) else ac
def sub (a b:Mv)(st:St):Option Mv:=(eO b).bind λk=>match gZ a with
 | some i=>(st[i]?).bind λl=>dS (decide (l.length<=1000000)) ((idxOf k l.length).bind λj=>l[j]?)
 | ac=>(lN a).bind λp=>match k with
  | 0=>some p.1
  | 1=>some p.2
  | _=>ac
noncomputable def Ba {α:Type}(f:Mv->Option α):List Mv->Option (List α)
 | []=>some []
 | a :: l=>(f a).bind λx=>(Ba f l).bind λr=>some (x :: r)
def vI (l:List Mv):Option (List Pn):=Ba kY l
def mf (l:List Mv):Option (List Int):=Ba eO l
def lm1 (i:Nat)(l:List Mv)(st:St)(a:Str)(v:Mv):Option (Mv×St):=
 if a = "append" then some (.none,pI st i (l++[v]))
 else if a = "pop" then (eO v).bind λk=>dS (decide (0<=k)) ((l[k.toNat]?).bind λx=>some (x,pI st i (l.eraseIdx k.toNat)))
 else if a = "index" then (eO v).bind λk=>(mf l).bind λns=>dS (decide (k∈ns)) (some (.int (ns.idxOf k),st))
 else ac
def lm (i:Nat)(l:List Mv)(st:St)(a:Str)(args:List Mv):Option (Mv×St):=
 dS (decide (l.length<=1000000)) (match args with
 | [v]=>lm1 i l st a v
 | [w,v]=>dS (decide (a = "insert")) ((eO w).bind λk=>dS (decide (0<=k/\k.toNat<=l.length)) (some (.none,pI st i (l.take k.toNat++v :: l.drop k.toNat))))
 | _=>ac)
def bi (f:Str)(args:List Mv)(st:St):Option Mv:=
 match args with
 | [a]=>dS (decide (f = "len")) ((gZ a).bind λi=>(st[i]?).bind λl=>dS (decide (l.length<=1000000)) (some (.int l.length)))
 | [a,b]=>dS (decide (f = "min")) ((eO a).bind λx=>(eO b).bind λy=>some (.int (min x y)))
 | _=>ac
def gP (e:Expr):Bool:=match jB e with
 | .other=>false
 | .lam .. => false
 | _=>true
section
variable {α:Type}
noncomputable def obj {β:Type}(x:Option β)(f:β->Option α):Option α:=match x with | some a=>f a | ac=>ac
noncomputable def AD:EV->Option (Str×Pos) | .name x p=>some (x,p) | _=>ac
noncomputable def wB:EV->Option (Const×Nat×Pos) | .const x k p=>some (x,k,p) | _=>ac
noncomputable def AE:EV->Option (Expr×List Expr×List Keyword×Pos) | .call f as ks p=>some (f,as,ks,p) | _=>ac
def lO (e:Expr)(f:Str->Pos->Option α):Option α:=obj (AD (jB e)) λq=>f q.1 q.2
def r5 (e:Expr)(f:Const->Nat->Pos->Option α):Option α:=obj (wB (jB e)) λq=>f q.1 q.2.1 q.2.2
def vG (e:Expr)(g:Expr->List Expr->List Keyword->Pos->Option α):Option α:=obj (AE (jB e)) λq=>g q.1 q.2.1 q.2.2.1 q.2.2.2
noncomputable def asOp {α:Type}(o:Option α){β:Type}(f:α->Option β):Option β:=o.bind f
end
def lF (e:Expr):Bool:=(vG e λf as ks _=>Eb as (Eb ks (lO f λ_ _=>some ()))).isNone
structure ja where
 e:Scope->Expr->Lo->St->Option (Rs×St)
 t:Scope->Expr->Lo->St->Option (Bool×St)
 s:Scope->List Stmt->Lo->St->Option (Fl×Lo×St)
 w:Scope->Expr->List Stmt->Lo->St->Option (Fl×Lo×St)
 c:Addr->List Mv->St->Option (Rs×St)
section
variable (I:ja)
noncomputable def args (sc:Scope):List Expr->Lo->St->Option (List Mv×St)
 | [],_,st=>some ([],st)
 | e :: r,lo,st=>dS (gP e) (fe (I.e sc e lo st) λv st=>gD (args sc r lo st) λvs st=>some (v :: vs,st))
def DQ (r:Rt)(vs:List Mv)(st:St):Option (Rs×St):=match r with
 | .qkf=>zt vs λa=>(eO a).bind λe=>rv (.qk e) st
 | .skf=>zt vs λv=>I.c 625 [.root .reg,v] st
 | .orient=>I.c 359 (.ctx :: vs) st
 | .inter=>match vs with
  | [a,b,c,d]=>(kY a).bind λp=>(kY b).bind λq=>(kY c).bind λp'=>(kY d).bind λq'=>I.c 366 [.ctx,.seg p q,.seg p' q'] st
  | _=>ac
 | _=>ac
def mF (g:Mv)(vs:List Mv)(st:St):Option (Rs×St):=match fZ g with
 | some f=>bif rS.contains f then I.c f vs st else (make f vs).bind λv=>rv v st
 | ac=>(qj g).bind λr=>DQ I r vs st
def inL (a:Mv)(l:List Mv):Option Bool:=match eO a with
 | some k=>(mf l).bind λns=>some (decide (k∈ns))
 | ac=>(kY a).bind λq=>(vI l).bind λps=>dS (ps.all λp=>p.1 == q.1) (some (ps.any λp=>decide (p.2.1=q.2.1/\p.2.2=q.2.2)))
def kD (op:CmpOp)(a b:Mv)(st:St):Option (Bool×St):=match cmp op a b with
 | some r=>some (r,st)
 | ac=>match op with
  | .In=>(gZ b).bind λi=>(st[i]?).bind λl=>(inL a l).bind λr=>some (r,st)
  | .NotIn=>(fZ a).bind λx=>(lN b).bind λp=>(fZ p.1).bind λy=>(fZ p.2).bind λz=>dS (decide (x∈eM/\y∈eM/\z∈eM)) (some (!(y == x || z == x),st))
  | .Lt=>(ltFn a b).bind λf=>fe (I.c f [a,b] st) λv st=>(kG v).bind λr=>some (r,st)
  | _=>ac
def mw (v:Mv)(st:St):Option (Bool×St):=match yr v with
 | some b=>some (b,st)
 | ac=>(A1 v).bind λf=>fe (I.c f [v] st) λv st=>(kG v).bind λr=>some (r,st)
def HD (f:Str)(vs:List Mv)(st:St):Option (Rs×St):=
 bif f == ("bool" : Str) then zt vs λv=>gD (mw I v st) λb st=>rv (.bool b) st else (bi f vs st).bind λv=>rv v st
section
variable (sc:Scope) (lo:Lo) (st:St)
def xName (x:Str):Option (Rs×St):=dS (!(x == ("__debug__" : Str))) (match sc.names.lookup x with
 | some .local=>(lo x).bind λv=>rv v st
 | some .globalImplicit=>(lK.lookup x).bind λa=>rv (.addr a) st
 | _=>ac)
def EY:Const->Option (Rs×St)
 | .int i=>rv (.int i) st
 | .str x=>rv (.str x) st
 | .none=>rv .none st
 | .bool b=>rv (.bool b) st
 | _=>ac
noncomputable def Aj:UnaryOp->Bool | .Not=>true | _=>false
noncomputable def qR:BoolOp->Bool | .And=>true | _=>false
def pB (as:List Expr)(a:Str)(v:Mv)(st:St):Option (Rs×St):=match xh v a with
 | some f=>gD (args I sc as lo st) λvs st=>I.c f (v :: vs) st
 | ac=>match qV v a with
  | some f=>gD (args I sc as lo st) λvs st=>mF I f vs st
  | ac=>match gZ v with
   | some i=>gD (args I sc as lo st) λvs st=>(st[i]?).bind λl=>gD (lm i l st a vs) λv st=>rv v st
   | ac=>(eO v).bind λk=>dS (decide (a = "bit_length") && as.isEmpty) (rv (.int (Builtin.Int.intBits k)) st)
def vN (as:List Expr)(pos:Pos):EV->Option (Rs×St)
 | .name f _=>dS (!(f == ("__debug__" : Str)) && (sc.names.lookup f == some .globalImplicit)) (gD (args I sc as lo st) λvs st=>match lK.lookup f with
  | some a=>mF I (.addr a) vs st
  | ac=>HD I f vs st)
 | .att o a ap=>dS (ap.endLine == pos.line && (lF o && decide (as.length < 20))) (fe (I.e sc o lo st) (pB I sc lo as a))
 | _=>ac
def exV:EV->Option (Rs×St)
 | .name x _=>xName sc lo st x
 | .const c _ _=>EY st c
 | .bin l op r _=>fe (I.e sc l lo st) λa st=>fe (I.e sc r lo st) λb st=>(bin op a b).bind λv=>rv v st
 | .una op x _=>dS (Aj op) (fe (I.e sc x lo st) λa st=>gD (mw I a st) λb st=>rv (.bool (!b)) st)
 | .boo op l _=>xY l λx y=>fe (I.e sc x lo st) λa st=>gD (mw I a st) λb st=>bif b == qR op then fe (I.e sc y lo st) rv else rv a st
 | .cmp l ops rs _=>zt ops λop=>zt rs λr=>dS (!behindInMarks op r) (fe (I.e sc l lo st) λa st=>fe (I.e sc r lo st) λb st=>gD (kD I op a b st) λt st=>rv (.bool t) st)
 | .ife t x y _=>gD (I.t sc t lo st) λb st=>bif b then I.e sc x lo st else I.e sc y lo st
 | .att o a _=>dS (lF o) (fe (I.e sc o lo st) λv st=>match G9 v a with
  | some r=>rv r st
  | ac=>(prop v a).bind λf=>fe (I.c f [v] st) rv)
 | .sub o i _=>dS (gP i) (fe (I.e sc o lo st) λv st=>fe (I.e sc i lo st) λk st=>(sub v k st).bind λr=>rv r st)
 | .tup l _ _=>xY l λ_ _=>gD (args I sc l lo st) λvs st=>xY vs λa b=>rv (.pair a b) st
 | .call f as ks pos=>Eb ks (vN I sc lo st as pos (jB f))
 | _=>ac
end
def exE (sc:Scope)(e:Expr)(lo:Lo)(st:St):Option (Rs×St):=exV I sc lo st (jB e)
noncomputable def Dw (sc:Scope)(op:BoolOp):List Expr->Lo->St->Option (Bool×St)
 | [],_,st=>some (qR op,st)
 | x :: r,lo,st=>gD (I.t sc x lo st) λb st=>bif b == qR op then Dw sc op r lo st else some (b,st)
def exTV (sc:Scope)(lo:Lo)(st:St)(e:Expr):EV->Option (Bool×St)
 | .cmp l ops rs _=>match ops with
  | [op]=>zt rs λr=>dS (!behindInMarks op r) (fe (I.e sc l lo st) λa st=>fe (I.e sc r lo st) λb st=>kD I op a b st)
  | [op,op']=>xY rs λr r'=>dS (!behindInMarks op' r') (fe (I.e sc l lo st) λa st=>fe (I.e sc r lo st) λb st=>gD (kD I op a b st) λt st =>
    bif t then fe (I.e sc r' lo st) λc st=>kD I op' b c st else some (false,st))
  | _=>ac
 | .una op x _=>dS (Aj op) (gD (I.t sc x lo st) λb st=>some (!b,st))
 | .boo op l _=>Dw I sc op l lo st
 | .name .. => fe (I.e sc e lo st) (mw I)
 | .call .. => fe (I.e sc e lo st) (mw I)
 | .att .. => fe (I.e sc e lo st) (mw I)
 | .bin .. => fe (I.e sc e lo st) (mw I)
 | .const .. => fe (I.e sc e lo st) (mw I)
 | _=>ac
def exT (sc:Scope)(e:Expr)(lo:Lo)(st:St):Option (Bool×St):=exTV I sc lo st e (jB e)
noncomputable def put (lo:Lo)(x:Str)(v:Mv):Lo:=λy=>if y=x then some v else lo y
noncomputable def dY (sc:Scope)(x:Str):Bool:=sc.names.lookup x == some .local
def sI (e:Expr):Bool:=match jB e with
 | .tup vs _ _=>!vs.all (constantsAlone 8)
 | _=>true
noncomputable def Ht (x:Option (Rs×St))(lo:Lo)(f:Mv->St->Option (Fl×Lo×St)):Option (Fl×Lo×St):=x.bind λp=>match p.1 with
 | .ok v=>f v p.2
 | .err=>some (.err,lo,p.2)
noncomputable def xL:Const->Bool
 | .none=>true
 | _=>false
def rM (sc:Scope)(e:Expr):Bool:=(lO e λx _=>dS (x == ("ValueError" : Str) && (sc.names.lookup x == some .globalImplicit)) (some ())).isSome
noncomputable def retOf:Stmt->Option Expr
 | .Return e _=>e
 | _=>ac
def CF (e:Expr):Bool:=(r5 e λc _ _=>dS (xL c) (some ())).isSome
def isHd (sc:Scope):ExceptHandler->Bool
 | .ExceptHandler t n b _=>n.isNone && ((t.bind λe=>zt b λs=>(retOf s).bind λv=>dS (rM sc e && CF v) (some ())).isSome)
def isVE (sc:Scope)(l:List ExceptHandler):Bool:=(zt l λh=>dS (isHd sc h) (some ())).isSome
def rN (sc:Scope)(e:Expr):Bool:=(vG e λf as ks _=>zt as λa=>Eb ks (dS (rM sc f) (r5 a λc _ _=>match c with | .str _=>some () | _=>ac))).isSome
def Hc (sc:Scope)(lo:Lo)(st:St)(e:Expr):EV->Option (Fl×Lo×St)
 | .name x _=>dS (dY sc x) (Ht (I.e sc e lo st) lo λv st=>some (.next,put lo x v,st))
 | .tup l _ _=>xY l λa b=>lO a λx _=>lO b λy _=>dS (sI e && (!(x == y) && (dY sc x && dY sc y))) (fe (I.e sc e lo st) λv st=>(lN v).bind λp=>some (.next,put (put lo x p.1) y p.2,st))
 | .sub o i _=>dS (gP i) (fe (I.e sc e lo st) λv st=>fe (I.e sc o lo st) λo st=>fe (I.e sc i lo st) λk st=>(gZ o).bind λj=>(eO k).bind λk=>(st[j]?).bind λl =>
   dS (decide (l.length<=1000000/\0<=k/\k.toNat < l.length)) (some (.next,lo,pI st j (l.set k.toNat v))))
 | _=>ac
noncomputable def Ed:Option (Fl×Lo×St)->Option (Fl×Lo×St):=λx=>x.bind λp=>match p.1 with
 | .err=>ac
 | _=>some p
noncomputable def tryE (sc:Scope)(o:List Stmt)(p:Fl×Lo×St):Option (Fl×Lo×St):=match p.1 with
 | .next=>I.s sc o p.2.1 p.2.2
 | .err=>some (.ret .none,p.2)
 | _=>some p
noncomputable def Gu:mZ->Bool
 | .Add=>true
 | .Sub=>true
 | _=>false
def nk (sc:Scope)(s:Stmt)(lo:Lo)(st:St):Option (Fl×Lo×St):=match s with
 | .Return e _=>e.bind λe=>Ht (I.e sc e lo st) lo λv st=>some (.ret v,lo,st)
 | .Pass _=>some (.next,lo,st)
 | .Continue _=>some (.cont,lo,st)
 | .Expr e _=>dS (gP e) (fe (I.e sc e lo st) λ_ st=>some (.next,lo,st))
 | .Assign ts e _=>dS (gP e) (match ts with
  | [t]=>Hc I sc lo st e (jB t)
  | [t,t']=>lO t λx _=>lO t' λy _=>dS (dY sc x && dY sc y) (fe (I.e sc e lo st) λv st=>some (.next,put (put lo x v) y v,st))
  | _=>ac)
 | .AugAssign t op e _=>lO t λx _=>dS (dY sc x && Gu op) ((lo x).bind λa=>fe (I.e sc e lo st) λb st=>(bin op a b).bind λv=>some (.next,put lo x v,st))
 | .If t b o _=>gD (I.t sc t lo st) λc st=>bif c then I.s sc b lo st else I.s sc o lo st
 | .While t b o _=>Eb o (Ed (I.w sc t b lo st))
 | .Assert t _ _=>gD (I.t sc t lo st) λc st=>dS c (some (.next,lo,st))
 | .Raise x c _=>match c with
  | ac=>x.bind λe=>dS (rN sc e) (some (.err,lo,st))
  | some _=>ac
 | .Try b h o f _=>Eb f (dS (isVE sc h) ((I.s sc b lo st).bind (tryE I sc o)))
 | _=>ac
noncomputable def DJ (sc:Scope):List Stmt->Lo->St->Option (Fl×Lo×St)
 | [],lo,st=>some (.next,lo,st)
 | s :: r,lo,st=>(nk I sc s lo st).bind λp=>match p.1 with
  | .next=>DJ sc r p.2.1 p.2.2
  | _=>some p
noncomputable def whT (sc:Scope)(t:Expr)(b:List Stmt)(p:Fl×Lo×St):Option (Fl×Lo×St):=match p.1 with
 | .next=>I.w sc t b p.2.1 p.2.2
 | .cont=>I.w sc t b p.2.1 p.2.2
 | .brk=>some (.next,p.2)
 | .ret v=>some (.ret v,p.2)
 | .err=>ac
def whl (sc:Scope)(t:Expr)(b:List Stmt)(lo:Lo)(st:St):Option (Fl×Lo×St):=
 gD (I.t sc t lo st) λc st=>bif c then (I.s sc b lo st).bind (whT I sc t b) else some (.next,lo,st)
noncomputable def jK (ps:List Str)(vs:List Mv):Lo:=λx=>(ps.zip vs).reverse.lookup x
noncomputable def lL (p:Fl×Lo×St):Option (Rs×St):=match p.1 with
 | .ret v=>some (.ok v,p.2.2)
 | .next=>some (.ok .none,p.2.2)
 | .err=>some (.err,p.2.2)
 | _=>ac
def gJ (f:Addr)(vs:List Mv)(st:St):Option (Rs×St):=
 dS (rS.contains f && vs.length == (dK f).length) ((I.s (aJ f) (aO f) (jK (dK f) vs) st).bind lL)
end
noncomputable def bot:ja:=⟨λ_ _ _ _=>ac,λ_ _ _ _=>ac,λ_ _ _ _=>ac,λ_ _ _ _ _=>ac,λ_ _ _=>ac⟩
def step (I:ja):ja:=⟨exE I,exT I,DJ I,whl I,gJ I⟩
def qA (k:Nat)(sc:Scope)(e:Expr)(f:Lo->St->Option (Bool×St)):Prop:=
 ∀ (w:World) (aa:Heap) (A:aw) (env:Env) (m:Str->Option Value) (s:ae) (R:aD) (lo:Lo) (st:St) (b:Bool) (st':St) (Q:Bool->ae->Prop) (E:Value->ae->Prop),
  Be w aa k A R st s->bZ env sc s.heap m->ci R s.heap lo m->f lo st=some (b,st')->(∀ R' h' t',Nx aa R s.heap R' st' h'->Q b (up s h' t'))->wpAny (Md w) A (isTrue e env (eval e env)) Q E s
set_option backward.match.sparseCases true in
def cq (Q E:Value->ae->Prop):ej->ae->Prop:=λr s'=>match r with | .ok (.ret v)=>Q v s' | .ok _=>False | .error e=>E e s'
def DA (k:Nat)(f:Addr->List Mv->St->Option (Rs×St)):Prop:=
 ∀ (w:World) (aa:Heap) (A:aw) (s:ae) (R:aD) (st:St) (g:Addr) (vs:List Mv) (us:List Value) (r:Rs) (st':St) (Q E:Value->ae->Prop),
  g∈rS->Be w aa k A R st s->bz (V R s.heap) vs us->f g vs st=some (r,st')->Po aa R s r st' Q E->bY (Md w) A (.call (.ref g) ⟨us,[]⟩) (cq Q E) s
def Bm (aa:Heap)(e:Addr)(h:Heap):Prop:=aa.get? e=ac/\∃ oe vs a0,h.get? e=some oe/\oe.cls=.type "ValueError"/\oe.data=.fields vs/\vs[1]? = some gL/\vs[0]? = some a0
structure oW (L:Addr) (aa:Heap) (R:aD) (h:Heap) (R':aD) (st':St) (h':Heap):Prop where
 ext:Br h R R'
 inv:nQ aa R' st' h'
 keep:dQ (L :: R.cells) h h'
def yb (env:Env)(sc:Scope)(aa:Heap)(R:aD)(s:ae)(r:Fl)(lo':Lo)(st':St)(Q:Flow->ae->Prop)(E:Value->ae->Prop):Prop:=
 ∀ R' h' t' m',oW env.locals aa R s.heap R' st' h'->bZ env sc h' m'->ci R' h' lo' m'->match r with
  | .next=>Q .next (up s h' t')
  | .brk=>Q .brk (up s h' t')
  | .cont=>Q .cont (up s h' t')
  | .ret v=>∀ u,V R' h' v u->Q (.ret u) (up s h' t')
  | .err=>∀ e,DC aa e h'\/Bm aa e h'->E (.ref e) (up s h' t')
def iU (A:aw)(env:Env):Prop:=∃ outer,A.frames=some (env :: outer)
def SimS (k:Nat)(sc:Scope)(b:List Stmt)(f:Lo->St->Option (Fl×Lo×St)):Prop:=
 ∀ (w:World) (aa:Heap) (A:aw) (env:Env) (m:Str->Option Value) (s:ae) (R:aD) (lo:Lo) (st:St) (r:Fl) (lo':Lo) (st':St) (Q:Flow->ae->Prop) (E:Value->ae->Prop),
  Be w aa k A R st s->iU A env->bZ env sc s.heap m->ci R s.heap lo m->f lo st=some (r,lo',st')->yb env sc aa R s r lo' st' Q E->wpAny (Md w) A (execs b env) Q E s
def SimW (k:Nat)(sc:Scope)(t:Expr)(b:List Stmt)(f:Lo->St->Option (Fl×Lo×St)):Prop:=
 ∀ (w:World) (aa:Heap) (A:aw) (env:Env) (m:Str->Option Value) (s:ae) (R:aD) (lo:Lo) (st:St) (r:Fl) (lo':Lo) (st':St) (Q:Flow->ae->Prop),
  Be w aa k A R st s->iU A env->bZ env sc s.heap m->ci R s.heap lo m->f lo st=some (r,lo',st')->yb env sc aa R s r lo' st' Q (λ_ _=>False)->bY (Md w) A (.whileLoop t b [] env) (λr s'=>match r with | .ok f=>Q f s' | .error _=>False) s
structure cz (k:Nat) (I:ja):Prop where
 e:∀ sc x,kH k sc x (I.e sc x)
 t:∀ sc x,qA k sc x (I.t sc x)
 s:∀ sc b,SimS k sc b (I.s sc b)
 w:∀ sc t b,SimW k sc t b (I.w sc t b)
 c:DA k I.c
section
variable {α β:Type}{G:Prop}{y:β}
theorem dW {x:Option (α×St)}{f:α->St->Option β}(h:gD x f=some y)(k:∀ a st,x=some (a,st)->f a st=some y->G):G:=by
 cases x with
 | none=>cases h
 | some p=>exact k p.1 p.2 rfl h
theorem lB {x:Option (Rs×St)}{v:Mv}{st:St}(h:FT x=some (v,st)):x=some (.ok v,st):=by
 cases x with
 | none=>cases h
 | some p =>
  obtain ⟨r,bA⟩:=p
  cases r with
  | ok v'=>cases h;rfl
  | err=>cases h
theorem dG {x:Option (Rs×St)}{f:Mv->St->Option β}(h:fe x f=some y)(k:∀ v st,FT x=some (v,st)->f v st=some y->G):G:=dW h k
theorem aC {x:Option α}{f:α->Option β}(h:x.bind f=some y)(k:∀ a,x=some a->f a=some y->G):G:=by
 cases x with
 | none=>cases h
 | some a=>exact k a rfl h
theorem ba {c:Bool}{x:Option β}(h:dS c x=some y)(k:c=true->x=some y->G):G:=by
 cases c with
 | false=>cases h
 | true=>exact k rfl h
theorem eK {c:Bool}{x z:Option β}(h:(bif c then x else z)=some y)(k:c=true->x=some y->G)(k':c=false->z=some y->G):G:=by
 cases c with
 | true=>exact k rfl h
 | false=>exact k' rfl h
theorem rG {l:List α}{r:Option β}(h:Eb l r=some y)(k:l=[]->r=some y->G):G:=by
 cases l with
 | nil=>exact k rfl h
 | cons=>cases h
theorem j8 {l:List α}{f:α->Option β}(h:zt l f=some y)(k:∀ a,l=[a]->f a=some y->G):G:=by
 cases l with
 | nil=>cases h
 | cons a l=>cases l with
  | nil=>exact k a rfl h
  | cons=>cases h
theorem lA {l:List α}{f:α->α->Option β}(h:xY l f=some y)(k:∀ a b,l=[a,b]->f a b=some y->G):G:=by
 cases l with
 | nil=>cases h
 | cons a l=>cases l with
  | nil=>cases h
  | cons b l=>cases l with
   | nil=>exact k a b rfl h
   | cons=>cases h
theorem rv_ok {v v':Mv}{bA:St}(h:FT (rv v bA)=some (v',st')):v=v'/\bA=st':=by cases h;exact ⟨rfl,rfl⟩
theorem bR {a b:Bool}(h:(a && b)=true)(k:a=true->b=true->G):G:=by
 cases a with
 | false=>cases h
 | true=>exact k rfl h
theorem mT {a:Bool}(h:(!a)=true):a=false:=by cases a with | false=>rfl | true=>cases h
theorem gY {α τ:Type}{f:τ->Option α}{g:α->τ}{v:τ}{i:α}(b:∀ v,(f v).elim v g=v)(h:f v=some i):v=g i:=(Eq.mp (congrArg (λo=>Option.elim o v g=v) h) (b v)).symm
theorem dO {v:Mv}{i:Int}:eO v=some i->v=.int i:=gY λv=>by cases v<;>rfl
theorem jo {v:Mv}{i:Bool}:kG v=some i->v=.bool i:=gY λv=>by cases v<;>rfl
theorem fw {v:Mv}{i:Pn}:kY v=some i->v=.pt i:=gY λv=>by cases v<;>rfl
theorem ir {v:Mv}{i:Addr}:fZ v=some i->v=.addr i:=gY λv=>by cases v<;>rfl
theorem fQ {v:Mv}{i:Nat}:gZ v=some i->v=.list i:=gY λv=>by cases v<;>rfl
theorem oI {v:Mv}{i:Mv×Mv}:lN v=some i->v=.pair i.1 i.2:=gY (f:=lN) (g:=λi=>Mv.pair i.1 i.2) λv=>by cases v<;>rfl
theorem io {v:Mv}{i:Rt}:qj v=some i->v=.root i:=gY λv=>by cases v<;>rfl
theorem ot {v:Mv}(h:isNone v=true):v=.none:=by
 have b:(bif isNone v then Mv.none else v)=v:=by cases v<;>rfl
 rw [h] at b;exact b.symm
theorem ns {α:Type}{x:α}{P:Prop}(h:ac=some x):P:=nomatch h
theorem sn {α:Type}{x:α}{P:Prop}(h:some x=ac):P:=nomatch h
theorem sj {α:Type}{x y:α}(h:some x=some y):x=y:=Option.some.inj h
theorem V.asI {R:aD}{v:Mv}{i:Int}{u:Value}(p:V R h v u)(e:eO v=some i):Bo i u:=(dO e▸p:V R h (.int i) u)
theorem V.asP {R:aD}{v:Mv}{i:Pn}{u:Value}(p:V R h v u)(e:kY v=some i):Pv R h i u:=(fw e▸p:V R h (.pt i) u)
theorem V.asL {R:aD}{v:Mv}{i:Nat}{u:Value}(p:V R h v u)(e:gZ v=some i):uI R i u:=(fQ e▸p:V R h (.list i) u)
theorem V.asA {R:aD}{v:Mv}{i:Addr}{u:Value}(p:V R h v u)(e:fZ v=some i):u=.ref i:=(ir e▸p:V R h (.addr i) u)
theorem V.asR {R:aD}{v:Mv}{i:Rt}{u:Value}(p:V R h v u)(e:qj v=some i):uG R i u:=(io e▸p:V R h (.root i) u)
theorem Bo.el {i:Int}{u:Value}{P:Value->Prop}(x:Bo i u)(k:∀ t,P (.int i t)):P u:=by cases x;exact k _
theorem uI.el {R:aD}{i:Nat}{u:Value}{P:Value->Prop}(x:uI R i u)(k:∀ a,R.cells[i]? = some a->P (.ref a)):P u:=by cases x with | mk e=>exact k _ e
theorem uG.el {R:aD}{i:Rt}{u:Value}{P:Value->Prop}(x:uG R i u)(k:R.live=true->P (.ref (R.at_ i))):P u:=by cases x with | mk e=>exact k e
theorem bz.un {α β:Type}{P:α->β->Prop}{a:α}{l:List α}{m:List β}{G:List β->Prop}(h:bz P (a :: l) m)(k:∀ u m,P a u->bz P l m->G (u :: m)):G m:=by cases h with | cons p h=>exact k _ _ p h
theorem bz.no {α β:Type}{P:α->β->Prop}{m:List β}{G:List β->Prop}(h:bz P [] m)(k:G []):G m:=by cases h;exact k
theorem bz.el2 {α β:Type}{P:α->β->Prop}{a b:α}{m:List β}{G:List β->Prop}(h:bz P [a,b] m)(k:∀ u v,P a u->P b v->G [u,v]):G m:=
 h.un λ_ _ p h=>h.un (G:=λm=>G (_ :: m)) λ_ _ q h=>h.no (G:=λm=>G (_ :: _ :: m)) (k _ _ p q)
theorem bz.el3 {α β:Type}{P:α->β->Prop}{a b c:α}{m:List β}{G:List β->Prop}(h:bz P [a,b,c] m)(k:∀ u v w,P a u->P b v->P c w->G [u,v,w]):G m:=
 h.un λ_ _ p h=>h.el2 (G:=λm=>G (_ :: m)) λ_ _ q r=>k _ _ _ p q r
theorem bz.el4 {α β:Type}{P:α->β->Prop}{a b c d:α}{m:List β}{G:List β->Prop}(h:bz P [a,b,c,d] m)(k:∀ u v w x,P a u->P b v->P c w->P d x->G [u,v,w,x]):G m:=
 h.un λ_ _ p h=>h.el3 (G:=λm=>G (_ :: m)) λ_ _ _ q r s=>k _ _ _ _ p q r s
theorem BA {e:Expr}{P:EV->Prop}(h:P (jB e))(o:¬ P .other)(k:∀ v,P v->e=v.back->G):G:=
 (ji e).elim (λq=>absurd (q▸h) o) λq=>k _ h q
theorem AC {α:Type}{e:Expr}{i:α}{f:EV->Option α}{g:α->EV}(b:∀ v,(f v).elim v g=v)(n:f .other=ac)(h:f (jB e)=some i):e=(g i).back:=
 (ji e).elim (λq=>ns (n.symm.trans ((congrArg f q).symm.trans h))) λq=>q.trans (congrArg EV.back (gY b h))
theorem vh {x:Option α}{f:α->Option β}(h:obj x f=some y)(k:∀ a,x=some a->f a=some y->G):G:=by
 cases x with
 | none=>cases h
 | some a=>exact k a rfl h
theorem jn {e:Expr}{f:Str->Pos->Option β}(h:lO e f=some y)(k:∀ x p,e=.Name x p->f x p=some y->G):G:=
 vh h λq hq=>k _ _ (AC (i:=q) (f:=AD) (g:=λq=>EV.name q.1 q.2) (λv=>by cases v<;>rfl) rfl hq)
theorem ql {e:Expr}{f:Const->Nat->Pos->Option β}(h:r5 e f=some y)(k:∀ x j p,e=.Constant x j p->f x j p=some y->G):G:=
 vh h λq hq=>k _ _ _ (AC (i:=q) (f:=wB) (g:=λq=>EV.const q.1 q.2.1 q.2.2) (λv=>by cases v<;>rfl) rfl hq)
theorem xQ {e:Expr}{g:Expr->List Expr->List Keyword->Pos->Option β}(h:vG e g=some y)(k:∀ f as ks p,e=.Call f as ks p->g f as ks p=some y->G):G:=
 vh h λq hq=>k _ _ _ _ (AC (i:=q) (f:=AE) (g:=λq=>EV.call q.1 q.2.1 q.2.2.1 q.2.2.2) (λv=>by cases v<;>rfl) rfl hq)
theorem rI {e:Expr}{P:Expr->Prop}(h:gP e=true)(k:∀ v:EV,gP v.back=true->P v.back):P e:=
 BA (P:=λv=>(match v with | .other=>false | .lam .. => false | _=>true)=true) h nofun λv _ q=>q▸k v (q▸h)
end
section
variable {n:Nat}{I:ja}{w:World}{env:Env}{s:ae}{R:aD}{lo:Lo}{st bA:St}{a:Mv}
theorem Po.ok {r:Rs}{v:Mv}(hQ:Po aa R s r st' Q E)(h:rv v bA=some (r,st')):∀ R' h' t' u,Nx aa R s.heap R' bA h'->V R' h' v u->Q u (up s h' t'):=by
 refine pj2 h λy3a y3b=>?_;subst y3a;subst y3b
 exact λR' h' t' u nx hu=>hQ R' h' t' nx u hu
theorem Be.X (B:Be w aa n A R st s):(K w.params).In s.heap:=B.I.X B.G
theorem kH.use {l:Expr}{f:Ex}(hl:kH n sc l f)(B:Be w aa n A R st s)(F:bZ env sc s.heap m)(L:ci R s.heap lo m)(hf:FT (f lo st)=some (a,bA))
  (k:∀ R1 h1 t1 u,Nx aa R s.heap R1 bA h1->V R1 h1 a u->Q u (up s h1 t1)):wpAny (Md w) A (eval l env) Q E s:=
 hl w aa A env m s R lo st (.ok a) bA Q E B F L (lB hf) λR1 h1 t1 nx u hu=>k R1 h1 t1 u nx hu
structure Af (aa:Heap) (w:World) (n:Nat) (A:aw) (env:Env) (sc:Scope) (m:Str->Option Value) (lo:Lo) (R:aD) (h:Heap) (R1:aD) (bA:St) (s1:ae):Prop where
 nx:Nx aa R h R1 bA s1.heap
 B:Be w aa n A R1 bA s1
 F:bZ env sc s1.heap m
 L:ci R1 s1.heap lo m
theorem Af.of {s1:ae}{R1:aD}(B:Be w aa n A R st s)(F:bZ env sc s.heap m)(L:ci R s.heap lo m)(nx:Nx aa R s.heap R1 bA s1.heap):Af aa w n A env sc m lo R s.heap R1 bA s1:=
 ⟨nx,B.nx nx,F.nx nx B.I,L.nx nx B.I⟩
theorem tY:∀ x a,lK.lookup x=some a->∀ P,nsIn (K P) bM x=some (some (.ref a)):=by
 have key:∀ P,(lK.all λp=>nsIn (K P) bM p.1 == some (some (.ref p.2)))=true:=λP=>by lk
 intro x a h P
 have hm:(x,a)∈lK:=by
  clear key
  revert h
  generalize lK=l
  intro h
  induction l with
  | nil=>simp at h
  | cons p r ih =>
   rw [dT] at h
   split at h
   ·rename_i q;cases h;rw [beq_iff_eq] at q;subst q;exact .head _
   ·exact .tail _ (ih h)
 exact beq_iff_eq.mp (bj.mp (key P) _ hm)
theorem BR {x:Str}:kH (n+1) sc (.Name x pos) (exE I sc (.Name x pos)):=by
 intro w aa A env m s R lo st r st' Q E B F L hf hQ
 refine ba hf λhd hf=>?_
 have hd':=mT hd
 cases hl:sc.names.lookup x with
 | none=>rw [hl] at hf;cases hf
 | some k =>
  rw [hl] at hf
  cases k with
  | «local» =>
   refine aC hf λv hv hf=>?_
   refine bg (L x v hv) λu hm hV=>?_
   exact hU F hm (hQ.ok hf R s.heap s.toks u (.refl B.I) hV) hl hd'
  | globalImplicit =>
   refine aC hf λa ha hf=>?_
   exact wm F B.G B.I.base (hQ.ok hf R s.heap s.toks _ (.refl B.I) (.addr a)) (tY x a ha) hl hd'
  | _=>cases hf
theorem yU {c:Const}{k:Nat}:kH (n+1) sc (.Constant c k pos) (exE I sc (.Constant c k pos)):=by
 intro w aa A env m s R lo st r st' Q E B F L hf hQ
 cases c with
 | none=>exact wpAny_Constant_none (hQ.ok hf R s.heap s.toks _ (.refl B.I) .none)
 | bool=>exact iO (hQ.ok hf R s.heap s.toks _ (.refl B.I) (.bool _))
 | int=>exact bD (hQ.ok hf R s.heap (s.toks+1) _ (.refl B.I) (.int _ _))
 | str=>exact wpAny_Constant_str (hQ.ok hf R s.heap (s.toks+1) _ (.refl B.I) (.str _ _))
 | _=>cases hf
theorem Bc {x:Int}{n:Nat}(h:x.natAbs < n):-(n:Int) < x/\x < n:=⟨Int.neg_lt_of_neg_lt (Int.lt_of_le_of_lt (Int.natAbs_neg x▸Int.le_natAbs (a:=-x)) (Int.ofNat_lt.mpr h)),Int.lt_of_le_of_lt Int.le_natAbs (Int.ofNat_lt.mpr h)⟩
theorem G7 {op:mZ}{a b c:Mv}{u v:Value}(h:bin op a b=some c)(hu:V R s.heap a u)(hv:V R s.heap b v)(q:∀ t' r,V R s.heap c r->Q r { s with toks:=t' }):wpAny (Md w) A (binaryOp op u v) Q E s:=by
 refine aC h λx hx h=>aC h λy hy h=>?_
 cases dO hx
 cases dO hy
 refine bg (jd.mp h) λz hz y12=>?_;subst y12
 cases hu
 cases hv
 have q:=λt' t=>q t' (.int z t) (.int z t)
 cases op with
 | Add=>cases hz;exact add_int (q _ _)
 | Sub=>cases hz;exact sub_int (q _ _)
 | Mult=>exact ba hz λhb hz=>by cases hz;exact mul_int (q _ _) (.of_left (intBits_le_64 (Bc (of_decide_eq_true hb)).1 (Bc (of_decide_eq_true hb)).2))
 | FloorDiv =>
  refine ba hz λhb hz=>?_
  have hb:=of_decide_eq_true hb
  cases sj hz
  refine floordiv_int hb.1 (q _ _) (.inl (PyProof.noPylong_of_log2 ?_))
  have:=Nat.log2_lt (λe=>hb.1 (Int.natAbs_eq_zero.mp e)) |>.mpr hb.2
  exact bO this (by decide)
 | Mod=>exact ba hz λhb hz=>by cases hz;exact mod_int' (of_decide_eq_true hb) (q _ _)
 | BitAnd=>cases hz;exact and_int (q _ _)
 | _=>cases hz
end
section
variable {n:Nat}{I:ja}{w:World}{env:Env}{s:ae}{R:aD}{lo:Lo}{st bA:St}{a b:Mv}{u v:Value}
theorem tO:∀ k∈eM,∀ P,∃ o,(K P).lookup k=some o/\o.cls≠.type "tuple":=by
 have key:∀ P,(eM.all λk=>((K P).lookup k).any λo=>!(o.cls == .type "tuple"))=true:=λP=>by lk
 intro k hk P
 have:=bj.mp (key P) k hk
 refine bg (any_some this) λo e c=>?_
 exact ⟨o,e,by simpa using c⟩
theorem nz {r:Bool}(h:zw a=some r)(hu:V R s.heap a u):plainIs u .none=true/\plainIs .none u=true/\(u == .none)=r/\(gL == u)=r:=by
 cases a with
 | none=>cases h;cases hu;exact ⟨rfl,rfl,rfl,rfl⟩
 | int=>cases h;cases hu;exact ⟨rfl,rfl,rfl,rfl⟩
 | pt=>cases h;cases hu;exact ⟨rfl,rfl,rfl,rfl⟩
 | isec=>cases h;cases hu;exact ⟨rfl,rfl,rfl,rfl⟩
 | _=>cases h
theorem wb {r:Bool}(B:Be w aa n A R st s)(h:sV a b=some r)(hu:V R s.heap a u)(hv:V R s.heap b v)(q:Q (.bool r) s):wpAny (Md w) A (dH .Is u v) Q E s:=by
 unfold sV at h
 cases nb:isNone b with
 | true =>
  rw [nb] at h
  cases ot nb
  subst hv
  have p:=(nz h hu).1;have e:=(nz h hu).2.2.1
  exact wpAny_is_plain p (by rw [e];exact q)
 | false =>
  rw [nb] at h
  cases na:isNone a with
  | true =>
   rw [na] at h
   cases ot na
   subst hu
   have p:=(nz h hv).2.1;have e:=(nz h hv).2.2.2
   exact wpAny_is_plain p (by rw [e];exact q)
  | false =>
   rw [na] at h
   cases ha:fZ a with
   | some x =>
    rw [ha] at h
    refine aC h λy hy g=>ba g λhk g'=>?_
    have hk:=of_decide_eq_true hk
    cases ir ha
    cases ir hy
    cases g';cases hu;cases hv
    by_cases e:x=y
    ·subst e;rw [beq_self_eq_true] at q;exact wpAny_is_ref_self q
    ·refine bg (tO _ hk.1 w.params) λox e1 c1=>?_
     refine bg (tO _ hk.2 w.params) λoy e2 _=>?_
     rw [beq_eq_false_iff_ne.mpr e] at q
     exact wpAny_is_ref_other e (B.X _ _ e1) (B.X _ _ e2) c1 q
   | none =>
    rw [ha] at h
    refine aC h λi hi g=>aC g λj hj g'=>ba g' λhk g2=>?_
    cases of_decide_eq_true hk
    cases fQ hi
    cases fQ hj
    cases sj g2
    cases hu with | mk e1=>cases hv with | mk e2 =>
    cases e1.symm.trans e2
    exact wpAny_is_ref_self q
theorem Ai {u v:Value}{r:Bool}(h:∀ Q:Value->ae->Prop,Q (.bool r) s->wpAny (Md w) A (dH .Is u v) Q E s)(q:Q (.bool (!r)) s):wpAny (Md w) A (dH .IsNot u v) Q E s:=by
 have k:=h (λx s'=>x=.bool r/\s'=s) ⟨rfl,rfl⟩
 have k':wpAny (Md w) A (isSame u v >>= λx=>pure (Value.bool x)) (λx s'=>x=.bool r/\s'=s) E s:=k
 show wpAny (Md w) A (isSame u v >>= λx=>pure (Value.bool (!x))) Q E s
 intro Γ p hΓ
 have k2:=k' Γ p hΓ
 rw [Sem.wp_bind'] at k2 ⊢
 refine Sem.wp_mono _ Γ _ (λx p' s' hx=>?_) (λ_ _ _ z=>z) _ _ k2
 rw [Sem.wp_pure'] at hx ⊢
 obtain ⟨e,rfl⟩:=hx
 cases e
 exact q
theorem pu.el {x y:Int}{G:Value->Prop}(i:pu h x y u)(k:∀ a dx t1 t2 sl n sl',h.get? a=some (kR dx x y t1 t2 sl)->h.get? dx=some ⟨.type "dict",ac,.dict #[] n,sl'⟩->G (.ref a)):G u:=by
 cases i with | mk e1 e2 =>
 obtain ⟨sl,e1⟩:=e1
 obtain ⟨sl',e2⟩:=e2
 exact k _ _ _ _ sl _ sl' e1 e2
theorem C8 {op:CmpOp}{r:Bool}{x y:Int}{t t':Tok}(h:cmpZ op x y=some r)(q:Q (.bool r) s):wpAny (Md w) A (dH op (.int x t) (.int y t')) Q E s:=by
 cases op with
 | Eq=>cases h;exact eq_int q
 | NotEq=>cases h;exact ne_int q
 | Lt=>cases h;exact lt_int q
 | LtE=>cases h;exact le_int q
 | Gt=>cases h;exact gt_int q
 | _=>cases h
theorem Dg {op:CmpOp}{r x y:Bool}(h:cmpB op x y=some r)(q:Q (.bool r) s):wpAny (Md w) A (dH op (.bool x) (.bool y)) Q E s:=by
 cases op with
 | Eq=>cases h;exact eq_bool q
 | NotEq=>cases h;exact ne_bool q
 | _=>cases h
theorem Df {op:CmpOp}{r:Bool}{x y:Pn}(X:(K w.params).In s.heap)(un:A.units < cLine)(h:cmpP op x y=some r)(hu:Pv R s.heap x u)(hv:Pv R s.heap y v)(q:Q (.bool r) s):wpAny (Md w) A (dH op u v) Q E s:=by
 refine ba h λet h=>?_
 have et:=eq_of_beq et
 refine pu.el (G:=λu=>wpAny (Md w) A (dH op u v) Q E s) hu λa dx t1 t2 sl n sl' e _=>?_
 refine pu.el (G:=λv=>wpAny (Md w) A (dH op (.ref a) v) Q E s) hv λa' dx' t1' t2' sl2 n' sl2' e' _=>?_
 cases op with
 | Eq=>cases h;exact ptEq w.params X un e e' (decide_eq_decide.mpr (Hp.eq et)▸q)
 | Lt=>cases h;exact ptLt w.params X un e e' (decide_eq_decide.mpr (Hp.lt et)▸q)
 | _=>cases h
theorem CG {op:CmpOp}(h:Gs op=true):op=.Eq:=by cases op with | Eq=>rfl | _=>cases h
theorem C9 {op:CmpOp}{r:Bool}(B:Be w aa n A R st s)(h:G2 op a b=some r)(hu:V R s.heap a u)(hv:V R s.heap b v)(q:Q (.bool r) s):wpAny (Md w) A (dH op u v) Q E s:=by
 have un:A.units < cLine:=av (au (aE _ _) (aE _ _)) B.O.units
 unfold G2 at h
 cases ha:eO a with
 | some x =>
  rw [ha] at h
  refine aC h λy hy g=>?_
  cases dO ha
  cases dO hy
  cases hu;cases hv
  exact C8 g q
 | none =>
  rw [ha] at h
  cases hb:kG a with
  | some x =>
   rw [hb] at h
   refine aC h λy hy g=>?_
   cases jo hb
   cases jo hy
   cases hu;cases hv
   exact Dg g q
  | none =>
   rw [hb] at h
   refine aC h λp hp g=>?_
   cases fw hp
   clear h ha hb
   cases nb:isNone b with
   | true =>
    rw [nb] at g
    cases ot nb
    subst hv
    refine ba (c:=Gs op) g λo g2=>?_
    cases sj g2
    cases CG o
    exact pu.el (G:=λu=>wpAny (Md w) A (dH .Eq u .none) Q E s) hu λa dx t1 t2 sl n sl' e _=>zo w.params B.X un e q
   | false =>
    rw [nb] at g
    refine aC g λp' hp' g2=>?_
    cases fw hp'
    exact Df B.X un g2 hu hv q
theorem G1 {op:CmpOp}{r:Bool}(B:Be w aa n A R st s)(h:cmp op a b=some r)(hu:V R s.heap a u)(hv:V R s.heap b v)(q:∀ t',Q (.bool r) { s with toks:=t' }):wpAny (Md w) A (dH op u v) Q E s:=by
 cases op with
 | Is=>exact wb B h hu hv (q s.toks)
 | IsNot =>
  refine bg (jd.mp h) λr' g y2=>?_;subst y2
  exact Ai (λQ' q'=>wb B g hu hv q') (q s.toks)
 | _=>exact C9 B h hu hv (q s.toks)
theorem findN {at_:List (Str×Value)}{name:Str}{v:Value}(h:at_.lookup name=some v):at_.find? (λp=>p.1 == name)=some (name,v):=by
 induction at_ with
 | nil=>simp at h
 | cons p r ih =>
  rw [dT] at h
  rw [List.find?_cons]
  by_cases e:name=p.1
  ·subst e;simp at h ⊢;subst h;rfl
  ·rw [beq_eq_false_iff_ne.mpr e] at h
   rw [beq_eq_false_iff_ne.mpr (cb e)]
   exact ih h
theorem ou {C:Addr}(hn:∀ P,∀ n∈names,dI (K P) (.ref C) n=some none)(hc:∀ P,ii P C)(B:Be w aa n A R st s){x:Addr}{at_:List (Str×Value)}(i:cL s.heap x C at_){name:Str}(hm:name∈names){v:Value}
  (hv:at_.lookup name=some v) (hh:lJ v=true) {expr:Bool}(q:∀ t',Q v { s with toks:=t' }):wpAny (Md w) A (hM (.ref x) name expr) Q E s:=
 tU (P:=w.params) B.X (hc _) i (hn _ _ hm) (findN hv) hh (q _)
theorem rd252 (P:aM):readsIn (K P) 252 (.type "type")=true:=by lk
theorem rd287 (P:aM):readsIn (K P) 287 (.type "type")=true:=by lk
def Hi (R:aD)(h:Heap)(at_:List (Str×Value))(T:List (Str×Mv)):Prop:=∀ x r,T.lookup x=some r->∃ v,at_.lookup x=some v/\lJ v=true/\V R h r v
theorem Hi.nil {at_:List (Str×Value)}:Hi R h at_ []:=nofun
theorem Hi.cons {at_:List (Str×Value)}{y:Str}{r:Mv}{v:Value}{T:List (Str×Mv)}(e:at_.lookup y=some v)(hh:lJ v=true)(hv:V R h r v)(t:Hi R h at_ T):Hi R h at_ ((y,r) :: T):=by
 intro x z hz
 rw [dT] at hz
 cases q:x == y with
 | true=>rw [q] at hz;cases hz;cases eq_of_beq q;exact ⟨v,e,hh,hv⟩
 | false=>rw [q] at hz;exact t x z hz
theorem fj {α:Type}{T:List (Str×α)}{x:Str}{r:α}(h:T.lookup x=some r):(x,r)∈T:=by
 induction T with
 | nil=>cases h
 | cons p t ih =>
  rw [dT] at h
  cases q:x == p.1 with
  | true=>rw [q] at h;cases h;cases eq_of_beq q;exact .head _
  | false=>rw [q] at h;exact .tail _ (ih h)
theorem jZ {C:Addr}{T:List (Str×Mv)}{x:Addr}{at_:List (Str×Value)}(B:Be w aa n A R st s)(i:cL s.heap x C at_)(hn:∀ P,∀ n∈T.map (·.1),dI (K P) (.ref C) n=some none)(hc:∀ P,ii P C)(t:Hi R s.heap at_ T){name:Str}{r:Mv}(h:T.lookup name=some r) 
  (q:∀ v,V R s.heap r v->∀ t',Q v { s with toks:=t' }):wpAny (Md w) A (hM (.ref x) name expr) Q E s:=by
 refine dJ (t name r h) λv e hh hv=>?_
 exact ou hn hc B i (gj.mpr ⟨(name,r),fj h,rfl⟩) e hh (q v hv)
def G3 (P:aM)(C:Addr)(T:List (Str×Mv)):Prop:=∀ p∈T,∃ b,p.2=.addr b/\findCls (K P) (.ref C) (.type "type") p.1=some (.val (.ref b))
theorem G5 (P:aM):G3 P 252 Hk:=by
 refine aY.mpr ⟨⟨_,rfl,?_⟩,aY.mpr ⟨⟨_,rfl,?_⟩,aY.mpr ⟨⟨_,rfl,?_⟩,nofun⟩⟩⟩<;>lk
theorem G4 (P:aM):G3 P 287 Hj:=by
 refine aY.mpr ⟨⟨_,rfl,?_⟩,aY.mpr ⟨⟨_,rfl,?_⟩,aY.mpr ⟨⟨_,rfl,?_⟩,aY.mpr ⟨⟨_,rfl,?_⟩,aY.mpr ⟨⟨_,rfl,?_⟩,aY.mpr ⟨⟨_,rfl,?_⟩,aY.mpr ⟨⟨_,rfl,?_⟩,nofun⟩⟩⟩⟩⟩⟩⟩<;>lk
theorem wH {C:Addr}{T:List (Str×Mv)}(B:Be w aa n A R st s)(rd:readsIn (K w.params) C (.type "type")=true)(c:G3 w.params C T){name:Str}{r:Mv}(h:T.lookup name=some r) 
  (q:∀ v,V R s.heap r v->∀ t',Q v { s with toks:=t' }):wpAny (Md w) A (hM (.ref C) name expr) Q E s:=by
 refine bg (c _ (fj h)) λb e f=>?_
 subst e
 exact cls_value B.X rd f rfl (q _ (.addr _) _)
theorem n329 (P:aM):∀ n∈(["vertices"]:List Str),dI (K P) (.ref 329) n=some none:=aY.mpr ⟨by lk,nofun⟩
theorem zb (B:Be w aa n A R st s)(r:Rt)(l:R.live=true){x:Str}{z:Mv}(h:(pL r).lookup x=some z) :
  ∃ C at_,cL s.heap (R.at_ r) C at_/\(∀ P,∀ n∈(pL r).map (·.1),dI (K P) (.ref C) n=some none)/\(∀ P,ii P C)/\Hi R s.heap at_ (pL r):=by
 cases r with
 | reg =>
  refine xG ((B.I.still l).reg) λa0 a1 a2 a3 c0 c1 c2 c3 i=>?_
  exact ⟨_,_,i,Ga,ux,.cons rfl rfl (.root _ l) <| .cons rfl rfl (.root _ l) <| .cons rfl rfl (.bool _) <| .cons rfl rfl (.list c1) <| .cons rfl rfl (.list c0) <| .cons rfl rfl (.list c2) <| .cons rfl rfl (.list c3) <| .cons rfl rfl (.root _ l) <| .cons rfl rfl (.root _ l) .nil⟩
 | qu =>
  refine bg ((B.I.still l).qu) λa4 c4 i=>?_
  exact ⟨_,_,i,n411,EK,.cons rfl rfl (.root _ l) <| .cons rfl rfl (.list c4) .nil⟩
 | ks =>
  refine bg ((B.I.still l).ks) λa5 c5 i=>?_
  exact ⟨_,_,i,n488,EJ,.cons rfl rfl (.root _ l) <| .cons rfl rfl (.list c5) .nil⟩
 | _=>cases h
theorem V.ref_pt {x y:Int}(i:pu h x y u):lJ u=true:=by cases i;rfl
theorem rZ {x:Str}{r:Mv}(B:Be w aa n A R st s)(h:G9 a x=some r)(hu:V R s.heap a u)(q:∀ R' h' t' v,Nx aa R s.heap R' st h'->V R' h' r v->Q v (up s h' t')):wpAny (Md w) A (hM u x expr) Q E s:=by
 have q0:∀ v,V R s.heap r v->∀ t',Q v { s with toks:=t' }:=λv hv t'=>q R s.heap t' v (.refl B.I) hv
 have dep:A.depth < aA:=by have:=B.O.depth;exact av (aE _ _) ‹_›
 cases a with
 | pt p =>
  obtain ⟨b,px,py⟩:=p
  cases b with
  | true=>cases h
  | false =>
  refine pu.el (G:=λu=>wpAny (Md w) A (hM u x expr) Q E s) hu λb dx t1 t2 sl n sl' e1 e2=>?_
  have go:∀ h' t',(Sb s.heap h')->∀ (i:Int) (t:Tok),r=.int i->Q (.int i t) (up s h' t'):=λh' t' k i t e=>by
   subst e
   refine q R h' t' _ ⟨.refl _ _,?_,.ext k⟩ (.int i t)
   exact ⟨λb o e=>k b o (B.I.base b o e),B.I.off,B.I.still0,⟨B.I.hs.nodup,B.I.hs.all.imp λa l ⟨vs,n,e,x⟩=>⟨vs,n,k _ _ e,x.imp λ_ _ y=>y.keep (.ext k) B.I.cl (.refl s.heap R)⟩⟩⟩
  have hm:=fj h
  rcases aq.mp hm with e | hm
  ·cases e;exact zk (i:=0) (.inl ⟨rfl,rfl⟩) B.G B.I.base dep e1 e2 λh' t' k=>go h' t' k _ _ rfl
  ·cases ah.mp hm;exact zk (i:=1) (.inr ⟨rfl,rfl⟩) B.G B.I.base dep e1 e2 λh' t' k=>go h' t' k _ _ rfl
 | qk e=>cases hu with | mk c0 c1 i=>exact jZ (T:=T94 e) B i n94 ck94 (.cons rfl rfl (.int _ _) <| .cons rfl rfl (.list c0) <| .cons rfl rfl (.list c1) .nil) h q0
 | sk e=>cases hu with | mk l c0 c1 i=>exact jZ (T:=Bf e) B i n540 EI (.cons rfl rfl (.int _ _) <| .cons rfl rfl (.list c0) <| .cons rfl rfl (.list c1) <| .cons rfl rfl (.root _ l) .nil) h q0
 | root r =>
  cases hu with | mk l =>
  refine C1 (zb B r l h) λC at_ i hn hc t=>?_
  exact jZ (T:=pL r) B i hn hc t h q0
 | seg p q=>cases hu with | mk i v1 v2=>exact jZ (T:=T308 p q) B i n308 ck308 (.cons rfl (V.ref_pt v1) v1 <| .cons rfl (V.ref_pt v2) v2 .nil) h q0
 | isec i' j rr p q=>cases hu with | mk i v1 v2=>exact jZ (T:=T822 i' j rr p q) B i n822 AU (.cons rfl (V.ref_pt v2) v2 <| .cons rfl rfl (.int _ _) <| .cons rfl rfl (.addr _) <| .cons rfl rfl (.int _ _) <| .cons rfl (V.ref_pt v1) v1 .nil) h q0
 | contour k=>cases hu with | mk c i=>exact jZ (T:=[("vertices",.list k)]) B i n329 EL (.cons rfl rfl (.list c) .nil) h q0
 | addr a =>
  subst hu
  have h:(bif a == 252 then Hk else bif a == 287 then Hj else []).lookup x=some r:=h
  cases e1:a == 252 with
  | true=>rw [e1] at h;cases eq_of_beq e1;exact wH B (rd252 _) (G5 _) h q0
  | false =>
   rw [e1] at h
   cases e2:a == 287 with
   | true=>rw [e2] at h;cases eq_of_beq e2;exact wH B (rd287 _) (G4 _) h q0
   | false=>rw [e2] at h;cases h
 | _=>cases h
end
theorem bz.of_get {α β:Type}{P:α->β->Prop}{l:List α}{m:List β}(e:l.length=m.length)(h:∀ (i:Nat) (a:α) (b:β),l[i]? = some a->m[i]? = some b->P a b):bz P l m:=by
 induction l generalizing m with
 | nil=>cases m with
  | nil=>exact .nil
  | cons=>cases e
 | cons a l ih=>cases m with
  | nil=>cases e
  | cons b m=>exact .cons (h 0 a b rfl rfl) (ih (Nat.succ.inj e) λi x y hx hy=>h (i+1) x y hx hy)
theorem bz.get2 {α β:Type}{P:α->β->Prop}{l:List α}{m:List β}(x:bz P l m){i:Nat}{a:α}{b:β}(e:l[i]? = some a)(e':m[i]? = some b):P a b:=by
 refine bg (x.get e) λb' e2 p=>?_
 rw [e'] at e2;cases e2;exact p
theorem bz.getR {α β:Type}{P:α->β->Prop}{l:List α}{m:List β}(x:bz P l m){i:Nat}{b:β}(e:m[i]? = some b):∃ a,l[i]? = some a/\P a b:=by
 have hi:i < l.length:=by rw [x.length];exact (bu.mp e).1
 exact ⟨l[i],bh hi,x.get2 (bh hi) e⟩
section
variable {n:Nat}{I:ja}{w:World}{env:Env}{s:ae}{R:aD}{lo:Lo}{st bA:St}{a b:Mv}{u v:Value}
theorem nQ.cell {i:Nat}{c:Addr}{l:List Mv}(x:nQ aa R st h)(hc:R.cells[i]? = some c)(hl:st[i]? = some l):nP R h c l:=x.hs.all.get2 hc hl
theorem nQ.put {i:Nat}{c:Addr}{l':List Mv}{vs ws:List Value}{k:Nat}{f:Array Value->Array Value}(x:nQ aa R st h)(hc:R.cells[i]? = some c)(hl:IsL h c vs.toArray k)(hf:f vs.toArray=ws.toArray)
  (hw:bz (V R h) l' ws):Nx aa R h R (st.set i l') (h.update c (Obj.mapSeq f)):=by
 have other:∀ b,b≠c->(h.update c (Obj.mapSeq f)).get? b=h.get? b:=λb hb=>gN _ _ (cb hb)
 have cm:c∈R.cells:=fK hc
 have kp:dQ R.cells h (h.update c (Obj.mapSeq f)):=λb o hb e _=>⟨o.slots,(other b λq=>hb (q▸cm)).trans e⟩
 refine ⟨.refl _ _,⟨λb o e=>?_,x.off,x.still0,⟨x.hs.nodup,.of_get (by rw [List.length_set];exact x.hs.all.length) λj a l2 ea el=>?_⟩⟩,kp⟩
 ·exact (other b λq=>by rw [q,x.off c cm] at e;cases e).trans (x.base b o e)
 ·by_cases hj:j=i
  ·subst hj
   rw [hc] at ea;cases ea
   have hlt:j < st.length:=by rw [<- x.hs.all.length];exact (bu.mp hc).1
   rw [List.getElem?_set_self hlt] at el;cases el
   refine ⟨ws,_,hf▸hl.update f,hw.imp λ_ _ y=>y.keep kp x.cl (.refl h R)⟩
  ·rw [List.getElem?_set_ne (cb hj)] at el
   refine cB (x.cell ea el) λvs' k' e' y=>?_
   have hne:c≠a:=λq=>hj (by
    subst q
    exact (List.getElem?_inj (bu.mp ea).1 x.hs.nodup).mp (ea.trans hc.symm))
   exact ⟨vs',k',IsL.update_other e' hne _,y.imp λ_ _ z=>z.keep kp x.cl (.refl h R)⟩
theorem eQ {c:Addr}{vs:List Value}{k:Nat}(hl:IsL h c vs.toArray k):h.IsList c vs.toArray:=⟨_,hl,rfl,k,rfl⟩
end
section
variable {n:Nat}{I:ja}{w:World}{env:Env}{s:ae}{R:aD}{lo:Lo}{st bA:St}{a b:Mv}{u v:Value}
theorem kz {i n:Nat}(h:i < n):idxOf (i:Int) n=some i:=by
 show (bif Nat.blt i n then some i else ac)=_
 rw [show Nat.blt i n=true from Nat.ble_eq_true_of_le h];rfl
theorem An {i n:Nat}(h:i < n):idxOf ((i:Int) - 1) n=some (if i=0 then n - 1 else i - 1):=by
 cases i with
 | zero =>
  show (bif Nat.blt 0 n then some (n - 1) else ac)=_
  rw [show Nat.blt 0 n=true from Nat.ble_eq_true_of_le h];rfl
 | succ j =>
  rw [show ((j+1:Nat):Int) - 1=(j:Int) from Int.add_sub_cancel (j:Int) 1]
  exact (kz (Nat.lt_of_succ_lt h)).trans rfl
theorem iE {c:Addr}{vs:List Value}{k:Nat}{x:Value}{i:Int}{t:Tok}(hl:IsL s.heap c vs.toArray k)(hj:idxOf i vs.length=some j)(hz:vs.length<=1000000)(hx:vs[j]? = some x)(q:Q x s):wpAny (Md w) A (getItem (.ref c) (.int i t)) Q E s:=by
 have hx':vs.toArray[j]? = some x:=ey.trans hx
 have f1:(vs.length:Int) < 2 ^ 63:=Int.lt_of_le_of_lt (Int.ofNat_le.mpr hz) (by decide)
 cases i with
 | ofNat i =>
  refine eK (c:=Nat.blt i vs.length) hj (λhb e=>?_) λ_ e=>ns e
  have lt:i < vs.length:=bK hb
  exact wpAny_getItem_list (eQ hl) (Int.natCast_nonneg i) (Int.lt_trans (Int.ofNat_lt.mpr lt) f1) (by rw [<- sj e] at hx';exact hx') q
 | negSucc i =>
  refine eK (c:=Nat.blt i vs.length) hj (λhb e=>?_) λ_ e=>ns e
  have lt:i < vs.length:=bK hb
  have e1:Int.negSucc i+((vs.toArray.size:Nat):Int)=((vs.length - (i+1):Nat):Int):=by rw [List.size_toArray,Int.negSucc_eq,Int.ofNat_sub lt,Int.add_comm];rfl
  have n:-((vs.length:Nat):Int)<=Int.negSucc i:=Int.neg_le_neg (Int.ofNat_le.mpr lt)
  exact wpAny_getItem_list_neg (eQ hl) (Int.negSucc_lt_zero i) n (Int.le_trans (Int.neg_le_neg (Int.le_of_lt f1)) n) (by rw [e1,Int.toNat_natCast,sj e];exact hx') q
theorem Fk {r:Mv}{value slice:Expr}(B:Be w aa n A R st s)(h:sub a b st=some r)(hu:V R s.heap a u)(hv:V R s.heap b v)(hs:subscripted slice false u v=operate [u,v] (getItem u v))(q:∀ x,V R s.heap r x->Q x s):wpAny (Md w) A (subscriptTail value slice u v) Q E s:=by
 refine aC h λk hk h1=>?_
 cases dO hk
 cases hv with | mk t =>
 cases ha:gZ a with
 | some i =>
  rw [ha] at h1
  refine aC h1 λl hl h2=>ba h2 λhz h3=>aC h3 λj hj h4=>?_
  have hz:=of_decide_eq_true hz
  cases fQ ha
  cases hu with | mk hc =>
  refine cB (B.I.cell hc hl) λvs k' e al=>?_
  refine bg (al.get h4) λx hx hvx=>?_
  exact jj (eQ e).typeIs slot_list_getitem.lookup (iE e (al.length▸hj) (al.length▸hz) hx (q x hvx)) hs
 | none =>
  rw [ha] at h1
  refine aC h1 λp hp h2=>?_
  cases oI hp
  cases hu with | mk o p1 p2 =>
  obtain ⟨sl,o⟩:=o
  have ht:IsTup s.heap _ #[_,_]:=⟨_,o,rfl,0,rfl⟩
  split at h2
  ·cases h2;exact jj ht.typeIs slot_tuple_getitem.lookup (PyProof.Rows.getItem_tuple ht (by decide) (by decide) (j:=0) (by rfl) rfl (q _ p1)) hs
  ·cases h2;exact jj ht.typeIs slot_tuple_getitem.lookup (PyProof.Rows.getItem_tuple ht (by decide) (by decide) (j:=1) (by rfl) rfl (q _ p2)) hs
  ·cases h2
end
section
variable {n:Nat}{I:ja}{w:World}{env:Env}{s:ae}{R:aD}{lo:Lo}{st bA:St}{a b:Mv}{u v:Value}
theorem jc:∀ {l:List Mv}{ns:List Int},mf l=some ns->l=ns.map Mv.int
 | [],ns,h=>by cases h;rfl
 | a :: l,ns,h=>by
  have h:((eO a).bind λi=>(mf l).bind λks=>some (i :: ks))=some ns:=h
  refine aC h λi hi h1=>aC h1 λks hk h2=>?_
  cases h2
  cases dO hi
  exact congrArg (Mv.int i :: ·) (jc hk)
theorem wv {l:List Int}{vs:List Value}(x:bz (V R h) (l.map Mv.int) vs):IntsAre vs l:=by
 induction l generalizing vs with
 | nil=>cases x;exact .nil
 | cons i l ih=>cases x with | cons p q=>cases p with | mk t=>exact .cons i t (ih q)
theorem IntsAre.get {vs:List Value}{ns:List Int}(h:IntsAre vs ns):∀ {j:Nat}{x:Value},vs[j]? = some x->∃ i t,ns[j]? = some i/\x=.int i t:=by
 induction h with
 | nil=>intro j x e;trivial
 | cons i t r ih =>
  intro j x e
  cases j with
  | zero=>simp at e;exact ⟨i,t,rfl,e.symm⟩
  | succ j=>simpa using ih (by simpa using e)
noncomputable def vA (k:Int):Value->Bool
 | .int i _=>i == k
 | _=>false
theorem bz.append {α β:Type}{P:α->β->Prop}{l l':List α}{m m':List β}(x:bz P l m)(y:bz P l' m'):bz P (l++l') (m++m'):=by
 induction x with
 | nil=>exact y
 | cons p _ ih=>exact .cons p ih
theorem bz.take {α β:Type}{P:α->β->Prop}{l:List α}{m:List β}(x:bz P l m):∀ k,bz P (l.take k) (m.take k):=by
 induction x with
 | nil=>intro k;simp;exact .nil
 | cons p _ ih=>intro k;cases k with
  | zero=>exact .nil
  | succ k=>exact .cons p (ih k)
theorem bz.drop {α β:Type}{P:α->β->Prop}{l:List α}{m:List β}(x:bz P l m):∀ k,bz P (l.drop k) (m.drop k):=by
 induction x with
 | nil=>intro k;simp;exact .nil
 | cons p q ih=>intro k;cases k with
  | zero=>exact .cons p q
  | succ k=>exact ih k
theorem bz.erase {α β:Type}{P:α->β->Prop}{l:List α}{m:List β}(x:bz P l m):∀ k,bz P (l.eraseIdx k) (m.eraseIdx k):=by
 induction x with
 | nil=>intro k;simp;exact .nil
 | cons p q ih=>intro k;cases k with
  | zero=>exact q
  | succ k=>exact .cons p (ih k)
theorem bz.set {α β:Type}{P:α->β->Prop}{l:List α}{m:List β}(x:bz P l m){a:α}{b:β}(h:P a b):∀ k,bz P (l.set k a) (m.set k b):=by
 induction x with
 | nil=>intro k;simp;exact .nil
 | cons p q ih=>intro k;cases k with
  | zero=>exact .cons h q
  | succ k=>exact .cons p (ih k)
def lQ (w:World)(A:aw)(s:ae)(Q E:Value->ae->Prop)(x:Str)(c:Addr)(us:List Value):Prop:=∃ id,Slot "list" x id/\gl (.builtin id)=pure (.type "method_descriptor")/\wpAny (Md w) A (call (.builtin id) (.ref c :: us)) Q E s
def ER (aa:Heap)(R:aD)(s:ae)(Q:Value->ae->Prop)(r:Mv)(st':St):Prop:=∀ h' t' v,Nx aa R s.heap R st' h'->V R h' r v->Q v (up s h' t')
theorem ER.of {p p':Mv×St}(h:some p'=some p)(q:ER aa R s Q p.1 p.2):ER aa R s Q p'.1 p'.2:=sj h▸q
section
variable {i:Nat}{c:Addr}{l:List Mv}{ws:List Value}{k:Nat}{r:Mv}
theorem tV {j:Int}{m:Nat}(h0:0<=j)(h:j.toNat<=m)(hm:m<=1000000):ni j=true:=
 bP.mpr ⟨decide_eq_true (Int.le_trans (by decide) h0),decide_eq_true (Int.lt_of_le_of_lt (Int.toNat_le.mp (au h hm)) (by decide))⟩
theorem xn {v:Value}(B:Be w aa n A R st s)(hc:R.cells[i]? = some c)(e:IsL s.heap c ws.toArray k)(al:bz (V R s.heap) l ws)(hz:l.length<=1000000)(hv:V R s.heap a v)
  (q:ER aa R s Q .none (pI st i (l++[a]))):lQ w A s Q E "append" c [v]:=by
 have hsz:ws.toArray.size<=sizeLine:=show ws.length<=2 ^ 24 from au (Nat.le_of_eq al.length.symm) (au hz (by decide))
 exact ⟨_,F.slot_list_append,F.type_list_append,call_meets F.slot_list_append (eQ e).typeIs F.entry_list_append (F.args_list_append_2 _ _) (list_append c ws.toArray k _ hsz) ⟨e,q _ _ _ (B.I.put hc e (ws:=ws++[_]) (by simp) (al.append (.cons hv .nil))) .none⟩⟩
theorem Go {j:Int}{t:Tok}{y:Mv}(B:Be w aa n A R st s)(hc:R.cells[i]? = some c)(e:IsL s.heap c ws.toArray k)(al:bz (V R s.heap) l ws)(hz:l.length<=1000000)(h0:0<=j)(hy:l[j.toNat]? = some y)
  (q:ER aa R s Q y (pI st i (l.eraseIdx j.toNat))):lQ w A s Q E "pop" c [.int j t]:=by
 have hsz:ws.toArray.size<=sizeLine:=show ws.length<=2 ^ 24 from au (Nat.le_of_eq al.length.symm) (au hz (by decide))
 refine bg (al.get hy) λyv hyv hV=>?_
 have hlt:j.toNat < ws.length:=(bu.mp hyv).1
 have rT:ni j=true:=tV h0 (Nat.le_of_lt hlt) (al.length▸hz)
 have idx:seqIndex? j ws.toArray.size=some j.toNat:=by
  unfold seqIndex?
  have:¬ j < 0:=by exact Int.not_lt.mpr ‹_›
  simp only [this,if_false]
  exact if_pos (bP.mpr ⟨decide_eq_true h0,decide_eq_true ((Int.toNat_lt h0).mp hlt)⟩)
 have nx:=B.I.put hc e (f:=λxs=>xs.eraseIdxIfInBounds j.toNat) (ws:=ws.eraseIdx j.toNat) (by simp [Array.eraseIdxIfInBounds,hlt]) (al.erase j.toNat)
 exact ⟨_,F.slot_list_pop,F.type_list_pop,call_meets F.slot_list_pop (eQ e).typeIs F.entry_list_pop (F.args_list_pop_2 _ _) (MeetsSeq.list_pop_at c ws.toArray k j t j.toNat yv rT idx (by simpa using hyv) hsz) ⟨e,q _ _ _ nx (hV.nx nx B.I)⟩⟩
theorem zU {j:Int}{t:Tok}{ns:List Int}(B:Be w aa n A R st s)(e:IsL s.heap c ws.toArray k)(al:bz (V R s.heap) l ws)(hz:l.length<=1000000)(hns:mf l=some ns)(hj:j∈ns)
  (q:ER aa R s Q (.int (ns.idxOf j)) st):lQ w A s Q E "index" c [.int j t]:=by
 have hlen:=al.length
 cases jc hns
 have IA:=wv al
 have hlt:ns.idxOf j < ns.length:=List.idxOf_lt_length_of_mem hj
 have hwl:ws.length=ns.length:=by rw [<- hlen,bW]
 rw [bW] at hz
 refine ⟨_,F.slot_list_index,F.type_list_index,call_meets F.slot_list_index (eQ e).typeIs F.entry_list_index (F.args_list_index_2 _ _) (MeetsSeq.list_index c ws.toArray k _ (vA j) ?_ (ns.idxOf j) (show ns.idxOf j < ws.length from hwl▸hlt) (Int.lt_of_lt_of_le (Int.ofNat_lt.mpr (bO hlt hz)) (by decide)) ?_ ?_) ⟨e,q s.heap _ _ (.refl B.I) (.int _ _)⟩⟩
 ·intro y hy
  obtain ⟨p,hp⟩:=List.getElem?_of_mem (by simpa using hy:y∈ws)
  refine cB (IntsAre.get IA hp) λi' t' _ y25=>?_;subst y25
  exact MeetsSeq.EqGives.int i' j t' t
 ·refine cB (IntsAre.get IA (bh (show ns.idxOf j < ws.length from hwl▸hlt))) λi' t' hi hy=>?_
  rw [bh hlt,List.getElem_idxOf hlt] at hi
  cases hi
  simp only [List.getElem_toArray,hy,vA,beq_self_eq_true]
 ·intro p hp hlt'
  refine cB (IntsAre.get IA (bh (by simpa using hp:p < ws.length))) λi' t' hi hy=>?_
  have hpn:p < ns.length:=hwl▸(by simpa using hp)
  rw [bh hpn] at hi
  have hne:=List.not_of_lt_findIdx (p:=(· == j)) (xs:=ns) (i:=p) (by simpa [List.idxOf] using hlt')
  simp only [List.getElem_toArray,hy,vA]
  cases hi
  simpa using hne
theorem xm {j:Int}{t:Tok}{v:Value}(B:Be w aa n A R st s)(hc:R.cells[i]? = some c)(e:IsL s.heap c ws.toArray k)(al:bz (V R s.heap) l ws)(hz:l.length<=1000000)(hj:0<=j/\j.toNat<=l.length)(hv:V R s.heap a v)
  (q:ER aa R s Q .none (pI st i (l.take j.toNat++a :: l.drop j.toNat))):lQ w A s Q E "insert" c [.int j t,v]:=by
 have hlen:=al.length
 have hsz:ws.toArray.size<=sizeLine:=show ws.length<=2 ^ 24 from au (Nat.le_of_eq hlen.symm) (au hz (by decide))
 have rT:ni j=true:=tV hj.1 hj.2 hz
 refine ⟨_,F.slot_list_insert,F.type_list_insert,call_meets F.slot_list_insert (eQ e).typeIs F.entry_list_insert (F.args_list_insert_3 _ _ _) (AutoSeq1.list_insert_list_int_val_1 c ws.toArray k j t _ (by rw [rT];decide) hsz) ⟨e,?_⟩⟩
 refine q _ _ _ (B.I.put hc e (ws:=ws.take j.toNat++_ :: ws.drop j.toNat) ?_ ((al.take _).append (.cons hv (al.drop _)))) .none
 have h0:¬ j < 0:=Int.not_lt.mpr hj.1
 simp only [h0,if_false]
 have:min j.toNat ws.length=j.toNat:=Nat.min_eq_left (hlen▸hj.2)
 apply Array.toList_inj.mp
 simp [this]
 exact List.take_of_length_le (by simp)
theorem ow {G:Prop}{c:Prop}[Decidable c]{β:Type}{x z:Option β}{y:β}(h:(if c then x else z)=some y)(k:c->x=some y->G)(k':¬ c->z=some y->G):G:=by
 by_cases e:c
 ·rw [if_pos e] at h;exact k e h
 ·rw [if_neg e] at h;exact k' e h
theorem lm_ok {x:Str}{vs:List Mv}{p:Mv×St}(B:Be w aa n A R st s)(hc:R.cells[i]? = some c)(hl:st[i]? = some l)(h:lm i l st x vs=some p)(hv:bz (V R s.heap) vs us)(q:ER aa R s Q p.1 p.2):lQ w A s Q E x c us:=by
 refine cB (B.I.cell hc hl) λws k e al=>?_
 refine ba h λhz h1=>?_
 have hz:=of_decide_eq_true hz
 cases vs with
 | nil=>exact ns h1
 | cons a vs=>cases vs with
  | nil =>
   refine hv.un (G:=lQ w A s Q E x c) λu us hu hv=>hv.no (G:=λus=>lQ w A s Q E x c (u :: us)) ?_
   refine ow h1 (λhx h2=>?_) λ_ h2=>ow h2 (λhx h3=>?_) λ_ h3=>ow h3 (λhx h4=>?_) λ_=>ns
   ·exact hx▸xn B hc e al hz hu (q.of h2)
   ·exact hx▸aC h3 λj hj h4=>ba h4 λh0 h5=>aC h5 λy hy h6=>(hu.asI hj).el (P:=λu=>lQ w A s Q E "pop" c [u]) λt=>Go B hc e al hz (of_decide_eq_true h0) hy (q.of h6)
   ·exact hx▸aC h4 λj hj h5=>aC h5 λns hns h6=>ba h6 λh0 h7=>(hu.asI hj).el (P:=λu=>lQ w A s Q E "index" c [u]) λt=>zU B e al hz hns (of_decide_eq_true h0) (q.of h7)
  | cons b vs=>cases vs with
   | nil =>
    refine hv.el2 (G:=lQ w A s Q E x c) λu v hu hv=>ba h1 λhx h2=>aC h2 λj hj h3=>ba h3 λh0 h4=>?_
    exact of_decide_eq_true hx▸(hu.asI hj).el (P:=λu=>lQ w A s Q E "insert" c [u,v]) λt=>xm B hc e al hz (of_decide_eq_true h0) hv (q.of h4)
   | cons=>exact ns h1
end
end
section
variable {n:Nat}{I:ja}{w:World}{env:Env}{s:ae}{R:aD}{lo:Lo}{st bA:St}{a b:Mv}{u v:Value}
theorem dQ.nx (k:Sb h h')(i:nQ aa R st h):Nx aa R h R st h':=
 ⟨.refl _ _,⟨λb o e=>k b o (i.base b o e),i.off,i.still0,⟨i.hs.nodup,i.hs.all.imp λa l ⟨vs,n,e,x⟩=>⟨vs,n,k _ _ e,x.imp λ_ _ y=>y.keep (.ext k) i.cl (.refl h R)⟩⟩⟩,.ext k⟩
theorem sQ (S:cz n I){f:Addr}{vs:List Mv}{r:Mv}(hf:f∈rS)(B:Be w aa n A R st s)(hv:bz (V R s.heap) vs us)(h:FT (I.c f vs st)=some (r,st'))
  (k:∀ R1 h1 t1 u,Nx aa R s.heap R1 st' h1->V R1 h1 r u->Q u (up s h1 t1)):wpAny (Md w) A (call (.ref f) us) Q E s:=
 bw (S.c w aa A s R st f vs us (.ok r) st' Q E hf B hv (lB h) λR1 h1 t1 nx u hu=>k R1 h1 t1 u nx hu)
theorem A6 (k:Int){vs:List Value}{ns:List Int}(h:IntsAre vs ns):vs.any (vA k)=decide (k∈ns):=by
 induction h with
 | nil=>rfl
 | cons i t r ih =>
  rw [jO,ih]
  by_cases e:i=k
  ·subst e;simp [vA]
  ·have e':¬ k=i:=λq=>e q.symm
   simp [vA,e,e']
theorem V.bool_inv {r:Bool}(x:V R h (.bool r) u):u=.bool r:=x
theorem lt94 (P:aM):dI (K P) (.ref 94) "__lt__" = some (some (.ref 91)):=by lk
theorem lt540 (P:aM):dI (K P) (.ref 540) "__lt__" = some (some (.ref 537)):=by lk
theorem fn91 (P:aM):typeIn (K P) (.ref 91)=some (.type "function"):=by lk
theorem fn537 (P:aM):typeIn (K P) (.ref 537)=some (.type "function"):=by lk
noncomputable def kEv (a:Addr):Value->Bool
 | .ref y=>y == a
 | _=>false
noncomputable def vy (h:Heap)(x y:Int):Value->Bool
 | .ref b=>match h.get? b with
  | some o=>match o.data with
   | .seq vs _=>match vs[0]?,vs[1]? with
    | some (jA x' _),some (jA y' _)=>decide (x'=x/\y'=y)
    | _,_=>false
   | _=>false
  | ac=>false
 | _=>false
theorem CU {x y:Int}{b:Addr}{t3 t4:Tok}(e:h.get? b=some (kR dy x' y' t3 t4 sl')):vy h x y (.ref b)=decide (x'=x/\y'=y):=by
 rw [vy,e]
 rfl
theorem xR {ns:List Pn}{l:List Mv}{ws:List Value}(al:bz (V R h) l ws)(e:vI l=some ns):bz (Pv R h) ns ws:=by
 induction al generalizing ns with
 | nil=>cases e;exact .nil
 | cons p _ ih =>
  refine aC (f:=λx=>(vI _).bind λr=>some (x :: r)) e λq hq e1=>aC e1 λr hr e2=>?_
  cases sj e2
  cases fw hq
  exact .cons p (ih hr)
theorem Dv {q:Pn}{l:List Pn}(h:(l.all λp=>p.1 == q.1)=true):(l.any λp=>decide (H.x p=H.x q/\H.y p=H.y q))=l.any λp=>decide (p.2.1=q.2.1/\p.2.2=q.2.2):=by
 induction l with
 | nil=>rfl
 | cons p l ih=>exact bR h λe h=>by rw [jO,jO,ih h,decide_eq_decide.mpr (Hp.eq (eq_of_beq e))]
theorem FJ {a:Addr}{x y:Int}{t1 t2:Tok}(X:(K P).In s.heap)(hu:A.units < cLine)(ha:s.heap.get? a=some (kR dx x y t1 t2 sl)){x1 y1:Int}{v:Value}(h:pu s.heap x1 y1 v) :
  SeqAt.EqAt A s v (.ref a) (vy s.heap x y v)/\vy s.heap x y v=decide (x1=x/\y1=y):=
 pu.el (G:=λv=>SeqAt.EqAt A s v (.ref a) (vy s.heap x y v)/\vy s.heap x y v=decide (x1=x/\y1=y)) h λb dx' t3 t4 sl' _ _ e _=>by
  rw [CU e]
  exact ⟨FL P X hu e ha,rfl⟩
theorem bz.any {α β:Type}{P:α->β->Prop}{l:List α}{m:List β}(x:bz P l m){f:α->Bool}{g:β->Bool}(h:∀ a b,P a b->g b=f a):m.any g=l.any f:=by
 induction x with
 | nil=>rfl
 | cons p _ ih=>rw [jO,jO,ih,h _ _ p]
theorem bz.forR {α β:Type}{P:α->β->Prop}{l:List α}{m:List β}(x:bz P l m){g:β->Prop}(h:∀ a b,P a b->g b):∀ b∈m,g b:=by
 induction x with
 | nil=>exact nofun
 | cons p _ ih=>exact aY.mpr ⟨h _ _ p,ih⟩
set_option tactic.hygienic true in
theorem Gw {i:Nat}{l:List Mv}{r:Bool}(B:Be w aa n A R st s)(hl:st[i]? = some l)(h:inL a l=some r)(hu:V R s.heap a u)(hv:V R s.heap (.list i) v)(q:Q (.bool r) s):wpAny (Md w) A (dH .In u v) Q E s:=by
 cases hv with | mk hc =>
 rename_i c
 refine cB (B.I.cell hc hl) λws k' e al=>?_
 unfold inL at h
 cases ha:eO a with
 | some k =>
  rw [ha] at h
  refine aC h λns hns h1=>?_
  cases sj h1
  cases dO ha
  cases hu with | mk t =>
  cases jc hns
  have IA:=wv al
  have hT:s.TypeIs (.ref c) "list":=(eQ e).typeIs
  refine ag (wpAny_contains_slot hT F.slot_list_contains (call_meets F.slot_list_contains hT F.entry_list_contains (F.args_list_contains_2 _ _) (MeetsSeq.list_contains c ws.toArray k' _ (vA k) ?_) ⟨e,?_⟩))
  ·intro y hy
   obtain ⟨p,hp⟩:=List.getElem?_of_mem (by simpa using hy:y∈ws)
   refine cB (IntsAre.get IA hp) λi' t' _ y5=>?_;subst y5
   exact MeetsSeq.EqGives.int i' k t' t
  ·rw [List.any_toArray,A6 k IA]
   exact cH (aj q)
 | none =>
  rw [ha] at h
  refine aC h λp hp h1=>aC h1 λps hps h2=>ba h2 λht h2=>?_
  cases sj h2
  cases fw hp
  refine pu.el (G:=λu=>wpAny (Md w) A (dH .In u (.ref c)) Q E s) hu λa dx t1 t2 sl _ _ ea _=>?_
  have hu1:A.in1.units < cLine:=B.O.u1
  have each:=xR al hps
  have at_:=λ(q:Pn) v (h:Pv R s.heap q v)=>FJ (A:=A.in1) (P:=w.params) B.X hu1 ea h
  refine SeqAt.in_listAt (vy s.heap _ _) (eQ e) (λy hy=>each.forR (λp v h=>(at_ p v h).1) y (Array.mem_toArray.mp hy)) ?_
  rw [List.any_toArray,each.any λp v h=>(at_ p v h).2,Dv ht]
  exact q
theorem lt_ok {f:Addr}{r:Bool}{bA:St}{x:Mv}(S:cz n I)(B:Be w aa n A R st s)(hf:ltFn a b=some f)(h:FT (I.c f [a,b] st)=some (x,bA))(hx:x=.bool r)(he:bA=st')(hu:V R s.heap a u)(hv:V R s.heap b v)
  (q:∀ R1 h1 t1,Nx aa R s.heap R1 st' h1->Q (.bool r) (up s h1 t1)):wpAny (Md w) A (dH .Lt u v) Q E s:=by
 have un:A.units < cLine:=av (au (aE _ _) (aE _ _)) B.O.units
 subst hx he
 have go:f∈rS->wpAny (Md w) A (call (.ref f) [u,v]) (λv s'=>v≠.notImplemented/\Q v s') E s:=λm=>sQ S m B (.cons hu (.cons hv .nil)) h λR1 h1 t1 u nx hu=>by cases hu;exact ⟨nofun,q R1 h1 t1 nx⟩
 cases a with
 | qk =>
  cases b with
  | qk =>
   cases hf
   have go:=go (by decide)
   clear q h
   cases hu with | mk c0 c1 i=>cases hv with | mk c0' c1' i' =>
   refine cB i.at λox od I1 _=>?_
   refine cB i'.at λox' od' I2 _=>?_
   exact lV (op:=.Lt) (C:=94) (f:=.ref 91) un I1.type I2.type (cT B.X (lt94 _)) (bind_fn B.X _ (fn91 _)) go
  | _=>cases hf
 | sk =>
  cases b with
  | sk =>
   cases hf
   have go:=go (by decide)
   clear q h
   cases hu with | mk l c0 c1 i=>cases hv with | mk l' c0' c1' i' =>
   refine cB i.at λox od I1 _=>?_
   refine cB i'.at λox' od' I2 _=>?_
   exact lV (op:=.Lt) (C:=540) (f:=.ref 537) un I1.type I2.type (cT B.X (lt540 _)) (bind_fn B.X _ (fn537 _)) go
  | _=>cases hf
 | _=>cases hf
theorem zv {p:Mv×Mv}{x y z:Addr}(B:Be w aa n A R st s)(hk:x∈eM/\y∈eM/\z∈eM)(ha:fZ a=some x)(hp:lN b=some p)(h1:fZ p.1=some y)(h2:fZ p.2=some z)(hu:V R s.heap a u)(hv:V R s.heap b v)(q:Q (.bool (!(y == x || z == x))) s) :
  wpAny (Md w) A (dH .NotIn u v) Q E s:=by
 obtain ⟨p1,p2⟩:=p
 cases ir ha;cases oI hp;cases ir h1;cases ir h2
 subst hu
 cases hv with | mk o e1 e2 =>
 cases e1;cases e2
 obtain ⟨sl,o⟩:=o
 have hu2:A.in1.units < cLine:=B.O.u1
 refine SeqAt.notIn_tupleAt (kEv x) ⟨_,o,rfl,0,rfl⟩ (λw' hy=>?_) ?_
 ·rcases aq.mp (Array.mem_toArray.mp hy) with rfl | hy
  ·exact tP w.params B.X hu2 hk.2.1 hk.1
  ·cases ah.mp hy
   exact tP w.params B.X hu2 hk.2.2 hk.1
 ·have e:(#[df y,df z].any (kEv x))=(y == x || z == x):=by simp [kEv]
  rw [e]
  exact q
theorem pn {op:CmpOp}{r:Bool}(S:cz n I)(B:Be w aa n A R st s)(h:kD I op a b st=some (r,st'))(hu:V R s.heap a u)(hv:V R s.heap b v)(q:∀ R1 h1 t1,Nx aa R s.heap R1 st' h1->Q (.bool r) (up s h1 t1)) :
  wpAny (Md w) A (dH op u v) Q E s:=by
 unfold kD at h
 cases hc:cmp op a b with
 | some r' =>
  rw [hc] at h
  refine pj2 h λy8a y8b=>?_;subst y8a;subst y8b
  exact G1 B hc hu hv λt'=>q R s.heap t' (.refl B.I)
 | none =>
  rw [hc] at h
  clear hc
  cases op with
  | In =>
   refine aC h λi hi h1=>aC h1 λl hl h2=>aC h2 λr' hr h3=>?_
   cases h3
   cases fQ hi
   exact Gw B hl hr hu hv (q R s.heap s.toks (.refl B.I))
  | NotIn =>
   refine aC h λx hx h1=>aC h1 λp hp h2=>aC h2 λy hy h3=>aC h3 λz hz h4=>ba h4 λhk h5=>?_
   refine pj2 h5 λy10a y10b=>?_;subst y10a;subst y10b
   exact zv B (of_decide_eq_true hk) hx hp hy hz hu hv (q R s.heap s.toks (.refl B.I))
  | Lt =>
   refine aC h λf hf h1=>dG h1 λx bA hc h2=>aC h2 λr' hr h3=>?_
   cases h3
   exact lt_ok S B hf hc (jo hr) rfl hu hv q
  | _=>cases h
end
section
variable {n:Nat}{I:ja}{w:World}{env:Env}{s:ae}{R:aD}{lo:Lo}{st bA:St}{a b:Mv}{u v:Value}
theorem Dq (P:aM):dI (K P) (.ref 761) "__bool__" = some (some (.ref 632)):=by lk
theorem Dr (P:aM):dI (K P) (.ref 411) "__bool__" = some (some (.ref 394)):=by lk
theorem fn632 (P:aM):typeIn (K P) (.ref 632)=some (.type "function"):=by lk
theorem fn394 (P:aM):typeIn (K P) (.ref 394)=some (.type "function"):=by lk
theorem qE {x C f:Addr}{Q:Bool->ae->Prop}(ty:Looks (Md w) s.heap (gl (.ref x)) (.ref C))(fl:Looks (Md w) s.heap (mL (.ref C) "__bool__") (some (.ref f)))(bs:Looks (Md w) s.heap (gE (.ref f) (.ref x)) (.ref f,[.ref x]))
  (h:wpAny (Md w) A (call (.ref f) [.ref x]) (λv s'=>∃ b,v=.bool b/\Q b s') E s):wpAny (Md w) A (truthy (.ref x)) Q E s:=by
 unfold truthy
 refine ag ?_
 unfold callSpecial? specialOf
 refine ag (ag (ty.here (fl.here ?_)))
 refine aX (ag (bs.here ?_))
 refine ag (aR h (λv s' hv=>?_) λ_ _ e=>e)
 refine bg hv λb y14 hq=>?_;subst y14
 exact aj (aj hq)
theorem yo {r:Bool}{Q:Bool->ae->Prop}(h:yr a=some r)(hu:V R s.heap a u)(q:Q r s):wpAny (Md w) A (truthy u) Q E s:=by
 cases a with
 | bool=>cases h;cases hu;exact cH q
 | int=>cases h;cases hu;exact truthy_int q
 | none=>cases h;cases hu;exact aj q
 | _=>cases h
theorem xP {f:Addr}{Q:Bool->ae->Prop}(B:Be w aa n A R st s)(h:A1 a=some f)(hu:V R s.heap a u)
  (go:f∈rS->wpAny (Md w) A (call (.ref f) [u]) (λv s'=>∃ b,v=.bool b/\Q b s') E s):wpAny (Md w) A (truthy u) Q E s:=by
 refine aC h λr hr h1=>?_
 cases io hr
 cases hu with | mk l =>
 cases r with
 | reg =>
  cases h1
  refine xG ((B.I.still l).reg) λa0 a1 a2 a3 c0 c1 c2 c3 i=>?_
  refine cB i.at λox od I1 _=>?_
  exact qE (C:=761) (f:=632) I1.type (cT B.X (Dq _)) (bind_fn B.X _ (fn632 _)) (go (by decide))
 | qu =>
  cases h1
  refine bg ((B.I.still l).qu) λa4 c4 i=>?_
  refine cB i.at λox od I1 _=>?_
  exact qE (C:=411) (f:=394) I1.type (cT B.X (Dr _)) (bind_fn B.X _ (fn394 _)) (go (by decide))
 | _=>cases h1
theorem oY {r:Bool}{Q:Bool->ae->Prop}(S:cz n I)(B:Be w aa n A R st s)(h:mw I a st=some (r,st'))(hu:V R s.heap a u)(q:∀ R1 h1 t1,Nx aa R s.heap R1 st' h1->Q r (up s h1 t1)):wpAny (Md w) A (truthy u) Q E s:=by
 unfold mw at h
 cases hb:yr a with
 | some b =>
  rw [hb] at h
  cases h
  exact yo hb hu (q R s.heap s.toks (.refl B.I))
 | none =>
  rw [hb] at h
  refine aC h λf hf h1=>dG h1 λx bA hc h2=>aC h2 λr' hr h3=>?_
  cases h3
  cases jo hr
  exact xP B hf hu λm=>sQ S m B (.cons hu .nil) hc λR1 h1 t1 u nx hu=>⟨_,hu,q R1 h1 t1 nx⟩
abbrev Bv (I:ja)(sc:Scope)(v:EV):Ex:=λlo st=>exV I sc lo st v
theorem oq {e:Expr}(h:gP e=true)(r:List Expr)(env:Env):bT (e :: r) env=(false,eval e env) :: bT r env:=
 rI (P:=λe=>bT (e :: r) env=(false,eval e env) :: bT r env) h λv h=>by cases v<;>first | rfl | cases h
theorem r6 (S:cz n I) :∀ {es:List Expr}{vs:List Mv}{s:ae}{R:aD}{st st':St}{Q:List Value->ae->Prop},Be w aa n A R st s->bZ env sc s.heap m->ci R s.heap lo m->args I sc es lo st=some (vs,st') ->
  (∀ R1 h1 t1 us,Nx aa R s.heap R1 st' h1->bz (V R1 h1) vs us->Q us (up s h1 t1))->wpAny (Md w) A (spliced (fm pos (bT es env))) Q E s
 | [],vs,s,R,st,st',Q,B,F,L,h,q=>by
  cases h
  exact az (q R s.heap s.toks [] (.refl B.I) .nil)
 | e :: r,vs,s,R,st,st',Q,B,F,L,h,q=>by
  refine ba h λhp h1=>dG h1 λv bA h2 h3=>dW h3 λvs' st2 h4 h5=>?_
  cases h5
  refine am ?_ (oq hp r env)
  refine (S.e sc e).use B F L h2 λR1 h1 t1 u nx hu=>?_
  have af:=Af.of (s1:=(up s h1 t1)) B F L nx
  exact r6 S af.B af.F af.L h4 λR2 h2 t2 us nx2 hus=>q R2 h2 t2 (u :: us) (nx.trans nx2) (.cons (hu.nx nx2 af.B.I) hus)
end
section
variable {n:Nat}{I:ja}{w:World}{env:Env}{s:ae}{R:aD}{lo:Lo}{st bA:St}{a b:Mv}{u v:Value}
theorem jy {pos:Pos}:∀ {es:List Expr}{st st':St}{vs:List Mv},args I sc es lo st=some (vs,st')->(fm pos (bT es env)).any (·.1)=false/\(fm pos (bT es env)).all (!·.1)=true
 | [],_,_,_,_=>⟨rfl,rfl⟩
 | e :: r,st,st',vs,h=>by
  refine ba h λhp h1=>dG h1 λv bA h2 h3=>dW h3 λvs' st2 h4 h5=>?_
  have ih:=jy (pos:=pos) h4
  rw [oq hp r env]
  exact ⟨ih.1,ih.2⟩
theorem nM (S:cz n I){f:Value}{first:List Value}{es:List Expr}{vs:List Mv}(B:Be w aa n A R st s)(F:bZ env sc s.heap m)(L:ci R s.heap lo m)(h:args I sc es lo st=some (vs,st'))
  (k:∀ R1 h1 t1 us,Nx aa R s.heap R1 st' h1->bz (V R1 h1) vs us->Kp (Md w) h1 f/\wpAny (Md w) A (call f (first++us)) Q E (up s h1 t1)):wpAny (Md w) A (callWith pos f first (fm pos (bT es env)) []) Q E s:=by
 cases es with
 | nil =>
  cases h
  obtain ⟨k1,k2⟩:=k R s.heap s.toks [] (.refl B.I) .nil
  exact cw0 k1 k2
 | cons e r=>exact ba h λhp h1=>dG h1 λv bA h2 h3=>dW h3 λvs' st2 h4 h5=>cw (r6 S B F L h k) (oq hp r env) (jy h4).1
theorem Po.nx {r:Rs}{R1:aD}{eU:Heap}{t1:Nat}(hQ:Po aa R s r st' Q E)(nx:Nx aa R s.heap R1 bA eU):Po aa R1 (up s eU t1) r st' Q E:=λR2 hp2 t2 nx2=>by
 have:=hQ R2 hp2 t2 (nx.trans nx2)
 cases r with
 | ok v=>exact this
 | err=>exact this
theorem yV (S:cz n I){l r:Expr}{op:mZ}:kH (n+1) sc (.BinOp l op r pos) (Bv I sc (.bin l op r pos)):=by
 intro w aa A env m s R lo st r' st' Q E B F L hf hQ
 have B:=B.le (aW n)
 refine dG hf λa bA h1 g1=>dG g1 λb st2 h2 g2=>aC g2 λc hc g3=>?_
 refine dR ((S.e sc l).use B F L h1 λR1 eU t1 u nx hu=>?_)
 have af:=Af.of (s1:=(up s eU t1)) B F L nx
 exact (S.e sc r).use af.B af.F af.L h2 λR2 hp2 t2 v nx2 hv=>G7 hc (hu.nx nx2 af.B.I) hv λt' x hx=>hQ.ok g3 R2 hp2 t' x (nx.trans nx2) hx
theorem tS {op:UnaryOp}(h:Aj op=true):op=.Not:=by cases op with | Not=>rfl | _=>cases h
theorem Fu (S:cz n I){op:UnaryOp}{x:Expr}:kH (n+1) sc (.UnaryOp op x pos) (Bv I sc (.una op x pos)):=by
 intro w aa A env m s R lo st r' st' Q E B F L hf hQ
 have B:=B.le (aW n)
 refine ba hf λho g0=>dG g0 λa bA h1 g1=>dW g1 λb st2 h2 g2=>?_
 cases tS ho
 refine wpAny_UnaryOp ((S.e sc x).use B F L h1 λR1 eU t1 u nx hu=>?_)
 have af:=Af.of (s1:=(up s eU t1)) B F L nx
 exact not_value (oY S af.B h2 hu λR2 hp2 t2 nx2=>hQ.ok g2 R2 hp2 t2 _ (nx.trans nx2) (.bool _))
theorem yT (S:cz n I){t x y:Expr}:kH (n+1) sc (.IfExp t x y pos) (Bv I sc (.ife t x y pos)):=by
 intro w aa A env m s R lo st r' st' Q E B F L hf hQ
 have B:=B.le (aW n)
 refine dW (f:=λb st=>bif b then I.e sc x lo st else I.e sc y lo st) hf λb bA h1 h2=>?_
 refine wpAny_IfExp (S.t sc t w aa A env m s R lo st b bA _ E B F L h1 λR1 eU t1 nx=>?_)
 have af:=Af.of (s1:=(up s eU t1)) B F L nx
 cases b with
 | true=>exact S.e sc x w aa A env m _ R1 lo bA r' st' Q E af.B af.F af.L h2 (hQ.nx nx)
 | false=>exact S.e sc y w aa A env m _ R1 lo bA r' st' Q E af.B af.F af.L h2 (hQ.nx nx)
end
section
variable {n:Nat}{I:ja}{w:World}{env:Env}{s:ae}{R:aD}{lo:Lo}{st bA:St}{a b:Mv}{u v:Value}
theorem BS (S:cz n I){op:BoolOp}{l:List Expr}:kH (n+1) sc (.BoolOp op l pos) (Bv I sc (.boo op l pos)):=by
 intro w aa A env m s R lo st r' st' Q E B F L hf hQ
 have B:=B.le (aW n)
 refine lA hf λx y hl g0=>dG g0 λa bA h1 g1=>dW g1 λb st2 h2 g2=>?_
 cases hl
 have fst:wpAny (Md w) A (eval x env) (λu s1=>wpAny (Md w) A (truthy u) (λc s2=>bif c == qR op then wpAny (Md w) A (eval y env) Q E s2 else Q u s2) E s1) E s:=by
  refine (S.e sc x).use B F L h1 λR1 eU t1 u nx hu=>?_
  have af:=Af.of (s1:=(up s eU t1)) B F L nx
  refine oY S af.B h2 hu λR2 hp2 t2 nx2=>?_
  have af2:=Af.of (s1:=(up s hp2 t2)) af.B af.F af.L nx2
  cases q:b == qR op with
  | true =>
   rw [q] at g2
   exact dG g2 λv st3 h3 g3=>(S.e sc y).use af2.B af2.F af2.L h3 λR3 hp3 t3 u3 nx3 hu3=>hQ.ok g3 R3 hp3 t3 u3 ((nx.trans nx2).trans nx3) hu3
  | false =>
   rw [q] at g2
   exact hQ.ok g2 R2 hp2 t2 u (nx.trans nx2) (hu.nx nx2 af.B.I)
 cases op with
 | And=>exact wpAny_And2 (aR fst (λu s1 k=>aR k (λc s2 k=>by cases c<;>exact k) λ_ _ z=>z) λ_ _ z=>z)
 | Or=>exact wpAny_Or2 (aR fst (λu s1 k=>aR k (λc s2 k=>by cases c<;>exact k) λ_ _ z=>z) λ_ _ z=>z)
theorem u5 (S:cz n I){l:Expr}{rs:List Expr}{ops:List CmpOp}:kH (n+1) sc (.Compare l ops rs pos) (Bv I sc (.cmp l ops rs pos)):=by
 intro w aa A env m s R lo st r' st' Q E B F L hf hQ
 have B:=B.le (aW n)
 refine j8 hf λop ho g0=>j8 g0 λr hr g1=>ba g1 λhb g2=>dG g2 λa bA h1 g3=>dG g3 λb st2 h2 g4=>dW g4 λc st3 hc g5=>?_
 cases ho;cases hr
 refine wpAny_Compare1 ((S.e sc l).use B F L h1 λR1 eU t1 u nx hu=>?_) (mT hb)
 have af:=Af.of (s1:=(up s eU t1)) B F L nx
 refine (S.e sc r).use af.B af.F af.L h2 λR2 hp2 t2 v nx2 hv=>?_
 have af2:=Af.of (s1:=(up s hp2 t2)) af.B af.F af.L nx2
 exact pn S af2.B hc (hu.nx nx2 af.B.I) hv λR3 hp3 t3 nx3=>hQ.ok g5 R3 hp3 t3 _ ((nx.trans nx2).trans nx3) (.bool _)
theorem zB {e:Expr}(h:gP e=true)(u v:Value):subscripted e false u v=operate [u,v] (getItem u v):=
 rI (P:=λe=>subscripted e false u v=operate [u,v] (getItem u v)) h λv h=>by cases v<;>first | rfl | cases h
theorem rn (S:cz n I){o i:Expr}:kH (n+1) sc (.Subscript o i pos) (Bv I sc (.sub o i pos)):=by
 intro w aa A env m s R lo st r' st' Q E B F L hf hQ
 have B:=B.le (aW n)
 refine ba hf λhs g0=>dG g0 λa bA h1 g1=>dG g1 λb st2 h2 g2=>aC g2 λc hc g3=>?_
 refine ie ((S.e sc o).use B F L h1 λR1 eU t1 u nx hu=>?_)
 have af:=Af.of (s1:=(up s eU t1)) B F L nx
 refine (S.e sc i).use af.B af.F af.L h2 λR2 hp2 t2 v nx2 hv=>?_
 have af2:=Af.of (s1:=(up s hp2 t2)) af.B af.F af.L nx2
 exact Fk af2.B hc (hu.nx nx2 af.B.I) hv (zB hs u v) λx hx=>hQ.ok g3 R2 hp2 t2 x (nx.trans nx2) hx
set_option tactic.hygienic true in
theorem yR (S:cz n I){l:List Expr}{k:Nat}:kH (n+1) sc (.Tuple l k pos) (Bv I sc (.tup l k pos)):=by
 intro w aa A env m s R lo st r' st' Q E B F L hf hQ
 have B:=B.le (aW n)
 refine lA hf λx y hl g0=>dW g0 λvs bA h1 g1=>lA g1 λa b hv g2=>?_
 cases hl;cases hv
 refine im (r6 S B F L h1 λR1 eU t1 us nx hus=>?_)
 cases hus with | cons p1 p2=>cases p2 with | cons p2 p3=>cases p3 with | nil =>
 rename_i u1 u2
 have kk:Sb eU (eU.push { cls:=.type "tuple",data:=.seq #[u1,u2] }):=λb o e=>ak _ e
 have nx2:=dQ.nx kk nx.inv
 exact ⟨by show 2<=2 ^ 24;decide,hQ.ok g2 R1 _ t1 _ (nx.trans nx2) (.pair ⟨#[],ar _ rfl⟩ (p1.nx nx2 nx.inv) (p2.nx nx2 nx.inv))⟩
end
section
variable {n:Nat}{I:ja}{w:World}{env:Env}{s:ae}{R:aD}{lo:Lo}{st bA:St}{a b:Mv}{u v:Value}
theorem Bw.in1 (x:Bw aa A h):Bw aa A.in1 h:=x
theorem Be.in1 (B:Be w aa (n+1) A R st s):Be w aa n A.in1 R st s:=
 ⟨B.G,⟨B.O.handled,(B.O.le (aW n)).depth,B.O.un (k:=1) (by decide)⟩,B.S,B.I⟩
theorem Be.toks (B:Be w aa n A R st s)(t:Nat):Be w aa n A R st { s with toks:=t }:=⟨B.G,B.O,B.S,B.I⟩
theorem V.handed (x:V R h a u):lJ u=true:=by cases a<;>cases x<;>rfl
theorem fb761 (P:aM)(od:Obj):oO (K P) 761 (some od) "unique" = some (.bind (.builtin "property.__get__") (.ref 569)):=by lk
theorem GJ (P:aM)(od:Obj):oO (K P) 822 (some od) "start" = some (.bind (.builtin "property.__get__") (.ref 812)):=by lk
theorem GK (P:aM)(od:Obj):oO (K P) 822 (some od) "relation" = some (.bind (.builtin "property.__get__") (.ref 796)):=by lk
theorem rc569 (P:aM):recIn (K P) 569 "property" = some (.ref 568 :: ((recIn (K P) 569 "property").getD []).tail):=by lk
theorem rc812 (P:aM):recIn (K P) 812 "property" = some (.ref 811 :: ((recIn (K P) 812 "property").getD []).tail):=by lk
theorem rc796 (P:aM):recIn (K P) 796 "property" = some (.ref 795 :: ((recIn (K P) 796 "property").getD []).tail):=by lk
theorem rQ (S:cz n I){x C p f:Addr}{mv:Mv}{at_:List (Str×Value)}{name:Str}{r':Mv}(hf:f∈rS)(B:Be w aa (n+1) A R st s)(hu:V R s.heap mv (.ref x))(i:cL s.heap x C at_)(k:∀ P,ii P C)
  (fb:∀ P od,oO (K P) C (some od) name=some (.bind (.builtin "property.__get__") (.ref p))) (rc:∀ P,recIn (K P) p "property" = some (.ref f :: ((recIn (K P) p "property").getD []).tail)) (h:I.c f [mv] st=some (.ok r',st'))
  (q:∀ R1 h1 t1 u,Nx aa R s.heap R1 st' h1->V R1 h1 r' u->Q u (up s h1 t1)):wpAny (Md w) A (hM (.ref x) name expr) Q E s:=by
 refine cB i.at λox od I1 _=>?_
 refine get_bind B.X I1 (k _).ga (fb _ _) (k _).gt ?_
 refine bw (prop_get (s:={ s with toks:=s.toks+1 }) B.X (rc _) ?_)
 refine S.c w aa A.in1 { s with toks:=s.toks+1 } R st f [mv] [.ref x] (.ok r') st' _ _ hf (B.in1.toks _) (.cons hu .nil) h λR1 h1 t1 nx u hu=>?_
 show wpAny (Md w) A (handedOut u) Q E _
 rw [handedOut_of hu.handed]
 exact aj (q R1 h1 t1 u nx hu)
theorem lk1 {α:Type}{y x:Str}{r v:α}(h:[(y,r)].lookup x=some v):x=y/\v=r:=by
 cases ah.mp (fj h);exact ⟨rfl,rfl⟩
theorem B9 (S:cz n I){x:Str}{r':Mv}{f:Addr}(hp:prop a x=some f)(B:Be w aa (n+1) A R st s)(hu:V R s.heap a u)(h:I.c f [a] st=some (.ok r',st'))
  (q:∀ R1 h1 t1 u,Nx aa R s.heap R1 st' h1->V R1 h1 r' u->Q u (up s h1 t1)):wpAny (Md w) A (hM u x expr) Q E s:=by
 cases a with
 | root r =>
  cases r with
  | reg =>
   obtain ⟨rfl,rfl⟩:=lk1 hp
   have hu':=hu
   cases hu with | mk l =>
   refine xG ((B.I.still l).reg) λa0 a1 a2 a3 c0 c1 c2 c3 i=>?_
   exact rQ S (by decide) B hu' i ux fb761 rc569 h q
  | _=>cases hp
 | isec =>
  have hu':=hu
  cases hu with | mk i v1 v2 =>
  have hp:[(("start" : Str),811),("relation",795)].lookup x=some f:=hp
  rcases aq.mp (fj hp) with e | e
  ·cases e;exact rQ S (by decide) B hu' i AU GJ rc812 h q
  ·cases ah.mp e;exact rQ S (by decide) B hu' i AU GK rc796 h q
 | _=>cases hp
theorem kE {o:Expr}(h:lF o=true)(x:Str)(env:Env):attributeBase o x env (eval o env)=eval o env:=by
 cases o with
 | Call f as ks p =>
  cases f with
  | Name =>
   cases as with
   | cons=>rfl
   | nil=>cases ks with
    | cons=>rfl
    | nil=>cases h
  | _=>rfl
 | _=>rfl
theorem oH {o:Expr}{x:Str}(hb:attributeBase o x env (eval o env)=eval o env):eval (.Attribute o x pos) env=(do
   let ov <- eval o env
   jQ pos.atName
   let r <- iF [ov] (hM ov x true)
   letTemporaryGo o ov r
   pure r):=by
 rw [arm_eval_Attribute,hb]
theorem ro (S:cz n I){o:Expr}{x:Str}:kH (n+1) sc (.Attribute o x pos) (Bv I sc (.att o x pos)):=by
 intro w aa A env m s R lo st r' st' Q E B0 F L hf hQ
 have B:=B0.le (aW n)
 refine ba hf λhb g0=>dG g0 λa bA h1 hx=>?_
 refine jr ((S.e sc o).use B F L h1 λR1 eU t1 u nx hu=>?_) (oH (kE hb x env))
 have af:=Af.of (s1:=(up s eU t1)) B0 F L nx
 cases hc:G9 a x with
 | some c =>
  rw [hc] at hx
  exact rZ af.B hc hu λR2 hp2 t2 v nx2 hv=>hQ.ok hx R2 hp2 t2 v (nx.trans nx2) hv
 | none =>
  rw [hc] at hx
  exact aC hx λf hf g1=>dG g1 λv st2 h2 g2=>B9 S hf af.B hu (lB h2) λR2 hp2 t2 v nx2 hv=>hQ.ok g2 R2 hp2 t2 v (nx.trans nx2) hv
end
theorem mB {l:List (Str×Addr)}{x:Str}{a:Addr}(h:l.lookup x=some a):(x,a)∈l:=fj h
def mOk (P:aM)(C:Addr)(own:List Str)(l:List (Str×Addr)):Bool:=l.all λp=>dI (K P) (.ref C) p.1 == some (some (.ref p.2)) && (typeIn (K P) (.ref p.2) == some (.type "function") && (rS.contains p.2 && !own.contains p.1))
theorem Gc (P:aM):mOk P 761 ["_orienteer","_segments_intersector","_unique","_opposites","_endpoints","_segments_ids","_min_collinear_segments_ids","_events_queue_data","_sweep_line_data"] m761=true:=by lk
theorem Gg (P:aM):mOk P 411 ["key","_rows"] m411=true:=by lk
theorem Ge (P:aM):mOk P 488 ["key","_values"] m488=true:=by lk
theorem Gh (P:aM):mOk P 369 [] m369=true:=by lk
theorem ck369 (P:aM):ii P 369:=⟨by lk,by lk,by lk⟩
section
variable {n:Nat}{I:ja}{w:World}{env:Env}{s:ae}{R:aD}{lo:Lo}{st bA:St}{a b:Mv}{u v:Value}
theorem xD {at_:List (Str×Value)}{own:List Str}{x:Str}(hn:at_.map (·.1)=own)(h:own.contains x=false):at_.find? (λp=>p.1 == x)=ac:=by
 subst hn
 rw [List.find?_eq_none]
 intro p hp
 simp only [List.contains_eq_mem,decide_eq_false_iff_not,gj,not_exists,not_and] at h
 have:=h p hp
 simpa using this
theorem nB {C x:Addr}{at_:List (Str×Value)}{own:List Str}{l:List (Str×Addr)}{name:Str}{f:Addr}{pl:Sem Bool}{Q:Value×List Value->ae->Prop}(B:Be w aa n A R st s)(i:cL s.heap x C at_)(hn:at_.map (·.1)=own)(k:∀ P,ii P C)(ok:∀ P,mOk P C own l=true)(hf:l.lookup name=some f)
  (q:f∈rS->Q (.ref f,[.ref x]) s):wpAny (Md w) A (iG (.ref x) name pl) Q E s:=by
 have h:=bj.mp (ok w.params) _ (mB hf)
 simp only [g8,beq_iff_eq,Bool.not_eq_true'] at h
 refine xJ h λh1 h2 h3 h4=>?_
 refine cB i.at λox od I1 g=>?_
 exact method_fn B.X I1 (k _).ga (k _).gt h1 h2 (by show Option.map (λx=>x.isSome) (lookIn name od)=some false;rw [g,xD hn h4];rfl) (q (by simpa using h3))
theorem pf {x:Str}{f:Addr}{pl:Sem Bool}{Q:Value×List Value->ae->Prop}(B:Be w aa n A R st s)(hu:V R s.heap a u)(hf:xh a x=some f)(q:f∈rS->Q (.ref f,[u]) s):wpAny (Md w) A (iG u x pl) Q E s:=by
 cases a with
 | root r =>
  cases hu with | mk l =>
  cases r with
  | reg =>
   refine xG ((B.I.still l).reg) λa0 a1 a2 a3 c0 c1 c2 c3 i=>?_
   exact nB B i rfl ux Gc hf q
  | qu =>
   refine bg ((B.I.still l).qu) λa4 c4 i=>?_
   exact nB B i rfl EK Gg hf q
  | ks =>
   refine bg ((B.I.still l).ks) λa5 c5 i=>?_
   exact nB B i rfl EJ Ge hf q
  | _=>cases hf
 | ctx=>cases hu with | mk i=>exact nB B i rfl ck369 Gh hf q
 | _=>cases hf
end
section
variable {n:Nat}{I:ja}{w:World}{env:Env}{s:ae}{R:aD}{lo:Lo}{st bA:St}{a b:Mv}{u v:Value}
theorem Dp (p:bF)(w:World)(u:Value):MeetsIn p w (Builtin.«bool.__new__» ⟨[.type "bool",u],[]⟩) (λA R s=>wpAny (model p w) A.in1 (truthy u) (λb s'=>R (.ok (.ret (.bool b))) s') (λe s'=>R (.error e) s') s):=by
 intro A R s h
 obtain ⟨hp,g,d,tk,os⟩:=s
 have f1:=F.conv_sub_bool
 unfold Builtin.«bool.__new__»
 repeat (any_goals (first | assumption | wp_step))
 show wpAny _ _ (truthy u) _ _ _
 exact aR h (λb s' hb=>aj hb) λ_ _ z=>z
theorem xN (h:wpAny (Md w) A.in1.in1 (truthy u) (λb s'=>Q (.bool b) s') E s):wpAny (Md w) A (call (.type "bool") [u]) Q E s:=
 callType_newIn F.called_bool F.newNe_bool (F.typeCall_bool_1 u) (F.newCall_bool_1 u) (λobj=>F.args_object_init_2 obj u) F.entry_bool_new (Dp pg w u) (aR h (λb s' hb=>⟨rfl,hb⟩) λ_ _ z=>z)
end
section
variable {n:Nat}{I:ja}{w:World}{env:Env}{s:ae}{R:aD}{lo:Lo}{st bA:St}{a b:Mv}{u v:Value}
theorem Be.in2 (B:Be w aa (n+1) A R st s):Be w aa n A.in1.in1 R st s:=
 ⟨B.G,⟨B.O.handled,(B.O.le (aW n)).depth,B.O.un (k:=2) (by decide)⟩,B.S,B.I⟩
noncomputable def biT:List (Str×Value):=[("len",.builtin "len"),("min",.builtin "min"),("bool",.type "bool")]
def biV (f:Str):Option Value:=biT.lookup f
theorem A3 (P:aM):∀ p∈biT,nsIn (K P) bM p.1=some none/\bootBuiltins p.1=some p.2/\(p.1 == ("__name__" : Str))=false:=
 aY.mpr ⟨⟨by lk,by lk,by lk⟩,aY.mpr ⟨⟨by lk,by lk,by lk⟩,aY.mpr ⟨⟨by lk,by lk,by lk⟩,nofun⟩⟩⟩
theorem A2 {f:Str}{x:Value}(h:biV f=some x)(P:aM):nsIn (K P) bM f=some none:=(A3 P _ (fj h)).1
theorem uz {f:Str}{x:Value}(h:biV f=some x):bootBuiltins f=some x/\(f == ("__name__" : Str))=false:=(A3 P0 _ (fj h)).2
theorem bz.one {α β:Type}{P:α->β->Prop}{x:α}{m:List β}(h:bz P [x] m):∃ y,m=[y]/\P x y:=by
 cases h with | cons p q=>cases q with | nil=>exact ⟨_,rfl,p⟩
theorem bz.two {α β:Type}{P:α->β->Prop}{x x':α}{m:List β}(h:bz P [x,x'] m):∃ y y',m=[y,y']/\P x y/\P x' y':=by
 cases h with | cons p q=>cases q with | cons p' q=>cases q with | nil=>exact ⟨_,_,rfl,p,p'⟩
def EX (w:World)(A:aw)(s:ae)(Q E:Value->ae->Prop)(f:Str)(us:List Value):Prop:=∃ x,biV f=some x/\Kp (Md w) s.heap x/\wpAny (Md w) A (call x us) Q E s
theorem bi_ok {f:Str}{vs:List Mv}{r:Mv}(B:Be w aa n A R st s)(h:bi f vs st=some r)(hv:bz (V R s.heap) vs us)(q:∀ h' t' v,Nx aa R s.heap R st h'->V R h' r v->Q v (up s h' t')) :
  EX w A s Q E f us:=by
 match vs,h with
 | [a],h =>
  refine ba h λe h1=>aC h1 λi hi h2=>aC h2 λl hl h3=>ba h3 λhz h4=>?_
  have hz:=of_decide_eq_true hz
  cases of_decide_eq_true e;cases fQ hi;cases h4
  refine bg hv.one λy y8 hy=>?_;subst y8
  cases hy with | mk hc =>
  refine cB (B.I.cell hc hl) λws k e al=>?_
  refine ⟨_,rfl,xq,len_list (eQ e) (Int.lt_of_le_of_lt (Int.ofNat_le.mpr (show ws.length<=1000000 from al.length▸hz)) (by decide)) ?_⟩
  rw [show ((ws.toArray.size:Nat):Int)=(l.length:Int) from by rw [al.length];rfl]
  exact q s.heap _ _ (.refl B.I) (.int _ _)
 | [a,b],h =>
  refine ba h λe h1=>aC h1 λx hx h2=>aC h2 λz hz h3=>?_
  cases of_decide_eq_true e;cases dO hx;cases dO hz;cases h3
  refine xI hv.two λy y' y9 hy hy'=>?_;subst y9
  cases hy with | mk t=>cases hy' with | mk t' =>
  refine ⟨_,rfl,xq,min_two_ints B.O.handled λh' tk k=>?_⟩
  have nx:=dQ.nx k B.I
  by_cases c:z < x
  ·rw [if_pos c]
   exact q h' tk _ nx (Eq.mpr (congrArg (λy=>V R h' (.int y) _) (Int.min_eq_right (Int.le_of_lt c))) (.int _ _))
  ·rw [if_neg c]
   exact q h' tk _ nx (Eq.mpr (congrArg (λy=>V R h' (.int y) _) (Int.min_eq_left (Int.not_lt.mp c))) (.int _ _))
theorem G8 (S:cz n I){f:Str}{vs:List Mv}{r:Rs}(B:Be w aa (n+1) A R st s)(h:HD I f vs st=some (r,st'))(hv:bz (V R s.heap) vs us)(q:Po aa R s r st' Q E) :
  EX w A s Q E f us:=by
 unfold HD at h
 cases e:f == ("bool" : Str) with
 | true =>
  rw [e] at h
  refine j8 h λv hvs h1=>dW h1 λb st2 hb h2=>?_
  cases hvs;cases eq_of_beq e
  refine bg hv.one λy y10 hy=>?_;subst y10
  exact ⟨_,rfl,Bu,xN (oY S B.in2 hb hy λR1 h1 t1 nx=>q.ok h2 R1 h1 t1 _ nx (.bool _))⟩
 | false =>
  rw [e] at h
  exact aC h λx hx h1=>bi_ok B hx hv λh' t' v nx hv=>q.ok h1 R h' t' v nx hv
end
def kK:Prop:=∀ (w:World) (aa:Heap) (n:Nat) (A:aw) (s:ae) (R:aD) (st:St) (f:Addr) (vs:List Mv) (us:List Value) (r:Mv) (Q E:Value->ae->Prop),Be w aa (n+1) A R st s->make f vs=some r->bz (V R s.heap) vs us ->
 (∀ h' t' v,Nx aa R s.heap R st h'->V R h' r v->Q v (up s h' t'))->wpAny (Md w) A (call (.ref f) us) Q E s
def mH:Prop:=∀ (w:World) (aa:Heap) (n:Nat) (A:aw) (s:ae) (R:aD) (st:St) (e:Int) (t:Tok) (Q E:Value->ae->Prop),Be w aa (n+1) A R st s->R.live=true ->
 (∀ h' t' v,Nx aa R s.heap R st h'->V R h' (.qk e) v->Q v (up s h' t'))->wpAny (Md w) A (call (.ref (R.at_ .qkf)) [.int e t]) Q E s
def iA (I:ja)(n:Nat):Prop:=∀ (w:World) (aa:Heap) (A:aw) (s:ae) (R:aD) (st:St) (a b c d:Pn) (us:List Value) (r:Rs) (st':St) (Q E:Value->ae->Prop),Be w aa (n+1) A R st s->R.live=true->bz (V R s.heap) [.pt a,.pt b,.pt c,.pt d] us ->
 I.c 366 [.ctx,.seg a b,.seg c d] st=some (r,st')->Po aa R s r st' Q E->wpAny (Md w) A (call (.ref (R.at_ .inter)) us) Q E s
section
variable {n:Nat}{I:ja}{w:World}{env:Env}{s:ae}{R:aD}{lo:Lo}{st bA:St}{a b:Mv}{u v:Value}
theorem Be.in1' (B:Be w aa (n+1) A R st s):Be w aa n A.in1 R st s:=B.in1
theorem qh (S:cz n I){p c f:Addr}{sv:Mv}{vs:List Mv}{r:Rs}(hf:f∈rS)(B:Be w aa n A R st s)(o:eH s.heap p (fx f c))(hs:V R s.heap sv (.ref c))(hv:bz (V R s.heap) vs us)(h:I.c f (sv :: vs) st=some (r,st'))
  (hQ:Po aa R s r st' Q E):wpAny (Md w) A (call (.ref p) us) Q E s:=by
 obtain ⟨sl,o⟩:=o
 refine bw ?_
 have h':=S.c w aa A s R st f (sv :: vs) (.ref c :: us) r st' Q E hf B (.cons hs hv) h hQ
 obtain ⟨hp,g,d,t,os⟩:=s
 refine bc ?_
 show wpAny _ _ (jT (.ref p) _) _ _ _
 dsimp only at o
 refine nd_load o ?_
 exact aj ⟨rfl,h'⟩
theorem za (S:cz n I)(qk:mH)(it:iA I n){g:Rt}{vs:List Mv}{r:Rs}(B:Be w aa (n+1) A R st s)(l:R.live=true)(hv:bz (V R s.heap) vs us)(h:DQ I g vs st=some (r,st'))(hQ:Po aa R s r st' Q E) :
  wpAny (Md w) A (call (.ref (R.at_ g)) us) Q E s:=by
 have B':=B.le (aW n)
 cases g with
 | qkf =>
  refine j8 h λa ha h1=>aC h1 λe he h2=>?_
  cases ha;cases dO he
  refine bg hv.one λy y32 hy=>?_;subst y32
  cases hy with | mk t =>
  exact qk w aa n A s R st _ t Q E B l λh' t' v nx hv=>hQ.ok h2 R h' t' v nx hv
 | skf =>
  refine j8 h λa ha h1=>?_
  cases ha
  exact qh S (by decide) B' (B.I.still l).skf (.root .reg l) hv h1 hQ
 | orient =>
  refine bg ((B.I.still l).orient) λc o i=>?_
  exact qh S (by decide) B' o (.ctx i) hv h hQ
 | inter =>
  match vs,h with
  | [a,b,c,d],h =>
   refine aC h λp hp h1=>aC h1 λp2 hp2 h2=>aC h2 λp3 hp3 h3=>aC h3 λp4 hp4 h4=>?_
   cases fw hp;cases fw hp2;cases fw hp3;cases fw hp4
   exact it w aa A s R st _ _ _ _ us r st' Q E B l hv h4 hQ
 | _=>cases h
theorem uy (S:cz n I)(mk:kK)(qk:mH)(it:iA I n){g:Mv}{gu:Value}{vs:List Mv}{r:Rs}(B:Be w aa (n+1) A R st s)(hg:V R s.heap g gu)(hv:bz (V R s.heap) vs us)(h:mF I g vs st=some (r,st'))(hQ:Po aa R s r st' Q E) :
  wpAny (Md w) A (call gu us) Q E s:=by
 unfold mF at h
 cases ha:fZ g with
 | some f =>
  rw [ha] at h
  cases ir ha
  cases hg
  refine eK (c:=rS.contains f) h (λhf h1=>?_) λhf h1=>?_
  ·exact bw (S.c w aa A s R st f vs us r st' Q E (List.contains_iff_mem.mp hf) (B.le (aW n)) hv h1 hQ)
  ·exact aC h1 λx hx h1=>mk w aa n A s R st f vs us x Q E B hx hv λh' t' v nx hv=>hQ.ok h1 R h' t' v nx hv
 | none =>
  rw [ha] at h
  refine aC h λrt hr h1=>?_
  cases io hr
  cases hg with | mk l=>exact za S qk it B l hv h1 hQ
end
section
variable {n:Nat}{I:ja}{w:World}{env:Env}{s:ae}{R:aD}{lo:Lo}{st bA:St}{a b:Mv}{u v:Value}
theorem keepG (P:aM):(lK.all λp=>keepIn (K P) (.ref p.2))=true:=by lk
theorem El (P:aM):(rS.all λp=>keepIn (K P) (.ref p) && fnIn (K P) p)=true:=by lk
theorem Gr {M:Model}{x:Str}{a:Addr}(e:lK.lookup x=some a)(X:(K P).In h):Kp M h (.ref a):=
 wn X (bj.mp (keepG P) _ (mB e))
theorem Cz {M:Model}{f:Addr}(e:f∈rS)(X:(K P).In h):Kp M h (.ref f):=
 wn X (by have:=bj.mp (El P) _ e;simp only [g8] at this;exact this.1)
theorem Ek {M:Model}{c:Addr}{fd:FuncData}(e:h.get? c=some o)(d:o.data=.func fd):Kp M h (.ref c):=by
 refine ⟨.frame,.inl rfl,(eT (part:=none) e).andThen ?_⟩
 rw [d];exact .now
theorem Aa {M:Model}{p f c:Addr}(hf:f∈rS)(X:(K P).In h)(o:eH h p (fx f c)):Kp M h (.ref p):=by
 obtain ⟨sl,o⟩:=o
 have:=bj.mp (El P) _ hf
 simp only [g8] at this
 have hf:=this.2
 cases e:(K P).lookup f with
 | none=>unfold fnIn at hf;rw [e] at hf;cases hf
 | some ob =>
  have k:∃ fd,ob.data=.func fd:=by
   unfold fnIn at hf;rw [e] at hf
   obtain ⟨c1,d1,dt,sl1⟩:=ob
   cases dt with
   | func fd=>exact ⟨fd,rfl⟩
   | _=>cases hf
  obtain ⟨fd,k⟩:=k
  refine ⟨.boundFrame,.inr (.inr rfl),(eT (part:=none) o).andThen ?_⟩
  refine (eT (part:=none) (X _ _ e)).andThen ?_
  rw [k];exact .now
theorem rJ {r:Rt}(B:Be w aa n A R st s)(l:R.live=true)(hr:r=.qkf\/r=.skf\/r=.orient\/r=.inter):Kp (Md w) s.heap (.ref (R.at_ r)):=by
 have S:=B.I.still l
 rcases hr with rfl | rfl | rfl | rfl
 ·refine el82 S.qkf λpm cdv ct cell od oc fs t y20 _=>?_;obtain ⟨sl,e⟩:=y20
  exact Ek e rfl
 ·exact Aa (by decide) B.X S.skf
 ·refine bg S.orient λc o _=>?_
  exact Aa (by decide) B.X o
 ·refine bg S.inter λc y22 _=>?_;refine el82 y22 λpm cdv ct cell od oc fs t y23 _=>?_;obtain ⟨sl,e⟩:=y23
  exact Ek e rfl
theorem Dt {f:Str}{vs:List Mv}{r:Mv}(h:bi f vs st=some r):∃ x,biV f=some x:=by
 match vs,h with
 | [a],h=>exact ba h λe _=>by cases of_decide_eq_true e;exact ⟨_,rfl⟩
 | [a,b],h=>exact ba h λe _=>by cases of_decide_eq_true e;exact ⟨_,rfl⟩
theorem A4 {f:Str}{vs:List Mv}{r:Rs}(h:HD I f vs st=some (r,st')):∃ x,biV f=some x:=by
 unfold HD at h
 cases e:f == ("bool" : Str) with
 | true=>cases eq_of_beq e;exact ⟨_,rfl⟩
 | false =>
  rw [e] at h
  exact aC h λx hx _=>Dt hx
theorem sT (S:cz n I)(mk:kK)(qk:mH)(it:iA I n){f:Str}{fp:Pos}:kH (n+1) sc (.Call (.Name f fp) as [] pos) (λlo st=>vN I sc lo st as pos (.name f fp)):=by
 intro w aa A env m s R lo st r st' Q E B0 F L hf hQ
 have B:=B0.le (aW n)
 refine ba hf λhd g0=>dW g0 λvs bA h1 h2=>?_
 refine bR hd λhd hl=>?_
 have hd':=mT hd
 have hl:=eq_of_beq hl
 refine aN ?_
 cases hc:lK.lookup f with
 | some c =>
  rw [hc] at h2
  refine wm F B.G B.I.base ?_ (tY f c hc) hl hd'
  refine nM S B F L h1 λR1 eU t1 us nx hus=>?_
  have B1:Be w aa (n+1) A R1 bA (up s eU t1):=B0.nx nx
  exact ⟨Gr hc B1.X,uy S mk qk it B1 (.addr c) hus h2 (hQ.nx nx)⟩
 | none =>
  rw [hc] at h2
  obtain ⟨x,hx⟩:=A4 h2
  have hb:=(uz hx).1;have hne:=(uz hx).2
  refine sy F B.G B.I.base ?_ (A2 hx) hb hne hl hd'
  refine nM S B F L h1 λR1 eU t1 us nx hus=>?_
  have B1:Be w aa (n+1) A R1 bA (up s eU t1):=B0.nx nx
  refine dJ (G8 (Q:=Q) (E:=E) S B1 h2 hus (hQ.nx nx)) λx' hx' k z=>?_
  cases hx.symm.trans hx'
  exact ⟨k,z⟩
end
section
variable {n:Nat}{I:ja}{w:World}{env:Env}{s:ae}{R:aD}{lo:Lo}{st bA:St}{a b:Mv}{u v:Value}
theorem Cr {x:Str}{i:Nat}{l vs:List Mv}{r:Mv×St}(h:lm i l st x vs=some r):∃ id,Slot "list" x id/\gl (.builtin id)=pure (.type "method_descriptor"):=by
 refine ba h λ_ h1=>?_
 cases vs with
 | nil=>exact ns h1
 | cons v vs=>cases vs with
  | nil =>
   refine ow h1 (λhx _=>?_) λ_ h2=>ow h2 (λhx _=>?_) λ_ h3=>ow h3 (λhx _=>?_) nofun
   ·cases hx;exact ⟨_,F.slot_list_append,F.type_list_append⟩
   ·cases hx;exact ⟨_,F.slot_list_pop,F.type_list_pop⟩
   ·cases hx;exact ⟨_,F.slot_list_index,F.type_list_index⟩
  | cons w vs=>cases vs with
   | nil=>exact ba h1 λhx _=>by cases of_decide_eq_true hx;exact ⟨_,F.slot_list_insert,F.type_list_insert⟩
   | cons=>exact ns h1
theorem w8 {T:String}{x:Str}{id id':String}(a:Slot T x id)(b:Slot T x id'):id=id':=by
 have e:=a.lookup.symm.trans b.lookup
 injection e with e
 injection e with e
 injection e
theorem DD {C c:Addr}{at_:List (Str×Value)}{x:Str}{pl:Sem Bool}{Q:Value×List Value->ae->Prop}(B:Be w aa n A R st s)(i:cL s.heap c C at_)(hn:∀ P,∀ n∈names,dI (K P) (.ref C) n=some none)(hc:∀ P,ii P C)(hm:x∈names)
  (h:wpAny (Md w) A (hM (.ref c) x) (λv=>Q (v,[])) E s):wpAny (Md w) A (iG (.ref c) x pl) Q E s:=by
 refine cB i.at λox od I1 _=>?_
 exact method_usual B.X I1 (hc w.params).ga (hc w.params).gt (hn _ _ hm) rfl h
theorem nE {T:List (Str×Mv)}{x:Str}{r:Mv}(h:T.lookup x=some r):x∈T.map (·.1):=gj.mpr ⟨(x,r),fj h,rfl⟩
theorem A5 {x:Str}{f:Mv}{pl:Sem Bool}{Q:Value×List Value->ae->Prop}(B:Be w aa n A R st s)(h:qV a x=some f)(hu:V R s.heap a u)
  (q:∀ R' h' t' v,Nx aa R s.heap R' st h'->V R' h' f v->Q (v,[]) (up s h' t')):wpAny (Md w) A (iG u x pl) Q E s:=by
 cases a with
 | root r =>
  have g:=rZ (A:=A) (E:=E) (Q:=λv=>Q (v,[])) (expr:=false) B (a:=.root r) h hu q
  cases hu with | mk l =>
  refine C1 (zb B r l h) λC at_ i hn hc _=>?_
  exact DD B i hn hc (nE h) g
 | sk e =>
  have g:=rZ (A:=A) (E:=E) (Q:=λv=>Q (v,[])) (expr:=false) B (a:=.sk e) h hu q
  cases hu with | mk l c0 c1 i=>exact DD B i n540 EI (nE (T:=Bf e) h) g
 | _=>cases h
theorem zA {T:List (Str×Mv)}{x:Str}{f:Mv}(k:T.all (λp=>(fZ p.2).isNone)=true)(h:T.lookup x=some f):fZ f=ac:=
 yc.mp (bj.mp k _ (fj h))
theorem xM {f:Mv}{vs:List Mv}{gu:Value}{r:Rs×St}(B:Be w aa n A R st s)(hg:V R s.heap f gu)(hx:∃ a x,qV a x=some f)(h:mF I f vs bA=some r):Kp (Md w) s.heap gu:=by
 obtain ⟨a,x,hx⟩:=hx
 have na:fZ f=ac:=by
  cases a with
  | root r=>exact zA (T:=pL r) (by cases r<;>rfl) hx
  | sk e=>exact zA (T:=Bf e) rfl hx
  | _=>cases hx
 unfold mF at h
 rw [na] at h
 refine aC h λrt hr h1=>?_
 cases io hr
 cases hg with | mk l =>
 cases rt with
 | qkf=>exact rJ B l (.inl rfl)
 | skf=>exact rJ B l (.inr (.inl rfl))
 | orient=>exact rJ B l (.inr (.inr (.inl rfl)))
 | inter=>exact rJ B l (.inr (.inr (.inr rfl)))
 | _=>cases h1
theorem yj (S:cz n I)(mk:kK)(qk:mH)(it:iA I n){x:Str}{v:Mv}{r:Rs}{pl:Sem Bool}(B0:Be w aa (n+1) A R st s)(F:bZ env sc s.heap m)(L:ci R s.heap lo m)(hu:V R s.heap v u)(h:pB I sc lo as x v st=some (r,st'))(hQ:Po aa R s r st' Q E) :
  wpAny (Md w) A (iG u x pl) (λr aao=>wpAny (Md w) A (callWith pos r.1 r.2 (fm pos (bT as env)) []) Q E aao) E s:=by
 have B:=B0.le (aW n)
 unfold pB at h
 cases hm:xh v x with
 | some f =>
  rw [hm] at h
  refine dW h λvs st2 h3 h4=>pf B hu hm λhfn=>nM S B F L h3 λR2 hp2 t2 us nx2 hus=>?_
  have B2:Be w aa n A R2 st2 (up s hp2 t2):=B.nx nx2
  exact ⟨Cz hfn B2.X,bw (S.c w aa A _ R2 st2 f (v :: vs) (u :: us) r st' Q E hfn B2 (.cons (hu.nx nx2 B.I) hus) h4 (hQ.nx nx2))⟩
 | none =>
  rw [hm] at h
  clear hm
  cases hm:qV v x with
  | some f =>
   rw [hm] at h
   refine dW h λvs st2 h3 h4=>A5 B hm hu λR2 hp2 t2 g nx2 hg=>?_
   have af2:=Af.of (s1:=(up s hp2 t2)) B F L nx2
   refine nM S af2.B af2.F af2.L h3 λR3 hp3 t3 us nx3 hus=>?_
   have B3:Be w aa (n+1) A R3 st2 (up s hp3 t3):=B0.nx (nx2.trans nx3)
   have hg3:=hg.nx nx3 af2.B.I
   exact ⟨xM B3 hg3 ⟨_,_,hm⟩ h4,uy S mk qk it B3 hg3 hus h4 (hQ.nx (nx2.trans nx3))⟩
  | none =>
   rw [hm] at h
   clear hm
   cases hl:gZ v with
   | some i =>
    rw [hl] at h
    cases fQ hl
    cases hu with | mk hc =>
    refine dW h λvs st2 h3 h4=>aC h4 λl hl h5=>dW h5 λz st3 h6 h7=>?_
    refine bg (Cr h6) λid sl ty=>?_
    obtain ⟨l1,hl1,ws,k,e,_⟩:=B.I.hs.all.get hc
    refine getMethod_builtin (eQ e).typeIs PySem.F.plainAttrs_list sl ty (λa ea=>by cases ea;exact ⟨_,e,rfl⟩) ?_
    refine nM S B F L h3 λR2 hp2 t2 us nx2 hus=>?_
    have B2:Be w aa n A R2 st2 (up s hp2 t2):=B.nx nx2
    obtain ⟨id',sl',_,z⟩:=lm_ok (Q:=Q) (E:=E) B2 (nx2.ext.cell hc) hl h6 hus λh' t' v nx3 hv=>hQ.ok h7 R2 h' t' v (nx2.trans nx3) hv
    cases w8 sl sl'
    exact ⟨xq,z⟩
   | none =>
    rw [hl] at h
    refine aC h λk hk h1=>ba h1 λhc h2=>?_
    cases dO hk
    refine bR hc λhx ha=>?_
    cases of_decide_eq_true hx
    cases jH.mp ha
    cases hu with | mk t =>
    exact getMethod_int_bit_length (cw0 xq (call_int_bit_length (hQ.ok h2 R s.heap _ _ (.refl B.I) (.int _ _))))
theorem sH {x:Str}{v:Mv}{r:Rs×St}(h:pB I sc lo as x v st=some r):(fm pos (bT as env)).all (!·.1)=true:=by
 unfold pB at h
 cases hm:xh v x with
 | some f=>rw [hm] at h;exact dW h λvs st2 h3 _=>(jy h3).2
 | none =>
  rw [hm] at h
  cases ha:qV v x with
  | some f=>rw [ha] at h;exact dW h λvs st2 h3 _=>(jy h3).2
  | none =>
   rw [ha] at h
   cases hl:gZ v with
   | some i=>rw [hl] at h;exact dW h λvs st2 h3 _=>(jy h3).2
   | none =>
    rw [hl] at h
    exact aC h λk hk h1=>ba h1 λhc h2=>bR hc λhx ha=>by cases jH.mp ha;rfl
theorem sU (S:cz n I)(mk:kK)(qk:mH)(it:iA I n){o:Expr}{x:Str}{ap:Pos}:kH (n+1) sc (.Call (.Attribute o x ap) as [] pos) (λlo st=>vN I sc lo st as pos (.att o x ap)):=by
 intro w aa A env m s R lo st r st' Q E B0 F L hf hQ
 have B:=B0.le (aW n)
 refine ba hf λhc g0=>dG g0 λv bA h1 h2=>bR hc λhline hc=>bR hc λhns hlen=>?_
 have few:gm (as.length+0) (fm pos (bT as env)) []=true:=by
  unfold gm
  rw [sH h2]
  have:=of_decide_eq_true hlen
  simp;exact au ‹_› (by decide)
 refine jq ((S.e sc o).use B F L h1 λR1 eU t1 u nx hu pl=>?_) (kE hns x env) few hline
 have B1:Be w aa (n+1) A R1 bA (up s eU t1):=B0.nx nx
 exact yj S mk qk it B1 (F.nx nx B.I) (L.nx nx B.I) hu h2 (hQ.nx nx)
end
section
variable {n:Nat}{I:ja}{w:World}{env:Env}{s:ae}{R:aD}{lo:Lo}{st bA:St}{a b:Mv}{u v:Value}
theorem uX (S:cz n I)(mk:kK)(qk:mH)(it:iA I n)(v:EV):kH (n+1) sc (.Call v.back as [] pos) (λlo st=>vN I sc lo st as pos v):=by
 cases v with
 | name=>exact sT S mk qk it
 | att=>exact sU S mk qk it
 | _=>exact λ_ _ _ _ _ _ _ _ _ _ _ _ _ _ _ _ hf=>nomatch hf
theorem BL (S:cz n I)(mk:kK)(qk:mH)(it:iA I n)(v:EV):kH (n+1) sc v.back (Bv I sc v):=by
 cases v with
 | name=>exact BR
 | const=>exact yU
 | bin=>exact yV S
 | una=>exact Fu S
 | boo=>exact BS S
 | cmp=>exact u5 S
 | ife=>exact yT S
 | att=>exact ro S
 | sub=>exact rn S
 | tup=>exact yR S
 | call f as ks pos =>
  intro w aa A env m s R lo st r st' Q E B F L hf hQ
  refine rG hf λhk h1=>?_
  cases hk
  rcases ji f with e | e
  ·rw [e] at h1;cases h1
  ·generalize jB f=v at e h1
   cases e
   exact uX S mk qk it v w aa A env m s R lo st r st' Q E B F L h1 hQ
 | _=>exact λ_ _ _ _ _ _ _ _ _ _ _ _ _ _ _ _ hf=>nomatch hf
theorem BO (S:cz n I)(mk:kK)(qk:mH)(it:iA I n)(sc:Scope)(x:Expr):kH (n+1) sc x (exE I sc x):=by
 show kH (n+1) sc x (Bv I sc (jB x))
 rcases ji x with e | e
 ·rw [e];exact λ_ _ _ _ _ _ _ _ _ _ _ _ _ _ _ _ hf=>nomatch hf
 ·have:=BL (sc:=sc) S mk qk it (jB x)
  rw [<- e] at this
  exact this
theorem qA.use {l:Expr}{f:Lo->St->Option (Bool×St)}{Q:Bool->ae->Prop}{r:Bool}(hl:qA n sc l f)(B:Be w aa n A R st s)(F:bZ env sc s.heap m)(L:ci R s.heap lo m)(hf:f lo st=some (r,bA))
  (k:∀ R1 h1 t1,Nx aa R s.heap R1 bA h1->Q r (up s h1 t1)):wpAny (Md w) A (isTrue l env (eval l env)) Q E s:=
 hl w aa A env m s R lo st r bA Q E B F L hf k
abbrev AA (I:ja)(sc:Scope)(e:Expr)(v:EV):Lo->St->Option (Bool×St):=λlo st=>exTV I sc lo st e v
theorem lp (S:cz n I){x:Expr}(he:∀ env oM,isTrue x env oM=(do let v <- oM;jQ x.pos;iF [v] (truthy v))):qA (n+1) sc x (λlo st=>fe (I.e sc x lo st) (mw I)):=by
 intro w aa A env m s R lo st r st' Q E B F L hf hQ
 have B:=B.le (aW n)
 refine dG hf λa bA h1 h2=>wpAny_isTrue_value ((S.e sc x).use B F L h1 λR1 eU t1 u nx hu=>?_) (he env _)
 have af:=Af.of (s1:=(up s eU t1)) B F L nx
 exact oY S af.B h2 hu λR2 hp2 t2 nx2=>hQ R2 hp2 t2 (nx.trans nx2)
theorem uW (S:cz n I){e l:Expr}{rs:List Expr}{op:CmpOp}:qA (n+1) sc (.Compare l [op] rs pos) (AA I sc e (.cmp l [op] rs pos)):=by
 intro w aa A env m s R lo st r' st' Q E B F L hf hQ
 have B:=B.le (aW n)
 refine j8 hf λr hr g0=>ba g0 λhb g1=>dG g1 λa bA h1 g2=>dG g2 λb st2 h2 h3=>?_
 cases hr
 refine j6 ((S.e sc l).use B F L h1 λR1 eU t1 u nx hu=>?_) (mT hb)
 have af:=Af.of (s1:=(up s eU t1)) B F L nx
 refine (S.e sc r).use af.B af.F af.L h2 λR2 hp2 t2 v nx2 hv=>?_
 have af2:=Af.of (s1:=(up s hp2 t2)) af.B af.F af.L nx2
 exact pn S af2.B h3 (hu.nx nx2 af.B.I) hv λR3 hp3 t3 nx3=>cH (hQ R3 hp3 t3 ((nx.trans nx2).trans nx3))
theorem yJ (S:cz n I){e l:Expr}{rs:List Expr}{op op2:CmpOp}:qA (n+1) sc (.Compare l [op,op2] rs pos) (AA I sc e (.cmp l [op,op2] rs pos)):=by
 intro w aa A env m s R lo st r' st' Q E B F L hf hQ
 have B:=B.le (aW n)
 refine lA hf λr r2 hr g0=>ba g0 λhb g1=>dG g1 λa bA h1 g2=>dG g2 λb st2 h2 g3=>dW g3 λt st3 h3 h4=>?_
 cases hr
 refine isTrue_chain ((S.e sc l).use B F L h1 λR1 eU t1 u nx hu=>?_) (by show lastMarks _ _=false;exact mT hb)
 have af:=Af.of (s1:=(up s eU t1)) B F L nx
 refine test_link ((S.e sc r).use af.B af.F af.L h2 λR2 hp2 t2 v nx2 hv=>?_)
 have af2:=Af.of (s1:=(up s hp2 t2)) af.B af.F af.L nx2
 refine pn S af2.B h3 (hu.nx nx2 af.B.I) hv λR3 hp3 t3 nx3=>cH ?_
 have af3:=Af.of (s1:=(up s hp3 t3)) af2.B af2.F af2.L nx3
 have nx':=(nx.trans nx2).trans nx3
 cases t with
 | true =>
  rw [if_pos rfl]
  refine dG h4 λc st4 h5 h6=>test_last ((S.e sc r2).use af3.B af3.F af3.L h5 λR4 hp4 t4 z nx4 hz=>?_)
  have af4:=Af.of (s1:=(up s hp4 t4)) af3.B af3.F af3.L nx4
  exact pn S af4.B h6 ((hv.nx nx3 af2.B.I).nx nx4 af3.B.I) hz λR5 hp5 t5 nx5=>cH (hQ R5 hp5 t5 ((nx'.trans nx4).trans nx5))
 | false =>
  rw [if_neg dD]
  cases h4
  exact hQ R3 hp3 t3 nx'
theorem Fo (S:cz n I){e x:Expr}{op:UnaryOp}:qA (n+1) sc (.UnaryOp op x pos) (AA I sc e (.una op x pos)):=by
 intro w aa A env m s R lo st r' st' Q E B F L hf hQ
 have B:=B.le (aW n)
 refine ba hf λho g0=>dW g0 λb bA h1 g1=>?_
 cases tS ho
 cases g1
 exact wpAny_isTrue_Not ((S.t sc x).use B F L h1 λR1 eU t1 nx=>hQ R1 eU t1 nx)
theorem uV (S:cz n I){op:BoolOp}:∀ {l:List Expr}{s:ae}{R:aD}{st st':St}{r:Bool}{Q:Bool->ae->Prop}{env:Env}{pos:Pos}{oM:Sem Value},Be w aa n A R st s->bZ env sc s.heap m->ci R s.heap lo m->Dw I sc op l lo st=some (r,st') ->
  (∀ R1 h1 t1,Nx aa R s.heap R1 st' h1->Q r (up s h1 t1))->wpAny (Md w) A (isTrue (.BoolOp op l pos) env oM) Q E s
 | [],s,R,st,st',r,Q,env,pos,oM,B,F,L,h,hQ=>by
  cases h
  cases op
  ·exact isTrue_and_nil (hQ R s.heap s.toks (.refl B.I))
  ·exact isTrue_or_nil (hQ R s.heap s.toks (.refl B.I))
 | x :: l,s,R,st,st',r,Q,env,pos,oM,B,F,L,h,hQ=>by
  refine dW (x:=I.t sc x lo st) (f:=λb st=>bif b == qR op then Dw I sc op l lo st else some (b,st)) h λb bA h1 h2=>?_
  cases op
  ·refine isTrue_and ((S.t sc x).use B F L h1 λR1 eU t1 nx=>?_)
   have af:=Af.of (s1:=(up s eU t1)) B F L nx
   cases b with
   | true=>exact uV S af.B af.F af.L h2 λR2 hp2 t2 nx2=>hQ R2 hp2 t2 (nx.trans nx2)
   | false=>cases h2;exact hQ R1 eU t1 nx
  ·refine isTrue_or ((S.t sc x).use B F L h1 λR1 eU t1 nx=>?_)
   have af:=Af.of (s1:=(up s eU t1)) B F L nx
   cases b with
   | false=>exact uV S af.B af.F af.L h2 λR2 hp2 t2 nx2=>hQ R2 hp2 t2 (nx.trans nx2)
   | true=>cases h2;exact hQ R1 eU t1 nx
theorem yK (S:cz n I)(v:EV):qA (n+1) sc v.back (AA I sc v.back v):=by
 cases v with
 | cmp l ops rs p =>
  cases ops with
  | nil=>exact λ_ _ _ _ _ _ _ _ _ _ _ _ _ _ _ _ hf=>nomatch hf
  | cons op ops=>cases ops with
   | nil=>exact uW S
   | cons op2 ops=>cases ops with
    | nil=>exact yJ S
    | cons=>exact λ_ _ _ _ _ _ _ _ _ _ _ _ _ _ _ _ hf=>nomatch hf
 | una=>exact Fo S
 | boo=>exact λw aa A env m s R lo st r st' Q E B F L hf hQ=>uV S (B.le (aW n)) F L hf hQ
 | name=>exact lp S λ_ _=>rfl
 | call=>exact lp S λ_ _=>rfl
 | att=>exact lp S λ_ _=>rfl
 | bin=>exact lp S λ_ _=>rfl
 | const=>exact lp S λ_ _=>rfl
 | _=>exact λ_ _ _ _ _ _ _ _ _ _ _ _ _ _ _ _ hf=>nomatch hf
theorem BM (S:cz n I)(sc:Scope)(x:Expr):qA (n+1) sc x (exT I sc x):=by
 show qA (n+1) sc x (AA I sc x (jB x))
 rcases ji x with e | e
 ·rw [e];exact λ_ _ _ _ _ _ _ _ _ _ _ _ _ _ _ _ hf=>nomatch hf
 ·have:=yK (sc:=sc) S (jB x)
  rw [<- e] at this
  exact this
end
section
variable {n:Nat}{I:ja}{w:World}{env:Env}{s:ae}{R:aD}{lo:Lo}{st bA:St}{a b:Mv}{u v:Value}{L:Addr}
theorem bZ.cl {C:List Addr}(F:bZ env sc h m)(cl:CL C h):CL (env.locals :: C) h:=by
 refine qa F.at_ λo es ep e c d _=>?_
 intro c hc
 rcases aq.mp hc with rfl | hc
 ·exact ⟨o,e,.inr (by assumption),λvs q=>by rw [d] at q;cases q⟩
 ·exact cl c hc
theorem oW.of (nx:Nx aa R h R' st' h'):oW L aa R h R' st' h':=⟨nx.ext,nx.inv,nx.keep.mono λ_ q=>.tail _ q⟩
theorem oW.trans {R'':aD}{st'':St}(x:oW L aa R h R' st' h')(y:oW L aa R' h' R'' st'' h''):oW L aa R h R'' st'' h'':=by
 have e:=x.ext
 have e':=y.ext
 subst e
 subst e'
 exact ⟨rfl,y.inv,x.keep.trans y.keep⟩
theorem V.nxL (x:oW env.locals aa R h R' st' h')(i:nQ aa R st h)(F:bZ env sc h m)(y:V R h a u):V R' h' a u:=y.keep x.keep (F.cl i.cl) x.ext
theorem Bw.nxL (x:oW env.locals aa R h R' st' h')(i:nQ aa R st h)(F':bZ env sc h' m')(s:Bw aa A h):Bw aa A h':=by
 refine dJ s λouter e f k=>?_
 refine ⟨outer,e,FunFrames.keep x.keep (F'.cl (λc hc=>x.inv.cl c (x.ext.sub c hc))) (λc hc=>?_) f,λL hL=>?_⟩
 rotate_left
 ·refine dJ (k L hL) λo e1 c1 d1=>?_
  by_cases q:L=env.locals
  ·subst q
   refine qa F'.at_ λo es ep e c d _=>?_
   exact ⟨o,e,c,λvs q=>by rw [d] at q;cases q⟩
  ·obtain ⟨sl,e2⟩:=x.keep L o (λz=>(aq.mp z).elim q (i.hs.notFrame e1 c1)) e1 d1
   exact ⟨_,e2,c1,d1⟩
 rcases aq.mp hc with rfl | hc
 ·refine qa F'.at_ λo es ep e c d _=>?_
  exact ⟨o,e,λvs q=>by rw [d] at q;cases q⟩
 ·exact x.inv.hs.nofields c (x.ext.sub c hc)
theorem Be.nxL (B:Be w aa n A R st s)(x:oW env.locals aa R s.heap R' st' s'.heap)(F':bZ env sc s'.heap m'):Be w aa n A R' st' s':=⟨B.G,B.O,B.S.nxL x B.I F',x.inv⟩
theorem Be.off (B:Be w aa n A R st s)(T:iU A env)(F:bZ env sc s.heap m):aa.get? env.locals=ac:=by
 refine dJ B.S λouter e f _=>?_
 obtain ⟨outer',e'⟩:=T
 rw [e] at e';cases e'
 refine C2 f λ_ y8 _=>?_;refine xI y8 λL o hf hn _=>?_
 rw [F.frame] at hf;cases hf
 exact hn
theorem F0 (F:bZ env sc h m):uP h env.locals m:=F.at_
theorem gx {x:Str}{Q:Unit->ae->Prop}(B:Be w aa n A R st s)(T:iU A env)(F:bZ env sc s.heap m)(Lo:ci R s.heap lo m)(hl:dY sc x=true)(hu:V R s.heap a u)
  (k:∀ h' t' m',oW env.locals aa R s.heap R st h'->bZ env sc h' m'->ci R h' (put lo x a) m'->Q () (up s h' t')):wpAny (Md w) A (jz env x u) Q E s:=by
 refine pF (by show env.scope.names.lookup x=_;rw [F.sce];simpa [dY] using hl) (by rw [F.sce];exact F.kind) (F0 F) λh' ns sb=>?_
 have kp:dQ (env.locals :: R.cells) s.heap h':=λb o hb e _=>⟨o.slots,(sb.2 b λq=>hb (q▸.head _)).trans e⟩
 have cl:=F.cl B.I.cl
 have off:=B.off T F
 have inv:nQ aa R st h':=by
  refine ⟨λb o e=>(sb.2 b λq=>by rw [q,off] at e;cases e).trans (B.I.base b o e),B.I.off,B.I.still0,⟨B.I.hs.nodup,.of_get B.I.hs.all.length λj c l ec el=>?_⟩⟩
  refine cB (B.I.cell ec el) λvs k' e' y=>?_
  have hne:c≠env.locals:=λq=>F.off B.I.hs (q▸fK ec)
  exact ⟨vs,k',(sb.2 c hne).trans e',y.imp λ_ _ z=>z.keep kp cl (.refl s.heap R)⟩
 obtain ⟨h1,h2,h3,h4,h5,h6,_⟩:=F
 refine k h' _ _ ⟨rfl,inv,kp⟩ ⟨h1,h2,h3,h4,h5,h6,ns⟩ λy z hz=>?_
 unfold put at hz
 by_cases e:y=x
 ·rw [if_pos e] at hz;cases hz
  exact ⟨u,by simp [e],hu.keep kp cl (.refl s.heap R)⟩
 ·rw [if_neg e] at hz
  refine bg (Lo y z hz) λu' a1 a2=>?_
  exact ⟨u',by simp [e,a1],a2.keep kp cl (.refl s.heap R)⟩
theorem ci.nxL (x:oW env.locals aa R h R' st' h')(i:nQ aa R st h)(F:bZ env sc h m)(l:ci R h lo m):ci R' h' lo m:=λy v e =>
 bg (l y v e) λu a b=>⟨u,a,b.nxL x i F⟩
theorem yb.nxL {r:Fl}{Q:Flow->ae->Prop}{eU:Heap}{t1:Nat}(hQ:yb env sc aa R s r lo' st' Q E)(nx:oW env.locals aa R s.heap R' bA eU):yb env sc aa R' (up s eU t1) r lo' st' Q E:=λR2 hp2 t2 m2 nx2 F2 L2=>by
 have:=hQ R2 hp2 t2 m2 (nx.trans nx2) F2 L2
 cases r<;>exact this
def lh (k:Nat)(sc:Scope)(x:Stmt)(f:Lo->St->Option (Fl×Lo×St)):Prop:=
 ∀ (w:World) (aa:Heap) (A:aw) (env:Env) (m:Str->Option Value) (s:ae) (R:aD) (lo:Lo) (st:St) (r:Fl) (lo':Lo) (st':St) (Q:Flow->ae->Prop) (E:Value->ae->Prop),
  Be w aa k A R st s->iU A env->bZ env sc s.heap m->ci R s.heap lo m->f lo st=some (r,lo',st')->yb env sc aa R s r lo' st' Q E->wpAny (Md w) A (exec x env) Q E s
theorem vV (S:cz n I){e:Expr}{g:Mv->St->Option (Fl×Lo×St)}{r:Fl}(B:Be w aa n A R st s)(F:bZ env sc s.heap m)(L:ci R s.heap lo m)(hf:Ht (I.e sc e lo st) lo g=some (r,lo',st'))
  (ok:∀ v bA,g v bA=some (r,lo',st')->∀ R1 h1 t1 u,Nx aa R s.heap R1 bA h1->V R1 h1 v u->Q u (up s h1 t1))
  (er:r=.err->lo'=lo->∀ R1 h1 t1 e,Nx aa R s.heap R1 st' h1->DC aa e h1->E (.ref e) (up s h1 t1)):wpAny (Md w) A (eval e env) Q E s:=by
 refine aC hf λp h1 h2=>?_
 obtain ⟨r1,bA⟩:=p
 cases r1 with
 | ok v=>exact S.e sc e w aa A env m s R lo st (.ok v) bA Q E B F L h1 λR1 eU t1 nx u hu=>ok v bA h2 R1 eU t1 u nx hu
 | err =>
  refine pj3 h2 λy11a y11b y11c=>?_;subst y11a;subst y11b;subst y11c
  exact S.e sc e w aa A env m s R lo st .err _ Q E B F L h1 λR1 eU t1 nx e he=>er rfl rfl R1 eU t1 e nx he
theorem yb.nxt {f:Fl}{lo1:Lo}{r:Fl}{Q:Flow->ae->Prop}(hQ:yb env sc aa R s r lo' st' Q E)(h:some (f,lo1,bA)=some (r,lo',st')):yb env sc aa R s f lo1 bA Q E:=by cases h;exact hQ
theorem yb.raise {r:Fl}{Q:Flow->ae->Prop}(B:Be w aa n A R st s)(F:bZ env sc s.heap m)(L:ci R s.heap lo m)(hQ:yb env sc aa R s r lo' st' Q E)(e1:r=.err)(e2:lo'=lo) :
  ∀ R1 h1 t1 e,Nx aa R s.heap R1 st' h1->DC aa e h1->E (.ref e) (up s h1 t1):=by
 subst e1 e2
 exact λR1 h1 t1 e nx he=>hQ R1 h1 t1 m (.of nx) (F.nx nx B.I) (L.nx nx B.I) e (.inl he)
theorem wU (S:cz n I){e:Option Expr}:lh n sc (.Return e pos) (nk I sc (.Return e pos)):=by
 intro w aa A env m s R lo st r lo' st' Q E B T F L hf hQ
 refine aC hf λe he g=>?_
 subst he
 exact cV (vV S B F L g (λv bA h2 R1 h1 t1 u nx hu=>hQ.nxt h2 R1 h1 t1 m (.of nx) (F.nx nx B.I) (L.nx nx B.I) u hu) (hQ.raise B F L))
theorem lX {e:Expr}(h:gP e=true)(t:Option Expr)(l:Nat)(env:Env):swapsWith e t l env=pure false:=
 rI (P:=λe=>swapsWith e t l env=pure false) h λv h=>by cases v<;>first | rfl | cases h
theorem BE (S:cz n I){e:Expr}:lh n sc (.Expr e pos) (nk I sc (.Expr e pos)):=by
 intro w aa A env m s R lo st r lo' st' Q E B T F L hf hQ
 refine ba hf λhs g=>dG g λv bA h1 h2=>?_
 refine wpAny_Expr_any ((S.e sc e).use B F L h1 λR1 eU t1 u nx hu=>hQ.nxt h2 R1 eU t1 m (.of nx) (F.nx nx B.I) (L.nx nx B.I)) ?_ (lX hs _ _ _)
 unfold kU
 rw [F.sce,F.kind];rfl
abbrev Hb (I:ja)(sc:Scope)(e:Expr)(v:EV):Lo->St->Option (Fl×Lo×St):=λlo st=>Hc I sc lo st e v
theorem wV (S:cz n I){x:Str}{e:Expr}(hs:gP e=true):lh n sc (.Assign [.Name x xp] e pos) (Hb I sc e (.name x xp)):=by
 intro w aa A env m s R lo st r lo' st' Q E B T F L hf hQ
 refine ba hf λhl g=>cJ (vV S B F L g (λv bA h2 R1 h1 t1 u nx hu=>?_) (hQ.raise B F L)) (lX hs _ _ _)
 have af:=Af.of (s1:=(up s h1 t1)) B F L nx
 exact gx af.B T af.F af.L hl hu λh' t' m' nx2 F2 L2=>hQ.nxt h2 R1 h' t' m' ((oW.of nx).trans nx2) F2 L2
theorem Fb (S:cz n I){x:Str}{op:mZ}{e:Expr}(hl:dY sc x=true)(ho:Gu op=true):lh n sc (.AugAssign (.Name x xp) op e pos) (λlo st=>(lo x).bind λa=>fe (I.e sc e lo st) λb st=>(bin op a b).bind λv=>some (.next,put lo x v,st)):=by
 intro w aa A env m s R lo st r lo' st' Q E B T F L hf hQ
 refine aC hf λa ha g0=>dG g0 λb bA h1 g1=>aC g1 λc hc h2=>?_
 refine bg (L x a ha) λu hm hV=>?_
 refine wpAny_AugAssign_Name (bL (by rw [F.sce];exact F.kind) (by show env.scope.names.lookup x=_;rw [F.sce];simpa [dY] using hl) F.ns hm ?_)
 refine (S.e sc e).use B F L h1 λR1 eU t1 u2 nx hu2=>?_
 have af:=Af.of (s1:=(up s eU t1)) B F L nx
 have hV1:=hV.nx nx B.I
 have fin:∀ t' r,V R1 eU c r->wpAny (Md w) A (jz env x r) (λ_=>Q .next) E (up s eU t'):=λt' r hr =>
  gx (af.B.toks t') T af.F af.L hl hr λh' t' m' nx2 F2 L2=>hQ.nxt h2 R1 h' t' m' ((oW.of nx).trans nx2) F2 L2
 clear h2 hQ g0 g1 hf
 refine aC hc λi hi g=>aC g λj hj g=>?_
 cases dO hi;cases dO hj
 cases hV1;cases hu2
 cases op with
 | Add=>cases g;exact iadd_int (fin _ _ (.int _ _))
 | Sub=>cases g;exact isub_int (fin _ _ (.int _ _))
 | _=>cases ho
end
def lR (S:List Addr)(h h':Heap):Prop:=∀ b o,h.get? b=some o->(∀ vs,o.data≠.fields vs)->(b∉S->h'.get? b=some o)/\∃ sl,h'.get? b=some { o with slots:=sl }
theorem lR.trans {S:List Addr}(x:lR S h h')(y:lR S h' h''):lR S h h'':=λb o e n=>by
 obtain ⟨a1,sl,a2⟩:=x b o e n
 refine ⟨λq=>(y b o (a1 q) n).1 q,?_⟩
 exact (y b _ a2 n).2
theorem lR.of {S:List Addr}(k:∀ b o,h.get? b=some o->(∀ vs,o.data≠.fields vs)->h'.get? b=some o):lR S h h':=λb o e n=>⟨λ_=>k b o e n,o.slots,k b o e n⟩
theorem lR.keep {S C:List Addr}(x:lR S h h'):dQ C h h':=λb o _ e n=>(x b o e n).2
def Trc (aa:Heap)(l:List Env)(e:Addr)(fl:Value)(h h':Heap):Prop:=
 aa.StaysIn h'/\h'.FunFrames aa l/\(∃ a0,h'.TracedAtW aa e (.type "ValueError") a0 fl)/\lR (l.filterMap (·.frame)) h h'
section
variable {M:Model}{n:Nat}{I:ja}{w:World}{env:Env}{outer:List Env}{s:ae}{R:aD}{lo:Lo}{st bA:St}{a b:Mv}{u v:Value}{L e:Addr}
theorem uj {oe:Obj}{vs:Array Value}{head a0:Value}{hadNext:Bool}{Q:Unit->ae->Prop}(hfr:A.frames=some (env :: outer))(hl:s.heap.FunFrames aa (env :: outer))(hf:env.frame=some L)
  (he:s.heap.get? e=some oe) (hc:oe.cls=.type "ValueError") (hkb:aa.StaysIn s.heap) (hen:aa.get? e=ac) (hd:oe.data=.fields vs) (hsz:1 < vs.size) (h0:vs[0]? = some a0)
  (h:∀ h',Trc aa (env :: outer) e (fG L) s.heap h'->Q () { s with heap:=h' }) :
  wpAny M A (do let a <- frameOf env;let pl <- entryPlaceOf L hadNext;let b <- EntryCells.newEntry head a .none (fG L) .none pl;setField (.ref e) 1 b) Q E s:=by
 have hene:e∉(env :: outer).filterMap (·.frame):=λhm=>by
  obtain ⟨_,o,ho,hnf⟩:=hl.mem hm
  rw [he] at ho;cases ho;exact hnf vs hd
 refine ag (wpAny_frameOf_fun hfr hl hf λg gs=>?_)
 refine ag (wpAny_entryPlaceOf λpl hpl=>?_)
 unfold EntryCells.newEntry newFields
 refine ag (g9 ?_ (hpl.sizeOk5 _ _ _ _ _))
 generalize hT:({ cls:=.type "traceback",dict:=ac,data:=.fields ([head,.ref L,.none,fG L,.none]++(if pl.isEmpty then List.replicate 6 gL else pl)).toArray }:Obj)=oT
 have ge:g.get? e=some oe:=(gs.2.1 e hene).trans he
 have gb:aa.StaysIn g:=λb o hb=>(gs.2.1 b λhm=>by rw [(hl.mem hm).1] at hb;cases hb).trans (hkb b o hb)
 have ge2:(g.push oT).get? e=some oe:=ak _ ge
 refine wpAny_setField ge2 hd hsz (h _ ?_)
 have hTe:g.objs.size≠e:=fJ (bp ge)
 have hd3:=Obj.data_mapFields hd (·.setIfInBounds 1 (df g.objs.size))
 have ge3:=fL (Obj.mapFields (·.setIfInBounds 1 (df g.objs.size))) ge2 (Obj.isFreed_of_fields hd3)
 have gT:=(gN (g.push oT) (Obj.mapFields (·.setIfInBounds 1 (df g.objs.size))) (cb hTe)).trans (ar g (by subst hT;rfl))
 have kp:∀ b o,b≠e->g.get? b=some o->((g.push oT).update e (Obj.mapFields (·.setIfInBounds 1 (df g.objs.size)))).get? b=some o:=λb o hbe hb=>by
  rw [gN _ _ (cb hbe)]
  exact ak _ hb
 have nr:∀ b o,s.heap.get? b=some o->(∀ vs,o.data≠.fields vs)->b≠e:=λb o hb hn q=>by
  subst q;rw [he] at hb;cases hb;exact hn vs hd
 refine ⟨λb o hb=>kp b o (λq=>by rw [q,hen] at hb;cases hb) (gb b o hb),hl.of_keeps λb o hb hn=>?_,⟨a0,?_⟩,λb o hb hn=>⟨λhS=>?_,?_⟩⟩
 ·obtain ⟨sl,hs⟩:=gs.2.2 b o hb
  exact ⟨_,kp b _ (nr b o hb hn) hs,rfl⟩
 ·exact ⟨_,_,g.objs.size,_,_,ge3,⟨(Obj.cls_mapFields _ _).trans hc,by rw [Array.getElem?_setIfInBounds_ne (by decide)];exact h0⟩,hd3,by simp [hsz],gb.fresh,hTe,gT,by subst hT;rfl,
   by first | (exact ey ..;done) | (rcases hpl with rfl | ⟨_,_,_,_,_,_,_,rfl⟩<;>simp)⟩
 ·exact kp b o (nr b o hb hn) ((gs.2.1 b hS).trans hb)
 ·obtain ⟨sl,hs⟩:=gs.2.2 b o hb
  exact ⟨sl,kp b _ (nr b o hb hn) hs⟩
theorem wh {Q:Unit->ae->Prop}(hfr:A.frames=some (env :: outer))(hl:s.heap.FunFrames aa (env :: outer))(hf:env.frame=some L)(hkb:aa.StaysIn s.heap)(he:DC aa e s.heap\/Bm aa e s.heap)
  (h:∀ h',Trc aa (env :: outer) e (fG L) s.heap h'->Q () { s with heap:=h' }):wpAny M A (dq (.ref e) env) Q E s:=by
 unfold dq
 rw [hf]
 rcases he with ⟨hen,a0,oe,vs,T,oT,ts,he,⟨hcls,h0⟩,hd,h1,hnT,hTe,hT,hdT,h3⟩ | ⟨hen,oe,vs,a0,he,hcls,hd,h1,h0⟩
 ·refine ag (kP he hd h1 ?_)
  rw [if_pos (show (df T != gL)=true from by rfl)]
  refine ag (kP hT hdT h3 ?_)
  rw [if_neg (show ¬ ((gL == fG L)=true) from by simp [fG])]
  refine ag (wpAny_setField hT hdT (aZ.mp h3).1 ?_)
  have other:∀ b,b≠T->(s.heap.update T (Obj.mapFields (·.setIfInBounds 3 gL))).get? b=s.heap.get? b:=λb hb=>gN _ _ (cb hb)
  have nr:∀ b o,s.heap.get? b=some o->(∀ vs,o.data≠.fields vs)->b≠T:=λb o hb hn q=>by
   subst q;rw [hT] at hb;cases hb;exact hn ts hdT
  refine uj hfr (hl.of_keeps λb o hb hn=>⟨o,(other b (nr b o hb hn)).trans hb,rfl⟩) hf ((other e (cb hTe)).trans he) hcls
   (λb o hb=>(other b λq=>by rw [q,hnT] at hb;cases hb).trans (hkb b o hb)) hen hd (aZ.mp h1).1 h0 λh' ⟨x1,x2,x3,x4⟩=>h h' ⟨x1,x2,x3,?_⟩
  exact (lR.of λb o hb hn=>(other b (nr b o hb hn)).trans hb).trans x4
 ·refine ag (kP he hd h1 ?_)
  rw [if_neg (by decide)]
  exact uj hfr hl hf he hcls hkb hen hd (aZ.mp h1).1 h0 h
theorem oB {l:List Env}{fl a0:Value}{Q:Unit->ae->Prop}(hkb:aa.StaysIn s.heap)(hl:s.heap.FunFrames aa l)(ht:s.heap.TracedAtW aa e (.type "ValueError") a0 fl)
  (h:∀ h',Trc aa l e .none s.heap h'->Q () { s with heap:=h' }):wpAny M A (setFlight (.ref e) ac) Q E s:=
 wpAny_setFlight_noneW hkb hl ht λh' x1 x2 x3 x4=>h h' ⟨x1,x2,⟨a0,x3⟩,.of x4⟩
theorem tK {Q:Unit->ae->Prop}(hfr:A.frames=some (env :: outer))(hl:s.heap.FunFrames aa (env :: outer))(hf:env.frame=some L)(hkb:aa.StaysIn s.heap)(he:DC aa e s.heap\/Bm aa e s.heap)
  (h:∀ h',Trc aa (env :: outer) e .none s.heap h'->Q () { s with heap:=h' }):wpAny M A (nW env (.ref e)) Q E s:=by
 unfold nW
 refine ag (wh hfr hl hf hkb he λh' ⟨x1,x2,⟨a0,x3⟩,x4⟩=>?_)
 exact oB (s:={ s with heap:=h' }) x1 x2 x3 λh'' ⟨y1,y2,y3,y4⟩=>h h'' ⟨y1,y2,y3,x4.trans y4⟩
theorem nQ.trc {S:List Addr}(i:nQ aa R st h)(k:lR S h h')(b:aa.StaysIn h')(hS:∀ c∈R.cells,c∉S):nQ aa R st h':=by
 refine ⟨b,i.off,i.still0,⟨i.hs.nodup,.of_get i.hs.all.length λj c l ec el=>?_⟩⟩
 refine cB (i.cell ec el) λvs n e y=>?_
 exact ⟨vs,n,(k c _ e (by simp)).1 (hS c (fK ec)),y.imp λ_ _ z=>z.keep k.keep i.cl (.refl h R)⟩
theorem Bq.off {l:List Env}(f:Bq h l)(i:Hs R st h):∀ c∈R.cells,c∉l.filterMap (·.frame):=λc hc q=>by
 refine dJ (f c q) λo e k _=>?_
 exact i.notFrame e k hc
end
section
variable {n:Nat}{I:ja}{w:World}{env:Env}{s:ae}{R:aD}{lo:Lo}{st bA:St}{a b:Mv}{u v:Value}
theorem sx_If (S:cz n I){t:Expr}{b o:List Stmt}:lh n sc (.If t b o pos) (nk I sc (.If t b o pos)):=by
 intro w aa A env m s R lo st r lo' st' Q E B T F L hf hQ
 refine dW (f:=λc st=>bif c then I.s sc b lo st else I.s sc o lo st) hf λc bA h1 h2=>wpAny_If ((S.t sc t).use B F L h1 λR1 eU t1 nx=>?_)
 have af:=Af.of (s1:=(up s eU t1)) B F L nx
 cases c with
 | true=>exact S.s sc b w aa A env m _ R1 lo bA r lo' st' Q E af.B T af.F af.L h2 (hQ.nxL (.of nx))
 | false=>exact S.s sc o w aa A env m _ R1 lo bA r lo' st' Q E af.B T af.F af.L h2 (hQ.nxL (.of nx))
theorem wW (S:cz n I){t:Expr}{mm:Option Expr}:lh n sc (.Assert t mm pos) (nk I sc (.Assert t mm pos)):=by
 intro w aa A env m s R lo st r lo' st' Q E B T F L hf hQ
 refine dW (f:=λc st=>dS c (some (Fl.next,lo,st))) hf λc bA h1 h2=>ba h2 λhc h3=>?_
 subst hc
 exact wpAny_Assert_holds ((S.t sc t).use B F L h1 λR1 eU t1 nx=>⟨rfl,hQ.nxt h3 R1 eU t1 m (.of nx) (F.nx nx B.I) (L.nx nx B.I)⟩)
theorem BD:lh n sc (.Pass pos) (nk I sc (.Pass pos)):=by
 intro w aa A env m s R lo st r lo' st' Q E B T F L hf hQ
 exact wpAny_Pass (hQ.nxt hf R s.heap s.toks m (.of (.refl B.I)) F L)
theorem zy {x:Option (Fl×Lo×St)}{p:Fl×Lo×St}(h:Ed x=some p):x=some p/\p.1≠.err:=by
 refine aC h λq hq g=>?_
 obtain ⟨f,l⟩:=q
 cases f with
 | err=>cases g
 | _=>cases g;exact ⟨hq,nofun⟩
theorem yw (S:cz n I){t:Expr}{b o:List Stmt}:lh n sc (.While t b o pos) (nk I sc (.While t b o pos)):=by
 intro w aa A env m s R lo st r lo' st' Q E B T F L hf hQ
 refine rG hf λho g=>?_
 subst ho
 have hw:=zy g
 have hQ':yb env sc aa R s r lo' st' Q (λ_ _=>False):=λR1 eU t1 m1 nx F1 L1=>by
  have:=hQ R1 eU t1 m1 nx F1 L1
  cases r<;>first | exact this | exact absurd rfl hw.2
 exact wpAny_While (codeAny_mono (S.w sc t b w aa A env m s R lo st r lo' st' Q B T F L hw.1 hQ') λr s' h=>by cases r<;>first | exact h | exact h.elim)
theorem mM {t:Addr}{u1 u2:Value}{Q:List Value->ae->Prop}{E:Value->ae->Prop}(B:Be w aa n A R st s)(o:eH s.heap t (BC u1 u2))(q:∀ h',(Sb s.heap h')->Q [u1,u2] { s with heap:=h' }) :
  wpAny (Md w) A (unpackItems (.ref t) 2 ac) Q E s:=by
 obtain ⟨sl,o⟩:=o
 have ht:IsTup s.heap t #[u1,u2]:=⟨_,o,rfl,0,rfl⟩
 exact unpackItems_tuple (items:=#[u1,u2]) B.O.handled ht λh' x=>q h' λb o e=>x b o (bV (bp e)) e
theorem put2 {x y:Str}(h:x≠y)(lo:Lo)(a b:Mv):put (put lo y b) x a=put (put lo x a) y b:=by
 funext z
 unfold put
 by_cases h1:z=x
 ·subst h1;simp [h]
 ·simp [h1]
theorem rL {α:Type}{c:Prop}[Decidable c]{a b x:α}(ha:a=x)(hb:b=x):(if c then a else b)=x:=by
 by_cases h:c
 ·exact (if_pos h).trans ha
 ·exact (if_neg h).trans hb
theorem rK {α:Type}{c:Prop}[Decidable c]{a b x y:α}(ha:a=x\/a=y)(hb:b=x\/b=y):(if c then a else b)=x\/(if c then a else b)=y:=by
 by_cases h:c
 ·rw [if_pos h];exact ha
 ·rw [if_neg h];exact hb
theorem sN {x y:Str}{k:Nat}{e:Expr}(hk:env.blockKind=.function)(hx:env.kindOf x=some .local)(hy:env.kindOf y=some .local)(hne:x≠y)(ht:sI e=true) :
  fB [.Tuple [.Name x xp,.Name y yp] k tp] e env=pure ac\/fB [.Tuple [.Name x xp,.Name y yp] k tp] e env=pure (some [x,y]):=by
 cases e with
 | Tuple vs k2 p2 =>
  have ht:=mT ht
  unfold fB
  dsimp only
  refine rK (.inl rfl) (rK (.inl rfl) ?_)
  generalize hN:List.filterMap _ [Expr.Name x xp,Expr.Name y yp]=N
  have e:N=x :: (bif yp.line == xp.line then [y] else []):=by
   have eU:(Expr.Name x xp).pos=xp:=rfl
   rw [<- hN]
   simp only [j7,List.filterMap_nil,hx,hy,List.head?_cons,Option.map_some,Option.getD_some,eU,beq_self_eq_true,Bool.true_and,if_true]
   cases (yp.line == xp.line)<;>rfl
  rw [e]
  cases (yp.line == xp.line) with
  | false=>exact .inl rfl
  | true =>
   refine rK (.inl rfl) (rK (.inl rfl) ?_)
   rw [ht]
   exact .inr rfl
 | _=>exact .inl rfl
theorem sK:lh n sc (.Continue pos) (nk I sc (.Continue pos)):=by
 intro w aa A env m s R lo st r lo' st' Q E B T F L hf hQ
 exact ag (bl (aj (hQ.nxt hf R s.heap s.toks m (.of (.refl B.I)) F L)))
theorem yy {x y:Str}{e:Expr}:fB [.Name x xp,.Name y yp] e env=pure ac:=by cases e<;>rfl
theorem BF (S:cz n I){x y:Str}{e:Expr}(hx:dY sc x=true)(hy:dY sc y=true) :
  lh n sc (.Assign [.Name x xp,.Name y yp] e pos) (λlo st=>fe (I.e sc e lo st) λv st=>some (.next,put (put lo x v) y v,st)):=by
 intro w aa A env m s R lo st r lo' st' Q E B T F L hf hQ
 refine dG hf λv bA h1 h2=>?_
 rw [exec_Assign]
 refine ag (bl (ag (m:=kM [.Name x xp,.Name y yp] e pos.line env) (gC (a:=false) rfl ?_)))
 refine wq (if_neg dD) ?_
 refine ag ((S.e sc e).use B F L h1 λR1 eU t1 u nx hu=>?_)
 rw [yy]
 refine ag (aj ?_)
 have af:=Af.of (s1:=(up s eU t1)) B F L nx
 refine ag (ag (aX (assign_Name (gx af.B T af.F af.L hx hu λh3 t3 m3 nx3 F3 L3=>?_))))
 refine assign_Name (gx (af.B.nxL (s':=(up s h3 t3)) nx3 F3) T F3 L3 hy (hu.nxL nx3 af.B.I af.F) λh4 t4 m4 nx4 F4 L4=>aj ?_)
 exact hQ.nxt h2 R1 h4 t4 m4 (((oW.of nx).trans nx3).trans nx4) F4 L4
theorem yn {x y:Str}{va vb:Mv}{ua ub:Value}{Q:Unit->ae->Prop}(B:Be w aa n A R st s)(T:iU A env)(F:bZ env sc s.heap m)(L:ci R s.heap lo m)(hx:dY sc x=true)(hy:dY sc y=true)(ha:V R s.heap va ua)(hb:V R s.heap vb ub)
  (k:∀ h' t' m',oW env.locals aa R s.heap R st h'->bZ env sc h' m'->ci R h' (put (put lo x va) y vb) m'->Q () (up s h' t')):wpAny (Md w) A (jz env x ua) (λ_ s'=>wpAny (Md w) A (jz env y ub) Q E s') E s:=
 gx B T F L hx ha λh3 t3 m3 nx3 F3 L3=>gx (B.nxL (s':=(up s h3 t3)) nx3 F3) T F3 L3 hy (hb.nxL nx3 B.I F) λh4 t4 m4 nx4 F4 L4=>k h4 t4 m4 (nx3.trans nx4) F4 L4
theorem E7 (S:cz n I){x y:Str}{e:Expr}{k:Nat}(hs:gP e=true)(ht:sI e=true)(hne:x≠y)(hx:dY sc x=true)(hy:dY sc y=true) :
  lh n sc (.Assign [.Tuple [.Name x xp,.Name y yp] k tp] e pos) (λlo st=>fe (I.e sc e lo st) λv st=>(lN v).bind λp=>some (.next,put (put lo x p.1) y p.2,st)):=by
 intro w aa A env m s R lo st r lo' st' Q E B T F L hf hQ
 refine dG hf λv bA h1 g=>aC g λp hp h2=>?_
 cases oI hp
 have kx:env.kindOf x=some .local:=by show env.scope.names.lookup x=_;rw [F.sce];simpa [dY] using hx
 have ky:env.kindOf y=some .local:=by show env.scope.names.lookup y=_;rw [F.sce];simpa [dY] using hy
 have kb:env.blockKind=.function:=by unfold Env.blockKind;rw [F.sce,F.kind];rfl
 have hw:=sN (k:=k) (xp:=xp) (yp:=yp) (tp:=tp) (e:=e) kb kx ky hne ht
 have sw:kM [.Tuple [.Name x xp,.Name y yp] k tp] e pos.line env=pure false:=by unfold kM;exact lX hs _ _ _
 have run:∀ {Q2:Value->ae->Prop},(∀ R1 h1 t1 t u1 u2,eH h1 t (BC u1 u2)->Nx aa R s.heap R1 bA h1->V R1 h1 p.1 u1->V R1 h1 p.2 u2->Q2 (.ref t) (up s h1 t1))->wpAny (Md w) A (eval e env) Q2 E s:=λq =>
  (S.e sc e).use B F L h1 λR1 eU t1 u nx hu=>by cases hu with | mk o pa pb=>exact q R1 eU t1 _ _ _ o nx pa pb
 rcases hw with hw | hw
 ·refine Assign_Tuple (run λR1 eU t1 t u1 u2 o nx pa pb=>?_) sw hw
  have af:=Af.of (s1:=(up s eU t1)) B F L nx
  rw [assign_Tuple]
  refine ag (bl (ag (aX (mM af.B o λh2' kk=>?_))))
  have nx2:=dQ.nx kk af.B.I
  have af2:=Af.of (s1:=(up s h2' t1)) af.B af.F af.L nx2
  show wpAny _ _ (do iF _ (fy (.Name x xp) env _);do iF _ (fy (.Name y yp) env _);pure ()) _ _ _
  refine ag (aX (assign_Name (aR (yn af2.B T af2.F af2.L hx hy (pa.nx nx2 af.B.I) (pb.nx nx2 af.B.I) λh4 t4 m4 nx4 F4 L4=>?_) (λ_ _ z=>ag (aX (assign_Name z))) λ_ _ z=>z)))
  exact aj (hQ.nxt h2 R1 h4 t4 m4 (((oW.of nx).trans (.of nx2)).trans nx4) F4 L4)
 ·refine Assign_Tuple_swapped (run λR1 eU t1 t u1 u2 o nx pa pb=>?_) sw hw
  have af:=Af.of (s1:=(up s eU t1)) B F L nx
  refine mM af.B o λh2' kk=>?_
  have nx2:=dQ.nx kk af.B.I
  have af2:=Af.of (s1:=(up s h2' t1)) af.B af.F af.L nx2
  show wpAny _ _ (do iF _ (bindName env y _);do iF _ (bindName env x _);pure ()) _ _ _
  refine ag (aX (wpAny_bindName (aR (yn af2.B T af2.F af2.L hy hx (pb.nx nx2 af.B.I) (pa.nx nx2 af.B.I) λh4 t4 m4 nx4 F4 L4=>?_) (λ_ _ z=>ag (aX (wpAny_bindName z))) λ_ _ z=>z)))
  exact aj (hQ.nxt h2 R1 h4 t4 m4 (((oW.of nx).trans (.of nx2)).trans nx4) F4 (put2 hne lo p.1 p.2▸L4))
theorem E9 (S:cz n I){o i e:Expr}(hs:gP e=true):lh n sc (.Assign [.Subscript o i tp] e pos) (Hb I sc e (.sub o i tp)):=by
 intro w aa A env m s R lo st r lo' st' Q E B T F L hf hQ
 refine ba hf λhi g0=>dG g0 λv bA h1 g1=>dG g1 λo1 st2 h2 g2=>dG g2 λk1 st3 h3 g3=>aC g3 λj hj g4=>aC g4 λk hk g5=>aC g5 λl hl g6=>ba g6 λhz g7=>?_
 have hz:=of_decide_eq_true hz
 cases fQ hj;cases dO hk
 refine wpAny_Assign_Subscript ((S.e sc e).use B F L h1 λR1 eU t1 u nx hu=>?_) (lX hs _ _ _)
 have af:=Af.of (s1:=(up s eU t1)) B F L nx
 refine (S.e sc o).use af.B af.F af.L h2 λR2 hp2 t2 uo nx2 huo=>?_
 have af2:=Af.of (s1:=(up s hp2 t2)) af.B af.F af.L nx2
 refine (S.e sc i).use af2.B af2.F af2.L h3 λR3 hp3 t3 ui nx3 hui=>?_
 have af3:=Af.of (s1:=(up s hp3 t3)) af2.B af2.F af2.L nx3
 have huo3:=huo.nx nx3 af2.B.I
 have hu3:=(hu.nx nx2 af.B.I).nx nx3 af2.B.I
 cases huo3 with | mk hc=>cases hui with | mk t =>
 refine cB (af3.B.I.cell hc hl) λvs kk e' al=>?_
 have hlen:=al.length
 refine ki_setAt e' hz.2.1 (Int.lt_of_lt_of_le ((Int.toNat_lt hz.2.1).mp hz.2.2) (Int.le_trans (Int.ofNat_le.mpr hz.1) (by decide))) ((Int.toNat_lt hz.2.1).mp (show k.toNat < vs.length from hlen▸hz.2.2)) ?_
 have nx4:=af3.B.I.put hc e' (f:=λxs=>xs.setIfInBounds k.toNat u) (ws:=vs.set k.toNat u) (l':=l.set k.toNat v) (by simp) (al.set hu3 _)
 exact hQ.nxt g7 R3 _ t3 m (.of (((nx.trans nx2).trans nx3).trans nx4)) (af3.F.nx nx4 af3.B.I) (af3.L.nx nx4 af3.B.I)
theorem E4 (S:cz n I){e:Expr}(hs:gP e=true)(v:EV):lh n sc (.Assign [v.back] e pos) (Hb I sc e v):=by
 cases v with
 | name=>exact wV S hs
 | sub=>exact E9 S hs
 | tup l k p =>
  intro w aa A env m s R lo st r lo' st' Q E B T F L hf hQ
  refine lA hf λa b hl g0=>jn g0 λx xp ha g1=>jn g1 λy yp hb g2=>ba g2 λhc g3=>bR hc λht hc=>bR hc λhne hc=>bR hc λhx hy=>?_
  cases hl;cases ha;cases hb
  exact E7 S hs ht (λq=>by rw [q,beq_self_eq_true] at hne;cases hne) hx hy w aa A env m s R lo st r lo' st' Q E B T F L g3 hQ
 | _=>exact λ_ _ _ _ _ _ _ _ _ _ _ _ _ _ _ _ _ _ hf=>nomatch hf
theorem E6 (S:cz n I){ts:List Expr}{e:Expr}:lh n sc (.Assign ts e pos) (nk I sc (.Assign ts e pos)):=by
 intro w aa A env m s R lo st r lo' st' Q E B T F L hf hQ
 refine ba hf λhs g0=>?_
 cases ts with
 | nil=>exact ns g0
 | cons t ts=>cases ts with
  | nil =>
   have g1:Hc I sc lo st e (jB t)=some (r,lo',st'):=g0
   clear g0 hf
   rcases ji t with q | q
   ·rw [q] at g1;cases g1
   ·generalize jB t=v at q g1
    subst q
    exact E4 S hs v w aa A env m s R lo st r lo' st' Q E B T F L g1 hQ
  | cons t' ts=>cases ts with
   | nil =>
    refine jn g0 λx xp ha g1=>jn g1 λy yp hb g2=>ba g2 λhc g3=>bR hc λhx hy=>?_
    cases ha;cases hb
    exact BF S hx hy w aa A env m s R lo st r lo' st' Q E B T F L g3 hQ
   | cons=>exact ns g0
theorem E5 (S:cz n I){t:Expr}{op:mZ}{e:Expr}:lh n sc (.AugAssign t op e pos) (nk I sc (.AugAssign t op e pos)):=by
 intro w aa A env m s R lo st r lo' st' Q E B T F L hf hQ
 refine jn (f:=λx _=>dS (dY sc x && Gu op) ((lo x).bind λa=>fe (I.e sc e lo st) λb st=>(bin op a b).bind λv=>some (Fl.next,put lo x v,st))) (e:=t) (y:=(r,lo',st')) hf λx xp ha g1=>ba g1 λhc g2=>bR hc λhl ho=>?_
 subst ha
 exact Fb S hl ho w aa A env m s R lo st r lo' st' Q E B T F L g2 hQ
theorem vErr (P:aM):nsIn (K P) bM "ValueError" = some none:=by lk
theorem pV {G:Prop}{e:Expr}(h:rM sc e=true)(k:∀ p,e=.Name "ValueError" p->sc.names.lookup ("ValueError" : Str)=some .globalImplicit->G):G:=by
 obtain ⟨u,h⟩:=cG.mp h
 refine jn h λx p e g=>ba g λhc _=>bR hc λhx hl=>?_
 cases eq_of_beq hx
 exact k p e (eq_of_beq hl)
theorem vp {G:Prop}{e:Expr}(h:rN sc e=true)(k:∀ xp c ck cp p,e=.Call (.Name "ValueError" xp) [.Constant (.str c) ck cp] [] p->sc.names.lookup ("ValueError" : Str)=some .globalImplicit->G):G:=by
 obtain ⟨u,h⟩:=cG.mp h
 refine xQ h λf as ks p he g=>j8 g λa ha g=>rG g λhk g=>ba g λhv g=>ql g λc ck cp hc g=>pV hv λxp hf hl=>?_
 cases c with
 | str c=>cases ha;cases hk;cases hc;cases hf;exact k xp c ck cp p he hl
 | _=>cases g
theorem yx {x c:Option Expr}:lh n sc (.Raise x c pos) (nk I sc (.Raise x c pos)):=by
 intro w aa A env m s R lo st r lo' st' Q E B T F L hf hQ
 cases c with
 | some _=>cases hf
 | none =>
 refine aC (f:=λe=>dS (rN sc e) (some (Fl.err,lo,st))) hf λe hx g=>ba g λhr g2=>vp hr λxp c ck cp p he hl=>?_
 cases hx;cases he
 have hQ:=hQ.nxt g2
 refine wpAny_Raise_call PySem.F.excCall_ValueError PySem.F.excRaise_ValueError B.O.handled rfl ?_
 refine sy (v:=.type "ValueError") F B.G B.I.base ⟨rfl,?_⟩ vErr (by lk) (by lk) hl (by lk)
 have h0:wpAny (Md w) A (spliced (fm p (bT [.Constant (.str c) ck cp] env))) (λvs aao=>([]:List (Str×Value))=[]/\vs.length<=sizeLine/\∀ h' e,Heap.MadeExc aao.heap h' e "ValueError" vs->E (.ref e) { aao with heap:=h' }) E s:=by
  refine am (Constant_str (az ⟨rfl,by show 1<=2 ^ 24;decide,λh' e hm=>?_⟩))
  refine bg hm.there λt ht _=>?_
  have nx:=dQ.nx hm.keeps B.I
  have hn:aa.get? e=ac:=by
   cases q:aa.get? e with
   | none=>rfl
   | some o=>have z:=B.I.base e o q;rw [hm.new] at z;cases z
  exact hQ R h' (s.toks+1) m (.of nx) (F.nx nx B.I) (L.nx nx B.I) e (.inr ⟨hn,_,_,_,ht,rfl,rfl,rfl,rfl⟩)
 have he:bT [.Constant (.str c) ck cp] env=(false,eval (.Constant (.str c) ck cp) env) :: bT [] env:=rfl
 rw [he] at h0 ⊢
 exact evalArgs_plain h0
end
section
variable {n:Nat}{I:ja}{w:World}{env:Env}{s:ae}{R:aD}{lo:Lo}{st bA:St}{a b:Mv}{u v:Value}
theorem Gi:kj (.type ((Manifest.find? "ValueError").elim "type" λx=>x.metatype)) (.type "tuple")=pure false:=by
 rw [isSubtype_type];lk
theorem CD {G:Prop}{h:List ExceptHandler}(hv:isVE sc h=true)(k:∀ xp ck cp rp hp,h=[.ExceptHandler (some (.Name "ValueError" xp)) ac [.Return (some (.Constant .none ck cp)) rp] hp]->sc.names.lookup ("ValueError" : Str)=some .globalImplicit->G):G:=by
 obtain ⟨_,hv⟩:=cG.mp hv
 refine j8 hv λhd e0 g=>ba g λhh _=>?_
 obtain ⟨t,n,b,hp⟩:=hd
 refine bR hh λhn hh=>?_
 obtain ⟨_,hh⟩:=cG.mp hh
 refine aC hh λe he g=>j8 g λs es g=>aC g λv hs g=>ba g λhc _=>bR hc λh1 h2=>pV h1 λxp ee hl=>?_
 obtain ⟨_,h2⟩:=cG.mp h2
 refine ql h2 λc ck cp ec g=>ba g λhc _=>?_
 have e1:∃ rp,s=.Return (some v) rp:=by
  cases s with
  | Return o rp=>exact ⟨rp,congrArg (Stmt.Return · rp) hs⟩
  | _=>exact ns hs
 obtain ⟨rp,e1⟩:=e1
 have e2:c=.none:=by cases c<;>first | rfl | cases hc
 exact k xp ck cp rp hp (by rw [e0,he,yc.mp hn,es,e1,ee,ec,e2]) hl
theorem xz {xp ck cp rp hp}{e:Addr}{RR:Flow->ae->Prop}{E:Value->ae->Prop}(B:Be w aa n A R st s)(T:iU A env)(F:bZ env sc s.heap m)(L:ci R s.heap lo m)(hl:sc.names.lookup ("ValueError" : Str)=some .globalImplicit)(he:DC aa e s.heap\/Bm aa e s.heap)
  (q:∀ h',oW env.locals aa R s.heap R st h'->bZ env sc h' m->ci R h' lo m->RR (.ret .none) { s with heap:=h' }) :
  wpAny (Md w) A (dq (.ref e) env) (λ_ aan=>wpAny (Md w) A (setFlight (.ref e) ac) (λ_ aan=>wpAny (Md w) A (handleBy (.ref e) env [.ExceptHandler (some (.Name "ValueError" xp)) ac [.Return (some (.Constant .none ck cp)) rp] hp]) RR E aan) E aan) E s:=by
 refine dJ B.S λouter hfr hl1 hc1=>?_
 obtain ⟨outer',hfr'⟩:=T
 rw [hfr] at hfr';cases hfr'
 have offc:=hc1.off B.I.hs
 refine wh hfr hl1 F.frame B.I.base he λh2 ⟨x1,x2,⟨a0,x3⟩,x4⟩=>?_
 refine oB (s:={ s with heap:=h2 }) x1 x2 x3 λh3 ⟨y1,y2,⟨a1,y3⟩,y4⟩=>?_
 have k3:=x4.trans y4
 have i3:=B.I.trc k3 y1 offc
 have F3:bZ env sc h3 m:=F.keep (C:=[]) k3.keep (by simp)
 have te:∃ o,h3.get? e=some o/\o.cls=.type "ValueError":=by
  refine AH y3 λoe vs T oT ts q1 q2 _=>?_
  exact ⟨oe,q1,q2.1⟩
 refine wpAny_handleBy_builtin (X:="ValueError") (T:="ValueError") (b:=true) PySem.F.excRaise_ValueError.isExc Gi PySem.F.excCall_ValueError.sub ?_
 refine sy (v:=.type "ValueError") (s:={ s with heap:=h3 }) F3 B.G y1 ⟨rfl,te,?_⟩ vErr (by lk) (by lk) hl (by lk)
 rw [if_pos rfl]
 refine oB (s:={ s with heap:=h3 }) y1 y2 y3 λh4 ⟨z1,z2,z3,z4⟩=>?_
 have i4:=i3.trc z4 z1 offc
 refine aK (cV (wpAny_Constant_none ?_))
 have k4:=k3.trans z4
 have nx4:oW env.locals aa R s.heap R _ h4:=⟨rfl,i4,k4.keep⟩
 exact q h4 nx4 (F.keep (C:=[]) k4.keep (by simp)) (L.nxL nx4 B.I F)
theorem E8 (S:cz n I){b o f:List Stmt}{h:List ExceptHandler}:lh n sc (.Try b h o f pos) (nk I sc (.Try b h o f pos)):=by
 intro w aa A env m s R lo st r lo' st' Q E B T F L hf hQ
 refine rG hf λhk g0=>ba g0 λhv g1=>aC g1 λp h1 h2=>CD hv λxp ck cp rp hp hh hl=>?_
 cases hk;cases hh
 obtain ⟨r1,lo1,bA⟩:=p
 refine wpAny_Try_except (S.s sc b w aa A env m s R lo st r1 lo1 bA _ _ B T F L h1 λR1 eU t1 m1 nx F1 L1=>?_)
 have B1:Be w aa n A R1 bA (up s eU t1):=B.nxL nx F1
 cases r1 with
 | next=>exact S.s sc o w aa A env m1 _ R1 lo1 bA r lo' st' Q E B1 T F1 L1 h2 (hQ.nxL nx)
 | brk=>exact hQ.nxt h2 R1 eU t1 m1 nx F1 L1
 | cont=>exact hQ.nxt h2 R1 eU t1 m1 nx F1 L1
 | ret v=>exact λu hu=>hQ.nxt h2 R1 eU t1 m1 nx F1 L1 u hu
 | err=>exact λe he=>xz B1 T F1 L1 hl he λh4 nx4 F4 L4=>hQ.nxt h2 R1 h4 t1 m1 (nx.trans nx4) F4 L4 _ .none
theorem vW (S:cz n I)(sc:Scope)(x:Stmt):lh n sc x (nk I sc x):=by
 cases x with
 | Return=>exact wU S
 | Pass=>exact BD
 | Expr=>exact BE S
 | Continue=>exact sK
 | Assign=>exact E6 S
 | AugAssign=>exact E5 S
 | If=>exact sx_If S
 | While=>exact yw S
 | Assert=>exact wW S
 | Raise=>exact yx
 | Try=>exact E8 S
 | _=>exact λ_ _ _ _ _ _ _ _ _ _ _ _ _ _ _ _ _ _ hf=>nomatch hf
theorem vX (S:cz n I)(sc:Scope):∀ b,SimS n sc b (DJ I sc b)
 | [],w,aa,A,env,m,s,R,lo,st,r,lo',st',Q,E,B,T,F,L,hf,hQ=>fi (hQ.nxt hf R s.heap s.toks m (.of (.refl B.I)) F L)
 | x :: b,w,aa,A,env,m,s,R,lo,st,r,lo',st',Q,E,B,T,F,L,hf,hQ=>by
  refine aC (x:=nk I sc x lo st) hf λp h1 h2=>?_
  obtain ⟨r1,lo1,bA⟩:=p
  refine aK (vW S sc x w aa A env m s R lo st r1 lo1 bA _ _ B T F L h1 λR1 eU t1 m1 nx F1 L1=>?_)
  cases r1 with
  | next=>exact vX S sc b w aa A env m1 _ R1 lo1 bA r lo' st' Q E (B.nxL (s':=(up s eU t1)) nx F1) T F1 L1 h2 (hQ.nxL nx)
  | brk=>exact hQ.nxt h2 R1 eU t1 m1 nx F1 L1
  | cont=>exact hQ.nxt h2 R1 eU t1 m1 nx F1 L1
  | ret v=>exact λu hu=>hQ.nxt h2 R1 eU t1 m1 nx F1 L1 u hu
  | err=>exact λe he=>hQ.nxt h2 R1 eU t1 m1 nx F1 L1 e he
theorem uS {t:Expr}{b:List Stmt}{p:bF}
  (h:wpAny (model p w) A (isTrue t env (eval t env)) (λc aao=>if c then wpAny (model p w) A (execs b env) (λf aap=>match f with
      | .next | .cont=>bY (model p w) A (.whileLoop t b [] env) RR aap
      | .brk=>RR (.ok .next) aap
      | .ret v=>RR (.ok (.ret v)) aap) (λ_ _=>False) aao
    else RR (.ok .next) aao) (λ_ _=>False) s):bY (model p w) A (.whileLoop t b [] env) RR s:=by
 refine bc ?_
 show wpAny _ A ((whileTurn t b [] env).onRaise (λx=>do dq x env;ca x)) _ _ s
 refine wpAny_noted ?_
 unfold whileTurn
 refine ag (aR h (λc aao aag=>?_) λ_ _ z=>z.elim)
 cases c with
 | false =>
  exact ag (fi (aj aag))
 | true =>
  refine ag (aR aag (λf aap aah=>?_) λ_ _ z=>z.elim)
  cases f with
  | next=>exact aj ⟨rfl,aah⟩
  | cont=>exact aj ⟨rfl,aah⟩
  | brk=>exact aj aah
  | ret v=>exact aj aah
theorem BK (S:cz n I)(sc:Scope)(t:Expr)(b:List Stmt):SimW n sc t b (whl I sc t b):=by
 intro w aa A env m s R lo st r lo' st' Q B T F L hf hQ
 refine dW (f:=λc st=>bif c then (I.s sc b lo st).bind (whT I sc t b) else some (Fl.next,lo,st)) hf λc bA h1 h2=>uS ((S.t sc t).use B F L h1 λR1 eU t1 nx=>?_)
 have af:=Af.of (s1:=(up s eU t1)) B F L nx
 cases c with
 | false =>
  rw [if_neg dD]
  exact hQ.nxt h2 R1 eU t1 m (.of nx) af.F af.L
 | true =>
  rw [if_pos rfl]
  refine aC (x:=I.s sc b lo bA) h2 λp h3 h4=>?_
  obtain ⟨r1,lo1,st2⟩:=p
  refine S.s sc b w aa A env m _ R1 lo bA r1 lo1 st2 _ _ af.B T af.F af.L h3 λR2 hp2 t2 m2 nx2 F2 L2=>?_
  have nx':=(oW.of nx).trans nx2
  cases r1 with
  | next=>exact S.w sc t b w aa A env m2 _ R2 lo1 st2 r lo' st' Q (af.B.nxL (s':=(up s hp2 t2)) nx2 F2) T F2 L2 h4 (hQ.nxL nx')
  | cont=>exact S.w sc t b w aa A env m2 _ R2 lo1 st2 r lo' st' Q (af.B.nxL (s':=(up s hp2 t2)) nx2 F2) T F2 L2 h4 (hQ.nxL nx')
  | brk=>exact hQ.nxt h4 R2 hp2 t2 m2 nx' F2 L2
  | ret v=>exact λu hu=>hQ.nxt h4 R2 hp2 t2 m2 nx' F2 L2 u hu
  | err=>cases h4
end
set_option backward.match.sparseCases true
theorem frAll (g:Addr)(h:g∈rS):vJ g (dK g) (aO g) (aJ g):=Ew g (List.contains_iff_mem.mp (bj.mp (by lk:rS.all sB.contains=true) g h))
section
variable {n:Nat}{I:ja}{w:World}{env:Env}{s:ae}{R:aD}{lo:Lo}{st bA:St}{a b:Mv}{u v:Value}
theorem md {p:bF}{f:Addr}{ps:List Str}(FR:vJ f ps body sc)(X:(K P).In s.heap)(nl:s.heap.NoLimit)(hroom:A.depth < aA)
  (hl:us.length=ps.length) (h:∀ ab env,bZ env sc ab (λx=>(ps.zip us).reverse.lookup x)->env.locals=s.heap.objs.size->(Sb s.heap ab) ->
   wpAny (model p w) (A.deeper env) (execs body env) (λf s'=>RR (.ok (.ret (match f with | .ret v=>v | _=>.none))) s') (λe s'=>wpAny (model p w) (A.deeper env) (nW env e) (λ_ s''=>RR (.error e) s'') (λe' s''=>RR (.error e') s'') s')
    { s with heap:=ab,toks:=s.toks+us.length }):bY (model p w) A (.call (.ref f) ⟨us,[]⟩) RR s:=by
 refine C0 (FR.at_ P) λoc od osl fd hK hb hs hg hbl hc hcd hbind=>?_
 subst hs
 refine codeAny_call_function (o:=⟨oc,od,.func fd,osl⟩) hroom (X _ _ hK) rfl FR.co FR.gen hb (codeRec_of X hcd) (hbind s us X hl _ _ _ _ ?_)
 have hlen:(ps.zip us).length=us.length:=by rw [List.length_zip,hl,Nat.min_self]
 refine lY FR.cell (λx hx=>FR.loc x.1 (gp hx).1) (λab hns hsb=>⟨nl.fresh _ hsb,codeAny_func ?_⟩) FR.kind
 rw [hlen]
 refine h ab _ ⟨rfl,FR.kind,FR.co,hg,hbl,rfl,hns⟩ rfl λb o e=>hsb.extBut b o (bV (bp e)) (ak _ e)
theorem jR {α:Type}(l l':List (Str×α))(x:Str):(l++l').lookup x=(l.lookup x).or (l'.lookup x):=by
 induction l with
 | nil=>simp
 | cons p l ih =>
  rw [List.cons_append,dT,dT]
  split
  ·simp
  ·exact ih
set_option tactic.hygienic true in
theorem yH {ps:List Str}:∀ {vs:List Mv}{us:List Value},bz (V R h) vs us->ci R h (jK ps vs) (λx=>(ps.zip us).reverse.lookup x):=by
 induction ps with
 | nil=>intro vs us _ x v e;trivial
 | cons p ps ih =>
  intro vs us al x v e
  cases al with
  | nil=>trivial
  | cons hp al =>
   rename_i a u vs us
   unfold jK at e
   simp only [List.zip_cons_cons,sa,jR] at e ⊢
   have ih':=ih al x
   unfold jK at ih'
   cases q:(ps.zip vs).reverse.lookup x with
   | some v' =>
    rw [q] at e
    cases e
    refine bg (ih' _ q) λu' e1 e2=>?_
    exact ⟨u',by rw [show (ps.zip us).reverse.lookup x=some u' from e1];rfl,e2⟩
   | none =>
    rw [q] at e
    simp only [Option.none_or,dT,List.lookup_nil] at e
    split at e
    ·rename_i hx
     cases e
     have q':(ps.zip us).reverse.lookup x=ac:=by
      cases q2:(ps.zip us).reverse.lookup x with
      | none=>rfl
      | some u2 =>
       exfalso
       clear ih ih'
       have key:∀ (ps:List Str) (vs:List Mv) (us:List Value),bz (V R h) vs us->(ps.zip vs).reverse.lookup x=ac->(ps.zip us).reverse.lookup x=ac:=by
        intro ps
        induction ps with
        | nil=>intro vs us _ _;simp
        | cons p ps ih =>
         intro vs us al h
         cases al with
         | nil=>rfl
         | cons hp al =>
          simp only [List.zip_cons_cons,sa,jR,Option.or_eq_none_iff] at h ⊢
          refine ⟨ih _ _ al h.1,?_⟩
          have h2:=h.2
          simp only [dT,List.lookup_nil] at h2 ⊢
          split at h2
          ·cases h2
          ·rfl
       rw [key ps vs us al q] at q2
       cases q2
     refine ⟨u,?_,hp⟩
     rw [q']
     simp only [Option.none_or,dT,List.lookup_nil,hx]
    ·cases e
theorem BP (S:cz n I):DA (n+1) (gJ I):=by
 intro w aa A s R st g vs us r st' Q E hg B hv hf hQ
 refine ba hf λhc g1=>aC g1 λp h1 h2=>bR hc λ_ hlen=>?_
 obtain ⟨r1,lo1,bA⟩:=p
 have hul:us.length=(dK g).length:=by rw [<- hv.length];exact eq_of_beq hlen
 refine md (P:=w.params) (frAll g hg) B.X (B.G.nolimit B.I.base) (by have:=B.O.depth;exact av (aE _ _) ‹_›) hul λab env F hloc kp=>?_
 refine dJ B.S λouter hfr hff hfc=>?_
 have hfr':(A.deeper env).frames=some (env :: outer):=by show A.frames.map (env :: ·)=_;rw [hfr];rfl
 have nx0:Nx aa R s.heap R st ab:=dQ.nx kp B.I
 have hbn:aa.get? env.locals=ac:=by
  rw [hloc]
  exact Heap.StaysIn.fresh (base:=aa) (h:=s.heap) B.I.base
 refine qa F.at_ λo es ep e c d _=>?_
 have nf:∀ vs,o.data≠.fields vs:=λvs q=>by rw [d] at q;cases q
 have B0:Be w aa n (A.deeper env) R st { s with heap:=ab,toks:=s.toks+us.length }:=by
  refine ⟨B.G,⟨B.O.handled,?_,?_⟩,⟨_,hfr',⟨by rw [F.sce,F.kind];decide,⟨env.locals,o,F.frame,hbn,e,nf⟩,hff.of_keeps λb o e _=>⟨o,kp b o e,rfl⟩⟩,?_⟩,nx0.inv⟩
  ·exact av (ya (b:=3 * n) (show 1<=3 by decide)) B.O.depth
  ·exact av (Nat.add_le_add_right (ya (b:=24 * n) (show 3<=24 by decide)) 8) B.O.units
  ·intro L hL
   rw [j7,F.frame] at hL
   rcases aq.mp hL with rfl | hL
   ·exact ⟨o,e,c,nf⟩
   ·refine dJ (hfc L hL) λo' e' c' d'=>?_
    exact ⟨o',kp _ _ e',c',d'⟩
 have L0:ci R ab (jK (dK g) vs) (λx=>((dK g).zip us).reverse.lookup x):=yH (hv.imp λ_ _ y=>y.nx nx0 B.I)
 have fresh:∀ b o,s.heap.get? b=some o->b≠env.locals:=λb o e q=>by
  rw [hloc] at q
  exact dh _ (q▸bp e)
 have back:∀ {R' st' h'},oW env.locals aa R ab R' st' h'->Nx aa R s.heap R' st' h':=λnx=>by
  refine ⟨nx.ext,nx.inv,λb o hb e n=>?_⟩
  exact nx.keep b o (λq=>(aq.mp q).elim (fresh b o e) hb) (kp b o e) n
 refine S.s (aJ g) (aO g) w aa _ env _ _ R (jK (dK g) vs) st r1 lo1 bA _ _ B0 ⟨outer,hfr'⟩ F L0 h1 λR1 eU t1 m1 nx F1 L1=>?_
 cases r1 with
 | ret v=>cases h2;exact λu hu=>hQ R1 eU t1 (back nx) u hu
 | next=>cases h2;exact hQ R1 eU t1 (back nx) _ .none
 | brk=>cases h2
 | cont=>cases h2
 | err =>
  cases h2
  intro e he
  have B1:Be w aa n (A.deeper env) R1 _ (up s eU t1):=B0.nxL nx F1
  refine dJ B1.S λouter' hfr2 hl1 hc1=>?_
  rw [hfr'] at hfr2;cases hfr2
  refine tK hfr' hl1 F1.frame B1.I.base he λh2 ⟨x1,x2,⟨a0,x3⟩,x4⟩=>?_
  have i2:=B1.I.trc x4 x1 (hc1.off B1.I.hs)
  have nx2:oW env.locals aa R1 eU R1 _ h2:=⟨rfl,i2,x4.keep⟩
  refine hQ R1 h2 t1 (back (nx.trans nx2)) e ⟨?_,a0,x3⟩
  rcases he with he | he
  ·exact he.1
  ·exact he.1
end
theorem pG {n:Nat}{I:ja}(S:cz n I)(mk:kK)(qk:mH)(it:iA I n):cz (n+1) (step I) where
 e:=λsc x=>BO S mk qk it sc x
 t:=λsc x=>BM S sc x
 s:=λsc b=>λw aa A env m s R lo st r lo' st' Q E B T F L hf hQ=>vX S sc b w aa A env m s R lo st r lo' st' Q E (B.le (aW n)) T F L hf hQ
 w:=λsc t b=>λw aa A env m s R lo st r lo' st' Q B T F L hf hQ=>BK S sc t b w aa A env m s R lo st r lo' st' Q (B.le (aW n)) T F L hf hQ
 c:=BP S
theorem qF {n:Nat}:cz n bot where
 e:=λ_ _ w aa A env m s R lo st r st' Q E B F L hf hQ=>nomatch hf
 t:=λ_ _ w aa A env m s R lo st r st' Q E B F L hf hQ=>nomatch hf
 s:=λ_ _ w aa A env m s R lo st r lo' st' Q E B T F L hf hQ=>nomatch hf
 w:=λ_ _ _ w aa A env m s R lo st r lo' st' Q B T F L hf hQ=>nomatch hf
 c:=λw aa A s R st g vs us r st' Q E hg B hv hf hQ=>nomatch hf
set_option backward.match.sparseCases false
def si (es:List gv)(at_:List (Str×Value)):Prop:=bz (λe p=>(∃ t,e.key=.str p.1 t)/\e.val=p.2) es at_
noncomputable def jC:List (Str×Value)->Str->Value->List (Str×Value)
 | [],x,v=>[(x,v)]
 | p :: r,x,v=>if p.1=x then (p.1,v) :: r else p :: jC r x v
structure Mk (h:Heap) (x d C:Addr) (at_:List (Str×Value)):Prop where
 obj:∃ sl,h.get? x=some ⟨.ref C,some d,.plain,sl⟩
 dict:∃ es n sl,h.get? d=some ⟨.type "dict",ac,.dict (br es) n,sl⟩/\si es at_
theorem si.noRef {es:List gv}{at_:List (Str×Value)}(k:si es at_):es.any (·.refKey)=false:=by
 induction k with
 | nil=>rfl
 | cons p _ ih =>
  obtain ⟨⟨t,e⟩,_⟩:=p
  rw [jO,ih]
  simp [DictEntry.refKey,e]
set_option tactic.hygienic true in
theorem si.get {es:List gv}{at_:List (Str×Value)}(k:si es at_)(x:Str):getL x es=some ((at_.find? (λp=>p.1 == x)).map (·.2)):=by
 have nr:=k.noRef
 unfold getL
 rw [nr]
 clear nr
 induction k with
 | nil=>rfl
 | cons p _ ih =>
  obtain ⟨⟨t,e⟩,ev⟩:=p
  rename_i en q l m _
  rw [List.find?_cons,List.find?_cons]
  have hk:en.key.isStr x=(q.1 == x):=by rw [e];rfl
  rw [hk]
  cases hq:(q.1 == x) with
  | true=>simp [ev]
  | false=>exact ih
theorem Mk.inst {x d C:Addr}{at_:List (Str×Value)}(I:Mk h x d C at_):cL h x C at_:=by
 obtain ⟨⟨sl,e1⟩,es,n,sl',e2,k⟩:=I
 exact ⟨sl,d,sl',es,n,e1,e2,λy=>k.get y⟩
theorem Mk.ext {x d C:Addr}{at_:List (Str×Value)}(k:Sb h h')(I:Mk h x d C at_):Mk h' x d C at_:=by
 obtain ⟨⟨sl,e1⟩,es,n,sl',e2,kk⟩:=I
 exact ⟨⟨sl,k _ _ e1⟩,es,n,sl',k _ _ e2,kk⟩
theorem vj {name:Str}{hs:Int}{t:Tok}{v:Value}{es:List gv}{at_:List (Str×Value)}(h:si es at_) :
  si (nsPutIn name.cps.size name.cps.toList (λ| some e=>{ e with val:=v } | none=>⟨hs,.str name t,v⟩) es).1 (jC at_ name v):=by
 unfold si at h
 induction h with
 | nil=>exact .cons ⟨⟨_,rfl⟩,rfl⟩ .nil
 | @cons e p es r z k ih =>
  have hk:e.key.isStrByCps name.cps.size name.cps.toList=(p.1 == name):=z.1.elim λt' ek=>by rw [Value.isStrByCps_eq,ek];rfl
  unfold nsPutIn jC
  by_cases q:p.1=name
  ·rw [if_pos (by rw [hk];exact beq_iff_eq.mpr q),if_pos q]
   exact .cons ⟨z.1,rfl⟩ k
  ·rw [if_neg (by rw [hk];exact λc=>q (beq_iff_eq.mp c)),if_neg q]
   exact .cons z ih
theorem ly (at_:List (Str×Value))(x:Str)(v:Value):(jC at_ x v).length<=at_.length+1:=by
 induction at_ with
 | nil=>exact aQ _
 | cons p r ih =>
  unfold jC
  split
  ·simp
  ·simp;assumption
structure iZ (P:aM) (C:Addr) (name:Str):Prop where
 ga:dI (K P) (.ref C) "__setattr__" = some (some (.builtin "object.__setattr__"))
 po:plainOver (K P) C=true
 ti:takerIn (K P) C name=some ac
 hd:(clsIn (K P) C).any (·.hasDict)=true
section
variable {w:World}{s:ae}
theorem setA {x d C:Addr}{at_:List (Str×Value)}{name:Str}{v:Value}{Q:Unit->ae->Prop}(X:(K w.params).In s.heap)(I:Mk s.heap x d C at_)(k:iZ w.params C name)(hz:at_.length<=900)
  (h:∀ h' t',Mk h' x d C (jC at_ name v)->bU d s.heap h'->Q () (up s h' t')):wpAny (Md w) A (setAttr (.ref x) name v) Q E s:=by
 obtain ⟨hp,gg,dr,tk,os⟩:=s
 obtain ⟨⟨sl,hx⟩,es,n,sl',hdx,kk⟩:=I
 dsimp only at X hx hdx h ⊢
 have hne:x≠d:=λq=>by subst q;rw [hx] at hdx;cases hdx
 have I1:W.InstAt hp x ⟨.ref C,some d,.plain,sl⟩ C (some ⟨.type "dict",ac,.dict (br es) n,sl'⟩):=⟨hx,rfl,rfl,hdx⟩
 refine set_plain X I1 k.ga (osa_open X I1 k.po k.ti λb=>?_)
 refine bg (any_some k.hd) λcd hc hd'=>?_
 generalize ho':Obj.putName name (PyData.keyHash w.params name) (.str name (tk+1)) v ⟨.type "dict",ac,.dict (br es) n,sl'⟩=o'
 have shape:∃ es' n',o'=⟨.type "dict",ac,.dict (br es') n',sl'⟩/\si es' (jC at_ name v):=by
  have kp:=vj (name:=name) (hs:=PyData.keyHash w.params name) (t:=tk+1) (v:=v) kk
  subst ho'
  unfold Obj.putName
  dsimp only
  generalize nsPutIn _ _ _ es=r at kp ⊢
  obtain ⟨es',b⟩:=r
  cases b
  ·exact ⟨es',n,rfl,kp⟩
  ·exact ⟨es',n+1,rfl,kp⟩
 refine cB shape λes' n' y9 kp=>?_;subst y9
 have hd2:(hp.update d (Obj.putName name (PyData.keyHash w.params name) (.str name (tk+1)) v)).get? d=some ⟨.type "dict",ac,.dict (br es') n',sl'⟩:=by
  rw [<- ho']
  exact fL _ hdx (by rw [ho'];rfl)
 refine ag (aj (ag (ag (wpAny_loadPart hx (ag ((looks_clsIn X hc).here ?_))))))
 rw [hd']
 refine aj (a:=some d) (ag (aj (ag ?_)))
 unfold nsSet
 refine ag (ag (gk (aj (ag (wpAny_mkText (ag (wpAny_loadPart hdx ?_)))))))
 dsimp only
 have c:(!(br es).any (·.key.isStr name) && (br es).any (·.refKey))=false:=by
  have z:(br es).any (λe=>e.refKey)=false:=by rw [List.any_toArray];exact kk.noRef
  rw [z,Bool.and_false]
 rw [aRefKeyMayBeTheName_at,c]
 refine wpAny_updatePart hdx ?_
 refine ag (wpAny_lookBehind hd2 (pastItsLine_dict (by
  have:=kp.length;have:=ly at_ name v
  rw [List.size_toArray,sizeLine_eq];omega)) ?_)
 refine aj (h _ _ ⟨⟨sl,?_⟩,es',n',sl',hd2,kp⟩ (mq ..))
 exact (gN _ _ (cb hne)).trans hx
end
noncomputable def qp (a:Str×Pos×Pos):Expr:=.Attribute (.Name "self" a.2.1) a.1 a.2.2
noncomputable def nam (a:Str×Pos):Expr:=.Name a.1 a.2
def Em (as:List (Str×Pos×Pos))(ns:List (Str×Pos))(k:Nat)(tp:Pos)(k2:Nat)(ep pos:Pos):Stmt:=.Assign [.Tuple (as.map qp) k tp] (.Tuple (ns.map nam) k2 ep) pos
noncomputable def pM:List (Str×Value)->List Str->List Value->List (Str×Value)
 | at_,a :: as,u :: us=>pM (jC at_ a u) as us
 | at_,_,_=>at_
section
variable {w:World}{env:Env}
theorem uC {s:ae}{x d C:Addr}{at_:List (Str×Value)}{a:Str×Pos×Pos}{u:Value}{Q:Unit->ae->Prop}(F:bZ env sc s.heap m)(hl:sc.names.lookup ("self" : Str)=some .local)(hs:m ("self" : Str)=some (.ref x))(X:(K w.params).In s.heap)(I:Mk s.heap x d C at_)
  (k:iZ w.params C a.1) (hz:at_.length<=900) (h:∀ h' t',Mk h' x d C (jC at_ a.1 u)->bU d s.heap h'->Q () (up s h' t')):wpAny (Md w) A (fy (qp a) env u) Q E s:=by
 unfold qp
 rw [arm_assign_Attribute]
 refine ag (aX (hU F hs ?_ hl (by lk)))
 refine ag (bl (ag (aX (setA X I k hz λh' t' I' sb=>?_))))
 exact wpAny_release' (h h' t' I' sb)
theorem uB {hs:Heap}{x d C:Addr}{Q:Unit->ae->Prop}(hd0:hs.get? d=ac)(hLd:env.locals≠d)(hl:sc.names.lookup ("self" : Str)=some .local)(hS:m ("self" : Str)=some (.ref x))(X:(K w.params).In hs) :
  ∀ (as:List (Str×Pos×Pos)) (us:List Value) (at_:List (Str×Value)) (s:ae),us.length=as.length->at_.length+as.length<=900->(∀ a∈as,iZ w.params C a.1)->(Sb hs s.heap)->bZ env sc s.heap m->Mk s.heap x d C at_ ->
   (∀ h' t',bZ env sc h' m->Mk h' x d C (pM at_ (as.map (·.1)) us)->(Sb hs h')->Q () (up s h' t')) ->
   wpAny (Md w) A (assignInOrder ((kF (as.map qp) env).map (·.2)) us) Q E s:=by
 intro as
 induction as with
 | nil =>
  intro us at_ s hl _ _ e F I h
  rw [List.eq_nil_of_length_eq_zero hl] at h ⊢
  exact aj (h s.heap s.toks F I e)
 | cons a as ih =>
  intro us at_ s hlen hz k e F I h
  cases us with
  | nil=>exact Nat.noConfusion hlen
  | cons u us =>
  show wpAny _ _ (do iF us (fy (qp a) env u);assignInOrder ((kF (as.map qp) env).map (·.2)) us) _ _ _
  have hz':at_.length+(as.length+1)<=900:=hz
  refine ag (aX (uC F hl hS (X.keeps e) I (k a (.head _)) (au (aE _ _) hz') λh' t' I' sb=>?_))
  exact ih us _ (up s h' t') (Nat.succ.inj hlen) (au (Nat.add_le_add_right (ly at_ a.1 u) _) (by rw [Nat.add_right_comm];exact hz')) (λb hb=>k b (.tail _ hb)) (λb o q=>(sb.2 b λz=>ns (hd0.symm.trans (z▸q))).trans (e b o q))
   (F.keep (C:=[d]) (λb o hb q _=>⟨o.slots,(sb.2 b λz=>hb (z▸.head _)).trans q⟩) λq=>hLd (ah.mp q)) I' λh2 t2 F2 I2 e2=>h h2 t2 F2 I2 e2
theorem zG {s:ae}{ns:List (Str×Pos)}(F:bZ env sc s.heap m)(al:bz (λn u=>m n.1=some u) ns us):∀ {Q:List Value->ae->Prop},(∀ n∈ns,sc.names.lookup n.1=some .local/\(n.1 == ("__debug__" : Str))=false)->Q us s ->
  wpAny (Md w) A (spliced (fm pos (bT (ns.map nam) env))) Q E s:=by
 induction al with
 | nil=>exact λ_ h=>az h
 | @cons n u ns us p al ih=>exact λ{Q} hl h=>am (e:=nam n) (rest:=ns.map nam) (hU F p (ih (Q:=λvs aao=>Q (u :: vs) aao) (λb hb=>hl b (.tail _ hb)) h) (hl n (.head _)).1 (hl n (.head _)).2)
theorem xv {s:ae}{hs:Heap}{x d C:Addr}{as:List (Str×Pos×Pos)}{ns:List (Str×Pos)}{k:Nat}{k2:Nat}{ep:Pos}{at_:List (Str×Value)}{Q:Flow->ae->Prop}(hh:A.handled=ac)(hd0:hs.get? d=ac)(hLd:env.locals≠d)(hl:sc.names.lookup ("self" : Str)=some .local)
  (hS:m ("self" : Str)=some (.ref x)) (X:(K w.params).In hs) (hn:∀ n∈ns,sc.names.lookup n.1=some .local/\(n.1 == ("__debug__" : Str))=false) (al:bz (λn u=>m n.1=some u) ns us) (hlen:us.length=as.length) (hsz:us.length<=100) (hz:at_.length+as.length<=900)
  (kk:∀ a∈as,iZ w.params C a.1) (e:Sb hs s.heap) (F:bZ env sc s.heap m) (I:Mk s.heap x d C at_) (hne:as≠[])
  (h:∀ h' t',bZ env sc h' m->Mk h' x d C (pM at_ (as.map (·.1)) us)->(Sb hs h')->Q .next (up s h' t')) :
  wpAny (Md w) A (exec (Em as ns k tp k2 ep pos) env) Q E s:=by
 have hw:fB [.Tuple (as.map qp) k tp] (.Tuple (ns.map nam) k2 ep) env=pure ac:=by
  unfold fB
  dsimp only
  refine rL rfl (rL rfl ?_)
  have hf:∀ (f:Expr->Option Str),(∀ a,f (qp a)=ac)->(as.map qp).filterMap f=[]:=by
   intro f hf
   rw [List.filterMap_eq_nil_iff]
   intro b hb
   refine bg (gj.mp hb) λa _ y10=>?_;subst y10
   exact hf a
  rw [hf _ λa=>rfl]
  cases as with
  | nil=>exact absurd rfl hne
  | cons a as=>rfl
 have hlenA:∀ as:List (Str×Pos×Pos),(kF (as.map qp) env).length=as.length/\(kF (as.map qp) env).findIdx? (·.1)=ac:=by
  intro as
  induction as with
  | nil=>exact ⟨rfl,rfl⟩
  | cons a as ih =>
   have he:kF ((a :: as).map qp) env=(false,fy (qp a) env) :: kF (as.map qp) env:=rfl
   rw [he,List.findIdx?_cons]
   exact ⟨by simp [ih.1],by simp [ih.2]⟩
 refine Assign_Tuple (im (zG F al hn ⟨by show us.length<=2 ^ 24;exact au ‹_› (by decide),?_⟩)) (by unfold kM;rfl) hw
 have k1:Sb s.heap (s.heap.push { cls:=.type "tuple",data:=.seq us.toArray }):=λb o q=>ak _ q
 have ht:IsTup (s.heap.push { cls:=.type "tuple",data:=.seq us.toArray }) s.heap.objs.size us.toArray:=⟨_,ar _ rfl,rfl,0,rfl⟩
 refine assign_Tuple_tuple (s:={ s with heap:=s.heap.push { cls:=.type "tuple",data:=.seq us.toArray } }) hh ht (by rw [(hlenA as).1];simp [hlen]) (hlenA as).2 λh2 x2=>?_
 have k2:Sb s.heap h2:=λb o q=>x2 b o (by rw [bN];exact bV (eV (bp q))) (k1 b o q)
 exact uB hd0 hLd hl hS X as us at_ { s with heap:=h2 } hlen hz kk (λb o q=>k2 b o (e b o q)) (F.keep (C:=[]) (.ext k2) (by simp)) (I.ext k2) h
end
structure sx (C fI:Addr) (pre:List Stmt) (names nms outs:List Str):Prop where
 mks:∀ P,makesIn (K P) C=true
 ini:∀ P,dI (K P) (.ref C) "__init__" = some (some (.ref fI))
 fn:∀ P,typeIn (K P) (.ref fI)=some (.type "function")
 fr:vJ fI (dK fI) (aO fI) (aJ fI)
 ps:dK fI=("self" : Str) :: names
 loc:(aJ fI).names.lookup ("self" : Str)=some .local
 nl:nms.all (λn=>(aJ fI).names.lookup n == some .local && !(n == ("__debug__" : Str)))=true
 nd:(("self" : Str) :: names).Nodup
 ok:∀ P,(outs.all λn=>dI (K P) (.ref C) "__setattr__" == some (some (.builtin "object.__setattr__")) && plainOver (K P) C && (takerIn (K P) C n == some ac) && (clsIn (K P) C).any (·.hasDict))=true
 len:outs.length=nms.length
 few:nms.length<=50
 ne:outs≠[]
 row:∃ as ns k tp k2 ep pos,aO fI=pre++[Em as ns k tp k2 ep pos]/\as.map (·.1)=outs/\ns.map (·.1)=nms
theorem sx.setOk {C:Addr}{pre:List Stmt}{nms outs:List Str}(c:sx C fI pre names nms outs)(P:aM){n:Str}(h:n∈outs):iZ P C n:=by
 have:=bj.mp (c.ok P) _ h
 simp only [g8,beq_iff_eq] at this
 exact ⟨this.1.1.1,this.1.1.2,this.1.2,this.2⟩
theorem sx.nlk {C:Addr}{pre:List Stmt}{nms outs:List Str}(c:sx C fI pre names nms outs){n:Str}(h:n∈nms):(aJ fI).names.lookup n=some .local/\(n == ("__debug__" : Str))=false:=
 bR (bj.mp c.nl _ h) λa b=>⟨eq_of_beq a,mT b⟩
theorem bz.of_map {α β γ:Type}{P:β->γ->Prop}{f:α->β}{l:List α}{m:List γ}(h:bz P (l.map f) m):bz (λa u=>P (f a) u) l m:=by
 induction l generalizing m with
 | nil=>cases h;exact .nil
 | cons a l ih=>cases h with
  | cons p q=>exact .cons p (ih q)
theorem vk {ps:List Str}(nd:ps.Nodup)(hl:us.length=ps.length):bz (λn u=>(ps.zip us).reverse.lookup n=some u) ps us:=by
 have key:∀ (ps:List Str) (us:List Value),ps.Nodup->us.length=ps.length->∀ i (h1:i < ps.length) (h2:i < us.length),(ps.zip us).reverse.lookup ps[i]=some us[i]:=by
  intro ps
  induction ps with
  | nil=>intro us _ _ i h1;simp at h1
  | cons p ps ih =>
   intro us nd hl i h1 h2
   cases us with
   | nil=>trivial
   | cons u us =>
    simp only [List.zip_cons_cons,sa,jR]
    cases i with
    | zero =>
     have:(ps.zip us).reverse.lookup p=ac:=by
      rw [List.lookup_eq_none_iff]
      intro q hq
      have hq':=(gp (m6.mp hq)).1
      have:p∉ps:=(iy.mp nd).1
      have hne:p≠q.1:=λe=>this (e▸hq')
      simpa using hne
     simp [this,dT]
    | succ i =>
     simp only [List.getElem_cons_succ]
     rw [ih us (iy.mp nd).2 (by simpa using hl) i (by simpa using h1) (by simpa using h2)]
     rfl
 refine .of_get hl.symm λi a b ha hb=>?_
 obtain ⟨h1,rfl⟩:=bu.mp ha
 obtain ⟨h2,rfl⟩:=bu.mp hb
 exact key ps us nd hl i h1 h2
section
variable {w:World}{s:ae}
def Pre (w:World)(pre:List Stmt)(fI:Addr)(us:List Value):Prop:=∀ (x0:Value) (A:aw) (env:Env) (s:ae) (r:List Stmt) (Q:Flow->ae->Prop) (E:Value->ae->Prop),bZ env (aJ fI) s.heap (λx=>((dK fI).zip (x0 :: us)).reverse.lookup x) ->
 (∀ t',wpAny (Md w) A (execs r env) Q E { s with toks:=t' })->wpAny (Md w) A (execs (pre++r) env) Q E s
theorem Pre.nil:Pre w [] fI us:=λ_ _ _ s _ _ _ _ h=>h s.toks
theorem made (C:Addr):(Sb h ((h.push du).push (gQ C h.objs.size)))/\((h.push du).push (gQ C h.objs.size)).get? (h.objs.size+1)=some (gQ C h.objs.size)/\((h.push du).push (gQ C h.objs.size)).get? h.objs.size=some du /\
  ((h.push du).push (gQ C h.objs.size)).objs.size=h.objs.size+2:=
 ⟨λb o q=>ak _ (ak _ q),by
  have:=ar (o:=gQ C h.objs.size) (h.push du) rfl
  rwa [bN] at this,ak _ (ar _ rfl),(bN ..).trans (congrArg (· + 1) (bN ..))⟩
theorem lH {C:Addr}{nms outs:List Str}{us':List Value}{pre:List Stmt}(c:sx C fI pre names nms outs)(G:Gd w aa)(bs:Sb aa s.heap)(hh:A.handled=ac)(hdp:A.depth+1 < aA)(hlen:us.length=names.length)
  (hpre:Pre w pre fI us)
  (hal:∀ x0,bz (λn u=>(((("self" : Str) :: names)).zip (x0 :: us)).reverse.lookup n=some u) nms us')
  (h:∀ h' t',(Sb s.heap h')->Mk h' (s.heap.objs.size+1) s.heap.objs.size C (pM [] outs us')->Q (.ref (s.heap.objs.size+1)) (up s h' t')):wpAny (Md w) A (call (.ref C) us) Q E s:=by
 refine el73 c.row λas ns k tp k2 ep pos hb ha hnn=>?_
 have X:(K w.params).In s.heap:=G.X.keeps bs
 refine bw (make_core (makes_of X (c.mks _)) (cT X (c.ini _)) (λself=>bind_fn X self (c.fn _)) (.inl rfl) ?_)
 refine xJ (made (h:=s.heap) C) λk0 hx0 hd0 sz2=>?_
 have hn0:s.heap.get? s.heap.objs.size=ac:=aB (aQ _)
 generalize (s.heap.push du).push (gQ C s.heap.objs.size)=h0 at k0 hx0 hd0 sz2 ⊢
 generalize s.heap.objs.size=d at hx0 hd0 sz2 hn0 h ⊢
 have ul:(df (d+1) :: us).length=(dK fI).length:=by rw [c.ps];exact congrArg (· + 1) hlen
 refine md (P:=w.params) (s:={ s with heap:=h0 }) c.fr (X.keeps k0) ((G.nolimit bs).keeps k0) (by rw [sC];exact hdp) ul λab env F hloc kp=>?_
 rw [hb]
 have al':bz (λ(n:Str×Pos) u=>((dK fI).zip (df (d+1) :: us)).reverse.lookup n.1=some u) ns us':=by
  have z:=hal (df (d+1))
  rw [<- c.ps,<- hnn] at z
  exact z.of_map
 have la:outs.length=as.length:=by rw [<- ha,bW]
 have hlen':us'.length=nms.length:=(hal .none).length.symm
 have hS:((dK fI).zip (df (d+1) :: us)).reverse.lookup ("self" : Str)=some (.ref (d+1)):=by
  have al2:bz (λ(n:Str) u=>((dK fI).zip (df (d+1) :: us)).reverse.lookup n=some u) (("self" : Str) :: names) (df (d+1) :: us):=by
   rw [<- c.ps]
   exact vk (ps:=dK fI) (by rw [c.ps];exact c.nd) ul
  exact al2.get2 (i:=0) rfl rfl
 refine hpre _ _ _ _ _ _ _ F λt'=>?_
 refine aK (xv (hs:=s.heap) (x:=d+1) (d:=d) (C:=C) (at_:=[]) (s:=(up s ab t')) hh hn0 ?_ c.loc hS X (λn hn=>c.nlk (hnn▸List.mem_map_of_mem hn)) al' (hlen'.trans (c.len.symm.trans la)) (au (Nat.le_of_eq hlen') (au c.few (by decide))) (by rw [<- la,c.len];exact au (aT c.few 0) (by decide)) (λa h=>c.setOk _ (ha▸List.mem_map_of_mem h)) (λb o q=>kp b o (k0 b o q)) F
  ⟨⟨#[],kp _ _ hx0⟩,[],0,#[],kp _ _ hd0,.nil⟩ (λq=>c.ne (by rw [<- ha,q];rfl)) λh' t' F' I' e'=>fi ⟨rfl,h h' t' e' (ha▸I')⟩)
 intro q
 have q:h0.objs.size=d:=hloc.symm.trans q
 exact absurd (sz2.symm.trans q) (fJ (cr (by decide)))
end
theorem c94:sx 94 84 [] ["endpoints","opposites","event"] ["endpoints","event","opposites"] ["endpoints","event","opposites"] where
 mks:=λP=>by lk
 ini:=λP=>by lk
 fn:=λP=>by lk
 fr:=fr84
 ps:=by lk
 loc:=by lk
 nl:=by lk
 nd:=by decide
 ok:=λP=>by lk
 len:=rfl
 few:=by decide
 ne:=nofun
 row:=⟨[(_,_,_),(_,_,_),(_,_,_)],[(_,_),(_,_),(_,_)],_,_,_,_,_,by with_unfolding_all rfl,rfl,rfl⟩
theorem c540:sx 540 530 [] ["endpoints","opposites","event","orienteer"] ["endpoints","event","opposites","orienteer"] ["endpoints","event","opposites","_orienteer"] where
 mks:=λP=>by lk
 ini:=λP=>by lk
 fn:=λP=>by lk
 fr:=fr530
 ps:=by lk
 loc:=by lk
 nl:=by lk
 nd:=by decide
 ok:=λP=>by lk
 len:=rfl
 few:=by decide
 ne:=nofun
 row:=⟨[(_,_,_),(_,_,_),(_,_,_),(_,_,_)],[(_,_),(_,_),(_,_),(_,_)],_,_,_,_,_,by with_unfolding_all rfl,rfl,rfl⟩
theorem c308:sx 308 305 [] ["start","end"] ["start","end"] ["start","end"] where
 mks:=λP=>by lk
 ini:=λP=>by lk
 fn:=λP=>by lk
 fr:=fr305
 ps:=by lk
 loc:=by lk
 nl:=by lk
 nd:=by decide
 ok:=λP=>by lk
 len:=rfl
 few:=by decide
 ne:=nofun
 row:=⟨[(_,_,_),(_,_,_)],[(_,_),(_,_)],_,_,_,_,_,by with_unfolding_all rfl,rfl,rfl⟩
section
variable {n:Nat}{w:World}{s:ae}{R:aD}{st:St}
theorem zL (B:Be w aa n A R st s)(hdp:A.depth+1 < aA){u v z:Value}(h:∀ x h' t',(Sb s.heap h')->cL h' x 94 [("endpoints",u),("event",z),("opposites",v)]->Q (.ref x) (up s h' t')):wpAny (Md w) A (call (.ref 94) [u,v,z]) Q E s:=
 lH c94 B.G B.I.base B.O.handled hdp (us':=[u,z,v]) rfl .nil (λx0=>.cons rfl (.cons rfl (.cons rfl .nil))) λh' t' k i=>h _ h' t' k i.inst
theorem Co (B:Be w aa n A R st s)(hdp:A.depth+1 < aA){u v z y:Value}(h:∀ x h' t',(Sb s.heap h')->cL h' x 540 [("endpoints",u),("event",z),("opposites",v),("_orienteer",y)]->Q (.ref x) (up s h' t')):wpAny (Md w) A (call (.ref 540) [u,v,z,y]) Q E s:=
 lH c540 B.G B.I.base B.O.handled hdp (us':=[u,z,v,y]) rfl .nil (λx0=>.cons rfl (.cons rfl (.cons rfl (.cons rfl .nil)))) λh' t' k i=>h _ h' t' k i.inst
theorem wj (B:Be w aa n A R st s)(hdp:A.depth+1 < aA){u v:Value}(h:∀ x h' t',(Sb s.heap h')->cL h' x 308 [("start",u),("end",v)]->Q (.ref x) (up s h' t')):wpAny (Md w) A (call (.ref 308) [u,v]) Q E s:=
 lH c308 B.G B.I.base B.O.handled hdp (us':=[u,v]) rfl .nil (λx0=>.cons rfl (.cons rfl .nil)) λh' t' k i=>h _ h' t' k i.inst
end
section
variable {M:Model}
theorem Eg (X:(K M.w.params).In h):Looks M h (Bind.madeBy (.ref 209)) ac:=fc X (by lk)
theorem ck209 (X:(K M.w.params).In h)(t:Addr):Looks M h (iH "tuple.__new__" ⟨[.ref 209,.ref t],[]⟩) ():=fc X (by lk)
theorem mh209 (X:(K M.w.params).In h):Looks M h (Bind.madeHere "tuple.__new__" (.ref 209)) ():=fc X (by lk)
theorem it209 (X:(K M.w.params).In h):Looks M h (isType (.ref 209)) true:=fc X (by lk)
theorem st209 (X:(K M.w.params).In h):Looks M h (kj (.ref 209) (.type "tuple")) true:=fc X (by lk)
theorem DF (X:(K M.w.params).In h):Looks M h (mL (.ref 209) "__init__") (some (.builtin "object.__init__")):=fc X (by lk)
theorem sc209 (X:(K M.w.params).In h):Looks M h (specialOf (.ref 209) "__call__") (some (.builtin "type.__call__")):=fc X (by lk)
theorem ii209 (X:(K M.w.params).In h):Looks M h (fY (.ref 209) (.type "type")) true:=fc X (by lk)
theorem mr209 (X:(K M.w.params).In h):Looks M h (mroOf (.ref 209)) [.ref 209,.type "tuple",.type "object"]:=fc X (by lk)
theorem so209 (X:(K M.w.params).In h):Looks M h (kj (.ref 209) (.type "object")) true:=fc X (by lk)
theorem ss209 (X:(K M.w.params).In h):Looks M h (kj (.ref 209) (.ref 209)) true:=fc X (by lk)
theorem rc210 (P:aM):recIn (K P) 210 "staticmethod" = some (.ref 159 :: ((recIn (K P) 210 "staticmethod").getD []).tail):=by lk
theorem fc209 (P:aM):findCls (K P) (.ref 209) (.type "type") "__new__" = some (.get (.builtin "staticmethod.__get__") (.ref 210) .none (.ref 209)):=by lk
theorem rd209 (P:aM):readsIn (K P) 209 (.type "type")=true:=by lk
theorem ys:plainId "tuple.__new__" = true:=by decide +kernel
theorem yt:mX table "tuple.__new__" = some Builtin.«tuple.__new__»:=entryFor_of_tree (by lk)
end
section
variable {n:Nat}{w:World}{hp:Heap}{gg:Array bk}{dr:Drawn}{tk:Nat}{os:fz}
theorem c209 (P:aM):(K P).lookup 209=some Cg:=by lk
noncomputable abbrev qJ (dx:Addr)(u v:Value):Obj:=⟨.ref 209,some dx,.seq #[u,v] 0,#[]⟩
theorem E3 {t:Addr}{u v:Value}(X:(K w.params).In hp)(ht:hp.get? t=some ⟨.type "tuple",ac,.seq #[u,v] 0,sl⟩)
  (q:∀ h':Heap,(Sb hp h')->Q (.ref (h'.objs.size+1)) ⟨(h'.push du).push (qJ h'.objs.size u v),gg,dr,tk,os⟩) :
  wpAny (Md w) A (call (.builtin "tuple.__new__") [.ref 209,.ref t]) Q E ⟨hp,gg,dr,tk,os⟩:=by
 have c1:=ck209 (M:=Md w) X t
 have l1:=it209 (M:=Md w) X
 have l2:=st209 (M:=Md w) X
 have l3:=mh209 (M:=Md w) X
 have l4:=DF (M:=Md w) X
 refine bw (da ys yt ?_)
 refine Looks.at c1 ?_
 unfold Builtin.«tuple.__new__»
 have hx:∀ (A':aw) (Q':List Value->ae->Prop) (E':Value->ae->Prop),(∀ h':Heap,(Sb hp h')->Q' [u,v] ⟨h',gg,dr,tk,os⟩)->wpAny (Md w) A' (collect (.ref t)) Q' E' ⟨hp,gg,dr,tk,os⟩:=λA' Q' E' z =>
  wpAny_collect_seq (items:=#[u,v]) (n:=0) t (.inr rfl) ht rfl rfl z (by show 2<=2 ^ 24;decide)
 repeat (first | with_reducible refine hx _ _ _ λh' k=>?_ | lk)
 have hC:=k _ _ (X _ _ (c209 w.params))
 refine ij (ak _ (ak _ hC)) ?_
 refine aj (aj (aj ?_))
 have z:=q h' k
 rw [bN]
 exact z
theorem bodyNew:aO 159=[.Expr (.Constant (.str ((docOf (aO 159)).getD default)) 0 (match aO 159 with | .Expr _ p :: _=>p | _=>default)) (match aO 159 with | .Expr _ p :: _=>p | _=>default),
  (aO 159)[1]?.getD default]:=by lk
end
section
variable {n:Nat}{w:World}{env:Env}{hp:Heap}{gg:Array bk}{dr:Drawn}{tk:Nat}{os:fz}
theorem Cm {u v:Value}{Q:Flow->ae->Prop}(G:Gd w aa)(b:Sb aa hp)(F:bZ env sc hp m)(hsc:sc=aJ 159)(h1:m "_cls" = some (.ref 209))(h2:m "x" = some u)(h3:m "y" = some v)
  (q:∀ (h':Heap) t',(Sb hp h')->Q (.ret (.ref (h'.objs.size+1))) ⟨(h'.push du).push (qJ h'.objs.size u v),gg,dr,t',os⟩):wpAny (Md w) A (execs (aO 159) env) Q E ⟨hp,gg,dr,tk,os⟩:=by
 subst hsc
 have X:(K w.params).In hp:=G.X.keeps b
 with_unfolding_all show wpAny _ _ (execs [.Expr (.Constant (.str _) _ _) _,.Return (some (.Call (.Attribute (.Name _ _) _ _) [.Name _ _,.Tuple [.Name _ _,.Name _ _] _ _] [] _)) _] env) _ _ _
 refine aK (wpAny_Expr_any (Constant_str ?_) (by unfold kU;rw [F.sce,F.kind];rfl) rfl)
 refine aK (cV ?_)
 refine jq (sy (v:=.type "tuple") F G b λpl=>?_)
 have e1:gl (.type "tuple")=pure (.type "type"):=by lk
 have e2:Manifest.isStub "tuple" = false:=by lk
 have e3:findCls (K w.params) (.type "tuple") (.type "type") "__new__" = some (.val (.builtin "tuple.__new__")):=by lk
 have e4:lJ (.builtin "tuple.__new__")=true:=by lk
 refine tC (P:=w.params) (T:="tuple") (v:=.builtin "tuple.__new__") (s:=⟨hp,gg,dr,tk+1,os⟩) X e1 e2 e3 e4 ?_
 refine cw ?_
 refine am (hU F h1 ?_)
 refine am (im (am (hU F h2 (am (hU F h3 (az ⟨by show 2<=2 ^ 24;decide,?_⟩))))))
 have k1:Sb hp (hp.push { cls:=.type "tuple",data:=.seq #[u,v] }):=λb o e=>ak _ e
 refine az ⟨xq,?_⟩
 exact E3 (X.keeps k1) (ar _ rfl) λh' k=>q h' _ λb o e=>k b o (k1 b o e)
theorem oi_entry:mX table "object.__init__" = some Builtin.«object.__init__»:=entry_oi
theorem FU (a b c:Value):argsOk "object.__init__" ⟨[a,b,c],[]⟩:=by unfold argsOk;lk
theorem ps159:dK 159=[("_cls" : Str),"x","y"]:=by lk
theorem wk {s:ae}(G:Gd w aa)(bs:Sb aa s.heap)(hdp:A.depth+1 < aA){u v:Value}
  (h:∀ (x dx:Addr) h' t',(Sb s.heap h')->h'.get? x=some (qJ dx u v)->h'.get? dx=some du->x=dx+1/\(∀ b o,s.heap.get? b=some o->b < dx)->Q (.ref x) (up s h' t')):wpAny (Md w) A (call (.ref 209) [u,v]) Q E s:=by
 obtain ⟨hp,g,dr,t,os⟩:=s
 have X:(K w.params).In hp:=G.X.keeps bs
 have nl:hp.NoLimit:=G.nolimit bs
 have hC:=X _ _ (c209 w.params)
 have l1:=Eg (M:=Md w) X
 have l2:=sc209 (M:=Md w) X
 have l3:=ii209 (M:=Md w) X
 have l4:=mr209 (M:=Md w) X
 refine bw (bc ?_)
 show wpAny _ _ (jT (.ref 209) _) _ _ _
 refine nd_load hC ?_
 show wpAny _ _ (callAny.viaDunder (.ref 209) _) _ _ _
 unfold callAny.viaDunder
 refine ag (l2.at ?_)
 dsimp only
 rw [tc_bind]
 refine ag (aj (ag (aj ?_)))
 refine aj (a:=Fin.again (.call (.builtin "type.__call__") ⟨.ref 209 :: [u,v],[]⟩)) (jJ rfl ?_)
 refine codeAny_call_builtin_at (Code.quiet_builtin _ (by decide +kernel)) entry_typeCall (check_slot tc_kind tc_split l3 (tc_args _ _ _) ?_)
 unfold Builtin.«type.__call__»
 have ga:∀ (A':aw) (Q':Value->ae->Prop) (E':Value->ae->Prop) t',Q' (.ref 159) ⟨hp,g,dr,t'+1,os⟩->wpAny (Md w) A' (hM (.ref 209) "__new__") Q' E' ⟨hp,g,dr,t',os⟩:=λA' Q' E' t' z =>
  cls_bind (s:=⟨hp,g,dr,t',os⟩) X (rd209 _) (fc209 _) (bw (sm_get (s:=⟨hp,g,dr,t'+1,os⟩) X (rc210 _) (handed_on rfl z)))
 repeat (first | with_reducible refine ga _ _ _ _ ?_ | with_reducible refine bw ?_ | lk)
 refine md (P:=w.params) fr159 X nl (by rw [sC];omega) (by rfl) λab env F hloc kp=>?_
 have b0:Sb aa ab:=λb o e=>kp b o (bs b o e)
 refine Cm (u:=u) (v:=v) G b0 F rfl (by rfl) (by rfl) (by rfl) λh' t' k=>?_
 generalize hH:(h'.push du).push (qJ h'.objs.size u v)=H
 have k1:Sb h' H:=λb o e=>by subst hH;exact ak _ (ak _ e)
 have X':(K w.params).In H:=X.keeps λb o e=>k1 b o (k b o (kp b o e))
 have hx:H.get? (h'.objs.size+1)=some (qJ h'.objs.size u v):=by
  subst hH
  have:=ar (o:=qJ h'.objs.size u v) (h'.push du) rfl
  rwa [bN] at this
 have hd:H.get? h'.objs.size=some du:=by subst hH;exact ak _ (ar _ rfl)
 have t1:Looks (Md w) H (gl (.ref (h'.objs.size+1))) (.ref 209):=(eT hx).andThen .now
 have i1:Looks (Md w) H (fY (.ref (h'.objs.size+1)) (.ref 209)) true:=t1.andThen (ss209 X')
 have i2:Looks (Md w) H (fY (.ref (h'.objs.size+1)) (.type "object")) true:=t1.andThen (so209 X')
 have l5:=DF (M:=Md w) X'
 have l6:=Eg (M:=Md w) X'
 have l7:Looks (Md w) H (gE (.builtin "object.__init__") (.ref (h'.objs.size+1))) (.builtin "object.__init__",[.ref (h'.objs.size+1)]):=cK (oi_bind _)
 have fin:=h (h'.objs.size+1) h'.objs.size H t' (λb o e=>k1 b o (k b o (kp b o e))) hx hd ⟨rfl,λb o e=>bp (k b o (kp b o e))⟩
 dsimp only
 unfold callSpecial? specialOf
 repeat (first | with_reducible refine bw ?_ | lk)
 refine da oi_plain entry_oi (@check_slot (Md w) _ _ _ "object.__init__" "object" "__init__" (.ref (h'.objs.size+1)) [u,v] [] _ oi_kind oi_split i2 (FU _ u v) ?_)
 unfold Builtin.«object.__init__»
 repeat lk
 exact fin
end
abbrev zq:List Stmt:=(aO 819).take 1
theorem c822:sx 822 819 zq ["first_segment_id","second_segment_id","relation","start","end"] ["end","first_segment_id","relation","second_segment_id","start"] ["_end","_first_segment_id","_relation","_second_segment_id","_start"] where
 mks:=λP=>by lk
 ini:=λP=>by lk
 fn:=λP=>by lk
 fr:=fr819
 ps:=by lk
 loc:=by lk
 nl:=by lk
 nd:=by decide
 ok:=λP=>by lk
 len:=rfl
 few:=by decide
 ne:=nofun
 row:=⟨[(_,_,_),(_,_,_),(_,_,_),(_,_,_),(_,_,_)],[(_,_),(_,_),(_,_),(_,_),(_,_)],_,_,_,_,_,by with_unfolding_all rfl,rfl,rfl⟩
theorem xe:∃ p q r m z,zq=[.Assert (.Compare (.Name "first_segment_id" p) [.NotEq] [.Name "second_segment_id" q] r) m z]:=⟨_,_,_,_,_,by with_unfolding_all rfl⟩
section
variable {n:Nat}{w:World}{s:ae}{R:aD}{st:St}
theorem Cn (B:Be w aa n A R st s)(hdp:A.depth+1 < aA){i j:Int}{ti tj:Tok}(hne:i≠j){r u v:Value}
  (h:∀ x h' t',(Sb s.heap h')->cL h' x 822 [("_end",v),("_first_segment_id",.int i ti),("_relation",r),("_second_segment_id",.int j tj),("_start",u)]->Q (.ref x) (up s h' t')):wpAny (Md w) A (call (.ref 822) [.int i ti,.int j tj,r,u,v]) Q E s:=by
 refine lH (us':=[v,.int i ti,r,.int j tj,u]) c822 B.G B.I.base B.O.handled hdp rfl (λx0 A env s r Q E F k=>?_) (λx0=>.cons rfl (.cons rfl (.cons rfl (.cons rfl (.cons rfl .nil))))) λh' t' k i=>h _ h' t' k i.inst
 refine uk xe λ_ _ _ _ _ e=>?_
 rw [e]
 exact aK (wpAny_Assert_holds (j6 (hU F (by rfl) (hU F (by rfl) (ne_int (cH ⟨by simpa using hne,k _⟩))))))
end
theorem zK:kK:=by
 intro w aa n A s R st f vs us r Q E B hm hv q
 have hdp:A.depth+1 < aA:=av (aT (au (show 1<=3 * 1 by decide) (Nat.mul_le_mul_left 3 (Nat.succ_le_succ (dB n)))) _) B.O.depth
 match vs,hm with
 | [a,b],hm =>
  refine hv.el2 (G:=λus=>wpAny (Md w) A (call (.ref f) us) Q E s) λu v p1 p2=>?_
  refine eK (c:=f == 308) hm (λhf g=>?_) λ_ g=>ba g λhf g=>?_
  ·refine aC g λp hp g1=>aC g1 λp' hp' g2=>?_
   rw [eq_of_beq hf]
   exact wj B hdp λx h' t' k i=>have nx:=dQ.nx k B.I;q h' t' _ nx (sj g2▸.seg i ((fw hp▸p1:V R s.heap _ u).nx nx B.I) ((fw hp'▸p2:V R s.heap _ v).nx nx B.I))
  ·refine aC g λp hp g1=>aC g1 λp' hp' g2=>?_
   rw [eq_of_beq hf]
   refine (p1.asI hp).el (P:=λu=>wpAny (Md w) A (call (.ref 209) [u,v]) Q E s) λt=>(p2.asI hp').el (P:=λv=>wpAny (Md w) A (call (.ref 209) [_,v]) Q E s) λt'=>?_
   exact wk B.G B.I.base hdp λx dx h' t' k i j _=>q h' t' _ (dQ.nx k B.I) (sj g2▸.pt ⟨#[],i⟩ ⟨#[],j⟩)
 | [a,b,c],hm =>
  refine ba hm λhc g=>bR hc λhf hc=>bR hc λha hb=>aC g λe he g1=>?_
  rw [eq_of_beq hf]
  refine hv.el3 (G:=λus=>wpAny (Md w) A (call (.ref 94) us) Q E s) λu v z p1 p2 p3=>?_
  refine (p1.asL (eq_of_beq ha)).el (P:=λu=>wpAny (Md w) A (call (.ref 94) [u,v,z]) Q E s) λ_ c0=>(p2.asL (eq_of_beq hb)).el (P:=λv=>wpAny (Md w) A (call (.ref 94) [_,v,z]) Q E s) λ_ c1=>(p3.asI he).el (P:=λz=>wpAny (Md w) A (call (.ref 94) [_,_,z]) Q E s) λt=>?_
  exact zL B hdp λx h' t' k i=>q h' t' _ (dQ.nx k B.I) (sj g1▸.qk c0 c1 i)
 | [a,b,c,d],hm =>
  refine ba hm λhc g=>bR hc λhf hc=>bR hc λha hc=>bR hc λhb hd=>aC g λe he g1=>?_
  rw [eq_of_beq hf]
  refine hv.el4 (G:=λus=>wpAny (Md w) A (call (.ref 540) us) Q E s) λu v z y p1 p2 p3 p4=>?_
  refine (p1.asL (eq_of_beq ha)).el (P:=λu=>wpAny (Md w) A (call (.ref 540) [u,v,z,y]) Q E s) λ_ c0=>(p2.asL (eq_of_beq hb)).el (P:=λv=>wpAny (Md w) A (call (.ref 540) [_,v,z,y]) Q E s) λ_ c1 =>
   (p3.asI he).el (P:=λz=>wpAny (Md w) A (call (.ref 540) [_,_,z,y]) Q E s) λt=>(p4.asR (eq_of_beq hd)).el (P:=λy=>wpAny (Md w) A (call (.ref 540) [_,_,_,y]) Q E s) λl=>?_
  exact Co B hdp λx h' t' k i=>q h' t' _ (dQ.nx k B.I) (sj g1▸.sk l c0 c1 i)
 | [a,b,c,d,e],hm =>
  refine ba hm λhf g=>aC g λi hi g=>aC g λj hj g=>aC g λrr hr g=>aC g λp hp g=>aC g λp' hp' g=>ba g λhne g'=>?_
  rw [eq_of_beq hf]
  refine hv.un (G:=λus=>wpAny (Md w) A (call (.ref 822) us) Q E s) λu us p1 hv=>hv.el4 (G:=λus=>wpAny (Md w) A (call (.ref 822) (u :: us)) Q E s) λv y z z' p2 p3 p4 p5=>?_
  rw [p3.asA hr]
  refine (p1.asI hi).el (P:=λu=>wpAny (Md w) A (call (.ref 822) [u,v,_,z,z']) Q E s) λt=>(p2.asI hj).el (P:=λv=>wpAny (Md w) A (call (.ref 822) [_,v,_,z,z']) Q E s) λt2=>?_
  exact Cn B hdp (of_decide_eq_true hne) λx h' t' k i=>have nx:=dQ.nx k B.I;q h' t' _ nx (sj g'▸.isec i ((fw hp▸p4:V R s.heap _ z).nx nx B.I) ((fw hp'▸p5:V R s.heap _ z').nx nx B.I))
section
variable {n:Nat}{I:ja}{w:World}{env:Env}{s:ae}{R:aD}{lo:Lo}{st bA:St}{a b:Mv}{u v:Value}
theorem ldF {c:Addr}{v:Value}(F:bZ env sc s.heap m)(hc:env.cells.lookup xs=some c)(ho:s.heap.get? c=some ⟨.type "cell",ac,.cell (some v),sl⟩)(hQ:Q v s)
  (hl:sc.names.lookup xs=some .free:=by lk) (hn:(xs == ("__classdict__" : Str))=false:=by lk) (hd:(xs == ("__debug__" : Str))=false:=by lk):wpAny (Md w) A (eval (.Name xs pos) env) Q E s:=
 cA (wpAny_loadName_free (by rw [F.sce];exact F.kind) (by show env.scope.names.lookup _=_;rw [F.sce];exact hl) hc ⟨_,ho,rfl⟩ hQ hn) hd
theorem tN {l:Expr}{q x:Str}{cv:Value}{ps:List Str}{f:Addr}{Q E:Value->ae->Prop}(B:Be w aa (n+1) A R st s)(L:fU s.heap f l q x cv)
  (hbind:∀ pm cdv ct cell,bindArgs (kla_fn "<lambda>" q (pU l) (jL l) (fT l) [(x,cell)] pm (.ref cdv) ct) ⟨us,[]⟩=pure (ps.zip us)) (hlen:us.length=ps.length)
  (cell:∀ x∈(fT l).names,x.2≠.cell) (loc:∀ x∈ps,(fT l).names.lookup x=some .local) (co:(fT l).isCoroutine=false) (gen:(fT l).isGenerator=false) (kind:(fT l).kind=.function)
  (h:∀ ab env c sl,bZ env (fT l) ab (λx=>(ps.zip us).reverse.lookup x)->env.locals=s.heap.objs.size->env.cells=[(x,c)]->ab.get? c=some ⟨.type "cell",ac,.cell (some cv),sl⟩->(Sb s.heap ab) ->
   Be w aa n (A.deeper env) R st { s with heap:=ab,toks:=s.toks+us.length } ->
   wpAny (Md w) (A.deeper env) (eval (jL l) env) (λv s'=>Q v s') (λe s'=>wpAny (Md w) (A.deeper env) (nW env e) (λ_ s''=>E e s'') (λe' s''=>E e' s'') s') { s with heap:=ab,toks:=s.toks+us.length }) :
  wpAny (Md w) A (call (.ref f) us) Q E s:=by
 refine el85 L λpm cdv ct c od oc fs t y5 y6 y7 d g=>?_;obtain ⟨sl,e1⟩:=y5;obtain ⟨sl2,e2⟩:=y6;obtain ⟨sl3,e3⟩:=y7
 have nl:s.heap.NoLimit:=B.G.nolimit B.I.base
 refine bw (kla_callFunE (o:=⟨.type "function",od,.func (kla_fn "<lambda>" q (pU l) (jL l) (fT l) [(x,c)] pm (.ref cdv) ct),sl⟩) (by have:=B.O.depth;exact av (aE _ _) ‹_›) e1 rfl co gen rfl ⟨cdv,_,fs,t,rfl,e3,d,g⟩ ?_)
 rw [hbind]
 refine aj ?_
 have hz:(ps.zip us).length=us.length:=by rw [List.length_zip,hlen,Nat.min_self]
 refine lY cell (λx hx=>loc x.1 (gp hx).1) (λab hns hsb=>⟨nl.fresh _ hsb,kla_codeExpr ?_⟩) kind
 rw [hz]
 have kp:Sb s.heap ab:=λb o e=>hsb.extBut b o (bV (bp e)) (ak _ e)
 generalize henv:newEnv (fT l) s.heap.objs.size bM [(x,c)] _ _ _ _ _=env
 have F:bZ env (fT l) ab (λx=>(ps.zip us).reverse.lookup x):=by subst henv;exact ⟨rfl,kind,co,rfl,rfl,rfl,hns⟩
 have hloc:env.locals=s.heap.objs.size:=by subst henv;rfl
 have hcl:env.cells=[(x,c)]:=by subst henv;rfl
 refine h ab env c sl2 F hloc hcl (kp _ _ e2) kp ?_
 refine dJ B.S λouter hfr hff hfc=>?_
 have hfr':(A.deeper env).frames=some (env :: outer):=by show A.frames.map (env :: ·)=_;rw [hfr];rfl
 have hbn:aa.get? env.locals=ac:=by
  rw [hloc]
  exact Heap.StaysIn.fresh (base:=aa) (h:=s.heap) B.I.base
 refine qa F.at_ λo es ep e cc d _=>?_
 have nf:∀ vs,o.data≠.fields vs:=λvs q=>by rw [d] at q;cases q
 refine ⟨B.G,⟨B.O.handled,?_,?_⟩,⟨_,hfr',⟨by rw [F.sce,F.kind];decide,⟨env.locals,o,F.frame,hbn,e,nf⟩,hff.of_keeps λb o e _=>⟨o,kp b o e,rfl⟩⟩,?_⟩,(dQ.nx kp B.I).inv⟩
 ·exact av (ya (b:=3 * n) (show 1<=3 by decide)) B.O.depth
 ·exact av (Nat.add_le_add_right (ya (b:=24 * n) (show 3<=24 by decide)) 8) B.O.units
 ·intro L hL
  rw [j7,F.frame] at hL
  rcases aq.mp hL with rfl | hL
  ·exact ⟨o,e,cc,nf⟩
  ·refine dJ (hfc L hL) λo' e' c' d'=>?_
   exact ⟨o',kp _ _ e',c',d'⟩
theorem DW:mH:=by
 intro w aa n A s R st e t Q E B l q
 have hdp:A.depth+2 < aA:=B.O.d (k:=2) (by decide)
 refine tN (ps:=["event"]) B (B.I.still l).qkf (λpm cdv ct cell=>by lk) rfl (by
   have:((fT j9).names.all λx=>!(x.2 == .cell))=true:=by lk
   simpa using this) (by
   intro x hx
   rw [ah] at hx
   subst hx;lk) (by lk) (by lk) (by lk) λab env c sl F hloc hcl hco kp B1=>?_
 have hc:env.cells.lookup ("self" : Str)=some c:=by rw [hcl];rfl
 refine xG ((B1.I.still l).reg) λc0 c1 c2 c3 e0 e1 e2 e3 r=>?_
 have Vreg:∀ {h},V R h (.root .reg) (.ref (R.at_ .reg)):=.root _ l
 have cellk:∀ {h':Heap},(Sb ab h')->h'.get? c=some ⟨.type "cell",ac,.cell (some (.ref (R.at_ .reg))),sl⟩:=λk=>k _ _ hco
 with_unfolding_all show wpAny _ _ (eval (.Call (.Name _ _) [.Attribute (.Name _ _) _ _,.Attribute (.Name _ _) _ _,.Name _ _] [] _) env) _ _ _
 refine aN (wm (v:=.ref 94) F B1.G B1.I.base ?_)
 refine cw ?_
 refine am (jr (ldF F hc hco ?_) (oH (kE rfl _ env)))
 refine ou Ga ux B1 r (by decide) rfl rfl λt1=>?_
 refine am (jr (ldF F hc hco ?_) (oH (kE rfl _ env)))
 refine ou Ga ux (B1.toks t1) r (by decide) rfl rfl λt2=>?_
 have hm:(λx=>((["event"]:List Str).zip [jA e t]).reverse.lookup x) "event" = some (.int e t):=rfl
 refine am (hU F hm ?_)
 refine az ⟨wn B1.X (by lk),?_⟩
 refine zL (B1.toks t2) hdp λx h' t' k i=>?_
 have kk:Sb s.heap h':=λb o e=>k b o (kp b o e)
 exact q h' t' _ (dQ.nx kk B.I) (.qk e0 e1 i)
end
section
variable {n:Nat}{I:ja}{w:World}{env:Env}{s:ae}{R:aD}{lo:Lo}{st bA:St}{a b:Mv}{u v:Value}
theorem Be.enter {k t:Nat}(B:Be w aa n A R st s)(hd:A.depth+1+3 * k < aA)(hu:A.units+3+24 * k+8 < cLine)(F:bZ env sc ab m)(hloc:env.locals=s.heap.objs.size)(kp:Sb s.heap ab) :
  Be w aa k (A.deeper env) R st (up s ab t)/\iU (A.deeper env) env:=by
 have nx:=dQ.nx kp B.I
 refine dJ B.S λouter hfr hff hfc=>?_
 have hfr':(A.deeper env).frames=some (env :: outer):=by show A.frames.map (env :: ·)=_;rw [hfr];rfl
 have hbn:aa.get? env.locals=ac:=by
  rw [hloc]
  exact Heap.StaysIn.fresh (base:=aa) (h:=s.heap) B.I.base
 refine qa F.at_ λo es ep e cc d _=>?_
 have nf:∀ vs,o.data≠.fields vs:=λvs q=>by rw [d] at q;cases q
 refine ⟨⟨B.G,⟨B.O.handled,hd,hu⟩,⟨_,hfr',⟨by rw [F.sce,F.kind];decide,⟨env.locals,o,F.frame,hbn,e,nf⟩,hff.of_keeps λb o e _=>⟨o,kp b o e,rfl⟩⟩,?_⟩,nx.inv⟩,_,hfr'⟩
 intro L hL
 rw [j7,F.frame] at hL
 rcases aq.mp hL with rfl | hL
 ·exact ⟨o,e,cc,nf⟩
 ·refine dJ (hfc L hL) λo' e' c' d'=>?_
  exact ⟨o',kp _ _ e',c',d'⟩
theorem zX {Q:Unit->ae->Prop}{e:Addr}(B:Be w aa n A R st s)(T:iU A env)(hf:env.frame=some env.locals)(he:DC aa e s.heap\/Bm aa e s.heap)
  (h:∀ h',dQ (env.locals :: R.cells) s.heap h'->nQ aa R st h'->DC aa e h'->Q () { s with heap:=h' }):wpAny (Md w) A (nW env (.ref e)) Q E s:=by
 refine dJ B.S λouter hfr hl hc=>?_
 obtain ⟨outer',hfr'⟩:=T
 rw [hfr] at hfr';cases hfr'
 refine tK hfr hl hf B.I.base he λh2 ⟨x1,x2,⟨a0,x3⟩,x4⟩=>?_
 refine h h2 x4.keep (B.I.trc x4 x1 (hc.off B.I.hs)) ⟨?_,a0,x3⟩
 rcases he with he | he
 ·exact he.1
 ·exact he.1
theorem ps347:dK 347=[("self" : Str),"start","end"]:=by lk
theorem yQ {c u v:Value}(B:Be w aa n A R st s)(hdp:A.depth+2 < aA)(hun:A.units+11 < cLine)(h:∀ x h' t',(Sb s.heap h')->cL h' x 308 [("start",u),("end",v)]->Q (.ref x) (up s h' t')) :
  wpAny (Md w) A (call (.ref 347) [c,u,v]) Q E s:=by
 refine bw (md (P:=w.params) fr347 B.X (B.G.nolimit B.I.base) (by exact av (aE _ _) ‹_›) (by rfl) λab env F hloc kp=>?_)
 have hu:(λx=>((dK 347).zip [c,u,v]).reverse.lookup x) "start" = some u:=by rfl
 have hv:(λx=>((dK 347).zip [c,u,v]).reverse.lookup x) "end" = some v:=by rfl
 obtain ⟨B1,_⟩:=B.enter (k:=0) (t:=s.toks + [c,u,v].length) (by exact Nat.lt_of_succ_lt ‹_›) (by assumption) F hloc kp
 with_unfolding_all show wpAny _ _ (execs [.Return (some (.Call (.Name _ _) [.Name _ _,.Name _ _] [] _)) _] env) _ _ _
 refine aK (cV (aN (wm (v:=.ref 308) F B1.G B1.I.base ?_)))
 refine cw (am (hU F hu (am (hU F hv (az ⟨wn B1.X (by lk),?_⟩)))))
 refine wj B1 (by show A.depth+1+1 < _;assumption) λx h' t' k i=>?_
 exact h x h' t' (λb o e=>k b o (kp b o e)) i
set_option tactic.hygienic true in
theorem ww (S:cz n I):iA I n:=by
 intro w aa A s R st a b c d us r st' Q E B l hv hc hQ
 have hdp:=B.O.depth
 have hun:=B.O.units
 refine bg ((B.I.still l).inter) λcx LA ic=>?_
 cases hv with | cons p1 hv=>cases hv with | cons p2 hv=>cases hv with | cons p3 hv=>cases hv with | cons p4 hv=>cases hv with | nil =>
 rename_i u1 u2 u3 u4
 refine tN (ps:=["first_start","first_end","second_start","second_end"]) B LA (λpm cdv ct cell=>by lk) rfl (by
   have:((fT jY).names.all λx=>!(x.2 == .cell))=true:=by lk
   simpa using this) (by
   intro x hx
   simp only [aq,fq,or_false] at hx
   rcases hx with rfl | rfl | rfl | rfl<;>lk) (by lk) (by lk) (by lk) λab env cc sl F hloc hcl hco kp B1=>?_
 have hT:iU (A.deeper env) env:=by
  refine bg B.S λouter hfr _=>?_
  exact ⟨outer,by show A.frames.map (env :: ·)=_;rw [hfr];rfl⟩
 have hcc:env.cells.lookup ("context" : Str)=some cc:=by rw [hcl];rfl
 have ic0:cL ab cx 369 []:=ic.ext kp
 generalize hm:(λx=>((["first_start","first_end","second_start","second_end"]:List Str).zip [u1,u2,u3,u4]).reverse.lookup x)=m at F
 have m1:m "first_start" = some u1:=by rw [<- hm];rfl
 have m2:m "first_end" = some u2:=by rw [<- hm];rfl
 have m3:m "second_start" = some u3:=by rw [<- hm];rfl
 have m4:m "second_end" = some u4:=by rw [<- hm];rfl
 with_unfolding_all show wpAny _ _ (eval (.Call (.Attribute (.Name _ _) _ _) [.Call (.Attribute (.Name _ _) _ _) [.Name _ _,.Name _ _] [] _,.Call (.Attribute (.Name _ _) _ _) [.Name _ _,.Name _ _] [] _] [] _) env) _ _ _
 refine jq (ldF F hcc hco λpl=>?_)
 refine pf (a:=.ctx) (f:=366) B1 (.ctx ic0) rfl λhf=>?_
 refine cw (am (jq (ldF F hcc hco λpl2=>?_)))
 refine pf (a:=.ctx) (f:=347) B1 (.ctx ic0) rfl λhf1=>?_
 refine cw (am (hU F m1 (am (hU F m2 (az ⟨Cz hf1 B1.X,?_⟩)))))
 refine yQ B1 (B.O.d (k:=3) (by decide)) (B.O.u (k:=14) (by decide)) λx1 h2 t2 k2 i2=>?_
 have nx2:=dQ.nx k2 B1.I
 have B2:Be w aa n (A.deeper env) R st (up s h2 t2):=B1.nx nx2
 have F2:bZ env (fT jY) h2 m:=F.nx nx2 B1.I
 have hco2:=k2 _ _ hco
 have ic2:=ic0.ext k2
 refine am (jq (ldF F2 hcc hco2 λpl3=>?_))
 refine pf (a:=.ctx) (f:=347) B2 (.ctx ic2) rfl λhf2=>?_
 refine cw (am (hU F2 m3 (am (hU F2 m4 (az ⟨Cz hf2 B2.X,?_⟩)))))
 refine yQ B2 (B.O.d (k:=3) (by decide)) (B.O.u (k:=14) (by decide)) λx2 h3 t3 k3 i3=>?_
 have nx3:=dQ.nx k3 B2.I
 have B3:Be w aa n (A.deeper env) R st (up s h3 t3):=B2.nx nx3
 refine az ⟨Cz hf B3.X,?_⟩
 have kk:Sb s.heap h3:=λb o e=>k3 b o (k2 b o (kp b o e))
 have nx0:Nx aa R s.heap R st h3:=dQ.nx kk B.I
 have fresh:∀ b o,s.heap.get? b=some o->b≠env.locals:=λb o e q=>by
  rw [hloc] at q
  exact dh _ (q▸bp e)
 refine bw (S.c w aa _ _ R st 366 [.ctx,.seg a b,.seg c d] [.ref cx,.ref x1,.ref x2] r st' _ _ hf B3 (.cons (.ctx (ic2.ext k3)) (.cons (.seg (i2.ext k3) (p1.nx nx0 B.I) (p2.nx nx0 B.I)) (.cons (.seg i3 (p3.nx nx0 B.I) (p4.nx nx0 B.I)) .nil))) hc λR4 h4 t4 nx4=>?_)
 have nx04:=nx0.trans nx4
 cases r with
 | ok v=>exact λu hu=>hQ R4 h4 t4 nx04 u hu
 | err =>
  intro ea he
  have B4:Be w aa n (A.deeper env) R4 st' (up s h4 t4):=B3.nx nx4
  refine zX B4 hT F.frame (.inl he) λh5 k5 i5 f5=>?_
  have ex:=nx04.ext
  cases ex
  have nx5:Nx aa R s.heap R st' h5:=⟨rfl,i5,λb o hb q nf=>by
   obtain ⟨sl4,q4⟩:=nx04.keep b o hb q nf
   exact k5 b { o with slots:=sl4 } (λz=>(aq.mp z).elim (fresh b o q) hb) q4 nf⟩
  exact hQ R h5 t4 nx5 ea f5
end
noncomputable def bI:Nat->ja
 | 0=>bot
 | n+1=>step (bI n)
theorem uY:∀ n,cz n (bI n)
 | 0=>qF
 | n+1=>pG (uY n) zK DW (ww (uY n))
noncomputable def sgn (a b:Int):Addr:=bif decide (a < b) then 242 else bif decide (b < a) then 248 else 245
noncomputable def vq (p:Int×Int):Bool:=decide (0<=p.1) && (decide (p.1<=22) && (decide (0<=p.2) && decide (p.2<=1)))
def asB (v:Mv):Option (Int×Int):=(kY v).bind λp=>dS (p.1 && vq p.2) (some p.2)
def He:Mv->Option ((Int×Int)×(Int×Int)) | .seg p q=>dS (p.1 && q.1) (some (p.2,q.2)) | _=>ac
def vY (v f:Int×Int)(a b:Int):Addr:=bif decide (v.1 < f.1) then sgn a b else sgn b a
def vf (v f s:Int×Int):Option Addr:=
 bif v.1 == f.1 then ac else bif s.1 == v.1 then some (vY v f s.2 v.2) else dS (s.1 == f.1) (some (vY v f s.2 f.2))
def evS (st:St)(e:Int):Option (Int×Int):=(sub (.list 0) (.int e) st).bind asB
def evO (st:St)(e:Int):Option Int:=(sub (.list 1) (.int e) st).bind eO
def GL (st:St)(e:Int):Option ((Int×Int)×(Int×Int)):=(evS st e).bind λs=>(evO st e).bind λo=>(evS st o).bind λt=>some (s,t)
noncomputable def Dy (u u':(Int×Int)×(Int×Int)):Bool:=u.1.1 % 2 == 0 && (u'.1.1+2 == u.1.1 && (u.1.1+2 == u.2.1 && (u'.2.1 == u.1.1 && decide (u.1.2 < u'.2.2))))
noncomputable def Am:Mv->Bool | .ctx=>true | _=>false
noncomputable def Hd:Mv->Option Int | .sk e=>some e | _=>ac
noncomputable def Hf:Mv->Option Int | .qk e=>some e | _=>ac
def on3 {α β:Type}(l:List α)(f:α->α->α->Option β):Option β:=List.rec (motive:=λ_=>Option β) ac (λa l _=>xY l (f a)) l
def on4 {α β:Type}(l:List α)(f:α->α->α->α->Option β):Option β:=List.rec (motive:=λ_=>Option β) ac (λa l _=>on3 l (f a)) l
def DV (vs:List Mv):Option Addr:=on4 vs λc a b d=>dS (Am c) ((asB a).bind λv=>(asB b).bind λf=>(asB d).bind λs=>vf v f s)
def crs (p q p' q':Int×Int):Bool:=vq p && (vq q && (vq p' && (vq q' && (p.1 % 2 == 0 && (p.1 == p'.1 && (q.1 == q'.1 && (p.1+2 == q.1 && (decide (p.2 < p'.2) && decide (q'.2 < q.2) || decide (p'.2 < p.2) && decide (q.2 < q'.2)))))))))
def DU (vs:List Mv):Option Int:=on3 vs λc a b=>dS (Am c) ((He a).bind λu=>(He b).bind λv=>dS (crs u.1 u.2 v.1 v.2) (some (u.1.1+1)))
noncomputable def tbl (w1 w2 w3 w4:Addr):Bool:=bif w1 == w2 then w1 == 248 else bif w3 == w4 then w3 == 242 else bif w1 == 245 then w2 == 248 else bif w3 == 245 then w4 == 242 else bif w4 == 245 then w3 == 242 else w1 == 248
def sides (s t s' t':Int×Int):Option Bool:=(vf s t s').bind λw1=>(vf s t t').bind λw2=>bif w1 == w2 then dS (!(w1 == 245)) (some (w1 == 248)) else (vf s' t' s).bind λw3=>(vf s' t' t).bind λw4=>some (tbl w1 w2 w3 w4)
def DT (vs:List Mv)(st:St):Option Bool:=xY vs λa b=>(Hd a).bind λe=>(Hd b).bind λe'=>(GL st e).bind λu=>bif e == e' then some false else (GL st e').bind λu'=>bif Dy u u' then some true else bif Dy u' u then some false else sides u.1 u.2 u'.1 u'.2
def DS (vs:List Mv)(st:St):Option Unit:=on3 vs λr a b=>dS (xu r .reg) ((eO a).bind λe=>(eO b).bind λe'=>(GL st e).bind λu=>(GL st e').bind λu'=>dS (Dy u u') (some ()))
noncomputable def AB (e:Int):Bool:=!(Builtin.bitAnd e 1 != 0)
noncomputable def zP (p q:Int×Int):Bool:=decide (p.1 < q.1\/p.1=q.1/\p.2 < q.2)
def rc91 (vs:List Mv)(st:St):Option Bool:=xY vs λa b=>(Hf a).bind λe=>(Hf b).bind λe'=>(GL st e).bind λu=>(GL st e').bind λu'=>some (bif zP u.1 u'.1 then true else bif zP u'.1 u.1 then false else bif AB e != AB e' then !AB e else zP u.2 u'.2)
def orc (f:Addr)(vs:List Mv)(st:St):Option (Option (Rs×St)):=
 bif f == 359 then (DV vs).map λw=>rv (.addr w) st
 else bif f == 366 then (DU vs).map λc=>rv (.pt (true,c,0)) st
 else bif f == 537 then (DT vs st).map λb=>rv (.bool b) st
 else bif f == 667 then (DS vs st).map λ_=>rv .none st
 else bif f == 91 then (rc91 vs st).map λb=>rv (.bool b) st
 else ac
noncomputable def fO:Nat->ja
 | 0=>bot
 | n+1=>{ step (fO n) with c:=λf vs st=>bif Nat.ble 20 n then (orc f vs st).getD (gJ (fO n) f vs st) else gJ (fO n) f vs st }
@[irreducible] noncomputable def mm:Nat:=0
section
variable {k m:Nat}{ax ay bx _by cx cy u v p:Int}{st:St}{f:Nat}{lo:Lo}{r:List Stmt}
def bA (f i:Nat):Stmt:=(aO f).getD i default
abbrev asgE (s:Stmt):Expr:=se s 0
abbrev binL (e:Expr):Expr:=ee e 0
abbrev rB (s:Stmt):Expr:=se s 0
abbrev B5 (s:Stmt):Pos:=sp s
abbrev sA (s:Stmt):Expr:=se s 0
abbrev Gx (s:Stmt):List Stmt:=sb s 0
abbrev ifO (s:Stmt):List Stmt:=sb s 1
theorem gO {l r:Expr}{op:mZ}{a b c:Int}(h1:(bI k).e sc l lo st=rv (.int a) st)(h2:(bI k).e sc r lo st=rv (.int b) st)(h3:rY op a b=some c):(bI (k+1)).e sc (.BinOp l op r q) lo st=rv (.int c) st:=by
 have e:(bI (k+1)).e sc (.BinOp l op r q) lo st=fe ((bI k).e sc l lo st) λa st=>fe ((bI k).e sc r lo st) λb st=>(bin op a b).bind λv=>rv v st:=rfl
 rw [e,h1]
 have e2:(fe (rv (.int a) st) λa st=>fe ((bI k).e sc r lo st) λb st=>(bin op a b).bind λv=>rv v st)=fe ((bI k).e sc r lo st) λb st=>(bin op (.int a) b).bind λv=>rv v st:=rfl
 rw [e2,h2]
 have e3:(fe (rv (.int b) st) λb st=>(bin op (.int a) b).bind λv=>rv v st)=((rY op a b).map Mv.int).bind λv=>rv v st:=rfl
 rw [e3,h3];rfl
abbrev tI (ax ay bx _by cx cy:Int):Lo:=jK (dK 359) [.ctx,.pt (false,ax,ay),.pt (false,bx,_by),.pt (false,cx,cy)]
theorem jw {a b:Int}(h:a.natAbs < 2 ^ 64):rY .Mult a b=some (a * b):=by
 have e:rY .Mult a b=dS (decide (a.natAbs < 2 ^ 64)) (some (a * b)):=rfl
 rw [e,decide_eq_true h];rfl
theorem dj {s:Stmt}(h:nk (bI k) sc s lo st=some (.next,lo',st')):(bI (k+1)).s sc (s :: r) lo st=(bI (k+1)).s sc r lo' st':=by
 have e:(bI (k+1)).s sc (s :: r) lo st=(nk (bI k) sc s lo st).bind λp=>match p.1 with
  | .next=>DJ (bI k) sc r p.2.1 p.2.2
  | _=>some p:=rfl
 rw [e,h];rfl
theorem jt {x:Str}{e:Expr}{p:Pos}{v:Mv}(hn:gP e=true)(hl:dY sc x=true)(h:(bI k).e sc e lo st=rv v st'):nk (bI k) sc (.Assign [.Name x p] e q) lo st=some (.next,put lo x v,st'):=by
 have z:nk (bI k) sc (.Assign [.Name x p] e q) lo st=dS (gP e) (dS (dY sc x) (Ht ((bI k).e sc e lo st) lo λv st=>some (.next,put lo x v,st))):=rfl
 rw [z,hn,hl,h];rfl
theorem pK {t:Expr}{b o:List Stmt}{c:Bool}(h:(bI k).t sc t lo st=some (c,st')):(bI (k+1)).s sc (.If t b o q :: r) lo st=(bif c then (bI k).s sc b lo st' else (bI k).s sc o lo st').bind λp=>match p.1 with
  | .next=>DJ (bI k) sc r p.2.1 p.2.2
  | _=>some p:=by
 have e:(bI (k+1)).s sc (.If t b o q :: r) lo st=(gD ((bI k).t sc t lo st) λc st=>bif c then (bI k).s sc b lo st else (bI k).s sc o lo st).bind λp=>match p.1 with
  | .next=>DJ (bI k) sc r p.2.1 p.2.2
  | _=>some p:=rfl
 rw [e,h];rfl
noncomputable def sg (p:Int):Addr:=bif decide (p > 0) then 248 else bif decide (p < 0) then 242 else 245
noncomputable def lz (ax ay bx _by cx cy:Int):Int:=(bx - ax) * (cy - ay) - (_by - ay) * (cx - ax)
theorem c359 (h1:(bx - ax).natAbs < 2 ^ 64)(h2:(_by - ay).natAbs < 2 ^ 64):gJ (bI (m+10)) 359 [.ctx,.pt (false,ax,ay),.pt (false,bx,_by),.pt (false,cx,cy)] st=rv (.addr (sg (lz ax ay bx _by cx cy))) st:=by
 have e:gJ (bI (m+10)) 359 [.ctx,.pt (false,ax,ay),.pt (false,bx,_by),.pt (false,cx,cy)] st=((bI (m+10)).s (aJ 359) (aO 359) (tI ax ay bx _by cx cy) st).bind lL:=by lk
 have b:aO 359=[bA 359 0,bA 359 1,bA 359 2,bA 359 3,bA 359 4]:=by lk
 rw [e,b,dj (s:=bA 359 0) (lo':=tI ax ay bx _by cx cy) (st':=st) (by lk)]
 rw [dj (s:=bA 359 1) (jt (by lk) (by lk) (gO (c:=lz ax ay bx _by cx cy) (gO (a:=bx - ax) (b:=cy - ay) (by lk) (by lk) (jw h1)) (gO (a:=_by - ay) (b:=cx - ax) (by lk) (by lk) (jw h2)) rfl))]
 generalize lz ax ay bx _by cx cy=p
 have t1:(bI (m+9)).t (aJ 359) (sA (bA 359 2)) (put (tI ax ay bx _by cx cy) "product" (.int p)) st=some (decide (p > 0),st):=by lk
 have t2:(bI (m+9)).t (aJ 359) (sA (bA 359 3)) (put (tI ax ay bx _by cx cy) "product" (.int p)) st=some (decide (p < 0),st):=by lk
 unfold sg
 revert t1 t2
 cases decide (p > 0) with
 | true=>exact λt1 _=>(congrArg (mi · lL) (pK t1)).trans (by lk)
 | false =>
  refine λt1 t2=>((congrArg (mi · lL) (pK t1)).trans (by lk:_=((bI (m+10)).s (aJ 359) [bA 359 3,bA 359 4] (put (tI ax ay bx _by cx cy) "product" (.int p)) st).bind lL)).trans ?_
  revert t2
  cases decide (p < 0) with
  | true=>exact λt2=>(congrArg (mi · lL) (pK t2)).trans (by lk)
  | false=>exact λt2=>(congrArg (mi · lL) (pK t2)).trans (by lk)
theorem jN {o i:Expr}{a b v:Mv}(hn:gP i=true)(h1:(bI k).e sc o lo st=rv a st)(h2:(bI k).e sc i lo st=rv b st)(h3:sub a b st=some v):(bI (k+1)).e sc (.Subscript o i q) lo st=rv v st:=by
 have e:(bI (k+1)).e sc (.Subscript o i q) lo st=dS (gP i) (fe ((bI k).e sc o lo st) λv st=>fe ((bI k).e sc i lo st) λk st=>(sub v k st).bind λr=>rv r st):=rfl
 rw [e,hn,h1]
 have e2:dS true (fe (rv a st) λv st=>fe ((bI k).e sc i lo st) λk st=>(sub v k st).bind λr=>rv r st)=fe ((bI k).e sc i lo st) λk st=>(sub a k st).bind λr=>rv r st:=rfl
 rw [e2,h2]
 have e3:(fe (rv b st) λk st=>(sub a k st).bind λr=>rv r st)=(sub a b st).bind λr=>rv r st:=rfl
 rw [e3,h3];rfl
theorem AI {x y:Expr}{a b:Mv}(hn:gP x=true)(hm:gP y=true)(h1:(bI k).e sc x lo st=rv a st)(h2:(bI k).e sc y lo st=rv b st):(bI (k+1)).e sc (.Tuple [x,y] j q) lo st=rv (.pair a b) st:=by
 have e:(bI (k+1)).e sc (.Tuple [x,y] j q) lo st=gD (dS (gP x) (fe ((bI k).e sc x lo st) λv st=>gD (dS (gP y) (fe ((bI k).e sc y lo st) λv st=>gD (some ([],st)) λvs st=>some (v :: vs,st))) λvs st=>some (v :: vs,st))) λvs st=>xY vs λa b=>rv (.pair a b) st:=rfl
 rw [e,hn,hm,h1]
 have e2:(gD (dS true (fe (rv a st) λv st=>gD (dS true (fe ((bI k).e sc y lo st) λv st=>gD (some ([],st)) λvs st=>some (v :: vs,st))) λvs st=>some (v :: vs,st))) λvs st=>xY vs λa b=>rv (.pair a b) st)=gD (gD (fe ((bI k).e sc y lo st) λv st=>gD (some ([],st)) λvs st=>some (v :: vs,st)) λvs st=>some (a :: vs,st)) λvs st=>xY vs λa b=>rv (.pair a b) st:=rfl
 rw [e2,h2];rfl
theorem yW {x y:Str}{e:Expr}{p1 p2 p3:Pos}{a b:Mv}(hn:gP e=true)(hl:(sI e && (!(x == y) && (dY sc x && dY sc y)))=true)(h:(bI k).e sc e lo st=rv (.pair a b) st'):nk (bI k) sc (.Assign [.Tuple [.Name x p1,.Name y p2] j p3] e q) lo st=some (.next,put (put lo x a) y b,st'):=by
 have z:nk (bI k) sc (.Assign [.Tuple [.Name x p1,.Name y p2] j p3] e q) lo st=dS (gP e) (dS (sI e && (!(x == y) && (dY sc x && dY sc y))) (fe ((bI k).e sc e lo st) λv st=>(lN v).bind λp=>some (.next,put (put lo x p.1) y p.2,st))):=rfl
 rw [z,hn,hl,h];rfl
def Ev (st:St)(e:Int)(a b:Int×Int):Prop:=sub (.list 0) (.int e) st=some (.pt (false,a))/\∃ o,sub (.list 1) (.int e) st=some (.int o)/\sub (.list 0) (.int o) st=some (.pt (false,b))
abbrev qN (e e':Int):Lo:=jK (dK 537) [.sk e,.sk e']
abbrev loE (e e':Int):Lo:=put (put (qN e e') "event" (.int e)) "other_event" (.int e')
abbrev loF (e e':Int)(a b a' b':Int×Int):Lo:=put (put (put (put (loE e e') "start" (.pt (false,a))) "other_start" (.pt (false,a'))) "end" (.pt (false,b))) "other_end" (.pt (false,b'))
abbrev hJ (e e':Int)(a b a' b':Int×Int)(w1 w2:Addr):Lo:=put (put (loF e e' a b a' b') "other_start_orientation" (.addr w1)) "other_end_orientation" (.addr w2)
def Sd (st:St)(a b c:Int×Int)(w:Addr):Prop:=∀ k,(bI (k+11)).c 359 [.ctx,.pt (false,a),.pt (false,b),.pt (false,c)] st=rv (.addr w) st
def pE (i:Nat):List Stmt:=(aO 537).drop i
abbrev Hy (e e':Int)(a b a' b':Int×Int)(w1 w2 w3 w4:Addr):Lo:=put (put (hJ e e' a b a' b' w1 w2) "start_orientation" (.addr w3)) "end_orientation" (.addr w4)
theorem c537 {e:Int}{a b:Int×Int}{w1 w2:Addr}(h:Ev st e a b)(h':Ev st e' a' b')(o1:Sd st a b a' w1)(o2:Sd st a b b' w2) :
  gJ (bI (mm+20)) 537 [.sk e,.sk e'] st=((bI (mm+20)).s (aJ 537) (pE 8) (hJ e e' a b a' b' w1 w2) st).bind lL:=by
 obtain ⟨s1,o,s2,s3⟩:=h
 obtain ⟨r1,q,r2,r3⟩:=h'
 have e0:gJ (bI (mm+20)) 537 [.sk e,.sk e'] st=((bI (mm+20)).s (aJ 537) (aO 537) (qN e e') st).bind lL:=by lk
 have b0:aO 537=[bA 537 0,bA 537 1,bA 537 2,bA 537 3,bA 537 4,bA 537 5,bA 537 6,bA 537 7]++pE 8:=by lk
 rw [e0,b0]
 show ((bI (mm+20)).s (aJ 537) (bA 537 0 :: bA 537 1 :: bA 537 2 :: bA 537 3 :: bA 537 4 :: bA 537 5 :: bA 537 6 :: bA 537 7 :: pE 8) (qN e e') st).bind lL=_
 rw [dj (s:=bA 537 0) (lo':=qN e e') (st':=st) (by lk),dj (s:=bA 537 1) (lo':=qN e e') (st':=st) (by lk),dj (s:=bA 537 2) (lo':=qN e e') (st':=st) (by lk),dj (s:=bA 537 3) (lo':=loE e e') (st':=st) (by lk)]
 rw [dj (s:=bA 537 4) (yW (by lk) (by lk) (AI (by lk) (by lk) (jN (b:=.int e) (by lk) (by lk) (by lk) s1) (jN (b:=.int e') (by lk) (by lk) (by lk) r1)))]
 rw [dj (s:=bA 537 5) (yW (by lk) (by lk) (AI (by lk) (by lk) (jN (b:=.int o) (by lk) (by lk) (jN (b:=.int e) (by lk) (by lk) (by lk) s2) s3) (jN (b:=.int q) (by lk) (by lk) (jN (b:=.int e') (by lk) (by lk) (by lk) r2) r3)))]
 rw [dj (s:=bA 537 6) (jt (by lk) (by lk) ((by lk:_=(bI (mm+18)).c 359 [.ctx,.pt (false,a),.pt (false,b),.pt (false,a')] st).trans (o1 (mm+7))))]
 rw [dj (s:=bA 537 7) (jt (by lk) (by lk) ((by lk:_=(bI (mm+18)).c 359 [.ctx,.pt (false,a),.pt (false,b),.pt (false,b')] st).trans (o2 (mm+7))))]
theorem sW {e:Expr}{p:Pos}{v:Mv}(h:(bI k).e sc e lo st=rv v st'):(bI (k+1)).s sc [.Return (some e) p] lo st=some (.ret v,lo,st'):=by
 have z:(bI (k+1)).s sc [.Return (some e) p] lo st=(Ht ((bI k).e sc e lo st) lo λv st=>some (.ret v,lo,st)).bind λp=>match p.1 with
  | .next=>DJ (bI k) sc [] p.2.1 p.2.2
  | _=>some p:=rfl
 rw [z,h];rfl
theorem tQ {a b:Addr}(ha:a∈eM)(hb:b∈eM):sV (.addr a) (.addr b)=some (a == b):=by
 have e:sV (.addr a) (.addr b)=dS (decide (a∈eM/\b∈eM)) (some (a == b)):=rfl
 rw [e,decide_eq_true ⟨ha,hb⟩];rfl
theorem yu {l r:Expr}{a b:Addr}(ha:a∈eM)(hb:b∈eM)(hm:(!behindInMarks .Is r)=true)(h1:(bI k).e sc l lo st=rv (.addr a) st)(h2:(bI k).e sc r lo st=rv (.addr b) st):(bI (k+1)).t sc (.Compare l [.Is] [r] q) lo st=some (a == b,st):=by
 have e:(bI (k+1)).t sc (.Compare l [.Is] [r] q) lo st=dS (!behindInMarks .Is r) (fe ((bI k).e sc l lo st) λa st=>fe ((bI k).e sc r lo st) λb st=>kD (bI k) .Is a b st):=rfl
 rw [e,hm,h1]
 have e2:dS true (fe (rv (.addr a) st) λa st=>fe ((bI k).e sc r lo st) λb st=>kD (bI k) .Is a b st)=fe ((bI k).e sc r lo st) λb st=>kD (bI k) .Is (.addr a) b st:=rfl
 rw [e2,h2]
 have e3:(fe (rv (.addr b) st) λb st=>kD (bI k) .Is (.addr a) b st)=match sV (.addr a) (.addr b) with
  | some r=>some (r,st)
  | ac=>ac:=rfl
 rw [e3,tQ ha hb]
theorem AJ {l r:Expr}{a b:Addr}(ha:a∈eM)(hb:b∈eM)(hm:(!behindInMarks .Is r)=true)(h1:(bI k).e sc l lo st=rv (.addr a) st)(h2:(bI k).e sc r lo st=rv (.addr b) st):(bI (k+1)).e sc (.Compare l [.Is] [r] q) lo st=rv (.bool (a == b)) st:=by
 have e:(bI (k+1)).e sc (.Compare l [.Is] [r] q) lo st=dS (!behindInMarks .Is r) (fe ((bI k).e sc l lo st) λa st=>fe ((bI k).e sc r lo st) λb st=>gD (kD (bI k) .Is a b st) λt st=>rv (.bool t) st):=rfl
 rw [e,hm,h1]
 have e2:dS true (fe (rv (.addr a) st) λa st=>fe ((bI k).e sc r lo st) λb st=>gD (kD (bI k) .Is a b st) λt st=>rv (.bool t) st)=fe ((bI k).e sc r lo st) λb st=>gD (kD (bI k) .Is (.addr a) b st) λt st=>rv (.bool t) st:=rfl
 rw [e2,h2]
 have e3:(fe (rv (.addr b) st) λb st=>gD (kD (bI k) .Is (.addr a) b st) λt st=>rv (.bool t) st)=gD (match sV (.addr a) (.addr b) with
  | some r=>some (r,st)
  | ac=>ac) λt st=>rv (.bool t) st:=rfl
 rw [e3,tQ ha hb];rfl
theorem pJ {t e:Expr}{p:Pos}{c:Bool}{v:Mv}(h:(bI (k+1)).t sc t lo st=some (c,st))(g:(bI k).e sc e lo st=rv v st):(bI (k+2)).s sc (.If t [.Return (some e) p] [] q :: r) lo st=bif c then some (.ret v,lo,st) else (bI (k+2)).s sc r lo st:=by
 rw [pK h]
 cases c with
 | false=>rfl
 | true =>
  have e1:(bI (k+1)).s sc [.Return (some e) p] lo st=(Ht ((bI k).e sc e lo st) lo λv st=>some (.ret v,lo,st)).bind λp=>match p.1 with
   | .next=>DJ (bI k) sc [] p.2.1 p.2.2
   | _=>some p:=rfl
  show (((bI (k+1)).s sc [.Return (some e) p] lo st).bind _)=_
  rw [e1,g];rfl
theorem v537 {e:Int}{a b:Int×Int}{w1 w2 w3 w4:Addr}(h:Ev st e a b)(h':Ev st e' a' b')(o1:Sd st a b a' w1)(o2:Sd st a b b' w2)(o3:Sd st a' b' a w3)(o4:Sd st a' b' b w4)(k1:w1∈eM)(k2:w2∈eM)(k3:w3∈eM)(k4:w4∈eM)
  (hn:w1=w2->w1=248\/w1=242):gJ (bI (mm+20)) 537 [.sk e,.sk e'] st=rv (.bool (tbl w1 w2 w3 w4)) st:=by
 rw [c537 h h' o1 o2]
 by_cases hw:w1=w2
 ·subst hw
  rcases hn rfl with rfl | rfl<;>lk
 ·have hb:(w1 == w2)=false:=beq_eq_false_iff_ne.mpr hw
  have t0:(bI (mm+19)).t (aJ 537) (sA (bA 537 8)) (hJ e e' a b a' b' w1 w2) st=some (false,st):=hb▸yu (k:=mm+18) k1 k2 (by lk) (by lk) (by lk)
  have b0:pE 8=[bA 537 8,bA 537 9,bA 537 10,bA 537 11,bA 537 12,bA 537 13,bA 537 14,bA 537 15]:=by lk
  have i0:(bI (mm+20)).s (aJ 537) [bA 537 8,bA 537 9,bA 537 10,bA 537 11,bA 537 12,bA 537 13,bA 537 14,bA 537 15] (hJ e e' a b a' b' w1 w2) st=(bI (mm+20)).s (aJ 537) [bA 537 9,bA 537 10,bA 537 11,bA 537 12,bA 537 13,bA 537 14,bA 537 15] (hJ e e' a b a' b' w1 w2) st:=(pK t0).trans rfl
  rw [b0,i0]
  rw [dj (s:=bA 537 9) (jt (by lk) (by lk) ((by lk:_=(bI (mm+18)).c 359 [.ctx,.pt (false,a'),.pt (false,b'),.pt (false,a)] st).trans (o3 (mm+7))))]
  rw [dj (s:=bA 537 10) (jt (by lk) (by lk) ((by lk:_=(bI (mm+18)).c 359 [.ctx,.pt (false,a'),.pt (false,b'),.pt (false,b)] st).trans (o4 (mm+7))))]
  have q1:(242:Addr)∈eM:=by decide
  have q2:(245:Addr)∈eM:=by decide
  have q3:(248:Addr)∈eM:=by decide
  have f1:(bI (mm+20)).s (aJ 537) [bA 537 11,bA 537 12,bA 537 13,bA 537 14,bA 537 15] (Hy e e' a b a' b' w1 w2 w3 w4) st=_:=pJ (yu (k:=mm+18) k3 k4 (by lk) (by lk) (by lk)) (AJ (k:=mm+17) k3 q1 (by lk) (by lk) (by lk))
  have f2:(bI (mm+20)).s (aJ 537) [bA 537 12,bA 537 13,bA 537 14,bA 537 15] (Hy e e' a b a' b' w1 w2 w3 w4) st=_:=pJ (yu (k:=mm+18) k1 q2 (by lk) (by lk) (by lk)) (AJ (k:=mm+17) k2 q3 (by lk) (by lk) (by lk))
  have f3:(bI (mm+20)).s (aJ 537) [bA 537 13,bA 537 14,bA 537 15] (Hy e e' a b a' b' w1 w2 w3 w4) st=_:=pJ (yu (k:=mm+18) k3 q2 (by lk) (by lk) (by lk)) (AJ (k:=mm+17) k4 q1 (by lk) (by lk) (by lk))
  have f4:(bI (mm+20)).s (aJ 537) [bA 537 14,bA 537 15] (Hy e e' a b a' b' w1 w2 w3 w4) st=_:=pJ (yu (k:=mm+18) k4 q2 (by lk) (by lk) (by lk)) (AJ (k:=mm+17) k3 q1 (by lk) (by lk) (by lk))
  have f5:(bI (mm+20)).s (aJ 537) [bA 537 15] (Hy e e' a b a' b' w1 w2 w3 w4) st=_:=sW (AJ (k:=mm+18) k1 q3 (by lk) (by lk) (by lk))
  show ((bI (mm+20)).s (aJ 537) [bA 537 11,bA 537 12,bA 537 13,bA 537 14,bA 537 15] (Hy e e' a b a' b' w1 w2 w3 w4) st).bind lL=_
  rw [f1,f2,f3,f4,f5]
  unfold tbl
  rw [hb]
  cases w3 == w4 with
  | true=>rfl
  | false=>cases w1 == 245 with
   | true=>rfl
   | false=>cases w3 == 245 with
    | true=>rfl
    | false=>cases w4 == 245<;>rfl
theorem xK {o g:Expr}{x:Str}{ap:Pos}{f:Addr}{v w:Mv}(hc:(ap.endLine == pos.line && (lF o && decide (([g]:List Expr).length < 20)))=true)(hg:gP g=true)(h1:(bI k).e sc o lo st=rv v st)(hm:xh v x=some f)(h2:(bI k).e sc g lo st=rv w st) :
  (bI (k+1)).e sc (.Call (.Attribute o x ap) [g] [] pos) lo st=(bI k).c f [v,w] st:=by
 have e:(bI (k+1)).e sc (.Call (.Attribute o x ap) [g] [] pos) lo st=dS (ap.endLine == pos.line && (lF o && decide (([g]:List Expr).length < 20))) (fe ((bI k).e sc o lo st) (pB (bI k) sc lo [g] x)):=rfl
 rw [e,hc,h1]
 have e2:dS true (fe (rv v st) (pB (bI k) sc lo [g] x))=match xh v x with
  | some f=>gD (dS (gP g) (fe ((bI k).e sc g lo st) λv st=>gD (some ([],st)) λvs st=>some (v :: vs,st))) λvs st=>(bI k).c f (v :: vs) st
  | ac=>match qV v x with
   | some f=>gD (args (bI k) sc [g] lo st) λvs st=>mF (bI k) f vs st
   | ac=>match gZ v with
    | some i=>gD (args (bI k) sc [g] lo st) λvs st=>(st[i]?).bind λl=>gD (lm i l st x vs) λv st=>rv v st
    | ac=>(eO v).bind λk=>dS (decide (x = "bit_length") && ([g]:List Expr).isEmpty) (rv (.int (Builtin.Int.intBits k)) st):=rfl
 rw [e2,hm,hg,h2];rfl
abbrev loM (f:Addr)(e:Int):Lo:=jK (dK f) [.root .reg,.int e]
theorem c1 {f:Addr}{e:Int}{x:Expr}{p:Pos}{v:Mv}(hb:aO f=[.Return (some x) p])(hf:(rS.contains f && ([.root .reg,.int e]:List Mv).length == (dK f).length)=true)(h:(bI k).e (aJ f) x (loM f e) st=rv v st):(bI (k+2)).c f [.root .reg,.int e] st=rv v st:=by
 have z:(bI (k+2)).c f [.root .reg,.int e] st=dS (rS.contains f && ([.root .reg,.int e]:List Mv).length == (dK f).length) (((bI (k+1)).s (aJ f) (aO f) (loM f e) st).bind lL):=rfl
 rw [z,hf,hb,sW h];rfl
theorem G6 {e:Int}{v:Mv}(h:sub (.list 0) (.int e) st=some v):(bI (m+8)).c 597 [.root .reg,.int e] st=rv v st:=
 c1 (x:=rB (bA 597 0)) (p:=B5 (bA 597 0)) (by lk) (by lk) (jN (b:=.int e) (by lk) (by lk) (by lk) h)
theorem c758 {e:Int}{v:Mv}(h:sub (.list 1) (.int e) st=some v):(bI (m+8)).c 758 [.root .reg,.int e] st=rv v st:=
 c1 (x:=rB (bA 758 0)) (p:=B5 (bA 758 0)) (by lk) (by lk) (jN (b:=.int e) (by lk) (by lk) (by lk) h)
theorem c583 {e o:Int}{v:Mv}(h:sub (.list 1) (.int e) st=some (.int o))(h2:sub (.list 0) (.int o) st=some v):(bI (m+14)).c 583 [.root .reg,.int e] st=rv v st:=
 c1 (x:=rB (bA 583 0)) (p:=B5 (bA 583 0)) (by lk) (by lk) ((xK (v:=.root .reg) (w:=.int o) (by lk) (by lk) (by lk) (by lk) ((xK (v:=.root .reg) (w:=.int e) (by lk) (by lk) (by lk) (by lk) (by lk)).trans (c758 h))).trans (G6 h2))
abbrev loD (e e':Int):Lo:=jK (dK 667) [.root .reg,.int e,.int e']
abbrev loP (e e':Int)(a b a' b':Int×Int):Lo:=put (put (put (put (loD e e') "event_start" (.pt (false,a'))) "event_end" (.pt (false,b'))) "below_event_start" (.pt (false,a))) "below_event_end" (.pt (false,b))
abbrev Gl (e e':Int)(a b a' b':Int×Int)(w1 w2:Addr):Lo:=put (put (loP e e' a b a' b') "event_start_orientation" (.addr w1)) "event_end_orientation" (.addr w2)
abbrev loR (e e':Int)(a b a' b':Int×Int)(w1 w2 w3 w4:Addr):Lo:=put (put (Gl e e' a b a' b' w1 w2) "below_event_start_orientation" (.addr w3)) "below_event_end_orientation" (.addr w4)
theorem c667 {e:Int}{a b:Int×Int}{w1 w2:Addr}(h:Ev st e a b)(h':Ev st e' a' b')(o1:Sd st b a a' w1)(o2:Sd st b a b' w2) :
  gJ (bI (mm+20)) 667 [.root .reg,.int e,.int e'] st=((bI (mm+20)).s (aJ 667) [bA 667 6] (Gl e e' a b a' b' w1 w2) st).bind lL:=by
 obtain ⟨s1,o,s2,s3⟩:=h
 obtain ⟨r1,q,r2,r3⟩:=h'
 have e0:gJ (bI (mm+20)) 667 [.root .reg,.int e,.int e'] st=((bI (mm+20)).s (aJ 667) (aO 667) (loD e e') st).bind lL:=by lk
 have b0:aO 667=[bA 667 0,bA 667 1,bA 667 2,bA 667 3,bA 667 4,bA 667 5,bA 667 6]:=by lk
 rw [e0,b0]
 rw [dj (s:=bA 667 0) (jt (by lk) (by lk) ((xK (v:=.root .reg) (w:=.int e') (by lk) (by lk) (by lk) (by lk) (by lk)).trans (G6 r1)))]
 rw [dj (s:=bA 667 1) (jt (by lk) (by lk) ((xK (v:=.root .reg) (w:=.int e') (by lk) (by lk) (by lk) (by lk) (by lk)).trans (c583 r2 r3)))]
 rw [dj (s:=bA 667 2) (jt (by lk) (by lk) ((xK (v:=.root .reg) (w:=.int e) (by lk) (by lk) (by lk) (by lk) (by lk)).trans (G6 s1)))]
 rw [dj (s:=bA 667 3) (jt (by lk) (by lk) ((xK (v:=.root .reg) (w:=.int e) (by lk) (by lk) (by lk) (by lk) (by lk)).trans (c583 s2 s3)))]
 rw [dj (s:=bA 667 4) (jt (by lk) (by lk) ((by lk:_=(bI (mm+18)).c 359 [.ctx,.pt (false,b),.pt (false,a),.pt (false,a')] st).trans (o1 (mm+7))))]
 rw [dj (s:=bA 667 5) (jt (by lk) (by lk) ((by lk:_=(bI (mm+18)).c 359 [.ctx,.pt (false,b),.pt (false,a),.pt (false,b')] st).trans (o2 (mm+7))))]
theorem nw {t:Expr}{b o:List Stmt}{c:Bool}(h:(bI k).t sc t lo st=some (c,st))(g:(bif c then (bI k).s sc b lo st else (bI k).s sc o lo st)=some (.next,lo',st')):(bI (k+1)).s sc [.If t b o q] lo st=some (.next,lo',st'):=by
 rw [pK h,g];rfl
def s7:Stmt:=(ifO (bA 667 6)).headD default
def s8:Stmt:=(ifO s7).headD default
def s9 (i:Nat):Stmt:=(ifO s8).getD i default
def s10:Stmt:=(ifO (s9 2)).headD default
theorem Eh {a b:Int×Int}(h:b.1 < a.1):decide (a.1 < b.1\/a.1=b.1/\a.2 < b.2)=false:=decide_eq_false λc=>c.elim (Int.lt_asymm h) λc=>Int.ne_of_gt h c.1
theorem no667 {e:Int}{a b:Int×Int}{w1 w4:Addr}(h:Ev st e a b)(h':Ev st e' a' b')(o1:Sd st b a a' w1)(o2:Sd st b a b' 242)(o3:Sd st a' b' a 242)(o4:Sd st a' b' b w4)(hx:a'.1 < a.1)(hy:b'.1 < b.1)
  (hw:w1=242\/w1=245\/(w1=248/\(w4=242\/w4=245))):gJ (bI (mm+20)) 667 [.root .reg,.int e,.int e'] st=rv .none st:=by
 rw [c667 h h' o1 o2]
 rcases hw with rfl | rfl | ⟨rfl,hw⟩
 ·lk
 ·have t:(bI (mm+17)).t (aJ 667) (sA ((Gx s7).headD default)) (Gl e e' a b a' b' 245 242) st=gD (some (decide (a.1 < a'.1\/a.1=a'.1/\a.2 < a'.2),st)) λt st=>bif t then fe (rv (.pt (false,b)) st) λc st=>kD (bI (mm+16)) .Lt (.pt (false,a')) c st else some (false,st):=by lk
  rw [Eh hx] at t
  rw [show (bI (mm+20)).s (aJ 667) [bA 667 6] (Gl e e' a b a' b' 245 242) st=_ from nw (c:=false) (by lk) (show (bI (mm+19)).s (aJ 667) [s7] (Gl e e' a b a' b' 245 242) st=_ from nw (c:=true) (by lk)
   (show (bI (mm+18)).s (aJ 667) [(Gx s7).headD default] (Gl e e' a b a' b' 245 242) st=_ from nw (c:=false) t rfl))]
  rfl
 ·have key:((bI (mm+20)).s (aJ 667) [bA 667 6] (Gl e e' a b a' b' 248 242) st)=some (.next,loR e e' a b a' b' 248 242 242 w4,st):=by
   refine nw (c:=false) (by lk) (show (bI (mm+19)).s (aJ 667) [s7] _ st=_ from nw (c:=false) (by lk) (show (bI (mm+18)).s (aJ 667) [s8] _ st=_ from nw (c:=false) (by lk) (show (bI (mm+17)).s (aJ 667) [s9 0,s9 1,s9 2] _ st=_ from ?_)))
   rw [dj (s:=s9 0) (jt (by lk) (by lk) ((by lk:_=(bI (mm+15)).c 359 [.ctx,.pt (false,a'),.pt (false,b'),.pt (false,a)] st).trans (o3 (mm+4))))]
   rw [dj (s:=s9 1) (jt (by lk) (by lk) ((by lk:_=(bI (mm+15)).c 359 [.ctx,.pt (false,a'),.pt (false,b'),.pt (false,b)] st).trans (o4 (mm+4))))]
   rcases hw with rfl | rfl
   ·lk
   ·have t:(bI (mm+14)).t (aJ 667) (sA ((Gx s10).headD default)) (loR e e' a b a' b' 248 242 242 245) st=gD (some (decide (a'.1 < b.1\/a'.1=b.1/\a'.2 < b.2),st)) λt st=>bif t then some (decide (b.1 < b'.1\/b.1=b'.1/\b.2 < b'.2),st) else some (false,st):=by lk
    rw [Eh hy] at t
    have t':(bI (mm+14)).t (aJ 667) (sA ((Gx s10).headD default)) (loR e e' a b a' b' 248 242 242 245) st=some (false,st):=t.trans (by cases decide (a'.1 < b.1\/a'.1=b.1/\a'.2 < b.2)<;>rfl)
    exact nw (c:=false) (by lk) (show (bI (mm+16)).s (aJ 667) [s10] _ st=_ from nw (c:=true) (by lk) (show (bI (mm+15)).s (aJ 667) [(Gx s10).headD default] _ st=_ from nw (c:=false) t' rfl))
  rw [key];rfl
end
section
variable {k m:Nat}{st:St}{lo:Lo}{p q p' q':Int×Int}
theorem e_pt {x y:Expr}{f:Str}{ps:Pos}{a b:Int}(hc:(!(f == ("__debug__" : Str)) && (sc.names.lookup f == some .globalImplicit))=true)(hf:lK.lookup f=some 209)(hn:gP x=true)(hm:gP y=true)(h1:(bI k).e sc x lo st=rv (.int a) st)(h2:(bI k).e sc y lo st=rv (.int b) st):(bI (k+1)).e sc (.Call (.Name f ps) [x,y] [] pos) lo st=rv (.pt (false,a,b)) st:=by
 have e:(bI (k+1)).e sc (.Call (.Name f ps) [x,y] [] pos) lo st=dS (!(f == ("__debug__" : Str)) && (sc.names.lookup f == some .globalImplicit)) (gD (dS (gP x) (fe ((bI k).e sc x lo st) λv st=>gD (dS (gP y) (fe ((bI k).e sc y lo st) λv st=>gD (some ([],st)) λvs st=>some (v :: vs,st))) λvs st=>some (v :: vs,st))) λvs st=>match lK.lookup f with
  | some a=>mF (bI k) (.addr a) vs st
  | ac=>HD (bI k) f vs st):=rfl
 rw [e,hc,hf,hn,hm,h1]
 have e2:dS true (gD (dS true (fe (rv (.int a) st) λv st=>gD (dS true (fe ((bI k).e sc y lo st) λv st=>gD (some ([],st)) λvs st=>some (v :: vs,st))) λvs st=>some (v :: vs,st))) λvs st=>mF (bI k) (.addr 209) vs st)=gD (gD (fe ((bI k).e sc y lo st) λv st=>gD (some ([],st)) λvs st=>some (v :: vs,st)) λvs st=>some (.int a :: vs,st)) λvs st=>mF (bI k) (.addr 209) vs st:=rfl
 refine e2.trans ?_
 rw [h2];rfl
abbrev qO (p q p' q':Int×Int):Lo:=jK (dK 366) [.ctx,.seg (false,p) (false,q),.seg (false,p') (false,q')]
noncomputable def kQ (p q p' q':Int×Int):Int:=(q.1 - p.1) * (q'.2 - p'.2) - (q.2 - p.2) * (q'.1 - p'.1)
noncomputable def jW (p _q p' q':Int×Int):Int:=(p'.1 - p.1) * (q'.2 - p'.2) - (p'.2 - p.2) * (q'.1 - p'.1)
abbrev iQ (p q p' q':Int×Int):Lo:=put (put (put (put (put (put (qO p q p' q') "x" (.int (q.1 - p.1))) "y" (.int (q.2 - p.2))) "other_x" (.int (q'.1 - p'.1))) "other_y" (.int (q'.2 - p'.2))) "scale" (.int (kQ p q p' q'))) "share" (.int (jW p q p' q'))
theorem AL {a b:Int}(h:b≠0)(h2:b.natAbs < 2 ^ 1000):rY .FloorDiv a b=some (a.fdiv b):=by
 have e:rY .FloorDiv a b=dS (decide (b≠0/\b.natAbs < 2 ^ 1000)) (some (a.fdiv b)):=rfl
 rw [e,decide_eq_true ⟨h,h2⟩];rfl
theorem zH {a b:Int}(h:b≠0)(h2:a.fmod b=0):rY .Mod a b=some 0:=by
 have e:rY .Mod a b=dS (decide (b≠0)) (some (a.fmod b)):=rfl
 rw [e,decide_eq_true h,h2];rfl
theorem c366 (h1:(q.1 - p.1).natAbs < 2 ^ 64)(h2:(q.2 - p.2).natAbs < 2 ^ 64)(h3:(p'.1 - p.1).natAbs < 2 ^ 64)(h4:(p'.2 - p.2).natAbs < 2 ^ 64)(h5:kQ p q p' q'≠0)(h6:(kQ p q p' q').natAbs < 2 ^ 1000)
  (h7:((q.1 - p.1) * jW p q p' q').fmod (kQ p q p' q')=0) (h8:((q.2 - p.2) * jW p q p' q').fmod (kQ p q p' q')=0) :
  gJ (bI (mm+20)) 366 [.ctx,.seg (false,p) (false,q),.seg (false,p') (false,q')] st=rv (.pt (false,p.1+((q.1 - p.1) * jW p q p' q').fdiv (kQ p q p' q'),p.2+((q.2 - p.2) * jW p q p' q').fdiv (kQ p q p' q'))) st:=by
 have e0:gJ (bI (mm+20)) 366 [.ctx,.seg (false,p) (false,q),.seg (false,p') (false,q')] st=((bI (mm+20)).s (aJ 366) (aO 366) (qO p q p' q') st).bind lL:=by lk
 have b0:aO 366=[bA 366 0,bA 366 1,bA 366 2,bA 366 3,bA 366 4,bA 366 5,bA 366 6]:=by lk
 have x1:(bI (mm+19)).e (aJ 366) (binL (asgE (bA 366 3))) (put (put (put (put (qO p q p' q') "x" (.int (q.1 - p.1))) "y" (.int (q.2 - p.2))) "other_x" (.int (q'.1 - p'.1))) "other_y" (.int (q'.2 - p'.2))) st=rv (.int ((q.1 - p.1) * (q'.2 - p'.2))) st:=gO (a:=q.1 - p.1) (b:=q'.2 - p'.2) (by lk) (by lk) (jw h1)
 rw [e0,b0,dj (s:=bA 366 0) (lo':=qO p q p' q') (st':=st) (by lk),dj (s:=bA 366 1) (lo':=put (put (qO p q p' q') "x" (.int (q.1 - p.1))) "y" (.int (q.2 - p.2))) (st':=st) (by lk),
  dj (s:=bA 366 2) (lo':=put (put (put (put (qO p q p' q') "x" (.int (q.1 - p.1))) "y" (.int (q.2 - p.2))) "other_x" (.int (q'.1 - p'.1))) "other_y" (.int (q'.2 - p'.2))) (st':=st) (by lk)]
 rw [dj (s:=bA 366 3) (jt (by lk) (by lk) (gO (c:=kQ p q p' q') (gO (a:=q.1 - p.1) (b:=q'.2 - p'.2) (by lk) (by lk) (jw h1)) (gO (a:=q.2 - p.2) (b:=q'.1 - p'.1) (by lk) (by lk) (jw h2)) rfl))]
 rw [dj (s:=bA 366 4) (jt (by lk) (by lk) (gO (c:=jW p q p' q') (gO (a:=p'.1 - p.1) (b:=q'.2 - p'.2) (by lk) (by lk) (jw h3)) (gO (a:=p'.2 - p.2) (b:=q'.1 - p'.1) (by lk) (by lk) (jw h4)) rfl))]
 have m1:(bI (mm+17)).e (aJ 366) (ee (sA (bA 366 5)) 0) (iQ p q p' q') st=rv (.int 0) st:=gO (a:=(q.1 - p.1) * jW p q p' q') (b:=kQ p q p' q') (gO (a:=q.1 - p.1) (b:=jW p q p' q') (by lk) (by lk) (jw h1)) (by lk) (zH h5 h7)
 have m2:(bI (mm+17)).e (aJ 366) (ee (sA (bA 366 5)) 1) (iQ p q p' q') st=rv (.int 0) st:=gO (a:=(q.2 - p.2) * jW p q p' q') (b:=kQ p q p' q') (gO (a:=q.2 - p.2) (b:=jW p q p' q') (by lk) (by lk) (jw h2)) (by lk) (zH h5 h8)
 have t:(bI (mm+19)).t (aJ 366) (sA (bA 366 5)) (iQ p q p' q') st=some (false,st):=by
  have e1:(bI (mm+19)).t (aJ 366) (sA (bA 366 5)) (iQ p q p' q') st=gD (fe ((bI (mm+17)).e (aJ 366) (ee (sA (bA 366 5)) 0) (iQ p q p' q') st) (mw (bI (mm+17)))) λb st=>bif b == false then gD (fe ((bI (mm+17)).e (aJ 366) (ee (sA (bA 366 5)) 1) (iQ p q p' q') st) (mw (bI (mm+17)))) (λb st=>bif b == false then some (false,st) else some (b,st)) else some (b,st):=by lk
  rw [e1,m1]
  have e2:(gD (fe (rv (.int 0) st) (mw (bI (mm+17)))) λb st=>bif b == false then gD (fe ((bI (mm+17)).e (aJ 366) (ee (sA (bA 366 5)) 1) (iQ p q p' q') st) (mw (bI (mm+17)))) (λb st=>bif b == false then some (false,st) else some (b,st)) else some (b,st))=gD (fe ((bI (mm+17)).e (aJ 366) (ee (sA (bA 366 5)) 1) (iQ p q p' q') st) (mw (bI (mm+17)))) (λb st=>bif b == false then some (false,st) else some (b,st)):=rfl
  rw [e2,m2];rfl
 have r:(bI (mm+20)).s (aJ 366) [bA 366 5,bA 366 6] (iQ p q p' q') st=(bI (mm+20)).s (aJ 366) [.Return (some (rB (bA 366 6))) (B5 (bA 366 6))] (iQ p q p' q') st:=(pK t).trans (by lk)
 have v:=e_pt (k:=mm+18) (sc:=aJ 366) (st:=st) (lo:=iQ p q p' q') (x:=ee (rB (bA 366 6)) 1) (y:=ee (rB (bA 366 6)) 2) (f:="Point") (a:=p.1+((q.1 - p.1) * jW p q p' q').fdiv (kQ p q p' q')) (b:=p.2+((q.2 - p.2) * jW p q p' q').fdiv (kQ p q p' q')) (ps:=default) (pos:=default) (by lk) (by lk) (by lk) (by lk)
  (gO (a:=p.1) (b:=((q.1 - p.1) * jW p q p' q').fdiv (kQ p q p' q')) (by lk) (gO (a:=(q.1 - p.1) * jW p q p' q') (b:=kQ p q p' q') (gO (a:=q.1 - p.1) (b:=jW p q p' q') (by lk) (by lk) (jw h1)) (by lk) (AL h5 h6)) rfl)
  (gO (a:=p.2) (b:=((q.2 - p.2) * jW p q p' q').fdiv (kQ p q p' q')) (by lk) (gO (a:=(q.2 - p.2) * jW p q p' q') (b:=kQ p q p' q') (gO (a:=q.2 - p.2) (b:=jW p q p' q') (by lk) (by lk) (jw h2)) (by lk) (AL h5 h6)) rfl)
 refine (congrArg (mi · lL) r).trans ?_
 rw [sW ((by lk:_=(bI (mm+19)).e (aJ 366) (.Call (.Name "Point" default) [ee (rB (bA 366 6)) 1,ee (rB (bA 366 6)) 2] [] default) (iQ p q p' q') st).trans v)]
 rfl
theorem u6 {t:Expr}{b:List Stmt}{q:Pos}(h:(bI k).t sc t lo st=some (false,st)):(bI (k+1)).s sc (.If t b [] q :: r) lo st=(bI (k+1)).s sc r lo st:=(pK h).trans (by cases k with
 | zero=>exact ns h
 | succ k=>rfl)
def b8 (i:Nat):Stmt:=(Gx (bA 537 8)).getD i default
def b9 (i:Nat):Stmt:=(Gx (b8 3)).getD i default
abbrev Ei (e:Int)(a b:Int×Int):Lo:=put (put (put (put (hJ e e a b a b 245 245) "start_x" (.int a.1)) "start_y" (.int a.2)) "other_start_x" (.int a.1)) "other_start_y" (.int a.2)
abbrev qw (e:Int)(a b:Int×Int):Lo:=put (put (put (put (Ei e a b) "end_x" (.int b.1)) "end_y" (.int b.2)) "other_end_x" (.int b.1)) "other_end_y" (.int b.2)
theorem BQ {e:Int}{a b:Int×Int}(h:Ev st e a b)(o1:Sd st a b a 245)(o2:Sd st a b b 245):gJ (bI (mm+20)) 537 [.sk e,.sk e] st=rv (.bool false) st:=by
 rw [c537 h h o1 o2]
 have h8:pE 8=bA 537 8 :: pE 9:=by lk
 have t0:(bI (mm+19)).t (aJ 537) (sA (bA 537 8)) (hJ e e a b a b 245 245) st=some (true,st):=by lk
 have f0:(bI (mm+20)).s (aJ 537) (bA 537 8 :: pE 9) (hJ e e a b a b 245 245) st=((bI (mm+19)).s (aJ 537) [b8 0,b8 1,b8 2,b8 3,b8 4] (hJ e e a b a b 245 245) st).bind _:=pK t0
 have f2:(bI (mm+19)).s (aJ 537) [b8 2,b8 3,b8 4] (Ei e a b) st=(bI (mm+19)).s (aJ 537) [b8 3,b8 4] (Ei e a b) st:=u6 (by lk)
 have t1:(bI (mm+18)).t (aJ 537) (sA (b8 3)) (Ei e a b) st=some (a.2 == a.2,st):=by lk
 have t2:(bI (mm+17)).t (aJ 537) (sA (b9 2)) (qw e a b) st=some (a.1 != a.1,st):=by lk
 have t3:(bI (mm+17)).t (aJ 537) (sA (b9 3)) (qw e a b) st=some (b.2 != b.2,st):=by lk
 have v4:(bI (mm+17)).e (aJ 537) (rB (b9 4)) (qw e a b) st=rv (.bool (decide (b.1 < b.1))) st:=by lk
 rw [beq_self_eq_true] at t1
 rw [bne_self_eq_false] at t2 t3
 rw [decide_eq_false (Int.lt_irrefl _)] at v4
 have f3:(bI (mm+19)).s (aJ 537) [b8 3,b8 4] (Ei e a b) st=((bI (mm+18)).s (aJ 537) [b9 0,b9 1,b9 2,b9 3,b9 4] (Ei e a b) st).bind _:=pK t1
 have f4:(bI (mm+18)).s (aJ 537) [b9 2,b9 3,b9 4] (qw e a b) st=(bI (mm+18)).s (aJ 537) [b9 3,b9 4] (qw e a b) st:=u6 t2
 have f5:(bI (mm+18)).s (aJ 537) [b9 3,b9 4] (qw e a b) st=(bI (mm+18)).s (aJ 537) [b9 4] (qw e a b) st:=u6 t3
 have f6:(bI (mm+18)).s (aJ 537) [b9 4] (qw e a b) st=some (.ret (.bool false),qw e a b,st):=sW v4
 rw [h8,f0,dj (s:=b8 0) (lo':=put (put (hJ e e a b a b 245 245) "start_x" (.int a.1)) "start_y" (.int a.2)) (st':=st) (by lk),dj (s:=b8 1) (lo':=Ei e a b) (st':=st) (by lk),f2,f3,
  dj (s:=b9 0) (lo':=put (put (Ei e a b) "end_x" (.int b.1)) "end_y" (.int b.2)) (st':=st) (by lk),dj (s:=b9 1) (lo':=qw e a b) (st':=st) (by lk),f4,f5,f6]
 rfl
theorem e_lt {l r:Expr}{q:Pos}{a b:Int×Int}(hm:(!behindInMarks .Lt r)=true)(h1:(bI k).e sc l lo st=rv (.pt (false,a)) st)(h2:(bI k).e sc r lo st=rv (.pt (false,b)) st):(bI (k+1)).e sc (.Compare l [.Lt] [r] q) lo st=rv (.bool (zP a b)) st:=by
 have e:(bI (k+1)).e sc (.Compare l [.Lt] [r] q) lo st=dS (!behindInMarks .Lt r) (fe ((bI k).e sc l lo st) λa st=>fe ((bI k).e sc r lo st) λb st=>gD (kD (bI k) .Lt a b st) λt st=>rv (.bool t) st):=rfl
 rw [e,hm,h1]
 have e2:dS true (fe (rv (.pt (false,a)) st) λa st=>fe ((bI k).e sc r lo st) λb st=>gD (kD (bI k) .Lt a b st) λt st=>rv (.bool t) st)=fe ((bI k).e sc r lo st) λb st=>gD (kD (bI k) .Lt (.pt (false,a)) b st) λt st=>rv (.bool t) st:=rfl
 rw [e2,h2];rfl
abbrev Gn (e e':Int):Lo:=put (put (jK (dK 91) [.qk e,.qk e']) "event" (.int e)) "other_event" (.int e')
abbrev tH (e e':Int)(a a':Int×Int):Lo:=put (put (put (put (put (put (Gn e e') "event_start" (.pt (false,a))) "other_event_start" (.pt (false,a'))) "start_x" (.int a.1)) "start_y" (.int a.2)) "other_start_x" (.int a'.1)) "other_start_y" (.int a'.2)
theorem v91 {e:Int}{a b:Int×Int}(h:Ev st e a b)(h':Ev st e' a' b'):gJ (bI (mm+20)) 91 [.qk e,.qk e'] st=rv (.bool (bif a.1 != a'.1 then decide (a.1 < a'.1) else bif a.2 != a'.2 then decide (a.2 < a'.2) else bif AB e != AB e' then !AB e else zP b b')) st:=by
 obtain ⟨s1,o,s2,s3⟩:=h
 obtain ⟨r1,q,r2,r3⟩:=h'
 have e0:gJ (bI (mm+20)) 91 [.qk e,.qk e'] st=((bI (mm+20)).s (aJ 91) (aO 91) (jK (dK 91) [.qk e,.qk e']) st).bind lL:=by lk
 have b0:aO 91=[bA 91 0,bA 91 1,bA 91 2,bA 91 3,bA 91 4,bA 91 5,bA 91 6,bA 91 7,bA 91 8]:=by lk
 rw [e0,b0,dj (s:=bA 91 0) (lo':=jK (dK 91) [.qk e,.qk e']) (st':=st) (by lk),dj (s:=bA 91 1) (lo':=Gn e e') (st':=st) (by lk)]
 rw [dj (s:=bA 91 2) (yW (by lk) (by lk) (AI (by lk) (by lk) (jN (b:=.int e) (by lk) (by lk) (by lk) s1) (jN (b:=.int e') (by lk) (by lk) (by lk) r1)))]
 rw [dj (s:=bA 91 3) (st':=st) (lo':=put (put (put (put (Gn e e') "event_start" (.pt (false,a))) "other_event_start" (.pt (false,a'))) "start_x" (.int a.1)) "start_y" (.int a.2)) (by lk),dj (s:=bA 91 4) (lo':=tH e e' a a') (st':=st) (by lk)]
 have f1:(bI (mm+20)).s (aJ 91) [bA 91 5,bA 91 6,bA 91 7,bA 91 8] (tH e e' a a') st=_:=pJ (c:=a.1 != a'.1) (v:=.bool (decide (a.1 < a'.1))) (by lk) (by lk)
 have f2:(bI (mm+20)).s (aJ 91) [bA 91 6,bA 91 7,bA 91 8] (tH e e' a a') st=_:=pJ (c:=a.2 != a'.2) (v:=.bool (decide (a.2 < a'.2))) (by lk) (by lk)
 have f3:(bI (mm+20)).s (aJ 91) [bA 91 7,bA 91 8] (tH e e' a a') st=_:=pJ (c:=AB e != AB e') (v:=.bool (!AB e)) (by lk) (by lk)
 have f4:(bI (mm+20)).s (aJ 91) [bA 91 8] (tH e e' a a') st=_:=sW (e_lt (by lk) (jN (b:=.int o) (by lk) (by lk) (jN (b:=.int e) (by lk) (by lk) (by lk) s2) s3) (jN (b:=.int q) (by lk) (by lk) (jN (b:=.int e') (by lk) (by lk) (by lk) r2) r3))
 rw [f1,f2,f3,f4]
 cases a.1 != a'.1 with
 | true=>rfl
 | false=>cases a.2 != a'.2 with
  | true=>rfl
  | false=>cases AB e != AB e'<;>rfl
end
def TP (L U:Int->Int)(p q:Int×Int):Prop:=q=(cX L U p.1,cY L U p.1 p.2)
section
variable {L U:Int->Int}{p q p' q':Int×Int}
theorem TP.lt (H:sr L U)(h:TP L U p q)(h':TP L U p' q'):zP p p'=zP q q':=by
 subst h h'
 exact decide_eq_decide.mpr (Hp.lt (H:=⟨L,U,H⟩) (p:=(true,p)) (q:=(true,p')) rfl)
theorem Gb {a b:Int}(h:-5<=a)(h':a<=5)(k:0<=b)(k':b<=5040):-25200<=a * b/\a * b<=25200:=
 have x:=Int.mul_le_mul_of_nonneg_right h k
 have y:=Int.mul_le_mul_of_nonneg_right h' k
 have z:5 * b<=25200:=Int.mul_le_mul_of_nonneg_left k' (by decide)
 ⟨Int.le_trans (Int.neg_le_neg z) (Int.neg_mul 5 b▸x),Int.le_trans y z⟩
theorem GZ {c x:Int}(hc:0<=c/\c<=22)(h:uN c x):0<=x/\x<=100000:=
 ⟨Int.le_trans (Int.mul_nonneg (by decide) (Int.ediv_nonneg hc.1 (by decide))) h.bd.1,Int.le_of_lt (Int.lt_of_lt_of_le h.bd.2 (Int.le_trans (Int.add_le_add_right (Int.mul_le_mul_of_nonneg_left (Int.ediv_le_ediv (c:=2) (by decide) hc.2) (by decide)) 5040) (by decide)))⟩
theorem y_bd {r a b:Int}(hr:0<=r/\r<=1)(h:0<=a/\a<=5)(k:-25200<=b/\b<=25200):-100000<=r+(5040 * a+b)/\r+(5040 * a+b)<=100000:=
 ⟨Int.le_trans (show (-100000:Int)<=0+(5040 * 0 + -25200) by decide) (Int.add_le_add hr.1 (Int.add_le_add (Int.mul_le_mul_of_nonneg_left h.1 (by decide)) k.1)),Int.le_trans (Int.add_le_add hr.2 (Int.add_le_add (Int.mul_le_mul_of_nonneg_left h.2 (by decide)) k.2)) (show (1:Int)+(5040 * 5+25200)<=100000 by decide)⟩
theorem Bt {p:Int×Int}(h:vq p=true):(0<=p.1/\p.1<=22)/\(0<=p.2/\p.2<=1):=bR h λa h=>bR h λb h=>bR h λc d=>⟨⟨of_decide_eq_true a,of_decide_eq_true b⟩,of_decide_eq_true c,of_decide_eq_true d⟩
theorem TP.bd (H:sr L U)(hb:vq p=true)(h:TP L U p q):0<=q.1/\q.1<=100000/\-100000<=q.2/\q.2<=100000:=by
 subst h
 have h1:=(Bt hb).1;have h2:=(Bt hb).2
 have x:=GZ h1 (H.col p.1)
 refine ⟨x.1,x.2,show -100000<=cY L U p.1 p.2/\cY L U p.1 p.2<=100000 from ?_⟩
 have l:=H.l (p.1 / 2)
 unfold cY
 cases p.1 % 2 == 0 with
 | true =>
  have u:=H.u (p.1 / 2)
  have z:∀ r,0<=r/\r<=1->-100000<=5040 * (L (p.1 / 2)+r * (U (p.1 / 2) - L (p.1 / 2)))/\5040 * (L (p.1 / 2)+r * (U (p.1 / 2) - L (p.1 / 2)))<=100000:=λr hr=>by
   have b5:∀ {x:Int},0<=x/\x<=5->-100000<=5040 * x/\5040 * x<=100000:=λh=>⟨Int.le_trans (by decide) (Int.mul_nonneg (by decide) h.1),Int.le_trans (Int.mul_le_mul_of_nonneg_left h.2 (by decide)) (by decide)⟩
   rcases (Int.le_iff_lt_or_eq.mp hr.1) with e | e
   ·rw [Int.le_antisymm hr.2 e,Int.one_mul,Int.add_comm,Int.sub_add_cancel];exact b5 u
   ·rw [<- e,Int.zero_mul,Int.add_zero];exact b5 l
  exact z p.2 h2
 | false =>
  have o:=H.off (p.1 / 2)
  have u:=H.u (p.1 / 2+1)
  exact y_bd h2 l (Gb (Int.sub_le_sub u.1 l.2) (Int.sub_le_sub u.2 l.1) (Int.le_of_lt o.1) (Int.le_of_lt o.2))
end
section
variable {α β:Type}{G:Prop}{l:List α}{y:β}
theorem vg {f:α->α->α->Option β}(h:on3 l f=some y)(k:∀ a b c,l=[a,b,c]->f a b c=some y->G):G:=by
 cases l with
 | nil=>exact ns h
 | cons a l=>exact lA (f:=f a) h λb c e=>k a b c (congrArg _ e)
theorem FQ {f:α->α->α->α->Option β}(h:on4 l f=some y)(k:∀ a b c d,l=[a,b,c,d]->f a b c d=some y->G):G:=by
 cases l with
 | nil=>exact ns h
 | cons a l=>exact vg (f:=f a) h λb c d e=>k a b c d (congrArg _ e)
end
section
variable {m:Nat}{L U:Int->Int}{T:Int×Int->Int×Int->Prop}{p q p' q' v f s v' f' s':Int×Int}{st:St}{a a':Mv}{e:Int}{w:Addr}
def zd (H:Hp)(p:Pn):Pn:=(false,H.x p,H.y p)
def mR (H:Hp)(v:Mv):Mv:=Mv.rec (motive:=λ_=>Mv) .none .bool .int .str .addr .root .list .ctx .contour (λp=>.pt (zd H p)) (λ_ _ a b=>.pair a b) .qk .sk (λp q=>.seg (zd H p) (zd H q)) (λi j r p q=>.isec i j r (zd H p) (zd H q)) v
def mQ (H:Hp)(st:St):St:=st.map (·.map (mR H))
theorem vZ {x y:Int}(h1:x < y->z < 0)(h2:y < x->0 < z)(h3:x=y->z=0):sg z=sgn x y:=by
 unfold sg sgn
 rcases jh x y with h | h | h
 ·have:=h1 h
  rw [decide_eq_true h,decide_eq_true this,decide_eq_false (Int.lt_asymm this:¬ z > 0)];rfl
 ·have:=h3 h
  subst this h
  rw [decide_eq_false (Int.lt_irrefl x)];rfl
 ·have:=h2 h
  rw [decide_eq_true h,decide_eq_false (Int.lt_asymm h:¬ x < y),decide_eq_true (this:z > 0)];rfl
theorem yP (h:0 < z):sg z=248:=(vZ (x:=1) (y:=0) (λh=>absurd h (by decide)) (λ_=>h) (λh=>absurd h (by decide))).trans rfl
theorem uZ (h:z < 0):sg z=242:=(vZ (x:=0) (y:=1) (λ_=>h) (λh=>absurd h (by decide)) (λh=>absurd h (by decide))).trans rfl
theorem sg_zero:sg 0=245:=rfl
theorem iB (z:Int):(z < 0/\sg z=242)\/(z=0/\sg z=245)\/(0 < z/\sg z=248):=by
 rcases jh z 0 with h | h | h
 ·exact .inl ⟨h,uZ h⟩
 ·exact .inr (.inl ⟨h,h▸rfl⟩)
 ·exact .inr (.inr ⟨h,yP h⟩)
theorem Ee {x:Int}(h:-200000<=x/\x<=200000):x.natAbs < 2 ^ 64:=by omega
theorem vU {a b:Int}(h:-100000<=a/\a<=100000)(k:-100000<=b/\b<=100000):-200000<=b - a/\b - a<=200000:=⟨Int.le_trans (show (-200000:Int)<=-100000 - 100000 by decide) (Int.sub_le_sub k.1 h.2),Int.le_trans (Int.sub_le_sub k.2 h.1) (show (100000:Int) - -100000<=200000 by decide)⟩
theorem Fm {a b:Int}(h:0<=a)(h':a<=100000)(k:0<=b)(k':b<=100000):-200000<=b - a/\b - a<=200000:=vU ⟨Int.le_trans (by decide) h,h'⟩ ⟨Int.le_trans (by decide) k,k'⟩
theorem mA (H:sr L U)(hv:TP L U v v')(hf:TP L U f f')(bv:vq v=true)(bf:vq f=true):Sd st v' f' s' (sg (lz v'.1 v'.2 f'.1 f'.2 s'.1 s'.2)):=λk =>
 have a:=hv.bd H bv
 have b:=hf.bd H bf
 c359 (m:=k) (Ee (Fm a.1 a.2.1 b.1 b.2.1)) (Ee (vU a.2.2 b.2.2))
theorem Fn (a b c:Int):a - b - (c - b)=a - c:=by rw [Int.sub_sub,Int.add_comm b,Int.sub_add_cancel]
theorem pO (H:sr L U)(hv:TP L U v v')(hf:TP L U f f')(hs:TP L U s s')(h:vf v f s=some w):sg (lz v'.1 v'.2 f'.1 f'.2 s'.1 s'.2)=w:=by
 subst hv hf hs
 obtain ⟨c1,r1⟩:=v
 obtain ⟨c2,r2⟩:=f
 obtain ⟨c3,r3⟩:=s
 have key:∀ {c r r':Int},c1≠c2->∀ {z},z=(cX L U c2 - cX L U c1) * (cY L U c r - cY L U c r')->sg z=vY (c1,r1) (c2,r2) r r':=λ{c r r'} ne z e=>by
  have y:=H.yal c r r'
  have y':=H.yal c r' r
  rw [e]
  unfold vY
  rcases Int.lt_or_gt_of_ne ne with hlt | hlt
  ·have d:=Int.sub_pos.mpr ((H.xal c1 c2).1.mp hlt)
   rw [decide_eq_true hlt]
   exact vZ (λh=>Int.mul_neg_of_pos_of_neg d (Int.sub_neg_of_lt (y.1.mp h))) (λh=>Int.mul_pos d (Int.sub_pos.mpr (y'.1.mp h))) λh=>by rw [y.2.mp h,jg,Int.mul_zero]
  ·have d:=Int.sub_neg_of_lt ((H.xal c2 c1).1.mp hlt)
   rw [decide_eq_false (Int.lt_asymm hlt)]
   exact vZ (λh=>Int.mul_neg_of_neg_of_pos d (Int.sub_pos.mpr (y'.1.mp h))) (λh=>Int.mul_pos_of_neg_of_neg d (Int.sub_neg_of_lt (y.1.mp h))) λh=>by rw [y'.2.mp h,jg,Int.mul_zero]
 unfold vf at h
 refine eK h (λ_ h=>ns h) λh1 h=>?_
 have ne:c1≠c2:=beq_eq_false_iff_ne.mp h1
 refine eK h (λh2 h=>?_) λ_ h=>ba h λh2 h=>?_
 ·cases (eq_of_beq h2:c3=c1)
  exact (key ne (by unfold lz;rw [jg,Int.mul_zero,Int.sub_zero])).trans (sj h)
 ·cases (eq_of_beq h2:c3=c2)
  exact (key (c:=c2) (r:=r3) (r':=r2) ne (by unfold lz;rw [Int.mul_comm (_ - _) (cX L U c2 - cX L U c1),<- Int.mul_sub];exact congrArg _ (Fn _ _ _))).trans (sj h)
theorem qG (H:sr L U)(hv:TP L U v v')(hf:TP L U f f')(bv:vq v=true)(bf:vq f=true)(h:s'=v'\/s'=f'):Sd st v' f' s' 245:=by
 have z:lz v'.1 v'.2 f'.1 f'.2 s'.1 s'.2=0:=by
  unfold lz
  rcases h with rfl | rfl
  ·rw [jg,jg,Int.mul_zero,Int.mul_zero,Int.sub_zero]
  ·rw [Int.mul_comm,jg]
 have q:=mA (st:=st) (s':=s') H hv hf bv bf
 rw [z] at q
 exact q
theorem vT {i:Nat}{v:Mv}(h:sub (.list i) (.int e) st=some v):sub (.list i) (.int e) (mQ H st)=some (mR H v):=
 have h:((st[i]?).bind λl=>dS (decide (l.length<=1000000)) ((idxOf e l.length).bind λj=>l[j]?))=some v:=h
 aC h λl hl h=>ba h λhd h=>aC h λj hj h=>by
  show ((mQ H st)[i]?).bind (λl=>dS (decide (l.length<=1000000)) ((idxOf e l.length).bind λj=>l[j]?))=_
  unfold mQ
  rw [jf,hl]
  show dS (decide ((l.map (mR H)).length<=1000000)) ((idxOf e (l.map (mR H)).length).bind λj=>(l.map (mR H))[j]?)=_
  rw [bW,hd,hj]
  show (l.map (mR H))[j]? = _
  rw [jf,h];rfl
theorem oJ {v:Mv}{p:Int×Int}(h:asB v=some p):v=.pt (true,p)/\vq p=true:=aC h λq hq h=>ba h λhb h=>bR hb λh1 h2=>by
 rw [fw hq,<- sj h]
 exact ⟨congrArg (λb=>Mv.pt (b,q.2)) h1,h2⟩
theorem wA (h:evS st e=some s):vq s=true/\sub (.list 0) (.int e) (mQ H st)=some (mR H (.pt (true,s))):=
 aC h λv hv h=>(oJ h).elim λa b=>⟨b,vT (hv.trans (congrArg some a))⟩
theorem CV {o:Int}(h:evO st e=some o):sub (.list 1) (.int e) (mQ H st)=some (.int o):=
 aC h λv hv h=>vT (hv.trans (congrArg some (dO h)))
structure EvC (T:Int×Int->Int×Int->Prop) (st:St) (e:Int) (u:(Int×Int)×(Int×Int)) (a b:Int×Int):Prop where
 ev:Ev st e a b
 b1:vq u.1=true
 b2:vq u.2=true
 t1:T u.1 a
 t2:T u.2 b
def cP (H:Hp)(p:Int×Int):Int×Int:=(cX H.L H.U p.1,cY H.L H.U p.1 p.2)
theorem ma {u:(Int×Int)×(Int×Int)}(h:GL st e=some u):EvC (TP H.L H.U) (mQ H st) e u (cP H u.1) (cP H u.2):=aC h λs h1 h=>aC h λo h2 h=>aC h λt h3 h =>
 have a:=wA (H:=H) h1
 have b:=wA (H:=H) h3
 sj h▸⟨⟨a.2,o,CV h2,b.2⟩,a.1,b.1,rfl,rfl⟩
end
section
variable {L U:Int->Int}{p q p' q' v f s v' f' s':Int×Int}{st:St}{a b c:Int×Int}{e:Int}{w:Addr}{u u':(Int×Int)×(Int×Int)}
structure Nb (a b a' b':Int×Int):Prop where
 x:b'.1=a.1
 hx:b.1=a.1+5040
 hx':a.1=a'.1+5040
 y:a.2 < b'.2
theorem half {c:Int}(h:c % 2=0):(c+2) % 2=0/\(c+2) / 2=c / 2+1/\(c+1) % 2=1/\(c+1) / 2=c / 2:=by
 obtain ⟨d,rfl⟩:∃ d,c=2 * d:=⟨c / 2,(Int.mul_ediv_cancel' (Int.dvd_of_emod_eq_zero h)).symm⟩
 have a:2 * d / 2=d:=Int.mul_ediv_cancel_left d (by decide)
 rw [a,show (2 * d+2:Int)=2 * (d+1) from (Int.mul_add 2 d 1).symm,Int.add_comm (2 * d) 1]
 exact ⟨Int.mul_emod_right 2 _,Int.mul_ediv_cancel_left _ (by decide),Int.add_mul_emod_self_left 1 2 d,(Int.add_mul_ediv_left 1 d (by decide)).trans (Int.zero_add d)⟩
theorem uv {c x:Int}(e:c % 2=0)(h:uN c x)(h':uN (c+2) x'):x'=x+5040:=by
 have z:=half e
 have a:x=5040 * (c / 2):=h.elim (·.2) λq=>absurd (e.symm.trans q.1) (by decide)
 have b:x'=5040 * ((c+2) / 2):=h'.elim (·.2) λq=>absurd (z.1.symm.trans q.1) (by decide)
 rw [b,z.2.1,Int.mul_add,a];rfl
theorem ev_ev {c c':Int}(e:c % 2=0)(h:c'+2=c):c' % 2=0:=(Int.add_emod_right c' 2).symm.trans (h▸e)
theorem zE (H:sr L U)(h:EvC (TP L U) st e u a b)(h':EvC (TP L U) st e' u' a' b')(g:Dy u u'=true):Nb a b a' b':=by
 have t1:=h.t1;have t2:=h.t2;have t3:=h'.t1;have t4:=h'.t2
 subst t1 t2 t3 t4
 refine bR g λg1 g=>bR g λg2 g=>bR g λg3 g=>bR g λg4 g5=>?_
 have g1:=eq_of_beq g1;have g2:=eq_of_beq g2;have g3:=eq_of_beq g3;have g4:=eq_of_beq g4
 exact ⟨congrArg (cX L U) g4,uv g1 (H.col _) (g3▸H.col _),uv (ev_ev g1 g2) (H.col _) (g2▸H.col _),g4▸H.y01 _ (of_decide_eq_true g5)⟩
theorem oh {ax ay bx _by cx cy d e:Int}(h:bx - ax=d)(h':cx - ax=e):lz ax ay bx _by cx cy=d * (cy - ay) - (_by - ay) * e:=by unfold lz;rw [h,h']
theorem C4 {x y k:Int}(h:x=y+k):x - y=k:=by rw [h,Int.add_comm,Int.add_sub_cancel]
theorem AM {x y k:Int}(h:y=x+k):x - y=-k:=(Int.neg_sub y x).symm.trans (congrArg Neg.neg (C4 h))
theorem dif2 {x y k:Int}(h:y=x+k)(h':z=y+k):z - x=k+k:=C4 (h'.trans (h▸Int.add_assoc x k k))
theorem dif2' {x y k:Int}(h:y=x+k)(h':z=y+k):x - z=-(k+k):=AM (h'.trans (h▸Int.add_assoc x k k))
theorem EA (N:Nb a b a' b'):b'.1=a'.1+5040:=N.x.trans N.hx'
theorem Nb.p1 (N:Nb a b a' b'):lz a.1 a.2 b.1 b.2 a'.1 a'.2=5040 * (a'.2 - a.2) - (b.2 - a.2) * -5040:=oh (C4 N.hx) (AM N.hx')
theorem Nb.p2 (N:Nb a b a' b'):lz a.1 a.2 b.1 b.2 b'.1 b'.2=5040 * (b'.2 - a.2) - (b.2 - a.2) * 0:=oh (C4 N.hx) (C4 (by rw [N.x];exact (Int.add_zero _).symm))
theorem Nb.p3 (N:Nb a b a' b'):lz a'.1 a'.2 b'.1 b'.2 a.1 a.2=5040 * (a.2 - a'.2) - (b'.2 - a'.2) * 5040:=oh (C4 (EA N)) (C4 N.hx')
theorem Nb.p4 (N:Nb a b a' b'):lz a'.1 a'.2 b'.1 b'.2 b.1 b.2=5040 * (b.2 - a'.2) - (b'.2 - a'.2) * (5040+5040):=oh (C4 (EA N)) (dif2 N.hx' N.hx)
theorem Nb.p5 (N:Nb a b a' b'):lz b.1 b.2 a.1 a.2 a'.1 a'.2=-5040 * (a'.2 - b.2) - (a.2 - b.2) * -(5040+5040):=oh (AM N.hx) (dif2' N.hx' N.hx)
theorem Nb.p6 (N:Nb a b a' b'):lz b.1 b.2 a.1 a.2 b'.1 b'.2=-5040 * (b'.2 - b.2) - (a.2 - b.2) * -5040:=oh (AM N.hx) (AM (N.x▸N.hx))
theorem Nb.n2 (N:Nb a b a' b'):sg (lz a.1 a.2 b.1 b.2 b'.1 b'.2)=248:=N.p2▸yP (by rw [Int.mul_zero,Int.sub_zero];exact Int.mul_pos (by decide) (Int.sub_pos.mpr N.y))
theorem Nb.n3 (N:Nb a b a' b'):sg (lz a'.1 a'.2 b'.1 b'.2 a.1 a.2)=242:=N.p3▸uZ (by rw [Int.mul_comm (b'.2 - a'.2) 5040,<- Int.mul_sub,Fn];exact Int.mul_neg_of_pos_of_neg (by decide) (Int.sub_neg_of_lt N.y))
theorem Nb.n6 (N:Nb a b a' b'):sg (lz b.1 b.2 a.1 a.2 b'.1 b'.2)=242:=N.p6▸uZ (by rw [Int.mul_comm (a.2 - b.2) (-5040),<- Int.mul_sub,Fn];exact Int.mul_neg_of_neg_of_pos (by decide) (Int.sub_pos.mpr N.y))
theorem bend {y z':Int}(h:y < z')(h1:5040 * (y' - y) - (z - y) * -5040 < 0)(h4:0 < 5040 * (z - y') - (z' - y') * (5040+5040)):False:=by omega
theorem bend' {y z':Int}(h:y < z')(h1:0 < -5040 * (y' - z) - (y - z) * -(5040+5040))(h4:0 < 5040 * (z - y') - (z' - y') * (5040+5040)):False:=by omega
theorem pd (z:Int):sg z∈eM:=by rcases iB z with ⟨_,e⟩ | ⟨_,e⟩ | ⟨_,e⟩<;>rw [e]<;>decide
section
variable (Hu:sr L U) (Ev1:EvC (TP L U) st e u a b) (Ev2:EvC (TP L U) st e' u' a' b')
include Hu Ev1 Ev2
theorem E1 (hn:sg (lz a.1 a.2 b.1 b.2 a'.1 a'.2)=sg (lz a.1 a.2 b.1 b.2 b'.1 b'.2)->sg (lz a.1 a.2 b.1 b.2 a'.1 a'.2)=248\/sg (lz a.1 a.2 b.1 b.2 a'.1 a'.2)=242) :
  gJ (bI (mm+20)) 537 [.sk e,.sk e'] st=rv (.bool (tbl (sg (lz a.1 a.2 b.1 b.2 a'.1 a'.2)) (sg (lz a.1 a.2 b.1 b.2 b'.1 b'.2)) (sg (lz a'.1 a'.2 b'.1 b'.2 a.1 a.2)) (sg (lz a'.1 a'.2 b'.1 b'.2 b.1 b.2)))) st:=
 v537 Ev1.ev Ev2.ev (mA Hu Ev1.t1 Ev1.t2 Ev1.b1 Ev1.b2) (mA Hu Ev1.t1 Ev1.t2 Ev1.b1 Ev1.b2) (mA Hu Ev2.t1 Ev2.t2 Ev2.b1 Ev2.b2) (mA Hu Ev2.t1 Ev2.t2 Ev2.b1 Ev2.b2) (pd _) (pd _) (pd _) (pd _) hn
theorem lt_nb (N:Nb a b a' b'):gJ (bI (mm+20)) 537 [.sk e,.sk e'] st=rv (.bool true) st:=by
 rw [E1 Hu Ev1 Ev2 λh=>.inl (h.trans N.n2),N.n2,N.n3]
 refine congrArg (λb=>rv (.bool b) st) ?_
 rcases iB (lz a.1 a.2 b.1 b.2 a'.1 a'.2) with ⟨z,e⟩ | ⟨_,e⟩ | ⟨_,e⟩<;>rw [e]<;>rcases iB (lz a'.1 a'.2 b'.1 b'.2 b.1 b.2) with ⟨_,e'⟩ | ⟨_,e'⟩ | ⟨z',e'⟩<;>rw [e']<;>first | rfl | exact (bend N.y (N.p1▸z) (N.p4▸z')).elim
theorem gt_nb (N:Nb a' b' a b):gJ (bI (mm+20)) 537 [.sk e,.sk e'] st=rv (.bool false) st:=by
 rw [E1 Hu Ev1 Ev2 λ_=>.inr N.n3,N.n3,N.n2]
 refine congrArg (λb=>rv (.bool b) st) ?_
 rcases iB (lz a.1 a.2 b.1 b.2 b'.1 b'.2) with ⟨_,e⟩ | ⟨_,e⟩ | ⟨_,e⟩<;>rw [e]<;>rcases iB (lz a'.1 a'.2 b'.1 b'.2 a.1 a.2) with ⟨_,e⟩ | ⟨_,e⟩ | ⟨_,e⟩<;>rw [e]<;>rfl
theorem no_nb (N:Nb a b a' b'):gJ (bI (mm+20)) 667 [.root .reg,.int e,.int e'] st=rv .none st:=by
 refine no667 Ev1.ev Ev2.ev (mA Hu Ev1.t2 Ev1.t1 Ev1.b2 Ev1.b1) (N.n6▸mA Hu Ev1.t2 Ev1.t1 Ev1.b2 Ev1.b1) (N.n3▸mA Hu Ev2.t1 Ev2.t2 Ev2.b1 Ev2.b2) (mA Hu Ev2.t1 Ev2.t2 Ev2.b1 Ev2.b2) (by have:=N.hx';omega) (by have:=N.x;have:=N.hx;omega) ?_
 rcases iB (lz b.1 b.2 a.1 a.2 a'.1 a'.2) with ⟨_,e⟩ | ⟨_,e⟩ | ⟨z,e⟩<;>rw [e]
 ·exact .inl rfl
 ·exact .inr (.inl rfl)
 ·refine .inr (.inr ⟨rfl,?_⟩)
  rcases iB (lz a'.1 a'.2 b'.1 b'.2 b.1 b.2) with ⟨_,e⟩ | ⟨_,e⟩ | ⟨z',e⟩<;>rw [e]
  ·exact .inl rfl
  ·exact .inr rfl
  ·exact (bend' N.y (N.p5▸z) (N.p4▸z')).elim
end
theorem GY:∀ (a b c d:Fin 6),a < b->c < d->let l:Int:=a;let u:Int:=b;let l':Int:=c;let u':Int:=d;let off:=5040 * (u - l) / (u - l+(u' - l'));
  (let sc:=5040 * (5040 * l' - 5040 * u) - (5040 * u' - 5040 * l) * 5040;let sh:=0 * (5040 * l' - 5040 * u) - (5040 * u - 5040 * l) * 5040;sc≠0/\sc.natAbs < 2 ^ 64/\(5040 * sh).fmod sc=0/\((5040 * u' - 5040 * l) * sh).fmod sc=0/\(5040 * sh).fdiv sc=off/\5040 * l+((5040 * u' - 5040 * l) * sh).fdiv sc=5040 * l+(u' - l) * off /\
   (5040 * u' - 5040 * l).natAbs < 2 ^ 64/\(5040 * u - 5040 * l).natAbs < 2 ^ 64) /\
  (let sc:=5040 * (5040 * u' - 5040 * l) - (5040 * l' - 5040 * u) * 5040;let sh:=0 * (5040 * u' - 5040 * l) - (5040 * l - 5040 * u) * 5040;sc≠0/\sc.natAbs < 2 ^ 64/\(5040 * sh).fmod sc=0/\((5040 * l' - 5040 * u) * sh).fmod sc=0/\(5040 * sh).fdiv sc=off/\5040 * u+((5040 * l' - 5040 * u) * sh).fdiv sc=5040 * l+(u' - l) * off /\
   (5040 * l' - 5040 * u).natAbs < 2 ^ 64/\(5040 * l - 5040 * u).natAbs < 2 ^ 64):=by decide
theorem CT {x:Int}(h:0<=x/\x<=5):∃ a:Fin 6,x=(a:Int):=⟨⟨x.toNat,(Int.toNat_lt h.1).mpr (Int.lt_of_le_of_lt h.2 (by decide))⟩,(Int.toNat_of_nonneg h.1).symm⟩
theorem big64 {s:Int}(h:s.natAbs < 2 ^ 64):s.natAbs < 2 ^ 1000:=bO h (Nat.pow_le_pow_right (by decide) (by decide))
theorem AO {x y z' sc sh o w:Int}(h5:5040 * (z' - y') - (z - y) * 5040=sc)(h6:0 * (z' - y') - (y' - y) * 5040=sh)(hh:sc≠0/\sc.natAbs < 2 ^ 64/\(5040 * sh).fmod sc=0/\((z - y) * sh).fmod sc=0/\(5040 * sh).fdiv sc=o/\y+((z - y) * sh).fdiv sc=w/\(z - y).natAbs < 2 ^ 64/\(y' - y).natAbs < 2 ^ 64) :
  gJ (bI (mm+20)) 366 [.ctx,.seg (false,x,y) (false,x+5040,z),.seg (false,x,y') (false,x+5040,z')] st=rv (.pt (false,x+o,w)) st:=by
 have a1:=hh.1;have a2:=hh.2.1;have a3:=hh.2.2.1;have a4:=hh.2.2.2.1;have a5:=hh.2.2.2.2.1;have a6:=hh.2.2.2.2.2.1;have a7:=hh.2.2.2.2.2.2.1;have a8:=hh.2.2.2.2.2.2.2
 have k1:x+5040 - x=5040:=C4 rfl
 have k2:x - x=0:=jg x
 have e1:kQ (x,y) (x+5040,z) (x,y') (x+5040,z')=sc:=by unfold kQ;rw [k1];exact h5
 have e2:jW (x,y) (x+5040,z) (x,y') (x+5040,z')=sh:=by unfold jW;rw [k2,k1];exact h6
 have q:=c366 (st:=st) (p:=(x,y)) (q:=(x+5040,z)) (p':=(x,y')) (q':=(x+5040,z'))
 rw [e1,e2,k1,k2] at q
 rw [q (by decide) a7 (by decide) a8 a1 (big64 a2) a3 a4,a5,a6]
theorem cr_up {x l u l' u':Int}(hl:0<=l/\l<=5)(hu:0<=u/\u<=5)(hl':0<=l'/\l'<=5)(hu':0<=u'/\u'<=5)(h:l < u)(h':l' < u') :
  gJ (bI (mm+20)) 366 [.ctx,.seg (false,x,5040 * l) (false,x+5040,5040 * u'),.seg (false,x,5040 * u) (false,x+5040,5040 * l')] st=rv (.pt (false,x+5040 * (u - l) / (u - l+(u' - l')),5040 * l+(u' - l) * (5040 * (u - l) / (u - l+(u' - l'))))) st /\
  gJ (bI (mm+20)) 366 [.ctx,.seg (false,x,5040 * u) (false,x+5040,5040 * l'),.seg (false,x,5040 * l) (false,x+5040,5040 * u')] st=rv (.pt (false,x+5040 * (u - l) / (u - l+(u' - l')),5040 * l+(u' - l) * (5040 * (u - l) / (u - l+(u' - l'))))) st:=by
 obtain ⟨a,rfl⟩:=CT hl
 obtain ⟨b,rfl⟩:=CT hu
 obtain ⟨c,rfl⟩:=CT hl'
 obtain ⟨d,rfl⟩:=CT hu'
 exact (GY a b c d (Int.ofNat_lt.mp h) (Int.ofNat_lt.mp h')).imp (AO rfl rfl) (AO rfl rfl)
theorem EC {c:Int}(h:c % 2=0):cX L U c=5040 * (c / 2):=by unfold cX;rw [h];exact Int.add_zero _
theorem EB {c r:Int}(h:c % 2=0):cY L U c r=5040 * (L (c / 2)+r * (U (c / 2) - L (c / 2))):=by unfold cY;rw [h];rfl
theorem Dz {a b:Int}:a+(b - a)=b:=(Int.add_comm _ _).trans (Int.sub_add_cancel b a)
theorem rk0 {c r:Int}(h:c % 2=0)(e:r=0):(cX L U c,cY L U c r)=(5040 * (c / 2),5040 * L (c / 2)):=by rw [EC h,EB h,e,Int.zero_mul,Int.add_zero]
theorem rk1 {c r:Int}(h:c % 2=0)(e:r=1):(cX L U c,cY L U c r)=(5040 * (c / 2),5040 * U (c / 2)):=by rw [EC h,EB h,e,Int.one_mul,Dz]
theorem vP {r r':Int}(h:0<=r/\r<=1)(h':0<=r'/\r'<=1)(l:r < r'):r=0/\r'=1:=⟨Int.le_antisymm (Int.le_of_lt_add_one (Int.lt_of_lt_of_le l h'.2)) h.1,Int.le_antisymm h'.2 (Int.le_trans (Int.add_le_add_right h.1 1) l)⟩
theorem cr_ok (H:sr L U)(hp:TP L U p a)(hq:TP L U q b)(hp':TP L U p' a')(hq':TP L U q' b')(h:crs p q p' q'=true):∃ z,TP L U (p.1+1,0) z/\gJ (bI (mm+20)) 366 [.ctx,.seg (false,a) (false,b),.seg (false,a') (false,b')] st=rv (.pt (false,z)) st:=by
 subst hp hq hp' hq'
 refine bR h λy1 h=>bR h λy2 h=>bR h λy3 h=>bR h λy4 h=>bR h λev h=>bR h λz1 h=>bR h λz2 h=>bR h λz3 z=>?_
 have ev:=eq_of_beq ev
 refine xJ (half ev) λe2 e3 e4 e5=>?_
 rw [<- (eq_of_beq z2:q.1=q'.1),<- (eq_of_beq z1:p.1=p'.1),<- (eq_of_beq z3:p.1+2=q.1)]
 have up:=cr_up (st:=st) (x:=5040 * (p.1 / 2)) (H.l (p.1 / 2)) (H.u (p.1 / 2)) (H.l (p.1 / 2+1)) (H.u (p.1 / 2+1)) (H.lt _) (H.lt _)
 have x5:(5040 * (p.1 / 2)+5040:Int)=5040 * ((p.1+2) / 2):=by rw [e3];exact (Int.mul_add 5040 _ 1).symm
 rw [x5,<- e3] at up
 refine ⟨_,rfl,?_⟩
 have ez:(cX L U (p.1+1),cY L U (p.1+1) 0)=(5040 * (p.1 / 2)+tw L U (p.1 / 2),5040 * L (p.1 / 2)+(U ((p.1+2) / 2) - L (p.1 / 2)) * tw L U (p.1 / 2)):=by
  unfold cX cY
  rw [e4,e5,e3]
  exact congrArg (Prod.mk _) (Int.zero_add _)
 rw [ez]
 unfold tw
 rw [<- e3]
 rcases Bool.or_eq_true_iff.mp z with z | z
 ·refine bR z λz z'=>?_
  have g:=vP (Bt y1).2 (Bt y3).2 (of_decide_eq_true z)
  have g':=vP (Bt y4).2 (Bt y2).2 (of_decide_eq_true z')
  rw [rk0 ev g.1,rk1 e2 g'.2,rk1 ev g.2,rk0 e2 g'.1]
  exact up.1
 ·refine bR z λz z'=>?_
  have g:=vP (Bt y3).2 (Bt y1).2 (of_decide_eq_true z)
  have g':=vP (Bt y2).2 (Bt y4).2 (of_decide_eq_true z')
  rw [rk1 ev g.2,rk0 e2 g'.1,rk0 ev g.1,rk1 e2 g'.2]
  exact up.2
theorem Gp (p q:Int×Int)(r:Bool):(bif p.1 != q.1 then decide (p.1 < q.1) else bif p.2 != q.2 then decide (p.2 < q.2) else r)=bif zP p q then true else bif zP q p then false else r:=by
 have ne:∀ {x y:Int},x≠y->(x != y)=true:=λh=>bne_iff_ne.mpr h
 have eq:∀ {x y:Int},x=y->(x != y)=false:=λh=>by rw [h];exact bne_self_eq_false _
 have t:∀ {p q:Int×Int},(p.1 < q.1\/p.1=q.1/\p.2 < q.2)->zP p q=true:=λh=>decide_eq_true h
 have f:∀ {p q:Int×Int},¬ (p.1 < q.1\/p.1=q.1/\p.2 < q.2)->zP p q=false:=λh=>decide_eq_false h
 have g:∀ {p q:Int×Int},q.1 < p.1\/q.1=p.1/\¬ p.2 < q.2->¬ (p.1 < q.1\/p.1=q.1/\p.2 < q.2):=λh=>λc=>h.elim (λh=>c.elim (Int.lt_asymm h) λc=>Int.ne_of_gt h c.1) λh=>c.elim (λc=>Int.ne_of_gt c h.1) λc=>h.2 c.2
 rcases jh p.1 q.1 with h | h | h
 ·rw [ne (kL h),t (.inl h),decide_eq_true h];rfl
 ·rw [eq h]
  rcases jh p.2 q.2 with k | k | k
  ·rw [ne (kL k),t (.inr ⟨h,k⟩),decide_eq_true k];rfl
  ·rw [eq k,f (g (.inr ⟨h.symm,k▸Int.lt_irrefl _⟩)),f (g (.inr ⟨h,k▸Int.lt_irrefl _⟩))];rfl
  ·rw [ne (Int.ne_of_gt k),t (p:=q) (.inr ⟨h.symm,k⟩),f (g (.inr ⟨h.symm,Int.lt_asymm k⟩)),decide_eq_false (Int.lt_asymm k)];rfl
 ·rw [ne (Int.ne_of_gt h),t (p:=q) (.inl h),f (g (.inl h)),decide_eq_false (Int.lt_asymm h)];rfl
end
theorem wJ {v:Mv}{i:Int}:Hd v=some i->v=.sk i:=gY λv=>by cases v<;>rfl
theorem wM {v:Mv}{i:Int}:Hf v=some i->v=.qk i:=gY λv=>by cases v<;>rfl
theorem tT {v:Mv}(h:Am v=true):v=.ctx:=by cases v with
 | ctx=>rfl
 | _=>cases h
section
variable {st:St}{vs:List Mv}
theorem CE {a:Mv}{r:Rt}(h:xu a r=true):a=.root r:=io (eq_of_beq h)
theorem pQ {α β:Type}{G:Prop}{x:Option α}{f:α->β}{y:β}(h:x.map f=some y)(k:∀ a,x=some a->f a=y->G):G:=by
 cases x with
 | none=>exact ns h
 | some a=>exact k a rfl (sj h)
theorem mm0:mm=0:=by unfold mm;rfl
def qW (H:Hp)(f:Addr)(vs:List Mv)(st:St)(x:Option (Rs×St)):Prop:=∃ v,x=rv v st/\gJ (bI (mm+20)) f (vs.map (mR H)) (mQ H st)=rv (mR H v) (mQ H st)
variable {r:Option (Rs×St)}
theorem wK {a:Mv}{u:(Int×Int)×(Int×Int)}(h:He a=some u):a=.seg (true,u.1) (true,u.2):=by
 cases a with
 | seg p q =>
  obtain ⟨b,p⟩:=p
  obtain ⟨c,q⟩:=q
  exact ba h λhb h=>bR hb λh1 h2=>by cases sj h;cases (h1:b=true);cases (h2:c=true);rfl
 | _=>exact ns h
theorem k359 (h:((DV vs).map λw=>rv (.addr w) st)=some r):qW H 359 vs st r:=
 pQ h λw hw hr=>FQ hw λc a b d hl h1=>ba h1 λhc h2=>aC h2 λp hp h3=>aC h3 λq hq h4=>aC h4 λs hs h5=>by
  rw [hl,tT hc,(oJ hp).1,(oJ hq).1,(oJ hs).1]
  have e:=mA (st:=mQ H st) (s':=cP H s) H.ok (v':=cP H p) (f':=cP H q) rfl rfl (oJ hp).2 (oJ hq).2 (mm+10)
  exact ⟨_,hr.symm,e.trans (congrArg (λw=>rv (.addr w) _) (pO H.ok rfl rfl rfl h5))⟩
theorem k366 (h:((DU vs).map λc=>rv (.pt (true,c,0)) st)=some r):qW H 366 vs st r:=
 pQ h λw hw hr=>vg hw λc a b hl h1=>ba h1 λhc h2=>aC h2 λp hp h3=>aC h3 λq hq h4=>ba h4 λhx h5=>by
  rw [hl,tT hc,wK hp,wK hq]
  refine bg (cr_ok (st:=mQ H st) H.ok rfl rfl rfl rfl hx) λz tz e=>?_
  cases (tz:z=_)
  exact ⟨_,hr.symm,sj h5▸e⟩
theorem k537 (h:((DT vs st).map λb=>rv (.bool b) st)=some r):qW H 537 vs st r:=
 pQ h λw hw hr=>lA hw λa b hl h1=>aC h1 λe he h2=>aC h2 λe' he' h3=>aC h3 λu hu h4=>by
  refine ⟨_,hr.symm,?_⟩
  rw [hl,wJ he,wJ he']
  have E:=ma (H:=H) hu
  refine eK h4 (λhee h5=>?_) λ_ h4=>aC h4 λu' hu' h5=>?_
  ·rw [<- eq_of_beq hee,<- sj h5]
   exact BQ E.ev (qG H.ok E.t1 E.t2 E.b1 E.b2 (.inl rfl)) (qG H.ok E.t1 E.t2 E.b1 E.b2 (.inr rfl))
  have E':=ma (H:=H) hu'
  refine eK h5 (λhc h6=>?_) λ_ h6=>eK h6 (λhc h7=>?_) λ_ h7=>aC h7 λw1 r1 h8=>aC h8 λw2 r2 h9=>?_
  ·exact sj h6▸lt_nb H.ok E E' (zE H.ok E E' hc)
  ·exact sj h7▸gt_nb H.ok E E' (zE H.ok E' E hc)
  ·have s1:=pO H.ok E.t1 E.t2 E'.t1 r1
   have s2:=pO H.ok E.t1 E.t2 E'.t2 r2
   have z:=E1 H.ok E E'
   rw [s1,s2] at z
   refine eK h9 (λhw h10=>ba h10 λhz h11=>?_) λhw h10=>aC h10 λw3 r3 h11=>aC h11 λw4 r4 h12=>?_
   ·have k:w1=248\/w1=242:=by
     rcases iB (lz (cP H u.1).1 (cP H u.1).2 (cP H u.2).1 (cP H u.2).2 (cP H u'.1).1 (cP H u'.1).2) with ⟨_,e⟩ | ⟨_,e⟩ | ⟨_,e⟩
     ·exact .inr (s1.symm.trans e)
     ·rw [s1.symm.trans e] at hz;exact nomatch hz
     ·exact .inl (s1.symm.trans e)
    refine (z λ_=>k).trans ?_
    unfold tbl
    rw [hw]
    exact sj h11▸rfl
   ·have hw':w1=w2->w1=248\/w1=242:=λh=>by rw [h,beq_self_eq_true] at hw;exact nomatch hw
    refine (z hw').trans ?_
    rw [pO H.ok E'.t1 E'.t2 E.t1 r3,pO H.ok E'.t1 E'.t2 E.t2 r4]
    exact sj h12▸rfl
theorem k667 (h:((DS vs st).map λ_=>rv .none st)=some r):qW H 667 vs st r:=
 pQ h λw hw hr=>vg hw λc a b hl h1=>ba h1 λhc h2=>aC h2 λe he h3=>aC h3 λe' he' h4=>aC h4 λu hu h5=>aC h5 λu' hu' h6=>ba h6 λhx _=>by
  rw [hl,CE hc,dO he,dO he']
  have E:=ma (H:=H) hu
  have E':=ma (H:=H) hu'
  exact ⟨_,hr.symm,no_nb H.ok E E' (zE H.ok E E' hx)⟩
theorem k91 (h:((rc91 vs st).map λb=>rv (.bool b) st)=some r):qW H 91 vs st r:=
 pQ h λw hw hr=>lA hw λa b hl h1=>aC h1 λe he h2=>aC h2 λe' he' h3=>aC h3 λu hu h4=>aC h4 λu' hu' h5=>by
  rw [hl,wM he,wM he']
  have E:=ma (H:=H) hu
  have E':=ma (H:=H) hu'
  refine ⟨_,hr.symm,(v91 E.ev E'.ev).trans ?_⟩
  rw [<- sj h5,TP.lt H.ok E.t1 E'.t1,TP.lt H.ok E'.t1 E.t1,TP.lt H.ok E.t2 E'.t2]
  exact congrArg (λb=>rv (.bool b) (mQ H st)) (Gp _ _ _)
theorem FO {f:Addr}(h:orc f vs st=some r):qW H f vs st r:=
 eK h (λe h=>eq_of_beq e▸k359 h) λ_ h=>eK h (λe h=>eq_of_beq e▸k366 h) λ_ h=>eK h (λe h=>eq_of_beq e▸k537 h) λ_ h=>eK h (λe h=>eq_of_beq e▸k667 h) λ_ h=>eK h (λe h=>eq_of_beq e▸k91 h) λ_ h=>ns h
theorem V.raw {R:aD}{v:Mv}:V R h (mR R.hp v)=V R h v:=by
 induction v with
 | pair p q ip iq =>
  show oR h (V R h (mR R.hp p)) (V R h (mR R.hp q))=oR h (V R h p) (V R h q)
  rw [ip,iq]
 | _=>rfl
variable {R:aD}
theorem uU {l:List Mv}:∀ {us:List Value},bz (V R h) (l.map (mR R.hp)) us↔bz (V R h) l us:=by
 induction l with
 | nil=>exact .rfl
 | cons a l ih=>exact ⟨λx=>bz.un x λu m p q=>.cons ((congrFun V.raw u).mp p) (ih.mp q),λx=>x.un λu m p q=>.cons ((congrFun V.raw u).mpr p) (ih.mpr q)⟩
theorem wl {a:Addr}{l:List Mv}:nP R h a (l.map (mR R.hp))↔nP R h a l:=exists_congr λ_=>exists_congr λ_=>and_congr_right λ_=>uU
theorem qU:∀ {C:List Addr},bz (nP R h) C (mQ R.hp st)↔bz (nP R h) C st:=by
 induction st with
 | nil=>exact .rfl
 | cons l st ih=>exact ⟨λx=>by cases x with | cons p q=>exact .cons (wl.mp p) (ih.mp q),λx=>by cases x with | cons p q=>exact .cons (wl.mpr p) (ih.mpr q)⟩
theorem Hs.raw:Hs R (mQ R.hp st) h↔Hs R st h:=⟨λx=>⟨x.nodup,qU.mp x.all⟩,λx=>⟨x.nodup,qU.mpr x.all⟩⟩
theorem Nx.unraw (x:Nx aa R h R' (mQ R.hp st) h'):Nx aa R h R' st h':=by
 have e:=x.ext
 cases e
 exact ⟨rfl,⟨x.inv.base,x.inv.off,x.inv.still0,Hs.raw.mp x.inv.hs⟩,x.keep⟩
theorem BN {n:Nat}{I:ja}(S:DA (n+1) (gJ I)):DA (n+1) λf vs st=>bif Nat.ble 20 n then (orc f vs st).getD (gJ I f vs st) else gJ I f vs st:=by
 intro w aa A s R st g vs us r st' Q E hg B hv hf hp
 have hf:(bif Nat.ble 20 n then (orc g vs st).getD (gJ I g vs st) else gJ I g vs st)=some (r,st'):=hf
 refine eK hf (λhk hf=>?_) λ_ hf=>S w aa A s R st g vs us r st' Q E hg B hv hf hp
 cases ho:orc g vs st with
 | none=>rw [ho] at hf;exact S w aa A s R st g vs us r st' Q E hg B hv hf hp
 | some x =>
  rw [ho] at hf
  refine (FO (H:=R.hp) ho).elim λv e=>?_
  cases e.1.symm.trans hf
  have B':=B.le (show mm+21<=n+1 from mm0▸Nat.succ_le_succ (bK hk))
  exact (uY (mm+21)).c w aa A s R (mQ R.hp st) g _ us _ _ Q E hg ⟨B'.G,B'.O,B'.S,B'.I.base,B'.I.off,B'.I.still0,Hs.raw.mpr B'.I.hs⟩ (uU.mpr hv) e.2 λR' h' t' nx u hu=>hp R' h' t' nx.unraw u (by
   have e:=nx.ext
   cases e
   exact V.raw▸hu)
theorem sound:∀ n,cz n (fO n)
 | 0=>qF
 | n+1 =>
  have S:=pG (sound n) zK DW (ww (sound n))
  ⟨S.e,S.t,S.s,S.w,BN S.c⟩
end
noncomputable def yq (o:Option Addr)(v:Value)(g:Bool)(l:List Value)(k:Resume->Sem Fin):Sem Fin:=
 if g then (match o with
  | some a=>.load a ac λob=>if ob.genNumber?.isSome then .yield v false l k else .unsupported "no generator"
  | ac=>.yield v true l k) else .yield v false l k
def ug (o:Option Addr)(t:Sem Fin):Sem Fin:=
 Sem.rec (motive:=λ_=>Sem Fin) .pure .raise .unsupported .finish (λt _ i=>.rule t i) (λp _ i=>.at p i) (λb p _ i=>.load b p i) (λb p g _ i=>.update b p g i) (λo _ i=>.alloc o i)
  (λb _ i=>.loadIfAlive b i) (λl _ i=>.point l i) (λb _ i=>.register b i) (λ_ i=>.fresh i) (λ_ i=>.ask i) (λs n _ i=>.choose s n i) (λq l _ i=>.os q l i) (λc m g l _ i=>.call c m g l i)
  (λo _ i=>.handled o i) (λc _ i=>.newGen c i) (λg _ i=>.genState g i) (λg r l _ i=>.resume g r l i) (λv g l _ i=>yq o v g l i) (λ_ i=>.stack i) (λc _ i=>.fork c i) (λ_ i=>.thread i)
  (λb t d l _ i=>.await b t d l i) t
theorem vO (t:Sem Fin):ug ac t=t:=by
 induction t with
 | pure | raise | unsupported | finish=>rfl
 | rule t _ ih=>exact congrArg (Sem.rule t) (funext ih)
 | «at» t _ ih=>exact congrArg (Sem.at t) (funext ih)
 | load a b _ ih=>exact congrArg (Sem.load a b) (funext ih)
 | update a b c _ ih=>exact congrArg (Sem.update a b c) (funext ih)
 | alloc a _ ih=>exact congrArg (Sem.alloc a) (funext ih)
 | loadIfAlive a _ ih=>exact congrArg (Sem.loadIfAlive a) (funext ih)
 | point a _ ih=>exact congrArg (Sem.point a) (funext ih)
 | register a _ ih=>exact congrArg (Sem.register a) (funext ih)
 | fresh _ ih=>exact congrArg Sem.fresh (funext ih)
 | ask _ ih=>exact congrArg Sem.ask (funext ih)
 | choose a b _ ih=>exact congrArg (Sem.choose a b) (funext ih)
 | os a b _ ih=>exact congrArg (Sem.os a b) (funext ih)
 | call a b c d _ ih=>exact congrArg (Sem.call a b c d) (funext ih)
 | handled a _ ih=>exact congrArg (Sem.handled a) (funext ih)
 | newGen a _ ih=>exact congrArg (Sem.newGen a) (funext ih)
 | genState a _ ih=>exact congrArg (Sem.genState a) (funext ih)
 | resume a b c _ ih=>exact congrArg (Sem.resume a b c) (funext ih)
 | yield a b c _ ih=>cases b<;>exact congrArg (Sem.yield a _ c) (funext ih)
 | stack _ ih=>exact congrArg Sem.stack (funext ih)
 | fork a _ ih=>exact congrArg (Sem.fork a) (funext ih)
 | thread _ ih=>exact congrArg Sem.thread (funext ih)
 | await a b c d _ ih=>exact congrArg (Sem.await a b c d) (funext ih)
noncomputable def refOf:Value->Option Addr
 | .ref a=>some a
 | _=>ac
def qx:Code->Option Addr
 | .builtin id args=>bif id == "proto.yield_from" then args.1.head?.bind refOf else ac
 | _=>ac
theorem Ag {c:Code}{a:Addr}(h:qx c=some a):∃ r kw,c=.builtin "proto.yield_from" ⟨.ref a :: r,kw⟩:=by
 cases c with
 | builtin id args =>
  obtain ⟨l,kw⟩:=args
  exact eK (c:=id == "proto.yield_from") h (λe h=>by
   cases l with
   | nil=>exact ns h
   | cons v l=>cases v with
    | ref b=>cases h;exact ⟨l,kw,by rw [eq_of_beq e]⟩
    | _=>exact ns h) λ_ h=>ns h
 | _=>exact ns h
def cO:Option Addr->Sem Fin->Sem Fin
 | some a,t=>ug (some a) t
 | ac,t=>t
def cM (c:Code)(t:Sem Fin):Sem Fin:=cO (qx c) t
def uM (c:Code)(t:Sem Fin):Sem Fin:=ug (qx c) t
theorem cM_eq (c:Code)(t:Sem Fin):cM c t=uM c t:=by
 unfold cM uM
 cases qx c with
 | none=>exact (vO t).symm
 | some a=>rfl
def Mq (p:bF)(w:World):Model:=⟨λc=>cM c ((model p w).den c),p,w⟩
noncomputable abbrev wG (s:ae)(G:Array bk):ae:={ s with gens:=G }
theorem dZ {M:Model}{p:Pos}{t:Sem Fin}{fs:List Frame}{s:ae}{e:End}(h:Runs M Γ p t fs s e s'):s.gens.size<=s'.gens.size:=by
 induction h with
 | newGen _ ih=>simp at ih;exact Nat.le_of_lt ‹_›
 | resumeFresh _ _ _ _ ih1 ih2=>simp [cZ] at ih1 ih2;exact au ‹_› ‹_›
 | resumeSuspended _ _ _ _ ih1 ih2=>simp [cZ] at ih1 ih2;exact au ‹_› ‹_›
 | resumeThrowFresh _ _ ih=>simp [cZ] at ih;assumption
 | segGen _ _ ih1 ih2=>simp [cZ] at ih1 ih2;exact au ‹_› ‹_›
 | segSuspGen _ _ _ _ ih1 ih2=>simp [cZ] at ih1 ih2;exact au ‹_› ‹_›
 | call _ _ ih1 ih2=>exact au ‹_› ‹_›
 | segRet _ _ ih1 ih2=>exact au ‹_› ‹_›
 | _=>first | exact aQ _ | assumption
theorem Bl (p:bF)(w:World)(c:Code):(Mq p w).den c=cM c ((model p w).den c):=rfl
theorem rU (p:bF)(w:World)(c:Code):(Mq p w).den c=uM c ((model p w).den c):=cM_eq c _
theorem runsA {p:bF}{w:World}{ps:Pos}{t:Sem Fin}{s:ae}{r:ej}{G:Array bk}(h:Runs (model p w) Γ ps t [] s (.ret r) s')(hg:s'.gens.size=0) :
  Runs (Mq p w) Γ ps (uM Γ.code t) [] (wG s G) (.ret r) (wG s' G):=by
 generalize hfs:([]:List Frame)=fs at h
 generalize he:End.ret r=e at h
 induction h generalizing r with
 | done=>cases he;exact .done
 | raise=>cases he;exact .raise
 | again hc _ ih=>exact .again hc (by rw [rU];exact ih hg rfl he)
 | rule _ ih=>exact .rule (ih hg rfl he)
 | «at» _ ih=>exact .at (ih hg rfl he)
 | load ho _ ih=>exact .load ho (ih hg rfl he)
 | update ho _ ih=>exact .update ho (ih hg rfl he)
 | loadIfAlive _ ih=>exact .loadIfAlive (ih hg rfl he)
 | point _ ih=>exact .point (ih hg rfl he)
 | alloc _ ih=>exact .alloc (ih hg rfl he)
 | fresh _ ih=>exact .fresh (ih hg rfl he)
 | ask _ ih=>exact .ask (ih hg rfl he)
 | choose ho _ ih=>exact .choose ho (ih hg rfl he)
 | os _ ih=>exact .os (ih hg rfl he)
 | handled _ ih=>exact .handled (ih hg rfl he)
 | stack _ ih=>exact .stack (ih hg rfl he)
 | thread _ ih=>exact .thread (ih hg rfl he)
 | genState hg' h _ =>
  exact absurd (hg▸bO (aZ.mp hg').1 (dZ h)) (Nat.not_lt_zero _)
 | newGen h _ =>
  have:=dZ h
  simp at this
  exact absurd (hg▸this) (Nat.not_succ_le_zero _)
 | call h1 h2 ih1 ih2 =>
  have g1:=dZ h2
  exact .call (by rw [rU];exact ih1 (Nat.le_zero.mp (hg▸g1)) rfl rfl) (ih2 hg rfl he)
 | callSusp _ _=>cases he
 | yield=>cases he
 | resumeFresh hg' h1 _ h2 =>
  exfalso
  have a:=dZ h2
  have b:=dZ h1
  have:=(aZ.mp hg').1
  simp only [cZ,my] at a b
  exact Nat.not_lt_zero _ (hg▸bO this (au b a))
 | resumeSuspended hg' h1 _ h2 =>
  exfalso
  have a:=dZ h2
  have b:=dZ h1
  have:=(aZ.mp hg').1
  simp only [cZ,my] at a b
  exact Nat.not_lt_zero _ (hg▸bO this (au b a))
 | resumeJustStarted hg' _ h2=>exact absurd (hg▸bO (aZ.mp hg').1 (dZ h2)) (Nat.not_lt_zero _)
 | resumeThrowFresh hg' h2 =>
  exfalso
  have a:=dZ h2
  have:=(aZ.mp hg').1
  simp only [cZ,my] at a
  exact Nat.not_lt_zero _ (hg▸bO this a)
 | resumeRunning hg' h2=>exact absurd (hg▸bO (aZ.mp hg').1 (dZ h2)) (Nat.not_lt_zero _)
 | resumeFinished hg' h2=>exact absurd (hg▸bO (aZ.mp hg').1 (dZ h2)) (Nat.not_lt_zero _)
 | segRet=>cases hfs
 | segGen=>cases hfs
 | segSuspOut=>cases hfs
 | segSuspGen=>cases hfs
theorem sZ {p:bF}{w:World}{ps:Pos}{s:ae}{r:ej}{G:Array bk}(h:Returns (model p w) Γ ps s r s')(hg:s'.gens.size=0):Returns (Mq p w) Γ ps (wG s G) r (wG s' G):=
 (congrArg (λt=>Runs (Mq p w) Γ ps t [] (wG s G) (.ret r) (wG s' G)) (rU p w Γ.code)).mpr (runsA (t:=(model p w).den Γ.code) h hg)
theorem By {M:Model}{α:Type}{Q:α->Pos->ae->Prop}{E:Value->Pos->ae->Prop}(m:Sem α):∀ {ps:Pos}{s:ae},Sem.wp M Γ m Q E ps s->∃ s',s.gens.size<=s'.gens.size/\((∃ a p',Q a p' s')\/∃ x p',E x p' s'):=by
 induction m with
 | pure a=>intro ps s h;exact ⟨s,aQ _,.inl ⟨a,ps,h⟩⟩
 | raise e=>intro ps s h;exact ⟨s,aQ _,.inr ⟨e,ps,h⟩⟩
 | unsupported | finish | yield | fork | await | register=>intro ps s h;exact h.elim
 | rule _ k ih | «at» _ k ih | loadIfAlive _ k ih | point _ k ih | ask k ih | handled _ k ih | stack k ih | thread k ih=>intro ps s h;exact ih _ h
 | alloc o k ih=>intro ps s h;exact ih s.heap.objs.size (s:={ s with heap:=s.heap.push o }) h
 | fresh k ih=>intro ps s h;exact ih s.toks (s:={ s with toks:=s.toks+1 }) h
 | os q _ k ih=>intro ps s h;exact ih _ (s:={ s with os:=(Os.step s.os q).1 }) h
 | newGen _ k ih =>
  intro ps s h
  refine bg (ih _ h) λs' a b=>?_
  refine ⟨s',?_,b⟩
  simp at a;exact Nat.le_of_lt ‹_›
 | load _ _ k ih=>intro ps s ⟨o,_,h⟩;exact ih _ h
 | genState _ k ih=>intro ps s ⟨o,_,h⟩;exact ih _ h
 | update b _ f k ih=>intro ps s ⟨_,h⟩;exact ih () (s:={ s with heap:=s.heap.update b f }) h
 | choose src _ k ih=>intro ps s ⟨_,h⟩;exact ih _ (s:={ s with drawn:=s.drawn.bump src }) h
 | call c hd g l k ih =>
  intro ps s ⟨r,s1,h1,h2⟩
  refine bg (ih _ h2) λs' a b=>?_
  exact ⟨s',au (dZ h1) a,b⟩
 | resume g r l k ih =>
  intro ps s ⟨FD,s1,h1,h2⟩
  refine bg (ih _ h2) λs' a b=>?_
  refine ⟨s',au ?_ a,b⟩
  unfold Wakes at h1
  cases hg:s.gens[g]? with
  | none=>rw [hg] at h1;exact h1.elim
  | some x =>
   rw [hg] at h1
   cases x with
   | fresh c =>
    cases r with
    | send v =>
     cases v with
     | none =>
      obtain ⟨e,s2,h3,_,_,rfl⟩:=h1
      have:=dZ h3
      simpa [cZ] using this
     | _=>obtain ⟨_,rfl⟩:=h1;exact aQ _
    | throw x=>obtain ⟨_,rfl⟩:=h1;simp [cZ]
   | suspended k0 l0 c0 p0 fs cl =>
    obtain ⟨e,s2,h3,_,_,rfl⟩:=h1
    have:=dZ h3
    simpa [cZ] using this
   | running=>obtain ⟨_,rfl⟩:=h1;exact aQ _
   | finished=>obtain ⟨_,rfl⟩:=h1;exact aQ _
theorem wpA {p:bF}{w:World}{α:Type}{Q:α->Pos->ae->Prop}{E:Value->Pos->ae->Prop}{G:Array bk}(m:Sem α):∀ {ps:Pos}{s:ae},
  Sem.wp (model p w) Γ m (λa p' s'=>s'.gens.size=0/\Q a p' s') (λe p' s'=>s'.gens.size=0/\E e p' s') ps s ->
  Sem.wp (Mq p w) Γ m (λa p' s''=>∃ s',s''=wG s' G/\s'.gens.size=0/\Q a p' s') (λe p' s''=>∃ s',s''=wG s' G/\s'.gens.size=0/\E e p' s') ps (wG s G):=by
 have zero:∀ {β:Type}(m:Sem β) {Γ ps} {s:ae}{Q:β->Pos->ae->Prop}{E:Value->Pos->ae->Prop},Sem.wp (model p w) Γ m (λa p' s'=>s'.gens.size=0/\Q a p' s') (λe p' s'=>s'.gens.size=0/\E e p' s') ps s->s.gens.size=0:=by
  intro β m Γ ps s Q E h
  refine bg (By m h) λs' a b=>?_
  rcases b with ⟨_,_,b,_⟩ | ⟨_,_,b,_⟩<;>omega
 induction m with
 | pure a=>intro ps s h;exact ⟨s,rfl,h⟩
 | raise e=>intro ps s h;exact ⟨s,rfl,h⟩
 | unsupported | finish | yield | fork | await | register=>intro ps s h;exact h.elim
 | rule _ k ih | «at» _ k ih | loadIfAlive _ k ih | point _ k ih | ask k ih | handled _ k ih | stack k ih | thread k ih=>intro ps s h;exact ih _ h
 | alloc o k ih=>intro ps s h;exact ih s.heap.objs.size (s:={ s with heap:=s.heap.push o }) h
 | fresh k ih=>intro ps s h;exact ih s.toks (s:={ s with toks:=s.toks+1 }) h
 | os q _ k ih=>intro ps s h;exact ih _ (s:={ s with os:=(Os.step s.os q).1 }) h
 | newGen c k ih =>
  intro ps s h
  have h:Sem.wp (model p w) Γ (k s.gens.size) _ _ ps { s with gens:=s.gens.push (.fresh c) }:=h
  have:=zero _ h
  simp at this
 | load _ _ k ih=>intro ps s ⟨o,e,h⟩;exact ⟨o,e,ih _ h⟩
 | genState g k ih =>
  intro ps s ⟨o,e,h⟩
  exfalso
  exact Nat.not_lt_zero _ (zero _ h▸(aZ.mp e).1)
 | update b _ f k ih=>intro ps s ⟨e,h⟩;exact ⟨e,ih () (s:={ s with heap:=s.heap.update b f }) h⟩
 | choose src _ k ih=>intro ps s ⟨e,h⟩;exact ⟨e,ih _ (s:={ s with drawn:=s.drawn.bump src }) h⟩
 | call c hd g l k ih =>
  intro ps s ⟨r,s1,h1,h2⟩
  have z:=zero _ h2
  exact ⟨r,wG s1 G,sZ h1 z,ih _ h2⟩
 | resume g r l k ih =>
  intro ps s h
  exfalso
  have z:=zero (.resume g r l k) h
  refine cB h λFD s1 h1 h2=>?_
  unfold Wakes at h1
  rw [Array.getElem?_eq_none (by omega)] at h1
  exact h1
theorem lift {p:bF}{w:World}{α:Type}{m:Sem α}{Q:α->ae->Prop}{s:ae}{G:Array bk}
  (h:wpAny (model p w) A m (λa s'=>s'.gens.size=0/\Q a s') (λe s'=>s'.gens.size=0/\E e s') s) :
  wpAny (Mq p w) A m (λa s''=>∃ s',s''=wG s' G/\s'.gens.size=0/\Q a s') (λe s''=>∃ s',s''=wG s' G/\s'.gens.size=0/\E e s') (wG s G):=λΓ ps hΓ =>
 wpA m (h Γ ps hΓ)
theorem liftCode {p:bF}{w:World}{c:Code}{R:ej->ae->Prop}{s:ae}{G:Array bk}
  (h:bY (model p w) A c (λr s'=>s'.gens.size=0/\R r s') s):bY (Mq p w) A c (λr s''=>∃ s',s''=wG s' G/\s'.gens.size=0/\R r s') (wG s G):=λΓ ps hc hΓ=>by
 refine xI (h Γ ps hc hΓ) λr s' h1 h2 h3=>?_
 exact ⟨r,wG s' G,sZ h1 h2,s',rfl,h2,h3⟩
set_option backward.match.sparseCases true
def fM:Frame->Frame
 | .ret k h g l c p kp=>.ret (λr=>uM c (k r)) h g l c p kp
 | .gen g k l c p=>.gen g (λr=>uM c (k r)) l c p
def gM:bk->bk
 | .suspended k l c p fs cl=>.suspended (λr=>uM c (k r)) l c p (fs.map fM) (if (qx c).isSome then fs.any cF else cl)
 | x=>x
def sM (s:ae):ae:={ s with gens:=s.gens.map gM }
def tM (t:eR):eR:=⟨uM t.code t.cur,t.code,t.pos,t.stack.map fM⟩
def DK:Step->Step
 | .go s t=>.go (sM s) (tM t)
 | .halt o s=>.halt o (sM s)
theorem yl (F:Frame):(fM F).where_=F.where_:=by cases F<;>rfl
theorem vt (F:Frame):(fM F).guarded=F.guarded:=by cases F<;>rfl
theorem qD (st:List Frame):(st.map fM).map fW=st.map fW:=by
 rw [eL];exact List.map_congr_left λF _=>yl F
theorem vH (st:List Frame):(st.map fM).any cF=st.any cF:=by
 rw [List.any_map];congr 1;exact funext vt
theorem lr (st:List Frame):ch (st.map fM)=(ch st).map λx=>(x.1.map fM,(x.2.1.1,(λr=>uM x.2.1.2.2.1 (x.2.1.2.1 r)),x.2.1.2.2.1,x.2.1.2.2.2),x.2.2.map fM):=by
 induction st with
 | nil=>rfl
 | cons F st ih =>
  cases F with
  | ret k h g l c p kp =>
   show (ch (st.map fM)).map (λx=>(fM (.ret k h g l c p kp) :: x.1,x.2.1,x.2.2))=((ch st).map λx=>(.ret k h g l c p kp :: x.1,x.2.1,x.2.2)).map _
   rw [ih]
   cases ch st<;>rfl
  | gen g k l c p=>rfl
theorem mW (st:List Frame):topHandled (st.map fM)=topHandled st/\topHandled.go true (st.map fM)=topHandled.go true st:=by
 induction st with
 | nil=>exact ⟨rfl,rfl⟩
 | cons F st ih =>
  have a:=marks_cons F st
  have b:=marks_cons (fM F) (st.map fM)
  have c:(fM F).marks=F.marks:=by cases F<;>rfl
  rw [ih.1,ih.2,c,<- a] at b
  simp only [Prod.mk.injEq] at b
  exact b
def odd (t:eR):Bool:=match t.cur with
 | .yield _ true _ _=>(qx t.code).isSome
 | .finish _=>true
 | .pure (.done _)=>t.stack.isEmpty
 | .raise _=>t.stack.isEmpty
 | _=>false
theorem Ae {t:eR}(h:odd t=false){v l k}(c:t.cur=.yield v true l k):qx t.code=ac:=by
 obtain ⟨cur,code,pos,stack⟩:=t
 subst c
 exact Option.not_isSome_iff_eq_none.mp (Bool.eq_false_iff.mp h)
theorem l9 {hp d t os}{G:Array bk}{i:Nat}{x:bk}{T:eR}:kO ⟨hp,(G.map gM).setIfInBounds i (gM x),d,t,os⟩ T=kO ⟨hp,(G.setIfInBounds i x).map gM,d,t,os⟩ T:=by rw [Array.map_setIfInBounds]
theorem pz {den den':Code->Sem Fin}{pr:bF}{w':World}{heap gens drawn toks os code pos stack v g l k}(hc:uM code (.yield v g l k)=.yield v g l λx=>uM code (k x))(hb:∀ b,(if (qx code).isSome then b else (g || b))=(g || b)) :
  dA den pr w' (sM ⟨heap,gens,drawn,toks,os⟩) ⟨uM code (.yield v g l k),code,pos,stack.map fM⟩=DK (dA den' pr w' ⟨heap,gens,drawn,toks,os⟩ ⟨.yield v g l k,code,pos,stack⟩):=by
 rw [hc]
 show (match ch (stack.map fM) with
  | some (frames,(g1,k1,c,p),rest)=>kO ⟨heap,(gens.map gM).setIfInBounds g1 (.suspended (λx=>uM code (k x)) l code pos frames (g || frames.any cF)),drawn,toks,os⟩ ⟨k1 (.yielded v),c,p,rest⟩
  | ac=>.halt (.stuck "yield outside a generator") (sM ⟨heap,gens,drawn,toks,os⟩))=DK (match ch stack with
  | some (frames,(g1,k1,c,p),rest)=>kO ⟨heap,gens.setIfInBounds g1 (.suspended k l code pos frames (g || frames.any cF)),drawn,toks,os⟩ ⟨k1 (.yielded v),c,p,rest⟩
  | ac=>.halt (.stuck "yield outside a generator") ⟨heap,gens,drawn,toks,os⟩)
 rw [lr]
 cases ch stack with
 | none=>rfl
 | some x =>
  obtain ⟨fs,⟨g1,k1,c,p⟩,rest⟩:=x
  show kO ⟨heap,(gens.map gM).setIfInBounds g1 (.suspended (λx=>uM code (k x)) l code pos (fs.map fM) (g || (fs.map fM).any cF)),drawn,toks,os⟩ _=_
  rw [vH,<- hb]
  exact l9 (x:=.suspended k l code pos fs (g || fs.any cF))
theorem wY {p pr:bF}{w w':World}{s:ae}{t:eR}(h:odd t=false):dA (Mq p w).den pr w' (sM s) (tM t)=DK (dA (model p w).den pr w' s t):=by
 rw [show (Mq p w).den=λc=>uM c ((model p w).den c) from funext (rU p w)]
 obtain ⟨heap,gens,drawn,toks,os⟩:=s
 obtain ⟨cur,code,pos,stack⟩:=t
 cases cur with
 | pure fin =>
  cases fin with
  | done f =>
   cases stack with
   | nil=>cases h
   | cons F st =>
    cases F with
    | ret=>rfl
    | gen=>exact l9 (x:=.finished)
  | again c =>
   cases stack with
   | nil=>cases code<;>first | rfl | (cases c<;>rfl)
   | cons F st=>cases F<;>cases code<;>first | rfl | (cases c<;>rfl)
 | raise x =>
  cases stack with
  | nil=>cases h
  | cons F st =>
   cases F with
   | ret=>rfl
   | gen=>exact l9 (x:=.finished)
 | unsupported what=>rfl
 | finish e=>cases h
 | rule tag k=>rfl
 | «at» q k=>rfl
 | load a part k =>
  exact (by intro x;cases x<;>rfl:∀ x:Option Obj,(match x with | some o=>kO (sM ⟨heap,gens,drawn,toks,os⟩) ⟨uM code (k o),code,pos,stack.map fM⟩ | ac=>.halt (.stuck (if a < heap.objs.size then "load: the object has been freed" else "load: no object at this address")) (sM ⟨heap,gens,drawn,toks,os⟩)) =
   DK (match x with | some o=>kO ⟨heap,gens,drawn,toks,os⟩ ⟨k o,code,pos,stack⟩ | ac=>.halt (.stuck (if a < heap.objs.size then "load: the object has been freed" else "load: no object at this address")) ⟨heap,gens,drawn,toks,os⟩)) (heap.get? a)
 | update a part f k=>exact (apply_ite DK ((heap.get? a).isSome=true) (.go ⟨heap.update a f,gens,drawn,toks,os⟩ ⟨k (),code,pos,stack⟩) (.halt (.stuck "update: no object at this address, or it has been freed") ⟨heap,gens,drawn,toks,os⟩)).symm
 | alloc o k=>rfl
 | loadIfAlive a k=>rfl
 | point l k=>rfl
 | register a k=>rfl
 | fresh k=>rfl
 | ask k=>rfl
 | choose src n k=>exact (apply_ite DK (n=0) (.halt (.stuck "choose 0") ⟨heap,gens,drawn,toks,os⟩) (.go ⟨heap,gens,drawn.bump src,toks,os⟩ ⟨k (w'.draws src (drawn.get src) % n),code,pos,stack⟩)).symm
 | os q l k=>rfl
 | call c hd g l k=>rfl
 | handled own k =>
  have e:topHandled (if own then (match ch (stack.map fM) with | some (fs,_,_)=>fs | ac=>stack.map fM) else stack.map fM)=topHandled (if own then (match ch stack with | some (fs,_,_)=>fs | ac=>stack) else stack):=by
   cases own
   ·exact (mW stack).1
   ·rw [lr]
    cases ch stack with
    | none=>exact (mW stack).1
    | some x=>exact (mW x.1).1
  exact congrArg (λv=>kO (sM ⟨heap,gens,drawn,toks,os⟩) ⟨uM code (k v),code,pos,stack.map fM⟩) e
 | genState g k =>
  have key:∀ x:Option bk,(match x.map gM with | ac=>Step.halt (.stuck "genState: no such generator") (sM ⟨heap,gens,drawn,toks,os⟩) | some st=>.go (sM ⟨heap,gens,drawn,toks,os⟩) ⟨uM code (k (match st with
      | .fresh c=>(.fresh,some [(c,default)])
      | .suspended _ _ c p frames _=>(.suspended,some ((c,p) :: frames.map fW))
      | .running=>(.running,ac)
      | .finished=>(.finished,ac))),code,pos,stack.map fM⟩)=DK (match x with | ac=>Step.halt (.stuck "genState: no such generator") ⟨heap,gens,drawn,toks,os⟩ | some st=>.go ⟨heap,gens,drawn,toks,os⟩ ⟨k (match st with
      | .fresh c=>(.fresh,some [(c,default)])
      | .suspended _ _ c p frames _=>(.suspended,some ((c,p) :: frames.map fW))
      | .running=>(.running,ac)
      | .finished=>(.finished,ac)),code,pos,stack⟩):=by
   intro x
   cases x with
   | none=>rfl
   | some x =>
    cases x with
    | suspended kk l c p fs cl=>exact congrArg (λv=>kO (sM ⟨heap,gens,drawn,toks,os⟩) ⟨uM code (k (.suspended,some ((c,p) :: v))),code,pos,stack.map fM⟩) (qD fs)
    | _=>rfl
  have e:(gens.map gM)[g]? = (gens[g]?).map gM:=Array.getElem?_map
  have:=key (gens[g]?)
  rw [<- e] at this
  exact this
 | newGen c k =>
  exact (by simp [sM,gM]:kO ⟨heap,(gens.map gM).push (.fresh c),drawn,toks,os⟩ ⟨uM code (k (gens.map gM).size),code,pos,stack.map fM⟩=.go (sM ⟨heap,gens.push (.fresh c),drawn,toks,os⟩) ⟨uM code (k gens.size),code,pos,stack.map fM⟩)
 | resume g r l k =>
  clear h
  have e:(gens.map gM)[g]? = (gens[g]?).map gM:=Array.getElem?_map
  have key:∀ x:Option bk,(match x.map gM with
    | ac=>Step.halt (.stuck "resume: no such generator") (sM ⟨heap,gens,drawn,toks,os⟩)
    | some (.fresh c)=>match r with
     | .send .none=>.go ⟨heap,(gens.map gM).setIfInBounds g .running,drawn,toks,os⟩ ⟨uM c ((model p w).den c),c,pos,.gen g (λr=>uM code (k r)) l code pos :: stack.map fM⟩
     | .send _=>.go (sM ⟨heap,gens,drawn,toks,os⟩) ⟨uM code (k .justStarted),code,pos,stack.map fM⟩
     | .throw e=>.go ⟨heap,(gens.map gM).setIfInBounds g .finished,drawn,toks,os⟩ ⟨uM code (k (.raised e)),code,pos,stack.map fM⟩
    | some (.suspended kk _ c p frames _)=>.go ⟨heap,(gens.map gM).setIfInBounds g .running,drawn,toks,os⟩ ⟨kk r,c,p,frames++.gen g (λr=>uM code (k r)) l code pos :: stack.map fM⟩
    | some .running=>.go (sM ⟨heap,gens,drawn,toks,os⟩) ⟨uM code (k .running),code,pos,stack.map fM⟩
    | some .finished=>.go (sM ⟨heap,gens,drawn,toks,os⟩) ⟨uM code (k .finished),code,pos,stack.map fM⟩)=DK (match x with
    | ac=>Step.halt (.stuck "resume: no such generator") ⟨heap,gens,drawn,toks,os⟩
    | some (.fresh c)=>match r with
     | .send .none=>.go ⟨heap,gens.setIfInBounds g .running,drawn,toks,os⟩ ⟨(model p w).den c,c,pos,.gen g k l code pos :: stack⟩
     | .send _=>.go ⟨heap,gens,drawn,toks,os⟩ ⟨k .justStarted,code,pos,stack⟩
     | .throw e=>.go ⟨heap,gens.setIfInBounds g .finished,drawn,toks,os⟩ ⟨k (.raised e),code,pos,stack⟩
    | some (.suspended kk _ c p frames _)=>.go ⟨heap,gens.setIfInBounds g .running,drawn,toks,os⟩ ⟨kk r,c,p,frames++.gen g k l code pos :: stack⟩
    | some .running=>.go ⟨heap,gens,drawn,toks,os⟩ ⟨k .running,code,pos,stack⟩
    | some .finished=>.go ⟨heap,gens,drawn,toks,os⟩ ⟨k .finished,code,pos,stack⟩):=by
   intro x
   cases x with
   | none=>rfl
   | some x =>
    cases x with
    | fresh c =>
     cases r with
     | send v=>cases v<;>first | rfl | exact l9 (x:=.running)
     | throw x=>exact l9 (x:=.finished)
    | suspended kk l' c p' fs cl =>
     show kO ⟨heap,(gens.map gM).setIfInBounds g (gM .running),drawn,toks,os⟩ ⟨uM c (kk r),c,p',fs.map fM++fM (.gen g k l code pos) :: stack.map fM⟩=_
     rw [l9,<- List.map_cons,<- db]
     rfl
    | running=>rfl
    | finished=>rfl
  have:=key (gens[g]?)
  rw [<- e] at this
  exact this
 | yield v g l k =>
  cases g with
  | false=>exact pz rfl λb=>by split<;>rfl
  | true =>
   have hy:=Ae h rfl
   exact pz (by unfold uM;rw [show qx code=ac from hy];rfl) λb=>by rw [show qx code=ac from hy];rfl
 | stack k=>exact congrArg (λv=>kO (sM ⟨heap,gens,drawn,toks,os⟩) ⟨uM code (k ((code,pos) :: v)),code,pos,stack.map fM⟩) (qD stack)
 | fork c k=>rfl
 | thread k=>rfl
 | await a f d l k=>rfl
section
variable (den:Code->Sem aP) (prog:bF) (w:World)
theorem ve {s:ae}{v:Value}{g:Bool}{l:List Value}{k:Resume->Sem aP}{c:Code}{ps:Pos}{st:List Frame}(hr:s.heap.life.registered=[]) :
  (eZ s ⟨.yield v g l k,c,ps,st⟩).pick w=.ok (.run 0,.single s ⟨.yield v g l k,c,ps,st⟩):=by
 have h1:(eZ s ⟨.yield v g l k,c,ps,st⟩).collect? w.params=none:=by
  simp [Config.collect?,eZ,(nothing_to_collect _ _ _ s _ hr).1]
 have h2:(eZ s ⟨.yield v g l k,c,ps,st⟩).collectable=[]:=by
  simp [Config.collectable,eZ,(nothing_to_collect w.params _ _ s _ hr).2]
 have h3:∀ pr,(eZ s ⟨.yield v g l k,c,ps,st⟩).moves pr=[.run 0]:=by
  intro pr
  simp [Config.moves,eZ,movesFrom,Thread.moves]
 simp only [Config.pick,h1,h2,Config.pickThread,h3]
 cases w.params.lifetimes<;>rfl
theorem ED {s:ae}{fs:List Frame}{it:Value}{r:List Value}{g:Bool}:closingShows s fs (.builtin "proto.yield_from" ⟨it :: r,kw⟩) g=(fs.any cF || (g && delegateShows s it)):=rfl
theorem vm {s:ae}{v:Value}{l:List Value}{k:Resume->Sem aP}{a:Addr}{r:List Value}{ps:Pos}{st fs rest:List Frame}{b:Nat×(GenResult->Sem aP)×Code×Pos}(hz:s.asleep)(ho:s.heap.get? a=some o)(hg:o.genNumber?.isSome=true)
  (hs:ch st=some (fs,b,rest)) (hf:fs.any cF=false) (others:List Value) :
  lifeStep den prog w others s ⟨.yield v true l k,.builtin "proto.yield_from" ⟨.ref a :: r,kw⟩,ps,st⟩=dA den prog w s ⟨.yield v true l k,.builtin "proto.yield_from" ⟨.ref a :: r,kw⟩,ps,st⟩:=by
 obtain ⟨n,hn⟩:=cG.mp hg
 have hd:delegateShows s (.ref a)=false:=by
  unfold delegateShows
  simp only [ho,hn,hz.1]
  rfl
 have hsp:Thread.special ⟨.yield v true l k,.builtin "proto.yield_from" ⟨.ref a :: r,kw⟩,ps,st⟩=true:=by
  rfl
 unfold lifeStep
 rw [if_pos hsp]
 simp only [collectorTurn?,hs,ED,hf,hd,Bool.and_false,Bool.or_false,bX,if_false,Bool.false_and,Thread.atItsEnd]
 simp [stepCounting,hz.2]
theorem sP {s:ae}{v:Value}{l:List Value}{k:Resume->Sem aP}{a:Addr}{r:List Value}{ps:Pos}{st fs rest:List Frame}{b:Nat×(GenResult->Sem aP)×Code×Pos}(hz:s.asleep)(ho:s.heap.get? a=some o)(hg:o.genNumber?.isSome=true)
  (hs:ch st=some (fs,b,rest)) (hf:fs.any cF=false) :
  sstep den prog w (.single s ⟨.yield v true l k,.builtin "proto.yield_from" ⟨.ref a :: r,kw⟩,ps,st⟩)=(dA den prog w s ⟨.yield v true l k,.builtin "proto.yield_from" ⟨.ref a :: r,kw⟩,ps,st⟩).lift:=by
 have hl:=vm den prog w (v:=v) (l:=l) (k:=k) (r:=r) (kw:=kw) (ps:=ps) hz ho hg hs hf
 unfold sstep
 rw [ve w hz.1]
 dsimp only [Config.move,Config.run,eZ]
 simp [hl,others_single,Thread.finalizes]
 split<;>simp_all [Step.lift,eZ]
end
def jx (h:Heap)(g:bk):Prop:=match g with
 | .suspended _ _ c _ _ _=>∀ a,qx c=some a->∃ o,h.get? a=some o/\o.genNumber?.isSome=true
 | _=>True
theorem Ax (h:Heap)(g:bk):jx h (gM g)↔jx h g:=by cases g<;>exact Iff.rfl
section
variable (den:Code->Sem aP) (prog:bF) (w:World)
theorem xC {all:Bool}{s:ae}(hz:s.asleep)(hl:jl (sM s).gens=false)(hg:∀ g∈s.gens,jx s.heap g):jl (forgetSuspended all s).gens=false:=by
 unfold jl at hl ⊢
 unfold forgetSuspended
 rw [Array.any_eq_false'] at hl ⊢
 intro x hx
 rw [mz] at hx
 obtain ⟨g,hgm,rfl⟩:=hx
 have h1:=hl (gM g) (by simp only [sM,mz];exact ⟨g,hgm,rfl⟩)
 have h2:=hg g hgm
 cases g with
 | suspended k l c p fs cl =>
  cases cl with
  | false=>simp
  | true =>
   simp only [gM] at h1
   cases hy:qx c with
   | none=>rw [hy] at h1;trivial
   | some a =>
    rw [hy] at h1
    refine bg (h2 a hy) λo ho hn=>?_
    obtain ⟨n,hn⟩:=cG.mp hn
    have hd:delegateShows s (.ref a)=false:=by
     unfold delegateShows
     simp only [ho,hn,hz.1]
     rfl
    have hc:closingShows s fs c true=false:=by
     obtain ⟨r,kw,rfl⟩:=Ag hy
     rw [ED,hd]
     simpa using h1
    simp [hc]
 | fresh=>assumption
 | running=>assumption
 | finished=>assumption
noncomputable def oP (t:eR):Option jp:=match t.cur with
 | .finish e=>some (.ended e)
 | .pure (.done f)=>if t.stack.isEmpty then some (.done f) else ac
 | .raise e=>if t.stack.isEmpty then some (.uncaught e) else ac
 | _=>ac
theorem jM {t:eR}{o:jp}(h:oP t=some o){P:eR->jp->Prop}(h1:∀ e c p st,P ⟨.finish e,c,p,st⟩ (.ended e))(h2:∀ e c p,P ⟨.raise e,c,p,[]⟩ (.uncaught e))(h3:∀ f c p,P ⟨.pure (.done f),c,p,[]⟩ (.done f)):P t o:=by
 obtain ⟨cur,code,pos,stack⟩:=t
 cases cur with
 | finish e=>cases h;exact h1 ..
 | raise e =>
  cases stack with
  | nil=>cases h;exact h2 ..
  | cons=>exact ns h
 | pure f =>
  cases f with
  | done f =>
   cases stack with
   | nil=>cases h;exact h3 ..
   | cons=>exact ns h
  | again c=>exact ns h
 | _=>exact ns h
theorem vB {t:eR}{o:jp}(h:oP t=some o):t.calm=true:=jM (P:=λt _=>t.calm=true) h (λ_ _ _ _=>rfl) (λ_ _ _=>rfl) λ_ _ _=>rfl
theorem pZ {t:eR}{o:jp}(h:oP t=some o)(s:ae):dA den prog w s t=finish o s:=jM (P:=λt o=>dA den prog w s t=finish o s) h (λ_ _ _ _=>rfl) (λ_ _ _=>rfl) λ_ _ _=>rfl
theorem xF {t:eR}{o:jp}(h:oP t=some o):t.atItsEnd=true:=jM (P:=λt _=>t.atItsEnd=true) h (λ_ _ _ _=>rfl) (λ_ _ _=>rfl) λ_ _ _=>rfl
theorem xg (s:ae)(t:eR)(b:Bool):(if b then Config.others ⟨s,#[.live t],0⟩ 0 else some [])=some []:=by rw [others_single];exact ite_self _
theorem xE {s:ae}{t:eR}{o:jp}(h:oP t=some o):(eZ s t).run den prog w 0=(match lifeStep den prog w [] s t with | .go s' t'=>.go ⟨s',#[.live t'],0⟩ | .halt o s'=>.halt o s'):=by
 have F:=λ(t:eR)=>congrArg (λx=>match x with | ac=>SStep.halt (.stuck "scheduler: the collector is at work while another thread does not tell what it holds") s | some others=>(match lifeStep den prog w others s t with | .go s' t'=>SStep.go ⟨s',#[.live t'],0⟩ | .halt o s'=>.halt o s')) (xg s t t.special)
 exact jM (P:=λt _=>(eZ s t).run den prog w 0=(match lifeStep den prog w [] s t with | .go s' t'=>.go ⟨s',#[.live t'],0⟩ | .halt o s'=>.halt o s')) h (λe c p st=>F ⟨.finish e,c,p,st⟩) (λe c p=>F ⟨.raise e,c,p,[]⟩) λf c p=>F ⟨.pure (.done f),c,p,[]⟩
theorem wZ {s:ae}{t:eR}{o:jp}(hz:s.asleep)(h:oP t=some o)(hl:jl (sM s).gens=false)(hg:∀ g∈s.gens,jx s.heap g):∃ s2,s2.heap=s.heap/\s2.drawn=s.drawn/\s2.toks=s.toks/\s2.os=s.os/\sstep den prog w (.single s t)=.halt o s2:=by
 have hc:=vB h
 refine ⟨forgetSuspended (w.params.lifetimes == .anyTime) s,rfl,rfl,rfl,rfl,?_⟩
 have e:=lifeStep_calm0 den prog w [] s t hc hz
 rw [pZ den prog w h,xF h,if_pos rfl] at e
 unfold finish at e
 rw [xC hz hl hg] at e
 unfold sstep
 rw [pick_single w s t hc hz.1]
 exact (xE den prog w h).trans (by rw [e];rfl)
end
noncomputable def CK (st:List Frame):Bool:=match ch st with | some (fs,_,_)=>fs.any cF | ac=>false
theorem As (st:List Frame):CK (st.map fM)=CK st:=by
 unfold CK
 rw [lr]
 cases ch st with
 | none=>rfl
 | some x=>exact vH x.1
theorem Dk {t:eR}(h:odd t=false):(tM t).calm=t.calm:=by
 obtain ⟨cur,code,pos,stack⟩:=t
 cases cur with
 | yield v g l k =>
  have hg:uM code (.yield v g l k)=.yield v g l (λx=>uM code (k x)):=by
   cases g with
   | false=>rfl
   | true =>
    have hy:qx code=ac:=Ae h rfl
    unfold uM;rw [hy];rfl
  show Thread.calm ⟨uM code (.yield v g l k),code,pos,stack.map fM⟩=_
  rw [hg]
  exact congrArg (λb=>(!false || false) && !(g || b) && true) (As stack)
 | pure f=>cases f<;>rfl
 | _=>rfl
section
variable {den:Code->Sem aP}{p:bF}{w:World}{n:Nat}{s s1:ae}{t t1:eR}{o o1:jp}
theorem BX (e:dA den p w s t=.go s1 t1)(h:runN den p w (n+1) s t=.halted o s'):runN den p w n s1 t1=.halted o s':=by
 simp only [runN,e] at h;exact h
theorem jk (e:dA den p w s t=.halt o1 s1)(h:runN den p w (n+1) s t=.halted o s'):o1=o/\s1=s':=by
 simp only [runN,e] at h;cases h;exact ⟨rfl,rfl⟩
end
def yf (p:bF)(w:World)(o:jp)(s' s:ae)(t:eR):Prop:=∃ m s'',schedN (model p w).den p w m (.single s t)=.halted o s''/\s''.heap=s'.heap/\s''.drawn=s'.drawn/\s''.toks=s'.toks/\s''.os=s'.os
structure r9 (p:bF) (w:World) (o:jp) (s':ae) (n:Nat) (s:ae) (t:eR):Prop where
 run:runN (Mq p w).den p w n s t=.halted o s'
 calm:∀ k aan aaq,runN (Mq p w).den p w k s t=.running aan aaq->aaq.calm=true
section
variable {p:bF}{w:World}{o o1:jp}{s s1:ae}{t t1:eR}{n:Nat}
theorem r9.go (R:r9 p w o s' (n+1) s t)(e:dA (Mq p w).den p w s t=.go s1 t1):r9 p w o s' n s1 t1:=⟨BX e R.run,λk aan aaq h=>R.calm (k+1) aan aaq (by simp only [runN,e];exact h)⟩
theorem yf.go (h:yf p w o s' s1 t1)(e:sstep (model p w).den p w (.single s t)=.go (.single s1 t1)):yf p w o s' s t:=
 cB h λm s'' h1 h2=>⟨m+1,s'',by simp only [schedN,e];exact h1,h2⟩
theorem yf.halt (e:sstep (model p w).den p w (.single s t)=.halt o s1)(h:s1.heap=s'.heap/\s1.drawn=s'.drawn/\s1.toks=s'.toks/\s1.os=s'.os):yf p w o s' s t:=⟨1,s1,by simp only [schedN,e],h⟩
theorem qZ (hz:s.asleep)(R:r9 p w o s' (n+1) (sM s) (tM t))(ho:o.ends=true)(hg:∀ g∈s'.gens,jx s'.heap g)(h1:oP t=some o1)(h2:oP (tM t)=some o1):yf p w o s' s t:=by
 have h2:=pZ (Mq p w).den p w h2 (sM s)
 unfold finish at h2
 cases hl:jl (sM s).gens with
 | true =>
  rw [hl] at h2
  have:=(jk h2 R.run).1
  rw [<- this] at ho
  cases ho
 | false =>
  rw [hl] at h2
  obtain ⟨rfl,rfl⟩:=jk h2 R.run
  refine el15 (wZ (model p w).den p w hz h1 hl λg hm=>(Ax _ _).mp (hg (gM g) (mz.mpr ⟨g,hm,rfl⟩))) λs2 e1 e2 e3 e4 hst=>?_
  exact .halt hst ⟨e1,e2,e3,e4⟩
theorem yO (hz:s.asleep)(R:r9 p w o s' (n+1) (sM s) (tM t))(ho:o.ends=true)(ih:∀ s1 t1,r9 p w o s' n (sM s1) (tM t1)->s1.asleep->yf p w o s' s1 t1)(hodd:odd t=false):yf p w o s' s t:=by
 have e:=wY (p:=p) (pr:=p) (w:=w) (w':=w) (s:=s) hodd
 have hss:=sstep_single (model p w).den p w s t ((Dk hodd).symm.trans (R.calm 0 _ _ rfl)) hz
 cases hs:dA (model p w).den p w s t with
 | go s1 t1 =>
  rw [hs] at e hss
  exact (ih s1 t1 (R.go e) (Shared.asleep_of_life (step_life _ p w s s1 t t1 hs) hz)).go (hss.resolve_right nofun)
 | halt o1 s1 =>
  rw [hs] at e hss
  obtain ⟨rfl,rfl⟩:=jk e R.run
  exact .halt (hss.resolve_right λh=>by cases h;cases ho) ⟨rfl,rfl,rfl,rfl⟩
theorem xa {v l k a r kw pos stack}(hz:s.asleep)(R:r9 p w o s' (n+1) (sM s) (tM ⟨.yield v true l k,.builtin "proto.yield_from" ⟨.ref a :: r,kw⟩,pos,stack⟩))(ho:o.ends=true)(ih:∀ s1 t1 m,m<=n->r9 p w o s' m (sM s1) (tM t1)->s1.asleep->yf p w o s' s1 t1) :
  yf p w o s' s ⟨.yield v true l k,.builtin "proto.yield_from" ⟨.ref a :: r,kw⟩,pos,stack⟩:=by
 have st:dA (Mq p w).den p w (sM s) (tM ⟨.yield v true l k,.builtin "proto.yield_from" ⟨.ref a :: r,kw⟩,pos,stack⟩)=(match s.heap.get? a with
   | some ob=>.go (sM s) ⟨if ob.genNumber?.isSome then .yield v false l (λx=>ug (some a) (k x)) else .unsupported "no generator",.builtin "proto.yield_from" ⟨.ref a :: r,kw⟩,pos,stack.map fM⟩
   | ac=>.halt (.stuck (if a < s.heap.objs.size then "load: the object has been freed" else "load: no object at this address")) (sM s)):=rfl
 cases hobj:s.heap.get? a with
 | none=>rw [hobj] at st;have:=(jk st R.run).1;rw [<- this] at ho;cases ho
 | some ob =>
  rw [hobj] at st
  have R:=R.go st
  cases n with
  | zero=>cases R.run
  | succ n =>
   cases hgn:ob.genNumber?.isSome with
   | false =>
    rw [hgn] at R
    have:=(jk rfl R.run).1
    rw [<- this] at ho;cases ho
   | true =>
    rw [hgn] at R
    cases hsp:ch stack with
    | none =>
     have sp:ch (stack.map fM)=ac:=by rw [lr,hsp];rfl
     have e:dA (Mq p w).den p w (sM s) ⟨.yield v false l (λx=>ug (some a) (k x)),.builtin "proto.yield_from" ⟨.ref a :: r,kw⟩,pos,stack.map fM⟩=.halt (.stuck "yield outside a generator") (sM s):=by
      simp only [dA,sM,sp]
     have:=(jk e R.run).1
     rw [<- this] at ho;exact nomatch ho
    | some x =>
     obtain ⟨fs,⟨g,kk,c',p'⟩,rest⟩:=x
     have hf:fs.any cF=false:=by
      have c:((!false || false) && !(false || CK (stack.map fM)) && true)=true:=R.calm 0 _ _ rfl
      rw [As] at c
      unfold CK at c
      rw [hsp] at c
      simpa using c
     have sp:ch (stack.map fM)=some (fs.map fM,(g,(λr=>uM c' (kk r)),c',p'),rest.map fM):=by rw [lr,hsp];rfl
     have e:dA (Mq p w).den p w (sM s) ⟨.yield v false l (λx=>ug (some a) (k x)),.builtin "proto.yield_from" ⟨.ref a :: r,kw⟩,pos,stack.map fM⟩ =
       .go (sM { s with gens:=s.gens.setIfInBounds g (.suspended k l (.builtin "proto.yield_from" ⟨.ref a :: r,kw⟩) pos fs true) }) (tM ⟨kk (.yielded v),c',p',rest⟩):=by
      simp only [dA,sM,sp,vH,Bool.false_or,Array.map_setIfInBounds]
      rfl
     have hreal:dA (model p w).den p w s ⟨.yield v true l k,.builtin "proto.yield_from" ⟨.ref a :: r,kw⟩,pos,stack⟩ =
       .go { s with gens:=s.gens.setIfInBounds g (.suspended k l (.builtin "proto.yield_from" ⟨.ref a :: r,kw⟩) pos fs true) } ⟨kk (.yielded v),c',p',rest⟩:=by
      simp only [dA,hsp,Bool.true_or]
     have hss:=sP (model p w).den p w (v:=v) (l:=l) (k:=k) (r:=r) (kw:=kw) (ps:=pos) hz hobj hgn hsp hf
     rw [hreal] at hss
     exact (ih _ ⟨kk (.yielded v),c',p',rest⟩ n (aW n) (R.go e) (Shared.asleep_of_life rfl hz)).go hss
end
theorem simN {p:bF}{w:World}{o:jp}(ho:o.ends=true)(hg:∀ g∈s'.gens,jx s'.heap g):∀ (N n:Nat),n<=N->∀ (s:ae) (t:eR),r9 p w o s' n (sM s) (tM t)->s.asleep->yf p w o s' s t
 | _,0,_,_,_,R,_=>by cases R.run
 | 0,_+1,h,_,_,_,_=>nomatch h
 | N+1,n+1,h,s,t,R,hz=>by
  have ih:=λs1 t1 m (hm:m<=n) R h1=>simN (p:=p) (w:=w) ho hg N m (au hm (Nat.le_of_succ_le_succ h)) s1 t1 R h1
  cases hodd:odd t with
  | false=>exact yO hz R ho (λs1 t1=>ih s1 t1 n (aQ n)) hodd
  | true =>
   obtain ⟨cur,code,pos,stack⟩:=t
   cases cur with
   | finish x=>exact qZ hz R ho hg rfl rfl
   | raise x =>
    cases stack with
    | nil=>exact qZ hz R ho hg rfl rfl
    | cons=>cases hodd
   | pure f =>
    cases f with
    | done f =>
     cases stack with
     | nil=>exact qZ hz R ho hg rfl rfl
     | cons=>cases hodd
    | again c=>cases hodd
   | yield v g l k =>
    cases g with
    | false=>cases hodd
    | true =>
     obtain ⟨a,hy⟩:∃ a,qx code=some a:=cG.mp hodd
     obtain ⟨r,kw,rfl⟩:∃ r kw,code=.builtin "proto.yield_from" ⟨.ref a :: r,kw⟩:=Ag hy
     exact xa hz R ho ih
   | _=>cases hodd
theorem sim {p:bF}{w:World}(n:Nat)(s:ae)(t:eR)(o:jp)(s':ae)(h:runN (Mq p w).den p w n (sM s) (tM t)=.halted o s')(ho:o.ends=true)(hz:s.asleep)
  (hc:∀ k aan aaq,runN (Mq p w).den p w k (sM s) (tM t)=.running aan aaq->aaq.calm=true) (hg:∀ g∈s'.gens,jx s'.heap g):yf p w o s' s t:=simN ho hg n n (aQ n) s t ⟨h,hc⟩ hz
def sD (s:ae):Prop:=AllBare s.gens/\∀ g∈s.gens,jx s.heap g
theorem nJ (h:Heap)(g:bk):jx h g.forget↔jx h g:=by cases g<;>exact Iff.rfl
theorem oU {s:ae}(e:s'.forget=s.forget)(h:∀ g∈s.gens,jx s.heap g):∀ g∈s'.gens,jx s'.heap g:=by
 intro g hg
 have eh:s'.heap=s.heap:=(iK e).1
 have eg:s'.gens.map GenState.forget=s.gens.map GenState.forget:=(iK e).2.2.2.2
 have:g.forget∈s.gens.map GenState.forget:=by rw [<- eg];exact mz.mpr ⟨g,hg,rfl⟩
 refine bg (mz.mp this) λg' h1 h2=>?_
 rw [eh,<- nJ,<- h2,nJ]
 exact h g' h1
theorem vc {prog:bF}{w:World}{t:Sem aP}{s:ae}{R:ej->ae->Prop}(hreg:s.asleep)(hg:s.gens=#[])
  (h:wpAny (Mq prog w) callerA t (λfin s'=>∃ f,fin=.done f/\(R (.ok f) s'/\sD s')) (λe s'=>R (.error e) s'/\sD s') s) :
  ∃ n r s' s'',schedN (denote table) prog w n (.single s ⟨t,.builtin "claim.caller" {},default,[]⟩)=.halted (outcomeOf r) s''/\s''.heap=s'.heap/\s''.os=s'.os/\s''.drawn=s'.drawn/\s''.toks=s'.toks/\s''.heap.life=s.heap.life/\R r s':=by
 have h':=wp_of_wpAny_done (R:=λr s'=>(R r s'/\sD s')/\jl s'.gens=false) caller_in
  (aR h (λ_ _ ⟨f,e,a,b⟩=>⟨f,e,⟨a,b⟩,leftWithCleanup_false_of_bare b.1⟩) λ_ _ ⟨a,b⟩=>⟨⟨a,b⟩,leftWithCleanup_false_of_bare b.1⟩) default
 obtain ⟨n,r,aan,hn,hR,hG⟩:=(wp_iff_halts (M:=Mq prog w) (R:=λr s'=>R r s'/\sD s') ..).mp h'
 refine dJ (runNI_real _ _ _ hn (outcomeOf_ends r)) λaao hr hf hc=>?_
 have es:sM s=s:=by
  obtain ⟨hp,g,d,k,o⟩:=s
  subst hg;simp [sM]
 have et:tM ⟨t,.builtin "claim.caller" {},default,[]⟩=⟨t,.builtin "claim.caller" {},default,[]⟩:=congrArg (λc=>(⟨c,.builtin "claim.caller" {},default,[]⟩:eR)) (vO t)
 have hlife:aao.heap.life=s.heap.life:=runN_life _ _ _ hr
 obtain ⟨m,s'',g1,g2,g3,g4,g5⟩:=sim (p:=prog) (w:=w) n s ⟨t,.builtin "claim.caller" {},default,[]⟩ (outcomeOf r) aao (by rw [es,et];exact hr) (outcomeOf_ends r) hreg
  (by rw [es,et];exact hc) (oU hf hG.2)
 have eh:=(iK hf).1;have ed:=(iK hf).2.1;have ek:=(iK hf).2.2.1;have eo:=(iK hf).2.2.2.1
 exact ⟨m,r,aan,s'',g1,g2.trans eh,g5.trans eo,g3.trans ed,g4.trans ek,g2▸hlife,hR⟩
theorem vF {c:ClaimW}{tree:List Value->Sem aP}{w:World}{s:ae}{free:Addr->Prop}{gens:Prop}{kept:Heap->Prop}(hz:s.asleep)(hgens:s.gens=#[])
  (hspec:∀ args,c.pre args=true->WData.layableAll args=true ->
   ∀ ord:List gv->List gv,(∀ l,(ord l).Perm l) ->
   ∃ vs aan,layAllW c.records (classAt s.heap) w.params ord args s=some (vs,aan) /\
    wpAny (Mq c.prog w) callerA (tree vs) (λfin s'=>∃ f,fin=.done f/\(c.Ends s args vs aan (.ok f) s'/\s'.os=s.os/\sD s'/\kept s'.heap))
     (λe s'=>c.Ends s args vs aan (.error e) s'/\s'.os=s.os/\sD s'/\kept s'.heap) aan) :
  c.CallFrom (λvs=>⟨tree vs,.builtin "claim.caller" {},default,[]⟩) w free gens kept s:=by
 intro args hpre hlay ord hord
 refine cB (hspec args hpre hlay ord hord) λvs aan hlaid hcode=>?_
 have hal:=layAllW_rest _ _ _ hlaid
 obtain ⟨k,r,s'',s',hsched,eh,eo,_,_,hlife,hcase,hos,hkp⟩:=vc (prog:=c.prog) (w:=w) (t:=tree vs) (s:=aan)
  (R:=λr s'=>c.Ends s args vs aan r s'/\s'.os=s.os/\kept s'.heap)
  (Shared.asleep_of_life hal.2.2.2 hz) (hal.1.trans hgens)
  (aR hcode (λfin s'=>Exists.imp λf h=>⟨h.1,⟨h.2.1,h.2.2.1,h.2.2.2.2⟩,h.2.2.2.1⟩) λe s' h=>⟨⟨h.1,h.2.1,h.2.2.2⟩,h.2.2.1⟩)
 have hcase:=hcase.congr eh
 have hkp:kept s'.heap:=by rw [eh];exact hkp
 rw [<- eo] at hos
 have hlife:s'.heap.life=s.heap.life:=hlife.trans hal.2.2.2
 refine ⟨vs,aan,hlaid,k,_,s',hsched,?_,(λ_ i x hx=>by rw [hgens] at hx;trivial),hkp,by rw [hlife],Shared.rest_eq hos⟩
 exact Or.imp (Exists.imp λv h=>⟨congrArg outcomeOf h.1,h.2.1,h.2.2.1,h.2.2.2.1,λb o y _=>h.2.2.2.2.1 b o y,h.2.2.2.2.2⟩) (Exists.imp λe=>Exists.imp λob=>Exists.imp λcls h=>⟨congrArg outcomeOf h.1,h.2.1,h.2.2.1,h.2.2.2.1,h.2.2.2.2.1,λb o y _=>h.2.2.2.2.2 b o y⟩) hcase
abbrev Bd (q:bF)(loose:List Str)(XP:(Str->Option Value)->Heap->Prop)(YP:World->Heap->Prop)(r:RowW)(d:DefRec)(kwd:List (Str×Expr))(run:Value->List Value->Sem Value):Prop:=
 ∀ (w:World) (aam aan:ae) (mg mb:Str->Option Value),Ground q loose r.records XP w aam mg mb aan.heap->YP w aan.heap->∀ (a:Addr) (o:Obj) (pm cd doc dV kV:Value),aan.heap.get? a=some o ->
  o.data=.func { docDef d.name d.params d.body d.scope pm cd doc with defaults:=dV,kwdefaults:=kV }->aan.heap.CodeRec cd d.name->Dflts mg aan.heap d.params kwd dV kV->mg d.name=some (.ref a)->aan.gens=#[] ->
  ∀ (args:List WData) (vals:List Value) (as:List Addr),r.claim.pre args=true->WData.layableAll args=true->ReadsAllW r.records (classAt aam.heap) aan.heap vals args as->WellAll w.params aan.heap vals args->(∀ a∈as,(a == sysModules)=false) ->
   wpAny (Mq r.prog w) callerA (run (.ref a) vals) (λv s'=>GoodWG r.claim (classAt aam.heap) (ExcName.means aam.heap) args aan (.ok (.ret v)) s'/\sD s')
    (λe s'=>GoodWG r.claim (classAt aam.heap) (ExcName.means aam.heap) args aan (.error e) s'/\sD s') aan
theorem Cj {p:bF}{w:World}{n:Str}{s:ae}{Q:Option Value->ae->Prop}(hg:s.heap.Ns bM m)(hs:s.gens=#[])(h:Q (m n) s) :
  wpAny (Mq p w) A (nsGet mainNs n) Q E s:=by
 have hs0:s.gens.size=0:=by rw [hs];rfl
 have:=lift (p:=p) (w:=w) (A:=A) (m:=nsGet mainNs n) (Q:=λv s'=>v=m n/\s'=s) (E:=λ_ _=>False) (s:=s) (G:=#[]) (wpAny_nsGet hg ⟨hs0,rfl,rfl⟩)
 have e:wG s #[]=s:=by
  obtain ⟨hp,g,d,k,o⟩:=s
  simp only at hs;subst hs;rfl
 rw [e] at this
 refine aR this ?_ ?_
 ·rintro v s'' ⟨s',rfl,_,rfl,rfl⟩
  rw [e];exact h
 ·rintro _ s'' ⟨s',_,_,h⟩;exact h.elim
theorem CJ {r:OpenRow}{q:bF}{loose:List Str}{Xt:ae->Bool}{XP:(Str->Option Value)->Heap->Prop}{α:Type}{Yf:ae->α}{Ya:World->α}{YP:World->Heap->Prop}{d:DefRec}{kwd:List (Str×Expr)}{N:Nat}
  (left:LeftO r.prog q loose Xt Yf Ya N) (hY:∀ w s,Yf s=Ya w->YP w s.heap) (hYk:∀ w h h',YP w h->(Sb h h')->YP w h')
  (hX:∀ s,Xt s=true->XP (s.heap.nsMap bM) s.heap) (hXk:∀ mg h h',XP mg h->(Sb h h')->XP mg h')
  (hdef:defOf q r.name=some (d,kwd)) (hp:r.prog.theDef r.name=some (d.params,d.body,d.scope)) (hk:kwWritten? d.params.kwonlyargs d.params.kw_defaults=some kwd) (hRf:∀ s,Xt s=true->RecFacts r.records s.heap) (hwr:(!r.writes || r.records.isEmpty)=true)
  (k1:r.wellSaid=true) (ok:(chainsOk q && opensWell r.prog && (frees r.toRowW && r.within.isEmpty))=true) (hb:r.prog.bare) (hw:r.toRowW.promised)
  (call:Bd q loose XP YP r.toRowW d kwd λf vs=>PySem.call f vs):r.Holds:=by
 refine ⟨k1,hw,?_⟩
 obtain ⟨ok,k5⟩:=bP.mp ok
 have hch:=(bP.mp ok).1;have o1:=(bP.mp ok).2
 obtain ⟨k5,k6⟩:=bP.mp k5
 have hsame:=(frees_parts k5).1;have hu:=(frees_parts k5).2.1;have ha:=(frees_parts k5).2.2.1;have hap:=(frees_parts k5).2.2.2.1;have hm:=(frees_parts k5).2.2.2.2
 refine ⟨⟨hb,o1,by show r.toRowW.makers.map _=[];rw [hm];rfl⟩,hw.witness,λw=>⟨(left.behind hX hch w).1,λs' hs'=>?_⟩⟩
 obtain ⟨aam,hf,hg0,s,hT,hz,hgens,hg,G00,y⟩:=(left.behind (XP:=λmg h=>XP mg h/\RecFacts r.records h) (λs hs=>⟨hX s hs,hRf s hs⟩) hch w).2 s' hs'
 have G0:Ground q loose [] XP w s (s.heap.nsMap bM) (s.heap.nsMap gK) s.heap:=⟨G00.T,G00.B,G00.D,G00.TE,G00.TD,G00.W,G00.X.1,G00.cls,G00.has,G00.apart,G00.once,G00.K⟩
 have RF:=G00.X.2
 have hT':=hT
 refine ⟨aam,hf,hg0,s,hT,λn hn=>?_,RF.1,RF.2.1,?_⟩
 ·obtain rfl:n=r.name:=by split at hn<;>simp_all
  exact pinned_of_view hg G0 hdef hp hk
 have hgens:s.gens=#[]:=Array.eq_empty_of_size_eq_zero (beq_iff_eq.mp hgens)
 have G:Ground q loose r.records XP w s _ _ s.heap:=RF.ground G0
 refine vF (c:=r.toRowW.claim) hz hgens λargs hpre hlay ord hord=>?_
 obtain ⟨⟨vs,aan⟩,hlaid⟩:=cG.mp (layAllW_isSome (P:=w.params) (ord:=ord) G.has args r.toRowW.args s (pre_splitW hpre).1)
 have keeps:=layAllW_keeps _ _ _ hlaid
 have hal:=layAllW_rest _ _ _ hlaid
 refine dJ (reads_layAllW hord _ _ _ hlaid hlay aan.heap (λ_ _ e=>e)) λas hrd hin hold=>?_
 have L:Laid r.records w s aan args vs as:=⟨⟨ord,hord,hlaid⟩,hrd,hin,hold,keeps,hal.1.trans hgens,hal.2.2.1⟩
 have pi:=G.keeps hXk keeps
 refine el75 (pi.fn hdef) λa o pm cd doc dV kV h1 h2 h3 h4 h5=>?_
 have hcall:=call w s aan _ _ pi (hYk _ _ _ (hY w s y) keeps) a o pm cd doc dV kV h2 h3 h4 h5 (defOf_name hdef▸h1) L.gens args vs as hpre hlay L.reads L.well (L.low G.low)
 have hi:=ident_freeW hu ha hap
 have hwi:r.toRowW.claim.within=[]:=jH.mp k6
 refine ⟨vs,aan,hlaid,?_⟩
 refine ag (Cj pi.T.g L.gens ?_)
 rw [h1]
 refine ag (aR hcall (λv s' g=>aj ⟨_,rfl,?_⟩) λe s' g=>?_)
 ·obtain ⟨g,go⟩:=g
  have z:=g.laid (c:=r.toRowW.claim) hsame hwi hi L
  exact ⟨z.1,z.2.1,go,λq=>⟨namesKept_of hT' hg _ keeps g.2.1.old,noTable hwr q⟩⟩
 ·obtain ⟨g,go⟩:=g
  have z:=g.laid (c:=r.toRowW.claim) hsame hwi hi L
  exact ⟨z.1,z.2.1,go,λq=>⟨namesKept_of hT' hg _ keeps g.2.1.old,noTable hwr q⟩⟩
theorem headQ (call:Bd qv lo (λ_ _=>True) YP nU.row.toRowW oS [] λf vs=>PySem.call f vs):PySem.Challenge.rw_ba0023_04.Holds:=
 holds_law said λhs=>CJ (r:=nU.row) (q:=qv) (loose:=lo) (Xt:=Xt) (XP:=λ_ _=>True) (Yf:=λs=>s.heap) (Ya:=λw=>hF w.params) (YP:=YP) (d:=oS) (kwd:=[]) (N:=20000)
  Ej hY1 hYk1 (λ_ _=>trivial) (λ_ _ _ _ _=>trivial) Eo eU hk1 Ap hw1 hs ok1 EO prom call
def RT (M:Model)(A:aw)(c:Code)(t:Sem aP)(fs:List Frame)(s:ae)(Φ:End->ae->Prop):Prop:=
 ∀ Γ p,Γ.code=c->Γ.Woken A->∃ e s',Runs M Γ p t fs s e s'/\Φ e s'
section
variable {M:Model}{c:Code}{fs:List Frame}{s:ae}
theorem lU {t:Sem aP}{Ψ:End->ae->Prop}(h:RT M A c t fs s Φ)(k:∀ e s',Φ e s'->Ψ e s'):RT M A c t fs s Ψ:=λΓ p hc hΓ =>
 cB (h Γ p hc hΓ) λe s' a b=>⟨e,s',a,k _ _ b⟩
theorem gW {α:Type}{m:Sem α}{K:α->Sem aP}{H:Value->Sem aP}{gd lv}
  (h:wpAny M (A.over c fs) m (λa s'=>RT M A c (K a) fs s' Φ) (λx s'=>RT M A c (H x) fs s' Φ) s):RT M A c (m.wrap K H gd lv) fs s Φ:=by
 rintro Γ p rfl hΓ
 exact runs_wrap_of_wp K H gd lv m (h (Γ.over fs) p (hΓ.over fs)) (λa p' s' h'=>h' Γ p' rfl hΓ) (λx p' s' h'=>h' Γ p' rfl hΓ)
theorem rt_bind {α:Type}{m:Sem α}{K:α->Sem aP}
  (h:wpAny M (A.over c fs) m (λa s'=>RT M A c (K a) fs s' Φ) (λx s'=>RT M A c (.raise x) fs s' Φ) s):RT M A c (m >>= K) fs s Φ:=by
 rw [dz];exact gW h
theorem sY {p':Pos}{k:Unit->Sem aP}(h:RT M A c (k ()) fs s Φ):RT M A c (.at p' k) fs s Φ:=
 gW (m:=jQ p') (K:=k) (H:=.raise) (gd:=id) (lv:=id) (bl h)
theorem yY {l:List Value}{k:Unit->Sem aP}(h:RT M A c (k ()) fs s Φ):RT M A c (.point l k) fs s Φ:=
 gW (m:=point) (K:=k) (H:=.raise) (gd:=id) (lv:=λ_=>l) (wpAny_point h)
theorem rt_rule {tag:String}{k:Unit->Sem aP}(h:RT M A c (k ()) fs s Φ):RT M A c (.rule tag k) fs s Φ:=
 gW (m:=rule tag) (K:=k) (H:=.raise) (gd:=id) (lv:=id) (gH h)
theorem rz {c':Code}{h g l}{k:ej->Sem aP}(hc:∀ p,RT M A c' (M.den c') (.ret k h g l c p [] :: fs) s Φ):RT M A c (.call c' h g l k) fs s Φ:=by
 rintro Γ p rfl hΓ
 refine cB (hc p (Γ.goto c') p rfl (hΓ.goto c')) λe s' hr he=>?_
 exact ⟨e,s',runs_call_seg hr,he⟩
theorem rx {k h g l c₁ aal kp}(r:ej)(hk:RT M A c₁ (k r) fs s Φ):RT M A c (leafOf r) (.ret k h g l c₁ aal kp :: fs) s Φ:=by
 rintro Γ p rfl hΓ
 refine cB (hk (Γ.goto c₁) aal rfl (hΓ.goto c₁)) λe s' hr he=>?_
 exact ⟨e,s',Runs.pop r hr,he⟩
theorem ju {c':Code}(hq:c'.quiet=true)(hc:RT M A c' (M.den c') fs s Φ):RT M A c (.pure (.again c')) fs s Φ:=by
 rintro Γ p rfl hΓ
 refine cB (hc (Γ.goto c') p rfl (hΓ.goto c')) λe s' hr he=>?_
 exact ⟨e,s',Runs.head (c₁:=c') (λ_ _ x=>.again hq x) hr,he⟩
theorem u7 (r:ej)(h:Φ (.ret r) s):RT M A c (leafOf r) [] s Φ:=by
 rintro Γ p rfl _
 exact ⟨.ret r,s,Runs.leaf r,h⟩
theorem sX {v g l}{k:Resume->Sem aP}(hfs:ch fs=none)(h:∀ p,Φ (.susp v g l k c p fs) s):RT M A c (.yield v g l k) fs s Φ:=by
 rintro Γ p rfl _
 exact ⟨_,s,Runs.yield' fs hfs,h p⟩
theorem rt_code {c':Code}{h g l}{k:ej->Sem aP}(hc:wpAny M (A.over c fs) (.call c' h g l (λr=>.pure r)) (λr s'=>RT M A c (k r) fs s' Φ) (λ_ _=>False) s):RT M A c (.call c' h g l k) fs s Φ:=by
 have:=gW (c:=c) (Φ:=Φ) (m:=(.call c' h g l (λr=>.pure r):Sem ej)) (K:=k) (H:=.raise) (gd:=id) (lv:=id) (aR hc (λ_ _ x=>x) λ_ _ x=>x.elim)
 exact this
def wQ (M:Model)(A:aw)(gs:bk)(r:Resume)(s:ae)(Φ:End->ae->Prop):Prop:=match gs with
 | .fresh c=>r=.send .none/\RT M A c (M.den c) [] s Φ
 | .suspended k _ c _ fs _=>RT M A c (k r) fs s Φ
 | _=>False
theorem qs {g:Nat}{r:Resume}{l:List Value}{α:Type}{k:GenResult->Sem α}{Q:α->ae->Prop}(hg:s.gens[g]? = some gs)
  (hgo:wQ M A gs r (s.setGen g .running) Φ) (hΦ:∀ e aan,Φ e aan->e.quiet=true/\wpAny M A (k e.result) Q E (aan.setGen g e.genState)):wpAny M A (.resume g r l k) Q E s:=by
 intro Γ p hΓ
 rw [Sem.wp_resume]
 have hB:∀ c,(Γ.wake c p).Woken A:=λc=>hΓ.wake c p
 cases gs with
 | fresh c =>
  obtain ⟨rfl,hs⟩:=hgo
  refine cB (hs (Γ.wake c p) p rfl (hB c)) λaab aan hr he=>?_
  exact ⟨_,_,by unfold Wakes;rw [hg];exact ⟨aab,aan,hr,(hΦ aab aan he).1,rfl,rfl⟩,(hΦ aab aan he).2 Γ p hΓ⟩
 | suspended aai aaj aaa aak aac cl =>
  refine cB (hgo (Γ.wake aaa p) aak rfl (hB aaa)) λaab aan hr he=>?_
  exact ⟨_,_,by unfold Wakes;rw [hg];exact ⟨aab,aan,hr,(hΦ aab aan he).1,rfl,rfl⟩,(hΦ aab aan he).2 Γ p hΓ⟩
 | running=>exact hgo.elim
 | finished=>exact hgo.elim
end
section
variable {M:Model}{c:Code}{fs:List Frame}{s:ae} {env:Env}{K:Flow->Sem aP}{H:Value->Sem aP}{gd:Bool->Bool}{lv:List Value->List Value}
abbrev wO (M:Model)(A:aw)(c:Code)(b:List Stmt)(env:Env)(K:Flow->Sem aP)(H:Value->Sem aP)(gd:Bool->Bool)(lv:List Value->List Value)(fs:List Frame)(s:ae)(Φ:End->ae->Prop):Prop:=
 RT M A c ((execs b env).wrap K H gd lv) fs s Φ
theorem wc (h:RT M A c (K .next) fs s Φ):wO M A c [] env K H gd lv fs s Φ:=h
theorem gV {st:Stmt}{rest:List Stmt}(h:RT M A c ((exec st env).wrap (λf=>match f with | .next=>(execs rest env).wrap K H gd lv | f=>K f) H gd lv) fs s Φ):wO M A c (st :: rest) env K H gd lv fs s Φ:=by
 unfold wO;rw [execs_cons_wrap];exact h
theorem f8 {st:Stmt}{rest:List Stmt}(h:wpAny M (A.over c fs) (exec st env) (λf s'=>match f with | .next=>wO M A c rest env K H gd lv fs s' Φ | f=>RT M A c (K f) fs s' Φ) (λx s'=>RT M A c (H x) fs s' Φ) s) :
  wO M A c (st :: rest) env K H gd lv fs s Φ:=by
 refine gV (gW (aR h (λf s' h'=>?_) λ_ _ x=>x))
 cases f<;>exact h'
theorem yX {t:Expr}{b o:List Stmt}{K':Flow->Sem aP}(h:wpAny M (A.over c fs) (isTrue t env (eval t env)) (λq s'=>if q=true then wO M A c b env K' H gd lv fs s' Φ else wO M A c o env K' H gd lv fs s' Φ) (λx s'=>RT M A c (H x) fs s' Φ) s) :
  RT M A c ((exec (.If t b o pos) env).wrap K' H gd lv) fs s Φ:=by
 show RT M A c (.at pos λ_=>((isTrue t env (eval t env)) >>= λq=>if q then execs b env else execs o env).wrap K' H gd lv) fs s Φ
 refine sY ?_
 rw [dz,fE]
 refine gW (aR h (λq s' h'=>?_) λ_ _ x=>x)
 cases q with
 | true=>rw [if_pos rfl] at h';exact h'
 | false=>rw [if_neg dD] at h';exact h'
theorem xc {e:Expr}{ypos:Pos}{K':Flow->Sem aP}(hfs:ch fs=none)
  (h:wpAny M (A.over c fs) (eval e env) (λv s'=>∀ p k,(∀ M' A' s'' Ψ,RT M' A' c (K' .next) fs s'' Ψ->RT M' A' c (k (.send .none)) fs s'' Ψ)->Φ (.susp v (gd false) (lv []) k c p fs) s')
   (λx s'=>RT M A c (H x) fs s' Φ) s) (hco:env.scope.isCoroutine=false) (hi:kU env=false) :
  RT M A c ((exec (.Expr (.Yield (some e) ypos) pos) env).wrap K' H gd lv) fs s Φ:=by
 rw [exec_Expr env _ pos hi rfl]
 show RT M A c (.at pos λ_=>((eval e env >>= λv=>(jQ ypos >>= λ_=>yieldOut env v)) >>= λx =>
  dropValue (.Yield (some e) ypos) pos x).wrap K' H gd lv) fs s Φ
 have hy:∀ v,yieldOut env v=yieldValue v:=λv=>by simp only [yieldOut,hco,bX,if_false]
 simp only [hy]
 refine sY ?_
 rw [dz,dz,fE,fE]
 refine gW (aR h (λv s' h'=>?_) λ_ _ x=>x)
 refine sY (sX hfs λp=>h' p _ λM' A' s'' Ψ hk=>?_)
 exact hk
end
def iM (h:Heap)(a:Addr)(g:Nat):Prop:=
 ∃ o nm qn,h.get? a=some o/\o.cls=.type "generator"/\o.data=.fields #[.int g 0,nm,qn]/\(o.slots=#[]\/o.slots=#[some (.int 0 0)])
theorem iM.keeps {a g}(x:iM h a g)(hk:Sb h h'):iM h' a g:=kW x λo nm qn ho r=>⟨o,nm,qn,hk _ _ ho,r⟩
theorem iM.typeIs {s:ae}{a g}(x:iM s.heap a g):s.TypeIs (.ref a) "generator":=qb x λo _ _ ho hc _=>⟨o,ho,hc⟩
section
variable {M:Model}{s:ae}
theorem ue {a:Addr}{g:Nat}{Q:Nat->ae->Prop}(hg:iM s.heap a g)(h:Q g s):wpAny M A (Builtin.Generator.genNumber (.ref a)) Q E s:=by
 refine qa hg λo nm qn ho _ hd hsl=>?_
 unfold Builtin.Generator.genNumber
 refine ag (ij ho ?_)
 rcases hsl with hsl | hsl
 ·rw [hsl,hd]
  show wpAny M A (pure ((g:Int).toNat)) Q E s
  rw [Int.toNat_natCast];exact aj h
 ·rw [hsl,hd]
  show wpAny M A (pure ((g:Int).toNat)) Q E s
  rw [Int.toNat_natCast];exact aj h
end
section
variable {p:bF}{w:World}{s:ae}
theorem qz {R:ej->ae->Prop}{id:String}{args:Args}{b:bH}(hq:plainId id=true)(hb:mX table id=some b)(hy:qx (.builtin id args)=none)
  (h:wpAny (Mq p w) A.in1 (iH id args) (λ_ aan=>wpAny (Mq p w) A.in1 (b args)
   (λfin s'=>match fin with | .done f=>R (.ok f) s' | .again c'=>c'.quiet=true/\bY (Mq p w) A c' R s') (λe s'=>R (.error e) s') aan)
   (λe s'=>R (.error e) s') s):bY (Mq p w) A (.call (.builtin id) args) R s:=by
 refine bc ?_
 show wpAny _ A.in1 (do iH id args;again (.builtin id args)) _ _ s
 refine ag (aR h (λ_ aan aa=>aj (jJ (plainId_quiet hq args) (bc ?_))) λ_ _ h'=>h')
 rw [Bl,cM,hy]
 show wpAny _ _ (match mX table id with | some b=>b args | none=>unsupported ((withoutEnding? id "#data").getD id)) _ _ aan
 rw [hb,Around.under_plainId hq args];exact aa
theorem oQ {T:String}{name:Str}{id:String}{b:bH}{rest:List Value}(h:Slot T name id)(hT:s.TypeIs self T)
  (hb:mX table id=some b) (hy:qx (.builtin id ⟨self :: rest,[]⟩)=none)
  (hc:wpAny (Mq p w) A.in1 (b ⟨self :: rest,[]⟩) (λfin s'=>∃ v,fin=.done (.ret v)/\Q v s') E s)
  (ha:argsOk id ⟨self :: rest,[]⟩:=by rfl):wpAny (Mq p w) A (call (.builtin id) (self :: rest)) Q E s:=by
 refine bw (qz h.plain hb hy (h.check _ _ _ _ _ _ _ _ hT ha (aR hc (λfin s' h'=>?_) λ_ _ h'=>h')))
 obtain ⟨v,rfl,hv⟩:=h';exact hv
def nj (Q:Value->ae->Prop)(N:Heap->ae->Prop)(g:Nat)(e:End)(aan:ae):Prop:=match e with
 | .susp v gd l k c ps fs=>gd=false/\fs.any cF=false/\Q v (aan.setGen g (.suspended k l c ps fs false))
 | .ret (.ok (.ret .none))=>∀ h',(Sb aan.heap h')->N h' { aan.setGen g .finished with heap:=h' }
 | _=>False
theorem nx_yt (a:Value):qx (.builtin "generator.__next__" ⟨[a],[]⟩)=none:=by lk
theorem it_yt (a:Value):qx (.builtin "generator.__iter__" ⟨[a],[]⟩)=none:=by lk
theorem Ac {a:Addr}{g:Nat}(hg:iM s.heap a g)(h:Q (.ref a) s):wpAny (Mq p w) A (pyIter (.ref a)) Q E s:=by
 refine wpAny_pyIter_slot hg.typeIs slot_gen_iter (oQ slot_gen_iter hg.typeIs entry_gen_iter (it_yt _) ?_ (args_gen_iter _))
 exact aj ⟨_,rfl,"generator",_,hg.typeIs,slot_gen_next.lookup,h⟩
theorem zD {a:Addr}{g:Nat}(hh:A.handled=none)(hl:s.heap.NoLimit)(hroom:A.depth < aA)(hg:iM s.heap a g)(hgs:s.gens[g]? = some gs)
  (hgo:wQ (Mq p w) A.in1 gs (.send .none) (s.setGen g .running) (nj Q (λh' s'=>∀ e vs,h'.get? e=some ⟨.type "StopIteration",ac,.fields vs,#[]⟩->vs[5]? = some .none->E (.ref e) s') g)) :
  wpAny (Mq p w) A (callSpecial? (.ref a) "__next__") (λv s'=>∃ u,v=some u/\Q u s') E s:=by
 refine wpAny_callSpecial?_slot (name:=Str.ofString "__next__") hg.typeIs slot_gen_next (oQ slot_gen_next hg.typeIs entry_gen_next (nx_yt _) ?_ (args_gen_next _))
 show wpAny _ _ (Builtin.Generator.genWake (.ref a) (.send .none)) _ _ s
 unfold Builtin.Generator.genWake
 refine ag (aX (ue hg (ag (wpAny_genState hgs ?_))))
 cases gs with
 | running=>exact hgo.elim
 | finished=>exact hgo.elim
 | _ =>
  refine ag (wpAny_roomToWake hl hroom ?_)
  refine qs hgs hgo λe aan he=>?_
  cases e with
  | susp v gd l k c ps fs =>
   refine C2 he λy11 hf hQ=>?_;subst y11
   refine ⟨by simp [End.quiet,hf],?_⟩
   rw [show (End.susp v false l k c ps fs).genState=.suspended k l c ps fs false from congrArg (GenState.suspended k l c ps fs) hf]
   exact aj ⟨v,rfl,v,rfl,hQ⟩
  | ret r =>
   refine ⟨rfl,?_⟩
   cases r with
   | error x=>exact he.elim
   | ok f =>
    cases f with
    | ret v =>
     cases v with
     | none =>
      show wpAny _ _ (newExc (.type "StopIteration") [] >>= _) _ _ _
      refine ag ?_
      refine ag (g9 ?_ (by exact dB _))
      refine ag (m:=firstArgMember _ _) (gC (a:=gL) (by first | rfl | (simp only [firstArgMember];rfl)) ?_)
      refine g9 ?_ (by size_fits)
      unfold raiseNew
      refine ag (ag (wpAny_handled ?_))
      rw [show A.in1.handled=none from hh]
      refine wpAny_throw ?_
      exact he _ (λb o hb=>ak _ (ak _ hb)) _ _ (ar _ rfl) rfl
     | _=>exact he.elim
    | _=>exact he.elim
theorem s5 {a:Addr}{g:Nat}{Q:Option Value->ae->Prop}(hh:A.handled=none)(hl:s.heap.NoLimit)(hroom:A.depth < aA)(hg:iM s.heap a g)(hgs:s.gens[g]? = some gs)
  (hgo:wQ (Mq p w) A.in1 gs (.send .none) (s.setGen g .running) (nj (λv=>Q (some v)) (λ_ s'=>Q none s') g)) :
  wpAny (Mq p w) A (pyNext (.ref a)) Q E s:=by
 unfold pyNext
 refine ag (wpAny_attempt ?_)
 have hgo':wQ (Mq p w) A.in1 gs (.send .none) (s.setGen g .running) (nj (λv s'=>Q (some v) s') (λh' s'=>∀ e vs,h'.get? e=some ⟨.type "StopIteration",ac,.fields vs,#[]⟩->vs[5]? = some .none ->
   (s'.heap=h'/\Q none s')) g):=by
  have mono:∀ e aan,nj (λv=>Q (some v)) (λ_ s'=>Q none s') g e aan->nj (λv s'=>Q (some v) s') (λh' s'=>∀ e vs,h'.get? e=some ⟨.type "StopIteration",ac,.fields vs,#[]⟩->vs[5]? = some .none->(s'.heap=h'/\Q none s')) g e aan:=by
   intro e aan he
   cases e with
   | susp v gd l k c ps fs=>exact he
   | ret r =>
    cases r with
    | error x=>exact he.elim
    | ok f =>
     cases f with
     | ret v =>
      cases v with
      | none=>exact λh' hk e vs _ _=>⟨rfl,he h' hk⟩
      | _=>exact he.elim
     | _=>exact he.elim
  cases gs with
  | running=>exact hgo.elim
  | finished=>exact hgo.elim
  | fresh c=>exact ⟨hgo.1,lU hgo.2 mono⟩
  | suspended=>exact lU hgo mono
 refine aR (zD (Q:=λv s'=>Q (some v) s') (E:=λe s'=>wpAny (Mq p w) A (match (Except.error e:Except Value (Option Value)) with
  | .ok (some v)=>pure (some v)
  | .ok none=>unsupported "iter:the-iterator's-class-has-lost-its-__next__-amid-the-walk"
  | .error e=>do if <- fY e (.type "StopIteration") then pure none else throw e) Q E s') hh hl hroom hg hgs ?_) ?_ λ_ _ x=>x
 ·have mono:∀ e aan,nj (λv s'=>Q (some v) s') (λh' s'=>∀ e vs,h'.get? e=some ⟨.type "StopIteration",ac,.fields vs,#[]⟩->vs[5]? = some .none->(s'.heap=h'/\Q none s')) g e aan ->
    nj (λv s'=>Q (some v) s') (λh' s'=>∀ e vs,h'.get? e=some ⟨.type "StopIteration",ac,.fields vs,#[]⟩->vs[5]? = some .none->wpAny (Mq p w) A (match (Except.error (.ref e):Except Value (Option Value)) with
  | .ok (some v)=>pure (some v)
  | .ok none=>unsupported "iter:the-iterator's-class-has-lost-its-__next__-amid-the-walk"
  | .error e=>do if <- fY e (.type "StopIteration") then pure none else throw e) Q E s') g e aan:=by
   intro e aan he
   cases e with
   | susp v gd l k c ps fs=>exact he
   | ret r =>
    cases r with
    | error x=>exact he.elim
    | ok f =>
     cases f with
     | ret v =>
      cases v with
      | none =>
       intro h' hk e vs h1 h2
       have hq:=(he h' hk e vs h1 h2).2
       refine ag (wpAny_isInstance (T:="StopIteration") (b:=true) ⟨_,h1,rfl⟩ isSubtype_stop ?_)
       exact aj hq
      | _=>exact he.elim
     | _=>exact he.elim
  cases gs with
  | running=>exact hgo'.elim
  | finished=>exact hgo'.elim
  | fresh c=>exact ⟨hgo'.1,lU hgo'.2 mono⟩
  | suspended=>exact lU hgo' mono
 ·rintro v s' ⟨u,rfl,hq⟩
  exact aj hq
end
section
variable {M:Model}{c:Code}{fs:List Frame}{s:ae} {env:Env}{H:Value->Sem aP}{gd:Bool->Bool}{lv:List Value->List Value}
theorem dm {α β:Type}{m:Sem α}{f:α->Sem β}{K:β->Sem aP}(h:wpAny M (A.over c fs) m (λa s'=>RT M A c ((f a).wrap K H gd lv) fs s' Φ) (λx s'=>RT M A c (H x) fs s' Φ) s) :
  RT M A c ((m >>= f).wrap K H gd lv) fs s Φ:=by
 rw [dz,fE]
 exact gW (aR h (λ_ _ x=>x) λ_ _ x=>x)
def Bn (c:Code)(K:Flow->Sem aP)(fs:List Frame)(F:Frame):Prop:=
 (∃ k l p,F=.ret k ac false l c p [])/\∀ (M:Model) (A:aw) (c':Code) (fl:Flow) (s:ae) (Φ:End->ae->Prop),RT M A c (K fl) fs s Φ->RT M A c' (leafOf (.ok fl)) (F :: fs) s Φ
theorem yZ {K:Flow->Sem aP}{t:Expr}{b:List Stmt}(hg:gd false=false)(h:∀ F,Bn c K fs F->RT M A (.whileLoop t b [] env) (M.den (.whileLoop t b [] env)) (F :: fs) s Φ) :
  RT M A c ((exec (.While t b [] pos) env).wrap K H gd lv) fs s Φ:=by
 refine sY (rz λp=>?_)
 refine h _ ⟨⟨_,_,p,by rw [hg]⟩,λM A c' fl s Φ hk=>?_⟩
 exact rx (.ok fl) hk
theorem y0 {K:Flow->Sem aP}{tg it:Expr}{b:List Stmt}(hg:gd false=false)(hs:∀ x,ei it env x=pure x)
  (h:wpAny M (A.over c fs) (eval it env) (λx s1=>wpAny M (A.over c fs) (pyIter x) (λi s2=>∀ F,Bn c K fs F->RT M A (.forLoop tg i b [] env) (M.den (.forLoop tg i b [] env)) (F :: fs) s2 Φ) (λ_ _=>False) s1) (λ_ _=>False) s) :
  RT M A c ((exec (.For tg it b [] pos) env).wrap K H gd lv) fs s Φ:=by
 rw [exec_For]
 refine dm (bl ?_)
 refine dm (aR h (λx s1 h1=>?_) λ_ _ x=>x.elim)
 rw [hs x]
 refine dm (aj (dm (bl (dm (aX (aR h1 (λi s2 h2=>?_) λ_ _ x=>x.elim))))))
 refine rz λp=>?_
 refine h2 _ ⟨⟨_,_,p,by rw [hg]⟩,λM A c' fl s Φ hk=>?_⟩
 exact rx (.ok fl) hk
end
section
variable {p:bF}{w:World}{fs:List Frame}{s:ae} {env:Env}
noncomputable def KW (c:Code):Flow->Sem aP
 | .next | .cont=>.pure (.again c)
 | .brk=>.pure (.done .next)
 | .ret v=>.pure (.done (.ret v))
noncomputable def HW (env:Env)(e:Value):Sem aP:=(do dq e env;ca e:Sem Unit).wrap (λ_=>.raise e) .raise id id
theorem ru {t:Expr}{b:List Stmt}(h:wpAny (Mq p w) (A.over (.whileLoop t b [] env) fs) (isTrue t env (eval t env)) (λq s'=>if q=true then wO (Mq p w) A (.whileLoop t b [] env) b env (KW (.whileLoop t b [] env)) (HW env) id id fs s' Φ
   else RT (Mq p w) A (.whileLoop t b [] env) (leafOf (.ok .next)) fs s' Φ) (λ_ _=>False) s) :
  RT (Mq p w) A (.whileLoop t b [] env) ((Mq p w).den (.whileLoop t b [] env)) fs s Φ:=by
 show RT _ A _ ((whileTurn t b [] env).onRaise (λx=>do dq x env;ca x)) fs s Φ
 unfold whileTurn
 rw [Sem.onRaise_eq_wrap]
 refine dm (aR h (λq s' hq=>?_) λ_ _ x=>x.elim)
 cases q with
 | true =>
  rw [if_pos rfl] at hq ⊢
  rw [dz,fE]
  rw [Sem.wrap_congr (execs b env) _ _ (K':=KW (.whileLoop t b [] env)) (H':=HW env)
    (λf=>by cases f<;>rfl)
    (λe=>by first | exact kJ _ _ | (show (do dq e env;ca e:Sem Unit).bind (λ_=>.raise e)=_;rw [kJ];rfl))]
  exact hq
 | false =>
  rw [if_neg dD] at hq ⊢
  exact hq
theorem mN {tg:Expr}{i:Value}{b:List Stmt}(h:wpAny (Mq p w) (A.over (.forLoop tg i b [] env) fs) (pyNext i) (λr s1=>match r with
   | ac=>RT (Mq p w) A (.block [] env) (leafOf (.ok .next)) fs s1 Φ
   | some v=>wpAny (Mq p w) (A.over (.forLoop tg i b [] env) fs) (eJ tg i v) (λ_ s2=>wpAny (Mq p w) (A.over (.forLoop tg i b [] env) fs) (fy tg env v) (λ_ s3 =>
     wO (Mq p w) A (.forLoop tg i b [] env) b env (KW (.forLoop tg i b [] env)) (HW env) id id fs s3 Φ) (λ_ _=>False) s2) (λ_ _=>False) s1) (λ_ _=>False) s) :
  RT (Mq p w) A (.forLoop tg i b [] env) ((Mq p w).den (.forLoop tg i b [] env)) fs s Φ:=by
 show RT _ A _ ((kN tg i b [] env).onRaise (λx=>do dq x env;ca x)) fs s Φ
 unfold kN
 rw [Sem.onRaise_eq_wrap]
 refine dm (bl (dm (bS (aR h (λr s1 h1=>?_) λ_ _ x=>x.elim))))
 cases r with
 | none =>
  refine ju rfl ?_
  show RT _ A (.block [] env) _ fs s1 Φ
  exact h1
 | some v =>
  refine dm (aR h1 (λ_ s2 h2=>?_) λ_ _ x=>x.elim)
  refine dm (aR h2 (λ_ s3 h3=>?_) λ_ _ x=>x.elim)
  rw [dz,fE]
  rw [Sem.wrap_congr (execs b env) _ _ (K':=KW (.forLoop tg i b [] env)) (H':=HW env)
    (λf=>by cases f<;>rfl)
    (λe=>by first | exact kJ _ _ | (show (do dq e env;ca e:Sem Unit).bind (λ_=>.raise e)=_;rw [kJ];rfl))]
  exact h3
noncomputable def KF:Flow->Sem aP:=λf=>.pure (.done (.ret (match f with | .ret v=>v | _=>.none)))
noncomputable def HF (env:Env)(e:Value):Sem aP:=(nW env e).wrap (λ_=>.raise e) .raise id id
theorem ry {b:List Stmt}(h:wO (Mq p w) A (.func b env) b env KF (HF env) id id fs s Φ):RT (Mq p w) A (.func b env) ((Mq p w).den (.func b env)) fs s Φ:=by
 show RT _ A (.func b env) (.point [] λ_=>((execs b env).onRaise (nW env)) >>= _) fs s Φ
 refine yY ?_
 rw [Sem.onRaise_eq_wrap,dz,fE]
 rw [Sem.wrap_congr (execs b env) _ _ (K':=KF) (H':=HF env) (λf=>by cases f<;>rfl)
  (λe=>by rw [kJ,fE];rfl)]
 exact h
end
section
variable {M:Model}{c:Code}{fs:List Frame}{s:ae}
theorem BW {α:Type}(a:Addr)(K:α->Sem aP)(H:Value->Sem aP)(gd lv)(m:Sem α) :
  ∀ {Q:α->Pos->ae->Prop}{E:Value->Pos->ae->Prop}{p:Pos}{s:ae},wp M (Γ.over fs) m Q E p s ->
   (∀ x p' s',Q x p' s'->∃ e s'',Runs M Γ p' (ug (some a) (K x)) fs s' e s''/\Φ e s'') ->
   (∀ x p' s',E x p' s'->∃ e s'',Runs M Γ p' (ug (some a) (H x)) fs s' e s''/\Φ e s'') ->
   ∃ e s'',Runs M Γ p (ug (some a) (m.wrap K H gd lv)) fs s e s''/\Φ e s'':=by
 induction m with
 | pure a=>intro Q E p s h hQ _;exact hQ a p s h
 | raise x=>intro Q E p s h _ hE;exact hE x p s h
 | unsupported what=>intro Q E p s h;exact h.elim
 | finish x=>intro Q E p s h;exact h.elim
 | register a k=>intro Q E p s h;exact h.elim
 | yield v g l k=>intro Q E p s h;exact h.elim
 | fork c k=>intro Q E p s h;exact h.elim
 | await a f d l k=>intro Q E p s h;exact h.elim
 | rule tag k ih=>intro Q E p s h hQ hE;refine cB (ih () h hQ hE) λe s'' hr hΦ=>?_;exact ⟨e,s'',dP (λ_ _ x=>.rule x) hr,hΦ⟩
 | «at» p' k ih=>intro Q E p s h hQ hE;refine cB (ih () h hQ hE) λe s'' hr hΦ=>?_;exact ⟨e,s'',dP (λ_ _ x=>.at x) hr,hΦ⟩
 | load a part k ih =>
  intro Q E p s h hQ hE;refine bg h λo ho h=>?_
  refine cB (ih o h hQ hE) λe s'' hr hΦ=>?_;exact ⟨e,s'',dP (λ_ _ x=>.load ho x) hr,hΦ⟩
 | update a part f k ih =>
  intro Q E p s h hQ hE;have ha:=h.1;have h:=h.2
  refine cB (ih () h hQ hE) λe s'' hr hΦ=>?_;exact ⟨e,s'',dP (λ_ _ x=>.update ha x) hr,hΦ⟩
 | alloc o k ih=>intro Q E p s h hQ hE;refine cB (ih _ h hQ hE) λe s'' hr hΦ=>?_;exact ⟨e,s'',dP (λ_ _ x=>.alloc x) hr,hΦ⟩
 | loadIfAlive a k ih=>intro Q E p s h hQ hE;refine cB (ih _ h hQ hE) λe s'' hr hΦ=>?_;exact ⟨e,s'',dP (λ_ _ x=>.loadIfAlive x) hr,hΦ⟩
 | point l k ih=>intro Q E p s h hQ hE;refine cB (ih () h hQ hE) λe s'' hr hΦ=>?_;exact ⟨e,s'',dP (λ_ _ x=>.point x) hr,hΦ⟩
 | fresh k ih=>intro Q E p s h hQ hE;refine cB (ih _ h hQ hE) λe s'' hr hΦ=>?_;exact ⟨e,s'',dP (λ_ _ x=>.fresh x) hr,hΦ⟩
 | ask k ih=>intro Q E p s h hQ hE;refine cB (ih _ h hQ hE) λe s'' hr hΦ=>?_;exact ⟨e,s'',dP (λ_ _ x=>.ask x) hr,hΦ⟩
 | choose src n k ih =>
  intro Q E p s h hQ hE;have hn:=h.1;have h:=h.2
  refine cB (ih _ h hQ hE) λe s'' hr hΦ=>?_;exact ⟨e,s'',dP (λ_ _ x=>.choose hn x) hr,hΦ⟩
 | os q l k ih=>intro Q E p s h hQ hE;refine cB (ih _ h hQ hE) λe s'' hr hΦ=>?_;exact ⟨e,s'',dP (λ_ _ x=>.os x) hr,hΦ⟩
 | call c h g l k ih =>
  intro Q E p s hw hQ hE;refine cB hw λr aan hret hw=>?_
  refine cB (ih r hw hQ hE) λe s'' hr hΦ=>?_;exact ⟨e,s'',dP (λ_ _ x=>.call hret x) hr,hΦ⟩
 | handled own k ih=>intro Q E p s h hQ hE;refine cB (ih _ h hQ hE) λe s'' hr hΦ=>?_;exact ⟨e,s'',dP (λ_ _ x=>.handled x) hr,hΦ⟩
 | newGen c k ih=>intro Q E p s h hQ hE;refine cB (ih _ h hQ hE) λe s'' hr hΦ=>?_;exact ⟨e,s'',dP (λ_ _ x=>.newGen x) hr,hΦ⟩
 | genState g k ih =>
  intro Q E p s h hQ hE;refine bg h λst hg h=>?_
  refine cB (ih _ h hQ hE) λe s'' hr hΦ=>?_;exact ⟨e,s'',dP (λ_ _ x=>.genState hg x) hr,hΦ⟩
 | resume g r l k ih =>
  intro Q E p s h hQ hE;refine cB h λFD aan hwk h=>?_
  refine cB (ih FD h hQ hE) λe s'' hr hΦ=>?_
  exact ⟨e,s'',dP (λ_ _ x=>(Sem.runs_resume_iff M _).mpr ⟨FD,aan,hwk,x⟩) hr,hΦ⟩
 | stack k ih=>intro Q E p s h hQ hE;refine cB (ih _ h hQ hE) λe s'' hr hΦ=>?_;exact ⟨e,s'',dP (λ_ _ x=>.stack x) hr,hΦ⟩
 | thread k ih=>intro Q E p s h hQ hE;refine cB (ih _ h hQ hE) λe s'' hr hΦ=>?_;exact ⟨e,s'',dP (λ_ _ x=>.thread x) hr,hΦ⟩
theorem gy {α:Type}{a:Addr}{m:Sem α}{K:α->Sem aP}(h:wpAny M (A.over c fs) m (λx s'=>RT M A c (ug (some a) (K x)) fs s' Φ) (λx s'=>RT M A c (.raise x) fs s' Φ) s):RT M A c (ug (some a) (m >>= K)) fs s Φ:=by
 rintro Γ p rfl hΓ
 rw [dz]
 exact BW a K .raise id id m (h (Γ.over fs) p (hΓ.over fs)) (λx p' s' h'=>h' Γ p' rfl hΓ) (λx p' s' h'=>h' Γ p' rfl hΓ)
end
noncomputable abbrev iY (a:Addr):Code:=.builtin "proto.yield_from" ⟨[.ref a,.bool false,.none],[]⟩
theorem Ah (a:Addr):qx (iY a)=some a:=by lk
theorem yi:mX table "proto.yield_from" = some Builtin.«proto.yield_from»:=entryFor_of_tree (by lk)
theorem xA:mL (.type "generator") "close" = pure (some (.builtin "generator.close")):=by rw [typeLookup_type,builtinLookup_eq_fast];lk
theorem ur {p:bF}{w:World}{id:String}{args:Args}{b:bH}(hb:mX table id=some b):(model p w).den (.builtin id args)=b args:=by
 show (match mX table id with | some b=>b args | none=>unsupported ((withoutEnding? id "#data").getD id))=_
 rw [hb]
theorem GS (p:bF)(w:World)(a:Addr):(Mq p w).den (iY a)=ug (some a) (Builtin.«proto.yield_from» ⟨[.ref a,.bool false,.none],[]⟩):=by
 rw [Bl,cM,Ah,ur yi]
 rfl
def m9 (h:Heap)(a:Addr)(g:Nat):Prop:=∃ o nm qn,h.get? a=some o/\o.cls=.type "generator"/\o.data=.fields #[.int g 0,nm,qn]/\o.slots=#[some (.int 1 0)]
theorem iM.num {a:Addr}{g:Nat}(x:iM h a g):∃ o,h.get? a=some o/\o.genNumber?.isSome=true:=by
 obtain ⟨o,nm,qn,ho,hc,hd,_⟩:=x
 exact ⟨o,ho,by unfold Obj.genNumber?;rw [hc,hd];rfl⟩
theorem m9.num {a:Addr}{g:Nat}(x:m9 h a g):∃ o,h.get? a=some o/\o.genNumber?.isSome=true:=by
 obtain ⟨o,nm,qn,ho,hc,hd,_⟩:=x
 exact ⟨o,ho,by unfold Obj.genNumber?;rw [hc,hd];rfl⟩
section
variable {M:Model}{s:ae}
theorem yM {a:Addr}{g:Nat}{Q:Unit->ae->Prop}(hg:iM s.heap a g)(h:∀ h',m9 h' a g->bU a s.heap h'->Q () { s with heap:=h' }) :
  wpAny M A (fA (.ref a) true) Q E s:=by
 obtain ⟨o,nm,qn,ho,hc,hd,hsl⟩:=hg
 unfold fA
 refine ag (ij ho ?_)
 rw [hc]
 refine wpAny_updatePart ho (h _ ⟨_,nm,qn,fL _ ho (Obj.isFreed_of_fields (by exact hd)),hc,hd,?_⟩ (mq ..))
 rcases hsl with e | e<;>rw [e]<;>rfl
theorem w9 {a:Addr}{g:Nat}{Q:Unit->ae->Prop}(hg:m9 s.heap a g)(h:∀ h',iM h' a g->bU a s.heap h'->Q () { s with heap:=h' }) :
  wpAny M A (fA (.ref a) false) Q E s:=by
 obtain ⟨o,nm,qn,ho,hc,hd,hsl⟩:=hg
 unfold fA
 refine ag (ij ho ?_)
 rw [hc]
 refine wpAny_updatePart ho (h _ ⟨_,nm,qn,fL _ ho (Obj.isFreed_of_fields (by exact hd)),hc,hd,.inr ?_⟩ (mq ..))
 rw [hsl];rfl
end
section
variable {p:bF}{w:World}{fs:List Frame}{s:ae}
theorem wQ.mono {M:Model}{r:Resume}{Ψ:End->ae->Prop}(h:wQ M A gs r s Φ)(k:∀ e s',Φ e s'->Ψ e s'):wQ M A gs r s Ψ:=by
 cases gs with
 | running=>exact h.elim
 | finished=>exact h.elim
 | fresh c=>exact ⟨h.1,lU h.2 k⟩
 | suspended=>exact lU h k
theorem nj.mono {Q':Value->ae->Prop}{N N':Heap->ae->Prop}{g:Nat}(q:∀ v s,Q v s->Q' v s)(n:∀ h' s,s.heap=h'->N h' s->N' h' s){e:End}{aan:ae}(h:nj Q N g e aan):nj Q' N' g e aan:=by
 cases e with
 | susp v gd l k c ps fs=>exact ⟨h.1,h.2.1,q _ _ h.2.2⟩
 | ret r =>
  cases r with
  | error x=>exact h.elim
  | ok f =>
   cases f with
   | ret v =>
    cases v with
    | none=>exact λh' hk=>n _ _ rfl (h h' hk)
    | _=>exact h.elim
   | _=>exact h.elim
theorem BY {M:Model}{c:Code}{a:Addr}{part:Option Value}{k:Obj->Sem aP}(ho:s.heap.get? a=some o)(h:RT M A c (k o) fs s Φ):RT M A c (.load a part k) fs s Φ:=
 gW (m:=loadPart a part) (K:=k) (H:=.raise) (gd:=id) (lv:=id) (wpAny_loadPart ho h)
theorem yf_go {a:Addr}{g:Nat}{K:Except Value Value->Sem aP}{X Y Z:Sem Value}(hh:(A.over (iY a) fs).handled=none)(hl:s.heap.NoLimit)(hroom:(A.over (iY a) fs).depth < aA)(hg:iM s.heap a g)(hgs:s.gens[g]? = some gs)
  (hgo:wQ (Mq p w) (A.over (iY a) fs).in1 gs (.send .none) (s.setGen g .running) (nj (λv s'=>RT (Mq p w) A (iY a) (ug (some a) (K (.ok v))) fs s' Φ)
   (λh' s'=>∀ e vs,h'.get? e=some ⟨.type "StopIteration",ac,.fields vs,#[]⟩->vs[5]? = some .none->RT (Mq p w) A (iY a) (ug (some a) (K (.error (.ref e)))) fs s' Φ) g)) :
  RT (Mq p w) A (iY a) (ug (some a) ((iF [gL] (if false=true then X else if (gL == gL)=true then do
    rule "yield-from.next"
    match <- callSpecial? (.ref a) "__next__" with
    | some v=>pure v
    | none=>Y
   else Z)).attempt >>= K)) fs s Φ:=by
 refine gy (wpAny_attempt (aX ?_))
 rw [if_neg dD,if_pos (by rfl)]
 refine ag (gH (ag (aR (zD (Q:=λv s'=>RT (Mq p w) A (iY a) (ug (some a) (K (.ok v))) fs s' Φ) (E:=λe s'=>RT (Mq p w) A (iY a) (ug (some a) (K (.error e))) fs s' Φ) hh hl hroom hg hgs hgo) ?_ λ_ _ x=>x)))
 rintro v s' ⟨u,rfl,hq⟩
 exact aj hq
theorem yF {M:Model}{e:Addr}{vs:Array Value}{Q:Bool->ae->Prop}(he:s.heap.get? e=some ⟨.type "StopIteration",ac,.fields vs,#[]⟩)(h:Q true s):wpAny M A (iL false (.ref e)) Q E s:=by
 unfold iL Builtin.Generator.isStopAndMetaclass
 refine ag (ag (wpAny_typeOf (T:="StopIteration") ⟨_,he,rfl⟩ ?_))
 refine ag (gC (a:=true) isSubtype_stop ?_)
 refine ag (gC (t:=gl (.type "StopIteration")) (a:=mY ((Manifest.find? "StopIteration").elim "type" λx=>x.metatype)) rfl ?_)
 refine aj ?_
 exact aj h
theorem DO {a:Addr}{g:Nat}(hh:(A.over (iY a) fs).handled=none)(hl:s.heap.NoLimit)(hroom:(A.over (iY a) fs).depth < aA)(hg:iM s.heap a g)(hgs:s.gens[g]? = some gs)(hfs:ch fs=none)
  (hgo:wQ (Mq p w) (A.over (iY a) fs).in1 gs (.send .none) (s.setGen g .running) (nj
   (λv s'=>iM s'.heap a g/\∀ h',m9 h' a g->bU a s'.heap h'->∀ ps k,
    (∀ A' s'' Ψ,m9 s''.heap a g->(∀ h'',iM h'' a g->bU a s''.heap h''->RT (Mq p w) A' (iY a) ((Mq p w).den (iY a)) fs { s'' with heap:=h'' } Ψ)->RT (Mq p w) A' (iY a) (k (.send .none)) fs s'' Ψ) ->
    Φ (.susp v false [] k (iY a) ps fs) { s' with heap:=h' })
   (λ_ s'=>RT (Mq p w) A (iY a) (leafOf (.ok (.ret .none))) fs s' Φ) g)) :
  RT (Mq p w) A (iY a) ((Mq p w).den (iY a)) fs s Φ:=by
 rw [GS]
 unfold Builtin.«proto.yield_from»
 refine gy (m:=(pure gL:Sem Value)) (aj ?_)
 refine yf_go hh hl hroom hg hgs (hgo.mono λe s' he=>nj.mono ?_ ?_ he)
 ·rintro v s' ⟨ig,hs⟩
  show RT _ A _ (ug (some a) (gl (.ref a) >>= _)) fs s' Φ
  refine gy (wpAny_typeOf ig.typeIs ?_)
  refine gy (gC xA ?_)
  refine gy (m:=(pure false:Sem Bool)) (aj ?_)
  refine gy (yM ig λh' i1 sb=>?_)
  refine bg i1.num λo ho hn=>?_
  refine BY ho ?_
  rw [if_pos hn]
  refine sX hfs λps=>hs h' i1 sb ps _ λA' s'' Ψ i2 k2=>?_
  show RT _ A' _ (ug (some a) (fA (.ref a) false >>= _)) fs s'' Ψ
  refine gy (w9 i2 λh'' i3 sb'=>?_)
  show RT _ A' _ (.pure (.again (iY a))) fs _ Ψ
  refine ju ?_ (k2 h'' i3 sb')
  exact Code.quiet_builtin _ (by decide +kernel)
 ·intro h' s' e1 hq e vs he hv
  subst e1
  show RT _ A _ (ug (some a) (iL false (.ref e) >>= _)) fs s' Φ
  refine gy (yF he ?_)
  refine gy (m:=rule "yield-from.value") (gH ?_)
  refine gy (m:=field (.ref e) 5) (kP he rfl hv ?_)
  exact hq
end
section
variable {p:bF}{w:World}{c:Code}{fs:List Frame}{s:ae} {env:Env}{H:Value->Sem aP}{gd:Bool->Bool}{lv:List Value->List Value}
def sf (c:Code)(t:Sem aP)(fs:List Frame)(F:Frame):Prop:=
 (∃ k l p,F=.ret k ac false l c p [])/\∀ (M:Model) (A:aw) (c':Code) (s:ae) (Φ:End->ae->Prop),RT M A c t fs s Φ->RT M A c' (leafOf (.ok (.ret .none))) (F :: fs) s Φ
theorem rA {K:Flow->Sem aP}{e:Expr}{ypos:Pos}(hg:gd false=false)(hi:kU env=false)
  (h:wpAny (Mq p w) (A.over c fs) (eval e env) (λv s1=>∃ a g,v=.ref a/\iM s1.heap a g/\∀ F,sf c (K .next) fs F->RT (Mq p w) A (iY a) ((Mq p w).den (iY a)) (F :: fs) s1 Φ) (λ_ _=>False) s) :
  RT (Mq p w) A c ((exec (.Expr (.YieldFrom e ypos) pos) env).wrap K H gd lv) fs s Φ:=by
 rw [exec_Expr env _ pos hi rfl]
 show RT _ A c (.at pos λ_=>((eval e env >>= λv=>(jQ ypos >>= λ_=>yieldFrom env v)) >>= λx =>
  dropValue (.YieldFrom e ypos) pos x).wrap K H gd lv) fs s Φ
 refine sY ?_
 rw [dz,dz,fE,fE]
 refine gW (aR h (λv s1 h1=>?_) λ_ _ x=>x.elim)
 obtain ⟨a,g,rfl,ig,h1⟩:=h1
 refine dm (bl ?_)
 unfold yieldFrom
 refine dm (wpAny_typeOf ig.typeIs ?_)
 rw [if_neg (show ¬ ((mY "generator" == mY "coroutine")=true) by decide)]
 refine dm (aX (Ac ig ?_))
 show RT _ A c (.call (iY a) ac (gd false) (lv []) _) fs s1 Φ
 refine rz λq=>?_
 refine h1 _ ⟨⟨_,_,q,by rw [hg]⟩,λM A c' s Φ hk=>?_⟩
 exact rx (.ok (.ret .none)) hk
end
theorem fS {b:Addr}(D:Sb ab h)(n:h.get? b=ac):ab.get? b=ac:=by
 cases q:ab.get? b with
 | none=>rfl
 | some o=>exact ns (n.symm.trans (D _ _ q))
structure Wd (w:World) (ab:Heap) (R:aD) (st:St) (L:List Addr) (h:Heap):Prop where
 G:Gd w ab
 old:Sb ab h
 off:∀ c∈R.cells++L,ab.get? c=ac
 still:R.live=true->gA R ab
 hs:Hs R st h
 frames:∀ a∈L,∃ o,h.get? a=some o/\o.cls=.type "frame"/\∀ vs,o.data≠.fields vs
structure Pg (S:List Addr) (R:aD) (L:List Addr) (h h':Heap):Prop where
 old:∀ b o,b∉R.cells->b∉L->h.get? b=some o->h'.get? b=some o
 keep:dQ (S++R.cells) h h'
noncomputable abbrev Do (h:Heap)(R:aD)(L:List Addr):Heap:=bJ h (R.cells++L)
theorem CL.app {C L:List Addr}(x:CL C h)(y:∀ a∈L,∃ o,h.get? a=some o/\o.cls=.type "frame"/\∀ vs,o.data≠.fields vs):CL (C++L) h:=λc hc=>by
 rcases aL.mp hc with q | q
 ·exact x c q
 ·refine dJ (y c q) λo a b d=>?_;exact ⟨o,a,.inr b,d⟩
section
variable {C:List Addr}
theorem lM (cl:CL C h){b:Addr}(e:h.get? b=some o)(hl:o.cls≠.type "list")(hf:o.cls≠.type "frame"):b∉C:=λq=>by
 refine bg (cl b q) λo' e' c=>?_
 rw [e] at e';cases e'
 exact c.1.elim hl hf
theorem eH.hide (cl:CL C h){a:Addr}(i:eH h a o)(hl:o.cls≠.type "list")(hf:o.cls≠.type "frame"):eH (bJ h C) a o:=by
 obtain ⟨sl,e⟩:=i
 exact ⟨sl,aU _ e (lM cl e hl hf)⟩
theorem cL.hide (cl:CL C h){a Cl:Addr}{at_:List (Str×Value)}(i:cL h a Cl at_):cL (bJ h C) a Cl at_:=by
 refine AH i λsl d sl' es n e1 e2 g=>?_
 exact ⟨sl,d,sl',es,n,aU _ e1 (lM cl e1 (by simp) (by simp)),aU _ e2 (lM cl e2 (by simp) (by simp)),g⟩
theorem gh (cl:CL C h){b:Addr}(e:h.get? b=some o)(hf:∃ fs,o.data=.fields fs):b∉C:=λq=>by
 refine dJ (cl b q) λo' e' _ c=>?_
 rw [e] at e';cases e'
 obtain ⟨fs,d⟩:=hf
 exact c fs d
theorem fU.hide (cl:CL C h){a:Addr}{l:Expr}{q x:Str}{v:Value}(i:fU h a l q x v):fU (bJ h C) a l q x v:=
 i.map λb o e z=>aU _ e (z.elim (λz=>lM cl e (by rw [z];decide) (by rw [z];decide)) λz=>z.elim (λz=>lM cl e (by rw [z];decide) (by rw [z];decide)) (gh cl e))
theorem gA.hide {R:aD}(cl:CL C h)(s:gA R h):gA R (bJ h C):=s.map (λ_ _ _ i=>i.hide cl) (λ_ _ _ i=>i.hide cl (by simp [fx,gz]) (by simp [fx,gz])) λ_ _ _ _ _ i=>i.hide cl
end
def Fs (L:List Addr)(A:aw):Prop:=∃ outer,A.frames=some outer/\∀ env∈outer,env.scope.kind≠.module/\∃ F∈L,env.frame=some F
theorem Ok.dn {k:Nat}(O:Ok (k+j) A):Ok k A:=O.le (aE k j)
theorem Ok.d3 {k:Nat}(O:Ok (k+1) A):A.depth+3 < aA:=av (aT (Nat.le_mul_of_pos_right 3 (Nat.succ_pos k)) _) O.depth
theorem Ok.d0 {k:Nat}(O:Ok k A):A.depth < aA:=av (aE _ _) O.depth
section
variable {w:World}{R:aD}{st:St}{L S:List Addr}{k:Nat}{s:ae}
theorem Wd.cl (D:Wd w ab R st L h):CL (R.cells++L) h:=D.hs.cl.app D.frames
theorem Wd.stays (D:Wd w ab R st L h):Sb ab (Do h R L):=λb o e=>aU _ (D.old b o e) λq=>by
 rw [D.off b q] at e;exact ns e
theorem Wd.inv (D:Wd w ab R st L h):nQ (Do h R L) R st h where
 base:=λ_ _ e=>di _ e
 off:=λc hc=>dX _ (bC _ hc)
 still0:=λl=>(D.still l).ext D.stays
 hs:=D.hs
theorem Gd.keeps {w:World}(G:Gd w h)(k:Sb h h'):Gd w h':=by
 obtain ⟨X,p,l,mean,mg,mb,T⟩:=G
 exact ⟨X.keeps k,p,l,mean,mg,mb,T.keeps k⟩
theorem nK {base:Heap}:∀ {l:List Env},(∀ env∈l,env.scope.kind≠.module/\∃ F,env.frame=some F/\base.get? F=ac/\∃ o,h.get? F=some o/\∀ vs,o.data≠.fields vs)->h.FunFrames base l
 | [],_=>trivial
 | env :: r,k=>by
  obtain ⟨a,F,b,c,o,d,e⟩:=k env (.head _)
  exact ⟨a,⟨F,o,b,c,d,e⟩,nK λx hx=>k x (.tail _ hx)⟩
theorem Wd.be (D:Wd w ab R st L s.heap)(O:Ok k A)(F:Fs L A):Be w (Do s.heap R L) k A R st s where
 G:=D.G.keeps D.stays
 O:=O
 S:=by
  refine bg F λouter e f=>?_
  refine ⟨outer,e,nK λenv he=>?_,λa ha=>?_⟩
  ·obtain ⟨km,Fa,hF,eF⟩:=f env he
   refine dJ (D.frames Fa hF) λo o1 o2 o3=>?_
   exact ⟨km,Fa,eF,dX _ (aF _ hF),o,o1,o3⟩
  ·refine bg (List.mem_filterMap.mp ha) λenv he eq=>?_
   obtain ⟨km,Fa,hF,eF⟩:=f env he
   rw [eF] at eq;cases eq
   exact D.frames _ hF
 I:=D.inv
theorem Wd.next (D:Wd w ab R st L h)(hi:nQ (Do h R L) R st' h')(hk:dQ (S++R.cells) h h')(hS:∀ a∈S,∃ o,h'.get? a=some o/\o.cls=.type "frame"/\∀ vs,o.data≠.fields vs):Wd w ab R st' L h'/\Pg S R L h h':=by
 refine ⟨⟨D.G,λb o e=>hi.base b o (D.stays b o e),D.off,D.still,hi.hs,λa ha=>?_⟩,⟨λb o n1 n2 e=>hi.base b o (aU _ e λq=>(aL.mp q).elim n1 n2),hk⟩⟩
 by_cases q:a∈S
 ·exact hS a q
 ·refine dJ (D.frames a ha) λo o1 o2 o3=>?_
  have nc:a∉R.cells:=D.hs.notFrame o1 o2
  obtain ⟨sl,e⟩:=hk a o (λx=>(aL.mp x).elim q nc) o1 o3
  exact ⟨_,e,o2,o3⟩
theorem Wd.nx (D:Wd w ab R st L h)(n:Nx (Do h R L) R h R' st' h'):R'=R/\Wd w ab R st' L h'/\Pg [] R L h h':=by
 have e:R'=R:=n.ext
 subst e
 exact ⟨rfl,D.next n.inv n.keep (λ_ q=>nomatch q)⟩
abbrev ng (s:ae):ae:={ s with gens:=#[] }
theorem Bz (s:ae):wG (ng s) s.gens=s:=by cases s;rfl
theorem cj {α:Type}{m:Sem α}{Q:α->ae->Prop}
  (h:wpAny (Md w) A m (λa s'=>s'.gens.size=0/\Q a (wG s' s.gens)) (λe s'=>s'.gens.size=0/\E e (wG s' s.gens)) (ng s)):wpAny (Mq pg w) A m Q E s:=by
 have:=lift (p:=pg) (w:=w) (A:=A) (m:=m) (Q:=λa s'=>Q a (wG s' s.gens)) (E:=λe s'=>E e (wG s' s.gens)) (s:=ng s) (G:=s.gens) h
 rw [Bz] at this
 refine aR this ?_ ?_
 ·rintro a s'' ⟨s',rfl,_,hq⟩;exact hq
 ·rintro a s'' ⟨s',rfl,_,hq⟩;exact hq
section
variable {n:Nat}{env:Env}{lo:Lo}
theorem q_e {x:Expr}{v:Mv}(D:Wd w ab R st L s.heap)(O:Ok n A)(F:Fs L A)(Fx:bZ env sc s.heap m)(Lo:ci R s.heap lo m)(hf:(fO n).e sc x lo st=some (.ok v,st'))
  (hQ:∀ h' t' u,Wd w ab R st' L h'->Pg [] R L s.heap h'->bZ env sc h' m->ci R h' lo m->V R h' v u->Q u (up s h' t')):wpAny (Mq pg w) A (eval x env) Q E s:=by
 refine cj ((Internal.sound n).e sc x w (Do s.heap R L) A env m (ng s) R lo st (.ok v) st' _ _ (D.be (s:=ng s) O F) Fx Lo hf ?_)
 intro R' h' t' nx u hv
 have Fx':=Fx.nx nx D.inv
 have Lo':=Lo.nx nx D.inv
 refine C2 (D.nx nx) λy5 D' P'=>?_;subst y5
 exact ⟨rfl,hQ h' t' u D' P' Fx' Lo' hv⟩
theorem q_t {x:Expr}{b:Bool}{Q:Bool->ae->Prop}(D:Wd w ab R st L s.heap)(O:Ok n A)(F:Fs L A)(Fx:bZ env sc s.heap m)(Lo:ci R s.heap lo m)(hf:(fO n).t sc x lo st=some (b,st'))
  (hQ:∀ h' t',Wd w ab R st' L h'->Pg [] R L s.heap h'->bZ env sc h' m->ci R h' lo m->Q b (up s h' t')):wpAny (Mq pg w) A (isTrue x env (eval x env)) Q E s:=by
 refine cj ((Internal.sound n).t sc x w (Do s.heap R L) A env m (ng s) R lo st b st' _ _ (D.be (s:=ng s) O F) Fx Lo hf ?_)
 intro R' h' t' nx
 have Fx':=Fx.nx nx D.inv
 have Lo':=Lo.nx nx D.inv
 refine C2 (D.nx nx) λy6 D' P'=>?_;subst y6
 exact ⟨rfl,hQ h' t' D' P' Fx' Lo'⟩
def EU (R:aD)(h:Heap):Fl->Flow->Prop
 | .next,.next=>True
 | .brk,.brk=>True
 | .cont,.cont=>True
 | .ret v,.ret u=>V R h v u
 | _,_=>False
@[elab_as_elim] theorem EU.next {R:aD}{fl:Flow}{motive:Flow->Prop}(x:EU R h .next fl)(k:motive .next):motive fl:=by cases fl<;>first | exact k | exact x.elim
@[elab_as_elim] theorem EU.ret {R:aD}{v:Mv}{fl:Flow}{motive:Flow->Prop}(x:EU R h (.ret v) fl)(k:∀ u,V R h v u->motive (.ret u)):motive fl:=by cases fl<;>first | exact k _ x | exact x.elim
theorem bZ.fr {env:Env}(F:bZ env sc h m):∃ o,h.get? env.locals=some o/\o.cls=.type "frame"/\∀ vs,o.data≠.fields vs:=
 qa F.at_ λo _ _ e c d _=>⟨o,e,c,λvs q=>by rw [d] at q;cases q⟩
theorem Hv {x:Stmt}{r:Fl}{Q:Flow->ae->Prop}(D:Wd w ab R st L s.heap)(O:Ok n A)(F:Fs L A)(T:iU A env)(Fx:bZ env sc s.heap m)(Lo:ci R s.heap lo m)(hf:nk (fO n) sc x lo st=some (r,lo',st'))(hr:r≠.err)
  (hQ:∀ h' t' m' fl,Wd w ab R st' L h'->Pg [env.locals] R L s.heap h'->bZ env sc h' m'->ci R h' lo' m'->EU R h' r fl->Q fl (up s h' t')):wpAny (Mq pg w) A (exec x env) Q E s:=by
 refine cj (vW (Internal.sound n) sc x w (Do s.heap R L) A env m (ng s) R lo st r lo' st' _ _ (D.be (s:=ng s) O F) T Fx Lo hf ?_)
 intro R' h' t' m' nx Fx' Lo'
 have e:R'=R:=nx.ext
 subst e
 obtain ⟨D',P'⟩:=D.next (S:=[env.locals]) nx.inv nx.keep (λa ha=>by
  rcases ah.mp ha with rfl
  exact Fx'.fr)
 cases r with
 | next=>exact ⟨rfl,hQ h' t' m' .next D' P' Fx' Lo' trivial⟩
 | brk=>exact ⟨rfl,hQ h' t' m' .brk D' P' Fx' Lo' trivial⟩
 | cont=>exact ⟨rfl,hQ h' t' m' .cont D' P' Fx' Lo' trivial⟩
 | ret v=>exact λu hv=>⟨rfl,hQ h' t' m' (.ret u) D' P' Fx' Lo' hv⟩
 | err=>exact absurd rfl hr
end
end
inductive Yr where
 | fl (f:Fl)
 | yld (v:Mv)
 deriving Inhabited
inductive YV where
 | yld (e:Expr) (p q:Pos) | cont (p:Pos) | ite (t:Expr) (b o:List Stmt) (p:Pos) | plain
noncomputable def yvo (p q:Pos):Option Expr->YV | some e=>.yld e p q | ac=>.plain
def yvx (q:Pos):Expr->YV | .Yield e p=>yvo p q e | _=>.plain
def vM:Stmt->YV
 | .Expr e q=>yvx q e
 | .Continue p=>.cont p
 | .If t b o p=>.ite t b o p
 | _=>.plain
noncomputable def YV.back (s:Stmt):YV->Stmt
 | .yld e p q=>.Expr (.Yield (some e) p) q
 | .cont p=>.Continue p
 | .ite t b o p=>.If t b o p
 | .plain=>s
theorem yg (q:Pos)(e:Expr):(yvx q e).back (.Expr e q)=.Expr e q:=by cases e with | Yield o=>cases o<;>rfl | _=>rfl
theorem uQ (s:Stmt):(vM s).back s=s:=by cases s with | Expr e q=>exact yg q e | _=>rfl
noncomputable def kq:Fl->Bool | .next=>true | .brk=>false | .cont=>false | .ret _=>false | .err=>false
theorem l8 {f:Fl}(h:kq f=true):f=.next:=by cases f<;>first | rfl | cases h
section
variable (I:ja) (sc:Scope) (Y:List Stmt->Lo->St->Option (Yr×Lo×St))
def qC (r:List Stmt)(p:Yr×Lo×St):Option (Yr×Lo×St):=match p.1 with
 | .fl f=>bif kq f then Y r p.2.1 p.2.2 else some p
 | .yld _=>dS r.isEmpty (some p)
def yOne (x:Stmt)(r:List Stmt)(lo:Lo)(st:St):YV->Option (Yr×Lo×St)
 | .yld e _ _=>dS r.isEmpty (fe (I.e sc e lo st) λv st=>some (.yld v,lo,st))
 | .cont _=>some (.fl .cont,lo,st)
 | .ite t b o _=>gD (I.t sc t lo st) λc st=>(Y (bif c then b else o) lo st).bind (qC Y r)
 | .plain=>(nk I sc x lo st).bind λp=>qC Y r (.fl p.1,p.2)
def yL (lo:Lo)(st:St):List Stmt->Option (Yr×Lo×St)
 | []=>some (.fl .next,lo,st)
 | x :: r=>yOne I sc Y x r lo st (vM x)
noncomputable def yS:Nat->List Stmt->Lo->St->Option (Yr×Lo×St)
 | 0,_,_,_=>ac
 | k+1,b,lo,st=>yL I sc (yS k) lo st b
end
theorem Pg.trans {S:List Addr}{R:aD}{L:List Addr}(x:Pg S R L h h')(y:Pg S R L h' h''):Pg S R L h h'':=⟨λb o n1 n2 e=>y.old b o n1 n2 (x.old b o n1 n2 e),x.keep.trans y.keep⟩
theorem Pg.mono {S S':List Addr}{R:aD}{L:List Addr}(x:Pg S R L h h')(k:∀ a∈S,a∈S'):Pg S' R L h h':=⟨x.old,x.keep.mono λc hc=>(aL.mp hc).elim (λq=>bC _ (k c q)) (aF _)⟩
theorem Pg.refl (S:List Addr)(R:aD)(L:List Addr)(h:Heap):Pg S R L h h:=⟨λ_ _ _ _ e=>e,.refl _ _⟩
theorem Pg.to1 {R:aD}{L:List Addr}{a:Addr}(x:Pg [] R L h h'):Pg [a] R L h h':=x.mono λ_ q=>nomatch q
def HE (w:World)(A:aw)(c:Code)(K:Flow->Sem aP)(fs:List Frame)(Φ:End->ae->Prop)(R:aD):Yr->ae->Prop
 | .fl .next,s=>RT (Mq pg w) A c (K .next) fs s Φ
 | .fl .brk,s=>RT (Mq pg w) A c (K .brk) fs s Φ
 | .fl .cont,s=>RT (Mq pg w) A c (K .cont) fs s Φ
 | .fl (.ret v),s=>∀ u,V R s.heap v u->RT (Mq pg w) A c (K (.ret u)) fs s Φ
 | .fl .err,_=>False
 | .yld v,s=>∀ u,V R s.heap v u->∀ p k,(∀ M' A' s'' Ψ,RT M' A' c (K .next) fs s'' Ψ->RT M' A' c (k (.send .none)) fs s'' Ψ)->Φ (.susp u false [] k c p fs) s
section
variable {w:World}{R:aD}{L:List Addr}{n:Nat}{env:Env}{c:Code}{fs:List Frame} {H:Value->Sem aP}
noncomputable def Kn (rest:List Stmt)(env:Env)(K:Flow->Sem aP)(H:Value->Sem aP):Flow->Sem aP:=λf=>match f with | .next=>(execs rest env).wrap K H id id | f=>K f
theorem HE.flq {K:Flow->Sem aP}{f:Fl}{fl:Flow}{s:ae}(y:HE w A c K fs Φ R (.fl f) s)(h:EU R s.heap f fl):RT (Mq pg w) A c (K fl) fs s Φ:=by
 cases f<;>cases fl<;>first | exact h.elim | exact y | exact y _ h
structure Ybe (w:World) (ab:Heap) (R:aD) (st:St) (L:List Addr) (env:Env) (sc:Scope) (m:Str->Option Value) (lo:Lo) (h:Heap):Prop where
 D:Wd w ab R st L h
 F:bZ env sc h m
 L:ci R h lo m
def Yq (w:World)(ab:Heap)(R:aD)(st:St)(L:List Addr)(env:Env)(sc:Scope)(lo:Lo)(s:ae)(P:ae->Prop):Prop:=
 ∀ h' t' m',Ybe w ab R st L env sc m' lo h'->Pg [env.locals] R L s.heap h'->P (up s h' t')
theorem Yq.on {st st':St}{lo lo':Lo}{m':Str->Option Value}{s:ae}{t':Nat}{P:ae->Prop}(q:Yq w ab R st L env sc lo s P)(p:Pg [env.locals] R L s.heap h'):Yq w ab R st L env sc lo (up s h' t') P:=
 λh'' t'' m'' b p'=>q h'' t'' m'' b (p.trans p')
def Yok (n:Nat)(sc:Scope)(w:World)(ab:Heap)(R:aD)(L:List Addr)(A:aw)(env:Env)(c:Code)(fs:List Frame)(Φ:End->ae->Prop)(H:Value->Sem aP)(Y:List Stmt->Lo->St->Option (Yr×Lo×St)):Prop:=
 ∀ (b:List Stmt) (K:Flow->Sem aP) (s:ae) (st:St) (m:Str->Option Value) (lo:Lo) (y:Yr×Lo×St),Ybe w ab R st L env sc m lo s.heap->Y b lo st=some y->y.1≠.fl .err ->
  Yq w ab R y.2.2 L env sc y.2.1 s (HE w A c K fs Φ R y.1)->wO (Mq pg w) A c b env K H id id fs s Φ
theorem sE {Y:List Stmt->Lo->St->Option (Yr×Lo×St)}(ih:Yok n sc w ab R L A env c fs Φ H Y){rest:List Stmt}{K:Flow->Sem aP}{s:ae}{p y:Yr×Lo×St}(B:Ybe w ab R p.2.2 L env sc m p.2.1 s.heap)(hf:qC Y rest p=some y)(hr:y.1≠.fl .err)
  (hQ:Yq w ab R y.2.2 L env sc y.2.1 s (HE w A c K fs Φ R y.1)):HE w A c (Kn rest env K H) fs Φ R p.1 s:=by
 obtain ⟨r,lo,st⟩:=p
 have self:y=(r,lo,st)->r≠.fl .next->(∀ v,r=.yld v->rest=[])->HE w A c (Kn rest env K H) fs Φ R r s:=λe hn hy=>by
  subst e
  have:=hQ s.heap s.toks m B (.refl ..)
  cases r with
  | fl f=>cases f<;>first | exact this | exact absurd rfl hn
  | yld v=>rw [hy v rfl];exact this
 cases r with
 | fl f =>
  refine eK (c:=kq f) hf (λhn g=>?_) λhn g=>self (sj g).symm (λq=>by cases q;cases hn) nofun
  cases f with
  | next=>exact ih rest K s st m lo y B g hr hQ
  | _=>cases hn
 | yld v=>exact ba hf λhe g=>self (sj g).symm nofun λ_ _=>jH.mp he
theorem yh (O:Ok n (A.over c fs))(F:Fs L (A.over c fs))(Tp:iU (A.over c fs) env)(hfs:ch fs=ac)(hi:kU env=false):∀ k,Yok n sc w ab R L A env c fs Φ H (yS (fO n) sc k)
 | 0=>λ_ _ _ _ _ _ _ _ h=>nomatch h
 | k+1=>λb K s st m lo y B hf hr hQ=>by
  have ih:=yh O F Tp hfs hi k
  cases b with
  | nil=>cases hf;exact hQ s.heap s.toks m B (.refl ..)
  | cons x rest =>
  have hf:yOne (fO n) sc (yS (fO n) sc k) x rest lo st (vM x)=some y:=hf
  have e:=uQ x
  generalize vM x=v at hf e
  cases v with
  | cont p=>rw [<- (show Stmt.Continue p=x from e)];cases hf;exact f8 (ag (bl (aj (hQ s.heap s.toks m B (.refl ..)))))
  | plain =>
   refine aC hf λp hp g=>?_
   refine f8 (Hv B.D O F Tp B.F B.L hp (λq=>?_) λh' t' m' fl D' P' Fx' Lo' hfl=>?_)
   ·have g:qC (yS (fO n) sc k) rest (.fl .err,p.2)=some y:=q▸g
    exact hr (sj g▸rfl)
   ·have z:=(sE (s:=(up s h' t')) ih ⟨D',Fx',Lo'⟩ g hr λh'' t'' m'' b p'=>hQ h'' t'' m'' b (P'.trans p')).flq hfl
    cases fl<;>exact z
  | ite t b o pos =>
   rw [<- (show Stmt.If t b o pos=x from e)]
   refine dW (f:=λc st=>(yS (fO n) sc k (bif c then b else o) lo st).bind (qC (yS (fO n) sc k) rest)) hf λq bA h1 g=>aC g λp h3 h4=>?_
   refine gV (yX (q_t B.D O F B.F B.L h1 λh' t' D' P' Fx' Lo'=>?_))
   have z:=ih _ (Kn rest env K H) (up s h' t') _ _ _ _ ⟨D',Fx',Lo'⟩ h3 (λq=>by
    have h4:qC (yS (fO n) sc k) rest (p.1,p.2)=some y:=h4
    rw [q] at h4
    exact hr (sj h4▸rfl)) λh'' t'' m'' b p'=>sE (s:=(up s h'' t'')) ih b h4 hr λh3 t3 m3 b3 p3=>hQ h3 t3 m3 b3 ((P'.to1.trans p').trans p3)
   cases q with
   | true=>rw [if_pos rfl];exact z
   | false=>rw [if_neg dD];exact z
  | yld e' p q =>
   rw [<- (show Stmt.Expr (.Yield (some e') p) q=x from e)]
   refine ba hf λhe g=>dG g λv bA h1 h2=>?_
   cases sj h2
   cases jH.mp he
   exact gV (xc hfs (q_e B.D O F B.F B.L (lB h1) λh' t' u D' P' Fx' Lo' hv p k hk=>hQ h' t' m ⟨D',Fx',Lo'⟩ P'.to1 u hv p k hk) (by rw [B.F.sce];exact B.F.gen) hi)
end
def itS:Stmt:=(aO 639).headD default
def itT:Expr:=se itS 0
def itB:List Stmt:=sb itS 0
def itP:Pos:=sp itS
theorem wr:aO 639=[.While itT itB [] itP]:=by lk
abbrev cI (env:Env):Code:=.whileLoop itT itB [] env
abbrev AZ (env:Env):Code:=.func (aO 639) env
noncomputable def yvOf:Yr->Option Mv | .yld v=>some v | .fl _=>ac
theorem Bx {y:Yr}{v:Mv}(h:yvOf y=some v):y=.yld v:=by
 cases y with
 | fl=>exact ns h
 | yld u=>exact congrArg Yr.yld (sj h)
def Ad (p:Yr×Lo×St):Option (Option Mv×Lo×St):=(yvOf p.1).bind λv=>some (some v,p.2)
def vo (I:ja)(n:Nat)(lo:Lo)(st:St):Option (Option Mv×Lo×St):=
 gD (I.t (aJ 639) itT lo st) λc st=>bif c then (yS I (aJ 639) n itB lo st).bind Ad else some (ac,lo,st)
def nR (c:Code)(F:Frame):Prop:=(∃ k l p,F=.ret k ac false l c p [])/\∀ (M:Model) (A:aw) (c':Code) (s:ae) (Φ:End->ae->Prop),Φ (.ret (.ok (.ret .none))) s->RT M A c' (leafOf (.ok .next)) [F] s Φ
def qo (w:World)(env:Env)(gs:bk):Prop:=gs=.fresh (AZ env) \/
 ∃ k p F,gs=.suspended k [] (cI env) p [F] false/\nR (AZ env) F/\∀ A' s'' Ψ,RT (Mq pg w) A' (cI env) ((Mq pg w).den (cI env)) [F] s'' Ψ->RT (Mq pg w) A' (cI env) (k (.send .none)) [F] s'' Ψ
theorem isY_cI (env:Env):qx (cI env)=ac:=rfl
section
variable {w:World}{R:aD}{L:List Addr}{n:Nat}{env:Env}{s:ae}{st:St}{lo:Lo}
theorem nR.where_ {c:Code}{F:Frame}(e:nR c F):∃ p,F.where_=(c,p):=by
 obtain ⟨⟨k,l,p,rfl⟩,_⟩:=e;exact ⟨p,rfl⟩
theorem nR.split {c:Code}{F:Frame}(e:nR c F):ch [F]=ac:=by
 obtain ⟨⟨k,l,p,rfl⟩,_⟩:=e;rfl
theorem nR.guarded {c:Code}{F:Frame}(e:nR c F):[F].any cF=false:=by
 obtain ⟨⟨k,l,p,rfl⟩,_⟩:=e;rfl
structure Gf (env:Env) (c:Code) (fs:List Frame):Prop where
 ce:c.envs=[]
 cw:c.weight=0
 cu:c.cUnits<=4
 envs:envsOf (fs.map fW)=[env]
 wt:frameCount (fs.map fW)<=1
 un:unitsOf (fs.map fW)<=4
 mr:(marksOver fs (ac,ac)).1=ac
 sp:ch fs=ac
 gu:fs.any cF=false
theorem Gf.ok {c:Code}{fs:List Frame}{k k':Nat}(g:Gf env c fs)(O:Ok k A)(hk:k'+1<=k):Ok k' (A.over c fs):=by
 refine ⟨?_,?_,?_⟩
 ·show (marksOver fs (A.handled,A.handled)).1=ac
  rw [O.handled];exact g.mr
 ·show A.depth+frameCount (fs.map fW)+c.weight+3 * k' < aA
  rw [g.cw]
  exact av (au (ya (a:=A.depth) (b:=3 * k') (au g.wt (show 1<=3 by decide))) (aT (Nat.mul_le_mul_left 3 hk) _)) O.depth
 ·show A.units+unitsOf (fs.map fW)+c.cUnits+24 * k'+8 < cLine
  rw [Nat.add_assoc A.units]
  exact av (Nat.add_le_add_right (au (ya (au (Nat.add_le_add g.un g.cu) (show 4+4<=24 by decide))) (aT (Nat.mul_le_mul_left 24 hk) _)) 8) O.units
theorem Gf.frames {c:Code}{fs:List Frame}{outer:List Env}(g:Gf env c fs)(h:A.frames=some outer):(A.over c fs).frames=some (env :: outer):=by
 show pushEnvs c.envs (pushEnvs (envsOf (fs.map fW)) A.frames)=_
 rw [g.ce,g.envs,h];rfl
theorem Gf.fs {c:Code}{fs:List Frame}(g:Gf env c fs)(F:Fs L A)(Fx:bZ env sc h m)(hL:env.locals∈L):Fs L (A.over c fs):=by
 refine bg F λouter e f=>?_
 refine ⟨_,g.frames e,λx hx=>?_⟩
 cases hx with
 | head=>exact ⟨(by rw [Fx.sce,Fx.kind];simp),_,hL,Fx.frame⟩
 | tail _ hx=>exact f x hx
theorem Gf.topm {c:Code}{fs:List Frame}(g:Gf env c fs)(F:Fs L A):iU (A.over c fs) env:=by
 refine bg F λouter e f=>?_
 exact ⟨outer,g.frames e⟩
theorem wz {c:Code}{b:List Stmt}{F:Frame}(e:nR (.func b env) F)(ce:c.envs=[])(cw:c.weight=0)(cu:c.cUnits<=4):Gf env c [F]:=by
 obtain ⟨⟨k,l,p,rfl⟩,_⟩:=e
 exact ⟨ce,cw,cu,rfl,aQ 1,bK rfl,rfl,rfl,rfl⟩
theorem pP (Fx:bZ env sc h m):kU env=false:=by unfold kU;rw [Fx.sce,Fx.kind];rfl
theorem xr {F:Frame}(e:nR (AZ env) F){k:Nat}(O:Ok k A)(hk:n+1<=k)(Fr:Fs L A)(hL:env.locals∈L)(D:Wd w ab R st L s.heap)(Fx:bZ env (aJ 639) s.heap m)(Lo:ci R s.heap lo m){r:Option Mv}
  (hf:vo (fO n) n lo st=some (r,lo',st'))
  (hQ:∀ h' t' m',Wd w ab R st' L h'->Pg [env.locals] R L s.heap h'->bZ env (aJ 639) h' m'->ci R h' lo' m'->match r with
   | ac=>Φ (.ret (.ok (.ret .none))) (up s h' t')
   | some v=>∀ u,V R h' v u->∀ k p,(∀ A' s'' Ψ,RT (Mq pg w) A' (cI env) ((Mq pg w).den (cI env)) [F] s'' Ψ->RT (Mq pg w) A' (cI env) (k (.send .none)) [F] s'' Ψ)->Φ (.susp u false [] k (cI env) p [F]) (up s h' t')) :
  RT (Mq pg w) A (cI env) ((Mq pg w).den (cI env)) [F] s Φ:=by
 have g:Gf env (cI env) [F]:=wz e rfl rfl (bK rfl)
 have O':Ok n (A.over (cI env) [F]):=g.ok O hk
 have Fr':=g.fs Fr Fx hL
 have Tp:=g.topm Fr
 refine dW (f:=λc st=>bif c then (yS (fO n) (aJ 639) n itB lo st).bind Ad else some (ac,lo,st)) hf λc bA h1 h2=>ru (q_t D O' Fr' Fx Lo h1 λh' t' D' P' Fx' Lo'=>?_)
 cases c with
 | false =>
  rw [if_neg dD]
  cases h2
  exact e.2 _ _ _ _ _ (hQ h' t' m D' P'.to1 Fx' Lo')
 | true =>
  rw [if_pos rfl]
  refine aC (f:=Ad) h2 λy h3 h4=>?_
  obtain ⟨y1,lo1,st2⟩:=y
  refine aC (f:=λv=>some (some v,lo1,st2)) h4 λv hv h5=>?_
  have e1:y1=.yld v:=Bx hv
  subst e1
  cases h5
  exact yh O' Fr' Tp g.sp (pP Fx') n itB _ (up s h' t') _ _ _ _ ⟨D',Fx',Lo'⟩ h3 nofun λh'' t'' m'' b P'' u hu p k hk' =>
   hQ h'' t'' m'' b.D (P'.to1.trans P'') b.F b.L u hu k p λA' s'' Ψ hr=>hk' _ _ _ _ (ju rfl hr)
theorem CB (hg:qo w env gs){k:Nat}(O:Ok k A)(hk:n+1<=k)(Fr:Fs L A)(hL:env.locals∈L)(D:Wd w ab R st L s.heap)(Fx:bZ env (aJ 639) s.heap m)(Lo:ci R s.heap lo m){r:Option Mv}
  (hf:vo (fO n) n lo st=some (r,lo',st'))
  (hQ:∀ h' t' m',Wd w ab R st' L h'->Pg [env.locals] R L s.heap h'->bZ env (aJ 639) h' m'->ci R h' lo' m'->match r with
   | ac=>Φ (.ret (.ok (.ret .none))) (up s h' t')
   | some v=>∀ u,V R h' v u->∀ k p F,[F].any cF=false->qo w env (.suspended k [] (cI env) p [F] false)->Φ (.susp u false [] k (cI env) p [F]) (up s h' t')) :
  wQ (Mq pg w) A gs (.send .none) s Φ:=by
 have go:∀ F,nR (AZ env) F->RT (Mq pg w) A (cI env) ((Mq pg w).den (cI env)) [F] s Φ:=λF e=>by
  refine xr e O hk Fr hL D Fx Lo hf λh' t' m' D' P' Fx' Lo'=>?_
  have:=hQ h' t' m' D' P' Fx' Lo'
  cases r with
  | none=>exact this
  | some v=>exact λu hu k p hk'=>this u hu k p F e.guarded (.inr ⟨k,p,F,rfl,e,hk'⟩)
 rcases hg with rfl | ⟨k,p,F,rfl,e,hr⟩
 ·refine ⟨rfl,ry ?_⟩
  rw [wr]
  refine gV (yZ rfl λF l=>?_)
  have l':nR (AZ env) F:=by
   refine ⟨by unfold AZ;rw [wr];exact l.1,λM A c' s Φ h=>l.2 M A c' .next s Φ ?_⟩
   exact u7 (.ok (.ret .none)) h
  exact go F l'
 ·exact hr _ _ _ (go F e)
end
def fh (h h':Heap):Prop:=∀ b o,h.get? b=some o->(∀ vs,o.data≠.fields vs)->h'.get? b=some o
theorem fh.keep (k:fh h h')(C:List Addr):dQ C h h':=λb o _ e n=>⟨o.slots,k b o e n⟩
theorem fh.but {x:Addr}{fs:Array Value}(hx:h.get? x=some o)(hd:o.data=.fields fs)(e:ll x h h'):fh h h':=λb ob eb n=>e b ob (λq=>by
 subst q
 rw [hx] at eb;cases eb
 exact n fs hd) eb
section
variable {w:World}{R:aD}{st:St}{L S:List Addr}{k:Nat}{s:ae}{env:Env}{lo:Lo}{a b:Mv}{u v:Value}
theorem Wd.recs (D:Wd w ab R st L h)(hold:Sb ab h')(hk:fh h h'):Wd w ab R st L h' where
 G:=D.G
 old:=hold
 off:=D.off
 still:=D.still
 hs:=⟨D.hs.nodup,D.hs.all.imp λc l ⟨vs,n,e,al⟩=>⟨vs,n,hk _ _ e (λvs q=>by cases q),al.imp λ_ _ y=>y.keep (hk.keep R.cells) D.hs.cl (.refl h R)⟩⟩
 frames:=λa ha=>dJ (D.frames a ha) λo e c n=>⟨o,hk _ _ e n,c,n⟩
theorem Wd.but {x:Addr}{fs:Array Value}(D:Wd w ab R st L h)(hx:h.get? x=some o)(hd:o.data=.fields fs)(h0:ab.get? x=ac)(e:ll x h h'):Wd w ab R st L h':=
 D.recs (λb ob eb=>e b ob (λq=>by rw [q,h0] at eb;exact ns eb) (D.old b ob eb)) (.but hx hd e)
theorem Wd.ext (D:Wd w ab R st L h)(e:Sb h h'):Wd w ab R st L h':=D.recs (λb o q=>e b o (D.old b o q)) λb o q _=>e b o q
theorem V.recs (D:Wd w ab R st L h)(hk:fh h h')(y:V R h a u):V R h' a u:=y.keep (hk.keep R.cells) D.hs.cl (.refl h R)
theorem ci.recs (D:Wd w ab R st L h)(hk:fh h h')(y:ci R h lo m):ci R h' lo m:=λx v e=>bg (y x v e) λu a b=>⟨u,a,b.recs D hk⟩
theorem bZ.recs (hk:fh h h')(y:bZ env sc h m):bZ env sc h' m:=y.keep (C:=[]) (hk.keep []) (by simp)
theorem V.pg (D:Wd w ab R st L h)(P:Pg S R L h h')(hS:∀ a∈S,a∈L)(y:V R h a u):V R h' a u:=y.keep P.keep (λc hc=>by
 rcases aL.mp hc with q | q
 ·refine dJ (D.frames c (hS c q)) λo x1 x2 x3=>?_;exact ⟨o,x1,.inr x2,x3⟩
 ·exact D.hs.cl c q) (.refl h R)
theorem bZ.pg (D:Wd w ab R st L h)(P:Pg S R L h h')(hn:env.locals∉S)(y:bZ env sc h m):bZ env sc h' m:=y.keep P.keep λq=>(aL.mp q).elim hn (y.off D.hs)
theorem ci.pg (D:Wd w ab R st L h)(P:Pg S R L h h')(hS:∀ a∈S,a∈L)(y:ci R h lo m):ci R h' lo m:=λx v e=>bg (y x v e) λu a b=>⟨u,a,b.pg D P hS⟩
theorem ci.sub (y:ci R h lo m)(k:∀ x v,lo' x=some v->lo x=some v):ci R h lo' m:=λx v e=>y x v (k x v e)
end
section
variable {w:World}{R:aD}{st:St}{L:List Addr}{k n:Nat}{s:ae}{env:Env}{lo:Lo}{a b:Mv}{u v:Value}
theorem rC {x:Str}{Q:Unit->ae->Prop}(D:Wd w ab R st L s.heap)(O:Ok n A)(F:Fs L A)(T:iU A env)(Fx:bZ env sc s.heap m)(Lo:ci R s.heap lo m)(hx:dY sc x=true)(hu:V R s.heap a u)
  (hQ:∀ h' t' m',Wd w ab R st L h'->Pg [env.locals] R L s.heap h'->bZ env sc h' m'->ci R h' (put lo x a) m'->Q () (up s h' t')):wpAny (Mq pg w) A (fy (.Name x xp) env u) Q E s:=by
 have B:=D.be (s:=ng s) O F
 refine cj (assign_Name (gx B T Fx Lo hx hu λh' t' m' nx Fx' Lo'=>?_))
 obtain ⟨D',P'⟩:=D.next (S:=[env.locals]) nx.inv nx.keep (λa ha=>by
  rcases ah.mp ha with rfl
  exact Fx'.fr)
 exact ⟨rfl,hQ h' t' m' D' P' Fx' Lo'⟩
theorem DX {x y:Str}{Q:Unit->ae->Prop}(D:Wd w ab R st L s.heap)(O:Ok n A)(F:Fs L A)(T:iU A env)(Fx:bZ env sc s.heap m)(Lo:ci R s.heap lo m)(hx:dY sc x=true)(hy:dY sc y=true)(hu:V R s.heap (.pair a b) u)
  (hQ:∀ h' t' m',Wd w ab R st L h'->Pg [env.locals] R L s.heap h'->bZ env sc h' m'->ci R h' (put (put lo x a) y b) m'->Q () (up s h' t')):wpAny (Mq pg w) A (fy (.Tuple [.Name x xp,.Name y yp] kk tp) env u) Q E s:=by
 have B:=D.be (s:=ng s) O F
 refine cj ?_
 cases hu with | mk o pa pb =>
 have pa:V R s.heap _ _:=(pa:V R s.heap a _)
 have pb:V R s.heap _ _:=(pb:V R s.heap b _)
 rw [assign_Tuple]
 refine ag (bl ?_)
 unfold unpack
 refine ag (aX (mM B o λh2 kk=>?_))
 have nx2:=dQ.nx kk B.I
 have af2:=Af.of (s1:={ s with heap:=h2,gens:=#[] }) B Fx Lo nx2
 show wpAny _ _ (do iF _ (fy (.Name x xp) env _);do iF _ (fy (.Name y yp) env _);pure ()) _ _ _
 refine ag (aX (assign_Name (gx af2.B T af2.F af2.L hx (pa.nx nx2 B.I) λh3 t3 m3 nx3 F3 L3=>?_)))
 refine ag (aX (assign_Name (gx (af2.B.nxL (s':={ s with heap:=h3,toks:=t3,gens:=#[] }) nx3 F3) T F3 L3 hy ((pb.nx nx2 B.I).nxL nx3 af2.B.I af2.F) λh4 t4 m4 nx4 F4 L4=>aj ?_)))
 have nx:=((oW.of nx2).trans nx3).trans nx4
 obtain ⟨D',P'⟩:=D.next (S:=[env.locals]) nx.inv nx.keep (λa ha=>by
  rcases ah.mp ha with rfl
  exact F4.fr)
 exact ⟨rfl,hQ h4 t4 m4 D' P' F4 L4⟩
theorem zj {l:Addr}{i:Nat}{items:Array Value}{x:Value}{Q:Option Value->ae->Prop}(hit:s.heap.IsListIter it l i)(hl:s.heap.IsList l items)(hx:items[i]? = some x)
  (hQ:∀ h',h'.IsListIter it l (i+1)->bU it s.heap h'->Q (some x) { s with heap:=h' }):wpAny (Mq pg w) A (pyNext (.ref it)) Q E s:=
 cj (wpAny_pyNext_list_item (prog:=pg) (w:=w) (s:=ng s) hit hl hx λh' a b=>⟨rfl,hQ h' a b⟩)
theorem zi {l:Addr}{i:Nat}{items:Array Value}{Q:Option Value->ae->Prop}(hh:A.handled=ac)(hit:s.heap.IsListIter it l i)(hl:s.heap.IsList l items)(hx:items[i]? = ac)
  (hQ:∀ h',ll it s.heap h'->Q ac { s with heap:=h' }):wpAny (Mq pg w) A (pyNext (.ref it)) Q E s:=
 cj (wpAny_pyNext_list_end (prog:=pg) (w:=w) (s:=ng s) hh hit hl hx λh' a=>⟨rfl,hQ h' a⟩)
theorem zs {M:Model}{l:Addr}{i:Nat}{es:List Expr}{v:Value}{Q:Unit->ae->Prop}(hit:s.heap.IsListIter it l i)(q:Q () s):wpAny M A (eJ (.Tuple es kk tp) (.ref it) v) Q E s:=by
 unfold eJ
 cases v with
 | ref a =>
  refine dJ hit λo ho hc hd=>?_
  refine ag (ij ho ?_)
  rw [hc,hd]
  exact aj q
 | _=>exact aj q
end
def CR (l:List Stmt):Stmt:=(l.find? λs=>(uO s).1.length == 2 && (uO s).2.1.length == 2).getD default
def iX (l:List Stmt):Expr×Expr×List Stmt×Pos:=(se (CR l) 1,se (CR l) 0,sb (CR l) 0,sp (CR l))
def vQ (e:Expr):Pos×Pos×Nat×Pos:=((ee e 0).pos,(ee e 1).pos,(xZ e).2.1,e.pos)
def sgT:Expr:=.Tuple [.Name "first_segment_id" (vQ (iX (aO 838)).1).1,.Name "second_segment_id" (vQ (iX (aO 838)).1).2.1] (vQ (iX (aO 838)).1).2.2.1 (vQ (iX (aO 838)).1).2.2.2
def DL:Expr:=(iX (aO 838)).2.1
def sgB:List Stmt:=(iX (aO 838)).2.2.1
def sgP:Pos:=(iX (aO 838)).2.2.2
theorem v8:aO 838=[.For sgT DL sgB [] sgP]:=by lk
abbrev cS (env:Env)(it:Addr):Code:=.forLoop sgT (.ref it) sgB [] env
abbrev x7 (env:Env):Code:=.func (aO 838) env
def Fp (I:ja)(n:Nat)(lo:Lo)(st:St)(i j:Int):Option (Yr×Lo×St):=
 yS I (aJ 838) n sgB (put (put lo "first_segment_id" (.int i)) "second_segment_id" (.int j)) st
noncomputable def Av:Fl->Bool | .next=>true | .cont=>true | .brk=>false | .ret _=>false | .err=>false
def DM (go:Lo->St->Option (Option Mv×List (Int×Int)×Lo×St))(r:List (Int×Int))(y:Yr×Lo×St):Option (Option Mv×List (Int×Int)×Lo×St):=match y.1 with
 | .yld v=>some (some v,r,y.2)
 | .fl f=>dS (Av f) (go y.2.1 y.2.2)
noncomputable def lu (I:ja)(n:Nat):List (Int×Int)->Lo->St->Option (Option Mv×List (Int×Int)×Lo×St)
 | [],lo,st=>some (ac,[],lo,st)
 | p :: r,lo,st=>(Fp I n lo st p.1 p.2).bind (DM (lu I n r) r)
noncomputable def Hw (p:Int×Int):Mv:=.pair (.int p.1) (.int p.2)
def qB (w:World)(env:Env)(it:Addr)(gs:bk):Prop:=
 ∃ k p F,gs=.suspended k [] (cS env it) p [F] false/\nR (x7 env) F/\∀ A' s'' Ψ,RT (Mq pg w) A' (cS env it) ((Mq pg w).den (cS env it)) [F] s'' Ψ->RT (Mq pg w) A' (cS env it) (k (.send .none)) [F] s'' Ψ
structure At (h:Heap) (R:aD) (it l:Addr) (rest:List (Int×Int)):Prop where
 go:∃ (i:Nat) (items:Array Value),h.IsListIter it l i/\h.IsList l items/\bz (V R h) (rest.map Hw) (items.toList.drop i)
 off:l∉R.cells
theorem oE {α:Type}{l:List α}{i:Nat}{a:α}{r:List α}(h:l.drop i=a :: r):l[i]? = some a/\l.drop (i+1)=r:=by
 have h1:l[i]? = (l.drop i)[0]?:=by simp
 have h2:l.drop (i+1)=(l.drop i).drop 1:=by rw [List.drop_drop]
 rw [h] at h1 h2
 exact ⟨by simpa using h1,by simpa using h2⟩
theorem uq {α:Type}{l:List α}{i:Nat}(h:l.drop i=[]):l[i]? = ac:=by
 have h1:l[i]? = (l.drop i)[0]?:=by simp
 rw [h] at h1
 simpa using h1
theorem zQ:dY (aJ 838) "first_segment_id" = true/\dY (aJ 838) "second_segment_id" = true:=by constructor<;>lk
section
variable {w:World}{R:aD}{L S:List Addr}{n:Nat}{env:Env}{s:ae}{st:St}{lo:Lo} {l:Addr}{rest rest':List (Int×Int)}
theorem Pg.wid {x:Addr}(P:Pg S R L h h'):Pg S R (x :: L) h h':=⟨λb o n1 n2 e=>P.old b o n1 (λq=>n2 (.tail _ q)) e,P.keep⟩
theorem Pg.oneRec {x:Addr}(k:fh h h')(e:ll x h h'):Pg S R (x :: L) h h':=⟨λb o _ n2 eb=>e b o (λq=>n2 (q▸.head _)) eb,k.keep _⟩
theorem jS (D:Wd w ab R st L h){fs:Array Value}(e:h.get? it=some o)(d:o.data=.fields fs):it∉R.cells/\it∉L:=by
 have:=gh D.cl e ⟨fs,d⟩
 exact ⟨λq=>this (bC _ q),λq=>this (aF _ q)⟩
theorem At.pg (D:Wd w ab R st L h)(P:Pg S R L h h')(hS:∀ a∈S,a∈L)(a:At h R it l rest):At h' R it l rest:=by
 obtain ⟨⟨i,items,⟨o,e,c,d⟩,⟨o2,e2,c2,d2⟩,al⟩,off⟩:=a
 have i1:=jS D e d
 have l1:l∉L:=λq=>by
  refine dJ (D.frames l q) λo' e' c' _=>?_
  rw [e2] at e';cases e'
  rw [c2] at c';trivial
 exact ⟨⟨i,items,⟨o,P.old _ _ i1.1 i1.2 e,c,d⟩,⟨o2,P.old _ _ off l1 e2,c2,d2⟩,al.imp λ_ _ y=>y.pg D P hS⟩,off⟩
theorem sR {F:Frame}(e:nR (x7 env) F){k:Nat}(O:Ok k A)(hk:n+1<=k)(Fr:Fs L A)(hL:env.locals∈L)(h0:ab.get? it=ac) :
  ∀ (rest:List (Int×Int)) (s:ae) (st:St) (m:Str->Option Value) (lo lo':Lo) (st':St) (r:Option Mv) (rest':List (Int×Int)),Wd w ab R st L s.heap->bZ env (aJ 838) s.heap m->ci R s.heap lo m->At s.heap R it l rest ->
  lu (fO n) n rest lo st=some (r,rest',lo',st') ->
  (∀ h' t' m',Wd w ab R st' L h'->Pg [env.locals] R (it :: L) s.heap h'->bZ env (aJ 838) h' m'->ci R h' lo' m'->match r with
   | ac=>Φ (.ret (.ok (.ret .none))) (up s h' t')
   | some v=>At h' R it l rest'->∀ u,V R h' v u->∀ k p,(∀ A' s'' Ψ,RT (Mq pg w) A' (cS env it) ((Mq pg w).den (cS env it)) [F] s'' Ψ->RT (Mq pg w) A' (cS env it) (k (.send .none)) [F] s'' Ψ)->Φ (.susp u false [] k (cS env it) p [F]) (up s h' t')) ->
  RT (Mq pg w) A (cS env it) ((Mq pg w).den (cS env it)) [F] s Φ:=by
 have g:Gf env (cS env it) [F]:=wz e rfl rfl (by show 3 * 0<=4;exact dB _)
 have O':Ok n (A.over (cS env it) [F]):=g.ok O hk
 intro rest
 induction rest with
 | nil =>
  intro s st m lo lo' st' r rest' D Fx Lo at_ hf hQ
  cases hf
  obtain ⟨⟨i,items,hi,hl,al⟩,off⟩:=at_
  have hx:items[i]? = ac:=(Array.getElem?_toList).symm.trans (uq (al.no (G:=λz=>z=[]) rfl))
  refine mN (zi (g.ok O hk).handled hi hl hx λh' x=>?_)
  refine dJ hi λo eo co d=>?_
  have kr:fh s.heap h':=.but eo d x
  exact e.2 _ _ _ _ _ (hQ h' s.toks m (D.but eo d h0 x) (.oneRec kr x) (Fx.recs kr) (Lo.recs D kr))
 | cons p rest ih =>
  obtain ⟨i,j⟩:=p
  intro s st m lo lo' st' r rest' D Fx Lo at_ hf hQ
  have Fr':=g.fs Fr Fx hL
  have Tp:=g.topm Fr
  obtain ⟨⟨q,items,hi,hl,al⟩,off⟩:=at_
  obtain ⟨x,us,hn,hv,al'⟩:=al.un (G:=λz=>∃ x us,z=x :: us/\V R s.heap (Hw (i,j)) x/\bz (V R s.heap) (rest.map Hw) us) λx us p q=>⟨x,us,rfl,p,q⟩
  obtain ⟨hx,hn'⟩:=oE hn
  refine mN (zj hi hl ((Array.getElem?_toList).symm.trans hx) λh1 hi1 x1=>?_)
  refine dJ hi λo eo co d=>?_
  have kr:fh s.heap h1:=.but eo d x1.extBut
  have D1:=D.but eo d h0 x1.extBut
  have hl1:h1.IsList l items:=by
   obtain ⟨o2,e2,c2,n2,d2⟩:=hl
   exact ⟨o2,kr _ _ e2 (by rw [d2];simp),c2,n2,d2⟩
  have at1:At h1 R it l rest:=⟨⟨q+1,items,hi1,hl1,by rw [hn'];exact al'.imp λ_ _ y=>y.recs D kr⟩,off⟩
  refine zs hi1 ?_
  refine DX (n:=n) D1 O' Fr' Tp (Fx.recs kr) (Lo.recs D kr) zQ.1 zQ.2 (hv.recs D kr) λh2 t2 m2 D2 P2 Fx2 Lo2=>?_
  have at2:=at1.pg D1 P2 (λa ha=>by rcases ah.mp ha with rfl;exact hL)
  have pg2:Pg [env.locals] R (it :: L) s.heap h2:=(Pg.oneRec kr x1.extBut).trans P2.wid
  refine aC (f:=DM (lu (fO n) n rest) rest) hf λz ht hf=>?_
  obtain ⟨y,lo1,bA⟩:=z
  refine yh O' Fr' Tp g.sp (pP Fx2) n sgB _ (up s h2 t2) _ _ _ _ ⟨D2,Fx2,Lo2⟩ ht (λq=>by have q:y=.fl .err:=q;subst q;exact ns hf) λh3 t3 m3 b P3=>?_
  have at3:=at2.pg D2 P3 (λa ha=>by rcases ah.mp ha with rfl;exact hL)
  have pg3:=pg2.trans (P3.wid (x:=it))
  cases y with
  | yld v =>
   cases hf
   exact λu hu p k hk'=>hQ h3 t3 m3 b.D pg3 b.F b.L at3 u hu k p λA' s'' Ψ hr=>hk' _ _ _ _ (ju rfl hr)
  | fl f =>
   refine ba (c:=Av f) hf λhg hf=>?_
   have z:RT (Mq pg w) A (cS env it) (.pure (.again (cS env it))) [F] (up s h3 t3) Φ:=
    ju rfl (ih (up s h3 t3) _ _ _ _ _ _ _ b.D b.F b.L at3 hf λh4 t4 m4 D4 P4 Fx4 Lo4=>hQ h4 t4 m4 D4 (pg3.trans P4) Fx4 Lo4)
   cases f with
   | cont=>exact z
   | next=>exact z
   | _=>cases hg
end
noncomputable abbrev mu (a b:Value):Obj:={ cls:=.type "tuple",data:=.seq #[a,b] 0 }
structure qq (ab:Heap) (C D:Addr) (xs:List (Value×Value)) (mm:Str->Option Value) (h:Heap):Prop where
 ns:h.Ns C mm
 acc:∃ us:List Value,h.IsList D us.toArray/\bz (λ(p:Value×Value) u=>∃ t,u=.ref t/\h.get? t=some (mu p.1 p.2)) xs us
 old:Sb ab h
section
variable {C D x:Addr}{xs:List (Value×Value)}{mm:Str->Option Value}{a b c:Int}
theorem qq.but (i:qq ab C D xs mm h)(e:ll x h h')(hC:x≠C)(hD:x≠D)(h0:ab.get? x=ac)(hx:∀ o,h.get? x=some o->o.cls≠.type "tuple"):qq ab C D xs mm h':=by
 refine bg i.acc λus hl al=>?_
 refine ⟨i.ns.extBut e (cb hC),⟨us,hl.extBut e (cb hD),al.imp λp u ⟨t,r,g⟩=>⟨t,r,e t _ (λq=>hx _ (q▸g) rfl) g⟩⟩,λb o q=>e b o (λz=>by rw [z,h0] at q;cases q) (i.old b o q)⟩
theorem qq.push (i:qq ab C D xs mm h)(o:Obj):qq ab C D xs mm (h.push o):=by
 refine bg i.acc λus hl al=>?_
 refine ⟨i.ns.push o,⟨us,hl.extBut (b:=h.objs.size) (λb ob _ e=>ak _ e) ?_,al.imp λp u ⟨t,r,g⟩=>⟨t,r,ak _ g⟩⟩,λb ob q=>ak _ (i.old b ob q)⟩
 refine bg hl λol hol _=>?_
 exact bV (bp hol)
theorem qq.nsPut {name:Str}{v:Value}(i:qq ab C D xs mm h)(hn:h'.Ns C (λy=>if y=name then some v else mm y))(e:bU C h h')(hCD:C≠D)(h0:ab.get? C=ac):qq ab C D xs (λy=>if y=name then some v else mm y) h':=by
 refine bg i.acc λus hl al=>?_
 refine qb i.ns λoC _ _ hC dC _=>?_
 refine ⟨hn,⟨us,hl.extBut e.extBut (cb hCD),al.imp λp u ⟨t,r,g⟩=>⟨t,r,e.extBut t _ (λq=>?_) g⟩⟩,λb o q=>e.extBut b o (λz=>by rw [z,h0] at q;cases q) (i.old b o q)⟩
 rw [q,hC] at g;cases g;cases dC
theorem qq.add {p:Value×Value}{t:Addr}(i:qq ab C D xs mm h)(hl:h.IsList D us.toArray)(al:bz (λ(p:Value×Value) u=>∃ t,u=.ref t/\h.get? t=some (mu p.1 p.2)) xs us)(ht:h.get? t=some (mu p.1 p.2))(hl':h'.IsList D (us.toArray.push (.ref t)))(e:bU D h h')(hCD:C≠D)(h0:ab.get? D=ac) :
  qq ab C D (xs++[p]) mm h':=by
 have nt:∀ z (q:Value×Value),h.get? z=some (mu q.1 q.2)->z≠D:=λz q g r=>by
  refine dJ hl λol hol hc _=>?_
  rw [r,hol] at g;cases g;simp at hc
 refine ⟨i.ns.extBut e.extBut hCD,⟨us++[.ref t],by simpa using hl',?_⟩,λb o q=>e.extBut b o (λz=>by rw [z,h0] at q;cases q) (i.old b o q)⟩
 exact (al.imp λq u ⟨z,r,g⟩=>⟨z,r,e.extBut z _ (nt z q g) g⟩).append (.cons ⟨t,rfl,e.extBut t _ (nt t p ht) ht⟩ .nil)
end
theorem mE (elt t1 i1 t2 i2:Expr)(sc:Scope)(pos:Pos)(it acc:Value)(env:Env):oV (.ListComp elt [⟨t1,i1,[],0⟩,⟨t2,i2,[],0⟩] sc pos) 0 it acc env=(do
  jQ i1.pos
  match <- pyNext it with
  | none=>pure (.done .next)
  | some v =>
   eJ t1 it v
   fy t1 env v
   let x <- eval i2 env
   jQ i2.pos
   let x <- ei i2 env x
   let _ <- runOwn (.compStart (.ListComp elt [⟨t1,i1,[],0⟩,⟨t2,i2,[],0⟩] sc pos) 1 (<- iF [x] (pyIter x)) acc env) env
   again (.compLoop (.ListComp elt [⟨t1,i1,[],0⟩,⟨t2,i2,[],0⟩] sc pos) 0 it acc env)):=by rfl
theorem mD (elt t1 i1 t2 i2:Expr)(sc:Scope)(pos:Pos)(it acc:Value)(env:Env):oV (.ListComp elt [⟨t1,i1,[],0⟩,⟨t2,i2,[],0⟩] sc pos) 1 it acc env=(do
  jQ i2.pos
  match <- pyNext it with
  | none=>pure (.done .next)
  | some v =>
   eJ t2 it v
   fy t2 env v
   (do let _ <- call (.builtin "list.append") [acc,<- eval elt env])
   again (.compLoop (.ListComp elt [⟨t1,i1,[],0⟩,⟨t2,i2,[],0⟩] sc pos) 1 it acc env)):=by rfl
section
variable {p:bF}{w:World}{s:ae}{C D:Addr}{env:Env}{elt i1 i2:Expr}{x1 x2:Str}{px1 px2:Pos}{R:ej->ae->Prop}
noncomputable abbrev LC (elt i1 i2:Expr)(x1 x2:Str)(px1 px2:Pos)(sc:Scope)(pos:Pos):Expr:=.ListComp elt [⟨.Name x1 px1,i1,[],0⟩,⟨.Name x2 px2,i2,[],0⟩] sc pos
def wR (p:bF)(w:World)(A:aw)(ab:Heap)(C D:Addr)(env:Env)(elt:Expr)(x1 x2:Str)(vals:List Value):Prop:=
 ∀ (s:ae) (mm:Str->Option Value) (xs:List (Value×Value)) (i j:Nat) (t1 t2:Tok) (v1 v2:Value) (Q:Value->ae->Prop),qq ab C D xs mm s.heap->mm x1=some (.int i t1)->mm x2=some (.int j t2)->vals[i]? = some v1->vals[j]? = some v2 ->
  Q (.ref s.heap.objs.size) { s with heap:=s.heap.push (mu v1 v2) }->wpAny (model p w) A (eval elt env) Q (λ_ _=>False) s
theorem qc {α:Type}{l:List α}(h:j < l.length):∃ a,l[j]? = some a/\l.drop j=a :: l.drop (j+1):=⟨l[j],by simp [h],List.drop_eq_getElem_cons h⟩
theorem vD {vals:List Value}{v1:Value}{i:Nat}{t1:Tok}(hh:A.handled=ac)(hk:env.scope.kind=.function)(hl2:env.kindOf x2=some .local)(hloc:env.locals=C)(hCD:C≠D)(hC0:ab.get? C=ac)(hD0:ab.get? D=ac)(hne:x1≠x2)
  (hiC:it≠C) (hiD:it≠D) (hi0:ab.get? it=ac) (hv1:vals[i]? = some v1) (he:wR p w A ab C D env elt x1 x2 vals) :
  ∀ (m j:Nat) (s:ae) (mm:Str->Option Value) (xs:List (Value×Value)),j+m=vals.length->qq ab C D xs mm s.heap->mm x1=some (.int i t1)->gF s.heap it (j:Nat) ((m:Nat):Int) 1->xs.length+m<=1000000 ->
   (∀ h' t' mm',qq ab C D (xs++(vals.drop j).map (v1,·)) mm' h'->mm' x1=some (.int i t1)->(∀ b o,b≠C->b≠D->b≠it->s.heap.get? b=some o->h'.get? b=some o)->R (.ok .next) (up s h' t')) ->
   bY (model p w) A (.compLoop (LC elt i1 i2 x1 x2 px1 px2 sc pos) 1 (.ref it) (.ref D) env) R s:=by
 intro m
 induction m with
 | zero =>
  intro j s mm xs hj ic h1 hit hsz hR
  refine bc ?_
  show wpAny _ A ((oV (LC elt i1 i2 x1 x2 px1 px2 sc pos) 1 (.ref it) (.ref D) env).onRaise (λx=>do dq x env;ca x)) _ _ s
  rw [mD]
  refine bS (ag (bl (ag (wpAny_pyNext_range_end hh hit (by simp) λh' e=>aj ?_))))
  have ic':=ic.but e hiC hiD hi0 (λo ho=>by rw [hit] at ho;cases ho;simp)
  have hd:vals.drop j=[]:=List.drop_eq_nil_of_le (by exact Nat.le_of_eq (Eq.symm ‹_›))
  exact hR h' s.toks mm (by rw [hd];simpa using ic') h1 λb o _ _ n3 eb=>e b o n3 eb
 | succ m ih =>
  intro j s mm xs hj ic h1 hit hsz hR
  refine bg (qc (l:=vals) (j:=j) (by exact Nat.lt_of_lt_of_eq (cr (Nat.succ_pos _)) ‹_›)) λv2 hv2 hd=>?_
  refine bc ?_
  show wpAny _ A ((oV (LC elt i1 i2 x1 x2 px1 px2 sc pos) 1 (.ref it) (.ref D) env).onRaise (λx=>do dq x env;ca x)) _ _ s
  rw [mD]
  refine bS (ag (bl (ag (wpAny_pyNext_range_item hit (Int.ofNat_lt.mpr (Nat.succ_pos m)) λha hita ea=>?_))))
  have ica:=ic.but ea.extBut hiC hiD hi0 (λo ho=>by rw [hit] at ho;cases ho;simp)
  refine ag (aj ?_)
  refine ag (wS (qr (m:=mm) hl2 (by rw [hloc];exact ica.ns) (λhb hnb eb=>?_) (by rw [hk];rfl)))
  rw [hloc] at hnb eb
  have icb:=ica.nsPut hnb eb hCD hC0
  refine ag (ag (aR (he _ _ _ i j t1 s.toks v1 v2 _ icb (by show (if x1=x2 then _ else mm x1)=_;rw [if_neg hne];exact h1) (by exact if_pos rfl) hv1 hv2 ?_) (λ_ _ x=>x) λ_ _ x=>x.elim))
  have icc:=icb.push (mu v1 v2)
  refine bg icc.acc λus hl al=>?_
  have hlen:us.length=xs.length:=al.length.symm
  refine ag (wpAny_list_append hl (λhd' hl' ed=>?_) (show us.length<=2 ^ 24 from au (Nat.le_of_eq hlen) (au (au (aE _ _) hsz) (by decide))))
  have tD:(hb.push (mu v1 v2)).get? hb.objs.size=some (mu v1 v2):=ar _ rfl
  have icd:=icc.add (p:=(v1,v2)) hl al tD hl' ed hCD hD0
  refine aj (aj ⟨rfl,ih (j+1) _ _ (xs++[(v1,v2)]) ((Nat.add_right_comm j 1 m).trans hj) icd (by show (if x1=x2 then _ else mm x1)=_;rw [if_neg hne];exact h1) ?_ (by rw [bG];show xs.length+1+m<=_;rw [Nat.add_assoc,Nat.add_comm 1 m];exact hsz) λh' t' mm' ic' h1' kp=>?_⟩)
  ·have e1:((j+1:Nat):Int)=(j:Int)+1:=rfl
   have e2:((m:Nat):Int)=(((m+1:Nat):Int)) - 1:=(Int.add_sub_cancel (m:Int) 1).symm
   rw [e1,e2]
   exact (ed.2 it hiD).trans (ak _ ((eb.2 it hiC).trans hita))
  ·refine hR h' t' mm' ?_ h1' λb o n1 n2 n3 q=>kp b o n1 n2 n3 (ed.extBut b o n2 (ak _ (eb.extBut b o n1 (ea.extBut b o n3 q))))
   rw [hd]
   simpa using ic'
noncomputable def FN:List Value->List (Value×Value)
 | []=>[]
 | x :: r=>r.map (x,·)++FN r
def Bk (p:bF)(w:World)(A:aw)(ab:Heap)(C D:Addr)(env:Env)(i2:Expr)(x1:Str)(n:Nat):Prop:=
 ∀ (s:ae) (mm:Str->Option Value) (xs:List (Value×Value)) (i:Nat) (t1:Tok) (Q:Value->ae->Prop),qq ab C D xs mm s.heap->mm x1=some (.int i t1)->i < n ->
  (∀ h' t' r a b c,IsRange h' r ((i:Int)+1) n 1 a b c->(Sb s.heap h')->qq ab C D xs mm h'->Q (.ref r) (up s h' t'))->wpAny (model p w) A (eval i2 env) Q (λ_ _=>False) s
theorem rT {k:Nat}(h:k<=1001):mx (k:Int)=true:=
 bP.mpr ⟨decide_eq_true (Int.le_trans (by decide) (Int.natCast_nonneg k)),decide_eq_true (Int.lt_of_le_of_lt (Int.ofNat_le.mpr h) (by decide))⟩
theorem DP {a n:Nat}(h1:a<=n):gw a n 1=((n - a:Nat):Int):=by
 show (if (1:Int) > 0 then (if (a:Int) < n then ((n:Int) - a - 1) / 1+1 else 0) else _)=_
 rw [if_pos (by decide)]
 rcases Nat.lt_or_eq_of_le h1 with h | h
 ·rw [if_pos (Int.ofNat_lt.mpr h),Int.ediv_one,Int.sub_add_cancel,Int.ofNat_sub h1]
 ·subst h;rw [if_neg (Int.lt_irrefl _),Nat.sub_self];rfl
theorem jV {a n:Nat}(h1:a<=n)(h2:n<=1000):iV a n 1=true/\gw a n 1=((n - a:Nat):Int):=by
 have z:n<=1001:=Nat.le_succ_of_le h2
 refine ⟨?_,DP h1⟩
 unfold iV
 rw [DP h1,rT (au h1 z),rT z,show mx 1=true from rT (k:=1) (by decide),rT (au (Nat.sub_le n a) z),if_pos (show (1:Int) > 0 by decide),show mx ((n:Int)+(1 - 1))=true from (Int.add_zero (n:Int)).symm▸rT z,Bool.or_true]
 rfl
theorem qP {x left step:Int}(hit:gF s.heap it x left step)(h:Q (.ref it) s):wpAny (model p w) A (pyIter (.ref it)) Q E s:=by
 have hT:s.TypeIs (.ref it) "range_iterator":=⟨_,hit,rfl⟩
 refine wpAny_pyIter_slot hT F.slot_range_iterator_iter (wpAny_call_entry F.slot_range_iterator_iter hT F.entry_range_iterator_iter ?_ (F.args_range_iterator_iter_1 _))
 exact aj ⟨_,rfl,"range_iterator",_,hT,F.slot_range_iterator_next.lookup,h⟩
theorem vC {vals:List Value}(hh:A.handled=ac)(hk:env.scope.kind=.function)(hl1:env.kindOf x1=some .local)(hl2:env.kindOf x2=some .local)(hloc:env.locals=C)(hCD:C≠D)(hC0:ab.get? C=ac)(hD0:ab.get? D=ac)(hne:x1≠x2)
  (hiC:it≠C) (hiD:it≠D) (hi0:ab.get? it=ac) (he:wR p w A ab C D env elt x1 x2 vals) (hr:Bk p w A ab C D env i2 x1 vals.length) (hfs:∀ x,ei i2 env x=pure x) (hz:vals.length<=1000) :
  ∀ (m i:Nat) (s:ae) (mm:Str->Option Value) (xs:List (Value×Value)),i+m=vals.length->qq ab C D xs mm s.heap->gF s.heap it (i:Nat) ((m:Nat):Int) 1->xs.length+m * 1000<=1000000 ->
   (∀ h' t' mm',qq ab C D (xs++FN (vals.drop i)) mm' h'->R (.ok .next) (up s h' t')) ->
   bY (model p w) A (.compLoop (LC elt i1 i2 x1 x2 px1 px2 sc pos) 0 (.ref it) (.ref D) env) R s:=by
 intro m
 induction m with
 | zero =>
  intro i s mm xs hi ic hit hsz hR
  refine bc ?_
  show wpAny _ A ((oV (LC elt i1 i2 x1 x2 px1 px2 sc pos) 0 (.ref it) (.ref D) env).onRaise (λx=>do dq x env;ca x)) _ _ s
  rw [mE]
  refine bS (ag (bl (ag (wpAny_pyNext_range_end hh hit (by simp) λh' e=>aj ?_))))
  have ic':=ic.but e hiC hiD hi0 (λo ho=>by rw [hit] at ho;cases ho;simp)
  have hd:vals.drop i=[]:=List.drop_eq_nil_of_le (by exact Nat.le_of_eq (Eq.symm ‹_›))
  exact hR h' s.toks mm (by rw [hd];simpa [FN] using ic')
 | succ m ih =>
  intro i s mm xs hi ic hit hsz hR
  refine bg (qc (l:=vals) (j:=i) (Nat.lt_of_lt_of_eq (cr (Nat.succ_pos m)) hi)) λv1 hv1 hd=>?_
  refine bc ?_
  show wpAny _ A ((oV (LC elt i1 i2 x1 x2 px1 px2 sc pos) 0 (.ref it) (.ref D) env).onRaise (λx=>do dq x env;ca x)) _ _ s
  rw [mE]
  refine bS (ag (bl (ag (wpAny_pyNext_range_item hit (Int.ofNat_lt.mpr (Nat.succ_pos m)) λha hita ea=>?_))))
  have ica:=ic.but ea.extBut hiC hiD hi0 (λo ho=>by rw [hit] at ho;cases ho;simp)
  refine ag (aj ?_)
  refine ag (wS (qr (m:=mm) hl1 (by rw [hloc];exact ica.ns) (λhb hnb eb=>?_) (by rw [hk];rfl)))
  rw [hloc] at hnb eb
  have icb:=ica.nsPut hnb eb hCD hC0
  have h1:(λy=>if y=x1 then some (jA i s.toks) else mm y) x1=some (.int i s.toks):=by simp
  have hitb:gF hb it ((i:Int)+1) (((m+1:Nat):Int) - 1) 1:=(eb.2 it hiC).trans hita
  refine ag (aR (hr _ _ _ i s.toks _ icb h1 (Nat.lt_of_lt_of_eq (cr (Nat.succ_pos m)) hi) λhc tc r ta tb tc' hrg kc icc=>?_) (λ_ _ x=>x) λ_ _ x=>x.elim)
  refine ag (bl (ag (gC (hfs _) ?_)))
  obtain ⟨sm,rs⟩:=jV (a:=i+1) (n:=vals.length) (Nat.lt_of_lt_of_eq (cr (Nat.succ_pos m)) hi) hz
  have e0:((i+1:Nat):Int)=(i:Int)+1:=rfl
  rw [e0] at sm rs
  refine ag (aX (wpAny_pyIter_range hrg sm ?_))
  rw [rs]
  have icd:=icc.push { cls:=.type "range_iterator",data:=.fields #[fG ((i:Int)+1),fG ((vals.length - (i+1):Nat):Int),fG 1] }
  generalize hd':(hc.push { cls:=.type "range_iterator",data:=.fields #[fG ((i:Int)+1),fG ((vals.length - (i+1):Nat):Int),fG 1] })=hdd at icd
  have hI:gF hdd hc.objs.size ((i:Int)+1) ((vals.length - (i+1):Nat):Int) 1:=by rw [<- hd'];exact ar _ rfl
  have fresh:∀ b o,hc.get? b=some o->b≠hc.objs.size:=λb o e=>bV (bp e)
  have nC:hc.objs.size≠C:=by refine kW icc.ns λoC _ _ e _=>?_;exact (fresh _ _ e).symm
  have nD:hc.objs.size≠D:=by refine bg icc.acc λus y4 _=>?_;refine bg y4 λoD e _=>?_;exact (fresh _ _ e).symm
  have n0:ab.get? hc.objs.size=ac:=by
   cases q:ab.get? hc.objs.size with
   | none=>rfl
   | some o=>exact absurd rfl (fresh _ _ (icc.old _ _ q))
  have hitd:gF hdd it ((i:Int)+1) (((m+1:Nat):Int) - 1) 1:=by rw [<- hd'];exact ak _ (kc _ _ hitb)
  have nit:it≠hc.objs.size:=fresh _ _ (kc _ _ hitb)
  have key:∀ (R':ej->ae->Prop),(∀ h' t',bY (model p w) A (.compLoop (LC elt i1 i2 x1 x2 px1 px2 sc pos) 0 (.ref it) (.ref D) env) R (up s h' t')->R' (.ok .next) (up s h' t')) ->
    bY (model p w) A (.compLoop (LC elt i1 i2 x1 x2 px1 px2 sc pos) 1 (.ref hc.objs.size) (.ref D) env) R' (up s hdd tc):=by
   intro R' hR'
   refine vD (i:=i) (t1:=s.toks) hh hk hl2 hloc hCD hC0 hD0 hne nC nD n0 hv1 he (vals.length - (i+1)) (i+1) _ _ xs (Nat.add_sub_of_le (Nat.lt_of_lt_of_eq (cr (Nat.succ_pos m)) hi)) icd h1 (by rw [e0];exact hI) (au (aT (au (Nat.sub_le _ _) (au hz (Nat.le_mul_of_pos_left 1000 (Nat.succ_pos m)))) _) hsz) λh' t' mm' ic' h1' kp=>?_
   refine hR' h' t' (ih (i+1) _ mm' _ ((Nat.add_right_comm i 1 m).trans hi) ic' ?_ ?_ λh'' t'' mm'' ic''=>?_)
   ·have:=kp it _ hiC hiD nit hitd
    rw [e0]
    have e2:((m:Nat):Int)=(((m+1:Nat):Int)) - 1:=(Int.add_sub_cancel (m:Int) 1).symm
    rw [e2];exact this
   ·rw [bG,bW,List.length_drop]
    exact au (Nat.add_le_add_right (aT (au (Nat.sub_le _ _) hz) _) _) (by rw [Nat.add_assoc,Nat.add_comm 1000,<- Nat.succ_mul];exact hsz)
   ·refine hR h'' t'' mm'' ?_
    rw [hd,FN]
    simpa [List.append_assoc] using ic''
  subst hd'
  refine ag (wpAny_runOwn ?_)
  refine bc ?_
  show wpAny _ A ((compStart (LC elt i1 i2 x1 x2 px1 px2 sc pos) 1 (.ref hc.objs.size) (.ref D) env).onRaise (λx=>do dq x env;jQ theWindowsPlace)) _ _ _
  refine bS ?_
  unfold compStart
  refine ag (gk (wpAny_ite ?_))
  split
  ·exact aj (jJ rfl (key _ λh' t' hc'=>aj ⟨rfl,hc'⟩))
  ·refine ag (gH ?_)
   refine ag (bl (ag (qP (x:=(i:Int)+1) (left:=((vals.length - (i+1):Nat):Int)) (step:=1) (ar _ rfl) (aj (jJ rfl (key _ λh' t' hc'=>aj ⟨rfl,hc'⟩))))))
end
theorem qq.mono {H:Heap}{C D:Addr}{xs:List (Value×Value)}{mm:Str->Option Value}(i:qq H C D xs mm h)(k:Sb ab H):qq ab C D xs mm h:=⟨i.ns,i.acc,λb o e=>i.old b o (k b o e)⟩
structure CP (n:Nat) (ab:Heap) (C D it:Addr) (mm:Str->Option Value) (h:Heap):Prop where
 ns:h.Ns C mm
 dl:IsL h D ([]:List Value).toArray 0
 old:Sb ab h
 iter:gF h it ((0:Nat):Int) ((n:Nat):Int) 1
 c0:ab.get? C=ac
 d0:ab.get? D=ac
 i0:ab.get? it=ac
 cd:C≠D
 ic:it≠C
 id:it≠D
 lt:it < C
section
variable {p:bF}{w:World}{s:ae}{env:Env}{elt i1 i2:Expr}{x1 x2:Str}{px1 px2:Pos}{cl:List (Str×Addr)}
theorem AP {n:Nat}{gs:List Comprehension}(hcell:∀ y∈sc.names,y.2≠.cell)(hkind:sc.kind=.function)(hclos:cU sc env=pure cl)
  (hnames:∀ x∈sc.names,x.2=.local->sc.names.lookup x.1=some .local) (hs1:∀ x,ei i1 env x=pure x) (hz:n<=1000)
  (first:∀ (Q':Value->ae->Prop),(∀ h' t' r a b c,IsRange h' r 0 n 1 a b c->(Sb s.heap h')->Q' (.ref r) (up s h' t'))->wpAny (model p w) A (eval i1 env) Q' E s)
  (loop:∀ aa t C D it mm,CP n s.heap C D it mm aa->bY (model p w) A (.compLoop (.ListComp elt (⟨.Name x1 px1,i1,[],0⟩ :: gs) sc pos) 0 (.ref it) (.ref D) (bQ sc cl C env)) (compPost (model p w) A E ac Q (.ref D) C) (up s aa t)) :
  wpAny (model p w) A (eval (.ListComp elt (⟨.Name x1 px1,i1,[],0⟩ :: gs) sc pos) env) Q E s:=by
 rw [eval_ListComp]
 refine n5 rfl hs1 hclos hkind hnames ?_
 refine first _ λha ta r ra rb rc hrg ka=>?_
 obtain ⟨sm,rs⟩:=jV (a:=0) (n:=n) (dB _) hz
 refine wpAny_pyIter_range hrg sm ?_
 rw [show ((0:Nat):Int)=0 from rfl] at rs
 rw [rs]
 have hI:gF (ha.push { cls:=.type "range_iterator",data:=.fields #[fG 0,fG ((n:Nat):Int),fG 1] }) ha.objs.size ((0:Nat):Int) ((n:Nat):Int) 1:=ar _ rfl
 have kb:Sb s.heap (ha.push { cls:=.type "range_iterator",data:=.fields #[fG 0,fG ((n:Nat):Int),fG 1] }):=λb o e=>ak _ (ka b o e)
 have iN:s.heap.get? ha.objs.size=ac:=fS ka (aB (aQ _))
 have sz:(ha.push { cls:=.type "range_iterator",data:=.fields #[fG 0,fG ((n:Nat):Int),fG 1] }).objs.size=ha.objs.size+1:=bN ..
 generalize ha.push { cls:=.type "range_iterator",data:=.fields #[fG 0,fG ((n:Nat):Int),fG 1] }=hb at hI kb sz ⊢
 generalize ha.objs.size=it at hI iN sz ⊢
 refine g9 (wpAny_newFunctionEnv hcell (by intro y hy;simp at hy) (λaa aad aae=>?_) hkind)
 dsimp only at aad aae ⊢
 have kl:Sb hb (hb.push { cls:=.type "list",dict:=none,data:=.seq ([]:List Value).toArray }):=λb o e=>ak _ e
 have dl:IsL (hb.push { cls:=.type "list",dict:=none,data:=.seq ([]:List Value).toArray }) hb.objs.size ([]:List Value).toArray 0:=ar _ rfl
 have sz2:(hb.push { cls:=.type "list",dict:=none,data:=.seq ([]:List Value).toArray }).objs.size=hb.objs.size+1:=bN ..
 have dN:hb.get? hb.objs.size=ac:=aB (aQ _)
 generalize hb.push { cls:=.type "list",dict:=none,data:=.seq ([]:List Value).toArray }=h2 at aad aae kl dl sz2 ⊢
 generalize hb.objs.size=D at sz dN dl sz2 ⊢
 have cN:h2.get? h2.objs.size=ac:=aB (aQ _)
 have l1:it < h2.objs.size:=by rw [sz2,sz];exact eV (cD _)
 have n1:h2.objs.size≠D:=by rw [sz2];exact jF _
 generalize h2.objs.size=C at aad aae cN l1 n1 ⊢
 have k1:Sb h2 aa:=λb o e=>aae.extBut b o (λq=>ns (cN.symm.trans (q▸e))) (ak _ e)
 have cp:CP n s.heap C D it _ aa:=⟨aad,k1 _ _ dl,λb o e=>k1 b o (kl b o (kb b o e)),k1 _ _ (kl _ _ hI),fS (λb o e=>kl b o (kb b o e)) cN,fS kb dN,iN,n1,bV l1,λq=>ns (dN.symm.trans (q▸hI)),l1⟩
 refine bc ?_
 show wpAny _ A ((compStart _ 0 (.ref it) (.ref D) (bQ sc cl C env)).onRaise (λx=>do dq x (bQ sc cl C env);jQ theWindowsPlace)) _ _ _
 refine bS ?_
 unfold compStart
 show wpAny _ _ (ask >>= _) _ _ _
 refine ag (gk (wpAny_ite ?_))
 split
 ·exact aj (jJ rfl (loop _ _ _ _ _ _ cp))
 ·refine ag (gH ?_)
  show wpAny _ _ (jQ i1.pos >>= _) _ _ _
  exact ag (bl (ag (qP cp.iter (aj (jJ rfl (loop _ _ _ _ _ _ cp))))))
theorem comp2 {vals:List Value}(hh:A.handled=ac)(hcell:∀ y∈sc.names,y.2≠.cell)(hkind:sc.kind=.function)(hx1:sc.names.lookup x1=some .local)(hx2:sc.names.lookup x2=some .local)(hclos:cU sc env=pure cl)
  (hnames:∀ x∈sc.names,x.2=.local->sc.names.lookup x.1=some .local) (hne:x1≠x2) (hs1:∀ x,ei i1 env x=pure x) (hs2:∀ env x,ei i2 env x=pure x) (hz:vals.length<=1000)
  (he:∀ C D,wR p w A s.heap C D (bQ sc cl C env) elt x1 x2 vals) (hr:∀ C D,Bk p w A s.heap C D (bQ sc cl C env) i2 x1 vals.length)
  (first:∀ (Q':Value->ae->Prop),(∀ h' t' r a b c,IsRange h' r 0 vals.length 1 a b c->(Sb s.heap h')->Q' (.ref r) (up s h' t'))->wpAny (model p w) A (eval i1 env) Q' E s)
  (hQ:∀ h' t' D us,(Sb s.heap h')->h'.IsList D us.toArray->bz (λ(p:Value×Value) u=>∃ t,u=.ref t/\h'.get? t=some (mu p.1 p.2)) (FN vals) us->s.heap.get? D=ac->Q (.ref D) (up s h' t')) :
  wpAny (model p w) A (eval (LC elt i1 i2 x1 x2 px1 px2 sc pos) env) Q E s:=
 AP hcell hkind hclos hnames hs1 hz first λaa t C D it mm c=>by
  refine vC (s:=up s aa t) (ab:=s.heap) (env:=bQ sc cl C env) (C:=C) hh (by rw [bQ,dw,hkind]) (fa hx1) (fa hx2) rfl c.cd c.c0 c.d0 hne c.ic c.id c.i0 (he C D) (hr C D) (hs2 _) hz vals.length 0 mm [] (Nat.zero_add _) ⟨c.ns,⟨[],⟨_,c.dl,rfl,0,rfl⟩,.nil⟩,c.old⟩ c.iter
   (by rw [List.length_nil,Nat.zero_add];exact Nat.mul_le_mul hz (aQ _)) λh' t' mm' ic'=>⟨mm',ic'.ns,λh'' sb=>?_⟩
  refine bg ic'.acc λus hl al=>?_
  refine qb ic'.ns λoC _ _ eC dC _=>?_
  have ex:=sb.extBut
  exact hQ h'' t' D us (λb o e=>ex b o (λz=>ns (c.c0.symm.trans (z▸e))) (ic'.old b o e)) (hl.extBut ex (cb c.cd)) (al.imp λq u ⟨z,r,g⟩=>⟨z,r,ex z _ (λzz=>by rw [zz,eC] at g;cases g;cases dC) g⟩) c.d0
end
def nF (e:Expr):Expr×List Comprehension×Scope×Pos:=(ee e 0,(xZ e).2.2.1,(xZ e).2.2.2,e.pos)
def cElt:Expr:=(nF DL).1
def nY:Scope:=(nF DL).2.2.1
def cPos:Pos:=(nF DL).2.2.2
def cIt (i:Nat):Expr:=((nF DL).2.1.map (·.iter)).getD i default
def cTg (i:Nat):Pos:=((nF DL).2.1.map (·.target.pos)).getD i default
def cI1:Expr:=cIt 0
def cI2:Expr:=cIt 1
def cP1:Pos:=cTg 0
def cP2:Pos:=cTg 1
theorem Fq:DL=LC cElt cI1 cI2 "first" "second" cP1 cP2 nY cPos:=by lk
section
variable {w:World}{s:ae}{env:Env}
theorem Cs {pos:Pos}{v:Value}(hk:env.scope.kind=.function)(hgl:env.globals=bM)(hbl:env.builtins=gK)(G:Gd w aa)(b:Sb aa s.heap)(hQ:Q v s)(hl:env.kindOf xs=some .globalImplicit)
  (hg:∀ P,nsIn (K P) bM xs=some none:=by intro P;lk) (hb:bootBuiltins xs=some v:=by lk) (hne:(xs == ("__name__" : Str))=false:=by lk) (hd:(xs == ("__debug__" : Str))=false:=by lk) :
  wpAny (Md w) A (eval (.Name xs pos) env) Q E s:=by
 refine uk G.T λp l mean mg mb T=>?_
 have hm:mb xs=some v:=(T.builtins xs (λq=>by rw [q] at hne;simp at hne)).trans hb
 refine je hk hl (loadGlobal_builtin (mg:=mg) (mb:=mb) ?_ (ns_none_of G.X T.g (hg w.params)) ?_ hm hQ) hd
 ·rw [hgl];exact T.g.keeps b
 ·rw [hbl];exact T.b.keeps b
end
structure IdsAt (h:Heap) (env:Env) (vals:List Value):Prop where
 cell:∃ c X k,env.cells.lookup ("segments_ids" : Str)=some c/\h.IsCell c (some (.ref X))/\IsL h X vals.toArray k
section
variable {w:World}{env:Env}{s:ae}{vals:List Value}{C D c X:Addr}{k:Nat}
theorem DR (F:env.scope=aJ 838):(∀ x,(dw nY env).names.lookup x=(dw nY { (default:Env) with scope:=aJ 838 }).names.lookup x):=by
 intro x
 unfold dw Env.kindOf
 rw [F]
theorem GQ (F:bZ env (aJ 838) s.heap m)(hc:env.cells.lookup ("segments_ids" : Str)=some c)(hcc:s.heap.IsCell c (some (.ref X)))(hX:IsL s.heap X vals.toArray k)(hz:vals.length<=1000) :
  wR pg w A s.heap C D (bQ nY [("segments_ids",c)] C env) cElt "first" "second" vals:=by
 intro s' mm xs i j t1 t2 v1 v2 Q ic h1 h2 hv1 hv2 hq
 have kd:=DR F.sce
 have kk:(bQ nY [("segments_ids",c)] C env).scope.kind=.function:=by show nY.kind=_;lk
 have k0:(bQ nY [("segments_ids",c)] C env).kindOf "segments_ids" = some .cell:=by show (dw nY env).names.lookup _=_;rw [kd];lk
 have k1:(bQ nY [("segments_ids",c)] C env).kindOf "first" = some .local:=by show (dw nY env).names.lookup _=_;rw [kd];lk
 have k2:(bQ nY [("segments_ids",c)] C env).kindOf "second" = some .local:=by show (dw nY env).names.lookup _=_;rw [kd];lk
 have cc:s'.heap.IsCell c (some (.ref X)):=by refine bg hcc λo e d=>?_;exact ⟨o,ic.old _ _ e,d⟩
 have hX':IsL s'.heap X vals.toArray k:=ic.old _ _ hX
 have i1:i < vals.length:=(bu.mp hv1).1
 have j1:j < vals.length:=(bu.mp hv2).1
 with_unfolding_all show wpAny _ _ (eval (.Tuple [.Subscript (.Name _ _) (.Name _ _) _,.Subscript (.Name _ _) (.Name _ _) _] _ _) _) _ _ _
 have get:∀ (i:Nat) (t:Tok) (v:Value) (Q:Value->ae->Prop),i < vals.length->vals[i]? = some v->Q v s'->wpAny (Md w) A (getItem (.ref X) (.int i t)) Q (λ_ _=>False) s':=λi t v Q hi hv hq =>
  iE hX' (j:=i) (kz hi) (au hz (by decide)) hv hq
 refine im (am (ie (cA (ds kk k0 rfl cc (cA (bL kk k1 ic.ns h1 (jj (eQ hX').typeIs slot_list_getitem.lookup (get i t1 v1 _ i1 hv1 ?_) rfl)))))))
 refine am (ie (cA (ds kk k0 rfl cc (cA (bL kk k2 ic.ns h2 (jj (eQ hX').typeIs slot_list_getitem.lookup (get j t2 v2 _ j1 hv2 ?_) rfl))))))
 exact az ⟨by show 2<=2 ^ 24;decide,hq⟩
theorem Fw (G:Gd w aa)(hb:Sb aa s.heap)(hh:A.handled=ac)(F:bZ env (aJ 838) s.heap m)(hc:env.cells.lookup ("segments_ids" : Str)=some c)(hcc:s.heap.IsCell c (some (.ref X)))(hX:IsL s.heap X vals.toArray k)(hz:vals.length<=1000) :
  Bk pg w A s.heap C D (bQ nY [("segments_ids",c)] C env) cI2 "first" vals.length:=by
 intro s' mm xs i t1 Q ic h1 hi hq
 have kd:=DR F.sce
 have kk:(bQ nY [("segments_ids",c)] C env).scope.kind=.function:=by show nY.kind=_;lk
 have k0:(bQ nY [("segments_ids",c)] C env).kindOf "segments_ids" = some .cell:=by show (dw nY env).names.lookup _=_;rw [kd];lk
 have k1:(bQ nY [("segments_ids",c)] C env).kindOf "first" = some .local:=by show (dw nY env).names.lookup _=_;rw [kd];lk
 have kr:(bQ nY [("segments_ids",c)] C env).kindOf "range" = some .globalImplicit:=by show (dw nY env).names.lookup _=_;rw [kd];lk
 have kl:(bQ nY [("segments_ids",c)] C env).kindOf "len" = some .globalImplicit:=by show (dw nY env).names.lookup _=_;rw [kd];lk
 have cc:s'.heap.IsCell c (some (.ref X)):=by refine bg hcc λo e d=>?_;exact ⟨o,ic.old _ _ e,d⟩
 have hX':IsL s'.heap X vals.toArray k:=ic.old _ _ hX
 have hb':Sb aa s'.heap:=λb o e=>ic.old b o (hb b o e)
 with_unfolding_all show wpAny _ _ (eval (.Call (.Name _ _) [.BinOp (.Name _ _) .Add (.Constant (.int 1) _ _) _,.Call (.Name _ _) [.Name _ _] [] _] [] _) _) _ _ _
 refine aN (Cs (v:=.type "range") kk F.glob F.blt G hb' ?_ kr)
 refine cw (am (dR (cA (bL kk k1 ic.ns h1 (bD (add_int ?_))))))
 refine am (aN (Cs (v:=.builtin "len") kk F.glob F.blt G hb' ?_ kl))
 refine cw (am (cA (ds kk k0 rfl cc (az ⟨xq,len_list (eQ hX') (pT hz) ?_⟩))))
 refine az ⟨Bu,?_⟩
 refine call_range_2 ?_
 have sz:((vals.toArray.size:Nat):Int)=(vals.length:Int):=rfl
 rw [sz]
 exact hq _ _ _ _ _ _ (ar _ rfl) (λb o e=>ak _ e) (ic.push _)
theorem GA (G:Gd w aa)(hb:Sb aa s.heap)(F:bZ env (aJ 838) s.heap m)(hc:env.cells.lookup ("segments_ids" : Str)=some c)(hcc:s.heap.IsCell c (some (.ref X)))(hX:IsL s.heap X vals.toArray k)(hz:vals.length<=1000) 
  (Q':Value->ae->Prop) (hq:∀ h' t' r a b c,IsRange h' r 0 vals.length 1 a b c->(Sb s.heap h')->Q' (.ref r) (up s h' t')):wpAny (Md w) A (eval cI1 env) Q' E s:=by
 have kk:env.scope.kind=.function:=by rw [F.sce];exact F.kind
 have k0:env.kindOf "segments_ids" = some .cell:=by show env.scope.names.lookup _=_;rw [F.sce];lk
 have kr:env.kindOf "range" = some .globalImplicit:=by show env.scope.names.lookup _=_;rw [F.sce];lk
 have kl:env.kindOf "len" = some .globalImplicit:=by show env.scope.names.lookup _=_;rw [F.sce];lk
 with_unfolding_all show wpAny _ _ (eval (.Call (.Name _ _) [.Call (.Name _ _) [.Name _ _] [] _] [] _) _) _ _ _
 refine aN (Cs (v:=.type "range") kk F.glob F.blt G hb ?_ kr)
 refine cw (am (aN (Cs (v:=.builtin "len") kk F.glob F.blt G hb ?_ kl)))
 refine cw (am (cA (ds kk k0 hc hcc (az ⟨xq,len_list (eQ hX) (pT hz) ?_⟩))))
 refine az ⟨Bu,?_⟩
 refine call_range_1 ?_
 have sz:((vals.toArray.size:Nat):Int)=(vals.length:Int):=rfl
 rw [sz]
 exact hq _ _ _ _ _ _ (ar _ rfl) (λb o e=>ak _ e)
theorem Di (hc:env.cells.lookup ("segments_ids" : Str)=some c):cU nY env=pure [(("segments_ids" : Str),c)]:=by
 have e:nY.names=[((".0" : Str),NameKind.local),(("first" : Str),NameKind.local),(("second" : Str),NameKind.local),(("range" : Str),oX),(("len" : Str),oX),(("segments_ids" : Str),oK)]:=by lk
 have hco:cellOf env ("segments_ids" : Str)=pure c:=by unfold cellOf;rw [hc]
 unfold cU
 rw [e]
 have l1:(NameKind.local == oK)=false:=rfl
 have l2:(oX == oK)=false:=rfl
 have l3:(oK == oK)=true:=rfl
 simp only [iz,List.forIn_nil,l1,l2,l3,bX,if_false,if_true,hco]
 rfl
theorem C7 (G:Gd w aa)(hb:Sb aa s.heap)(hh:A.handled=ac)(F:bZ env (aJ 838) s.heap m)(hc:env.cells.lookup ("segments_ids" : Str)=some c)(hcc:s.heap.IsCell c (some (.ref X)))(hX:IsL s.heap X vals.toArray k)(hz:vals.length<=1000) 
  (hQ:∀ h' t' D us,(Sb s.heap h')->h'.IsList D us.toArray->bz (λ(p:Value×Value) u=>∃ t,u=.ref t/\h'.get? t=some (mu p.1 p.2)) (FN vals) us->s.heap.get? D=ac->Q (.ref D) (up s h' t')) :
  wpAny (Md w) A (eval DL env) Q E s:=by
 rw [Fq]
 refine comp2 (vals:=vals) hh ?_ (by lk) (by lk) (by lk) (Di hc) ?_ (by decide) (λx=>by with_unfolding_all rfl) (λenv x=>by with_unfolding_all rfl) hz (λC D=>GQ F hc hcc hX hz) (λC D=>Fw G hb hh F hc hcc hX hz) (λQ' hq=>GA G hb F hc hcc hX hz Q' hq) hQ
 ·have:(nY.names.all λx=>!(x.2 == .cell))=true:=by lk
  simpa using this
 ·have:(nY.names.all λx=>!(x.2 == .local) || nY.names.lookup x.1 == some .local)=true:=by lk
  intro x hx he
  have:=bj.mp this x hx
  rw [he] at this
  simpa using this
end
noncomputable def n9:List Int->List (Int×Int)
 | []=>[]
 | x :: r=>r.map (x,·)++n9 r
theorem FM {R:aD}(k:Sb h h'):∀ {ids:List Int}{vals us:List Value},bz (V R h) (ids.map .int) vals->bz (λ(p:Value×Value) u=>∃ t,u=.ref t/\h'.get? t=some (mu p.1 p.2)) (FN vals) us->bz (V R h') ((n9 ids).map Hw) us:=by
 have one:∀ {i j:Int}{a b u:Value},V R h (.int i) a->V R h (.int j) b->(∃ t,u=.ref t/\h'.get? t=some (mu a b))->V R h' (Hw (i,j)) u:=by
  intro i j a b u ha hb ⟨t,e,g⟩
  subst e
  cases ha;cases hb
  exact .pair ⟨#[],g⟩ (.int _ _) (.int _ _)
 have row:∀ {i:Int}{a:Value}{js:List Int}{bs us:List Value},V R h (.int i) a->bz (V R h) (js.map .int) bs->bz (λ(p:Value×Value) u=>∃ t,u=.ref t/\h'.get? t=some (mu p.1 p.2)) (bs.map (a,·)) us->bz (V R h') ((js.map (i,·)).map Hw) us:=by
  intro i a js
  induction js with
  | nil =>
   intro bs us _ hb hu
   cases hb
   cases hu
   exact .nil
  | cons j js ih =>
   intro bs us ha hb hu
   cases hb with | cons h1 hb =>
   cases hu with | cons h2 hu =>
   exact .cons (one ha h1 h2) (ih ha hb hu)
 intro ids
 induction ids with
 | nil =>
  intro vals us hv hu
  cases hv
  cases hu
  exact .nil
 | cons i ids ih =>
  intro vals us hv hu
  cases hv with | @cons _ a _ bs h1 hv =>
  have split:∀ {l l':List (Value×Value)}{us:List Value},bz (λ(p:Value×Value) u=>∃ t,u=.ref t/\h'.get? t=some (mu p.1 p.2)) (l++l') us->∃ u1 u2,us=u1++u2/\bz (λ(p:Value×Value) u=>∃ t,u=.ref t/\h'.get? t=some (mu p.1 p.2)) l u1/\bz (λ(p:Value×Value) u=>∃ t,u=.ref t/\h'.get? t=some (mu p.1 p.2)) l' u2:=by
   intro l
   induction l with
   | nil=>intro l' us h;exact ⟨[],us,rfl,.nil,h⟩
   | cons x l ih2 =>
    intro l' us h
    cases h with | cons a h =>
    refine xI (ih2 h) λu1 u2 y11 b c=>?_;subst y11
    exact ⟨_ :: u1,u2,rfl,.cons a b,c⟩
  refine xI (split hu) λu1 u2 y12 a1 a2=>?_;subst y12
  simp only [n9,db]
  exact (row h1 hv a1).append (ih hv a2)
section
variable {w:World}{R:aD}{L:List Addr}{n:Nat}{env:Env}{s:ae}{st:St}{lo:Lo} {c X:Addr}{ids:List Int}{rest':List (Int×Int)}
theorem oj {b:List Stmt}(O:Ok (n+1) A):Ok n (A.over (.func b env) []):=by
 refine ⟨by show A.handled=_;exact O.handled,?_,?_⟩
 ·exact av (ya (b:=3 * n) (show 1<=3 by decide)) O.depth
 ·exact av (Nat.add_le_add_right (ya (b:=24 * n) (show 3<=24 by decide)) 8) O.units
theorem CQ {b:List Stmt}(F:Fs L A)(Fx:bZ env sc h m)(hL:env.locals∈L):Fs L (A.over (.func b env) [])/\iU (A.over (.func b env) []) env:=by
 refine bg F λouter e f=>?_
 have e':(A.over (.func b env) []).frames=some (env :: outer):=by
  show pushEnvs [env] (pushEnvs [] A.frames)=_
  rw [e];rfl
 refine ⟨⟨_,e',λx hx=>?_⟩,outer,e'⟩
 cases hx with
 | head=>exact ⟨(by rw [Fx.sce,Fx.kind];decide),_,hL,Fx.frame⟩
 | tail _ hx=>exact f x hx
theorem xb {k:Nat}(O:Ok k A)(hk:n+1<=k)(Fr:Fs L A)(hL:env.locals∈L)(D:Wd w ab R st L s.heap)(Fx:bZ env (aJ 838) s.heap m)(Lo:ci R s.heap lo m)(hc:env.cells.lookup ("segments_ids" : Str)=some c)(hcc:s.heap.IsCell c (some (.ref X)))
  (hX:R.cells[6]? = some X) (hs:st[6]? = some (ids.map .int)) (hz:ids.length<=1000) {r:Option Mv}(hf:lu (fO n) n (n9 ids) lo st=some (r,rest',lo',st'))
  (hQ:∀ h' t' m',Wd w ab R st' L h'->Pg [env.locals] R L s.heap h'->bZ env (aJ 838) h' m'->ci R h' lo' m'->match r with
   | ac=>Φ (.ret (.ok (.ret .none))) (up s h' t')
   | some v=>∀ it l,ab.get? it=ac->s.heap.get? it=ac->At h' R it l rest'->∀ u,V R h' v u->∀ k p F,[F].any cF=false->qB w env it (.suspended k [] (cS env it) p [F] false)->Φ (.susp u false [] k (cS env it) p [F]) (up s h' t')) :
  wQ (Mq pg w) A (.fresh (x7 env)) (.send .none) s Φ:=by
 refine ⟨rfl,ry ?_⟩
 obtain ⟨k,rfl⟩:∃ j,k=j+1:=⟨k - 1,(Nat.sub_add_cancel (au (Nat.le_add_left 1 _) hk)).symm⟩
 refine cB (D.inv.cell hX hs) λvals kk eX al=>?_
 have hv:vals.length=ids.length:=by have:=al.length;simpa using this.symm
 have O1:Ok k (A.over (x7 env) []):=oj O
 rw [v8]
 refine gV (y0 rfl (λx=>by with_unfolding_all rfl) ?_)
 refine cj (C7 (s:=ng s) D.G D.old O1.handled Fx hc hcc eX (hv▸hz) λh1 t1 l us k1 hl al1 hl0=>⟨rfl,?_⟩)
 refine cj (wpAny_pyIter_list (s:=up (ng s) h1 t1) hl ⟨rfl,?_⟩)
 intro F ld
 have e:nR (x7 env) F:=by
  refine ⟨by unfold x7;rw [v8];exact ld.1,λM A c' s Φ h=>ld.2 M A c' .next s Φ ?_⟩
  exact u7 (.ok (.ret .none)) h
 have k2:Sb h1 (h1.push { cls:=.type "list_iterator",data:=.fields #[.ref l,.int 0 0] }):=λb o q=>ak _ q
 have k12:Sb s.heap (h1.push { cls:=.type "list_iterator",data:=.fields #[.ref l,.int 0 0] }):=λb o q=>k2 b o (k1 b o q)
 have hit:(h1.push { cls:=.type "list_iterator",data:=.fields #[.ref l,.int 0 0] }).IsListIter h1.objs.size l 0:=⟨_,ar _ rfl,rfl,rfl⟩
 have kr:fh s.heap (h1.push { cls:=.type "list_iterator",data:=.fields #[.ref l,.int 0 0] }):=λb o q _=>k12 b o q
 have n1:s.heap.get? h1.objs.size=ac:=by
  cases q:s.heap.get? h1.objs.size with
  | none=>rfl
  | some o=>exact absurd (bp (k1 _ _ q)) (dh _)
 have n0:ab.get? h1.objs.size=ac:=by
  cases q:ab.get? h1.objs.size with
  | none=>rfl
  | some o=>rw [D.old _ _ q] at n1;exact nomatch n1
 have at_:At (h1.push { cls:=.type "list_iterator",data:=.fields #[.ref l,.int 0 0] }) R h1.objs.size l (n9 ids):=by
  refine ⟨⟨0,us.toArray,hit,?_,?_⟩,λq=>?_⟩
  ·refine bg hl λo e1 r=>?_;exact ⟨o,k2 _ _ e1,r⟩
  ·have:=FM k12 al (al1.imp λp u ⟨t,e1,g⟩=>⟨t,e1,k2 _ _ g⟩)
   simpa using this
  ·refine bg (D.hs.cl l q) λo e1 _=>?_
   rw [hl0] at e1;exact ns e1
 refine sR (ab:=ab) e O (by assumption) Fr hL n0 (n9 ids) _ st m lo lo' st' r rest' (D.ext k12) (Fx.recs kr) (Lo.recs D kr) at_ hf λh' t' m' D' P' Fx' Lo'=>?_
 have P:Pg [env.locals] R L s.heap h':=by
  refine ⟨λb o a1 a2 q=>P'.old b o a1 (λz=>?_) (k12 b o q),(dQ.ext k12).trans P'.keep⟩
  rcases aq.mp z with rfl | z
  ·rw [n1] at q;exact ns q
  ·exact a2 z
 have:=hQ h' t' m' D' P Fx' Lo'
 cases r with
 | none=>exact this
 | some v=>exact λat' u hu k p hk'=>this h1.objs.size l n0 n1 at' u hu k p F e.guarded ⟨k,p,F,rfl,e,hk'⟩
theorem Ft {k:Nat}{l:Addr}{rest:List (Int×Int)}(hg:qB w env it gs)(O:Ok k A)(hk:n+1<=k)(Fr:Fs L A)(hL:env.locals∈L)(D:Wd w ab R st L s.heap)(Fx:bZ env (aJ 838) s.heap m)(Lo:ci R s.heap lo m)(h0:ab.get? it=ac)(at_:At s.heap R it l rest)
  {r:Option Mv}(hf:lu (fO n) n rest lo st=some (r,rest',lo',st'))
  (hQ:∀ h' t' m',Wd w ab R st' L h'->Pg [env.locals] R (it :: L) s.heap h'->bZ env (aJ 838) h' m'->ci R h' lo' m'->match r with
   | ac=>Φ (.ret (.ok (.ret .none))) (up s h' t')
   | some v=>At h' R it l rest'->∀ u,V R h' v u->∀ k p F,[F].any cF=false->qB w env it (.suspended k [] (cS env it) p [F] false)->Φ (.susp u false [] k (cS env it) p [F]) (up s h' t')) :
  wQ (Mq pg w) A gs (.send .none) s Φ:=by
 refine qb hg λk' p F y13 e hr=>?_;subst y13
 refine hr _ _ _ (sR e O hk Fr hL h0 rest _ st m lo lo' st' r rest' D Fx Lo at_ hf λh' t' m' D' P' Fx' Lo'=>?_)
 have:=hQ h' t' m' D' P' Fx' Lo'
 cases r with
 | none=>exact this
 | some v=>exact λat' u hu k p hk'=>this at' u hu k p F e.guarded ⟨k,p,F,rfl,e,hk'⟩
end
noncomputable abbrev fu:Obj:={ cls:=.type "cell",data:=.cell none }
def gq (h:Heap)(c:Addr)(v:Option Value):Prop:=∃ sl,h.get? c=some ⟨.type "cell",ac,.cell v,sl⟩
theorem gq.cell {c:Addr}{v:Option Value}(x:gq h c v):h.IsCell c v:=let ⟨_,e⟩:=x;⟨_,e,rfl⟩
section
variable {M:Model}{s:ae}
theorem oZ {env:Env}{name:Str}{c:Addr}{aar:Option Value}{v:Value}{Q:Unit->ae->Prop}(hk:env.scope.kind=.function)(hl:env.kindOf name=some .cell)(hc:env.cells.lookup name=some c)(hv:gq s.heap c aar)
  (h:∀ h',gq h' c (some v)->bU c s.heap h'->Q () { s with heap:=h' }):wpAny M A (jz env name v) Q E s:=by
 unfold jz
 rw [hl,hk]
 show wpAny M A (cellOf env name >>= λc=>cellSet c (some v)) Q E s
 obtain ⟨sl,ho⟩:=hv
 refine ag (wpAny_cellOf hc ?_)
 unfold cellSet
 exact ag (ij ho (wpAny_update ho (h _ ⟨sl,fL _ ho rfl⟩ (mq ..))))
theorem wi {scope:Scope}{globals:Addr}{binds:List (Str×Value)}{qual:Str}{func:Option Addr}{code:Value}{builtins:Addr}{x:Str}{Q:Env->ae->Prop}
  (hcf:∀ n,cellsFrom n scope.names []=[(x,n)]) (hpc:∀ h,pushCells h scope.names=h.push fu) (hx:scope.names.lookup x=some .cell) (hl:∀ y∈binds,y.1≠x->scope.names.lookup y.1=some .local) (hk:scope.kind=.function)
  (hQ:∀ h' t',uP h' s.heap.objs.size (λy=>(binds.filter (λb=>!(b.1 == x))).reverse.lookup y)->gq h' (s.heap.objs.size+1) (binds.reverse.lookup x)->(Sb s.heap h') ->
   Q (newEnv scope s.heap.objs.size globals [(x,s.heap.objs.size+1)] qual func code none builtins) (up s h' t')) :
  wpAny M A (fH scope globals [] binds qual func code none builtins) Q E s:=by
 simp only [fH,Option.isSome_none,bX,if_false]
 simp only [newEnv] at hQ
 refine ag (wpAny_alloc ?_)
 refine ag (wpAny_layCells _ (λname kind cells=>rfl) _ _ _ _ ?_)
 rw [hcf,hpc,bN]
 refine ag ?_
 generalize hL:s.heap.objs.size=L at hQ ⊢
 have f0:∀ b o,s.heap.get? b=some o->b≠L/\b≠L+1:=λb o e=>by
  have:=bp e
  rw [hL] at this
  exact ⟨bV this,bV (eV this)⟩
 have hne:L+1≠L:=jF L
 have c0:gq ((s.heap.push { cls:=.type "frame",data:=.dict #[] }).push fu) (L+1) none:=by
  refine ⟨#[],?_⟩
  have:=ar (o:=fu) (s.heap.push { cls:=.type "frame",data:=.dict #[] }) rfl
  rwa [bN,hL] at this
 have n0:uP ((s.heap.push { cls:=.type "frame",data:=.dict #[] }).push fu) L (λy=>(([]:List (Str×Value)).filter (λb=>!(b.1 == x))).reverse.lookup y):=by
  have e:((s.heap.push { cls:=.type "frame",data:=.dict #[] }).push fu).get? L=some { cls:=.type "frame",data:=.dict #[] }:=by
   have:=ar (o:={ cls:=.type "frame",data:=.dict #[] }) s.heap rfl
   rw [hL] at this
   exact ak _ this
  have ns:=(Heap.Ns.new s.heap (cls:=.type "frame")).push fu
  rw [hL] at ns
  exact rH ns e rfl
 refine wpAny_forIn_list _
  (λrest _ s'=>∃ done h' t',binds=done++rest/\s'=(up s h' t')/\uP h' L (λy=>(done.filter (λb=>!(b.1 == x))).reverse.lookup y)/\gq h' (L+1) (done.reverse.lookup x)/\Sb s.heap h') _ ?_ ?_ binds _
  ⟨[],_,s.toks,rfl,rfl,n0,c0,λb o e=>ak _ (ak _ e)⟩
 ·rintro ⟨name,v⟩ rest _ s' ⟨done,h',t',hb,rfl,hns,hcl,kp⟩
  by_cases e:name=x
  ·subst e
   refine ag (oZ (c:=L+1) hk hx (by simp) hcl λh'' hc'' sb=>aj ⟨done++[(name,v)],h'',t',by simp [hb],rfl,?_,?_,λb o q=>sb.extBut b o (f0 b o q).2 (kp b o q)⟩)
   ·have:(done++[(name,v)]).filter (λb=>!(b.1 == name))=done.filter (λb=>!(b.1 == name)):=by simp
    rw [this]
    refine kW hns λo es ep e1 r=>?_
    exact ⟨o,es,ep,sb.extBut _ _ (cb hne) e1,r⟩
   ·have:(done++[(name,v)]).reverse.lookup name=some v:=congrFun (lZ done name v) name |>.trans (by exact if_pos rfl)
    rw [this]
    exact hc''
  ·refine ag (pF (m:=λy=>(done.filter (λb=>!(b.1 == x))).reverse.lookup y) (hl (name,v) (by rw [hb];simp) e) hk hns λh'' hns' sb=>aj ⟨done++[(name,v)],h'',t'+1,by simp [hb],rfl,?_,?_,λb o q=>sb.extBut b o (f0 b o q).1 (kp b o q)⟩)
   ·have:(done++[(name,v)]).filter (λb=>!(b.1 == x))=done.filter (λb=>!(b.1 == x))++[(name,v)]:=by simp [e]
    rw [this]
    rw [lZ];exact hns'
   ·have:(done++[(name,v)]).reverse.lookup x=done.reverse.lookup x:=congrFun (lZ done name v) x |>.trans (by rw [if_neg (cb e)])
    rw [this]
    obtain ⟨sl,e1⟩:=hcl
    exact ⟨sl,sb.extBut _ _ hne e1⟩
 ·rintro _ s' ⟨done,h',t',hb,rfl,hns,hcl,kp⟩
  rw [List.append_nil] at hb;subst hb
  exact aj (hQ h' t' hns hcl kp)
end
structure HG (f:Addr) (ps:List Str) (body:List Stmt) (sc:Scope):Prop where
 at_:∀ P,∃ oc od osl fd,(K P).lookup f=some ⟨oc,od,.func fd,osl⟩/\fd.body=.stmts body/\fd.scope=sc/\fd.globals=bM/\fd.builtins=gK/\fd.closure=[]/\codeIn (K P) fd.code fd.qualname=true /\
  ∀ s vs,(K P).In s.heap->vs.length=ps.length->e8 s fd ⟨vs,[]⟩ (ps.zip vs)
 co:sc.isCoroutine=false
 gen:sc.isGenerator=true
 kind:sc.kind=.function
section
variable {w:World}{s:ae}{f:Addr}{ps:List Str}{R:ej->ae->Prop}
theorem tZ (G:HG f ps body sc)(X:(K P).In s.heap)(hroom:A.depth < aA)(hl:us.length=ps.length)(mv:Str->Option Value)(Pe:Env->Heap->Prop)
  (hPe:∀ env h h',Pe env h->(Sb h h')->Pe env h')
  (henv:∀ (fd:FuncData) (q:Str) (A':aw) (E:Value->ae->Prop) (Q:Env->ae->Prop),fd.scope=sc->fd.globals=bM->fd.builtins=gK->fd.closure=[]->(∀ h' t' env,bZ env sc h' mv->env.locals=s.heap.objs.size->Pe env h'->(Sb s.heap h')->Q env (up s h' t')) ->
   wpAny (Mq pg w) A' (fH fd.scope fd.globals fd.closure (ps.zip us) q (some f) fd.code none fd.builtins) Q E s)
  (nl:s.heap.NoLimit)
  (h:∀ h' t' env a,bZ env sc h' mv->env.locals=s.heap.objs.size->Pe env h'->(Sb s.heap h')->iM h' a s.gens.size->s.heap.get? a=ac ->
   R (.ok (.ret (.ref a))) { s with heap:=h',toks:=t',gens:=s.gens.push (.fresh (.func body env)) }):bY (Mq pg w) A (.call (.ref f) ⟨us,[]⟩) R s:=by
 refine C0 (G.at_ P) λoc od osl fd hK hb hs hg hbl hc hcd hbind=>?_
 refine bc ?_
 show wpAny _ A.in1 (jT (.ref f) ⟨us,[]⟩) _ _ s
 refine ag (ij (X _ _ hK) ?_)
 refine xH (codeRec_of X hcd) λc o vs tq hc' hoc hdc hq=>?_
 have hco:fd.scope.isCoroutine=false:=by rw [hs];exact G.co
 have hge:fd.scope.isGenerator=true:=by rw [hs];exact G.gen
 unfold callFunction;dsimp only;rw [hco,hge,hb,hc']
 refine ag (m:=field (.ref c) 1) (kP hoc hdc hq (ag (aj ?_)))
 rw [<- hc']
 refine ag (hbind s us X hl _ _ _ _ (ag (henv fd _ _ _ _ hs hg hbl hc λh' t' env F hloc pe kp=>ag (wpAny_enterFrame (nl.keeps kp) hroom ?_))))
 refine ag (ag (wpAny_newGen (ag (wpAny_mkText (ag (wpAny_mkText (g9 (aj ?_) (by size_fits))))))))
 have k2:Sb h' (h'.push { cls:=.type "generator",data:=.fields #[fG s.gens.size,.str fd.name t',.str fd.qualname (t'+1)] }):=λb o e=>ak _ e
 refine h _ _ env h'.objs.size (F.keep (C:=[]) (.ext k2) (by simp)) hloc (hPe _ _ _ pe k2) (λb o e=>k2 b o (kp b o e)) ⟨_,_,_,ar _ rfl,rfl,rfl,.inl rfl⟩ ?_
 cases q:s.heap.get? h'.objs.size with
 | none=>rfl
 | some o=>exact absurd (bp (kp _ _ q)) (dh _)
theorem ud (G:HG f ps body sc)(X:(K P).In s.heap)(nl:s.heap.NoLimit)(hroom:A.depth < aA)(hl:us.length=ps.length)(cell:∀ x∈sc.names,x.2≠.cell)(loc:∀ x∈ps,sc.names.lookup x=some .local)
  (h:∀ h' t' env a,bZ env sc h' (λx=>(ps.zip us).reverse.lookup x)->env.locals=s.heap.objs.size->(Sb s.heap h')->iM h' a s.gens.size->s.heap.get? a=ac ->
   R (.ok (.ret (.ref a))) { s with heap:=h',toks:=t',gens:=s.gens.push (.fresh (.func body env)) }):bY (Mq pg w) A (.call (.ref f) ⟨us,[]⟩) R s:=by
 refine tZ G X hroom hl (λx=>(ps.zip us).reverse.lookup x) (λ_ _=>True) (λ_ _ _ _ _=>trivial) ?_ nl λh' t' env a F l _ k i n=>h h' t' env a F l k i n
 intro fd q A' E Q hs hg hbl hc hQ
 subst hs
 refine lY cell (λx hx=>loc x.1 (gp hx).1) (λab hns hsb=>?_) G.kind
 exact hQ ab _ _ ⟨rfl,G.kind,G.co,hg,hbl,rfl,hns⟩ rfl trivial λb o e=>hsb.extBut b o (bV (bp e)) (ak _ e)
theorem xB {x:Str}(G:HG f ps body sc)(X:(K P).In s.heap)(nl:s.heap.NoLimit)(hroom:A.depth < aA)(hl:us.length=ps.length)(hcf:∀ n,cellsFrom n sc.names []=[(x,n)])(hpc:∀ h,pushCells h sc.names=h.push fu)(hx:sc.names.lookup x=some .cell)(loc:∀ y∈ps,y≠x->sc.names.lookup y=some .local)
  (h:∀ h' t' env a c,bZ env sc h' (λy=>((ps.zip us).filter (λb=>!(b.1 == x))).reverse.lookup y)->env.locals=s.heap.objs.size->env.cells=[(x,c)]->h'.IsCell c ((ps.zip us).reverse.lookup x)->(Sb s.heap h')->iM h' a s.gens.size->s.heap.get? a=ac ->
   R (.ok (.ret (.ref a))) { s with heap:=h',toks:=t',gens:=s.gens.push (.fresh (.func body env)) }):bY (Mq pg w) A (.call (.ref f) ⟨us,[]⟩) R s:=by
 refine tZ G X hroom hl (λy=>((ps.zip us).filter (λb=>!(b.1 == x))).reverse.lookup y) (λenv h'=>∃ c,env.cells=[(x,c)]/\h'.IsCell c ((ps.zip us).reverse.lookup x)) (λenv h1 h2 ⟨c,a,b⟩ k=>⟨c,a,b.keeps k⟩) ?_ nl λh' t' env a F l ⟨c,c1,c2⟩ k i n=>h h' t' env a c F l c1 c2 k i n
 intro fd q A' E Q hs hg hbl hc hQ
 subst hs
 rw [hc]
 refine wi hcf hpc hx (λy hy hn=>loc y.1 (gp hy).1 hn) G.kind λh' t' hns hcl kp=>?_
 exact hQ h' t' _ ⟨rfl,G.kind,G.co,hg,hbl,rfl,hns⟩ rfl ⟨_,rfl,hcl.cell⟩ kp
end
@[elab_as_elim] theorem zV {α:Type}{l:List α}{motive:List α->Prop}(h:l.length=1)(k:∀ a,motive [a]):motive l:=by
 cases l with
 | nil=>cases h
 | cons a l=>cases List.eq_nil_of_length_eq_zero (Nat.succ.inj h);exact k a
@[elab_as_elim] theorem len3 {α:Type}{l:List α}{motive:List α->Prop}(h:l.length=3)(k:∀ a b c,motive [a,b,c]):motive l:=by
 cases l with
 | nil=>cases h
 | cons a l=>cases l with
  | nil=>cases h
  | cons b l=>exact zV (motive:=λl=>motive (a :: b :: l)) (Nat.succ.inj (Nat.succ.inj h)) (k a b)
theorem gn838:HG 838 (dK 838) (aO 838) (aJ 838):=⟨λP=>⟨_,_,_,eE 838,(by lk:(K P).lookup 838=some ⟨.type "function",none,.func (eE 838),#[]⟩),by lk,rfl,by lk,by lk,by lk,by lk,λs vs _ h=>len3 (h.trans (by lk)) λ_ _ _=>dU (by lk)⟩,by lk,by lk,by lk⟩
theorem gn833:HG 833 (dK 833) (aO 833) (aJ 833):=⟨λP=>⟨_,_,_,eE 833,(by lk:(K P).lookup 833=some ⟨.type "function",none,.func (eE 833),#[]⟩),by lk,rfl,by lk,by lk,by lk,by lk,λs vs _ h=>len3 (h.trans (by lk)) λ_ _ _=>dU (by lk)⟩,by lk,by lk,by lk⟩
theorem gn639:HG 639 (dK 639) (aO 639) (aJ 639):=⟨λP=>⟨_,_,_,eE 639,(by lk:(K P).lookup 639=some ⟨.type "function",none,.func (eE 639),#[]⟩),by lk,rfl,by lk,by lk,by lk,by lk,λs vs _ h=>zV (h.trans (by lk)) λ_=>dU (by lk)⟩,by lk,by lk,by lk⟩
theorem DZ:dK 838=[("segments_ids" : Str),"point","events_registry"]:=by lk
theorem Ea:dK 639=[("self" : Str)]:=by lk
theorem D0:dK 833=[("segments" : Str),"orienteer","segments_intersector"]:=by lk
theorem cf838 (n:Nat):cellsFrom n (aJ 838).names []=[(("segments_ids" : Str),n)]:=by lk
theorem pc838 (h:Heap):pushCells h (aJ 838).names=h.push fu:=by lk
section
variable {w:World}{s:ae}
theorem Dm {u1 u2 u3:Value}(X:(K w.params).In s.heap)(nl:s.heap.NoLimit)(hroom:A.depth < aA)
  (h:∀ h' t' env a c,bZ env (aJ 838) h' (λy=>([(("point" : Str),u2),(("events_registry" : Str),u3)]).reverse.lookup y)->env.locals=s.heap.objs.size->env.cells=[(("segments_ids" : Str),c)]->h'.IsCell c (some u1)->(Sb s.heap h')->iM h' a s.gens.size->s.heap.get? a=ac ->
   Q (.ref a) { s with heap:=h',toks:=t',gens:=s.gens.push (.fresh (x7 env)) }):wpAny (Mq pg w) A (call (.ref 838) [u1,u2,u3]) Q E s:=by
 refine bw (xB (x:="segments_ids") gn838 X nl hroom (by rfl) cf838 pc838 (by lk) ?_ λh' t' env a c F l c1 c2 k i n=>?_)
 ·intro y hy hn
  rw [DZ] at hy
  rcases aq.mp hy with rfl | hy
  ·exact absurd rfl hn
  ·rcases aq.mp hy with rfl | hy
   ·lk
   ·rcases aq.mp hy with rfl | hy
    ·lk
    ·cases hy
 ·rw [DZ] at F c2
  exact h h' t' env a c F l c1 c2 k i n
theorem Dn {u1:Value}(X:(K w.params).In s.heap)(nl:s.heap.NoLimit)(hroom:A.depth < aA)
  (h:∀ h' t' env a,bZ env (aJ 639) h' (λy=>([(("self" : Str),u1)]).reverse.lookup y)->env.locals=s.heap.objs.size->(Sb s.heap h')->iM h' a s.gens.size->s.heap.get? a=ac ->
   Q (.ref a) { s with heap:=h',toks:=t',gens:=s.gens.push (.fresh (AZ env)) }):wpAny (Mq pg w) A (call (.ref 639) [u1]) Q E s:=by
 refine bw (ud gn639 X nl hroom (by rfl) ?_ ?_ λh' t' env a F l k i n=>?_)
 ·have:((aJ 639).names.all λx=>!(x.2 == .cell))=true:=by lk
  simpa using this
 ·intro y hy
  rw [Ea] at hy
  rcases aq.mp hy with rfl | hy
  ·lk
  ·cases hy
 ·rw [Ea] at F
  exact h h' t' env a F l k i n
end
theorem fi761 (P:aM):dI (K P) (.ref 761) "__iter__" = some (some (.ref 639)):=by lk
theorem ty639 (P:aM):typeIn (K P) (.ref 639)=some (.type "function"):=by lk
section
variable {w:World}{s:ae}
theorem CC {r:Addr}{at_:List (Str×Value)}(X:(K w.params).In s.heap)(nl:s.heap.NoLimit)(hroom:A.depth < aA)(I:cL s.heap r 761 at_)
  (h:∀ h' t' env a,bZ env (aJ 639) h' (λy=>([(("self" : Str),df r)]).reverse.lookup y)->env.locals=s.heap.objs.size->(Sb s.heap h')->iM h' a s.gens.size->s.heap.get? a=ac ->
   Q (.ref a) { s with heap:=h',toks:=t',gens:=s.gens.push (.fresh (AZ env)) }):wpAny (Mq pg w) A (pyIter (.ref r)) Q E s:=by
 refine cB I.at λox od I1 _=>?_
 have sp:Looks (Mq pg w) s.heap (specialOf (.ref r) "__iter__") (some (.ref 639)):=I1.type.andThen (cT X (fi761 _))
 have bd:Looks (Mq pg w) s.heap (gE (.ref 639) (.ref r)) (.ref 639,[.ref r]):=bind_fn X _ (ty639 _)
 unfold pyIter
 refine ag (sp.here ?_)
 show wpAny _ A (callSpecialIfBoundUnlessNone? (.ref r) "__iter__" _ >>= _) Q E s
 unfold callSpecialIfBoundUnlessNone? me
 have go:wpAny (Mq pg w) A (call (.ref 639) [.ref r] >>= λv=>pure (some v)) (λx s'=>wpAny (Mq pg w) A (match x with
   | some it=>do match <- specialOf it "__next__" with
    | none=>rule "iter.non-iterator";raiseError "TypeError" s!"iter() returned non-iterator of type '{← typeNameOf it}'"
    | some _=>pure it
   | none=>do match <- me (.ref r) "__getitem__" with
    | none=>rule "iter.not-iterable";raiseError "TypeError" s!"'{← typeNameOf (.ref r)}' object is not iterable"
    | some _=>rule "iter.getitem-fallback";newFields "iterator" [.ref r,<- mkInt 0]) Q E s') E s:=by
  refine ag (Dn X nl hroom λh' t' env a F l k i n=>aj ?_)
  exact ag (wpAny_specialOf (T:="generator") i.typeIs slot_gen_next.lookup (aj (h h' t' env a F l k i n)))
 refine ag (aX (ag (ag (sp.here ?_))))
 refine ag (gk (wpAny_ite ?_))
 split
 ·exact ag (bd.here (aj (by exact go)))
 ·exact wpAny_tryCatch (ag (bd.here (aj (by exact go))))
end
noncomputable def HC (c:Nat->Bool)(d:Bool):Mv->Bool
 | .list i=>c i
 | .contour i=>c i
 | .pair p q=>HC c d p && HC c d q
 | .qk _=>d
 | .sk _=>d
 | _=>true
theorem V.map {R:aD}{c:Nat->Bool}{d:Bool}(hl:R.live=true->R'.live=true)(ha:R'.at_=R.at_/\R'.hp=R.hp)(hc:∀ i a,c i=true->R.cells[i]? = some a->R'.cells[i]? = some a)
  (hd:d=true->∀ i a,i < 2->R.cells[i]? = some a->R'.cells[i]? = some a)
  (hi:∀ a C at_,at_.find? (λp=>p.1 == ("_unique" : Str))=ac->cL h a C at_->cL h' a C at_) (ho:∀ a o,o.cls≠.none->(∀ es n,o.data=.dict es n->es=#[])->eH h a o->eH h' a o)
  {v:Mv}{u:Value}(k:HC c d v=true) (y:V R h v u):V R' h' v u:=by
 have pt:∀ {p u},Pv R h p u->Pv R' h' p u:=λi=>by
  unfold Pv
  rw [ha.2]
  cases i with | mk e f=>exact .mk (ho _ _ nofun nofun e) (ho _ _ nofun (λes n q=>by cases q;rfl) f)
 induction v generalizing u with
 | none | bool | int | str | addr=>exact y
 | root r=>cases y with | mk l=>exact ha.1▸V.root r (hl l)
 | list i=>cases y with | mk e=>exact .mk (hc _ _ k e)
 | ctx=>cases y with | mk e=>exact .mk (hi _ _ _ rfl e)
 | contour i=>cases y with | mk e f=>exact .mk (hc _ _ k e) (hi _ _ _ rfl f)
 | pt=>exact pt y
 | pair p q ip iq =>
  have z:=bP.mp k
  cases y with | mk o e f=>exact .mk (ho _ _ nofun nofun o) (ip z.1 e) (iq z.2 f)
 | qk=>cases y with | mk e f i=>exact .mk (hd k 0 _ (by decide) e) (hd k 1 _ (by decide) f) (hi _ _ _ rfl i)
 | sk=>cases y with | mk l e f i=>exact .mk (hl l) (hd k 0 _ (by decide) e) (hd k 1 _ (by decide) f) (ha.1▸hi _ _ _ rfl i)
 | seg=>cases y with | mk i e f=>exact .mk (hi _ _ _ rfl i) (pt e) (pt f)
 | isec=>cases y with | mk i e f=>exact .mk (hi _ _ _ rfl i) (pt e) (pt f)
def no6:Mv->Bool:=HC (λi=>decide (i < 6)) true
noncomputable def R6 (R:aD)(a:Addr):aD:={ R with cells:=R.cells.take 6++[a] }
noncomputable def S6 (st:St)(l:List Mv):St:=st.take 6++[l]
def eN (lo:Lo):Lo:=λx=>(lo x).filter no6
section
variable {w:World}{R:aD}{st:St}{L:List Addr}{n:Nat}{s:ae}{env:Env}{lo:Lo}{a:Addr}{v:Mv}{u:Value}
theorem lx (i:Nat)(hi:i < 6)(e:R.cells[i]? = some a)(D:Addr):(R6 R D).cells[i]? = some a:=by
 have h1:i < R.cells.length:=(bu.mp e).1
 show (R.cells.take 6++[D])[i]? = some a
 rw [ye (by rw [jG];exact Nat.lt_min.mpr ⟨hi,h1⟩),List.getElem?_take_of_lt hi]
 exact e
theorem V.six (D:Addr)(y:V R h v u)(hn:no6 v=true):V (R6 R D) h v u:=
 V.map (R:=R) (R':=R6 R D) id ⟨rfl,rfl⟩ (λi _ k e=>lx i (of_decide_eq_true k) e D) (λ_ i _ k e=>lx i (by exact au ‹_› (by decide)) e D) (λ_ _ _ _ i=>i) (λ_ _ _ _ o=>o) hn y
theorem ci.six (D:Addr)(y:ci R h lo m):ci (R6 R D) h (eN lo) m:=λx v e=>by
 unfold eN at e
 obtain ⟨e1,e2⟩:=yd.mp e
 refine bg (y x v e1) λu a b=>?_
 exact ⟨u,a,b.six D e2⟩
theorem gA.six (D:Addr)(s:gA R h):gA (R6 R D) h:=by
 obtain ⟨⟨c0,c1,c2,c3,e0,e1,e2,e3,r⟩,⟨c4,e4,q⟩,⟨c5,e5,k'⟩,⟨c,o,i⟩,f,lq,c',li,i'⟩:=s
 exact ⟨⟨c0,c1,c2,c3,lx 0 (by decide) e0 D,lx 1 (by decide) e1 D,lx 2 (by decide) e2 D,lx 3 (by decide) e3 D,r⟩,⟨c4,lx 4 (by exact aW _) e4 D,q⟩,⟨c5,lx 5 (by exact cD _) e5 D,k'⟩,⟨c,o,i⟩,f,lq,c',li,i'⟩
def Cl6 (st:St):Prop:=∀ l∈st.take 6,∀ v∈l,no6 v=true
theorem bz.take6 {α β:Type}{P:α->β->Prop}{l:List α}{m:List β}(x:bz P l m)(k:Nat):bz P (l.take k) (m.take k):=x.take k
theorem bz.impMem {α β:Type}{P Q:α->β->Prop}{l:List α}{m:List β}(x:bz P l m)(f:∀ a b,a∈l->b∈m->P a b->Q a b):bz Q l m:=by
 induction x with
 | nil=>exact .nil
 | cons p _ ih=>exact .cons (f _ _ (.head _) (.head _) p) (ih λa b ha hb=>f a b (.tail _ ha) (.tail _ hb))
theorem Wd.six (D:Wd w ab R st L h){l:List Mv}{vs:List Value}{k:Nat}(ha:IsL h a vs.toArray k)(hv:bz (V R h) l vs)(hn:∀ v∈l,no6 v=true)(h0:ab.get? a=ac)(hc:a∉R.cells)(h6:Cl6 st):Wd w ab (R6 R a) (S6 st l) L h where
 G:=D.G
 old:=D.old
 off:=λc hc=>by
  rcases aL.mp hc with q | q
  ·rcases aL.mp (show c∈R.cells.take 6++[a] from q) with q | q
   ·exact D.off c (bC _ (List.mem_of_mem_take q))
   ·rcases ah.mp q with rfl;exact h0
  ·exact D.off c (aF _ q)
 still:=λl=>(D.still l).six a
 hs:=by
  refine ⟨?_,?_⟩
  ·show (R.cells.take 6++[a]).Nodup
   refine sd.mpr ⟨D.hs.nodup.sublist (List.take_sublist _ _),by simp,λx hx y hy e=>?_⟩
   rcases ah.mp hy with rfl
   subst e
   exact hc (List.mem_of_mem_take hx)
  ·refine ((D.hs.all.take 6).impMem λc l' _ hl ⟨vs,n,e,al⟩=>⟨vs,n,e,al.impMem λv u hv _ y=>y.six a (h6 l' hl v hv)⟩).append (.cons ⟨vs,k,ha,hv.impMem λv u hvm _ y=>y.six a (hn v hvm)⟩ .nil)
 frames:=D.frames
end
def Hh (w:World)(aG:Addr)(gG:Nat)(fs:List Frame)(kk:Resume->Sem aP):Prop:=
 ∀ A' s'' Ψ,m9 s''.heap aG gG->(∀ h'',iM h'' aG gG->bU aG s''.heap h''->RT (Mq pg w) A' (iY aG) ((Mq pg w).den (iY aG)) fs { s'' with heap:=h'' } Ψ)->RT (Mq pg w) A' (iY aG) (kk (.send .none)) fs s'' Ψ
theorem iM.fields {a:Addr}{g:Nat}(x:iM h a g):∃ o fs,h.get? a=some o/\o.data=.fields fs:=qa x λo _ _ e _ d _=>⟨o,_,e,d⟩
theorem m9.fields {a:Addr}{g:Nat}(x:m9 h a g):∃ o fs,h.get? a=some o/\o.data=.fields fs:=qa x λo _ _ e _ d _=>⟨o,_,e,d⟩
section
variable {w:World}{R:aD}{L:List Addr}{n k:Nat}{env:Env}{s:ae}{st:St}{lo:Lo} {c X:Addr}{ids:List Int}{rest rest':List (Int×Int)}{fs:List Frame}{r:Option Mv}
theorem At.genBut {l:Addr}(a:At h R it l rest)(D:Wd w ab R st L h)(hg:iM h aG gG)(kr:fh h h')(e:ll aG h h'):At h' R it l rest:=by
 obtain ⟨⟨i,items,⟨o,e1,c1,d1⟩,⟨o2,e2,c2,d2⟩,al⟩,off⟩:=a
 refine qb hg λog _ _ eg cg _=>?_
 refine ⟨⟨i,items,⟨o,e it o (λq=>?_) e1,c1,d1⟩,⟨o2,e l o2 (λq=>?_) e2,c2,d2⟩,al.imp λ_ _ y=>y.recs D kr⟩,off⟩
 ·rw [q,eg] at e1;cases e1;rw [cg] at c1;simp at c1
 ·rw [q,eg] at e2;cases e2;rw [cg] at c2;trivial
theorem Ok.in1 (O:Ok (k+1) A):Ok k A.in1:=⟨O.handled,by have:=O.depth;show A.depth+3 * k < _;solve_by_elim [au,bO,av,Nat.le_of_lt,Nat.lt_succ_of_le,Nat.le_succ_of_le,bV,fJ],av (Nat.add_le_add_right (ya (b:=24 * k) (show 1<=24 by decide)) 8) O.units⟩
def su (w:World)(ab:Heap)(R:aD)(L:List Addr)(A:aw)(env:Env)(aG:Addr)(gG:Nat)(fs:List Frame)(Φ:End->ae->Prop)(s:ae)(r:Option Mv)(rest':List (Int×Int))(lo':Lo)(st':St)(X0:List Addr):Prop:=
 ∀ h' t' m',Wd w ab R st' L h'->Pg [env.locals] R (aG :: (X0++L)) s.heap h'->bZ env (aJ 838) h' m'->ci R h' lo' m'->match r with
  | ac=>iM h' aG gG->RT (Mq pg w) A (iY aG) (leafOf (.ok (.ret .none))) fs { (s.setGen gG .finished) with heap:=h',toks:=t' } Φ
  | some v=>∀ it l u gs',ab.get? it=ac->At h' R it l rest'->V R h' v u->qB w env it gs'->m9 h' aG gG->∀ ps kk,Hh w aG gG fs kk->Φ (.susp u false [] kk (iY aG) ps fs) { (s.setGen gG gs') with heap:=h',toks:=t' }
theorem f7 {s:ae}{g:Nat}{x y:bk}{t:Nat}:({ s.setGen g x with heap:=h,toks:=t }:ae).setGen g y={ s.setGen g y with heap:=h,toks:=t }:=by
 simp [cZ]
theorem DN {s:ae}{g:Nat}{y:bk}{h2:Heap}{t:Nat}:{ ({ s.setGen g y with heap:=h,toks:=t }:ae) with heap:=h2 }={ s.setGen g y with heap:=h2,toks:=t }:=rfl
theorem tX (O:Ok k (A.over (iY aG) fs))(hk:n+2<=k)(Fr:Fs L (A.over (iY aG) fs))(hL:env.locals∈L)(D:Wd w ab R st L s.heap)(Fx:bZ env (aJ 838) s.heap m)(Lo:ci R s.heap lo m)(hc:env.cells.lookup ("segments_ids" : Str)=some c)(hcc:s.heap.IsCell c (some (.ref X)))
  (hX:R.cells[6]? = some X) (hs:st[6]? = some (ids.map .int)) (hz:ids.length<=1000) (hg:iM s.heap aG gG) (h0:ab.get? aG=ac) (hgs:s.gens[gG]? = some (.fresh (x7 env))) (hfs:ch fs=ac) (hf:lu (fO n) n (n9 ids) lo st=some (r,rest',lo',st'))
  (hQ:su w ab R L A env aG gG fs Φ s r rest' lo' st' []):RT (Mq pg w) A (iY aG) ((Mq pg w).den (iY aG)) fs s Φ:=by
 obtain ⟨k,rfl⟩:∃ j,k=j+1:=⟨k - 1,(Nat.sub_add_cancel (au (Nat.le_add_left 1 _) hk)).symm⟩
 have nl:s.heap.NoLimit:=D.G.nolimit D.old
 refine DO O.handled nl (by have:=O.depth;exact av (aE _ _) ‹_›) hg hgs hfs ?_
 refine cB hg.fields λog fg eg dg=>?_
 have goff:=jS D eg dg
 refine xb (s:=s.setGen gG .running) O.in1 (Nat.le_of_succ_le_succ hk) Fr hL D Fx Lo hc hcc hX hs hz hf λh' t' m' D' P' Fx' Lo'=>?_
 have hg':iM h' aG gG:=by
  refine kW hg λo nm qn e r=>?_
  exact ⟨o,nm,qn,P'.old _ _ goff.1 goff.2 e,r⟩
 have:=hQ
 cases r with
 | none =>
  intro h2 k2
  have kr:fh h' h2:=λb o e _=>k2 b o e
  rw [f7]
  exact hQ h2 t' m' (D'.ext k2) ⟨λb o n1 n2 e=>k2 _ _ (P'.old b o n1 (λq=>n2 (.tail _ q)) e),P'.keep.trans (.ext k2)⟩ (Fx'.recs kr) (Lo'.recs D' kr) (hg'.keeps k2)
 | some v =>
  intro it l n0 _ at_ u hu kk p F gu sg
  refine ⟨rfl,gu,hg',λh2 i2 sb ps kk2 hgo=>?_⟩
  rw [f7]
  refine cB hg'.fields λog' fg' eg' dg'=>?_
  have kr:fh h' h2:=.but eg' dg' sb.extBut
  have goff':=jS D' eg' dg'
  have D2:=D'.but eg' dg' h0 sb.extBut
  have at2:=at_.genBut D' hg' kr sb.extBut
  exact hQ h2 t' m' D2 ⟨λb o n1 n2 e=>sb.extBut b o (λq=>n2 (q▸.head _)) (P'.old b o n1 (λq=>n2 (.tail _ q)) e),P'.keep.trans (kr.keep _)⟩ (Fx'.recs kr) (Lo'.recs D' kr) it l u _ n0 at2 (hu.recs D' kr) sg i2 ps kk2 hgo
theorem vw {l:Addr}(hse:qB w env it gs)(O:Ok k (A.over (iY aG) fs))(hk:n+2<=k)(Fr:Fs L (A.over (iY aG) fs))(hL:env.locals∈L)(D:Wd w ab R st L s.heap)(Fx:bZ env (aJ 838) s.heap m)(Lo:ci R s.heap lo m)(hi0:ab.get? it=ac)(at_:At s.heap R it l rest)
  (hg:iM s.heap aG gG) (h0:ab.get? aG=ac) (hgs:s.gens[gG]? = some gs) (hfs:ch fs=ac) (hf:lu (fO n) n rest lo st=some (r,rest',lo',st'))
  (hQ:su w ab R L A env aG gG fs Φ s r rest' lo' st' [it]):RT (Mq pg w) A (iY aG) ((Mq pg w).den (iY aG)) fs s Φ:=by
 obtain ⟨k,rfl⟩:∃ j,k=j+1:=⟨k - 1,(Nat.sub_add_cancel (au (Nat.le_add_left 1 _) hk)).symm⟩
 have nl:s.heap.NoLimit:=D.G.nolimit D.old
 refine DO O.handled nl (by have:=O.depth;exact av (aE _ _) ‹_›) hg hgs hfs ?_
 refine cB hg.fields λog fg eg dg=>?_
 have goff:=jS D eg dg
 have gne:aG≠it:=λq=>by
  obtain ⟨⟨i,items,⟨o,e1,c1,d1⟩,_⟩,_⟩:=at_
  refine qb hg λog _ _ eg cg _=>?_
  rw [<- q,eg] at e1;cases e1;rw [cg] at c1;simp at c1
 refine Ft (s:=s.setGen gG .running) hse O.in1 (Nat.le_of_succ_le_succ hk) Fr hL D Fx Lo hi0 at_ hf λh' t' m' D' P' Fx' Lo'=>?_
 have hg':iM h' aG gG:=by
  refine kW hg λo nm qn e r=>?_
  exact ⟨o,nm,qn,P'.old _ _ goff.1 (λq=>(aq.mp q).elim gne goff.2) e,r⟩
 cases r with
 | none =>
  intro h2 k2
  have kr:fh h' h2:=λb o e _=>k2 b o e
  rw [f7]
  exact hQ h2 t' m' (D'.ext k2) ⟨λb o n1 n2 e=>k2 _ _ (P'.old b o n1 (λq=>n2 (.tail _ q)) e),P'.keep.trans (.ext k2)⟩ (Fx'.recs kr) (Lo'.recs D' kr) (hg'.keeps k2)
 | some v =>
  intro at_ u hu kk p F gu sg
  refine ⟨rfl,gu,hg',λh2 i2 sb ps kk2 hgo=>?_⟩
  rw [f7]
  refine cB hg'.fields λog' fg' eg' dg'=>?_
  have kr:fh h' h2:=.but eg' dg' sb.extBut
  have D2:=D'.but eg' dg' h0 sb.extBut
  have at2:=at_.genBut D' hg' kr sb.extBut
  exact hQ h2 t' m' D2 ⟨λb o n1 n2 e=>sb.extBut b o (λq=>n2 (q▸.head _)) (P'.old b o n1 (λq=>n2 (.tail _ q)) e),P'.keep.trans (kr.keep _)⟩ (Fx'.recs kr) (Lo'.recs D' kr) it l u _ hi0 at2 (hu.recs D' kr) sg i2 ps kk2 hgo
end
noncomputable def at_ (l:List Stmt)(i:Nat):Stmt:=l.getD i default
def sG (l:List Stmt):Expr×Pos×Pos×Stmt×Pos×Expr×Pos×Pos:=(ee (se (at_ l 0) 0) 0,(se (at_ l 0) 0).pos,sp (at_ l 0),at_ l 1,(se (at_ l 2) 1).pos,ee (se (at_ l 2) 0) 0,(se (at_ l 2) 0).pos,sp (at_ l 2))
def vn (l:List Stmt):Expr×Pos×Pos:=(ee (se (l.getLastD default) 0) 0,(se (l.getLastD default) 0).pos,sp (l.getLastD default))
def xw (l:List Stmt):Stmt×Expr×List Stmt×List Stmt×Pos:=(at_ l 0,se (at_ l 1) 0,sb (at_ l 1) 0,sb (at_ l 1) 1,sp (at_ l 1))
def xX:List Stmt:=(iX (aO 833)).2.2.1
def wX:Pos:=(iX (aO 833)).1.pos
def BI:Pos:=(iX (aO 833)).2.1.pos
def BJ:Pos:=(iX (aO 833)).2.2.2
def swA:Stmt:=(xw xX).1
def swT:Expr:=(xw xX).2.1
def swAp:Stmt:=((xw xX).2.2.1).headD default
def DG:List Stmt:=(xw xX).2.2.2.1
def swIf:Pos:=(xw xX).2.2.2.2
def swY:Expr:=(sG DG).1
def swY1:Pos:=(sG DG).2.1
def swY2:Pos:=(sG DG).2.2.1
def BH:Stmt:=(sG DG).2.2.2.1
def swLa:Pos:=(sG DG).2.2.2.2.1
def Fi:Expr:=(sG DG).2.2.2.2.2.1
def swLb:Pos:=(sG DG).2.2.2.2.2.2.1
def swLc:Pos:=(sG DG).2.2.2.2.2.2.2
def swZ:Expr:=(vn (aO 833)).1
def Fe:Pos:=(vn (aO 833)).2.1
def Fd:Pos:=(vn (aO 833)).2.2
noncomputable abbrev nI:Str:="segments_ids_containing_start"
theorem Fj:xX=[swA,.If swT [swAp] [.Expr (.YieldFrom swY swY1) swY2,BH,.Assign [.Name nI swLa] (.List [Fi] swLb) swLc] swIf]:=by lk
theorem sw_body:aO 833=(aO 833).take 3++[.For (.Name "event" wX) (.Name "events_registry" BI) xX [] BJ,.Expr (.YieldFrom swZ Fe) Fd]:=by lk
inductive Pt where
 | head (loI lo:Lo) (st:St)
 | grp (fin:Bool) (loI lo hJ:Lo) (st:St) (rest:List (Int×Int))
variable {P':Pt}
def Ao (st:St):Option (List Int):=(st[6]?.bind mf).bind λns=>dS (decide (ns.length<=1000)) (some ns)
def tW (lo:Lo):Option Lo:=(lo "start").bind λp=>dS ((lo "events_registry").any (λv=>xu v .reg) && (lo nI).any (λv=>mV v 6)) (some (put (put (λ_=>ac) "point" p) "events_registry" (.root .reg)))
theorem Hg {o:Option Mv}{r:Rt}(h:o.any (λv=>xu v r)=true):o=some (.root r):=by
 cases o with
 | none=>cases h
 | some v=>exact congrArg some (io (eq_of_beq h))
theorem A7 {o:Option Mv}{r:Nat}(h:o.any (λv=>mV v r)=true):o=some (.list r):=by
 cases o with
 | none=>cases h
 | some v=>exact congrArg some (fQ (eq_of_beq h))
def cl6 (st:St):Bool:=(st.take 6).all λl=>l.all no6
section
variable (I:ja) (n:Nat) (go:Pt->Option (Option Mv×Pt))
def DI (fin:Bool)(loI lo:Lo)(st:St):Option (Option Mv×Pt):=(Ao st).bind λids=>(tW lo).bind λhJ=>go (.grp fin loI lo hJ st (n9 ids))
def Fh (loI:Lo)(p:Fl×Lo×St):Option (Option Mv×Pt):=dS (kq p.1) (gD (I.t (aJ 833) swT p.2.1 p.2.2) λb st =>
 bif b then (nk I (aJ 833) swAp p.2.1 st).bind λq=>dS (kq q.1) (go (.head loI q.2.1 q.2.2)) else DI go false loI p.2.1 st)
def yD (lo:Lo)(q:Option Mv×Lo×St):Option (Option Mv×Pt):=match q.1 with
 | some ev=>(nk I (aJ 833) swA (put lo "event" ev) q.2.2).bind (Fh I go q.2.1)
 | ac=>DI go true q.2.1 lo q.2.2
def yB (loI:Lo)(p:Fl×Lo×St):Option (Option Mv×Pt):=dS (kq p.1) (fe (I.e (aJ 833) Fi p.2.1 p.2.2) λv st=>(eO v).bind λi=>dS (cl6 st) (go (.head (eN loI) (put (eN p.2.1) nI (.list 6)) (S6 st [.int i]))))
def yA (fin:Bool)(loI lo:Lo)(q:Option Mv×List (Int×Int)×Lo×St):Option (Option Mv×Pt):=match q.1 with
 | some v=>some (some v,.grp fin loI lo q.2.2.1 q.2.2.2 q.2.1)
 | ac=>bif fin then some (ac,.grp fin loI lo q.2.2.1 q.2.2.2 q.2.1) else (nk I (aJ 833) BH lo q.2.2.2).bind (yB I go loI)
def swOne:Pt->Option (Option Mv×Pt)
 | .head loI lo st=>(vo I n loI st).bind (yD I go lo)
 | .grp fin loI lo hJ st rest=>(lu I n rest hJ st).bind (yA I go fin loI lo)
end
noncomputable def fX (I:ja)(n:Nat):Nat->Pt->Option (Option Mv×Pt)
 | 0,_=>ac
 | k+1,P=>swOne I n (fX I n k) P
def iJ:bk->Prop
 | .suspended _ _ c _ _ cl=>cl=false/\qx c=ac
 | _=>True
structure nO where
 eC:Env
 aS:Addr
 gS:Nat
 eS:Env
 aI:Addr
 gI:Nat
 eI:Env
 outs:List (Env×Scope×Lo)
 os:fz
def jI (R:aD)(L:List Addr)(h:Heap)(env:Env)(sc:Scope)(lo:Lo):Prop:=env.locals∈L/\∃ m,bZ env sc h m/\ci R h lo m
def It (w:World)(W:nO)(s:ae):Prop:=∃ gs,s.gens[W.gI]? = some gs/\qo w W.eI gs
structure lg (w:World) (ab:Heap) (W:nO) (eB:Lo) (R:aD) (L:List Addr) (loI lo:Lo) (st:St) (s:ae):Prop where
 D:Wd w ab R st L s.heap
 len:R.cells.length=7
 live:R.live=true
 mC:jI R L s.heap W.eC (aJ 845) eB
 mS:jI R L s.heap W.eS (aJ 833) lo
 mI:jI R L s.heap W.eI (aJ 639) loI
 mO:∀ x∈W.outs,jI R L s.heap x.1 x.2.1 x.2.2/\eN x.2.2=x.2.2/\x.1.locals≠W.eC.locals/\x.1.locals≠W.eS.locals/\x.1.locals≠W.eI.locals
 ap:W.eC.locals≠W.eS.locals/\W.eC.locals≠W.eI.locals/\W.eS.locals≠W.eI.locals
 iS:iM s.heap W.aS W.gS
 iI:iM s.heap W.aI W.gI
 i0:ab.get? W.aI=ac
 gI:∃ gs,s.gens[W.gI]? = some gs/\(gs=.finished\/qo w W.eI gs)
 sS:W.gS < s.gens.size
 nS:W.gI≠W.gS
 calm:∀ i x,i≠W.gS->s.gens[i]? = some x->iJ x
 oe:s.os=W.os
section
variable {w:World}{W:nO}{eB loC' loI' lo:Lo}{R:aD}{L S:List Addr}{st:St}{s:ae}{env:Env}{a:Addr}{g:Nat}
theorem iM.pg (D:Wd w ab R st L h)(P:Pg S R L h h')(x:iM h a g):iM h' a g:=by
 refine cB x.fields λo fs e d=>?_
 have off:=jS D e d
 refine kW x λo nm qn e r=>?_
 exact ⟨o,nm,qn,P.old _ _ off.1 off.2 e,r⟩
theorem jI.pg (D:Wd w ab R st L h)(P:Pg S R L h h')(hS:∀ a∈S,a∈L)(hn:env.locals∉S)(x:jI R L h env sc lo):jI R L h' env sc lo:=
 let ⟨l,m,F,y⟩:=x;⟨l,m,F.pg D P hn,y.pg D P hS⟩
theorem jI.recs (D:Wd w ab R st L h)(k:fh h h')(x:jI R L h env sc lo):jI R L h' env sc lo:=let ⟨l,m,F,y⟩:=x;⟨l,m,F.recs k,y.recs D k⟩
theorem jI.six (D:Addr)(x:jI R L h env sc lo):jI (R6 R D) L h env sc (eN lo):=let ⟨l,m,F,y⟩:=x;⟨l,m,F,y.six D⟩
theorem jI.wider {L':List Addr}(k:∀ a∈L,a∈L')(x:jI R L h env sc lo):jI R L' h env sc lo:=⟨k _ x.1,x.2⟩
theorem fF (s:ae)(g:Nat)(x:bk):(s.setGen g x).gens.size=s.gens.size:=by simp [cZ]
theorem qd {s:ae}{g gS:Nat}{x:bk}(c:∀ i y,i≠gS->s.gens[i]? = some y->iJ y)(hx:iJ x):∀ i y,i≠gS->(s.setGen g x).gens[i]? = some y->iJ y:=by
 intro i y hi hy
 simp only [cZ,Array.getElem?_setIfInBounds] at hy
 split at hy
 ·split at hy
  ·cases hy;exact hx
  ·exact ns hy
 ·exact c i y hi hy
theorem gX {s:ae}{g:Nat}{x:bk}(h:g < s.gens.size):(s.setGen g x).gens[g]? = some x:=by simp [cZ,h]
theorem fk {s:ae}{g g':Nat}{x:bk}(h:g≠g'):(s.setGen g x).gens[g']? = s.gens[g']?:=by simp [cZ,Array.getElem?_setIfInBounds,h]
theorem lg.own {t:Nat}(x:lg w ab W eB R L loI lo st s)(D':Wd w ab R st' L h')(P:Pg [W.eS.locals] R L s.heap h')(F:bZ W.eS (aJ 833) h' m)(y:ci R h' lo' m):lg w ab W eB R L loI lo' st' (up s h' t) where
 D:=D'
 len:=x.len
 live:=x.live
 mC:=x.mC.pg x.D P (λa ha=>by rcases ah.mp ha with rfl;exact x.mS.1) (by simpa using x.ap.1)
 mS:=⟨x.mS.1,m,F,y⟩
 mI:=x.mI.pg x.D P (λa ha=>by rcases ah.mp ha with rfl;exact x.mS.1) (by simpa using cb x.ap.2.2)
 mO:=λz hz=>um (x.mO z hz) λa b c d e=>⟨a.pg x.D P (λa ha=>by rcases ah.mp ha with rfl;exact x.mS.1) (by simpa using d),b,c,d,e⟩
 ap:=x.ap
 iS:=x.iS.pg x.D P
 iI:=x.iI.pg x.D P
 i0:=x.i0
 gI:=x.gI
 sS:=x.sS
 nS:=x.nS
 calm:=x.calm
 oe:=x.oe
theorem lg.turn {t:Nat}(x:lg w ab W eB R L loI lo st s)(D':Wd w ab R st' L h')(P:Pg [W.eI.locals] R L s.heap h')(F:bZ W.eI (aJ 639) h' m)(y:ci R h' loI' m)(hg:gs=.finished\/qo w W.eI gs)(hc:iJ gs):lg w ab W eB R L loI' lo st' { s.setGen W.gI gs with heap:=h',toks:=t } where
 D:=D'
 len:=x.len
 live:=x.live
 mC:=x.mC.pg x.D P (λa ha=>by rcases ah.mp ha with rfl;exact x.mI.1) (by simpa using x.ap.2.1)
 mS:=x.mS.pg x.D P (λa ha=>by rcases ah.mp ha with rfl;exact x.mI.1) (by simpa using x.ap.2.2)
 mI:=⟨x.mI.1,m,F,y⟩
 mO:=λz hz=>um (x.mO z hz) λa b c d e=>⟨a.pg x.D P (λa ha=>by rcases ah.mp ha with rfl;exact x.mI.1) (by simpa using e),b,c,d,e⟩
 ap:=x.ap
 iS:=x.iS.pg x.D P
 iI:=x.iI.pg x.D P
 i0:=x.i0
 gI:=⟨gs,gX (by refine bg x.gI λz e _=>?_;exact (aZ.mp e).1),hg⟩
 sS:=by rw [show (({ s.setGen W.gI gs with heap:=h',toks:=t }:ae).gens)=(s.setGen W.gI gs).gens from rfl,fF];exact x.sS
 nS:=x.nS
 calm:=qd x.calm hc
 oe:=x.oe
theorem qo.calm (x:qo w env gs):iJ gs:=by
 rcases x with rfl | ⟨k,p,F,rfl,_⟩
 ·trivial
 ·exact ⟨rfl,rfl⟩
end
structure uL (w:World) (ab:Heap) (W:nO) (eB:Lo) (eG:Env) (aG:Addr) (gG:Nat) (R:aD) (L:List Addr) (loI lo hJ:Lo) (st:St) (s:ae):Prop where
 base:lg w ab W eB R L loI lo st s
 mG:jI R L s.heap eG (aJ 838) hJ
 apG:eG.locals≠W.eC.locals/\eG.locals≠W.eS.locals/\eG.locals≠W.eI.locals
 apO:∀ x∈W.outs,eG.locals≠x.1.locals
 g0:ab.get? aG=ac
 aGI:aG≠W.aI/\aG≠W.aS
 gGI:gG≠W.gI/\gG≠W.gS
 gsz:gG < s.gens.size
section
variable {w:World}{W:nO}{eB lo hJ loG':Lo}{R:aD}{L S:List Addr}{st:St}{s:ae}{env:Env}{a:Addr}{g n:Nat}
theorem V.kp {v:Mv}{u:Value}(D:Wd w ab R st L h)(k:dQ (S++R.cells) h h')(hS:∀ a∈S,a∈L)(y:V R h v u):V R h' v u:=y.keep k (λc hc=>by
 rcases aL.mp hc with q | q
 ·refine dJ (D.frames c (hS c q)) λo x1 x2 x3=>?_;exact ⟨o,x1,.inr x2,x3⟩
 ·exact D.hs.cl c q) (.refl h R)
theorem jI.kp (D:Wd w ab R st L h)(k:dQ (S++R.cells) h h')(hS:∀ a∈S,a∈L)(hn:env.locals∉S)(x:jI R L h env sc lo):jI R L h' env sc lo:=by
 obtain ⟨l,m,F,y⟩:=x
 exact ⟨l,m,F.keep k λq=>(aL.mp q).elim hn (F.off D.hs),λx v e=>bg (y x v e) λu a b=>⟨u,a,b.kp D k hS⟩⟩
theorem iM.old {X0:List Addr}(D:Wd w ab R st L h)(P:Pg S R (aG :: (X0++L)) h h')(hX:a∉X0)(hne:a≠aG)(x:iM h a g):iM h' a g:=by
 refine cB x.fields λo fs e d=>?_
 have off:=jS D e d
 refine kW x λo nm qn e r=>?_
 refine ⟨o,nm,qn,P.old _ _ off.1 (λq=>?_) e,r⟩
 rcases aq.mp q with q | q
 ·exact hne q
 ·exact (aL.mp q).elim hX off.2
theorem uL.turn {X0:List Addr}{t:Nat}(x:uL w ab W eB eG aG gG R L loI lo hJ st s)(D':Wd w ab R st' L h')(P:Pg [eG.locals] R (aG :: (X0++L)) s.heap h')(hX:∀ a g,iM s.heap a g->a∉X0)(F:bZ eG (aJ 838) h' m)(y:ci R h' loG' m)(hc:iJ gs) :
  uL w ab W eB eG aG gG R L loI lo loG' st' { s.setGen gG gs with heap:=h',toks:=t } where
 base:={
  D:=D'
  len:=x.base.len
  live:=x.base.live
  mC:=x.base.mC.kp x.base.D P.keep (λa ha=>by rcases ah.mp ha with rfl;exact x.mG.1) (by simpa using cb x.apG.1)
  mS:=x.base.mS.kp x.base.D P.keep (λa ha=>by rcases ah.mp ha with rfl;exact x.mG.1) (by simpa using cb x.apG.2.1)
  mI:=x.base.mI.kp x.base.D P.keep (λa ha=>by rcases ah.mp ha with rfl;exact x.mG.1) (by simpa using cb x.apG.2.2)
  mO:=λz hz=>um (x.base.mO z hz) λa b c d e=>⟨a.kp x.base.D P.keep (λa ha=>by rcases ah.mp ha with rfl;exact x.mG.1) (by simpa using cb (x.apO z hz)),b,c,d,e⟩
  ap:=x.base.ap
  iS:=x.base.iS.old x.base.D P (hX _ _ x.base.iS) (cb x.aGI.2)
  iI:=x.base.iI.old x.base.D P (hX _ _ x.base.iI) (cb x.aGI.1)
  i0:=x.base.i0
  gI:=by
   refine bg x.base.gI λgs' e r=>?_
   exact ⟨gs',(fk x.gGI.1).trans e,r⟩
  sS:=by rw [show (({ s.setGen gG gs with heap:=h',toks:=t }:ae).gens)=(s.setGen gG gs).gens from rfl,fF];exact x.base.sS
  nS:=x.base.nS
  calm:=qd x.base.calm hc
  oe:=x.base.oe }
 mG:=⟨x.mG.1,m,F,y⟩
 apG:=x.apG
 apO:=x.apO
 g0:=x.g0
 aGI:=x.aGI
 gGI:=x.gGI
 gsz:=by rw [show (({ s.setGen gG gs with heap:=h',toks:=t }:ae).gens)=(s.setGen gG gs).gens from rfl,fF];exact x.gsz
theorem zg {x:Str}{p:Pos}{v:Mv}(F:bZ env sc s.heap m)(y:ci R s.heap lo m)(hv:lo x=some v)(hl:sc.names.lookup x=some .local)(hd:(x == ("__debug__" : Str))=false)(q:∀ u,m x=some u->V R s.heap v u->Q u s):wpAny (Mq pg w) A (eval (.Name x p) env) Q E s:=by
 refine bg (y x v hv) λu h1 h2=>?_
 exact cj (hU (s:=ng s) F h1 ⟨rfl,q u h1 h2⟩ hl hd)
theorem Wd.wider {x:Addr}(D:Wd w ab R st L h)(h0:ab.get? x=ac)(hf:∃ o,h.get? x=some o/\o.cls=.type "frame"/\∀ vs,o.data≠.fields vs):Wd w ab R st (x :: L) h where
 G:=D.G
 old:=D.old
 off:=λc hc=>by
  rcases aL.mp hc with q | q
  ·exact D.off c (bC _ q)
  ·rcases aq.mp q with rfl | q
   ·exact h0
   ·exact D.off c (aF _ q)
 still:=D.still
 hs:=D.hs
 frames:=λa ha=>by
  rcases aq.mp ha with rfl | ha
  ·exact hf
  ·exact D.frames a ha
theorem oG {G:Array bk}{gS:Nat}{x:bk}(c:∀ i y,i≠gS->G[i]? = some y->iJ y)(hx:iJ x):∀ i y,i≠gS->(G.push x)[i]? = some y->iJ y:=by
 intro i y hi hy
 rw [Array.getElem?_push] at hy
 split at hy
 ·cases hy;exact hx
 ·exact c i y hi hy
theorem lg.grow {x:Addr}{t:Nat}(y:lg w ab W eB R L loI lo st s)(k:Sb s.heap h')(hx:s.heap.get? x=ac)(hf:∃ o,h'.get? x=some o/\o.cls=.type "frame"/\∀ vs,o.data≠.fields vs)(hc:iJ gs) :
  lg w ab W eB R (x :: L) loI lo st { s with heap:=h',toks:=t,gens:=s.gens.push gs } where
 D:=(y.D.ext k).wider (by
  cases q:ab.get? x with
  | none=>rfl
  | some o=>rw [y.D.old _ _ q] at hx;exact nomatch hx) hf
 len:=y.len
 live:=y.live
 mC:=(y.mC.recs y.D λb o e _=>k b o e).wider λa ha=>.tail _ ha
 mS:=(y.mS.recs y.D λb o e _=>k b o e).wider λa ha=>.tail _ ha
 mI:=(y.mI.recs y.D λb o e _=>k b o e).wider λa ha=>.tail _ ha
 mO:=λz hz=>um (y.mO z hz) λa b c d e=>⟨(a.recs y.D λb o e _=>k b o e).wider λa ha=>.tail _ ha,b,c,d,e⟩
 ap:=y.ap
 iS:=y.iS.keeps k
 iI:=y.iI.keeps k
 i0:=y.i0
 gI:=by
  refine bg y.gI λg' e r=>?_
  exact ⟨g',(Array.getElem?_push_lt (aZ.mp e).1).trans ((lT _).symm.trans e),r⟩
 sS:=by show _ < (s.gens.push gs).size;rw [j5];have:=y.sS;exact eV ‹_›
 nS:=y.nS
 calm:=oG y.calm hc
 oe:=y.oe
def wI (e:Expr):Pos×Pos×Pos×Pos×Pos:=((ee e 0).pos,(ee e 1).pos,(ee e 2).pos,(ee e 3).pos,e.pos)
noncomputable abbrev fname:Str:="segments_ids_containing_point_to_intersections"
abbrev pj (q:Pos×Pos×Pos×Pos×Pos):Expr:=.Call (.Name fname q.1) [.Name nI q.2.1,.Name "start" q.2.2.1,.Name "events_registry" q.2.2.2.1] [] q.2.2.2.2
theorem Ff:swY=pj (wI swY):=by lk
theorem Fc:swZ=pj (wI swZ):=by lk
theorem B8 {p:Mv}{X:Addr}{q:Pos×Pos×Pos×Pos×Pos}{Q E:Value->ae->Prop}(x:lg w ab W eB R L loI lo st s)(hroom:A.depth < aA)(hp:lo "start" = some p)(hr:lo "events_registry" = some (.root .reg))(hg:lo nI=some (.list 6))(hX:R.cells[6]? = some X)
  (h:∀ h' t' eG aG c,uL w ab W eB eG aG s.gens.size R (eG.locals :: L) loI lo (put (put (λ_=>ac) "point" p) "events_registry" (.root .reg)) st { s with heap:=h',toks:=t',gens:=s.gens.push (.fresh (x7 eG)) }->iM h' aG s.gens.size ->
   eG.cells.lookup ("segments_ids" : Str)=some c->h'.IsCell c (some (.ref X))->Q (.ref aG) { s with heap:=h',toks:=t',gens:=s.gens.push (.fresh (x7 eG)) }) :
  wpAny (Mq pg w) A (eval (pj q) W.eS) Q E s:=by
 obtain ⟨l,m,F,y⟩:=x.mS
 have hX0:(K w.params).In s.heap:=x.D.G.X.keeps x.D.old
 refine aN (cj (wm (v:=.ref 838) (s:=ng s) F x.D.G x.D.old ⟨rfl,?_⟩))
 refine cw (am (zg F y hg (by lk) (by lk) λu1 _ v1=>am (zg F y hp (by lk) (by lk) λu2 _ v2=>am (zg F y hr (by lk) (by lk) λu3 _ v3=>az ⟨wn hX0 (by lk),?_⟩))))
 cases v1 with | mk e6 =>
 rw [hX] at e6
 cases sj e6
 refine Dm hX0 (x.D.G.nolimit x.D.old) hroom λh' t' eG aG c Fg hl hc hcc k i n=>?_
 have kr:fh s.heap h':=λb o e _=>k b o e
 have fresh:s.heap.get? eG.locals=ac:=by rw [hl];exact aB (aQ _)
 have ne:∀ {env sc lo},jI R L s.heap env sc lo->eG.locals≠env.locals:=λz q=>by
  obtain ⟨_,m',F',_⟩:=z
  obtain ⟨o,e,_⟩:=F'.fr
  rw [<- q,fresh] at e;exact ns e
 have aI:∀ {b g},iM s.heap b g->aG≠b:=λz q=>by
  refine cB z.fields λo fs e _=>?_
  rw [<- q,n] at e;exact ns e
 refine h h' t' eG aG c ⟨x.grow k fresh Fg.fr trivial,⟨.head _,_,Fg,?_⟩,⟨ne x.mC,ne x.mS,ne x.mI⟩,λz hz=>ne (x.mO z hz).1,?_,⟨aI x.iI,aI x.iS⟩,⟨?_,?_⟩,?_⟩ i (by rw [hc];rfl) hcc
 ·intro z v hz
  unfold put at hz
  split at hz
  ·rename_i e;subst e;cases hz
   exact ⟨u3,rfl,v3.recs x.D kr⟩
  ·rename_i e1
   split at hz
   ·rename_i e;subst e;cases hz
    exact ⟨u2,rfl,v2.recs x.D kr⟩
   ·exact ns hz
 ·cases q:ab.get? aG with
  | none=>rfl
  | some o=>rw [x.D.old _ _ q] at n;exact nomatch n
 ·refine bg x.gI λg' e _=>?_
  have:=(aZ.mp e).1
  exact fJ ‹_›
 ·have:=x.sS;exact fJ ‹_›
 ·show s.gens.size < (s.gens.push _).size
  rw [j5];exact cD _
end
abbrev x6 (env:Env):Code:=.func (aO 833) env
abbrev cW (env:Env)(a:Addr):Code:=.forLoop (.Name "event" wX) (.ref a) xX [] env
abbrev swLi:Stmt:=.Assign [.Name nI swLa] (.List [Fi] swLb) swLc
abbrev yz:Stmt:=.Expr (.YieldFrom swZ Fe) Fd
def Kf (env:Env):Flow->Sem aP:=λf=>match f with
 | .next=>(execs [yz] env).wrap KF (HF env) id id
 | f=>KF f
def K1 (env:Env)(a:Addr):Flow->Sem aP:=λf=>match f with
 | .next=>(execs [] env).wrap (KW (cW env a)) (HW env) id id
 | f=>KW (cW env a) f
def tB (env:Env)(a:Addr):Sem aP:=(execs [BH,swLi] env).wrap (K1 env a) (HW env) id id
def LF (W:nO)(F1:Frame):Prop:=Bn (x6 W.eS) (Kf W.eS) [] F1
def Bp (W:nO):Bool->List Frame->Prop
 | true,fs=>∃ F2,fs=[F2]/\sf (x6 W.eS) (KF .next) [] F2
 | false,fs=>∃ Fy F1,fs=[Fy,F1]/\sf (cW W.eS W.aI) (tB W.eS W.aI) [F1] Fy/\LF W F1
theorem rP {W:nO}{F1:Frame}(l:LF W F1):Gf W.eS (cW W.eS W.aI) [F1]:=by
 obtain ⟨⟨k,q,p,rfl⟩,_⟩:=l
 exact ⟨rfl,rfl,by show 3 * 0<=4;exact dB _,rfl,aQ 1,by show 3 * 1+0<=4;exact aW _,rfl,rfl,rfl⟩
theorem HB (a:Addr):(iY a).frames=0:=rfl
theorem Aw {W:nO}{fin:Bool}{fs:List Frame}{a:Addr}(l:Bp W fin fs):Gf W.eS (iY a) fs:=by
 cases fin with
 | true =>
  refine dJ l λF2 y18 y19 _=>?_;subst y18;obtain ⟨k,q,p,rfl⟩:=y19
  exact ⟨rfl,rfl,by show 1+3 * 0<=4;decide,rfl,aQ 1,by show 3 * 1+0<=4;exact aW _,rfl,rfl,rfl⟩
 | false =>
  refine C1 l λFy F1 y13 y14 y15 _=>?_;subst y13;obtain ⟨⟨k,q,p,rfl⟩,_⟩:=y14;refine el31 y15 λk2 q2 p2 y21=>?_;subst y21
  exact ⟨rfl,rfl,bK rfl,rfl,aQ 1,by show 3 * 0+(3 * 1+0)<=4;exact aW _,rfl,rfl,rfl⟩
section
variable {w:World}{W:nO}{eB lo hJ:Lo}{R:aD}{L S:List Addr}{st:St}{s:ae}{env:Env}{a:Addr}{g n k:Nat}
theorem lg.ext {t:Nat}(y:lg w ab W eB R L loI lo st s)(k:Sb s.heap h'):lg w ab W eB R L loI lo st (up s h' t) where
 D:=y.D.ext k
 len:=y.len
 live:=y.live
 mC:=y.mC.recs y.D λb o e _=>k b o e
 mS:=y.mS.recs y.D λb o e _=>k b o e
 mI:=y.mI.recs y.D λb o e _=>k b o e
 mO:=λz hz=>um (y.mO z hz) λa b c d e=>⟨a.recs y.D λb o e _=>k b o e,b,c,d,e⟩
 ap:=y.ap
 iS:=y.iS.keeps k
 iI:=y.iI.keeps k
 i0:=y.i0
 gI:=y.gI
 sS:=y.sS
 nS:=y.nS
 calm:=y.calm
 oe:=y.oe
theorem lg.six {l:List Mv}{vs:List Value}(y:lg w ab W eB R L loI lo st s)(hC:eN eB=eB)(ha:IsL s.heap a vs.toArray kk)(hv:bz (V R s.heap) l vs)(hn:∀ v∈l,no6 v=true)(h0:ab.get? a=ac)(hc:a∉R.cells)(h6:Cl6 st):lg w ab W eB (R6 R a) L (eN loI) (eN lo) (S6 st l) s where
 D:=y.D.six ha hv hn h0 hc h6
 len:=by show (R.cells.take 6++[a]).length=7;rw [bG,jG,y.len];rfl
 live:=y.live
 mC:=by have:=y.mC.six a;rwa [hC] at this
 mS:=y.mS.six a
 mI:=y.mI.six a
 mO:=λz hz=>um (y.mO z hz) λq b c d e=>⟨by have:=q.six a;rwa [b] at this,b,c,d,e⟩
 ap:=y.ap
 iS:=y.iS
 iI:=y.iI
 i0:=y.i0
 gI:=y.gI
 sS:=y.sS
 nS:=y.nS
 calm:=y.calm
 oe:=y.oe
theorem jX {x:Str}{v:Mv}{u:Value}{Q:Unit->ae->Prop}(D:Wd w ab R st L s.heap)(O:Ok n A)(F:Fs L A)(T:iU A env)(Fx:bZ env sc s.heap m)(Lo:ci R s.heap lo m)(hx:dY sc x=true)(hu:V R s.heap v u)
  (hQ:∀ h' t' m',Wd w ab R st L h'->Pg [env.locals] R L s.heap h'->bZ env sc h' m'->ci R h' (put lo x v) m'->Q () (up s h' t')):wpAny (Mq pg w) A (jz env x u) Q E s:=by
 have B:=D.be (s:=ng s) O F
 refine cj (gx B T Fx Lo hx hu λh' t' m' nx Fx' Lo'=>?_)
 obtain ⟨D',P'⟩:=D.next (S:=[env.locals]) nx.inv nx.keep (λa ha=>by
  rcases ah.mp ha with rfl
  exact Fx'.fr)
 exact ⟨rfl,hQ h' t' m' D' P' Fx' Lo'⟩
def lP (w:World)(ab:Heap)(W:nO)(eB:Lo)(out:Option Mv)(P':Pt)(Φ:End->ae->Prop):Prop:=
 ∀ (s':ae) (R':aD) (L':List Addr),match out,P' with
  | some v,.grp fin loI lo hJ st rest=>∀ eG aG gG it l gs' fs u,uL w ab W eB eG aG gG R' L' loI lo hJ st s'->(fin=false->It w W s')->m9 s'.heap aG gG->s'.gens[gG]? = some gs'->qB w eG it gs'->ab.get? it=ac->At s'.heap R' it l rest->V R' s'.heap v u->Bp W fin fs ->
    ∀ ps kk,Hh w aG gG fs kk->Φ (.susp u false [] kk (iY aG) ps fs) s'
  | ac,_=>(∃ loI lo st,lg w ab W eB R' L' loI lo st s')->Φ (.ret (.ok (.ret .none))) s'
  | _,_=>True
def oL (n k:Nat)(w:World)(ab:Heap)(W:nO)(eB:Lo):Prop:=∀ (A:aw) (s:ae) (R:aD) (L:List Addr) (loI lo:Lo) (st:St) (F1:Frame) (out:Option Mv) (P':Pt) (Φ:End->ae->Prop),
 lg w ab W eB R L loI lo st s->It w W s->LF W F1->Ok (n+8) A->Fs L A->fX (fO n) n k (.head loI lo st)=some (out,P')->lP w ab W eB out P' Φ->RT (Mq pg w) A (cW W.eS W.aI) ((Mq pg w).den (cW W.eS W.aI)) [F1] s Φ
def GrpIn (w:World)(ab:Heap)(eG:Env)(R:aD)(st:St)(rest:List (Int×Int))(h:Heap)(gs:bk):Prop:=
 (gs=.fresh (x7 eG)/\∃ c X ids,eG.cells.lookup ("segments_ids" : Str)=some c/\h.IsCell c (some (.ref X))/\R.cells[6]? = some X/\st[6]? = some (ids.map .int)/\ids.length<=1000/\rest=n9 ids) \/
 ∃ it l,qB w eG it gs/\ab.get? it=ac/\At h R it l rest
def uK (n k:Nat)(w:World)(ab:Heap)(W:nO)(eB:Lo):Prop:=∀ (A:aw) (s:ae) (R:aD) (L:List Addr) (eG:Env) (aG:Addr) (gG:Nat) (gs:bk) (fin:Bool) (loI lo hJ:Lo) (st:St) (rest:List (Int×Int)) (fs:List Frame) (out:Option Mv) (P':Pt) (Φ:End->ae->Prop),
 uL w ab W eB eG aG gG R L loI lo hJ st s->(fin=false->It w W s)->iM s.heap aG gG->s.gens[gG]? = some gs->GrpIn w ab eG R st rest s.heap gs->Bp W fin fs->Ok (n+8) A->Fs L A->fX (fO n) n k (.grp fin loI lo hJ st rest)=some (out,P')->lP w ab W eB out P' Φ ->
 RT (Mq pg w) A (iY aG) ((Mq pg w).den (iY aG)) fs s Φ
theorem qB.calm (x:qB w env it gs):iJ gs:=by
 refine kW x λk p F y16 _=>?_;subst y16
 exact ⟨rfl,rfl⟩
set_option tactic.hygienic true in
theorem xS {F1:Frame}{out:Option Mv}(hC:eN eB=eB)(H:oL n k w ab W eB)(x:lg w ab W eB R L loI lo st s)(hI:It w W s)(l:LF W F1)(O:Ok (n+8) A)(Fr:Fs L A)
  (hf:(nk (fO n) (aJ 833) BH lo st).bind (yB (fO n) (fX (fO n) n k) loI)=some (out,P')) (hp:lP w ab W eB out P' Φ):RT (Mq pg w) A (cW W.eS W.aI) (tB W.eS W.aI) [F1] s Φ:=by
 have gf:=rP l
 have O1:Ok (n+7) (A.over (cW W.eS W.aI) [F1]):=gf.ok O (by exact cD _)
 obtain ⟨lS,m,F,y⟩:=x.mS
 have Fr1:=gf.fs Fr F lS
 have T1:=gf.topm Fr
 refine aC (f:=yB (fO n) (fX (fO n) n k) loI) hf λp e1 g1=>ba g1 λhn g2=>dG g2 λv st2 e2 g3=>aC g3 λi hi g4=>ba g4 λh6 g5=>?_
 obtain ⟨fl0,lo1,bA⟩:=p
 cases l8 hn
 cases dO hi
 refine f8 (Hv (n:=n) x.D (O1.le (by exact aE _ _)) Fr1 T1 F y e1 nofun λh1 t1 m1 fl D1 P1 F1' y1 hfl=>?_)
 cases fl<;>first | exact hfl.elim | skip
 have x1:=x.own (t:=t1) D1 P1 F1' y1
 refine f8 (cJ (mK (am (q_e (n:=n) (s:=(up s h1 t1)) D1 (O1.le (by exact aE _ _)) Fr1 F1' y1 (lB e2) λh2 t2 u D2 P2 F2 y2 hu=>az ⟨by show 1<=2 ^ 24;decide,?_⟩))) (by rfl))
 have x2:=x1.own (t:=t2) D2 P2.to1 F2 y2
 have kx:Sb h2 (h2.push { cls:=.type "list",data:=.seq [u].toArray }):=λb o e=>ak _ e
 have x3:=x2.ext (t:=t2) kx
 have n2:h2.get? h2.objs.size=ac:=aB (aQ _)
 have x4:=x3.six (a:=h2.objs.size) (l:=[.int i]) (vs:=[u]) (kk:=0) hC (ar _ rfl) (.cons (hu.recs D2 λb o e _=>kx b o e) .nil) (by intro v hv;rcases ah.mp hv with rfl;rfl) (by
   cases q:ab.get? h2.objs.size with
   | none=>rfl
   | some o=>rw [D2.old _ _ q] at n2;exact nomatch n2) (λq=>by
   refine bg (D2.hs.cl _ q) λo e _=>?_
   rw [n2] at e;exact ns e) (by
   intro l hl v hv
   have:=bj.mp h6 l hl
   exact bj.mp this v hv)
 obtain ⟨_,m4,F4,y4⟩:=x4.mS
 have c6:(R6 R h2.objs.size).cells[6]? = some h2.objs.size:=by
  show (R.cells.take 6++[h2.objs.size])[6]? = _
  have hl:(R.cells.take 6).length=6:=by rw [jG,x.len];rfl
  rw [List.getElem?_append_right (by exact Nat.le_of_eq ‹_›),hl]
  rfl
 refine jX (n:=n) (s:={ s with heap:=h2.push { cls:=.type "list",data:=.seq [u].toArray },toks:=t2 }) (v:=.list 6) x4.D (O1.le (by exact aE _ _)) Fr1 T1 F4 y4 (by lk) (.list c6) λh5 t5 m5 D5 P5 F5 y5=>?_
 have x5:=x4.own (t:=t5) D5 P5 F5 y5
 refine wc ?_
 show RT _ A _ (.pure (.again (cW W.eS W.aI))) [F1] _ Φ
 exact ju rfl (H A _ _ L _ _ _ F1 out P' Φ x5 hI l O Fr g5 hp)
end
section
variable {w:World}{W:nO}{eB lo hJ:Lo}{R:aD}{L S:List Addr}{st:St}{s:ae}{env:Env}{a:Addr}{g n k:Nat}
theorem Ar (hC:eN eB=eB)(H:oL n k w ab W eB):uK n (k+1) w ab W eB:=by
 intro A s R L eG aG gG gs fin loI lo hJ st rest fs out P' Φ x hI ig hgs gi fo O Fr hf hp
 have hI':∀ gs',fin=false->∀ h' t',It w W { s.setGen gG gs' with heap:=h',toks:=t' }:=λgs' e h' t'=>by
  refine bg (hI e) λg' e1 e2=>?_
  exact ⟨g',(fk x.gGI.1).trans e1,e2⟩
 refine aC (f:=yA (fO n) (fX (fO n) n k) fin loI lo) hf λz h1 h2=>?_
 obtain ⟨r,rest',loG',st'⟩:=z
 have gf:=Aw (a:=aG) fo
 have O1:Ok (n+7) (A.over (iY aG) fs):=gf.ok O (by exact cD _)
 obtain ⟨lS,mS,FS,yS⟩:=x.base.mS
 have Fr1:=gf.fs Fr FS lS
 obtain ⟨lG,mG,FG,yG⟩:=x.mG
 have post:∀ X0,(∀ a g,iM s.heap a g->a∉X0)->su w ab R L A eG aG gG fs Φ s r rest' loG' st' X0:=by
  intro X0 hX h' t' m' D' P1 F' y'
  cases r with
  | some v =>
   cases h2
   intro it l u gs' i0 at_ hu sg is ps kk hgo
   have x':=x.turn (t:=t') D' P1 hX F' y' sg.calm
   exact hp _ R L eG aG gG it l gs' fs u x' (λe=>hI' gs' e h' t') is (gX x.gsz) sg i0 at_ hu fo ps kk hgo
  | none =>
   intro ig'
   have x':=x.turn (t:=t') (gs:=.finished) D' P1 hX F' y' trivial
   cases fin with
   | true =>
    cases h2
    refine bg fo λF2 y6 ld=>?_;subst y6
    have hz:=hp _ R L ⟨_,_,_,x'.base⟩
    have z:RT (Mq pg w) A (x6 W.eS) (KF .next) [] _ Φ:=u7 (.ok (.ret .none)) hz
    exact ld.2 _ _ _ _ _ z
   | false =>
    refine xI fo λFy F1 y7 ld lf=>?_;subst y7
    exact ld.2 _ _ _ _ _ (xS hC H x'.base (hI' _ rfl h' t') lf O Fr h2 hp)
 rcases gi with ⟨rfl,c,X,ids,hc,hcc,hX,hs,hz,rfl⟩ | ⟨it,l,sg,i0,at_⟩
 ·exact tX (k:=n+7) O1 (by exact aT (by decide) _) Fr1 lG x.base.D FG yG hc hcc hX hs hz ig x.g0 hgs gf.sp h1 (post [] λ_ _ _ q=>nomatch q)
 ·refine vw (k:=n+7) sg O1 (by exact aT (by decide) _) Fr1 lG x.base.D FG yG i0 at_ ig x.g0 hgs gf.sp h1 (post [it] λa g z q=>?_)
  rcases ah.mp q with rfl
  obtain ⟨⟨i,items,⟨o,e1,c1,d1⟩,_⟩,_⟩:=at_
  refine qb z λog _ _ eg cg _=>?_
  rw [eg] at e1;cases e1;rw [cg] at c1;trivial
theorem pW {ids:List Int}(h:Ao st=some ids):st[6]? = some (ids.map .int)/\ids.length<=1000:=by
 refine aC h λns h1 h2=>aC h1 λl h3 h4=>ba h2 λhz h5=>?_
 cases h5
 exact ⟨by rw [h3,jc h4],of_decide_eq_true hz⟩
theorem vu {x:Lo}(h:tW lo=some x):∃ p,lo "start" = some p/\lo "events_registry" = some (.root .reg)/\lo nI=some (.list 6)/\x=put (put (λ_=>ac) "point" p) "events_registry" (.root .reg):=by
 refine aC h λp hp g=>ba g λhc g2=>bR hc λh1 h2=>?_
 cases g2
 exact ⟨p,hp,Hg h1,A7 h2,rfl⟩
theorem qS {c:Code}{fs0:List Frame}{fin:Bool}{K:Flow->Sem aP}{H:Value->Sem aP}{q:Pos×Pos×Pos×Pos×Pos}{p1 p2:Pos}{ids:List Int}{out:Option Mv}(G:uK n k w ab W eB)(x:lg w ab W eB R L loI lo st s)(hI:fin=false->It w W s)(hroom:(A.over c fs0).depth < aA)
  (O:Ok (n+8) A) (Fr:Fs L A) (hid:Ao st=some ids) (hgl:tW lo=some hJ) (hf:fX (fO n) n k (.grp fin loI lo hJ st (n9 ids))=some (out,P')) (hp:lP w ab W eB out P' Φ)
  (hfo:∀ F,sf c (K .next) fs0 F->Bp W fin (F :: fs0)):RT (Mq pg w) A c ((exec (.Expr (.YieldFrom (pj q) p1) p2) W.eS).wrap K H id id) fs0 s Φ:=by
 have hs:=(pW hid).1;have hz:=(pW hid).2
 refine el14 (vu hgl) λp eU hp2 hp3 y9=>?_;subst y9
 obtain ⟨lS,mS,FS,yS⟩:=x.mS
 obtain ⟨X,hX⟩:∃ X,R.cells[6]? = some X:=⟨_,bh (by rw [x.len];exact cD _)⟩
 refine rA rfl (pP FS) (B8 x hroom eU hp2 hp3 hX λh' t' eG aG c' gr ig hc hcc=>?_)
 refine ⟨aG,_,rfl,ig,λF ld=>?_⟩
 refine G A _ R _ eG aG _ (.fresh (x7 eG)) fin loI lo _ st (n9 ids) (F :: fs0) out P' Φ gr ?_ ig ?_ (.inl ⟨rfl,c',X,ids,hc,hcc,hX,hs,hz,rfl⟩) (hfo F ld) O ?_ hf hp
 ·intro e
  refine bg (hI e) λg' e1 e2=>?_
  exact ⟨g',(Array.getElem?_push_lt (aZ.mp e1).1).trans ((lT _).symm.trans e1),e2⟩
 ·show (s.gens.push _)[s.gens.size]? = _
  simp
 ·refine bg Fr λouter e f=>?_
  exact ⟨outer,e,λenv he=>let ⟨a,F,b,c⟩:=f env he;⟨a,F,.tail _ b,c⟩⟩
end
section
variable {w:World}{W:nO}{eB lo hJ:Lo}{R:aD}{L S:List Addr}{st:St}{s:ae}{env:Env}{a:Addr}{g n k:Nat}
theorem GB (F:Fs L A):Fs L A.in1:=F
theorem DH (n:Nat)(P:Pt):fX (fO n) n 0 P=ac:=rfl
theorem xy {F1:Frame}{out:Option Mv}(H:oL n k w ab W eB)(G:uK n k w ab W eB)(x:lg w ab W eB R L loI lo st s)(hI:It w W s)(lf:LF W F1)(O:Ok (n+8) A)(Fr:Fs L A)
  (hf:(nk (fO n) (aJ 833) swA lo st).bind (Fh (fO n) (fX (fO n) n k) loI)=some (out,P')) (hp:lP w ab W eB out P' Φ) :
  wO (Mq pg w) A (cW W.eS W.aI) xX W.eS (KW (cW W.eS W.aI)) (HW W.eS) id id [F1] s Φ:=by
 have gf:=rP lf
 have O1:Ok (n+7) (A.over (cW W.eS W.aI) [F1]):=gf.ok O (by exact cD _)
 obtain ⟨lS,m,F,y⟩:=x.mS
 have Fr1:=gf.fs Fr F lS
 have T1:=gf.topm Fr
 have On:Ok n (A.over (cW W.eS W.aI) [F1]):=O1.le (by exact aE _ _)
 refine aC (f:=Fh (fO n) (fX (fO n) n k) loI) hf λp e1 g1=>ba g1 λhn g2=>dW g2 λb st2 e2 e3=>?_
 obtain ⟨fl0,lo1,bA⟩:=p
 cases l8 hn
 rw [Fj]
 refine f8 (Hv (n:=n) x.D On Fr1 T1 F y e1 nofun λh1 t1 m1 fl D1 P1 F1' y1 hfl=>?_)
 cases fl<;>first | exact hfl.elim | skip
 have x1:=x.own (t:=t1) D1 P1 F1' y1
 refine gV (yX (q_t (n:=n) (s:=(up s h1 t1)) D1 On Fr1 F1' y1 e2 λh2 t2 D2 P2 F2 y2=>?_))
 have x2:=x1.own (t:=t2) D2 P2.to1 F2 y2
 cases b with
 | true =>
  rw [if_pos rfl]
  refine aC (f:=λ(q:Fl×Lo×St)=>dS (kq q.1) (fX (fO n) n k (.head loI q.2.1 q.2.2))) e3 λp e4 g3=>ba g3 λhn g4=>?_
  obtain ⟨fl0,lo3,st3⟩:=p
  cases l8 hn
  refine f8 (Hv (n:=n) (s:=(up s h2 t2)) D2 On Fr1 T1 F2 y2 e4 nofun λh3 t3 m3 fl D3 P3 F3 y3 hfl=>?_)
  cases fl<;>first | exact hfl.elim | skip
  have x3:=x2.own (t:=t3) D3 P3 F3 y3
  refine wc ?_
  show RT _ A _ (.pure (.again (cW W.eS W.aI))) [F1] _ Φ
  exact ju rfl (H A _ R L loI lo3 st3 F1 out P' Φ x3 hI lf O Fr g4 hp)
 | false =>
  rw [if_neg dD]
  refine aC (f:=λids=>(tW lo1).bind λhJ=>fX (fO n) n k (.grp false loI lo1 hJ st2 (n9 ids))) e3 λids e4 e5=>aC e5 λhJ e6 e7=>?_
  rw [Ff]
  refine gV ?_
  exact qS (fin:=false) G x2 (λ_=>hI) On.d0 O Fr e4 e6 e7 hp λFy ld=>⟨Fy,F1,rfl,ld,lf⟩
theorem xj:dY (aJ 833) "event" = true:=by lk
theorem xx (H:oL n k w ab W eB)(G:uK n k w ab W eB):oL n (k+1) w ab W eB:=by
 intro A s R L loI lo st F1 out P' Φ x hI lf O Fr hf hp
 refine aC (f:=yD (fO n) (fX (fO n) n k) lo) hf λz h1 h2=>?_
 obtain ⟨r,loI1,bA⟩:=z
 have gf:=rP lf
 have O1:Ok (n+7) (A.over (cW W.eS W.aI) [F1]):=gf.ok O (by exact cD _)
 obtain ⟨lS,m,F,y⟩:=x.mS
 obtain ⟨lI,mI,FI,yI⟩:=x.mI
 have Fr1:=gf.fs Fr F lS
 have T1:=gf.topm Fr
 refine bg hI λgs eg ig=>?_
 have nl:s.heap.NoLimit:=x.D.G.nolimit x.D.old
 have dp:(A.over (cW W.eS W.aI) [F1]).depth < aA:=O1.d0
 refine mN (s5 O1.handled nl dp x.iI eg ?_)
 refine CB (s:=s.setGen W.gI .running) ig (Ok.in1 (k:=n+6) O1) (by exact aT (by decide) _) Fr1 lI x.D FI yI h1 λh' t' m' D1 P1 F1' y1=>?_
 cases r with
 | none =>
  intro h2' k2
  rw [f7]
  have x1:=(x.turn (t:=t') (gs:=.finished) D1 P1 F1' y1 (.inl rfl) trivial).ext (t:=t') k2
  refine aC (f:=λids=>(tW lo).bind λhJ=>fX (fO n) n k (.grp true loI1 lo hJ bA (n9 ids))) h2 λids e4 e5=>aC e5 λhJ e6 e7=>?_
  refine lf.2 _ _ _ .next _ _ ?_
  show wO (Mq pg w) A (x6 W.eS) [yz] W.eS KF (HF W.eS) id id [] _ Φ
  refine gV ?_
  show RT _ A _ ((exec (.Expr (.YieldFrom swZ Fe) Fd) W.eS).wrap _ _ _ _) [] _ Φ
  rw [Fc]
  have dp2:(A.over (x6 W.eS) []).depth < aA:=(oj (n:=n+7) (env:=W.eS) (b:=aO 833) O).d0
  exact qS (fin:=true) G x1 (λe=>by cases e) dp2 O Fr e4 e6 e7 hp λF2 ld=>⟨F2,rfl,ld⟩
 | some ev =>
  intro u hu kk p F' gu ig'
  refine ⟨rfl,gu,?_⟩
  rw [f7]
  have x1:=x.turn (t:=t') D1 P1 F1' y1 (.inr ig') ig'.calm
  have hI1:It w W { s.setGen W.gI (.suspended kk [] (cI W.eI) p [F'] false) with heap:=h',toks:=t' }:=⟨_,gX (aZ.mp eg).1,ig'⟩
  obtain ⟨_,mS1,FS1,yS1⟩:=x1.mS
  refine gC (t:=eJ (.Name "event" wX) (.ref W.aI) u) (a:=()) rfl ?_
  refine rC (n:=n) (a:=ev) x1.D (O1.le (by exact aE _ _)) Fr1 T1 FS1 yS1 xj hu λh3 t3 m3 D3 P3 F3 y3=>?_
  have x3:=x1.own (t:=t3) D3 P3 F3 y3
  exact xy H G x3 hI1 lf O Fr h2 hp
theorem n8 (hC:eN eB=eB):∀ k,oL n k w ab W eB/\uK n k w ab W eB
 | 0=>by
  constructor
  ·intro A s R L loI lo st F1 out P' Φ _ _ _ _ _ hf _
   exact ns hf
  ·intro A s R L eG aG gG gs fin loI lo hJ st rest fs out P' Φ _ _ _ _ _ _ _ _ hf _
   exact ns hf
 | k+1=>let ⟨H,G⟩:=n8 hC k;⟨xx H G,Ar hC H⟩
end
def EF:List Stmt:=(iX (aO 845)).2.2.1
def qy:Pos:=(iX (aO 845)).1.pos
def AN (I:ja)(lo:Lo)(v:Mv)(st:St):Option (Fl×Lo×St):=I.s (aJ 845) EF (put lo "intersection" v) st
def csEnd (go:Lo->St->Option Bool)(p:Fl×Lo×St):Option Bool:=match p.1 with
 | .ret v=>kG v
 | .next=>go p.2.1 p.2.2
 | .brk=>ac
 | .cont=>ac
 | .err=>ac
def rV (go:Lo->Pt->Option Bool)(I:ja)(lo:Lo)(q:Option Mv×Pt):Option Bool:=match q.1 with
 | ac=>some false
 | some v=>match q.2 with
  | .grp fin loI loS hJ st rest=>(AN I lo v st).bind (csEnd λlo st=>go (eN lo) (.grp fin loI loS hJ st rest))
  | .head .. => ac
noncomputable def kC (I:ja)(n f:Nat):Nat->Lo->Pt->Option Bool
 | 0,_,_=>ac
 | k+1,lo,P=>(fX I n f P).bind (rV (kC I n f k) I lo)
section
variable {w:World}{W:nO}{eB loC' lo hJ:Lo}{R:aD}{L S:List Addr}{st:St}{s:ae}{env:Env}{a:Addr}{g n k:Nat}
theorem q_s {b:List Stmt}{r:Fl}{Q:Flow->ae->Prop}(D:Wd w ab R st L s.heap)(O:Ok n A)(F:Fs L A)(T:iU A env)(Fx:bZ env sc s.heap m)(Lo:ci R s.heap lo m)(hf:(fO n).s sc b lo st=some (r,lo',st'))(hr:r≠.err)
  (hQ:∀ h' t' m' fl,Wd w ab R st' L h'->Pg [env.locals] R L s.heap h'->bZ env sc h' m'->ci R h' lo' m'->EU R h' r fl->Q fl (up s h' t')):wpAny (Mq pg w) A (execs b env) Q E s:=by
 refine cj ((Internal.sound n).s sc b w (Do s.heap R L) A env m (ng s) R lo st r lo' st' _ _ (D.be (s:=ng s) O F) T Fx Lo hf ?_)
 intro R' h' t' m' nx Fx' Lo'
 have e:R'=R:=nx.ext
 subst e
 obtain ⟨D',P'⟩:=D.next (S:=[env.locals]) nx.inv nx.keep (λa ha=>by
  rcases ah.mp ha with rfl
  exact Fx'.fr)
 cases r with
 | next=>exact ⟨rfl,hQ h' t' m' .next D' P' Fx' Lo' trivial⟩
 | brk=>exact ⟨rfl,hQ h' t' m' .brk D' P' Fx' Lo' trivial⟩
 | cont=>exact ⟨rfl,hQ h' t' m' .cont D' P' Fx' Lo' trivial⟩
 | ret v=>exact λu hv=>⟨rfl,hQ h' t' m' (.ret u) D' P' Fx' Lo' hv⟩
 | err=>exact absurd rfl hr
theorem lg.ownC {t:Nat}(x:lg w ab W eB R L loI lo st s)(D':Wd w ab R st' L h')(P:Pg [W.eC.locals] R L s.heap h')(F:bZ W.eC (aJ 845) h' m)(y:ci R h' loC' m):lg w ab W loC' R L loI lo st' (up s h' t) where
 D:=D'
 len:=x.len
 live:=x.live
 mC:=⟨x.mC.1,m,F,y⟩
 mS:=x.mS.pg x.D P (λa ha=>by rcases ah.mp ha with rfl;exact x.mC.1) (by simpa using cb x.ap.1)
 mI:=x.mI.pg x.D P (λa ha=>by rcases ah.mp ha with rfl;exact x.mC.1) (by simpa using cb x.ap.2.1)
 mO:=λz hz=>um (x.mO z hz) λa b c d e=>⟨a.pg x.D P (λa ha=>by rcases ah.mp ha with rfl;exact x.mC.1) (by simpa using c),b,c,d,e⟩
 ap:=x.ap
 iS:=x.iS.pg x.D P
 iI:=x.iI.pg x.D P
 i0:=x.i0
 gI:=x.gI
 sS:=x.sS
 nS:=x.nS
 calm:=x.calm
 oe:=x.oe
theorem uL.ownC {t:Nat}(x:uL w ab W eB eG aG gG R L loI lo hJ st s)(D':Wd w ab R st' L h')(P:Pg [W.eC.locals] R L s.heap h')(F:bZ W.eC (aJ 845) h' m)(y:ci R h' loC' m):uL w ab W loC' eG aG gG R L loI lo hJ st' (up s h' t) where
 base:=x.base.ownC D' P F y
 mG:=x.mG.pg x.base.D P (λa ha=>by rcases ah.mp ha with rfl;exact x.base.mC.1) (by simpa using x.apG.1)
 apG:=x.apG
 apO:=x.apO
 g0:=x.g0
 aGI:=x.aGI
 gGI:=x.gGI
 gsz:=x.gsz
theorem m9.pg (D:Wd w ab R st L h)(P:Pg S R L h h')(x:m9 h a g):m9 h' a g:=by
 refine cB x.fields λo fs e d=>?_
 have off:=jS D e d
 refine kW x λo nm qn e r=>?_
 exact ⟨o,nm,qn,P.old _ _ off.1 off.2 e,r⟩
theorem lg.filtC (x:lg w ab W eB R L loI lo st s):lg w ab W (eN eB) R L loI lo st s:=
 { x with mC:=⟨x.mC.1,bg x.mC.2 λm F y=>⟨m,F,y.sub λz v e=>(yd.mp e).1⟩⟩ }
theorem uL.filtC (x:uL w ab W eB eG aG gG R L loI lo hJ st s):uL w ab W (eN eB) eG aG gG R L loI lo hJ st s:={ x with base:=x.base.filtC }
theorem pY (lo:Lo):eN (eN lo)=eN lo:=by
 funext x
 unfold eN
 cases h:lo x with
 | none=>rfl
 | some v=>by_cases q:no6 v=true<;>simp [Option.filter,q]
def Bg (w:World)(ab:Heap)(W:nO)(eB:Lo)(R:aD)(L:List Addr)(P:Pt)(s:ae):Prop:=match P with
 | .grp fin loI lo hJ st rest=>∃ eG aG gG it l gs' fs kk ps,uL w ab W eB eG aG gG R L loI lo hJ st s/\(fin=false->It w W s)/\m9 s.heap aG gG/\s.gens[gG]? = some gs'/\qB w eG it gs'/\ab.get? it=ac/\At s.heap R it l rest/\Bp W fin fs /\
   Hh w aG gG fs kk/\s.gens[W.gS]? = some (.suspended kk [] (iY aG) ps fs false)
 | .head .. => False
theorem wT {P:Pt}{out:Option Mv}(hC:eN eB=eB)(x:Bg w ab W eB R L P s)(O:Ok (n+8) A)(Fr:Fs L A)(hf:fX (fO n) n k P=some (out,P'))(hp:lP w ab W eB out P' Φ) :
  ∃ gs,s.gens[W.gS]? = some gs/\wQ (Mq pg w) A gs (.send .none) (s.setGen W.gS .running) Φ:=by
 cases P with
 | head=>exact x.elim
 | grp fin loI lo hJ st rest =>
  obtain ⟨eG,aG,gG,it,l,gs',fs,kk,ps,gr,hI,is,eg,sg,i0,at_,fo,go,es⟩:=x
  refine ⟨_,es,?_⟩
  refine go A (s.setGen W.gS .running) Φ is λh2 i2 sb=>?_
  have nGS:=gr.gGI.2
  refine cB is.fields λog fg e1 d1=>?_
  have kr:fh s.heap h2:=.but e1 d1 sb.extBut
  have D2:=gr.base.D.but e1 d1 gr.g0 sb.extBut
  have kI:∀ {b g},iM s.heap b g->b≠aG->iM h2 b g:=λz hn=>by
   refine kW z λo nm qn e r=>?_
   exact ⟨o,nm,qn,sb.extBut _ _ hn e,r⟩
  have base2:lg w ab W eB R L loI lo st { s.setGen W.gS .running with heap:=h2 }:={
   D:=D2
   len:=gr.base.len
   live:=gr.base.live
   mC:=gr.base.mC.recs gr.base.D kr
   mS:=gr.base.mS.recs gr.base.D kr
   mI:=gr.base.mI.recs gr.base.D kr
   mO:=λz hz=>um (gr.base.mO z hz) λa b c d e=>⟨a.recs gr.base.D kr,b,c,d,e⟩
   ap:=gr.base.ap
   iS:=kI gr.base.iS (cb gr.aGI.2)
   iI:=kI gr.base.iI (cb gr.aGI.1)
   i0:=gr.base.i0
   gI:=by
    refine bg gr.base.gI λg' e r=>?_
    exact ⟨g',(fk (cb gr.base.nS)).trans e,r⟩
   sS:=by show _ < (s.setGen W.gS .running).gens.size;rw [fF];exact gr.base.sS
   nS:=gr.base.nS
   calm:=qd gr.base.calm trivial
   oe:=gr.base.oe }
  have gr2:uL w ab W eB eG aG gG R L loI lo hJ st { s.setGen W.gS .running with heap:=h2 }:={
   base:=base2
   mG:=gr.mG.recs gr.base.D kr
   apG:=gr.apG
   apO:=gr.apO
   g0:=gr.g0
   aGI:=gr.aGI
   gGI:=gr.gGI
   gsz:=by show _ < (s.setGen W.gS .running).gens.size;rw [fF];exact gr.gsz }
  have at2:At h2 R it l rest:=by
   obtain ⟨⟨i,items,⟨o,e1',c1,d1'⟩,⟨o2,e2',c2,d2'⟩,al⟩,off⟩:=at_
   refine qb is λog' _ _ eg' cg _=>?_
   refine ⟨⟨i,items,⟨o,sb.extBut it o (λq=>?_) e1',c1,d1'⟩,⟨o2,sb.extBut l o2 (λq=>?_) e2',c2,d2'⟩,al.imp λ_ _ y=>y.recs gr.base.D kr⟩,off⟩
   ·rw [q,eg'] at e1';cases e1';rw [cg] at c1;trivial
   ·rw [q,eg'] at e2';cases e2';rw [cg] at c2;trivial
  refine (n8 (n:=n) hC k).2 A _ R L eG aG gG gs' fin loI lo hJ st rest fs out P' Φ gr2 (λe=>?_) i2 ((fk (cb nGS)).trans eg) (.inr ⟨it,l,sg,i0,at2⟩) fo O Fr hf hp
  refine bg (hI e) λg' e1 e2=>?_
  exact ⟨g',(fk (cb gr.base.nS)).trans e1,e2⟩
end
section
variable {w:World}{W:nO}{eB loC' lo hJ:Lo}{R:aD}{L S:List Addr}{st:St}{s:ae}{env:Env}{a:Addr}{g n k:Nat}
def xU (w:World)(ab:Heap)(W:nO)(s:ae):Prop:=∃ eB R L loI lo st,eN eB=eB/\lg w ab W eB R L loI lo st s/\sD s
theorem AV (c:iJ gs)(h:Heap):gs.bare=true/\jx h gs:=by
 cases gs with
 | suspended k l c' p fs cl =>
  obtain ⟨rfl,e⟩:=c
  exact ⟨rfl,λa ha=>by rw [e] at ha;exact ns ha⟩
 | _=>exact ⟨rfl,trivial⟩
theorem Au (c:∀ i x,i≠g->s.gens[i]? = some x->iJ x)(hs:∀ x,s.gens[g]? = some x->x.bare=true/\jx s.heap x):sD s:=by
 have key:∀ x∈s.gens,x.bare=true/\jx s.heap x:=λx hx=>by
  obtain ⟨i,hi,e⟩:=Array.mem_iff_getElem.mp hx
  have e':s.gens[i]? = some x:=by rw [lT hi,e]
  by_cases q:i=g
  ·subst q;exact hs x e'
  ·exact AV (c i x q e') _
 exact ⟨λx hx=>(key x hx).1,λx hx=>(key x hx).2⟩
theorem csTg:(iX (aO 845)).1=.Name "intersection" qy:=by lk
theorem xi:dY (aJ 845) "intersection" = true:=by lk
abbrev cC (env:Env)(a:Addr):Code:=.forLoop (.Name "intersection" qy) (.ref a) EF [] env
theorem j4 {lo:Lo}{x:Str}{v:Mv}(h:eN lo=lo)(hv:no6 v=true):eN (put lo x v)=put lo x v:=by
 funext y
 have:=congrFun h y
 unfold eN at this ⊢
 unfold put
 split
 ·simp [Option.filter,hv]
 ·exact this
theorem lg.setS (x:lg w ab W eB R L loI lo st s):lg w ab W eB R L loI lo st (s.setGen W.gS gs) where
 D:=x.D
 len:=x.len
 live:=x.live
 mC:=x.mC
 mS:=x.mS
 mI:=x.mI
 mO:=x.mO
 ap:=x.ap
 iS:=x.iS
 iI:=x.iI
 i0:=x.i0
 gI:=by
  refine bg x.gI λg' e r=>?_
  exact ⟨g',(fk (cb x.nS)).trans e,r⟩
 sS:=by rw [fF];exact x.sS
 nS:=x.nS
 calm:=λi y hi hy=>x.calm i y hi ((fk (cb hi)).symm.trans hy)
 oe:=x.oe
theorem uL.setS (x:uL w ab W eB eG aG gG R L loI lo hJ st s):uL w ab W eB eG aG gG R L loI lo hJ st (s.setGen W.gS gs) where
 base:=x.base.setS
 mG:=x.mG
 apG:=x.apG
 apO:=x.apO
 g0:=x.g0
 aGI:=x.aGI
 gGI:=x.gGI
 gsz:=by rw [fF];exact x.gsz
def CsF1 (b:Bool)(K:Lo->St->Prop)(p:Fl×Lo×St):Prop:=match p.1 with
 | .ret u=>u=.bool b
 | .next=>K p.2.1 p.2.2
 | .brk=>False
 | .cont=>False
 | .err=>False
def CsA (n:Nat)(eB:Lo)(b:Bool)(K:Lo->Pt->Prop)(q:Option Mv×Pt):Prop:=match q.1 with
 | ac=>b=false
 | some v=>match q.2 with
  | .grp fin loI loS hJ st rest=>∃ p,AN (fO n) eB v st=some p/\CsF1 b (λlo st=>K (eN lo) (.grp fin loI loS hJ st rest)) p
  | .head .. => False
def KA (w:World)(Cd:Heap->nO->Prop)(A:aw)(eC:Env)(aS:Addr)(RR:ej->ae->Prop)(lo:Lo)(P:Pt):Prop:=∀ ab W,Cd ab W->∀ R L s,Bg w ab W lo R L P s->bY (Mq pg w) A (cC eC aS) RR s
@[elab_as_elim] theorem nO.eq3 {W:nO}{eC:Env}{aS:Addr}{gS:Nat}{motive:Env->Addr->Nat->Prop}(h:W.eC=eC/\W.aS=aS/\W.gS=gS)(k:motive W.eC W.aS W.gS):motive eC aS gS:=by
 obtain ⟨rfl,rfl,rfl⟩:=h;exact k
theorem wC {Cd:Heap->nO->Prop}{eC:Env}{aS:Addr}{gS:Nat}{out:Option Mv}{b:Bool}(hW:∀ ab W,Cd ab W->W.eC=eC/\W.aS=aS/\W.gS=gS)(hC:eN eB=eB)(O:Ok (n+9) A)(Fr:Fs L A)(T:iU A eC)(nl:s.heap.NoLimit)(hi:iM s.heap aS gS)(hsz:gS < s.gens.size)
  (hgo:∀ Φ,(∀ ab W,Cd ab W->lP w ab W eB out P' Φ)->∃ gs,s.gens[gS]? = some gs/\wQ (Mq pg w) A.in1 gs (.send .none) (s.setGen gS .running) Φ)
  (hlen:∀ ab W,Cd ab W->∀ (s':ae) (R':aD) (L':List Addr) {loI lo st},lg w ab W eB R' L' loI lo st s'->Fs L' A)
  (hr:CsA n eB b (KA w Cd A eC aS RR) (out,P'))
  (hR:∀ ab W,Cd ab W->∀ s',xU w ab W s'->RR (.ok (.ret (.bool b))) s'/\(b=false->RR (.ok .next) s')):bY (Mq pg w) A (cC eC aS) RR s:=by
 refine bc ?_
 show wpAny _ A ((kN (.Name "intersection" qy) (.ref aS) EF [] eC).onRaise (λx=>do dq x eC;ca x)) _ _ s
 unfold kN
 refine bS (ag (bl (ag (bS ?_))))
 have O8:Ok (n+8) A:=O.le (by exact aW _)
 have dp:A.depth < aA:=by have:=O.depth;exact av (aE _ _) ‹_›
 have hback:=hgo (nj (λv s'=>wpAny (Mq pg w) A (do
   eJ (.Name "intersection" qy) (.ref aS) v
   fy (.Name "intersection" qy) eC v
   match <- execs EF eC with
   | .next | .cont=>again (.forLoop (.Name "intersection" qy) (.ref aS) EF [] eC)
   | .brk=>pure (.done .next)
   | .ret v=>pure (.done (.ret v)):Sem aP) (λfin s'=>match fin with | .done f=>RR (.ok f) s' | .again c'=>c'.quiet=true/\bY (Mq pg w) A c' RR s') (λ_ _=>False) s')
  (λ_ s'=>bY (Mq pg w) A (.block [] eC) RR s') gS) ?_
 ·refine bg hback λgs egs go=>?_
  refine s5 O.handled nl dp hi egs (go.mono λe s' he=>nj.mono (λv s' h=>?_) (λh' s' _ h=>?_) he)
  ·exact aR h (λ_ _ x=>x) λ_ _ x=>x.elim
  ·exact aj ⟨rfl,h⟩
 ·intro ab W cd s' R' L'
  clear hgo hi hsz nl dp
  revert T hr
  refine nO.eq3 (hW ab W cd) ?_
  intro T hr
  cases out with
  | none =>
   rintro ⟨loI,lo,st,x⟩ h2 k2
   refine bc ?_
   have hb:b=false:=hr
   have fin:xU w ab W { s'.setGen W.gS .finished with heap:=h2 }:=by
    have x2:=(x.setS (gs:=.finished)).ext (t:=s'.toks) k2
    refine ⟨eB,R',L',loI,lo,st,hC,x2,Au x2.calm λy hy=>?_⟩
    have:(s'.setGen W.gS .finished).gens[W.gS]? = some .finished:=gX x.sS
    rw [show ({ s'.setGen W.gS .finished with heap:=h2 }:ae).gens=(s'.setGen W.gS .finished).gens from rfl,this] at hy
    cases hy
    exact ⟨rfl,trivial⟩
   exact aj ((hR _ _ cd _ fin).2 hb)
  | some v =>
   cases P' with
   | head=>exact hr.elim
   | grp fin loI loS hJ st rest =>
    intro eG aG gG it l gs' fs u gr hI is eg sg i0 at_ hu fo ps kk go
    have gf:=Aw (a:=aG) fo
    refine ⟨rfl,gf.gu,?_⟩
    have gr1:=gr.setS (gs:=.suspended kk [] (iY aG) ps fs false)
    have hI1:fin=false->It w W (s'.setGen W.gS (.suspended kk [] (iY aG) ps fs false)):=λe=>by
     refine bg (hI e) λg' e1 e2=>?_
     exact ⟨g',(fk (cb gr.base.nS)).trans e1,e2⟩
    have eg1:(s'.setGen W.gS (.suspended kk [] (iY aG) ps fs false)).gens[gG]? = some gs':=(fk (cb gr.gGI.2)).trans eg
    have eS1:(s'.setGen W.gS (.suspended kk [] (iY aG) ps fs false)).gens[W.gS]? = some (.suspended kk [] (iY aG) ps fs false):=gX gr.base.sS
    generalize hs1:s'.setGen W.gS (.suspended kk [] (iY aG) ps fs false)=s1 at gr1 hI1 eg1 eS1 ⊢
    have hh1:s1.heap=s'.heap:=by rw [<- hs1];rfl
    rw [<- hh1] at is at_ hu
    have Fr1:=hlen _ _ cd s1 R' L' gr1.base
    obtain ⟨lC,mC,FC,yC⟩:=gr1.base.mC
    refine ag (gC (t:=eJ (.Name "intersection" qy) (.ref W.aS) u) (a:=()) rfl ?_)
    refine ag (rC (n:=n) (a:=v) gr1.base.D (O.le (by exact aE _ _)) Fr1 T FC yC xi hu λh2 t2 m2 D2 P2 F2 y2=>?_)
    have gr2:=gr1.ownC (t:=t2) D2 P2 F2 y2
    have sub:∀ a∈[W.eC.locals],a∈L':=λa ha=>by rcases ah.mp ha with rfl;exact lC
    have is2:=is.pg gr1.base.D P2
    have at2:=at_.pg gr1.base.D P2 sub
    refine bg hr λy11 hlk hr=>?_;obtain ⟨fl,lo2,st2⟩:=y11
    refine ag (q_s (n:=n) (s:=up s1 h2 t2) D2 (O.le (by exact aE _ _)) Fr1 T F2 y2 hlk (λq=>by have q:fl=.err:=q;subst q;exact hr) λh3 t3 m3 fl3 D3 P3 F3 y3 hfl=>?_)
    have gr3:=(gr2.ownC (t:=t3) D3 P3 F3 y3).filtC
    have is3:=is2.pg D2 P3
    have at3:=at2.pg D2 P3 sub
    cases fl with
    | ret vv =>
     refine hfl.ret λu hu=>?_
     have hv:vv=.bool b:=hr
     rw [hv] at hu
     cases hu
     exact aj (hR _ _ cd _ ⟨eN lo2,R',L',loI,loS,st2,pY _,gr3.base,Au gr3.base.calm λy hy=>by
      rw [show (up s1 h3 t3).gens=s1.gens from rfl,eS1] at hy
      cases hy
      exact ⟨rfl,λa ha=>by rw [Ah] at ha;cases ha;exact is3.num⟩⟩).1
    | next =>
     refine hfl.next ?_
     exact aj ⟨rfl,hr _ _ cd R' L' _ ⟨eG,aG,gG,it,l,gs',fs,kk,ps,gr3,hI1,is3,eg1,sg,i0,at3,fo,go,eS1⟩⟩
    | _=>exact hr.elim
end
def xV (W:nO)(A:aw):Prop:=∃ outer,A.frames=some (W.eC :: outer)/\∀ env∈outer,∃ x∈W.outs,env=x.1
section
variable {w:World}{W:nO}{eB loC' lo hJ:Lo}{R:aD}{L S:List Addr}{st:St}{s:ae}{n k f:Nat}
theorem xV.topm (a:xV W A):iU A W.eC:=bg a λo e _=>⟨o,e⟩
theorem xV.fs (a:xV W A)(x:lg w ab W eB R L loI lo st s):Fs L A:=by
 refine bg a λouter e f=>?_
 have one:∀ {env sc lo},jI R L s.heap env sc lo->env.scope.kind≠.module/\∃ F∈L,env.frame=some F:=λz=>by
  obtain ⟨l,m,F,_⟩:=z
  exact ⟨(by rw [F.sce,F.kind];decide),_,l,F.frame⟩
 refine ⟨_,e,λenv he=>?_⟩
 rcases aq.mp he with rfl | he
 ·exact one x.mC
 ·refine bg (f env he) λz hz y15=>?_;subst y15
  exact one (x.mO z hz).1
theorem Bg.base {P:Pt}(x:Bg w ab W eB R L P s):∃ loI lo st,lg w ab W eB R L loI lo st s:=by
 cases P with
 | head=>exact x.elim
 | grp fin loI lo hJ st rest =>
  refine el92 x λeG aG gG it l gs' fs kk ps gr _=>?_
  exact ⟨_,_,_,gr.base⟩
theorem ut {b:Bool}{K:Lo->Pt->Prop}{q:Option Mv×Pt}(H:∀ lo P,kC (fO n) n f k lo P=some b->eN lo=lo->K lo P)(hf:rV (kC (fO n) n f k) (fO n) eB q=some b):CsA n eB b K q:=by
 obtain ⟨out,P'⟩:=q
 cases out with
 | none=>exact (sj hf).symm
 | some v =>
  cases P' with
  | head=>exact ns hf
  | grp fin loI loS hJ st rest =>
   refine aC hf λp hp g=>⟨p,hp,?_⟩
   obtain ⟨fl,lo2,st2⟩:=p
   cases fl with
   | ret vv=>exact jo g
   | next=>exact H _ _ g (pY _)
   | _=>exact ns g
theorem C6 {b:Bool}(O:Ok (n+9) A)(a:xV W A)(hR:∀ s',xU w ab W s'->RR (.ok (.ret (.bool b))) s'/\(b=false->RR (.ok .next) s')) :
  ∀ (k:Nat) (lo:Lo) (P:Pt) (s:ae) (R:aD) (L:List Addr),kC (fO n) n f k lo P=some b->eN lo=lo->Bg w ab W lo R L P s->bY (Mq pg w) A (cC W.eC W.aS) RR s:=by
 intro k
 induction k with
 | zero=>intro lo P s R L hf;exact ns hf
 | succ k ih =>
  intro lo P s R L hf hC x
  refine el31 x.base λloI loS st base=>?_
  refine aC (f:=rV (kC (fO n) n f k) (fO n) lo) hf λz hs hf=>?_
  obtain ⟨out,P'⟩:=z
  refine wC (Cd:=λa c=>a=ab/\c=W) (out:=out) (P':=P') (by rintro _ _ ⟨rfl,rfl⟩;exact ⟨rfl,rfl,rfl⟩) hC O (a.fs base) a.topm (base.D.G.nolimit base.D.old) base.iS base.sS (λΦ hp=>?_) (by rintro _ _ ⟨rfl,rfl⟩ s' R' L' _ _ _ y;exact a.fs y)
   (ut (λlo P h1 h2=>by rintro _ _ ⟨rfl,rfl⟩ R L s h3;exact ih lo P s R L h1 h2 h3) hf) (by rintro _ _ ⟨rfl,rfl⟩;exact hR)
  exact wT (A:=A.in1) hC x (Ok.in1 (k:=n+8) O) (a.fs base) hs (hp _ _ ⟨rfl,rfl⟩)
end
noncomputable def eqZ (p q:Pn):Bool:=p == q
theorem vz {p q:Pn}(h:eqZ p q=true):p=q:=eq_of_beq h
noncomputable def wL:Mv->Option (Pn×Pn) | .seg p q=>some (p,q) | _=>ac
theorem uE {v:Mv}{i:Pn×Pn}:wL v=some i->v=.seg i.1 i.2:=gY (f:=wL) (g:=λi=>Mv.seg i.1 i.2) λv=>by cases v<;>rfl
theorem iT {α:Type}{x:Option α}{f:α->Bool}(h:x.any f=true):∃ a,x=some a/\f a=true:=by
 cases x with
 | none=>cases h
 | some a=>exact ⟨a,rfl,h⟩
def eqM (a b:Mv):Bool:=match kY a with
 | some p=>(kY b).any (eqZ p)
 | ac=>(wL a).any λs=>(wL b).any λz=>eqZ s.1 z.1 && eqZ s.2 z.2
theorem GO {a b:Mv}(h:eqM a b=true):a=b:=by
 unfold eqM at h
 cases ha:kY a with
 | some p =>
  rw [ha] at h
  refine bg (iT h) λq hb e=>?_
  rw [fw ha,fw hb,vz e]
 | none =>
  rw [ha] at h
  refine bg (iT h) λs hs e=>?_
  refine bg (iT e) λz hz e=>?_
  have e:=bP.mp e
  rw [uE hs,uE hz,vz e.1,vz e.2]
noncomputable def eqL:List Mv->List Mv->Bool
 | [],m=>m.isEmpty
 | a :: l,m=>match m with
  | []=>false
  | b :: m=>eqM a b && eqL l m
theorem GP {l m:List Mv}(h:eqL l m=true):l=m:=by
 induction l generalizing m with
 | nil=>cases m with
  | nil=>rfl
  | cons=>cases h
 | cons a l ih=>cases m with
  | nil=>cases h
  | cons b m=>exact bR h λp q=>List.cons_eq_cons.mpr ⟨GO p,ih q⟩
def oN (j:Nat)(l:List Mv)(st:St):Bool:=(st[j]?).any (eqL l)
theorem nG {l:List Mv}{st:St}(h:oN j l st=true):st[j]? = some l:=by
 unfold oN at h
 cases hm:st[j]? with
 | none=>rw [hm] at h;cases h
 | some m=>rw [hm] at h;exact congrArg some (GP h).symm
def Ey (go:Lo->St->Option (Fl×Lo×St))(j:Nat)(l:List Mv)(p:Fl×Lo×St):Option (Fl×Lo×St):=match p.1 with
 | .next=>dS (oN j l p.2.2) (go p.2.1 p.2.2)
 | .ret _=>some p
 | .brk=>ac
 | .cont=>ac
 | .err=>ac
noncomputable def CS (I:ja)(sc:Scope)(x:Str)(b:List Stmt)(j:Nat)(l:List Mv):List Mv->Lo->St->Option (Fl×Lo×St)
 | [],lo,st=>some (.next,lo,st)
 | v :: r,lo,st=>(I.s sc b (put lo x v) st).bind (Ey (CS I sc x b j l r) j l)
theorem mU {R:aD}:ci R h (λ_=>ac) m:=λ_ _ e=>ns e
theorem th {R:aD}{lo:Lo}{x:Str}{v:Mv}{u:Value}(y:ci R h lo m)(e:m x=some u)(hv:V R h v u):ci R h (put lo x v) m:=λz v' q=>by
 by_cases zx:z=x
 ·exact ⟨u,zx▸e,sj ((if_pos zx).symm.trans q)▸hv⟩
 ·exact y z v' ((if_neg zx).symm.trans q)
theorem IsListIter.pg {w:World}{R:aD}{st:St}{L S:List Addr}{c:Addr}{i:Nat}(D:Wd w ab R st L h)(P:Pg S R L h h')(x:h.IsListIter it c i):h'.IsListIter it c i:=
 dJ x λo e k d =>
 have off:=jS D e d
 ⟨o,P.old _ _ off.1 off.2 e,k,d⟩
theorem AF {vs:List Value}{l:List Mv}{P:Mv->Value->Prop}{i:Nat}(al:bz P l vs)(h:l.drop i=[]):vs.toArray[i]? = ac:=by
 rw [ey]
 exact List.getElem?_eq_none_iff.mpr (al.length▸List.getElem?_eq_none_iff.mp (uq h))
section
variable {n:Nat}{I:ja}{w:World}{env:Env}{s:ae}{R:aD}{lo:Lo}{st:St}
variable {L:List Addr}
theorem q_for {x:Str}{px:Pos}{b:List Stmt}{c:Addr}{l:List Mv}(O:Ok n A)(Fr:Fs L A)(T:iU A env)(hL:env.locals∈L)(hx:dY sc x=true)(hc:R.cells[j]? = some c)(h0:ab.get? it=ac) :
  ∀ (rest:List Mv) (i:Nat) (s:ae) (m:Str->Option Value) (lo lo':Lo) (st st':St) (r:Fl),
  Wd w ab R st L s.heap->bZ env sc s.heap m->ci R s.heap lo m->s.heap.IsListIter it c i->st[j]? = some l->l.drop i=rest->CS (fO n) sc x b j l rest lo st=some (r,lo',st') ->
  (∀ h' t' m' fl,Wd w ab R st' L h'->Pg [env.locals] R (it :: L) s.heap h'->bZ env sc h' m'->ci R h' lo' m'->EU R h' r fl->RR (.ok fl) (up s h' t')) ->
  bY (Mq pg w) A (.forLoop (.Name x px) (.ref it) b [] env) RR s:=by
 intro rest
 induction rest with
 | nil =>
  intro i s m lo lo' st st' r D F L hi hl hd hf hQ
  cases hf
  refine cB (D.inv.cell hc hl) λvs k e al=>?_
  have hx0:=AF al hd
  refine bc ?_
  show wpAny _ A ((kN (.Name x px) (.ref it) b [] env).onRaise (λx=>do dq x env;ca x)) _ _ s
  unfold kN
  refine bS (ag (bl (ag (bS (zi O.handled hi (eQ e) hx0 λh' ex=>aj ⟨rfl,bc ?_⟩)))))
  refine dJ hi λo eo co do_=>?_
  have kr:fh s.heap h':=.but eo do_ ex
  exact aj (hQ h' s.toks m .next (D.but eo do_ h0 ex) (.oneRec kr ex) (F.recs kr) (L.recs D kr) trivial)
 | cons v rest ih =>
  intro i s m lo lo' st st' r D F Lo hi hl hd hf hQ
  refine cB (D.inv.cell hc hl) λvs k e al=>?_
  obtain ⟨hv,hd'⟩:=oE hd
  refine bg (al.get hv) λu hu pv=>?_
  refine bc ?_
  show wpAny _ A ((kN (.Name x px) (.ref it) b [] env).onRaise (λx=>do dq x env;ca x)) _ _ s
  unfold kN
  refine bS (ag (bl (ag (bS (zj hi (eQ e) (ey.trans hu) λh1 hi1 ex=>?_)))))
  refine dJ hi λo eo co do_=>?_
  have kr:fh s.heap h1:=.but eo do_ ex.extBut
  have D1:=D.but eo do_ h0 ex.extBut
  refine ag (gC (t:=eJ (.Name x px) (.ref it) u) (a:=()) rfl ?_)
  refine ag (rC (n:=n) (s:={ s with heap:=h1 }) (a:=v) D1 O Fr T (F.recs kr) (Lo.recs D kr) hx (pv.recs D kr) λh2 t2 m2 D2 P2 F2 L2=>?_)
  have hi2:=IsListIter.pg D1 P2 hi1
  have pg2:Pg [env.locals] R (it :: L) s.heap h2:=(Pg.oneRec kr ex.extBut).trans P2.wid
  refine aC (f:=Ey (CS (fO n) sc x b j l rest) j l) hf λz hb hf=>?_
  obtain ⟨fl,lo1,bA⟩:=z
  refine ag (q_s (n:=n) (s:=(up s h2 t2)) D2 O Fr T F2 L2 hb (λq=>by subst q;exact ns hf) λh3 t3 m3 fl3 D3 P3 F3 L3 hfl=>?_)
  have pg3:Pg [env.locals] R (it :: L) s.heap h3:=pg2.trans P3.wid
  cases fl with
  | next =>
   refine ba hf λhg hf=>?_
   refine hfl.next ?_
   exact aj ⟨rfl,ih (i+1) _ m3 lo1 lo' bA st' r D3 F3 L3 (IsListIter.pg D2 P3 hi2) (nG hg) hd' hf λh4 t4 m4 fl4 D4 P4 F4 L4 hfl4=>hQ h4 t4 m4 fl4 D4 (pg3.trans P4) F4 L4 hfl4⟩
  | ret vv =>
   cases hf
   refine hfl.ret λu hu=>?_
   exact aj (hQ h3 t3 m3 _ D3 pg3 F3 L3 hu)
  | _=>exact ns hf
end
section
variable {n:Nat}{w:World}{env:Env}{s:ae}{R:aD}{lo:Lo}{st:St}{L:List Addr}
theorem rD (h:wpAny (Mq pg w) (A.deeper env) (execs body env) (λf s'=>RR (.ok (.ret (match f with | .ret v=>v | _=>.none))) s') (λ_ _=>False) s):bY (Mq pg w) A (.func body env) RR s:=by
 refine bc ?_
 show wpAny _ (A.deeper env) (do point;match <- (execs body env).onRaise (nW env) with | .ret v=>PySem.ret v | _=>PySem.ret .none) _ _ s
 refine ag (wpAny_point (ag (bS (aR h (λf s' h'=>?_) λ_ _ x=>x.elim))))
 cases f<;>exact aj h'
theorem q_fun {f:Addr}{ps:List Str}(FR:vJ f ps body sc)(D:Wd w ab R st L s.heap)(hroom:A.depth < aA)(hl:us.length=ps.length)
  (h:∀ h1 env t,bZ env sc h1 (λx=>(ps.zip us).reverse.lookup x)->env.locals=s.heap.objs.size->Wd w ab R st (env.locals :: L) h1->(Sb s.heap h1) ->
   wpAny (Mq pg w) (A.deeper env) (execs body env) (λf s'=>RR (.ok (.ret (match f with | .ret v=>v | _=>.none))) s') (λ_ _=>False) (up s h1 t)):bY (Mq pg w) A (.call (.ref f) ⟨us,[]⟩) RR s:=by
 have X:(K w.params).In s.heap:=D.G.X.keeps D.old
 have nl:s.heap.NoLimit:=D.G.nolimit D.old
 refine C0 (FR.at_ w.params) λoc od osl fd hK hb hs hg hbl hc hcd hbind=>?_
 subst hs
 refine bc ?_
 show wpAny _ A.in1 (jT (.ref f) ⟨us,[]⟩) _ _ s
 refine ag (ij (X _ _ hK) ?_)
 refine xH (codeRec_of X hcd) λc o vs tq hc' hoc hdc hq=>?_
 unfold callFunction;dsimp only;rw [FR.co,FR.gen,hb,hc']
 refine ag (m:=field (.ref c) 1) (kP hoc hdc hq (ag (aj ?_)))
 rw [<- hc']
 refine ag (hbind s us X hl _ _ _ _ (ag ?_))
 rw [hc]
 refine lY FR.cell (λx hx=>FR.loc x.1 (gp hx).1) (λh1 hns hsb=>ag (wpAny_enterFrame (nl.fresh _ hsb) hroom (aj ⟨rfl,rD ?_⟩))) FR.kind
 have kp:Sb s.heap h1:=λb o e=>hsb.extBut b o (bV (bp e)) (ak _ e)
 generalize henv:newEnv fd.scope s.heap.objs.size fd.globals [] _ _ _ _ _=env
 have F:bZ env fd.scope h1 (λx=>(ps.zip us).reverse.lookup x):=by subst henv;exact ⟨rfl,FR.kind,FR.co,hg,hbl,rfl,hns⟩
 have hloc:env.locals=s.heap.objs.size:=by subst henv;rfl
 refine h h1 env _ F hloc ((D.ext kp).wider ?_ F.fr) kp
 have fresh:s.heap.get? env.locals=ac:=by rw [hloc];exact aB (aQ _)
 cases q:ab.get? env.locals with
 | none=>rfl
 | some o=>rw [D.old _ _ q] at fresh;exact nomatch fresh
theorem oA (F:Fs L A)(Fx:bZ env sc h m):Fs (env.locals :: L) (A.deeper env)/\iU (A.deeper env) env:=by
 refine bg F λouter e f=>?_
 have e':(A.deeper env).frames=some (env :: outer):=by show A.frames.map (env :: ·)=_;rw [e];rfl
 refine ⟨⟨_,e',λx hx=>?_⟩,outer,e'⟩
 cases hx with
 | head=>exact ⟨(by rw [Fx.sce,Fx.kind];simp),_,.head _,Fx.frame⟩
 | tail _ hx=>obtain ⟨a,F,b,c⟩:=f x hx;exact ⟨a,F,.tail _ b,c⟩
theorem lW (O:Ok (n+1) A):Ok n (A.deeper env):=⟨O.handled,av (ya (b:=3 * n) (show 1<=3 by decide)) O.depth,av (Nat.add_le_add_right (ya (b:=24 * n) (show 3<=24 by decide)) 8) O.units⟩
end
noncomputable def RA (R:aD)(a:Addr):aD:={ R with cells:=R.cells++[a] }
section
variable {w:World}{R:aD}{st:St}{L:List Addr}{env:Env}{lo:Lo}{a:Addr}{v:Mv}{u:Value}
theorem lw {i:Nat}{c:Addr}(e:R.cells[i]? = some c)(D:Addr):(RA R D).cells[i]? = some c:=by
 have h1:i < R.cells.length:=(bu.mp e).1
 show (R.cells++[D])[i]? = some c
 rw [ye h1];exact e
theorem rX (v:Mv):HC (λ_=>true) true v=true:=by
 induction v with
 | pair p q ip iq=>exact bP.mpr ⟨ip,iq⟩
 | _=>rfl
theorem V.add (D:Addr)(y:V R h v u):V (RA R D) h v u:=V.map (R:=R) (R':=RA R D) id ⟨rfl,rfl⟩ (λ_ _ _ e=>lw e D) (λ_ _ _ _ e=>lw e D) (λ_ _ _ _ i=>i) (λ_ _ _ _ o=>o) (rX v) y
theorem ci.add (D:Addr)(y:ci R h lo m):ci (RA R D) h lo m:=λx v e=>bg (y x v e) λu a b=>⟨u,a,b.add D⟩
theorem gA.add (D:Addr)(s:gA R h):gA (RA R D) h:=by
 obtain ⟨⟨c0,c1,c2,c3,e0,e1,e2,e3,r⟩,⟨c4,e4,q⟩,⟨c5,e5,k'⟩,⟨c,o,i⟩,f,lq,c',li,i'⟩:=s
 exact ⟨⟨c0,c1,c2,c3,lw e0 D,lw e1 D,lw e2 D,lw e3 D,r⟩,⟨c4,lw e4 D,q⟩,⟨c5,lw e5 D,k'⟩,⟨c,o,i⟩,f,lq,c',li,i'⟩
theorem Wd.add (D:Wd w ab R st L h){l:List Mv}{vs:List Value}{k:Nat}(ha:IsL h a vs.toArray k)(hv:bz (V R h) l vs)(h0:ab.get? a=ac)(hc:a∉R.cells):Wd w ab (RA R a) (st++[l]) L h where
 G:=D.G
 old:=D.old
 off:=λc hc=>by
  rcases aL.mp hc with q | q
  ·rcases aL.mp (show c∈R.cells++[a] from q) with q | q
   ·exact D.off c (bC _ q)
   ·rcases ah.mp q with rfl;exact h0
  ·exact D.off c (aF _ q)
 still:=λl=>(D.still l).add a
 hs:=by
  refine ⟨?_,?_⟩
  ·show (R.cells++[a]).Nodup
   refine sd.mpr ⟨D.hs.nodup,by simp,λx hx y hy e=>?_⟩
   rcases ah.mp hy with rfl
   subst e
   exact hc hx
  ·exact (D.hs.all.imp λc l' ⟨vs,n,e,al⟩=>⟨vs,n,e,al.imp λv u y=>y.add a⟩).append (.cons ⟨vs,k,ha,hv.imp λv u y=>y.add a⟩ .nil)
 frames:=D.frames
end
def Ha (s:Stmt):Pos×Pos×Pos:=((se s 1).pos,(se s 0).pos,sp s)
def FA (s:Stmt):Nat×Pos×Pos:=((xZ (se s 0)).2.1,(se s 0).pos,sp s)
def uA:Pos×Pos×Pos:=Ha ((aO 28).headD default)
def uF:Expr×Expr×List Stmt×Pos:=iX (aO 28)
def uR:Nat×Pos×Pos:=FA ((aO 28).getLastD default)
theorem E2:aO 28=[.Assign [.Name "seen" uA.1] (.List [] uA.2.1) uA.2.2,.For (.Name "value" uF.1.pos) (.Name "values" uF.2.1.pos) uF.2.2.1 [] uF.2.2.2,.Return (some (.Constant (.bool true) uR.1 uR.2.1)) uR.2.2]:=by lk
theorem ps28:dK 28=[("values" : Str)]:=by lk
noncomputable def tR:Mv->Bool
 | .pt _=>true
 | _=>false
def DE (l:List Mv)(p:Fl×Lo×St):Option Bool:=match p.1 with
 | .next=>dS (oN 0 l p.2.2) (some true)
 | .ret v=>dS (oN 0 l p.2.2) (kG v)
 | .brk=>ac
 | .cont=>ac
 | .err=>ac
def uniqI (I:ja)(l:List Mv):Option Bool:=dS (l.all tR) ((CS I (aJ 28) "value" uF.2.2.1 0 l l (put (put (λ_=>ac) "values" (.list 0)) "seen" (.list 1)) [l,[]]).bind (DE l))
abbrev BB (n:Nat)(l:List Mv):Option Bool:=uniqI (fO n) l
theorem V.ptAny {R:aD}{v:Mv}{u:Value}(k:tR v=true)(y:V R h v u)(e:R'.hp=R.hp):V R' h v u:=by
 cases v with
 | pt p=>exact (congrArg (λH:Hp=>pu h (H.x p) (H.y p) u) e).mpr y
 | _=>cases k
section
variable {n:Nat}{w:World}{s:ae}{vl:Addr}{l:List Mv}{L:List Addr}{R:aD}
theorem ym {h1 h3 h4 h5:Heap}{a loc:Addr}(hR:R.cells=[vl])(hlive:R.live=false)(D:Wd w ab R [l] L h)(hpts:l.all tR=true)(fresh:h.get? loc=ac)(n1:h.get? a=ac)(k1:Sb h h1)(P3:Pg [loc] (RA R a) (loc :: L) h1 h3)(n3:h3.get? it=ac)
  (k4:Sb h3 h4) (D5:Wd w ab (RA R a) st' (loc :: L) h5) (P5:Pg [loc] (RA R a) (it :: loc :: L) h4 h5) (e0:st'[0]? = some l):Wd w ab R [l] L h5/\Pg [] R L h h5:=by
 have c0:(RA R a).cells[0]? = some vl:=by show (R.cells++_)[0]? = _;rw [hR];rfl
 have pg3:Pg [loc] (RA R a) (loc :: L) h h3:=⟨λb o n1 n2 e=>P3.old b o n1 n2 (k1 _ _ e),(dQ.ext k1).trans P3.keep⟩
 have ne:∀ {b o x},h.get? b=some o->h.get? x=ac->b≠x:=λe n q=>by rw [q,n] at e;exact ns e
 have off2:∀ b o,h.get? b=some o->b∉R.cells->b∉(RA R a).cells:=λb o e q1 q=>(aL.mp (show b∈R.cells++[a] from q)).elim q1 λq=>ne e n1 (ah.mp q)
 refine cB (D5.inv.cell c0 e0) λvs k e1 al=>?_
 refine ⟨⟨D.G,D5.old,D.off,(λe=>nomatch hlive.symm.trans e),⟨D.hs.nodup,?_⟩,λa ha=>D5.frames a (.tail _ ha)⟩,λb o q1 q2 e=>?_,λb o q1 e nf=>?_⟩
 ·rw [hR]
  exact .cons ⟨vs,k,e1,al.impMem λv u hv _ y=>y.ptAny (bj.mp hpts v hv) rfl⟩ .nil
 ·have a1:=off2 b o e q1
  have a2:b∉loc :: L:=λq=>(aq.mp q).elim (ne e fresh) q2
  have e3:=pg3.old b o a1 a2 e
  exact P5.old b o a1 (λq=>(aq.mp q).elim (λq=>by rw [q,n3] at e3;exact ns e3) a2) (k4 _ _ e3)
 ·have a3:b∉[loc]++(RA R a).cells:=λq=>(aL.mp q).elim (λz=>ne e fresh (ah.mp z)) (off2 b o e λq=>q1 (aF _ q))
  obtain ⟨sl,e3⟩:=pg3.keep b o a3 e nf
  obtain ⟨sl',e5⟩:=P5.keep b _ a3 (k4 _ _ e3) nf
  exact ⟨sl',e5⟩
theorem ze {b:Bool}(hR:R.cells=[vl])(hlive:R.live=false)(D:Wd w ab R [l] L s.heap)(O:Ok (n+1) A)(Fr:Fs L A)(hb:BB n l=some b)
  (h:∀ h' t',Wd w ab R [l] L h'->Pg [] R L s.heap h'->RR (.ok (.ret (.bool b))) (up s h' t')):bY (Mq pg w) A (.call (.ref 28) ⟨[.ref vl],[]⟩) RR s:=by
 refine ba hb λhpts hb=>aC (f:=DE l) hb λz hf hb=>?_
 refine q_fun fr28 D (by have:=O.depth;exact av (aE _ _) ‹_›) (by rfl) λh1 env t F hloc D1 kp=>?_
 have hvl:(λx=>((dK 28).zip [df vl]).reverse.lookup x) "values" = some (.ref vl):=by rfl
 generalize (λx=>((dK 28).zip [df vl]).reverse.lookup x)=m0 at F hvl
 obtain ⟨Fr1,T1⟩:=oA Fr F
 have O1:Ok n (A.deeper env):=lW O
 rw [E2]
 have fr:s.heap.get? env.locals=ac:=aB (Nat.le_of_eq hloc.symm)
 refine aK (cJ (mK (az ⟨dB _,?_⟩)) (by rfl))
 have kx:Sb h1 (h1.push { cls:=.type "list",data:=.seq ([]:List Value).toArray }):=λb o e=>ak _ e
 have n1:h1.get? h1.objs.size=ac:=aB (aQ _)
 have ha:IsL (h1.push { cls:=.type "list",data:=.seq ([]:List Value).toArray }) h1.objs.size ([]:List Value).toArray 0:=ar _ rfl
 have na:s.heap.get? h1.objs.size=ac:=fS kp n1
 generalize h1.push { cls:=.type "list",data:=.seq ([]:List Value).toArray }=h2 at kx ha ⊢
 generalize h1.objs.size=a at n1 ha na ⊢
 have D2:Wd w ab (RA R a) ([l]++[[]]) (env.locals :: L) h2:=(D1.ext kx).add (k:=0) ha .nil (fS D1.old n1) λq=>by
  refine bg (D1.hs.cl _ q) λo e _=>?_
  exact ns (n1.symm.trans e)
 have c0:(RA R a).cells[0]? = some vl:=by show (R.cells++_)[0]? = _;rw [hR];rfl
 have c1:(RA R a).cells[1]? = some a:=by show (R.cells++_)[1]? = _;rw [hR];rfl
 refine jX (n:=n) (s:=(up s h2 t)) (v:=.list 1) D2 O1 Fr1 T1 (F.recs λb o e _=>kx b o e) (th mU hvl (.list c0)) (by lk) (.list c1) λh3 t3 m3 D3 P3 F3 L3=>?_
 have k13:Sb s.heap h2:=λb o e=>kx b o (kp b o e)
 refine aK (wpAny_For (zg F3 L3 (v:=.list 0) (by rfl) (by lk) (by lk) λu _ hu=>?_) (λx=>by with_unfolding_all rfl))
 cases hu with | mk ec =>
 cases c0.symm.trans ec
 refine cB (D3.inv.cell c0 (show ([l]++[[]]:St)[0]? = some l from rfl)) λvs k e1 al=>?_
 refine cj (wpAny_pyIter_list (s:=up (ng s) h3 t3) (eQ e1) ⟨rfl,?_⟩)
 have k4:Sb h3 (h3.push { cls:=.type "list_iterator",data:=.fields #[.ref vl,.int 0 0] }):=λb o e=>ak _ e
 have n3:h3.get? h3.objs.size=ac:=aB (aQ _)
 have hit:(h3.push { cls:=.type "list_iterator",data:=.fields #[.ref vl,.int 0 0] }).IsListIter h3.objs.size vl 0:=⟨_,ar _ rfl,rfl,rfl⟩
 generalize h3.push { cls:=.type "list_iterator",data:=.fields #[.ref vl,.int 0 0] }=h4 at k4 hit ⊢
 generalize h3.objs.size=it at n3 hit ⊢
 have kr4:fh h3 h4:=λb o e _=>k4 b o e
 obtain ⟨r,lo',st'⟩:=z
 refine q_for (n:=n) (s:=wG { s with heap:=h4,toks:=t3,gens:=#[] } s.gens) O1 Fr1 T1 (.head _) (by lk) c0 (fS D3.old n3) l 0 _ _ lo' [l,[]] st' r (D3.ext k4) (F3.recs kr4) (L3.recs D3 kr4) hit rfl rfl hf λh5 t5 m5 fl D5 P5 F5 L5 hfl=>?_
 have fin:oN 0 l st'=true->RR (.ok (.ret (.bool b))) (up s h5 t5):=λhk =>
  let ⟨a,b⟩:=ym hR hlive D hpts fr na k13 P3 n3 k4 D5 P5 (nG hk);h h5 t5 a b
 cases r with
 | next =>
  refine ba hb λhk hb=>hfl.next ?_
  cases hb
  exact aK (cV (iO (fin hk)))
 | ret vv =>
  refine ba hb λhk hb=>hfl.ret λu hu=>?_
  rw [jo hb] at hu
  cases hu
  exact fin hk
 | _=>exact ns hb
end
section
variable {w:World}{s:ae}
theorem zM (G:Gd w aa)(bs:Sb aa s.heap)(hh:A.handled=ac)(hdp:A.depth+1 < aA){u v:Value}(h:∀ h' t',(Sb s.heap h')->Mk h' (s.heap.objs.size+1) s.heap.objs.size 308 [("start",u),("end",v)]->Q (.ref (s.heap.objs.size+1)) (up s h' t')):wpAny (Md w) A (call (.ref 308) [u,v]) Q E s:=
 lH c308 G bs hh hdp (us':=[u,v]) rfl .nil (λx0=>.cons rfl (.cons rfl .nil)) λh' t' k i=>h h' t' k i
end
abbrev PL (h:Heap)(D:Addr)(a:Array Value):Prop:=∃ k,IsL h D a k
theorem PL.but {D x:Addr}{a:Array Value}(p:PL h D a)(e:ll x h h')(n:D≠x):PL h' D a:=let ⟨k,q⟩:=p;⟨k,e _ _ n q⟩
theorem j0 (X:List Addr)(e:∀ b o,b∉X->h.get? b=some o->h'.get? b=some o):Sb (bJ h X) (bJ h' X):=λb o q=>by
 have n:b∉X:=λz=>by rw [dX X z] at q;exact ns q
 exact aU X (e b o n (di X q)) n
structure uJ (p:bF) (w:World) (A:aw) (ab:Heap) (n:Nat) (V:Nat->Value->Prop) (fp:List Addr) (St:Nat->Heap->Prop) (it:Addr) (h:Heap):Prop where
 W:Walks p w A it fp [it] n V St
 st:St 0 h
 i0:ab.get? it=ac
 lt:it < h.objs.size
 fp:∀ b∈fp,b=it\/∃ o,ab.get? b=some o
 old:Sb ab h
structure ET (ab:Heap) (C D it:Addr) (G:Nat->List Value->Heap->Prop) (k:Nat) (mm:Str->Option Value) (h:Heap):Prop where
 ns:h.Ns C mm
 acc:∃ us:List Value,PL h D us.toArray/\us.length<=k/\G k us (bJ h [C,D,it])
 old:Sb ab h
def vL (p:bF)(w:World)(A:aw)(ab:Heap)(C D it:Addr)(G:Nat->List Value->Heap->Prop)(env:Env)(ifs:List Expr)(elt:Expr)(Nm:Nat->(Str->Option Value)->Prop)(n:Nat):Prop:=
 ∀ (s:ae) (mm:Str->Option Value) (j:Nat) (us:List Value) (Qt:ae->Prop) (Qe:Value->ae->Prop),s.heap.Ns C mm->(∃ o,s.heap.get? D=some o)->(Sb ab s.heap)->G j us (bJ s.heap [C,D,it])->Nm j mm->j < n ->
  (∀ h' t',(Sb s.heap h')->G (j+1) us (bJ h' [C,D,it])->Qt (up s h' t'))->(∀ h' t' u,(Sb s.heap h')->G (j+1) (us++[u]) (bJ h' [C,D,it])->Qe u (up s h' t')) ->
  wpAny (model p w) A (forIn ifs true λc r=>if r=true then do let ok <- isTrue c env (eval c env);pure (ForInStep.yield ok) else pure (ForInStep.yield r)) (λok s1=>if ok=true then wpAny (model p w) A (eval elt env) Qe (λ_ _=>False) s1 else Qt s1) (λ_ _=>False) s
def xW (p:bF)(w:World)(A:aw)(ab:Heap)(C it:Addr)(env:Env)(t1:Expr)(V:Nat->Value->Prop)(St:Nat->Heap->Prop)(Nm:Nat->(Str->Option Value)->Prop)(n:Nat):Prop:=
 ∀ (s:ae) (mm:Str->Option Value) (j:Nat) (v:Value) (Q:Unit->ae->Prop),s.heap.Ns C mm->V j v->j < n->St (j+1) s.heap->(Sb ab s.heap) ->
  (∀ h' t' mm',h'.Ns C mm'->Nm j mm'->(∀ b o,b≠C->s.heap.get? b=some o->h'.get? b=some o)->Q () (up s h' t')) ->
  wpAny (model p w) A (eJ t1 (.ref it) v) (λ_ s1=>wpAny (model p w) A (fy t1 env v) Q (λ_ _=>False) s1) (λ_ _=>False) s
section
variable {p:bF}{w:World}{s:ae}{C D:Addr}{G:Nat->List Value->Heap->Prop}{env:Env}{elt t1 i1:Expr}{ifs:List Expr}{R:ej->ae->Prop}{V:Nat->Value->Prop}{fp:List Addr}{St:Nat->Heap->Prop}{Nm:Nat->(Str->Option Value)->Prop}
theorem ET.step {k:Nat}{mm mm':Str->Option Value}(i:ET ab C D it G k mm h)(hG:∀ j us g g',(Sb g g')->G j us g->G j us g')(e:∀ b o,b∉[C,D,it]->h.get? b=some o->h'.get? b=some o)(h0:ab.get? C=ac/\ab.get? D=ac/\ab.get? it=ac)
  (ns':h'.Ns C mm') (d:∀ o,h.get? D=some o->h'.get? D=some o):ET ab C D it G k mm' h':=
 dJ i.acc λus hl hk hp=>⟨ns',⟨us,(let ⟨n,q⟩:=hl;⟨n,d _ q⟩),hk,hG _ _ _ _ (j0 _ e) hp⟩,λb o q=>e b o (λz=>by
  rcases aq.mp z with rfl | z
  ·exact Internal.ns (h0.1.symm.trans q)
  rcases aq.mp z with rfl | z
  ·exact Internal.ns (h0.2.1.symm.trans q)
  rcases ah.mp z with rfl
  exact Internal.ns (h0.2.2.symm.trans q)) (i.old b o q)⟩
theorem vE {n:Nat}(W:Walks p w A it fp [it] n V St)(hfp:∀ b∈fp,b=it\/∃ o,ab.get? b=some o)(hCD:C≠D)(hiC:it≠C)(hiD:it≠D)(h0:ab.get? C=ac/\ab.get? D=ac/\ab.get? it=ac)
  (hG:∀ j us g g',(Sb g g')->G j us g->G j us g') (ha:xW p w A ab C it env t1 V St Nm n) (he:vL p w A ab C D it G env ifs elt Nm n) (hz:n<=1000000) :
  ∀ (m j:Nat) (s:ae) (mm:Str->Option Value),j+m=n->ET ab C D it G j mm s.heap->St j s.heap ->
   (∀ h' t' mm',ET ab C D it G n mm' h'->R (.ok .next) (up s h' t')) ->
   bY (model p w) A (.compLoop (.ListComp elt [⟨t1,i1,ifs,0⟩] sc pos) 0 (.ref it) (.ref D) env) R s:=by
 have off:∀ {b:Addr},b∉[C,D,it]->b≠C/\b≠D/\b∉[it]:=λhb=>⟨λq=>hb (q▸.head _),λq=>hb (q▸.tail _ (.head _)),λq=>hb (.tail _ (.tail _ q))⟩
 have fpn:∀ b∈fp,b≠C/\b≠D:=λb hb=>(hfp b hb).elim (λq=>q▸⟨hiC,hiD⟩) λ⟨o,e⟩=>⟨λq=>ns (h0.1.symm.trans (q▸e)),λq=>ns (h0.2.1.symm.trans (q▸e))⟩
 have nC:C∉[it]:=λq=>hiC (ah.mp q).symm
 have nD:D∉[it]:=λq=>hiD (ah.mp q).symm
 intro m
 induction m with
 | zero =>
  intro j s mm hj ic st hR
  refine bc ?_
  show wpAny _ A ((oV (.ListComp elt [⟨t1,i1,ifs,0⟩] sc pos) 0 (.ref it) (.ref D) env).onRaise (λx=>do dq x env;ca x)) _ _ s
  rw [compTurn_list]
  have:j=n:=hj
  subst this
  refine bS (ag (bl (ag (W.done s _ _ st λh' tk e=>aj ?_))))
  exact hR h' tk mm (ic.step hG (λb o hb q=>e b o (off hb).2.2 q) h0 (ic.ns.at' λo q=>e C o nC q) λo q=>e D o nD q)
 | succ m ih =>
  intro j s mm hj ic st hR
  have hjn:j < n:=Nat.lt_of_lt_of_eq (cr (Nat.succ_pos m)) hj
  have hj':j+1+m=n:=(Nat.add_right_comm j 1 m).trans hj
  refine bc ?_
  show wpAny _ A ((oV (.ListComp elt [⟨t1,i1,ifs,0⟩] sc pos) 0 (.ref it) (.ref D) env).onRaise (λx=>do dq x env;ca x)) _ _ s
  rw [compTurn_list]
  refine bS (ag (bl (ag (W.item j s _ _ hjn st λv hh tka hV sta ka=>?_))))
  have ica:=ic.step hG (λb o hb q=>ka b o (off hb).2.2 q) h0 (ic.ns.at' λo q=>ka C o nC q) λo q=>ka D o nD q
  refine ag (aR (ha (up s hh tka) mm j v _ ica.ns hV hjn sta ica.old λhb tb mmb nb Nb kb=>?_) (λ_ s1 q=>ag (aR q (λ_ _ x=>x) λ_ _ x=>x.elim)) λ_ _ x=>x.elim)
  have icb:=ica.step hG (λb o hb q=>kb b o (off hb).1 q) h0 nb λo q=>kb D o (cb hCD) q
  refine dJ icb.acc λus hl hlen hg=>?_
  have fpk:∀ h',(Sb hb h')->St (j+1) h':=λh' k=>W.frame _ _ _ sta λb hb o e=>k b o (kb b o (fpn b hb).1 e)
  refine ag (aR (he (up s hb tb) mmb j us (λs'=>bY (model p w) A (.compLoop (.ListComp elt [⟨t1,i1,ifs,0⟩] sc pos) 0 (.ref it) (.ref D) env) R s')
   (λu s'=>wpAny (model p w) A (call (.builtin "list.append") [.ref D,u]) (λ_ s''=>bY (model p w) A (.compLoop (.ListComp elt [⟨t1,i1,ifs,0⟩] sc pos) 0 (.ref it) (.ref D) env) R s'') (λ_ _=>False) s') nb (let ⟨n,q⟩:=hl;⟨_,q⟩) icb.old hg Nb hjn
   (λhc tc kc gc=>ih (j+1) (up s hc tc) mmb hj' ⟨nb.keeps kc,⟨us,(let ⟨n,q⟩:=hl;⟨n,kc _ _ q⟩),Nat.le_succ_of_le hlen,gc⟩,λb o q=>kc b o (icb.old b o q)⟩ (fpk _ kc) hR) λhc tc u kc gc=>?_) (λok s1 q=>?_) λ_ _ x=>x.elim)
  ·refine wpAny_list_append_plain (let ⟨n,q⟩:=hl;⟨n,kc _ _ q⟩) (λhd hl' ed=>?_) (show us.length<=2 ^ 24 from au hlen (au (Nat.le_of_lt hjn) (au hz (by decide))))
   refine ih (j+1) (up s hd _) mmb hj' ⟨(nb.keeps kc).extBut ed.extBut hCD,⟨us++[u],(by obtain ⟨k,e⟩:=hl';exact ⟨k,by simpa using e⟩),(by rw [bG];exact Nat.succ_le_succ hlen),hG _ _ _ _ (j0 _ λb o hb q=>ed.extBut b o (off hb).2.1 q) gc⟩,
    λb o q=>ed.extBut b o (λz=>ns (h0.2.1.symm.trans (z▸q))) (kc b o (icb.old b o q))⟩ (W.frame _ _ _ (fpk _ kc) λb hb o e=>ed.extBut b o (fpn b hb).2 e) hR
  ·cases ok with
   | false=>exact aj ⟨rfl,q⟩
   | true=>exact ag (ag (aR q (λ_ _ x=>ag (aR x (λ_ _ y=>aj (aj ⟨rfl,y⟩)) λ_ _ y=>y.elim)) λ_ _ x=>x.elim))
theorem uu {n:Nat}{cl:List (Str×Addr)}{RR:Value->Addr->ej->ae->Prop}(hsc:sc.names.all (λx=>!(x.2 == .cell))=true)(hkind:sc.kind=.function)(hz:n<=1000)
  (hG:∀ j us g g',(Sb g g')->G j us g->G j us g') (h00:∀ g,G 0 [] g) {hb:Heap}{t:Nat}(I:uJ p w A s.heap n V fp St it hb)
  (ha:∀ C,s.heap.get? C=ac->xW p w A s.heap C it (bQ sc cl C env) t1 V St Nm n)
  (he:∀ C D,s.heap.get? C=ac->s.heap.get? D=ac->s.heap.get? it=ac->it < C->vL p w A s.heap C D it G (bQ sc cl C env) ifs elt Nm n)
  (hQ:∀ C D h' t' mm',s.heap.get? C=ac->s.heap.get? D=ac->C≠D->ET s.heap C D it G n mm' h'->RR (.ref D) C (.ok .next) (up s h' t')) :
  wpAny (model p w) A (newList []) (λacc s3=>wpAny (model p w) A (fH sc env.globals cl [] env.qual none .none (some env)) (λcenv s4=>bY (model p w) A (.compStart (.ListComp elt [⟨t1,i1,ifs,0⟩] sc pos) 0 (.ref it) acc { cenv with scope:=dw sc env }) (RR acc cenv.locals) s4) E s3) E (up s hb t):=by
 have hcell:∀ y∈sc.names,y.2≠.cell:=by simpa using hsc
 refine g9 (wpAny_newFunctionEnv hcell (by intro y hy;simp at hy) (λaa aad aae=>?_) hkind)
 dsimp only at aad aae ⊢
 have kl:Sb hb (hb.push { cls:=.type "list",dict:=none,data:=.seq ([]:List Value).toArray }):=λb o e=>ak _ e
 have dl:IsL (hb.push { cls:=.type "list",dict:=none,data:=.seq ([]:List Value).toArray }) hb.objs.size ([]:List Value).toArray 0:=ar _ rfl
 have sz2:(hb.push { cls:=.type "list",dict:=none,data:=.seq ([]:List Value).toArray }).objs.size=hb.objs.size+1:=bN ..
 have dN:hb.get? hb.objs.size=ac:=aB (aQ _)
 have lD:=I.lt
 generalize hb.push { cls:=.type "list",dict:=none,data:=.seq ([]:List Value).toArray }=h2 at aad aae kl dl sz2 ⊢
 generalize hb.objs.size=D at dN dl sz2 lD ⊢
 have cN:h2.get? h2.objs.size=ac:=aB (aQ _)
 have l1:it < h2.objs.size:=by rw [sz2];exact eV lD
 have n1:h2.objs.size≠D:=by rw [sz2];exact jF _
 generalize h2.objs.size=C at aad aae cN l1 n1 ⊢
 have k1:Sb h2 aa:=λb o e=>aae.extBut b o (λq=>ns (cN.symm.trans (q▸e))) (ak _ e)
 have c0:s.heap.get? C=ac:=fS (λb o e=>kl b o (I.old b o e)) cN
 have d0:s.heap.get? D=ac:=fS I.old dN
 have bA:St 0 aa:=I.W.frame _ _ _ I.st λb _ o e=>k1 b o (kl b o e)
 have loop:∀ t',bY (model p w) A (.compLoop (.ListComp elt [⟨t1,i1,ifs,0⟩] sc pos) 0 (.ref it) (.ref D) (bQ sc cl C env)) (RR (.ref D) C) (up s aa t'):=λt' =>
  vE (s:=up s aa t') (ab:=s.heap) (env:=bQ sc cl C env) (C:=C) I.W I.fp n1 (bV l1) (bV lD) ⟨c0,d0,I.i0⟩ hG (ha C c0) (he C D c0 d0 I.i0 l1) (au hz (by decide)) n 0 _ (Nat.zero_add _) ⟨aad,⟨[],⟨0,k1 _ _ dl⟩,aQ _,h00 _⟩,λb o e=>k1 b o (kl b o (I.old b o e))⟩ bA λh' t' mm' ic'=>hQ C D h' t' mm' c0 d0 n1 ic'
 refine bc ?_
 show wpAny _ A ((compStart _ 0 (.ref it) (.ref D) (bQ sc cl C env)).onRaise (λx=>do dq x (bQ sc cl C env);jQ theWindowsPlace)) _ _ _
 refine bS ?_
 unfold compStart
 show wpAny _ _ (ask >>= _) _ _ _
 refine ag (gk (wpAny_ite ?_))
 split
 ·exact aj (jJ rfl (loop _))
 ·refine ag (gH ?_)
  show wpAny _ _ (jQ i1.pos >>= _) _ _ _
  exact ag (bl (ag (I.W.self 0 _ _ _ bA (aj (jJ rfl (loop _))))))
theorem ET.fin {n:Nat}{mm:Str->Option Value}(i:ET ab C D it G n mm h)(hG:∀ j us g g',(Sb g g')->G j us g->G j us g')(n1:C≠D)(c0:ab.get? C=ac)(sb:bU C h h''):(Sb ab h'')/\∃ us:List Value,PL h'' D us.toArray/\us.length<=n/\G n us h'':=
 ⟨λb o e=>sb.extBut b o (λz=>Internal.ns (c0.symm.trans (z▸e))) (i.old b o e),dJ i.acc λus hl hk hp=>⟨us,hl.but sb.extBut (cb n1),hk,hG _ _ _ _ (λb o q=>sb.extBut b o (λz=>by rw [z,dX _ (.head _)] at q;exact Internal.ns q) (di _ q)) hp⟩⟩
variable {n:Nat}{cl:List (Str×Addr)}{fpI:Addr->List Addr}{StI:Addr->Nat->Heap->Prop}
theorem AQ (hsc:(sc.names.all (λx=>!(x.2 == .cell)) && sc.names.all (λx=>!(x.2 == .local) || sc.names.lookup x.1 == some .local))=true)(hkind:sc.kind=.function)(hclos:cU sc env=pure cl)
  (hs1:∀ x,ei i1 env x=pure x) (hz:n<=1000)
  (hG:∀ j us g g',(Sb g g')->G j us g->G j us g') (h00:∀ g,G 0 [] g)
  (ha:∀ C it,s.heap.get? C=ac->xW p w A s.heap C it (bQ sc cl C env) t1 V (StI it) Nm n)
  (he:∀ C D it,s.heap.get? C=ac->s.heap.get? D=ac->s.heap.get? it=ac->it < C->vL p w A s.heap C D it G (bQ sc cl C env) ifs elt Nm n)
  (first:∀ (Q':Value->ae->Prop),(∀ h' t' it,uJ p w A s.heap n V (fpI it) (StI it) it h'->Q' (.ref it) (up s h' t'))->wpAny (model p w) A (eval i1 env) (λx s1=>wpAny (model p w) A (pyIter x) Q' E s1) E s)
  (hQ:∀ h' t' D (us:List Value),(Sb s.heap h')->PL h' D us.toArray->us.length<=n->G n us h'->s.heap.get? D=ac->Q (.ref D) (up s h' t')) :
  wpAny (model p w) A (eval (.ListComp elt [⟨t1,i1,ifs,0⟩] sc pos) env) Q E s:=by
 rw [eval_ListComp]
 have hs:=bP.mp hsc
 refine n5 (use:=none) rfl hs1 hclos hkind (λx hx e=>by
  have:=bj.mp hs.2 x hx
  rw [e] at this
  simpa using this) ?_
 exact first _ λhb t it I=>uu (RR:=λacc C=>compPost (model p w) A E none Q acc C) hs.1 hkind hz hG h00 I (λC=>ha C it) (λC D=>he C D it) λC D h' t' mm' c0 d0 cd ic=>⟨mm',ic.ns,λh'' sb=>by
  refine dJ (ic.fin hG cd c0 sb).2 λus hl hk hp=>?_
  exact hQ h'' t' D us (ic.fin hG cd c0 sb).1 hl hk hp d0⟩
end
section
variable {w:World}{env cenv:Env}{s:ae}{C:Addr}{V:Nat->Value->Prop}{n:Nat}{St:Nat->Heap->Prop}
theorem dM (o:Obj):∀ b x,h.get? b=some x->(h.push o).get? b=some x:=λ_ _ e=>ak _ e
theorem Du {x:Str}{px:Pos}(hk:cenv.scope.kind=.function)(hl:cenv.kindOf x=some .local)(hloc:cenv.locals=C):xW pg w A ab C it cenv (.Name x px) V St (λj mm=>∃ v,V j v/\mm x=some v) n:=by
 subst hloc
 intro s mm j v Q hn hV hj st k q
 refine aj (wS (qr (m:=mm) hl hn (λhb hnb eb=>?_) (by rw [hk];rfl)))
 exact q hb _ _ hnb ⟨v,hV,if_pos rfl⟩ λb o n e=>eb.extBut b o n e
theorem mP (F:env.scope=sc)(sc':Scope):dw sc' env=dw sc' { (default:Env) with scope:=sc }:=by unfold dw Env.kindOf;rw [F]
end
section
variable {w:World}{env:Env}{s:ae}{n:Nat}
theorem uT {R:aD}(k:Sb h h')(x:bz (V R h) ms us):bz (V R h') ms us:=x.imp λ_ _ y=>y.keep (C:=[]) (.ext k) (λc q=>nomatch q) (.refl h R)
theorem pC (k:Sb h h')(x:∀ R,bz (V R h) ms us):∀ R,bz (V R h') ms us:=λR=>uT k (x R)
theorem vx {a b c:Int}{e:Expr}{Q':Value->ae->Prop}(hh:A.handled=ac)(hv:∀ Q:Value->ae->Prop,(∀ h' t' r ta tb tc,IsRange h' r a b c ta tb tc->(Sb s.heap h')->Q (.ref r) (up s h' t'))->wpAny (Md w) A (eval e env) Q E s)(sm:iV a b c=true)(rs:gw a b c=(n:Int))
  (h:∀ h' t' it,uJ pg w A s.heap n (λi v=>∃ t,v=.int (a+(i:Nat) * c) t) [it] (λi h=>gF h it (a+(i:Nat) * c) ((n:Int) - (i:Nat)) c) it h'->Q' (.ref it) (up s h' t')):wpAny (Md w) A (eval e env) (λx s1=>wpAny (Md w) A (pyIter x) Q' E s1) E s:=by
 refine hv _ λha ta r _ _ _ hr ka=>wpAny_pyIter_range hr sm ?_
 rw [rs]
 refine h _ _ _ ⟨Walks.range hh _ a c n,?_,fS ka (aB (aQ _)),by rw [bN];exact cD _,λb hb=>.inl (ah.mp hb),λb o e=>dM _ _ _ (ka b o e)⟩
 have e0:a+((0:Nat):Int) * c=a:=by simp
 have e1:(n:Int) - ((0:Nat):Int)=n:=by rfl
 show gF _ _ (a+((0:Nat):Int) * c) ((n:Int) - ((0:Nat):Int)) c
 rw [e0,e1]
 exact ar _ rfl
end
def Ez (go:Lo->St->Option (Lo×St))(j:Nat)(l:List Mv)(p:Fl×Lo×St):Option (Lo×St):=bif kq p.1 then dS (oN j l p.2.2) (go p.2.1 p.2.2) else ac
noncomputable def rR (I:ja)(sc:Scope)(x y:Str)(b:List Stmt)(j:Nat)(l:List Mv):Nat->List Mv->Lo->St->Option (Lo×St)
 | _,[],lo,st=>some (lo,st)
 | i,v :: r,lo,st=>(I.s sc b (put (put lo x (.int i)) y v) st).bind (Ez (rR I sc x y b j l (i+1) r) j l)
section
variable {n:Nat}{w:World}{env:Env}{R:aD}{L:List Addr}
theorem FF {x y:Str}{px py pt:Pos}{b:List Stmt}{e c:Addr}{l:List Mv}(O:Ok n A)(Fr:Fs L A)(T:iU A env)(hL:env.locals∈L)(hx:dY sc x=true)(hy:dY sc y=true)(hc:R.cells[j]? = some c)
  (h0:ab.get? e=ac/\ab.get? it=ac) (hne:e≠it) :
  ∀ (rest:List Mv) (i:Nat) (s:ae) (m:Str->Option Value) (lo lo':Lo) (st st':St) (old:Value),
  Wd w ab R st L s.heap->bZ env sc s.heap m->ci R s.heap lo m->IsEnum s.heap e it i old->s.heap.IsListIter it c i->st[j]? = some l->l.drop i=rest->rR (fO n) sc x y b j l i rest lo st=some (lo',st') ->
  (∀ h' t' m',Wd w ab R st' L h'->Pg [env.locals] R (e :: it :: L) s.heap h'->bZ env sc h' m'->ci R h' lo' m'->RR (.ok .next) (up s h' t')) ->
  bY (Mq pg w) A (.forLoop (.Tuple [.Name x px,.Name y py] kk pt) (.ref e) b [] env) RR s:=by
 intro rest
 induction rest with
 | nil =>
  intro i s m lo lo' st st' old D F Lo he hi hl hd hf hQ
  cases hf
  refine cB (D.inv.cell hc hl) λvs k ec al=>?_
  have hx0:=AF al hd
  refine bc ?_
  show wpAny _ A ((kN (.Tuple [.Name x px,.Name y py] kk pt) (.ref e) b [] env).onRaise (λx=>do dq x env;ca x)) _ _ s
  unfold kN
  refine bS (ag (bl (ag (bS (cj (wpAny_pyNext_enum_end (s:=ng s) O.handled he hi (eQ ec) hx0 λh' ex=>⟨rfl,aj ⟨rfl,bc ?_⟩⟩))))))
  refine dJ hi λo eo co do_=>?_
  have kr:fh s.heap h':=.but eo do_ ex
  exact aj (hQ h' s.toks m (D.but eo do_ h0.2 ex) (Pg.oneRec kr ex).wid (F.recs kr) (Lo.recs D kr))
 | cons v rest ih =>
  intro i s m lo lo' st st' old D F Lo he hi hl hd hf hQ
  refine cB (D.inv.cell hc hl) λvs k ec al=>?_
  obtain ⟨hv,hd'⟩:=oE hd
  obtain ⟨u,hu,pv⟩:=al.get hv
  refine bc ?_
  show wpAny _ A ((kN (.Tuple [.Name x px,.Name y py] kk pt) (.ref e) b [] env).onRaise (λx=>do dq x env;ca x)) _ _ s
  unfold kN
  refine bS (ag (bl (ag (bS (cj (wpAny_pyNext_enum_item (s:=ng s) (x:=u) he hi (eQ ec) (ey.trans hu) hne λh1 ho hi1 ht1 hz1 k1=>⟨rfl,?_⟩))))))
  have nf1:∀ b o,s.heap.get? b=some o->(∀ vs,o.data≠.fields vs)->b≠e/\b≠it:=λb o q nf=>by
   refine ⟨λz=>?_,λz=>?_⟩
   ·subst z;rw [he] at q;cases q;exact nf _ rfl
   ·subst z;refine dJ hi λo' e' _ d'=>?_;rw [e'] at q;cases q;exact nf _ d'
  have n0:∀ b o,ab.get? b=some o->b≠e/\b≠it:=λb o q=>⟨λz=>(by rw [z,h0.1] at q;exact ns q),λz=>(by rw [z,h0.2] at q;exact ns q)⟩
  refine ag (cj (wpAny_letOwnedTupleGo_enum (s:=up (ng s) h1 (s.toks+1)) ho λh2 he2 sb2=>⟨rfl,?_⟩))
  have kr:fh s.heap h2:=λb o q nf=>let ⟨a1,a2⟩:=nf1 b o q nf;sb2.extBut b o a1 (k1 b o a1 a2 q)
  have D2:Wd w ab R st L h2:=D.recs (λb o q=>let ⟨a1,a2⟩:=n0 b o q;sb2.extBut b o a1 (k1 b o a1 a2 (D.old b o q))) kr
  have sz:e≠s.heap.objs.size:=bV (bp he)
  have ht2:h2.get? s.heap.objs.size=some { cls:=.type "tuple",data:=.seq #[.int i s.toks,u] }:=sb2.extBut _ _ (cb sz) ht1
  have hi2:h2.IsListIter it c (i+1):=hi1.extBut sb2.extBut (cb hne)
  refine ag (DX (n:=n) (s:={ s with heap:=h2,toks:=s.toks+1 }) (a:=.int i) (b:=v) D2 O Fr T (F.recs kr) (Lo.recs D kr) hx hy (.pair ⟨#[],ht2⟩ (.int _ _) (pv.recs D kr)) λh3 t3 m3 D3 P3 F3 L3=>?_)
  have he3:IsEnum h3 e it ((i+1:Nat):Int) u:=let off:=jS D2 he2 rfl;P3.old _ _ off.1 off.2 he2
  have hi3:=IsListIter.pg D2 P3 hi2
  have pg2:Pg [env.locals] R (e :: it :: L) s.heap h3:=(show Pg [env.locals] R (e :: it :: L) s.heap h2 from ⟨λb o _ n2 q=>sb2.extBut b o (λz=>n2 (z▸.head _)) (k1 b o (λz=>n2 (z▸.head _)) (λz=>n2 (z▸.tail _ (.head _))) q),kr.keep _⟩).trans P3.wid.wid
  refine aC (f:=Ez (rR (fO n) sc x y b j l (i+1) rest) j l) hf λz hb hf=>?_
  obtain ⟨fl,lo1,bA⟩:=z
  refine eK (c:=kq fl) hf (λhn hf=>ba hf λhg hf=>?_) λ_ q=>ns q
  cases l8 hn
  refine ag (q_s (n:=n) (s:=(up s h3 t3)) D3 O Fr T F3 L3 hb nofun λh4 t4 m4 fl4 D4 P4 F4 L4 hfl=>?_)
  refine hfl.next ?_
  exact aj ⟨rfl,ih (i+1) _ m4 lo1 lo' bA st' u D4 F4 L4 (let off:=jS D3 he3 rfl;P4.old _ _ off.1 off.2 he3) (IsListIter.pg D3 P4 hi3) (nG hg) hd' hf λh5 t5 m5 D5 P5 F5 L5=>hQ h5 t5 m5 D5 ((pg2.trans P4.wid.wid).trans P5) F5 L5⟩
end
structure FB (f:Addr):Prop where
 at_:∀ P,∃ od,(K P).lookup f=some ⟨.type "function",od,.func (eE f),#[]⟩
 bod:(eE f).body=.stmts (aO f)
 glob:(eE f).globals=bM
 blt:(eE f).builtins=gK
 clo:(eE f).closure=[]
 cod:∀ P,codeIn (K P) (eE f).code (eE f).qualname=true
 co:(aJ f).isCoroutine=false
 gen:(aJ f).isGenerator=false
 kind:(aJ f).kind=.function
section
variable {M:Model}{w:World}{s:ae}{f:Addr}{x:Str}{args:Args}{binds:List (Str×Value)}{R:ej->ae->Prop}
abbrev vK (M:Model)(A:aw)(R:ej->ae->Prop):aP->ae->Prop:=λfin s'=>match fin with | .done f=>R (.ok f) s' | .again c'=>c'.quiet=true/\bY M A c' R s'
theorem qf (T:FB f)(X:(K P).In s.heap)(hroom:A.depth < aA)(hb:e8 s (eE f) args binds)
  (h:∀ Q':Env->ae->Prop,(∀ h' t' env,h'.NoLimit->bY M A (.func (aO f) env) R (up s h' t')->Q' env (up s h' t')) ->
   wpAny M A.in1 (fH (aJ f) bM [] binds ((eE f).qualname++".<locals>.") (some f) (eE f).code none gK) Q' (λe s'=>R (.error e) s') s) :
  wpAny M A.in1 (jT (.ref f) args) (vK M A R) (λe s'=>R (.error e) s') s:=by
 obtain ⟨od,hat⟩:=T.at_ P
 refine ag (ij (X _ _ hat) ?_)
 refine xH (codeRec_of X (T.cod P)) λc o vs tq hc' hoc hdc hq=>?_
 have co:(eE f).scope.isCoroutine=false:=T.co
 have ge:(eE f).scope.isGenerator=false:=T.gen
 unfold callFunction;dsimp only;rw [co,ge,T.bod,hc']
 refine ag (m:=field (.ref c) 1) (kP hoc hdc hq (ag (aj ?_)))
 rw [<- hc']
 refine ag (hb _ _ _ _ (ag ?_))
 rw [T.clo,T.glob,T.blt]
 exact h _ λh' t' env nl k=>ag (wpAny_enterFrame nl hroom (aj ⟨rfl,k⟩))
theorem nN (T:FB f)(X:(K P).In s.heap)(nl:s.heap.NoLimit)(hroom:A.depth < aA)(hb:e8 s (eE f) args binds)(cell:((aJ f).names.all λx=>!(x.2 == .cell))=true)(loc:∀ y∈binds,(aJ f).names.lookup y.1=some .local)
  (h:∀ h' t' env,bZ env (aJ f) h' (λy=>binds.reverse.lookup y)->env.locals=s.heap.objs.size->(Sb s.heap h')->bY M A (.func (aO f) env) R (up s h' t')) :
  wpAny M A.in1 (jT (.ref f) args) (vK M A R) (λe s'=>R (.error e) s') s:=by
 refine qf T X hroom hb λQ' k=>lY (by simpa using cell) loc (λh1 hns hsb=>?_) T.kind
 have kp:Sb s.heap h1:=λb o e=>hsb.extBut b o (bV (bp e)) (ak _ e)
 exact k _ _ _ (nl.keeps kp) (h h1 _ _ ⟨rfl,T.kind,T.co,rfl,rfl,rfl,hns⟩ rfl kp)
theorem qg (T:FB f)(X:(K P).In s.heap)(nl:s.heap.NoLimit)(hroom:A.depth < aA)(hb:e8 s (eE f) args binds)(hcf:∀ n,cellsFrom n (aJ f).names []=[(x,n)])(hpc:∀ h,pushCells h (aJ f).names=h.push fu)(hx:(aJ f).names.lookup x=some .cell)(loc:∀ y∈binds,y.1≠x->(aJ f).names.lookup y.1=some .local)
  (h:∀ h' t' env,bZ env (aJ f) h' (λy=>(binds.filter (λb=>!(b.1 == x))).reverse.lookup y)->env.locals=s.heap.objs.size->env.cells=[(x,s.heap.objs.size+1)]->env.code=(eE f).code->env.qual=(eE f).qualname++".<locals>."->gq h' (s.heap.objs.size+1) (binds.reverse.lookup x)->(Sb s.heap h') ->
   bY M A (.func (aO f) env) R (up s h' t')) :
  wpAny M A.in1 (jT (.ref f) args) (vK M A R) (λe s'=>R (.error e) s') s:=by
 refine qf T X hroom hb λQ' k=>wi hcf hpc hx loc T.kind λh' t' hns hcl kp=>?_
 exact k _ _ _ (nl.keeps kp) (h h' t' _ ⟨rfl,T.kind,T.co,rfl,rfl,rfl,hns⟩ rfl rfl rfl rfl hcl kp)
theorem tE (h:wpAny (Md w) A.in1 (jT (.ref f) args) (vK (Md w) A R) (λe s'=>R (.error e) s') s):bY (Md w) A (.call (.ref f) args) R s:=bc h
theorem wf (h:wpAny (Mq pg w) A.in1 (jT (.ref f) args) (vK (Mq pg w) A R) (λe s'=>R (.error e) s') s):bY (Mq pg w) A (.call (.ref f) args) R s:=bc h
theorem pR {env:Env}(h:wpAny (Md w) (A.deeper env) (execs body env) (λf s'=>R (.ok (.ret (match f with | .ret v=>v | _=>.none))) s') (λ_ _=>False) s):bY (Md w) A (.func body env) R s:=by
 refine bc ?_
 show wpAny _ (A.deeper env) (do point;match <- (execs body env).onRaise (nW env) with | .ret v=>PySem.ret v | _=>PySem.ret .none) _ _ s
 refine ag (wpAny_point (ag (bS (aR h (λf s' h'=>?_) λ_ _ x=>x.elim))))
 cases f<;>exact aj h'
end
section
variable {M:Model}{w:World}{s:ae}{env:Env}
theorem ldC {c:Addr}{v:Value}(F:bZ env sc s.heap m)(hc:env.cells.lookup xs=some c)(ho:gq s.heap c (some v))(hQ:Q v s)
  (hl:sc.names.lookup xs=some .cell:=by lk) (hd:(xs == ("__debug__" : Str))=false:=by lk):wpAny M A (eval (.Name xs pos) env) Q E s:=
 cA (ds (by rw [F.sce];exact F.kind) (by show env.scope.names.lookup _=_;rw [F.sce];exact hl) hc ho.cell hQ) hd
theorem qi {e:Expr}{name:Str}{ap:Pos}{x d C:Addr}{at_:List (Str×Value)}{u:Value}{Q:Unit->ae->Prop}(hself:∀ Q:Value->ae->Prop,Q (.ref x) s->wpAny (Md w) A (eval e env) Q E s)(X:(K w.params).In s.heap)(I:Mk s.heap x d C at_)
  (k:iZ w.params C name) (hz:at_.length<=900) (h:∀ h' t',Mk h' x d C (jC at_ name u)->bU d s.heap h'->Q () (up s h' t')):wpAny (Md w) A (fy (.Attribute e name ap) env u) Q E s:=by
 rw [arm_assign_Attribute]
 refine ag (aX (hself _ ?_))
 refine ag (bl (ag (aX (setA X I k hz λh' t' I' sb=>?_))))
 exact wpAny_release' (h h' t' I' sb)
end
abbrev kqS (nm:Str)(a b c d:Pos)(k:Nat)(e f g:Pos)(k2:Nat)(i j:Pos):Stmt:=.Assign [.Tuple [qp ("key",a,b),qp (nm,c,d)] k e] (.Tuple [.Name "key" f,.List [] g] k2 i) j
section
variable {w:World}{s:ae}
theorem mkKQ {C:Addr}{nm:Str}{pos:List Value}{v:Value}(G:Gd w aa)(bs:Sb aa s.heap)(hh:A.handled=ac)(hdp:A.depth+1 < aA)(T:FB fI)(mks:∀ P,makesIn (K P) C=true)(ini:∀ P,dI (K P) (.ref C) "__init__" = some (some (.ref fI)))(fn:∀ P,typeIn (K P) (.ref fI)=some (.type "function"))
  (hbd:∀ s x0,e8 s (eE fI) ⟨x0 :: pos,kw⟩ [("self",x0),("key",v)]) {a b' c d e f g i j:Pos}{k k2:Nat}(hb:aO fI=[kqS nm a b' c d k e f g k2 i j]) (cell:((aJ fI).names.all λx=>!(x.2 == .cell))=true) (l1:(aJ fI).names.lookup ("self" : Str)=some .local) (l2:(aJ fI).names.lookup ("key" : Str)=some .local)
  (ok:∀ P,iZ P C "key"/\iZ P C nm) (hne:(("key" : Str)=nm)=False)
  (h:∀ h' t' l,(Sb s.heap h')->Mk h' (s.heap.objs.size+1) s.heap.objs.size C [("key",v),(nm,.ref l)]->IsL h' l #[] 0->s.heap.get? l=ac->Q (.ref (s.heap.objs.size+1)) (up s h' t')):wpAny (Md w) A (call (.ref C) pos kw) Q E s:=by
 obtain ⟨hp,gg,dr,t,os⟩:=s
 have X:(K w.params).In hp:=G.X.keeps bs
 have nl:hp.NoLimit:=G.nolimit bs
 refine bw (make_core (makes_of X (mks _)) (cT X (ini _)) (λself=>bind_fn X self (fn _)) (.inl rfl) ?_)
 have k0:Sb hp ((hp.push du).push (gQ C hp.objs.size)):=λb o q=>ak _ (ak _ q)
 have hx0:((hp.push du).push (gQ C hp.objs.size)).get? (hp.objs.size+1)=some (gQ C hp.objs.size):=by
  have:=ar (o:=gQ C hp.objs.size) (hp.push du) rfl
  rwa [bN] at this
 have hd0:((hp.push du).push (gQ C hp.objs.size)).get? hp.objs.size=some du:=ak _ (ar _ rfl)
 refine tE (nN (s:=⟨(hp.push du).push (gQ C hp.objs.size),gg,dr,t,os⟩) T (X.keeps k0) (nl.keeps k0) (by rw [depth_under_kw];assumption) (hbd _ _) cell (by
  intro y hy
  rcases aq.mp hy with rfl | hy
  ·exact l1
  ·rcases ah.mp hy with rfl;exact l2) λh2 t2 env F hloc kp=>pR ?_)
 rw [hb]
 have hS:(λy=>([(("self" : Str),df (hp.objs.size+1)),("key",v)]).reverse.lookup y) "self" = some (.ref (hp.objs.size+1)):=rfl
 have hK:(λy=>([(("self" : Str),df (hp.objs.size+1)),("key",v)]).reverse.lookup y) "key" = some v:=rfl
 have hlenA:(kF [qp ("key",a,b'),qp (nm,c,d)] env).length=2/\(kF [qp ("key",a,b'),qp (nm,c,d)] env).findIdx? (·.1)=ac:=⟨rfl,rfl⟩
 have hsw:fB [.Tuple [qp ("key",a,b'),qp (nm,c,d)] k e] (.Tuple [.Name "key" f,.List [] g] k2 i) env=pure ac:=by
  unfold fB
  dsimp only
  exact rL rfl rfl
 refine aK (Assign_Tuple (im (am (hU F hK (am (mK (az ⟨by show 0<=2 ^ 24;exact dB _,az ⟨by show 2<=2 ^ 24;decide,?_⟩⟩))) l2))) (by unfold kM;rfl) hsw)
 generalize hH3:h2.push { cls:=.type "list",data:=.seq ([]:List Value).toArray }=h3
 have k3:Sb h2 h3:=λb o q=>by rw [<- hH3];exact ak _ q
 have hl3:IsL h3 h2.objs.size #[] 0:=by rw [<- hH3];exact ar _ rfl
 have k4:Sb h3 (h3.push { cls:=.type "tuple",data:=.seq [v,.ref h2.objs.size].toArray }):=λb o q=>ak _ q
 have ht:IsTup (h3.push { cls:=.type "tuple",data:=.seq [v,.ref h2.objs.size].toArray }) h3.objs.size [v,.ref h2.objs.size].toArray:=⟨_,ar _ rfl,rfl,0,rfl⟩
 refine assign_Tuple_tuple (s:=⟨h3.push { cls:=.type "tuple",data:=.seq [v,.ref h2.objs.size].toArray },gg,dr,t2,os⟩) hh ht (by rfl) hlenA.2 λh5 x5=>?_
 have k5:Sb h3 h5:=λb o q=>x5 b o (by rw [bN];exact bV (eV (bp q))) (k4 b o q)
 have k25:Sb h2 h5:=λb o q=>k5 b o (k3 b o q)
 have nd:hp.get? hp.objs.size=ac:=aB (aQ _)
 have noff:Sb hp (bJ h5 [hp.objs.size]):=λb o q=>aU _ (k25 b o (kp b o (k0 b o q))) λz=>by rw [ah.mp z,nd] at q;exact ns q
 have hne2:h2.objs.size≠hp.objs.size:=λq=>by
  have:=bp (kp _ _ hd0)
  rw [q] at this;exact dh _ this
 refine uB (hs:=bJ h5 [hp.objs.size]) (dX _ (.head _)) ?_ l1 hS (X.keeps noff) [("key",a,b'),(nm,c,d)] [v,.ref h2.objs.size] [] ⟨h5,gg,dr,t2,os⟩ rfl (by show 0+2<=900;decide) ?_ (λb o q=>di _ q) (F.keep (C:=[]) (.ext k25) (by simp)) ⟨⟨#[],k25 _ _ (kp _ _ hx0)⟩,[],0,#[],k25 _ _ (kp _ _ hd0),.nil⟩ λh6 t6 F6 I6 e6=>?_
 ·rw [hloc]
  show ((hp.push du).push (gQ C hp.objs.size)).objs.size≠_
  rw [bN,bN];solve_by_elim [au,bO,av,Nat.le_of_lt,Nat.lt_succ_of_le,Nat.le_succ_of_le,bV,fJ]
 ·intro q hq
  rcases aq.mp hq with rfl | hq
  ·exact (ok _).1
  ·rcases ah.mp hq with rfl;exact (ok _).2
 ·refine fi ⟨rfl,h h6 t6 h2.objs.size (λb o q=>e6 b o (noff b o q)) ?_ (e6 _ _ (aU _ (k5 _ _ hl3) λz=>hne2 (ah.mp z))) ?_⟩
  ·have:pM [] (([("key",a,b'),(nm,c,d)]:List (Str×Pos×Pos)).map (·.1)) [v,.ref h2.objs.size]=[(("key" : Str),v),(nm,.ref h2.objs.size)]:=by
    show (if (("key" : Str)=nm) then _ else _)=_
    simp only [hne,if_false]
    rfl
   rw [<- this]
   exact I6
  ·cases q:hp.get? h2.objs.size with
   | none=>rfl
   | some o=>exact absurd (bp (kp _ _ (k0 _ _ q))) (dh _)
theorem b387:∃ a b' c d e f g i j k k2,aO 387=[kqS "_rows" a b' c d k e f g k2 i j]:=⟨_,_,_,_,_,_,_,_,_,_,_,by with_unfolding_all rfl⟩
theorem fb387:FB 387:=⟨λP=>⟨ac,by lk⟩,by lk,by lk,by lk,by lk,λP=>by lk,by lk,by lk,by lk⟩
theorem b429:∃ a b' c d e f g i j k k2,aO 429=[kqS "_values" a b' c d k e f g k2 i j]:=⟨_,_,_,_,_,_,_,_,_,_,_,by with_unfolding_all rfl⟩
theorem fb429:FB 429:=⟨λP=>⟨ac,by lk⟩,by lk,by lk,by lk,by lk,λP=>by lk,by lk,by lk,by lk⟩
theorem rm {C:Addr}{n:Str}(h:∀ P,(dI (K P) (.ref C) "__setattr__" == some (some (.builtin "object.__setattr__")) && plainOver (K P) C && (takerIn (K P) C n == some ac) && (clsIn (K P) C).any (·.hasDict))=true)(P:aM):iZ P C n:=by
 have:=h P
 simp only [g8,beq_iff_eq] at this
 exact ⟨this.1.1.1,this.1.1.2,this.1.2,this.2⟩
theorem mk411 {v:Value}(G:Gd w aa)(bs:Sb aa s.heap)(hh:A.handled=ac)(hdp:A.depth+1 < aA)
  (h:∀ h' t' l,(Sb s.heap h')->Mk h' (s.heap.objs.size+1) s.heap.objs.size 411 [("key",v),("_rows",.ref l)]->IsL h' l #[] 0->s.heap.get? l=ac->Q (.ref (s.heap.objs.size+1)) (up s h' t')):wpAny (Md w) A (call (.ref 411) [] [("key",v)]) Q E s:=by
 obtain ⟨_,_,_,_,_,_,_,_,_,_,_,hb⟩:=b387
 exact mkKQ G bs hh hdp fb387 (λP=>by lk) (λP=>by lk) (λP=>by lk) (λs x0=>dU (by lk)) hb (by lk) (by lk) (by lk) (λP=>⟨rm (λP=>by lk) P,rm (λP=>by lk) P⟩) (by decide) h
theorem mk488 {v:Value}(G:Gd w aa)(bs:Sb aa s.heap)(hh:A.handled=ac)(hdp:A.depth+1 < aA)
  (h:∀ h' t' l,(Sb s.heap h')->Mk h' (s.heap.objs.size+1) s.heap.objs.size 488 [("key",v),("_values",.ref l)]->IsL h' l #[] 0->s.heap.get? l=ac->Q (.ref (s.heap.objs.size+1)) (up s h' t')):wpAny (Md w) A (call (.ref 488) [v]) Q E s:=by
 obtain ⟨_,_,_,_,_,_,_,_,_,_,_,hb⟩:=b429
 exact mkKQ G bs hh hdp fb429 (λP=>by lk) (λP=>by lk) (λP=>by lk) (λs x0=>dU (by lk)) hb (by lk) (by lk) (by lk) (λP=>⟨rm (λP=>by lk) P,rm (λP=>by lk) P⟩) (by decide) h
end
section
variable {w:World}{s:ae}{env:Env}
theorem A0 {x C f:Addr}{at_:List (Str×Value)}{name:Str}(X:(K w.params).In s.heap)(I:cL s.heap x C at_)(hg:∀ P,plainGet (K P) C name=true)(hh:∀ P,hasDictIn (K P) C=true)(ha:∀ P,dI (K P) (.ref C) name=some (some (.ref f)))(hf:∀ P,isFn (K P) (.ref f)=true)
  (hgf:∀ P,specialIn (K P) (.ref f) "__get__" = some (some (.builtin "function.__get__"))) (ht:∀ P,takesIn (K P) (.ref f)=some false) (hc:copiedNames.contains name=false) (hl:(at_.find? (λp=>p.1 == name))=ac)
  (h:Q (.ref s.heap.objs.size) { s with heap:=s.heap.push (fx f x),toks:=s.toks+1 }):wpAny (Md w) A (hM (.ref x) name expr) Q E s:=by
 refine cB I.at λox od I1 g=>?_
 have hl':lookIn name od=some ac:=by rw [g name,hl];rfl
 exact get_bind X I1 (plainGet_of (hg _)).1 (findObj_fn (hh _) (ha _) (hgf _) (ht _) hc hl') (plainGet_of (hg _)).2
  (bw (fn_get (s:={ s with toks:=s.toks+1 }) X (beq_iff_eq.mp (hf _)) (handed_on rfl h)))
noncomputable abbrev eP:List Addr:=[613,840]
def gB (h:Heap)(T:Addr)(pos:Pos)(q:Str):Prop:=∃ ps,h.get? T=some (fv ps)/\TriplesOk ps.toList/\(codeAmong pos ps.toList=ac\/∃ c',codeAmong pos ps.toList=some (.ref c')/\c'∉eP/\h.CodeRec (.ref c') q)
theorem uw {cd:Value}{q:Str}(k:∀ b o fs,cd=.ref b->h.get? b=some o->o.data=.fields fs->h'.get? b=some o)(x:h.CodeRec cd q):h'.CodeRec cd q:=by
 refine xH x λc o vs t e g d r=>?_
 exact ⟨c,o,vs,t,e,k c o vs e g d,d,r⟩
theorem gB.map {T:Addr}{q:Str}(kT:∀ ps,h.get? T=some (fv ps)->h'.get? T=some (fv ps))(k:∀ b o fs,b∉eP->h.get? b=some o->o.data=.fields fs->h'.get? b=some o)(t:gB h T pos q):gB h' T pos q:=by
 refine dJ t λps e ok z=>?_
 exact ⟨ps,kT _ e,ok,z.imp id (Exists.imp λc' h=>⟨h.1,h.2.1,uw (λb o fs e=>k b o fs (Value.ref.inj e▸h.2.1)) h.2.2⟩)⟩
theorem gB.ext {T:Addr}{q:Str}(k:Sb h h')(t:gB h T pos q):gB h' T pos q:=t.map (λ_=>k _ _) λb o _ _ e _=>k b o e
theorem Ef {params:Arguments}{body:Expr}{scope:Scope}{c T cell:Addr}{x q:Str}{v:Value}(hq:env.qual++"<lambda>" = q)(G:Gd w aa)(bs:Sb aa s.heap)(hT:aa.get? T=ac)(hcl:cU scope env=pure [(x,cell)])
  (hge:env.globals=bM) (hdef:defaultsOf params env=([],[])) (hcode:env.code=.ref c) (C:CodeHd s.heap c T) (hTt:T∈eP) (ht:∀ a∈eP,∃ ps,s.heap.get? a=some (fv ps)) (tb:gB s.heap T pos q) (hc:gq s.heap cell (some v))
  (h:∀ h' t' f,(∀ b o,b≠T->s.heap.get? b=some o->h'.get? b=some o)->gB h' T pos q->fU (bJ h' eP) f (.Lambda params body scope pos) q x v->Q (.ref f) (up s h' t')) :
  wpAny (Md w) A (eval (.Lambda params body scope pos) env) Q E s:=by
 subst hq
 refine uk G.T λp l mean mg mb Tp=>?_
 refine dJ tb λps hP ok z=>?_
 have T':=Tp.keeps bs
 refine el26 Tp.bmain λbm ob b1 b2 b3 b4 b5 b6=>?_
 have hgT:bM≠T:=λq=>by refine kW Tp.g λo es ep e _=>?_;rw [q,hT] at e;exact ns e
 have hbT:bm≠T:=λq=>by rw [q,hT] at b3;exact ns b3
 have hbG:bm≠bM:=λq=>by refine qb Tp.g λo es ep e d _=>?_;rw [q,e] at b3;cases b3;rw [d] at b6;cases b6
 have hb:s.heap.BuiltinsAt mg T:=⟨bm,ob,b1,b2,hbG,hbT,bs _ _ b3,b4,b5,b6⟩
 obtain ⟨sl,hce⟩:=hc
 have hcT:cell∉eP:=λq=>by obtain ⟨_,e⟩:=ht _ q;rw [hce] at e;cases e
 have hcT':cell≠T:=λq=>hcT (q▸hTt)
 have hTs:∀ a:Addr,s.heap.objs.size<=a->a∉eP:=λa ha q=>by obtain ⟨_,e⟩:=ht _ q;exact absurd (bp e) (Nat.not_lt.mpr ha)
 have fin:∀ {h':Heap}{f c':Addr}{pm ctv:Value}(oc:Obj) {fs:Array Value}{t:Tok},h'.get? f=some (kla_obj "<lambda>" (env.qual++"<lambda>") params body scope [(x,cell)] pm c' ctv)->h'.get? cell=some ⟨.type "cell",ac,.cell (some v),sl⟩->h'.get? c'=some oc->oc.data=.fields fs->fs[1]? = some (.str (env.qual++"<lambda>") t)->f∉eP->c'∉eP ->
   fU (bJ h' eP) f (.Lambda params body scope pos) (env.qual++"<lambda>") x v:=by
  intro h' f c' pm ctv oc fs t e1 e2 e3 d g n1 n2
  exact ⟨_,_,_,cell,ac,oc,fs,t,⟨#[],aU _ e1 n1⟩,⟨sl,aU _ e2 hcT⟩,⟨oc.slots,aU _ e3 n2⟩,d,g⟩
 refine kla_eval hdef ?_
 rcases z with z | ⟨c',z,hcT2,hr⟩
 ·refine kla_makeFunction (mg:=mg) hcl hge T'.g hcode C hP ok z hgT hb λc' ctv h' tk hx hge' hlt hrec htb=>?_
  have k1:∀ b o,h'.get? b=some o->(h'.push (kla_obj "<lambda>" (env.qual++"<lambda>") params body scope [(x,cell)] ((mg "__name__").getD .none) c' ctv)).get? b=some o:=λb o e=>ak _ e
  have hc':=hTs c' hge'
  refine xH (id hrec) λc2 oc fs t e2 hoc hd hv=>?_
  cases e2
  refine h _ tk _ (λb o n e=>k1 b o (hx b o n e)) ⟨_,k1 _ _ htb,?_,.inr ⟨c',?_,hc',hrec.keeps k1⟩⟩ (fin oc (ar _ rfl) (k1 _ _ (hx _ _ hcT' hce)) (k1 _ _ hoc) hd hv (hTs _ (Nat.le_of_lt (av hge' hlt))) hc')
  ·simpa using TriplesOk_snoc _ _ _ _ ok
  ·simpa using codeAmong_snoc (c:=.ref c') _ ok z
 ·refine kla_makeFunctionHit (mg:=mg) hcl hge T'.g hcode C hP ok z hb λctv h' tk hk hsz=>?_
  have k1:∀ b o,s.heap.get? b=some o->(h'.push (kla_obj "<lambda>" (env.qual++"<lambda>") params body scope [(x,cell)] ((mg "__name__").getD .none) c' ctv)).get? b=some o:=λb o e=>ak _ (hk b o e)
  refine xH (id hr) λc2 oc fs t e2 hoc hd hv=>?_
  cases e2
  exact h _ tk _ (λb o _ e=>k1 b o e) (gB.ext k1 ⟨ps,hP,ok,.inr ⟨c',z,hcT2,hr⟩⟩) (fin oc (ar _ rfl) (k1 _ _ hce) (k1 _ _ hoc) hd hv (hTs _ hsz) hcT2)
theorem nh {M:Model}{o:Expr}{name:Str}{apos:Pos}{args:List Expr}{kws:List Keyword}(hline:(apos.endLine == pos.line)=true)(h:wpAny M A (eval o env) (λov aan=>∀ pl,wpAny M A (iG ov name pl) (λr aao=>wpAny M A (callWith pos r.1 r.2 (fm pos (bT args env)) (backToKw pos (kS kws env))) Q E aao) E aan) E s)
  (hbase:attributeBase o name env (eval o env)=eval o env:=by rfl) (hfew:gm (args.length+kws.length) (fm pos (bT args env)) (backToKw pos (kS kws env))=true:=by rfl):wpAny M A (eval (.Call (.Attribute o name apos) args kws pos) env) Q E s:=by
 rw [arm_eval_Call,hbase]
 refine ag (aR h (λov aan aa=>?_) λ_ _ e=>e)
 refine ag (bl ?_)
 unfold methodCall
 rw [show calleeOf (gm _ (fm pos (bT args env)) _) o env ov name=iG ov name _ from if_pos hfew,show methodCallPos (gm _ (fm pos (bT args env)) _) o env apos pos=pure pos from if_pos (by rw [hline,Bool.or_true])]
 refine ag (aX (aR (aa _) (λr aao aag=>?_) λ_ _ e=>e))
 exact ag (aj aag)
theorem Er (X:(K P).In s.heap):CodeHd s.heap 617 613:=
 ⟨_,_,_,_,_,_,_,_,_,X _ _ (by lk:(K P).lookup 617=some FW),rfl,rfl,rfl,rfl,rfl,rfl,rfl,rfl,by decide⟩
end
noncomputable abbrev fN (a:Str)(q:Pos×Pos):Expr:=.Attribute (.Name "self" q.1) a q.2
abbrev ny:Pos:=j9.pos
noncomputable abbrev qQ:Str:="EventsRegistry.__init__.<locals>.<lambda>"
noncomputable abbrev H2 (d:Addr)(h:Heap):Heap:=bJ h [d,613]
abbrev S618 (a b c d e f g i j:Pos×Pos)(p0 p1 p2 p3 p4 p5 p6 p7 p8 p9 q0 q1 q2 q3 q4 q5 q6 q7 q8 q9 r0 r1 r2 r3 r4:Pos):List Stmt:=[
  .Assign [.Tuple [fN "_orienteer" a,fN "_segments_intersector" b,fN "_unique" c] 0 p0] (.Tuple [.Name "orienteer" p1,.Name "segments_intersector" p2,.Name "unique" p3] 0 p4) p5,
  .Assign [fN "_opposites" d] (.List [] p6) p7,.Assign [fN "_endpoints" e] (.List [] p8) p9,.Assign [fN "_segments_ids" f] (.List [] q0) q1,.Assign [fN "_min_collinear_segments_ids" g] (.List [] q2) q3,
  .Assign [fN "_events_queue_data" i] (.Call (.Name "PriorityQueue" q4) [] [⟨some "key",j9,q5⟩] q6) q7,
  .Assign [fN "_sweep_line_data" j] (.Call (.Attribute (.Name "red_black" q8) "set_" q9) [] [⟨some "key",fN "_event_to_sweep_line_key" (r0,r1),r2⟩] r3) r4]
theorem EZ:∃ p:Nat->Pos,aO 618=S618 (p 0,p 1) (p 2,p 3) (p 4,p 5) (p 6,p 7) (p 8,p 9) (p 10,p 11) (p 12,p 13) (p 14,p 15) (p 16,p 17) (p 18) (p 19) (p 20) (p 21) (p 22) (p 23) (p 24) (p 25) (p 26) (p 27) (p 28) (p 29) (p 30) (p 31) (p 32) (p 33) (p 34) (p 35) (p 36) (p 37) (p 38) (p 39) (p 40) (p 41) (p 42)/\((p 37).endLine == (p 41).line)=true:=
 ⟨λi=>([_,_,_,_,_,_,_,_,_,_,_,_,_,_,_,_,_,_,_,_,_,_,_,_,_,_,_,_,_,_,_,_,_,_,_,_,_,_,_,_,_,_,_]:List Pos).getD i default,by with_unfolding_all rfl,by decide⟩
def e9:Nat->Pos:=EZ.choose
theorem b618:aO 618=S618 (e9 0,e9 1) (e9 2,e9 3) (e9 4,e9 5) (e9 6,e9 7) (e9 8,e9 9) (e9 10,e9 11) (e9 12,e9 13) (e9 14,e9 15) (e9 16,e9 17) (e9 18) (e9 19) (e9 20) (e9 21) (e9 22) (e9 23) (e9 24) (e9 25) (e9 26) (e9 27) (e9 28) (e9 29) (e9 30) (e9 31) (e9 32) (e9 33) (e9 34) (e9 35) (e9 36) (e9 37) (e9 38) (e9 39) (e9 40) (e9 41) (e9 42):=EZ.choose_spec.1
theorem l618:((e9 37).endLine == (e9 41).line)=true:=EZ.choose_spec.2
structure sq (w:World) (aa hp:Heap) (d c:Addr) (env:Env) (A:aw):Prop where
 G:Gd w aa
 bs:Sb aa hp
 hT:aa.get? 613=ac
 hd:hp.get? d=ac
 hc:env.cells=[(("self" : Str),c)]
 hh:A.handled=ac
 dp:A.depth+3 < aA
structure nu (hp:Heap) (d c:Addr) (env:Env) (m:Str->Option Value) (at_:List (Str×Value)) (ls:List Addr) (h:Heap):Prop where
 ob:Mk h (d+1) d 761 at_
 fr:bZ env (aJ 618) (H2 d h) m
 cl:gq (H2 d h) c (some (.ref (d+1)))
 old:∀ b o,b≠613->hp.get? b=some o->h.get? b=some o
 em:∀ a∈ls,IsL (H2 d h) a #[] 0
 nd:ls.Nodup/\∀ a∈ls,hp.get? a=ac
 ht:∀ a∈eP,∃ ps,h.get? a=some (fv ps)
 tb:gB h 613 ny qQ
section
variable {w:World}{hp:Heap}{d c:Addr}{s:ae}{Q:Flow->ae->Prop}{env:Env}{at_ at':List (Str×Value)}{ls:List Addr}
theorem H2.sub (k:∀ b o,b≠d->b≠613->h.get? b=some o->h'.get? b=some o):Sb (H2 d h) (H2 d h'):=
 j0 _ λb o n e=>k b o (λq=>n (q▸.head _)) (λq=>n (q▸.tail _ (.head _))) e
theorem nu.base (C:sq w aa hp d c env A)(i:nu hp d c env m at_ ls h):Sb aa h:=λb o e=>i.old b o (λq=>ns (C.hT.symm.trans (q▸e))) (C.bs b o e)
theorem nu.frame (i:nu hp d c env m at_ ls h):bZ env (aJ 618) h m:=i.fr.keep (C:=[]) (.ext λb o e=>di _ e) nofun
theorem nu.cell (i:nu hp d c env m at_ ls h):gq h c (some (.ref (d+1))):=let ⟨sl,e⟩:=i.cl;⟨sl,di _ e⟩
theorem gB.off {T d:Addr}{q:Str}(k:∀ b o,b≠d->h.get? b=some o->h'.get? b=some o){es:Array gv}{n:Nat}(hd:h.get? d=some ⟨.type "dict",ac,.dict es n,sl⟩)(t:gB h T pos q):gB h' T pos q:=
 have nd:∀ {b o fs},h.get? b=some o->o.data=.fields fs->b≠d:=λe d q=>by rw [q,hd] at e;cases e;cases d
 t.map (λ_ e=>k _ _ (nd e rfl) e) λb o _ _ e d=>k b o (nd e d) e
theorem nu.step (C:sq w aa hp d c env A)(i:nu hp d c env m at_ ls h)(k:∀ b o,b≠d->h.get? b=some o->h'.get? b=some o)(mk:Mk h' (d+1) d 761 at'):nu hp d c env m at' ls h':=
 have k2:=H2.sub (d:=d) λb o n _ e=>k b o n e
 have nd:∀ {b o},hp.get? b=some o->b≠d:=λe q=>ns (C.hd.symm.trans (q▸e))
 let ⟨_,_,_,ed,_⟩:=i.ob.dict
 ⟨mk,i.fr.keep (C:=[]) (.ext k2) nofun,let ⟨sl,e⟩:=i.cl;⟨sl,k2 _ _ e⟩,λb o n e=>k b o (nd e) (i.old b o n e),λa ha=>k2 _ _ (i.em a ha),i.nd,λa ha=>let ⟨ps,e⟩:=i.ht a ha;⟨ps,k _ _ (λq=>by rw [q,ed] at e;exact nomatch e) e⟩,i.tb.off k ed⟩
theorem nu.more {l:Addr}(C:sq w aa hp d c env A)(i:nu hp d c env m at_ ls h)(k:Sb h h')(hl:IsL h' l #[] 0)(h0:h.get? l=ac):nu hp d c env m at_ (l :: ls) h':=
 have j:=i.step C (λb o _=>k b o) (i.ob.ext k)
 have nl:∀ {b o},h.get? b=some o->l≠b:=λe q=>ns (h0.symm.trans (q▸e))
 let ⟨_,_,_,ed,_⟩:=i.ob.dict
 let ⟨_,e6⟩:=i.ht 613 (.head _)
 { j with
  em:=λa ha=>(aq.mp ha).elim (λq=>q▸aU _ hl λz=>(aq.mp z).elim (nl ed) λz=>nl e6 (ah.mp z)) (j.em a)
  nd:=⟨iy.mpr ⟨λq=>nl (di _ (i.em _ q)) rfl,i.nd.1⟩,λa ha=>(aq.mp ha).elim (λq=>by
   cases z:hp.get? a with
   | none=>rfl
   | some o=>exact absurd (q.symm) (nl (i.old a o (λy=>nl e6 (q.symm.trans y)) z))) (i.nd.2 a)⟩ }
theorem nu.set (C:sq w aa hp d c env A)(i:nu hp d c env m at_ ls s.heap)(hz:at_.length<=900){a:Str}{q:Pos×Pos}{u:Value}{Q:Unit->ae->Prop}(ok:∀ P,iZ P 761 a)
  (h:∀ h' t',nu hp d c env m (jC at_ a u) ls h'->(Sb (H2 d s.heap) (H2 d h'))->Q () (up s h' t')):wpAny (Md w) A (fy (fN a q) env u) Q E s:=
 qi (x:=d+1) (λQ z=>ldC i.frame (by rw [C.hc];rfl) i.cell z) (C.G.X.keeps (i.base C)) i.ob (ok _) hz λh' t' mk sb =>
  have k:∀ b o,b≠d->s.heap.get? b=some o->h'.get? b=some o:=λb o n e=>sb.extBut b o n e
  h h' t' (i.step C k mk) (H2.sub λb o n _ e=>k b o n e)
section
variable {r:List Stmt}
theorem nu.list (C:sq w aa hp d c env A)(i:nu hp d c env m at_ ls s.heap)(hz:at_.length<=900){a:Str}{q:Pos×Pos}{p p':Pos}(ok:∀ P,iZ P 761 a)
  (h:∀ h' t' l,nu hp d c env m (jC at_ a (.ref l)) (l :: ls) h'->wpAny (Md w) A (execs r env) Q E (up s h' t')):wpAny (Md w) A (execs (.Assign [fN a q] (.List [] p) p' :: r) env) Q E s:=by
 refine aK (iP (mK (az ⟨dB _,?_⟩)) rfl rfl)
 exact (i.more C (λb o e=>ak _ e) (ar _ rfl) (aB (aQ _))).set (s:={ s with heap:=s.heap.push { cls:=.type "list",data:=.seq ([]:List Value).toArray } }) C hz ok λh' t' i' _=>h h' t' _ i'
theorem nu.three (C:sq w aa hp d c env A)(i:nu hp d c env m [] ls s.heap){a1 a2 a3 x1 x2 x3:Str}{q1 q2 q3:Pos×Pos}{p0 p1 p2 p3 p4 p5:Pos}{u1 u2 u3:Value}(m1:m x1=some u1)(m2:m x2=some u2)(m3:m x3=some u3)
  (l:∀ x∈[x1,x2,x3],(aJ 618).names.lookup x=some .local/\(x == ("__debug__" : Str))=false) (ok:∀ a∈[a1,a2,a3],∀ P,iZ P 761 a)
  (h:∀ h' t',nu hp d c env m (jC (jC (jC [] a1 u1) a2 u2) a3 u3) ls h'->wpAny (Md w) A (execs r env) Q E (up s h' t')) :
  wpAny (Md w) A (execs (.Assign [.Tuple [fN a1 q1,fN a2 q2,fN a3 q3] 0 p0] (.Tuple [.Name x1 p1,.Name x2 p2,.Name x3 p3] 0 p4) p5 :: r) env) Q E s:=by
 have hsw:fB [.Tuple [fN a1 q1,fN a2 q2,fN a3 q3] 0 p0] (.Tuple [.Name x1 p1,.Name x2 p2,.Name x3 p3] 0 p4) env=pure ac:=by
  unfold fB
  dsimp only
  exact rL rfl rfl
 have L1:=l x1 (.head _)
 have L2:=l x2 (.tail _ (.head _))
 have L3:=l x3 (.tail _ (.tail _ (.head _)))
 refine aK (Assign_Tuple (im (am (hU i.frame m1 (am (hU i.frame m2 (am (hU i.frame m3 (az ⟨by show 3<=2 ^ 24;decide,?_⟩) L3.1 L3.2)) L2.1 L2.2)) L1.1 L1.2))) (by unfold kM;rfl) hsw)
 have k2:∀ b ob,s.heap.get? b=some ob->(s.heap.push { cls:=.type "tuple",data:=.seq [u1,u2,u3].toArray }).get? b=some ob:=λb ob q=>ak _ q
 have ht:IsTup (s.heap.push { cls:=.type "tuple",data:=.seq [u1,u2,u3].toArray }) s.heap.objs.size [u1,u2,u3].toArray:=⟨_,ar _ rfl,rfl,0,rfl⟩
 refine assign_Tuple_tuple (s:={ s with heap:=s.heap.push { cls:=.type "tuple",data:=.seq [u1,u2,u3].toArray } }) C.hh ht rfl rfl λh3 x3=>?_
 have k3:Sb s.heap h3:=λb o q=>x3 b o (by rw [bN];exact bV (eV (bp q))) (k2 b o q)
 have ini3:=i.step C (λb o _=>k3 b o) (i.ob.ext k3)
 show wpAny (Md w) _ (do iF _ (fy (fN a1 q1) env u1);iF _ (fy (fN a2 q2) env u2);iF _ (fy (fN a3 q3) env u3);pure ()) _ _ _
 refine ag (aX (ini3.set (s:={ s with heap:=h3 }) C (dB _) (ok _ (.head _)) λh4 t4 ini4 _=>?_))
 refine ag (aX (ini4.set (s:=(up s h4 t4)) C (au (ly _ _ _) (by decide)) (ok _ (.tail _ (.head _))) λh5 t5 ini5 _=>?_))
 refine ag (aX (ini5.set (s:=(up s h5 t5)) C (au (ly _ _ _) (au (Nat.succ_le_succ (ly _ _ _)) (by decide))) (ok _ (.tail _ (.tail _ (.head _)))) λh6 t6 ini6 _=>aj (h h6 t6 ini6)))
end
end
theorem fb506:FB 506:=⟨λP=>⟨ac,by lk⟩,by lk,by lk,by lk,by lk,λP=>by lk,by lk,by lk,by lk⟩
theorem fb618:FB 618:=⟨λP=>⟨ac,by lk⟩,by lk,by lk,by lk,by lk,λP=>by lk,by lk,by lk,by lk⟩
theorem b506:∃ p q r t,aO 506=[.Return (some (.Call (.Name "KeyedSet" p) [.Name "key" q] [] r)) t]:=⟨_,_,_,_,by with_unfolding_all rfl⟩
theorem lE {a:Str}(h:∀ P,(takerIn (K P) 761 a == some ac)=true):∀ P,iZ P 761 a:=λP=>⟨by lk,by lk,beq_iff_eq.mp (h P),by lk⟩
theorem closQ {env:Env}{c:Addr}(h:env.cells=[(("self" : Str),c)]):cU (fT j9) env=pure [(("self" : Str),c)]:=by
 have e:cU (fT j9) env=cU (fT j9) { env with cells:=[(("self" : Str),c)] }:=by rw [<- h]
 exact e.trans (by lk)
section
variable {w:World}{s:ae}
theorem Cx:j9=.Lambda (pU j9) (jL j9) (fT j9) ny:=by lk
theorem GM {M:Model}{env:Env}(h:wpAny M A (eval (.Lambda (pU j9) (jL j9) (fT j9) ny) env) Q E s):wpAny M A (eval j9 env) Q E s:=by
 rw [Cx];exact h
theorem mkSet {v:Value}(G:Gd w aa)(bs:Sb aa s.heap)(hh:A.handled=ac)(hdp:A.depth+3 < aA)
  (h:∀ h' t' x d l,(Sb s.heap h')->Mk h' x d 488 [("key",v),("_values",.ref l)]->IsL h' l #[] 0->s.heap.get? l=ac/\s.heap.get? x=ac/\s.heap.get? d=ac->Q (.ref x) (up s h' t')):wpAny (Md w) A (call (.ref 506) [] [("key",v)]) Q E s:=by
 obtain ⟨hp,g,dr,tk,os⟩:=s
 have X:(K w.params).In hp:=G.X.keeps bs
 refine bw (tE (nN (s:=⟨hp,g,dr,tk,os⟩) fb506 X (G.nolimit bs) (by exact av (aE _ _) ‹_›) (binds:=[("key",v)]) (dU (by lk)) (by lk) (by
  intro y hy
  rcases ah.mp hy with rfl
  lk) λh2 t2 env F hloc kp=>pR ?_))
 refine el41 b506 λp q r t hb=>?_
 rw [hb]
 have hK:(λy=>([(("key" : Str),v)]).reverse.lookup y) "key" = some v:=rfl
 refine aK (cV (aN (wm (v:=.ref 488) F G (λb o e=>kp b o (bs b o e)) ?_)))
 refine cw (am (hU F hK (az ⟨wn (X.keeps kp) (by lk),?_⟩)))
 refine mk488 (s:=⟨h2,g,dr,t2,os⟩) G (λb o e=>kp b o (bs b o e)) hh (by show A.depth+1+1 < _;exact Nat.lt_of_succ_lt ‹_›) λh3 t3 l k3 mk il l0=>?_
 have fr:∀ a,h2.get? a=ac->hp.get? a=ac:=λa e=>by
  cases z:hp.get? a with
  | none=>rfl
  | some o=>rw [kp _ _ z] at e;cases e
 exact h h3 t3 _ _ l (λb o e=>k3 b o (kp b o e)) mk il ⟨fr _ l0,fr _ (aB (aW _)),fr _ (aB (aQ _))⟩
end
structure pq (hp h:Heap) (x d:Addr) (o i:Value) (c0 c1 c2 c3 c4 c5 q ks qkf skf:Addr):Prop where
 ob:Mk h x d 761 [("_orienteer",o),("_segments_intersector",i),("_unique",.bool false),("_opposites",.ref c1),("_endpoints",.ref c0),("_segments_ids",.ref c2),("_min_collinear_segments_ids",.ref c3),("_events_queue_data",.ref q),("_sweep_line_data",.ref ks)]
 qu:cL (H2 d h) q 411 [("key",.ref qkf),("_rows",.ref c4)]
 ks:cL (H2 d h) ks 488 [("key",.ref skf),("_values",.ref c5)]
 lam:fU (H2 d h) qkf j9 qQ "self" (.ref x)
 skf:eH (H2 d h) skf (fx 625 x)
 em:∀ c∈[c5,c4,c3,c2,c0,c1],IsL (H2 d h) c #[] 0
 nd:[c5,c4,c3,c2,c0,c1].Nodup/\∀ a∈[c5,c4,c3,c2,c0,c1],hp.get? a=ac
 old:∀ b o,b∉[613]->hp.get? b=some o->h.get? b=some o
 new:hp.get? x=ac/\hp.get? d=ac
 tab:gB h 613 ny qQ
theorem Mk.hide {x d C:Addr}{at_:List (Str×Value)}{Y:List Addr}(I:Mk h x d C at_)(hx:x∉Y)(hd:d∉Y):cL (bJ h Y) x C at_:=by
 obtain ⟨⟨sl,e1⟩,es,n,sl',e2,k⟩:=I
 exact ⟨sl,d,sl',es,n,aU _ e1 hx,aU _ e2 hd,λy=>k.get y⟩
theorem fU.off {a d:Addr}{l:Expr}{q x:Str}{v:Value}{Y:List Addr}{T:Addr}(hY:T∈Y)(i:fU (bJ h Y) a l q x v){es:Array gv}{n:Nat}(hd:h.get? d=some ⟨.type "dict",ac,.dict es n,sl⟩):fU (bJ h [d,T]) a l q x v:=
 i.map λb o e z=>aU _ (di _ e) λq=>by
  rcases aq.mp q with q | q
  ·have:=di _ e
   rw [q,hd] at this;cases this
   rcases z with z | z | ⟨_,z⟩<;>simp at z
  ·rw [ah.mp q,dX _ hY] at e;exact ns e
section
variable {w:World}{hp:Heap}{d c:Addr}{s:ae}{Q:Flow->ae->Prop}{env:Env}{at_:List (Str×Value)}{ls:List Addr}{r:List Stmt}
theorem H2.none (i:nu hp d c env m at_ ls h){a:Addr}(e:h.get? a=ac):a∉[d,613]:=λq=>by
 refine kW i.ob.dict λ_ _ _ ed _=>?_
 obtain ⟨_,e6⟩:=i.ht 613 (.head _)
 rcases aq.mp q with q | q
 ·rw [q,ed] at e;exact nomatch e
 ·rw [ah.mp q,e6] at e;exact nomatch e
theorem nu.que {a:Str}{q:Pos×Pos}{p1 p2 p3 p4:Pos}(C:sq w aa hp d c env A)(i:nu hp d c env m at_ ls s.heap)(hz:at_.length<=900)(hcode:env.code=.ref 617)(hqual:env.qual++"<lambda>" = qQ)(ok:∀ P,iZ P 761 a)(h613:∀ k,d+k≠613)
  (h:∀ h' t' qkf x l,nu hp d c env m (jC at_ a (.ref x)) (l :: ls) h'->cL (H2 d h') x 411 [("key",.ref qkf),("_rows",.ref l)]->fU (H2 d h') qkf j9 qQ "self" (.ref (d+1))->wpAny (Md w) A (execs r env) Q (λ_ _=>False) (up s h' t')) :
  wpAny (Md w) A (execs (.Assign [fN a q] (.Call (.Name "PriorityQueue" p1) [] [⟨some "key",j9,p2⟩] p3) p4 :: r) env) Q (λ_ _=>False) s:=by
 have bs:=i.base C
 refine aK (iP (aN (wm (v:=.ref 411) i.frame C.G bs ?_)) rfl rfl)
 refine callWith_KW0 (K:=K w.params) (C.G.X.keeps bs) (by lk) (by rfl) (kwAll_cons (GM (Ef (q:=qQ) hqual C.G bs C.hT (closQ C.hc) i.frame.glob (by lk) hcode (Er (C.G.X.keeps bs)) (.head _) i.ht i.tb i.cell λhb tb' qkf kb tabb lam=>?_))) (by rfl)
 have ib:nu hp d c env m at_ ls hb:=by
  have k2:=H2.sub (d:=d) λb o _ n e=>kb b o n e
  obtain ⟨⟨sl,e1⟩,es,n,sl',e2,kk⟩:=i.ob
  exact ⟨⟨⟨sl,kb _ _ (h613 1) e1⟩,es,n,sl',kb _ _ (h613 0) e2,kk⟩,i.fr.keep (C:=[]) (.ext k2) nofun,let ⟨sl,e⟩:=i.cl;⟨sl,k2 _ _ e⟩,λb o n e=>kb b o n (i.old b o n e),λa ha=>k2 _ _ (i.em a ha),i.nd,λa ha=>(aq.mp ha).elim (λq=>bg tabb λps e _=>⟨ps,q▸e⟩) λq=>let ⟨ps,e⟩:=i.ht a ha;⟨ps,kb _ _ (λz=>by rw [ah.mp q] at z;exact absurd z (by decide)) e⟩,tabb⟩
 refine kwAll_nil ⟨C.G.X.keeps (ib.base C),?_⟩
 refine mk411 (s:=(up s hb tb')) C.G (ib.base C) C.hh (av (aT (by decide) _) C.dp) λhc tc c4 kc mkq il l0=>?_
 refine kW ib.ob.dict λ_ _ _ edb _=>?_
 have sub:=H2.sub (d:=d) λb o _ _ e=>kc b o e
 have n1:hb.get? (hb.objs.size+1)=ac:=aB (aW _)
 have n0:hb.get? hb.objs.size=ac:=aB (aQ _)
 exact (ib.more C kc il l0).set (s:=(up s hc tc)) C hz ok λhd td id kd =>
  h hd td qkf _ _ id ((mkq.hide (H2.none ib n1) (H2.none ib n0)).ext kd) (((lam.off (T:=613) (.head _) edb).ext sub).ext kd)
theorem nu.kst {a:Str}{q q2:Pos×Pos}{p1 p2 p3 p4 p5:Pos}(hline:(p2.endLine == p4.line)=true)(C:sq w aa hp d c env A)(i:nu hp d c env m at_ ls s.heap)(hz:at_.length<=900)(hat:at_.find? (λp=>p.1 == ("_event_to_sweep_line_key" : Str))=ac)(ok:∀ P,iZ P 761 a)
  (h:∀ h' t' skf x l,nu hp d c env m (jC at_ a (.ref x)) (l :: ls) h'->cL (H2 d h') x 488 [("key",.ref skf),("_values",.ref l)]->eH (H2 d h') skf (fx 625 (d+1))->(Sb (H2 d s.heap) (H2 d h'))->wpAny (Md w) A (execs r env) Q (λ_ _=>False) (up s h' t')) :
  wpAny (Md w) A (execs (.Assign [fN a q] (.Call (.Attribute (.Name "red_black" p1) "set_" p2) [] [⟨some "key",fN "_event_to_sweep_line_key" q2,p3⟩] p4) p5 :: r) env) Q (λ_ _=>False) s:=by
 have bs:=i.base C
 have X:=C.G.X.keeps bs
 refine aK (iP (nh hline (wm (v:=.ref 512) i.frame C.G bs λpl=>?_)) rfl rfl)
 refine method_cls X (by lk) (cls_bind (mc:=.type "type") (a:=.ref 508) (obj:=.none) (tp:=.ref 512) (g:=.builtin "staticmethod.__get__") X (by lk) (by lk) (bw (sm_get (s:={ s with toks:=s.toks+1 }) (f:=.ref 506) (rest:=[.bool false]) X (by lk) (handed_on rfl ?_))))
 refine callWith_KW0 (K:=K w.params) X (by lk) (by rfl) (kwAll_cons (jr (ldC (s:={ s with toks:=s.toks+1 }) i.frame (by rw [C.hc];rfl) i.cell ?_) (oH (kE rfl _ env)))) (by rfl)
 refine A0 (f:=625) X i.ob.inst (λP=>by lk) (λP=>by lk) (λP=>by lk) (λP=>by lk) (λP=>by lk) (λP=>by lk) (by decide +kernel) hat ?_
 have ke:Sb s.heap (s.heap.push (fx 625 (d+1))):=λb o e=>ak _ e
 have eo:(s.heap.push (fx 625 (d+1))).get? s.heap.objs.size=some (fx 625 (d+1)):=ar _ rfl
 have no:s.heap.get? s.heap.objs.size=ac:=aB (aQ _)
 refine kwAll_nil ⟨X.keeps ke,?_⟩
 refine mkSet (s:={ s with heap:=s.heap.push (fx 625 (d+1)),toks:=s.toks+1+1 }) C.G (λb o e=>ke b o (bs b o e)) C.hh C.dp λhf tf ksx ksd c5 kf mks il5 nn=>?_
 generalize s.heap.push (fx 625 (d+1))=he at ke eo kf nn
 have kdf:Sb s.heap hf:=λb o e=>kf b o (ke b o e)
 have nol:∀ a:Addr,he.get? a=ac->s.heap.get? a=ac:=λa e=>by
  cases z:s.heap.get? a with
  | none=>rfl
  | some o=>exact ns (e.symm.trans (ke _ _ z))
 exact (i.more C kdf il5 (nol _ nn.1)).set (s:=(up s hf tf)) C hz ok λhg tg ig kg =>
  h hg tg _ _ _ ig ((mks.hide (H2.none i (nol _ nn.2.1)) (H2.none i (nol _ nn.2.2))).ext kg) ⟨#[],kg _ _ (aU _ (kf _ _ eo) (H2.none i no))⟩ λb o e=>kg _ _ (H2.sub (d:=d) (λb o _ _ e=>kdf b o e) b o e)
end
section
variable {w:World}{s:ae}
theorem mk761 {o i:Value}(G:Gd w aa)(bs:Sb aa s.heap)(hh:A.handled=ac)(hdp:A.depth+5 < aA)(hT:aa.get? 613=ac)(ht:∀ a∈eP,∃ ps,s.heap.get? a=some (fv ps))(tb:gB s.heap 613 ny qQ)
  (h:∀ h' t' x d c0 c1 c2 c3 c4 c5 q ks qkf skf,pq s.heap h' x d o i c0 c1 c2 c3 c4 c5 q ks qkf skf->Q (.ref x) (up s h' t')):wpAny (Md w) A (call (.ref 761) [o,i,.bool false]) Q E s:=by
 have X:(K w.params).In s.heap:=G.X.keeps bs
 refine bw (make_core (makes_of X (by lk)) (cT (r:=some (.ref 618)) X (by lk)) (λself=>bind_fn X self (by lk)) (.inl rfl) ?_)
 refine xJ (made (h:=s.heap) 761) λk0 hx0 hd0 sz0=>?_
 have nd:s.heap.get? s.heap.objs.size=ac:=aB (aQ _)
 have nx:s.heap.get? (s.heap.objs.size+1)=ac:=aB (aW _)
 obtain ⟨ps,e613⟩:=ht 613 (.head _)
 have l613:613 < s.heap.objs.size:=bp e613
 generalize (s.heap.push du).push (gQ 761 s.heap.objs.size)=h0 at k0 hx0 hd0 sz0 ⊢
 generalize s.heap.objs.size=d at hx0 hd0 sz0 nd nx l613 ⊢
 have d1:∀ k:Nat,d+k≠613:=λk=>fJ (bO l613 (aE d k))
 have h12:∀ k:Nat,d+(k+2)∉[d,613]:=λk q=>(aq.mp q).elim (λq=>absurd q (fJ (cr (Nat.succ_pos _)))) λq=>d1 _ (ah.mp q)
 refine tE (qg (s:={ s with heap:=h0 }) (x:="self") fb618 (X.keeps k0) ((G.nolimit bs).keeps k0) (by rw [sC];exact av (aT (by decide) _) hdp) (binds:=[("self",.ref (d+1)),("orienteer",o),("segments_intersector",i),("unique",.bool false)]) (dU (by lk)) (λn=>by lk) (λh=>by lk) (by lk) (by
  intro y hy hn
  rcases aq.mp hy with rfl | hy
  ·exact absurd rfl hn
  rcases aq.mp hy with rfl | hy
  ·lk
  rcases aq.mp hy with rfl | hy
  ·lk
  rcases ah.mp hy with rfl
  lk) λh2 t2 env F hloc hcl hcode hqual hcell kp=>pR ?_)
 rw [sz0] at hloc hcl hcell
 have m1:(λy=>(([("self",.ref (d+1)),("orienteer",o),("segments_intersector",i),("unique",.bool false)]:List (Str×Value)).filter (λb=>!(b.1 == ("self" : Str)))).reverse.lookup y) "orienteer" = some o:=by lk
 have m2:(λy=>(([("self",.ref (d+1)),("orienteer",o),("segments_intersector",i),("unique",.bool false)]:List (Str×Value)).filter (λb=>!(b.1 == ("self" : Str)))).reverse.lookup y) "segments_intersector" = some i:=by lk
 have m3:(λy=>(([("self",.ref (d+1)),("orienteer",o),("segments_intersector",i),("unique",.bool false)]:List (Str×Value)).filter (λb=>!(b.1 == ("self" : Str)))).reverse.lookup y) "unique" = some (.bool false):=by lk
 have hcell:gq h2 (d+2+1) (some (.ref (d+1))):=hcell
 generalize (λy=>(([("self",.ref (d+1)),("orienteer",o),("segments_intersector",i),("unique",.bool false)]:List (Str×Value)).filter (λb=>!(b.1 == ("self" : Str)))).reverse.lookup y)=m at F m1 m2 m3
 have k02:Sb s.heap h2:=λb o e=>kp b o (k0 b o e)
 have ini:nu s.heap d (d+2+1) env m [] [] h2:=⟨⟨⟨#[],kp _ _ hx0⟩,[],0,#[],kp _ _ hd0,.nil⟩,F.keep (C:=[d,613]) (λb o n e _=>⟨o.slots,aU _ e n⟩) (hloc▸h12 0),let ⟨sl,e⟩:=hcell;⟨sl,aU _ e (h12 1)⟩,λb o _ e=>k02 b o e,nofun,⟨List.nodup_nil,nofun⟩,λa ha=>let ⟨ps,e⟩:=ht a ha;⟨ps,k02 _ _ e⟩,tb.ext k02⟩
 have mkC:∀ {A':aw},A'.handled=ac->A'.depth+3 < aA->sq w aa s.heap d (d+2+1) env A':=λa b=>⟨G,bs,hT,nd,hcl,a,b⟩
 rw [b618]
 refine ini.three (s:=(up s h2 t2)) (mkC (by exact hh) (by exact hdp)) m1 m2 m3 (aY.mpr ⟨⟨by lk,by lk⟩,aY.mpr ⟨⟨by lk,by lk⟩,aY.mpr ⟨⟨by lk,by lk⟩,nofun⟩⟩⟩)
  (aY.mpr ⟨lE λP=>by lk,aY.mpr ⟨lE λP=>by lk,aY.mpr ⟨lE λP=>by lk,nofun⟩⟩⟩) λh3 t3 i3=>?_
 refine i3.list (s:=(up s h3 t3)) (mkC (by exact hh) (by exact hdp)) (bK (by lk)) (lE λP=>by lk) λh4 t4 c1 i4=>?_
 refine i4.list (s:=(up s h4 t4)) (mkC (by exact hh) (by exact hdp)) (bK (by lk)) (lE λP=>by lk) λh5 t5 c0 i5=>?_
 refine i5.list (s:=(up s h5 t5)) (mkC (by exact hh) (by exact hdp)) (bK (by lk)) (lE λP=>by lk) λh6 t6 c2 i6=>?_
 refine i6.list (s:=(up s h6 t6)) (mkC (by exact hh) (by exact hdp)) (bK (by lk)) (lE λP=>by lk) λh7 t7 c3 i7=>?_
 refine i7.que (s:=(up s h7 t7)) (mkC (by exact hh) (by exact hdp)) (bK (by lk)) (hcode.trans (by lk)) (by rw [hqual];lk) (lE λP=>by lk) d1 λh8 t8 qkf q c4 i8 iq lam=>?_
 refine i8.kst (s:=(up s h8 t8)) l618 (mkC (by exact hh) (by exact hdp)) (bK (by lk)) (by lk) (lE λP=>by lk) λh9 t9 skf ks c5 i9 ik sk k89=>?_
 exact fi ⟨rfl,h h9 t9 (d+1) d c0 c1 c2 c3 c4 c5 q ks qkf skf ⟨i9.ob,iq.ext k89,ik,lam.ext k89,sk,i9.em,i9.nd,λb o n e=>i9.old b o (λq=>n (q▸.head _)) e,⟨nx,nd⟩,i9.tb⟩⟩
end
section
variable {w:World}{s:ae}{env:Env}
noncomputable def iC (n:Nat):List Mv:=(bn n).map λi=>.int (i:Nat)
theorem Gk {x:Str}{X:Addr}{k:Nat}{p1 p2 p3 p4 p5 p6 p7:Pos}(G:Gd w aa)(bs:Sb aa s.heap)(hh:A.handled=ac)(F:bZ env sc s.heap m)(hm:m x=some (.ref X))(hl:sc.names.lookup x=some .local)(hd:(x == ("__debug__" : Str))=false)
  (g1:sc.names.lookup ("list" : Str)=some .globalImplicit) (g2:sc.names.lookup ("range" : Str)=some .globalImplicit) (g3:sc.names.lookup ("len" : Str)=some .globalImplicit) (hX:IsL s.heap X us.toArray k) (hz:us.length<=1000)
  (h:∀ h' t' l vs k',(Sb s.heap h')->s.heap.get? l=ac->IsL h' l (br vs) k'->(∀ R,bz (V R h') (iC us.length) vs)->Q (.ref l) (up s h' t')) :
  wpAny (Md w) A (eval (.Call (.Name "list" p1) [.Call (.Name "range" p2) [.Call (.Name "len" p3) [.Name x p4] [] p5] [] p6] [] p7) env) Q E s:=by
 refine aN (sy (v:=.type "list") F G bs ?_ (hl:=g1))
 refine cw (am (aN (sy (v:=.type "range") F G bs ?_ (hl:=g2))))
 refine cw (am (aN (sy (v:=.builtin "len") F G bs ?_ (hl:=g3))))
 refine cw (am (hU F hm (az ⟨xq,len_list (eQ hX) (pT hz) ?_⟩) hl hd))
 refine az ⟨Bu,call_range_1 ?_⟩
 have sz:((us.toArray.size:Nat):Int)=(us.length:Int):=rfl
 rw [sz]
 refine az ⟨Bu,?_⟩
 obtain ⟨sm,rs⟩:=jV (a:=0) (n:=us.length) (dB _) hz
 refine call_list_range hh (ar _ rfl) sm rs (by omega) λh' tk acc' c' hk hS' hacc=>?_
 refine h h' tk _ acc'.toList c' (λb o e=>hk b o (ak _ e)) ?_ (by simpa using hS') λR=>?_
 ·exact aB (by rw [bN];exact aW _)
 ·refine .of_get (by simp [iC,hacc.1]) λi a b ha hb=>?_
  obtain ⟨t,rfl⟩:=hacc.2 i b (by simpa using hb)
  have:a=.int (i:Nat):=by
   unfold iC at ha
   rw [jf] at ha
   refine bg (jd.mp ha) λj hj y17=>?_;subst y17
   obtain ⟨_,e⟩:=bu.mp hj
   rw [List.getElem_range] at e
   rw [e]
  rw [this,show ((0:Int)+(i:Int) * 1)=(i:Int) from by omega]
  exact .int _ _
theorem zJ {M:Model}{p:Addr}{f:Value}{pos:List Value}{R:ej->ae->Prop}(ho:s.heap.get? p=some (gz f self))(h:bY M A (.call f ⟨self :: pos,kw⟩) R s):wpAny M A.in1 (jT (.ref p) ⟨pos,kw⟩) (vK M A R) (λe s'=>R (.error e) s') s:=by
 refine ag (ij ho ?_)
 cases f<;>exact aj ⟨rfl,h⟩
end
theorem fb558:FB 558:=⟨λP=>⟨ac,by lk⟩,by lk,by lk,by lk,by lk,λP=>by lk,by lk,by lk,by lk⟩
def GC:List Stmt:=(iX (aO 558)).2.2.1
noncomputable abbrev lrl (p1 p2 p3 p4 p5 p6 p7:Pos):Expr:=.Call (.Name "list" p1) [.Call (.Name "range" p2) [.Call (.Name "len" p3) [.Name "segments" p4] [] p5] [] p6] [] p7
abbrev S558 (a0 a1 a2 a3 a4 a5 a6 b0 b1 b2 b3 b4 b5 b6 c0 c1 c2 c3 c4 c5 c6 c7 c8 c9 d0 d1 d2 d3 d4 d5 d6 d7 d8 d9 e0 e1:Pos):List Stmt:=[
  .Assign [.Name "result" a0] (.Call (.Name "cls" a1) [.Name "orienteer" a2,.Name "segments_intersector" a3,.Name "unique" a4] [] a5) a6,
  .For (.Tuple [.Name "segment_id" b0,.Name "segment" b1] 0 b2) (.Call (.Name "enumerate" b3) [.Name "segments" b4] [] b5) GC [] b6,
  .Assign [.Attribute (.Name "result" c0) "_min_collinear_segments_ids" c1] (lrl c2 c3 c4 c5 c6 c7 c8) c9,
  .Assign [.Attribute (.Name "result" d0) "_segments_ids" d1] (lrl d2 d3 d4 d5 d6 d7 d8) d9,
  .Return (some (.Name "result" e0)) e1]
theorem x558:∃ p:Nat->Pos,aO 558=S558 (p 0) (p 1) (p 2) (p 3) (p 4) (p 5) (p 6) (p 7) (p 8) (p 9) (p 10) (p 11) (p 12) (p 13) (p 14) (p 15) (p 16) (p 17) (p 18) (p 19) (p 20) (p 21) (p 22) (p 23) (p 24) (p 25) (p 26) (p 27) (p 28) (p 29) (p 30) (p 31) (p 32) (p 33) (p 34) (p 35):=
 ⟨λi=>([_,_,_,_,_,_,_,_,_,_,_,_,_,_,_,_,_,_,_,_,_,_,_,_,_,_,_,_,_,_,_,_,_,_,_,_]:List Pos).getD i default,by with_unfolding_all rfl⟩
def fV:Nat->Pos:=x558.choose
theorem b558:aO 558=S558 (fV 0) (fV 1) (fV 2) (fV 3) (fV 4) (fV 5) (fV 6) (fV 7) (fV 8) (fV 9) (fV 10) (fV 11) (fV 12) (fV 13) (fV 14) (fV 15) (fV 16) (fV 17) (fV 18) (fV 19) (fV 20) (fV 21) (fV 22) (fV 23) (fV 24) (fV 25) (fV 26) (fV 27) (fV 28) (fV 29) (fV 30) (fV 31) (fV 32) (fV 33) (fV 34) (fV 35):=x558.choose_spec
noncomputable abbrev qm (H:Hp)(x q ks qkf skf oa ia:Addr)(cells:List Addr):aD:=⟨true,λ| .reg=>x | .qu=>q | .ks=>ks | .qkf=>qkf | .skf=>skf | .orient=>oa | .inter=>ia,cells,H⟩
noncomputable def wu:Mv->Bool
 | .seg _ _=>true
 | _=>false
theorem V.segAny {R:aD}{v:Mv}{u:Value}(k:wu v=true)(y:V R h v u)(e:R'.hp=R.hp):V R' h v u:=by
 cases v with
 | seg p q=>exact (congrArg (λH:Hp=>Hl h (pu h (H.x p) (H.y p)) (pu h (H.x q) (H.y q)) u) e).mpr y
 | _=>cases k
noncomputable abbrev qI:Str:="contour_self_intersects.<locals>.<lambda>"
structure fR (w:World) (ab hX:Heap) (R0:aD) (st0:St) (L:List Addr) (sl oa ia cx:Addr) (segs:List Mv) (h:Heap):Prop where
 D:Wd w ab R0 st0 L h
 sub:Sb hX h
 no6:hX.get? 613=ac/\ab.get? 613=ac
 ht:∀ a∈eP,∃ ps,h.get? a=some (fv ps)
 tb:gB h 613 ny qQ
 sg:∃ us k,IsL h sl (br us) k/\bz (V R0 hX) segs us
 ss:segs.all wu=true/\segs.length<=1000
 s0:ab.get? sl=ac
 orient:eH hX oa (fx 359 cx)
 ctx:cL hX cx 369 []
 lam:fU hX ia jY qI "context" (.ref cx)
structure DB (w:World) (ab:Heap) (R0:aD) (st0:St) (L:List Addr) (sl:Addr) (h h':Heap):Prop where
 old:∀ b o,b∉sl :: L->b≠613->h.get? b=some o->h'.get? b=some o
 keep:dQ [sl] h h'
 ht:∀ a∈eP,∃ ps,h'.get? a=some (fv ps)
 tb:gB h' 613 ny qQ
section
variable {w:World}{R:aD}{st:St}{L:List Addr}{sl cx x d c0 c1 c3 c4 c5 q ks qkf skf:Addr}
theorem fR.slC (p:fR w ab hX R0 st0 L sl oa ia cx segs h):CL [sl] h:=λc hc=>by
 rcases ah.mp hc with rfl
 refine cB p.sg λus k e _=>?_
 exact ⟨_,e,.inl rfl,λvs q=>by cases q⟩
theorem fR.slL (p:fR w ab hX R0 st0 L sl oa ia cx segs h):sl∉L/\sl≠613:=by
 refine cB p.sg λus k e _=>?_
 refine ⟨λq=>?_,λq=>?_⟩
 ·refine dJ (p.D.frames _ q) λo e' c _=>?_
  have e2:h.get? sl=_:=e
  rw [e2] at e';cases e';simp at c
 ·obtain ⟨ps,e'⟩:=p.ht 613 (.head _)
  have e2:h.get? sl=_:=e
  rw [q,e'] at e2;exact nomatch e2
theorem DB.trans (x:DB w ab R0 st0 L sl h h')(y:DB w ab R0 st0 L sl h' h''):DB w ab R0 st0 L sl h h'':=⟨λb o n1 n2 e=>y.old b o n1 n2 (x.old b o n1 n2 e),x.keep.trans y.keep,y.ht,y.tb⟩
theorem Wd.out (D:Wd w ab R0 st0 L h)(p:ab.get? 613=ac/\ab.get? sl=ac)(hs:CL [sl] h)(hc:sl∉R0.cells)(hsL:sl∉L)(h6:∃ ps,h.get? 613=some (fv ps))(x:DB w ab R0 st0 L sl h h'):Wd w ab R0 st0 L h' where
 G:=D.G
 old:=λb o e=>x.old b o (λq=>by
  rcases aq.mp q with q | q
  ·rw [q,p.2] at e;exact ns e
  ·rw [D.off b (aF _ q)] at e;exact ns e) (λq=>by rw [q,p.1] at e;exact ns e) (D.old b o e)
 off:=D.off
 still:=D.still
 hs:=⟨D.hs.nodup,D.hs.all.impMem λc l hm _ ⟨vs,n,e,al⟩=>⟨vs,n,x.old _ _ (λq=>by
  rcases aq.mp q with q | q
  ·exact hc (q▸hm)
  ·refine dJ (D.frames _ q) λo e' c' _=>?_
   have e2:h.get? c=_:=e
   rw [e2] at e';cases e';simp at c') (λq=>by
   obtain ⟨ps,e'⟩:=h6
   have e2:h.get? c=_:=e
   rw [q,e'] at e2;exact nomatch e2) e,al.imp λ_ _ y=>y.keep x.keep hs (.refl h R0)⟩⟩
 frames:=λa ha=>by
  refine dJ (D.frames a ha) λo e c n=>?_
  obtain ⟨sl',e'⟩:=x.keep a o (λq=>hsL (ah.mp q▸ha)) e n
  exact ⟨_,e',c,n⟩
theorem Mk.hideC {C:Addr}{at_:List (Str×Value)}{Y:List Addr}(cl:CL Y h)(I:Mk h x d C at_):Mk (bJ h Y) x d C at_:=by
 obtain ⟨⟨sl,e1⟩,es,n,sl',e2,k⟩:=I
 exact ⟨⟨sl,aU _ e1 (lM cl e1 (by simp) (by simp))⟩,es,n,sl',aU _ e2 (lM cl e2 (by simp) (by simp)),k⟩
noncomputable abbrev qH (oa ia c0 c1 c2 c3 q ks:Addr):List (Str×Value):=[("_orienteer",.ref oa),("_segments_intersector",.ref ia),("_unique",.bool false),("_opposites",.ref c1),("_endpoints",.ref c0),("_segments_ids",.ref c2),("_min_collinear_segments_ids",.ref c3),("_events_queue_data",.ref q),("_sweep_line_data",.ref ks)]
theorem fR.made (p:fR w ab hX R0 st0 L sl oa ia cx segs h)(M:pq h h' x d (.ref oa) (.ref ia) c0 c1 c2 c3 c4 c5 q ks qkf skf) :
  DB w ab R0 st0 L sl h h'/\Wd w (bJ h' ([c0,c1,c2,c3,c4,c5,sl]++L)) (qm R0.hp x q ks qkf skf oa ia [c0,c1,c2,c3,c4,c5,sl]) [[],[],[],[],[],[],segs] L h'/\Mk (bJ h' ([c0,c1,c2,c3,c4,c5,sl]++L)) x d 761 (qH oa ia c0 c1 c2 c3 q ks):=by
 have k1:∀ b o,b≠613->h.get? b=some o->h'.get? b=some o:=λb o n e=>M.old b o (λq=>n (ah.mp q)) e
 have kX:Sb hX h':=λb o e=>k1 b o (λq=>by rw [q,p.no6.1] at e;exact ns e) (p.sub b o e)
 have out:DB w ab R0 st0 L sl h h':=⟨λb o _ n e=>k1 b o n e,λb o _ e nf=>⟨o.slots,k1 b o (λq=>by
   obtain ⟨ps,e'⟩:=p.ht 613 (.head _)
   rw [q,e'] at e;cases e;exact nf _ rfl) e⟩,λa ha=>by
   rcases aq.mp ha with rfl | ha
   ·refine bg M.tab λps e _=>?_;exact ⟨ps,e⟩
   ·rcases ah.mp ha with rfl
    obtain ⟨ps,e⟩:=p.ht 840 (.tail _ (.head _));exact ⟨ps,k1 _ _ (by decide) e⟩,M.tab⟩
 have n6:[c0,c1,c2,c3,c4,c5].Nodup:=(lj c0 c1 [c2,c3,c4,c5]).nodup_iff.mp ((List.reverse_perm [c5,c4,c3,c2,c0,c1]).nodup_iff.mpr M.nd.1)
 have mem:∀ {c},c∈[c0,c1,c2,c3,c4,c5]->c∈[c5,c4,c3,c2,c0,c1]:=λ{c} q=>by
  have:c∈[c1,c0,c2,c3,c4,c5]:=(lj c1 c0 [c2,c3,c4,c5]).mem_iff.mp q
  exact m6.mp this
 have em:∀ c∈[c0,c1,c2,c3,c4,c5],IsL h' c #[] 0/\h.get? c=ac:=λc q=>⟨di _ (M.em c (mem q)),M.nd.2 c (mem q)⟩
 refine cB p.sg λus k esl al=>?_
 have nsl:sl∉[c0,c1,c2,c3,c4,c5]:=λq=>by
  have e2:h.get? sl=_:=esl
  rw [(em _ q).2] at e2;exact ns e2
 have esl':IsL h' sl us.toArray k:=k1 _ _ p.slL.2 esl
 have al':bz (V (qm R0.hp x q ks qkf skf oa ia [c0,c1,c2,c3,c4,c5,sl]) h') segs us:=al.impMem λv u hv _ y=>(y.keep (C:=[]) (.ext kX) (λc q=>nomatch q) (.refl hX R0)).segAny (bj.mp p.ss.1 v hv) rfl
 have hs:Hs (qm R0.hp x q ks qkf skf oa ia [c0,c1,c2,c3,c4,c5,sl]) [[],[],[],[],[],[],segs] h':=by
  refine ⟨?_,?_⟩
  ·show [c0,c1,c2,c3,c4,c5,sl].Nodup
   have:[c0,c1,c2,c3,c4,c5,sl]=[c0,c1,c2,c3,c4,c5]++[sl]:=rfl
   rw [this]
   exact sd.mpr ⟨n6,by simp,λa ha b hb e=>nsl (ah.mp hb▸e▸ha)⟩
  ·exact .cons ⟨[],0,(em c0 (by exact .head _)).1,.nil⟩ (.cons ⟨[],0,(em c1 (by exact .tail _ (.head _))).1,.nil⟩ (.cons ⟨[],0,(em c2 (by exact .tail _ (.tail _ (.head _)))).1,.nil⟩ (.cons ⟨[],0,(em c3 (by simp)).1,.nil⟩ (.cons ⟨[],0,(em c4 (by simp)).1,.nil⟩ (.cons ⟨[],0,(em c5 (by simp)).1,.nil⟩ (.cons ⟨us,k,esl',al'⟩ .nil))))))
 have dc:∀ a∈L,∃ o,h'.get? a=some o/\o.cls=.type "frame"/\∀ vs,o.data≠.fields vs:=λa ha=>by
  refine dJ (p.D.frames a ha) λo e c n=>?_
  exact ⟨o,k1 _ _ (λq=>by
   obtain ⟨ps,e'⟩:=p.ht 613 (.head _)
   rw [q,e'] at e;cases e;exact n _ rfl) e,c,n⟩
 have cl:CL ([c0,c1,c2,c3,c4,c5,sl]++L) h':=hs.cl.app dc
 have uh:Sb (H2 d h') h':=λb o e=>di _ e
 refine ⟨out,⟨p.D.G.keeps λb o e=>aU _ (k1 _ _ (λq=>by rw [q,p.no6.2] at e;exact ns e) (p.D.old b o e)) λq=>?_,λb o e=>di _ e,λc q=>dX _ q,λ_=>gA.hide cl ⟨⟨c0,c1,c2,c3,rfl,rfl,rfl,rfl,M.ob.inst⟩,⟨c4,rfl,M.qu.ext uh⟩,⟨c5,rfl,M.ks.ext uh⟩,⟨cx,p.orient.ext kX,p.ctx.ext kX⟩,M.skf.ext uh,M.lam.ext uh,cx,p.lam.ext kX,p.ctx.ext kX⟩,hs,dc⟩,M.ob.hideC cl⟩
 rcases aL.mp q with q | q
 ·have q2:b∈[c0,c1,c2,c3,c4,c5]++[sl]:=q
  rcases aL.mp q2 with q | q
  ·have:=p.D.old _ _ e;rw [(em _ q).2] at this;exact ns this
  ·rw [ah.mp q,p.s0] at e;exact ns e
 ·rw [p.D.off b (aF _ q)] at e;exact ns e
end
structure wN (w:World) (ab:Heap) (R0:aD) (st0:St) (L:List Addr) (sl:Addr) (h:Heap) (R:aD) (st:St) (h':Heap):Prop where
 out:DB w ab R0 st0 L sl h h'
 live:R.live=true
 len:R.cells.length=6
 still:gA R h'
 hs:Hs R st h'
 new:∀ c∈R.cells,h.get? c=ac
abbrev qM:Lo:=put (put (λ_=>ac) "segments" (.list 6)) "result" (.root .reg)
def om:Mv->Bool:=HC (λ_=>false) true
theorem V.reroot {R:aD}{v:Mv}{u:Value}(hl:R.live=true->R'.live=true)(ha:R'.at_=R.at_/\R'.hp=R.hp)(h0:∀ a,R.cells[0]? = some a->R'.cells[0]? = some a)(h1:∀ a,R.cells[1]? = some a->R'.cells[1]? = some a)(y:V R h v u)(k:om v=true):V R' h v u:=
 V.map (c:=λ_=>false) (d:=true) hl ha (λ_ _ k=>absurd k dD) (λ_ i a k e=>match i,k,e with | 0,_,e=>h0 a e | 1,_,e=>h1 a e) (λ_ _ _ _ i=>i) (λ_ _ _ _ o=>o) k y
def Ho (h:Heap)(d:Addr):Prop:=∃ es n sl,h.get? d=some ⟨.type "dict",ac,.dict (br es) n,sl⟩/\∃ v,getL "_unique" es=some (some v)
theorem cL.offd {d a C:Addr}{at_:List (Str×Value)}(hd:Ho h d)(i:cL h a C at_)(hu:at_.find? (λp=>p.1 == ("_unique" : Str))=ac):cL (bJ h [d]) a C at_:=by
 obtain ⟨es0,n0,sl0,ed,v,hv⟩:=hd
 refine AH i λsl dx sl' es n e1 e2 g=>?_
 refine ⟨sl,dx,sl',es,n,aU _ e1 λq=>?_,aU _ e2 λq=>?_,g⟩
 ·rw [ah.mp q,ed] at e1;exact nomatch e1
 ·rw [ah.mp q,ed] at e2
  have e3:es0=es:=by injection e2 with e2;injection e2 with _ _ e2;injection e2 with e2;simpa using congrArg Array.toList e2
  have:=g "_unique"
  rw [<- e3,hv,hu] at this;exact nomatch this
theorem V.offd {R:aD}{d:Addr}{v:Mv}{u:Value}(hd:Ho h d)(y:V R h v u):V R (bJ h [d]) v u:=by
 have ne:∀ {a:Addr}{o:Obj}{sl},h.get? a=some { o with slots:=sl }->(∀ es n,o.data=.dict es n->es=#[])->a∉[d]:=λe k q=>by
  obtain ⟨es0,n0,sl0,ed,v,hv⟩:=hd
  rw [ah.mp q,ed] at e
  injection e with e
  injection e with _ _ e
  have:=k _ _ e.symm
  have:es0=[]:=by simpa using this
  rw [this] at hv
  cases sj hv
 exact V.map id ⟨rfl,rfl⟩ (λ_ _ _ e=>e) (λ_ _ _ _ e=>e) (λ_ _ _ k i=>i.offd hd k) (λ_ _ _ k ⟨sl,e⟩=>⟨sl,aU _ e (ne e k)⟩) (rX v) y
theorem gB.hide {C:List Addr}{T:Addr}{q:Str}(cl:CL C h)(t:gB h T pos q):gB (bJ h C) T pos q:=
 t.map (λ_ e=>aU _ e (gh cl e ⟨_,rfl⟩)) λ_ _ _ _ e d=>aU _ e (gh cl e ⟨_,d⟩)
theorem zu {R:aD}{vs:List Value}{n:Nat}(a:bz (V R h) (iC n) vs):bz (V R h') (iC n) vs:=a.impMem λv u hv _ y=>by
 refine bg (gj.mp hv) λi _ y1=>?_;subst y1
 obtain ⟨t,rfl⟩:∃ t,u=.int i t:=by cases y;exact ⟨_,rfl⟩
 exact .int _ _
theorem V.listI {R:aD}{i:Nat}{u:Value}{a:Addr}(y:V R h (.list i) u)(e:R.cells[i]? = some a):u=.ref a:=by
 cases y with | mk e'=>rw [e] at e';cases e';rfl
theorem V.rootI {R:aD}{r:Rt}{u:Value}(y:V R h (.root r) u):u=.ref (R.at_ r):=by
 cases y with | mk=>rfl
structure uH (Z:Heap) (x q ks qkf skf oa ia cx c4 c5:Addr):Prop where
 qu:cL Z q 411 [("key",.ref qkf),("_rows",.ref c4)]
 ks:cL Z ks 488 [("key",.ref skf),("_values",.ref c5)]
 orient:eH Z oa (fx 359 cx)
 ctx:cL Z cx 369 []
 skf:eH Z skf (fx 625 x)
 lam:fU Z qkf j9 qQ "self" (.ref x)
 lami:fU Z ia jY qI "context" (.ref cx)
section
variable {w:World}{L C:List Addr}{sl cx x d c0 c1 c3 c4 c5 q ks qkf skf:Addr}
theorem fR.parts (p:fR w ab hX R0 st0 L sl oa ia cx segs h)(M:pq h h' x d (.ref oa) (.ref ia) c0 c1 c2 c3 c4 c5 q ks qkf skf)(cl:CL C h'):uH (bJ (H2 d h') C) x q ks qkf skf oa ia cx c4 c5:=by
 obtain ⟨_,_,_,_,ed,_⟩:=id M.ob
 refine bg M.tab λps e6 _=>?_
 have off:∀ c∈C,c∉[d,613]:=λc hc q=>by
  refine dJ (cl c hc) λo e k n=>?_
  rcases aq.mp q with q | q
  ·rw [q,ed] at e;cases e;rcases k with k | k<;>simp at k
  ·rw [ah.mp q,e6] at e;cases e;exact n _ rfl
 have cl2:CL C (H2 d h'):=λc hc=>bg (cl c hc) λo e k=>⟨o,aU _ e (off c hc),k⟩
 have kX:Sb hX (H2 d h'):=λb o e=>by
  have n6:b≠613:=λq=>by rw [q,p.no6.1] at e;exact ns e
  have e1:=p.sub b o e
  refine aU _ (M.old b o (λq=>n6 (ah.mp q)) e1) λq=>?_
  rcases aq.mp q with q | q
  ·rw [q,M.new.2] at e1;exact ns e1
  ·exact n6 (ah.mp q)
 exact ⟨M.qu.hide cl2,M.ks.hide cl2,(p.orient.ext kX).hide cl2 (by simp [fx,gz]) (by simp [fx,gz]),(p.ctx.ext kX).hide cl2,M.skf.hide cl2 (by simp [fx,gz]) (by simp [fx,gz]),M.lam.hide cl2,(p.lam.ext kX).hide cl2⟩
theorem uH.still {Z:Heap}(p:uH Z x q ks qkf skf oa ia cx c4 c5)(k:Sb Z h)(I:cL h x 761 (qH oa ia c0 c1 c2 c3 q ks)):gA (qm R0.hp x q ks qkf skf oa ia [c0,c1,c2,c3,c4,c5]) h:=
 ⟨⟨c0,c1,c2,c3,rfl,rfl,rfl,rfl,I⟩,⟨c4,rfl,p.qu.ext k⟩,⟨c5,rfl,p.ks.ext k⟩,⟨cx,p.orient.ext k,p.ctx.ext k⟩,p.skf.ext k,p.lam.ext k,cx,p.lami.ext k,p.ctx.ext k⟩
end
section
variable {n:Nat}{w:World}{s:ae}{L:List Addr}{sl cx:Addr}{e0 e1 e4 e5:List Mv}
theorem Ak {c d:Addr}{vs:Array Value}{k n:Nat}{es:Array gv}{sl:Array (Option Value)}(e:IsL h c vs k)(ed:h.get? d=some ⟨.type "dict",ac,.dict es n,sl⟩):c≠d:=λq=>by
 have e:h.get? c=_:=e
 rw [q,ed] at e
 have:=congrArg Obj.cls (sj e)
 simp at this
theorem zc {env:Env}{r:List Stmt}{x d:Addr}{at_:List (Str×Value)}{vs:List Value}{k:Nat}{a:Str}{p0 p1 p2 p3 p4 p5 p6 p7 p8 p9:Pos}{Q:Flow->ae->Prop}(G:Gd w ab)(bs:Sb ab s.heap)(hh:A.handled=ac)
  (F:bZ env (aJ 558) s.heap m) (hs:m "segments" = some (.ref sl)) (hr:m "result" = some (.ref x)) (e:IsL s.heap sl vs.toArray k) (hz:vs.length<=1000) (mk:Mk s.heap x d 761 at_) (ok:∀ P,iZ P 761 a) (hz':at_.length<=900)
  (h:∀ h' t' n v j,(∀ b o,b≠d->s.heap.get? b=some o->h'.get? b=some o)->s.heap.get? n=ac->IsL h' n (br v) j->(∀ R h,bz (V R h) (iC vs.length) v)->Mk h' x d 761 (jC at_ a (.ref n))->bZ env (aJ 558) h' m->wpAny (Mq pg w) A (execs r env) Q E (up s h' t')) :
  wpAny (Mq pg w) A (execs (.Assign [.Attribute (.Name "result" p0) a p1] (lrl p2 p3 p4 p5 p6 p7 p8) p9 :: r) env) Q E s:=by
 refine aK (cj (iP (Gk (s:=ng s) G bs hh F hs (by lk) (by lk) (by lk) (by lk) (by lk) e hz λh5 t5 n v j k5 f i w=>?_) rfl rfl))
 have F5:=F.keep (C:=[]) (.ext k5) nofun
 refine qi (s:=up (ng s) h5 t5) (x:=x) (λQ z=>hU (s:=up (ng s) h5 t5) F5 hr z) (G.X.keeps λb o e=>k5 b o (bs b o e)) (mk.ext k5) (ok _) hz' λh6 t6 mk6 sb6=>⟨rfl,?_⟩
 refine kW mk.dict λ_ _ _ ed _=>?_
 have k56:∀ b o,b≠d->h5.get? b=some o->h6.get? b=some o:=λb o n e=>sb6.extBut b o n e
 have nd:n≠d:=λq=>ns (f.symm.trans (q▸ed))
 refine dJ F5.fr λo eo c _=>?_
 have nl:env.locals≠d:=λq=>by rw [q,k5 _ _ ed] at eo;cases eo;exact dF c
 exact h h6 t6 n v j (λb o n e=>k56 b o n (k5 b o e)) f (k56 _ _ nd i) (λR _=>zu (w R)) mk6 (F5.keep (C:=[d]) (λb o n e _=>⟨o.slots,k56 b o (λq=>n (q▸.head _)) e⟩) λq=>nl (ah.mp q))
theorem B6 {hs hA h1 h4 h8 Z:Heap}{loc n2 n3 x d l0 l1 l2 l3 l4 l5 q ks qkf skf:Addr}{R1:aD}(p:fR w ab hX R0 st0 L sl oa ia cx segs hs)(kp:Sb hs hA)(fr:hs.get? loc=ac)(ht6:∃ ps,hA.get? 613=some (fv ps))(hsl:∃ o,h4.get? sl=some o)
  (M:pq hA h1 x d (.ref oa) (.ref ia) l0 l1 l2 l3 l4 l5 q ks qkf skf) (Ap:qm R0.hp x q ks qkf skf oa ia [l0,l1,l2,l3,l4,l5,sl]=R1) (out1:DB w ab R0 st0 (loc :: L) sl hA h1) (cl1:CL ([l0,l1,l2,l3,l4,l5,sl]++loc :: L) h1)
  (pt:uH (bJ (H2 d h1) ([l0,l1,l2,l3,l4,l5,sl]++loc :: L)) x q ks qkf skf oa ia cx l4 l5) (mk4:Mk h4 x d 761 (qH oa ia l0 l1 l2 l3 q ks)) (hZ:bJ h1 ([l0,l1,l2,l3,l4,l5,sl]++loc :: L)=Z) (D4:Wd w Z R1 st' (loc :: L) h4) (K14:dQ ([loc]++R1.cells) h1 h4)
  (k48:∀ b o,b≠d->h4.get? b=some o->h8.get? b=some o) (mk8:Mk h8 x d 761 (jC (jC (qH oa ia l0 l1 l2 l3 q ks) "_min_collinear_segments_ids" (.ref n3)) "_segments_ids" (.ref n2))) (tb8:gB h8 613 ny qQ)
  (gs:st'[0]? = some e0/\st'[1]? = some e1/\st'[4]? = some e4/\st'[5]? = some e5/\st'[6]? = some segs) (gn:e0.all om=true/\e1.all om=true/\e4.all om=true/\e5.all om=true)
  (f3:h4.get? n3=ac) (f2:h4.get? n2=ac) (n32:n2≠n3) (num3:∀ R,nP R h8 n3 (iC segs.length)) (num2:∀ R,nP R h8 n2 (iC segs.length)) :
  wN w ab R0 st0 L sl hs (qm R0.hp x q ks qkf skf oa ia [l0,l1,n2,n3,l4,l5]) [e0,e1,iC segs.length,iC segs.length,e4,e5] h8:=by
 have sub:∀ b,b∈[l0,l1,l2,l3,l4,l5]->b∈[l5,l4,l3,l2,l0,l1]:=λb q=>m6.mp ((lj l1 l0 [l2,l3,l4,l5]).mem_iff.mp q)
 have nA:∀ b o,hA.get? b=some o->b∉[l0,l1,l2,l3,l4,l5]/\b≠d:=λb o e=>⟨λq=>ns ((M.nd.2 b (sub b q)).symm.trans e),λq=>ns (M.new.2.symm.trans (q▸e))⟩
 have hC:∀ b o,hA.get? b=some o->b∉sl :: loc :: L->b∉[l0,l1,l2,l3,l4,l5,sl]++loc :: L:=λb o e n q=>(aL.mp q).elim (λq=>(aL.mp (show b∈[l0,l1,l2,l3,l4,l5]++[sl] from q)).elim (nA b o e).1 λq=>n (ah.mp q▸.head _)) λq=>n (.tail _ q)
 obtain ⟨_,es,n,sl',ed,kd⟩:=id mk4
 have D4o:∀ b o,h1.get? b=some o->b∉[l0,l1,l2,l3,l4,l5,sl]++loc :: L->h4.get? b=some o:=λb o e n=>D4.old b o (hZ▸aU _ e n)
 have o4:∀ b o,b≠613->hA.get? b=some o->b∉sl :: loc :: L->h4.get? b=some o:=λb o n6 e n=>D4o b o (M.old b o (λq=>n6 (ah.mp q)) e) (hC b o e n)
 have t4:∀ a∈eP,∃ ps,h4.get? a=some (fv ps):=λa ha=>let ⟨ps,e⟩:=out1.ht a ha;⟨ps,D4o _ _ e (gh cl1 e ⟨_,rfl⟩)⟩
 have exs:∀ c,h4.get? c=ac->hs.get? c=ac:=λc e=>by
  cases z:hs.get? c with
  | none=>rfl
  | some o =>
   by_cases q:c∈sl :: loc :: L
   ·rcases aq.mp q with q | q
    ·obtain ⟨o',e'⟩:=hsl;rw [<- q] at e';exact ns (e.symm.trans e')
    ·refine bg (D4.frames c q) λo' e' _=>?_;exact ns (e.symm.trans e')
   ·by_cases q6:c=613
    ·obtain ⟨ps,e6⟩:=t4 613 (.head _);rw [<- q6] at e6;exact ns (e.symm.trans e6)
    ·exact ns (e.symm.trans (o4 c o q6 (kp _ _ z) q))
 have nLoc:∀ b o,hs.get? b=some o->b≠loc:=λb o e q=>ns (fr.symm.trans (q▸e))
 have rd:Ho h4 d:=⟨es,n,sl',ed,.bool false,(kd.get "_unique").trans (by lk)⟩
 have one:∀ {i c l},R1.cells[i]? = some c->st'[i]? = some l->l.all om=true->nP (qm R0.hp x q ks qkf skf oa ia [l0,l1,n2,n3,l4,l5]) h8 c l:=λ{i c l} hc hl hn=>by
  refine cB (D4.inv.cell hc hl) λvs k e al=>?_
  refine ⟨vs,k,k48 _ _ (Ak e ed) e,al.impMem λv u hv _ y=>?_⟩
  have y8:V R1 h8 v u:=(y.offd rd).keep (C:=[]) (.ext λb o e=>k48 b o (λq=>by rw [q,dX _ (.head _)] at e;exact ns e) (di _ e)) (λc q=>nomatch q) (.refl h4 R1)
  rw [<- Ap] at y8
  exact V.reroot (R:=qm R0.hp x q ks qkf skf oa ia [l0,l1,l2,l3,l4,l5,sl]) (λ_=>rfl) ⟨rfl,rfl⟩ (λa z=>z) (λa z=>z) y8 (bj.mp hn v hv)
 have R1c:R1.cells=[l0,l1,l2,l3,l4,l5]++[sl]:=by rw [<- Ap];rfl
 have mem4:∀ c,c∈[l0,l1]++[l4,l5]->c∈[l0,l1]++([l2,l3]++[l4,l5]):=λc h=>(aL.mp h).elim (bC _) λh=>aF _ (aF _ h)
 have c4n:∀ c∈[l0,l1,l4,l5],h4.get? c≠ac/\hA.get? c=ac:=λc hc =>
  have hc':c∈[l0,l1,l2,l3,l4,l5]:=mem4 c hc
  ⟨λe=>bg (D4.hs.cl c (by rw [R1c];exact bC [sl] hc')) λo e' _=>ns (e.symm.trans e'),M.nd.2 c (sub c hc')⟩
 have lnd:[l0,l1,l4,l5].Nodup:=
  ((lj l0 l1 [l2,l3,l4,l5]).nodup_iff.mp ((List.reverse_perm [l5,l4,l3,l2,l0,l1]).nodup_iff.mpr M.nd.1)).sublist (List.Sublist.cons_cons _ (.cons_cons _ (.cons _ (.cons _ (.refl _)))))
 have cell:∀ i:Nat,R1.cells[i]? = ([l0,l1,l2,l3,l4,l5,sl]:List Addr)[i]?:=λi=>by rw [R1c];rfl
 refine ⟨⟨λb o n n6 e=>?_,λb o n e nf=>?_,λa ha=>?_,tb8⟩,rfl,rfl,pt.still (λb o e=>?_) ?_,⟨?_,.cons (one (cell 0) gs.1 gn.1) (.cons (one (cell 1) gs.2.1 gn.2.1) (.cons (num2 _) (.cons (num3 _) (.cons (one (cell 4) gs.2.2.1 gn.2.2.1) (.cons (one (cell 5) gs.2.2.2.1 gn.2.2.2) .nil)))))⟩,λc hc=>?_⟩
 ·have e':=kp b o e
  exact k48 b o (nA b o e').2 (o4 b o n6 e' λq=>(aq.mp q).elim (λq=>n (q▸.head _)) λq=>(aq.mp q).elim (nLoc b o e) λq=>n (.tail _ q))
 ·have e':=kp b o e
  have e1':=M.old b o (λq=>by
   obtain ⟨ps,e6⟩:=ht6
   rw [ah.mp q,e6] at e';cases e';exact nf _ rfl) e'
  obtain ⟨s4,e4''⟩:=K14 b o (λq=>(aL.mp q).elim (λq=>nLoc b o e (ah.mp q)) λq=>(aL.mp (R1c▸q)).elim (nA b o e').1 n) e1' nf
  exact ⟨s4,k48 _ _ (nA b o e').2 e4''⟩
 ·obtain ⟨ps,e⟩:=t4 a ha
  exact ⟨ps,k48 _ _ (λq=>by rw [q,ed] at e;exact nomatch e) e⟩
 ·have e1:=di _ e
  exact k48 b o (λq=>by rw [q,dX _ (.head _)] at e1;exact ns e1) (D4o b o (di _ e1) λq=>by rw [dX _ q] at e;exact ns e)
 ·have e:jC (jC (qH oa ia l0 l1 l2 l3 q ks) "_min_collinear_segments_ids" (.ref n3)) "_segments_ids" (.ref n2)=qH oa ia l0 l1 n2 n3 q ks:=by lk
  exact e▸mk8.inst
 ·exact (List.perm_append_comm_assoc [l0,l1] [n2,n3] [l4,l5]).nodup_iff.mpr (iy.mpr ⟨λq=>(aq.mp q).elim n32 λq=>(c4n _ q).1 f2,iy.mpr ⟨λq=>(c4n _ q).1 f3,lnd⟩⟩)
 ·rcases aq.mp ((List.perm_append_comm_assoc [l0,l1] [n2,n3] [l4,l5]).mem_iff.mp hc) with rfl | q
  ·exact exs _ f2
  ·rcases aq.mp q with rfl | q
   ·exact exs _ f3
   ·cases z:hs.get? c with
    | none=>rfl
    | some o=>exact ns ((c4n _ q).2.symm.trans (kp _ _ z))
theorem FE (p:fR w ab hX R0 st0 L sl oa ia cx segs s.heap)(O:Ok (n+4) A)(Fr:Fs L A)
  (hf:rR (fO n) (aJ 558) "segment_id" "segment" GC 6 segs 0 segs qM [[],[],[],[],[],[],segs]=some (lo',st')) (g1:lo' "segments" = some (.list 6)) (g2:lo' "result" = some (.root .reg))
  (gs:st'[0]? = some e0/\st'[1]? = some e1/\st'[4]? = some e4/\st'[5]? = some e5/\st'[6]? = some segs) (gn:e0.all om=true/\e1.all om=true/\e4.all om=true/\e5.all om=true)
  (h:∀ h' t' R,wN w ab R0 st0 L sl s.heap R [e0,e1,iC segs.length,iC segs.length,e4,e5] h'->RR (.ok (.ret (.ref (R.at_ .reg)))) (up s h' t')) :
  bY (Mq pg w) A (.call (.ref 558) ⟨[.ref 761,.ref sl,.ref oa,.ref ia],[("unique",.bool false)]⟩) RR s:=by
 have X:(K w.params).In s.heap:=p.D.G.X.keeps p.D.old
 refine wf (nN fb558 X (p.D.G.nolimit p.D.old) O.d0 (binds:=[("cls",.ref 761),("segments",.ref sl),("orienteer",.ref oa),("segments_intersector",.ref ia),("unique",.bool false)]) (dU (by lk)) (by lk) (by
  intro y hy
  rcases aq.mp hy with rfl | hy
  ·lk
  rcases aq.mp hy with rfl | hy
  ·lk
  rcases aq.mp hy with rfl | hy
  ·lk
  rcases aq.mp hy with rfl | hy
  ·lk
  rcases ah.mp hy with rfl
  lk) λhA tA env F hloc kp=>rD ?_)
 rw [b558]
 have m1:(λy=>([("cls",.ref 761),("segments",.ref sl),("orienteer",.ref oa),("segments_intersector",.ref ia),("unique",.bool false)]:List (Str×Value)).reverse.lookup y) "cls" = some (.ref 761):=by lk
 have m2:(λy=>([("cls",.ref 761),("segments",.ref sl),("orienteer",.ref oa),("segments_intersector",.ref ia),("unique",.bool false)]:List (Str×Value)).reverse.lookup y) "segments" = some (.ref sl):=by lk
 have m3:(λy=>([("cls",.ref 761),("segments",.ref sl),("orienteer",.ref oa),("segments_intersector",.ref ia),("unique",.bool false)]:List (Str×Value)).reverse.lookup y) "orienteer" = some (.ref oa):=by lk
 have m4:(λy=>([("cls",.ref 761),("segments",.ref sl),("orienteer",.ref oa),("segments_intersector",.ref ia),("unique",.bool false)]:List (Str×Value)).reverse.lookup y) "segments_intersector" = some (.ref ia):=by lk
 have m5:(λy=>([("cls",.ref 761),("segments",.ref sl),("orienteer",.ref oa),("segments_intersector",.ref ia),("unique",.bool false)]:List (Str×Value)).reverse.lookup y) "unique" = some (.bool false):=by lk
 generalize (λy=>([("cls",.ref 761),("segments",.ref sl),("orienteer",.ref oa),("segments_intersector",.ref ia),("unique",.bool false)]:List (Str×Value)).reverse.lookup y)=m at F m1 m2 m3 m4 m5
 have fresh:∀ a:Addr,s.heap.objs.size<=a->s.heap.get? a=ac:=λa ha=>aB ha
 have h0n:ab.get? env.locals=ac:=by
  cases q:ab.get? env.locals with
  | none=>rfl
  | some o=>have:=p.D.old _ _ q;rw [fresh _ (by rw [hloc];exact aQ _)] at this;exact ns this
 have pA:fR w ab hX R0 st0 (env.locals :: L) sl oa ia cx segs hA:=⟨(p.D.ext kp).wider h0n F.fr,λb o e=>kp b o (p.sub b o e),p.no6,λa ha=>let ⟨ps,e⟩:=p.ht a ha;⟨ps,kp _ _ e⟩,p.tb.ext kp,cB p.sg λus k e al=>⟨us,k,kp _ _ e,al⟩,p.ss,p.s0,p.orient,p.ctx,p.lam⟩
 obtain ⟨Fr1,T1⟩:=oA Fr F
 have O1:Ok (n+3) (A.deeper env):=lW O
 refine aK (cJ (cj (aN (hU (s:=up (ng s) hA tA) F m1 ?_))) (by rfl))
 refine cw (am (hU (s:=up (ng s) hA tA) F m3 (am (hU (s:=up (ng s) hA tA) F m4 (am (hU (s:=up (ng s) hA tA) F m5 (az ⟨wn (X.keeps kp) (by lk),?_⟩)))))))
 refine mk761 (s:=up (ng s) hA tA) p.D.G pA.D.old O1.handled (O1.d (by decide)) p.no6.2 pA.ht pA.tb λh1 t1 x d l0 l1 l2 l3 l4 l5 q ks qkf skf M=>⟨rfl,?_⟩
 have out1:=(pA.made M).1;have D1:=(pA.made M).2.1;have mk1:=(pA.made M).2.2
 have pt:uH (bJ (H2 d h1) ([l0,l1,l2,l3,l4,l5,sl]++env.locals :: L)) x q ks qkf skf oa ia cx l4 l5:=pA.parts M D1.cl
 have tb1:gB (bJ h1 ([l0,l1,l2,l3,l4,l5,sl]++env.locals :: L)) 613 ny qQ:=out1.tb.hide D1.cl
 have F1:bZ env (aJ 558) h1 m:=F.keep out1.keep λq=>pA.slL.1 (ah.mp q▸.head _)
 have L1:ci (qm R0.hp x q ks qkf skf oa ia [l0,l1,l2,l3,l4,l5,sl]) h1 (put (λ_=>ac) "segments" (.list 6)) m:=th mU m2 (.list rfl)
 have cl1:CL ([l0,l1,l2,l3,l4,l5,sl]++env.locals :: L) h1:=D1.cl
 have kZ:∀ b o,h1.get? b=some o->b∉[l0,l1,l2,l3,l4,l5,sl]++env.locals :: L->(bJ h1 ([l0,l1,l2,l3,l4,l5,sl]++env.locals :: L)).get? b=some o:=λb o e n=>aU _ e n
 generalize hZ:bJ h1 ([l0,l1,l2,l3,l4,l5,sl]++env.locals :: L)=Z at D1 mk1 tb1 kZ
 generalize Ap:qm R0.hp x q ks qkf skf oa ia [l0,l1,l2,l3,l4,l5,sl]=R1 at D1 L1
 have c6:R1.cells[6]? = some sl:=by subst Ap;rfl
 have rl:R1.live=true:=by subst Ap;rfl
 refine jX (n:=n) (s:=(up s h1 t1)) (v:=.root .reg) D1 (O1.le (aE n 3)) Fr1 T1 F1 L1 (by lk) (show V R1 h1 (.root .reg) (.ref x) from by subst Ap;exact .root _ rfl) λh2 t2 m2' D2 P2 F2 L2=>?_
 refine bg (L2 "segments" (.list 6) rfl) λu hu hv=>?_
 have:=hv.listI c6;subst this
 refine cB (D2.inv.cell c6 (rfl)) λvs k e2 al2=>?_
 refine aK (wpAny_For (cj (aN (sy (s:=up (ng s) h2 t2) (v:=.type "enumerate") F2 D2.G D2.old ?_))) (λx=>by with_unfolding_all rfl))
 refine cw (am (hU (s:=up (ng s) h2 t2) F2 hu (az ⟨Bu,call_enumerate_list (eQ e2) λh3 he hi sz k3=>⟨rfl,cj (wpAny_pyIter_enum he ⟨rfl,?_⟩)⟩⟩)))
 have n2:∀ a:Addr,h2.objs.size<=a->h2.get? a=ac:=λa ha=>aB ha
 have kr3:fh h2 h3:=λb o e _=>k3 b o e
 have g0:∀ a:Addr,h2.objs.size<=a->Z.get? a=ac:=λa ha=>fS D2.old (n2 a ha)
 refine FF (n:=n) (s:=(up s h3 t2)) (O1.le (aE n 3)) Fr1 T1 (.head _) (by lk) (by lk) c6 ⟨g0 _ (aW _),g0 _ (aQ _)⟩ (jF _) segs 0 m2' _ lo' _ st' .none (D2.ext k3) (F2.recs kr3) (L2.recs D2 kr3) he hi rfl rfl hf λh4 t4 m4 D4 P4 F4 L4=>?_
 refine bg (L4 _ _ g1) λu hs4 hv=>?_
 have:=hv.listI c6;subst this
 refine bg (L4 _ _ g2) λu hr4 hv=>?_
 have:=hv.rootI;subst this
 refine cB (D4.inv.cell c6 gs.2.2.2.2) λvs4 k4 e4' al4=>?_
 have len4:vs4.length=segs.length:=al4.length.symm
 have mk4:=mk1.ext D4.old
 have hat:R1.at_ .reg=x:=by subst Ap;rfl
 rw [hat] at hr4
 have hz4:vs4.length<=1000:=len4▸p.ss.2
 refine zc (s:=(up s h4 t4)) (x:=x) D4.G D4.old O1.handled F4 hs4 hr4 e4' hz4 mk4 (lE λP=>by lk) (bK (by lk)) λh6 t6 n3 v3 j3 k46 f3 i3 w3 mk6 F6=>?_
 obtain ⟨_,_,_,_,e4d,_⟩:=id mk4
 obtain ⟨_,_,_,_,e6d,_⟩:=id mk6
 have ob6:Sb ab h6:=λb o e=>by
  have eA:=pA.D.old b o e
  refine k46 b o (λq=>ns (M.new.2.symm.trans (q▸eA))) (D4.old b o (kZ _ _ (M.old b o (λq=>ns (p.no6.2.symm.trans (ah.mp q▸e))) eA) λq=>?_))
  have q2:b∈[l0,l1,l2,l3,l4,l5]++([sl]++(env.locals :: L)):=q
  rcases aL.mp q2 with q | q
  ·exact ns ((M.nd.2 b (m6.mp ((lj l1 l0 [l2,l3,l4,l5]).mem_iff.mp q))).symm.trans eA)
  rcases aL.mp q with q | q
  ·exact ns (p.s0.symm.trans (ah.mp q▸e))
  ·exact ns ((pA.D.off b (aF _ q)).symm.trans e)
 refine zc (s:=(up s h6 t6)) (x:=x) p.D.G ob6 O1.handled F6 hs4 hr4 (k46 _ _ (Ak e4' e4d) e4') hz4 mk6 (lE λP=>by lk) (bK (by lk)) λh8 t8 n2 v2 j2 k68 f2 i2 w2 mk8 F8=>?_
 refine aK (cV (cj (hU (s:=up (ng s) h8 t8) F8 hr4 ⟨rfl,?_⟩)))
 have n3d:n3≠d:=λq=>ns (f3.symm.trans (q▸e4d))
 have n2d:n2≠d:=λq=>ns (f2.symm.trans (q▸e6d))
 refine h h8 t8 (qm R0.hp x q ks qkf skf oa ia [l0,l1,n2,n3,l4,l5]) (B6 p kp (fresh _ (Nat.le_of_eq hloc.symm)) (pA.ht 613 (.head _)) ⟨_,e4'⟩ M Ap out1 cl1 pt mk4 hZ D4 (P2.keep.trans ((dQ.ext (k3:Sb h2 h3)).trans P4.keep)) (λb o n e=>k68 b o n (k46 b o n e)) mk8
  (((tb1.ext D4.old).off k46 e4d).off k68 e6d) gs gn f3 ?_ (λq=>ns (f2.symm.trans (q▸i3))) (λR=>⟨v3,j3,k68 _ _ n3d i3,len4▸w3 R h8⟩) λR=>⟨v2,j2,i2,len4▸w2 R h8⟩)
 cases z:h4.get? n2 with
 | none=>rfl
 | some o=>exact ns (f2.symm.trans (k46 _ _ n2d z))
end
noncomputable abbrev Bj (a0 a1 a2 a3 a4 a5 a6 a7 a8 a9:Pos)(k:Nat):Stmt:=.Assign [.Name "events_registry" a0] (.Call (.Attribute (.Name "EventsRegistry" a1) "from_segments" a2) [.Name "segments" a3,.Name "orienteer" a4,.Name "segments_intersector" a5] [⟨some "unique",.Constant (.bool false) k a6,a7⟩] a8) a9
noncomputable abbrev Bi (b0 b1 b2:Pos)(k:Nat):Stmt:=.Assign [.Name "start" b0] (.Constant .none k b1) b2
abbrev Bh (b0 b1 b2:Pos):Stmt:=.Assign [.Name nI b0] (.List [] b1) b2
theorem yk:∃ (p:Nat->Pos) (k k':Nat),aO 833=[Bj (p 0) (p 1) (p 2) (p 3) (p 4) (p 5) (p 6) (p 7) (p 8) (p 9) k,Bi (p 10) (p 11) (p 12) k',Bh (p 13) (p 14) (p 15),.For (.Name "event" wX) (.Name "events_registry" BI) xX [] BJ,yz]/\((p 2).endLine == (p 8).line)=true:=
 ⟨λi=>([_,_,_,_,_,_,_,_,_,_,_,_,_,_,_,_]:List Pos).getD i default,_,_,by with_unfolding_all rfl,by decide⟩
def f9:Nat->Pos:=yk.choose
def k833:Nat:=yk.choose_spec.choose
def j833:Nat:=yk.choose_spec.choose_spec.choose
theorem b833:aO 833=[Bj (f9 0) (f9 1) (f9 2) (f9 3) (f9 4) (f9 5) (f9 6) (f9 7) (f9 8) (f9 9) k833,Bi (f9 10) (f9 11) (f9 12) j833,Bh (f9 13) (f9 14) (f9 15),.For (.Name "event" wX) (.Name "events_registry" BI) xX [] BJ,yz]:=yk.choose_spec.choose_spec.choose_spec.1
theorem l833:((f9 2).endLine == (f9 8).line)=true:=yk.choose_spec.choose_spec.choose_spec.2
section
variable {M:Model}{w:World}{s:ae}{env:Env}
theorem kpM {p f:Addr}{fd:FuncData}{oc:Value}{od:Option Addr}{sl}(X:(K P).In h)(e:(K P).lookup f=some ⟨oc,od,.func fd,sl⟩)(o:h.get? p=some (gz (.ref f) self)):Kp M h (.ref p):=
 ⟨.boundFrame,.inr (.inr rfl),(eT (part:=none) o).andThen ((eT (part:=none) (X _ _ e)).andThen .now)⟩
theorem cwk {f:Value}{first:List Value}{e:Expr}{rest:List Expr}{kws:List Keyword}(hall:(backToKw pos (kS kws env)).all (·.1.isSome)=true)
  (h:wpAny M A (spliced (fm pos (bT (e :: rest) env))) (λvs aan=>wpAny M A (evalAll ((backToKw pos (kS kws env)).map (·.2))) (λks aao=>Kp M aao.heap f/\wpAny M A (call f (first++vs) (((backToKw pos (kS kws env)).filterMap (·.1)).zip ks)) Q E aao) E aan) E s)
  (hplain:((fm pos (bT (e :: rest) env)).any (·.1) || (backToKw pos (kS kws env)).any (·.1.isNone))=false:=by rfl) (he:bT (e :: rest) env=(false,eval e env) :: bT rest env:=by rfl) :
  wpAny M A (callWith pos f first (fm pos (bT (e :: rest) env)) (backToKw pos (kS kws env))) Q E s:=
 callWith_of (P:=λh=>Kp M h f) hplain (λ_ k=>k) (evalArgs_kw2 hall h he)
end
section
variable {n k:Nat}{w:World}{s:ae}{L:List Addr}{sl cx:Addr}{e0 e1 e4 e5:List Mv} {eC eS:Env}
theorem q_reg {a1 a2 a3 a4 a5 a6 a7 a8:Pos}(hline:(a2.endLine == a8.line)=true)(p:fR w ab hX R0 st0 L sl oa ia cx segs s.heap)(O:Ok (n+5) A)(Fr:Fs L A)(F:bZ eS (aJ 833) s.heap m)(m1:m "segments" = some (.ref sl))(m2:m "orienteer" = some (.ref oa))(m3:m "segments_intersector" = some (.ref ia))
  (hf:rR (fO n) (aJ 558) "segment_id" "segment" GC 6 segs 0 segs qM [[],[],[],[],[],[],segs]=some (lo',st')) (g1:lo' "segments" = some (.list 6)) (g2:lo' "result" = some (.root .reg))
  (gs:st'[0]? = some e0/\st'[1]? = some e1/\st'[4]? = some e4/\st'[5]? = some e5/\st'[6]? = some segs) (gn:e0.all om=true/\e1.all om=true/\e4.all om=true/\e5.all om=true)
  (h:∀ h' t' R,wN w ab R0 st0 L sl s.heap R [e0,e1,iC segs.length,iC segs.length,e4,e5] h'->Q (.ref (R.at_ .reg)) (up s h' t')) :
  wpAny (Mq pg w) A (eval (.Call (.Attribute (.Name "EventsRegistry" a1) "from_segments" a2) [.Name "segments" a3,.Name "orienteer" a4,.Name "segments_intersector" a5] [⟨some "unique",.Constant (.bool false) kk a6,a7⟩] a8) eS) Q E s:=by
 have X:(K w.params).In s.heap:=p.D.G.X.keeps p.D.old
 refine nh hline (cj (wm (s:=ng s) (v:=.ref 761) F p.D.G p.D.old ⟨rfl,λpl=>?_⟩))
 refine cj (method_cls (s:=ng s) X (by lk) (cls_bind (mc:=.type "type") (a:=.ref 560) (obj:=.none) (tp:=.ref 761) (g:=.builtin "classmethod.__get__") X (by lk) (by lk) (bw (cm_get (s:={ s with gens:=#[],toks:=s.toks+1 }) (f:=.ref 558) (rest:=[.bool false]) X (by lk) (handed_on rfl ⟨rfl,?_⟩)))))
 have k1:Sb s.heap (s.heap.push (gz (.ref 558) (.ref 761))):=λb o e=>ak _ e
 have ho:(s.heap.push (gz (.ref 558) (.ref 761))).get? s.heap.objs.size=some (gz (.ref 558) (.ref 761)):=ar _ rfl
 generalize s.heap.push (gz (.ref 558) (.ref 761))=h1 at k1 ho ⊢
 have F1:bZ eS (aJ 833) h1 m:=F.keep (C:=[]) (.ext k1) (by simp)
 have X1:=X.keeps k1
 refine cwk (by rfl) (am (cj (hU (s:=up (ng s) h1 (s.toks+1)) F1 m1 ⟨rfl,am (cj (hU (s:=up (ng s) h1 (s.toks+1)) F1 m2 ⟨rfl,am (cj (hU (s:=up (ng s) h1 (s.toks+1)) F1 m3 ⟨rfl,az (kwAll_cons (iO (kwAll_nil ⟨kpM X1 (by lk:(K w.params).lookup 558=some ⟨.type "function",none,.func (eE 558),#[]⟩) ho,?_⟩)))⟩))⟩))⟩)))
 have p1:fR w ab hX R0 st0 L sl oa ia cx segs h1:=⟨p.D.ext k1,λb o e=>k1 b o (p.sub b o e),p.no6,λa ha=>let ⟨ps,e⟩:=p.ht a ha;⟨ps,k1 _ _ e⟩,p.tb.ext k1,cB p.sg λus k e al=>⟨us,k,k1 _ _ e,al⟩,p.ss,p.s0,p.orient,p.ctx,p.lam⟩
 refine bw (wf (zJ ho (FE (s:={ s with heap:=h1,toks:=s.toks+1 }) p1 (O.le (aW _)) Fr hf g1 g2 gs gn λh' t' R ok=>?_)))
 refine h h' t' R ⟨⟨λb o n1 n2 e=>ok.out.old b o n1 n2 (k1 b o e),λb o n e nf=>ok.out.keep b o n (k1 b o e) nf,ok.out.ht,ok.out.tb⟩,ok.live,ok.len,ok.still,ok.hs,λc hc=>?_⟩
 have:=ok.new c hc
 cases z:s.heap.get? c with
 | none=>rfl
 | some o=>rw [k1 _ _ z] at this;exact nomatch this
end
abbrev xk:Lo:=put (put (put (λ_=>ac) "events_registry" (.root .reg)) "start" .none) nI (.list 6)
abbrev xl:Lo:=put (λ_=>ac) "self" (.root .reg)
abbrev tG:Lo:=put (λ_=>ac) "previous" .none
abbrev vd:Pos:=jY.pos
structure Grd (X:List Addr) (h ab:Heap):Prop where
 old:∀ b o,b∉X->b∉eP->h.get? b=some o->ab.get? b=some o
 tb6:gB ab 613 ny qQ
 tb8:gB ab 840 vd qI
 ht:∀ a∈eP,∃ ps,ab.get? a=some (fv ps)
structure Ring (L:List Addr) (eC:Env) (aS:Addr) (gS:Nat) (eS:Env) (outs:List (Env×Scope×Lo)) (s:ae):Prop where
 C:eC.locals∈L/\∃ m,bZ eC (aJ 845) s.heap m/\m "previous" = some .none
 S:eS.locals∈L
 O:∀ x∈outs,(x.1.locals∈L/\(∃ m,bZ x.1 x.2.1 s.heap m/\∀ y v,x.2.2 y=some v->∃ u,m y=some u/\∀ R h,V R h v u)/\eN x.2.2=x.2.2)/\x.1.locals≠eC.locals/\x.1.locals≠eS.locals
 ap:eC.locals≠eS.locals
 iS:iM s.heap aS gS
 sS:gS < s.gens.size
 calm:∀ i x,i≠gS->s.gens[i]? = some x->iJ x
section
variable {n k:Nat}{w:World}{s:ae}{R:aD}{st:St}{L:List Addr}{sl cx:Addr}{e0 e1 e4 e5:List Mv} {eC eS:Env}{aS:Addr}{gS:Nat}{outs:List (Env×Scope×Lo)}{out:Option Mv}
theorem fR.ground (p:fR w ab hX R0 st0 L sl oa ia cx segs h)(hc:sl∉R0.cells)(ok:wN w ab R0 st0 L sl h R st h'):Wd w (bJ h' (R.cells++L)) R st L h':=by
 have D':=p.D.out ⟨p.no6.2,p.s0⟩ p.slC hc p.slL.1 (p.ht 613 (.head _)) ok.out
 have cl:CL (R.cells++L) h':=ok.hs.cl.app D'.frames
 refine ⟨D'.G.keeps λb o e=>aU _ (D'.old b o e) λq=>?_,λb o e=>di _ e,λc q=>dX _ q,λ_=>ok.still.hide cl,ok.hs,D'.frames⟩
 rcases aL.mp q with q | q
 ·have:=ok.new b q;rw [p.D.old _ _ e] at this;exact nomatch this
 ·rw [D'.off b (aF _ q)] at e;exact ns e
theorem Ay {x:Addr}(F:Fs L A):Fs (x :: L) A:=bg F λo e f=>⟨o,e,λenv he=>let ⟨a,b,c,d⟩:=f env he;⟨a,b,.tail _ c,d⟩⟩
theorem sL (p:fR w ab hX R0 st0 L sl oa ia cx segs s.heap)(hc:sl∉R0.cells)(ri:Ring L eC aS gS eS outs s)(O:Ok (n+1+8) A)(Fr:Fs L A)(F:bZ eS (aJ 833) s.heap m)(m1:m "segments" = some (.ref sl))(m2:m "orienteer" = some (.ref oa))(m3:m "segments_intersector" = some (.ref ia))
  (hf:rR (fO (n+1)) (aJ 558) "segment_id" "segment" GC 6 segs 0 segs qM [[],[],[],[],[],[],segs]=some (lo',st')) (g1:lo' "segments" = some (.list 6)) (g2:lo' "result" = some (.root .reg))
  (gs:st'[0]? = some e0/\st'[1]? = some e1/\st'[4]? = some e4/\st'[5]? = some e5/\st'[6]? = some segs) (gn:e0.all om=true/\e1.all om=true/\e4.all om=true/\e5.all om=true)
  (hn:fX (fO (n+1)) (n+1) k (.head xl xk [e0,e1,iC segs.length,iC segs.length,e4,e5,[]])=some (out,P'))
  (tb8:gB s.heap 840 vd qI)
  (hp:∀ aaf W,(W.eC=eC/\W.aS=aS/\W.gS=gS/\W.outs=outs/\W.os=s.os)/\Grd (sl :: L) s.heap aaf->lP w aaf W tG out P' Φ):RT (Mq pg w) A (x6 eS) ((Mq pg w).den (x6 eS)) [] s Φ:=by
 obtain ⟨Fr1,T1⟩:=CQ (b:=aO 833) Fr F ri.S
 have O1:Ok (n+1+7) (A.over (x6 eS) []):=oj (n:=n+1+7) O
 refine ry ?_
 suffices H:wO (Mq pg w) A (x6 eS) [Bj (f9 0) (f9 1) (f9 2) (f9 3) (f9 4) (f9 5) (f9 6) (f9 7) (f9 8) (f9 9) k833,Bi (f9 10) (f9 11) (f9 12) j833,Bh (f9 13) (f9 14) (f9 15),.For (.Name "event" wX) (.Name "events_registry" BI) xX [] BJ,yz] eS KF (HF eS) id id [] s Φ by
  rw [<- b833] at H;exact H
 refine f8 (cJ (q_reg (n:=n+1) l833 p (O1.le (by exact aT (by decide) _)) Fr1 F m1 m2 m3 hf g1 g2 gs gn λh1 t1 R ok=>?_) (by rfl))
 have D1:=p.ground hc ok
 have F1:bZ eS (aJ 833) h1 m:=F.keep ok.out.keep λq=>p.slL.1 (ah.mp q▸ri.S)
 refine jX (n:=n+1) (s:=(up s h1 t1)) (v:=.root .reg) D1 (O1.le (by exact aE _ _)) Fr1 T1 F1 (mU (R:=R)) (by lk) (.root _ ok.live) λh2 t2 m2' D2 P2 F2 L2=>?_
 refine f8 (Hv (n:=n+1) (s:=(up s h2 t2)) (r:=.next) (st':=[e0,e1,iC segs.length,iC segs.length,e4,e5]) (lo':=put (put (λ_=>ac) "events_registry" (.root .reg)) "start" .none) D2 (O1.le (by exact aE _ _)) Fr1 T1 F2 L2 (by lk) (by simp) λh3 t3 m3' fl D3 P3 F3 L3 hfl=>?_)
 cases fl<;>first | exact hfl.elim | skip
 refine f8 (cJ (mK (az ⟨by show 0<=2 ^ 24;exact dB _,?_⟩)) (by rfl))
 have kx:Sb h3 (h3.push { cls:=.type "list",data:=.seq ([]:List Value).toArray }):=λb o e=>ak _ e
 have n3:h3.get? h3.objs.size=ac:=aB (aQ _)
 have hl4:IsL (h3.push { cls:=.type "list",data:=.seq ([]:List Value).toArray }) h3.objs.size ([]:List Value).toArray 0:=ar _ rfl
 have g3:∀ a,h3.get? a=ac->(bJ h1 (R.cells++L)).get? a=ac/\a∉R.cells:=λa e=>by
  constructor
  ·cases q:(bJ h1 (R.cells++L)).get? a with
   | none=>rfl
   | some o=>rw [D3.old _ _ q] at e;exact nomatch e
  ·intro q
   refine bg (D3.hs.cl _ q) λo e' _=>?_
   rw [e] at e';exact ns e'
 have D4:=(D3.ext kx).add hl4 .nil (g3 _ n3).1 (g3 _ n3).2
 have krx:fh h3 (h3.push { cls:=.type "list",data:=.seq ([]:List Value).toArray }):=λb o e _=>kx b o e
 have c6:(RA R h3.objs.size).cells[6]? = some h3.objs.size:=by
  show (R.cells++[h3.objs.size])[6]? = _
  rw [List.getElem?_append_right (by rw [ok.len];exact aQ _),ok.len];rfl
 generalize h3.push { cls:=.type "list",data:=.seq ([]:List Value).toArray }=h4 at kx D4 krx hl4 ⊢
 refine jX (n:=n+1) (s:=(up s h4 t3)) (v:=.list 6) D4 (O1.le (by exact aE _ _)) Fr1 T1 (F3.recs krx) ((L3.recs D3 krx).add _) (by lk) (.list c6) λh5 t5 m5 D5 P5 F5 L5=>?_
 have I5:=(D5.still (by exact ok.live)).ext D5.old
 refine xG I5.reg λr0 r1 r2 r3 q0 q1 q2 q3 Ir=>?_
 have X5:(K w.params).In h5:=D5.G.X.keeps D5.old
 have nl5:h5.NoLimit:=D5.G.nolimit D5.old
 refine gV (y0 rfl (λx=>by with_unfolding_all rfl) (zg (s:=(up s h5 t5)) F5 L5 (v:=.root .reg) (by lk) (by lk) (by lk) λu _ hu=>?_))
 have:=hu.rootI;subst this
 refine CC (s:=(up s h5 t5)) X5 nl5 (by have:=O1.depth;exact av (aE _ _) ‹_›) Ir λh6 t6 eI aI FI hI k6 i6 n6=>?_
 intro F1' ld
 have kf:∀ {env sc m},env.locals∈L->env.locals≠eS.locals->bZ env sc s.heap m->bZ env sc h6 m:=λ{env sc m} l ne f=>by
  have ns:env.locals∉[eS.locals]:=λq=>ne (ah.mp q)
  have f1:=f.keep ok.out.keep λq=>p.slL.1 (ah.mp q▸l)
  exact ((((f1.pg D1 P2 ns).pg D2 P3 ns).recs krx).pg D4 P5 ns).keep (C:=[]) (.ext k6) (by simp)
 have D6:=(D5.ext k6).wider (by
  cases q:(bJ h1 (R.cells++L)).get? eI.locals with
  | none=>rfl
  | some o=>exact absurd (bp (D5.old _ _ q)) (by rw [hI];exact dh _)) FI.fr
 have newI:∀ {env:Env},env.locals∈L->env.locals≠eI.locals:=λ{env} l q=>by
  refine bg (D5.frames _ l) λo e _=>?_
  rw [q,hI] at e
  exact absurd (bp e) (dh _)
 have iS6:iM h6 aS gS:=by
  refine qa (id ri.iS) λo nm qn eo co do_ so=>?_
  have off:=gh p.D.cl eo ⟨_,do_⟩
  have n1:aS∉sl :: L:=λq=>by
   rcases aq.mp q with q | q
   ·obtain ⟨us,k,e,_⟩:=p.sg
    have e2:s.heap.get? sl=_:=e
    rw [<- q,eo] at e2;cases e2;cases do_
   ·exact off (aF _ q)
  have n2:aS≠613:=λq=>by obtain ⟨ps,e⟩:=p.ht 613 (.head _);rw [q,e] at eo;cases eo;cases co
  have i1:iM h1 aS gS:=⟨o,nm,qn,ok.out.old _ _ n1 n2 eo,co,do_,so⟩
  exact ((((i1.pg D1 P2).pg D2 P3).keeps kx).pg D4 P5).keeps k6
 let W:nO:=⟨eC,aS,gS,eS,aI,s.gens.size,eI,outs,s.os⟩
 have gI:(s.gens.push (.fresh (AZ eI)))[s.gens.size]? = some (.fresh (AZ eI)):=by simp
 have sw:lg w (bJ h1 (R.cells++L)) W tG (RA R h3.objs.size) (eI.locals :: L) xl xk [e0,e1,iC segs.length,iC segs.length,e4,e5,[]] { s with heap:=h6,toks:=t6,gens:=s.gens.push (.fresh (AZ eI)) }:={
  D:=D6
  len:=by show (R.cells++[h3.objs.size]).length=7;rw [bG,ok.len];rfl
  live:=ok.live
  mC:=let ⟨l,mc,f,pv⟩:=ri.C;⟨.tail _ l,mc,kf l ri.ap f,th mU pv .none⟩
  mS:=⟨.tail _ ri.S,m5,F5.keep (C:=[]) (.ext k6) (by simp),λx v e=>bg (L5 x v e) λu a b=>⟨u,a,b.keep (C:=[]) (.ext k6) (λc q=>nomatch q) (.refl h5 _)⟩⟩
  mI:=⟨.head _,_,FI,th mU rfl (.root _ ok.live)⟩
  mO:=λx hx=>let ⟨⟨l,⟨mo,f,kn⟩,e⟩,a,b⟩:=ri.O x hx;⟨⟨.tail _ l,mo,kf l b f,λy v q=>bg (kn y v q) λu a1 a2=>⟨u,a1,a2 _ _⟩⟩,e,a,b,newI l⟩
  ap:=⟨ri.ap,newI ri.C.1,newI ri.S⟩
  iS:=iS6
  iI:=i6
  i0:=by
   cases q:(bJ h1 (R.cells++L)).get? aI with
   | none=>rfl
   | some o=>have:=D5.old _ _ q;rw [n6] at this;exact ns this
  gI:=⟨_,gI,.inr (.inl rfl)⟩
  sS:=by show gS < (s.gens.push _).size;rw [j5];exact eV ri.sS
  nS:=fJ ri.sS
  calm:=oG ri.calm trivial
  oe:=rfl }
 have lf:LF W F1':=⟨ld.1,λM A c' fl s Φ h=>ld.2 M A c' fl s Φ (by cases fl<;>exact h)⟩
 refine (n8 (n:=n+1) (j4 rfl rfl) k).1 A _ _ _ xl xk _ F1' out P' Φ sw ⟨_,gI,.inl rfl⟩ lf O (Ay Fr) hn (hp _ W ⟨⟨rfl,rfl,rfl,rfl,rfl⟩,?_⟩)
 have ko:∀ b o,b∉sl :: L->b≠613->s.heap.get? b=some o->(bJ h1 (R.cells++L)).get? b=some o:=λb o n1 n2 e=>aU _ (ok.out.old b o n1 n2 e) λq=>(aL.mp q).elim (λq=>by rw [ok.new b q] at e;exact ns e) λq=>n1 (.tail _ q)
 have cl1:CL (R.cells++L) h1:=D1.cl
 refine ⟨λb o n1 n2 e=>ko b o n1 (λq=>n2 (q▸.head _)) e,ok.out.tb.hide cl1,?_,λa ha=>let ⟨ps,e⟩:=ok.out.ht a ha;⟨ps,aU _ e (gh cl1 e ⟨_,rfl⟩)⟩⟩
 have offs:∀ {b o fs},s.heap.get? b=some o->o.data=.fields fs->b∉sl :: L:=λ{b o fs} e d q=>by
  rcases aq.mp q with q | q
  ·obtain ⟨us,k,e2,_⟩:=p.sg
   have e3:s.heap.get? sl=_:=e2
   rw [<- q,e] at e3;cases e3;cases d
  ·exact gh p.D.cl e ⟨_,d⟩ (aF _ q)
 exact tb8.map (λ_ e=>ko _ _ (offs e rfl) (by decide) e) λb o _ n e d=>ko b o (offs e d) (λq=>n (q▸.head _)) e
end
theorem fb352:FB 352:=⟨λP=>⟨ac,by lk⟩,by lk,by lk,by lk,by lk,λP=>by lk,by lk,by lk,by lk⟩
noncomputable def FK:Mv->Pn
 | .pt p=>p
 | _=>(false,0,0)
def wa (l:List Mv)(i:Nat):Mv:=.seg (FK (l[if i=0 then l.length - 1 else i - 1]?.getD .none)) (FK (l[i]?.getD .none))
def gU (l:List Mv):List Mv:=(bn l.length).map (wa l)
def retE (l:List Stmt):Expr:=se (l.getD 1 default) 0
def iW:Scope:=(xZ (retE (aO 352))).2.2.2
noncomputable abbrev AG (p1 p2 p3 p4 p5 p6 p7 p8 p9 p0:Pos)(k:Nat):Expr:=.Call (.Name "Segment" p1) [.Subscript (.Name "vertices" p2) (.BinOp (.Name "index" p3) .Sub (.Constant (.int 1) k p4) p5) p6,.Subscript (.Name "vertices" p7) (.Name "index" p8) p9] [] p0
noncomputable abbrev Fz (q1 q2 q3 q4 q5:Pos):Expr:=.Call (.Name "range" q1) [.Call (.Name "len" q2) [.Name "vertices" q3] [] q4] [] q5
abbrev S352 (a0 a1 a2 a3 p1 p2 p3 p4 p5 p6 p7 p8 p9 p0 q1 q2 q3 q4 q5 r1 r2 r3:Pos)(k:Nat):List Stmt:=[.Assign [.Name "vertices" a0] (.Attribute (.Name "contour" a1) "vertices" a2) a3,
 .Return (some (.ListComp (AG p1 p2 p3 p4 p5 p6 p7 p8 p9 p0 k) [⟨.Name "index" r1,Fz q1 q2 q3 q4 q5,[],0⟩] iW r2)) r3]
theorem E0:∃ (p:Nat->Pos) (k:Nat),aO 352=S352 (p 0) (p 1) (p 2) (p 3) (p 4) (p 5) (p 6) (p 7) (p 8) (p 9) (p 10) (p 11) (p 12) (p 13) (p 14) (p 15) (p 16) (p 17) (p 18) (p 19) (p 20) (p 21) k:=⟨λi=>([_,_,_,_,_,_,_,_,_,_,_,_,_,_,_,_,_,_,_,_,_,_]:List Pos).getD i default,_,by with_unfolding_all rfl⟩
def jD:Nat->Pos:=E0.choose
def k352:Nat:=E0.choose_spec.choose
theorem b352:aO 352=S352 (jD 0) (jD 1) (jD 2) (jD 3) (jD 4) (jD 5) (jD 6) (jD 7) (jD 8) (jD 9) (jD 10) (jD 11) (jD 12) (jD 13) (jD 14) (jD 15) (jD 16) (jD 17) (jD 18) (jD 19) (jD 20) (jD 21) k352:=E0.choose_spec.choose_spec
section
variable {w:World}{env:Env}{s:ae}{C D c X:Addr}{k:Nat}{l:List Mv}
theorem v9 (l:List Mv):(gU l).length=l.length:=by simp [gU]
theorem CW {R:aD}{p1 p2 p3 p4 p5 p6 p7 p8 p9 p0:Pos}(G:Gd w aa)(bs:Sb aa s.heap)(hh:A.handled=ac)(hdp:A.depth+1 < aA)(F:bZ env (aJ 352) s.heap m)(hc:gq s.heap c (some (.ref X)))(hX:IsL s.heap X us.toArray k)(hz:us.length<=1000)(al:bz (V R s.heap) l us)(hp:l.all tR=true)
  (fr:s.heap.get? C=ac/\s.heap.get? D=ac/\s.heap.get? it=ac/\it < C) :
  vL pg w A s.heap C D it (λk us g=>bz (V R g) ((bn k).map (wa l)) us) (bQ iW [("vertices",c)] C env) [] (AG p1 p2 p3 p4 p5 p6 p7 p8 p9 p0 kk) (λj mm=>∃ v,(j < us.length/\∃ t,v=.int ((0:Int)+(j:Nat) * 1) t)/\mm "index" = some v) us.length:=by
 intro s' mm j us2 Qt Qe hn hD hold hg hNm hj qt qe
 refine bg hNm λv hv h1=>?_
 obtain ⟨_,t,e⟩:=hv
 rw [Int.zero_add,Int.mul_one] at e
 subst e
 have kd:∀ x,(dw iW env).names.lookup x=(dw iW { (default:Env) with scope:=aJ 352 }).names.lookup x:=λx=>by rw [mP F.sce]
 have kk':(bQ iW [("vertices",c)] C env).scope.kind=.function:=by show iW.kind=_;lk
 have k0:(bQ iW [("vertices",c)] C env).kindOf "vertices" = some .cell:=by show (dw iW env).names.lookup _=_;rw [kd];lk
 have k1:(bQ iW [("vertices",c)] C env).kindOf "index" = some .local:=by show (dw iW env).names.lookup _=_;rw [kd];lk
 have ks:(bQ iW [("vertices",c)] C env).kindOf "Segment" = some .globalImplicit:=by show (dw iW env).names.lookup _=_;rw [kd];lk
 have cc:s'.heap.IsCell c (some (.ref X)):=by obtain ⟨sl,e⟩:=hc;exact ⟨_,hold _ _ e,rfl⟩
 have hX':IsL s'.heap X us.toArray k:=hold _ _ hX
 have bs':Sb aa s'.heap:=λb o e=>hold b o (bs b o e)
 have X':=G.X.keeps bs'
 refine uk G.T λp lo mean mg mb T=>?_
 have len:=al.length
 have hz6:us.length<=1000000:=au hz (by decide)
 obtain ⟨i,hi⟩:∃ i,i=if j=0 then us.length - 1 else j - 1:=⟨_,rfl⟩
 have hil:i < us.length:=by
  rw [hi]
  split
  ·exact Nat.sub_lt (av (dB _) hj) Nat.one_pos
  ·exact av (Nat.sub_le _ _) hj
 obtain ⟨v1,hv1⟩:∃ v,us[i]? = some v:=⟨_,bh hil⟩
 obtain ⟨v2,hv2⟩:∃ v,us[j]? = some v:=⟨_,bh hj⟩
 have pt:∀ {i v},us[i]? = some v->V R s.heap (.pt (FK (l[i]?.getD .none))) v:=λ{i v} hv=>by
  have il:i < l.length:=by rw [len];exact (bu.mp hv).1
  refine bg (al.get (bh il)) λv' hv' y=>?_
  rw [hv] at hv';cases hv'
  have ip:=bj.mp hp _ (List.getElem_mem il)
  rw [bh il,Option.getD_some]
  cases e:l[i] with
  | pt p=>rw [e] at y;exact y
  | _=>rw [e] at ip;cases ip
 refine wpAny_tests_nil ?_
 rw [if_pos rfl]
 refine aN (je kk' ks (loadGlobal_global (mg:=mg) (by show s'.heap.Ns env.globals _;rw [F.glob];exact T.g.keeps bs') (mg_of (v:=.ref 308) G.X T.g (by lk)) ?_) (by lk))
 refine cw (am (ie (cA (ds kk' k0 rfl cc (dR (cA (bL kk' k1 hn h1 (bD (sub_int ?_)))))))))
 refine jj (eQ hX').typeIs slot_list_getitem.lookup (iE (s:={ s' with toks:=_ }) hX' (j:=i) (by rw [hi];exact An hj) hz6 hv1 ?_) rfl
 refine am (ie (cA (ds kk' k0 rfl cc (cA (bL kk' k1 hn h1 (jj (eQ hX').typeIs slot_list_getitem.lookup (iE hX' (j:=j) (kz hj) hz6 hv2 ?_) rfl))))))
 refine az ⟨wn X' (by lk),?_⟩
 refine zM (s:=⟨s'.heap,s'.gens,s'.drawn,s'.toks+1+1,s'.os⟩) G bs' hh hdp λh' t' k' mk=>qe h' t' _ k' ?_
 refine kW hn λoC _ _ eC _=>?_
 obtain ⟨oD,eD⟩:=hD
 have off:∀ a:Addr,s'.heap.objs.size<=a->a∉[C,D,it]:=λa ha q=>by
  have lC:=bp eC
  have lD:D < s'.heap.objs.size:=bp eD
  rcases aq.mp q with q | q
  ·rw [q] at ha;exact absurd lC (Nat.not_lt.mpr ha)
  rcases aq.mp q with q | q
  ·rw [q] at ha;exact absurd lD (Nat.not_lt.mpr ha)
  ·rw [ah.mp q] at ha;exact absurd (Nat.lt_trans fr.2.2.2 lC) (Nat.not_lt.mpr ha)
 have kh:Sb s.heap (bJ h' [C,D,it]):=λb o e=>aU _ (k' b o (hold b o e)) λq=>by
  rcases aq.mp q with q | q
  ·rw [q,fr.1] at e;exact ns e
  rcases aq.mp q with q | q
  ·rw [q,fr.2.1] at e;exact ns e
  ·rw [ah.mp q,fr.2.2.1] at e;exact ns e
 have ee:(if j=0 then l.length - 1 else j - 1)=i:=by rw [hi,len]
 rw [List.range_succ,db]
 refine bz.append (uT (j0 _ λb o _ e=>k' b o e) hg) (.cons ?_ .nil)
 unfold wa
 rw [ee]
 exact .seg (mk.hide (off _ (aW _)) (off _ (aQ _))) ((pt hv1).keep (C:=[]) (.ext kh) (λc q=>nomatch q) (.refl s.heap _)) ((pt hv2).keep (C:=[]) (.ext kh) (λc q=>nomatch q) (.refl s.heap _))
theorem Dj (e:env.cells=[(("vertices" : Str),c)]):cU iW env=pure [(("vertices" : Str),c)]:=by
 have e':cU iW env=cU iW { env with cells:=[(("vertices" : Str),c)] }:=by rw [<- e]
 exact e'.trans (by lk)
theorem Gj {R:aD}{ct:Addr}(G:Gd w aa)(bs:Sb aa s.heap)(hh:A.handled=ac)(hdp:A.depth+3 < aA)(I:cL s.heap ct 329 [("vertices",.ref X)])(hX:IsL s.heap X us.toArray k)(hz:us.length<=1000)(al:bz (V R s.heap) l us)(hp:l.all tR=true)
  (h:∀ h' t' sl vs,(Sb s.heap h')->s.heap.get? sl=ac->PL h' sl (br vs)->bz (V R h') (gU l) vs->Q (.ref sl) (up s h' t')) :
  wpAny (Md w) A (call (.ref 352) [self,.ref ct]) Q E s:=by
 have X0:(K w.params).In s.heap:=G.X.keeps bs
 refine bw (tE (qg (x:="vertices") fb352 X0 (G.nolimit bs) (av (aE _ 3) hdp) (binds:=[("self",self),("contour",.ref ct)]) (dU (by lk)) (λn=>by lk) (λh=>by lk) (by lk) (by
  intro y hy _
  rcases aq.mp hy with rfl | hy
  ·lk
  rcases ah.mp hy with rfl
  lk) λhA tA env F hloc hcl _ _ hcell kp=>pR ?_))
 rw [b352]
 have m1:(λy=>(([("self",self),("contour",.ref ct)]:List (Str×Value)).filter (λb=>!(b.1 == ("vertices" : Str)))).reverse.lookup y) "contour" = some (.ref ct):=by lk
 have hcell':gq hA (s.heap.objs.size+1) ac:=by
  have e:([("self",self),("contour",.ref ct)]:List (Str×Value)).reverse.lookup ("vertices" : Str)=ac:=by lk
  rw [<- e];exact hcell
 generalize (λy=>(([("self",self),("contour",.ref ct)]:List (Str×Value)).filter (λb=>!(b.1 == ("vertices" : Str)))).reverse.lookup y)=m at F m1
 have kA:Sb aa hA:=λb o e=>kp b o (bs b o e)
 refine aK (cJ (jr (hU (s:=(up s hA tA)) F m1 (tU (s:=(up s hA tA)) (v:=.ref X) (P:=w.params) (X0.keeps kp) (EL _) (I.ext kp) (by lk) (by lk) rfl ?_)) (oH (kE rfl _ env))) (by rfl))
 refine oZ (s:={ s with heap:=hA,toks:=tA+1 }) (c:=s.heap.objs.size+1) (by rw [F.sce];exact F.kind) (by show env.scope.names.lookup _=_;rw [F.sce];lk) (by rw [hcl];rfl) hcell' λhB hcB sb=>?_
 have cn:s.heap.get? (s.heap.objs.size+1)=ac:=aB (aW _)
 have kB:Sb s.heap hB:=λb o e=>sb.extBut b o (λq=>by rw [q,cn] at e;exact ns e) (kp b o e)
 have bB:Sb aa hB:=λb o e=>kB b o (bs b o e)
 have FB:bZ env (aJ 352) hB m:=F.keep (C:=[s.heap.objs.size+1]) (λb o n e _=>⟨o.slots,sb.extBut b o (λq=>n (q▸.head _)) e⟩) (by rw [hloc];simp)
 have len:=al.length
 have zr:=jV (a:=0) (n:=us.length) (dB _) hz
 refine aK (cV (AQ (s:={ s with heap:=hB,toks:=tA+1 }) (p:=pg) (V:=λj v=>j < us.length/\∃ t,v=.int ((0:Int)+(j:Nat) * 1) t) (G:=λk us g=>bz (V R g) ((bn k).map (wa l)) us) (cl:=[(("vertices" : Str),s.heap.objs.size+1)]) (n:=us.length) (by lk) (by lk) (Dj hcl) (λx=>by with_unfolding_all rfl) hz (λj us g g' k y=>uT k y) (λ_=>.nil)
  (λC it _=>Du (by show iW.kind=_;lk) (fa (by lk)) rfl) (λC D it fC fD fI lt=>CW (R:=R) (s:={ s with heap:=hB,toks:=tA+1 }) G bB hh (av (aT (show 2<=3 by decide) A.depth) hdp) FB hcB (kB _ _ hX) hz (al.imp λ_ _ y=>y.keep (C:=[]) (.ext kB) (λc q=>nomatch q) (.refl s.heap R)) hp ⟨fC,fD,fI,lt⟩)
  (λQ' hq=>vx (s:={ s with heap:=hB,toks:=tA+1 }) hh (λQ q=>?_) zr.1 zr.2 λh' t' it I=>hq h' t' it ⟨⟨I.W.sub,I.W.frame,λi s Q E hi st k=>I.W.item i s Q E hi st λv h' tk e=>k v h' tk ⟨hi,e⟩,I.W.done,I.W.self⟩,I.st,I.i0,I.lt,I.fp,I.old⟩) λh' t' D vs k hl _ hg hD=>?_))
 ·refine aN (sy (s:={ s with heap:=hB,toks:=tA+1 }) (v:=.type "range") FB G bB ?_)
  refine cw (am (aN (sy (s:={ s with heap:=hB,toks:=tA+1 }) (v:=.builtin "len") FB G bB ?_)))
  refine cw (am (ldC (s:={ s with heap:=hB,toks:=tA+1 }) FB (by rw [hcl];rfl) hcB (az ⟨xq,len_list (eQ (kB _ _ hX)) (pT hz) ?_⟩)))
  refine az ⟨Bu,call_range_1 ?_⟩
  have sz:((us.toArray.size:Nat):Int)=(us.length:Int):=rfl
  rw [sz]
  exact q _ _ _ _ _ _ (ar _ rfl) λb o e=>ak _ e
 ·refine h h' t' D vs (λb o e=>k b o (kB b o e)) (fS kB hD) hl ?_
  rw [<- len] at hg
  exact hg
end
theorem cL.offT {X:List Addr}{a C:Addr}{at_:List (Str×Value)}(hX:∀ a∈X,∃ o,h.get? a=some o/\o.cls=.none)(i:cL h a C at_):cL (bJ h X) a C at_:=by
 refine AH i λsl dx sl' es n e1 e2 g=>?_
 refine ⟨sl,dx,sl',es,n,aU _ e1 λq=>?_,aU _ e2 λq=>?_,g⟩
 ·refine bg (hX _ q) λo e c=>?_;rw [e1] at e;cases e;cases c
 ·refine bg (hX _ q) λo e c=>?_;rw [e2] at e;cases e;cases c
theorem V.offT {R:aD}{X:List Addr}{v:Mv}{u:Value}(hX:∀ a∈X,∃ o,h.get? a=some o/\o.cls=.none)(y:V R h v u):V R (bJ h X) v u:=
 V.map id ⟨rfl,rfl⟩ (λ_ _ _ e=>e) (λ_ _ _ _ e=>e) (λ_ _ _ _ i=>i.offT hX) (λ_ _ k _ ⟨sl,e⟩=>⟨sl,aU _ e λq=>by
  refine bg (hX _ q) λo' e' c=>?_;rw [e] at e';cases e';exact k c⟩) (rX v) y
theorem Ep (X:(K P).In h):CodeHd h 844 840:=
 ⟨_,_,_,_,_,_,_,_,_,X _ _ (by lk:(K P).lookup 844=some FV),rfl,rfl,rfl,rfl,rfl,rfl,rfl,rfl,by decide⟩
theorem Cy:jY=.Lambda (pU jY) (jL jY) (fT jY) vd:=by lk
theorem GN {M:Model}{s:ae}{env:Env}(h:wpAny M A (eval (.Lambda (pU jY) (jL jY) (fT jY) vd) env) Q E s):wpAny M A (eval jY env) Q E s:=by
 rw [Cy];exact h
theorem closI {env:Env}{c:Addr}(h:env.cells=[(("context" : Str),c)]):cU (fT jY) env=pure [(("context" : Str),c)]:=by
 have e:cU (fT jY) env=cU (fT jY) { env with cells:=[(("context" : Str),c)] }:=by rw [<- h]
 exact e.trans (by lk)
section
variable {n f k:Nat}{w:World}{s:ae}{L:List Addr}{sl cx c:Addr}{e0 e1 e4 e5:List Mv}{env:Env}{outs:List (Env×Scope×Lo)}{b:Bool}{Q:Flow->ae->Prop}
def wP (L:List Addr)(h:Heap)(x:Env×Scope×Lo):Prop:=x.1.locals∈L/\(∃ m,bZ x.1 x.2.1 h m/\∀ y v,x.2.2 y=some v->∃ u,m y=some u/\∀ R h,V R h v u)/\eN x.2.2=x.2.2
theorem xd {p0 p1 p2 p3 p4 p5:Pos}(D:Wd w ab R0 st0 (env.locals :: L) s.heap)(F:bZ env (aJ 845) s.heap m)(ms:m "segments" = some (.ref sl))(mp:m "previous" = some .none)(hc:env.cells=[(("context" : Str),c)])(hcc:gq s.heap c (some (.ref cx)))(hcode:env.code=.ref 844)(hqual:env.qual++"<lambda>" = qI)
  (no:∀ a∈eP,ab.get? a=ac) (ht:∀ a∈eP,∃ ps,s.heap.get? a=some (fv ps)) (tb6:gB s.heap 613 ny qQ) (tb8:gB s.heap 840 vd qI) (sg:∃ us k,IsL s.heap sl (br us) k/\bz (V R0 s.heap) segs us) (ss:segs.all wu=true/\segs.length<=1000) (s0:ab.get? sl=ac) (slc:sl∉R0.cells)
  (ctx:cL s.heap cx 369 []) (calm:∀ (i:Nat) x,s.gens[i]? = some x->iJ x) (hO:∀ x∈outs,wP L s.heap x/\x.1.locals≠env.locals) (hA:∃ outer,A.frames=some (env :: outer)/\∀ e∈outer,∃ x∈outs,e=x.1) (O:Ok (n+1+10) A) (Fr:Fs (env.locals :: L) A)
  (hf:rR (fO (n+1)) (aJ 558) "segment_id" "segment" GC 6 segs 0 segs qM [[],[],[],[],[],[],segs]=some (lo',st')) (g1:lo' "segments" = some (.list 6)) (g2:lo' "result" = some (.root .reg))
  (gs:st'[0]? = some e0/\st'[1]? = some e1/\st'[4]? = some e4/\st'[5]? = some e5/\st'[6]? = some segs) (gn:e0.all om=true/\e1.all om=true/\e4.all om=true/\e5.all om=true)
  (hn:kC (fO (n+1)) (n+1) f (k+1) tG (.head xl xk [e0,e1,iC segs.length,iC segs.length,e4,e5,[]])=some b)
  (h:∀ aaf W s',xU w aaf W s'->W.outs=outs/\W.os=s.os->Grd (sl :: env.locals :: L) s.heap aaf->Q (.ret (.bool b)) s'/\(b=false->Q .next s')) :
  wpAny (Mq pg w) A (exec (.For (.Name "intersection" qy) (.Call (.Name "sweep" p0) [.Name "segments" p1,.Attribute (.Name "context" p2) "angle_orientation" p3,jY] [] p4) EF [] p5) env) Q (λ_ _=>False) s:=by
 have X:(K w.params).In s.heap:=D.G.X.keeps D.old
 have hcl:env.cells.lookup ("context" : Str)=some c:=by rw [hc];rfl
 refine wpAny_For (aN (cj (wm (s:=ng s) (v:=.ref 833) F D.G D.old ⟨rfl,?_⟩))) (λx=>by with_unfolding_all rfl)
 refine cw (am (cj (hU (s:=ng s) F ms ⟨rfl,am (cj (jr (ldC (s:=ng s) F hcl hcc (A0 (s:=ng s) (f:=359) X ctx (λP=>by lk) (λP=>by lk) (λP=>by lk) (λP=>by lk) (λP=>by lk) (λP=>by lk) (by decide +kernel) (by lk) ⟨rfl,?_⟩)) (oH (kE rfl _ env))))⟩)))
 have k1:Sb s.heap (s.heap.push (fx 359 cx)):=λb o e=>ak _ e
 have o1:(s.heap.push (fx 359 cx)).get? s.heap.objs.size=some (fx 359 cx):=ar _ rfl
 have n1:s.heap.get? s.heap.objs.size=ac:=aB (aQ _)
 generalize s.heap.objs.size=oa at o1 n1 ⊢
 generalize s.heap.push (fx 359 cx)=h1 at k1 o1 ⊢
 have D1:=D.ext k1
 have F1:bZ env (aJ 845) h1 m:=F.keep (C:=[]) (.ext k1) (by simp)
 have ht1:∀ a∈eP,∃ ps,h1.get? a=some (fv ps):=λa ha=>let ⟨ps,e⟩:=ht a ha;⟨ps,k1 _ _ e⟩
 refine am (cj (GN (Ef (s:=up (ng s) h1 (s.toks+1)) hqual D.G D1.old (no 840 (.tail _ (.head _))) (closI hc) F.glob (by lk) hcode (Ep (X.keeps k1)) (.tail _ (.head _)) ht1 (tb8.ext k1) (let ⟨sl,e⟩:=hcc;⟨sl,k1 _ _ e⟩) λh2 t2 ia k2 tb82 lam=>⟨rfl,?_⟩)))
 have kr2:fh h1 h2:=λb o e nf=>k2 b o (λq=>by obtain ⟨ps,e'⟩:=ht1 840 (.tail _ (.head _));rw [q,e'] at e;cases e;exact nf _ rfl) e
 have D2:Wd w ab R0 st0 (env.locals :: L) h2:=D1.recs (λb o e=>k2 b o (λq=>by rw [q,no 840 (.tail _ (.head _))] at e;exact ns e) (D1.old b o e)) kr2
 have F2:=F1.recs kr2
 have ht2:∀ a∈eP,∃ ps,h2.get? a=some (fv ps):=λa ha=>by
  rcases aq.mp ha with rfl | ha
  ·obtain ⟨ps,e⟩:=ht1 613 (.head _);exact ⟨ps,k2 _ _ (by decide) e⟩
  ·rcases ah.mp ha with rfl
   refine bg tb82 λps e _=>?_;exact ⟨ps,e⟩
 have no2:∀ a∈eP,∃ o,h2.get? a=some o/\o.cls=.none:=λa ha=>let ⟨ps,e⟩:=ht2 a ha;⟨_,e,rfl⟩
 have kr02:fh s.heap h2:=λb o e nf=>kr2 b o (k1 b o e) nf
 have tb62:gB h2 613 ny qQ:=(tb6.ext k1).map (λ_ e=>k2 _ _ (by decide) e) λb o _ n e _=>k2 b o (λq=>n (q▸.tail _ (.head _))) e
 have noa:oa∉eP:=λq=>by obtain ⟨ps,e⟩:=ht oa q;rw [n1] at e;exact ns e
 have pX:fR w ab (bJ h2 eP) R0 st0 (env.locals :: L) sl oa ia cx segs h2:={
  D:=D2
  sub:=λb o e=>di _ e
  no6:=⟨dX _ (.head _),no 613 (.head _)⟩
  ht:=ht2
  tb:=tb62
  sg:=by
   refine cB sg λus k e al=>?_
   exact ⟨us,k,kr02 _ _ e (λvs q=>nomatch q),al.imp λ_ _ y=>(y.keep (C:=[]) (kr02.keep []) (λc q=>nomatch q) (.refl s.heap R0)).offT no2⟩
  ss:=ss
  s0:=s0
  orient:=⟨#[],aU _ (k2 _ _ (λq=>noa (q▸.tail _ (.head _))) o1) noa⟩
  ctx:=(ctx.keep (C:=[]) (kr02.keep []) (λc q=>nomatch q)).offT no2
  lam:=lam }
 refine az ⟨wn (D2.G.X.keeps D2.old) (by lk),bw (ud (s:=(up s h2 t2)) gn833 (D2.G.X.keeps D2.old) (D2.G.nolimit D2.old) (by have:=O.depth;exact av (aE _ _) ‹_›) (by rfl) (by
   have:((aJ 833).names.all λx=>!(x.2 == .cell))=true:=by lk
   simpa using this) (by
   intro y hy
   rw [D0] at hy
   rcases aq.mp hy with rfl | hy
   ·lk
   rcases aq.mp hy with rfl | hy
   ·lk
   rcases ah.mp hy with rfl
   lk) λh3 t3 eS aS FS locS k3 iS nS=>Ac iS ?_)⟩
 rw [D0] at FS
 have ms1:(λy=>([(("segments" : Str),df sl),("orienteer",.ref oa),("segments_intersector",.ref ia)]).reverse.lookup y) "segments" = some (.ref sl):=by lk
 have ms2:(λy=>([(("segments" : Str),df sl),("orienteer",.ref oa),("segments_intersector",.ref ia)]).reverse.lookup y) "orienteer" = some (.ref oa):=by lk
 have ms3:(λy=>([(("segments" : Str),df sl),("orienteer",.ref oa),("segments_intersector",.ref ia)]).reverse.lookup y) "segments_intersector" = some (.ref ia):=by lk
 have FS':bZ eS (aJ 833) h3 (λy=>([(("segments" : Str),df sl),("orienteer",.ref oa),("segments_intersector",.ref ia)]).reverse.lookup y):=FS
 generalize (λy=>([(("segments" : Str),df sl),("orienteer",.ref oa),("segments_intersector",.ref ia)]).reverse.lookup y)=mS at FS' ms1 ms2 ms3
 have f2:h2.get? eS.locals=ac:=by rw [locS];exact aB (aQ _)
 have h0S:ab.get? eS.locals=ac:=by
  cases q:ab.get? eS.locals with
  | none=>rfl
  | some o=>have:=D2.old _ _ q;rw [f2] at this;exact ns this
 have p3:fR w ab (bJ h2 eP) R0 st0 (eS.locals :: env.locals :: L) sl oa ia cx segs h3:=⟨(D2.ext k3).wider h0S FS'.fr,λb o e=>k3 b o (di _ e),pX.no6,λa ha=>let ⟨ps,e⟩:=ht2 a ha;⟨ps,k3 _ _ e⟩,tb62.ext k3,cB pX.sg λus k e al=>⟨us,k,k3 _ _ e,al⟩,ss,s0,pX.orient,pX.ctx,pX.lam⟩
 have F3:=F2.keep (C:=[]) (.ext k3) (by simp)
 have newS:∀ {a:Addr},a∈env.locals :: L->a≠eS.locals:=λ{a} l q=>by
  refine bg (D2.frames _ l) λo e _=>?_
  rw [q,f2] at e;exact ns e
 have hC0:eN tG=tG:=j4 rfl rfl
 refine aC (f:=rV (kC (fO (n+1)) (n+1) f k) (fO (n+1)) tG) hn λz hs hn=>?_
 obtain ⟨out,P'⟩:=z
 have hsz:(s.gens.push (.fresh (.func (aO 833) eS)))[s.gens.size]? = some (.fresh (.func (aO 833) eS)):=by simp
 refine bg hA λouter hfr hout=>?_
 have asks:∀ W:nO,W.eC=env->W.outs=outs->xV W A:=λW w1 w2=>⟨outer,by rw [w1];exact hfr,by rw [w2];exact hout⟩
 have kk:∀ b o,b∉eP->s.heap.get? b=some o->h2.get? b=some o:=λb o n e=>k2 b o (λq=>n (q▸.tail _ (.head _))) (k1 b o e)
 have hR:∀ (a:Heap) (W:nO),(W.eC=env/\W.aS=aS/\W.gS=s.gens.size/\W.outs=outs/\W.os=s.os)/\Grd (sl :: eS.locals :: env.locals :: L) h3 a->∀ s',xU w a W s'->Q (.ret (.bool b)) s'/\(b=false->Q .next s'):=λa W cd s' fin =>
  h a W s' fin cd.1.2.2.2 ⟨λb o nX nT e=>cd.2.old b o (λq=>by
   rcases aq.mp q with q | q
   ·exact nX (q▸.head _)
   rcases aq.mp q with q | q
   ·have:=kk b o nT e;rw [q,f2] at this;exact ns this
   ·exact nX (.tail _ q)) nT (k3 _ _ (kk b o nT e)),cd.2.tb6,cd.2.tb8,cd.2.ht⟩
 refine wC (n:=n+1) (Cd:=λa W=>(W.eC=env/\W.aS=aS/\W.gS=s.gens.size/\W.outs=outs/\W.os=s.os)/\Grd (sl :: eS.locals :: env.locals :: L) h3 a) (eC:=env) (aS:=aS) (gS:=s.gens.size) (out:=out) (P':=P') (s:={ s with heap:=h3,toks:=t3,gens:=s.gens.push (.fresh (x6 eS)) })
  (λa W cd=>⟨cd.1.1,cd.1.2.1,cd.1.2.2.1⟩) hC0 (O.le (by exact aW _)) Fr ⟨outer,hfr⟩ (D2.G.nolimit λb o e=>k3 _ _ (D2.old b o e)) iS (by show _ < (s.gens.push _).size;rw [j5];exact cD _) (λΦ hp=>⟨_,hsz,rfl,?_⟩) (λa W cd s' R' L' _ _ _ y=>(asks W cd.1.1 cd.1.2.2.2.1).fs y)
  (ut (λlo P h1 h2 a W cd R' L' s' h3=>?_) hn) hR
 ·refine sL (n:=n) (A:=A.in1) (outs:=outs) (eC:=env) (aS:=aS) (gS:=s.gens.size) (s:=({ s with heap:=h3,toks:=t3,gens:=s.gens.push (.fresh (x6 eS)) }:ae).setGen s.gens.size .running) p3 slc ?_ (Ok.in1 (k:=n+1+9) (O.le (by exact cD _)) |>.le (by exact aW _)) (Ay (GB Fr)) FS' ms1 ms2 ms3 hf g1 g2 gs gn hs (tb82.ext k3) (λa W hh=>hp a W hh)
  exact {
   C:=⟨.tail _ (.head _),m,F3,mp⟩
   S:=.head _
   O:=λx hx=>by
    obtain ⟨⟨l,⟨mo,fo,kn⟩,ff⟩,ne⟩:=hO x hx
    have fo3:=(fo.recs kr02).keep (C:=[]) (.ext k3) (by simp)
    exact ⟨⟨.tail _ (.tail _ l),⟨mo,fo3,kn⟩,ff⟩,ne,newS (.tail _ l)⟩
   ap:=newS (.head _)
   iS:=iS
   sS:=by rw [fF];show _ < (s.gens.push _).size;rw [j5];exact cD _
   calm:=λi x hi hx=>by
    rw [fk (cb hi)] at hx
    exact oG (G:=s.gens) (gS:=s.gens.size) (x:=.fresh (x6 eS)) (λi y _ hy=>calm i y hy) trivial i x hi hx }
 ·have:=C6 (n:=n+1) (RR:=λr s'=>match r with | .ok f=>Q f s' | .error e=>cameBackBy (Mq pg w) A env (λ_ _=>False) e s') (O.le (by exact aW _)) (asks W cd.1.1 cd.1.2.2.2.1) (λs' fin=>hR a W cd s' fin) k lo P s' R' L' h1 h2 h3
  rw [cd.1.1,cd.1.2.1] at this
  exact this
end
def sO (f i:Nat):Stmt:=(aO f).getD i default
theorem fb845:FB 845:=⟨λP=>⟨ac,by lk⟩,by lk,by lk,by lk,by lk,λP=>by lk,by lk,by lk,by lk⟩
inductive Swps (n:Nat) (l:List Mv) (b:Bool):Prop
 | mk {lo':Lo}{st':St}{e0 e1 e4 e5:List Mv}{f k:Nat}(hf:rR (fO n) (aJ 558) "segment_id" "segment" GC 6 (gU l) 0 (gU l) qM [[],[],[],[],[],[],gU l]=some (lo',st')) (g1:lo' "segments" = some (.list 6)) (g2:lo' "result" = some (.root .reg))
  (gs:st'[0]? = some e0/\st'[1]? = some e1/\st'[4]? = some e4/\st'[5]? = some e5/\st'[6]? = some (gU l)) (gn:e0.all om=true/\e1.all om=true/\e4.all om=true/\e5.all om=true)
  (hn:kC (fO n) n f (k+1) tG (.head xl xk [e0,e1,iC l.length,iC l.length,e4,e5,[]])=some b)
structure Hm (n:Nat) (l:List Mv) (b:Bool):Prop where
 len:3<=l.length/\l.length<=1000
 pts:l.all tR=true
 run:∃ q,BB n l=some q/\bif q then Swps n l b else b=true
structure CsF (cx c:Addr) (outs:List (Env×Scope×Lo)) (e:Addr) (L:List Addr) (h:Heap):Prop where
 icx:cL h cx 369 []
 cell:gq h c (some (.ref cx))
 ht:∀ a∈eP,∃ ps,h.get? a=some (fv ps)
 tb6:gB h 613 ny qQ
 tb8:gB h 840 vd qI
 out:∀ x∈outs,wP L h x/\x.1.locals≠e
structure EQ (w:World) (ab:Heap) (R0:aD) (L:List Addr) (vl ct cx:Addr) (l:List Mv) (h:Heap):Prop where
 D:Wd w ab R0 [l] L h
 cells:R0.cells=[vl]
 live:R0.live=false
 ct:cL h ct 329 [("vertices",.ref vl)]
 cx:cL h cx 369 []
 no:∀ a∈eP,ab.get? a=ac
 ht:∀ a∈eP,∃ ps,h.get? a=some (fv ps)
 tb6:gB h 613 ny qQ
 tb8:gB h 840 vd qI
section
variable {hA:Heap}{n:Nat}{w:World}{s:ae}{R:aD}{L S:List Addr}{vl ct cx c e:Addr}{l:List Mv}{st:St}{outs:List (Env×Scope×Lo)}{b:Bool}{env:Env}
theorem CsF.pg (D:Wd w ab R st L h)(P:Pg [e] R L h h')(x:CsF cx c outs e L h):CsF cx c outs e L h':=by
 have cl:=D.cl
 have sub:Sb (bJ h (R.cells++L)) h':=λb o q =>
  have nq:b∉R.cells++L:=λz=>nomatch (dX _ z).symm.trans q
  P.old b o (λz=>nq (bC _ z)) (λz=>nq (aF _ z)) (di _ q)
 exact ⟨(x.icx.hide cl).ext sub,let ⟨sl,q⟩:=x.cell;⟨sl,sub _ _ (aU _ q (lM cl q (by simp) (by simp)))⟩,λa ha=>let ⟨ps,q⟩:=x.ht a ha;⟨ps,sub _ _ (aU _ q (gh cl q ⟨_,rfl⟩))⟩,
  (x.tb6.hide cl).ext sub,(x.tb8.hide cl).ext sub,λy hy=>let ⟨⟨l,⟨m,f,k⟩,r⟩,n⟩:=x.out y hy;⟨⟨l,⟨m,f.pg D P (λq=>n (ah.mp q)),k⟩,r⟩,n⟩⟩
theorem Pg.ext (k:Sb h h'):Pg S R L h h':=⟨λb o _ _=>k b o,.ext k⟩
theorem Pg.drop {a:Addr}(fr:h.get? a=ac)(kp:Sb h hA)(P:Pg [a] R (a :: L) hA h'):Pg [] R L h h':=
 have ne:∀ {b:Addr}{o:Obj},h.get? b=some o->b≠a:=λ{b o} q z=>by rw [z,fr] at q;exact ns q
 ⟨λb o n1 n2 q=>P.old b o n1 (λz=>(aq.mp z).elim (ne q) n2) (kp b o q),λb o n q nf=>P.keep b o (λz=>(aq.mp z).elim (ne q) n) (kp b o q) nf⟩
theorem xt (l:List Mv):(gU l).all wu=true:=bj.mpr λx hx=>bg (gj.mp hx) λ_ _ q=>q▸rfl
abbrev Hx:Lo:=put (put (λ_=>ac) "contour" (.contour 0)) "vertices" (.list 0)
theorem t_len (hz:3<=l.length/\l.length<=1000):nk (fO (n+3)) (aJ 845) (sO 845 2) Hx [l]=some (.next,Hx,[l]):=by
 have hbi:bi "len" [.list 0] [l]=some (.int l.length):=by
  have:bi "len" [.list 0] [l]=dS (decide (l.length<=1000000)) (some (Mv.int l.length)):=by lk
  rw [this,decide_eq_true (au hz.2 (by decide))];rfl
 have e:nk (fO (n+3)) (aJ 845) (sO 845 2) Hx [l]=gD (fe ((bi "len" [.list 0] [l]).bind λv=>rv v [l]) λa st=>kD (fO (n+2)) .Lt a (.int 3) st) λc st=>bif c then (fO (n+3)).s (aJ 845) (xw [default,sO 845 2]).2.2.1 Hx st else some (.next,Hx,st):=by lk
 rw [e,hbi]
 have k:=decide_eq_false (Int.not_lt.mpr (Int.ofNat_le.mpr hz.1))
 exact (congrArg (λb=>gD (some (b,[l])) _) k).trans rfl
section
variable {r bb:List Stmt}{Q:Flow->ae->Prop}{x:Stmt}{lo:Lo}
theorem B7 (D:Wd w ab R st L s.heap)(O:Ok n A)(F:Fs L A)(T:iU A env)(Fx:bZ env sc s.heap m)(Lo:ci R s.heap lo m)(hf:nk (fO n) sc x lo st=some (.next,lo',st'))
  (hQ:∀ h' t' m',Wd w ab R st' L h'->Pg [env.locals] R L s.heap h'->bZ env sc h' m'->ci R h' lo' m'->wpAny (Mq pg w) A (execs r env) Q E (up s h' t')):wpAny (Mq pg w) A (execs (x :: r) env) Q E s:=
 aK (Hv D O F T Fx Lo hf nofun λh' t' m' fl D P Fx Lo hfl=>by cases fl<;>first | exact hfl.elim | exact hQ h' t' m' D P Fx Lo)
theorem cs_if {p1 p2 p3 p4 p5 p6 p7:Pos}{k:Nat}(cells:R.cells=[vl])(live:R.live=false)(D:Wd w ab R [l] L s.heap)(F:bZ env (aJ 845) s.heap m)(hv:m "vertices" = some (.ref vl))(O:Ok (n+1) A)(Fr:Fs L A)(hq:BB n l=some b)
  (h:∀ h' t',Wd w ab R [l] L h'->Pg [] R L s.heap h'->bif b then wpAny (Mq pg w) A (execs r env) Q E (up s h' t') else Q (.ret (.bool true)) (up s h' t')) :
  wpAny (Mq pg w) A (execs (.If (.UnaryOp .Not (.Call (.Name "all_unique" p1) [.Name "vertices" p2] [] p3) p4) [.Return (some (.Constant (.bool true) k p5)) p6] [] p7 :: r) env) Q E s:=by
 refine aK (wpAny_If (isTrue_not (isTrue_plain (aN (cj (wm (s:=ng s) (v:=.ref 28) F D.G D.old ⟨rfl,?_⟩))))))
 refine cw (am (cj (hU (s:=ng s) F hv ⟨rfl,az ⟨wn (D.G.X.keeps D.old) (by lk),bw (ze cells live D O Fr hq λh5 t5 D5 P5=>cH ?_)⟩⟩)))
 cases b with
 | false=>exact aK (cV (iO (h h5 t5 D5 P5)))
 | true=>exact fi (h h5 t5 D5 P5)
theorem C5 {p1 p2 p3 p4 p5 p6:Pos}{kv:Nat}(hline:(p3.endLine == p5.line)=true)(D:Wd w ab R [l] L s.heap)(F:bZ env (aJ 845) s.heap m)(hm:m "contour" = some (.ref ct))(hcl:env.cells=[(("context" : Str),c)])(x:CsF cx c outs e L s.heap)(ict:cL s.heap ct 329 [("vertices",.ref vl)])(O:Ok (n+1) A)(Fr:Fs L A)(T:iU A env)(ev:IsL s.heap vl us.toArray kv)(alv:bz (V R s.heap) l us)(hz:l.length<=1000)(pts:l.all tR=true)
  (h:∀ h1 h' t' m' sl vs,s.heap.get? sl=ac->PL h1 sl (br vs)->bz (V R h1) (gU l) vs->Wd w ab R [l] L h1->Wd w ab R [l] L h'->(Sb s.heap h1)->Pg [env.locals] R L h1 h'->bZ env (aJ 845) h' m'->ci R h' (put (λ_=>ac) "segments" (.addr sl)) m'->wpAny (Mq pg w) A (execs r env) Q E (up s h' t')) :
  wpAny (Mq pg w) A (execs (.Assign [.Name "segments" p1] (.Call (.Attribute (.Name "context" p2) "contour_segments" p3) [.Name "contour" p4] [] p5) p6 :: r) env) Q E s:=by
 have X:=D.G.X.keeps D.old
 have O0:=O.le (aW n)
 refine cB x.icx.at λoxc odc Ic gc=>?_
 have hlen:us.length<=1000:=alv.length▸hz
 refine aK (cJ (nh hline (cj (ldC (s:=ng s) F (by rw [hcl];rfl) x.cell ⟨rfl,λpl=>?_⟩))) (by rfl))
 refine cj (method_fn (s:=ng s) (f:=352) X Ic (by lk) (by lk) (by lk) (by lk) (by show (lookIn _ odc).map _=_;rw [gc];rfl) ⟨rfl,?_⟩)
 refine cj (cw (am (hU (s:=ng s) F hm (az ⟨wn X (by lk),Gj (s:=ng s) (X:=vl) (us:=us) (R:=R) D.G D.old O.handled O.d3 ict ev hlen alv pts λh6 t6 sl vs k6 nsl isl alS=>⟨rfl,?_⟩⟩))))
 have D6:=D.ext k6
 exact jX (n:=n) (s:=(up s h6 t6)) (v:=.addr sl) D6 O0 Fr T (F.keep (C:=[]) (.ext k6) nofun) (mU (R:=R)) (by lk) (.addr sl) λh7 t7 m7 D7 P7 F7 L7=>h h6 h7 t7 m7 sl vs nsl isl alS D6 D7 k6 P7 F7 L7
end
theorem AK:∃ (p:Nat->Pos) (k1 k2:Nat),aO 845=[sO 845 0,sO 845 1,sO 845 2,.If (.UnaryOp .Not (.Call (.Name "all_unique" (p 0)) [.Name "vertices" (p 1)] [] (p 2)) (p 3)) [.Return (some (.Constant (.bool true) k1 (p 4))) (p 5)] [] (p 6),
  .Assign [.Name "segments" (p 7)] (.Call (.Attribute (.Name "context" (p 8)) "contour_segments" (p 9)) [.Name "contour" (p 10)] [] (p 11)) (p 12),sO 845 5,
  .For (.Name "intersection" qy) (.Call (.Name "sweep" (p 13)) [.Name "segments" (p 14),.Attribute (.Name "context" (p 15)) "angle_orientation" (p 16),jY] [] (p 17)) EF [] (p 18),.Return (some (.Constant (.bool false) k2 (p 19))) (p 20)]/\((p 9).endLine == (p 11).line)=true:=
 ⟨λi=>([_,_,_,_,_,_,_,_,_,_,_,_,_,_,_,_,_,_,_,_,_]:List Pos).getD i default,_,_,by with_unfolding_all rfl,by decide⟩
def jv:Nat->Pos:=AK.choose
def k845:Nat:=AK.choose_spec.choose
def j845:Nat:=AK.choose_spec.choose_spec.choose
theorem csi_b:aO 845=[sO 845 0,sO 845 1,sO 845 2,.If (.UnaryOp .Not (.Call (.Name "all_unique" (jv 0)) [.Name "vertices" (jv 1)] [] (jv 2)) (jv 3)) [.Return (some (.Constant (.bool true) k845 (jv 4))) (jv 5)] [] (jv 6),
  .Assign [.Name "segments" (jv 7)] (.Call (.Attribute (.Name "context" (jv 8)) "contour_segments" (jv 9)) [.Name "contour" (jv 10)] [] (jv 11)) (jv 12),sO 845 5,
  .For (.Name "intersection" qy) (.Call (.Name "sweep" (jv 13)) [.Name "segments" (jv 14),.Attribute (.Name "context" (jv 15)) "angle_orientation" (jv 16),jY] [] (jv 17)) EF [] (jv 18),.Return (some (.Constant (.bool false) j845 (jv 19))) (jv 20)]:=AK.choose_spec.choose_spec.choose_spec.1
theorem csi_l:((jv 9).endLine == (jv 11).line)=true:=AK.choose_spec.choose_spec.choose_spec.2
theorem q_csi (p:EQ w ab R0 L vl ct cx l s.heap)(calm:∀ (i:Nat) x,s.gens[i]? = some x->iJ x)(hO:∀ x∈outs,wP L s.heap x)(hfr:∃ outer,A.frames=some outer/\∀ e∈outer,∃ x∈outs,e=x.1)(O:Ok (n+3+12) A)(Fr:Fs L A)(ok:Hm (n+3) l b)
  (h:(∀ h' t',Wd w ab R0 [l] L h'->Pg [] R0 L s.heap h'->b=true->RR (.ok (.ret (.bool b))) (up s h' t'))/\∀ aaf W s',xU w aaf W s'->W.outs=outs/\W.os=s.os->Grd (R0.cells++L) s.heap aaf->RR (.ok (.ret (.bool b))) s') :
  bY (Mq pg w) A (.call (.ref 845) ⟨[.ref ct],[("context",.ref cx)]⟩) RR s:=by
 refine wf (qg fb845 (x:="context") (p.D.G.X.keeps p.D.old) (p.D.G.nolimit p.D.old) O.d0 (binds:=[("contour",.ref ct),("context",.ref cx)]) (dU (by lk)) (λn=>by lk) (λh=>by lk) (by lk) (by
  intro y hy hn
  rcases aq.mp hy with rfl | hy
  ·lk
  rcases ah.mp hy with rfl
  exact absurd rfl hn) λhA tA env F hloc hcl hcode hqual hcell kp=>rD ?_)
 rw [csi_b]
 have m1:(λy=>(([("contour",.ref ct),("context",.ref cx)]:List (Str×Value)).filter (λb=>!(b.1 == ("context" : Str)))).reverse.lookup y) "contour" = some (.ref ct):=by lk
 generalize (λy=>(([("contour",.ref ct),("context",.ref cx)]:List (Str×Value)).filter (λb=>!(b.1 == ("context" : Str)))).reverse.lookup y)=m at F m1
 have hcc:gq hA (s.heap.objs.size+1) (some (.ref cx)):=hcell
 have fr:s.heap.get? env.locals=ac:=aB (Nat.le_of_eq hloc.symm)
 have D1:Wd w ab R0 [l] (env.locals :: L) hA:=(p.D.ext kp).wider (by
  cases q:ab.get? env.locals with
  | none=>rfl
  | some o=>exact nomatch fr.symm.trans (p.D.old _ _ q)) F.fr
 obtain ⟨Fr1,T1⟩:=oA Fr F
 have O1:Ok (n+3+11) (A.deeper env):=lW O
 have v0:R0.cells[0]? = some vl:=by rw [p.cells];rfl
 have x1:CsF cx (s.heap.objs.size+1) outs env.locals (env.locals :: L) hA:=⟨p.cx.ext kp,hcc,λa ha=>let ⟨ps,e⟩:=p.ht a ha;⟨ps,kp _ _ e⟩,p.tb6.ext kp,p.tb8.ext kp,λx hx =>
  let ⟨l,⟨m,f,k⟩,r⟩:=hO x hx
  ⟨⟨.tail _ l,⟨m,f.keep (C:=[]) (.ext kp) nofun,k⟩,r⟩,λq=>by refine bg (p.D.frames _ l) λo e _=>?_;rw [q,fr] at e;exact ns e⟩⟩
 refine B7 (n:=n+3) (s:=(up s hA tA)) (st':=[l]) (lo':=put (λ_=>ac) "contour" (.contour 0)) D1 O1.dn Fr1 T1 F (th mU m1 (.contour v0 (p.ct.ext kp))) (by lk) λh2 t2 m2 D2 P2 F2 L2=>?_
 refine B7 (n:=n+3) (s:=(up s h2 t2)) (st':=[l]) (lo':=Hx) D2 O1.dn Fr1 T1 F2 L2 (by lk) λh3 t3 m3 D3 P3 F3 L3=>?_
 refine B7 (n:=n+3) (s:=(up s h3 t3)) D3 O1.dn Fr1 T1 F3 L3 (t_len ok.len) λh4 t4 m4 D4 P4 F4 L4=>?_
 refine bg (L4 "vertices" (.list 0) rfl) λu4 hu4 hv4=>?_
 have:=hv4.listI v0;subst this
 refine bg ok.run λbq hq hrun=>?_
 refine cs_if (n:=n+3) (s:=(up s h4 t4)) p.cells p.live D4 F4 hu4 (Ok.dn (k:=n+3+1) (j:=10) O1) Fr1 hq λh5 t5 D5 P5=>?_
 have P15:=((P2.trans P3).trans P4).trans P5.to1
 cases bq with
 | false =>
  exact (show b=true from hrun)▸h.1 h5 t5 ⟨p.D.G,D5.old,p.D.off,(λe=>nomatch p.live.symm.trans e),D5.hs,λa ha=>D5.frames a (.tail _ ha)⟩ (P15.drop fr kp) hrun
 | true =>
  have x5:=x1.pg D1 P15
  have F5:=F4.pg D4 P5 nofun
  refine bg (L4.pg D4 P5 nofun "contour" (.contour 0) (by lk)) λuc huc hvc=>?_
  cases hvc with | mk e5 i5 =>
  rw [v0] at e5;cases e5
  refine cB (D5.inv.cell v0 (rfl)) λus kv ev alv=>?_
  refine C5 (n:=n+3) (s:=(up s h5 t5)) csi_l D5 F5 huc hcl x5 i5 (Ok.dn (k:=n+3+1) (j:=10) O1) Fr1 T1 ev alv ok.len.2 ok.pts λh6 h7 t7 m7 sl vs nsl isl alS D6 D7 k6 P7 F7 L7=>?_
  refine B7 (n:=n+3) (s:=(up s h7 t7)) (st':=[l]) (lo':=put (put (λ_=>ac) "segments" (.addr sl)) "previous" .none) D7 O1.dn Fr1 T1 F7 L7 (by lk) λh8 t8 m8 D8 P8 F8 L8=>?_
  have P68:=P7.trans P8
  have x8:=(x5.pg D5 (.ext k6)).pg D6 P68
  have P18:=(P15.trans (.ext k6)).trans P68
  refine bg (L8 "segments" (.addr sl) (by lk)) λ_ hs8 hvs=>?_
  refine bg (L8 "previous" .none (by lk)) λ_ hp8 hvp=>?_
  subst hvs
  subst hvp
  have nslC:sl∉R0.cells++env.locals :: L:=λq=>by
   refine bg (D5.cl sl q) λo e _=>?_
   exact nomatch nsl.symm.trans e
  obtain ⟨ks,isl⟩:=isl
  refine bg hfr λouter hfr hout=>?_
  cases hrun with | mk hf g1 g2 gs gn hn =>
  refine aK (xd (n:=n+2) (outs:=outs) (s:=(up s h8 t8)) (cx:=cx) (L:=L) (segs:=gU l) (b:=b) D8 F8 hs8 hp8 hcl x8.cell (hcode.trans (by lk)) (by rw [hqual];lk)
   p.no x8.ht x8.tb6 x8.tb8 ⟨vs,ks,P68.old _ _ (λq=>nslC (bC _ q)) (λq=>nslC (aF _ q)) isl,alS.imp λ_ _ y=>y.keep P68.keep (λc hc=>D6.cl c ((aL.mp hc).elim (λq=>aF _ (ah.mp q▸.head _)) (bC _))) (.refl h6 R0)⟩ ⟨xt l,by rw [v9];exact ok.len.2⟩ ?_ (λq=>nslC (bC _ q)) x8.icx calm
   (λx hx=>let ⟨⟨_,y⟩,n⟩:=x8.out x hx;⟨⟨(hO x hx).1,y⟩,n⟩) ⟨outer,by show A.frames.map (env :: ·)=_;rw [hfr];rfl,hout⟩ (Ok.dn (k:=n+2+1+10) (j:=1) O1) Fr1 hf g1 g2 gs gn (by rw [v9];exact hn) λaaf W s' fin wo g=>?_)
  ·cases q:ab.get? sl with
   | none=>rfl
   | some o=>exact nomatch nsl.symm.trans (D5.old _ _ q)
  ·have z:RR (.ok (.ret (.bool b))) s':=by
    refine h.2 aaf W s' fin wo ⟨λb o nX nT e=>g.old b o (λq=>(aq.mp q).elim (λq=>?_) λq=>(aq.mp q).elim (λq=>by rw [q,fr] at e;exact ns e) λz=>nX (aF _ z)) nT
    ((P18.drop fr kp).old b o (λz=>nX (bC _ z)) (λz=>nX (aF _ z)) e),g.tb6,g.tb8,g.ht⟩
    have:=(P15.drop fr kp).old b o (λz=>nX (bC _ z)) (λz=>nX (aF _ z)) e
    rw [q] at this
    exact nomatch nsl.symm.trans this
   exact ⟨z,λbf=>aK (cV (iO (bf▸z)))⟩
end
noncomputable def DY (p:Int×Int):Mv:=.pt (false,p)
noncomputable def cdM (p:Int×Int):Mv:=.pt (true,p)
noncomputable def GX (n:Nat)(l r:Int)(f g:Nat->Int):List (Int×Int):=(0,5040 * l) :: ((bn n).map (λk=>((5040 * (k+1:Nat):Int),5040 * f k))++((5040 * (n+1:Nat):Int),5040 * r) :: ((bn n).map λk=>((5040 * (k+1:Nat):Int),5040 * g k)).reverse)
abbrev Bs:=Bool×Bool
noncomputable def rk (k:Nat)(b:Bool):Int×Int:=(Int.ofNat (2 * k),bif b then 1 else 0)
def cdn (n:Nat)(u v:Nat->Bool):List (Int×Int):=rk 0 false :: ((bn n).map (λk=>rk (k+1) (u k))++rk (n+1) false :: ((bn n).map λk=>rk (k+1) (v k)).reverse)
def EH (p:List Bs):List Mv:=(cdn p.length (λk=>(p.getD k default).1) λk=>(p.getD k default).2).map cdM
structure Hn (l r:Int) (f g:Nat->Int):Prop where
 l:0<=l/\l<=4
 r:0<=r/\r<=4
 f:∀ k,0<=f k/\f k<=4
 g:∀ k,0<=g k/\g k<=4
noncomputable def oF (n:Nat)(l r:Int)(f g:Nat->Int)(k:Int):Int×Int:=if 1<=k/\k<=n then (f (k - 1).toNat,g (k - 1).toNat) else if k<=0 then (l,l) else (r,r)
noncomputable def eB (p:Int×Int):Int:=min p.1 p.2
noncomputable def Hr (p:Int×Int):Int:=max (max p.1 p.2) (min p.1 p.2+1)
section
variable {n:Nat}{l r:Int}{f g:Nat->Int}
theorem wF (R:Hn l r f g)(k:Int):(0<=(oF n l r f g k).1/\(oF n l r f g k).1<=4)/\0<=(oF n l r f g k).2/\(oF n l r f g k).2<=4:=by
 unfold oF
 by_cases h:1<=k/\k<=n
 ·rw [if_pos h];exact ⟨R.f _,R.g _⟩
 ·rw [if_neg h]
  by_cases h':k<=0
  ·rw [if_pos h'];exact ⟨R.l,R.l⟩
  ·rw [if_neg h'];exact ⟨R.r,R.r⟩
def Gy (n:Nat)(R:Hn l r f g):Hp:=⟨λk=>eB (oF n l r f g k),λk=>Hr (oF n l r f g k),
 λk=>have z:=wF (n:=n) R k;⟨Int.le_min.mpr ⟨z.1.1,z.2.1⟩,Int.le_trans (Int.min_le_left _ _) (Int.le_trans z.1.2 (by decide))⟩,
 λk=>have z:=wF (n:=n) R k;⟨Int.le_trans z.1.1 (Int.le_trans (Int.le_max_left _ _) (Int.le_max_left _ _)),Int.max_le.mpr ⟨Int.max_le.mpr ⟨Int.le_trans z.1.2 (by decide),Int.le_trans z.2.2 (by decide)⟩,Int.add_le_add_right (Int.le_trans (Int.min_le_left _ _) z.1.2) 1⟩⟩,
 λk=>Int.lt_of_lt_of_le (Int.lt_succ _) (Int.le_max_right _ _)⟩
theorem En {a b:Int}:a=bif decide (b < a) then Hr (a,b) else eB (a,b):=by
 unfold Hr eB
 by_cases h:b < a
 ·rw [decide_eq_true h]
  show a=max (max a b) (min a b+1)
  rw [Int.max_eq_left (Int.le_of_lt h),Int.min_eq_right (Int.le_of_lt h)]
  exact (Int.max_eq_left h).symm
 ·rw [decide_eq_false h]
  exact (Int.min_eq_left (Int.not_lt.mp h)).symm
theorem lo_hi {a b:Int}:b=bif decide (a < b) then Hr (a,b) else eB (a,b):=by
 have z:=En (a:=b) (b:=a)
 unfold Hr eB at z ⊢
 rw [Int.max_comm a b,Int.min_comm a b]
 exact z
theorem cP_rk {k:Nat}{b:Bool}:cP H (rk k b)=(5040 * (k:Int),5040 * bif b then H.U k else H.L k):=by
 have e:(Int.ofNat (2 * k)) % 2=0:=Int.mul_emod_right 2 k
 have d:(Int.ofNat (2 * k)) / 2=(k:Int):=Int.mul_ediv_cancel_left (a:=2) k (by decide)
 cases b with
 | true=>exact (rk1 e rfl).trans (by rw [d];rfl)
 | false=>exact (rk0 e rfl).trans (by rw [d];rfl)
theorem AS {k:Nat}(h:k < n):oF n l r f g (k+1:Nat)=(f k,g k):=by
 have z:(1:Int)<=(k+1:Nat)/\((k+1:Nat):Int)<=n:=⟨Int.ofNat_le.mpr (Nat.succ_le_succ (dB k)),Int.ofNat_le.mpr h⟩
 unfold oF
 rw [if_pos z,show (((k+1:Nat):Int) - 1).toNat=k from congrArg Int.toNat (Int.add_sub_cancel (k:Int) 1)]
theorem GW (R:Hn l r f g){u v:Nat->Bool}(hu:∀ k,k < n->u k=decide (g k < f k))(hv:∀ k,k < n->v k=decide (f k < g k)):(cdn n u v).map (cP (Gy n R))=GX n l r f g:=by
 have one:∀ {k:Nat}{b:Bool}{x:Int},(x=bif b then Hr (oF n l r f g k) else eB (oF n l r f g k))->cP (Gy n R) (rk k b)=(5040 * (k:Int),5040 * x):=λe=>cP_rk.trans (congrArg (λx=>(_,5040 * x)) e.symm)
 have ap:∀ {a b c d:Int×Int}{x y z w:List (Int×Int)},a=b->x=y->c=d->z=w->a :: (x++c :: z)=b :: (y++d :: w):=by rintro _ _ _ _ _ _ _ _ rfl rfl rfl rfl;rfl
 unfold cdn GX
 rw [List.map_cons,db,List.map_cons,eL,List.map_reverse,eL]
 refine ap (one ?_) (List.map_congr_left λk hk=>?_) (one ?_) (congrArg List.reverse (List.map_congr_left λk hk=>?_))
 ·have e:oF n l r f g (0:Nat)=(l,l):=(if_neg λz=>absurd z.1 (by decide)).trans (if_pos (Int.le_refl _))
  rw [e];exact (Int.min_self l).symm
 ·have hk:=xT.mp hk
  refine one ?_
  rw [hu k hk,AS hk];exact En
 ·have e:oF n l r f g (n+1:Nat)=(r,r):=(if_neg λz=>absurd (Int.ofNat_le.mp z.2) (Nat.not_succ_le_self n)).trans (if_neg λz=>absurd (Int.ofNat_le.mp z) (Nat.not_succ_le_zero n))
  rw [e];exact (Int.min_self r).symm
 ·have hk:=xT.mp hk
  refine one ?_
  rw [hv k hk,AS hk];exact lo_hi
end
def rW (st:St)(i:Nat):Bool:=(st[i]?).any λe=>e.all om
def Ec (l:List Mv)(b:Bool)(p:Lo×St):Bool:=(p.1 "segments").any (λv=>mV v 6) && ((p.1 "result").any (λv=>xu v .reg) && (oN 6 (gU l) p.2 && (rW p.2 0 && (rW p.2 1 && (rW p.2 4 && (rW p.2 5 &&
 (kC (fO 80) 80 60 60 tG (.head xl xk [p.2[0]?.getD [],p.2[1]?.getD [],iC l.length,iC l.length,p.2[4]?.getD [],p.2[5]?.getD [],[]])).any (· == b)))))))
def wy (l:List Mv)(b:Bool):Bool:=(rR (fO 80) (aJ 558) "segment_id" "segment" GC 6 (gU l) 0 (gU l) qM [[],[],[],[],[],[],gU l]).any (Ec l b)
noncomputable def FD (p:List Bs):Bool:=decide ((p.filter (·.2)).length < p.length) && decide ((p.filter (·.1)).length < p.length)
def Eu (l:List Mv)(b:Bool):Bool:=decide (3<=l.length/\l.length<=1000) && (l.all tR && (BB 80 l).any λq=>bif q then wy l b else b)
def oz (p:List Bs):Bool:=Eu (EH p) (FD p)
theorem BG {l:List Mv}{b:Bool}(h:wy l b=true):Swps 80 l b:=by
 refine bg (iT h) λq eq hq=>?_
 obtain ⟨lo,st⟩:=q
 unfold Ec at hq
 refine bR hq λg1 hq=>bR hq λg2 hq=>bR hq λg3 hq=>bR hq λg4 hq=>bR hq λg5 hq=>bR hq λg6 hq=>bR hq λg7 hq=>?_
 refine bg (iT g1) λv ev hv=>bg (iT g2) λw ew hw=>bg (iT g4) λx0 a0 d0=>bg (iT g5) λx1 a1 d1=>bg (iT g6) λx4 a4 d4=>bg (iT g7) λx5 a5 d5=>bg (iT hq) λc ec hc=>?_
 dsimp only at ec a0 a1 a4 a5
 rw [a0,a1,a4,a5] at ec
 exact .mk (f:=60) (k:=59) eq (ev.trans (congrArg some (fQ (eq_of_beq hv)))) (ew.trans (congrArg some (io (eq_of_beq hw)))) ⟨a0,a1,a4,a5,nG g3⟩ ⟨d0,d1,d4,d5⟩ (ec.trans (congrArg some (eq_of_beq hc)))
theorem BV {l:List Mv}{b:Bool}(h:Eu l b=true):Hm 80 l b:=bR h λh1 h=>bR h λh2 h=>bg (iT h) λq e h=>⟨of_decide_eq_true h1,h2,q,e,by
 cases q with
 | true=>exact BG h
 | false=>exact h⟩
noncomputable def jE (n:Nat):(List Bs->Bool)->Bool:=Nat.rec (motive:=λ_=>(List Bs->Bool)->Bool) (λf=>f []) (λ_ ih f=>ih (λl=>f ((false,true) :: l)) && (ih (λl=>f ((true,false) :: l)) && ih (λl=>f ((false,false) :: l)))) n
theorem r7 {n:Nat}{f:List Bs->Bool}(h:jE n (λl=>f ((false,true) :: l))=true)(h':jE n (λl=>f ((true,false) :: l))=true)(k:jE n (λl=>f ((false,false) :: l))=true):jE (n+1) f=true:=by
 show (jE n (λl=>f ((false,true) :: l)) && (jE n (λl=>f ((true,false) :: l)) && jE n (λl=>f ((false,false) :: l))))=true
 rw [h,h',k];rfl
theorem Dx {n:Nat}:∀ {f:List Bs->Bool}{p:List Bs},jE n f=true->p.length=n->(∀ c∈p,(c.1 && c.2)=false)->f p=true:=by
 induction n with
 | zero=>exact λh e _=>List.length_eq_zero_iff.mp e▸h
 | succ n ih =>
  intro f p h e k
  cases p with
  | nil=>cases e
  | cons c p =>
   obtain ⟨a,b⟩:=c
   have z:(a && b)=false:=k _ (.head _)
   have go:∀ {c:Bs},jE n (λl=>f (c :: l))=true->f (c :: p)=true:=λq=>ih (f:=λl=>f (_ :: l)) q (Nat.succ.inj e) λc hc=>k c (.tail _ hc)
   refine bR h λh1 h=>bR h λh2 h3=>?_
   cases a with
   | true=>cases b with
    | true=>cases z
    | false=>exact go h2
   | false=>cases b with
    | true=>exact go h1
    | false=>exact go h3
theorem four {n:Nat}(h1:1<=n)(h4:n<=4):n=1\/n=2\/n=3\/n=4:=(by decide:∀ k:Fin 5,1<=k.val->k.val=1\/k.val=2\/k.val=3\/k.val=4) ⟨n,Nat.lt_succ_of_le h4⟩ h1
section
set_option maxHeartbeats 10000000
theorem ra:jE 1 oz=true:=by lk
theorem rb:jE 2 oz=true:=by lk
theorem rc:jE 2 (λl=>oz ((false,true) :: l))=true:=by lk
theorem rd:jE 2 (λl=>oz ((true,false) :: l))=true:=by lk
theorem re:jE 2 (λl=>oz ((false,false) :: l))=true:=by lk
theorem rf:jE 2 (λl=>oz ((false,true) :: (false,true) :: l))=true:=by lk
theorem rg:jE 2 (λl=>oz ((false,true) :: (true,false) :: l))=true:=by lk
theorem rh:jE 2 (λl=>oz ((false,true) :: (false,false) :: l))=true:=by lk
theorem ri:jE 2 (λl=>oz ((true,false) :: (false,true) :: l))=true:=by lk
theorem rj:jE 2 (λl=>oz ((true,false) :: (true,false) :: l))=true:=by lk
theorem rk':jE 2 (λl=>oz ((true,false) :: (false,false) :: l))=true:=by lk
theorem rl:jE 3 (λl=>oz ((false,false) :: l))=true:=by lk
theorem A9 {n:Nat}(h1:1<=n)(h4:n<=4):jE n oz=true:=by
 rcases four h1 h4 with rfl | rfl | rfl | rfl
 ·exact ra
 ·exact rb
 ·exact r7 rc rd re
 ·exact r7 (r7 rf rg rh) (r7 ri rj rk') rl
section
variable {n:Nat}{l r:Int}{f g:Nat->Int}
noncomputable def pN (n:Nat)(f g:Nat->Int):List Bs:=(bn n).map λk=>(decide (g k < f k),decide (f k < g k))
theorem oi:(pN n f g).length=n:=by unfold pN;rw [bW,cR]
theorem qK {k:Nat}(h:k < n):(pN n f g).getD k default=(decide (g k < f k),decide (f k < g k)):=by
 unfold pN
 rw [List.getD_eq_getElem?_getD,jf,List.getElem?_range h];rfl
theorem qL {q:Bs->Bool}:((pN n f g).filter q).length=((bn n).filter λk=>q (decide (g k < f k),decide (f k < g k))).length:=by
 unfold pN
 rw [List.filter_map,bW];rfl
theorem zY (R:Hn l r f g)(h1:1<=n)(h4:n<=4):∃ H cs,(cs.map (mR H)=(GX n l r f g).map DY)/\Hm 80 cs
  (decide (((bn n).filter λk=>decide (f k < g k)).length < n) && decide (((bn n).filter λk=>decide (g k < f k)).length < n)):=by
 have z:=BV (Dx (p:=pN n f g) (A9 h1 h4) oi λc hc=>by
  refine bg (gj.mp hc) λk _ e=>?_
  rw [<- e]
  show (decide (g k < f k) && decide (f k < g k))=false
  by_cases h:f k < g k
  ·rw [decide_eq_false (Int.lt_asymm h:¬ g k < f k)];rfl
  ·rw [decide_eq_false h,Bool.and_false])
 unfold FD at z
 rw [qL,qL,oi] at z
 refine ⟨Gy n R,_,?_,z⟩
 unfold EH
 rw [eL,oi,<- GW R (λk hk=>congrArg Prod.fst (qK hk)) (λk hk=>congrArg Prod.snd (qK hk)),eL]
 rfl
end
end
noncomputable abbrev pm (m:Str->Option Value)(x:Str)(u:Value):Str->Option Value:=λy=>if y=x then some u else m y
def fP (L:Addr)(h h':Heap):Prop:=∀ b o,b≠L->h.get? b=some o->h'.get? b=some o
theorem Ce {α:Type}(l:List α)(a b:Nat):(l.drop (min a l.length)).take (min b l.length - min a l.length)=(l.drop a).take (b - a):=by
 rcases Nat.le_total a l.length with h | h
 ·rw [Nat.min_eq_left h]
  rcases Nat.le_total b l.length with k | k
  ·rw [Nat.min_eq_left k]
  ·rw [Nat.min_eq_right k,List.take_of_length_le (by simp),List.take_of_length_le (by simp;omega)]
 ·rw [Nat.min_eq_right h,List.drop_of_length_le (aQ _),List.drop_of_length_le h,List.take_nil,List.take_nil]
theorem tm (items:List Value)(a b:Nat):slicePick items.toArray (some (a:Int)) (some (b:Int)) none=((items.drop a).take (b - a)).toArray:=by
 rw [slicePick_plain]
 dsimp only [Option.elim]
 rw [clipAt_nat,clipAt_nat]
 exact congrArg br (Ce items a b)
section
variable {w:World}{env:Env}{s:ae}{X:Addr}
theorem uD {M:Model}{x:Str}{u:Value}{Q:Unit->ae->Prop}(F:bZ env sc s.heap m)(hl:sc.names.lookup x=some .local)(h:∀ h' t',bZ env sc h' (pm m x u)->fP env.locals s.heap h'->Q () (up s h' t')):wpAny M A (jz env x u) Q E s:=
 pF (m:=m) (by show env.scope.names.lookup _=_;rw [F.sce];exact hl) (by rw [F.sce];exact F.kind) F.at_ λh' n sb=>h h' _ ⟨F.sce,F.kind,F.gen,F.glob,F.blt,F.frame,n⟩ λb o q e=>sb.extBut b o q e
theorem bZ.up (F:bZ env sc h m)(k:Sb h h'):bZ env sc h' m:=F.keep (C:=[]) (.ext k) nofun
theorem fP.ext (k:Sb h h'){L:Addr}:fP L h h':=λb o _=>k b o
theorem fP.trans {L:Addr}{h2:Heap}(k:fP L h h')(k':fP L h' h2):fP L h h2:=λb o n e=>k' b o n (k b o n e)
theorem PL.up (p:PL h X us.toArray)(k:Sb h h'):PL h' X us.toArray:=let ⟨n,e⟩:=p;⟨n,k _ _ e⟩
theorem PL.T (p:PL h X us.toArray):h.IsList X us.toArray:=let ⟨_,e⟩:=p;eQ e
def Gv (w:World)(A:aw)(E:Value->ae->Prop)(s:ae)(e:Sem Value)(P:Heap->Value->Prop):Prop:=∀ (h0:Heap) (t:Nat) (Q:Value->ae->Prop),(Sb s.heap h0)->(∀ h' t' v,(Sb h0 h')->P h' v->Q v (up s h' t'))->wpAny (Md w) A e Q E (up s h0 t)
theorem pH {P:List Value->Prop}{v:Expr}{lo hi:Option Expr}{a b:Option Int}{p1 p2:Pos}(hv:Gv w A E s (eval v env) λh v=>∃ X us,v=.ref X/\us.length<=1000/\h.IsList X (br us)/\P us)(hl:Gv w A E s (evalPart lo env) λ_ v=>IsPart v a)(hu:Gv w A E s (evalPart hi env) λ_ v=>IsPart v b)
  (h:∀ h' t' D us,P us->(Sb s.heap h')->s.heap.get? D=ac->PL h' D (slicePick us.toArray a b none)->Q (.ref D) (up s h' t')) :
  wpAny (Md w) A (eval (.Subscript v (.Slice lo hi none p1) p2) env) Q E s:=by
 refine ie (hv s.heap s.toks _ (λ_ _ e=>e) λh1 t1 v1 k1 x1=>wpAny_Slice (hl h1 t1 _ k1 λh2 t2 v2 k2 x2=>hu h2 t2 _ (λb o e=>k2 b o (k1 b o e)) λh3 t3 v3 k3 x3=>?_))
 refine C1 x1 λX us e hz pX hP=>?_
 subst e
 rw [evalPart_none]
 have k:Sb s.heap h3:=λb o e=>k3 b o (k2 b o (k1 b o e))
 have pX':=(pX.at λo e=>k3 X o (k2 X o e)).at λo e=>dM { cls:=.type "slice",data:=.fields #[v2,v3,.none] } X o e
 refine aj (jj pX'.typeIs slot_list_getitem.lookup (wpAny_getItem_list_slice pX' (Heap.IsSliceOf.new ..) x2 x3 .none (by decide) ?_ (show us.length<=2 ^ 24 from au hz (by decide))) rfl)
 exact h _ t3 _ us hP (λb o e=>dM _ _ _ (dM _ _ _ (k b o e))) (fS (λb o e=>dM _ _ _ (k b o e)) (aB (aQ _))) ⟨0,ar _ rfl⟩
theorem vr {i:Int}{p:Pos}:Gv w A E s (evalPart (some (.Constant (.int i) 0 p)) env) λ_ v=>IsPart v (some i):=λh0 t Q k q=>bD (k:=0) (pos:=p) (q h0 _ _ (λ_ _ e=>e) (.int _ _))
theorem Aq {x:Str}{u:Value}{p:Pos}(F:bZ env sc s.heap m)(hm:m x=some u)(hl:sc.names.lookup x=some .local)(hd:(x == ("__debug__" : Str))=false){P:Heap->Value->Prop}(hp:∀ h',(Sb s.heap h')->P h' u):Gv w A E s (eval (.Name x p) env) P:=λh0 t Q k q=>hU (s:=up s h0 t) (F.up k) hm (q h0 t u (λ_ _ e=>e) (hp h0 k)) hl hd
theorem Bb {l b:Addr}{vs ws:List Value}(hl:PL s.heap l vs.toArray)(hb:PL s.heap b ws.toArray)(hz:vs.length+ws.length<=1000)
  (h:∀ h' D,(Sb s.heap h')->s.heap.get? D=ac->PL h' D (vs++ws).toArray->Q (.ref D) (up s h' s.toks)):wpAny (Md w) A (binaryOp .Add (.ref l) (.ref b)) Q E s:=by
 obtain ⟨n,ho⟩:=hl
 obtain ⟨n2,ho2⟩:=hb
 have e:vs.toArray++ws.toArray=(vs++ws).toArray:=by simp
 refine concat_meets ⟨_,ho,rfl⟩ ⟨_,ho2,rfl⟩ noFill_list_add seq_list_add PySem.F.slot_list_add PySem.F.entry_list_add (PySem.F.args_list_add_2 _ _) (list_addW l b vs.toArray ws.toArray n n2 _ _ _ _ (show vs.length+ws.length<=2 ^ 24 from au hz (by decide))) ⟨ho,ho2,?_⟩
 rw [e]
 exact h _ _ (dM _) (aB (aQ _)) ⟨0,ar _ rfl⟩
theorem EG {p:bF}{G:Nat->List Value->Prop}{elt t1 i1:Expr}{ifs:List Expr}{y:Str}{py spos:Pos}{sc':Scope}{V:Nat->Value->Prop}{Nm:Nat->(Str->Option Value)->Prop}{n:Nat}{cl:List (Str×Addr)}{fpI:Addr->List Addr}{StI:Addr->Nat->Heap->Prop}{Q:Flow->ae->Prop}(F:bZ env sc s.heap m)(hy:sc.names.lookup y=some .local)(hline:(py.line == pos.line)=true)
  (hsc:(sc'.names.all (λx=>!(x.2 == .cell)) && sc'.names.all (λx=>!(x.2 == .local) || sc'.names.lookup x.1 == some .local) && !(sc'.names.any λx=>x.1 == y && (x.2 == .local || x.2 == .cell)))=true) (hkind:sc'.kind=.function) (hclos:cU sc' env=pure cl)
  (hs1:∀ x,ei i1 env x=pure x) (hz:n<=1000) (h00:G 0 [])
  (ha:∀ C it,s.heap.get? C=ac->xW p w A s.heap C it (bQ sc' cl C env) t1 V (StI it) Nm n)
  (he:∀ C D it,s.heap.get? C=ac->s.heap.get? D=ac->s.heap.get? it=ac->it < C->vL p w A s.heap C D it (λk us _=>G k us) (bQ sc' cl C env) ifs elt Nm n)
  (first:∀ (Q':Value->ae->Prop),(∀ h' t' it,uJ p w A s.heap n V (fpI it) (StI it) it h'->Q' (.ref it) (up s h' t'))->wpAny (model p w) A (eval i1 env) (λx s1=>wpAny (model p w) A (pyIter x) Q' E s1) E s)
  (h:∀ h' t' D (us:List Value),bZ env sc h' (pm m y (.ref D))->fP env.locals s.heap h'->PL h' D us.toArray->us.length<=n->G n us->Q .next (up s h' t')) :
  wpAny (model p w) A (exec (.Assign [.Name y py] (.ListComp elt [⟨t1,i1,ifs,0⟩] sc' pos) spos) env) Q E s:=by
 have hs:=bP.mp hsc
 have hs':=bP.mp hs.1
 have hsw:swapsWith (.ListComp elt [⟨t1,i1,ifs,0⟩] sc' pos) (some (.Name y py)) spos.line env=pure true:=by
  show pure (env.blockKind == .function && env.scope.names.lookup y == some .local && py.line == pos.line && !(sc'.names.any λx=>x.1 == y && (x.2 == .local || x.2 == .cell)))=_
  rw [hs.2,hline,show env.blockKind=.function by unfold Env.blockKind;rw [F.sce,F.kind];rfl,F.sce,hy]
  rfl
 rw [exec_Assign_Name_used _ _ _ _ hsw]
 refine ag (bl (ag ?_))
 show wpAny _ A (do let _ <- comprehension (.ListComp elt [⟨t1,i1,ifs,0⟩] sc' pos) sc' env _ (newList []) false (eval i1 env) (some (fy (.Name y py) env))) _ _ s
 refine ag (aR (n5 (use:=some (fy (.Name y py) env)) (Q:=λ_ s'=>Q .next s') rfl hs1 hclos hkind (λx hx e=>by
  have:=bj.mp hs'.2 x hx
  rw [e] at this
  simpa using this) (first _ λhb t it I=>uu (RR:=λacc C=>compPost (model p w) A E (some (fy (.Name y py) env)) (λ_ s'=>Q .next s') acc C) hs'.1 hkind hz (λ_ _ _ _ _ g=>g) (λ_=>h00) I (λC=>ha C it) (λC D=>he C D it) λC D h' t' mm' c0 d0 cd ic=>?_))
  (λ_ s' hq=>aj (aj hq)) λ_ _ e=>e)
 refine dJ F.fr λo eo _ _=>?_
 have fC:C≠env.locals:=λq=>ns (c0.symm.trans (q▸eo))
 have fD:D≠env.locals:=λq=>ns (d0.symm.trans (q▸eo))
 refine assign_Name (uD (s:=up s h' t') (F.up ic.old) hy λh2 t2 F2 k2=>⟨mm',ic.ns.at' λo e=>k2 C o fC e,λh3 sb=>?_⟩)
 refine dJ ic.acc λus hl hk hp=>?_
 have k3:∀ b o,b≠C->h2.get? b=some o->h3.get? b=some o:=λb o n e=>sb.extBut b o n e
 exact h h3 t2 D us (F2.keep (C:=[C]) (λb o n e _=>⟨o.slots,k3 b o (λq=>n (q▸.head _)) e⟩) λq=>fC (ah.mp q).symm) (λb o n e=>k3 b o (λq=>ns (c0.symm.trans (q▸e))) (k2 b o n (ic.old b o e))) (let ⟨n,e⟩:=hl;⟨n,k3 D _ (cb cd) (k2 D _ fD e)⟩) hk hp
noncomputable abbrev lI (i:Int)(p:Pos):Expr:=.Constant (.int i) 0 p
abbrev T0 (p:Nat->Pos):Stmt:=.Assign [.Name "count" (p 0)] (.BinOp (lI 1 (p 1)) .Add (.IfExp (.Name "script" (p 2)) (.BinOp (.Subscript (.Name "script" (p 3)) (lI 0 (p 4)) (p 5)) .Mod (lI 4 (p 6)) (p 7)) (lI 1 (p 8)) (p 9)) (p 10)) (p 11)
def nH (u:Value):Prop:=∃ i t,u=jA i t
theorem w0 {p:Nat->Pos}{Q:Flow->ae->Prop}(F:bZ env (aJ 850) s.heap m)(hm:m "script" = some (.ref X))(hX:s.heap.IsList X us.toArray)(hi:∀ u∈us,nH u)(hz:us.length<=63)
  (h:∀ h' t' (n:Nat) t,1<=n->n<=4->bZ env (aJ 850) h' (pm m "count" (.int n t))->fP env.locals s.heap h'->Q .next (up s h' t')):wpAny (Md w) A (exec (T0 p) env) Q E s:=by
 obtain ⟨hp,g,d,t,os⟩:=s
 have fin:∀ (i:Int) t t1 t2,0<=i->i<=3->wpAny (Md w) A (binaryOp .Add (.int 1 t) (.int i t1)) (λv s1=>wpAny (Md w) A (jz env "count" v) (λ_=>Q .next) E s1) E ⟨hp,g,d,t2,os⟩:=λi t t1 t2 h0 h3=>by
  refine add_int (uD F (by lk) λh' t' F' k=>?_)
  have e:(1+i)=((1+i).toNat:Int):=(Int.toNat_of_nonneg (Int.add_nonneg (by decide) h0)).symm
  rw [e] at F'
  exact h h' t' _ _ ((Int.le_toNat (Int.add_nonneg (by decide) h0)).mpr (Int.le_add_of_nonneg_right h0)) (Int.toNat_le.mpr (Int.add_le_add_left h3 1)) F' k
 refine cJ (dR (bD (wpAny_IfExp (isTrue_plain (hU F hm (wpAny_truthy_list hX (pT (au hz (by decide))) ?_))))))
 cases us with
 | nil=>exact bD (fin 1 _ _ _ (by decide) (by decide))
 | cons u r =>
  refine el21 (hi u (.head _)) λi ti e=>?_
  have e1:∀ (t0:Tok) (Q:Value->ae->Prop) (E:Value->ae->Prop) t',Q (.int i ti) ⟨hp,g,d,t',os⟩->wpAny (Md w) A (getItem (.ref X) (.int 0 t0)) Q E ⟨hp,g,d,t',os⟩:=λt0 Q E t' q=>wpAny_getItem_list (s:=⟨hp,g,d,t',os⟩) hX (Int.le_refl 0) (by decide) (by rw [e];rfl) q
  refine dR (ie (hU F hm (bD (jj hX.typeIs slot_list_getitem.lookup (e1 _ _ _ _ ?_) rfl))))
  refine bD (mod_int (by decide) (fin _ _ _ _ ?_ ?_))
  ·exact Int.fmod_nonneg_of_pos i (by decide)
  ·exact Int.le_of_lt_add_one (Int.fmod_lt_of_pos i (b:=4) (by decide))
end
section
variable {w:World}{env:Env}{s:ae}{X:Addr}
abbrev slS (p:Nat->Pos):Expr:=.Subscript (.Name "script" (p 0)) (.Slice (some (lI 1 (p 1))) (some (lI 11 (p 2))) none (p 3)) (p 4)
abbrev lstS (p:Nat->Pos):Expr:=.List ([(0,5),(0,6),(1,7),(2,8),(3,9),(1,10),(2,11),(0,12),(0,13),(0,14)].map λi:Int×Nat=>lI i.1 (p i.2)) (p 15)
abbrev T1 (p p':Nat->Pos):Stmt:=.Assign [.Name "heights" (p 16)] (.BinOp (slS p) .Add (.Subscript (lstS p) (.Slice (some (.Call (.Name "len" (p 17)) [slS p'] [] (p 18))) none none (p 19)) (p 20)) (p 21)) (p 22)
theorem yN {p:Nat->Pos}(F:bZ env (aJ 850) s.heap m)(hm:m "script" = some (.ref X))(hX:s.heap.IsList X us.toArray)(hz:us.length<=63)
  (h:∀ h' t' D,(Sb s.heap h')->s.heap.get? D=ac->PL h' D ((us.drop 1).take 10).toArray->Q (.ref D) (up s h' t')):wpAny (Md w) A (eval (slS p) env) Q E s:=
 pH (P:=λus'=>us'=us) (a:=some (1:Nat)) (b:=some (11:Nat)) (Aq F hm (by lk) (by lk) λh' k=>⟨X,us,rfl,au hz (by decide),hX.at λo e=>k X o e,rfl⟩) vr vr λh' t' D us' e k n pD=>h h' t' D k n (by rw [e,tm] at pD;exact pD)
theorem CI {p:Nat->Pos}(l:List (Int×Nat)):∀ (s:ae) (Q:List Value->ae->Prop),(∀ t' vs,vs.length=l.length->(∀ u∈vs,nH u)->Q vs (up s s.heap t'))->wpAny (Md w) A (spliced (fm pos (bT (l.map λi=>lI i.1 (p i.2)) env))) Q E s:=by
 induction l with
 | nil=>exact λs Q q=>az (q _ _ rfl λ_ h=>nomatch h)
 | cons a l ih =>
  exact λs Q q=>am (bD (ih _ _ λt' vs e hi=>q t' _ (congrArg Nat.succ e) λu hu=>(aq.mp hu).elim (λe=>⟨_,_,e⟩) (hi u)))
theorem w1 {p p':Nat->Pos}{Q:Flow->ae->Prop}(G:Gd w aa)(bs:Sb aa s.heap)(F:bZ env (aJ 850) s.heap m)(hm:m "script" = some (.ref X))(hX:s.heap.IsList X us.toArray)(hi:∀ u∈us,nH u)(hz:us.length<=63)
  (h:∀ h' t' D us',us'.length=10->(∀ u∈us',nH u)->PL h' D (br us')->bZ env (aJ 850) h' (pm m "heights" (.ref D))->fP env.locals s.heap h'->Q .next (up s h' t')):wpAny (Md w) A (exec (T1 p p') env) Q E s:=by
 have zV:((us.drop 1).take 10).length<=10:=by rw [jG];exact Nat.min_le_left _ _
 refine cJ (dR (yN F hm hX hz λh1 t1 D1 k1 n1 p1=>?_))
 have nl:((us.drop 1).take 10).length<=10:=zV
 refine pH (s:=up s h1 t1) (P:=λus'=>us'.length=10/\∀ u∈us',nH u) (a:=some (((us.drop 1).take 10).length:Nat)) (b:=ac) (λh0 t Q k q=>?_) (λh0 t Q k q=>?_) (λh0 t Q k q=>aj (q h0 t _ (λ_ _ e=>e) .none)) λh2 t2 D2 us2 i2 k2 n2 p2=>?_
 ·exact mK (CI _ _ _ λt' vs e hi=>⟨by show vs.length<=2 ^ 24;rw [e];decide,q _ _ _ (dM _) ⟨_,vs,rfl,by rw [e];decide,eQ (k:=0) (ar _ rfl),e,hi⟩⟩)
 ·refine aN (sy (s:=up s h0 t) (v:=.builtin "len") (F.up λb o e=>k b o (k1 b o e)) G (λb o e=>k b o (k1 b o (bs b o e))) ?_)
  refine cw (am (yN (s:=up s h0 t) (F.up λb o e=>k b o (k1 b o e)) hm (hX.at λo e=>k X o (k1 X o e)) hz λh3 t3 D3 k3 n3 p3=>az ⟨xq,len_list p3.T (pT (au zV (by decide))) ?_⟩))
  have e:(((us.drop 1).take 10).toArray.size:Int)=(((us.drop 1).take 10).length:Nat):=rfl
  rw [e]
  exact q h3 _ _ k3 (.int _ _)
 have e2:slicePick us2.toArray (some (((us.drop 1).take 10).length:Nat)) none none=(us2.drop ((us.drop 1).take 10).length).toArray:=slicePick_from' _ _
 rw [e2] at p2
 have e3:((us.drop 1).take 10).length+(us2.drop ((us.drop 1).take 10).length).length=10:=by rw [List.length_drop,i2.1];omega
 refine Bb (s:=up s h2 t2) (p1.up k2) p2 (by rw [e3];decide) λh3 D3 k3 n3 p3=>?_
 refine uD (s:=up s h3 _) (F.up λb o e=>k3 b o (k2 b o (k1 b o e))) (by lk) λh4 t4 F4 k4=>?_
 refine h h4 t4 D3 _ (by rw [bG];exact e3) (λu hu=>?_) (let ⟨n,e⟩:=p3;⟨n,k4 D3 _ (λq=>?_) e⟩) F4 ((fP.ext λb o e=>k3 b o (k2 b o (k1 b o e))).trans k4)
 ·exact (aL.mp hu).elim (λq=>hi u (List.mem_of_mem_drop (List.mem_of_mem_take q))) λq=>i2.2 u (List.mem_of_mem_drop q)
 ·refine dJ F.fr λo e _ _=>?_
  exact ns (n3.symm.trans (q▸k2 _ _ (k1 _ _ e)))
end
section
variable {w:World}{env cenv:Env}{s:ae}{X C D:Addr}{V:Nat->Value->Prop}{n:Nat}{St:Nat->Heap->Prop}
theorem Az {e:Expr}{Q':Value->ae->Prop}(hh:A.handled=ac)(hv:∀ Q:Value->ae->Prop,Q (.ref X) s->wpAny (Md w) A (eval e env) Q E s)(hX:PL s.heap X us.toArray)
  (h:∀ h' t' it,uJ pg w A s.heap us.toArray.size (λi v=>us.toArray[i]? = some v) [it,X] (λi h=>h.IsListIter it X i/\h.IsList X us.toArray) it h'->Q' (.ref it) (up s h' t')):wpAny (Md w) A (eval e env) (λx s1=>wpAny (Md w) A (pyIter x) Q' E s1) E s:=by
 refine hv _ (wpAny_pyIter_list hX.T ?_)
 have fr:s.heap.get? s.heap.objs.size=ac:=aB (aQ _)
 have ne:X≠s.heap.objs.size:=λq=>by obtain ⟨k,e⟩:=hX;exact ns (fr.symm.trans (q▸e))
 exact h _ _ _ ⟨Walks.list hh _ X ne us.toArray,⟨⟨_,ar _ rfl,rfl,rfl⟩,(hX.up (dM _)).T⟩,fr,by rw [bN];exact cD _,λb hb=>by
  rcases aq.mp hb with q | q
  ·exact .inl q
  ·exact .inr (let ⟨k,e⟩:=hX;⟨_,ah.mp q▸e⟩),dM _⟩
def lo4 (u:Value):Prop:=∃ i t,u=jA i t/\0<=i/\i<=4
def sc2:Scope:=(xZ (se (sO 850 2) 0)).2.2.2
abbrev T2 (p:Nat->Pos):Stmt:=.Assign [.Name "heights" (p 0)] (.ListComp (.BinOp (.Name "number" (p 1)) .Mod (lI 5 (p 2)) (p 3)) [⟨.Name "number" (p 4),.Name "heights" (p 5),[],0⟩] sc2 (p 6)) (p 7)
theorem w2 {p:Nat->Pos}{Q:Flow->ae->Prop}(hh:A.handled=ac)(hline:((p 0).line == (p 6).line)=true)(F:bZ env (aJ 850) s.heap m)(hm:m "heights" = some (.ref X))(hX:PL s.heap X us.toArray)(hi:∀ u∈us,nH u)(hz:us.length=10)
  (h:∀ h' t' D us',us'.length=10->(∀ u∈us',lo4 u)->PL h' D (br us')->bZ env (aJ 850) h' (pm m "heights" (.ref D))->fP env.locals s.heap h'->Q .next (up s h' t')):wpAny (Md w) A (exec (T2 p) env) Q E s:=by
 have sz:us.toArray.size=10:=hz
 refine EG (G:=λk us=>us.length=k/\∀ u∈us,lo4 u) (n:=us.toArray.size) (cl:=[]) F (by lk) hline (by lk) (by lk) (by lk) (λx=>rfl) (by rw [sz];decide) ⟨rfl,nofun⟩ (λC it _=>Du (by show sc2.kind=_;lk) (fa (by lk)) rfl) (λC D it _ _ _ _=>?_) (λQ' q=>Az hh (λQ q=>hU F hm q) hX q) λh' t' D us' F' k' pD hl hg=>?_
 ·intro s' mm j us2 Qt Qe hn _ _ hg hNm hj qt qe
  refine bg hNm λv hv hmv=>?_
  have iv:nH v:=hi v (by rw [ey] at hv;exact fK hv)
  obtain ⟨i,ti,e⟩:=iv
  subst e
  refine wpAny_tests_nil ?_
  rw [if_pos rfl]
  refine dR (cA (bL (by show sc2.kind=_;lk) (fa (by lk)) hn hmv (bD (mod_int (by decide) (qe _ _ _ (λ_ _ e=>e) ⟨(by rw [bG,hg.1];rfl),λu hu=>?_⟩)))))
  rcases aL.mp hu with q | q
  ·exact hg.2 u q
  ·exact ⟨_,_,ah.mp q,Int.fmod_nonneg_of_pos i (by decide),Int.le_of_lt_add_one (Int.fmod_lt_of_pos i (b:=5) (by decide))⟩
 ·exact h h' t' D us' (hg.1.trans sz) hg.2 pD F' k'
end
structure Hq (env:Env) (c1 c2 D1 D2:Addr) (o t:List Value) (h:Heap):Prop where
 ec:env.cells=[(("two" : Str),c2),(("one" : Str),c1)]
 i1:gq h c1 (some (.ref D1))
 i2:gq h c2 (some (.ref D2))
 l1:PL h D1 o.toArray
 l2:PL h D2 t.toArray
section
variable {w:World}{env:Env}{s:ae}{X c1:Addr}{o t:List Value}{n:Nat}
theorem Hq.keep (x:Hq env c1 c2 D1 D2 o t h)(F:bZ env sc h m)(k:fP env.locals h h'):Hq env c1 c2 D1 D2 o t h':=by
 refine dJ F.fr λfo ef cf _=>?_
 have ne:∀ (b:Addr) ob,h.get? b=some ob->ob.cls≠.type "frame"->h'.get? b=some ob:=λb ob e c=>k b ob (λq=>by rw [q,ef] at e;cases e;exact c cf) e
 exact ⟨x.ec,(let ⟨s,e⟩:=x.i1;⟨s,ne _ _ e (by simp [fu])⟩),(let ⟨s,e⟩:=x.i2;⟨s,ne _ _ e (by simp [fu])⟩),(let ⟨s,e⟩:=x.l1;⟨s,ne _ _ e (by simp)⟩),let ⟨s,e⟩:=x.l2;⟨s,ne _ _ e (by simp)⟩⟩
theorem Gz {k:Nat}{p1 p2 p3:Pos}(F:bZ env (aJ 850) s.heap m)(hc:m "count" = some (.int n tn)):Gv w A E s (evalPart (some (.BinOp (lI k p1) .Add (.Name "count" p2) p3)) env) λ_ v=>IsPart v (some ((k+n:Nat):Int)):=λh0 t Q kk q=>by
 show wpAny _ _ (eval (.BinOp (lI k p1) .Add (.Name "count" p2) p3) env) _ _ _
 exact dR (bD (hU (s:=up s h0 _) (F.up kk) hc (add_int (q h0 _ _ (λ_ _ e=>e) (show IsPart _ (some ((k:Int)+(n:Int))) from .int _ _)))))
abbrev hS (k:Nat)(p:Nat->Pos):Expr:=.Subscript (.Name "heights" (p 0)) (.Slice (some (lI k (p 1))) (some (.BinOp (lI k (p 2)) .Add (.Name "count" (p 3)) (p 4))) none (p 5)) (p 6)
abbrev hI (k:Nat)(p:Nat->Pos):Expr:=.Subscript (.Name "heights" (p 0)) (lI k (p 1)) (p 2)
abbrev T3 (p p0 p1 p2 p3:Nat->Pos):Stmt:=.Assign [.Tuple [.Name "left" (p 0),.Name "right" (p 1),.Name "one" (p 2),.Name "two" (p 3)] 0 (p 4)] (.Tuple [hI 0 p0,hI 1 p1,hS 2 p2,hS 6 p3] 0 (p 5)) (p 6)
theorem Es {k:Nat}{p:Nat->Pos}(F:bZ env (aJ 850) s.heap m)(hm:m "heights" = some (.ref X))(hc:m "count" = some (.int n tn))(hX:PL s.heap X us.toArray)(hz:us.length=10)
  (h:∀ h' t' D,(Sb s.heap h')->s.heap.get? D=ac->PL h' D ((us.drop k).take n).toArray->Q (.ref D) (up s h' t')):wpAny (Md w) A (eval (hS k p) env) Q E s:=
 pH (P:=λus'=>us'=us) (a:=some (k:Nat)) (b:=some ((k+n:Nat):Int)) (Aq F hm (by lk) (by lk) λh' k=>⟨X,us,rfl,by rw [hz];decide,(hX.up k).T,rfl⟩) vr (Gz F hc) λh' t' D us' e kk nn pD=>h h' t' D kk nn (by rw [e,tm,Nat.add_sub_cancel_left] at pD;exact pD)
theorem Et {k:Nat}{u:Value}{p:Nat->Pos}(F:bZ env (aJ 850) s.heap m)(hm:m "heights" = some (.ref X))(hX:PL s.heap X us.toArray)(hz:us.length=10)(hu:us[k]? = some u)(h:∀ t',Q u (up s s.heap t')):wpAny (Md w) A (eval (hI k p) env) Q E s:=by
 obtain ⟨kk,hk⟩:=hX
 have lt:k < us.length:=(bu.mp hu).1
 exact ie (hU F hm (bD (jj (eQ hk).typeIs slot_list_getitem.lookup (iE (s:=up s s.heap _) hk (j:=k) (kz lt) (by rw [hz];decide) hu (h _)) rfl)))
theorem w3 {u0 u1:Value}{p p0 p1 p2 p3:Nat->Pos}{Q:Flow->ae->Prop}(hh:A.handled=ac)(F:bZ env (aJ 850) s.heap m)(hm:m "heights" = some (.ref X))(hc:m "count" = some (.int n tn))(hX:PL s.heap X us.toArray)(hz:us.length=10)(h0:us[0]? = some u0)(h1:us[1]? = some u1)
  (ec:env.cells=[(("two" : Str),c2),(("one" : Str),c1)]) (i1:gq s.heap c1 ac) (i2:gq s.heap c2 ac) (c12:c1≠c2)
  (h:∀ h' t' D1 D2,bZ env (aJ 850) h' (pm (pm m "left" u0) "right" u1)->Hq env c1 c2 D1 D2 ((us.drop 2).take n) ((us.drop 6).take n) h'->(∀ b o,b≠env.locals->b≠c1->b≠c2->s.heap.get? b=some o->h'.get? b=some o)->Q .next (up s h' t')):wpAny (Md w) A (exec (T3 p p0 p1 p2 p3) env) Q E s:=by
 refine dJ F.fr λfo ef cf _=>?_
 have n1:c1≠env.locals:=λq=>by obtain ⟨sl,e⟩:=i1;rw [q,ef] at e;cases e;simp [fu] at cf
 have n2:c2≠env.locals:=λq=>by obtain ⟨sl,e⟩:=i2;rw [q,ef] at e;cases e;simp [fu] at cf
 refine Assign_Tuple (im (am (Et F hm hX hz h0 λta=>am (Et (s:=up s s.heap ta) F hm hX hz h1 λtb=>?_))))
 refine am (Es (s:=up s s.heap tb) F hm hc hX hz λg1 tc D1 k1 f1 q1=>am (Es (s:=up s g1 tc) (F.up k1) hm hc (hX.up k1) hz λg2 td D2 k2 f2 q2=>az ⟨by show 4<=2 ^ 24;decide,?_⟩))
 have kg:Sb s.heap (g2.push { cls:=.type "tuple",data:=.seq #[u0,u1,.ref D1,.ref D2] }):=λb o e=>dM _ _ _ (k2 b o (k1 b o e))
 refine wpAny_assign_Tuple (items:=#[u0,u1,.ref D1,.ref D2]) hh ⟨_,ar _ rfl,rfl,0,rfl⟩ rfl rfl λg3 k3=>?_
 have k3':Sb (g2.push { cls:=.type "tuple",data:=.seq #[u0,u1,.ref D1,.ref D2] }) g3:=λb o e=>k3 b o (bV (bp e)) e
 have kA:Sb s.heap g3:=λb o e=>k3' b o (kg b o e)
 have d1:PL g3 D1 ((us.drop 2).take n).toArray:=q1.up λb o e=>k3' b o (dM _ _ _ (k2 b o e))
 have d2:PL g3 D2 ((us.drop 6).take n).toArray:=q2.up λb o e=>k3' b o (dM _ _ _ e)
 have offL:∀ {b:Addr}{l:List Value},PL g3 b l.toArray->b≠env.locals/\b≠c1/\b≠c2:=λ{b l} pl=>by
  obtain ⟨k,e⟩:=pl
  have no:∀ c o,s.heap.get? c=some o->o.cls≠.type "list"->b≠c:=λc o q z x=>by
   have:=kA _ _ q
   rw [<- x,e] at this
   cases this;exact z rfl
  obtain ⟨s1,x1⟩:=i1
  obtain ⟨s2,x2⟩:=i2
  exact ⟨no _ _ ef (by rw [cf];simp),no _ _ x1 (by simp),no _ _ x2 (by simp)⟩
 show wpAny _ _ (assignInOrder [fy (.Name "left" _) env,fy (.Name "right" _) env,fy (.Name "one" _) env,fy (.Name "two" _) env] [u0,u1,.ref D1,.ref D2]) _ _ _
 refine jb (assign_Name (uD (s:=up s g3 td) (F.up kA) (by lk) λg4 t4 F4 k4=>jb (assign_Name (uD (s:=up s g4 t4) F4 (by lk) λg5 t5 F5 k5=>jb (assign_Name ?_)))))
 have kk:fP env.locals s.heap g5:=((fP.ext kA).trans k4).trans k5
 have kl:∀ x:Str,(aJ 850).names.lookup x=some .cell->env.kindOf x=some .cell:=λx q=>by show env.scope.names.lookup _=_;rw [F.sce];exact q
 have kf:env.scope.kind=.function:=by rw [F.sce];exact F.kind
 refine oZ (s:=up s g5 t5) kf (kl _ (by lk)) (by rw [ec];rfl) (let ⟨sl,e⟩:=i1;⟨sl,kk _ _ n1 e⟩) λg6 c6 sb6=>jb (assign_Name (oZ (s:=up s g6 t5) kf (kl _ (by lk)) (by rw [ec];rfl) (let ⟨sl,e⟩:=i2;⟨sl,sb6.extBut _ _ (cb c12) (kk _ _ n2 e)⟩) λg7 c7 sb7=>wpAny_assignInOrder_none ?_))
 have k7:∀ b o,b≠c1->b≠c2->g5.get? b=some o->g7.get? b=some o:=λb o x y e=>sb7.extBut b o y (sb6.extBut b o x e)
 have kp:∀ {b l},PL g3 b (br l)->PL g7 b (br l):=λ{b l} pl=>let z:=offL pl;let ⟨k,e⟩:=pl;⟨k,k7 b _ z.2.1 z.2.2 (k5 b _ z.1 (k4 b _ z.1 e))⟩
 refine h g7 t5 D1 D2 (F5.keep (C:=[c1,c2]) (λb o n e _=>⟨o.slots,k7 b o (λq=>n (q▸.head _)) (λq=>n (q▸.tail _ (.head _))) e⟩) λq=>?_) ⟨ec,(let ⟨sl,e⟩:=c6;⟨sl,sb7.extBut _ _ c12 e⟩),c7,kp d1,kp d2⟩ λb o x y z e=>k7 b o y z (kk b o x e)
 rcases aq.mp q with q | q
 ·exact n1 q.symm
 ·exact n2 (ah.mp q).symm
end
noncomputable def Rz:aD:=⟨false,λ_=>0,[],λ_=>0,λ_=>1,λ_=>by decide,λ_=>by decide,λ_=>by decide⟩
def qX (h:Heap)(D:Addr)(ms:List Mv):Prop:=∃ us:List Value,PL h D us.toArray/\∀ R,bz (V R h) ms us
noncomputable abbrev xf (a b:Int):Mv:=.pair (.int a) (.int b)
section
variable {w:World}{env:Env}{s:ae}{X C D c c1:Addr}{o t:List Value}{n:Nat}{ms':List Mv}{f:Nat->Int}
theorem qX.up (x:qX h D ms)(k:Sb h h'):qX h' D ms:=let ⟨us,p,a⟩:=x;⟨us,p.up k,pC k a⟩
theorem qX.keepL (x:qX h D ms)(F:bZ env sc h m)(k:fP env.locals h h'):qX h' D ms:=by
 refine dJ F.fr λfo ef cf nf=>?_
 have kk:dQ [env.locals] h h':=λb o n e _=>⟨o.slots,k b o (λq=>n (q▸.head _)) e⟩
 have cl:CL [env.locals] h:=λc hc=>ah.mp hc▸⟨fo,ef,.inr cf,nf⟩
 refine bg x λus p a=>⟨us,?_,λR=>(a R).imp λ_ _ y=>y.keep kk cl (.refl h R)⟩
 obtain ⟨s,e⟩:=p
 exact ⟨s,k D _ (λq=>by
  have e':h.get? env.locals=some _:=q▸e
  rw [ef] at e';cases e';simp at cf) e⟩
theorem r8 {l b:Addr}(hl:qX s.heap l ms)(hb:qX s.heap b ms')(hz:ms.length+ms'.length<=1000)
  (h:∀ h' t' D,(Sb s.heap h')->qX h' D (ms++ms')->Q (.ref D) (up s h' t')):wpAny (Md w) A (binaryOp .Add (.ref l) (.ref b)) Q E s:=
 bg hl λus p a=>bg hb λus' p' a'=>Bb p p' (by rw [<- (a Rz).length,<- (a' Rz).length];exact hz) λh' D k _ pD=>h h' _ D k ⟨_,pD,λR=>(pC k a R).append (pC k a' R)⟩
theorem tu {e:Expr}{y:Str}{i j:Int}{tj:Tok}{p1 p2 p3:Pos}(F:bZ env (aJ 850) s.heap m)(hy:m y=some (.int j tj))(hl:(aJ 850).names.lookup y=some .local)(hd:(y == ("__debug__" : Str))=false)(he:∀ Q:Value->ae->Prop,(∀ t' ti,Q (.int i ti) (up s s.heap t'))->wpAny (Md w) A (eval e env) Q E s)(hs:bT (e :: [.Name y p1]) env=(false,eval e env) :: bT [.Name y p1] env)
  (h:∀ h' t' D,(Sb s.heap h')->qX h' D [xf i j]->Q (.ref D) (up s h' t')):wpAny (Md w) A (eval (.List [.Tuple [e,.Name y p1] 0 p2] p3) env) Q E s:=by
 refine mK (am (im (am (he _ λt' ti=>am (hU (s:=up s s.heap t') F hy (az ⟨by show 2<=2 ^ 24;decide,az ⟨by show 1<=2 ^ 24;decide,?_⟩⟩) hl hd)) hs)))
 refine h _ t' _ (λb o e=>dM _ _ _ (dM _ _ _ e)) ⟨_,⟨0,ar _ rfl⟩,λR=>.cons ?_ .nil⟩
 exact .pair ⟨#[],dM _ _ _ (ar _ rfl)⟩ (.int _ _) (.int _ _)
abbrev CZ (x:Str)(p:Nat->Pos):Expr:=.Tuple [.BinOp (lI 1 (p 0)) .Add (.Name "k" (p 1)) (p 2),.Subscript (.Name x (p 3)) (.Name "k" (p 4)) (p 5)] 0 (p 6)
theorem CY {x:Str}{p:Nat->Pos}{cl:List (Str×Addr)}{V:Nat->Value->Prop}{q:Nat->Nat}(hd:(x == ("__debug__" : Str))=false)(hk:sc.kind=.function)(kx:(dw sc env).names.lookup x=some .cell)(kk:(dw sc env).names.lookup ("k" : Str)=some .local)(hcl:cl.lookup x=some c)
  (hc:gq s.heap c (some (.ref X))) (hX:PL s.heap X o.toArray) (hz:o.length<=1000) (hV:∀ j v,V j v->∃ t,v=.int (q j:Nat) t) (hq:∀ j,j < n->∃ t,o[q j]? = some (.int (f (q j)) t))
  (fr:s.heap.get? C=ac/\s.heap.get? D=ac/\s.heap.get? it=ac/\it < C) :
  vL pg w A s.heap C D it (λk us g=>∀ R,bz (Internal.V R g) ((bn k).map λj=>xf (1+(q j:Nat)) (f (q j))) us) (bQ sc cl C env) [] (CZ x p) (λj mm=>∃ v,V j v/\mm "k" = some v) n:=by
 intro s' mm j us Qt Qe hn hD ho hg hNm hj qt qe
 refine bg hNm λv hv hm=>?_
 obtain ⟨t,e⟩:=hV j v hv
 subst e
 obtain ⟨tf,hf⟩:=hq j hj
 have lt:q j < o.length:=(bu.mp hf).1
 obtain ⟨kX,hX⟩:=hX
 have hX':IsL s'.heap X o.toArray kX:=ho _ _ hX
 obtain ⟨sl,hc⟩:=hc
 have hc':s'.heap.IsCell c (some (.ref X)):=⟨_,ho _ _ hc,rfl⟩
 have kf:(bQ sc cl C env).scope.kind=.function:=hk
 refine wpAny_tests_nil ?_
 rw [if_pos rfl]
 refine im (am (dR (bD (cA (bL kf kk hn hm (add_int ?_))))))
 refine am (ie (cA (ds kf kx hcl hc' (cA (bL kf kk hn hm (jj (eQ hX').typeIs slot_list_getitem.lookup (iE hX' (j:=q j) (kz lt) (au hz (by decide)) hf ?_) rfl)))) hd))
 refine az ⟨by show 2<=2 ^ 24;decide,qe _ _ _ (dM _) λR=>?_⟩
 refine kW hn λoC _ _ eC _=>?_
 obtain ⟨oD,eD⟩:=hD
 have off:s'.heap.objs.size∉[C,D,it]:=λz=>by
  have lC:=bp eC
  rcases aq.mp z with z | z
  ·exact dh _ (z▸lC)
  rcases aq.mp z with z | z
  ·exact dh _ (z▸bp eD)
  ·exact dh _ (Nat.lt_trans (ah.mp z▸fr.2.2.2) lC)
 rw [List.range_succ,db]
 exact bz.append (pC (j0 _ λb o _ e=>dM _ _ _ e) hg R) (.cons (.pair ⟨#[],aU _ (ar _ rfl) off⟩ (.int _ _) (.int _ _)) .nil)
end
def sc4:Scope:=(xZ (ee (ee (se (sO 850 4) 0) 0) 1)).2.2.2
def sc5:Scope:=(xZ (ee (se (sO 850 5) 0) 1)).2.2.2
section
variable {w:World}{env:Env}{s:ae}{X C D c c1:Addr}{o t:List Value}{n:Nat}{ms':List Mv}{f:Nat->Int}
theorem AT {cl:List (Str×Addr)}(e:env.cells=[(("two" : Str),c2),(("one" : Str),c1)])(k:cU sc { env with cells:=[(("two" : Str),c2),(("one" : Str),c1)] }=pure cl):cU sc env=pure cl:=by
 have e':cU sc env=cU sc { env with cells:=[(("two" : Str),c2),(("one" : Str),c1)] }:=by rw [<- e]
 exact e'.trans k
theorem wE {x:Str}{pe:Nat->Pos}{e:Expr}{pk pp:Pos}{cl:List (Str×Addr)}{a b d:Int}{q:Nat->Nat}(hh:A.handled=ac)(hd:(x == ("__debug__" : Str))=false)(hk:sc.kind=.function)(hsc:(sc.names.all (λx=>!(x.2 == .cell)) && sc.names.all (λx=>!(x.2 == .local) || sc.names.lookup x.1 == some .local))=true)
  (kx:(dw sc env).names.lookup x=some .cell) (kk:(dw sc env).names.lookup ("k" : Str)=some .local) (hclos:cU sc env=pure cl) (hs1:∀ x,ei e env x=pure x) (hcl:cl.lookup x=some c) (hc:gq s.heap c (some (.ref X))) (hX:PL s.heap X o.toArray) (hz:o.length<=1000) (hn:n<=1000)
  (hq:∀ j,j < n->a+(j:Nat) * d=(q j:Nat)/\∃ t,o[q j]? = some (.int (f (q j)) t))
  (hv:∀ Q:Value->ae->Prop,(∀ h' t' r ta tb tc,IsRange h' r a b d ta tb tc->(Sb s.heap h')->Q (.ref r) (up s h' t'))->wpAny (Md w) A (eval e env) Q E s) (sm:iV a b d=true) (rs:gw a b d=(n:Int))
  (h:∀ h' t' D,(Sb s.heap h')->qX h' D ((bn n).map λj=>xf (1+(q j:Nat)) (f (q j)))->Q (.ref D) (up s h' t')) :
  wpAny (Md w) A (eval (.ListComp (CZ x pe) [⟨.Name "k" pk,e,[],0⟩] sc pp) env) Q E s:=
 AQ (p:=pg) (V:=λj v=>j < n/\∃ t,v=.int (a+(j:Nat) * d) t) (G:=λk us g=>∀ R,bz (Internal.V R g) ((bn k).map λj=>xf (1+(q j:Nat)) (f (q j))) us) hsc hk hclos hs1 hn (λj us g g' k y=>pC k y) (λ_ _=>.nil)
  (λC it _=>Du (V:=λj v=>j < n/\∃ t,v=.int (a+(j:Nat) * d) t) hk kk rfl) (λC D it fC fD fI lt=>CY (q:=q) hd hk kx kk hcl hc hX hz (λj v ⟨hj,t,e⟩=>⟨t,(hq j hj).1▸e⟩) (λj hj=>(hq j hj).2) ⟨fC,fD,fI,lt⟩)
  (λQ' hQ=>vx hh hv sm rs λh' t' it I=>hQ h' t' it ⟨⟨I.W.sub,I.W.frame,λi s Q E hi st k=>I.W.item i s Q E hi st λv h' tk e=>k v h' tk ⟨hi,e⟩,I.W.done,I.W.self⟩,I.st,I.i0,I.lt,I.fp,I.old⟩)
  λh' t' D us k p _ g _=>h h' t' D k ⟨us,p,g⟩
noncomputable abbrev Fv (p:Nat->Pos):Expr:=.Call (.Name "range" (p 0)) [.Name "count" (p 1)] [] (p 2)
theorem wd {p:Nat->Pos}(G:Gd w aa)(bs:Sb aa s.heap)(F:bZ env (aJ 850) s.heap m)(hc:m "count" = some (.int n tn))
  (q:∀ h' t' r ta tb tc,IsRange h' r 0 n 1 ta tb tc->(Sb s.heap h')->Q (.ref r) (up s h' t')):wpAny (Md w) A (eval (Fv p) env) Q E s:=by
 refine aN (sy (v:=.type "range") F G bs ?_)
 refine cw (am (hU F hc (az ⟨Bu,call_range_1 (q _ _ _ _ _ _ (ar _ rfl) (dM _))⟩)))
abbrev T4 (p pe pr:Nat->Pos):Stmt:=.Assign [.Name "corners" (p 0)] (.BinOp (.BinOp (.List [.Tuple [lI 0 (p 1),.Name "left" (p 2)] 0 (p 3)] (p 4)) .Add (.ListComp (CZ "one" pe) [⟨.Name "k" (p 5),Fv pr,[],0⟩] sc4 (p 6)) (p 7)) .Add (.List [.Tuple [.BinOp (lI 1 (p 8)) .Add (.Name "count" (p 9)) (p 10),.Name "right" (p 11)] 0 (p 12)] (p 13)) (p 14)) (p 15)
theorem w4 {l r:Int}{tl tr:Tok}{p pe pr:Nat->Pos}{Q:Flow->ae->Prop}(hh:A.handled=ac)(G:Gd w aa)(bs:Sb aa s.heap)(F:bZ env (aJ 850) s.heap m)(hc:m "count" = some (.int n tn))(h4:n<=4)(hl:m "left" = some (.int l tl))(hr:m "right" = some (.int r tr))(L:Hq env c1 c2 D1 D2 o t s.heap)(ho:o.length=n)(hf:∀ j,j < n->∃ t,o[j]? = some (.int (f j) t))
  (h:∀ h' t' D,qX h' D ([xf 0 l]++(bn n).map (λj=>xf (1+(j:Nat)) (f j))++[xf (1+(n:Int)) r])->bZ env (aJ 850) h' (pm m "corners" (.ref D))->fP env.locals s.heap h'->Q .next (up s h' t')):wpAny (Md w) A (exec (T4 p pe pr) env) Q E s:=by
 have zn:n<=1000:=au h4 (by decide)
 refine cJ (dR (dR (tu (i:=0) F hl (by lk) (by lk) (λQ q=>bD (q _ _)) (by rfl) λg1 ta Da k1 la=>?_)))
 have zr:=jV (a:=0) (n:=n) (dB _) zn
 refine wE (s:=up s g1 ta) (cl:=[(("one" : Str),c1)]) (q:=λj=>j) (n:=n) (c:=c1) hh (by lk) (by lk) (by lk) (by rw [mP F.sce];lk) (by rw [mP F.sce];lk) (AT L.ec (by lk)) (λx=>rfl) (by lk) (let ⟨s,e⟩:=L.i1;⟨s,k1 _ _ e⟩) (L.l1.up k1) (ho▸zn) zn (λj hj=>⟨by rw [Int.mul_one,Int.zero_add],hf j hj⟩) (λQ q=>wd G (λb o e=>k1 b o (bs b o e)) (F.up k1) hc q) zr.1 zr.2 λg2 tb Db k2 lb=>?_
 refine r8 (s:=up s g2 tb) (la.up k2) lb (by rw [bW,cR];exact au (aT h4 1) (by decide)) λg3 tc Dc k3 lc=>?_
 have k13:Sb s.heap g3:=λb o e=>k3 b o (k2 b o (k1 b o e))
 refine tu (s:=up s g3 tc) (i:=1+(n:Int)) (F.up k13) hr (by lk) (by lk) (λQ q=>dR (bD (hU (s:=up s g3 _) (F.up k13) hc (add_int (q _ _))))) (by rfl) λg4 td Dd k4 ld=>?_
 refine r8 (s:=up s g4 td) (lc.up k4) ld (by rw [bG,bW,cR];exact au (Nat.add_le_add_right (aT h4 1) 1) (by decide)) λg5 te De k5 le=>?_
 have k15:Sb s.heap g5:=λb o e=>k5 b o (k4 b o (k13 b o e))
 exact uD (s:=up s g5 te) (F.up k15) (by lk) λg6 tf F6 k6=>h g6 tf De (le.keepL (F.up k15) k6) F6 ((fP.ext k15).trans k6)
abbrev T5 (p pe:Nat->Pos):Stmt:=.Assign [.Name "corners" (p 0)] (.BinOp (.Name "corners" (p 1)) .Add (.ListComp (CZ "two" pe) [⟨.Name "k" (p 2),.Call (.Name "range" (p 3)) [.BinOp (.Name "count" (p 4)) .Sub (lI 1 (p 5)) (p 6),.UnaryOp .USub (lI 1 (p 7)) (p 8),.UnaryOp .USub (lI 1 (p 9)) (p 10)] [] (p 11),[],0⟩] sc5 (p 12)) (p 13)) (p 14)
theorem C3 {n:Nat}(h1:1<=n)(h4:n<=4):iV ((n:Int) - 1) (-1) (-1)=true/\gw ((n:Int) - 1) (-1) (-1)=(n:Int)/\Builtin.divisionGoesByPylong ((-1:Int) - ((n:Int) - 1)) (-1)=false:=by
 rcases four h1 h4 with rfl | rfl | rfl | rfl<;>refine ⟨by decide +kernel,by decide +kernel,by decide +kernel⟩
theorem w5 {p pe:Nat->Pos}{Q:Flow->ae->Prop}(hh:A.handled=ac)(G:Gd w aa)(bs:Sb aa s.heap)(F:bZ env (aJ 850) s.heap m)(hc:m "count" = some (.int n tn))(h1:1<=n)(h4:n<=4)(hm:m "corners" = some (.ref D))(hD:qX s.heap D ms)(hz:ms.length<=100)(L:Hq env c1 c2 D1 D2 o t s.heap)(ho:t.length=n)(hf:∀ j,j < n->∃ x,t[j]? = some (.int (f j) x))
  (h:∀ h' t' D,qX h' D (ms++(bn n).map λj=>xf (1+(n - 1 - j:Nat)) (f (n - 1 - j)))->bZ env (aJ 850) h' (pm m "corners" (.ref D))->fP env.locals s.heap h'->Q .next (up s h' t')):wpAny (Md w) A (exec (T5 p pe) env) Q E s:=by
 have zn:n<=1000:=au h4 (by decide)
 have dk:=C3 h1 h4
 refine cJ (dR (hU F hm ?_))
 refine wE (cl:=[(("two" : Str),c2)]) (q:=λj=>n - 1 - j) (n:=n) (c:=c2) hh (by lk) (by lk) (by lk) (by rw [mP F.sce];lk) (by rw [mP F.sce];lk) (AT L.ec (by lk)) (λx=>rfl) (by lk) L.i2 L.l2 (ho▸zn) zn (λj hj=>⟨by rw [Int.ofNat_sub (Nat.le_sub_one_of_lt hj),Int.ofNat_sub h1,Int.mul_neg,Int.mul_one];rfl,hf _ (av (Nat.sub_le _ _) (Nat.sub_lt h1 Nat.one_pos))⟩) (λQ q=>?_) dk.1 dk.2.1 λg2 tb Db k2 lb=>?_
 ·refine aN (sy (v:=.type "range") F G bs ?_)
  refine cw (am (dR (hU F hc (bD (sub_int ?_)))))
  refine am (wpAny_UnaryOp (bD (neg_int ?_)))
  refine am (wpAny_UnaryOp (bD (neg_int ?_)))
  exact az ⟨Bu,call_range_3 (by decide) (q _ _ _ _ _ _ (ar _ rfl) (dM _)) (.inl dk.2.2)⟩
 refine r8 (s:=up s g2 tb) (hD.up k2) lb (by rw [bW,cR];exact au (Nat.add_le_add hz h4) (by decide)) λg3 tc Dc k3 lc=>?_
 have k13:Sb s.heap g3:=λb o e=>k3 b o (k2 b o e)
 exact uD (s:=up s g3 tc) (F.up k13) (by lk) λg6 tf F6 k6=>h g6 tf Dc (lc.keepL (F.up k13) k6) F6 ((fP.ext k13).trans k6)
end
theorem fb326:FB 326:=⟨λP=>⟨ac,by lk⟩,by lk,by lk,by lk,by lk,λP=>by lk,by lk,by lk,by lk⟩
theorem e326:∃ p:Nat->Pos,aO 326=[.Assign [fN "vertices" (p 0,p 1)] (.Name "vertices" (p 2)) (p 3)]:=⟨λi=>([_,_,_,_]:List Pos).getD i default,by with_unfolding_all rfl⟩
section
variable {w:World}{env:Env}{s:ae}{X C D c c1:Addr}{o t:List Value}{n:Nat}{ms':List Mv}{f:Nat->Int}
theorem Cq {u:Value}(G:Gd w aa)(bs:Sb aa s.heap)(hdp:A.depth+1 < aA)(h:∀ h' t' x,(Sb s.heap h')->s.heap.get? x=ac->cL h' x 329 [("vertices",u)]->Q (.ref x) (up s h' t')):wpAny (Md w) A (call (.ref 329) [u]) Q E s:=by
 obtain ⟨hp,gg,dr,t,os⟩:=s
 have X:(K w.params).In hp:=G.X.keeps bs
 have nl:hp.NoLimit:=G.nolimit bs
 refine bw (make_core (makes_of X (by lk)) (cT (r:=some (.ref 326)) X (by lk)) (λself=>bind_fn X self (by lk)) (.inl rfl) ?_)
 refine xJ (made (h:=hp) 329) λk0 hx0 hd0 sz2=>?_
 have fr0:hp.get? (hp.objs.size+1)=ac:=aB (aW _)
 have fd0:hp.get? hp.objs.size=ac:=aB (aQ _)
 generalize (hp.push du).push (gQ 329 hp.objs.size)=g0 at k0 hx0 hd0 sz2 ⊢
 refine tE (nN (s:=⟨g0,gg,dr,t,os⟩) fb326 (X.keeps k0) (nl.keeps k0) (by rw [sC];omega) (binds:=[("self",.ref (hp.objs.size+1)),("vertices",u)]) (dU (by lk)) (by lk) (by
  intro y hy
  rcases aq.mp hy with rfl | hy
  ·lk
  ·rcases ah.mp hy with rfl;lk) λh2 t2 env F hloc kp=>pR ?_)
 obtain ⟨p,hb⟩:=e326
 rw [hb]
 refine aK (iP (hU (u:=u) F (by lk) ?_) rfl rfl)
 refine qi (s:=⟨h2,gg,dr,t2,os⟩) (x:=hp.objs.size+1) (d:=hp.objs.size) (C:=329) (at_:=[]) (λQ q=>hU (u:=.ref (hp.objs.size+1)) F (by lk) q) ((X.keeps k0).keeps kp) ⟨⟨#[],kp _ _ hx0⟩,[],0,#[],kp _ _ hd0,.nil⟩ ?_ (dB _) λh3 t3 mk sb=>?_
 ·exact ⟨by lk,by lk,by lk,by lk⟩
 ·exact fi ⟨rfl,h h3 t3 _ (λb o e=>sb.extBut b o (λq=>ns (fd0.symm.trans (q▸e))) (kp b o (k0 b o e))) fr0 mk.inst⟩
theorem Cp (X:(K w.params).In s.heap)(h:∀ h' t' x,(Sb s.heap h')->cL h' x 369 []->Q (.ref x) (up s h' t')):wpAny (Md w) A (call (.ref 369) []) Q E s:=by
 obtain ⟨hp,gg,dr,t,os⟩:=s
 refine bw ?_
 have Y:=makes_of (M:=Md w) (C:=369) X (by lk)
 refine make_core Y (cT (r:=some (.builtin "object.__init__")) X (by lk)) (λself=>cK (oi_bind self)) (.inr ⟨rfl,rfl⟩) ?_
 refine xJ (made (h:=hp) 369) λk0 hx0 hd0 sz2=>?_
 generalize (hp.push du).push (gQ 369 hp.objs.size)=g0 at k0 hx0 hd0 sz2 ⊢
 have t1:Looks (Md w) g0 (gl (.ref (hp.objs.size+1))) (.ref 369):=(eT hx0).andThen .now
 have t2:Looks (Md w) g0 (fY (.ref (hp.objs.size+1)) (.type "object")) true:=t1.andThen (Y.top.keeps k0)
 refine da oi_plain entry_oi (@check_slot (Md w) _ _ _ "object.__init__" "object" "__init__" (.ref (hp.objs.size+1)) [] [] _ oi_kind oi_split t2 (oi_args (.ref (hp.objs.size+1))) ?_)
 rw [oi_run]
 exact aj (jJ rfl (h g0 _ _ k0 (Mk.inst (d:=hp.objs.size) ⟨⟨#[],hx0⟩,[],0,#[],hd0,.nil⟩)))
end
def BU:Scope:=(xZ (ee (se (sO 850 6) 0) 1)).2.2.2
section
variable {w:World}{env cenv:Env}{s:ae}{X C D c c1:Addr}{o t:List Value}{n:Nat}{ms':List Mv}{f:Nat->Int}{cs:List (Int×Int)}
theorem ldGc {v:Value}(hk:env.scope.kind=.function)(hgl:env.globals=bM)(G:Gd w aa)(b:Sb aa s.heap)(hQ:Q v s)(hl:env.kindOf xs=some .globalImplicit)
  (hg:∀ P,nsIn (K P) bM xs=some (some v)) (hd:(xs == ("__debug__" : Str))=false):wpAny (Md w) A (eval (.Name xs pos) env) Q E s:=by
 refine uk G.T λp l mean mg mb T=>?_
 refine je hk hl (loadGlobal_global (mg:=mg) ?_ (mg_of G.X T.g (hg w.params)) hQ) hd
 rw [hgl];exact T.g.keeps b
noncomputable abbrev eltQ (p:Nat->Pos):Expr:=.Call (.Name "Point" (p 0)) [.BinOp (.Name "_law_spread" (p 1)) .Mult (.Name "x" (p 2)) (p 3),.BinOp (.Name "_law_spread" (p 4)) .Mult (.Name "y" (p 5)) (p 6)] [] (p 7)
abbrev prC (c:Int×Int):Mv:=xf c.1 c.2
noncomputable abbrev ptC (c:Int×Int):Mv:=.pt (false,5040 * c.1,5040 * c.2)
def NmQ (cs:List (Int×Int))(j:Nat)(mm:Str->Option Value):Prop:=∃ c ta tb,cs[j]? = some c/\mm "x" = some (.int c.1 ta)/\mm "y" = some (.int c.2 tb)
theorem CX {p:Nat->Pos}(G:Gd w aa)(bs:Sb aa s.heap)(hdp:A.depth+1 < aA)(F:bZ env (aJ 850) s.heap m)(hz:∀ c∈cs,(0<=c.1/\c.1<=5)/\0<=c.2/\c.2<=4)
  (fr:s.heap.get? C=ac/\s.heap.get? D=ac/\s.heap.get? it=ac/\it < C) :
  vL pg w A s.heap C D it (λk us g=>∀ R,bz (Internal.V R g) ((cs.take k).map ptC) us) (bQ BU [] C env) [] (eltQ p) (NmQ cs) n:=by
 intro s' mm j us Qt Qe hn hD ho hg hNm hj qt qe
 refine qb hNm λc ta tb hc hx hy=>?_
 have bs':Sb aa s'.heap:=λb o e=>ho b o (bs b o e)
 have kf:(bQ BU [] C env).scope.kind=.function:=by show BU.kind=_;lk
 have kl:∀ x:Str,∀ k,(dw BU { (default:Env) with scope:=aJ 850 }).names.lookup x=some k->(bQ BU [] C env).kindOf x=some k:=λx k q=>by show (dw BU env).names.lookup x=_;rw [mP F.sce];exact q
 have small:∀ (a:Int) (t t':Tok) (Q:Value->ae->Prop) (s:ae),0<=a->a<=5->Q (.int (5040 * a) s.toks) { s with toks:=s.toks+1 }->wpAny (Md w) A (binaryOp .Mult (.int 5040 t) (.int a t')) Q (λ_ _=>False) s:=λa t t' Q s h0 h5 q=>mul_int q (.of_left (intBits_le_64 (by decide) (by decide)))
 have hcz:=hz c (fK hc)
 refine wpAny_tests_nil ?_
 rw [if_pos rfl]
 have lsp:∀ (p:Pos) (Q:Value->ae->Prop) (t':Nat),Q (.int 5040 1458) (up s' s'.heap t')->wpAny (Md w) A (eval (.Name "_law_spread" p) (bQ BU [] C env)) Q (λ_ _=>False) (up s' s'.heap t'):=λp Q t' q=>ldGc (s:=up s' s'.heap t') kf F.glob G bs' q (kl _ _ (by lk)) (by intro P;lk) (by lk)
 refine aN (ldGc (v:=.ref 209) kf F.glob G bs' ?_ (kl _ _ (by lk)) (by intro P;lk) (by lk))
 refine cw (am (dR (lsp _ _ s'.toks (cA (bL kf (kl _ _ (by lk)) hn hx (small _ _ _ _ _ hcz.1.1 hcz.1.2 ?_))))))
 refine am (dR (lsp _ _ _ (cA (bL kf (kl _ _ (by lk)) hn hy (small _ _ _ _ _ hcz.2.1 (Int.le_trans hcz.2.2 (by decide)) ?_)))))
 refine az ⟨wn (G.X.keeps bs') (by lk),wk (s:=up s' s'.heap (s'.toks+1+1)) G bs' hdp λx dx h' t' k' e1 e2 e3=>qe h' t' _ k' λR=>?_⟩
 refine kW hn λoC _ _ eC _=>?_
 obtain ⟨oD,eD⟩:=hD
 have off:∀ y,dx<=y->y∉[C,D,it]:=λy hy z=>by
  have lC:=bO (e3.2 _ _ eC) hy
  rcases aq.mp z with z | z
  ·exact dh _ (z▸lC)
  rcases aq.mp z with z | z
  ·exact dh _ (z▸bO (e3.2 _ _ eD) hy)
  ·exact dh _ (Nat.lt_trans (ah.mp z▸fr.2.2.2) lC)
 rw [List.take_add_one,hc,db]
 exact bz.append (pC (j0 _ λb o _ e=>k' b o e) hg R) (.cons (.pt ⟨#[],aU _ e1 (off x (e3.1▸aW _))⟩ ⟨#[],aU _ e2 (off dx (aQ _))⟩) .nil)
theorem asgT {px py:Pos}(hh:A.handled=ac)(hk:cenv.scope.kind=.function)(hx:cenv.kindOf "x" = some .local)(hy:cenv.kindOf "y" = some .local)(hloc:cenv.locals=C)(hV:∀ R,bz (V R ab) (cs.map prC) us) :
  xW pg w A ab C it cenv (.Tuple [.Name "x" px,.Name "y" py] 0 tp) (λi v=>us.toArray[i]? = some v) (λi h=>h.IsListIter it X i/\h.IsList X us.toArray) (NmQ cs) n:=by
 subst hloc
 intro s mm j v Q hn hv hj st ko q
 rw [ey] at hv
 refine bg ((hV Rz).getR hv) λa ha hva=>?_
 rw [jf] at ha
 refine bg (jd.mp ha) λc hc e=>?_
 subst e
 cases hva with | mk o pa pb =>
 cases pa with | mk ta =>
 cases pb with | mk tb =>
 obtain ⟨sl,o⟩:=o
 refine wpAny_letOwnedTupleGo_listiter st.1 ?_
 exact kcp_assign hh ⟨_,ko _ _ o,rfl,0,rfl⟩ hx hy (by rw [hk];rfl) hn λh' tk hn' k=>q h' tk _ hn' ⟨c,ta,tb,hc,by lk,by lk⟩ k
theorem cL.keepL {a Cl:Addr}{at_:List (Str×Value)}(x:cL h a Cl at_)(F:bZ env sc h m)(k:fP env.locals h h'):cL h' a Cl at_:=by
 refine dJ F.fr λfo ef cf nf=>?_
 exact x.keep (λb o n e _=>⟨o.slots,k b o (λq=>n (q▸.head _)) e⟩:dQ [env.locals] h h') λc hc=>ah.mp hc▸⟨fo,ef,.inr cf,nf⟩
abbrev T6 (p pe:Nat->Pos):Stmt:=.Assign [.Name "contour" (p 0)] (.Call (.Name "Contour" (p 1)) [.ListComp (eltQ pe) [⟨.Tuple [.Name "x" (p 2),.Name "y" (p 3)] 0 (p 4),.Name "corners" (p 5),[],0⟩] BU (p 6)] [] (p 7)) (p 8)
theorem w6 {p pe:Nat->Pos}{Q:Flow->ae->Prop}(hh:A.handled=ac)(hdp:A.depth+1 < aA)(G:Gd w aa)(bs:Sb aa s.heap)(F:bZ env (aJ 850) s.heap m)(hm:m "corners" = some (.ref X))(hX:qX s.heap X (cs.map prC))(hl:cs.length<=1000)(hz:∀ c∈cs,(0<=c.1/\c.1<=5)/\0<=c.2/\c.2<=4)
  (h:∀ h' t' x D,s.heap.get? D=ac->cL h' x 329 [("vertices",.ref D)]->qX h' D (cs.map ptC)->bZ env (aJ 850) h' (pm m "contour" (.ref x))->fP env.locals s.heap h'->Q .next (up s h' t')):wpAny (Md w) A (exec (T6 p pe) env) Q E s:=by
 refine bg hX λus pX hV=>?_
 have hlen:us.toArray.size=cs.length:=by rw [List.size_toArray,<- (hV Rz).length,bW]
 refine cJ (aN (wm (v:=.ref 329) F G bs (cw (am (AQ (p:=pg) (n:=us.toArray.size) (cl:=[]) (G:=λk us g=>∀ R,bz (Internal.V R g) ((cs.take k).map ptC) us) (by lk) (by lk) (by lk) (λx=>rfl) (by rw [hlen];exact hl) (λj us g g' k y=>pC k y) (λ_ _=>.nil)
  (λC it _=>asgT hh (by show BU.kind=_;lk) (fa (by lk)) (fa (by lk)) rfl hV) (λC D it fC fD fI lt=>CX G bs hdp F hz ⟨fC,fD,fI,lt⟩) (λQ' q=>Az hh (λQ q=>hU F hm q) pX q) λh1 t1 D us' k1 p1 _ g1 n1=>az ⟨wn (G.X.keeps λb o e=>k1 b o (bs b o e)) (by lk),?_⟩)))))
 rw [hlen,List.take_length] at g1
 refine Cq (s:=up s h1 t1) G (λb o e=>k1 b o (bs b o e)) hdp λh2 t2 x k2 nx ix=>?_
 have k12:Sb s.heap h2:=λb o e=>k2 b o (k1 b o e)
 have lD:qX h2 D (cs.map ptC):=qX.up ⟨us',p1,g1⟩ k2
 exact uD (s:=up s h2 t2) (F.up k12) (by lk) λh3 t3 F3 k3=>h h3 t3 x D n1 (ix.keepL (F.up k12) k3) (lD.keepL (F.up k12) k3) F3 ((fP.ext k12).trans k3)
end
def sc7:Scope:=(xZ (se (sO 850 7) 0)).2.2.2
def sc8:Scope:=(xZ (se (sO 850 8) 0)).2.2.2
section
variable {w:World}{env cenv:Env}{s:ae}{X C D c c1:Addr}{o t:List Value}{n:Nat}{f g:Nat->Int}{op:CmpOp}{r:Int->Int->Bool}
noncomputable abbrev cmpE (op:CmpOp)(p:Nat->Pos):Expr:=.Compare (.Subscript (.Name "one" (p 0)) (.Name "k" (p 1)) (p 2)) [op] [.Subscript (.Name "two" (p 3)) (.Name "k" (p 4)) (p 5)] (p 6)
abbrev T7 (y:Str)(op:CmpOp)(sc:Scope)(p pr pc:Nat->Pos):Stmt:=.Assign [.Name y (p 0)] (.ListComp (.Name "k" (p 1)) [⟨.Name "k" (p 2),Fv pr,[cmpE op pc],0⟩] sc (p 3)) (p 4)
theorem w7 {y:Str}{p pr pc:Nat->Pos}{Q:Flow->ae->Prop}(hh:A.handled=ac)(hline:((p 0).line == (p 3).line)=true)(hb:behindInMarks op (.Subscript (.Name "two" (pc 3)) (.Name "k" (pc 4)) (pc 5))=false)(hr:∀ a b ta tb (Q:Value->ae->Prop) (E:Value->ae->Prop) s,Q (.bool (r a b)) s->wpAny (Md w) A (dH op (.int a ta) (.int b tb)) Q E s)
  (hy:(aJ 850).names.lookup y=some .local) (hk:sc.kind=.function) (hsc:(sc.names.all (λx=>!(x.2 == .cell)) && sc.names.all (λx=>!(x.2 == .local) || sc.names.lookup x.1 == some .local) && !(sc.names.any λx=>x.1 == y && (x.2 == .local || x.2 == .cell)))=true)
  (kn:(dw sc { (default:Env) with scope:=aJ 850 }).names.lookup ("one" : Str)=some .cell/\(dw sc { (default:Env) with scope:=aJ 850 }).names.lookup ("two" : Str)=some .cell/\(dw sc { (default:Env) with scope:=aJ 850 }).names.lookup ("k" : Str)=some .local)
  (hcl:∀ (env:Env) (c1 c2:Addr),cU sc { env with cells:=[(("two" : Str),c2),(("one" : Str),c1)] }=pure [(("two" : Str),c2),(("one" : Str),c1)])
  (G:Gd w aa) (bs:Sb aa s.heap) (F:bZ env (aJ 850) s.heap m) (hc:m "count" = some (.int n tn)) (h4:n<=4) (L:Hq env c1 c2 D1 D2 o t s.heap) (ho:o.length=n) (ht:t.length=n) (hf:∀ j,j < n->∃ x,o[j]? = some (.int (f j) x)) (hg:∀ j,j < n->∃ x,t[j]? = some (.int (g j) x))
  (h:∀ h' t' D us,PL h' D (br us)->us.length=((bn n).filter λk=>r (f k) (g k)).length->bZ env (aJ 850) h' (pm m y (.ref D))->fP env.locals s.heap h'->Q .next (up s h' t')):wpAny (Md w) A (exec (T7 y op sc p pr pc) env) Q E s:=by
 have zn:n<=1000:=au h4 (by decide)
 have zr:=jV (a:=0) (n:=n) (dB _) zn
 have kl:∀ {x:Str}{k},(dw sc { (default:Env) with scope:=aJ 850 }).names.lookup x=some k->(dw sc env).names.lookup x=some k:=λq=>by rw [mP F.sce];exact q
 refine EG (p:=pg) (V:=λj v=>j < n/\∃ t,v=.int ((0:Int)+(j:Nat) * 1) t) (G:=λk us=>us.length=((bn k).filter λk=>r (f k) (g k)).length) (n:=n) F hy hline hsc hk (AT L.ec (hcl _ _ _)) (λx=>rfl) zn rfl (λC it _=>Du hk (kl kn.2.2) rfl) (λC D it fC fD fI lt=>?_)
  (λQ' hQ=>vx hh (λQ q=>wd G bs F hc q) zr.1 zr.2 λh' t' it I=>hQ h' t' it ⟨⟨I.W.sub,I.W.frame,λi s Q E hi st k=>I.W.item i s Q E hi st λv h' tk e=>k v h' tk ⟨hi,e⟩,I.W.done,I.W.self⟩,I.st,I.i0,I.lt,I.fp,I.old⟩) λh' t' D us F' k' pD _ hu=>h h' t' D us pD hu F' k'
 intro s' mm j us Qt Qe hn hD hold hG hNm hj qt qe
 refine bg hNm λv hv hm=>?_
 obtain ⟨hj',tv,e⟩:=hv
 rw [Int.zero_add,Int.mul_one] at e
 subst e
 obtain ⟨tf,ef⟩:=hf j hj
 obtain ⟨tg,eg⟩:=hg j hj
 obtain ⟨k1,l1⟩:=L.l1
 obtain ⟨k2,l2⟩:=L.l2
 have l1':IsL s'.heap D1 o.toArray k1:=hold _ _ l1
 have l2':IsL s'.heap D2 t.toArray k2:=hold _ _ l2
 have i1:s'.heap.IsCell c1 (some (.ref D1)):=let ⟨_,e⟩:=L.i1;⟨_,hold _ _ e,rfl⟩
 have i2:s'.heap.IsCell c2 (some (.ref D2)):=let ⟨_,e⟩:=L.i2;⟨_,hold _ _ e,rfl⟩
 have kf:(bQ sc [(("two" : Str),c2),(("one" : Str),c1)] C env).scope.kind=.function:=hk
 have zf:(bn (j+1)).filter (λk=>r (f k) (g k))=(bn j).filter (λk=>r (f k) (g k))++if r (f j) (g j) then [j] else []:=by
  rw [List.range_succ,List.filter_append,List.filter_cons,List.filter_nil]
 refine wpAny_tests_one (j6 (ie (cA (ds kf (kl kn.1) rfl i1 (cA (bL kf (kl kn.2.2) hn hm (jj (eQ l1').typeIs slot_list_getitem.lookup (iE l1' (j:=j) (kz (ho▸hj)) (by rw [ho];exact au zn (by decide)) ef ?_) rfl)))))) hb)
 refine ie (cA (ds kf (kl kn.2.1) rfl i2 (cA (bL kf (kl kn.2.2) hn hm (jj (eQ l2').typeIs slot_list_getitem.lookup (iE l2' (j:=j) (kz (ht▸hj)) (by rw [ht];exact au zn (by decide)) eg (hr _ _ _ _ _ _ _ (cH ?_))) rfl)))))
 cases q:r (f j) (g j) with
 | true =>
  rw [if_pos rfl]
  refine cA (bL kf (kl kn.2.2) hn hm (qe _ _ _ (λ_ _ e=>e) ?_))
  show (us++[_]).length=((bn (j+1)).filter λk=>r (f k) (g k)).length
  rw [zf,q,bG,bG,show us.length=_ from hG];rfl
 | false =>
  rw [if_neg nofun]
  refine qt _ _ (λ_ _ e=>e) ?_
  show us.length=((bn (j+1)).filter λk=>r (f k) (g k)).length
  rw [zf,q,bG,show us.length=_ from hG];rfl
end
section
variable {M:Model}{w:World}{s:ae}{f:Addr}{x a b:Str}{v:Value}{args:Args}{R:ej->ae->Prop}
theorem Ck {scope:Scope}{globals:Addr}{qual:Str}{func:Option Addr}{code:Value}{builtins:Addr}{Q:Env->ae->Prop}
  (hcf:∀ n,cellsFrom n scope.names []=[(b,n+1),(a,n)]) (hpc:∀ h,pushCells h scope.names=(h.push fu).push fu) (hx:scope.names.lookup x=some .local) (hk:scope.kind=.function)
  (hQ:∀ h' t',uP h' s.heap.objs.size (pm (λ_=>ac) x v)->gq h' (s.heap.objs.size+1) ac->gq h' (s.heap.objs.size+2) ac->(Sb s.heap h') ->
   Q (newEnv scope s.heap.objs.size globals [(b,s.heap.objs.size+2),(a,s.heap.objs.size+1)] qual func code none builtins) (up s h' t')) :
  wpAny M A (fH scope globals [] [(x,v)] qual func code none builtins) Q E s:=by
 simp only [fH,Option.isSome_none,bX,if_false]
 simp only [newEnv] at hQ
 refine ag (wpAny_alloc ?_)
 refine ag (wpAny_layCells _ (λname kind cells=>rfl) _ _ _ _ ?_)
 rw [hcf,hpc,bN]
 generalize hL:s.heap.objs.size=L at hQ ⊢
 have z0:(s.heap.push { cls:=.type "frame",data:=.dict #[] }).get? L=some { cls:=.type "frame",data:=.dict #[] }:=hL▸ar _ rfl
 have s1:(s.heap.push { cls:=.type "frame",data:=.dict #[] }).objs.size=L+1:=by rw [bN,hL]
 have n0:uP (s.heap.push { cls:=.type "frame",data:=.dict #[] }) L (λ_=>ac):=hL▸rH (Heap.Ns.new ..) (ar _ rfl) rfl
 have k0:Sb s.heap (s.heap.push { cls:=.type "frame",data:=.dict #[] }):=dM _
 generalize s.heap.push { cls:=.type "frame",data:=.dict #[] }=h1 at z0 s1 n0 k0 ⊢
 have c1:gq (h1.push fu) (L+1) ac:=⟨#[],s1▸ar _ rfl⟩
 have c2:gq ((h1.push fu).push fu) (L+2) ac:=⟨#[],by
  have:=ar (o:=fu) (h1.push fu) rfl
  rwa [bN,s1] at this⟩
 have k2:Sb h1 ((h1.push fu).push fu):=λb o e=>dM _ _ _ (dM _ _ _ e)
 have c1':gq ((h1.push fu).push fu) (L+1) ac:=let ⟨sl,e⟩:=c1;⟨sl,dM _ _ _ e⟩
 generalize (h1.push fu).push fu=h2 at c2 c1' k2 ⊢
 rw [iz]
 have n2:uP h2 L (λ_=>ac):=let ⟨o,es,ep,e,r⟩:=n0;⟨o,es,ep,k2 _ _ e,r⟩
 refine ag (ag (ag (pF (env:={ scope:=scope,locals:=L,globals:=globals,cells:=_,qual:=qual,func:=func,code:=code,frame:=_,builtins:=builtins }) (s:=up s h2 s.toks) (m:=λ_=>ac) hx hk n2 λh3 n3 sb=>aj ?_)))
 refine aj (aj (hQ h3 _ n3 ?_ ?_ λb o e=>sb.extBut b o (λq=>?_) (k2 _ _ (k0 _ _ e))))
 ·exact let ⟨sl,e⟩:=c1';⟨sl,sb.extBut _ _ (jF L) e⟩
 ·exact let ⟨sl,e⟩:=c2;⟨sl,sb.extBut _ _ (fJ (cr (by decide))) e⟩
 ·rw [q] at e
  exact dh _ (hL▸bp e)
theorem AY (T:FB f)(X:(K P).In s.heap)(nl:s.heap.NoLimit)(hroom:A.depth < aA)(hb:e8 s (eE f) args [(x,v)])(hcf:∀ n,cellsFrom n (aJ f).names []=[(b,n+1),(a,n)])(hpc:∀ h,pushCells h (aJ f).names=(h.push fu).push fu)(hx:(aJ f).names.lookup x=some .local)
  (h:∀ h' t' env,bZ env (aJ f) h' (pm (λ_=>ac) x v)->env.locals=s.heap.objs.size->env.cells=[(b,s.heap.objs.size+2),(a,s.heap.objs.size+1)]->gq h' (s.heap.objs.size+1) ac->gq h' (s.heap.objs.size+2) ac->(Sb s.heap h') ->
   bY M A (.func (aO f) env) R (up s h' t')) :
  wpAny M A.in1 (jT (.ref f) args) (vK M A R) (λe s'=>R (.error e) s') s:=by
 refine qf T X hroom hb λQ' k=>Ck hcf hpc hx T.kind λh' t' hns c1 c2 kp=>?_
 exact k _ _ _ (nl.keeps kp) (h h' t' _ ⟨rfl,T.kind,T.co,rfl,rfl,rfl,hns⟩ rfl rfl c1 c2 kp)
noncomputable def pNo:bF:={ pw with main:={ pw.main with body:=[.ImportFrom (some "sys") [] none default] } }
theorem CO {p:bF}{lo:List Str}{mean:ExcName->Option Value}{mg mb:Str->Option Value}(T:Top p lo mean mg mb h)(X:(K w.params).In h)(ht:∀ a∈eP,∃ ps,h.get? a=some (fv ps)):Gd w (bJ h eP):=by
 have no:∀ {b o},h.get? b=some o->o.cls≠.none->(bJ h eP).get? b=some o:=λ{b o} e n=>aU _ e λq=>by
  obtain ⟨ps,z⟩:=ht b q
  rw [e] at z;cases z;exact n rfl
 have nsI:∀ {a m},h.Ns a m->a∉eP->(bJ h eP).Ns a m:=λn q=>n.at' λo e=>aU _ e q
 refine ⟨λa o e=>aU _ (X a o e) λq=>?_,pNo,lo++((recsOf p).map (·.name)++((litsOf p).map (·.1)++(clssOf p lo).map (·.name))),mean,mg,mb,?_⟩
 ·rcases aq.mp q with q | q
  ·have:(K w.params).lookup 613=ac:=by lk
   rw [q,this] at e;exact ns e
  ·have:(K w.params).lookup 840=ac:=by lk
   rw [ah.mp q,this] at e;exact ns e
 ·have e:∀ {α:Type}{P:Prop}{x:α},x∈([]:List α)->P:=λq=>nomatch q
  exact {
   g:=nsI T.g (by decide)
   b:=nsI T.b (by decide)
   nolimit:=let ⟨mc,a,b⟩:=T.nolimit;⟨mc,nsI a (by decide),b⟩
   nodigits:=let ⟨mc,a,b⟩:=T.nodigits;⟨mc,nsI a (by decide),b⟩
   fn:=λ_ h=>e h
   own:=λ_ h=>e h
   const:=λx d h=>ns (show ac=some d from h)
   free:=λx h1 h2 _ _ _=>T.free x h1 (λq=>h2 (bC _ q)) (λq=>h2 (aF _ (bC _ q))) (λq=>h2 (aF _ (aF _ (bC _ q)))) λq=>h2 (aF _ (aF _ (aF _ q)))
   builtins:=T.builtins
   tab:=λ_ h=>e h
   bmain:=let ⟨bm,ob,h1,h2,h3,h4,r⟩:=T.bmain;⟨bm,ob,h1,h2,no h3 (by rw [h4];simp),h4,r⟩
   seer:=λq=>nomatch q }
end
noncomputable abbrev pS (y:Str)(p:Nat->Pos):Expr:=.Compare (.Call (.Name "len" (p 0)) [.Name y (p 1)] [] (p 2)) [.Lt] [.Name "count" (p 3)] (p 4)
noncomputable abbrev askE (p:Nat->Pos):Expr:=.Call (.Name "contour_self_intersects" (p 0)) [.Name "contour" (p 1)] [⟨some "context",.Call (.Name "Context" (p 2)) [] [] (p 3),p 4⟩] (p 5)
abbrev T9 (p pa pb:Nat->Pos):Stmt:=.Return (some (.Compare (askE p) [.Eq] [.BoolOp .And [pS "lower" pa,pS "higher" pb] (p 6)] (p 7))) (p 8)
theorem GR:∃ p:Nat->Nat->Pos,aO 850=[T0 (p 0),T1 (p 1) (p 2),T2 (p 3),T3 (p 4) (p 5) (p 6) (p 7) (p 8),T4 (p 9) (p 10) (p 11),T5 (p 12) (p 13),T6 (p 14) (p 15),T7 "lower" .Lt sc7 (p 16) (p 17) (p 18),T7 "higher" .Gt sc8 (p 19) (p 20) (p 21),T9 (p 22) (p 23) (p 24)] /\
  ((p 3 0).line == (p 3 6).line)=true/\((p 16 0).line == (p 16 3).line)=true/\((p 19 0).line == (p 19 3).line)=true:=
 ⟨λi j=>(([[_,_,_,_,_,_,_,_,_,_,_,_],[_,_,_,_,_,_,_,_,_,_,_,_,_,_,_,_,_,_,_,_,_,_,_],[_,_,_,_,_],[_,_,_,_,_,_,_,_],[_,_,_,_,_,_,_],[_,_,_],[_,_,_],[_,_,_,_,_,_,_],[_,_,_,_,_,_,_],[_,_,_,_,_,_,_,_,_,_,_,_,_,_,_,_],[_,_,_,_,_,_,_],[_,_,_],[_,_,_,_,_,_,_,_,_,_,_,_,_,_,_],[_,_,_,_,_,_,_],[_,_,_,_,_,_,_,_,_],[_,_,_,_,_,_,_,_],
  [_,_,_,_,_],[_,_,_],[_,_,_,_,_,_,_],[_,_,_,_,_],[_,_,_],[_,_,_,_,_,_,_],[_,_,_,_,_,_,_,_,_],[_,_,_,_,_],[_,_,_,_,_]]:List (List Pos)).getD i []).getD j default,by with_unfolding_all rfl,by decide,by decide,by decide⟩
def dE:Nat->Nat->Pos:=GR.choose
theorem b850:aO 850=[T0 (dE 0),T1 (dE 1) (dE 2),T2 (dE 3),T3 (dE 4) (dE 5) (dE 6) (dE 7) (dE 8),T4 (dE 9) (dE 10) (dE 11),T5 (dE 12) (dE 13),T6 (dE 14) (dE 15),T7 "lower" .Lt sc7 (dE 16) (dE 17) (dE 18),T7 "higher" .Gt sc8 (dE 19) (dE 20) (dE 21),T9 (dE 22) (dE 23) (dE 24)]:=GR.choose_spec.1
theorem Gq:((dE 3 0).line == (dE 3 6).line)=true/\((dE 16 0).line == (dE 16 3).line)=true/\((dE 19 0).line == (dE 19 3).line)=true:=GR.choose_spec.2
noncomputable def iv:Value->Int
 | .int i _=>i
 | _=>0
def hv (us:List Value)(k:Nat):Int:=iv (us[k]?.getD .none)
theorem wx (h:∀ u∈us,lo4 u)(k:Nat):0<=hv us k/\hv us k<=4:=by
 unfold hv
 cases e:us[k]? with
 | none=>exact ⟨by decide,by decide⟩
 | some u=>exact cB (h u (fK e)) λi t q r=>q▸r
theorem rO (h:∀ u∈us,lo4 u){k:Nat}(hk:k < us.length):∃ t,us[k]? = some (.int (hv us k) t):=by
 unfold hv
 rw [bh hk]
 exact cB (h _ (List.getElem_mem hk)) λi t q r=>⟨t,by rw [q];rfl⟩
theorem to {a n:Nat}(h:us.length=10)(ha:a<=6)(hn:n<=4):((us.drop a).take n).length=n:=by
 rw [jG,List.length_drop,h]
 exact Nat.min_eq_left (au hn (Nat.sub_le_sub_left ha 10))
theorem wg {a n:Nat}(h:us.length=10)(ha:a<=6)(hn:n<=4)(hj:j < n):a+j < us.length:=h▸av (Nat.add_le_add_right ha j) (bO (Nat.add_lt_add_left hj 6) (aT hn 6))
theorem tt {a n:Nat}(hj:j < n):((us.drop a).take n)[j]? = us[a+j]?:=by rw [List.getElem?_take,if_pos hj,List.getElem?_drop]
noncomputable def EE (n:Nat)(l r:Int)(f g:Nat->Int):List (Int×Int):=[(0,l)]++(bn n).map (λj=>((1+(j:Nat):Int),f j))++[(1+(n:Int),r)]++(bn n).map λj=>((1+((n - 1 - j:Nat):Int)),g (n - 1 - j))
theorem GV (n:Nat)(l r:Int)(f g:Nat->Int):(EE n l r f g).map prC=([xf 0 l]++(bn n).map (λj=>xf (1+(j:Nat)) (f j))++[xf (1+(n:Int)) r])++(bn n).map λj=>xf (1+(n - 1 - j:Nat)) (g (n - 1 - j)):=by
 unfold EE
 rw [db,db,db,eL,eL];rfl
theorem BZ (n:Nat):(bn n).reverse=(bn n).map λj=>n - 1 - j:=List.ext_getElem (by simp) λi h1 h2=>by simp
theorem GU (n:Nat)(l r:Int)(f g:Nat->Int):(EE n l r f g).map ptC=(GX n l r f g).map DY:=by
 unfold EE GX
 rw [db,db,db,eL,eL,List.append_assoc,List.append_assoc]
 show _=DY (0,5040 * l) :: List.map DY _
 rw [db,eL,<- List.map_reverse,BZ,eL]
 show _=DY (0,5040 * l) :: (_++DY (5040 * ((n+1:Nat):Int),5040 * r) :: List.map DY _)
 rw [eL]
 have e:∀ k:Nat,(5040 * (1+(k:Int)):Int)=5040 * ((k+1:Nat):Int):=λk=>congrArg (5040 * ·) (Int.add_comm 1 (k:Int))
 have ap:∀ {a a' b b':List Mv}{x x' y y':Mv},x=x'->a=a'->y=y'->b=b'->[x]++(a++([y]++b))=x' :: (a'++y' :: b'):=by
  rintro _ _ _ _ _ _ _ _ rfl rfl rfl rfl;rfl
 exact ap rfl (List.map_congr_left λk _=>congrArg (λx=>Mv.pt (false,x,5040 * f k)) (e k)) (congrArg (λx=>Mv.pt (false,x,5040 * r)) (e n)) (List.map_congr_left λk _=>congrArg (λx=>Mv.pt (false,x,5040 * g (n - 1 - k))) (e (n - 1 - k)))
theorem rg1 {k:Nat}(h:k<=4):0<=(1+(k:Int))/\(1+(k:Int))<=5:=⟨Int.add_nonneg (by decide) (Int.natCast_nonneg k),Int.add_le_add_left (Int.ofNat_le.mpr h) 1⟩
theorem wD {n:Nat}{l r:Int}{f g:Nat->Int}(R:Hn l r f g)(h4:n<=4):(EE n l r f g).length<=1000/\∀ c∈EE n l r f g,(0<=c.1/\c.1<=5)/\0<=c.2/\c.2<=4:=by
 unfold EE
 refine ⟨by rw [bG,bG,bG,bW,cR,bW,cR];exact au (Nat.add_le_add (Nat.add_le_add_right (aT h4 1) 1) h4) (by decide),λc hc=>?_⟩
 rcases aL.mp hc with hc | hc
 ·rcases aL.mp hc with hc | hc
  ·rcases aL.mp hc with hc | hc
   ·exact ah.mp hc▸⟨⟨Int.le_refl 0,show (0:Int)<=5 by decide⟩,R.l⟩
   ·exact bg (gj.mp hc) λk hk e=>e▸⟨rg1 (au (Nat.le_of_lt (xT.mp hk)) h4),R.f k⟩
  ·exact ah.mp hc▸⟨rg1 h4,R.r⟩
 ·exact bg (gj.mp hc) λk hk e=>e▸⟨rg1 (au (Nat.sub_le _ _) (au (Nat.sub_le _ _) h4)),R.g _⟩
structure LawR (env:Env) (n:Nat) (l r:Int) (f g:Nat->Int) (ct vl Dl Dh:Addr) (m:Str->Option Value) (h:Heap):Prop where
 n1:1<=n
 n4:n<=4
 R:Hn l r f g
 fr:bZ env (aJ 850) h m
 mc:m "contour" = some (.ref ct)
 ml:m "lower" = some (.ref Dl)
 mh:m "higher" = some (.ref Dh)
 mn:∃ t,m "count" = some (.int n t)
 ct:cL h ct 329 [("vertices",.ref vl)]
 vs:qX h vl ((GX n l r f g).map DY)
 pl:∃ us,PL h Dl (br us)/\us.length=((bn n).filter λk=>decide (f k < g k)).length
 ph:∃ us,PL h Dh (br us)/\us.length=((bn n).filter λk=>decide (g k < f k)).length
section
variable {w:World}{env:Env}{s:ae}{X c1:Addr}
theorem PL.keepL {D:Addr}{a:List Value}(p:PL h D a.toArray)(F:bZ env sc h m)(k:fP env.locals h h'):PL h' D a.toArray:=by
 refine dJ F.fr λfo ef cf nf=>?_
 obtain ⟨n,e⟩:=p
 exact ⟨n,k D _ (λq=>by
  have e':h.get? env.locals=some _:=q▸e
  rw [ef] at e';cases e';simp at cf) e⟩
theorem rE {x:Stmt}{r:List Stmt}{Q:Flow->ae->Prop}{t:Nat}(hx:wpAny (Md w) A (exec x env) (λfl s'=>fl=.next/\∃ h' t',s'=up (ng s) h' t'/\wpAny (Mq pg w) A (execs r env) Q E (up s h' t')) (λ_ _=>False) (up (ng s) h t)):wpAny (Mq pg w) A (execs (x :: r) env) Q E (up s h t):=
 aK (cj (aR hx (λfl s' z=>by
  obtain ⟨rfl,h',t',rfl,z⟩:=z
  exact ⟨rfl,z⟩) λ_ _ z=>z.elim))
theorem Cu {Q:Flow->ae->Prop}(hh:A.handled=ac)(hdp:A.depth+1 < aA)(G:Gd w aa)(bs:Sb aa s.heap)(no:aa.get? env.locals=ac/\aa.get? c1=ac/\aa.get? c2=ac)
  (F:bZ env (aJ 850) s.heap m) (hm:m "script" = some (.ref X)) (hX:s.heap.IsList X us.toArray) (hi:∀ u∈us,nH u) (hz:us.length<=63) (ec:env.cells=[(("two" : Str),c2),(("one" : Str),c1)]) (i1:gq s.heap c1 ac) (i2:gq s.heap c2 ac) (c12:c1≠c2)
  (k:∀ h' t' m' n l r f g ct vl Dl Dh,LawR env n l r f g ct vl Dl Dh m' h'->s.heap.get? vl=ac->(∀ b o,b≠env.locals->b≠c1->b≠c2->s.heap.get? b=some o->h'.get? b=some o)->wpAny (Mq pg w) A (execs [T9 (dE 22) (dE 23) (dE 24)] env) Q E (up s h' t')) :
  wpAny (Mq pg w) A (execs [T0 (dE 0),T1 (dE 1) (dE 2),T2 (dE 3),T3 (dE 4) (dE 5) (dE 6) (dE 7) (dE 8),T4 (dE 9) (dE 10) (dE 11),T5 (dE 12) (dE 13),T6 (dE 14) (dE 15),T7 "lower" .Lt sc7 (dE 16) (dE 17) (dE 18),T7 "higher" .Gt sc8 (dE 19) (dE 20) (dE 21),T9 (dE 22) (dE 23) (dE 24)] env) Q E s:=by
 refine dJ F.fr λfo ef cf nf=>?_
 have off:∀ {b:Addr}{o:Obj},aa.get? b=some o->b≠env.locals/\b≠c1/\b≠c2:=λe=>⟨λq=>ns (no.1.symm.trans (q▸e)),λq=>ns (no.2.1.symm.trans (q▸e)),λq=>ns (no.2.2.symm.trans (q▸e))⟩
 have nc:c1≠env.locals/\c2≠env.locals:=by
  obtain ⟨s1,e1⟩:=i1
  obtain ⟨s2,e2⟩:=i2
  exact ⟨λq=>by rw [q,ef] at e1;cases e1;simp at cf,λq=>by rw [q,ef] at e2;cases e2;simp at cf⟩
 refine rE (h:=s.heap) (t:=s.toks) (w0 (s:=up (ng s) s.heap s.toks) F hm hX hi hz λh1 t1 n tn n1 n4 F1 k1=>⟨rfl,h1,t1,rfl,?_⟩)
 have hX1:h1.IsList X us.toArray:=dJ hX λo e c r=>⟨o,k1 X o (λq=>by rw [q,ef] at e;cases e;simp [cf] at c) e,c,r⟩
 refine rE (w1 (s:=up (ng s) h1 t1) G (λb o e=>k1 b o (off e).1 (bs b o e)) F1 (Eq.trans (by lk) hm) hX1 hi hz λh2 t2 D2 us2 z2 i2' p2 F2 k2=>⟨rfl,h2,t2,rfl,?_⟩)
 refine rE (w2 (s:=up (ng s) h2 t2) hh Gq.1 F2 (by lk) p2 i2' z2 λh3 t3 D3 us3 z3 i3 p3 F3 k3=>⟨rfl,h3,t3,rfl,?_⟩)
 have k13:=(k1.trans k2).trans k3
 obtain ⟨u0,e0⟩:=rO i3 (k:=0) (by rw [z3];decide)
 obtain ⟨u1,e1⟩:=rO i3 (k:=1) (by rw [z3];decide)
 refine rE (w3 (s:=up (ng s) h3 t3) (c1:=c1) (c2:=c2) (n:=n) hh F3 (by lk) (tn:=tn) (by lk) p3 z3 e0 e1 ec (let ⟨sl,e⟩:=i1;⟨sl,k13 _ _ nc.1 e⟩) (let ⟨sl,e⟩:=i2;⟨sl,k13 _ _ nc.2 e⟩) c12 λh4 t4 Da Db F4 L4 k4=>⟨rfl,h4,t4,rfl,?_⟩)
 have k14:∀ b o,b≠env.locals->b≠c1->b≠c2->s.heap.get? b=some o->h4.get? b=some o:=λb o x y z e=>k4 b o x y z (k13 b o x e)
 have b4:Sb aa h4:=λb o e=>k14 b o (off e).1 (off e).2.1 (off e).2.2 (bs b o e)
 have lo:((us3.drop 2).take n).length=n:=to z3 (by decide) n4
 have lt:((us3.drop 6).take n).length=n:=to z3 (by decide) n4
 have fo:∀ j,j < n->∃ t,((us3.drop 2).take n)[j]? = some (.int (hv us3 (2+j)) t):=λj hj=>by rw [tt hj];exact rO i3 (wg z3 (by decide) n4 hj)
 have fg:∀ j,j < n->∃ t,((us3.drop 6).take n)[j]? = some (.int (hv us3 (6+j)) t):=λj hj=>by rw [tt hj];exact rO i3 (wg z3 (by decide) n4 hj)
 refine rE (w4 (s:=up (ng s) h4 t4) (n:=n) (f:=λj=>hv us3 (2+j)) (tn:=tn) (l:=hv us3 0) (r:=hv us3 1) hh G b4 F4 (by lk) n4 (tl:=u0) (by lk) (tr:=u1) (by lk) L4 lo fo λh5 t5 D5 v5 F5 k5=>⟨rfl,h5,t5,rfl,?_⟩)
 have b5:Sb aa h5:=λb o e=>k5 b o (off e).1 (b4 b o e)
 refine rE (w5 (s:=up (ng s) h5 t5) (n:=n) (f:=λj=>hv us3 (6+j)) (tn:=tn) hh G b5 F5 (by lk) n1 n4 (by lk) v5 (by rw [bG,bG,bW,cR];exact au (Nat.add_le_add_right (aT n4 1) 1) (by decide)) (L4.keep F4 k5) lt fg λh6 t6 D6 v6 F6 k6=>⟨rfl,h6,t6,rfl,?_⟩)
 have b6:Sb aa h6:=λb o e=>k6 b o (off e).1 (b5 b o e)
 have R:Hn (hv us3 0) (hv us3 1) (λj=>hv us3 (2+j)) λj=>hv us3 (6+j):=⟨wx i3 _,wx i3 _,λk=>wx i3 _,λk=>wx i3 _⟩
 have v6':qX h6 D6 ((EE n (hv us3 0) (hv us3 1) (λj=>hv us3 (2+j)) λj=>hv us3 (6+j)).map prC):=by rw [GV];exact v6
 refine rE (w6 (s:=up (ng s) h6 t6) hh hdp G b6 F6 (by lk) v6' (wD R n4).1 (wD R n4).2 λh7 t7 ct vl n7 c7 v7 F7 k7=>⟨rfl,h7,t7,rfl,?_⟩)
 rw [GU] at v7
 have b7:Sb aa h7:=λb o e=>k7 b o (off e).1 (b6 b o e)
 have L7:=((L4.keep F4 k5).keep F5 k6).keep F6 k7
 refine rE (w7 (s:=up (ng s) h7 t7) (n:=n) (tn:=tn) (r:=λa b=>decide (a < b)) (f:=λj=>hv us3 (2+j)) (g:=λj=>hv us3 (6+j)) hh Gq.2.1 (by rfl) (λa b ta tb Q E s q=>lt_int q) (by lk) (by lk) (by lk) ⟨by lk,by lk,by lk⟩ (λenv c1 c2=>by lk) G b7 F7 (by lk) n4 L7 lo lt fo fg λh8 t8 D8 u8 p8 z8 F8 k8=>⟨rfl,h8,t8,rfl,?_⟩)
 have b8:Sb aa h8:=λb o e=>k8 b o (off e).1 (b7 b o e)
 refine rE (w7 (s:=up (ng s) h8 t8) (n:=n) (tn:=tn) (r:=λa b=>decide (b < a)) (f:=λj=>hv us3 (2+j)) (g:=λj=>hv us3 (6+j)) hh Gq.2.2 (by rfl) (λa b ta tb Q E s q=>gt_int q) (by lk) (by lk) (by lk) ⟨by lk,by lk,by lk⟩ (λenv c1 c2=>by lk) G b8 F8 (by lk) n4 (L7.keep F7 k8) lo lt fo fg λh9 t9 D9 u9 p9 z9 F9 k9=>⟨rfl,h9,t9,rfl,?_⟩)
 have k49:=(((k5.trans k6).trans k7).trans k8).trans k9
 refine k h9 t9 _ n _ _ _ _ ct vl D8 D9 ⟨n1,n4,R,F9,by lk,by lk,by lk,⟨tn,by lk⟩,(c7.keepL F7 k8).keepL F8 k9,(v7.keepL F7 k8).keepL F8 k9,⟨u8,p8.keepL F8 k9,z8⟩,⟨u9,p9,z9⟩⟩ ?_ λb o x y z e=>k49 b o x (k14 b o x y z e)
 cases q:s.heap.get? vl with
 | none=>rfl
 | some o =>
  have L6:=(L4.keep F4 k5).keep F5 k6
  have x1:vl≠env.locals:=λz=>dJ F6.fr λ_ e _ _=>ns (n7.symm.trans (z▸e))
  have x2:vl≠c1:=λz=>by obtain ⟨_,e⟩:=L6.i1;exact ns (n7.symm.trans (z▸e))
  have x3:vl≠c2:=λz=>by obtain ⟨_,e⟩:=L6.i2;exact ns (n7.symm.trans (z▸e))
  exact ns (n7.symm.trans (k6 _ _ x1 (k5 _ _ x1 (k14 _ _ x1 x2 x3 q))))
end
structure LawE (w:World) (aa:Heap) (os:fz) (env:Env) (n:Nat) (Dl Dh:Addr) (a b:Nat) (s:ae):Prop where
 G:∃ g,Gd w g/\Sb g s.heap
 fr:∃ m,bZ env (aJ 850) s.heap m/\m "lower" = some (.ref Dl)/\m "higher" = some (.ref Dh)/\∃ t,m "count" = some (.int n t)
 pl:∃ us,PL s.heap Dl (br us)/\us.length=a
 ph:∃ us,PL s.heap Dh (br us)/\us.length=b
 old:OldK aa s.heap
 os:s.os=os
 gok:sD s
section
variable {w:World}{env:Env}{s:ae}{X c1 Dl Dh ct vl:Addr}{os:fz}{n a b:Nat}
theorem sD.up (g:sD s){t:Nat}(k:Sb s.heap h'):sD (up s h' t):=⟨g.1,λx hx=>by
 have:=g.2 x hx
 cases x<;>first | trivial | exact λa ha=>bg (this a ha) λo e z=>⟨o,k _ _ e,z⟩⟩
theorem tJ {y:Str}{p:Nat->Pos}{D:Addr}(G:Gd w aa)(bs:Sb aa s.heap)(F:bZ env (aJ 850) s.heap m)(hy:m y=some (.ref D))(hl:(aJ 850).names.lookup y=some .local)(hd:(y == ("__debug__" : Str))=false)(hc:m "count" = some (.int n tn))(pD:PL s.heap D us.toArray)(hz:us.length<=1000)
  (q:∀ t',Q (.bool (decide (us.length < n))) (Internal.up s s.heap t')):wpAny (Md w) A (eval (pS y p) env) Q E s:=by
 refine wpAny_Compare1 (aN (sy (v:=.builtin "len") F G bs (cw (am (hU F hy (az ⟨xq,len_list pD.T (pT hz) ?_⟩) hl hd)))))
 refine hU (s:=Internal.up s s.heap _) F hc (lt_int ?_)
 have e:decide (((us.toArray.size:Nat):Int) < (n:Int))=decide (us.length < n):=by simp
 rw [e]
 exact q _
theorem Cv {p:Pos}{pa pb:Nat->Pos}(x:LawE w aa os env n Dl Dh a b s)(ha:a<=4)(hb:b<=4)(k:∀ t',Q (.bool true) (Internal.up s s.heap t')) :
  wpAny (Mq pg w) A (eval (.BoolOp .And [pS "lower" pa,pS "higher" pb] p) env) (λv s2=>wpAny (Mq pg w) A (dH .Eq (.bool (decide (a < n) && decide (b < n))) v) Q E s2) E s:=by
 refine bg x.G λg G bs=>el14 x.fr λm F ml mh mt=>bg x.pl λul pl zl=>bg x.ph λuh ph zh=>?_
 obtain ⟨tn,mt⟩:=mt
 subst zl zh
 refine cj (wpAny_And2 (tJ (s:=ng s) G bs F ml (by lk) (by lk) mt pl (au ha (by decide)) λt1=>cH ?_))
 cases q:decide (ul.length < n) with
 | false=>exact ⟨rfl,cj (eq_bool ⟨rfl,k t1⟩)⟩
 | true=>exact tJ (s:=Internal.up (ng s) s.heap t1) G bs F mh (by lk) (by lk) mt ph (au hb (by decide)) λt2=>⟨rfl,cj (eq_bool ⟨rfl,by rw [Bool.true_and,beq_self_eq_true];exact k t2⟩)⟩
end
section
set_option maxHeartbeats 200000
abbrev Gm (n:Nat)(Dl Dh:Addr):Lo:=put (put (put (λ_=>ac) "lower" (.addr Dl)) "higher" (.addr Dh)) "count" (.int n)
theorem FH {lo:Lo}{x:Str}{v:Mv}{u:Value}(h:∀ y v,lo y=some v->∃ u,m y=some u/\∀ R h,V R h v u)(e:m x=some u)(hv:∀ R h,V R h v u):∀ y v',put lo x v y=some v'->∃ u,m y=some u/\∀ R h,V R h v' u:=λy v' q=>by
 unfold put at q
 by_cases z:y=x
 ·rw [if_pos z] at q;cases q;exact ⟨u,z▸e,hv⟩
 ·rw [if_neg z] at q;exact h y v' q
section
variable {w:World}{env:Env}{s:ae}{X c1 Dl Dh ct vl:Addr}{os:fz}{n a b:Nat}{l r:Int}{f g:Nat->Int}
theorem CM {s:ae}(h:s.gens=#[]):sD s:=by
 obtain ⟨hp,gg,d,t,os⟩:=s
 cases h
 exact ⟨λy hy=>(Array.not_mem_empty y hy).elim,λy hy=>(Array.not_mem_empty y hy).elim⟩
theorem old_k (s:ae)(X:(K w.params).In aa)(ht:aa.get? 613=some (fv #[])/\aa.get? 840=some (fv #[]))(k:∀ b o,b∉eP->aa.get? b=some o->h.get? b=some o)(t:∀ a∈eP,∃ ps,h.get? a=some (fv ps)):OldK aa h:=by
 have tab:∀ T c,T∈eP->CodeHd aa c T->aa.get? T=some (fv #[])->∀ o,aa.get? T=some o->asItWas aa h T o/\∃ o',h.get? T=some o':=λT c hT hd e o eo=>by
  refine el95 hd λoc vs _ _ _ _ _ _ _ e1 e2 e3 e4 _=>?_
  obtain ⟨ps,z⟩:=t T hT
  rw [e] at eo;cases eo
  exact ⟨.inr (.inl ⟨⟨c,oc,vs,e1,e2,e3,e4⟩,rfl,#[],ps,rfl,by rw [z];simp⟩),_,z⟩
 have all:∀ b o,aa.get? b=some o->asItWas aa h b o/\∃ o',h.get? b=some o':=λb o e=>by
  by_cases q:b∈eP
  ·rcases aq.mp q with z | z
   ·exact z▸tab 613 617 (.head _) (Er (s:={ s with heap:=aa }) X) ht.1 o (z▸e)
   ·have z:=ah.mp z
    exact z▸tab 840 844 (.tail _ (.head _)) (Ep X) ht.2 o (z▸e)
  ·exact ⟨.inl (k b o q e),o,k b o q e⟩
 exact ⟨λb o e=>(all b o e).1,λb o e=>(all b o e).2⟩
theorem Ct {mean:ExcName->Option Value}{lo:List Str}{mg mb:Str->Option Value}{pr:bF}{Q:Flow->ae->Prop}(x:LawR env n l r f g ct vl Dl Dh m s.heap)(T:Top pr lo mean mg mb aa)(X:(K w.params).In aa)(ht:aa.get? 613=some (fv #[])/\aa.get? 840=some (fv #[]))(bs:Sb aa s.heap)(no:aa.get? env.locals=ac)(nv:aa.get? vl=ac)
  (hg:s.gens=#[]) (hA:A.frames=some [env]) (O:Ok (80+12) A) (k:∀ s',OldK aa s'.heap->s'.os=s.os->sD s'->Q (.ret (.bool true)) s'):wpAny (Mq pg w) A (execs [T9 (dE 22) (dE 23) (dE 24)] env) Q E s:=by
 have hts:∀ a∈eP,aa.get? a=some (fv #[]):=λa ha=>(aq.mp ha).elim (λq=>q▸ht.1) λq=>ah.mp q▸ht.2
 have G:Gd w (bJ aa eP):=CO T X λa ha=>⟨_,hts a ha⟩
 have bs0:Sb (bJ aa eP) s.heap:=λb o e=>bs b o (di _ e)
 refine cB (zY x.R x.n1 x.n4) λH cs hc says=>?_
 have la:((bn n).filter λk=>decide (f k < g k)).length<=4:=au (List.length_filter_le _ _) (by rw [cR];exact x.n4)
 have lb:((bn n).filter λk=>decide (g k < f k)).length<=4:=au (List.length_filter_le _ _) (by rw [cR];exact x.n4)
 have fin:∀ s',LawE w aa s.os env n Dl Dh _ _ s'->wpAny (Mq pg w) A (eval (.BoolOp .And [pS "lower" (dE 23),pS "higher" (dE 24)] (dE 22 6)) env) (λv s2=>wpAny (Mq pg w) A (dH .Eq (.bool (decide (((bn n).filter λk=>decide (f k < g k)).length < n) && decide (((bn n).filter λk=>decide (g k < f k)).length < n))) v) (λv s3=>Q (.ret v) s3) E s2) E s':=λs' y =>
  Cv y la lb λt'=>k _ y.old y.os (y.gok.up λ_ _ e=>e)
 refine aK (cV (wpAny_Compare1 (aN (cj (wm (s:=ng s) (v:=.ref 845) x.fr G bs0 ⟨rfl,?_⟩)))))
 have X':(K w.params).In s.heap:=X.keeps bs
 refine callWith_KW (K:=K w.params) X' (by lk) (by rfl) (am (cj (hU (s:=ng s) x.fr x.mc ⟨rfl,az (kwAll_cons (aN (cj (wm (s:=ng s) (v:=.ref 369) x.fr G bs0 ⟨rfl,cw0 (wn X' (by lk)) (cj (Cp (s:=ng s) X' λh2 t2 cx k2 ix=>⟨rfl,kwAll_nil ⟨X'.keeps k2,bw ?_⟩⟩))⟩))))⟩)))
 have F2:=x.fr.up k2
 refine bg (x.vs.up k2) λus y3 hV=>?_;obtain ⟨ku,eu⟩:=y3
 have D:Wd w (bJ aa eP) ⟨false,λ_=>0,[vl],H⟩ [cs] [env.locals] h2:=⟨G,λb o e=>k2 b o (bs0 b o e),λc hc=>fS (λb o e=>di _ e) ((aq.mp hc).elim (λq=>q▸nv) λq=>ah.mp q▸no),nofun,⟨iy.mpr ⟨nofun,.nil⟩,.cons ⟨us,ku,eu,uU.mp (hc.symm▸hV _)⟩ .nil⟩,λa ha=>ah.mp ha▸F2.fr⟩
 have tb:∀ a∈eP,h2.get? a=some (fv #[]):=λa ha=>k2 _ _ (bs _ _ (hts a ha))
 have pre:EQ w (bJ aa eP) ⟨false,λ_=>0,[vl],H⟩ [env.locals] vl ct cx cs h2:=⟨D,rfl,rfl,x.ct.ext k2,ix,λa ha=>dX _ ha,λa ha=>⟨_,tb a ha⟩,⟨#[],tb _ (.head _),trivial,.inl rfl⟩,⟨#[],tb _ (.tail _ (.head _)),trivial,.inl rfl⟩⟩
 have offI:∀ {b o},aa.get? b=some o->b∉[vl]/\b∉[env.locals]:=λe=>⟨λq=>ns (nv.symm.trans (ah.mp q▸e)),λq=>ns (no.symm.trans (ah.mp q▸e))⟩
 have ulen:us.length=2 * n+2:=by
  rw [<- (hV Rz).length,bW]
  unfold GX
  rw [List.length_cons,bG,bW,cR,List.length_cons,List.length_reverse,bW,cR,Nat.two_mul];rfl
 have offL:∀ {D:Addr}{ul:List Value},PL s.heap D ul.toArray->ul.length<=4->ul.length<=n->D∉[vl]/\D∉[env.locals]/\D∉eP:=λ{D ul} pl _ hl=>by
  obtain ⟨kk,e⟩:=pl.up k2
  refine ⟨λq=>?_,λq=>?_,λq=>?_⟩
  ·have e':h2.get? D=some _:=e
   rw [ah.mp q,show h2.get? vl=some _ from eu] at e'
   have z:us.toArray=ul.toArray:=by injection e' with e';injection e' with _ _ e';injection e'
   have z:us.length=ul.length:=congrArg Array.size z
   rw [<- z,ulen] at hl
   exact absurd hl (Nat.not_le.mpr (av (Nat.le_mul_of_pos_left n (by decide)) (cr (by decide))))
  ·refine dJ F2.fr λfo ef cf nf=>?_
   have e':h2.get? D=some _:=e
   rw [ah.mp q,ef] at e';cases e';simp at cf
  ·have e':h2.get? D=some _:=e
   rw [tb D q] at e';cases e'
 have out:wP [env.locals] h2 (env,aJ 850,Gm n Dl Dh):=by
  obtain ⟨tn,mn⟩:=x.mn
  exact ⟨.head _,⟨m,F2,FH (FH (FH (λy v e=>ns e) x.ml λ_ _=>.addr _) x.mh λ_ _=>.addr _) mn λ_ _=>.int _ _⟩,j4 (j4 (j4 rfl rfl) rfl) rfl⟩
 have pl:=x.pl
 have ph:=x.ph
 have keepP:∀ {h3:Heap},(∀ b o,b∉[vl]->b∉[env.locals]->b∉eP->h2.get? b=some o->h3.get? b=some o)->(∃ us,PL h3 Dl (br us)/\us.length=((bn n).filter λk=>decide (f k < g k)).length)/\∃ us,PL h3 Dh (br us)/\us.length=((bn n).filter λk=>decide (g k < f k)).length:=λ{h3} kk =>
  have one:∀ {D:Addr}{a:Nat},a<=4->a<=n->(∃ us,PL s.heap D (br us)/\us.length=a)->∃ us,PL h3 D (br us)/\us.length=a:=λ{D a} h4 hn ⟨us,p,q⟩ =>
   have o:=offL p (q▸h4) (q▸hn)
   have ⟨j,e⟩:=p.up k2
   ⟨us,⟨j,kk _ _ o.1 o.2.1 o.2.2 e⟩,q⟩
  have ln:∀ q:Nat->Bool,((bn n).filter q).length<=n:=λq=>au (List.length_filter_le _ _) (by rw [cR];exact aQ _)
  ⟨one la (ln _) pl,one lb (ln _) ph⟩
 refine q_csi (s:=up s h2 _) (outs:=[(env,aJ 850,Gm n Dl Dh)]) (n:=77) pre (λi y e=>?_) (λy hy=>ah.mp hy▸out) ⟨[env],hA,λe he=>⟨_,.head _,ah.mp he⟩⟩ O ⟨[env],hA,λe he=>?_⟩ says ⟨λh' t' D' P' hb=>fin _ ?_,λaaf W s' fs wo CK=>fin s' ?_⟩
 ·rw [show (up s h2 _).gens=s.gens from rfl,hg] at e
  exact ns e
 ·rw [ah.mp he]
  exact ⟨by rw [F2.sce,F2.kind];simp,_,.head _,F2.frame⟩
 ·have kp:=keepP λb o n1 n2 _ e=>P'.old b o n1 n2 e
  obtain ⟨tn,mn⟩:=x.mn
  exact ⟨⟨_,G,D'.old⟩,⟨m,F2.pg D P' nofun,x.ml,x.mh,tn,mn⟩,kp.1,kp.2,.of_keep λb o e=>P'.old b o (offI e).1 (offI e).2 (k2 _ _ (bs _ _ e)),rfl,CM hg⟩
 ·refine el63 fs λeB R' L' loI lo' st hC sw gok=>?_
  have kp:=keepP λb o n1 n2 n3 e=>sw.D.old _ _ (CK.old b o (λq=>(aL.mp q).elim n1 n2) n3 e)
  refine bg (sw.mO (env,aJ 850,Gm n Dl Dh) (wo.1▸.head _)).1.2 λm' F' y=>?_
  refine bg (y "lower" (.addr Dl) (by lk)) λu1 e1 v1=>bg (y "higher" (.addr Dh) (by lk)) λu2 e2 v2=>bg (y "count" (.int n) (by lk)) λu3 e3 v3=>?_
  cases v3 with | mk tn =>
  have y1:m' "lower" = some (.ref Dl):=e1.trans (congrArg some v1)
  have y2:m' "higher" = some (.ref Dh):=e2.trans (congrArg some v2)
  have y3:s'.os=s.os:=sw.oe.trans wo.2
  have y4:∀ b o,b∉eP->aa.get? b=some o->s'.heap.get? b=some o:=λb o nt e=>sw.D.old _ _ (CK.old b o (λq=>(aL.mp q).elim (offI e).1 (offI e).2) nt (k2 _ _ (bs _ _ e)))
  have y5:∀ a∈eP,∃ ps,s'.heap.get? a=some (fv ps):=λa ha=>let ⟨ps,e⟩:=CK.ht a ha;⟨ps,sw.D.old _ _ e⟩
  exact ⟨⟨_,sw.D.G,sw.D.old⟩,⟨m',F',y1,y2,tn,e3⟩,kp.1,kp.2,old_k s X ht y4 y5,y3,gok⟩
end
end
theorem fb850:FB 850:=⟨λP=>⟨ac,by lk⟩,by lk,by lk,by lk,by lk,λP=>by lk,by lk,by lk,by lk⟩
theorem Cc {xs:List WData}(h:nU.row.toRowW.pre.holds nU.row.toRowW.records { args:=[.list xs] }=true):xs.length<=63:=by
 have e:nU.row.toRowW.pre=.and (.not (.lt (.lit (.int 63)) (.len (.arg 0)))) (.lit (.bool true)):=by lk
 rw [e] at h
 have l:WTm.value nU.row.toRowW.records (.lt (.lit (.int 63)) (.len (.arg 0))) { args:=[.list xs] }=some (.bool (decide ((63:Int) < xs.length))):=by lk
 cases q:decide ((63:Int) < xs.length) with
 | false=>have:=of_decide_eq_false q;omega
 | true =>
  rw [q] at l
  have n:WTm.value nU.row.toRowW.records (.not (.lt (.lit (.int 63)) (.len (.arg 0)))) { args:=[.list xs] }=some (.bool false):=by
   show (match WTm.value nU.row.toRowW.records (.lt (.lit (.int 63)) (.len (.arg 0))) { args:=[.list xs] } with | some (.bool b)=>some (WData.bool (!b)) | _=>none)=_
   rw [l];rfl
  have a:WTm.value nU.row.toRowW.records (.and (.not (.lt (.lit (.int 63)) (.len (.arg 0)))) (.lit (.bool true))) { args:=[.list xs] }=some (.bool false):=by
   unfold WTm.value
   rw [n]
  unfold WTm.holds at h
  rw [a] at h
  exact nomatch h
theorem CH {cl:Str->Option Addr}:∀ {us:List Value}{xs:List WData}{as:List Addr},ReadsAllW [] cl h us xs as->WShape.hasItems [] xs .int=true->us.length=xs.length/\∀ u∈us,nH u:=by
 intro us
 induction us with
 | nil=>intro xs as r _;cases r;exact ⟨rfl,nofun⟩
 | cons u us ih =>
  intro xs as r k
  cases r with | cons a b =>
  have z:=bP.mp (show (WShape.has [] _ .int && WShape.hasItems [] _ .int)=true from by simpa [WShape.hasItems] using k)
  have y:=ih b z.2
  refine ⟨congrArg (· + 1) y.1,λv hv=>(aq.mp hv).elim (λq=>?_) (y.2 v)⟩
  refine (hasW_int z.1).elim λi e=>?_
  subst e
  cases a
  exact ⟨_,_,q⟩
section
set_option maxHeartbeats 400000
theorem Cw {args:List WData}{aam aan:ae}(o:OldK aan.heap s'.heap)(e:s'.os=aan.os)(g:sD s') :
  GoodWG nU.row.toRowW.claim (classAt aam.heap) (ExcName.means aam.heap) args aan (.ok (.ret (.bool true))) s'/\sD s':=
 ⟨⟨.inl ⟨.bool true,.bool true,[],rfl,λcls=>by lk,.bool true,by lk,λ_=>⟨.nil,nofun⟩⟩,o,e,g.1⟩,g⟩
theorem xo:Bd qv lo (λ_ _=>True) YP nU.row.toRowW oS [] λf vs=>PySem.call f vs:=by
 intro w aam aan mg mb G y a o pm cd doc dV kV hat hdat hcode hdfl hname hgens args vals as hpre hlay reads well low
 have X:=y.1
 have ha:a=850:=by
  have z:=mg_of (n:="law") (v:=.ref 850) X G.T.g (by lk)
  have z':mg "law" = some (.ref a):=by
   have e:oS.name = "law":=by lk
   rw [<- e];exact hname
  rw [z] at z'
  cases z';rfl
 subst ha
 have pre:=pre_splitW hpre
 refine (hasAllW_cons (e:=.list .int) (es:=[]) pre.1).elim λd z=>z.elim λrr z=>?_
 obtain ⟨rfl,hd,hr⟩:=z
 have hr':=hasAllW_nil hr
 subst hr'
 obtain ⟨xs,rfl,hx⟩:=hasW_list hd
 have len:=Cc pre.2
 obtain ⟨v,vs,as1,as2,rfl,rfl,rv,rvs⟩:=readsAllW_cons_inv reads
 obtain ⟨rfl,rfl⟩:=readsAllW_nil_inv rvs
 obtain ⟨l,ol,fO,nl,ai,rfl,hol,hcl,hdt,ri,rfl⟩:=readsW_list_open rv
 have iR:=CH ri hx
 have hX:aan.heap.IsList l fO.toList.toArray:=by rw [Array.toArray_toList];exact ⟨ol,hol,hcl,nl,hdt⟩
 have epg:nU.row.toRowW.prog=pg:=by unfold pg;rfl
 show wpAny (Mq nU.row.toRowW.prog w) callerA (PySem.call (.ref 850) [.ref l]) _ _ aan
 rw [epg]
 refine bw (wf (AY (A:=callerA) (x:="script") (v:=.ref l) (a:="one") (b:="two") fb850 X G.T.nolimit (by decide) (dU (by lk)) (λn=>by lk) (λh=>by lk) (by lk) λh' t' env F hloc hcells i1 i2 kp=>rD ?_))
 rw [b850]
 have nn:∀ k,aan.heap.get? (aan.heap.objs.size+k)=none:=λk=>aB (aE _ _)
 have no:aan.heap.get? env.locals=none:=hloc▸nn 0
 refine Cu (s:=up aan h' t') (c1:=aan.heap.objs.size+1) (c2:=aan.heap.objs.size+2) rfl (show callerA.depth+1+1 < aA by decide) ⟨X,_,_,_,_,_,G.T⟩ kp ⟨no,nn 1,nn 2⟩ F (by lk) (hX.at λo e=>kp l o e) iR.2 (iR.1▸len) hcells i1 i2 (bV (cD _)) λh2 t2 m' n l r f g ct vl Dl Dh R nv kk=>?_
 refine Ct (s:=up aan h2 t2) R G.T X y.2 (λb o e=>kk b o (λq=>?_) (λq=>?_) (λq=>?_) (kp b o e)) no (fS kp nv) hgens rfl (lW (n:=92) ⟨rfl,by decide,by decide⟩) λs' old os gok=>Cw old os gok
 ·rw [q,no] at e;exact ns e
 ·rw [q,nn 1] at e;exact ns e
 ·rw [q,nn 2] at e;exact ns e
theorem Hz:PySem.Challenge.rw_ba0023_04.Holds:=headQ xo
end
end Internal
end
theorem PySem.Challenge.cw_ba0023_04_holds : PySem.Challenge.rw_ba0023_04.Holds :=
 Internal.Hz
