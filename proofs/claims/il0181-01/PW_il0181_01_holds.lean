import PyProof.Rows.All
import Wide.All
import OpenK.AllK
import Wide.FinOn
import OpenK.XGo
import PyProof.Conv_bool
import PyProof.TupleOfSeq
import PyProof.Dict
import PyProof.StationsW
import PyProof.PassesOwn
import PyProof.RulesTry
import PyProof.ExcFactsAll.ValueError
import PyProof.RulesRaise
import PyProof.ReprStr
import PyProof.Rows.FStr
import PyProof.StrLawsRepr
import PyProof.IsiBase
import PyProof.SetRoads
import PyProof.SetNew
import PyProof.MeetsDictList
import PyProof.DictWalks
import PyProof.Rows.SortStr
import PyProof.Rows.SeqMore
import KE.KStar
import PyProof.Rows.StrInSeq3
import KE.KBoundM
import KE.KSuperObj
import Lean
import PySem.Challenge.RW_il0181_01
set_option Elab.async false
set_option maxRecDepth 100000
set_option maxHeartbeats 8000000
set_option linter.all false
namespace Il
open PySem PySem.W PyProof.Rows
abbrev ay:=@PySem.wpAny_bind
abbrev aK:=@Nat.le_trans
abbrev bx:=@PySem.wpAny_pure
abbrev bD:=@List.length_map
abbrev bI:=@if_neg
abbrev bP:=@List.mem_cons
abbrev bZ:=@List.mem_map
abbrev b3:=@if_pos
abbrev b9:=@List.not_mem_nil
abbrev cn:=@List.mem_singleton
abbrev cz:=@Nat.lt_of_lt_of_le
abbrev cG:=@Nat.le_refl
abbrev c6:=@List.map_map
abbrev c5:=@PySem.wpAny_mono
abbrev df:=@List.mem_append
abbrev di:=@Nat.le_of_eq
abbrev dA:=@PySem.wpAny_execs_cons
abbrev dG:=@List.map_cons
abbrev dL:=@PySem.Heap.lt_size
abbrev dT:=@PySem.Heap.get?_push_size
abbrev dZ:=@PySem.wpAny_holding
abbrev d1:=@List.all_eq_true
abbrev d3:=@List.map_append
abbrev d4:=@List.getElem?_eq_getElem
abbrev d9:=@List.mem_map_of_mem
abbrev ew:=@Nat.le_of_lt
abbrev ey:=@Nat.lt_irrefl
abbrev ez:=@List.mem_append_right
abbrev eH:=@or_false
abbrev eN:=@PySem.Heap.size_push
abbrev eZ:=@Nat.not_lt
abbrev e2:=@List.mem_append_left
abbrev eY:=@List.mem_filter
abbrev e1:=@PySem.Heap.get?_push_of_some
abbrev fc:=@List.mem_of_getElem?
abbrev ff:=@Nat.lt_trans
abbrev fd:=@if_false
abbrev fm:=@List.getElem?_map
abbrev fv:=@if_true
abbrev fw:=@PySem.Heap.SameBut.update
abbrev fx:=@Bool.false_eq_true
abbrev fH:=@List.filter_cons
abbrev fO:=@List.nodup_cons
abbrev fZ:=@PySem.wpAny_of_eq
abbrev gq:=@PySem.mem_of_lookup
abbrev gr:=@List.map_congr_left
abbrev gl:=@Int.toNat_natCast
abbrev gz:=@List.size_toArray
abbrev gv:=@Prod.mk.inj
abbrev gK:=@PySem.wpAny_standAt
abbrev gL:=@List.getElem?_eq_some_iff
abbrev g9:=@List.lookup_cons
abbrev hg:=@PySem.wpAny_call
abbrev hb:=@Nat.lt_succ_self
abbrev hh:=@beq_iff_eq
abbrev hz:=@decide_eq_true
abbrev ht:=@Nat.le_succ_of_le
abbrev hE:=@List.length_cons
abbrev hw:=@Nat.le_succ
abbrev hM:=@List.nodup_nil
abbrev hL:=@List.mem_range
abbrev ib:=@List.length_append
abbrev ia:=@List.nodup_append
abbrev h8:=@decide_eq_true_eq
abbrev ig:=@decide_false
abbrev h4:=@PySem.codeAny_mono
abbrev iq:=@PySem.wpAny_truthy_bool
abbrev is:=@Nat.lt_succ_of_lt
abbrev iF:=@List.mem_cons_self
abbrev iw:=@congrArg
abbrev iG:=@beq_eq_false_iff_ne
abbrev iv:=@Nat.add_le_add
abbrev iy:=@List.append_nil
abbrev i0:=@Nat.le_of_lt_succ
abbrev iY:=@List.mem_cons_of_mem
abbrev iR:=@Bool.and_eq_true
abbrev jq:=@PySem.isSubtype_type
abbrev jp:=@List.getD_eq_getElem?_getD
abbrev jN:=@List.take_length
abbrev jO:=@PySem.Calls.spliced_cons
abbrev jJ:=@PySem.wpAny_newObj_type
abbrev jS:=@Nat.le_add_right
abbrev jT:=@decide_eq_false
abbrev kg:=@PySem.Calls.evalArgs_plain
abbrev ka:=@Option.map_eq_some_iff
abbrev kf:=@List.take_add_one
abbrev ki:=@Nat.lt_of_le_of_lt
abbrev kD:=@PySem.typeLookup_type
abbrev kH:=@PySem.Calls.spliced_nil
abbrev kO:=@PySem.wpAny_Assign_Name
abbrev kG:=@Nat.ne_of_lt
abbrev kM:=@PySem.builtinLookup_eq_fast
abbrev lp:=@decide_true
abbrev lg:=@Nat.add_le_add_left
abbrev lh:=@List.length_filter_le
abbrev lj:=@Array.length_toList
abbrev lZ:=@PySem.wpAny_field
abbrev l3:=@PySem.Call_name1
abbrev l6:=@Bool.false_ne_true
abbrev l1:=@Ne.symm
abbrev lX:=@Bool.not_eq_true'
abbrev lU:=@Nat.zero_le
abbrev lW:=@PySem.W.Looks.ld
abbrev mb:=@PySem.Value.ref.inj
abbrev mX:=@List.pairwise_iff_getElem
abbrev mN:=@Nat.succ_le_succ
abbrev mM:=@PySem.wpAny_isTrue_Compare1
abbrev m6:=@PySem.Call_method1
abbrev mU:=@List.filter_sublist
abbrev m2:=@PySem.wpAny_Expr_any
abbrev m3:=@PySem.wpAny_assign_Name
abbrev mP:=@List.getElem_mem
abbrev my:=@List.getElem_map
abbrev m4:=@Option.some.inj
abbrev mz:=@PySem.mem_of_lookup
abbrev mQ:=@Nat.le_antisymm
abbrev mE:=@not_false_eq_true
abbrev mH:=@List.find?_cons
abbrev nB:=@Bool.eq_iff_iff
abbrev nJ:=@PySem.wpAny_rule
abbrev nH:=@not_true_eq_false
abbrev nC:=@List.filter_map
abbrev on:=@List.getElem?_eq_none
abbrev oj:=@Nat.add_comm
abbrev oq:=@PySem.wpAny_call_entry
abbrev oC:=@List.map_id
abbrev oc:=@of_decide_eq_true
abbrev od:=@List.length_range
abbrev n8:=@PySem.Heap.get?_update_self
abbrev oe:=@List.append_assoc
abbrev oJ:=@List.getElem_of_mem
abbrev ox:=@Nat.add_le_add_right
abbrev oD:=@beq_self_eq_true
abbrev pp:=@PySem.wpAny_mkText
abbrev pE:=@List.lookup_cons_self
abbrev p3:=@List.filter_append
abbrev p1:=@PySem.W.Looks.of_pure
abbrev pn:=@List.nil_append
abbrev pM:=@List.foldl_append
abbrev pW:=@PySem.strKind_is
abbrev pS:=@List.getElem?_eq_none_iff
abbrev pX:=@PySem.Heap.get?_update_other
abbrev pT:=@Bool.and_true
abbrev pz:=@Nat.le_of_succ_le
abbrev pP:=@Nat.add_right_comm
abbrev pA:=@List.foldl_cons
abbrev pF:=@Nat.le_of_ble_eq_true
abbrev ps:=@Bool.not_not
abbrev rv:=@List.pairwise_append
abbrev qV:=@Nat.lt_trichotomy
abbrev rl:=@PySem.wpAny_attempt
abbrev rr:=@Nat.sub_succ_lt_self
abbrev q0:=@List.length_eq_zero_iff
abbrev qZ:=@PySem.sizeLine_eq
abbrev rF:=@List.find?_append
abbrev q9:=@List.mem_of_mem_take
abbrev qY:=@Nat.lt_or_ge
abbrev rK:=@List.length_nil
abbrev ru:=@Nat.add_assoc
abbrev rD:=@PySem.Obj.isFreed_of_fields
abbrev rP:=@List.filter_eq_self
abbrev rL:=@List.mem_of_find?_eq_some
abbrev rN:=@PySem.W.looks_findIn
abbrev ra:=@PySem.Calls.callWith_function
abbrev ry:=@PyProof.Rows.Attribute_any_
abbrev rg:=@List.pairwise_singleton
abbrev sT:=@List.find?_eq_none
abbrev tr:=@List.filter_eq_nil_iff
abbrev tj:=@List.find?_some
abbrev te:=@List.getElem_range
abbrev s8:=@List.sum_cons
abbrev td:=@List.length_take
abbrev tu:=@List.filter_congr
abbrev sO:=@PySem.entryFor_of_tree
abbrev sV:=@Classical.byContradiction
abbrev tn:=@PySem.wpAny_loadPart
abbrev s7:=@List.getLastD_eq_getLast?
abbrev sU:=@PySem.wpAny_updatePart
abbrev tf:=@Option.isSome_iff_exists
abbrev sR:=@List.length_pos_iff
abbrev s5:=@Int.ofNat_le
abbrev s2:=@Bool.beq_comm
abbrev tq:=@List.flatMap_append
abbrev uG:=@PySem.callWith_builtin1
abbrev uD:=@PySem.F.plainAttrs_list
abbrev u1:=@List.getElem?_toArray
abbrev u9:=@List.filterMap_cons
abbrev u5:=@PySem.Around.frames_deeper
abbrev uT:=@List.mem_flatMap
abbrev vo:=@List.Nodup.sublist
abbrev um:=@Nat.min_le_left
abbrev uV:=@List.mem_take_iff_getElem
abbrev vc:=@List.length_erase_of_mem
abbrev uS:=@List.drop_eq_getElem_cons
abbrev uw:=@Nat.min_eq_left
abbrev uL:=@Nat.succ_ne_self
abbrev ve:=@List.find?_eq_some_iff_getElem
abbrev vd:=@List.length_take_le'
abbrev vh:=@PySem.wpAny_askSetting
abbrev uR:=@List.pairwise_cons
abbrev uW:=@PySem.Calls.Name_function_global
abbrev vi:=@List.cons_append
abbrev xf:=@Option.isSome_some
abbrev wO:=@List.take_of_length_le
abbrev wY:=@List.getElem?_take
abbrev xC:=@PySem.codeAny_call_builtin
abbrev xB:=@List.length_pos_of_mem
abbrev xm:=@PySem.callWith_type1
abbrev xv:=@PySem.wpAny_callSpecial?_slot
abbrev wT:=@decide_eq_false_iff_not
abbrev zy:=@List.getLast?_eq_some_getLast
abbrev Az:=@List.eraseIdx_eq_take_drop_succ
variable {o ak y cs a6 aj dD:Shared} {ao fI oQ hQ hR hS vp kR jU jV x5 p9 lw A0:Pos} {D:Around} {x bN E q:Str} {M:Value->Shared->Prop} {a O c b5 f aa cN cU bB i1:Addr} {A:World} {B:Program} {v em dw:Value} {Q U ab:Str->Option Value} {s aY:Env} {G:Flow->Shared->Prop} {Z ai X F km eP:List Addr} {e iter cY cZ i2 m7 lx bt:Expr} {aZ dE i3 nN:List Stmt} {K:bd} {i j vq:Nat} {aM ag cP:List PyData} {w c3 kS:Obj} {P:fr} {am:Heap} {J:List Value} {ba:Model} {l:List Env} {aR:Scope} {aG given bo fa pre js:List Str} {bz bY:List (Addr×Ent)} {dk:List Expr} {aU:Array DictEntry} {d5:List (Str×NameKind)} {dm:List (Str×Addr)} {bg:Array Value} {cx V:List (Str×Value)} {bw eQ:List Int} {bQ:List (Option Value)} {r:cO} {bC:List fs} {motive:Value->Prop} {gO ed:PyData} {nO:Stmt} {os:OsState} {kT:List Comprehension} {oR:Str->Option PyData} {qa:Sem Bool} {a3:co} {f6:cj} {dH:Addr->List Str} {iH:Tok}
structure ce (a b c:Prop):Prop where
 aX:a
 a5:b
 cu:c
structure hx (a b c d:Prop):Prop where
 aX:a
 a5:b
 cu:c
 ej:d
structure nF (a b c d e:Prop):Prop where
 aX:a
 a5:b
 cu:c
 ej:d
 hf:e
structure uu (a b c d e f:Prop):Prop where
 aX:a
 a5:b
 cu:c
 ej:d
 hf:e
 mW:f
structure z3 (a b c d e f g:Prop):Prop where
 aX:a
 a5:b
 cu:c
 ej:d
 hf:e
 mW:f
 rA:g
structure F8 (a b c d e f g h:Prop):Prop where
 aX:a
 a5:b
 cu:c
 ej:d
 hf:e
 mW:f
 rA:g
 DN:h
inductive cp.{fS,fT} {t1:Sort fS} {dO:Sort fT} (p:t1->dO->Prop):Prop where
 |mk (eR:t1) (kn:dO) (h:p eR kn)
inductive hO.{fS,fT,oS} {t1:Sort fS} {dO:Sort fT} {fy:Sort oS} (p:t1->dO->fy->Prop):Prop where
 |mk (eR:t1) (kn:dO) (ly:fy) (h:p eR kn ly)
inductive om.{fS,fT,oS,rS} {t1:Sort fS} {dO:Sort fT} {fy:Sort oS} {gB:Sort rS} (p:t1->dO->fy->gB->Prop):Prop where
 |mk (eR:t1) (kn:dO) (ly:fy) (kU:gB) (h:p eR kn ly kU)
inductive Lk.{fS,fT,oS,rS,vr} {t1:Sort fS} {dO:Sort fT} {fy:Sort oS} {gB:Sort rS} {jt:Sort vr} (p:t1->dO->fy->gB->jt->Prop):Prop where
 |mk (eR:t1) (kn:dO) (ly:fy) (kU:gB) (lz:jt) (h:p eR kn ly kU lz)
inductive Mb.{fS,fT,oS,rS,vr,A1} {t1:Sort fS} {dO:Sort fT} {fy:Sort oS} {gB:Sort rS} {jt:Sort vr} {lA:Sort A1} (p:t1->dO->fy->gB->jt->lA->Prop):Prop where
 |mk (eR:t1) (kn:dO) (ly:fy) (kU:gB) (lz:jt) (rT:lA) (h:p eR kn ly kU lz rT)
inductive OC.{fS,fT,oS,rS,vr,A1,Qy,Qz} {t1:Sort fS} {dO:Sort fT} {fy:Sort oS} {gB:Sort rS} {jt:Sort vr} {lA:Sort A1} {oT:Sort Qy} {qb:Sort Qz} (p:t1->dO->fy->gB->jt->lA->oT->qb->Prop):Prop where
 |mk (eR:t1) (kn:dO) (ly:fy) (kU:gB) (lz:jt) (rT:lA) (QA:oT) (QB:qb) (h:p eR kn ly kU lz rT QA QB)
noncomputable def AllP {a2:Type} (P:a2->Prop):List a2->Prop
 |[]=>True
 |a::l=>P a/\AllP P l
theorem AllP.mem {a2:Type} {P:a2->Prop}:∀{l:List a2},AllP P l->∀a∈l,P a
 |_::_,h,_,.head _=>h.1
 |_::_,h,_,.tail _ ab=>AllP.mem h.2 _ ab
@[elab_as_elim] theorem m.{u} {a2:Sort u} {a b:a2} {motive:a2->Prop} (h:a=b) (k:motive b):motive a:=h▸k
@[elab_as_elim] theorem a9.{u} {a2:Sort u} {a b:a2} {motive:a2->Prop} (h:a=b) (k:motive a):motive b:=h▸k
theorem cg (h:True:=by rfl):True:=h
theorem fe (h:True:=by decide):True:=h
theorem pZ (h:Nat->True:=by intro _;rfl):True:=h 0
theorem uq (h:Nat->Nat->True:=by intro _ _;rfl):True:=h 0 0
theorem h7 (h:True:=by with_unfolding_all rfl):True:=h
theorem zx (h:True:=by first|decide|simp):True:=h
theorem c2 {a b c:Nat} (h:a<=b) (e:autoParam (Nat.ble b c=true) cg._auto_1):a<=c:=aK h (pF e)
theorem Gh {a b c:Nat} (h:a<=b) (e:autoParam (Nat.ble (b+1) c=true) cg._auto_1):a < c:=ki h (pF e)
theorem Fl {a c k n:Nat} (h:j<=k) (t:a+c * k<=n):a+c * j<=n:=aK (lg (Nat.mul_le_mul_left c h) a) t
theorem sW {a c k n e:Nat} (t:a+c * (k+1)<=n) (h:e<=c):a+e+c * k<=n:=by
 refine aK ?_ t
 rw[ru,oj e]
 exact lg (lg h _) a
theorem DE {u a b n:Nat} (h:u+600 < n) (e:a<=20):u+min a b < n:=ki (lg (aK (um _ _) (aK e (by decide))) u) h
theorem AX {u a b n:Nat} (h:u+600 < n) (e:b<=20):u+1+min a b < n:=by
 rw[ru]
 exact ki (lg (c2 (lg (aK (Nat.min_le_right _ _) e) 1)) u) h
theorem zW (n:Nat):((-1:Int)+((n:Int)+1)).toNat=n:=by rw[Int.add_comm,Int.add_assoc];exact(iw Int.toNat (Int.add_zero _)).trans (gl n)
theorem zH {n:Nat} (h:0 < n):((-1:Int)+(n:Int)).toNat=n - 1:=by
 cases n with
 |zero=>cases h
 |succ n=>exact zW n
theorem No {t x E z:Nat} (a:t < x) (ju:x<=2) (b:t < E) (qc:E<=2) (c:t < z) (bq:z<=2) (aX:x≠E) (a5:x≠z) (cu:E≠z):False:=by
 have e:∀x:Nat,t < x->x<=2->x=1∨x=2
  |0,h,_=>absurd h (Nat.not_lt_zero _)
  |1,_,_=>.inl rfl
  |2,_,_=>.inr rfl
  |_+3,_,h=>absurd (Nat.le_of_succ_le_succ (Nat.le_of_succ_le_succ h)) (Nat.not_succ_le_zero _)
 rcases e x a ju with rfl|rfl<;>rcases e E b qc with rfl|rfl<;>rcases e z c bq with rfl|rfl<;>contradiction
theorem cb {a2 gf:Type} {x:Sem a2} {r:a2} {f:a2->Sem gf} {G:gf->Shared->Prop} {h:Heap} {g d aD os} (L:Looks ba h x r) (k:wpAny ba D (f r) G M ⟨h,g,d,aD,os⟩):wpAny ba D (x >>=f) G M ⟨h,g,d,aD,os⟩:=ay (L.at k)
theorem gX {a2 gf:Type} {x:Sem a2} {f:a2->Sem gf} {G:gf->Shared->Prop} (r:a2) (e:x=pure r) (k:wpAny ba D (f r) G M o):wpAny ba D (x >>=f) G M o:=e▸ay (bx k)
theorem eL {a2 gf:Type} {r:a2} {f:a2->Sem gf} {G:gf->Shared->Prop} (k:wpAny ba D (f r) G M o):wpAny ba D (pure r >>=f) G M o:=ay (bx k)
noncomputable def MD:List Stmt:=PySem.Challenge.pw_il0181_01.main.body
noncomputable def dh (i:Nat):Stmt:=MD.getD i (.Pass ⟨0,0,0,0⟩)
noncomputable def dV (st:Stmt):List Stmt:=match st with
 |.FunctionDef (body:=b) ..|.ClassDef (body:=b) ..|.For (body:=b) ..|.While _ b _ _=>b
 |_=>[]
noncomputable def dQ (st:Stmt):Scope:=match st with
 |.FunctionDef (scope:=o) ..=>o
 |_=>{kind:=.function,names:=[],isGenerator:=false,isCoroutine:=false}
noncomputable def lm (st:Stmt):Arguments:=match st with
 |.FunctionDef (args:=o) ..=>o
 |_=>⟨[],[],none,[],[],none,[]⟩
noncomputable def defName (st:Stmt):Str:=match st with
 |.FunctionDef (name:=o) ..=>o
 |_=>""
noncomputable def fdOf (st:Stmt) (bN:Str) (em bs cd:Value):FuncData:=
 {name:=defName st,qualname:=bN,params:=lm st,body:=.stmts (dV st),scope:=dQ st,globals:=mainGlobals,closure:=[],defaults:=em,kwdefaults:=.none,pyModule:=bs,code:=cd,builtins:=builtinsNs}
noncomputable def tab (b:Addr):Bool:=b==59||b==219||b==231
noncomputable def FnAt (h:Heap) (a:Addr) (st:Stmt) (bN:Str) (em:Value):Prop:=
 a < 247/\Lk λbs w bF J t=>uu (h.get? a=some w) (w.data=.func (fdOf st bN em bs (.ref (a - 1)))) (tab (a - 1)=false) (h.get? (a - 1)=some bF) (bF.data=.fields J) (J[1]?=some (.str bN t))
noncomputable def go (w:Obj):Bool:=match w.data with
 |.fields _=>(match w.cls with
  |.none=>true
  |.type "code"=>true
  |_=>false)
 |_=>false
theorem rj (h:∀J,w.data≠.fields J):go w=false:=by
 unfold go
 split
 ·rename_i J e;exact absurd e (h J)
 ·rfl
noncomputable def zY:Pos:=⟨225,18,225,86⟩
noncomputable def An:Pos:=⟨253,55,253,104⟩
noncomputable def zC:Str:="_law_judge.<locals>.<lambda>"
noncomputable def Al:Str:="_law_rows.<locals>.<lambda>"
noncomputable def g2 (h:Heap) (c:Addr) (bN:Str):Prop:=hO λbF cq t=>hx (h.get? c=some bF) (bF.cls=.type "code") (bF.data=.fields cq) (cq[1]?=some (.str bN t))
noncomputable def la (h:Heap) (J:Array Value) (ao:Pos) (bN:Str):Prop:=J=#[]∨∃c,J=#[rawInt ao.line,rawInt ao.col,.ref c]/\g2 h c bN
theorem AO {cq:Array Value} (av:w.cls=.type "code") (hd:w.data=.fields cq):go w=true:=by
 unfold go;refine m hd (m av ?_);rfl
theorem la.mono {h:Heap} {J:Array Value} (k:∀b w,go w=true->h.get? b=some w->am.get? b=some w) (x:la h J ao bN):la am J ao bN:=
 x.imp id λ⟨c,e,bF,cq,t,g,av,hd,q⟩=>⟨c,e,bF,cq,t,k _ _ (AO av hd) g,av,hd,q⟩
noncomputable def m5 (P:Addr) (w:Obj):Prop:=OC λJ tz tA tB he tC text m8=>F8 (w.cls=.type "code") (w.data=.fields J) (J[11]?=some (.ref P)) (J.getD 11 .none=.ref P) (J.getD 18 .none=.str tz tA) (J.getD 7 .none=.int tB he) (J.getD 9 .none=.bool tC) (J.getD 10 .none=.int text m8)
noncomputable def jI:Stmt:=(dV (dh 7)).getD 0 (.Pass ⟨0,0,0,0⟩)
noncomputable def posK:Pos:=jI.pos
noncomputable def Aq:Str:="cmp_to_key.<locals>.K"
noncomputable def z8 (st:Stmt):Bool:=!(dV st).isEmpty
noncomputable def mG:List (Pos×Str):=((dV jI).filter z8).map λst=>(st.pos,"cmp_to_key.<locals>.K."++defName st)
noncomputable def mC (h:Heap) (c P:Addr) (bg:Array Value):Prop:=nF (∃bF,h.get? c=some bF/\m5 P bF) (247<=P) (c≠P) (h.get? P=some (tabObj bg)) (TriplesOk bg.toList)
noncomputable def z0 (full:Bool) (h:Heap) (bg:Array Value):Prop:=∀ab∈mG,(full=false/\codeAmong ab.1 bg.toList=none)∨∃c,codeAmong ab.1 bg.toList=some (.ref c)/\g2 h c ab.2
noncomputable def xF (h:Heap) (J:Array Value):Prop:=J=#[]∨hO λc P bg=>hx (J=#[rawInt posK.line,rawInt posK.col,.ref c]) (g2 h c Aq) (mC h c P bg) (z0 true h bg)
theorem g2.mono {h:Heap} (k:∀b w,w.cls=.type "code"∨247<=b->go w=true->h.get? b=some w->am.get? b=some w) (x:g2 h c q):g2 am c q:=by
 obtain⟨bF,cq,t,g,av,hd,q⟩:=x
 exact⟨bF,cq,t,k _ _ (.inl av) (AO av hd) g,av,hd,q⟩
theorem mC.mono {h:Heap} {P:Addr} (k:∀b w,w.cls=.type "code"∨247<=b->go w=true->h.get? b=some w->am.get? b=some w) (x:mC h c P bg):mC am c P bg:=by
 obtain⟨E,b1,av,gC,vj⟩:=x
 refine⟨E.imp λbF z=>⟨?_,z.2⟩,b1,av,k _ _ (.inr b1) rfl gC,vj⟩
 obtain⟨J,_,_,_,_,_,_,_,md,eW,_⟩:=z.2
 exact k _ _ (.inl md) (AO md eW) z.1
theorem xF.mono {h:Heap} {J:Array Value} (k:∀b w,w.cls=.type "code"∨247<=b->go w=true->h.get? b=some w->am.get? b=some w) (x:xF h J):xF am J:=by
 refine x.imp id λE=>?_
 obtain⟨c,P,bg,e,l,r,ab⟩:=E
 exact⟨c,P,bg,e,l.mono k,r.mono k,λq aS=>(ab q aS).imp id λz=>z.imp λ_ A=>⟨A.1,A.2.mono k⟩⟩
structure d2 (h:Heap):Prop where
 oa:∃J,h.get? 219=some (tabObj J)/\la h J zY zC
 q7:∃J,h.get? 231=some (tabObj J)/\la h J An Al
 tb:∃J,h.get? 59=some (tabObj J)/\xF h J
theorem d2.mono {h:Heap} (T:d2 h) (k:∀b w,go w=true->h.get? b=some w->am.get? b=some w):d2 am:=
 ⟨T.oa.imp λ_ e=>⟨k _ _ rfl e.1,e.2.mono k⟩,T.q7.imp λ_ e=>⟨k _ _ rfl e.1,e.2.mono k⟩,T.tb.imp λ_ e=>⟨k _ _ rfl e.1,e.2.mono λb w _=>k b w⟩⟩
theorem d2.fields {h:Heap} (T:d2 h) {b:Addr} (bu:tab b=true) (e:h.get? b=some w):∃J,w=tabObj J:=by
 have:b=59∨b=219∨b=231:=by simpa [tab,or_assoc] using bu
 rcases this with rfl|rfl|rfl
 ·obtain⟨J,q,_⟩:=T.tb;rw[e] at q;exact⟨J,by injection q⟩
 ·obtain⟨J,q,_⟩:=T.oa;rw[e] at q;exact⟨J,by injection q⟩
 ·obtain⟨J,q,_⟩:=T.q7;rw[e] at q;exact⟨J,by injection q⟩
theorem d2.jl {h:Heap} (T:d2 h) {b:Addr} (e:h.get? b=some w) (bb:∀J,w.data≠.fields J):tab b=false:=by
 cases bu:tab b with
 |false=>rfl
 |true=>obtain⟨J,rfl⟩:=T.fields bu e;exact absurd rfl (bb J)
theorem d2.push {h:Heap} (T:d2 h) (w:Obj):d2 (h.push w):=T.mono λ_ _ _ e=>e1 _ e
structure an (o y:Shared):Prop where
 same:cp λh aD=>y={o with heap:=h,toks:=aD}
 keep:∀b w,tab b=false->o.heap.get? b=some w->y.heap.get? b=some w
 size:o.heap.objs.size<=y.heap.objs.size
 tabs:d2 o.heap->d2 y.heap
theorem an.refl (o:Shared):an o o:=⟨⟨o.heap,o.toks,rfl⟩,λ_ _ _ e=>e,cG _,id⟩
theorem an.trans (x:an o y) (E:an y cs):an o cs:=by
 obtain⟨h,aD,e⟩:=x.same
 obtain⟨am,hH,bt⟩:=E.same
 exact⟨⟨am,hH,by exact m bt (m e rfl)⟩,λb w bu e=>E.keep b w bu (x.keep b w bu e),aK x.size E.size,λT=>E.tabs (x.tabs T)⟩
theorem an.tok (t:Nat):an o {o with toks:=t}:=⟨⟨_,_,rfl⟩,λ_ _ _ e=>e,cG _,id⟩
theorem an.push (w:Obj):an o {o with heap:=o.heap.push w}:=
 ⟨⟨_,_,rfl⟩,λ_ _ _ e=>e1 _ e,by simp,λT=>T.push w⟩
theorem an.of_keeps {h:Heap} {aD:Nat} (k:∀b w,o.heap.get? b=some w->h.get? b=some w) (z:o.heap.objs.size<=h.objs.size):an o {o with heap:=h,toks:=aD}:=
 ⟨⟨_,_,rfl⟩,λb w _ e=>k b w e,z,λT=>T.mono λb w _ e=>k b w e⟩
structure es (Z:List Addr) (o y:Shared):Prop where
 same:cp λh aD=>y={o with heap:=h,toks:=aD}
 keep:∀b w,b∉Z->tab b=false->o.heap.get? b=some w->y.heap.get? b=some w
 size:o.heap.objs.size<=y.heap.objs.size
 tabs:d2 o.heap->d2 y.heap
theorem an.cw (x:an o y):es Z o y:=⟨x.same,λb w _=>x.keep b w,x.size,x.tabs⟩
theorem es.ex (x:es [] o y):an o y:=⟨x.same,λb w=>x.keep b w (λq=>by cases q),x.size,x.tabs⟩
theorem es.trans (x:es Z o y) (E:es Z y cs):es Z o cs:=by
 obtain⟨h,aD,e⟩:=x.same
 obtain⟨am,hH,bt⟩:=E.same
 exact⟨⟨am,hH,by exact m bt (m e rfl)⟩,λb w ar bu e=>E.keep b w ar bu (x.keep b w ar bu e),aK x.size E.size,λT=>E.tabs (x.tabs T)⟩
noncomputable abbrev IsT (h:Heap) (l:Addr) (items:Array Value) (n:Nat):Prop:=h.get? l=some {cls:=.type "tuple",dict:=none,data:=.seq items n,slots:=#[]}
noncomputable def jR (w:Obj):Prop:=(cp λJ n=>w.data=.seq J n)∨(w.cls=.type "range"/\∃J,w.data=.fields J)
noncomputable def dB (n:Nat):PyData:=.dict [(.none,.int n)]
noncomputable def bT (a:Addr):PyData:=.dict [(.int (Int.ofNat a),.none)]
mutual
inductive aO (X:List Addr) (h:Heap):Value->PyData->Prop
 |none:aO X h .none .none
 |bool (b:_):aO X h (.bool b) (.bool b)
 |int (i t:_):aO X h (.int i t) (.int i)
 |str (x t:_):aO X h (.str x t) (.str x)
 |list {a:Addr} {J:Array Value} {n:Nat} {ag:List PyData}:a∉X->IsL h a J n->bR X h J.toList ag->aO X h (.ref a) (.list ag)
 |tuple {a:Addr} {J:Array Value} {n:Nat} {ag:List PyData}:a∉X->IsT h a J n->bR X h J.toList ag->aO X h (.ref a) (.tuple ag)
 |range {a:Addr} {n:Nat} {t u v:Tok}:a∉X->IsRange h a 0 n 1 t u v->aO X h (.ref a) (dB n)
 |ref (a:Addr):aO X h (.ref a) (bT a)
inductive bR (X:List Addr) (h:Heap):List Value->List PyData->Prop
 |nil:bR X h [] []
 |cons {v:Value} {d:PyData} {J:List Value} {aM:List PyData}:aO X h v d->bR X h J aM->bR X h (v::J) (d::aM)
end
theorem xS {cl:Value} {b4:Option Addr} {J:Array Value} {n:Nat} {bQ:Array (Option Value)}:jR {cls:=cl,dict:=b4,data:=.seq J n,slots:=bQ}:=.inl ⟨_,_,rfl⟩
theorem DZ {b4:Option Addr} {J:Array Value} {bQ:Array (Option Value)}:jR {cls:=.type "range",dict:=b4,data:=.fields J,slots:=bQ}:=.inr ⟨rfl,_,rfl⟩
theorem bR.ind {h:Heap} {P:List Value->List PyData->Prop} (n:P [] []) (c:∀{v d J aM},aO X h v d->bR X h J aM->P J aM->P (v::J) (d::aM)) (r:bR X h J aM):P J aM:=
 bR.rec (motive_1:=λ_ _ _=>True) (motive_2:=λJ aM _=>P J aM) trivial (λ_=>trivial) (λ_ _=>trivial) (λ_ _=>trivial) (λ_ _ _ _=>trivial) (λ_ _ _ _=>trivial) (λ_ _=>trivial) (λ_=>trivial) n (λa r _ q=>c a r q) r
theorem aO.mono {h:Heap} (k:∀b w,b∉X->jR w->h.get? b=some w->am.get? b=some w/\b∉km) {d:PyData} (r:aO X h v d):aO km am v d:=
 aO.rec (motive_1:=λv d _=>aO km am v d) (motive_2:=λJ aM _=>bR km am J aM) .none .bool .int .str (λI e _ q=>.list (k _ _ I xS e).2 (k _ _ I xS e).1 q) (λI e _ q=>.tuple (k _ _ I xS e).2 (k _ _ I xS e).1 q)
  (λI e=>.range (k _ _ I DZ e).2 (k _ _ I DZ e).1) .ref .nil (λ_ _ p q=>.cons p q) r
theorem bR.mono {h:Heap} (k:∀b w,b∉X->jR w->h.get? b=some w->am.get? b=some w/\b∉km) (r:bR X h J aM):bR km am J aM:=r.ind .nil λa _ q=>.cons (a.mono k) q
theorem OV (c:(PyData.list ag).canLay0=true):PyData.canLayAll0 ag=true:=by simpa [PyData.canLay0] using c
theorem Oo (c:(PyData.tuple ag).canLay0=true):PyData.canLayAll0 ag=true:=by simpa [PyData.canLay0] using c
theorem FI {k v:PyData} {l:List (PyData×PyData)} (c:(PyData.dict ((k,v)::l)).canLay0=true):False:=by simp[PyData.canLay0] at c
theorem wJ {d:PyData} (c:PyData.canLayAll0 (d::aM)=true):d.canLay0=true/\PyData.canLayAll0 aM=true:=by simpa only[PyData.canLayAll0,iR] using c
theorem aO.reads {h:Heap} {d:PyData} (r:aO X h v d):d.canLay0=true->∃as,Reads h v d as:=
 aO.rec (motive_1:=λv d _=>d.canLay0=true->∃as,Reads h v d as) (motive_2:=λJ aM _=>PyData.canLayAll0 aM=true->∃as,ReadsAll h J aM as) (λ_=>⟨_,.none⟩) (λb _=>⟨_,.bool b⟩) (λi t _=>⟨_,.int i t⟩) (λx t _=>⟨_,.str x t⟩)
  (λ_ e _ q c=>(q (OV c)).imp' _ λ_ q=>.list e rfl rfl q) (λ_ e _ q c=>(q (Oo c)).imp' _ λ_ q=>.tuple e rfl rfl q) (λ_ _ c=>(FI c).elim) (λ_ c=>(FI c).elim) (λ_=>⟨_,.nil⟩)
  (λ_ _ p q c=>(p (wJ c).1).elim λ_ p=>(q (wJ c).2).imp' _ λ_ q=>.cons p q) r
theorem bR.reads {h:Heap} (r:bR X h J aM):PyData.canLayAll0 aM=true->∃as,ReadsAll h J aM as:=
 r.ind (P:=λJ aM=>PyData.canLayAll0 aM=true->∃as,ReadsAll h J aM as) (λ_=>⟨_,.nil⟩) λa _ q c=>(a.reads (wJ c).1).elim λ_ p=>(q (wJ c).2).imp' _ λ_ q=>.cons p q
theorem d2.xA {h:Heap} (T:d2 h) {b:Addr} (e:h.get? b=some w) (hd:jR w):tab b=false:=by
 cases bu:tab b with
 |false=>rfl
 |true=>
  obtain⟨J,rfl⟩:=T.fields bu e
  rcases hd with⟨_,_,q⟩|⟨q,_⟩<;>cases q
theorem aO.ex {d:PyData} (T:d2 o.heap) (x:an o y) (r:aO X o.heap v d):aO X y.heap v d:=
 r.mono λb w I hd e=>⟨x.keep b w (T.xA e hd) e,I⟩
theorem bR.ex {v:List Value} {d:List PyData} (T:d2 o.heap) (x:an o y) (r:bR X o.heap v d):bR X y.heap v d:=
 r.mono λb w I hd e=>⟨x.keep b w (T.xA e hd) e,I⟩
theorem aO.weak {h:Heap} {d:PyData} (k:∀b∈km,b∈X) (r:aO X h v d):aO km h v d:=r.mono λ_ _ I _ e=>⟨e,λq=>I (k _ q)⟩
theorem bR.weak {h:Heap} {v:List Value} {d:List PyData} (k:∀b∈km,b∈X) (r:bR X h v d):bR km h v d:=r.mono λ_ _ I _ e=>⟨e,λq=>I (k _ q)⟩
theorem aO.nil {h:Heap} {d:PyData} (r:aO X h v d):aO [] h v d:=r.weak λ_ q=>by cases q
theorem bR.w6 {h:Heap} {v:List Value} {d:List PyData} (r:bR X h v d):bR [] h v d:=r.weak λ_ q=>by cases q
theorem aO.more {h:Heap} {d:PyData} (ar:∀z∈Z,h.objs.size<=z) (r:aO X h v d):aO (Z++X) h v d:=
 r.mono λb w I _ e=>⟨e,λq=>by
  rcases df.mp q with q|q
  ·exact absurd (dL e) (eZ.mpr (ar _ q))
  ·exact I q⟩
theorem bR.more {h:Heap} {v:List Value} {d:List PyData} (ar:∀z∈Z,h.objs.size<=z) (r:bR X h v d):bR (Z++X) h v d:=
 r.mono λb w I _ e=>⟨e,λq=>by
  rcases df.mp q with q|q
  ·exact absurd (dL e) (eZ.mpr (ar _ q))
  ·exact I q⟩
theorem aO.upd {h:Heap} {d:PyData} (aW:Heap.SameBut a h am) (aF:a∈X∨∀w,h.get? a=some w->¬jR w) (r:aO X h v d):aO X am v d:=
 r.mono λb w I hd e=>⟨(aW.2 b (by
  rintro rfl
  rcases aF with q|q
  ·exact I q
  ·exact q _ e hd)).trans e,I⟩
theorem bR.upd {h:Heap} {v:List Value} {d:List PyData} (aW:Heap.SameBut a h am) (aF:a∈X∨∀w,h.get? a=some w->¬jR w) (r:bR X h v d):bR X am v d:=
 r.mono λb w I hd e=>⟨(aW.2 b (by
  rintro rfl
  rcases aF with q|q
  ·exact I q
  ·exact q _ e hd)).trans e,I⟩
theorem bR.length {h:Heap} (r:bR X h J aM):J.length=aM.length:=r.ind (P:=λJ aM=>J.length=aM.length) rfl λ_ _ q=>iw (· +1) q
theorem bR.cons_inv {h:Heap} {d:PyData} (r:bR X h J (d::aM)):cp λv cq=>ce (J=v::cq) (aO X h v d) (bR X h cq aM):=
 r.ind (P:=λJ l=>∀d aM,l=d::aM->cp λv cq=>ce (J=v::cq) (aO X h v d) (bR X h cq aM)) (λ_ _ e=>nomatch e) (λa r _ _ _ e=>by cases e;exact⟨_,_,rfl,a,r⟩) d aM rfl
theorem bR.nil_inv {h:Heap} (r:bR X h J []):J=[]:=q0.mp r.length
theorem bR.two {h:Heap} {a b:PyData} (r:bR X h J [a,b]):cp λu v=>ce (J=[u,v]) (aO X h u a) (aO X h v b):=by
 obtain⟨u,cq,e,p,q⟩:=r.cons_inv
 obtain⟨v,ag,bt,e4,gD⟩:=q.cons_inv
 exact⟨u,v,by exact m e (m bt (m gD.nil_inv rfl)),p,e4⟩
theorem uM {a2:Type} {l:List a2} (h:l.length=1):∃a,l=[a]:=List.length_eq_one_iff.mp h
theorem wM {a2:Type} {l:List a2} (h:l.length=2):cp λa b=>l=[a,b]:=by
 cases l with
 |nil=>cases h
 |cons a l=>obtain⟨b,rfl⟩:=uM (Nat.succ.inj h);exact⟨a,b,rfl⟩
theorem bR.get {h:Heap} (r:bR X h J aM):∀{i:Nat} {d:PyData},aM[i]?=some d->∃v,J[i]?=some v/\aO X h v d:=
 r.ind (P:=λJ aM=>∀{i:Nat} {d:PyData},aM[i]?=some d->∃v,J[i]?=some v/\aO X h v d) (λe=>nomatch e) λ{v d J aM} a _ q {i}=>
  i.rec (motive:=λi=>∀{dW:PyData},(d::aM)[i]?=some dW->∃gg,(v::J)[i]?=some gg/\aO X h gg dW) (λe=>⟨_,rfl,m4 e▸a⟩) λi _ {_} e=>q (i:=i) e
theorem bR.append {h:Heap} {cq:List Value} {aU:List PyData} (r:bR X h J aM) (q:bR X h cq aU):bR X h (J++cq) (aM++aU):=r.ind (P:=λJ aM=>bR X h (J++cq) (aM++aU)) q λa _ q=>.cons a q
theorem bR.drop {h:Heap} (r:bR X h J aM):∀n,bR X h (J.drop n) (aM.drop n):=
 r.ind (P:=λJ aM=>∀n,bR X h (J.drop n) (aM.drop n)) (λn=>by refine m List.drop_nil (m List.drop_nil ?_);exact .nil) λ{v d J aM} a r q n=>n.rec (motive:=λn=>bR X h ((v::J).drop n) ((d::aM).drop n)) (.cons a r) λn _=>q n
theorem bR.take {h:Heap} (r:bR X h J aM):∀n,bR X h (J.take n) (aM.take n):=
 r.ind (P:=λJ aM=>∀n,bR X h (J.take n) (aM.take n)) (λn=>by refine m List.take_nil (m List.take_nil ?_);exact .nil) λ{v d J aM} a r q n=>n.rec (motive:=λn=>bR X h ((v::J).take n) ((d::aM).take n)) .nil λn _=>.cons a (q n)
theorem aO.rJ {h:Heap} (r:aO X h v (.list ag)):hO λa J n=>hx (v=.ref a) (a∉X) (IsL h a J.toArray n) (bR X h J ag):=by
 cases r with
 |@list a J n ag I e r=>exact⟨a,J.toList,n,rfl,I,e,r⟩
theorem aO.rb {h:Heap} (r:aO X h v (.tuple ag)):hO λa J n=>hx (v=.ref a) (a∉X) (IsT h a J.toArray n) (bR X h J ag):=by
 cases r with
 |@tuple a J n ag I e r=>exact⟨a,J.toList,n,rfl,I,e,r⟩
@[elab_as_elim] theorem aO.kL {h:Heap} (r:aO X h v (.list ag)) (k:∀a (J:List Value) n,a∉X->IsL h a J.toArray n->bR X h J ag->motive (.ref a)):motive v:=let ⟨a,J,n,e,I,l,q⟩:=r.rJ;e▸k a J n I l q
@[elab_as_elim] theorem aO.AN {h:Heap} (r:aO X h v (.tuple ag)) (k:∀a (J:List Value) n,a∉X->IsT h a J.toArray n->bR X h J ag->motive (.ref a)):motive v:=let ⟨a,J,n,e,I,l,q⟩:=r.rb;e▸k a J n I l q
theorem IsT.isTup {h:Heap} {l:Addr} {items:Array Value} {n:Nat} (x:IsT h l items n):IsTup h l items:=⟨_,x,rfl,n,rfl⟩
theorem aO.Ez {h:Heap} {l:List (PyData×PyData)} (r:aO X h v (.dict l)):(∃n,l=[(.none,.int (Int.ofNat n))]/\om λa t u A=>ce (v=.ref a) (a∉X) (IsRange h a 0 n 1 t u A))∨∃a,v=.ref a/\l=[(.int (Int.ofNat a),.none)]:=by
 generalize hd:PyData.dict l=d at r
 cases r with
 |range I e=>exact .inl ⟨_,PyData.dict.inj hd,_,_,_,_,rfl,I,e⟩
 |ref b=>exact .inr ⟨_,rfl,PyData.dict.inj hd⟩
 |_=>exact nomatch hd
theorem aO.MG {h:Heap} {n:Nat} (r:aO X h v (dB n)):om λa t u A=>ce (v=.ref a) (a∉X) (IsRange h a 0 n 1 t u A):=by
 rcases r.Ez with⟨ab,e,q⟩|⟨_,_,e⟩
 ·cases e;exact q
 ·exact nomatch e
theorem aO.uU {h:Heap} (r:aO X h v (bT a)):v=.ref a:=by
 rcases r.Ez with⟨_,e,_⟩|⟨b,rfl,e⟩
 ·exact nomatch e
 ·cases e;rfl
noncomputable def flat:PyData->Bool
 |.none|.bool _|.int _|.str _=>true
 |.dict [(.int _,.none)]=>true
 |_=>false
theorem aO.flat {h:Heap} {d:PyData} (r:aO X h v d) (e:Il.flat d=true):aO km am v d:=by
 cases r with
 |none=>exact .none
 |bool b=>exact .bool b
 |int i t=>exact .int i t
 |str x t=>exact .str x t
 |ref a=>exact .ref a
 |_=>exact(l6 e).elim
theorem bR.flat {h:Heap} (r:bR X h J aM):(∀d∈aM,Il.flat d=true)->bR km am J aM:=
 r.ind (P:=λJ aM=>(∀d∈aM,Il.flat d=true)->bR km am J aM) (λ_=>.nil) λa _ q e=>.cons (a.flat (e _ (.head _))) (q λd hd=>e d (.tail _ hd))
noncomputable def Gq (i:Nat):Stmt:=((dV (dh 14)).filter z8).getD i (.Pass ⟨0,0,0,0⟩)
noncomputable def hu (i:Nat):Stmt:=((dV (dh 16)).filter z8).getD i (.Pass ⟨0,0,0,0⟩)
noncomputable def aT (P:Params) (x:Str) (t:Tok) (v:Value):DictEntry:=⟨PyData.keyHash P x,.str x t,v⟩
noncomputable def g8 (n q:Str) (a b c:Tok) (l k f:Int) (r u:Addr) (x E z v:Value) (ab j:Int) (d:Tok):Obj:=
 ⟨.type "code",none,.fields #[.str n a,.str q b,.str "/claim/cut.py" c,.int l 0,.int k 0,.int 0 0,.int 0 0,.int f 0,.ref r,.bool true,.int 276 0,.ref u,x,E,z,v,.int ab 0,.int j 0,.str "/claim/cut.py" d],#[]⟩
noncomputable def KB (P:Params):Frag:=[
(nat_lit 0,⟨(.type "dict"),none,(.dict #[aT P "__name__" 1 (.str "builtins" 160),aT P "__doc__" 2 (.builtin "builtins.__doc__:str#opaque"),aT P "__package__" 3 (.builtin "builtins.__package__:str#opaque"),aT P "__loader__" 4 (.builtin "builtins.__loader__:shared#opaque"),aT P "__spec__" 5 (.builtin "builtins.__spec__#opaque"),aT P "__build_class__" 6 (.builtin "__build_class__"),aT P "__import__" 7 (.builtin "__import__"),aT P "abs" 8 (.builtin "abs"),aT P "all" 9 (.builtin "all"),aT P "any" 10 (.builtin "any"),aT P "ascii" 11 (.builtin "ascii"),aT P "bin" 12 (.builtin "bin"),aT P "breakpoint" 13 (.builtin "breakpoint"),aT P "callable" 14 (.builtin "callable"),aT P "chr" 15 (.builtin "chr"),aT P "compile" 16 (.builtin "compile"),aT P "delattr" 17 (.builtin "delattr"),aT P "dir" 18 (.builtin "dir"),aT P "divmod" 19 (.builtin "divmod"),aT P "eval" 20 (.builtin "eval"),aT P "exec" 21 (.builtin "exec"),aT P "format" 22 (.builtin "format"),aT P "getattr" 23 (.builtin "getattr"),aT P "globals" 24 (.builtin "globals"),aT P "hasattr" 25 (.builtin "hasattr"),aT P "hash" 26 (.builtin "hash"),aT P "hex" 27 (.builtin "hex"),aT P "id" 28 (.builtin "id"),aT P "input" 29 (.builtin "input"),aT P "isinstance" 30 (.builtin "isinstance"),aT P "issubclass" 31 (.builtin "issubclass"),aT P "iter" 32 (.builtin "iter"),aT P "aiter" 33 (.builtin "aiter"),aT P "len" 34 (.builtin "len"),aT P "locals" 35 (.builtin "locals"),aT P "max" 36 (.builtin "max"),aT P "min" 37 (.builtin "min"),aT P "next" 38 (.builtin "next"),aT P "anext" 39 (.builtin "anext"),aT P "oct" 40 (.builtin "oct"),aT P "ord" 41 (.builtin "ord"),aT P "pow" 42 (.builtin "pow"),aT P "print" 43 (.builtin "print"),aT P "repr" 44 (.builtin "repr"),aT P "round" 45 (.builtin "round"),aT P "setattr" 46 (.builtin "setattr"),aT P "sorted" 47 (.builtin "sorted"),aT P "sum" 48 (.builtin "sum"),aT P "vars" 49 (.builtin "vars"),aT P "None" 50 .none,aT P "Ellipsis" 51 .ellipsis,aT P "NotImplemented" 52 .notImplemented,aT P "False" 53 (.bool false),aT P "True" 54 (.bool true),aT P "bool" 55 (.type "bool"),aT P "memoryview" 56 (.type "memoryview"),aT P "bytearray" 57 (.type "bytearray"),aT P "bytes" 58 (.type "bytes"),aT P "classmethod" 59 (.type "classmethod"),aT P "complex" 60 (.type "complex"),aT P "dict" 61 (.type "dict"),aT P "enumerate" 62 (.type "enumerate"),aT P "filter" 63 (.type "filter"),aT P "float" 64 (.type "float"),aT P "frozenset" 65 (.type "frozenset"),aT P "property" 66 (.type "property"),aT P "int" 67 (.type "int"),aT P "list" 68 (.type "list"),aT P "map" 69 (.type "map"),aT P "object" 70 (.type "object"),aT P "range" 71 (.type "range"),aT P "reversed" 72 (.type "reversed"),aT P "set" 73 (.type "set"),aT P "slice" 74 (.type "slice"),aT P "staticmethod" 75 (.type "staticmethod"),aT P "str" 76 (.type "str"),aT P "super" 77 (.type "super"),aT P "tuple" 78 (.type "tuple"),aT P "type" 79 (.type "type"),aT P "zip" 80 (.type "zip"),aT P "__debug__" 81 (.bool true),aT P "BaseException" 82 (.type "BaseException"),aT P "BaseExceptionGroup" 83 (.type "BaseExceptionGroup"),aT P "Exception" 84 (.type "Exception"),aT P "GeneratorExit" 85 (.type "GeneratorExit"),aT P "KeyboardInterrupt" 86 (.type "KeyboardInterrupt"),aT P "SystemExit" 87 (.type "SystemExit"),aT P "ArithmeticError" 88 (.type "ArithmeticError"),aT P "AssertionError" 89 (.type "AssertionError"),aT P "AttributeError" 90 (.type "AttributeError"),aT P "BufferError" 91 (.type "BufferError"),aT P "EOFError" 92 (.type "EOFError"),aT P "ImportError" 93 (.type "ImportError"),aT P "LookupError" 94 (.type "LookupError"),aT P "MemoryError" 95 (.type "MemoryError"),aT P "NameError" 96 (.type "NameError"),aT P "OSError" 97 (.type "OSError"),aT P "ReferenceError" 98 (.type "ReferenceError"),aT P "RuntimeError" 99 (.type "RuntimeError"),aT P "StopAsyncIteration" 100 (.type "StopAsyncIteration"),aT P "StopIteration" 101 (.type "StopIteration"),aT P "SyntaxError" 102 (.type "SyntaxError"),aT P "SystemError" 103 (.type "SystemError"),aT P "TypeError" 104 (.type "TypeError"),aT P "ValueError" 105 (.type "ValueError"),aT P "Warning" 106 (.type "Warning"),aT P "FloatingPointError" 107 (.type "FloatingPointError"),aT P "OverflowError" 108 (.type "OverflowError"),aT P "ZeroDivisionError" 109 (.type "ZeroDivisionError"),aT P "BytesWarning" 110 (.type "BytesWarning"),aT P "DeprecationWarning" 111 (.type "DeprecationWarning"),aT P "EncodingWarning" 112 (.type "EncodingWarning"),aT P "FutureWarning" 113 (.type "FutureWarning"),aT P "ImportWarning" 114 (.type "ImportWarning"),aT P "PendingDeprecationWarning" 115 (.type "PendingDeprecationWarning"),aT P "ResourceWarning" 116 (.type "ResourceWarning"),aT P "RuntimeWarning" 117 (.type "RuntimeWarning"),aT P "SyntaxWarning" 118 (.type "SyntaxWarning"),aT P "UnicodeWarning" 119 (.type "UnicodeWarning"),aT P "UserWarning" 120 (.type "UserWarning"),aT P "BlockingIOError" 121 (.type "BlockingIOError"),aT P "ChildProcessError" 122 (.type "ChildProcessError"),aT P "ConnectionError" 123 (.type "ConnectionError"),aT P "FileExistsError" 124 (.type "FileExistsError"),aT P "FileNotFoundError" 125 (.type "FileNotFoundError"),aT P "InterruptedError" 126 (.type "InterruptedError"),aT P "IsADirectoryError" 127 (.type "IsADirectoryError"),aT P "NotADirectoryError" 128 (.type "NotADirectoryError"),aT P "PermissionError" 129 (.type "PermissionError"),aT P "ProcessLookupError" 130 (.type "ProcessLookupError"),aT P "TimeoutError" 131 (.type "TimeoutError"),aT P "IndentationError" 132 (.type "IndentationError"),aT P "_IncompleteInputError" 133 (.type "_IncompleteInputError"),aT P "IndexError" 134 (.type "IndexError"),aT P "KeyError" 135 (.type "KeyError"),aT P "ModuleNotFoundError" 136 (.type "ModuleNotFoundError"),aT P "NotImplementedError" 137 (.type "NotImplementedError"),aT P "PythonFinalizationError" 138 (.type "PythonFinalizationError"),aT P "RecursionError" 139 (.type "RecursionError"),aT P "UnboundLocalError" 140 (.type "UnboundLocalError"),aT P "UnicodeError" 141 (.type "UnicodeError"),aT P "BrokenPipeError" 142 (.type "BrokenPipeError"),aT P "ConnectionAbortedError" 143 (.type "ConnectionAbortedError"),aT P "ConnectionRefusedError" 144 (.type "ConnectionRefusedError"),aT P "ConnectionResetError" 145 (.type "ConnectionResetError"),aT P "TabError" 146 (.type "TabError"),aT P "UnicodeDecodeError" 147 (.type "UnicodeDecodeError"),aT P "UnicodeEncodeError" 148 (.type "UnicodeEncodeError"),aT P "UnicodeTranslateError" 149 (.type "UnicodeTranslateError"),aT P "ExceptionGroup" 150 (.type "ExceptionGroup"),aT P "EnvironmentError" 151 (.type "OSError"),aT P "IOError" 152 (.type "OSError"),aT P "open" 153 (.builtin "open"),aT P "quit" 154 (.builtin "builtins.quit#opaque"),aT P "exit" 155 (.builtin "builtins.exit#opaque"),aT P "copyright" 156 (.builtin "builtins.copyright#opaque"),aT P "credits" 157 (.builtin "builtins.credits#opaque"),aT P "license" 158 (.builtin "builtins.license#opaque"),aT P "help" 159 (.builtin "builtins.help#opaque")] 159),#[]⟩),(nat_lit 1,⟨(.type "dict"),none,(.dict #[aT P "builtins" 162 (.ref 4),aT P "__main__" 163 (.ref 5),aT P "_sre" 244 (.ref 12)] 3),#[]⟩),(nat_lit 2,⟨.none,none,(.dict #[aT P "\x69mport.loaded._sre" 183 (.bool true),aT P "class._frozen_importlib.BuiltinImporter" 185 (.ref 14),aT P "watched.\x69mport" 206 (.ref 18),aT P "class._frozen_importlib.ModuleSpec" 216 (.ref 22),aT P "sys.modules.booked-epoch" 245 (.int (3) 0),aT P "\x69mport.later-laid._sre" 270 (.bool true),aT P "watched.library" 272 (.ref 27),aT P "watched.library-objects" 0 (.str (Str.mk #[12]) 0),aT P "watched.library-deep._sre" 273 (.str (Str.mk #[4,0,0,11,4,0,0,11,4,0,0,3,4,0,0,11,8,4,100,105,99,116,2]) 0)] 9),#[]⟩),(nat_lit 3,⟨(.type "dict"),none,(.dict #[aT P "__name__" 165 (.str "law_il0181_01" 549),aT P "__doc__" 166 .none,aT P "__package__" 167 .none,aT P "__loader__" 168 (.builtin "__main__.__loader__#opaque"),aT P "__spec__" 169 .none,aT P "__annotations__" 170 (.ref 6),aT P "__builtins__" 171 (.ref 4),aT P "__file__" 173 (.str "/claim/cut.py" 172),aT P "__cached__" 174 .none,aT P "_sre" 275 (.ref 12),aT P "_wall" 288 (.ref 38),aT P "IPV4_RE" 320 (.ref 43),aT P "liberal_is_HDN" 327 (.ref 50),aT P "user_domain_match" 336 (.ref 57),aT P "cmp_to_key" 347 (.ref 64),aT P "_initial_missing" 348 (.ref 65),aT P "reduce" 360 (.ref 73),aT P "_c3_merge" 366 (.ref 78),aT P "_NODE_OUT" 371 (.int (-1) 370),aT P "_NODE_DONE" 374 (.int (-2) 373),aT P "_NodeInfo" 411 (.ref 97),aT P "CycleError" 429 (.ref 112),aT P "TopologicalSorter" 548 (.ref 194),aT P "_law_rules" 556 (.ref 203),aT P "_law_host" 563 (.ref 210),aT P "_law_holds" 572 (.ref 217),aT P "_law_judge" 581 (.ref 224),aT P "_law_run" 587 (.ref 229),aT P "_law_rows" 593 (.ref 234),aT P "_law_listing" 603 (.ref 241),aT P "law" 609 (.ref 246)] 31),#[]⟩),(nat_lit 4,⟨(.type "module"),(some 0),.plain,#[]⟩),(nat_lit 63,g8 "cmp_to_key" "cmp_to_key" 339 340 341 25 1 3 58 59 .none (.ref 60) (.ref 61) (.ref 62) 345 25 346),(nat_lit 92,g8 "__init__" "_NodeInfo.__init__" 391 392 393 89 2 3 87 88 .none (.ref 89) (.ref 90) (.ref 91) 396 89 397),(nat_lit 96,⟨(.type "dict"),none,(.dict #[aT P "__module__" 382 (.str "cpy313.graphlib" 367),aT P "__firstlineno__" 386 (.int (86) 385),aT P "__slots__" 390 (.ref 86),aT P "__init__" 398 (.ref 93),aT P "__static_attributes__" 402 (.ref 94),aT P "node" 404 (.ref 98),aT P "npredecessors" 406 (.ref 99),aT P "successors" 408 (.ref 100),aT P "__doc__" 409 .none] 5),#[]⟩),(nat_lit 97,⟨(.type "type"),none,(.cls ⟨"_NodeInfo",[(.type "object")],[(.ref 97),(.type "object")],96,"_NodeInfo",false,["node","npredecessors","successors"],[],false,none,false⟩),#[none,none,some (.str "_NodeInfo" 375),some (.str "_NodeInfo" 383),some (.builtin "object.__new__"),some (.bool false)]⟩),(nat_lit 98,⟨(.type "member_descriptor"),none,(.fields #[(.str "node" 403),(.ref 97),(.builtin "proto.slot"),(.builtin "proto.slot#set"),(.int (2) 0)]),#[]⟩),(nat_lit 99,⟨(.type "member_descriptor"),none,(.fields #[(.str "npredecessors" 405),(.ref 97),(.builtin "proto.slot"),(.builtin "proto.slot#set"),(.int (1) 0)]),#[]⟩),(nat_lit 100,⟨(.type "member_descriptor"),none,(.fields #[(.str "successors" 407),(.ref 97),(.builtin "proto.slot"),(.builtin "proto.slot#set"),(.int (0) 0)]),#[]⟩),(nat_lit 123,⟨(.type "tuple"),none,(.seq #[.none] 0),#[]⟩),(nat_lit 129,g8 "__init__" "TopologicalSorter.__init__" 442 443 444 97 2 3 124 125 .none (.ref 126) (.ref 127) (.ref 128) 449 97 450),(nat_lit 136,g8 "_get_nodeinfo" "TopologicalSorter._get_nodeinfo" 452 453 454 106 2 3 131 132 .none (.ref 133) (.ref 134) (.ref 135) 458 106 459),(nat_lit 143,g8 "add" "TopologicalSorter.add" 461 462 463 111 2 7 138 139 .none (.ref 140) (.ref 141) (.ref 142) 470 111 471),(nat_lit 148,g8 "prepare" "TopologicalSorter.prepare" 473 474 475 120 1 3 145 146 .none .none .none (.ref 147) 476 120 477),(nat_lit 155,g8 "get_ready" "TopologicalSorter.get_ready" 479 480 481 128 1 3 150 151 .none (.ref 152) (.ref 153) (.ref 154) 486 128 487),(nat_lit 162,g8 "is_active" "TopologicalSorter.is_active" 489 490 491 139 1 3 157 158 .none (.ref 159) (.ref 160) (.ref 161) 493 139 494),(nat_lit 169,g8 "__bool__" "TopologicalSorter.__bool__" 496 497 498 144 1 3 164 165 .none (.ref 166) (.ref 167) (.ref 168) 500 144 501),(nat_lit 176,g8 "done" "TopologicalSorter.done" 503 504 505 147 1 7 171 172 .none (.ref 173) (.ref 174) (.ref 175) 514 147 515),(nat_lit 183,g8 "_find_cycle" "TopologicalSorter._find_cycle" 517 518 519 170 1 3 178 179 .none (.ref 180) (.ref 181) (.ref 182) 527 170 528),(nat_lit 193,⟨(.type "dict"),none,(.dict #[aT P "__module__" 437 (.str "cpy313.graphlib" 367),aT P "__firstlineno__" 441 (.int (95) 440),aT P "__init__" 451 (.ref 130),aT P "_get_nodeinfo" 460 (.ref 137),aT P "add" 472 (.ref 144),aT P "prepare" 478 (.ref 149),aT P "get_ready" 488 (.ref 156),aT P "is_active" 495 (.ref 163),aT P "__bool__" 502 (.ref 170),aT P "done" 516 (.ref 177),aT P "_find_cycle" 529 (.ref 184),aT P "static_order" 536 (.ref 191),aT P "__static_attributes__" 541 (.ref 192),aT P "__dict__" 543 (.ref 195),aT P "__weakref__" 545 (.ref 196),aT P "__doc__" 546 .none] 4),#[]⟩),(nat_lit 194,⟨(.type "type"),none,(.cls ⟨"TopologicalSorter",[(.type "object")],[(.ref 194),(.type "object")],193,"TopologicalSorter",true,[],[],false,none,false⟩),#[none,none,some (.str "TopologicalSorter" 430),some (.str "TopologicalSorter" 438),some (.builtin "object.__new__"),some (.bool true)]⟩),(nat_lit 64,⟨.type "function",none,.func (fdOf (dh 7) "cmp_to_key" .none (.str "cpy313.functools" 337) (.ref 63)),#[]⟩),(nat_lit 93,⟨.type "function",none,.func (fdOf (Gq 0) "_NodeInfo.__init__" .none (.str "cpy313.graphlib" 367) (.ref 92)),#[]⟩),(nat_lit 130,⟨.type "function",none,.func (fdOf (hu 0) "TopologicalSorter.__init__" (.ref 123) (.str "cpy313.graphlib" 367) (.ref 129)),#[]⟩),(nat_lit 137,⟨.type "function",none,.func (fdOf (hu 1) "TopologicalSorter._get_nodeinfo" .none (.str "cpy313.graphlib" 367) (.ref 136)),#[]⟩),(nat_lit 144,⟨.type "function",none,.func (fdOf (hu 2) "TopologicalSorter.add" .none (.str "cpy313.graphlib" 367) (.ref 143)),#[]⟩),(nat_lit 149,⟨.type "function",none,.func (fdOf (hu 3) "TopologicalSorter.prepare" .none (.str "cpy313.graphlib" 367) (.ref 148)),#[]⟩),(nat_lit 156,⟨.type "function",none,.func (fdOf (hu 4) "TopologicalSorter.get_ready" .none (.str "cpy313.graphlib" 367) (.ref 155)),#[]⟩),(nat_lit 163,⟨.type "function",none,.func (fdOf (hu 5) "TopologicalSorter.is_active" .none (.str "cpy313.graphlib" 367) (.ref 162)),#[]⟩),(nat_lit 170,⟨.type "function",none,.func (fdOf (hu 6) "TopologicalSorter.__bool__" .none (.str "cpy313.graphlib" 367) (.ref 169)),#[]⟩),(nat_lit 177,⟨.type "function",none,.func (fdOf (hu 7) "TopologicalSorter.done" .none (.str "cpy313.graphlib" 367) (.ref 176)),#[]⟩),(nat_lit 184,⟨.type "function",none,.func (fdOf (hu 8) "TopologicalSorter._find_cycle" .none (.str "cpy313.graphlib" 367) (.ref 183)),#[]⟩)]
theorem DI (P:Params):((KB P).map (·.1)).all (λa=>decide (a < 247)&&!tab a)=true:=rfl
theorem DL {P:Params} (ar:∀z∈Z,247<=z) (x:es Z o y) (k:(KB P).In o.heap):(KB P).In y.heap:=λa w e=>by
 have hm:(a,w)∈KB P:=by
  generalize KB P=l at e
  induction l with
  |nil=>cases e
  |cons p r ih=>
   obtain⟨b,E⟩:=p
   rw[g9] at e
   cases aA:a==b with
   |true=>rw[aA] at e;cases e;refine m (hh.mp aA) ?_;exact iF
   |false=>rw[aA] at e;exact iY _ (ih e)
 have q:=d1.mp (DI P) a (d9 (f:=(·.1)) hm)
 simp only[iR,h8,lX] at q
 exact x.keep a w (λh=>ey _ (cz q.1 (ar a h))) q.2 (k a w e)
section
open PySem.W.X
noncomputable def va:Program:={PySem.Challenge.pw_il0181_01 with main:={PySem.Challenge.pw_il0181_01.main with body:=[0,1,3,4,5,7,8,10,12,13,14,15,16,18,19,20,21,22,23,24,25].map dh}}
noncomputable def lo:List Str:=["IPV4_RE","_initial_missing","reduce","_NodeInfo"]
noncomputable def LQ (P:Params):Frag:=[
(nat_lit 42,⟨(.type "tuple"),none,(.seq #[(.int (14) 0),(.int (8) 0),(.int (1) 0),(.int (2) 0),(.int (4294967295) 0),(.int (1) 0),(.int (1) 0),(.int (46) 0),(.int (0) 0),(.int (16) 0),(.int (46) 0),(.int (24) 0),(.int (9) 0),(.int (1) 0),(.int (4294967295) 0),(.int (13) 0),(.int (4) 0),(.int (8) 0),(.int (0) 0),(.int (0) 0),(.int (1) 0),(.int (6) 0),(.int (5) 0),(.int (1) 0)] 0),#[]⟩),(nat_lit 43,⟨(.type "re.Pattern"),none,(.fields #[(.str "\\.\\d+$" 292),(.int (256) 319),(.int (0) 0),.none,.none,(.ref 42),(.int (0) 0)]),#[]⟩),(nat_lit 49,g8 "liberal_is_HDN" "liberal_is_HDN" 321 322 323 7 1 3 44 45 .none (.ref 46) (.ref 47) (.ref 48) 325 7 326),(nat_lit 56,g8 "user_domain_match" "user_domain_match" 328 329 330 11 2 3 51 52 .none (.ref 53) (.ref 54) (.ref 55) 334 11 335),(nat_lit 59,⟨.none,none,(.fields #[]),#[]⟩),(nat_lit 65,⟨(.type "object"),none,.plain,#[]⟩),(nat_lit 66,⟨(.type "tuple"),none,(.seq #[(.ref 65)] 0),#[]⟩),(nat_lit 72,g8 "reduce" "reduce" 349 350 351 51 3 3 67 68 .none (.ref 69) (.ref 70) (.ref 71) 358 51 359),(nat_lit 77,g8 "_c3_merge" "_c3_merge" 361 362 363 63 1 3 74 75 .none .none .none (.ref 76) 364 63 365),(nat_lit 202,g8 "_law_rules" "_law_rules" 551 552 553 202 1 3 199 200 .none .none .none (.ref 201) 554 202 555),(nat_lit 209,g8 "_law_host" "_law_host" 557 558 559 217 1 3 204 205 .none (.ref 206) (.ref 207) (.ref 208) 561 217 562),(nat_lit 216,g8 "_law_holds" "_law_holds" 564 565 566 221 2 3 211 212 .none (.ref 213) (.ref 214) (.ref 215) 570 221 571),(nat_lit 219,⟨.none,none,(.fields #[]),#[]⟩),(nat_lit 223,g8 "_law_judge" "_law_judge" 573 574 575 224 2 3 218 219 .none (.ref 220) (.ref 221) (.ref 222) 579 224 580),(nat_lit 228,g8 "_law_run" "_law_run" 582 583 584 226 2 3 225 226 .none .none .none (.ref 227) 585 226 586),(nat_lit 231,⟨.none,none,(.fields #[]),#[]⟩),(nat_lit 233,g8 "_law_rows" "_law_rows" 588 589 590 248 2 3 230 231 .none .none .none (.ref 232) 591 248 592),(nat_lit 240,g8 "_law_listing" "_law_listing" 594 595 596 258 1 3 235 236 .none (.ref 237) (.ref 238) (.ref 239) 601 258 602),(nat_lit 245,g8 "law" "law" 604 605 606 265 1 3 242 243 .none .none .none (.ref 244) 607 265 608),(nat_lit 50,⟨.type "function",none,.func (fdOf (dh 4) "liberal_is_HDN" .none (.str "cpy313.http.cookiejar" 289) (.ref 49)),#[]⟩),(nat_lit 57,⟨.type "function",none,.func (fdOf (dh 5) "user_domain_match" .none (.str "cpy313.http.cookiejar" 289) (.ref 56)),#[]⟩),(nat_lit 78,⟨.type "function",none,.func (fdOf (dh 10) "_c3_merge" .none (.str "cpy313.functools" 337) (.ref 77)),#[]⟩),(nat_lit 203,⟨.type "function",none,.func (fdOf (dh 18) "_law_rules" .none (.str "law_il0181_01" 549) (.ref 202)),#[]⟩),(nat_lit 210,⟨.type "function",none,.func (fdOf (dh 19) "_law_host" .none (.str "law_il0181_01" 549) (.ref 209)),#[]⟩),(nat_lit 217,⟨.type "function",none,.func (fdOf (dh 20) "_law_holds" .none (.str "law_il0181_01" 549) (.ref 216)),#[]⟩),(nat_lit 224,⟨.type "function",none,.func (fdOf (dh 21) "_law_judge" .none (.str "law_il0181_01" 549) (.ref 223)),#[]⟩),(nat_lit 229,⟨.type "function",none,.func (fdOf (dh 22) "_law_run" .none (.str "law_il0181_01" 549) (.ref 228)),#[]⟩),(nat_lit 234,⟨.type "function",none,.func (fdOf (dh 23) "_law_rows" .none (.str "law_il0181_01" 549) (.ref 233)),#[]⟩),(nat_lit 241,⟨.type "function",none,.func (fdOf (dh 24) "_law_listing" .none (.str "law_il0181_01" 549) (.ref 240)),#[]⟩),(nat_lit 73,⟨.type "function",none,.func (fdOf (dh 9) "reduce" (.ref 66) (.str "cpy313.functools" 337) (.ref 72)),#[]⟩),(nat_lit 246,⟨.type "function",none,.func (fdOf (dh 25) "law" .none (.str "law_il0181_01" 549) (.ref 245)),#[]⟩)]
noncomputable def pu (P:Params):Frag:=KB P++LQ P
noncomputable def G1:List Addr:=[0,1,2,3,4,63,92,96,97,98,99,100,123,129,136,143,148,155,162,169,176,183,193,194,64,93,130,137,144,149,156,163,170,177,184,42,43,49,56,59,65,66,72,77,202,209,216,219,223,228,231,233,240,245,50,57,78,203,210,217,224,229,234,241,73,246]
theorem Pr (P:Params):G1=(pu P).map (·.1):=by kernel_rfl
noncomputable def qU:Hook:=kHook pu G1 Pr
theorem left:LeftO PySem.Challenge.rw_il0181_01.row.prog va lo (λo=>xlAt va [] o&&recOk (RowW.records PySem.Challenge.rw_il0181_01.row.toRowW) o) (Hook.obs qU) (Hook.val qU) 3224:=λA=>by kernel_rfl
end
noncomputable def uH:List (Str×Value):=[("liberal_is_HDN",.ref 50),("user_domain_match",.ref 57),("cmp_to_key",.ref 64),("_initial_missing",.ref 65),("reduce",.ref 73),("_c3_merge",.ref 78),("IPV4_RE",.ref 43),("_NodeInfo",.ref 97),("CycleError",.ref 112),("TopologicalSorter",.ref 194),("_law_rules",.ref 203),("_law_host",.ref 210),("_law_holds",.ref 217),("_law_judge",.ref 224),("_law_run",.ref 229),("_law_rows",.ref 234),("_law_listing",.ref 241)]
noncomputable def ob:List (Str×Value):=[("len",.builtin "len"),("range",.type "range"),("min",.builtin "min"),("sorted",.builtin "sorted"),("list",.type "list"),("sum",.builtin "sum"),("iter",.builtin "iter"),("next",.builtin "next"),("tuple",.type "tuple"),("bool",.type "bool"),("set",.type "set"),("ValueError",.type "ValueError"),("StopIteration",.type "StopIteration"),("TypeError",.type "TypeError"),("object",.type "object")]
theorem jk (h:ob.lookup x=some v):(x,v)∈ob:=gq h
theorem iT (h:uH.lookup x=some v):(x,v)∈uH:=gq h
structure Ao (Q U:Str->Option Value):Prop where
 g:∀p∈uH,Q p.1=some p.2
 b:∀p∈ob,Q p.1=none/\U p.1=some p.2
 out:∃t,Q "_NODE_OUT"=some (.int (-1) t)
 done:∃t,Q "_NODE_DONE"=some (.int (-2) t)
 bm:Q "__builtins__"=some (.ref 4)
noncomputable def nx:List Int:=[14,8,1,2,4294967295,1,1,46,0,16,46,24,9,1,4294967295,13,4,8,0,0,1,6,5,1]
noncomputable def statics:List (Addr×(Obj->Prop)):=[
 (43,λw=>hO λx t u=>w={cls:=.type "re.Pattern",data:=.fields #[.str x t,.int 256 u,.int 0 0,.none,.none,.ref 42,.int 0 0]}),(42,λw=>w={cls:=.type "tuple",data:=.seq (nx.map λi=>.int i 0).toArray}),(4,λw=>ce (w.cls=.type "module") (w.dict=some builtinsNs) (w.data=.plain)),(223,m5 219),(233,m5 231),(66,λw=>∃n,w.data=.seq #[.ref 65] n),(65,λw=>w.data=.plain),(63,m5 59)]
theorem Lh:(statics.map (·.1)).all (λa=>decide (a < 247)&&!tab a)=true:=by decide
structure Base (Q U:Str->Option Value) (h:Heap):Prop where
 g:h.Ns mainGlobals Q
 b:h.Ns builtinsNs U
 lim:h.NoLimit
 nm:Ao Q U
 tabs:d2 h
 fj:247<=h.objs.size
 qX:FnAt h 50 (dh 4) "liberal_is_HDN" .none
 pL:FnAt h 57 (dh 5) "user_domain_match" .none
 rk:FnAt h 64 (dh 7) "cmp_to_key" .none
 q1:FnAt h 78 (dh 10) "_c3_merge" .none
 rE:FnAt h 203 (dh 18) "_law_rules" .none
 q8:FnAt h 210 (dh 19) "_law_host" .none
 rG:FnAt h 217 (dh 20) "_law_holds" .none
 q3:FnAt h 224 (dh 21) "_law_judge" .none
 rH:FnAt h 229 (dh 22) "_law_run" .none
 qT:FnAt h 234 (dh 23) "_law_rows" .none
 q2:FnAt h 241 (dh 24) "_law_listing" .none
 q4:FnAt h 73 (dh 9) "reduce" (.ref 66)
 st:∀q∈statics,∃w,h.get? q.1=some w/\q.2 w
 cf:∃P,(KB P).In h
theorem sX (ar:∀z∈Z,247<=z) (h:a < 247):a∉Z:=λq=>ey _ (cz h (ar a q))
theorem FnAt.cw {st:Stmt} (ar:∀z∈Z,247<=z) (x:es Z o y) (T:d2 o.heap) (f:FnAt o.heap a st q em):FnAt y.heap a st q em:=by
 obtain⟨A2,bs,w,bF,J,t,e,d,av,x6,mT,q⟩:=f
 exact⟨A2,bs,w,bF,J,t,x.keep a w (sX ar A2) (T.jl e λJ z=>by rw[d] at z;cases z) e,d,av,x.keep (a - 1) bF (sX ar (ki (Nat.sub_le _ _) A2)) av x6,mT,q⟩
theorem xs (aF:a∉Z) (x:es Z o y) (T:d2 o.heap) (n:o.heap.Ns a ab):y.heap.Ns a ab:=by
 obtain⟨w,aU,ck,e,d,r⟩:=n
 exact⟨w,aU,ck,x.keep a w aF (T.jl e λJ z=>by rw[d] at z;cases z) e,d,r⟩
theorem FZ (x:an o y) (T:d2 o.heap) (n:o.heap.Ns a ab):y.heap.Ns a ab:=xs (Z:=[]) (λq=>by cases q) x.cw T n
theorem Base.cw (ar:∀z∈Z,247<=z) (x:es Z o y) (C:Base Q U o.heap):Base Q U y.heap where
 g:=xs (sX ar (by decide)) x C.tabs C.g
 b:=xs (sX ar (by decide)) x C.tabs C.b
 lim:=let ⟨A3,n,e⟩:=C.lim;⟨A3,xs (sX ar (by decide)) x C.tabs n,e⟩
 nm:=C.nm
 tabs:=x.tabs C.tabs
 fj:=aK C.fj x.size
 qX:=C.qX.cw ar x C.tabs
 pL:=C.pL.cw ar x C.tabs
 rk:=C.rk.cw ar x C.tabs
 q1:=C.q1.cw ar x C.tabs
 rE:=C.rE.cw ar x C.tabs
 q8:=C.q8.cw ar x C.tabs
 rG:=C.rG.cw ar x C.tabs
 q3:=C.q3.cw ar x C.tabs
 rH:=C.rH.cw ar x C.tabs
 qT:=C.qT.cw ar x C.tabs
 q2:=C.q2.cw ar x C.tabs
 q4:=C.q4.cw ar x C.tabs
 st:=λq aS=>by
  obtain⟨w,e,h⟩:=C.st q aS
  have:=d1.mp Lh _ (d9 aS)
  simp only[iR,h8,lX] at this
  exact⟨w,x.keep _ w (sX ar this.1) this.2 e,h⟩
 cf:=C.cf.imp λ_ k=>DL ar x k
theorem Base.ex (x:an o y) (C:Base Q U o.heap):Base Q U y.heap:=C.cw (Z:=[]) (λz q=>by cases q) x.cw
noncomputable def gV (o:Shared) (s:Env) (x:Str) (v:Value):Prop:=
 (s.kindOf x=some .local/\∃ab,o.heap.Ns s.locals ab/\ab x=some v)∨
 ((s.kindOf x=some .cell∨s.kindOf x=some .free)/\∃c,s.cells.lookup x=some c/\o.heap.IsCell c (some v))
theorem gV.ex (X:an o y) (T:d2 o.heap) (V:gV o s x v):gV y s x v:=by
 rcases V with⟨k,ab,n,e⟩|⟨k,c,l,w,e,d⟩
 ·exact .inl ⟨k,ab,FZ X T n,e⟩
 ·exact .inr ⟨k,c,l,w,X.keep c w (T.jl e λJ z=>by rw[d] at z;cases z) e,d⟩
structure cJ (Q U:Str->Option Value) (Y:List Addr) (o:Shared) (s:Env) (az:Str->Option PyData):Prop where
 base:Base Q U o.heap
 fn:s.scope.kind=.function
 hF:s.globals=mainGlobals
 blt:s.builtins=builtinsNs
 dP:∀x d,az x=some d->∃v,gV o s x v/\aO Y o.heap v d
 eb:∀E∈Y,E < o.heap.objs.size
 inj:∀n d6 c,s.cells.lookup n=some c->s.cells.lookup d6=some c->n=d6
 fE:∀n c,s.cells.lookup n=some c->c < o.heap.objs.size/\c∉Y
 cb:s.locals < o.heap.objs.size/\s.locals∉Y
theorem cJ.ex {Y:List Addr} {az:Str->Option PyData} (x:an o y) (aa:cJ Q U Y o s az):cJ Q U Y y s az:=
 ⟨aa.base.ex x,aa.fn,aa.hF,aa.blt,λE d e=>let ⟨v,V,r⟩:=aa.dP E d e;⟨v,V.ex x aa.base.tabs,r.ex aa.base.tabs x⟩,λE aJ=>cz (aa.eb E aJ) x.size,aa.inj,λn c e=>⟨cz (aa.fE n c e).1 x.size,(aa.fE n c e).2⟩,⟨cz aa.cb.1 x.size,aa.cb.2⟩⟩
theorem cJ.more {Y:List Addr} {az:Str->Option PyData} (aa:cJ Q U Y o s az) (x:an o y) (ar:∀z∈Z,o.heap.objs.size<=z/\z < y.heap.objs.size):cJ Q U (Z++Y) y s az:=
 ⟨aa.base.ex x,aa.fn,aa.hF,aa.blt,λE d e=>let ⟨v,V,r⟩:=aa.dP E d e;⟨v,V.ex x aa.base.tabs,(r.more λz q=>(ar z q).1).ex aa.base.tabs x⟩,λE aJ=>by
  rcases df.mp aJ with q|q
  ·exact(ar E q).2
  ·exact cz (aa.eb E q) x.size,aa.inj,λn c e=>⟨cz (aa.fE n c e).1 x.size,λq=>by
  rcases df.mp q with q|q
  ·exact ey _ (cz (aa.fE n c e).1 (ar c q).1)
  ·exact(aa.fE n c e).2 q⟩,⟨cz aa.cb.1 x.size,λq=>by
  rcases df.mp q with q|q
  ·exact ey _ (cz aa.cb.1 (ar _ q).1)
  ·exact aa.cb.2 q⟩⟩
theorem cJ.weak {Y:List Addr} {az:Str->Option PyData} (k:∀b∈eP,b∈Y) (aa:cJ Q U Y o s az):cJ Q U eP o s az:=
 ⟨aa.base,aa.fn,aa.hF,aa.blt,λE d e=>let ⟨v,V,r⟩:=aa.dP E d e;⟨v,V,r.weak k⟩,λE aJ=>aa.eb E (k E aJ),aa.inj,λn c e=>⟨(aa.fE n c e).1,λq=>(aa.fE n c e).2 (k _ q)⟩,⟨aa.cb.1,λq=>aa.cb.2 (k _ q)⟩⟩
theorem cJ.sub {Y:List Addr} {az:Str->Option PyData} (aa:cJ Q U Y o s az) (k:∀x d,oR x=some d->az x=some d):cJ Q U Y o s oR:=
 ⟨aa.base,aa.fn,aa.hF,aa.blt,λE d e=>aa.dP E d (k E d e),aa.eb,aa.inj,aa.fE,aa.cb⟩
structure b0 (k:Nat) (D:Around):Prop where
 d:D.depth+3 * k<=690
 u:D.units+40 * k<=9000
 h:D.handled=none
theorem b0.le {k:Nat} (R:b0 k D) (h:j<=k):b0 j D:=⟨by have:=R.d;exact Fl h this,by have:=R.u;exact Fl h this,R.h⟩
theorem b0.deeper {k:Nat} (R:b0 (k+1) D) (s:Env):b0 k (D.deeper s):=⟨by have:=R.d;simp only[Around.deeper];exact sW this (by decide),by have:=R.u;simp only[Around.deeper];exact sW this (by decide),R.h⟩
theorem b0.in1 {k:Nat} (R:b0 (k+1) D):b0 k D.in1:=⟨by have:=R.d;simp only[Around.in1_depth];exact sW (e:=0) this (by decide),by have:=R.u;simp only[Around.in1_units];exact sW this (by decide),R.h⟩
theorem Kx:recursionLimit=1000:=rfl
theorem N6:cLine=9900:=rfl
theorem b0.room {k:Nat} (R:b0 k D):D.depth < recursionLimit:=by refine m Kx ?_;have:=R.d;exact Gh (aK (jS _ _) this)
theorem b0.units {k:Nat} (R:b0 k D):D.units+600 < cLine:=by refine m N6 ?_;have:=R.u;exact Gh (ox (aK (jS _ _) this) 600)
section
variable (B:Program) (A:World) (D:Around)
structure H (Y:List Addr) (o:Shared) (s:Env) (e:Expr) (d:PyData):Prop where
 ap:∀(aj:Shared) (G:Value->Shared->Prop) (M:Value->Shared->Prop),an o aj->(∀v y,an aj y->aO Y y.heap v d->G v y)->wpAny (model B A) D (eval e s) G M aj
structure bi (o:Shared) (s:Env) (e:Expr) (v:Value):Prop where
 ap:∀(aj:Shared) (G:Value->Shared->Prop) (M:Value->Shared->Prop),an o aj->(∀y,an aj y->G v y)->wpAny (model B A) D (eval e s) G M aj
structure bL (o:Shared) (s:Env) (e:Expr) (b:Bool):Prop where
 ap:∀(aj:Shared) (G:Bool->Shared->Prop) (M:Value->Shared->Prop),an o aj->(∀y,an aj y->G b y)->wpAny (model B A) D (isTrue e s (eval e s)) G M aj
structure bK (Y:List Addr) (o:Shared) (s:Env) (ao:Pos) (aU:List Expr) (aM:List PyData):Prop where
 ap:∀(aj:Shared) (G:List Value->Shared->Prop) (M:Value->Shared->Prop),an o aj->(∀J y,an aj y->bR Y y.heap J aM->G J y)->wpAny (model B A) D (spliced (backTo ao (starEach aU s))) G M aj
noncomputable def nA (Q U:Str->Option Value) (f:Value) (aM:List PyData) (d:PyData):Prop:=
 ∀(Y:List Addr) (o:Shared) (J:List Value),Base Q U o.heap->(∀E∈Y,E < o.heap.objs.size)->bR Y o.heap J aM->
  codeAny (model B A) D (.call f ⟨J,[]⟩) (λr y=>∃v,ce (r=.ok (.ret v)) (an o y) (aO Y y.heap v d)) o
end
section
variable {Y:List Addr} {az:Str->Option PyData}
theorem z1 {G:Value->Shared->Prop} (aN:s.scope.kind=.function) (V:gV o s x v) (h:G v o) (au:autoParam ((x==("__classdict__":Str))=false) fe._auto_1):
  wpAny (model B A) D (loadName s x) G M o:=by
 rcases V with⟨k,ab,n,e⟩|⟨k,c,l,w,e,d⟩
 ·exact wpAny_loadName_local aN k n e h
 ·rcases k with k|k
  ·exact wpAny_loadName_cell aN k l ⟨w,e,d⟩ h
  ·exact wpAny_loadName_free aN k l ⟨w,e,d⟩ h au
theorem H.name {d:PyData} (aa:cJ Q U Y o s az) (e:az x=some d) (hd:autoParam ((x==("__debug__":Str))=false) fe._auto_1) (au:autoParam ((x==("__classdict__":Str))=false) fe._auto_1):
  H B A D Y o s (.Name x ao) d:=.mk λaj G M aq h=>by
 obtain⟨v,V,r⟩:=aa.dP x d e
 exact wpAny_Name (z1 aa.fn (V.ex aq aa.base.tabs) (h v aj (an.refl _) (r.ex aa.base.tabs aq)) au) hd
theorem bi.glob (aa:cJ Q U Y o s az) (aN:s.kindOf x=some .globalImplicit) (hm:(x,v)∈uH) (hd:autoParam ((x==("__debug__":Str))=false) fe._auto_1):
  bi B A D o s (.Name x ao) v:=.mk λaj G M aq h=>
 uW aa.fn aN (Calls.loadGlobal_global (mg:=Q) (by refine m aa.hF ?_;exact(aa.base.ex aq).g) (aa.base.nm.g _ hm) (h aj (an.refl _))) hd
theorem bi.blt (aa:cJ Q U Y o s az) (aN:s.kindOf x=some .globalImplicit) (hm:(x,v)∈ob) (hd:autoParam ((x==("__debug__":Str))=false) fe._auto_1):
  bi B A D o s (.Name x ao) v:=.mk λaj G M aq h=>
 uW aa.fn aN (Calls.loadGlobal_builtin (mg:=Q) (mb:=U) (by refine m aa.hF ?_;exact(aa.base.ex aq).g) (aa.base.nm.b _ hm).1 (by refine m aa.blt ?_;exact(aa.base.ex aq).b) (aa.base.nm.b _ hm).2 (h aj (an.refl _))) hd
theorem H.int {i:Int} {k:Nat}:H B A D Y o s (.Constant (.int i) k ao) (.int i):=.mk λaj G M aq h=>wpAny_Constant_int (h _ _ (an.tok _) (.int _ _))
theorem H.str {i:Str} {k:Nat}:H B A D Y o s (.Constant (.str i) k ao) (.str i):=.mk λaj G M aq h=>Calls.Constant_str (h _ _ (an.tok _) (.str _ _))
theorem H.bool {b:Bool} {k:Nat}:H B A D Y o s (.Constant (.bool b) k ao) (.bool b):=.mk λaj G M aq h=>Constant_bool (h _ _ (an.refl _) (.bool _))
theorem H.none {k:Nat}:H B A D Y o s (.Constant .none k ao) .none:=.mk λaj G M aq h=>Constant_none (h _ _ (an.refl _) .none)
theorem bK.nil:bK B A D Y o s ao [] []:=.mk λaj G M aq h=>kH (h _ _ (an.refl _) .nil)
theorem bK.cons {aU:List Expr} {d:PyData} (C:Base Q U o.heap) (O:H B A D Y o s e d) (R:bK B A D Y o s ao aU aM)
  (al:autoParam (starEach (e::aU) s=(false,eval e s)::starEach aU s) cg._auto_1):bK B A D Y o s ao (e::aU) (d::aM):=.mk λaj G M aq h=>by
 refine m al ?_
 refine jO (O.ap aj _ _ aq λv y dr r=>?_)
 exact R.ap y _ _ (aq.trans dr) λJ cs x7 rs=>h _ _ (dr.trans x7) (.cons (r.ex ((C.ex (aq.trans dr)).tabs) x7) rs)
end
section
variable (B:Program) (A:World) (D:Around)
noncomputable def cH (i4:CmpOp) (gO ed:PyData) (b:Bool):Prop:=
 ∀(o:Shared) (dX dU:Value) (G:Value->Shared->Prop) (M:Value->Shared->Prop),aO [] o.heap dX gO->aO [] o.heap dU ed->(∀y,an o y->G (.bool b) y)->wpAny (model B A) D (compareOp i4 dX dU) G M o
noncomputable def eU (i4:Operator) (gO ed d:PyData):Prop:=
 ∀(Y:List Addr) (o:Shared) (dX dU:Value) (G:Value->Shared->Prop) (M:Value->Shared->Prop),(∀E∈Y,E < o.heap.objs.size)->aO Y o.heap dX gO->aO Y o.heap dU ed->(∀v y,an o y->aO Y y.heap v d->G v y)->wpAny (model B A) D (binaryOp i4 dX dU) G M o
noncomputable def iW (d:PyData) (b:Bool):Prop:=
 ∀(o:Shared) (v:Value) (G:Bool->Shared->Prop) (M:Value->Shared->Prop),aO [] o.heap v d->(∀y,an o y->G b y)->wpAny (model B A) D (truthy v) G M o
end
section
variable {Y:List Addr} {az:Str->Option PyData} {k:Nat}
noncomputable def low (d:PyData):Prop:=d.canLay0=true/\d.depth<=20
theorem cH.eq {b:Bool} (R:b0 k D) (ca:low gO) (en:low ed) (e:PyData.eqv gO ed=b):cH B A D .Eq gO ed b:=λo dX dU G M c8 c4 h=>by
 obtain⟨_,oU⟩:=c8.reads ca.1
 obtain⟨_,oV⟩:=c4.reads en.1
 exact SeqAt.compareEq_reads oU oV ca.1 en.1 (by have:=R.units;have:=ca.2;exact DE ‹D.units+600 < cLine› this) (by refine m e ?_;exact h o (an.refl _))
theorem cH.ne {b:Bool} (R:b0 k D) (ca:low gO) (en:low ed) (e:PyData.eqv gO ed=!b):cH B A D .NotEq gO ed b:=λo dX dU G M c8 c4 h=>by
 obtain⟨_,oU⟩:=c8.reads ca.1
 obtain⟨_,oV⟩:=c4.reads en.1
 exact SeqAt.compareNe_reads oU oV ca.1 en.1 (by have:=R.units;have:=ca.2;exact DE ‹D.units+600 < cLine› this) (by refine m e ?_;rewrite[ps];exact h o (an.refl _))
theorem cH.in_list {d:PyData} {b:Bool} (R:b0 k D) (ca:low d) (en:low (.list ag)) (e:(ag.any λE=>PyData.eqv E d)=b):cH B A D .In d (.list ag) b:=λo dX dU G M c8 c4 h=>by
 obtain⟨_,oU⟩:=c8.reads ca.1
 obtain⟨_,oV⟩:=c4.reads en.1
 exact SeqAt.in_list_reads oV oU (by have:=en.1;simpa [PyData.canLay0] using this) ca.1 (by have:=R.units;have:=ca.2;exact AX ‹D.units+600 < cLine› this) (by refine m e ?_;exact h o (an.refl _))
theorem cH.notIn_list {d:PyData} {b:Bool} (R:b0 k D) (ca:low d) (en:low (.list ag)) (e:(ag.any λE=>PyData.eqv E d)=!b):cH B A D .NotIn d (.list ag) b:=λo dX dU G M c8 c4 h=>by
 obtain⟨_,oU⟩:=c8.reads ca.1
 obtain⟨_,oV⟩:=c4.reads en.1
 exact SeqAt.notIn_list_reads oV oU (by have:=en.1;simpa [PyData.canLay0] using this) ca.1 (by have:=R.units;have:=ca.2;exact AX ‹D.units+600 < cLine› this) (by refine m e ?_;rewrite[ps];exact h o (an.refl _))
theorem cH.notIn_tuple {d:PyData} {b:Bool} (R:b0 k D) (ca:low d) (en:low (.tuple ag)) (e:(ag.any λE=>PyData.eqv E d)=!b):cH B A D .NotIn d (.tuple ag) b:=λo dX dU G M c8 c4 h=>by
 obtain⟨_,oU⟩:=c8.reads ca.1
 obtain⟨_,oV⟩:=c4.reads en.1
 exact SeqAt.notIn_tuple_reads oV oU (by have:=en.1;simpa [PyData.canLay0] using this) ca.1 (by have:=R.units;have:=ca.2;exact AX ‹D.units+600 < cLine› this) (by refine m e ?_;rewrite[ps];exact h o (an.refl _))
theorem aO.int_inv {h:Heap} {i:Int} (r:aO X h v (.int i)):∃t,v=.int i t:=by cases r;exact⟨_,rfl⟩
theorem aO.str_inv {h:Heap} {i:Str} (r:aO X h v (.str i)):∃t,v=.str i t:=by cases r;exact⟨_,rfl⟩
@[elab_as_elim] theorem aO.fU {h:Heap} {i:Int} (r:aO X h v (.int i)) (k:∀t,motive (.int i t)):motive v:=let ⟨t,e⟩:=r.int_inv;e▸k t
@[elab_as_elim] theorem aO.fV {h:Heap} {i:Str} (r:aO X h v (.str i)) (k:∀t,motive (.str i t)):motive v:=let ⟨t,e⟩:=r.str_inv;e▸k t
theorem aO.bool_inv {h:Heap} {i:Bool} (r:aO X h v (.bool i)):v=.bool i:=by cases r;rfl
theorem aO.none_inv {h:Heap} (r:aO X h v .none):v=.none:=by cases r;rfl
@[elab_as_elim] theorem aO.GJ {h:Heap} {i:Bool} (r:aO X h v (.bool i)) (k:motive (.bool i)):motive v:=r.bool_inv▸k
@[elab_as_elim] theorem aO.rM {h:Heap} (r:aO X h v .none) (k:motive .none):motive v:=r.none_inv▸k
theorem cH.lt {a b:Int}:cH B A D .Lt (.int a) (.int b) (decide (a < b)):=λo dX dU G M c8 c4 h=>by
 refine aO.fU c8 λ_=>?_;refine aO.fU c4 λ_=>?_
 exact PyProof.Rows.lt_int (h o (an.refl _))
theorem cH.gt {a b:Int}:cH B A D .Gt (.int a) (.int b) (decide (b < a)):=λo dX dU G M c8 c4 h=>by
 refine aO.fU c8 λ_=>?_;refine aO.fU c4 λ_=>?_
 exact PyProof.Rows.gt_int (h o (an.refl _))
theorem cH.is_bool {a b:Bool}:cH B A D .Is (.bool a) (.bool b) (a==b):=λo dX dU G M c8 c4 h=>by
 have:=c8.bool_inv;subst this;have:=c4.bool_inv;subst this
 exact wpAny_is_plain rfl (by
  have:((Value.bool a==Value.bool b):Bool)=(a==b):=by cases a<;>cases b<;>rfl
  refine m this ?_;exact h o (an.refl _))
theorem cH.Mp {a b:Bool}:cH B A D .IsNot (.bool a) (.bool b) (!(a==b)):=λo dX dU G M c8 c4 h=>by
 have:=c8.bool_inv;subst this;have:=c4.bool_inv;subst this
 exact wpAny_isNot_plain rfl (by
  have:((Value.bool a==Value.bool b):Bool)=(a==b):=by cases a<;>cases b<;>rfl
  refine m this ?_;exact h o (an.refl _))
theorem cH.is_none:cH B A D .Is .none .none true:=λo dX dU G M c8 c4 h=>by
 have:=c8.none_inv;subst this;have:=c4.none_inv;subst this
 exact wpAny_is_self rfl (h o (an.refl _))
theorem cH.EP:cH B A D .Is (.str x) .none false:=λo dX dU G M c8 c4 h=>by
 refine aO.fV c8 λ_=>?_;have:=c4.none_inv;subst this
 exact wpAny_is_other rfl (by intro e;cases e) (h o (an.refl _))
theorem iW.bool {b:Bool}:iW B A D (.bool b) b:=λo v G M r h=>by
 have:=r.bool_inv;subst this
 exact iq (h o (an.refl _))
theorem iW.list {b:Bool} (ar:ag.length<=1000) (e:(!ag.isEmpty)=b):iW B A D (.list ag) b:=λo v G M r h=>by
 refine aO.kL r λa J n _ l rs=>?_
 replace l:=l.isList
 have a0:=rs.length
 refine wpAny_truthy_list l (by simp only[gz];(first|assumption|lia|omega)) ?_
 have:(!J.toArray.isEmpty)=b:=by
  refine a9 e ?_;cases J<;>cases ag<;>simp_all
 refine m this ?_;exact h _ (an.tok _)
theorem H.cmp {i4:CmpOp} {l r:Expr} {b:Bool} (C:Base Q U o.heap) (oW:H B A D Y o s l gO) (rU:H B A D Y o s r ed) (c:cH B A D i4 gO ed b) (hm:autoParam (behindInMarks i4 r=false) h7._auto_1):
  H B A D Y o s (.Compare l [i4] [r] ao) (.bool b):=.mk λaj G M aq h=>by
 refine wpAny_Compare1 (oW.ap aj _ _ aq λdX aB aE c8=>rU.ap aB _ _ (aq.trans aE) λdU ax a7 c4=>?_) hm
 exact c ax dX dU G M ((c8.ex (C.ex (aq.trans aE)).tabs a7).nil) c4.nil λb2 c0=>h _ _ ((aE.trans a7).trans c0) (.bool b)
theorem bL.cmp {i4:CmpOp} {l r:Expr} {b:Bool} {Y:List Addr} (C:Base Q U o.heap) (oW:H B A D Y o s l gO) (rU:H B A D eP o s r ed) (c:cH B A D i4 gO ed b) (hm:autoParam (behindInMarks i4 r=false) h7._auto_1):
  bL B A D o s (.Compare l [i4] [r] ao) b:=.mk λaj G M aq h=>by
 refine mM (oW.ap aj _ _ aq λdX aB aE c8=>rU.ap aB _ _ (aq.trans aE) λdU ax a7 c4=>?_) hm
 exact c ax dX dU _ M ((c8.ex (C.ex (aq.trans aE)).tabs a7).nil) c4.nil λb2 c0=>iq (h _ ((aE.trans a7).trans c0))
theorem bL.val {d:PyData} {b:Bool} (O:H B A D Y o s e d) (t:iW B A D d b) (al:autoParam (∀ab,isTrue e s ab=(do let v <-ab;standAt e.pos;holding [v] (truthy v))) pZ._auto_1):bL B A D o s e b:=.mk λaj G M aq h=>by
 rw[al]
 exact ay (O.ap aj _ _ aq λv aB aE r=>ay (gK (dZ (t aB v G M r.nil λax a7=>h _ (aE.trans a7)))))
theorem bL.not {x:Expr} {b:Bool} (O:bL B A D o s x b):bL B A D o s (.UnaryOp .Not x ao) (!b):=.mk λaj G M aq h=>isTrue_not (O.ap aj _ _ aq λaB aE=>h _ aE)
theorem bL.and_nil:bL B A D o s (.BoolOp .And [] ao) true:=.mk λaj G M aq h=>isTrue_and_nil (h _ (an.refl _))
theorem bL.and {x:Expr} {aZ:List Expr} {b c:Bool} (O:bL B A D o s x b) (R:b=true->bL B A D o s (.BoolOp .And aZ ao) c):bL B A D o s (.BoolOp .And (x::aZ) ao) (b&&c):=.mk λaj G M aq h=>by
 refine isTrue_and (O.ap aj _ _ aq λaB aE=>?_)
 cases b with
 |false=>exact h _ aE
 |true=>exact(R rfl).ap aB _ _ (aq.trans aE) λax a7=>h _ (aE.trans a7)
theorem H.MY {d:PyData} (O:H B A D Y o s e d):H B A D Y o s (.BoolOp .And [e] ao) d:=.mk λaj G M aq h=>BoolOp_one (O.ap aj _ _ aq h)
theorem H.GS {d:PyData} (O:H B A D Y o s e d):H B A D Y o s (.BoolOp .Or [e] ao) d:=.mk λaj G M aq h=>BoolOp_one (O.ap aj _ _ aq h)
theorem H.and {aZ:List Expr} {b c:Bool} (O:H B A D Y o s m7 (.bool b)) (R:b=true->H B A D Y o s (.BoolOp .And (lx::aZ) ao) (.bool c)):H B A D Y o s (.BoolOp .And (m7::lx::aZ) ao) (.bool (b&&c)):=.mk λaj G M aq h=>by
 refine BoolOp_and (O.ap aj _ _ aq λv aB aE r=>?_)
 have:=r.bool_inv;subst this
 refine iq ?_
 cases b with
 |false=>exact h _ _ aE (.bool _)
 |true=>exact(R rfl).ap aB _ _ (aq.trans aE) λv ax a7 r=>h _ _ (aE.trans a7) r
theorem H.or {aZ:List Expr} {b c:Bool} (O:H B A D Y o s m7 (.bool b)) (R:b=false->H B A D Y o s (.BoolOp .Or (lx::aZ) ao) (.bool c)):H B A D Y o s (.BoolOp .Or (m7::lx::aZ) ao) (.bool (b||c)):=.mk λaj G M aq h=>by
 refine BoolOp_or (O.ap aj _ _ aq λv aB aE r=>?_)
 have:=r.bool_inv;subst this
 refine iq ?_
 cases b with
 |true=>exact h _ _ aE (.bool _)
 |false=>exact(R rfl).ap aB _ _ (aq.trans aE) λv ax a7 r=>h _ _ (aE.trans a7) r
theorem H.xu {t b w:Expr} {c:Bool} {d:PyData} (O:bL B A D o s t c) (T:c=true->H B A D Y o s b d) (F:c=false->H B A D Y o s w d):H B A D Y o s (.IfExp t b w ao) d:=.mk λaj G M aq h=>by
 refine IfExp_ (O.ap aj _ _ aq λaB aE=>?_)
 cases c with
 |true=>exact(T rfl).ap aB _ _ (aq.trans aE) λv ax a7 r=>h _ _ (aE.trans a7) r
 |false=>exact(F rfl).ap aB _ _ (aq.trans aE) λv ax a7 r=>h _ _ (aE.trans a7) r
theorem H.neg_int {i:Int} (O:H B A D Y o s e (.int i)):H B A D Y o s (.UnaryOp .USub e ao) (.int (-i)):=.mk λaj G M aq h=>
 UnaryOp_ (O.ap aj _ _ aq λv aB aE r=>by
  refine aO.fU r λt=>?_
  exact P.neg_int (h _ _ (aE.trans (an.tok _)) (.int _ _)))
theorem H.bin {i4:Operator} {l r:Expr} {d:PyData} (aa:cJ Q U Y o s az) (oW:H B A D Y o s l gO) (rU:H B A D Y o s r ed) (c:eU B A D i4 gO ed d):H B A D Y o s (.BinOp l i4 r ao) d:=.mk λaj G M aq h=>by
 refine wpAny_BinOp (oW.ap aj _ _ aq λdX aB aE c8=>rU.ap aB _ _ (aq.trans aE) λdU ax a7 c4=>?_)
 have x:=(aq.trans aE).trans a7
 exact c Y ax dX dU G M (aa.ex x).eb (c8.ex (aa.base.ex (aq.trans aE)).tabs a7) c4 λv b2 c0 jv=>h _ _ ((aE.trans a7).trans c0) jv
theorem eU.add_int {a b:Int}:eU B A D .Add (.int a) (.int b) (.int (a+b)):=λY o dX dU G M _ c8 c4 h=>by
 refine aO.fU c8 λ_=>?_;refine aO.fU c4 λ_=>?_
 exact P.add_int (h _ _ (an.tok _) (.int _ _))
theorem eU.sub_int {a b:Int}:eU B A D .Sub (.int a) (.int b) (.int (a - b)):=λY o dX dU G M _ c8 c4 h=>by
 refine aO.fU c8 λ_=>?_;refine aO.fU c4 λ_=>?_
 exact P.sub_int (h _ _ (an.tok _) (.int _ _))
theorem eU.mod_int {a b:Int} (aA:b≠0):eU B A D .Mod (.int a) (.int b) (.int (a.fmod b)):=λY o dX dU G M _ c8 c4 h=>by
 refine aO.fU c8 λ_=>?_;refine aO.fU c4 λ_=>?_
 exact PyProof.Rows.mod_int' aA (h _ _ (an.tok _) (.int _ _))
theorem eU.PT {a b:Int} (aA:b≠0) (af:Builtin.divisionGoesByPylong a b=false):eU B A D .FloorDiv (.int a) (.int b) (.int (a.fdiv b)):=λY o dX dU G M _ c8 c4 h=>by
 refine aO.fU c8 λ_=>?_;refine aO.fU c4 λ_=>?_
 exact PyProof.Rows.floordiv_int aA (h _ _ (an.tok _) (.int _ _)) (.inl af)
theorem eU.add_str {a b:Str} (aF:a.length≠0) (aA:b.length≠0) (ar:(a++b).length<=sizeLine):eU B A D .Add (.str a) (.str b) (.str (a++b)):=λY o dX dU G M _ c8 c4 h=>by
 refine aO.fV c8 λ_=>?_;refine aO.fV c4 λ_=>?_
 refine P.add_str ?_
 refine m (bI (by simpa using aF)) (m (bI (by simpa using aA)) ?_)
 exact⟨ar,h _ _ (an.tok _) (.str _ _)⟩
end
section
variable {Y:List Addr} {az:Str->Option PyData} {k:Nat}
theorem F1 (aJ:∀E∈Y,E < o.heap.objs.size) (T:d2 o.heap) (r:bR Y o.heap J aM):
  aO Y ({o with heap:=o.heap.push {cls:=.type "list",data:=.seq J.toArray}}:Shared).heap (.ref o.heap.objs.size) (.list aM):=
 .list (λq=>ey _ (aJ _ q)) (dT _ rfl) (by simpa using r.ex T (an.push _))
theorem Me (aJ:∀E∈Y,E < o.heap.objs.size) (T:d2 o.heap) (r:bR Y o.heap J aM):
  aO Y ({o with heap:=o.heap.push {cls:=.type "tuple",data:=.seq J.toArray}}:Shared).heap (.ref o.heap.objs.size) (.tuple aM):=
 .tuple (λq=>ey _ (aJ _ q)) (dT _ rfl) (by simpa using r.ex T (an.push _))
theorem dR:sizeLine=16777216:=by exact m qZ rfl
theorem H.list {aU:List Expr} (aa:cJ Q U Y o s az) (O:bK B A D Y o s ao aU aM) (ar:autoParam (aM.length<=1000) zx._auto_1):H B A D Y o s (.List aU ao) (.list aM):=.mk λaj G M aq h=>by
 refine List_ (O.ap aj _ _ aq λJ aB aE r=>?_)
 have l:=r.length
 have cV:=aa.ex (aq.trans aE)
 exact jJ (h _ _ (aE.trans (an.push _)) (F1 cV.eb cV.base.tabs r)) (by show J.toArray.size<=sizeLine;refine m dR (m gz ?_);exact c2 (aK (di l) ar))
theorem H.tuple {aU:List Expr} (aa:cJ Q U Y o s az) (O:bK B A D Y o s ao aU aM) (ar:autoParam (aM.length<=1000) zx._auto_1):H B A D Y o s (.Tuple aU j ao) (.tuple aM):=.mk λaj G M aq h=>by
 refine Tuple_ (O.ap aj _ _ aq λJ aB aE r=>?_)
 have l:=r.length
 have cV:=aa.ex (aq.trans aE)
 exact jJ (h _ _ (aE.trans (an.push _)) (Me cV.eb cV.base.tabs r)) (by show J.toArray.size<=sizeLine;refine m dR (m gz ?_);exact c2 (aK (di l) ar))
noncomputable def placeAt (i:Int) (n:Nat):Nat:=if i < 0 then(i+n).toNat else i.toNat
theorem MC {i:Int} {t:Tok} {d:PyData} {G:Value->Shared->Prop} (r:aO Y o.heap v (.list ag)) (aH:-(ag.length:Int)<=i) (ar:i < 1000/\ag.length<=1000) (e:ag[placeAt i ag.length]?=some d)
  (h:∀u,aO Y o.heap u d->G u o):wpAny (model B A) D (getItem v (.int i t)) G M o:=by
 refine aO.kL r λa J rV _ l rs=>?_
 replace l:=l.isList
 obtain⟨u,iI,d7⟩:=rs.get e
 have a0:=rs.length
 unfold placeAt at iI
 by_cases au:i < 0
 ·rw[b3 au] at iI
  exact wpAny_getItem_list_neg l au (by simp only[gz];simp_all) (by lia) (by simp only[gz,u1];refine m a0 ?_;exact iI) (h u d7)
 ·rw[bI au] at iI
  exact wpAny_getItem_list l (by simp_all) (by lia) (by simpa using iI) (h u d7)
theorem LJ {i:Int} {t:Tok} {d:PyData} {G:Value->Shared->Prop} (r:aO Y o.heap v (.tuple ag)) (aH:0<=i) (ar:i < 1000) (e:ag[i.toNat]?=some d)
  (h:∀u,aO Y o.heap u d->G u o):wpAny (model B A) D (getItem v (.int i t)) G M o:=by
 refine aO.AN r λa J rV _ l rs=>?_
 replace l:=l.isTup
 obtain⟨u,iI,d7⟩:=rs.get e
 have bU:i.toNat < J.length:=by
  have:=(gL.mp iI).1
  exact this
 refine PyProof.Rows.getItem_tuple l (by lia) (by lia) (j:=i.toNat) ?_ (by simpa using iI) (h u d7)
 simp only[seqIndex?,gz,bI (show ¬i < 0 by simp_all)]
 exact m (b3 (by simp only[iR,h8];simp_all)) rfl
theorem H.sub {slice:Expr} {i:Int} {d:PyData} (aa:cJ Q U Y o s az) (O:H B A D Y o s i2 (.list ag)) (ae:H B A D Y o s slice (.int i)) (aH:-(ag.length:Int)<=i) (ar:i < 1000/\ag.length<=1000) (e:ag[placeAt i ag.length]?=some d)
  (aW:autoParam (∀w i,subscripted slice false w i=operate [w,i] (getItem w i)) uq._auto_1):H B A D Y o s (.Subscript i2 slice ao) d:=.mk λaj G M aq h=>by
 refine Subscript_ (O.ap aj _ _ aq λv aB aE r=>ae.ap aB _ _ (aq.trans aE) λme ax a7 qd=>?_)
 refine aO.fU qd λt=>?_
 have m9:=r.ex (aa.base.ex (aq.trans aE)).tabs a7
 obtain⟨a,J,rV,rfl,_,l,rs⟩:=m9.rJ
 replace l:=l.isList
 exact tail_any l.typeIs slot_list_getitem.lookup (MC m9 aH ar e λu d7=>h u _ (aE.trans a7) d7) (aW _ _)
theorem H.Fp {slice:Expr} {i:Int} {d:PyData} (aa:cJ Q U Y o s az) (O:H B A D Y o s i2 (.tuple ag)) (ae:H B A D Y o s slice (.int i)) (aH:0<=i) (ar:i < 1000) (e:ag[i.toNat]?=some d)
  (aW:autoParam (∀w i,subscripted slice false w i=operate [w,i] (getItem w i)) uq._auto_1):H B A D Y o s (.Subscript i2 slice ao) d:=.mk λaj G M aq h=>by
 refine Subscript_ (O.ap aj _ _ aq λv aB aE r=>ae.ap aB _ _ (aq.trans aE) λme ax a7 qd=>?_)
 refine aO.fU qd λt=>?_
 have m9:=r.ex (aa.base.ex (aq.trans aE)).tabs a7
 obtain⟨a,J,rV,rfl,_,l,rs⟩:=m9.rb
 replace l:=l.isTup
 exact tail_any l.typeIs slot_tuple_getitem.lookup (LJ m9 aH ar e λu d7=>h u _ (aE.trans a7) d7) (aW _ _)
structure hA (B:Program) (A:World) (D:Around) (o:Shared) (s:Env) (e:Option Expr) (p:Option Int):Prop where
 ap:∀(aj:Shared) (G:Value->Shared->Prop) (M:Value->Shared->Prop),an o aj->(∀v y,an aj y->IsPart v p->G v y)->wpAny (model B A) D (evalPart e s) G M aj
theorem hA.none:hA B A D o s none none:=.mk λaj G M aq h=>wpAny_evalPart_none (h _ _ (an.refl _) .none)
theorem hA.some {i:Int} (O:H B A D Y o s e (.int i)):hA B A D o s (some e) (some i):=.mk λaj G M aq h=>
 wpAny_evalPart_some (O.ap aj _ _ aq λv aB aE r=>by refine aO.fU r λt=>?_;exact h _ _ aE (.int _ _))
theorem bR.pick {h:Heap} (r:bR X h J aM):∀(vs:List Nat),bR X h ((vs.filterMap λj=>J[j]?)) (vs.filterMap λj=>aM[j]?)
 |[]=>.nil
 |j::vs=>by
  have a0:=r.length
  cases e:aM[j]? with
  |none=>
   have:J[j]?=none:=by rw[pS] at e ⊢;simp_all
   simp only[u9,e,this]
   exact bR.pick r vs
  |some d=>
   obtain⟨v,ev,eX⟩:=r.get e
   simp only[u9,e,ev]
   exact .cons eX (bR.pick r vs)
noncomputable def iz {a2:Type} (ag:List a2) (lo aH st:Option Int):List a2:=
 (sliceRange (sliceBounds lo aH st ag.length).1 (sliceBounds lo aH st ag.length).2.1 (sliceBounds lo aH st ag.length).2.2).filterMap λj=>ag[j]?
theorem bR.iz {h:Heap} (r:bR X h J aM) (lo aH st:Option Int):bR X h (slicePick J.toArray lo aH st).toList (Il.iz aM lo aH st):=by
 unfold slicePick Il.iz
 simp only[gz,u1]
 refine m r.length ?_
 exact r.pick _
theorem NT {l:Addr} {qe tD kV:Value} {lo aH st:Option Int} {G:Value->Shared->Prop} {le tE tF:Option Expr} {p:Pos} (a0:o.heap.IsList l J.toArray) (qa:IsPart qe lo) (kW:IsPart tD aH) (bg:IsPart kV st) (et:st≠some 0)
  (ar:J.length<=sizeLine) (gP:∀w i,∃x8,subscripted (.Slice le tE tF p) false w i=operate x8 (getItem w i))
  (h:∀O y,an o y->o.heap.objs.size<=O->y.heap.get? O=some ({cls:=.type "list",data:=.seq (slicePick J.toArray lo aH st)}:Obj)->G (.ref O) y):
  wpAny (model B A) D (subscriptTail i2 (.Slice le tE tF p) (.ref l) (.ref o.heap.objs.size)) G M {o with heap:=o.heap.push {cls:=.type "slice",data:=.fields #[qe,tD,kV]}}:=by
 obtain⟨x8,e⟩:=gP (.ref l) (.ref o.heap.objs.size)
 have nP:({o with heap:=o.heap.push {cls:=.type "slice",data:=.fields #[qe,tD,kV]}}:Shared).heap.IsList l J.toArray:=a0.push _
 refine tail_any nP.typeIs slot_list_getitem.lookup (wpAny_getItem_list_slice nP ⟨_,dT _ rfl,rfl,rfl⟩ qa kW bg et ?_ (by simpa using ar)) e
 exact h _ _ ((an.push {cls:=.type "slice",data:=.fields #[qe,tD,kV]}).trans (an.push (o:={o with heap:=o.heap.push {cls:=.type "slice",data:=.fields #[qe,tD,kV]}}) {cls:=.type "list",data:=.seq (slicePick J.toArray lo aH st)})) (by simp) (dT _ rfl)
theorem H.slice {le tE tF:Option Expr} {p:Pos} {lo aH st:Option Int} (aa:cJ Q U Y o s az) (O:H B A D Y o s i2 (.list ag)) (L:hA B A D o s le lo) (QC:hA B A D o s tE aH) (S:hA B A D o s tF st)
  (et:st≠some 0) (ar:ag.length<=1000) (gP:∀w i,∃x8,subscripted (.Slice le tE tF p) false w i=operate x8 (getItem w i):=by intro _ _;exact⟨_,rfl⟩):
  H B A D Y o s (.Subscript i2 (.Slice le tE tF p) ao) (.list (iz ag lo aH st)):=.mk λaj G M aq h=>by
 refine Subscript_ (O.ap aj _ _ aq λv aB aE r=>wpAny_Slice (L.ap aB _ _ (aq.trans aE) λqe ax a7 qa=>QC.ap ax _ _ ((aq.trans aE).trans a7) λtD b2 c0 kW=>S.ap b2 _ _ (((aq.trans aE).trans a7).trans c0) λkV cm fW bg=>?_))
 have na:=aq.trans aE
 have A4:=(a7.trans c0).trans fW
 have QD:=r.ex (aa.base.ex na).tabs A4
 have ee:=aa.ex (na.trans A4)
 refine aO.kL QD λa J rV aF l rs=>?_
 replace l:=l.isList
 refine NT l qa kW bg et (by refine m dR (m rs.length ?_);exact aK ‹_› (by decide)) gP λO ds eu cW bW=>?_
 refine h _ _ ((aE.trans A4).trans eu) (.list (λq=>absurd (ee.eb _ q) (eZ.mpr cW)) bW ?_)
 exact(rs.iz lo aH st).ex ee.base.tabs eu
theorem eU.add_list (ar:ag.length+cP.length<=1000):∀(Y:List Addr) (o:Shared) (dX dU:Value) (G:Value->Shared->Prop) (M:Value->Shared->Prop),d2 o.heap->(∀E∈Y,E < o.heap.objs.size)->aO Y o.heap dX (.list ag)->aO Y o.heap dU (.list cP)->
  (∀v y,an o y->aO Y y.heap v (.list (ag++cP))->G v y)->wpAny (model B A) D (binaryOp .Add dX dU) G M o:=λY o dX dU G M T aJ c8 c4 h=>by
 refine aO.kL c8 λa J rV aF l rs=>?_
 replace l:=l.isList
 refine aO.kL c4 λb cq Wf aA fg G7=>?_
 replace fg:=fg.isList
 obtain⟨⟨nb,b4,Wg,bQ⟩,aP,av,n,hd⟩:=id l
 obtain⟨⟨Wh,QE,data2,mf⟩,qf,qg,qh,vt⟩:=id fg
 simp only at av hd qg vt
 subst av hd qg vt
 have e:J.toArray++cq.toArray=(J++cq).toArray:=by simp
 refine concat_meets ⟨_,aP,rfl⟩ ⟨_,qf,rfl⟩ noFill_list_add seq_list_add PySem.F.slot_list_add PySem.F.entry_list_add (PySem.F.args_list_add_2 _ _)
  (list_addW a b J.toArray cq.toArray n qh b4 QE bQ mf (by refine m gz (m gz (m dR (m rs.length (m G7.length ?_))));exact aK ‹_› (by decide))) ⟨aP,qf,?_⟩
 refine m e ?_
 exact h _ _ (an.push _) (F1 aJ T (rs.append G7))
theorem H.add_list {l r:Expr} (aa:cJ Q U Y o s az) (oW:H B A D Y o s l (.list ag)) (rU:H B A D Y o s r (.list cP)) (ar:ag.length+cP.length<=1000):H B A D Y o s (.BinOp l .Add r ao) (.list (ag++cP)):=.mk λaj G M aq h=>by
 refine wpAny_BinOp (oW.ap aj _ _ aq λdX aB aE c8=>rU.ap aB _ _ (aq.trans aE) λdU ax a7 c4=>?_)
 have x:=(aq.trans aE).trans a7
 exact eU.add_list ar Y ax dX dU G M (aa.base.ex x).tabs (aa.ex x).eb (c8.ex (aa.base.ex (aq.trans aE)).tabs a7) c4 λv b2 c0 jv=>h _ _ ((aE.trans a7).trans c0) jv
theorem H.call {f:Str} {np:Pos} {aU:List Expr} {d:PyData} (aa:cJ Q U Y o s az) (V:bi B A D o s (.Name f np) (.ref a)) (cE:aU≠[]) (O:bK B A D Y o s ao aU aM) (F:nA B A D Q U (.ref a) aM d)
  (bb:∀{h:Heap},Base Q U h->cp λw e5=>h.get? a=some w/\w.data=.func e5) (al:cp λe aZ=>aU=e::aZ/\starEach aU s=(false,eval e s)::starEach aZ s):
  H B A D Y o s (.Call (.Name f np) aU [] ao) d:=.mk λaj G M aq h=>by
 refine Call_Name rfl (V.ap aj _ _ aq λaB aE=>?_)
 obtain⟨e,aZ,rfl,A5⟩:=al
 have key:wpAny (model B A) D (spliced (backTo ao (starEach (e::aZ) s))) (λJ ax=>an aB ax/\bR Y ax.heap J aM) M aB:=O.ap aB _ _ (aq.trans aE) λJ ax a7 r=>⟨a7,r⟩
 obtain⟨w,e5,aP,hT⟩:=bb (aa.base.ex (aq.trans aE))
 have hU:tab a=false:=(aa.base.ex (aq.trans aE)).tabs.jl aP λJ q=>by rw[hT] at q;cases q
 refine ra (o:=w) (fd:=e5) ?_
 rw[A5] at key ⊢
 refine kg (c5 key (λJ ax ef=>?_) λ_ _ x=>x)
 obtain⟨a7,m9⟩:=ef
 refine⟨⟨a7.keep a w hU aP,hT⟩,?_⟩
 have jW:=(aq.trans aE).trans a7
 refine hg (h4 (F Y ax J (aa.base.ex jW) (aa.ex jW).eb m9) λr b2 aV=>?_)
 obtain⟨v,rfl,c0,eX⟩:=aV
 exact h _ _ ((aE.trans a7).trans c0) eX
theorem H.len {np:Pos} (aa:cJ Q U Y o s az) (aN:s.kindOf "len"=some .globalImplicit) (O:H B A D Y o s e (.list ag)) (ar:ag.length<=1000) (al:autoParam (starEach [e] s=[(false,eval e s)]) cg._auto_1):
  H B A D Y o s (.Call (.Name "len" np) [e] [] ao) (.int ag.length):=.mk λaj G M aq h=>by
 have V:bi B A D o s (.Name "len" np) (.builtin "len"):=bi.blt aa aN (by exact jk (by kernel_rfl))
 refine l3 al (V.ap aj _ _ aq λaB aE=>callWith_builtin1 (O.ap aB _ _ (aq.trans aE) λv ax a7 r=>?_))
 refine aO.kL r λa J rV aF l rs=>?_
 replace l:=l.isList
 have a0:=rs.length
 refine Calls.call_len_list l (by simp only[gz];(first|assumption|lia|omega)) (h _ _ ((aE.trans a7).trans (an.tok _)) ?_)
 refine m gz (m a0 ?_)
 exact .int _ _
end
theorem hI.unique {h:Heap} {ii:Str->Option Value} (n:h.Ns a ab) (d6:h.Ns a ii):ab=ii:=by
 obtain⟨w,aU,ck,e,d,_,f⟩:=n
 obtain⟨bA,vu,QF,bt,dW,_,vv⟩:=d6
 rw[e] at bt;cases bt
 rw[d] at dW;cases dW
 funext x;rw[<-f,vv]
theorem hI.l8 {h:Heap} (n:h.Ns a ab):∀w,h.get? a=some w->¬jR w:=by
 obtain⟨w,aU,ck,e,d,_⟩:=n
 intro bA bt q
 rw[e] at bt;cases bt
 rcases q with⟨_,_,q⟩|⟨_,_,q⟩<;>rw[d] at q<;>cases q
theorem hI.xN {h:Heap} {v:Option Value} (n:h.Ns a ab) (k:h.IsCell c v):c≠a:=by
 obtain⟨w,aU,ck,e,d,_⟩:=n
 obtain⟨bA,bt,dW⟩:=k
 rintro rfl
 rw[e] at bt;cases bt
 rw[d] at dW;cases dW
theorem hI.gY {h:Heap} (n:h.Ns a ab):∀w,h.get? a=some w->go w=false:=by
 obtain⟨w,aU,ck,e,d,_⟩:=n
 intro bA bt
 rw[e] at bt;cases bt
 exact rj λJ q=>by rw[d] at q;cases q
theorem Qo {h:Heap} {v:Option Value} (n:h.IsCell a v):∀w,h.get? a=some w->go w=false:=by
 obtain⟨w,e,d⟩:=n
 intro bA bt
 rw[e] at bt;cases bt
 exact rj λJ q=>by rw[d] at q;cases q
theorem wN {h:Heap} {v:Option Value} (n:h.IsCell a v):∀w,h.get? a=some w->¬jR w:=by
 obtain⟨w,e,d⟩:=n
 intro bA bt q
 rw[e] at bt;cases bt
 rcases q with⟨_,_,q⟩|⟨_,_,q⟩<;>rw[d] at q<;>cases q
noncomputable def upd {a2:Type} (az:Str->Option a2) (x:Str) (d:a2):Str->Option a2:=λE=>if E=x then some d else az E
noncomputable def out {a2:Type} (az:Str->Option a2) (x:Str):Str->Option a2:=λE=>if E=x then none else az E
inductive Ent
 |own (p:Obj->Prop)
 |lst (aM:List PyData)
noncomputable def Ent.at (Y:List Addr) (h:Heap) (a:Addr):Ent->Prop
 |.own p=>∃w,ce (h.get? a=some w) (go w=false) (p w)
 |.lst aM=>cp λJ n=>IsL h a J n/\bR Y h J.toList aM
structure bd where
 L:List (Addr×Ent):=[]
 R:List (Value×PyData):=[]
 az:Str->Option PyData:=λ_=>none
 bO:Str->Option Value:=λ_=>none
noncomputable def bd.as (K:bd):List Addr:=K.L.map (·.1)
noncomputable def bd.Y (K:bd) (ai:List Addr):List Addr:=K.as++ai
structure aw (Q U:Str->Option Value) (ai Z:List Addr) (ak:Shared) (s:Env) (K:bd) (o:Shared):Prop where
 hN:Base Q U ak.heap
 ex:es Z ak o
 z:∀z∈Z,247<=z
 aI:cJ Q U (K.Y ai) o s K.az
 dP:∀x v,K.bO x=some v->gV o s x v
 ic:∀p∈K.R,aO (K.Y ai) o.heap p.1 p.2
 led:∀p∈K.L,p.2.at (K.Y ai) o.heap p.1
 ah:K.as.Nodup
 own:∀a∈K.as,ak.heap.objs.size<=a∨a∈Z
 ns:∃ab,o.heap.Ns s.locals ab
 lo:ak.heap.objs.size<=s.locals
 l4:∀n c,s.cells.lookup n=some c->s.locals < c->∃u,o.heap.IsCell c u
section
variable {k:Nat}
theorem aw.fj (C:aw Q U ai Z ak s K o) (h:a∈K.as):247<=a:=(C.own a h).elim (λq=>aK C.hN.fj q) λq=>C.z a q
theorem aw.tabs (C:aw Q U ai Z ak s K o):d2 o.heap:=C.aI.base.tabs
theorem nM (h:247<=a):tab a=false:=by
 unfold tab
 have aX:(a==(59:Nat))=false:=by rw[iG];rintro rfl;exact absurd h (by decide)
 have a5:(a==(219:Nat))=false:=by rw[iG];rintro rfl;exact absurd h (by decide)
 have cu:(a==(231:Nat))=false:=by rw[iG];rintro rfl;exact absurd h (by decide)
 simp only[Bool.or_eq_false_iff]
 exact⟨⟨aX,a5⟩,cu⟩
theorem gV.same {aD:Nat} (aW:Heap.SameBut a o.heap am) (a1:s.locals≠a) (hn:∀n c,s.cells.lookup n=some c->c≠a) (V:gV o s x v):gV {o with heap:=am,toks:=aD} s x v:=by
 rcases V with⟨k,ab,n,e⟩|⟨k,c,l,av⟩
 ·exact .inl ⟨k,ab,n.sameBut aW a1,e⟩
 ·exact .inr ⟨k,c,l,av.sameBut aW (hn _ c l)⟩
theorem Ent.ex {Y:List Addr} {e:Ent} (T:d2 o.heap) (aF:tab a=false) (x:an o y) (h:e.at Y o.heap a):e.at Y y.heap a:=by
 cases e with
 |own p=>obtain⟨w,aP,I,af⟩:=h;exact⟨w,x.keep a w aF aP,I,af⟩
 |lst aM=>obtain⟨J,n,l,r⟩:=h;exact⟨J,n,x.keep a _ aF l,r.ex T x⟩
theorem Ent.gY {Y:List Addr} {h:Heap} {e:Ent} (q:e.at Y h a):∀w,h.get? a=some w->go w=false:=by
 cases e with
 |own p=>obtain⟨w,aP,I,af⟩:=q;intro bA bt;rw[aP] at bt;cases bt;exact I
 |lst aM=>obtain⟨J,n,l,r⟩:=q;intro bA bt;rw[show h.get? a=_ from l] at bt;cases bt;rfl
theorem Ent.same {Y:List Addr} {h:Heap} {b:Addr} {e:Ent} (aW:Heap.SameBut a h am) (aF:a∈Y∨∀w,h.get? a=some w->¬jR w) (aA:b≠a) (q:e.at Y h b):e.at Y am b:=by
 cases e with
 |own p=>obtain⟨w,aP,I,af⟩:=q;exact⟨w,(aW.2 b aA).trans aP,I,af⟩
 |lst aM=>obtain⟨J,n,l,r⟩:=q;exact⟨J,n,(aW.2 b aA).trans l,r.upd aW aF⟩
theorem aw.step (C:aw Q U ai Z ak s K o) (x:an o y):aw Q U ai Z ak s K y:=
 ⟨C.hN,C.ex.trans x.cw,C.z,C.aI.ex x,λE v e=>(C.dP E v e).ex x C.tabs,λp af=>(C.ic p af).ex C.tabs x,λp af=>Ent.ex C.tabs (nM (C.fj (d9 af))) x (C.led p af),C.ah,C.own,let ⟨ab,n⟩:=C.ns;⟨ab,FZ x C.tabs n⟩,C.lo,λn c e l=>let ⟨u,w,G8,d⟩:=C.l4 n c e l;⟨u,w,x.keep c w (C.tabs.jl G8 λJ z=>by rw[d] at z;cases z) G8,d⟩⟩
theorem pq {aD:Nat} (Wi:d2 ak.heap) (x:es Z ak o) (aW:Heap.SameBut a o.heap am) (aF:ak.heap.objs.size<=a∨a∈Z) (au:∀w,o.heap.get? a=some w->go w=false):es Z ak {o with heap:=am,toks:=aD}:=by
 obtain⟨h,t,e⟩:=x.same
 refine⟨⟨am,aD,by exact m e rfl⟩,λb w ar bu e=>?_,by refine m (show({o with heap:=am,toks:=aD}:Shared).heap.objs.size=o.heap.objs.size from aW.1) ?_;exact x.size,λT=>(x.tabs T).mono λb w aP e=>?_⟩
 ·refine(aW.2 b ?_).trans (x.keep b w ar bu e)
  rintro rfl
  rcases aF with q|q
  ·exact ey _ (cz (dL e) q)
  ·exact ar q
 ·refine(aW.2 b ?_).trans e
  rintro rfl
  rw[au w e] at aP;cases aP
theorem aw.turn {e bt:Ent} {L:List (Addr×Ent)} {aD:Nat} (a1:K.L=(a,e)::L) (C:aw Q U ai Z ak s K o) (aW:Heap.SameBut a o.heap am) (al:bt.at (K.Y ai) am a):aw Q U ai Z ak s {K with L:=(a,bt)::L} {o with heap:=am,toks:=aD}:=by
 have d8:K.as=a::L.map (·.1):=by unfold bd.as;refine m a1 ?_;rfl
 have fX:({K with L:=(a,bt)::L}:bd).Y ai=K.Y ai:=by unfold bd.Y;refine m d8 ?_;rfl
 have f7:a∈K.Y ai:=by unfold bd.Y;refine m d8 ?_;simp
 have oX:a∈K.as:=by refine m d8 ?_;simp
 have QG:=C.led (a,e) (by refine m a1 ?_;simp)
 have vw:s.locals≠a:=λq=>C.aI.cb.2 (q▸f7)
 have tG:∀n c,s.cells.lookup n=some c->c≠a:=λn c q p=>(C.aI.fE n c q).2 (p▸f7)
 have aq:es Z ak {o with heap:=am,toks:=aD}:=pq C.hN.tabs C.ex aW (C.own a oX) (Ent.gY QG)
 have eB:am.objs.size=o.heap.objs.size:=aW.1
 have ah:=C.ah
 rw[d8,fO] at ah
 refine⟨C.hN,aq,C.z,?_,λE v q=>(C.dP E v q).same aW vw tG,λp af=>?_,λp af=>?_,by show((a,bt)::L |>.map (·.1)).Nodup;refine m dG ?_;rewrite[fO];exact ah,λb aA=>C.own b (by refine m d8 ?_;exact aA),let ⟨ab,n⟩:=C.ns;⟨ab,n.sameBut aW vw⟩,C.lo,λn c q l=>let ⟨u,dn⟩:=C.l4 n c q l;⟨u,dn.sameBut aW (tG n c q)⟩⟩
 ·refine m fX ?_
  exact⟨C.hN.cw C.z aq,C.aI.fn,C.aI.hF,C.aI.blt,λE d q=>let ⟨v,V,r⟩:=C.aI.dP E d q;⟨v,V.same aW vw tG,r.upd aW (.inl f7)⟩,λE q=>by show E < am.objs.size;refine m eB ?_;exact C.aI.eb E q,C.aI.inj,λn c q=>⟨by show c < am.objs.size;refine m eB ?_;exact(C.aI.fE n c q).1,(C.aI.fE n c q).2⟩,⟨by show _ < am.objs.size;refine m eB ?_;exact C.aI.cb.1,C.aI.cb.2⟩⟩
 ·refine m fX ?_;exact(C.ic p af).upd aW (.inl f7)
 ·refine m fX ?_
  have iJ:p∈(a,bt)::L:=af
  rcases bP.mp iJ with rfl|iJ
  ·exact al
  ·have ne:p.1≠a:=λq=>ah.1 (q▸d9 iJ)
   exact Ent.same aW (.inl f7) ne (C.led p (by refine m a1 ?_;exact iY _ iJ))
theorem aw.add {e:Ent} (C:aw Q U ai Z ak s K o) (x:an o y) (aF:o.heap.objs.size<=a/\a < y.heap.objs.size) (al:e.at (a::K.Y ai) y.heap a):aw Q U ai Z ak s {K with L:=(a,e)::K.L} y:=by
 have a4:=C.step x
 have ar:∀z∈[a],o.heap.objs.size<=z/\z < y.heap.objs.size:=λz q=>by refine m (cn.mp q) ?_;exact aF
 refine⟨C.hN,a4.ex,C.z,C.aI.more x ar,a4.dP,λp af=>((C.ic p af).more (Z:=[a]) λz q=>(ar z q).1).ex C.tabs x,λp af=>?_,?_,λb aA=>?_,a4.ns,C.lo,a4.l4⟩
 ·rcases bP.mp af with rfl|af
  ·exact al
  ·have q:=C.led p af
   cases kX:p.2 with
   |own f=>have:=(a4.led p af);rw[kX] at this;exact this
   |lst aM=>
    rw[kX] at q
    obtain⟨J,n,l,r⟩:=q
    exact⟨J,n,x.keep _ _ (nM (C.fj (d9 af))) l,(r.more (Z:=[a]) λz q=>(ar z q).1).ex C.tabs x⟩
 ·show(a::K.as).Nodup
  rw[fO]
  exact⟨λq=>ey _ (cz (C.aI.eb a (e2 _ q)) aF.1),C.ah⟩
 ·have oY:b∈a::K.as:=aA
  rcases bP.mp oY with rfl|oY
  ·exact .inl (aK C.ex.size aF.1)
  ·exact C.own b oY
theorem Ent.weak {Y:List Addr} {h:Heap} {e:Ent} (k:∀b∈eP,b∈Y) (q:e.at Y h a):e.at eP h a:=by
 cases e with
 |own p=>exact q
 |lst aM=>obtain⟨J,n,l,r⟩:=q;exact⟨J,n,l,r.weak k⟩
theorem aw.sub {bH:bd} (C:aw Q U ai Z ak s K o) (a1:∀p∈bH.L,p∈K.L) (ah:bH.as.Nodup) (iK:∀p∈bH.R,p∈K.R) (hd:∀x d,bH.az x=some d->K.az x=some d) (bn:∀x d,bH.bO x=some d->K.bO x=some d):aw Q U ai Z ak s bH o:=by
 have qi:∀a∈bH.as,a∈K.as:=λa q=>by
  obtain⟨p,af,rfl⟩:=bZ.mp q
  exact d9 (a1 p af)
 have fX:∀a∈bH.Y ai,a∈K.Y ai:=λa q=>(df.mp q).elim (λq=>e2 _ (qi a q)) λq=>ez _ q
 exact⟨C.hN,C.ex,C.z,(C.aI.weak fX).sub hd,λx v q=>C.dP x v (bn x v q),λp af=>(C.ic p (iK p af)).weak fX,λp af=>Ent.weak fX (C.led p (a1 p af)),ah,λa q=>C.own a (qi a q),C.ns,C.lo,C.l4⟩
theorem aw.drop {e:Ent} {L:List (Addr×Ent)} (a1:K.L=(a,e)::L) (C:aw Q U ai Z ak s K o):aw Q U ai Z ak s {K with L:=L} o:=
 C.sub (λp af=>by refine m a1 ?_;exact iY _ af) (by have:=C.ah;unfold bd.as at this;rw[a1,dG,fO] at this;exact this.2) (λ_ q=>q) (λ_ _ q=>q) λ_ _ q=>q
theorem aw.perm {L:List (Addr×Ent)} (C:aw Q U ai Z ak s K o) (h:L.Perm K.L):aw Q U ai Z ak s {K with L:=L} o:=
 C.sub (λp af=>h.subset af) (by
  show(L.map (·.1)).Nodup
  exact((h.map (Prod.fst)).nodup_iff).mpr C.ah) (λ_ q=>q) (λ_ _ q=>q) λ_ _ q=>q
theorem aw.bM {d:PyData} (C:aw Q U ai Z ak s K o) (r:aO (K.Y ai) o.heap v d):aw Q U ai Z ak s {K with R:=(v,d)::K.R} o:=
 ⟨C.hN,C.ex,C.z,C.aI,C.dP,λp af=>by
  rcases bP.mp af with rfl|af
  ·exact r
  ·exact C.ic p af,C.led,C.ah,C.own,C.ns,C.lo,C.l4⟩
theorem aw.uA {d:PyData} (C:aw Q U ai Z ak s K o) (bn:gV o s x v) (r:aO (K.Y ai) o.heap v d):aw Q U ai Z ak s {K with az:=upd K.az x d} o:=
 ⟨C.hN,C.ex,C.z,⟨C.aI.base,C.aI.fn,C.aI.hF,C.aI.blt,λE fq q=>by
  unfold upd at q
  by_cases aJ:E=x
  ·subst aJ
   have q:(if E=E then some d else K.az E)=some fq:=q
   rw[b3 rfl] at q;cases q;exact⟨v,bn,r⟩
  ·have q:(if E=x then some d else K.az E)=some fq:=q
   rw[bI aJ] at q;exact C.aI.dP E fq q,C.aI.eb,C.aI.inj,C.aI.fE,C.aI.cb⟩,C.dP,C.ic,C.led,C.ah,C.own,C.ns,C.lo,C.l4⟩
theorem aw.freeze {L:List (Addr×Ent)} (C:aw Q U ai Z ak s K o) (a1:K.L=(a,.lst aM)::L) (fX:a∉ai):aO (({K with L:=L}:bd).Y ai) o.heap (.ref a) (.list aM):=by
 obtain⟨J,n,l,r⟩:=C.led (a,.lst aM) (by refine m a1 ?_;simp)
 have ah:=C.ah
 unfold bd.as at ah
 rw[a1,dG,fO] at ah
 refine .list (λq=>(df.mp q).elim ah.1 fX) l (r.weak λb q=>?_)
 show b∈K.L.map (·.1)++ai
 refine m a1 ?_
 exact iY _ q
theorem uO {a2:Type}:∀{l:List (Addr×a2)} {n:Addr} {c:a2},l.lookup n=some c->(n,c)∈l
 |(k,v)::r,n,c,h=>by
  rw[g9] at h
  cases aA:n==k with
  |true=>rw[aA] at h;cases h;refine m (hh.mp aA) ?_;exact iF
  |false=>rw[aA] at h;exact iY _ (uO h)
theorem aw.ET {vx:Str->Option Value} {G:Unit->Shared->Prop} (C:aw Q U ai Z ak s K o) (aN:s.kindOf x=some .local)
  (hd:∀E d,oR E=some d->(E=x/\aO (K.Y ai) o.heap v d)∨(E≠x/\K.az E=some d)) (bn:∀E u,vx E=some u->(E=x/\u=v)∨(E≠x/\K.bO E=some u))
  (h:∀y,aw Q U ai Z ak s {K with az:=oR,bO:=vx} y->G () y):wpAny (model B A) D (storeName s x v) G M o:=by
 obtain⟨ab,n⟩:=C.ns
 have af:(s.scope.kind==.class||(s.scope.kind==.module&&s.locals !=s.globals))=false:=by refine m C.aI.fn ?_;rfl
 refine wpAny_storeName_local aN n (λam mg dI=>?_) af
 have aq:es Z ak {o with heap:=am,toks:=o.toks+1}:=pq C.hN.tabs C.ex dI (.inl C.lo) (hI.gY n)
 have eB:am.objs.size=o.heap.objs.size:=dI.1
 have i5:∀E u,E≠x->gV o s E u->gV {o with heap:=am,toks:=o.toks+1} s E u:=λE u aJ V=>by
  rcases V with⟨ho,QH,lB,lx⟩|⟨ho,c,l,av⟩
  ·have:=hI.unique n lB;subst this
   exact .inl ⟨ho,_,mg,by refine m (bI aJ) ?_;exact lx⟩
  ·exact .inr ⟨ho,c,l,av.sameBut dI (hI.xN n av)⟩
 have gE:gV {o with heap:=am,toks:=o.toks+1} s x v:=.inl ⟨aN,_,mg,by simp⟩
 refine h _ ⟨C.hN,aq,C.z,⟨C.hN.cw C.z aq,C.aI.fn,C.aI.hF,C.aI.blt,λE fq e=>?_,λE aJ=>by show E < am.objs.size;refine m eB ?_;exact C.aI.eb E aJ,C.aI.inj,λn c q=>⟨by show c < am.objs.size;refine m eB ?_;exact(C.aI.fE n c q).1,(C.aI.fE n c q).2⟩,⟨by show _ < am.objs.size;refine m eB ?_;exact C.aI.cb.1,C.aI.cb.2⟩⟩,λE u e=>?_,λp af=>(C.ic p af).upd dI (.inr (hI.l8 n)),λp af=>Ent.same dI (.inr (hI.l8 n)) (λq=>C.aI.cb.2 (q▸e2 _ (d9 af))) (C.led p af),C.ah,C.own,⟨_,mg⟩,C.lo,λd6 c q l=>let ⟨u,dn⟩:=C.l4 d6 c q l;⟨u,dn.sameBut dI (hI.xN n dn)⟩⟩
 ·rcases hd E fq e with⟨rfl,r⟩|⟨aJ,e⟩
  ·exact⟨v,gE,r.upd dI (.inr (hI.l8 n))⟩
  ·obtain⟨u,V,d7⟩:=C.aI.dP E fq e
   exact⟨u,i5 E u aJ V,d7.upd dI (.inr (hI.l8 n))⟩
 ·rcases bn E u e with⟨rfl,rfl⟩|⟨aJ,e⟩
  ·exact gE
  ·exact i5 E u aJ (C.dP E u e)
theorem aw.Ea {vx:Str->Option Value} {G:Unit->Shared->Prop} (C:aw Q U ai Z ak s K o) (aN:s.kindOf x=some .cell) (av:∃c,s.cells.lookup x=some c/\s.locals < c)
  (hd:∀E d,oR E=some d->(E=x/\aO (K.Y ai) o.heap v d)∨(E≠x/\K.az E=some d)) (bn:∀E u,vx E=some u->(E=x/\u=v)∨(E≠x/\K.bO E=some u))
  (h:∀y,aw Q U ai Z ak s {K with az:=oR,bO:=vx} y->G () y):wpAny (model B A) D (storeName s x v) G M o:=by
 obtain⟨ab,n⟩:=C.ns
 obtain⟨c,av,tH⟩:=av
 obtain⟨Wj,gs⟩:=C.l4 x c av tH
 refine wpAny_storeName_cell C.aI.fn aN av gs (λam mg dI=>?_)
 have aq:es Z ak {o with heap:=am}:=pq (aD:=o.toks) C.hN.tabs C.ex dI (.inl (aK C.lo (ew tH))) (Qo gs)
 have a1:s.locals≠c:=(hI.xN n gs).symm
 have eB:am.objs.size=o.heap.objs.size:=dI.1
 have i5:∀E u,E≠x->gV o s E u->gV {o with heap:=am} s E u:=λE u aJ V=>by
  rcases V with⟨ho,QH,lB,lx⟩|⟨ho,bq,l,i6⟩
  ·exact .inl ⟨ho,_,lB.sameBut dI a1,lx⟩
  ·exact .inr ⟨ho,bq,l,i6.sameBut dI λq=>aJ (C.aI.inj _ _ _ l (q▸av))⟩
 have gE:gV {o with heap:=am} s x v:=.inr ⟨.inl aN,c,av,mg⟩
 refine h _ ⟨C.hN,aq,C.z,⟨C.hN.cw C.z aq,C.aI.fn,C.aI.hF,C.aI.blt,λE fq e=>?_,λE aJ=>by show E < am.objs.size;refine m eB ?_;exact C.aI.eb E aJ,C.aI.inj,λn c q=>⟨by show c < am.objs.size;refine m eB ?_;exact(C.aI.fE n c q).1,(C.aI.fE n c q).2⟩,⟨by show _ < am.objs.size;refine m eB ?_;exact C.aI.cb.1,C.aI.cb.2⟩⟩,λE u e=>?_,λp af=>(C.ic p af).upd dI (.inr (wN gs)),λp af=>Ent.same dI (.inr (wN gs)) (λq=>(C.aI.fE x c av).2 (q▸e2 _ (d9 af))) (C.led p af),C.ah,C.own,⟨_,n.sameBut dI a1⟩,C.lo,λd6 bq q l=>by
   obtain⟨u,dn⟩:=C.l4 d6 bq q l
   by_cases e:bq=c
   ·subst e;exact⟨_,mg⟩
   ·exact⟨u,dn.sameBut dI e⟩⟩
 ·rcases hd E fq e with⟨rfl,r⟩|⟨aJ,e⟩
  ·exact⟨v,gE,r.upd dI (.inr (wN gs))⟩
  ·obtain⟨u,V,d7⟩:=C.aI.dP E fq e
   exact⟨u,i5 E u aJ V,d7.upd dI (.inr (wN gs))⟩
 ·rcases bn E u e with⟨rfl,rfl⟩|⟨aJ,e⟩
  ·exact gE
  ·exact i5 E u aJ (C.dP E u e)
end
noncomputable def items:PyData->List PyData
 |.list ag|.tuple ag=>ag
 |.dict [(.none,.int n)]=>(List.range n.toNat).map λ(i:Nat)=>.int (i:Int)
 |_=>[]
inductive hj:PyData->Prop
 |list (ag:_):hj (.list ag)
 |tuple (ag:_):hj (.tuple ag)
 |range (n:Nat) (h:n<=1000):hj (dB n)
theorem og (n:Nat):items (dB n)=(List.range n).map λ(i:Nat)=>PyData.int (i:Int):=by show(List.range (n:Int).toNat).map _=_;rw[gl]
noncomputable def bk (v:Value) (d:PyData) (i:Nat) (w:Obj):Prop:=match d with
 |.list _=>∃gd,ce (v=.ref gd) (w.cls=.type "list_iterator") (w.data=.fields #[.ref gd,.int i 0])
 |.tuple _=>∃gd,ce (v=.ref gd) (w.cls=.type "tuple_iterator") (w.data=.fields #[.ref gd,.int i 0])
 |.dict [(.none,.int n)]=>w={cls:=.type "range_iterator",dict:=none,data:=.fields #[rawInt i,rawInt (n - i),rawInt 1],slots:=#[]}
 |_=>False
theorem bk.AB {n:Nat} (h:bk v (dB n) i w):w={cls:=.type "range_iterator",dict:=none,data:=.fields #[rawInt i,rawInt (n - i),rawInt 1],slots:=#[]}:=h
theorem bk.kind {d:PyData} (h:bk v d i w):cp λ(c:String) (J:Array Value)=>ce (c="list_iterator"∨c="tuple_iterator"∨c="range_iterator") (w.cls=.type c) (w.data=.fields J):=by
 cases d with
 |list _=>exact h.elim λ_ q=>⟨_,_,.inl rfl,q.2,q.3⟩
 |tuple _=>exact h.elim λ_ q=>⟨_,_,.inr (.inl rfl),q.2,q.3⟩
 |dict l=>
  cases l with
  |nil=>exact False.elim h
  |cons p r=>
   obtain⟨a,b⟩:=p
   cases r with
   |nil=>cases a<;>first|exact False.elim h|(cases b<;>first|exact False.elim h|exact⟨_,_,.inr (.inr rfl),iw Obj.cls h,iw Obj.data h⟩)
   |cons _ _=>cases a<;>first|exact False.elim h|(cases b<;>exact False.elim h)
 |_=>exact False.elim h
theorem bk.gY {d:PyData} (h:bk v d i w):go w=false:=by
 obtain⟨c,J,av,bS,bV⟩:=h.kind
 unfold go;refine m bV (m bS ?_)
 rcases av with rfl|rfl|rfl<;>rfl
theorem bk.l8 {d:PyData} (h:bk v d i w):¬jR w:=by
 obtain⟨c,J,av,bS,bV⟩:=h.kind
 rintro(⟨_,_,q⟩|⟨q,_⟩)
 ·exact nomatch bV.symm.trans q
 ·have:=Value.type.inj (bS.symm.trans q);subst this
  exact absurd av (by decide)
theorem bk.alive {d:PyData} (h:bk v d i w):w.isFreed=false:=by
 obtain⟨c,J,av,bS,bV⟩:=h.kind
 exact rD bV
theorem L0 (n:Nat) (h:n<=1000):Builtin.Range.small 0 n 1=true:=by
 revert h
 revert n
 decide+kernel
theorem N2 (n:Nat) (h:n<=1000):Builtin.Range.rangeSize 0 n 1=n:=by
 revert h
 revert n
 decide+kernel
theorem u2 {d:PyData} {G:Value->Shared->Prop} (hd:hj d) (r:aO X o.heap v d)
  (h:∀w,bk v d 0 w->G (.ref o.heap.objs.size) {o with heap:=o.heap.push w}):wpAny (model B A) D (pyIter v) G M o:=by
 cases hd with
 |list ag=>
  obtain⟨a,J,n,rfl,_,l,_⟩:=r.rJ
  exact wpAny_pyIter_list l.isList (h _ ⟨a,rfl,rfl,rfl⟩)
 |tuple ag=>
  obtain⟨a,J,n,rfl,_,l,_⟩:=r.rb
  exact iter_tuple l.isTup (h _ ⟨a,rfl,rfl,rfl⟩)
 |range n au=>
  obtain⟨a,t,u,Wk,rfl,_,l⟩:=r.MG
  refine wpAny_pyIter_range l (L0 n au) (h _ ?_)
  refine m (N2 n au) ?_
  show _=_
  simp
theorem OP {d:PyData} {ae:Addr} {G:Value->Shared->Prop} (hd:hj d) (aP:o.heap.get? ae=some w) (aH:bk v d i w) (h:G (.ref ae) o):wpAny (model B A) D (pyIter (.ref ae)) G M o:=by
 cases hd with
 |list ag=>obtain⟨gd,_,c,e⟩:=aH;exact wpAny_pyIter_listiter (l:=gd) (i:=i) ⟨_,aP,c,e⟩ h
 |tuple ag=>
  obtain⟨gd,_,c,e⟩:=aH
  have cK:o.TypeIs (.ref ae) "tuple_iterator":=⟨_,aP,c⟩
  refine wpAny_pyIter_slot cK F.slot_tuple_iterator_iter (oq F.slot_tuple_iterator_iter cK F.entry_tuple_iterator_iter ?_ (F.args_tuple_iterator_iter_1 _))
  show wpAny _ _ (ret (.ref ae)) _ _ o
  exact bx ⟨_,rfl,"tuple_iterator",_,cK,F.slot_tuple_iterator_next.lookup,h⟩
 |range n au=>
  have aH:=bk.AB aH
  subst aH
  have cK:o.TypeIs (.ref ae) "range_iterator":=⟨_,aP,rfl⟩
  refine wpAny_pyIter_slot cK F.slot_range_iterator_iter (oq F.slot_range_iterator_iter cK F.entry_range_iterator_iter ?_ (F.args_range_iterator_iter_1 _))
  show wpAny _ _ (ret (.ref ae)) _ _ o
  exact bx ⟨_,rfl,"range_iterator",_,cK,F.slot_range_iterator_next.lookup,h⟩
theorem wQ {d x:PyData} {ae:Addr} {G:Option Value->Shared->Prop} (hd:hj d) (aP:o.heap.get? ae=some w) (aH:bk v d i w) (r:aO X o.heap v d) (I:(items d)[i]?=some x)
  (h:∀u am aD bA,Heap.SameBut ae o.heap am->am.get? ae=some bA->bk v d (i+1) bA->aO X o.heap u x->G (some u) {o with heap:=am,toks:=aD}):wpAny (model B A) D (pyNext (.ref ae)) G M o:=by
 cases hd with
 |list ag=>
  obtain⟨gd,e,c,b4⟩:=aH
  obtain⟨a,J,n,rfl,_,l,rs⟩:=r.rJ
  have e:=mb e
  subst e
  obtain⟨u,iI,d7⟩:=rs.get I
  refine wpAny_pyNext_list_item ⟨w,aP,c,b4⟩ l.isList (x:=u) (by simpa using iI) λam hit aW=>?_
  obtain⟨bA,f8,bq,dW⟩:=hit
  exact h u am o.toks bA aW f8 ⟨_,rfl,bq,dW⟩ d7
 |tuple ag=>
  obtain⟨gd,e,c,b4⟩:=aH
  obtain⟨a,J,n,rfl,_,l,rs⟩:=r.rb
  have e:=mb e
  subst e
  obtain⟨u,iI,d7⟩:=rs.get I
  refine next_tuple_item ⟨w,aP,c,b4⟩ l.isTup (x:=u) (by simpa using iI) λam hit aW=>?_
  obtain⟨bA,f8,bq,dW⟩:=hit
  exact h u am o.toks bA aW f8 ⟨_,rfl,bq,dW⟩ d7
 |range n au=>
  have aH:=bk.AB aH
  subst aH
  rw[og] at I
  have bU:i < n:=by
   have:=(gL.mp I).1
   simpa using this
  have qj:x=.int i:=by simpa [bU] using I.symm
  subst qj
  refine wpAny_pyNext_range_item aP (by simp_all) λam nc dI=>h _ am _ _ dI nc ?_ (.int _ _)
  show _=_
  have bS:((i:Int)+1)=((i+1:Nat):Int):=by rfl
  have bV:((n:Int) - i - 1)=(n - ((i+1:Nat):Int)):=by exact Int.sub_sub _ _ _
  refine m bS (m bV ?_);rfl
theorem AP {a2:Type} {ae:Addr} {G:Option Value->Shared->Prop} (bj:D.handled=none) (al:Heap.ExtBut ae o.heap aj.heap) (ar:o.heap.objs.size<=aj.heap.objs.size) (same:cp λh aD=>aj={o with heap:=h,toks:=aD})
  (dt:∀am aD,Heap.ExtBut ae o.heap am->o.heap.objs.size<=am.objs.size->G none {o with heap:=am,toks:=aD}):
  wpAny (model B A) D.in1 (Builtin.SmallTypes.stopIteration (α:=a2)) (λ_ _=>False)
   (λe y=>wpAny (model B A) D (isInstance e (.type "StopIteration") >>=λb=>if b=true then pure none else throw e) G M y) aj:=by
 obtain⟨ca,aD,rfl⟩:=same
 show wpAny _ _ (newExc (.type "StopIteration") [] >>=_) _ _ _
 refine ay ?_
 simp only[newExc,newTuple]
 refine ay (jJ ?_ (by size_fits))
 refine ay (m:=firstArgMember _ _) (fZ (a:=Value.none) (by first|rfl|(simp only[firstArgMember];rfl)) ?_)
 refine jJ ?_ (by size_fits)
 refine ay (m:=handled) (wpAny_handled ?_)
 refine m (show D.in1.handled=none from bj) ?_
 refine eL (wpAny_throw ?_)
 refine ay (wpAny_isInstance (T:="StopIteration") (b:=true) ⟨_,dT _ rfl,rfl⟩ isSubtype_stop ?_)
 refine bx (dt _ _ ((al.push _).push _) ?_)
 simp only[eN]
 exact ht (ht ar)
theorem xH {d:PyData} {ae:Addr} {G:Option Value->Shared->Prop} (bj:D.handled=none) (hd:hj d) (aP:o.heap.get? ae=some w) (aH:bk v d i w) (r:aO X o.heap v d) (I:(items d)[i]?=none)
  (dt:∀am aD,Heap.ExtBut ae o.heap am->o.heap.objs.size<=am.objs.size->G none {o with heap:=am,toks:=aD}):wpAny (model B A) D (pyNext (.ref ae)) G M o:=by
 unfold pyNext
 cases hd with
 |list ag=>
  obtain⟨gd,e,c,b4⟩:=aH
  obtain⟨a,J,n,rfl,_,l,rs⟩:=r.rJ
  have e:=mb e
  subst e
  have au:J.toArray[i]?=none:=by
   have:ag.length<=i:=pS.mp I
   have jw:=rs.length
   refine m u1 ?_
   exact on (by simp_all)
  have cK:o.TypeIs (.ref ae) "list_iterator":=⟨_,aP,c⟩
  refine ay (rl (xv (name:=Str.ofString "__next__") cK slot_listiter_next
   (oq slot_listiter_next cK entry_listiter_next ?_ (args_listiter_next _))))
  show wpAny _ _ (field (.ref ae) 0 >>=_) _ _ o
  refine ay (lZ aP b4 (x:=.ref a) rfl ?_)
  show wpAny _ _ (if(Value.ref a==Value.none)=true then _ else _) _ _ o
  refine m (bI (show ¬((Value.ref a==Value.none)=true) from l6)) ?_
  show wpAny _ _ (field (.ref ae) 1 >>=_) _ _ o
  refine ay (lZ aP b4 (x:=.int i 0) rfl ?_)
  show wpAny _ _ (seqItems? (.ref a) >>=_) _ _ o
  refine ay (wpAny_seqItems l rfl ?_)
  simp only[gl,au]
  refine ay (nJ (ay (wpAny_setField aP b4 (by simp) ?_)))
  refine c5 (AP (ae:=ae) bj (fw ..).extBut (di (fw ..).1.symm) ⟨_,_,rfl⟩ dt) (λ_ _ f=>False.elim f) λ_ _ q=>q
 |tuple ag=>
  obtain⟨gd,e,c,b4⟩:=aH
  obtain⟨a,J,n,rfl,_,l,rs⟩:=r.rb
  have e:=mb e
  subst e
  have au:J.toArray[i]?=none:=by
   have:ag.length<=i:=pS.mp I
   have jw:=rs.length
   refine m u1 ?_
   exact on (by simp_all)
  have cK:o.TypeIs (.ref ae) "tuple_iterator":=⟨_,aP,c⟩
  refine ay (rl (xv (name:=Str.ofString "__next__") cK F.slot_tuple_iterator_next
   (oq F.slot_tuple_iterator_next cK F.entry_tuple_iterator_next ?_ (F.args_tuple_iterator_next_1 _))))
  show wpAny _ _ (field (.ref ae) 0 >>=_) _ _ o
  refine ay (lZ aP b4 (x:=.ref a) rfl ?_)
  show wpAny _ _ (if(Value.ref a==Value.none)=true then _ else _) _ _ o
  refine m (bI (show ¬((Value.ref a==Value.none)=true) from l6)) ?_
  show wpAny _ _ (field (.ref ae) 1 >>=_) _ _ o
  refine ay (lZ aP b4 (x:=.int i 0) rfl ?_)
  show wpAny _ _ (seqItems? (.ref a) >>=_) _ _ o
  refine ay (wpAny_seqItems l rfl ?_)
  simp only[gl,au]
  refine ay (nJ (ay (wpAny_setField aP b4 (by simp) ?_)))
  refine c5 (AP (ae:=ae) bj (fw ..).extBut (di (fw ..).1.symm) ⟨_,_,rfl⟩ dt) (λ_ _ f=>False.elim f) λ_ _ q=>q
 |range n au=>
  have aH:=bk.AB aH
  subst aH
  rw[og] at I
  have i7:n<=i:=by
   have:=pS.mp I
   simpa using this
  have cK:o.TypeIs (.ref ae) "range_iterator":=⟨_,aP,rfl⟩
  refine ay (rl (xv (name:=Str.ofString "__next__") cK F.slot_range_iterator_next
   (oq F.slot_range_iterator_next cK F.entry_range_iterator_next ?_ (F.args_range_iterator_next_1 _))))
  show wpAny _ _ (field (.ref ae) 0 >>=_) _ _ o
  refine ay (lZ aP rfl (x:=rawInt i) rfl ?_)
  show wpAny _ _ (field (.ref ae) 1 >>=_) _ _ o
  refine ay (lZ aP rfl (x:=rawInt (n - i)) rfl ?_)
  show wpAny _ _ (field (.ref ae) 2 >>=_) _ _ o
  refine ay (lZ aP rfl (x:=rawInt 1) rfl ?_)
  show wpAny _ _ (if(n:Int) - i<=0 then _ else _) _ _ o
  refine m (b3 (by exact Int.sub_nonpos_of_le (s5.mpr i7))) ?_
  refine ay (nJ ?_)
  refine ay ?_
  refine c5 (AP (ae:=ae) bj (Heap.ExtBut.refl ae o.heap) (cG _) ⟨_,_,rfl⟩ dt) (λ_ _ f=>False.elim f) λ_ _ q=>q
noncomputable def bd.set (K:bd) (x:Str) (d:PyData):bd:={K with az:=upd K.az x d,bO:=out K.bO x}
noncomputable def bd.tc (K:bd) (x:Str) (v:Value):bd:={K with az:=out K.az x,bO:=upd K.bO x v}
noncomputable def bd.it (K:bd) (ae:Addr) (v:Value) (d:PyData) (i:Nat):bd:={K with L:=(ae,.own (bk v d i))::K.L,R:=(v,d)::K.R}
noncomputable def bd.own (K:bd) (a:Addr) (e:Ent):bd:={K with L:=(a,e)::K.L}
noncomputable def dl {a2:Type} (l:List (Str×a2)):Str->Option a2:=λE=>l.lookup E
noncomputable def hG (s:Env) (x:Str):Prop:=s.kindOf x=some .local∨(s.kindOf x=some .cell/\∃c,s.cells.lookup x=some c/\s.locals < c)
section
variable {k:Nat}
theorem aw.store {d:PyData} {G:Unit->Shared->Prop} (C:aw Q U ai Z ak s K o) (aN:hG s x) (r:aO (K.Y ai) o.heap v d)
  (h:∀y,aw Q U ai Z ak s (K.set x d) y->G () y):wpAny (model B A) D (storeName s x v) G M o:=by
 have hd:∀E dW,upd K.az x d E=some dW->(E=x/\aO (K.Y ai) o.heap v dW)∨(E≠x/\K.az E=some dW):=λE dW e=>by
  unfold upd at e
  by_cases aJ:E=x
  ·rw[b3 aJ] at e;cases e;exact .inl ⟨aJ,r⟩
  ·rw[bI aJ] at e;exact .inr ⟨aJ,e⟩
 have bn:∀E u,out K.bO x E=some u->(E=x/\u=v)∨(E≠x/\K.bO E=some u):=λE u e=>by
  unfold out at e
  by_cases aJ:E=x
  ·rw[b3 aJ] at e;cases e
  ·rw[bI aJ] at e;exact .inr ⟨aJ,e⟩
 exact aN.elim (λk=>C.ET k hd bn h) λk=>C.Ea k.1 k.2 hd bn h
theorem aw.li {G:Unit->Shared->Prop} (C:aw Q U ai Z ak s K o) (aN:hG s x)
  (h:∀y,aw Q U ai Z ak s (K.tc x v) y->G () y):wpAny (model B A) D (storeName s x v) G M o:=by
 have hd:∀E dW,out K.az x E=some dW->(E=x/\aO (K.Y ai) o.heap v dW)∨(E≠x/\K.az E=some dW):=λE dW e=>by
  unfold out at e
  by_cases aJ:E=x
  ·rw[b3 aJ] at e;cases e
  ·rw[bI aJ] at e;exact .inr ⟨aJ,e⟩
 have bn:∀E u,upd K.bO x v E=some u->(E=x/\u=v)∨(E≠x/\K.bO E=some u):=λE u e=>by
  unfold upd at e
  by_cases aJ:E=x
  ·rw[b3 aJ] at e;cases e;exact .inl ⟨aJ,rfl⟩
  ·rw[bI aJ] at e;exact .inr ⟨aJ,e⟩
 exact aN.elim (λk=>C.ET k hd bn h) λk=>C.Ea k.1 k.2 hd bn h
theorem aw.q6 {e:Ent} {L:List (Addr×Ent)} {aD:Nat} (a1:K.L=(a,e)::L) (C:aw Q U ai Z ak s K o) (al:Heap.ExtBut a o.heap am) (ar:o.heap.objs.size<=am.objs.size):aw Q U ai Z ak s {K with L:=L} {o with heap:=am,toks:=aD}:=by
 have d8:K.as=a::L.map (·.1):=by unfold bd.as;refine m a1 ?_;rfl
 have oX:a∈K.as:=by refine m d8 ?_;simp
 have f7:a∈K.Y ai:=e2 _ oX
 have sub:∀b∈({K with L:=L}:bd).Y ai,b∈K.Y ai:=λb q=>by
  unfold bd.Y;refine m d8 ?_;exact iY _ q
 have vw:s.locals≠a:=λq=>C.aI.cb.2 (q▸f7)
 have tG:∀n c,s.cells.lookup n=some c->c≠a:=λn c q p=>(C.aI.fE n c q).2 (p▸f7)
 have QI:=Ent.gY (C.led (a,e) (by refine m a1 ?_;simp))
 have ah:=C.ah
 rw[d8,fO] at ah
 have aq:es Z ak {o with heap:=am,toks:=aD}:=by
  obtain⟨h,t,q⟩:=C.ex.same
  refine⟨⟨am,aD,by exact m q rfl⟩,λb w ar bu q=>al b w ?_ (C.ex.keep b w ar bu q),aK C.ex.size ar,λT=>(C.ex.tabs T).mono λb w aP q=>al b w ?_ q⟩
  ·rintro rfl
   rcases C.own b oX with p|p
   ·exact ey _ (cz (dL q) p)
   ·exact ar p
  ·rintro rfl
   rw[QI w q] at aP;cases aP
 have bM:∀{v d},aO (K.Y ai) o.heap v d->aO (({K with L:=L}:bd).Y ai) am v d:=λr=>r.mono λb w aA _ q=>⟨al b w (λp=>aA (p▸f7)) q,λp=>aA (sub b p)⟩
 have A6:∀{v d},bR (K.Y ai) o.heap v d->bR (({K with L:=L}:bd).Y ai) am v d:=λr=>r.mono λb w aA _ q=>⟨al b w (λp=>aA (p▸f7)) q,λp=>aA (sub b p)⟩
 have b5:∀c v,c≠a->o.heap.IsCell c v->am.IsCell c v:=λc v av ⟨w,q,d⟩=>⟨w,al c w av q,d⟩
 have qk:∀ab,o.heap.Ns s.locals ab->am.Ns s.locals ab:=λab ⟨w,aU,ck,q,r⟩=>⟨w,aU,ck,al _ w vw q,r⟩
 have dP:∀x v,gV o s x v->gV {o with heap:=am,toks:=aD} s x v:=λx v V=>by
  rcases V with⟨ho,ab,n,q⟩|⟨ho,c,l,av⟩
  ·exact .inl ⟨ho,ab,qk ab n,q⟩
  ·exact .inr ⟨ho,c,l,b5 c _ (tG _ c l) av⟩
 refine⟨C.hN,aq,C.z,⟨C.hN.cw C.z aq,C.aI.fn,C.aI.hF,C.aI.blt,λE d q=>let ⟨v,V,r⟩:=C.aI.dP E d q;⟨v,dP E v V,bM r⟩,λE q=>cz (C.aI.eb E (sub E q)) ar,C.aI.inj,λn c q=>⟨cz (C.aI.fE n c q).1 ar,λp=>(C.aI.fE n c q).2 (sub _ p)⟩,⟨cz C.aI.cb.1 ar,λp=>C.aI.cb.2 (sub _ p)⟩⟩,λE v q=>dP E v (C.dP E v q),λp af=>bM (C.ic p af),λp af=>?_,ah.2,λb q=>C.own b (by refine m d8 ?_;exact iY _ q),let ⟨ab,n⟩:=C.ns;⟨ab,qk ab n⟩,C.lo,λn c q l=>let ⟨u,dn⟩:=C.l4 n c q l;⟨u,b5 c u (tG n c q) dn⟩⟩
 have ne:p.1≠a:=λq=>ah.1 (q▸d9 af)
 have q:=C.led p (by refine m a1 ?_;exact iY _ af)
 cases kX:p.2 with
 |own f=>rw[kX] at q;obtain⟨w,aP,I,bb⟩:=q;exact⟨w,al _ w ne aP,I,bb⟩
 |lst aM=>rw[kX] at q;obtain⟨J,n,l,r⟩:=q;exact⟨J,n,al _ _ ne l,A6 r⟩
theorem aw.start {d:PyData} {G:Value->Shared->Prop} (C:aw Q U ai Z ak s K o) (hd:hj d) (r:aO (K.Y ai) o.heap v d) (h:∀ae y,aw Q U ai Z ak s (K.it ae v d 0) y->G (.ref ae) y):wpAny (model B A) D (pyIter v) G M o:=by
 refine u2 hd r λw aP=>h _ _ ?_
 have x:an o {o with heap:=o.heap.push w}:=an.push w
 have bc:=(C.bM r).add (e:=.own (bk v d 0)) x ⟨cG _,by simp⟩ ⟨w,dT _ aP.alive,aP.gY,aP⟩
 exact bc
theorem aw.self {d:PyData} {ae:Addr} {G:Value->Shared->Prop} (C:aw Q U ai Z ak s (K.it ae v d i) o) (hd:hj d) (h:G (.ref ae) o):wpAny (model B A) D (pyIter (.ref ae)) G M o:=by
 obtain⟨w,aP,_,aH⟩:=C.led (ae,.own (bk v d i)) (iF)
 exact OP hd aP aH h
theorem aw.next {d x:PyData} {ae:Addr} {G:Option Value->Shared->Prop} (C:aw Q U ai Z ak s (K.it ae v d i) o) (hd:hj d) (I:(items d)[i]?=some x)
  (h:∀u y,aw Q U ai Z ak s (K.it ae v d (i+1)) y->aO ((K.it ae v d (i+1)).Y ai) y.heap u x->G (some u) y):wpAny (model B A) D (pyNext (.ref ae)) G M o:=by
 obtain⟨w,aP,_,aH⟩:=C.led (ae,.own (bk v d i)) (iF)
 have r:=C.ic (v,d) (iF)
 refine wQ hd aP aH r I λu am aD bA aW f8 e6 d7=>?_
 exact h u _ (C.turn (bt:=.own (bk v d (i+1))) rfl aW ⟨bA,f8,e6.gY,e6⟩) (d7.upd aW (.inl (e2 _ (iF))))
theorem aw.fin {d:PyData} {ae:Addr} {G:Option Value->Shared->Prop} (C:aw Q U ai Z ak s (K.it ae v d i) o) (bj:D.handled=none) (hd:hj d) (I:(items d)[i]?=none)
  (h:∀y,aw Q U ai Z ak s K y->G none y):wpAny (model B A) D (pyNext (.ref ae)) G M o:=by
 obtain⟨w,aP,_,aH⟩:=C.led (ae,.own (bk v d i)) (iF)
 have r:=C.ic (v,d) (iF)
 refine xH bj hd aP aH r I λam aD al ar=>h _ ?_
 have bc:=C.q6 (aD:=aD) (L:=K.L) rfl al ar
 exact bc.sub (λ_ q=>q) bc.ah (λ_ q=>iY _ q) (λ_ _ q=>q) λ_ _ q=>q
structure bl (B:Program) (A:World) (D:Around) (QJ:List Stmt) (s:Env) (G:Flow->Shared->Prop) (M:Value->Shared->Prop) (o:Shared):Prop where
 out:wpAny (model B A) D (execs QJ s) G M o
theorem oF {c:Code} {P:Result->Shared->Prop} (h:∀G:Result->Shared->Prop,(∀r y,P r y->G r y)->codeAny ba D c G o):codeAny ba D c P o:=h P λ_ _ x=>x
noncomputable abbrev kN (B:Program) (A:World) (D:Around) (aZ:List Stmt) (s:Env) (G:Flow->Shared->Prop) (M:Value->Shared->Prop):Flow->Shared->Prop:=λf y=>match f with
 |.next=>bl B A D aZ s G M y
 |f=>G f y
noncomputable abbrev oz (B:Program) (A:World) (D:Around) (aZ:List Stmt) (s:Env) (G:Flow->Shared->Prop) (M:Value->Shared->Prop) (P:Shared->Prop):Flow->Shared->Prop:=λf y=>match f with
 |.next|.cont=>P y
 |.brk=>bl B A D aZ s G M y
 |.ret u=>G (.ret u) y
noncomputable abbrev sQ (R:Result->Shared->Prop):Flow->Shared->Prop:=λf y=>R (.ok (.ret (match f with|.ret v=>v|_=>.none))) y
noncomputable abbrev ti (B:Program) (A:World) (D:Around) (s:Env) (R:Result->Shared->Prop):Value->Shared->Prop:=λe y=>wpAny (model B A) D (leaving s e) (λ_ cs=>R (.error e) cs) (λbt cs=>R (.error bt) cs) y
noncomputable abbrev zQ (Q U:Str->Option Value) (ai Z:List Addr) (ak:Shared) (s:Env) (ct:Nat->bd->Prop) (ae:Addr) (v:Value) (d:PyData) (i:Nat):Shared->Prop:=λy=>∃bH,ct (i+1) bH/\aw Q U ai Z ak s (bH.it ae v d (i+1)) y
noncomputable abbrev PB (Q U:Str->Option Value) (ai Z:List Addr) (ak:Shared) (s:Env) (ct:Nat->bd->Prop) (ae:Addr) (p:Nat->Obj->Prop) (i:Nat):Shared->Prop:=λy=>∃bH,ct (i+1) bH/\aw Q U ai Z ak s (bH.own ae (.own (p (i+1)))) y
noncomputable abbrev EZ (Q U:Str->Option Value) (ai Z:List Addr) (s:Env) (ct:Nat->Shared->bd->Prop) (ae:Addr) (p:Nat->Obj->Prop) (i:Nat):Shared->Prop:=λy=>cp λbX bH=>ct (i+1) bX bH/\aw Q U ai Z bX s (bH.own ae (.own (p (i+1)))) y
noncomputable abbrev D2 (ct:Nat->Shared->Prop) (n:Nat):Shared->Prop:=λy=>∃ab,ab < n/\ct ab y
theorem gA {np:Pos} {d:PyData} (C:aw Q U ai Z ak s K o) (O:H B A D (K.Y ai) o s e d) (aN:hG s x)
  (h:∀y,aw Q U ai Z ak s (K.set x d) y->bl B A D aZ s G M y) (aW:autoParam (swapsWith e (some (.Name x np)) ao.line s=pure false) cg._auto_1):
  bl B A D (.Assign [.Name x np] e ao::aZ) s G M o:=
 ⟨dA (kO (O.ap o _ _ (an.refl _) λv aj aq r=>(C.step aq).store aN r λy a4=>(h y a4).out) aW)⟩
theorem hv {d:PyData} (C:aw Q U ai Z ak s K o) (O:H B A D (K.Y ai) o s e d) (h:∀v y,aw Q U ai Z ak s K y->aO (K.Y ai) y.heap v d->G (.ret v) y):
  bl B A D (.Return (some e) ao::aZ) s G M o:=
 ⟨dA (wpAny_Return_some (O.ap o _ _ (an.refl _) λv aj aq r=>h v aj (C.step aq) r))⟩
theorem fF {t:Expr} {b w:List Stmt} {c:Bool} (C:aw Q U ai Z ak s K o) (O:bL B A D o s t c)
  (h:∀y,aw Q U ai Z ak s K y->bl B A D (if c then b else w) s (kN B A D aZ s G M) M y):
  bl B A D (.If t b w ao::aZ) s G M o:=
 ⟨dA (wpAny_If (O.ap o _ _ (an.refl _) λaj aq=>by
  have:=c5 (h aj (C.step aq)).out (Q':=λf y=>match f with|.next=>wpAny (model B A) D (execs aZ s) G M y|f=>G f y) (λf y q=>by cases f<;>first|exact q.out|exact q) λ_ _ q=>q
  cases c<;>exact this))⟩
theorem b8 (h:G .next o):bl B A D [] s G M o:=⟨wpAny_execs_nil h⟩
theorem sJ {ae:Value} {R:Result->Shared->Prop} (iK:∀dJ y,kN B A D aZ s G M dJ y->R (.ok dJ) y) (n:Nat) (P:Nat->Shared->Prop) (et:P 0 o)
  (QK:∀o,P n o->wpAny (model B A) D (pyNext ae) (λr y=>r=none/\bl B A D i3 s (kN B A D aZ s G M) (notedBy (model B A) D s λe y=>R (.error e) y) y) (notedBy (model B A) D s λe y=>R (.error e) y) o)
  (next:∀i o,i < n->P i o->wpAny (model B A) D (pyNext ae) (λr y=>∃u,r=some u/\wpAny (model B A) D (storeName s x u) (λ_ cs=>bl B A D dE s (oz B A D aZ s G M (P (i+1))) (notedBy (model B A) D s λe y=>R (.error e) y) cs) (notedBy (model B A) D s λe y=>R (.error e) y) y) (notedBy (model B A) D s λe y=>R (.error e) y) o):
  codeAny (model B A) D (.forLoop (.Name x oQ) ae dE i3 s) R o:=by
 refine codeAny_forLoop (λab y=>∃i,ce (ab=n - i) (i<=n) (P i y)) ?_ n ⟨0,rfl,lU _,et⟩
 rintro ab ax ⟨i,rfl,aH,b1⟩
 rcases qY i n with a0|a0
 ·refine c5 (next i ax a0 b1) (λr y h=>?_) λ_ _ x=>x
  obtain⟨u,rfl,h⟩:=h
  refine m3 (c5 h (λ_ cs h=>c5 h.out (λdJ ds vy=>?_) λ_ _ x=>x) λ_ _ x=>x)
  cases dJ with
  |next=>exact⟨n - (i+1),by exact rr n i a0,i+1,rfl,a0,vy⟩
  |cont=>exact⟨n - (i+1),by exact rr _ _ a0,i+1,rfl,a0,vy⟩
  |brk=>exact iK .next _ vy
  |ret u=>exact iK (.ret u) _ vy
 ·have:=mQ aH a0
  subst this
  refine c5 (QK ax b1) (λr y h=>?_) λ_ _ x=>x
  obtain⟨rfl,h⟩:=h
  exact c5 h.out (λdJ cm x9=>iK dJ _ x9) λ_ _ x=>x
theorem mY {d:PyData} (C:aw Q U ai Z ak s K o) (O:H B A D (K.Y ai) o s iter d) (hd:hj d) (I:hG s x) (bj:D.handled=none)
  (ct:Nat->bd->Prop) (et:ct 0 K)
  (turn:∀(i:Nat) eC K ae v y (cD:Value->Shared->Prop) (fJ:Flow->Shared->Prop),(∀dJ y,oz B A D aZ s G M (zQ Q U ai Z ak s ct ae v d i) dJ y->fJ dJ y)->(items d)[i]?=some eC->ct i K->aw Q U ai Z ak s ((K.it ae v d (i+1)).set x eC) y->bl B A D dE s fJ cD y)
  (fin:∀K y cD,ct (items d).length K->aw Q U ai Z ak s K y->bl B A D i3 s (kN B A D aZ s G M) cD y)
  (aW:autoParam (∀x,foldedSetIterable iter s x=pure x) pZ._auto_1):
  bl B A D (.For (.Name x oQ) iter dE i3 ao::aZ) s G M o:=by
 refine⟨dA (wpAny_For (O.ap o _ _ (an.refl _) λv aj aq r=>(C.step aq).start hd r λae aB aQ=>?_) aW)⟩
 refine sJ (λdJ y h=>by cases dJ<;>first|exact h.out|exact h) (items d).length (λi y=>∃bH,ct i bH/\aw Q U ai Z ak s (bH.it ae v d i) y) ⟨K,et,aQ⟩ (λax h=>h.elim λbH q=>q.2.fin bj hd (on (cG _)) λb2 be=>⟨rfl,fin bH b2 _ q.1 be⟩) λi ax bU h=>h.elim λbH q=>?_
 exact q.2.next hd (d4 bU) λu b2 be oZ=>⟨u,rfl,be.store I oZ λcm bJ=>turn i _ bH ae v cm _ _ (λ_ _ x=>x) (d4 bU) q.1 bJ⟩
end
noncomputable def ip (cells:List (Str×Addr)):List (Str×NameKind)->List (Str×Addr)->List (Str×Addr)
 |[],dw=>dw
 |(n,k)::r,dw=>if k==.free then ip cells r ((n,(cells.lookup n).getD 0)::dw) else ip cells r dw
theorem wZ (cells:List (Str×Addr)):∀(names:List (Str×NameKind)) (dw:List (Str×Addr)) (x:Str) (c:Addr),(x,c)∈ip cells names dw->(x,c)∈dw∨((x,NameKind.free)∈names/\c=(cells.lookup x).getD 0)
 |[],_,_,_,h=>.inl h
 |(n,k)::r,dw,x,c,h=>by
  unfold ip at h
  split at h
  ·rename_i aN
   rcases wZ cells r _ x c h with q|⟨q,e⟩
   ·rcases bP.mp q with q|q
    ·cases q
     refine .inr ⟨?_,rfl⟩
     have:k=.free:=by cases k<;>first|rfl|exact absurd aN (by decide)
     refine m this ?_;exact .head _
    ·exact .inl q
   ·exact .inr ⟨.tail _ q,e⟩
  ·rcases wZ cells r _ x c h with q|⟨q,e⟩
   ·exact .inl q
   ·exact .inr ⟨.tail _ q,e⟩
theorem AZ (cells:List (Str×Addr)):∀(names:List (Str×NameKind)) (dw:List (Str×Addr)) (x:Str),((x,NameKind.free)∈names∨∃c,(x,c)∈dw)->∃c,(x,c)∈ip cells names dw
 |[],_,_,h=>by
  rcases h with h|h
  ·cases h
  ·exact h
 |(n,k)::r,dw,x,h=>by
  unfold ip
  split
  ·refine AZ cells r _ x ?_
   rcases h with h|⟨c,h⟩
   ·rcases bP.mp h with h|h
    ·cases h;exact .inr ⟨_,.head _⟩
    ·exact .inl h
   ·exact .inr ⟨c,.tail _ h⟩
  ·rename_i aN
   refine AZ cells r _ x ?_
   rcases h with h|h
   ·rcases bP.mp h with h|h
    ·cases h;exact absurd rfl aN
    ·exact .inl h
   ·exact .inr h
theorem L5 {a2:Type} {l:List (Str×a2)} {c:a2} (h:∃c,(x,c)∈l) (u:∀bq,(x,bq)∈l->bq=c):l.lookup x=some c:=by
 cases e:l.lookup x with
 |some bq=>exact m (u bq (mz e)) rfl
 |none=>
  obtain⟨bq,h⟩:=h
  induction l with
  |nil=>cases h
  |cons E cP ih=>
   obtain⟨QL,Wl⟩:=E
   rw[g9] at e
   cases aA:x==QL with
   |true=>rw[aA] at e;cases e
   |false=>
    rw[aA] at e
    rcases bP.mp h with h|h
    ·cases h;simp at aA
    ·exact ih (λbq q=>u bq (.tail _ q)) e h
theorem Kn {cells:List (Str×Addr)} {names:List (Str×NameKind)} (h:(x,NameKind.free)∈names):(ip cells names []).lookup x=some ((cells.lookup x).getD 0):=
 L5 (AZ cells names [] x (.inl h)) λbq q=>by
  rcases wZ cells names [] x bq q with q|⟨_,e⟩
  ·cases q
  ·exact e
theorem As {cells:List (Str×Addr)} (bG:s.cells=cells) (f:Str×NameKind->List (Str×Addr)->Sem (ForInStep (List (Str×Addr))))
  (bb:∀name kind tI,f (name,kind) tI=if kind==.free then(do let c <-cellOf s name;pure (.yield ((name,c)::tI))) else pure (.yield tI)):
  ∀(names:List (Str×NameKind)) (dw:List (Str×Addr)),(∀p∈names,p.2=.free->(cells.lookup p.1).isSome=true)->forIn names dw f=pure (ip cells names dw)
 |[],dw,_=>by refine m List.forIn_nil ?_;rfl
 |(n,k)::r,dw,h=>by
  refine m (List.forIn_cons _ _ _ _) (m (bb _ _ _) ?_)
  unfold ip
  cases aN:k==NameKind.free with
  |false=>
   simp only[fx,fd,pure_bind]
   exact As bG f bb r dw λp af=>h p (.tail _ af)
  |true=>
   have:k=.free:=by cases k<;>first|rfl|exact absurd aN (by decide)
   obtain⟨c,av⟩:=tf.mp (h (n,k) (.head _) this)
   have e:cellOf s n=pure c:=by unfold cellOf;refine m bG ?_;simp only at av;exact m av rfl
   simp only[fv,e,pure_bind]
   refine m (As bG f bb r _ λp af=>h p (.tail _ af)) ?_
   simp only at av
   refine m av ?_;rfl
theorem uX (h:∀p∈aR.names,p.2=.free->(s.cells.lookup p.1).isSome=true):closureFor aR s=pure (ip s.cells aR.names []):=by
 unfold closureFor
 have:=As (s:=s) rfl (λ(x:Str×NameKind) tI=>if x.2==.free then(do let c <-cellOf s x.1;pure (.yield ((x.1,c)::tI))) else pure (.yield tI)) (λ_ _ _=>rfl) aR.names [] h
 simp only[bind_pure]
 refine Eq.trans ?_ this
 congr 1
theorem ts:∀(names:List (Str×NameKind)) (n:Nat) (dw:List (Str×Addr)),cellsFrom n names dw=cellsFrom n names []++dw
 |[],_,_=>rfl
 |(x,k)::r,n,dw=>by
  unfold cellsFrom
  split
  ·refine m (ts r (n+1) ((x,n)::dw)) (m (ts r (n+1) [(x,n)]) (m (oe _ _ _) ?_));rfl
  ·exact ts r n dw
theorem xQ:∀(names:List (Str×NameKind)) (n:Nat) (x:Str) (c:Addr),(x,c)∈cellsFrom n names []->n<=c/\(x,NameKind.cell)∈names
 |[],_,_,_,h=>by cases h
 |(E,k)::r,n,x,c,h=>by
  unfold cellsFrom at h
  split at h
  ·rename_i aN
   rw[ts] at h
   rcases df.mp h with h|h
   ·have:=xQ r (n+1) x c h;exact⟨pz this.1,.tail _ this.2⟩
   ·rw[cn] at h;cases h
    have:k=.cell:=by cases k<;>first|rfl|exact absurd aN (by decide)
    refine m this ?_;exact⟨cG _,.head _⟩
  ·have:=xQ r n x c h;exact⟨this.1,.tail _ this.2⟩
theorem xE:∀(names:List (Str×NameKind)) (h:Heap),h.objs.size<=(pushCells h names).objs.size
 |[],_=>cG _
 |(_,k)::r,h=>by
  unfold pushCells
  split
  ·exact aK (by refine m (eN _ _) ?_;exact hw _) (xE r (h.push {cls:=.type "cell",data:=.cell none}))
  ·exact xE r h
theorem lookup_append {a2:Type}:∀(l ab:List (Str×a2)) (x:Str),(l++ab).lookup x=(l.lookup x).or (ab.lookup x)
 |[],_,_=>rfl
 |(E,v)::r,ab,x=>by
  refine m vi (m g9 (m g9 ?_))
  cases aA:x==E with
  |true=>rfl
  |false=>exact lookup_append r ab x
noncomputable def rh (names d5:List (Str×NameKind)):List (Str×NameKind):=names.map λ(n,k)=>if(k==.free&&d5.lookup n==some .cell) then(n,.cell) else(n,k)
theorem Ga (aN:s.scope.kind=.function) (al:s.scope.names=d5):(relabel aR s).names=rh aR.names d5:=by
 unfold relabel rh
 simp only
 congr 1
 funext p
 obtain⟨n,k⟩:=p
 unfold Env.kindOf
 refine m aN (m al ?_)
 cases k<;>simp
theorem Oj {names:List (Str×NameKind)} (h:names.lookup x=some .free):(rh names d5).lookup x=some .cell∨(rh names d5).lookup x=some .free:=by
 induction names with
 |nil=>cases h
 |cons p r ih=>
  obtain⟨n,k⟩:=p
  rw[g9] at h
  unfold rh
  refine m dG ?_
  cases aA:x==n with
  |true=>
   rw[aA] at h;cases h
   have:x=n:=hh.mp aA
   subst this
   simp only[oD,Bool.true_and]
   split
   ·left;refine m g9 ?_;simp
   ·right;refine m g9 ?_;simp
  |false=>
   rw[aA] at h
   have:=ih h
   unfold rh at this
   rw[show ∀q:Str×NameKind,q.1=n->List.lookup x (q::r.map λ(n,k)=>if(k==.free&&d5.lookup n==some .cell) then(n,.cell) else(n,k))=List.lookup x (r.map λ(n,k)=>if(k==.free&&d5.lookup n==some .cell) then(n,.cell) else(n,k)) from
    λq e=>by obtain⟨mh,ij⟩:=q;simp only at e;subst e;exact m g9 (m aA rfl)]
   ·exact this
   ·show(if(k==.free&&d5.lookup n==some .cell)=true then(n,NameKind.cell) else(n,k)).1=n
    split<;>rfl
noncomputable def op (names d5:List (Str×NameKind)):Bool:=names.all λp=>match p.2 with
 |.free=>names.lookup p.1==some .free&&!(names.any λq=>q.1==p.1&&q.2==.cell)&&(d5.lookup p.1==some .cell||d5.lookup p.1==some .free)
 |.local=>names.lookup p.1==some .local
 |_=>true
noncomputable def p6 (names:List (Str×NameKind)) (cells:List (Str×Addr)):Bool:=names.all λp=>!(p.2==.free)||(cells.lookup p.1).isSome
noncomputable def eA (names:List (Str×NameKind)) (az:Str->Option PyData):Str->Option PyData:=λx=>if names.lookup x=some .free then az x else none
section
variable {Y:List Addr} {az:Str->Option PyData} {k:Nat}
theorem DH {cl:List (Str×Addr)} {G:Env->Shared->Prop}
  (dt:G {scope:=aR,locals:=o.heap.objs.size,globals:=s.globals,cells:=cellsFrom (o.heap.objs.size+1) aR.names cl,qual:=s.qual,func:=none,code:=s.code,frame:=s.frame,builtins:=s.builtins}
   {o with heap:=pushCells (o.heap.push {cls:=.type "dict",data:=.dict #[]}) aR.names}):
  wpAny (model B A) D (newFunctionEnv aR s.globals cl [] s.qual none .none (some s)) G M o:=by
 simp only[newFunctionEnv,xf,fv]
 refine ay (wpAny_alloc ?_)
 refine ay (wpAny_layCells _ (λname kind cells=>by cases QM:kind==NameKind.cell<;>simp[QM]) _ _ _ _ ?_)
 refine m (show({o with heap:=o.heap.push {cls:=.type "dict",data:=.dict #[]}}:Shared).heap.objs.size=o.heap.objs.size+1 from eN ..) ?_
 refine ay ?_
 refine m List.forIn_nil ?_
 exact bx (bx dt)
structure kb (s aY:Env) (aR:Scope) (d5:List (Str×NameKind)):Prop where
 names:aY.scope.names=rh aR.names d5
 cells:aY.cells=cellsFrom (aY.locals+1) aR.names (ip s.cells aR.names [])
theorem DY {names:List (Str×NameKind)} (h:op names d5=true) (I:(x,NameKind.free)∈names):
  ce (names.lookup x=some .free) ((x,NameKind.cell)∉names) (d5.lookup x=some .cell∨d5.lookup x=some .free):=by
 have q:=d1.mp h _ I
 simp only[iR,lX,Bool.or_eq_true,hh] at q
 refine⟨q.1.1,λp=>?_,q.2⟩
 have:=q.1.2
 rw[List.any_eq_false] at this
 exact absurd (by simp) (this _ p)
theorem E1 {ae:Addr} {d:PyData} (kY:cJ Q U Y o s az) (al:s.scope.names=d5) (aW:op aR.names d5=true) (eg:p6 aR.names s.cells=true) (fh:aR.kind=.function)
  (bG:kb s aY aR d5) (A7:aY.scope.kind=.function) (bW:aY.globals=s.globals) (aA:aY.builtins=s.builtins) (hn:aY.locals=aa)
  (x:an o y) (fz:o.heap.objs.size<=ae) (kZ:ae < O) (mi:O < aa) (au:y.heap.Ns aa λ_=>none) {p:Obj->Prop} (hit:∃w,ce (y.heap.get? ae=some w) (go w=false) (p w)) (cW:IsL y.heap O #[] 0) (bn:aO Y o.heap v d)
  (A8:CellsOk y.heap (aa+1) (cellsFrom (aa+1) aR.names [])):aw Q U Y [] o aY {L:=[(ae,.own p),(O,.lst [])],R:=[(v,d)],az:=eA aR.names az} y:=by
 have up:∀{v d},aO Y o.heap v d->aO (ae::O::Y) y.heap v d:=λr=>((r.more (Z:=[ae,O]) λz ar=>by
  rcases bP.mp ar with rfl|ar
  ·exact fz
  ·refine m (cn.mp ar) ?_;exact aK fz (ew kZ)).ex kY.base.tabs x)
 have A9:∀n c,(ip s.cells aR.names []).lookup n=some c->s.cells.lookup n=some c:=λn c q=>by
  rcases wZ _ _ _ _ _ (mz q) with p|⟨p,e⟩
  ·cases p
  ·have:=d1.mp eg _ p
   simp only[oD,Bool.not_true,Bool.false_or] at this
   obtain⟨bq,i6⟩:=tf.mp this
   rw[i6] at e;refine m i6 (m e ?_);rfl
 have split:∀n c,aY.cells.lookup n=some c->((n,c)∈cellsFrom (aa+1) aR.names []/\aa < c)∨(s.cells.lookup n=some c):=λn c q=>by
  rw[bG.cells,hn,ts,lookup_append] at q
  cases aX:(cellsFrom (aa+1) aR.names []).lookup n with
  |some bq=>rw[aX] at q;cases q;exact .inl ⟨mz aX,(xQ _ _ _ _ (mz aX)).1⟩
  |none=>rw[aX] at q;exact .inr (A9 n c q)
 have vz:∀n c,s.cells.lookup n=some c->c < ae:=λn c q=>cz (kY.fE n c q).1 fz
 have Ba:aa < y.heap.objs.size:=au.lt
 have QN:∀n,(n,NameKind.free)∈aR.names->∀c,s.cells.lookup n=some c->aY.cells.lookup n=some c:=λn bb c q=>by
  refine m bG.cells (m (ts _ _ _) (m (lookup_append _ _ _) ?_))
  have:(cellsFrom (aY.locals+1) aR.names []).lookup n=none:=by
   cases aX:(cellsFrom (aY.locals+1) aR.names []).lookup n with
   |none=>rfl
   |some bq=>exact absurd (xQ _ _ _ _ (mz aX)).2 (DY aW bb).2
  refine m this (m (Kn bb) (m q ?_));rfl
 refine⟨kY.base,x.cw,λz q=>(b9 q).elim,⟨kY.base.ex x,A7,bW.trans kY.hF,aA.trans kY.blt,λE fq q=>?_,λE q=>?_,λn d6 c q gD=>?_,λn c q=>?_,?_⟩,λE u q=>absurd (show none=some u from q) (by intro z;cases z),λq af=>?_,λq af=>?_,?_,λa aF=>?_,⟨_,by refine m hn ?_;exact au⟩,by refine m hn ?_;exact aK fz (ew (ff kZ mi)),λn c q l=>?_⟩
 ·have q:eA aR.names az E=some fq:=q
  unfold eA at q
  split at q
  ·rename_i bb
   obtain⟨u,V,r⟩:=kY.dP E fq q
   have aN:=(DY aW (mz bb)).3
   have ya:s.kindOf E=d5.lookup E:=by unfold Env.kindOf;exact m al rfl
   rcases V with⟨ho,_⟩|⟨ho,c,l,av⟩
   ·rw[ya] at ho;rw[ho] at aN;rcases aN with aN|aN<;>cases aN
   ·refine⟨u,.inr ⟨?_,c,QN E (mz bb) c l,?_⟩,up r⟩
    ·unfold Env.kindOf;refine m bG.names ?_;exact Oj bb
    ·obtain⟨w,e,b4⟩:=av
     exact⟨w,x.keep c w (kY.base.tabs.jl e λJ z=>by rw[b4] at z;cases z) e,b4⟩
  ·cases q
 ·rcases bP.mp q with rfl|q
  ·exact ff (ff kZ mi) Ba
  ·have q:E∈O::Y:=q
   rcases bP.mp q with rfl|q
   ·exact ff mi Ba
   ·exact cz (kY.eb E q) x.size
 ·rcases split n c q with⟨a,b⟩|a<;>rcases split d6 c gD with⟨ju,qc⟩|ju
  ·exact name_of_addr A8.apart a ju
  ·exact absurd (vz d6 c ju) (eZ.mpr (ew (ff (ff kZ mi) b)))
  ·exact absurd (vz n c a) (eZ.mpr (ew (ff (ff kZ mi) qc)))
  ·exact kY.inj n d6 c a ju
 ·rcases split n c q with⟨a,b⟩|a
  ·refine⟨(A8.empty n c a).1.lt,λp=>?_⟩
   have p:c∈ae::O::Y:=p
   rcases bP.mp p with rfl|p
   ·exact Nat.lt_asymm b (ff kZ mi)
   ·rcases bP.mp p with rfl|p
    ·exact Nat.lt_asymm b mi
    ·exact ey _ (cz (kY.eb c p) (aK fz (ew (ff (ff kZ mi) b))))
  ·refine⟨cz (kY.fE n c a).1 x.size,λp=>?_⟩
   have p:c∈ae::O::Y:=p
   rcases bP.mp p with rfl|p
   ·exact ey _ (vz n c a)
   ·rcases bP.mp p with rfl|p
    ·exact Nat.lt_asymm kZ (vz n c a)
    ·exact(kY.fE n c a).2 p
 ·refine m hn ?_
  refine⟨Ba,λp=>?_⟩
  have p:aa∈ae::O::Y:=p
  rcases bP.mp p with rfl|p
  ·exact Nat.lt_asymm kZ mi
  ·rcases bP.mp p with rfl|p
   ·exact ey _ mi
   ·exact ey _ (cz (kY.eb aa p) (aK fz (ew (ff kZ mi))))
 ·have af:q∈[(v,d)]:=af
  refine m (cn.mp af) ?_;exact up bn
 ·have af:q∈[(ae,Ent.own p),(O,Ent.lst [])]:=af
  rcases bP.mp af with rfl|af
  ·exact hit
  ·refine m (cn.mp af) ?_;exact⟨#[],0,cW,.nil⟩
 ·show [ae,O].Nodup
  rw[fO]
  refine⟨λq=>?_,by simp⟩
  rw[cn.mp q] at kZ;exact ey _ kZ
 ·have aF:a∈[ae,O]:=aF
  rcases bP.mp aF with rfl|aF
  ·exact .inl fz
  ·refine m (cn.mp aF) ?_;exact .inl (aK fz (ew kZ))
 ·rcases split n c q with⟨a,b⟩|a
  ·exact⟨_,(A8.empty n c a).1⟩
  ·rw[hn] at l
   exact absurd (vz n c a) (eZ.mpr (ew (ff (ff kZ mi) l)))
structure f0 (B:Program) (A:World) (D:Around) (Y:List Addr) (o:Shared) (s:Env) (e:Expr) (aR:Scope) (ao:Pos) (iter:Expr) (cP:List PyData):Prop where
 ap:∀(aj:Shared) (use:Option (Value->Sem Unit)) (G M:Value->Shared->Prop),an o aj->
  (∀y O aa,an aj y->(∃ab,y.heap.Ns aa ab)->aj.heap.objs.size<=aa->aa < y.heap.objs.size->aa≠O->aj.heap.objs.size<=O->O < y.heap.objs.size->(cp λJ n=>IsL y.heap O J n/\bR Y y.heap J.toList cP)->
   compPost (model B A) D M use G (.ref O) aa (.ok .next) y)->
  wpAny (model B A) D (comprehension e aR s ao (newList []) false (eval iter s) use) G M aj
theorem DV {aZ:List Comprehension} {d:PyData} (P:Addr->Env->Shared->Shared->Prop) (aa:cJ Q U Y o s az) (al:s.scope.names=d5) (fh:aR.kind=.function)
  (aW:op aR.names d5=true) (eg:p6 aR.names s.cells=true) (O:H B A D Y o s iter d) (hd:hj d) (bb:∀x,foldedSetIterable iter s x=pure x)
  (tJ:∀(aY:Env) (ak b2:Shared) (ae O:Addr) (v:Value) (R:Result->Shared->Prop),an o ak->kb s aY aR d5->aw Q U Y [] ak aY (bd.it {L:=[(O,.lst [])],az:=eA aR.names az} ae v d 0) b2->
   (∀y,P O aY ak y->R (.ok .next) y)->codeAny (model B A) D (.compLoop (.ListComp cY (⟨cZ,iter,dk,0⟩::aZ) aR ao) 0 (.ref ae) (.ref O) aY) R b2)
  {use:Option (Value->Sem Unit)} {G:Value->Shared->Prop} (aq:an o aj)
  (fin:∀y O aY ak,an aj ak->aj.heap.objs.size<=aY.locals->aY.locals≠O->aj.heap.objs.size<=O->P O aY ak y->compPost (model B A) D M use G (.ref O) aY.locals (.ok .next) y):
  wpAny (model B A) D (comprehension (.ListComp cY (⟨cZ,iter,dk,0⟩::aZ) aR ao) aR s vp (newList []) false (eval iter s) use) G M aj:=by
 have rW:closureFor aR s=pure (ip s.cells aR.names []):=uX λp af q=>by
  have:=d1.mp eg _ af
  rw[q] at this
  simpa using this
 have Bb:∀x∈aR.names,x.2=.local->aR.names.lookup x.1=some .local:=λp af q=>by
  have:=d1.mp aW _ af
  rw[q] at this
  simpa using this
 refine wpAny_comprehension_free rfl bb rW fh Bb (O.ap aj _ _ aq λv aB aE r=>?_)
 refine u2 hd r λw aP=>?_
 refine jJ (DH ?_) (by show([]:List Value).toArray.size<=sizeLine;simp)
 have cV:=aa.ex (aq.trans aE)
 have vA:w.isFreed=false:=aP.alive
 generalize nQ:({aB with heap:=(aB.heap.push w).push {cls:=.type "list",data:=.seq ([]:List Value).toArray}}:Shared)=ax
 have o0:ax.heap.objs.size=aB.heap.objs.size+1+1:=by refine a9 nQ ?_;simp
 have kU:an aB ax:=by refine a9 nQ ?_;exact(an.push w).trans (an.push (o:={aB with heap:=aB.heap.push w}) _)
 have Bc:ax.heap.get? aB.heap.objs.size=some w:=by refine a9 nQ ?_;exact e1 _ (dT _ vA)
 have nd:ax.heap.get? (aB.heap.objs.size+1)=some {cls:=.type "list",dict:=none,data:=.seq #[] 0,slots:=#[]}:=by
  refine a9 nQ ?_
  have:=dT (aB.heap.push w) (o:={cls:=.type "list",data:=.seq ([]:List Value).toArray}) rfl
  rw[eN] at this
  exact this
 have nf:(Value.ref ({aB with heap:=aB.heap.push w}:Shared).heap.objs.size)=.ref (aB.heap.objs.size+1):=by simp
 refine m nf ?_
 have rX:∀b bA,ax.heap.get? b=some bA->(pushCells (ax.heap.push {cls:=.type "dict",data:=.dict #[]}) aR.names).get? b=some bA:=λb bA q=>pushCells_keeps _ _ b bA (e1 _ q)
 have Bd:ax.heap.objs.size+1<=(pushCells (ax.heap.push {cls:=.type "dict",data:=.dict #[]}) aR.names).objs.size:=by
  have:=xE aR.names (ax.heap.push {cls:=.type "dict",data:=.dict #[]})
  rw[eN] at this;exact this
 have lz:an ax {ax with heap:=pushCells (ax.heap.push {cls:=.type "dict",data:=.dict #[]}) aR.names}:=an.of_keeps (aD:=ax.toks) rX (aK (hw _) Bd)
 have ok:=cellsFrom_ok aR.names (ax.heap.push {cls:=.type "dict",data:=.dict #[]}) (ax.heap.objs.size+1) [] ⟨λ_ _ hm=>(nomatch hm),List.Pairwise.nil⟩ (by refine m (eN _ _) ?_;exact cG _)
 rw[eN] at ok
 generalize lC:({scope:=relabel aR s,locals:=ax.heap.objs.size,globals:=s.globals,cells:=cellsFrom (ax.heap.objs.size+1) aR.names (ip s.cells aR.names []),qual:=s.qual,func:=none,code:=s.code,frame:=s.frame,builtins:=s.builtins}:Env)=aY
 have bG:kb s aY aR d5:=⟨by refine a9 lC ?_;exact Ga aa.fn al,by exact a9 lC rfl⟩
 have a1:aY.locals=ax.heap.objs.size:=by exact a9 lC rfl
 have C:=E1 (O:=aB.heap.objs.size+1) (aa:=ax.heap.objs.size) (aY:=aY) cV al aW eg fh bG (by refine a9 lC ?_;exact fh) (by exact a9 lC rfl) (by exact a9 lC rfl) a1 (kU.trans lz) (cG _) (hb _) (by refine m o0 ?_;exact hb _)
  ((Heap.Ns.new ax.heap (.type "dict")).keeps (pushCells_keeps _ _)) ⟨w,rX _ _ Bc,aP.gY,aP⟩ (rX _ _ nd) r ok
 have C:aw Q U Y [] aB aY (bd.it {L:=[(aB.heap.objs.size+1,.lst [])],az:=eA aR.names az} aB.heap.objs.size v d 0) {ax with heap:=pushCells (ax.heap.push {cls:=.type "dict",data:=.dict #[]}) aR.names}:=C
 have key:codeAny (model B A) D (.compLoop (.ListComp cY (⟨cZ,iter,dk,0⟩::aZ) aR ao) 0 (.ref aB.heap.objs.size) (.ref (aB.heap.objs.size+1)) aY) (compPost (model B A) D M use G (.ref (aB.heap.objs.size+1)) ax.heap.objs.size)
   {ax with heap:=pushCells (ax.heap.push {cls:=.type "dict",data:=.dict #[]}) aR.names}:=by
  refine tJ aY aB _ _ _ v _ (aq.trans aE) bG C λy a4=>?_
  have vB:aj.heap.objs.size<=ax.heap.objs.size:=aK aE.size kU.size
  refine a9 a1 ?_
  exact fin y _ aY aB aE (by refine m a1 ?_;exact vB) (by refine m a1 (m o0 ?_);exact uL _) (aK aE.size (hw _)) a4
 have Wm:({aB with heap:=(aB.heap.push w).push {cls:=.type "list",data:=.seq ([]:List Value).toArray}}:Shared).heap.objs.size=ax.heap.objs.size:=by exact m nQ rfl
 refine codeAny_compStart_list ?_ (C.self (i:=0) hd ?_)
 ·exact key
 ·exact key
theorem Eu {aZ:List Comprehension} {d:PyData} (cP:List PyData) (aa:cJ Q U Y o s az) (al:s.scope.names=d5) (fh:aR.kind=.function)
  (aW:op aR.names d5=true) (eg:p6 aR.names s.cells=true) (O:H B A D Y o s iter d) (hd:hj d) (bb:∀x,foldedSetIterable iter s x=pure x)
  (tJ:∀(aY:Env) (ak b2:Shared) (ae O:Addr) (v:Value) (R:Result->Shared->Prop),an o ak->kb s aY aR d5->aw Q U Y [] ak aY (bd.it {L:=[(O,.lst [])],az:=eA aR.names az} ae v d 0) b2->
   (∀y,aw Q U Y [] ak aY {L:=[(O,.lst cP)],az:=eA aR.names az} y->R (.ok .next) y)->codeAny (model B A) D (.compLoop (.ListComp cY (⟨cZ,iter,dk,0⟩::aZ) aR ao) 0 (.ref ae) (.ref O) aY) R b2):
  f0 B A D Y o s (.ListComp cY (⟨cZ,iter,dk,0⟩::aZ) aR ao) aR vp iter cP:=.mk λaj use G M aq fin=>
 DV (λO aY ak y=>aw Q U Y [] ak aY {L:=[(O,.lst cP)],az:=eA aR.names az} y) aa al fh aW eg O hd bb tJ aq λy O aY ak aE vB rY cW a4=>by
  obtain⟨J,n,l,rs⟩:=a4.led (O,.lst cP) (.head _)
  obtain⟨ab,hm⟩:=a4.ns
  exact fin y _ _ (aE.trans a4.ex.ex) ⟨ab,hm⟩ vB hm.lt rY cW (dL l) ⟨J,n,l,rs.weak λb q=>ez _ q⟩
end
section
variable {R:Result->Shared->Prop} {Y:List Addr} {az:Str->Option PyData} {k:Nat}
theorem zu (cY cZ iter:Expr) (dk:List Expr) (aR:Scope) (ao:Pos) (it dw:Value) (s:Env):
  compTurn (.ListComp cY [⟨cZ,iter,dk,0⟩] aR ao) 0 it dw s=(do
   standAt iter.pos
   match <-pyNext it with
   |none=>pure (.done .next)
   |some v=>
    letOwnedTupleGo cZ it v
    assign cZ s v
    let mut ok:=true
    for c in dk do
     if ok then ok <-isTrue c s (eval c s)
    if ok then
     (do let _ <-call (.builtin "list.append") [dw,<-eval cY s])
    again (.compLoop (.ListComp cY [⟨cZ,iter,dk,0⟩] aR ao) 0 it dw s)):=by rfl
theorem Mz (cY t0 G9 cZ iter:Expr) (Ha dk:List Expr) (aR:Scope) (ao:Pos) (it dw:Value) (s:Env):
  compTurn (.ListComp cY [⟨t0,G9,Ha,0⟩,⟨cZ,iter,dk,0⟩] aR ao) 1 it dw s=(do
   standAt iter.pos
   match <-pyNext it with
   |none=>pure (.done .next)
   |some v=>
    letOwnedTupleGo cZ it v
    assign cZ s v
    let mut ok:=true
    for c in dk do
     if ok then ok <-isTrue c s (eval c s)
    if ok then
     (do let _ <-call (.builtin "list.append") [dw,<-eval cY s])
    again (.compLoop (.ListComp cY [⟨t0,G9,Ha,0⟩,⟨cZ,iter,dk,0⟩] aR ao) 1 it dw s)):=by rfl
theorem MW (cY cZ iter t1 gu:Expr) (dk ng:List Expr) (aR:Scope) (ao:Pos) (it dw:Value) (s:Env):
  compTurn (.ListComp cY [⟨cZ,iter,dk,0⟩,⟨t1,gu,ng,0⟩] aR ao) 0 it dw s=(do
   standAt iter.pos
   match <-pyNext it with
   |none=>pure (.done .next)
   |some v=>
    letOwnedTupleGo cZ it v
    assign cZ s v
    let mut ok:=true
    for c in dk do
     if ok then ok <-isTrue c s (eval c s)
    if ok then
     let x <-eval gu s
     standAt gu.pos
     let x <-foldedSetIterable gu s x
     let _ <-runOwn (.compStart (.ListComp cY [⟨cZ,iter,dk,0⟩,⟨t1,gu,ng,0⟩] aR ao) 1 (<-holding [x] (pyIter x)) dw s) s
    again (.compLoop (.ListComp cY [⟨cZ,iter,dk,0⟩,⟨t1,gu,ng,0⟩] aR ao) 0 it dw s)):=by rfl
noncomputable def bd.fl (K:bd) (l:List (Str×PyData)):bd:=l.foldl (λK p=>K.set p.1 p.2) K
structure fp (B:Program) (A:World) (D:Around) (cZ:Expr) (d:PyData) (s:Env) (x:PyData) (cF:List (Str×PyData)):Prop where
 ap:∀(Q U:Str->Option Value) (ai Z:List Addr) (ak o:Shared) (K:bd) (ae:Addr) (v u:Value) (i:Nat) (G:Unit->Shared->Prop) (M:Value->Shared->Prop),aw Q U ai Z ak s (K.it ae v d i) o->aO ((K.it ae v d i).Y ai) o.heap u x->
  (∀y,aw Q U ai Z ak s ((K.fl cF).it ae v d i) y->G () y)->wpAny (model B A) D (letOwnedTupleGo cZ (.ref ae) u) (λ_ aj=>wpAny (model B A) D (assign cZ s u) G M aj) M o
theorem fp.name {p:Pos} {d bB:PyData} (I:hG s x):fp B A D (.Name x p) d s bB [(x,bB)]:=.mk λQ U ai Z ak o K ae v u i G M C r h=>
 fZ (a:=()) rfl (m3 (C.store I r λy a4=>h y a4))
theorem bR.snoc {h:Heap} {d:PyData} (r:bR X h J aM) (q:aO X h v d):bR X h (J++[v]) (aM++[d]):=r.append (.cons q .nil)
theorem Gs {d:PyData} {ae:Addr} (hd:hj d):∀(n i:Nat) (o:Shared) (w:Obj) (G:List Value->Shared->Prop) (M:Value->Shared->Prop),o.heap.get? ae=some w->bk v d i w->aO X o.heap v d->i+n<=(items d).length->
  (∀J am aD bA,Heap.SameBut ae o.heap am->am.get? ae=some bA->bk v d (i+n) bA->bR X am J (((items d).drop i).take n)->G J {o with heap:=am,toks:=aD})->wpAny (model B A) D (draw (.ref ae) n) G M o
 |0,i,o,w,G,M,aP,aH,r,au,h=>by
  show wpAny _ _ (pure []) G M o
  exact bx (h [] o.heap o.toks w (Heap.SameBut.refl ..) aP aH (by simpa using bR.nil))
 |n+1,i,o,w,G,M,aP,aH,r,au,h=>by
  have bU:i < (items d).length:=by exact Nat.lt_of_add_right_lt au
  have e:(items d)[i]?=some (items d)[i]:=d4 bU
  show wpAny _ _ (pyNext (.ref ae) >>=_) G M o
  refine ay (wQ hd aP aH r e λu ca Be QO mj Hb lD d7=>?_)
  have ah:∀w,o.heap.get? ae=some w->¬jR w:=λbA q=>by rw[aP] at q;cases q;exact aH.l8
  refine ay (dZ (Gs hd n (i+1) {o with heap:=ca,toks:=Be} QO _ _ Hb lD (r.upd mj (.inr ah)) (by exact aK (di (pP i 1 n)) au) λJ en vC Hc nR yb ql rs=>bx ?_))
  have QP:∀w,ca.get? ae=some w->¬jR w:=λbA q=>by rw[Hb] at q;cases q;exact lD.l8
  have QQ:((items d).drop i).take (n+1)=(items d)[i]::((items d).drop (i+1)).take n:=by
   exact m (uS bU) (m List.take_succ_cons rfl)
  refine h (u::J) en vC Hc (mj.trans nR) yb (by refine m (show i+(n+1)=i+1+n by simp only[oj,Nat.add_left_comm,ru]) ?_;exact ql) ?_
  refine m QQ ?_
  exact .cons ((d7.upd mj (.inr ah)).upd nR (.inr QP)) rs
theorem MF {G:List Value->Shared->Prop} (bj:D.handled=none) (T:d2 o.heap) (r:aO X o.heap v (.list ag))
  (h:∀J y,an o y->bR X y.heap J ag->G J y):wpAny (model B A) D (unpackItems v ag.length none) G M o:=by
 obtain⟨a,Wn,Wo,rfl,_,l,_⟩:=id r.rJ
 unfold unpackItems
 refine ay ?_
 unfold notIterableAtAll
 refine ay (wpAny_specialOf l.isList.typeIs slot_list_iter.lookup ?_)
 refine bx ?_
 simp only[fx,fd]
 refine ay (dZ (u2 (.list ag) r λw aP=>?_))
 have vA:w.isFreed=false:=by
  obtain⟨_,_,_,e⟩:=aP;exact rD e
 have aq:an o {o with heap:=o.heap.push w}:=an.push w
 have c8:=r.ex T aq
 have Hd:({o with heap:=o.heap.push w}:Shared).heap.get? o.heap.objs.size=some w:=dT _ vA
 refine ay (dZ (Gs (.list ag) ag.length 0 _ w _ _ Hd aP c8 (di (Nat.zero_add _)) λJ en vC Hc nR yb ql rs=>?_))
 have ah:∀bA,({o with heap:=o.heap.push w}:Shared).heap.get? o.heap.objs.size=some bA->¬jR bA:=λbA q=>by rw[Hd] at q;cases q;exact aP.l8
 have c4:=c8.upd nR (.inr ah)
 have vD:(List.drop 0 (items (.list ag))).take ag.length=ag:=jN
 rw[vD] at rs
 have a0:=rs.length
 refine m (bI (by simp_all)) ?_
 refine ay (dZ (xH (o:={o with heap:=en,toks:=vC}) bj (.list ag) yb ql c4 (on (di (Nat.zero_add _).symm)) λef vE He QR=>?_))
 simp only[Option.isSome_none,fx,fd]
 have keep:∀b bA,o.heap.get? b=some bA->ef.get? b=some bA:=λb bA q=>by
  have aA:b≠o.heap.objs.size:=kG (dL q)
  exact He b bA aA ((nR.2 b aA).trans (e1 _ q))
 have ko:en.objs.size=o.heap.objs.size+1:=by refine m nR.1 ?_;exact eN ..
 refine bx (h J {o with heap:=ef,toks:=vE} (an.of_keeps keep (aK (by refine m ko ?_;exact hw _) QR)) (rs.mono λb bA aA o1 q=>⟨He b bA ?_ q,aA⟩))
 rintro rfl
 rw[yb] at q;cases q
 exact ql.l8 o1
theorem Kr {p e4:Pos}:assign (.Tuple [.Name x p,.Name E e4] j p9) s v=(standAt p9 >>=λ_=>holding [v] (unpackItems v 2 none) >>=λag=>assignInOrder [assign (.Name x p) s,assign (.Name E e4) s] ag):=by
 refine m (assign_Tuple _ _ _ _) ?_
 rfl
theorem Oa {f g:Value->Sem Unit} {u:Value}:assignInOrder [f,g] [u,v]=(holding [v] (f u) >>=λ_=>holding [] (g v) >>=λ_=>pure ()):=rfl
theorem fp.pair {p e4:Pos} {a b:PyData} (bj:D.handled=none) (I:hG s x) (aJ:hG s E):fp B A D (.Tuple [.Name x p,.Name E e4] j p9) (.list ag) s (.list [a,b]) [(x,a),(E,b)]:=by
 refine .mk λQ U ai Z ak o K ae v u i G M C r h=>?_
 obtain⟨c,J,n,rfl,_,l,_⟩:=id r.rJ
 obtain⟨w,aP,_,aH⟩:=C.led (ae,.own (bk v (.list ag) i)) (iF)
 obtain⟨gd,_,av,vF⟩:=aH
 refine wpAny_letOwnedTupleGo_listiter (l:=gd) (i:=i) ⟨w,aP,av,vF⟩ ?_
 refine m Kr ?_
 refine ay (gK ?_)
 refine ay (dZ (MF (ag:=[a,b]) bj C.tabs r λcq aj aq rs=>?_))
 obtain⟨Wp,QS,rfl,vG,qm⟩:=rs.two
 have bc:=(C.step aq).bM qm
 refine m Oa ?_
 refine ay (dZ (m3 (bc.store I vG λaB aQ=>?_)))
 refine ay (dZ (m3 (aQ.store aJ (aQ.ic (QS,b) (iF)) λax bh=>?_)))
 refine bx (h ax ?_)
 exact bh.sub (λ_ q=>q) bh.ah (λ_ q=>iY _ q) (λ_ _ q=>q) λ_ _ q=>q
end
noncomputable def iU (az:Str->Option PyData) (l:List (Str×PyData)):Str->Option PyData:=l.foldl (λab q=>upd ab q.1 q.2) az
theorem m0:∀(l:List (Str×PyData)) (K:bd),ce ((K.fl l).az=iU K.az l) ((K.fl l).L=K.L) ((K.fl l).R=K.R)
 |[],K=>⟨rfl,rfl,rfl⟩
 |q::l,K=>m0 l (K.set q.1 q.2)
theorem vg:∀(l:List (Str×PyData)) (K:bd) (x:Str) (v:Value),(K.fl l).bO x=some v->K.bO x=some v
 |[],K,_,_,h=>h
 |q::l,K,x,v,h=>by
  have:=vg l (K.set q.1 q.2) x v h
  have:out K.bO q.1 x=some v:=this
  unfold out at this
  split at this
  ·cases this
  ·exact this
theorem EX:∀(l:List (Str×PyData)) (az:Str->Option PyData) (x:Str) (d:PyData),az x=some d->(∀q∈l,q.1≠x)->iU az l x=some d
 |[],_,_,_,h,_=>h
 |q::l,az,x,d,h,au=>EX l (upd az q.1 q.2) x d (by unfold upd;refine m (bI (l1 (au q (.head _)))) ?_;exact h) λp af=>au p (.tail _ af)
section
variable {R:Result->Shared->Prop} {Y:List Addr} {az:Str->Option PyData} {k:Nat}
theorem aw.iD {e bt:Ent} {aD:Nat} (a1:K.L=bz++(a,e)::bY) (C:aw Q U ai Z ak s K o) (aW:Heap.SameBut a o.heap am) (al:bt.at (K.Y ai) am a):
  aw Q U ai Z ak s {K with L:=bz++(a,bt)::bY} {o with heap:=am,toks:=aD}:=by
 have bc:=C.perm (L:=(a,e)::(bz++bY)) (by refine m a1 ?_;exact List.perm_middle.symm)
 have mem:∀b,b∈({K with L:=(a,e)::(bz++bY)}:bd).Y ai->b∈K.Y ai:=λb q=>by
  unfold bd.Y bd.as at q ⊢
  refine m a1 ?_
  simp only[dG,d3,df,bP] at q ⊢
  rcases q with(q|q|q)|q
  ·exact .inl (.inr (.inl q))
  ·exact .inl (.inl q)
  ·exact .inl (.inr (.inr q))
  ·exact .inr q
 have aQ:=bc.turn (bt:=bt) (aD:=aD) rfl aW (Ent.weak mem al)
 exact aQ.perm (L:=bz++(a,bt)::bY) List.perm_middle
theorem aw.append {u:Value} {d:PyData} {G:Value->Shared->Prop} (C:aw Q U ai Z ak s K o) (a1:K.L=bz++(a,.lst aM)::bY) (r:aO (K.Y ai) o.heap u d) (ar:aM.length<=1000)
  (h:∀y,aw Q U ai Z ak s {K with L:=bz++(a,.lst (aM++[d]))::bY} y->G .none y):wpAny (model B A) D (call (.builtin "list.append") [.ref a,u]) G M o:=by
 obtain⟨J,n,l,rs⟩:=C.led (a,.lst aM) (by refine m a1 ?_;simp)
 have cI:=rs.length
 refine wpAny_list_append_plain ⟨n,l⟩ (λam a0 aW=>h _ ?_) (by refine m dR ?_;simp only[lj] at cI;exact c2 (aK (di cI) ar))
 obtain⟨d6,fg⟩:=a0
 have f7:a∈K.Y ai:=by unfold bd.Y bd.as;refine m a1 ?_;simp
 refine C.iD (aD:=o.toks) a1 aW ⟨J.push u,d6,fg,?_⟩
 refine m Array.toList_push ?_
 exact(rs.upd aW (.inl f7)).snoc (r.upd aW (.inl f7))
structure fk (B:Program) (A:World) (D:Around) (o:Shared) (s:Env) (dk:List Expr) (b:Bool):Prop where
 ap:∀(aj:Shared) (G:Bool->Shared->Prop) (M:Value->Shared->Prop),an o aj->(∀y,an aj y->G b y)->
  wpAny (model B A) D (forIn dk true λc r=>if r=true then do let ok <-isTrue c s (eval c s);pure (ForInStep.yield ok) else pure (ForInStep.yield r)) G M aj
theorem fk.nil:fk B A D o s [] true:=.mk λaj G M x h=>wpAny_tests_nil (h _ (an.refl _))
theorem fk.one {c:Expr} {b:Bool} (O:bL B A D o s c b):fk B A D o s [c] b:=.mk λaj G M x h=>wpAny_tests_one (O.ap aj _ _ x λaB aE=>h _ aE)
theorem FG {qn:Nat} {d:PyData} {ae:Addr} (ba:Sem Unit) (hd:hj d) (bj:D.handled=none)
  (Bf:compTurn (.ListComp cY kT aR ao) qn (.ref ae) dw aY=(do
   standAt kR
   match <-pyNext (.ref ae) with
   |none=>pure (.done .next)
   |some v=>
    letOwnedTupleGo cZ (.ref ae) v
    assign cZ aY v
    let mut ok:=true
    for c in dk do
     if ok then ok <-isTrue c aY (eval c aY)
    if ok then
     ba
    again (.compLoop (.ListComp cY kT aR ao) qn (.ref ae) dw aY)))
  (cF:PyData->List (Str×PyData)) (p:PyData->Bool) (he:∀x∈items d,fp B A D cZ d aY x (cF x)) (aA:∀x∈items d,∀q∈cF x,K.az q.1=none)
  (Bg:∀x∈items d,∀(Y:List Addr) (y:Shared),es Z ak y->cJ Q U Y y aY (iU K.az (cF x))->fk B A D y aY dk (p x))
  (ct:List PyData->List (Addr×Ent)->Prop) (gh:ct [] K.L) (o2:∀x,K.bO x=none)
  (Bh:∀(ag:List PyData) (x:PyData) (L:List (Addr×Ent)) (y:Shared) (i:Nat) (G:Unit->Shared->Prop) (M:Value->Shared->Prop),(items d)[i]?=some x->ag=(items d).take i->p x=true->ct ag L->aw Q U ai Z ak aY (({K with L:=L}:bd).fl (cF x) |>.it ae v d (i+1)) y->
   (∀c7 cs,ct (ag++[x]) c7->aw Q U ai Z ak aY (({K with L:=c7}:bd).fl (cF x) |>.it ae v d (i+1)) cs->G () cs)->wpAny (model B A) D ba G M y)
  (skip:∀ag x L,p x=false->ct ag L->ct (ag++[x]) L)
  (C:aw Q U ai Z ak aY (K.it ae v d 0) o) (fin:∀L y,ct (items d) L->aw Q U ai Z ak aY {K with L:=L} y->R (.ok .next) y):
  codeAny (model B A) D (.compLoop (.ListComp cY kT aR ao) qn (.ref ae) dw aY) R o:=by
 refine codeAny_loop rfl (λn y=>cp λi L=>hx (n=(items d).length - i) (i<=(items d).length) (ct ((items d).take i) L) (aw Q U ai Z ak aY (({K with L:=L}:bd).it ae v d i) y)) (λn y fz=>?_) (items d).length ⟨0,K.L,by rfl,by simp,gh,C⟩
 obtain⟨i,L,rfl,aH,yc,a4⟩:=fz
 show wpAny _ D ((compTurn (.ListComp cY kT aR ao) qn (.ref ae) dw aY).onRaise (λx=>do noteFrame x aY;theTreesLotGoes x)) _ _ y
 refine wpAny_noted ?_
 refine m Bf ?_
 refine ay (gK (ay ?_))
 cases e:(items d)[i]? with
 |none=>
  have:i=(items d).length:=by have:=pS.mp e;exact mQ ‹_› ‹_›
  subst this
  rw[jN] at yc
  exact a4.fin bj hd e λb2 be=>bx (fin L b2 yc be)
 |some x=>
  have bU:=(gL.mp e).1
  have dF:x∈items d:=fc e
  have aD:(items d).take (i+1)=(items d).take i++[x]:=by refine m kf (m e ?_);rfl
  refine a4.next hd e λu b2 be oZ=>?_
  refine ay (c5 ((he x dF).ap Q U ai Z ak b2 _ ae v u (i+1) _ _ be oZ (λcm bJ=>?_)) (λ_ cm x9=>ay x9) λ_ _ q=>q)
  have ee:=bJ.aI
  rw[show((({K with L:=L}:bd).fl (cF x)).it ae v d (i+1)).az=iU K.az (cF x) from(m0 _ _).1] at ee
  refine ay ((Bg x dF _ cm bJ.ex ee).ap cm _ _ (an.refl _) λds eu=>?_)
  have b6:=bJ.step eu
  have vH:∀(c7:List (Addr×Ent)) cs,aw Q U ai Z ak aY ((({K with L:=c7}:bd).fl (cF x)).it ae v d (i+1)) cs->aw Q U ai Z ak aY (({K with L:=c7}:bd).it ae v d (i+1)) cs:=λc7 cs C=>by
   have q:=m0 (cF x) ({K with L:=c7}:bd)
   refine C.sub (λz ar=>?_) ?_ (λz ar=>?_) (λE fq aJ=>?_) λE u dn=>?_
   ·show z∈(ae,_)::(({K with L:=c7}:bd).fl (cF x)).L
    refine m q.2 ?_;exact ar
   ·have:=C.ah
    unfold bd.as bd.it at this ⊢
    simp only[q.2] at this;exact this
   ·show z∈(v,d)::(({K with L:=c7}:bd).fl (cF x)).R
    refine m q.3 ?_;exact ar
   ·show(({K with L:=c7}:bd).fl (cF x)).az E=some fq
    refine m q.1 ?_
    refine EX _ _ _ _ aJ λz ar QT=>?_
    have:=aA x dF z ar
    rw[QT] at this
    have aJ:K.az E=some fq:=aJ
    rw[this] at aJ;cases aJ
   ·have dn:K.bO E=some u:=dn
    rw[o2 E] at dn;cases dn
  cases af:p x with
  |false=>
   exact bx ⟨rfl,(items d).length - (i+1),by exact rr (items d).length i bU,i+1,L,rfl,by assumption,by refine m aD ?_;exact skip _ x L af yc,vH _ _ b6⟩
  |true=>
   exact ay (Bh _ x L ds i _ _ e rfl af yc b6 λc7 fK QU c1=>bx ⟨rfl,(items d).length - (i+1),by exact rr _ _ bU,i+1,c7,rfl,by assumption,by refine m aD ?_;exact QU,vH _ _ c1⟩)
theorem zP {qn:Nat} {d:PyData} {ae:Addr} (ba:Sem Unit) (hd:hj d) (bj:D.handled=none)
  (Bf:compTurn (.ListComp cY kT aR ao) qn (.ref ae) dw aY=(do
   standAt kR
   match <-pyNext (.ref ae) with
   |none=>pure (.done .next)
   |some v=>
    letOwnedTupleGo cZ (.ref ae) v
    assign cZ aY v
    let mut ok:=true
    for c in dk do
     if ok then ok <-isTrue c aY (eval c aY)
    if ok then
     ba
    again (.compLoop (.ListComp cY kT aR ao) qn (.ref ae) dw aY)))
  (cF:PyData->List (Str×PyData)) (p:PyData->Bool) (he:∀x∈items d,fp B A D cZ d aY x (cF x)) (aA:∀x∈items d,∀q∈cF x,K.az q.1=none)
  (Bg:∀x∈items d,∀(Y:List Addr) (y:Shared),es Z ak y->cJ Q U Y y aY (iU K.az (cF x))->fk B A D y aY dk (p x))
  (rZ:List PyData->List (Addr×Ent)) (QV:K.L=rZ []) (o2:∀x,K.bO x=none)
  (Bh:∀(ag:List PyData) (x:PyData) (y:Shared) (i:Nat) (G:Unit->Shared->Prop) (M:Value->Shared->Prop),(items d)[i]?=some x->ag=(items d).take i->p x=true->aw Q U ai Z ak aY (({K with L:=rZ ag}:bd).fl (cF x) |>.it ae v d (i+1)) y->
   (∀cs,aw Q U ai Z ak aY (({K with L:=rZ (ag++[x])}:bd).fl (cF x) |>.it ae v d (i+1)) cs->G () cs)->wpAny (model B A) D ba G M y)
  (skip:∀ag x,p x=false->rZ (ag++[x])=rZ ag)
  (C:aw Q U ai Z ak aY (K.it ae v d 0) o) (fin:∀y,aw Q U ai Z ak aY {K with L:=rZ (items d)} y->R (.ok .next) y):
  codeAny (model B A) D (.compLoop (.ListComp cY kT aR ao) qn (.ref ae) dw aY) R o:=
 FG ba hd bj Bf cF p he aA Bg (λag L=>L=rZ ag) QV o2 (λag x L y i G M aX a5 cu ej a4 dt=>by subst ej;exact Bh ag x y i G M aX a5 cu a4 λcs fP=>dt _ cs rfl fP) (λag x L aX a5=>by exact m a5 (m (skip ag x aX) rfl)) C λL y aX a4=>by subst aX;exact fin y a4
end
section
variable {R:Result->Shared->Prop} {Y:List Addr} {az:Str->Option PyData} {k:Nat}
theorem uN {names:List (Str×NameKind)} (h:(names.lookup x==some .free)=false):eA names az x=none:=by
 unfold eA;exact m (bI (by simpa using h)) rfl
theorem h5 {d:PyData} (cF:PyData->List (Str×PyData)) (p:PyData->Bool) (f:PyData->PyData) (aa:cJ Q U Y o s az) (bj:D.handled=none) (al:s.scope.names=d5)
  (fh:aR.kind=.function) (aW:op aR.names d5=true) (eg:p6 aR.names s.cells=true) (O:H B A D Y o s iter d) (hd:hj d) (ar:(items d).length<=1000) (bb:∀x,foldedSetIterable iter s x=pure x)
  (he:∀aY,kb s aY aR d5->∀x∈items d,fp B A D cZ d aY x (cF x)) (aA:∀x∈items d,∀q∈cF x,(aR.names.lookup q.1==some .free)=false)
  (tK:∀aY,kb s aY aR d5->∀x∈items d,∀(Y:List Addr) (y:Shared),an o y->cJ Q U Y y aY (iU (eA aR.names az) (cF x))->fk B A D y aY dk (p x)/\(p x=true->H B A D Y y aY cY (f x))):
  f0 B A D Y o s (.ListComp cY [⟨cZ,iter,dk,0⟩] aR ao) aR vp iter (((items d).filter p).map f):=by
 refine Eu _ aa al fh aW eg O hd bb λaY ak b2 ae O v R eR bG C fin=>?_
 refine zP (K:={L:=[(O,.lst [])],az:=eA aR.names az}) (do let _ <-call (.builtin "list.append") [.ref O,<-eval cY aY]) hd bj (zu ..) cF p (he aY bG) (λx I q aS=>uN (aA x I q aS)) (λx I Y y cw bf=>(tK aY bG x I Y y (eR.trans cw.ex) bf).1)
  (λag=>[(O,.lst ((ag.filter p).map f))]) rfl (λ_=>rfl) (λag x y i G M aH iL af a4 dt=>?_) (λag x af=>by simp[p3,af]) C fin
 have I:x∈items d:=fc aH
 have bf:=a4.aI
 rw[show((({L:=[(O,Ent.lst ((ag.filter p).map f))],az:=eA aR.names az}:bd).fl (cF x)).it ae v d (i+1)).az=iU (eA aR.names az) (cF x) from(m0 _ _).1] at bf
 have vI:=(tK aY bG x I _ y (eR.trans a4.ex.ex) bf).2 af
 refine ay (vI.ap y _ _ (an.refl _) λu aj aq r=>?_)
 have bc:=a4.step aq
 have dx:=(m0 (cF x) ({L:=[(O,Ent.lst ((ag.filter p).map f))],az:=eA aR.names az}:bd)).2
 refine ay (bc.append (bz:=[(ae,.own (bk v d (i+1)))]) (bY:=[]) (by show(ae,_)::(bd.fl _ (cF x)).L=_;refine m dx ?_;rfl) r ?_ λaB aQ=>bx (dt aB ?_))
 ·refine m iL (m (bD _) ?_)
  exact aK (lh _ _) (aK (vd ..) ar)
 ·have r0:((ag++[x]).filter p).map f=(ag.filter p).map f++[f x]:=by simp[p3,af]
  refine m r0 ?_
  have q:=m0 (cF x) ({L:=[(O,Ent.lst ((ag.filter p).map f))],az:=eA aR.names az}:bd)
  have gD:=m0 (cF x) ({L:=[(O,Ent.lst ((ag.filter p).map f++[f x]))],az:=eA aR.names az}:bd)
  refine aQ.sub (λz ar=>?_) ?_ (λz ar=>?_) (λE fq aJ=>?_) λE u dn=>?_
  ·have ar:z∈(ae,_)::(bd.fl _ (cF x)).L:=ar
   rw[gD.2] at ar;exact ar
  ·have:=aQ.ah
   unfold bd.as bd.it at this ⊢
   simp only[gD.2] at this ⊢;exact this
  ·have ar:z∈(v,d)::(bd.fl _ (cF x)).R:=ar
   rw[gD.3] at ar
   show z∈(v,d)::(bd.fl _ (cF x)).R
   refine m q.3 ?_;exact ar
  ·have aJ:(bd.fl _ (cF x)).az E=some fq:=aJ
   rw[gD.1] at aJ
   show(bd.fl _ (cF x)).az E=some fq
   refine m q.1 ?_;exact aJ
  ·have:=vg _ _ _ _ dn;cases this
theorem f0.ou {aZ:List Comprehension} (aa:cJ Q U Y o s az) (V:f0 B A D Y o s (.ListComp cY (⟨cZ,iter,dk,0⟩::aZ) aR ao) aR (firstIterPos (⟨cZ,iter,dk,0⟩::aZ) ao) iter cP):
  H B A D Y o s (.ListComp cY (⟨cZ,iter,dk,0⟩::aZ) aR ao) (.list cP):=.mk λaj G M aq h=>by
 refine m (eval_ListComp _ _ _ _) ?_
 refine V.ap aj none G M aq λy O Cl aE au hn vJ cE cW tL a0=>?_
 obtain⟨ab,au⟩:=au
 obtain⟨J,n,l,rs⟩:=a0
 refine⟨ab,au,λam aW=>?_⟩
 have jX:=aa.ex aq
 have a7:an aj {y with heap:=am}:=(pq (Z:=[]) (aD:=y.toks) jX.base.tabs aE.cw aW (.inl hn) (hI.gY au)).ex
 exact h _ _ a7 (.list (λq=>absurd (jX.eb _ q) (eZ.mpr cW)) ((aW.2 O (l1 cE)).trans l) (rs.upd aW (.inr (hI.l8 au))))
theorem xe {np:Pos} {aZ:List Comprehension} (C:aw Q U ai Z ak s K o)
  (V:f0 B A D (K.Y ai) o s (.ListComp cY (⟨cZ,iter,dk,0⟩::aZ) aR hQ) aR (firstIterPos (⟨cZ,iter,dk,0⟩::aZ) hQ) iter cP) (aN:hG s x)
  (h:∀y,aw Q U ai Z ak s (K.set x (.list cP)) y->bl B A D dE s G M y)
  (aW:swapsWith (.ListComp cY (⟨cZ,iter,dk,0⟩::aZ) aR hQ) (some (.Name x np)) ao.line s=pure true):
  bl B A D (.Assign [.Name x np] (.ListComp cY (⟨cZ,iter,dk,0⟩::aZ) aR hQ) ao::dE) s G M o:=by
 refine⟨dA ?_⟩
 refine m (exec_Assign_Name_used _ _ _ _ aW) ?_
 refine ay (gK (ay ?_))
 show wpAny _ D (do let _ <-comprehension (.ListComp cY (⟨cZ,iter,dk,0⟩::aZ) aR hQ) aR s (firstIterPos (⟨cZ,iter,dk,0⟩::aZ) hQ) (newList []) false (eval iter s) (some (assign (.Name x np) s))) _ _ o
 refine ay (c5 (V.ap o (some (assign (.Name x np) s)) (λ_ y=>wpAny (model B A) D (execs dE s) G M y) M (an.refl _) λy O Cl aE au hn vJ cE cW tL a0=>?_) (λ_ y aS=>bx (bx aS)) λ_ _ e=>e)
 obtain⟨J,n,l,rs⟩:=a0
 obtain⟨ab,au⟩:=au
 have Bi:∃w,ce (y.heap.get? Cl=some w) (go w=false) (∀h:Heap,h.get? Cl=some w->∃ab,h.Ns Cl ab):=by
  obtain⟨w,aU,ck,e,d,r⟩:=id au
  exact⟨w,e,hI.gY au w e,λh q=>⟨ab,w,aU,ck,q,d,r⟩⟩
 obtain⟨w,aP,Bj,Bk⟩:=Bi
 have aQ:=C.add (e:=.own λbA=>bA=w) aE ⟨hn,vJ⟩ ⟨w,aP,Bj,rfl⟩
 have c4:aO (({K with L:=(Cl,.own λbA=>bA=w)::K.L}:bd).Y ai) y.heap (.ref O) (.list cP):=by
  refine .list (λq=>?_) l (rs.mono λb jY aA hd q=>⟨q,λp=>?_⟩)
  ·have q:O∈Cl::K.Y ai:=q
   rcases bP.mp q with q|q
   ·exact cE q.symm
   ·exact absurd (C.aI.eb _ q) (eZ.mpr cW)
  ·have p:b∈Cl::K.Y ai:=p
   rcases bP.mp p with rfl|p
   ·exact hI.l8 au _ q hd
   ·exact aA p
 show wpAny _ D (assign (.Name x np) s (.ref O)) _ _ _
 refine m3 (aQ.store aN c4 λax bh=>?_)
 obtain⟨bA,f8,_,rfl⟩:=bh.led (Cl,.own λbA=>bA=w) (.head _)
 refine⟨_,(Bk ax.heap f8).choose_spec,λam dI=>(h _ ?_).out⟩
 exact bh.q6 (L:=K.L) (aD:=ax.toks) rfl dI.extBut (di dI.1.symm)
end
section
variable {R:Result->Shared->Prop} {Y:List Addr} {az:Str->Option PyData} {k:Nat}
theorem LU {yd hV:Comprehension} {it:Value} (aX:hV.is_async=0)
  (et:codeAny (model B A) D (.compLoop (.ListComp cY [yd,hV] aR ao) 1 it dw s) R o)
  (h:wpAny (model B A) D (pyIter it) (λBl y=>codeAny (model B A) D (.compLoop (.ListComp cY [yd,hV] aR ao) 1 Bl dw s) R y)
   (notedBy (model B A) D s λx y=>R (.error x) y) o):
  codeAny (model B A) D (.compStart (.ListComp cY [yd,hV] aR ao) 1 it dw s) R o:=by
 obtain⟨t1,gu,f1,r1⟩:=hV
 simp only at aX;subst aX
 refine codeAny_of_tree ?_
 show wpAny _ _ ((compStart (.ListComp cY [yd,⟨t1,gu,f1,0⟩] aR ao) 1 it dw s).onRaise (λx=>do noteFrame x s;standAt theWindowsPlace)) _ _ o
 refine wpAny_notedAt ?_
 unfold compStart
 show wpAny _ _ (ask >>=_) _ _ o
 refine ay (vh (wpAny_ite ?_))
 split
 ·first
   |exact eL (bx (And.intro rfl et))
   |exact bx (And.intro rfl et)
 ·first
   |exact ay (nJ (ay (gK (ay (c5 h (λBl y am=>bx (And.intro rfl am)) λ_ _ x=>x)))))
   |(refine ay (nJ ?_);show wpAny _ _ (standAt gu.pos >>=_) _ _ o;exact ay (gK (ay (c5 h (λBl y am=>bx (And.intro rfl am)) λ_ _ x=>x))))
noncomputable def zm (cY:Expr) (kT:List Comprehension) (aR:Scope) (ao:Pos) (iter:Expr) (dw:Value) (s:Env):Sem Unit:=do
 let x <-eval iter s
 standAt iter.pos
 let x <-foldedSetIterable iter s x
 let _ <-runOwn (.compStart (.ListComp cY kT aR ao) 1 (<-holding [x] (pyIter x)) dw s) s
theorem Le (cY cZ iter t1 gu:Expr) (dk ng:List Expr) (aR:Scope) (ao:Pos) (it dw:Value) (s:Env):
  compTurn (.ListComp cY [⟨cZ,iter,dk,0⟩,⟨t1,gu,ng,0⟩] aR ao) 0 it dw s=(do
   standAt iter.pos
   match <-pyNext it with
   |none=>pure (.done .next)
   |some v=>
    letOwnedTupleGo cZ it v
    assign cZ s v
    let mut ok:=true
    for c in dk do
     if ok then ok <-isTrue c s (eval c s)
    if ok then
     zm cY [⟨cZ,iter,dk,0⟩,⟨t1,gu,ng,0⟩] aR ao gu dw s
    again (.compLoop (.ListComp cY [⟨cZ,iter,dk,0⟩,⟨t1,gu,ng,0⟩] aR ao) 0 it dw s)):=by
 rw[MW]
 simp only[zm,bind_assoc]
 rfl
theorem Fb {t1 gu:Expr} {ng:List Expr} {d:PyData} (cF:PyData->List (Str×PyData)) (ed:PyData->PyData) (k0:PyData->PyData->List (Str×PyData)) (p:PyData->PyData->Bool) (f:PyData->PyData->PyData)
  (aa:cJ Q U Y o s az) (bj:D.handled=none) (al:s.scope.names=d5)
  (fh:aR.kind=.function) (aW:op aR.names d5=true) (eg:p6 aR.names s.cells=true) (O:H B A D Y o s iter d) (hd:hj d) (bb:∀x,foldedSetIterable iter s x=pure x) (QW:∀(s:Env) x,foldedSetIterable gu s x=pure x)
  (Bm:∀x∈items d,hj (ed x)) (ar:∀ag x cP,(items d)=ag++[x]++cP->((ag.flatMap λx=>((items (ed x)).filter (p x)).map (f x)).length+(items (ed x)).length)<=1000)
  (he:∀aY,kb s aY aR d5->∀x∈items d,fp B A D cZ d aY x (cF x)) (QX:∀aY,kb s aY aR d5->∀x∈items d,∀E∈items (ed x),fp B A D t1 (ed x) aY E (k0 x E))
  (aA:∀x∈items d,∀q∈cF x,(aR.names.lookup q.1==some .free)=false) (QY:∀x∈items d,∀E∈items (ed x),∀q∈k0 x E,(aR.names.lookup q.1==some .free)=false/\∀gD∈cF x,gD.1≠q.1)
  (tK:∀aY,kb s aY aR d5->∀x∈items d,∀(Y:List Addr) (y:Shared),an o y->cJ Q U Y y aY (iU (eA aR.names az) (cF x))->H B A D Y y aY gu (ed x))
  (Hf:∀aY,kb s aY aR d5->∀x∈items d,∀E∈items (ed x),∀(Y:List Addr) (y:Shared),an o y->cJ Q U Y y aY (iU (iU (eA aR.names az) (cF x)) (k0 x E))->fk B A D y aY ng (p x E)/\(p x E=true->H B A D Y y aY cY (f x E))):
  f0 B A D Y o s (.ListComp cY [⟨cZ,iter,[],0⟩,⟨t1,gu,ng,0⟩] aR ao) aR vp iter ((items d).flatMap λx=>((items (ed x)).filter (p x)).map (f x)):=by
 refine Eu _ aa al fh aW eg O hd bb λaY ak b2 ae O v R eR bG C fin=>?_
 generalize QZ:(λx:PyData=>((items (ed x)).filter (p x)).map (f x))=jx at *
 refine zP (K:={L:=[(O,.lst [])],az:=eA aR.names az}) _ hd bj (Le ..) cF (λ_=>true) (he aY bG) (λx I q aS=>uN (aA x I q aS)) (λx I Y y _ bf=>fk.nil)
  (λag=>[(O,.lst (ag.flatMap jx))]) rfl (λ_=>rfl) (λag x y i G M aH iL af a4 dt=>?_) (λag x af=>by cases af) C fin
 have I:x∈items d:=fc aH
 have bf:=a4.aI
 generalize ye:((({L:=[(O,Ent.lst (ag.flatMap jx))],az:=eA aR.names az}:bd).fl (cF x)).it ae v d (i+1))=nS at a4 bf
 have q:=m0 (cF x) ({L:=[(O,Ent.lst (ag.flatMap jx))],az:=eA aR.names az}:bd)
 have nf:nS.az=iU (eA aR.names az) (cF x):=by refine a9 ye ?_;exact q.1
 have dx:nS.L=(ae,.own (bk v d (i+1)))::[(O,Ent.lst (ag.flatMap jx))]:=by refine a9 ye ?_;show(ae,_)::(bd.fl _ (cF x)).L=_;exact m q.2 rfl
 have Hg:∀E,nS.bO E=none:=λE=>by
  cases e:nS.bO E with
  |none=>rfl
  |some u=>rw[<-ye] at e;have:=vg _ _ _ _ e;cases this
 rw[nf] at bf
 unfold zm
 refine ay ((tK aY bG x I _ y (eR.trans a4.ex.ex) bf).ap y _ _ (an.refl _) λu aj aq r=>ay (gK (ay (fZ (QW aY u) (ay (dZ ?_))))))
 refine(a4.step aq).start (Bm x I) r λvK aB aQ=>?_
 refine ay (wpAny_runOwn ?_)
 have Bn:∃cP,items d=ag++[x]++cP:=⟨(items d).drop (i+1),by
  have bU:=(gL.mp aH).1
  refine m iL ?_
  have:[x]++(items d).drop (i+1)=(items d).drop i:=by
   refine m (uS bU) ?_
   have:=(gL.mp aH).2
   refine m this ?_;rfl
  refine m (oe _ _ _) (m this ?_);rw[List.take_append_drop]⟩
 obtain⟨cP,Bn⟩:=Bn
 have jZ:=ar ag x cP Bn
 have tJ:codeAny (model B A) D (.compLoop (.ListComp cY [⟨cZ,iter,[],0⟩,⟨t1,gu,ng,0⟩] aR ao) 1 (.ref vK) (.ref O) aY) (λr y=>match r with|.ok f=>wpAny (model B A) D (pure ()) G M y|.error e=>cameBackBy (model B A) D aY M e y) aB:=by
  refine zP (K:=nS) (do let _ <-call (.builtin "list.append") [.ref O,<-eval cY aY]) (Bm x I) bj (Mz ..) (k0 x) (p x) (QX aY bG x I) (λE aJ q aS=>?_) (λE aJ Y y cw Q0=>(Hf aY bG x I E aJ Y y (eR.trans cw.ex) (nf▸Q0)).1)
   (λhW=>(ae,.own (bk v d (i+1)))::[(O,.lst (ag.flatMap jx++(hW.filter (p x)).map (f x)))]) (by refine m dx ?_;simp) Hg (λhW E cm j Wq Hh bv Q1 Hi bJ Q2=>?_) (λhW E af=>by simp[p3,af]) aQ λax bh=>?_
  ·refine m nf ?_
   cases e:iU (eA aR.names az) (cF x) q.1 with
   |none=>rfl
   |some b4=>
    have au:=QY x I E aJ q aS
    have:iU (eA aR.names az) (cF x) q.1=eA aR.names az q.1:=by
     have gen:∀(l:List (Str×PyData)) (ab:Str->Option PyData),(∀gD∈l,gD.1≠q.1)->iU ab l q.1=ab q.1:=by
      intro l
      induction l with
      |nil=>intro ab _;rfl
      |cons a l ih=>
       intro ab h
       show iU (upd ab a.1 a.2) l q.1=_
       refine m (ih _ λgD am=>h gD (.tail _ am)) ?_
       unfold upd
       exact m (bI (l1 (h a (.head _)))) rfl
     exact gen _ _ au.2
    rw[this,uN au.1] at e;cases e
  ·have aJ:E∈items (ed x):=fc bv
   have ee:=bJ.aI
   have yf:=m0 (k0 x E) ({nS with L:=(ae,.own (bk v d (i+1)))::[(O,.lst (ag.flatMap jx++(hW.filter (p x)).map (f x)))]}:bd)
   rw[show((({nS with L:=(ae,.own (bk v d (i+1)))::[(O,.lst (ag.flatMap jx++(hW.filter (p x)).map (f x)))]}:bd).fl (k0 x E)).it vK u (ed x) (j+1)).az=iU (iU (eA aR.names az) (cF x)) (k0 x E) from by refine a9 nf ?_;exact yf.1] at ee
   have vI:=(Hf aY bG x I E aJ _ cm (eR.trans bJ.ex.ex) ee).2 Hi
   refine ay (vI.ap cm _ _ (an.refl _) λWr ds eu Bo=>?_)
   have b6:=bJ.step eu
   refine ay (b6.append (bz:=[(vK,.own (bk u (ed x) (j+1))),(ae,.own (bk v d (i+1)))]) (bY:=[]) (by show(vK,_)::(bd.fl _ (k0 x E)).L=_;refine m yf.2 ?_;rfl) Bo ?_ λfK c1=>bx (Q2 fK ?_))
   ·refine m ib (m (bD _) (m Q1 ?_))
    have aX:((List.take j (items (ed x))).filter (p x)).length<=(items (ed x)).length:=aK (lh _ _) (vd ..)
    exact aK (lg aX _) jZ
   ·have r0:ag.flatMap jx++((hW++[E]).filter (p x)).map (f x)=(ag.flatMap jx++(hW.filter (p x)).map (f x))++[f x E]:=by simp[p3,Hi]
    refine m r0 ?_
    have o3:=m0 (k0 x E) ({nS with L:=(ae,.own (bk v d (i+1)))::[(O,.lst ((ag.flatMap jx++(hW.filter (p x)).map (f x))++[f x E]))]}:bd)
    refine c1.sub (λz ar=>?_) ?_ (λz ar=>?_) (λqo fq aJ=>?_) λqo nT dn=>?_
    ·have ar:z∈(vK,_)::(bd.fl _ (k0 x E)).L:=ar
     rw[o3.2] at ar;exact ar
    ·have:=c1.ah
     unfold bd.as bd.it at this ⊢
     simp only[o3.2] at this ⊢;exact this
    ·have ar:z∈(u,ed x)::(bd.fl _ (k0 x E)).R:=ar
     rw[o3.3] at ar
     show z∈(u,ed x)::(bd.fl _ (k0 x E)).R
     refine m yf.3 ?_;exact ar
    ·have aJ:(bd.fl _ (k0 x E)).az qo=some fq:=aJ
     rw[o3.1] at aJ
     show(bd.fl _ (k0 x E)).az qo=some fq
     refine m yf.1 ?_;exact aJ
    ·have:=vg _ _ _ _ dn
     rw[Hg qo] at this;cases this
  ·refine bx (dt ax ?_)
   have Q3:ag.flatMap jx++((items (ed x)).filter (p x)).map (f x)=(ag++[x]).flatMap jx:=by exact m tq (m (List.flatMap_singleton _ _) (a9 QZ rfl))
   refine a9 Q3 ?_
   have o3:=m0 (cF x) ({L:=[(O,Ent.lst (ag.flatMap jx++((items (ed x)).filter (p x)).map (f x)))],az:=eA aR.names az}:bd)
   refine bh.sub (λz ar=>?_) ?_ (λz ar=>?_) (λqo fq aJ=>?_) λqo nT dn=>?_
   ·have ar:z∈(ae,_)::(bd.fl _ (cF x)).L:=ar
    rw[o3.2] at ar;exact ar
   ·have:=bh.ah
    unfold bd.as at this ⊢
    unfold bd.it
    simp only[o3.2];exact this
   ·have ar:z∈(v,d)::(bd.fl _ (cF x)).R:=ar
    rw[o3.3] at ar
    show z∈nS.R
    refine a9 ye ?_
    show z∈(v,d)::(bd.fl _ (cF x)).R
    refine m q.3 ?_;exact ar
   ·have aJ:(bd.fl _ (cF x)).az qo=some fq:=aJ
    rw[o3.1] at aJ
    show nS.az qo=some fq
    refine m nf ?_;exact aJ
   ·have:=vg _ _ _ _ dn;cases this
 exact LU rfl tJ (aQ.self (Bm x I) tJ)
end
theorem GI (dj:Str->Option NameKind):∀(cF:List (Str×Value)) (ab:Str->Option Value) (n:Str),n∉cF.map (·.1)->bindL dj cF ab n=ab n
 |[],_,_,_=>rfl
 |(x,v)::r,ab,n,h=>by
  rewrite[bindL];refine m (GI dj r _ n (λq=>h (iY _ q))) ?_
  have:n≠x:=λe=>h (by simp[e])
  split<;>simp[this]
theorem EA (dj:Str->Option NameKind):∀(cF:List (Str×Value)) (ab:Str->Option Value) (n:Str) (v:Value),(cF.map (·.1)).Nodup->(n,v)∈cF->dj n=some .local->bindL dj cF ab n=some v
 |[],_,_,_,_,hm,_=>nomatch hm
 |(x,u)::r,ab,n,v,au,hm,aN=>by
  rw[dG,fO] at au
  rcases bP.mp hm with e|hm
  ·cases e
   rewrite[bindL];refine m (GI dj r _ _ au.1) (m (b3 aN) ?_)
   simp
  ·rw[bindL];exact EA dj r _ n v au.2 hm aN
theorem Ff (dj:Str->Option NameKind):∀(cF:List (Str×Value)) (ab:Str->Option Value) (n:Str),n∉cF.map (·.1)->bindC dj cF ab n=ab n
 |[],_,_,_=>rfl
 |(x,v)::r,ab,n,h=>by
  rewrite[bindC];refine m (Ff dj r _ n (λq=>h (iY _ q))) ?_
  have:n≠x:=λe=>h (by simp[e])
  split<;>simp[this]
theorem Fd (dj:Str->Option NameKind):∀(cF:List (Str×Value)) (ab:Str->Option Value) (n:Str) (v:Value),(cF.map (·.1)).Nodup->(n,v)∈cF->dj n≠some .local->bindC dj cF ab n=some v
 |[],_,_,_,_,hm,_=>nomatch hm
 |(x,u)::r,ab,n,v,au,hm,aN=>by
  rw[dG,fO] at au
  rcases bP.mp hm with e|hm
  ·cases e
   rewrite[bindC];refine m (Ff dj r _ _ au.1) (m (bI aN) ?_)
   simp
  ·rw[bindC];exact Fd dj r _ n v au.2 hm aN
theorem Fm {a2:Type}:∀{bg:List Str} {aM:List a2} {x:Str} {d:a2},(bg.zip aM).lookup x=some d->∃i:Nat,bg[i]?=some x/\aM[i]?=some d
 |[],_,_,_,h=>by simp at h
 |_::_,[],_,_,h=>by simp at h
 |p::bg,dW::aM,x,d,h=>by
  rw[List.zip_cons_cons,g9] at h
  cases aA:x==p with
  |true=>rw[aA] at h;cases h;exact⟨0,by refine m (hh.mp aA) ?_;rfl,rfl⟩
  |false=>rw[aA] at h;obtain⟨i,a,b⟩:=Fm h;exact⟨i+1,by simpa using a,by simpa using b⟩
theorem Mr {a2 gf:Type} {bg:List a2} {aM:List gf} {p:a2} {d:gf} (h:bg[i]?=some p) (am:aM[i]?=some d):(p,d)∈bg.zip aM:=by
 refine fc (i:=i) ?_
 rw[List.getElem?_zip_eq_some];exact⟨h,am⟩
noncomputable def Ends (Y:List Addr) (ak:Shared) (d:PyData):Flow->Shared->Prop:=λdJ y=>∃v,ce (dJ=.ret v) (an ak y) (aO Y y.heap v d)
section
variable {k:Nat}
theorem oi {R:Result->Shared->Prop} {st:Stmt} (names:List (Str×NameKind)) (cQ:List Str) (kp:D.depth < recursionLimit)
  (C:Base Q U o.heap) (ar:∀z∈Z,247<=z) (fX:∀E∈K.Y ai,E < o.heap.objs.size) (iK:∀p∈K.R,aO (K.Y ai) o.heap p.1 p.2) (a1:∀p∈K.L,p.2.at (K.Y ai) o.heap p.1) (hX:K.as.Nodup) (r2:∀a∈K.as,a∈Z)
  (lE:∀x d,K.az x=some d->∃v,(x,v)∈cQ.zip J/\aO (K.Y ai) o.heap v d) (o2:∀x v,K.bO x=some v->(x,v)∈cQ.zip J)
  (jy:FnAt o.heap a st bN em) (aW:(dQ st).names=names) (fh:(dQ st).kind=.function) (fi:(dQ st).isCoroutine=false) (kq:(dQ st).isGenerator=false)
  (lF:∀bs cd,bindArgs (fdOf st bN em bs cd) ⟨J,[]⟩=pure (cQ.zip J)) (a0:J.length=cQ.length)
  (nh:(cQ.all λx=>names.lookup x==some .local||names.lookup x==some .cell)=true) (nU:cQ.Nodup)
  (dE:∀(aj:Shared) (s:Env),s.scope.names=names->s.cells=cellsFrom (s.locals+1) names []->ce (s.code=.ref (a - 1)) (s.qual=bN++".<locals>.") (s.frame=some s.locals)->aw Q U ai Z o s K aj->
   bl B A (D.deeper s) (dV st) s (sQ R)
    (ti B A (D.deeper s) s R) aj):
  codeAny (model B A) D (.call (.ref a) ⟨J,[]⟩) R o:=by
 obtain⟨_,bs,w,bF,kV,t,aP,hd,av,r3,vL,aS⟩:=jy
 have r4:(cQ.zip J).map (·.1)=cQ:=by rw[List.map_fst_zip];simp_all
 have o4:=kindsX (scope:=dQ st) (binds:=cQ.zip J) (by
  rw[d1]
  intro q aS
  have:q.1∈cQ:=by refine a9 r4 ?_;exact d9 aS
  refine m aW ?_
  exact d1.mp nh _ this)
 refine codeAny_call_cells (fd:=fdOf st bN em bs (.ref (a - 1))) kp aP hd C.lim ⟨a - 1,bF,kV,t,rfl,r3,vL,aS⟩ rfl (lF _ _) rfl (o4 _) (λaj x=>?_) fi kq fh
 have al:(callEnvC (fdOf st bN em bs (.ref (a - 1))) o.heap.objs.size a).scope.names=names:=aW
 have yg:(callEnvC (fdOf st bN em bs (.ref (a - 1))) o.heap.objs.size a).locals=o.heap.objs.size:=rfl
 have eg:(callEnvC (fdOf st bN em bs (.ref (a - 1))) o.heap.objs.size a).cells=cellsFrom ((callEnvC (fdOf st bN em bs (.ref (a - 1))) o.heap.objs.size a).locals+1) names []:=by refine a9 aW ?_;rfl
 have hJ:ce ((callEnvC (fdOf st bN em bs (.ref (a - 1))) o.heap.objs.size a).code=.ref (a - 1)) ((callEnvC (fdOf st bN em bs (.ref (a - 1))) o.heap.objs.size a).qual=bN++".<locals>.") ((callEnvC (fdOf st bN em bs (.ref (a - 1))) o.heap.objs.size a).frame=some (callEnvC (fdOf st bN em bs (.ref (a - 1))) o.heap.objs.size a).locals):=⟨rfl,rfl,rfl⟩
 have bW:(callEnvC (fdOf st bN em bs (.ref (a - 1))) o.heap.objs.size a).globals=mainGlobals:=rfl
 have Bp:(callEnvC (fdOf st bN em bs (.ref (a - 1))) o.heap.objs.size a).builtins=builtinsNs:=rfl
 have A7:(callEnvC (fdOf st bN em bs (.ref (a - 1))) o.heap.objs.size a).scope.kind=.function:=fh
 have Q4:∀E∈cQ.zip J,(callEnvC (fdOf st bN em bs (.ref (a - 1))) o.heap.objs.size a).kindOf E.1=some .local∨((callEnvC (fdOf st bN em bs (.ref (a - 1))) o.heap.objs.size a).kindOf E.1=some .cell/\((callEnvC (fdOf st bN em bs (.ref (a - 1))) o.heap.objs.size a).cells.lookup E.1).isSome=true):=λE aJ=>o4 (o.heap.objs.size+1) E aJ
 generalize callEnvC (fdOf st bN em bs (.ref (a - 1))) o.heap.objs.size a=s at *
 refine(dE aj s al eg hJ ?_).out
 have keep:=x.toInCall.keep
 have Bq:=x.toInCall.ns.lt
 have i8:o.heap.objs.size<=aj.heap.objs.size:=by rw[yg] at Bq;exact ew Bq
 have ex:an o aj:=⟨let ⟨h,t,e⟩:=x.toInCall.same;⟨h,t,e⟩,λb w _ e=>keep b w e,i8,λT=>T.mono λb w _ e=>keep b w e⟩
 have br:∀{v d},aO (K.Y ai) o.heap v d->aO (K.Y ai) aj.heap v d:=λr=>r.mono λb w aA _ e=>⟨keep b w e,aA⟩
 have Hj:∀E v,(E,v)∈cQ.zip J->gV aj s E v:=λE v hm=>by
  rcases Q4 _ hm with q|⟨q,ij⟩
  ·exact .inl ⟨q,_,x.toInCall.ns,EA _ _ _ _ _ (by refine m r4 ?_;exact nU) hm q⟩
  ·obtain⟨hY,Br⟩:=tf.mp ij
   refine .inr ⟨.inl q,hY,Br,?_⟩
   have:=x.cell _ hY Br
   rwa [Fd _ _ _ _ v (by refine m r4 ?_;exact nU) hm (by refine m q ?_;decide)] at this
 refine⟨C,ex.cw,ar,⟨C.ex ex,A7,bW,Bp,λE fq e=>?_,λE q=>cz (fX E q) i8,λn d6 hY e bt=>name_of_addr x.apart (mz e) (mz bt),λn hY e=>⟨(x.cell n hY e).lt,λq=>?_⟩,Bq,λq=>?_⟩,λE v e=>Hj E v (o2 E v e),λp af=>br (iK p af),λp af=>?_,hX,λa aF=>.inr (r2 a aF),⟨_,x.toInCall.ns⟩,di yg.symm,λn hY e _=>⟨_,x.cell n hY e⟩⟩
 ·obtain⟨v,hm,r⟩:=lE E fq e
  exact⟨v,Hj E v hm,br r⟩
 ·have:=x.above n hY (mz e)
  rw[yg] at this
  exact Nat.lt_asymm (fX hY q) this
 ·rw[yg] at q
  exact ey _ (fX _ q)
 ·have q:=a1 p af
  cases kX:p.2 with
  |own f=>rw[kX] at q;obtain⟨w,aP,I,bb⟩:=q;exact⟨w,keep _ w aP,I,bb⟩
  |lst aM=>rw[kX] at q;obtain⟨J,n,l,r⟩:=q;exact⟨J,n,keep _ _ l,r.mono λb w aA _ e=>⟨keep b w e,aA⟩⟩
theorem pB {st:Stmt} {d:PyData} (names:List (Str×NameKind)) (cQ:List Str) (R:b0 (k+1) D)
  (jy:∀h,Base Q U h->FnAt h a st bN .none) (aW:(dQ st).names=names) (fh:(dQ st).kind=.function) (fi:(dQ st).isCoroutine=false) (kq:(dQ st).isGenerator=false)
  (lF:∀bs cd J,J.length=cQ.length->bindArgs (fdOf st bN .none bs cd) ⟨J,[]⟩=pure (cQ.zip J)) (cI:aM.length=cQ.length)
  (nh:(cQ.all λx=>names.lookup x==some .local||names.lookup x==some .cell)=true) (hX:cQ.Nodup)
  (dE:∀(Y:List Addr) (ak o:Shared) (s:Env),s.scope.names=names->ce (s.cells=cellsFrom (s.locals+1) names []) (s.code=.ref (a - 1)) (s.qual=bN++".<locals>.")->aw Q U Y [] ak s {az:=dl (cQ.zip aM)} o->b0 k (D.deeper s)->
   bl B A (D.deeper s) (dV st) s (Ends Y ak d) (λ_ _=>False) o):nA B A D Q U (.ref a) aM d:=by
 intro Y o J C aJ rs
 have a0:J.length=cQ.length:=by exact m rs.length (m cI rfl)
 refine oi (Z:=[]) (ai:=Y) (K:={az:=dl (cQ.zip aM)}) names cQ R.room C (λz q=>(b9 q).elim) aJ (λp q=>(b9 q).elim) (λp q=>(b9 q).elim) hM (λp q=>(b9 q).elim)
  (λx bB e=>?_) (λx v e=>by cases e) (jy _ C) aW fh fi kq (λbs cd=>lF bs cd J a0) a0 nh hX λaj s al eg hJ Q5=>?_
 ·obtain⟨i,bS,bV⟩:=Fm e
  obtain⟨v,ev,eX⟩:=rs.get bV
  exact⟨v,Mr bS ev,eX⟩
 ·refine⟨c5 (dE Y o aj s al ⟨eg,hJ.1,hJ.2⟩ Q5 (R.deeper s)).out (λdJ y bj=>?_) (λ_ _ q=>q.elim)⟩
  obtain⟨v,rfl,gQ,eX⟩:=bj
  exact⟨v,rfl,gQ,eX⟩
theorem aw.ends {d:PyData} (C:aw Q U ai [] ak s K o) (r:aO (K.Y ai) o.heap v d):Ends ai ak d (.ret v) o:=⟨v,rfl,C.ex.ex,r.weak λb q=>ez _ q⟩
end
noncomputable def dz (x:Str):Str:=⟨placed x λi _=>Unicode.lowerAt x.cps i⟩
noncomputable def jj (x:Str):Str:=⟨placed x λ_ c=>Unicode.upperOf c⟩
noncomputable def mJ (x E:Str):Bool:=decide (0+E.length<=x.length)&&Builtin.Str.subAt x E 0
noncomputable def qS (x E:Str):Bool:=decide (0+E.length<=x.length)&&Builtin.Str.subAt x E (x.length - E.length)
theorem Lz:PlainAttrs "re.Pattern":=
 ⟨⟨"object.__getattribute__",by refine m (kD _ _) (m kM ?_);kernel_rfl,by decide+kernel⟩,by rewrite[kD];refine m kM ?_;kernel_rfl⟩
theorem Fo:Slot "re.Pattern" "search" "re.Pattern.search":=
 .of (owner:="re.Pattern") (n:="search") (by refine m (kD _ _) (m kM ?_);kernel_rfl) (by decide+kernel) (by decide+kernel) (by decide+kernel)
  (by first|exact .inl (by decide+kernel)|exact .inr (by decide+kernel)) (by rw[jq];kernel_rfl)
theorem Qb:typeOf (.builtin "re.Pattern.search")=pure (.type "method_descriptor"):=by show builtinType _=_;refine m builtinType_eq_fast ?_;kernel_rfl
theorem NF:entryFor table "re.Pattern.search"=some Builtin.«re.Pattern.search»:=sO (by kernel_rfl)
theorem N9:Manifest.owners.lookup (String.ofList ['n','r','e','t','t','a','P','.','e','r'].reverse)=some Manifest.sig_re_Pattern:=by kernel_rfl
theorem Ox (a b:Value):argsOk "re.Pattern.search" ⟨[a,b],[]⟩:=by
 unfold argsOk;refine m (signature?_of (id:="re.Pattern.search") (n:=['h','c','r','a','e','s']) (o:=['n','r','e','t','t','a','P','.','e','r']) (by kernel_rfl) N9) ?_;kernel_rfl
section
variable {Y:List Addr} {az:Str->Option PyData} {k:Nat}
theorem Ae {n:Nat} (h:n<=1000):Builtin.Str.tooLong n=false:=by
 unfold Builtin.Str.tooLong
 rewrite[wT];refine m dR ?_;exact eZ.mpr (c2 h)
theorem w8 {n:Nat} (h:n<=1000):n<=sizeLine:=by refine m dR ?_;exact aK ‹_› (by decide)
theorem H.lower {ap:Pos} (O:H B A D Y o s e (.str x)) (ar:(dz x).cps.size<=1000) (fA:autoParam (attributeBase e "lower" s (eval e s)=eval e s) cg._auto_1) (fB:autoParam ((ap.endLine==ao.line)=true) cg._auto_1):
  H B A D Y o s (.Call (.Attribute e "lower" ap) [] [] ao) (.str (dz x)):=.mk λaj G M aq h=>
 Call_method0 fA fB (O.ap aj _ _ aq λv aB aE r=>by
  refine aO.fV r λt=>?_
  exact MethodOnS.str0 F.slot_str_lower F.type_str_lower F.entry_str_lower (F.args_str_lower_1 _) (gives_str_lower x t (Ae ar)) ⟨w8 ar,h _ _ (aE.trans (an.tok _)) (.str _ _)⟩)
theorem H.upper {ap:Pos} (O:H B A D Y o s e (.str x)) (ar:(jj x).cps.size<=1000) (fA:autoParam (attributeBase e "upper" s (eval e s)=eval e s) cg._auto_1) (fB:autoParam ((ap.endLine==ao.line)=true) cg._auto_1):
  H B A D Y o s (.Call (.Attribute e "upper" ap) [] [] ao) (.str (jj x)):=.mk λaj G M aq h=>
 Call_method0 fA fB (O.ap aj _ _ aq λv aB aE r=>by
  refine aO.fV r λt=>?_
  exact MethodOnS.str0 F.slot_str_upper F.type_str_upper F.entry_str_upper (F.args_str_upper_1 _) (gives_str_upper x t (Ae ar)) ⟨w8 ar,h _ _ (aE.trans (an.tok _)) (.str _ _)⟩)
theorem H.startswith {ap:Pos} (O:H B A D Y o s e (.str x)) (qp:H B A D Y o s bt (.str E)) (fA:autoParam (attributeBase e "startswith" s (eval e s)=eval e s) cg._auto_1) (aW:autoParam (starEach [bt] s=[(false,eval bt s)]) cg._auto_1) (fB:autoParam ((ap.endLine==ao.line)=true) cg._auto_1):
  H B A D Y o s (.Call (.Attribute e "startswith" ap) [bt] [] ao) (.bool (mJ x E)):=.mk λaj G M aq h=>
 m6 fA aW fB (O.ap aj _ _ aq λv aB aE r=>by
  refine aO.fV r λt=>?_
  exact MethodOnS.str1 F.slot_str_startswith F.type_str_startswith F.entry_str_startswith (qp.ap aB _ _ (aq.trans aE) λv ax a7 hZ=>by
   refine aO.fV hZ λdd=>?_
   exact⟨F.args_str_startswith_2 _ _,_,gives_str_startswith x E t dd,h _ _ (aE.trans a7) (.bool _)⟩))
theorem H.endswith {ap:Pos} (O:H B A D Y o s e (.str x)) (qp:H B A D Y o s bt (.str E)) (fA:autoParam (attributeBase e "endswith" s (eval e s)=eval e s) cg._auto_1) (aW:autoParam (starEach [bt] s=[(false,eval bt s)]) cg._auto_1) (fB:autoParam ((ap.endLine==ao.line)=true) cg._auto_1):
  H B A D Y o s (.Call (.Attribute e "endswith" ap) [bt] [] ao) (.bool (qS x E)):=.mk λaj G M aq h=>
 m6 fA aW fB (O.ap aj _ _ aq λv aB aE r=>by
  refine aO.fV r λt=>?_
  exact MethodOnS.str1 F.slot_str_endswith F.type_str_endswith F.entry_str_endswith (qp.ap aB _ _ (aq.trans aE) λv ax a7 hZ=>by
   refine aO.fV hZ λdd=>?_
   exact⟨F.args_str_endswith_2 _ _,_,gives_str_endswith x E t dd,h _ _ (aE.trans a7) (.bool _)⟩))
noncomputable def sI:Nat->Sre.M->Option Sre.M
 |0,_=>none
 |n+1,ab=>let ab:=ab.runFor 4;if ab.outcome.isSome then some ab else sI n ab
theorem G2:∀(n k:Nat) (ab ii:Sre.M) (o:Shared) (G:Sre.M->Shared->Prop) (M:Value->Shared->Prop),sI k ab=some ii->k<=n->G ii o->wpAny (model B A) D (Builtin.Re.reDrive n ab) G M o
 |n,0,ab,ii,o,G,M,h,_,_=>by cases h
 |0,k+1,ab,ii,o,G,M,h,aN,_=>by simp_all
 |n+1,k+1,ab,ii,o,G,M,h,aN,dt=>by
  unfold sI at h
  unfold Builtin.Re.reDrive
  show wpAny _ _ (if(ab.runFor 4).outcome.isSome=true then pure (ab.runFor 4) else do rule "sre.turn";Builtin.Re.reDrive n (ab.runFor 4)) _ _ _
  simp only at h
  cases e:(ab.runFor 4).outcome.isSome with
  |true=>rw[e] at h;simp only[fv] at h ⊢;cases h;exact bx dt
  |false=>
   rw[e] at h
   simp only[fx,fd] at h ⊢
   exact ay (nJ (G2 n k _ ii o G M h (by exact i0 ‹_›) dt))
noncomputable def F0 (x:Str):Sre.M:=Sre.forSearch (nx.map (·.toNat)).toArray x.cps 0 0 x.cps.size false
noncomputable def ke (x:Str):Option Bool:=match sI 64 (F0 x) with
 |some ab=>(match ab.outcome with
  |some .matched=>some true
  |some .failed=>some false
  |_=>none)
 |none=>none
theorem Qg (l:List Nat) (ab:Sre.M) {G:Unit->Shared->Prop} (f:Nat->PUnit->Sem (ForInStep PUnit)) (bb:∀i u,f i u=(if ab.seen.has i=true then(rule (Sre.names.getD i "") >>=λ_=>pure (.yield ⟨⟩)) else pure (.yield ⟨⟩))) (h:G ⟨⟩ o):wpAny (model B A) D (forIn l PUnit.unit f) G M o:=by
 induction l with
 |nil=>refine m List.forIn_nil ?_;exact bx h
 |cons i l ih=>
  refine m (List.forIn_cons _ _ _ _) (m (bb _ _) ?_)
  refine ay ?_
  cases e:ab.seen.has i with
  |true=>simp only[fv];exact ay (nJ (bx ih))
  |false=>simp only[fx,fd];exact bx ih
theorem Qa {ab ii:Sre.M} {b:Bool} {G:Option Sre.M->Shared->Prop} (h:sI 64 ab=some ii) (aP:(match ii.outcome with|some .matched=>some true|some .failed=>some false|_=>none)=some b) (dt:G (if b then some ii else none) o):wpAny (model B A) D (Builtin.Re.reRunToEnd ab) G M o:=by
 unfold Builtin.Re.reRunToEnd
 refine ay (G2 _ 64 ab ii o _ _ h (by decide) ?_)
 refine ay (Qg _ ii _ (λi u=>by cases ii.seen.has i<;>rfl) ?_)
 cases e:ii.outcome with
 |none=>rw[e] at aP;cases aP
 |some w=>
  rw[e] at aP
  cases w with
  |matched=>cases aP;exact bx dt
  |failed=>cases aP;exact bx dt
  |stuck E=>cases aP
theorem Pt:(nx.map λi=>Value.int i 0).toArray.map Builtin.Re.reRawOf=nx.toArray:=by decide+kernel
theorem Qc {b:Bool} {t:Tok} {G:Fin->Shared->Prop} (C:Base Q U o.heap) (I:ke x=some b) (ar:x.cps.size<=1000)
  (et:b=false->G (.done (.ret .none)) o) (aX:b=true->∀a y,an o y->(∃w,y.heap.get? a=some w/\w.cls=.type "re.Match")->G (.done (.ret (.ref a))) y):wpAny (model B A) D (Builtin.«re.Pattern.search» ⟨[.ref 43,.str x t],[]⟩) G M o:=by
 obtain⟨w,aP,p,p9,u,rfl⟩:=C.st (43,_) (.head _)
 obtain⟨Ws,qf,rfl⟩:=C.st (42,_) (.tail _ (.head _))
 have aP:o.heap.get? 43=some {cls:=.type "re.Pattern",data:=.fields #[.str p p9,.int 256 u,.int 0 0,.none,.none,.ref 42,.int 0 0]}:=aP
 have qf:o.heap.get? 42=some {cls:=.type "tuple",data:=.seq (nx.map λi=>.int i 0).toArray}:=qf
 have au:Builtin.Re.reNamed "re.Pattern.search" "search" ["string","pos","endpos"] 1 [Value.str x t] []=pure [some (.str x t),none,none]:=rfl
 have cZ:∀(G:Builtin.Re.ReTarget->Shared->Prop) (M:Value->Shared->Prop),G ⟨.ref 43,.str x t,(nx.map (·.toNat)).toArray,x.cps,0,0,0,x.cps.size⟩ o->wpAny (model B A) D (Builtin.Re.reTarget "re.Pattern.search" "search" ⟨[.ref 43,.str x t],[]⟩) G M o:=λG M h=>by
  unfold Builtin.Re.reTarget
  show wpAny _ _ (Builtin.Re.reNamed "re.Pattern.search" "search" ["string","pos","endpos"] 1 [Value.str x t] [] >>=_) _ _ _
  refine m au ?_
  refine eL ?_
  refine eL ?_
  refine eL ?_
  refine ay (wpAny_fieldsOf aP rfl ?_)
  refine ay (m:=Builtin.Re.reTextOf (.str x t)) (fZ (a:=(x.cps,0)) rfl ?_)
  refine ay (m:=Builtin.Re.reNoCollectionInside (.str x t) 0) (fZ (a:=()) rfl ?_)
  refine ay (m:=Builtin.Re.reRawItems (.ref 42)) ?_
  unfold Builtin.Re.reRawItems
  refine ay (wpAny_seqItems qf rfl (bx (bx ?_)))
  have bS:((some (nx.map λi=>Value.int i 0).toArray).getD #[]).map Builtin.Re.reRawOf=nx.toArray:=Pt
  refine m bS ?_
  have bV:(nx.toArray.map λ(i:Int)=>i.toNat)=(nx.map (·.toNat)).toArray:=by decide+kernel
  have hp:min (0:Int).toNat x.cps.size=0:=by simp
  have gR:min ((2:Int) ^ 63 - 1).toNat x.cps.size=x.cps.size:=by
   have:((2:Int) ^ 63 - 1).toNat=9223372036854775807:=by decide
   refine m this ?_;exact Nat.min_eq_right (c2 ar)
  refine m bV ?_
  simp only[hp,gR]
  exact h
 unfold Builtin.«re.Pattern.search»
 refine ay (cZ _ _ ?_)
 unfold Builtin.Re.reAnswer
 unfold ke at I
 cases e:sI 64 (F0 x) with
 |none=>rw[e] at I;cases I
 |some ab=>
  rw[e] at I
  refine ay (Qa (b:=b) e I ?_)
  cases b with
  |false=>exact bx (et rfl)
  |true=>
   show wpAny _ _ (Builtin.Re.reNewMatch (.ref 43) (.str x t) 0 0 x.cps.size ab >>=λv=>ret v) _ _ _
   unfold Builtin.Re.reNewMatch
   refine ay ?_
   show wpAny _ _ (newTuple [rawInt ab.start,rawInt ab.handed] >>=λfQ=>newFields "re.Match" [.str x t,.ref 43,rawInt (0:Nat),rawInt x.cps.size,rawInt ab.lastindex,fQ]) _ _ _
   refine ay (wpAny_newTuple ?_ (by show 2<=sizeLine;refine m dR ?_;decide))
   refine jJ ?_ (by size_fits)
   refine bx (aX rfl _ _ ((an.push _).trans (an.push (o:={o with heap:=o.heap.push _}) _)) ⟨_,dT _ rfl,rfl⟩)
end
theorem zB (h:Heap) (a:Addr) (f:Obj->Obj):(h.update a f).objs.size=h.objs.size:=(fw (h:=h) (a:=a) (f:=f)).1
theorem Av {ni:Ctx} {p:Pos} {t:Sem Fin} {Q6:List Frame} {e:End} (h:Runs ba ni p t Q6 o e y):o.heap.objs.size<=y.heap.objs.size:=by
 induction h<;>(try simp only[Shared.setGen,zB,eN] at *)<;>(first|assumption|exact cG _|exact aK ‹_› ‹_›|exact pz ‹_›)
theorem KR {ni:Ctx} {p:Pos} {r:Result} (h:Returns ba ni p o r y):o.heap.objs.size<=y.heap.objs.size:=Av h
theorem MO {ni:Ctx} {p:Pos} {g:Nat} {r:Resume} {eJ:GenResult} (h:Wakes ba ni p g r o eJ y):o.heap.objs.size<=y.heap.objs.size:=by
 unfold Wakes at h
 split at h
 ·exact h.elim
 ·split at h
  ·obtain⟨m7,aj,aV,_,_,rfl⟩:=h;exact(Av aV:(o.setGen g .running).heap.objs.size<=aj.heap.objs.size)
  ·refine m h.2 ?_;exact cG _
  ·refine m h.2 ?_;exact cG _
 ·obtain⟨m7,aj,aV,_,_,rfl⟩:=h;exact(Av aV:(o.setGen g .running).heap.objs.size<=aj.heap.objs.size)
 ·refine m h.2 ?_;exact cG _
 ·refine m h.2 ?_;exact cG _
theorem P2 {a2:Type} (ba:Model) (ni:Ctx) (n:Nat) (t:Sem a2):∀(G:a2->Pos->Shared->Prop) (M:Value->Pos->Shared->Prop) (p:Pos) (o:Shared),n<=o.heap.objs.size->Sem.wp ba ni t G M p o->
  Sem.wp ba ni t (λa e4 y=>n<=y.heap.objs.size/\G a e4 y) (λe e4 y=>n<=y.heap.objs.size/\M e e4 y) p o:=by
 induction t with
 |pure a=>intro G M p o au h;exact⟨au,h⟩
 |raise e=>intro G M p o au h;exact⟨au,h⟩
 |unsupported _=>intro G M p o _ h;exact h
 |finish _=>intro G M p o _ h;exact h
 |rule _ k ih=>intro G M p o au h;exact ih () G M p o au h
 |«at» e4 k ih=>intro G M p o au h;exact ih () G M e4 o au h
 |load a _ k ih=>intro G M p o au h;obtain⟨w,aP,h⟩:=h;exact⟨w,aP,ih w G M p o au h⟩
 |update a _ f k ih=>intro G M p o au h;exact⟨h.1,ih () G M p _ (aK au (di (zB o.heap a f).symm)) h.2⟩
 |loadIfAlive a k ih=>intro G M p o au h;exact ih _ G M p o au h
 |point _ k ih=>intro G M p o au h;exact ih () G M p o au h
 |register _ _=>intro G M p o _ h;exact h
 |alloc w k ih=>intro G M p o au h;exact ih _ G M p _ (aK au (by show _<=(o.heap.push w).objs.size;rw[eN];exact hw _)) h
 |fresh k ih=>intro G M p o au h;exact ih _ G M p _ au h
 |ask k ih=>intro G M p o au h;exact ih _ G M p o au h
 |choose Wt ab k ih=>intro G M p o au h;exact⟨h.1,ih _ G M p _ au h.2⟩
 |os q _ k ih=>intro G M p o au h;exact ih _ G M p _ au h
 |call c hd _ _ k ih=>intro G M p o au h;obtain⟨r,y,aV,h⟩:=h;exact⟨r,y,aV,ih r G M p y (aK au (KR aV)) h⟩
 |handled own k ih=>intro G M p o au h;exact ih _ G M p o au h
 |genState g k ih=>intro G M p o au h;obtain⟨st,aW,h⟩:=h;exact⟨st,aW,ih _ G M p o au h⟩
 |newGen c k ih=>intro G M p o au h;exact ih _ G M p _ au h
 |resume g r _ k ih=>intro G M p o au h;obtain⟨eJ,y,ik,h⟩:=h;exact⟨eJ,y,ik,ih eJ G M p y (aK au (MO ik)) h⟩
 |yield _ _ _ _=>intro G M p o _ h;exact h
 |stack k ih=>intro G M p o au h;exact ih _ G M p o au h
 |fork _ _=>intro G M p o _ h;exact h
 |thread k ih=>intro G M p o au h;exact ih _ G M p o au h
 |await _ _ _ _ _=>intro G M p o _ h;exact h
theorem j7 {a2:Type} {t:Sem a2} {G:a2->Shared->Prop} (h:wpAny ba D t (λa y=>o.heap.objs.size<=y.heap.objs.size->G a y) (λe y=>o.heap.objs.size<=y.heap.objs.size->M e y) o):wpAny ba D t G M o:=
 c5 (λni p Q7=>P2 ba ni _ t _ _ p o (cG _) (h ni p Q7):wpAny ba D t (λa y=>o.heap.objs.size<=y.heap.objs.size/\(o.heap.objs.size<=y.heap.objs.size->G a y)) (λe y=>o.heap.objs.size<=y.heap.objs.size/\(o.heap.objs.size<=y.heap.objs.size->M e y)) o)
  (λ_ _ x=>x.2 x.1) λ_ _ x=>x.2 x.1
theorem zn {h:Heap}:∀{J:List Value} {ag:List Str},bR X h J (ag.map .str)->∃l:List (Str×Tok),J=strValues l/\l.map (·.1)=ag
 |[],[],_=>⟨[],rfl,rfl⟩
 |v::J,x::ag,.cons a r=>by
  refine aO.fV a λt=>?_
  obtain⟨l,rfl,rfl⟩:=zn r
  exact⟨(x,t)::l,rfl,rfl⟩
theorem zr {h:Heap} (r:bR X h J (eQ.map .int)):∀(i:Nat) (v:Value),J.toArray[i]?=some v->∃t,v=Value.int (eQ.getD i 0) t:=λi v e=>by
 have a0:=r.length
 have bt:J[i]?=some v:=by simpa using e
 have bU:=(gL.mp bt).1
 have aH:(eQ.map PyData.int)[i]?=some (.int (eQ.getD i 0)):=by
  rw[bD] at a0
  refine m fm (m (d4 (by simp_all)) (m jp (m (d4 (by simp_all)) ?_)));rfl
 obtain⟨u,iI,d7⟩:=r.get aH
 rw[bt] at iI;cases iI
 exact d7.int_inv
theorem preSum_eq (eQ:List Int):∀n,n<=eQ.length->preSum (λi=>eQ.getD i 0) n=(eQ.take n).sum
 |0,_=>rfl
 |n+1,h=>by
  show preSum (λi=>eQ.getD i 0) n+eQ.getD n 0=_
  have e:eQ.take (n+1)=eQ.take n++[eQ.getD n 0]:=by
   refine m kf (m (d4 (by assumption)) (m jp (m (d4 (by assumption)) ?_)));rfl
  refine m (preSum_eq eQ n (by exact ew ‹_›)) (m e (m List.sum_append ?_))
  simp
noncomputable def xX (qq:Str) (ag:List Str):Str:=Builtin.Str.glued qq ag
section
variable {Y:List Addr} {az:Str->Option PyData} {k:Nat}
theorem H.range {np:Pos} {n:Nat} (aa:cJ Q U Y o s az) (aN:s.kindOf "range"=some .globalImplicit) (O:H B A D Y o s e (.int n)) (al:autoParam (starEach [e] s=[(false,eval e s)]) cg._auto_1):
  H B A D Y o s (.Call (.Name "range" np) [e] [] ao) (dB n):=.mk λaj G M aq h=>by
 have V:bi B A D o s (.Name "range" np) (.type "range"):=bi.blt aa aN (by exact jk (by kernel_rfl))
 refine l3 al (V.ap aj _ _ aq λaB aE=>xm (O.ap aB _ _ (aq.trans aE) λv ax a7 r=>?_))
 refine aO.fU r λt=>?_
 have eS:=aa.ex ((aq.trans aE).trans a7)
 refine call_range_1 (h _ _ ((aE.trans a7).trans ((an.tok (o:=ax) (ax.toks+1+1)).trans (an.push (o:={ax with toks:=ax.toks+1+1}) _))) (.range (λq=>ey _ (eS.eb _ q)) (dT _ rfl)))
theorem DW {Hk:List Addr} (ab:Moved [o.heap.objs.size] (λa b=>b=a) {o with heap:=o.heap.push w} y) (ar:o.heap.objs.size<=y.heap.objs.size):an o y:=by
 have keep:∀b bA,o.heap.get? b=some bA->y.heap.get? b=some bA:=λb bA q=>ab.heap b bA (by
  rw[cn];exact kG (dL q)) (e1 _ q)
 refine⟨⟨y.heap,y.toks,?_⟩,λb bA _ q=>keep b bA q,ar,λT=>T.mono λb bA _ q=>keep b bA q⟩
 obtain⟨h,g,d,t,os⟩:=y
 have bW:=ab.gens;have hd:=ab.drawn;have aP:=ab.os
 simp only at bW hd aP
 subst bW hd aP;rfl
theorem H.sum {np:Pos} (aa:cJ Q U Y o s az) (bj:D.handled=Option.none) (aN:s.kindOf "sum"=some .globalImplicit) (O:H B A D Y o s e (.list (eQ.map .int))) (al:autoParam (starEach [e] s=[(false,eval e s)]) cg._auto_1):
  H B A D Y o s (.Call (.Name "sum" np) [e] [] ao) (.int eQ.sum):=.mk λaj G M aq h=>by
 have V:bi B A D o s (.Name "sum" np) (.builtin "sum"):=bi.blt aa aN (by exact jk (by kernel_rfl))
 refine l3 al (V.ap aj _ _ aq λaB aE=>uG (O.ap aB _ _ (aq.trans aE) λv ax a7 r=>?_))
 refine aO.kL r λa J n _ l rs=>?_
 have a0:=rs.length
 rw[bD] at a0
 have cE:a≠ax.heap.objs.size:=kG (dL l)
 refine j7 (call_sum_walkAnyS (wpAny_pyIter_list l.isList ⟨ax.heap.objs.size,[ax.heap.objs.size,a],[ax.heap.objs.size],_,_,_,_,λi=>eQ.getD i 0,rfl,(Walks.list (A:=D.in1) bj ax.heap.objs.size a cE J.toArray).toS,?_,?_,zr rs,λy dd ab ar=>?_⟩))
 ·exact⟨⟨_,dT _ rfl,rfl,rfl⟩,l.isList.push _⟩
 ·intro b aA
  have e:(ax.heap.push {cls:=.type "list_iterator",data:=.fields #[.ref a,.int 0 0]}).objs.size=ax.heap.objs.size+1:=eN ..
  show b < (ax.heap.push {cls:=.type "list_iterator",data:=.fields #[.ref a,.int 0 0]}).objs.size
  refine m e ?_
  rcases bP.mp aA with rfl|aA
  ·exact hb _
  ·refine m (cn.mp aA) ?_;exact is (dL l)
 ·have c0:an ax y:=DW (Hk:=[]) ab ar
  have e:preSum (λi=>eQ.getD i 0) J.toArray.size=eQ.sum:=by
   exact m gz (m a0 (m (preSum_eq eQ _ (cG _)) (m jN rfl)))
  refine m e ?_
  exact h _ _ ((aE.trans a7).trans c0) (.int _ _)
theorem H.min {np:Pos} {ab:Int} (aa:cJ Q U Y o s az) (bj:D.handled=Option.none) (aN:s.kindOf "min"=some .globalImplicit) (O:H B A D Y o s e (.list (eQ.map .int))) (hm:ab∈eQ) (i7:∀x∈eQ,ab<=x) (al:autoParam (starEach [e] s=[(false,eval e s)]) cg._auto_1):
  H B A D Y o s (.Call (.Name "min" np) [e] [] ao) (.int ab):=.mk λaj G M aq h=>by
 have V:bi B A D o s (.Name "min" np) (.builtin "min"):=bi.blt aa aN (by exact jk (by kernel_rfl))
 refine l3 al (V.ap aj _ _ aq λaB aE=>uG (O.ap aB _ _ (aq.trans aE) λv ax a7 r=>?_))
 refine aO.kL r λa J n _ l rs=>?_
 have a0:=rs.length
 rw[bD] at a0
 have yh:0 < eQ.length:=xB hm
 have cE:a≠ax.heap.objs.size:=kG (dL l)
 refine j7 (call_min_walkS (wpAny_pyIter_list l.isList ⟨ax.heap.objs.size,[ax.heap.objs.size,a],[ax.heap.objs.size],_,_,_,_,_,rfl,(Walks.list (A:=D.in1) bj ax.heap.objs.size a cE J.toArray).toS,?_,?_,?_,CmpOf.ints_lt (λi=>eQ.getD i 0) (zr rs),λv y bn Q8 ar=>?_⟩))
 ·exact⟨⟨_,dT _ rfl,rfl,rfl⟩,l.isList.push _⟩
 ·intro b aA
  have e:(ax.heap.push {cls:=.type "list_iterator",data:=.fields #[.ref a,.int 0 0]}).objs.size=ax.heap.objs.size+1:=eN ..
  show b < (ax.heap.push {cls:=.type "list_iterator",data:=.fields #[.ref a,.int 0 0]}).objs.size
  refine m e ?_
  rcases bP.mp aA with rfl|aA
  ·exact hb _
  ·refine m (cn.mp aA) ?_;exact is (dL l)
 ·refine m gz (m a0 ?_);exact yh
 ·have c0:an ax y:=DW (Hk:=[]) Q8 ar
  obtain⟨t,rfl⟩:=zr rs _ _ bn
  have q:=argBest_lt (λi=>eQ.getD i 0) (J.toArray.size - 1)
  generalize argBest (λi j=>decide (eQ.getD i 0 < eQ.getD j 0)) (J.toArray.size - 1)=b at q ⊢
  rw[gz,a0] at q
  have aA:b < eQ.length:=by exact ki q.1 (Nat.sub_lt yh Nat.one_pos)
  have bS:eQ.getD b 0∈eQ:=by refine m jp (m (d4 aA) ?_);exact mP aA
  obtain⟨j,bv,qr⟩:=List.mem_iff_getElem.mp hm
  have bV:=q.2 j (by exact Nat.le_sub_one_of_lt bv)
  simp only[jp,d4 bv,Option.getD_some,qr] at bV
  have hp:=i7 _ bS
  simp only[jp] at hp
  have gR:eQ.getD b 0=ab:=by refine m jp ?_;exact Int.le_antisymm bV hp
  refine m gR ?_
  exact h _ _ ((aE.trans a7).trans c0) (.int _ _)
theorem H.join {ap:Pos} {qq:Str} {ag:List Str} (O:H B A D Y o s e (.str qq)) (qp:H B A D Y o s bt (.list (ag.map .str))) (a0:Builtin.Str.tooLong (ag.toArray.foldl (· +·.length+qq.length) 0)=false) (ar:(xX qq ag).cps.size<=1000)
  (fA:autoParam (attributeBase e "join" s (eval e s)=eval e s) cg._auto_1) (aW:autoParam (starEach [bt] s=[(false,eval bt s)]) cg._auto_1) (fB:autoParam ((ap.endLine==ao.line)=true) cg._auto_1):
  H B A D Y o s (.Call (.Attribute e "join" ap) [bt] [] ao) (.str (xX qq ag)):=.mk λaj G M aq h=>
 m6 fA aW fB (O.ap aj _ _ aq λv aB aE r=>by
  refine aO.fV r λt=>?_
  refine⟨"str","str.join",F.plainAttrs_str,F.slot_str_join,F.type_str_join,typeIs_str _ _ _,(λ_ e=>nomatch e),?_⟩
  refine method_meets F.slot_str_join F.entry_str_join rfl (kg (jO (qp.ap aB _ _ (aq.trans aE) λv ax a7 hZ=>kH ?_)))
  refine aO.kL hZ λa J n _ l rs=>?_
  obtain⟨bg,rfl,rfl⟩:=zn rs
  refine⟨rfl,typeIs_str _ _ _,F.args_str_join_2 _ _,_,meets_str_join_list qq t a bg a0,l.isList,?_⟩
  have key:∀u aD,G (.str (xX qq (bg.map (·.1))) u) {ax with toks:=aD}:=λu aD=>h _ _ ((aE.trans a7).trans (an.tok aD)) (.str _ _)
  clear rs l hZ a0
  revert key ar
  match bg with
  |[]=>intro ar key;exact⟨w8 ar,key _ _⟩
  |[p]=>intro ar key;exact key p.2 ax.toks
  |p::q::r=>intro ar key;exact⟨w8 ar,key _ _⟩)
structure jr (B:Program) (A:World) (D:Around) (Y:List Addr) (o:Shared) (s:Env) (e:Expr) (ag:List PyData):Prop where
 ap:∀(aj:Shared) (G M:Value->Shared->Prop),an o aj->(∀a y,an aj y->aj.heap.objs.size<=a->a < y.heap.objs.size->(cp λJ n=>IsL y.heap a J n/\bR (a::Y) y.heap J.toList ag)->G (.ref a) y)->wpAny (model B A) D (eval e s) G M aj
theorem jr.listOf {np:Pos} (aa:cJ Q U Y o s az) (aN:s.kindOf "list"=some .globalImplicit) (O:H B A D Y o s e (.list ag)) (ar:ag.length<=1000) (al:autoParam (starEach [e] s=[(false,eval e s)]) cg._auto_1):
  jr B A D Y o s (.Call (.Name "list" np) [e] [] ao) ag:=.mk λaj G M aq h=>by
 have V:bi B A D o s (.Name "list" np) (.type "list"):=bi.blt aa aN (by exact jk (by kernel_rfl))
 refine l3 al (V.ap aj _ _ aq λaB aE=>xm (O.ap aB _ _ (aq.trans aE) λv ax a7 r=>?_))
 refine aO.kL r λa J n _ l rs=>?_
 have a0:=rs.length
 have jW:=(aq.trans aE).trans a7
 refine j7 (call_list_seq a (.inl rfl) l rfl rfl (λam bq aN j0 jZ=>?_) (by refine m dR (m gz ?_);exact c2 (aK (di a0) ar)))
 have c0:an ax {ax with heap:=am}:=an.of_keeps (aD:=ax.toks) aN jZ
 exact h _ _ ((aE.trans a7).trans c0) ((aE.trans a7).size) (dL j0) ⟨J.toArray,bq,j0,by simpa using(rs.more (Z:=[ax.heap.objs.size]) λz ar=>by refine m (cn.mp ar) ?_;exact cG _).ex (aa.base.ex jW).tabs c0⟩
theorem jr.list {aU:List Expr} (aa:cJ Q U Y o s az) (O:bK B A D Y o s ao aU aM) (ar:autoParam (aM.length<=1000) zx._auto_1):jr B A D Y o s (.List aU ao) aM:=.mk λaj G M aq h=>by
 refine List_ (O.ap aj _ _ aq λJ aB aE r=>?_)
 have l:=r.length
 have cV:=aa.ex (aq.trans aE)
 exact jJ (h _ _ (aE.trans (an.push _)) aE.size (by simp) ⟨_,0,dT _ rfl,by simpa using(r.more (Z:=[aB.heap.objs.size]) λz ar=>by refine m (cn.mp ar) ?_;exact cG _).ex cV.base.tabs (an.push _)⟩) (by show J.toArray.size<=sizeLine;refine m dR (m gz ?_);exact c2 (aK (di l) ar))
end
section
variable {k:Nat}
theorem oI {np:Pos} (C:aw Q U ai Z ak s K o) (O:jr B A D (K.Y ai) o s e ag) (aN:hG s x)
  (h:∀a y,(∀z∈K.Y ai,z≠a)->aw Q U ai Z ak s ((K.own a (.lst ag)).tc x (.ref a)) y->bl B A D aZ s G M y) (aW:autoParam (swapsWith e (some (.Name x np)) ao.line s=pure false) cg._auto_1):
  bl B A D (.Assign [.Name x np] e ao::aZ) s G M o:=
 ⟨dA (kO (O.ap o _ _ (an.refl _) λa aj aq aF aA ⟨J,n,l,r⟩=>(C.add (e:=.lst ag) aq ⟨aF,aA⟩ ⟨J,n,l,r⟩).li aN λy a4=>(h a y (λz ar e=>absurd (C.aI.eb z ar) (eZ.mpr (e▸aF))) a4).out) aW)⟩
end
section
variable {k:Nat}
theorem aw.ev {p:Pos} (C:aw Q U ai Z ak s K o) (bn:K.bO x=some v) (hd:autoParam ((x==("__debug__":Str))=false) fe._auto_1) (au:autoParam ((x==("__classdict__":Str))=false) fe._auto_1):bi B A D o s (.Name x p) v:=
 .mk λaj G M aq h=>wpAny_Name (z1 C.aI.fn ((C.dP x v bn).ex aq C.tabs) (h aj (an.refl _)) au) hd
theorem aw.iZ (C:aw Q U ai Z ak s K o) (h:(O,Ent.lst aM)∈K.L):cp λJ n=>IsL o.heap O J n/\bR (K.Y ai) o.heap J.toList aM:=C.led _ h
theorem aw.uF (C:aw Q U ai Z ak s K o) (h:(O,Ent.lst aM)∈K.L) (x:an o y):cp λJ n=>IsL y.heap O J n:=by
 obtain⟨J,n,l,r⟩:=(C.step x).iZ h;exact⟨J,n,l⟩
theorem aw.quiet (C:aw Q U ai Z ak s K o):interactive s=false:=by unfold interactive;refine m C.aI.fn ?_;rfl
theorem vm {p ap:Pos} {d:PyData} (C:aw Q U ai Z ak s K o) (bn:K.bO x=some (.ref O)) (a1:K.L=bz++(O,.lst aM)::bY)
  (f9:H B A D (K.Y ai) o s e d) (ar:aM.length<=1000) (h:∀y,aw Q U ai Z ak s {K with L:=bz++(O,.lst (aM++[d]))::bY} y->bl B A D aZ s G M y)
  (fA:autoParam (attributeBase (.Name x p) "append" s (eval (.Name x p) s)=eval (.Name x p) s) cg._auto_1) (aW:autoParam (starEach [e] s=[(false,eval e s)]) cg._auto_1) (fB:autoParam ((ap.endLine==fI.line)=true) cg._auto_1)
  (kr:autoParam (swapsWith (.Call (.Attribute (.Name x p) "append" ap) [e] [] fI) none ao.line s=pure false) cg._auto_1) (hd:autoParam ((x==("__debug__":Str))=false) fe._auto_1) (au:autoParam ((x==("__classdict__":Str))=false) fe._auto_1):
  bl B A D (.Expr (.Call (.Attribute (.Name x p) "append" ap) [e] [] fI) ao::aZ) s G M o:=by
 refine⟨dA (m2 ?_ C.quiet kr)⟩
 have dF:(O,Ent.lst aM)∈K.L:=by refine m a1 ?_;simp
 refine m6 fA aW fB ((C.ev bn hd au).ap o _ _ (an.refl _) λaj aq=>?_)
 obtain⟨J,n,l⟩:=C.uF dF aq
 refine⟨"list","list.append",uD,F.slot_list_append,F.type_list_append,⟨_,l,rfl⟩,λa i9=>by have e:=mb i9;subst e;exact⟨_,l,rfl⟩,?_⟩
 refine P.append_list (f9.ap aj _ _ aq λv aB aE r=>?_)
 have aQ:=C.step (aq.trans aE)
 obtain⟨il,lB,iM,ks⟩:=aQ.iZ dF
 have cI:=ks.length
 have f7:O∈K.Y ai:=by unfold bd.Y bd.as;refine m a1 ?_;simp
 refine⟨il,lB,by refine m dR ?_;simp only[lj] at cI;exact c2 (aK (di cI) ar),iM,(h _ ?_).out⟩
 refine aQ.iD (aD:=aB.toks) a1 (fw ..) ⟨il.push v,_,iM.update _,?_⟩
 refine m Array.toList_push ?_
 exact(ks.upd (fw ..) (.inl f7)).snoc (r.upd (fw ..) (.inl f7))
theorem JP {p ap:Pos} {aU:List PyData} (C:aw Q U ai Z ak s K o) (bn:K.bO x=some (.ref O)) (a1:K.L=bz++(O,.lst aM)::bY)
  (f9:H B A D (K.Y ai) o s e (.list aU)) (ar:aM.length+aU.length<=1000) (h:∀y,aw Q U ai Z ak s {K with L:=bz++(O,.lst (aM++aU))::bY} y->bl B A D aZ s G M y)
  (fA:autoParam (attributeBase (.Name x p) "extend" s (eval (.Name x p) s)=eval (.Name x p) s) cg._auto_1) (aW:autoParam (starEach [e] s=[(false,eval e s)]) cg._auto_1) (fB:autoParam ((ap.endLine==fI.line)=true) cg._auto_1)
  (kr:autoParam (swapsWith (.Call (.Attribute (.Name x p) "extend" ap) [e] [] fI) none ao.line s=pure false) cg._auto_1) (hd:autoParam ((x==("__debug__":Str))=false) fe._auto_1) (au:autoParam ((x==("__classdict__":Str))=false) fe._auto_1):
  bl B A D (.Expr (.Call (.Attribute (.Name x p) "extend" ap) [e] [] fI) ao::aZ) s G M o:=by
 refine⟨dA (m2 ?_ C.quiet kr)⟩
 have dF:(O,Ent.lst aM)∈K.L:=by refine m a1 ?_;simp
 refine m6 fA aW fB ((C.ev bn hd au).ap o _ _ (an.refl _) λaj aq=>?_)
 obtain⟨J,n,l⟩:=C.uF dF aq
 refine⟨"list","list.extend",uD,F.slot_list_extend,F.type_list_extend,⟨_,l,rfl⟩,λa i9=>by have e:=mb i9;subst e;exact⟨_,l,rfl⟩,?_⟩
 refine P.extend_list (f9.ap aj _ _ aq λv aB aE r=>?_)
 have aQ:=C.step (aq.trans aE)
 obtain⟨il,lB,iM,ks⟩:=aQ.iZ dF
 refine aO.kL r λb cq ab aA cb qm=>?_
 have cI:=ks.length
 have Bs:=qm.length
 simp only[lj] at cI
 have f7:O∈K.Y ai:=by unfold bd.Y bd.as;refine m a1 ?_;simp
 have Q9:cq.toArray.size=cq.length:=by simp
 refine⟨b,il,cq.toArray,lB,ab,by refine m dR ?_;exact cI▸c2 (aK (jS _ _) ar),by refine m dR ?_;(rw[cI,Q9,Bs];exact c2 ar),?_,rfl,iM,cb,(h _ ?_).out⟩
 ·intro q
  simp only[iR] at q
  have:il.size+cq.toArray.size<=1000:=by simp_all
  generalize il.size+cq.toArray.size=t at this q
  have q:=q.2
  unfold Builtin.List.listTooLong at q
  simp only[h8,dR] at q
  (first|assumption|lia|omega)
 refine aQ.iD (aD:=aB.toks) a1 (fw ..) ⟨il++cq.toArray,_,iM.update _,?_⟩
 refine m Array.toList_append ?_
 exact(ks.upd (fw ..) (.inl f7)).append (qm.upd (fw ..) (.inl f7))
end
theorem th {a2:Type} {l:List (Str×a2)} {ab:Str->Option a2} (h:AllP (λp=>ab p.1=some p.2) l):∀x d,dl l x=some d->ab x=some d:=λx d e=>h.mem (x,d) (mz e)
section
variable {k:Nat}
theorem aw.norm (L:List (Addr×Ent)) (ld:List (Str×PyData)) (nV:List (Str×Value)) (C:aw Q U ai Z ak s K o) (a1:K.L=L) (hd:AllP (λp=>K.az p.1=some p.2) ld) (bn:AllP (λp=>K.bO p.1=some p.2) nV):aw Q U ai Z ak s {L:=L,az:=dl ld,bO:=dl nV} o:=
 C.sub (λp af=>by refine m a1 ?_;exact af) (by have:=C.ah;unfold bd.as at this ⊢;rw[a1] at this;exact this) (λp af=>(b9 af).elim) (th hd) (th bn)
theorem aw.tv {ae:Addr} {d:PyData} (L:List (Addr×Ent)) (ld:List (Str×PyData)) (nV:List (Str×Value)) (C:aw Q U ai Z ak s K o) (a1:K.L=(ae,.own (bk v d i))::L) (iK:(v,d)∈K.R) (hd:AllP (λp=>K.az p.1=some p.2) ld) (bn:AllP (λp=>K.bO p.1=some p.2) nV):
  aw Q U ai Z ak s (bd.it {L:=L,az:=dl ld,bO:=dl nV} ae v d i) o:=
 C.sub (λp af=>by refine m a1 ?_;exact af) (by have:=C.ah;unfold bd.as at this ⊢;rw[a1] at this;exact this) (λp af=>by
  have af:p∈[(v,d)]:=af
  refine m (cn.mp af) ?_;exact iK) (th hd) (th bn)
end
theorem aw.e3 (L:List (Addr×Ent)) (R:List (Value×PyData)) (ld:List (Str×PyData)) (nV:List (Str×Value)) (C:aw Q U ai Z ak s K o) (a1:K.L=L) (iK:AllP (λp=>p∈K.R) R) (hd:AllP (λp=>K.az p.1=some p.2) ld) (bn:AllP (λp=>K.bO p.1=some p.2) nV):aw Q U ai Z ak s {L:=L,R:=R,az:=dl ld,bO:=dl nV} o:=
 C.sub (λp af=>by refine m a1 ?_;exact af) (by have:=C.ah;unfold bd.as at this ⊢;rw[a1] at this;exact this) (λp af=>iK.mem p af) (th hd) (th bn)
theorem aw.pD (C:aw Q U ai Z ak s K o) (bn:K.bO x=some (.ref O)) (hm:(O,Ent.lst aM)∈K.L):cJ Q U [] o s (upd K.az x (.list aM)):=by
 have aa:=C.aI.weak (eP:=[]) λb q=>by cases q
 obtain⟨J,n,l,r⟩:=C.led _ hm
 exact⟨aa.base,aa.fn,aa.hF,aa.blt,λE d e=>by
  unfold upd at e
  by_cases aJ:E=x
  ·rw[b3 aJ] at e;cases e
   exact⟨.ref O,by refine m aJ ?_;exact C.dP x _ bn,.list (by simp) l r.w6⟩
  ·rw[bI aJ] at e;exact aa.dP E d e,aa.eb,aa.inj,aa.fE,aa.cb⟩
theorem E0 (a b:Nat):(a:Int).fmod (b:Int)=((a % b:Nat):Int):=by
 refine m (Int.fmod_eq_emod_of_nonneg _ (by simp)) ?_;rfl
theorem Kf (a b:Nat):(a:Int).fdiv (b:Int)=((a / b:Nat):Int):=by
 refine m (Int.fdiv_eq_ediv_of_nonneg _ (by simp)) ?_;rfl
theorem eU.pY {a b:Nat} {i:Int} (aH:i=(b:Int)) (aA:b≠0):eU B A D .Mod (.int a) (.int i) (.int (a % b:Nat)):=by
 refine m aH (a9 (E0 _ _) ?_);exact eU.mod_int (by simp_all)
theorem eU.wV {a b:Nat} {i:Int} (aH:i=(b:Int)) (aA:b≠0) (af:autoParam (Builtin.divisionGoesByPylong a b=false) cg._auto_1):eU B A D .FloorDiv (.int a) (.int i) (.int (a / b:Nat)):=by
 refine m aH (a9 (Kf _ _) ?_);exact eU.PT (by simp_all) af
theorem ES {a2 gf:Type} (f:a2->gf) (ag:List a2) (lo aH st:Option Int):iz (ag.map f) lo aH st=(iz ag lo aH st).map f:=by
 unfold iz
 refine m (bD _) (m List.map_filterMap ?_)
 congr 1
 funext j
 exact m fm rfl
theorem Lp {h:Heap} {P:Addr} (b1:P=219∨P=231) (T:d2 h) (aN:∀b w,b≠P->h.get? b=some w->am.get? b=some w) (aX:P=219->∃J,am.get? 219=some (tabObj J)/\la am J zY zC) (a5:P=231->∃J,am.get? 231=some (tabObj J)/\la am J An Al):d2 am:=by
 have lt:∀{J:Array Value} {ao:Pos} {bN:Str},(∃bg,h.get? P=some (tabObj bg))->la h J ao bN->la am J ao bN:=λaf x=>x.imp id λ⟨c,e,bF,cq,t,g,av,hd,q⟩=>⟨c,e,bF,cq,t,aN c bF (by
  rintro rfl
  obtain⟨bg,af⟩:=af
  rw[af] at g;cases g;cases av) g,av,hd,q⟩
 have af:∃bg,h.get? P=some (tabObj bg):=by
  rcases b1 with rfl|rfl
  ·exact T.oa.imp λ_ e=>e.1
  ·exact T.q7.imp λ_ e=>e.1
 refine⟨?_,?_,?_⟩
 ·by_cases e:P=219
  ·exact aX e
  ·obtain⟨J,g,x⟩:=T.oa;exact⟨J,aN _ _ (l1 e) g,lt af x⟩
 ·by_cases e:P=231
  ·exact a5 e
  ·obtain⟨J,g,x⟩:=T.q7;exact⟨J,aN _ _ (l1 e) g,lt af x⟩
 ·obtain⟨J,g,x⟩:=T.tb
  refine⟨J,aN _ _ (by rcases b1 with rfl|rfl<;>decide) g,x.mono λb w c _ e=>aN b w ?_ e⟩
  rintro rfl
  obtain⟨bg,af⟩:=af
  rcases c with c|c
  ·rw[af] at e;cases e;cases c
  ·rcases b1 with rfl|rfl<;>exact absurd c (by decide)
theorem DF {P:Addr} {cQ:Arguments} {dE:Expr} {q:Str×Addr} {G:Value->Shared->Prop} (C:Base Q U o.heap) (b1:P=219∨P=231) (j1:s.globals=mainGlobals) (eg:closureFor aR s=pure (q::dm)) (j2:s.code=.ref c) (hn:∃bF,o.heap.get? c=some bF/\m5 P bF) (Bt:c≠P)
  (nW:o.heap.get? P=some (tabObj bg)) (bU:la o.heap bg ao bN) (aS:s.qual++"<lambda>"=bN) (Hl:(P=219->ao=zY/\bN=zC)/\(P=231->ao=An/\bN=Al)) (Ra:defaultsOf cQ s=([],[]))
  (h:∀f bq bs cR y,an o y->o.heap.objs.size<=f->y.heap.get? f=some (kla_obj "<lambda>" bN cQ dE aR (q::dm) bs bq cR)->g2 y.heap bq bN->G (.ref f) y):
  wpAny (model B A) D (eval (.Lambda cQ dE aR ao) s) G M o:=by
 subst aS
 refine kla_eval Ra ?_
 obtain⟨bF,r3,J,tz,tA,tB,he,tC,text,m8,h0,g3,gF,jz,ml,nj,qs,r5⟩:=hn
 have aa:CodeHd o.heap c P:=⟨bF,J,tz,tA,tB,he,tC,text,m8,r3,h0,g3,gF,jz,ml,nj,qs,r5,Bt⟩
 obtain⟨nX,tM,lG,k1,tN⟩:=C.st (4,_) (.tail _ (.tail _ (.head _)))
 have yi:(4:Addr)≠P:=by rcases b1 with rfl|rfl<;>decide
 have Rb:o.heap.BuiltinsAt Q P:=⟨4,nX,C.nm.bm,by decide,by decide,yi,tM,lG,k1,tN⟩
 have Rc:tab P=true:=by rcases b1 with rfl|rfl<;>rfl
 have Hm:∀(am:Heap) (aD:Tok),(∀b w,b≠P->o.heap.get? b=some w->am.get? b=some w)->o.heap.objs.size<=am.objs.size->(∃k2,am.get? P=some (tabObj k2)/\la am k2 ao (s.qual++"<lambda>"))->an o {o with heap:=am,toks:=aD}:=λam aD aN ar au=>
  ⟨⟨am,aD,rfl⟩,λb w bu e=>aN b w (λq=>by rw[q,Rc] at bu;cases bu) e,ar,λT=>Lp b1 T aN (λe=>by
   obtain⟨bS,bV⟩:=Hl.1 e;refine a9 bS (a9 bV (a9 e ?_));exact au) λe=>by
   obtain⟨bS,bV⟩:=Hl.2 e;refine a9 bS (a9 bV (a9 e ?_));exact au⟩
 rcases bU with rfl|⟨bq,rfl,Rd⟩
 ·rw[makeFunction_eq]
  simp only[List.zip_nil_right,List.filterMap_nil,List.isEmpty_nil,fv,pure_bind]
  have qt:mainGlobals≠P:=by rcases b1 with rfl|rfl<;>decide
  unfold makeTail
  refine m eg (m j1 ?_)
  refine eL ?_
  simp only[List.isEmpty_cons,fx,fd]
  refine ay (wpAny_newTextTuple ?_)
  have up:=λ(w:Obj) b bA (e:o.heap.get? b=some bA)=>e1 w e
  refine ay (wpAny_functionCodeX j2 ((aa.keeps (up _)).code (up _ _ _ nW) ⟨⟩) ((aa.keeps (up _)).tab (up _ _ _ nW)) rfl λbq am aD I bW Rf _ Rg Rh j0=>?_)
  have r6:Heap.ExtBut P o.heap am:=λb w aA e=>I b w aA (up _ b w e)
  have tO:o.heap.objs.size+1<=bq:=aK (di (eN ..).symm) bW
  have ar:o.heap.objs.size<=am.objs.size:=aK (pz tO) (ew Rf)
  have ja:=C.g.extBut r6 qt
  refine ay (wpAny_builtinsFor ja C.nm.bm (by decide) (r6 _ _ yi tM) lG k1 tN ?_)
  refine ay (wpAny_nsGet ja ?_)
  refine eL (jJ ?_ (by size_fits))
  obtain⟨jb,_,_,⟨r7,vM,im,g4,lH,_⟩,_⟩:=j0
  obtain⟨eW,Hn,Ho,fy,bS,bV,hp,gR⟩:=Rg
  cases bS
  rw[im] at bV;cases bV
  rw[lH] at hp;cases hp
  have o4:∀(w:Obj) b bA,b≠P->o.heap.get? b=some bA->(am.push w).get? b=some bA:=λw b bA aA e=>e1 _ (r6 b bA aA e)
  refine h _ bq _ _ _ (Hm _ aD (o4 _) (by refine m (eN _ _) ?_;exact ht ar) ⟨_,e1 _ Rh.2,.inr ⟨bq,by simp,r7,vM,fy,e1 _ im,g4,lH,gR⟩⟩) ar (dT _ rfl) ⟨r7,vM,fy,e1 _ im,g4,lH,gR⟩
 ·refine kla_makeFunctionHit (cv:=.ref bq) eg j1 C.g j2 aa nW ⟨⟩ (by simp[codeAmong,rawInt]) Rb λcR am aD aN ar=>?_
  have o4:∀b w,o.heap.get? b=some w->(am.push (kla_obj "<lambda>" (s.qual++"<lambda>") cQ dE aR (q::dm) ((Q "__name__").getD .none) bq cR)).get? b=some w:=λb w e=>e1 _ (aN b w e)
  obtain⟨yj,cq,t,hV,gC,Hp,Hq⟩:=Rd
  refine h _ bq _ cR _ (Hm _ aD (λb w _ e=>o4 b w e) (by refine m (eN _ _) ?_;exact ht ‹_›) ⟨_,o4 _ _ nW,.inr ⟨bq,rfl,yj,cq,t,o4 _ _ hV,gC,Hp,Hq⟩⟩) ar (dT _ rfl) ⟨yj,cq,t,o4 _ _ hV,gC,Hp,Hq⟩
theorem g2.ex (T:d2 o.heap) (x:an o y) (h:g2 o.heap c q):g2 y.heap c q:=by
 obtain⟨bF,cq,t,g,av,hd,aS⟩:=h
 refine⟨bF,cq,t,x.keep c bF ?_ g,av,hd,aS⟩
 cases bu:tab c with
 |false=>rfl
 |true=>obtain⟨J,rfl⟩:=T.fields bu g;cases av
theorem Gu {k:Nat} {Y:List Addr} {bq:Addr} {bs cR:Value} {cQ:Arguments} {dE:Expr} {d:PyData} {az:Str->Option PyData} (names:List (Str×NameKind)) (eD:List (Str×Value)) (R:b0 (k+1) D) (C:Base Q U o.heap) (aJ:∀E∈Y,E < o.heap.objs.size)
  (aP:o.heap.get? f=some (kla_obj "<lambda>" bN cQ dE aR dm bs bq cR)) (Ri:g2 o.heap bq bN) (lF:bindArgs (kla_fn "<lambda>" bN cQ dE aR dm bs (.ref bq) cR) ⟨J,[]⟩=pure eD) (au:aR.names=names) (aN:aR.kind=.function) (fi:aR.isCoroutine=false) (kq:aR.isGenerator=false)
  (gs:∀x∈names,x.2≠.cell) (Bu:∀x∈eD,names.lookup x.1=some .local)
  (lE:∀x d,az x=some d->(∃v,ce (eD.reverse.lookup x=some v) (names.lookup x=some .local) (aO Y o.heap v d))∨(cp λc v=>hx (names.lookup x=some .free) (dm.lookup x=some c) (o.heap.IsCell c (some v)) (aO Y o.heap v d)))
  (eg:∀n c,dm.lookup n=some c->c < o.heap.objs.size/\c∉Y) (Bv:∀n d6 c,dm.lookup n=some c->dm.lookup d6=some c->n=d6)
  (Rj:∀(aj:Shared) (s:Env),s.scope.names=names->cJ Q U Y aj s az->b0 k (D.deeper s)->H B A (D.deeper s) Y aj s dE d):
  codeAny (model B A) D (.call (.ref f) ⟨J,[]⟩) (λr y=>∃v,ce (r=.ok (.ret v)) (an o y) (aO Y y.heap v d)) o:=by
 subst au
 refine kla_callFunE R.room aP rfl fi kq rfl (by obtain⟨bF,cq,t,g,_,d,q⟩:=Ri;exact⟨bq,bF,cq,t,rfl,g,d,q⟩) ?_
 refine m lF ?_
 refine bx (wpAny_newFunctionEnv gs Bu (λca nY j3=>⟨C.lim.fresh _ j3,kla_codeExpr ?_⟩) aN)
 have keep:∀b w,o.heap.get? b=some w->ca.get? b=some w:=λb w e=>j3.extBut b w (kG (dL e)) (e1 _ e)
 have ar:o.heap.objs.size<=ca.objs.size:=by refine m j3.1 (m (eN _ _) ?_);exact hw _
 have bU:o.heap.objs.size < ca.objs.size:=by refine m j3.1 (m (eN _ _) ?_);exact hb _
 generalize mj:({o with heap:=ca,toks:=o.toks+eD.length}:Shared)=aj
 have x:an o aj:=by refine a9 mj ?_;exact an.of_keeps keep ar
 have lI:aj.heap=ca:=by exact a9 mj rfl
 generalize jc:newEnv aR o.heap.objs.size mainGlobals dm (bN++".<locals>.") (some f) (.ref bq) none builtinsNs=s
 have bS:s.scope=aR:=by refine a9 jc ?_;rfl
 have bV:s.locals=o.heap.objs.size:=by refine a9 jc ?_;rfl
 have hp:s.globals=mainGlobals:=by refine a9 jc ?_;rfl
 have gR:s.cells=dm:=by refine a9 jc ?_;rfl
 have o5:s.builtins=builtinsNs:=by refine a9 jc ?_;rfl
 have dj:∀x,s.kindOf x=aR.names.lookup x:=λx=>by unfold Env.kindOf;exact m bS rfl
 have aa:cJ Q U Y aj s az:=by
  refine⟨C.ex x,by refine m bS ?_;exact aN,hp,o5,λE fq e=>?_,λE q=>cz (aJ E q) x.size,by refine m gR ?_;exact Bv,λn c e=>?_,?_⟩
  ·rcases lE E fq e with⟨v,bn,a0,r⟩|⟨c,v,a0,av,Bw,r⟩
   ·exact⟨v,.inl ⟨by rw[dj];exact a0,_,by refine m bV (m lI ?_);exact nY,bn⟩,r.ex C.tabs x⟩
   ·exact⟨v,.inr ⟨.inr (by rw[dj];exact a0),c,by refine m gR ?_;exact av,by refine m lI ?_;exact Bw.keeps keep⟩,r.ex C.tabs x⟩
  ·rw[gR] at e
   exact⟨cz (eg n c e).1 x.size,(eg n c e).2⟩
  ·refine m bV (m lI ?_)
   exact⟨bU,λq=>ey _ (aJ _ q)⟩
 have O:=Rj aj s (by exact m bS rfl) aa (R.deeper s)
 exact O.ap aj _ _ (an.refl _) λv aB aE r=>⟨v,rfl,x.trans aE,r⟩
theorem FA {P:List Value->Prop} (au:P []) (av:∀a t b u x r,TriplesOk r->P r->P (.int a t::.int b u::x::r)) {l:List Value} (h:TriplesOk l):P l:=by
 have:∀n (l:List Value),l.length<=n->TriplesOk l->P l:=by
  intro n
  induction n with
  |zero=>intro l a0 _;refine m (q0.mp (Nat.le_zero.mp a0)) ?_;exact au
  |succ n ih=>
   intro l a0 h
   cases l with
   |nil=>exact au
   |cons v l=>cases v with
    |int a t=>cases l with
     |nil=>exact False.elim h
     |cons v l=>cases v with
      |int b u=>cases l with
       |nil=>exact False.elim h
       |cons x r=>exact av a t b u x r h (ih r (aK (jS _ 2) (Nat.le_of_succ_le_succ a0)) h)
      |_=>exact False.elim h
    |_=>exact False.elim h
 exact this _ l (cG _) h
theorem Nk {l r:List Value} (bu:TriplesOk l):codeAmong ao l=some v->codeAmong ao (l++r)=some v:=by
 refine FA (P:=λl=>codeAmong ao l=some v->codeAmong ao (l++r)=some v) (λh=>nomatch h) (λa t b u x hZ _ ih h=>?_) bu
 have h:(if(a==(ao.line:Int)&&b==(ao.col:Int))=true then some x else codeAmong ao hZ)=some v:=h
 show(if(a==(ao.line:Int)&&b==(ao.col:Int))=true then some x else codeAmong ao (hZ++r))=some v
 by_cases c:(a==(ao.line:Int)&&b==(ao.col:Int))=true
 ·rw[b3 c] at h ⊢;exact h
 ·rw[bI c] at h ⊢;exact ih h
theorem Pe {q:Pos} {c:Value} (cE:(q.line==ao.line&&q.col==ao.col)=false) {l:List Value} (bu:TriplesOk l):codeAmong ao l=none->codeAmong ao (l++[rawInt q.line,rawInt q.col,c])=none:=by
 refine FA (P:=λl=>codeAmong ao l=none->codeAmong ao (l++[rawInt q.line,rawInt q.col,c])=none) (λ_=>?_) (λa t b u x hZ _ ih h=>?_) bu
 ·have:((q.line:Int)==(ao.line:Int)&&(q.col:Int)==(ao.col:Int))=false:=by
   simp only[Bool.and_eq_false_iff,iG] at cE ⊢
   exact cE.imp (λa b=>a (by exact_mod_cast b)) λa b=>a (by exact_mod_cast b)
  show(if((q.line:Int)==(ao.line:Int)&&(q.col:Int)==(ao.col:Int))=true then some c else none)=none
  refine m this ?_;rfl
 ·have h:(if(a==(ao.line:Int)&&b==(ao.col:Int))=true then some x else codeAmong ao hZ)=none:=h
  show(if(a==(ao.line:Int)&&b==(ao.col:Int))=true then some x else codeAmong ao (hZ++[rawInt q.line,rawInt q.col,c]))=none
  by_cases bq:(a==(ao.line:Int)&&b==(ao.col:Int))=true
  ·rw[b3 bq] at h;exact nomatch h
  ·rw[bI bq] at h ⊢;exact ih h
section
variable {P:Addr} {G:Value->Shared->Prop}
theorem EE {Hr:CodeContext->Sem Value} (av:s.code=.ref c) (K:hx (∃bF,o.heap.get? c=some bF/\m5 P bF) (c≠P) (o.heap.get? P=some (tabObj bg)) (TriplesOk bg.toList))
  (hit:∀v,codeAmong ao bg.toList=some v->G v o)
  (Rk:codeAmong ao bg.toList=none->∀Bx,wpAny ba D (Hr Bx) (λv dD=>∃bq,ce (v=.ref bq) (dD.heap.get? P=some (tabObj bg)) (∀am,(∀b w,b≠P->dD.heap.get? b=some w->am.get? b=some w)->am.get? P=some (tabObj (bg++#[rawInt ao.line,rawInt ao.col,.ref bq]))->am.objs.size=dD.heap.objs.size->G (.ref bq) {dD with heap:=am})) M o):
  wpAny ba D (codeAt s ao Hr) G M o:=by
 obtain⟨⟨bF,aP,J,tz,tA,tB,he,tC,text,m8,aX,a5,cu,ej,hf,mW,rA,DN⟩,cE,b1,bu⟩:=K
 unfold codeAt
 refine m av (m (bI (show ¬((Value.ref c==Value.none)=true) from l6)) ?_)
 refine ay (wpAny_fieldsOf aP a5 ?_)
 refine m ej ?_
 refine ay (wpAny_fieldsOf b1 rfl ?_)
 cases I:codeAmong ao bg.toList with
 |some v=>exact bx (hit v I)
 |none=>
  refine m hf (m mW (m rA (m DN ?_)))
  refine ay (c5 (Rk I _) (λv dD bn=>?_) λ_ _ q=>q)
  obtain⟨bq,rfl,af,q⟩:=bn
  refine ay (wpAny_updateFieldsOfTheText af rfl ?_)
  have bW:=n8 (h:=dD.heap) (Obj.mapFields λJ=>if(codeAmong ao J.toList).isSome=true then J else J++#[rawInt ao.line,rawInt ao.col,.ref bq]) af
  have e:Obj.mapFields (λJ=>if(codeAmong ao J.toList).isSome=true then J else J++#[rawInt ao.line,rawInt ao.col,.ref bq]) (tabObj bg)=tabObj (bg++#[rawInt ao.line,rawInt ao.col,.ref bq]):=by
   simp only[Obj.mapFields,I];rfl
  rw[e] at bW
  have bW:=bW rfl
  refine ay (wpAny_fieldsOf bW rfl ?_)
  have a0:(bg++#[rawInt ao.line,rawInt ao.col,Value.ref bq]).toList=bg.toList++[rawInt ao.line,rawInt ao.col,.ref bq]:=by simp
  refine m a0 (m (codeAmong_snoc _ bu I) ?_)
  exact bx (q _ (λb w aA e=>(fw ..).extBut b w aA e) bW (fw ..).1)
end
noncomputable def g7 (n:Nat) (h:Heap) (bg:Array Value):Prop:=∀(i:Nat) ab,mG[i]?=some ab->(n<=i/\codeAmong ab.1 bg.toList=none)∨∃c,codeAmong ab.1 bg.toList=some (.ref c)/\g2 h c ab.2
theorem Nx:((List.range 6).all λi=>(List.range 6).all λj=>match mG[i]?,mG[j]? with|some a,some b=>i==j||!(a.1.line==b.1.line&&a.1.col==b.1.col)|_,_=>true)=true:=by decide+kernel
theorem xO:mG.length=6:=by decide+kernel
theorem Qi {a b:Pos×Str} (aH:mG[i]?=some a) (bv:mG[j]?=some b) (cE:i≠j):(a.1.line==b.1.line&&a.1.col==b.1.col)=false:=by
 have jA:i < 6:=by refine a9 xO ?_;exact(gL.mp aH).1
 have Rl:j < 6:=by refine a9 xO ?_;exact(gL.mp bv).1
 have:=d1.mp (d1.mp Nx i (hL.mpr jA)) j (hL.mpr Rl)
 rw[aH,bv] at this
 have aA:(i==j)=false:=iG.mpr cE
 simpa only[aA,Bool.false_or,lX] using this
theorem g2.EI {h:Heap} {P:Addr} (b1:h.get? P=some (tabObj bg)) (k:∀b w,b≠P->h.get? b=some w->am.get? b=some w) (x:g2 h c q):g2 am c q:=by
 obtain⟨bF,cq,t,g,av,hd,q⟩:=x
 refine⟨bF,cq,t,k _ _ ?_ g,av,hd,q⟩
 rintro rfl
 rw[b1] at g;cases g;cases av
section
variable {P:Addr} {G:Value->Shared->Prop}
theorem Og {name:Str} {p:Arguments} {dE:FuncBody} (av:s.code=.ref c) (K:mC o.heap c P bg) (hm:g7 i o.heap bg) (aH:mG[i]?=some (ao,bN))
  (aS:∀bq am aD k2,(∀b w,b≠P->o.heap.get? b=some w->am.get? b=some w)->(g7 6 o.heap bg->am=o.heap/\k2=bg)->o.heap.objs.size<=am.objs.size->mC am c P k2->g7 (i+1) am k2->g2 am bq bN->G (.ref bq) {o with heap:=am,toks:=aD}):
  wpAny ba D (functionCode s ao vq name bN p aR dE) G M o:=by
 obtain⟨⟨bF,aP,qu⟩,b1,cE,bW,bu⟩:=K
 unfold functionCode
 refine EE av ⟨⟨bF,aP,qu⟩,cE,bW,bu⟩ (λv bn=>?_) λau Bx=>?_
 ·rcases hm i _ aH with⟨_,q⟩|⟨bq,q,l⟩
  ·rw[bn] at q;cases q
  ·rw[bn] at q;cases q
   refine aS bq o.heap o.toks bg (λ_ _ _ e=>e) (λ_=>⟨rfl,rfl⟩) (cG _) ⟨⟨bF,aP,qu⟩,b1,cE,bW,bu⟩ (λj ab bv=>?_) l
   rcases hm j ab bv with⟨q,ij⟩|q
   ·refine .inl ⟨?_,ij⟩
    rcases qY i j with z|z
    ·exact z
    ·exfalso
     have:j=i:=mQ z q
     subst this
     rw[aH] at bv;cases bv
     rw[bn] at ij;cases ij
   ·exact .inr q
 ·refine wpAny_newCodeX λbq jb am aD aN i6 fR By Bz BA=>⟨bq,rfl,aN _ _ bW,λga g3 gC ko=>?_⟩
  have gF:∀b w,b≠P->o.heap.get? b=some w->ga.get? b=some w:=λb w aA e=>g3 b w aA (aN b w e)
  have z:o.heap.objs.size<=ga.objs.size:=aK (aK i6 (ew By.lt.1)) (di ko.symm)
  obtain⟨⟨r7,vM,im,g4,lH,_⟩,_⟩:=Bz
  obtain⟨eW,Hn,Ho,fy,bS,bV,hp,gR⟩:=BA
  cases bS
  rw[im] at bV;cases bV
  rw[lH] at hp;cases hp
  have Bt:bq≠P:=Nat.ne_of_gt (cz (dL bW) i6)
  have lc:g2 ga bq bN:=⟨r7,vM,fy,g3 _ _ Bt im,g4,lH,gR⟩
  have Hs:(bg++#[rawInt ao.line,rawInt ao.col,Value.ref bq]).toList=bg.toList++[rawInt ao.line,rawInt ao.col,.ref bq]:=by simp
  refine aS bq ga aD _ gF (λfull=>?_) z ⟨⟨bF,gF _ _ cE aP,qu⟩,b1,cE,gC,by refine m Hs ?_;exact TriplesOk_snoc _ _ _ _ bu⟩ (λj ab bv=>?_) lc
  ·rcases full i _ aH with⟨q,_⟩|⟨bq,q,_⟩
   ·have:=(gL.mp aH).1
    rw[xO] at this
    exact absurd this (eZ.mpr q)
   ·rw[au] at q;cases q
  ·refine m Hs ?_
   by_cases e:j=i
   ·subst e
    rw[aH] at bv;cases bv
    exact .inr ⟨bq,codeAmong_snoc _ bu au,lc⟩
   ·rcases hm j ab bv with⟨q,ij⟩|⟨Rm,q,l⟩
    ·exact .inl ⟨Nat.lt_of_le_of_ne q (l1 e),Pe (Qi aH bv (l1 e)) bu ij⟩
    ·exact .inr ⟨Rm,Nk bu q,l.EI bW gF⟩
end
structure n9 (Q U:Str->Option Value) (h:Heap):Prop where
 g:h.Ns mainGlobals Q
 nm:Ao Q U
 s4:∃nX,h.get? 4=some nX/\ce (nX.cls=.type "module") (nX.dict=some builtinsNs) (nX.data=.plain)
 cf:∃P,(KB P).In h
 lim:h.NoLimit
theorem Base.cb {h:Heap} (C:Base Q U h):n9 Q U h:=⟨C.g,C.nm,C.st (4,_) (.tail _ (.tail _ (.head _))),C.cf,C.lim⟩
theorem n9.keep {h:Heap} (k:∀b w,b < 247->tab b=false->h.get? b=some w->am.get? b=some w) (C:n9 Q U h):n9 Q U am:=by
 refine⟨?_,C.nm,?_,?_,?_⟩
 ·obtain⟨w,aU,ck,e,r⟩:=C.g;exact⟨w,aU,ck,k _ _ (by decide) (by decide) e,r⟩
 ·obtain⟨nX,e,r⟩:=C.s4;exact⟨nX,k _ _ (by decide) (by decide) e,r⟩
 ·obtain⟨p,x⟩:=C.cf
  refine⟨p,λb w e=>?_⟩
  have q:=d1.mp (DI p) b (d9 (f:=(·.1)) (uO e))
  simp only[iR,h8,lX] at q
  exact k b w q.1 q.2 (x b w e)
 ·obtain⟨A3,⟨w,aU,ck,e,r⟩,x⟩:=C.lim
  exact⟨A3,⟨w,aU,ck,k _ _ (by decide) (by decide) e,r⟩,x⟩
section
variable {P:Addr} {G:Value->Shared->Prop}
noncomputable def h9 (st:Stmt) (bN:Str) (dm:List (Str×Addr)) (cR bs cd:Value):FuncData:={fdOf st bN .none bs cd with closure:=dm,closureTuple:=cR}
theorem L3 {st:Stmt} (C:n9 Q U o.heap) (j1:s.globals=mainGlobals) (eg:closureFor (dQ st) s=pure dm) (o1:docOf (dV st)=none)
  (av:s.code=.ref c) (K:mC o.heap c P bg) (hm:g7 i o.heap bg) (aH:mG[i]?=some (ao,bN))
  (aS:∀bq f am aD k2 bs cR,(∀b w,b≠P->o.heap.get? b=some w->am.get? b=some w)->(g7 6 o.heap bg->k2=bg)->o.heap.objs.size<=f->f < am.objs.size->am.get? f=some {cls:=.type "function",data:=.func (h9 st bN dm cR bs (.ref bq))}->mC am c P k2->g7 (i+1) am k2->g2 am bq bN->G (.ref f) {o with heap:=am,toks:=aD}):
  wpAny ba D (makeFunction (defName st) bN (lm st) (.stmts (dV st)) (dQ st) s [] [] [] ao vq) G M o:=by
 rw[makeFunction_eq]
 simp only[List.zip_nil_right,List.filterMap_nil,List.isEmpty_nil,fv,pure_bind]
 unfold makeTail
 refine m eg (m j1 ?_)
 refine eL ?_
 obtain⟨nX,tM,lG,k1,tN⟩:=C.s4
 have yi:(4:Addr)≠P:=by rintro rfl;exact absurd K.2 (by decide)
 have qt:mainGlobals≠P:=by rintro rfl;exact absurd K.2 (by decide)
 have vN:∀(cR:Value) (ca:Heap),(∀b w,o.heap.get? b=some w->ca.get? b=some w)->o.heap.objs.size<=ca.objs.size->wpAny ba D (do
   let e5:FuncData:={name:=defName st,qualname:=bN,params:=lm st,body:=.stmts (dV st),scope:=dQ st,globals:=mainGlobals,closure:=dm,closureTuple:=cR,code:=<-functionCode s ao vq (defName st) bN (lm st) (dQ st) (.stmts (dV st)),builtins:=<-builtinsFor mainGlobals s.builtins,defaults:=.none,kwdefaults:=.none,annotations:=none,pyModule:=(<-nsGet mainGlobals "__name__").getD .none,doc:=<-(match docOf (dV st) with|some o=>mkText o|none=>pure .none)}
   newObj (.type "function") (.func e5)) G M {o with heap:=ca}:=λcR ca k z=>by
  have lk:∀{c q},g2 o.heap c q->g2 ca c q:=λ⟨bF,cq,t,g,jB,lJ,nk⟩=>⟨bF,cq,t,k _ _ g,jB,lJ,nk⟩
  have mk:∀{n bg},g7 n o.heap bg->g7 n ca bg:=λab j q bv=>(ab j q bv).imp id λ⟨c,e,l⟩=>⟨c,e,lk l⟩
  obtain⟨⟨bF,aP,qu⟩,b1,cE,bW,bu⟩:=K
  refine ay (Og av (⟨⟨bF,k _ _ aP,qu⟩,b1,cE,k _ _ bW,bu⟩:mC ca c P bg) (mk hm) aH λbq am aD k2 I yk ar bH fL lc=>?_)
  have r6:∀b w,b≠P->o.heap.get? b=some w->am.get? b=some w:=λb w aA e=>I b w aA (k _ _ e)
  have ja:am.Ns mainGlobals Q:=let ⟨w,aU,ck,e,r⟩:=C.g;⟨w,aU,ck,r6 _ _ qt e,r⟩
  refine ay (wpAny_builtinsFor ja C.nm.bm (by decide) (r6 _ _ yi tM) lG k1 tN ?_)
  refine ay (wpAny_nsGet ja ?_)
  refine m o1 ?_
  refine eL (jJ ?_ (by size_fits))
  obtain⟨⟨yj,f8,Rn⟩,fR,Ro,Rp,tP⟩:=bH
  have up:=λ(w:Obj) b bA (e:am.get? b=some bA)=>e1 w e
  refine aS bq _ _ aD k2 _ cR (λb w aA e=>up _ _ _ (r6 b w aA e)) (λfull=>(yk (mk full)).2) (aK z ar) (by refine m (eN _ _) ?_;exact hb _) (dT _ rfl) ⟨⟨yj,up _ _ _ f8,Rn⟩,fR,Ro,up _ _ _ Rp,tP⟩ (λj q bv=>(fL j q bv).imp id λ⟨c,e,bF,cq,t,g,jB,lJ,nk⟩=>⟨c,e,bF,cq,t,up _ _ _ g,jB,lJ,nk⟩) ?_
  obtain⟨bF,cq,t,g,jB,lJ,nk⟩:=lc
  exact⟨bF,cq,t,up _ _ _ g,jB,lJ,nk⟩
 cases dm with
 |nil=>exact eL (vN .none o.heap (λ_ _ e=>e) (cG _))
 |cons p r=>
  simp only[List.isEmpty_cons,fx,fd]
  exact ay (wpAny_newTextTuple (vN _ _ (λ_ _ e=>e1 _ e) (by refine m (eN _ _) ?_;exact hw _)))
end
noncomputable def p2:Scope:={kind:=.class,names:=((["__module__","__slots__","__init__","__lt__","__gt__","__eq__","__le__","__ge__","__hash__"]:List Str).map λx=>(x,NameKind.local))++[(("mycmp":Str),NameKind.free)],isGenerator:=false,isCoroutine:=false}
noncomputable def l2 (ns c bC b5:Addr):Env:={scope:=p2,locals:=ns,globals:=mainGlobals,qual:="cmp_to_key.<locals>.K"++".",code:=.ref c,frame:=some bC,builtins:=builtinsNs,cells:=[("mycmp",b5)]}
structure dq (Q U:Str->Option Value) (a6:Shared) (ns c P:Addr) (w:Obj) (i:Nat) (L:List (Addr×Obj)) (o:Shared):Prop where
 same:cp λh aD=>o={a6 with heap:=h,toks:=aD}
 z4:n9 Q U a6.heap
 dict:o.heap.get? ns=some w
 keep:∀b w,tab b=false->a6.heap.get? b=some w->o.heap.get? b=some w
 size:a6.heap.objs.size<=o.heap.objs.size
 AQ:a6.heap.get? ns=none
 dM:cp λaU n=>w.data=.dict aU n
 rc:∃bg,ce (mC o.heap c P bg) (g7 i o.heap bg) ((P < a6.heap.objs.size->g7 6 o.heap bg))
 obs:∀p∈L,ce (o.heap.get? p.1=some p.2) (p.1≠ns) (p.1≠P)
theorem g2.Qu {h:Heap} {ns:Addr} (hd:cp λaU n=>w.data=.dict aU n) (au:h.get? ns=some w) (k:∀b w,b≠ns->h.get? b=some w->am.get? b=some w) (x:g2 h c q):g2 am c q:=by
 obtain⟨bF,cq,t,g,av,vt,q⟩:=x
 refine⟨bF,cq,t,k _ _ ?_ g,av,vt,q⟩
 rintro rfl
 rw[au] at g;cases g
 obtain⟨aU,n,e⟩:=hd
 rw[vt] at e;cases e
section
variable {ns P:Addr} {L:List (Addr×Obj)}
theorem dq.cb (C:dq Q U a6 ns c P w i L o):n9 Q U o.heap:=C.z4.keep λb w _ bu e=>C.keep b w bu e
theorem dq.turn {aD:Nat} {bA:Obj} (C:dq Q U a6 ns c P w i L o) (k:∀b w,b≠ns->o.heap.get? b=some w->am.get? b=some w) (e:am.get? ns=some bA) (al:cp λaU n=>bA.data=.dict aU n) (z:o.heap.objs.size<=am.objs.size):dq Q U a6 ns c P bA i L {o with heap:=am,toks:=aD}:=by
 obtain⟨h,t,q⟩:=C.same
 have yl:∀b p,o.heap.get? b=some p->(∃J,p.data=.fields J)->b≠ns:=λb p g ⟨J,d⟩ q=>by
  obtain⟨aU,n,dM⟩:=C.dM
  rw[q,C.dict] at g;cases g
  rw[d] at dM;cases dM
 refine⟨⟨am,aD,by exact m q rfl⟩,C.z4,e,λb w bu bt=>k b w ?_ (C.keep b w bu bt),aK C.size z,C.AQ,al,?_,λp af=>?_⟩
 ·rintro rfl
  rw[C.AQ] at bt;cases bt
 ·obtain⟨bg,⟨⟨bF,aP,qu⟩,b1,cE,bW,bu⟩,hm,bb⟩:=C.rc
  have mk:∀{n},g7 n o.heap bg->g7 n am bg:=λab j q bv=>(ab j q bv).imp id λ⟨c,e,l⟩=>⟨c,e,l.Qu C.dM C.dict k⟩
  refine⟨bg,⟨⟨bF,k _ _ (yl c bF aP ?_) aP,qu⟩,b1,cE,k _ _ (yl P _ bW ⟨_,rfl⟩) bW,bu⟩,mk hm,λz=>mk (bb z)⟩
  obtain⟨J,_,_,_,_,_,_,_,md,eW,_⟩:=qu
  exact⟨J,eW⟩
 ·obtain⟨a,b,c⟩:=C.obs p af
  exact⟨k _ _ b a,b,c⟩
theorem dq.ext {aD:Nat} (C:dq Q U a6 ns c P w i L o) (k:∀b w,o.heap.get? b=some w->am.get? b=some w) (z:o.heap.objs.size<=am.objs.size):dq Q U a6 ns c P w i L {o with heap:=am,toks:=aD}:=
 C.turn (λb w _ e=>k b w e) (k _ _ C.dict) C.dM z
theorem dq.tok {aD:Nat} (C:dq Q U a6 ns c P w i L o):dq Q U a6 ns c P w i L {o with toks:=aD}:=C.ext (λ_ _ e=>e) (cG _)
theorem dq.LY (C:dq Q U a6 ns c P w i L o):∃bg,o.heap.get? P=some (tabObj bg):=C.rc.imp λ_ q=>q.1.4
theorem dq.push (C:dq Q U a6 ns c P w i L o) (p:Obj) (bb:p.isFreed=false):dq Q U a6 ns c P w i ((o.heap.objs.size,p)::L) {o with heap:=o.heap.push p}:=by
 have a4:=C.ext (aD:=o.toks) (am:=o.heap.push p) (λ_ _ e=>e1 _ e) (by rw[eN];exact hw _)
 refine {a4 with obs:=λq aS=>?_}
 rcases bP.mp aS with rfl|aS
 ·obtain⟨bg,b1⟩:=C.LY
  exact⟨dT _ bb,λq=>ey _ (q▸dL C.dict),λq=>ey _ (q▸dL b1)⟩
 ·exact a4.obs q aS
end
section
variable {ns P:Addr} {L:List (Addr×Obj)}
theorem dq.set {n:Nat} {name:Str} {G:Unit->Shared->Prop} (C:dq Q U a6 ns c P ⟨.type "dict",none,.dict aU n,#[]⟩ i L o) (aV:aRefKeyMayBeTheName name aU=false)
  (aS:∀er aD y,dq Q U a6 ns c P (Obj.putName name er (.str name aD) v ⟨.type "dict",none,.dict aU n,#[]⟩) i L y->G () y):wpAny ba D (nsSet ns name v) G M o:=by
 delta nsSet strHash mkText
 refine ay (ay (vh (bx (ay (ay (wpAny_fresh (bx (ay (tn C.dict ?_)))))))))
 show wpAny ba D (if aRefKeyMayBeTheName name aU=true then _ else _) G M _
 refine m aV (m (bI l6) ?_)
 have hd:∀er,(cp λvu d6=>(Obj.putName name er (.str name o.toks) v ⟨.type "dict",none,.dict aU n,#[]⟩).data=.dict vu d6)/\(Obj.putName name er (.str name o.toks) v ⟨.type "dict",none,.dict aU n,#[]⟩).isFreed=false:=λer=>by
  refine m Obj.putName_eq ?_
  unfold Obj.putNameByArray
  dsimp only
  split<;>exact⟨⟨_,_,rfl⟩,rfl⟩
 generalize (if name.cps.isEmpty=true then(0:Int) else reduceHash ({program:=ba.prog,params:=ba.w.params:Setting}.params.strHash name.cps))=er
 exact sU C.dict (aS er o.toks _ (C.turn (λb w aA e=>(fw ..).extBut b w aA e) (n8 _ C.dict (hd er).2) (hd er).1 (di (fw ..).1.symm)))
theorem dq.store {n:Nat} {name:Str} {G:Unit->Shared->Prop} (C:dq Q U a6 ns c P ⟨.type "dict",none,.dict aU n,#[]⟩ i L o) (aW:storeName s name v=localSet s name v) (a0:s.locals=ns) (aV:aRefKeyMayBeTheName name aU=false)
  (aS:∀er aD y,dq Q U a6 ns c P (Obj.putName name er (.str name aD) v ⟨.type "dict",none,.dict aU n,#[]⟩) i L y->G () y):wpAny ba D (storeName s name v) G M o:=by
 refine m aW ?_
 delta localSet
 refine m a0 ?_
 refine ay (wpAny_load C.dict ?_)
 show wpAny ba D (if(Value.type "dict"==Value.type "dict")=true then _ else _) G M _
 refine m (b3 (oD _)) ?_
 exact C.set aV aS
theorem dq.fn {st:Stmt} {G:Value->Shared->Prop} (C:dq Q U a6 ns c P w i L o) (j1:s.globals=mainGlobals) (eg:closureFor (dQ st) s=pure dm) (o1:docOf (dV st)=none)
  (av:s.code=.ref c) (aH:mG[i]?=some (ao,bN))
  (aS:∀bq bF f y bs cR,dq Q U a6 ns c P w (i+1) ((f,{cls:=.type "function",data:=.func (h9 st bN dm cR bs (.ref bq))})::(bq,bF)::L) y->(cp λcq t=>ce (bF.cls=.type "code") (bF.data=.fields cq) (cq[1]?=some (.str bN t)))->G (.ref f) y):
  wpAny ba D (makeFunction (defName st) bN (lm st) (.stmts (dV st)) (dQ st) s [] [] [] ao vq) G M o:=by
 obtain⟨bg,K,hm,yk⟩:=C.rc
 refine L3 C.cb j1 eg o1 av K hm aH λbq f am aD k2 bs cR k full BB Rq BC bH fL lc=>?_
 obtain⟨bF,cq,t,g,im,g4,lH⟩:=lc
 have ym:=K.4
 have Ht:=bH.4
 have dj:∀b w,b≠P->o.heap.get? b=some w->am.get? b=some w:=k
 have yl:ns≠P:=λq=>by
  have:=C.dict
  rw[q,ym] at this;cases this
  obtain⟨_,_,e⟩:=C.dM;cases e
 have gC:=dj _ _ yl C.dict
 have z:o.heap.objs.size<=am.objs.size:=aK BB (ew Rq)
 obtain⟨h,dd,q⟩:=C.same
 refine aS bq bF f _ bs cR ⟨⟨am,aD,by exact m q rfl⟩,C.z4,gC,λb w bu e=>?_,aK C.size z,C.AQ,C.dM,⟨k2,bH,fL,λbU=>?_⟩,λp af=>?_⟩ ⟨cq,t,im,g4,lH⟩
 ·by_cases bV:b=P
  ·have:=full (yk (by refine a9 bV ?_;exact dL e))
   subst this
   have:=C.keep b w bu e
   rw[bV,ym] at this
   refine m bV (m Ht (m this ?_));rfl
  ·exact dj b w bV (C.keep b w bu e)
 ·have Hu:=yk bU
  have:=full Hu
  subst this
  exact λj q bv=>(Hu j q bv).imp id λ⟨c,e,l⟩=>⟨c,e,l.EI ym dj⟩
 ·rcases bP.mp af with rfl|af
  ·refine⟨BC,λq=>?_,λq=>?_⟩
   ·have q:f=ns:=q
    exact ey _ (cz (dL C.dict) (q▸BB))
   ·have q:f=P:=q
    exact ey _ (cz (dL ym) (q▸BB))
  ·rcases bP.mp af with rfl|af
   ·refine⟨g,λq=>?_,λq=>?_⟩
    ·have q:bq=ns:=q
     rw[q,gC] at g;cases g
     obtain⟨_,_,e⟩:=C.dM
     rw[g4] at e;cases e
    ·have q:bq=P:=q
     rw[q,Ht] at g;cases g;cases im
   ·obtain⟨a,b,c⟩:=C.obs p af
    exact⟨dj _ _ c a,b,c⟩
end
section
variable {k:Nat}
theorem xg {R:Result->Shared->Prop} {st:Stmt} {args:Args} (names:List (Str×NameKind)) (kp:D.depth < recursionLimit)
  (C:Base Q U o.heap) (ar:∀z∈Z,247<=z) (fX:∀E∈K.Y ai,E < o.heap.objs.size) (iK:∀p∈K.R,aO (K.Y ai) o.heap p.1 p.2) (a1:∀p∈K.L,p.2.at (K.Y ai) o.heap p.1) (hX:K.as.Nodup) (r2:∀a∈K.as,a∈Z)
  (jy:FnAt o.heap a st bN em) (aW:(dQ st).names=names) (fh:(dQ st).kind=.function) (fi:(dQ st).isCoroutine=false) (kq:(dQ st).isGenerator=false) (gs:∀x∈names,x.2≠.cell)
  (yn:List (Str×Value)->Shared->Prop)
  (aA:∀(bs:Value) (G:List (Str×Value)->Shared->Prop) (M:Value->Shared->Prop),(∀eD y,an o y->yn eD y->G eD y)->wpAny (model B A) D.in1 (bindArgs (fdOf st bN em bs (.ref (a - 1))) args) G M o)
  (Bu:∀eD y,yn eD y->∀x∈eD,names.lookup x.1=some .local)
  (lE:∀eD y,an o y->yn eD y->∀x d,K.az x=some d->∃v,ce (eD.reverse.lookup x=some v) (names.lookup x=some .local) (aO (K.Y ai) y.heap v d))
  (o2:∀eD y,an o y->yn eD y->∀x v,K.bO x=some v->eD.reverse.lookup x=some v/\names.lookup x=some .local)
  (dE:∀(aj:Shared) (s:Env),s.scope.names=names->s.cells=[]->ce (s.code=.ref (a - 1)) (s.qual=bN++".<locals>.") (s.frame=some s.locals)->aw Q U ai Z o s K aj->
   bl B A (D.deeper s) (dV st) s (sQ R)
    (ti B A (D.deeper s) s R) aj):
  codeAny (model B A) D (.call (.ref a) args) R o:=by
 subst aW
 obtain⟨_,bs,w,bF,kV,t,aP,hd,av,r3,vL,aS⟩:=jy
 refine codeAny_call_function (fd:=fdOf st bN em bs (.ref (a - 1))) kp aP hd fi kq rfl ⟨a - 1,bF,kV,t,rfl,r3,vL,aS⟩ (aA bs _ _ λeD y x af=>?_)
 have a4:=C.ex x
 refine wpAny_newFunctionEnv gs (Bu eD y af) (λca nY j3=>⟨a4.lim.fresh _ j3,codeAny_func ?_⟩) fh
 have keep:∀b w,y.heap.get? b=some w->ca.get? b=some w:=λb w e=>j3.extBut b w (kG (dL e)) (e1 _ e)
 have jZ:y.heap.objs.size<=ca.objs.size:=by refine m j3.1 (m (eN _ _) ?_);exact hw _
 have bU:y.heap.objs.size < ca.objs.size:=by refine m j3.1 (m (eN _ _) ?_);exact hb _
 generalize mj:({y with heap:=ca,toks:=y.toks+eD.length}:Shared)=aj
 have aq:an y aj:=by refine a9 mj ?_;exact an.of_keeps keep jZ
 have lI:aj.heap=ca:=by exact a9 mj rfl
 have BD:newEnv (fdOf st bN em bs (.ref (a - 1))).scope y.heap.objs.size (fdOf st bN em bs (.ref (a - 1))).globals (fdOf st bN em bs (.ref (a - 1))).closure ((fdOf st bN em bs (.ref (a - 1))).qualname++".<locals>.") (some a) (fdOf st bN em bs (.ref (a - 1))).code none (fdOf st bN em bs (.ref (a - 1))).builtins=newEnv (dQ st) y.heap.objs.size mainGlobals [] (bN++".<locals>.") (some a) (.ref (a - 1)) none builtinsNs:=rfl
 refine m BD ?_
 generalize jc:newEnv (dQ st) y.heap.objs.size mainGlobals [] (bN++".<locals>.") (some a) (.ref (a - 1)) none builtinsNs=s
 have bS:s.scope=dQ st:=by refine a9 jc ?_;rfl
 have bV:s.locals=y.heap.objs.size:=by refine a9 jc ?_;rfl
 have hp:s.globals=mainGlobals:=by refine a9 jc ?_;rfl
 have gR:s.cells=[]:=by refine a9 jc ?_;rfl
 have o5:s.builtins=builtinsNs:=by refine a9 jc ?_;rfl
 have dj:∀x,s.kindOf x=(dQ st).names.lookup x:=λx=>by unfold Env.kindOf;exact m bS rfl
 have rY:∀n c,s.cells.lookup n=some c->False:=λn c q=>by rw[gR] at q;cases q
 refine(dE aj s (by exact m bS rfl) gR (by refine a9 jc ?_;exact⟨rfl,rfl,rfl⟩) ?_).out
 have X:=x.trans aq
 have BE:s.locals∉K.Y ai:=λq=>by
  rw[bV] at q
  exact ey _ (cz (fX _ q) x.size)
 refine⟨C,X.cw,ar,⟨C.ex X,by refine m bS ?_;exact fh,hp,o5,λE fq e=>?_,λE q=>cz (fX E q) X.size,λn d6 c q=>(rY n c q).elim,λn c q=>(rY n c q).elim,?_,BE⟩,λE v e=>?_,λp af=>(iK p af).ex C.tabs X,λp af=>?_,hX,λb aA=>.inr (r2 b aA),⟨_,by refine m bV (m lI ?_);exact nY⟩,by refine m bV ?_;exact x.size,λn c q=>(rY n c q).elim⟩
 ·obtain⟨v,bn,a0,r⟩:=lE eD y x af E fq e
  exact⟨v,.inl ⟨by rw[dj];exact a0,_,by refine m bV (m lI ?_);exact nY,bn⟩,r.ex a4.tabs aq⟩
 ·refine m bV (m lI ?_);exact bU
 ·obtain⟨bn,a0⟩:=o2 eD y x af E v e
  exact .inl ⟨by rw[dj];exact a0,_,by refine m bV (m lI ?_);exact nY,bn⟩
 ·exact Ent.ex C.tabs (nM (ar _ (r2 _ (d9 af)))) X (a1 p af)
end
theorem Lm:entryFor table "iter"=some Builtin.«iter»:=entryFor_of_fast (by kernel_rfl)
theorem Na (a:Value):argsOk "iter" ⟨[a],[]⟩:=by unfold argsOk;kernel_rfl
section
variable {k:Nat}
theorem GV {G:Value->Shared->Prop} (h:wpAny (model B A) D.in1 (pyIter v) G M o):wpAny (model B A) D (call (.builtin "iter") [v]) G M o:=by
 refine call_function_tree (by decide+kernel) (by decide+kernel) Lm (Na _) ?_
 show wpAny _ D.in1 (pyIter v >>=λx=>ret x) _ _ o
 exact ay (c5 h (λx y q=>bx q) λ_ _ e=>e)
theorem Kb {np:Pos} {d:PyData} (C:aw Q U ai Z ak s K o) (BF:s.kindOf "iter"=some .globalImplicit) (O:H B A D (K.Y ai) o s e d) (hd:hj d) (aN:hG s x)
  (h:∀ae v y,aw Q U ai Z ak s ((K.it ae v d 0).tc x (.ref ae)) y->bl B A D aZ s G M y) (al:autoParam (starEach [e] s=[(false,eval e s)]) cg._auto_1) (aW:autoParam (swapsWith (.Call (.Name "iter" kR) [e] [] hQ) (some (.Name x np)) ao.line s=pure false) cg._auto_1):
  bl B A D (.Assign [.Name x np] (.Call (.Name "iter" kR) [e] [] hQ) ao::aZ) s G M o:=by
 have V:bi B A D o s (.Name "iter" kR) (.builtin "iter"):=bi.blt C.aI BF (by exact jk (by kernel_rfl))
 refine⟨dA (kO (l3 al (V.ap o _ _ (an.refl _) λaB aE=>uG (O.ap aB _ _ aE λv ax a7 r=>GV ?_))) aW)⟩
 exact(C.step (aE.trans a7)).start hd r λae b2 be=>be.li aN λcm bJ=>(h ae v cm bJ).out
theorem PA {ae:Addr} {d:PyData} (C:aw Q U ai Z ak s (K.it ae v d 0) o) (O:bi B A D o s iter (.ref ae)) (hd:hj d) (I:hG s x) (bj:D.handled=none)
  (ct:Nat->bd->Prop) (et:ct 0 K)
  (turn:∀(i:Nat) eC K y (cD:Value->Shared->Prop) (fJ:Flow->Shared->Prop),(∀dJ y,oz B A D aZ s G M (zQ Q U ai Z ak s ct ae v d i) dJ y->fJ dJ y)->(items d)[i]?=some eC->ct i K->aw Q U ai Z ak s ((K.it ae v d (i+1)).set x eC) y->bl B A D dE s fJ cD y)
  (fin:∀K y cD,ct (items d).length K->aw Q U ai Z ak s K y->bl B A D i3 s (kN B A D aZ s G M) cD y)
  (aW:autoParam (∀x,foldedSetIterable iter s x=pure x) pZ._auto_1):
  bl B A D (.For (.Name x oQ) iter dE i3 ao::aZ) s G M o:=by
 refine⟨dA (wpAny_For (O.ap o _ _ (an.refl _) λaj aq=>(C.step aq).self hd ?_) aW)⟩
 refine sJ (λdJ y h=>by cases dJ<;>first|exact h.out|exact h) (items d).length (λi y=>∃bH,ct i bH/\aw Q U ai Z ak s (bH.it ae v d i) y) ⟨K,et,C.step aq⟩ (λax h=>h.elim λbH q=>q.2.fin bj hd (on (cG _)) λb2 be=>⟨rfl,fin bH b2 _ q.1 be⟩) λi ax bU h=>h.elim λbH q=>?_
 exact q.2.next hd (d4 bU) λu b2 be oZ=>⟨u,rfl,be.store I oZ λcm bJ=>turn i _ bH cm _ _ (λ_ _ x=>x) (d4 bU) q.1 bJ⟩
end
section
variable {Y:List Addr} {k:Nat}
theorem H.flatten {d:PyData} (O:H B A D Y o s e d) (h:flat d=true):H B A D eP o s e d:=.mk λaj G M aq aS=>O.ap aj _ _ aq λv aB aE r=>aS v aB aE (r.flat h)
theorem aw.AT (C:aw Q U ai Z ak s K o) (bn:K.az x=some (bT O)) (hm:(O,Ent.lst aM)∈K.L):cJ Q U [] o s (upd K.az x (.list aM)):=by
 have aa:=C.aI.weak (eP:=[]) λb q=>by cases q
 obtain⟨J,n,l,r⟩:=C.led _ hm
 obtain⟨v,V,eX⟩:=C.aI.dP x _ bn
 have e:=eX.uU
 subst e
 exact⟨aa.base,aa.fn,aa.hF,aa.blt,λE d e=>by
  unfold upd at e
  by_cases aJ:E=x
  ·rw[b3 aJ] at e;cases e
   exact⟨.ref O,by refine m aJ ?_;exact V,.list (by simp) l r.w6⟩
  ·rw[bI aJ] at e;exact aa.dP E d e,aa.eb,aa.inj,aa.fE,aa.cb⟩
theorem zF {t:Expr} (ct:Nat->Shared->Prop) (n:Nat) (et:ct n o)
  (turn:∀(n:Nat) (o:Shared) (cD:Value->Shared->Prop),ct n o->∃c,bL B A D o s t c/\∀y,an o y->if c=true then bl B A D dE s (oz B A D aZ s G M (D2 ct n)) cD y else bl B A D i3 s (kN B A D aZ s G M) cD y):
  bl B A D (.While t dE i3 ao::aZ) s G M o:=by
 refine⟨dA (wpAny_While (codeAny_whileLoop ct (λn aj gh=>?_) n et))⟩
 obtain⟨c,O,h⟩:=turn n aj _ gh
 refine O.ap aj _ _ (an.refl _) λaB aE=>?_
 have h:=h aB aE
 cases c with
 |true=>
  simp only[fv] at h ⊢
  refine c5 h.out (λdJ ax ef=>?_) λ_ _ q=>q
  cases dJ<;>first|exact ef.out|exact ef
 |false=>
  simp only[fx,fd] at h ⊢
  refine c5 h.out (λdJ ax ef=>?_) λ_ _ q=>q
  cases dJ<;>first|exact ef.out|exact ef
theorem JY {p BG:Pos} {d:PyData} (C:aw Q U ai Z ak s K o) (bn:K.az x=some (bT O)) (a1:K.L=bz++(O,.lst (d::aM))::bY) (ar:aM.length<=1000)
  (h:∀y,aw Q U ai Z ak s {K with L:=bz++(O,.lst aM)::bY} y->bl B A D aZ s G M y) (hd:autoParam ((x==("__debug__":Str))=false) fe._auto_1) (au:autoParam ((x==("__classdict__":Str))=false) fe._auto_1):
  bl B A D (.Delete [.Subscript (.Name x p) (.Constant (.int 0) j BG) lw] ao::aZ) s G M o:=by
 refine⟨dA (wpAny_Delete (wpAny_deleteEach_cons ?_))⟩
 refine m (arm_delete_Subscript _ _ _ _) ?_
 refine ay ((H.name C.aI bn hd au).ap o _ _ (an.refl _) λv aj aq r=>?_)
 have e:=r.uU
 subst e
 have bc:=C.step aq
 refine ay (dZ ((H.int (Y:=[])).ap aj _ _ (an.refl _) λv aB aE qd=>?_))
 refine aO.fU qd λt=>?_
 have aQ:=bc.step aE
 have dF:(O,Ent.lst (d::aM))∈K.L:=by refine m a1 ?_;simp
 have f7:O∈K.Y ai:=by unfold bd.Y bd.as;refine m a1 ?_;simp
 obtain⟨J,n,l,rs⟩:=aQ.iZ dF
 have cI:=rs.length
 simp only[lj,hE] at cI
 refine ay (gK (ay (dZ (P.delItem_list l (by decide) (k:=0) ?_ ?_ (by refine m dR ?_;exact c2 (aK (di cI) (iv ar (cG _))))))))
 ·unfold seqIndex?
  simp only[Int.lt_irrefl,fd]
  refine m (b3 (by simp;simp_all)) ?_
  rfl
 ·have aW:=fw aB.heap O (Obj.mapSeq λag=>ag.eraseIdxIfInBounds 0)
  have j0:IsL (aB.heap.update O (Obj.mapSeq λag=>ag.eraseIdxIfInBounds 0)) O (J.eraseIdxIfInBounds 0) _:=l.update λag=>ag.eraseIdxIfInBounds 0
  have yh:0 < J.size:=by simp_all
  have e:(J.eraseIdxIfInBounds 0).toList=J.toList.drop 1:=by
   unfold Array.eraseIdxIfInBounds
   refine m (dif_pos yh) (m Array.toList_eraseIdx ?_)
   cases J.toList<;>rfl
  have bh:=aQ.iD (aD:=aB.toks) (bt:=.lst aM) a1 aW ⟨_,_,j0,by
   refine m e ?_
   exact(rs.drop 1).upd aW (.inl f7)⟩
  exact wpAny_release (wpAny_deleteEach_nil (h _ bh).out)
end
noncomputable def hi (n:Nat) (ab:Str->Option Value) (w:Obj):Prop:=cp λaU ck=>hx (w.data=.dict aU ck) (StrKeys aU) (∀name,nsFind aU name=ab name) (aU.size<=n)
theorem hi.gY {n:Nat} (d:hi n ab w):go w=false:=by
 obtain⟨aU,ck,hd,_⟩:=d
 exact rj λJ q=>by rw[hd] at q;cases q
theorem GQ (aN:StrKeys aU):aU.any (·.refKey)=false:=by
 refine a9 Array.any_toList ?_;rewrite[List.any_eq_false]
 intro x I
 obtain⟨n,t,q⟩:=aN x (by simpa using I)
 simp[DictEntry.refKey,q]
theorem hi.look {n:Nat} (d:hi n ab w) (name:Str):lookIn name w=some (ab name):=by
 obtain⟨aU,ck,hd,aN,hm,_⟩:=d
 unfold lookIn
 refine m hd ?_
 dsimp only
 refine a9 (hm name) ?_
 unfold nsFind findBy
 refine a9 Array.find?_toList ?_
 cases e:aU.toList.find? λx=>x.key.isStr name with
 |some x=>rfl
 |none=>
  have:=GQ aN
  rw[<-Array.any_toList] at this
  simp only[this,fx,fd]
  rfl
theorem Ly (aN:StrKeys aU) {name:Str} (aH:aU.findIdx? (λe=>e.key.isStr name)=some i) (v:Value) (E:Str):nsFind (aU.modify i λe=>{e with val:=v}) E=if E=name then some v else nsFind aU E:=by
 obtain⟨l⟩:=aU
 simp only[List.findIdx?_toArray] at aH
 unfold nsFind findBy
 simp only[List.modify_toArray,List.find?_toArray]
 induction l generalizing i with
 |nil=>simp at aH
 |cons e r ih=>
  obtain⟨n,t,q⟩:=aN e (by simp)
  rw[List.findIdx?_cons] at aH
  cases aA:e.key.isStr name with
  |true=>
   rw[aA] at aH
   simp only[fv,Option.some.injEq] at aH
   subst aH
   rw[q] at aA
   have au:n=name:=by simpa [Value.isStr] using aA
   subst au
   simp only[List.modify_zero_cons,mH,q]
   by_cases aJ:E=n
   ·subst aJ;simp[Value.isStr]
   ·have:(Value.str n t).isStr E=false:=by simp only[Value.isStr];rw[iG];exact λh=>aJ h.symm
    simp only[this,bI aJ]
  |false=>
   rw[aA] at aH
   simp only[fx,fd,ka] at aH
   obtain⟨j,bv,rfl⟩:=aH
   have Rr:=ih (λx I=>aN x (by simp at I ⊢;exact .inr I)) bv
   simp only[List.modify_succ_cons,mH]
   cases av:e.key.isStr E with
   |true=>
    have aJ:E≠name:=by rintro rfl;rw[aA] at av;cases av
    simp only[bI aJ]
   |false=>exact Rr
theorem OE {name:Str} (aH:aU.findIdx? (λe=>e.key.isStr name)=none) (aW:Int) (t:Tok) (v:Value) (E:Str):nsFind (aU.push ⟨aW,.str name t,v⟩) E=if E=name then some v else nsFind aU E:=by
 obtain⟨l⟩:=aU
 simp only[List.findIdx?_toArray] at aH
 unfold nsFind findBy
 simp only[List.push_toArray,List.find?_toArray,rF]
 by_cases aJ:E=name
 ·subst aJ
  have:l.find? (λe=>e.key.isStr E)=none:=by
   rw[sT]
   intro e al
   have:=List.findIdx?_eq_none_iff.mp aH e al
   simp[this]
  refine m this ?_
  simp[Value.isStr]
 ·have:(Value.str name t).isStr E=false:=by simp only[Value.isStr];rw[iG];exact λh=>aJ h.symm
  simp[this,bI aJ]
theorem hi.put {n:Nat} (d:hi n ab w) (name:Str) (aW:Int) (t:Tok) (v:Value):
  hi (if(ab name).isSome then n else n+1) (λE=>if E=name then some v else ab E) (Obj.putName name aW (.str name t) v w)/\cp λaU d6=>(Obj.putName name aW (.str name t) v w).data=.dict aU d6/\aU.size<=n+1:=by
 obtain⟨aU,ck,hd,aN,hm,ar⟩:=d
 obtain⟨bF,Wu,Wv,Ww⟩:=w
 dsimp only at hd
 subst hd
 refine m Obj.putName_eq ?_
 unfold Obj.putNameByArray
 cases aH:aU.findIdx? (λe=>e.key.isStr name) with
 |some i=>
  have Rs:(ab name).isSome=true:=by
   refine a9 (hm name) ?_
   unfold nsFind
   rw[findBy_of_findIdx?]
   refine m aH ?_
   have:=Array.findIdx?_eq_some_iff_getElem.mp aH
   obtain⟨bU,_⟩:=this
   simp[Array.getElem?_eq_getElem bU]
  simp only[aH]
  refine⟨⟨_,ck,rfl,?_,λE=>?_,?_⟩,⟨aU.modify i λe=>{e with val:=v},ck,rfl,by refine m Array.size_modify ?_;exact ht ar⟩⟩
  ·intro e al
   obtain⟨j,bv,rfl⟩:=Array.mem_iff_getElem.mp al
   rw[Array.size_modify] at bv
   refine m (Array.getElem_modify _) ?_
   split
   ·exact aN aU[j] (Array.getElem_mem bv)
   ·exact aN aU[j] (Array.getElem_mem bv)
  ·exact m ((Ly aN aH) _ _) (m (hm _) rfl)
  ·refine m Array.size_modify (m Rs ?_);exact ar
 |none=>
  simp only[aH]
  refine⟨⟨_,ck+1,rfl,?_,λE=>?_,?_⟩,⟨aU.push ⟨aW,.str name t,v⟩,ck+1,rfl,by refine m (Array.size_push _) ?_;exact mN ar⟩⟩
  ·intro e al
   rcases Array.mem_push.mp al with h|rfl
   ·exact aN e h
   ·exact⟨_,_,rfl⟩
  ·exact m ((OE aH) _ _ _ _) (m (hm _) rfl)
  ·have Rt:(ab name).isSome=false:=by
    refine a9 (hm name) ?_
    unfold nsFind
    rw[findBy_of_findIdx?]
    refine m aH ?_
    rfl
   refine m (Array.size_push _) (m Rt ?_)
   simp;exact ar
noncomputable def b7 (aa bB:Addr) (bQ:List (Option Value)):Obj:={cls:=.ref aa,dict:=some bB,data:=.plain,slots:=bQ.toArray}
section
variable {cX:Frag} {x:Addr} {dM:Obj} {name:Str}
theorem b7.at {h:Heap} (I:h.get? x=some (b7 aa bB bQ)) (hd:h.get? bB=some dM):InstAt h x (b7 aa bB bQ) aa (some dM):=⟨I,rfl,rfl,hd⟩
theorem w7 {BH:Bool} {nZ:Option Value} {G:Value->Shared->Prop} (k:cX.In o.heap) (I:o.heap.get? x=some (b7 aa bB bQ)) (hd:o.heap.get? bB=some dM) {n:Nat} (az:hi n ab dM) (hm:ab name=some v) (bn:handedIn v=true)
  (bW:plainGet cX aa name=true) (bj:hasDictIn cX aa=true) (aF:findIn cX (.ref aa) name=some nZ) (au:noGet cX nZ=true) (h:G v {o with toks:=o.toks+1}):wpAny (model B A) D (getAttr (.ref x) name BH) G M o:=
 get_value k (b7.at I hd) (plainGet_of bW).1 (findObj_own bj aF au (by rewrite[az.look];exact m hm rfl)) bn h
theorem u3 {BH:Bool} {p:Addr} {G:Value->Shared->Prop} (k:cX.In o.heap) (I:o.heap.get? x=some (b7 aa bB bQ)) (hd:o.heap.get? bB=some dM) (bn:(bQ[i]?).join=some v) (bj:handedIn v=true)
  (bW:plainGet cX aa name=true) (av:(clsIn cX aa).isSome=true) (aF:findIn cX (.ref aa) name=some (some (.ref p))) (au:specialIn cX (.ref p) "__get__"=some (some (.builtin "member_descriptor.__get__"))) (bu:takesIn cX (.ref p)=some true) (af:slotIn cX p aa=some i)
  (h:G v {o with toks:=o.toks+1}):wpAny (model B A) D (getAttr (.ref x) name BH) G M o:=
 get_bind k (b7.at I hd) (plainGet_of bW).1 (findObj_data av aF au bu) (plainGet_of bW).2 (hg (slot_get (s:={o with toks:=o.toks+1}) k (b7.at I hd) af (by show(bQ.toArray[i]?).join=some v;simpa using bn) (handed_on bj h)))
theorem Ll {n:Nat} {G:Unit->Shared->Prop} (k:cX.In o.heap) (I:o.heap.get? x=some (b7 aa bB bQ)) (hd:o.heap.get? bB=some dM) (az:hi n ab dM) (ar:n<=1000)
  (aW:findIn cX (.ref aa) "__setattr__"=some (some (.builtin "object.__setattr__"))) (af:plainOver cX aa=true) (bu:takerIn cX aa name=some none) (bj:hasDictIn cX aa=true)
  (h:∀am vO,Heap.SameBut bB o.heap am->am.get? bB=some vO->hi (if(ab name).isSome then n else n+1) (λE=>if E=name then some v else ab E) vO->G () {o with heap:=am,toks:=o.toks+2}):wpAny (model B A) D (setAttr (.ref x) name v) G M o:=by
 refine set_plain k (b7.at I hd) aW (osa_open (s:={o with toks:=o.toks+1}) k (b7.at I hd) af bu λb=>?_)
 obtain⟨cd,av,nl⟩:=any_some bj
 have L:∀(G:ClassData->Shared->Prop) (M:Value->Shared->Prop) (D:Around),G cd {o with toks:=o.toks+1}->wpAny (model B A) D (classData aa) G M {o with toks:=o.toks+1}:=λG M D q=>looks_clsIn (M:=model B A) k av D G M _ (λ_ _ e=>e) q
 refine eL (ay (ay (tn (s:={o with toks:=o.toks+1}) I (ay (L _ _ _ ?_)))))
 refine m nl ?_
 refine bx (a:=some bB) (eL (ay ?_))
 unfold nsSet
 refine ay (ay (vh (bx (ay (pp (ay (tn (s:={o with toks:=o.toks+1+1}) hd ?_)))))))
 obtain⟨put,vu,QF,Hv,i8⟩:=az.put name (PyData.keyHash A.params name) (o.toks+1) v
 obtain⟨aU,ck,Ru,aN,hm,jZ⟩:=id az
 refine m Ru ?_
 dsimp only
 refine m (aRefKeyMayBeTheName_at _ _) ?_
 have c:(!aU.any (·.key.isStr name)&&aU.any (·.refKey))=false:=by exact m (GQ aN) (m (Bool.and_false _) rfl)
 refine m c ?_
 have qp:(o.heap.update bB (Obj.putName name (PyData.keyHash A.params name) (.str name (o.toks+1)) v)).get? bB=some (Obj.putName name (PyData.keyHash A.params name) (.str name (o.toks+1)) v dM):=
  n8 _ hd (Obj.isFreed_of_dict Hv)
 refine sU (s:={o with toks:=o.toks+1+1}) hd ?_
 refine ay (wpAny_lookBehind qp (by refine m Hv ?_;exact pastItsLine_dict (by refine m dR ?_;exact c2 (aK i8 (mN ar)))) ?_)
 exact bx (h _ _ (fw ..) qp put)
theorem GW {p:Addr} {G:Unit->Shared->Prop} (k:cX.In o.heap) (I:o.heap.get? x=some (b7 aa bB bQ)) (hd:o.heap.get? bB=some dM)
  (aW:findIn cX (.ref aa) "__setattr__"=some (some (.builtin "object.__setattr__"))) (qv:plainOver cX aa=true) (bu:takerIn cX aa name=some (some (.ref p))) (cK:typeIn cX (.ref p)=some (.type "member_descriptor")) (af:slotIn cX p aa=some i) (aH:i < 1000)
  (h:∀am,Heap.SameBut x o.heap am->am.get? x=some (b7 aa bB ((bQ++List.replicate (i+1 - bQ.length) none).set i (some v)))->G () {o with heap:=am,toks:=o.toks+1}):wpAny (model B A) D (setAttr (.ref x) name v) G M o:=by
 refine set_plain k (b7.at I hd) aW (osa_descr (s:={o with toks:=o.toks+1}) KF.slot_mset k (b7.at I hd) qv bu cK ?_)
 have ae:=b7.at I hd
 obtain⟨n,BI,owner,Rv,hP,d,tQ,cd,aP,av,hm,aA,rfl⟩:=slot_of k af
 obtain⟨bj,g,k3,t,os⟩:=o
 have r8:=ae.type (M:=model B A)
 have r9:=looks_mroIn (M:=model B A) k hm
 have sa:Looks (model B A) bj (Builtin.Slots.slotNamesOf (.ref aa)) cd.slotNames:=(looks_clsIn k av).andThen .now
 dsimp only at aP I r8 r9
 have Hw:=looks_field (M:=model B A) aP 0 (v:=.str n BI) rfl
 have f1:=looks_field (M:=model B A) aP 1 (v:=owner) rfl
 have da:=looks_field (M:=model B A) aP 3 (v:=.builtin "proto.slot#set") rfl
 have f4:=looks_field (M:=model B A) aP 4 (v:=.int Rv hP) rfl
 refine xC KF.slot_mset.plain KF.entry_mset (KF.slot_mset.check _ _ _ _ _ _ _ _ ⟨_,aP,rfl⟩ (KF.args_mset _ _ _) ?_)
 unfold Builtin.«member_descriptor.__set__» Builtin.Getset_descriptor.descrSet Builtin.Getset_descriptor.descrStoreThrough Builtin.Getset_descriptor.descrCheckInstance Builtin.Getset_descriptor.descrNameAndClass isInstance
 have dy:Looks (model B A) bj (Builtin.Getset_descriptor.descrItself (.ref p)) [.ref p]:=((lW (part:=none) aP).andThen .now).andThen (p1 (by kernel_rfl))
 repeat lk
 refine⟨Code.quiet_builtin _ (by decide+kernel),codeAny_builtin KF.entry_slotset ?_⟩
 unfold Builtin.«proto.slot#set» Builtin.Slots.target
 repeat lk
 refine m (bI aA) ?_
 refine bx (ay ?_)
 unfold setSlotAt
 dsimp only
 rw[bI (by refine m dR ?_;exact Nat.not_le.mpr (cz aH (by decide)))]
 refine sU (s:=⟨bj,g,k3,t+1,os⟩) I (bx (h _ (fw ..) ?_))
 rw[n8 _ I (by rfl)]
 simp only[b7]
 congr 2
 rw[<-List.setIfInBounds_toArray]
 congr 1
 simp
end
structure mO (aa:Addr):Prop where
 kK:∀P name,plainGet (KB P) aa name=true
 po:∀P,plainOver (KB P) aa=true
 xD:∀P,findIn (KB P) (.ref aa) "__setattr__"=some (some (.builtin "object.__setattr__"))
 wP:∀P,makesIn (KB P) aa=true
structure rm (aa:Addr) (name:Str):Prop where
 hd:∀P,hasDictIn (KB P) aa=true
 de:∀P,findIn (KB P) (.ref aa) name=some none
 aD:∀P,takerIn (KB P) aa name=some none
structure rn (aa:Addr) (name:Str) (p:Addr) (i:Nat):Prop where
 cl:∀P,(clsIn (KB P) aa).isSome=true
 de:∀P,findIn (KB P) (.ref aa) name=some (some (.ref p))
 ge:∀P,specialIn (KB P) (.ref p) "__get__"=some (some (.builtin "member_descriptor.__get__"))
 tp:∀P,takesIn (KB P) (.ref p)=some true
 gc:∀P,slotIn (KB P) p aa=some i
 aD:∀P,takerIn (KB P) aa name=some (some (.ref p))
 ty:∀P,typeIn (KB P) (.ref p)=some (.type "member_descriptor")
 AK:i < 1000
structure mB (aa:Addr) (name:Str) (f:Addr):Prop where
 de:∀P,findIn (KB P) (.ref aa) name=some (some (.ref f))
 fn:∀P,typeIn (KB P) (.ref f)=some (.type "function")
theorem l9:mO 97:=⟨λP name=>by show plainGet (KB P) 97 ""=true;kernel_rfl,λP=>by kernel_rfl,λP=>by kernel_rfl,λP=>by kernel_rfl⟩
theorem hD:mO 194:=⟨λP name=>by show plainGet (KB P) 194 ""=true;kernel_rfl,λP=>by kernel_rfl,λP=>by kernel_rfl,λP=>by kernel_rfl⟩
theorem zA:rn 97 "node" 98 0:=⟨λP=>by kernel_rfl,λP=>by kernel_rfl,λP=>by kernel_rfl,λP=>by kernel_rfl,λP=>by kernel_rfl,λP=>by kernel_rfl,λP=>by kernel_rfl,by decide⟩
theorem oM:rn 97 "npredecessors" 99 1:=⟨λP=>by kernel_rfl,λP=>by kernel_rfl,λP=>by kernel_rfl,λP=>by kernel_rfl,λP=>by kernel_rfl,λP=>by kernel_rfl,λP=>by kernel_rfl,by decide⟩
theorem z5:rn 97 "successors" 100 2:=⟨λP=>by kernel_rfl,λP=>by kernel_rfl,λP=>by kernel_rfl,λP=>by kernel_rfl,λP=>by kernel_rfl,λP=>by kernel_rfl,λP=>by kernel_rfl,by decide⟩
theorem Fw:rm 194 "_node2info":=⟨λP=>by kernel_rfl,λP=>by kernel_rfl,λP=>by kernel_rfl⟩
theorem zs:rm 194 "_ready_nodes":=⟨λP=>by kernel_rfl,λP=>by kernel_rfl,λP=>by kernel_rfl⟩
theorem uC:rm 194 "_npassedout":=⟨λP=>by kernel_rfl,λP=>by kernel_rfl,λP=>by kernel_rfl⟩
theorem uy:rm 194 "_nfinished":=⟨λP=>by kernel_rfl,λP=>by kernel_rfl,λP=>by kernel_rfl⟩
theorem FP:mB 194 "__init__" 130:=⟨λP=>by kernel_rfl,λP=>by kernel_rfl⟩
theorem DS:mB 97 "__init__" 93:=⟨λP=>by kernel_rfl,λP=>by kernel_rfl⟩
theorem MQ:mB 194 "_get_nodeinfo" 137:=⟨λP=>by kernel_rfl,λP=>by kernel_rfl⟩
theorem GX:mB 194 "add" 144:=⟨λP=>by kernel_rfl,λP=>by kernel_rfl⟩
theorem KJ:mB 194 "prepare" 149:=⟨λP=>by kernel_rfl,λP=>by kernel_rfl⟩
theorem N8:mB 194 "get_ready" 156:=⟨λP=>by kernel_rfl,λP=>by kernel_rfl⟩
theorem MM:mB 194 "is_active" 163:=⟨λP=>by kernel_rfl,λP=>by kernel_rfl⟩
theorem NS:mB 194 "done" 177:=⟨λP=>by kernel_rfl,λP=>by kernel_rfl⟩
theorem K8:mB 194 "_find_cycle" 184:=⟨λP=>by kernel_rfl,λP=>by kernel_rfl⟩
theorem Lv {Q U h} (C:Base Q U h):FnAt h 93 (Gq 0) "_NodeInfo.__init__" .none:=let ⟨P,k⟩:=C.cf;⟨by decide,_,_,_,_,_,k 93 _ rfl,rfl,rfl,k 92 _ rfl,rfl,rfl⟩
theorem LB {Q U h} (C:Base Q U h):FnAt h 130 (hu 0) "TopologicalSorter.__init__" (.ref 123):=let ⟨P,k⟩:=C.cf;⟨by decide,_,_,_,_,_,k 130 _ rfl,rfl,rfl,k 129 _ rfl,rfl,rfl⟩
theorem ED {Q U h} (C:Base Q U h):FnAt h 137 (hu 1) "TopologicalSorter._get_nodeinfo" .none:=let ⟨P,k⟩:=C.cf;⟨by decide,_,_,_,_,_,k 137 _ rfl,rfl,rfl,k 136 _ rfl,rfl,rfl⟩
theorem Ns {Q U h} (C:Base Q U h):FnAt h 144 (hu 2) "TopologicalSorter.add" .none:=let ⟨P,k⟩:=C.cf;⟨by decide,_,_,_,_,_,k 144 _ rfl,rfl,rfl,k 143 _ rfl,rfl,rfl⟩
theorem GZ {Q U h} (C:Base Q U h):FnAt h 149 (hu 3) "TopologicalSorter.prepare" .none:=let ⟨P,k⟩:=C.cf;⟨by decide,_,_,_,_,_,k 149 _ rfl,rfl,rfl,k 148 _ rfl,rfl,rfl⟩
theorem Gd {Q U h} (C:Base Q U h):FnAt h 156 (hu 4) "TopologicalSorter.get_ready" .none:=let ⟨P,k⟩:=C.cf;⟨by decide,_,_,_,_,_,k 156 _ rfl,rfl,rfl,k 155 _ rfl,rfl,rfl⟩
theorem FD {Q U h} (C:Base Q U h):FnAt h 163 (hu 5) "TopologicalSorter.is_active" .none:=let ⟨P,k⟩:=C.cf;⟨by decide,_,_,_,_,_,k 163 _ rfl,rfl,rfl,k 162 _ rfl,rfl,rfl⟩
theorem ER {Q U h} (C:Base Q U h):FnAt h 177 (hu 7) "TopologicalSorter.done" .none:=let ⟨P,k⟩:=C.cf;⟨by decide,_,_,_,_,_,k 177 _ rfl,rfl,rfl,k 176 _ rfl,rfl,rfl⟩
theorem GO {Q U h} (C:Base Q U h):FnAt h 184 (hu 8) "TopologicalSorter._find_cycle" .none:=let ⟨P,k⟩:=C.cf;⟨by decide,_,_,_,_,_,k 184 _ rfl,rfl,rfl,k 183 _ rfl,rfl,rfl⟩
theorem FnAt.fn {h:Heap} {st:Stmt} (f:FnAt h a st q em):cp λw e5=>h.get? a=some w/\w.data=.func e5:=let ⟨_,_,w,_,_,_,e,d,_,_,_,_⟩:=f;⟨w,_,e,d⟩
section
variable {k:Nat} {T cr:Addr} {name:Str}
theorem aw.owned (C:aw Q U ai Z ak s K o) {p:Obj->Prop} (h:(a,Ent.own p)∈K.L):∃w,o.heap.get? a=some w/\p w:=let ⟨w,e,_,q⟩:=C.led _ h;⟨w,e,q⟩
theorem bi.uP {p:Obj->Prop} (C:aw Q U ai Z ak s K o) (V:bi B A D o s e (.ref T)) (cK:(T,Ent.own (· =b7 aa cr bQ))∈K.L) (hd:(cr,Ent.own p)∈K.L)
  (af:∀w,p w->cp λn ab=>hi n ab w/\ab name=some v) (bn:handedIn v=true) (c:mO aa) (eE:rm aa name)
  (al:autoParam (eval (.Attribute e name ao) s=(do let w <-eval e s;standAt ao.atName;let r <-holding [w] (getAttr w name true);letTemporaryGo e w r;pure r)) h7._auto_1):bi B A D o s (.Attribute e name ao) v:=.mk λaj G M aq h=>
 ry (V.ap aj _ _ aq λaB aE=>by
  have aQ:=C.step (aq.trans aE)
  obtain⟨P,cf⟩:=aQ.aI.base.cf
  obtain⟨_,I,rfl⟩:=aQ.owned cK
  obtain⟨dM,hq,i1⟩:=aQ.owned hd
  obtain⟨n,ab,az,hm⟩:=af dM i1
  exact w7 cf I hq az hm bn (c.kK P name) (eE.hd P) (eE.de P) rfl (h _ (aE.trans (an.tok _)))) al
theorem H.uP {Y:List Addr} {p:Obj->Prop} {d:PyData} (C:aw Q U ai Z ak s K o) (V:bi B A D o s e (.ref T)) (cK:(T,Ent.own (· =b7 aa cr bQ))∈K.L) (hd:(cr,Ent.own p)∈K.L)
  (af:∀w,p w->hO λn ab v=>hx (hi n ab w) (ab name=some v) (handedIn v=true) (∀X h,aO X h v d)) (c:mO aa) (eE:rm aa name)
  (al:autoParam (eval (.Attribute e name ao) s=(do let w <-eval e s;standAt ao.atName;let r <-holding [w] (getAttr w name true);letTemporaryGo e w r;pure r)) h7._auto_1):H B A D Y o s (.Attribute e name ao) d:=.mk λaj G M aq h=>
 ry (V.ap aj _ _ aq λaB aE=>by
  have aQ:=C.step (aq.trans aE)
  obtain⟨P,cf⟩:=aQ.aI.base.cf
  obtain⟨_,I,rfl⟩:=aQ.owned cK
  obtain⟨dM,hq,i1⟩:=aQ.owned hd
  obtain⟨n,ab,v,az,hm,bn,r⟩:=af dM i1
  exact w7 cf I hq az hm bn (c.kK P name) (eE.hd P) (eE.de P) rfl (h _ _ (aE.trans (an.tok _)) (r _ _))) al
theorem bi.uo {p q:Obj->Prop} (C:aw Q U ai Z ak s K o) (V:bi B A D o s e (.ref T)) (cK:(T,Ent.own p)∈K.L) (hd:(cr,Ent.own q)∈K.L)
  (af:∀w,p w->∃bQ,w=b7 aa cr bQ/\(bQ[i]?).join=some v) (bn:handedIn v=true) (c:mO aa) (eE:rn aa name i1 i)
  (al:autoParam (eval (.Attribute e name ao) s=(do let w <-eval e s;standAt ao.atName;let r <-holding [w] (getAttr w name true);letTemporaryGo e w r;pure r)) h7._auto_1):bi B A D o s (.Attribute e name ao) v:=.mk λaj G M aq h=>
 ry (V.ap aj _ _ aq λaB aE=>by
  have aQ:=C.step (aq.trans aE)
  obtain⟨P,cf⟩:=aQ.aI.base.cf
  obtain⟨w,I,po⟩:=aQ.owned cK
  obtain⟨bQ,rfl,aW⟩:=af w po
  obtain⟨dM,hq,_⟩:=aQ.owned hd
  exact u3 cf I hq aW bn (c.kK P name) (eE.cl P) (eE.de P) (eE.ge P) (eE.tp P) (eE.gc P) (h _ (aE.trans (an.tok _)))) al
theorem H.uo {Y:List Addr} {p q:Obj->Prop} {d:PyData} (C:aw Q U ai Z ak s K o) (V:bi B A D o s e (.ref T)) (cK:(T,Ent.own p)∈K.L) (hd:(cr,Ent.own q)∈K.L)
  (af:∀w,p w->cp λbQ v=>hx (w=b7 aa cr bQ) ((bQ[i]?).join=some v) (handedIn v=true) (∀X h,aO X h v d)) (c:mO aa) (eE:rn aa name i1 i)
  (al:autoParam (eval (.Attribute e name ao) s=(do let w <-eval e s;standAt ao.atName;let r <-holding [w] (getAttr w name true);letTemporaryGo e w r;pure r)) h7._auto_1):H B A D Y o s (.Attribute e name ao) d:=.mk λaj G M aq h=>
 ry (V.ap aj _ _ aq λaB aE=>by
  have aQ:=C.step (aq.trans aE)
  obtain⟨P,cf⟩:=aQ.aI.base.cf
  obtain⟨w,I,po⟩:=aQ.owned cK
  obtain⟨bQ,v,rfl,aW,bn,r⟩:=af w po
  obtain⟨dM,hq,_⟩:=aQ.owned hd
  exact u3 cf I hq aW bn (c.kK P name) (eE.cl P) (eE.de P) (eE.ge P) (eE.tp P) (eE.gc P) (h _ _ (aE.trans (an.tok _)) (r _ _))) al
theorem aw.qW {p e4:Obj->Prop} {G:Unit->Shared->Prop} (C:aw Q U ai Z ak s K o) (cK:(T,Ent.own (· =b7 aa cr bQ))∈K.L) (a1:K.L=bz++(cr,Ent.own p)::bY)
  (af:∀w,p w->cp λn ab=>ce (hi n ab w) (n<=1000) (∀bA,hi (if(ab name).isSome then n else n+1) (λE=>if E=name then some v else ab E) bA->e4 bA)) (c:mO aa) (eE:rm aa name)
  (h:∀y,aw Q U ai Z ak s {K with L:=bz++(cr,Ent.own e4)::bY} y->G () y):wpAny (model B A) D (setAttr (.ref T) name v) G M o:=by
 obtain⟨P,cf⟩:=C.aI.base.cf
 obtain⟨_,I,rfl⟩:=C.owned cK
 obtain⟨dM,hq,i1⟩:=C.owned (a:=cr) (p:=p) (by refine m a1 ?_;simp)
 obtain⟨n,ab,az,au,iJ⟩:=af dM i1
 refine Ll cf I hq az au (c.xD P) (c.po P) (eE.aD P) (eE.hd P) λam vO dI bt oR=>h _ ?_
 exact C.iD (bt:=.own e4) (aD:=o.toks+2) a1 dI ⟨vO,bt,oR.gY,iJ vO oR⟩
theorem E7 (aa bB:Addr) (bQ:List (Option Value)):go (b7 aa bB bQ)=false:=rfl
theorem aw.xY {p e4 q:Obj->Prop} {G:Unit->Shared->Prop} (C:aw Q U ai Z ak s K o) (a1:K.L=bz++(T,Ent.own p)::bY) (hd:(cr,Ent.own q)∈K.L)
  (af:∀w,p w->∃bQ,w=b7 aa cr bQ/\e4 (b7 aa cr ((bQ++List.replicate (i+1 - bQ.length) none).set i (some v)))) (c:mO aa) (eE:rn aa name i1 i)
  (h:∀y,aw Q U ai Z ak s {K with L:=bz++(T,Ent.own e4)::bY} y->G () y):wpAny (model B A) D (setAttr (.ref T) name v) G M o:=by
 obtain⟨P,cf⟩:=C.aI.base.cf
 obtain⟨w,I,po⟩:=C.owned (a:=T) (p:=p) (by refine m a1 ?_;simp)
 obtain⟨dM,hq,_⟩:=C.owned hd
 obtain⟨bQ,rfl,iJ⟩:=af w po
 refine GW cf I hq (c.xD P) (c.po P) (eE.aD P) (eE.ty P) (eE.gc P) eE.AK λam dI bt=>h _ ?_
 exact C.iD (bt:=.own e4) (aD:=o.toks+1) a1 dI ⟨_,bt,E7 _ _ _,iJ⟩
theorem mF {w:Expr} {nZ:Str} {p:Pos}
  (h:wpAny (model B A) D (eval i2 s) (λv aj=>wpAny (model B A) D (eval w s) (λgE aB=>wpAny (model B A) D (setAttr gE nZ v) (λ_ ax=>bl B A D aZ s G M ax) M aB) M aj) M o)
  (aW:autoParam (swapsWith i2 (some (.Attribute w nZ p)) ao.line s=pure false) cg._auto_1):bl B A D (.Assign [.Attribute w nZ p] i2 ao::aZ) s G M o:=
 ⟨dA (plainObj_wpAny_Assign_Attribute (c5 h (λv aj ca=>c5 ca (λgE aB en=>c5 en (λ_ ax q=>q.out) λ_ _ q=>q) λ_ _ q=>q) λ_ _ q=>q) aW)⟩
theorem x4 {w:Expr} {nZ:Str} {i4:Operator} {p:Pos}
  (h:wpAny (model B A) D (eval w s) (λgE aj=>wpAny (model B A) D (getAttr gE nZ true) (λA9 aB=>wpAny (model B A) D (eval i2 s) (λv ax=>wpAny (model B A) D (inplaceOp i4 A9 v) (λnew b2=>
   wpAny (model B A) D (setAttr gE nZ new) (λ_ cm=>bl B A D aZ s G M cm) M b2) M ax) M aB) M aj) M o):bl B A D (.AugAssign (.Attribute w nZ p) i4 i2 ao::aZ) s G M o:=
 ⟨dA (wpAny_AugAssign_AttributeAny (c5 h (λ_ _ h=>c5 h (λ_ _ h=>c5 h (λ_ _ h=>c5 h (λ_ _ h=>c5 h (λ_ _ q=>q.out) λ_ _ q=>q) λ_ _ q=>q) λ_ _ q=>q) λ_ _ q=>q) λ_ _ q=>q))⟩
theorem NU {p:Obj->Prop} {G:Value×List Value->Shared->Prop} (C:aw Q U ai Z ak s K o) (cK:(T,Ent.own (· =b7 aa cr bQ))∈K.L) (hd:(cr,Ent.own p)∈K.L)
  (af:∀w,p w->cp λn ab=>hi n ab w/\ab name=none) (c:mO aa) (yo:mB aa name f) (h:G (.ref f,[.ref T]) o):wpAny (model B A) D (getMethod (.ref T) name qa) G M o:=by
 obtain⟨P,cf⟩:=C.aI.base.cf
 obtain⟨_,I,rfl⟩:=C.owned cK
 obtain⟨dM,hq,i1⟩:=C.owned hd
 obtain⟨n,ab,az,hm⟩:=af dM i1
 exact method_fn cf (b7.at I hq) (plainGet_of (c.kK P name)).1 (plainGet_of (c.kK P name)).2 (yo.de P) (yo.fn P) (by show(lookIn name dM).map _=_;rewrite[az.look];refine m hm ?_;rfl) h
theorem tt {aU:List Expr} {ap:Pos} {p:Obj->Prop} {G:Value->Shared->Prop} (C:aw Q U ai Z ak s K o) (aq:an o aj) (V:bi B A D o s e (.ref T)) (cK:(T,Ent.own (· =b7 aa cr bQ))∈K.L) (hd:(cr,Ent.own p)∈K.L)
  (af:∀w,p w->cp λn ab=>hi n ab w/\ab name=none) (c:mO aa) (yo:mB aa name f) (jy:∀{h},Base Q U h->cp λw e5=>h.get? f=some w/\w.data=.func e5)
  (h:∀aB,an aj aB->wpAny (model B A) D (evalArgs (.ref f) true (backTo ao (starEach aU s)) []) (λx ax=>an aB ax/\wpAny (model B A) D (call (.ref f) (.ref T::x.pos) x.kw) G M ax) M aB)
  (al:autoParam (eval (.Call (.Attribute e name ap) aU [] ao) s=(do
   let gE <-eval e s
   standAt ap.atName
   let (f,first) <-holding [gE] (getMethod gE name qa)
   callWith ao f first (backTo ao (starEach aU s)) (backToKw ao (keywordEach [] s)))) cg._auto_1):wpAny (model B A) D (eval (.Call (.Attribute e name ap) aU [] ao) s) G M aj:=by
 refine methodCall_KW (pl:=qa) (V.ap aj _ _ aq λaB aE=>?_) al
 have aQ:=C.step (aq.trans aE)
 refine NU aQ cK hd af c yo ?_
 obtain⟨w,e5,aP,hT⟩:=jy aQ.aI.base
 have hU:tab f=false:=aQ.tabs.jl aP λJ q=>by rw[hT] at q;cases q
 refine ra (o:=w) (fd:=e5) (c5 (h aB aE) (λx ax I=>?_) λ_ _ q=>q)
 exact⟨⟨I.1.keep f w hU aP,hT⟩,I.2⟩
end
noncomputable def dv (B:Program) (A:World) (cx:List (Str×Value)) (w:Obj):Prop:=w.IsDictOf (strKind B A) cx
theorem dv.of {h:Heap} (d:h.DictOf (strKind B A) a cx):(Ent.own (dv B A cx)).at [] h a:=by
 obtain⟨w,aU,ck,aP,r⟩:=d
 have gd:go w=false:=rj λJ q=>by
  have e:=r.2.1
  rw[e] at q;cases q
 exact⟨w,aP,gd,⟨aU,ck,r⟩⟩
theorem Ent.GF {p:Obj->Prop} {Y:List Addr} {h:Heap} (x:(Ent.own p).at Y h a):(Ent.own p).at eP h a:=x
theorem Pz {k:Str} (h:(strKind B A).is k v=true):∃t,v=.str k t:=Value.isStrOf_shape h
theorem xb (h:247<=a):(a==sysModules)=false:=by
 rw[iG]
 rintro rfl
 revert h
 decide
section
variable {Y:List Addr} {k:Nat}
theorem aw.mT (C:aw Q U ai Z ak s K o) (h:(O,Ent.own (dv B A cx))∈K.L):o.heap.DictOf (strKind B A) O cx:=by
 obtain⟨w,e,aU,ck,r⟩:=C.owned h
 exact⟨w,aU,ck,e,r⟩
theorem aw.xa (C:aw Q U ai Z ak s K o) {e:Ent} (h:(a,e)∈K.L):247<=a:=C.fj (d9 (f:=(·.1)) h)
theorem bi.OG {w:Expr} {ap:Pos} {n:Str} (C:aw Q U ai Z ak s K o) (V:bi B A D o s w (.ref O)) (cW:(O,Ent.own (dv B A cx))∈K.L) (f9:H B A D Y o s e (.str n))
  (fA:autoParam (attributeBase w "get" s (eval w s)=eval w s) cg._auto_1) (aW:autoParam (starEach [e] s=[(false,eval e s)]) cg._auto_1) (fB:autoParam ((ap.endLine==ao.line)=true) cg._auto_1):
  bi B A D o s (.Call (.Attribute w "get" ap) [e] [] ao) ((valueAt cx n).getD .none):=.mk λaj G M aq h=>
 m6 fA aW fB (V.ap aj _ _ aq λaB aE=>by
  have ed:=(C.step (aq.trans aE)).mT cW
  refine⟨"dict","dict.get",F.plainAttrs_dict,F.slot_dict_get,F.type_dict_get,ed.mapOf.typeIs,ed.mapOf.noDict,wpAny_dict_get1 (knd:=strKind B A) (xb (C.xa cW)) (f9.ap aB _ _ (aq.trans aE) λv ax a7 r=>?_)⟩
  refine aO.fV r λt=>?_
  exact⟨n,_,pW B A n t,((C.step ((aq.trans aE).trans a7)).mT cW).mapOf,h _ ((aE.trans a7).trans (an.tok _))⟩)
theorem bi.Fq {slice:Expr} {n:Str} (C:aw Q U ai Z ak s K o) (V:bi B A D o s i2 (.ref O)) (cW:(O,Ent.own (dv B A cx))∈K.L) (f9:H B A D Y o s slice (.str n)) (bn:valueAt cx n=some v)
  (aW:autoParam (∀w i,subscripted slice false w i=operate [w,i] (getItem w i)) uq._auto_1):bi B A D o s (.Subscript i2 slice ao) v:=.mk λaj G M aq h=>by
 refine Subscript_ (V.ap aj _ _ aq λaB aE=>f9.ap aB _ _ (aq.trans aE) λme ax a7 r=>?_)
 refine aO.fV r λt=>?_
 have sb:=(C.step ((aq.trans aE).trans a7)).mT cW
 exact tail_any sb.mapOf.typeIs slot_dict_getitem.lookup (wpAny_getItem_of (pW B A n t) sb.mapOf bn (h _ ((aE.trans a7).trans (an.tok _)))) (aW _ _)
theorem bL.Nc {l r:Expr} {n:Str} (C:aw Q U ai Z ak s K o) (V:bi B A D o s r (.ref O)) (cW:(O,Ent.own (dv B A cx))∈K.L) (f9:H B A D Y o s l (.str n)) (hm:autoParam (behindInMarks .In r=false) h7._auto_1):
  bL B A D o s (.Compare l [.In] [r] ao) (valueAt cx n).isSome:=.mk λaj G M aq h=>by
 refine mM (f9.ap aj _ _ aq λv aB aE jv=>V.ap aB _ _ (aq.trans aE) λax a7=>?_) hm
 refine aO.fV jv λt=>?_
 have sb:=(C.step ((aq.trans aE).trans a7)).mT cW
 exact wpAny_in_of (pW B A n t) (xb (C.xa cW)) sb.mapOf (iq (h _ ((aE.trans a7).trans (an.tok _))))
theorem aw.FE {n:Str} {t:Tok} {G:Unit->Shared->Prop} (C:aw Q U ai Z ak s K o) (a1:K.L=bz++(O,Ent.own (dv B A cx))::bY) (ar:cx.length<=1000)
  (h:∀y,aw Q U ai Z ak s {K with L:=bz++(O,Ent.own (dv B A (stored cx n v)))::bY} y->G () y):wpAny (model B A) D (setItem (.ref O) (.str n t) v) G M o:=by
 have d:=C.mT (B:=B) (A:=A) (O:=O) (cx:=cx) (by refine m a1 ?_;simp)
 refine wpAny_setItem_pairs (pW B A n t) d (λam dW dI=>h _ ?_) (by refine m dR ?_;exact aK ‹_› (by decide))
 exact C.iD (aD:=o.toks+1) a1 dI (Ent.GF (dv.of dW))
theorem Aw {w:Expr} {ap:Pos} {d:PyData} (C:aw Q U ai Z ak s K o) (V:bi B A D o s w (.ref O)) (a1:K.L=bz++(O,.lst aM)::bY)
  (f9:H B A D (K.Y ai) o s e d) (ar:aM.length<=1000) (h:∀y,aw Q U ai Z ak s {K with L:=bz++(O,.lst (aM++[d]))::bY} y->bl B A D aZ s G M y)
  (fA:autoParam (attributeBase w "append" s (eval w s)=eval w s) cg._auto_1) (aW:autoParam (starEach [e] s=[(false,eval e s)]) cg._auto_1) (fB:autoParam ((ap.endLine==fI.line)=true) cg._auto_1)
  (kr:autoParam (swapsWith (.Call (.Attribute w "append" ap) [e] [] fI) none ao.line s=pure false) cg._auto_1):
  bl B A D (.Expr (.Call (.Attribute w "append" ap) [e] [] fI) ao::aZ) s G M o:=by
 refine⟨dA (m2 ?_ C.quiet kr)⟩
 have dF:(O,Ent.lst aM)∈K.L:=by refine m a1 ?_;simp
 refine m6 fA aW fB (V.ap o _ _ (an.refl _) λaj aq=>?_)
 obtain⟨J,n,l⟩:=C.uF dF aq
 refine⟨"list","list.append",uD,F.slot_list_append,F.type_list_append,⟨_,l,rfl⟩,λa i9=>by have e:=mb i9;subst e;exact⟨_,l,rfl⟩,?_⟩
 refine P.append_list (f9.ap aj _ _ aq λv aB aE r=>?_)
 have aQ:=C.step (aq.trans aE)
 obtain⟨il,lB,iM,ks⟩:=aQ.iZ dF
 have cI:=ks.length
 have f7:O∈K.Y ai:=by unfold bd.Y bd.as;refine m a1 ?_;simp
 refine⟨il,lB,by refine m dR ?_;simp only[lj] at cI;exact c2 (aK (di cI) ar),iM,(h _ ?_).out⟩
 refine aQ.iD (aD:=aB.toks) a1 (fw ..) ⟨il.push v,_,iM.update _,?_⟩
 refine m Array.toList_push ?_
 exact(ks.upd (fw ..) (.inl f7)).snoc (r.upd (fw ..) (.inl f7))
theorem Ky {w:Expr} {ap:Pos} (C:aw Q U ai Z ak s K o) (V:bi B A D o s w (.ref O)) (a1:K.L=bz++(O,.lst aM)::bY)
  (ar:aM.length<=1000) (h:∀y,aw Q U ai Z ak s {K with L:=bz++(O,.lst [])::bY} y->bl B A D aZ s G M y)
  (fA:autoParam (attributeBase w "clear" s (eval w s)=eval w s) cg._auto_1) (fB:autoParam ((ap.endLine==fI.line)=true) cg._auto_1)
  (kr:autoParam (swapsWith (.Call (.Attribute w "clear" ap) [] [] fI) none ao.line s=pure false) cg._auto_1):
  bl B A D (.Expr (.Call (.Attribute w "clear" ap) [] [] fI) ao::aZ) s G M o:=by
 refine⟨dA (m2 ?_ C.quiet kr)⟩
 have dF:(O,Ent.lst aM)∈K.L:=by refine m a1 ?_;simp
 refine Call_method0 fA fB (V.ap o _ _ (an.refl _) λaj aq=>?_)
 have bc:=C.step aq
 obtain⟨J,n,l,rs⟩:=bc.iZ dF
 have cI:=rs.length
 refine⟨"list","list.clear",uD,F.slot_list_clear,F.type_list_clear,⟨_,l,rfl⟩,λa i9=>by have e:=mb i9;subst e;exact⟨_,l,rfl⟩,?_⟩
 refine P.clear_list l (h _ ?_).out (by refine m dR ?_;simp only[lj] at cI;exact c2 (aK (di cI) ar))
 exact bc.iD (aD:=aj.toks) a1 (fw ..) ⟨#[],_,l.update _,.nil⟩
theorem aw.pop {w:Expr} {ap:Pos} {d:PyData} {G:Value->Shared->Prop} (C:aw Q U ai Z ak s K o) (V:bi B A D o s w (.ref O)) (a1:K.L=bz++(O,.lst (aM++[d]))::bY)
  (ar:aM.length<=999) (bb:flat d=true) (h:∀v y,aw Q U ai Z ak s {K with L:=bz++(O,.lst aM)::bY} y->(∀X h,aO X h v d)->G v y)
  (fA:autoParam (attributeBase w "pop" s (eval w s)=eval w s) cg._auto_1) (fB:autoParam ((ap.endLine==fI.line)=true) cg._auto_1):
  wpAny (model B A) D (eval (.Call (.Attribute w "pop" ap) [] [] fI) s) G M o:=by
 have dF:(O,Ent.lst (aM++[d]))∈K.L:=by refine m a1 ?_;simp
 refine Call_method0 fA fB (V.ap o _ _ (an.refl _) λaj aq=>?_)
 have bc:=C.step aq
 obtain⟨J,n,l,rs⟩:=bc.iZ dF
 have cI:=rs.length
 simp only[lj,ib,hE,rK] at cI
 refine⟨"list","list.pop",uD,F.slot_list_pop,F.type_list_pop,⟨_,l,rfl⟩,λa i9=>by have e:=mb i9;subst e;exact⟨_,l,rfl⟩,?_⟩
 obtain⟨u,iI,d7⟩:=rs.get (i:=aM.length) (d:=d) (by simp)
 have dn:J[J.size - 1]?=some u:=by
  have:J.size - 1=aM.length:=by simp_all
  refine m this (a9 Array.getElem?_toList ?_);exact iI
 have f7:O∈K.Y ai:=by unfold bd.Y bd.as;refine m a1 ?_;simp
 refine P.pop_list l dn (h u _ ?_ λX h=>d7.flat bb) (by refine m dR ?_;exact c2 (aK (di cI) (iv ar (iv (cG _) (cG _)))))
 refine bc.iD (aD:=aj.toks) a1 (fw ..) ⟨_,_,l.update _,?_⟩
 have e:(J.eraseIdxIfInBounds (J.size - 1)).toList=J.toList.take aM.length:=by
  unfold Array.eraseIdxIfInBounds
  refine m (dif_pos (by simp_all)) (m Array.toList_eraseIdx ?_)
  have:J.size - 1=aM.length:=by simp_all
  refine m this ?_;rewrite[Az]
  have hd:J.toList.drop (aM.length+1)=[]:=by
   apply List.drop_eq_nil_of_le
   refine m lj ?_;simp_all
  refine m hd ?_;rw[iy]
 refine m e ?_
 have:=(rs.take aM.length).upd (fw aj.heap O (Obj.mapSeq λag=>ag.eraseIdxIfInBounds (J.size - 1))) (.inl f7)
 rwa [List.take_left] at this
theorem aw.pin {p:Obj->Prop} (C:aw Q U ai Z ak s K o) (a1:K.L=bz++(O,Ent.own p)::bY):∃w,p w/\aw Q U ai Z ak s {K with L:=bz++(O,Ent.own (· =w))::bY} o:=by
 obtain⟨w,e,gd,po⟩:=C.led (O,Ent.own p) (by refine m a1 ?_;simp)
 have bc:=C.iD (bt:=.own (· =w)) (am:=o.heap) (aD:=o.toks) a1 (Heap.SameBut.refl _ _) ⟨w,e,gd,rfl⟩
 exact⟨w,po,bc⟩
theorem aw.loose {p q:Obj->Prop} (C:aw Q U ai Z ak s K o) (a1:K.L=bz++(O,Ent.own p)::bY) (h:∀w,p w->q w):aw Q U ai Z ak s {K with L:=bz++(O,Ent.own q)::bY} o:=by
 obtain⟨w,e,gd,po⟩:=C.led (O,Ent.own p) (by refine m a1 ?_;simp)
 exact C.iD (bt:=.own q) (am:=o.heap) (aD:=o.toks) a1 (Heap.SameBut.refl _ _) ⟨w,e,gd,h w po⟩
theorem PZ (C:aw Q U ai Z ak s K o) (V:bi B A D o s iter (.ref O)) (bb:∀d∈aM,flat d=true) (I:hG s x) (bj:D.handled=none)
  (ct:Nat->bd->Prop) (gh:∀i bH,ct i bH->(O,Ent.lst aM)∈bH.L) (et:ct 0 K)
  (turn:∀(i:Nat) eC bH ae y (cD:Value->Shared->Prop) (fJ:Flow->Shared->Prop),(∀dJ y,oz B A D aZ s G M (PB Q U ai Z ak s ct ae (bk (.ref O) (.list aM)) i) dJ y->fJ dJ y)->aM[i]?=some eC->ct i bH->aw Q U ai Z ak s ((bH.own ae (.own (bk (.ref O) (.list aM) (i+1)))).set x eC) y->bl B A D dE s fJ cD y)
  (fin:∀bH y cD,ct aM.length bH->aw Q U ai Z ak s bH y->bl B A D i3 s (kN B A D aZ s G M) cD y)
  (aW:autoParam (∀x,foldedSetIterable iter s x=pure x) pZ._auto_1):
  bl B A D (.For (.Name x oQ) iter dE i3 ao::aZ) s G M o:=by
 have f5:∀{bH:bd} {y:Shared},aw Q U ai Z ak s bH y->(O,Ent.lst aM)∈bH.L->aO [] y.heap (.ref O) (.list aM):=λC hm=>by
  obtain⟨J,n,l,r⟩:=C.iZ hm
  exact .list (by simp) l r.w6
 refine⟨dA (wpAny_For (V.ap o _ _ (an.refl _) λaj aq=>?_) aW)⟩
 have bc:=C.step aq
 refine u2 (.list aM) (f5 bc (gh 0 K et)) λw aP=>?_
 have aQ:aw Q U ai Z ak s (K.own aj.heap.objs.size (.own (bk (.ref O) (.list aM) 0))) {aj with heap:=aj.heap.push w}:=
  bc.add (an.push w) ⟨cG _,by simp⟩ ⟨w,dT _ (by obtain⟨_,_,_,e⟩:=aP;exact rD e),aP.gY,aP⟩
 generalize aj.heap.objs.size=ae at aQ
 refine sJ (λdJ y h=>by cases dJ<;>first|exact h.out|exact h) aM.length (λi y=>∃bH,ct i bH/\aw Q U ai Z ak s (bH.own ae (.own (bk (.ref O) (.list aM) i))) y) ⟨K,et,aQ⟩ (λax h=>h.elim λbH q=>?_) λi ax bU h=>h.elim λbH q=>?_
 ·obtain⟨bA,f8,_,hit⟩:=q.2.led (ae,.own (bk (.ref O) (.list aM) aM.length)) (iF)
  exact xH bj (.list aM) f8 hit (f5 q.2 (iY _ (gh _ bH q.1))) (on (cG _)) λam aD al ar=>by
   have be:=q.2.q6 (aD:=aD) (L:=bH.L) rfl al ar
   exact⟨rfl,fin bH _ _ q.1 be⟩
 ·obtain⟨bA,f8,_,hit⟩:=q.2.led (ae,.own (bk (.ref O) (.list aM) i)) (iF)
  refine wQ (.list aM) f8 hit (f5 q.2 (iY _ (gh _ bH q.1))) (d4 bU) λu am aD vP dI vQ nc d7=>⟨u,rfl,?_⟩
  have be:=q.2.turn (bt:=.own (bk (.ref O) (.list aM) (i+1))) (aD:=aD) rfl dI ⟨vP,vQ,nc.gY,nc⟩
  exact aw.store (K:=bH.own ae (.own (bk (.ref O) (.list aM) (i+1)))) be I (d7.flat (bb _ (mP bU))) λcm bJ=>turn i _ bH ae cm _ _ (λ_ _ x=>x) (d4 bU) q.1 bJ
noncomputable def lv (N:Addr) (n ck i:Nat) (w:Obj):Prop:=w.cls=.type "dict_keyiterator"/\w.data=.fields #[.ref N,.int i 0,.int n 0,.int ck 0]
theorem lv.gY {N:Addr} {n ck:Nat} (h:lv N n ck i w):go w=false:=by unfold go;refine m h.2 (m h.1 ?_);rfl
end
structure cj where
 nm:Str
 np:Int
 succ:List Str
structure co where
 ah:cj
 ae:Addr
 p4:Addr
 S:Addr
structure cC where
 T:Addr
 cr:Addr
 N:Addr
 ns:List co
 bM:Option (Addr×List Str)
 po:Int
 de:Int
noncomputable def rB (n:co) (w:Obj):Prop:=cp λt1 dO=>w=b7 97 n.p4 [some (.str n.ah.nm t1),some (.int n.ah.np dO),some (.ref n.S)]
noncomputable def pr:Option (Addr×List Str)->Value
 |none=>.none
 |some (a,_)=>.ref a
noncomputable def ha (t:cC) (t1 dO:Tok):Str->Option Value:=λx=>
 if x="_node2info" then some (.ref t.N) else if x="_ready_nodes" then some (pr t.bM) else if x="_npassedout" then some (.int t.po t1) else if x="_nfinished" then some (.int t.de dO) else none
noncomputable def fo (t:cC) (w:Obj):Prop:=cp λt1 dO=>hi 4 (ha t t1 dO) w
noncomputable def dC (ns:List co):List (Str×Value):=ns.map λn=>(n.ah.nm,.ref n.ae)
noncomputable def dN (n:co):List (Addr×Ent):=[(n.ae,.own (rB n)),(n.p4,.own (· =emptyDict)),(n.S,.lst (n.ah.succ.map .str))]
noncomputable def f5:Option (Addr×List Str)->List (Addr×Ent)
 |none=>[]
 |some (a,l)=>[(a,.lst (l.map .str))]
section
variable (B:Program) (A:World)
noncomputable def bp (t:cC):List (Addr×Ent):=(t.T,.own (· =b7 194 t.cr []))::(t.cr,.own (fo t))::(t.N,.own (dv B A (dC t.ns)))::(f5 t.bM++t.ns.flatMap dN)
noncomputable def eV (t:cC):List Addr:=(bp B A t).map (·.1)
structure hk (t:cC) (h:Heap):Prop where
 led:∀p∈bp B A t,∀Y,p.2.at Y h p.1
 ah:(eV B A t).Nodup
 fj:∀a∈eV B A t,247<=a
 eI:(t.ns.map (·.ah.nm)).Nodup
end
noncomputable def Ent.flat:Ent->Prop
 |.own _=>True
 |.lst aM=>∀d∈aM,Il.flat d=true
theorem Ent.M3 {e:Ent} (f:e.flat) {Y:List Addr} {h:Heap} (x:e.at Y h a):e.at eP h a:=by
 cases e with
 |own p=>exact x
 |lst aM=>obtain⟨J,n,l,r⟩:=x;exact⟨J,n,l,r.flat f⟩
theorem pC (l:List Str):∀d∈l.map PyData.str,Il.flat d=true:=λd hd=>by obtain⟨x,_,rfl⟩:=bZ.mp hd;rfl
theorem NK (t:cC):∀p∈bp B A t,p.2.flat:=by
 intro p af
 unfold bp at af
 rcases bP.mp af with rfl|af
 ·trivial
 rcases bP.mp af with rfl|af
 ·trivial
 rcases bP.mp af with rfl|af
 ·trivial
 rcases df.mp af with af|af
 ·unfold f5 at af
  split at af
  ·cases af
  ·refine m (cn.mp af) ?_;exact pC _
 ·obtain⟨n,_,af⟩:=uT.mp af
  unfold dN at af
  simp only[bP,b9,eH] at af
  rcases af with rfl|rfl|rfl
  ·trivial
  ·trivial
  ·exact pC _
section
variable {Y:List Addr} {k:Nat}
theorem aw.nE {X L c7:List (Addr×Ent)} (C:aw Q U ai Z ak s K o) (a1:K.L=X++L) (x:es (L.map (·.1)) o y) (vR:∀p∈c7,∀Y,p.2.at Y y.heap p.1) (hX:(c7.map (·.1)).Nodup)
  (j0:∀a∈c7.map (·.1),a∈L.map (·.1)∨(o.heap.objs.size<=a/\a < y.heap.objs.size)):aw Q U ai Z ak s {K with L:=X++c7} y:=by
 have fX:∀a,a∈K.Y ai↔a∈X.map (·.1)∨a∈L.map (·.1)∨a∈ai:=λa=>by unfold bd.Y bd.as;refine m a1 (m d3 ?_);rw[df,df,or_assoc]
 have BJ:∀a,a∈({K with L:=X++c7}:bd).Y ai↔a∈X.map (·.1)∨a∈c7.map (·.1)∨a∈ai:=λa=>by
  show a∈(X++c7).map (·.1)++ai↔_
  refine m d3 ?_;rw[df,df,or_assoc]
 have ah:=C.ah
 unfold bd.as at ah
 rw[a1,d3,ia] at ah
 have keep:∀b w,b∉L.map (·.1)->tab b=false->o.heap.get? b=some w->y.heap.get? b=some w:=x.keep
 have ar:∀z∈L.map (·.1),247<=z:=λz ar=>C.fj (by unfold bd.as;refine m a1 (m d3 ?_);exact ez _ ar)
 have up:∀b w,b∉K.Y ai->jR w->o.heap.get? b=some w->y.heap.get? b=some w/\b∉({K with L:=X++c7}:bd).Y ai:=λb w aA hd e=>by
  rw[fX] at aA
  refine⟨keep b w (λq=>aA (.inr (.inl q))) (C.tabs.xA e hd) e,λq=>?_⟩
  rcases(BJ b).mp q with q|q|q
  ·exact aA (.inl q)
  ·rcases j0 b q with q|q
   ·exact aA (.inr (.inl q))
   ·exact absurd (dL e) (eZ.mpr q.1)
  ·exact aA (.inr (.inr q))
 have Rw:es Z ak y:=by
  obtain⟨h,t,q⟩:=C.ex.same
  obtain⟨am,dd,gD⟩:=x.same
  refine⟨⟨am,dd,by exact m gD (m q rfl)⟩,λb w aA bu e=>keep b w (λq=>?_) bu (C.ex.keep b w aA bu e),aK C.ex.size x.size,λT=>x.tabs (C.ex.tabs T)⟩
  rcases C.own b (by unfold bd.as;refine m a1 (m d3 ?_);exact ez _ q) with p|p
  ·exact ey _ (cz (dL e) p)
  ·exact aA p
 have Rx:s.locals∉L.map (·.1):=λq=>C.aI.cb.2 ((fX _).mpr (.inr (.inl q)))
 have Hx:∀n c,s.cells.lookup n=some c->c∉L.map (·.1):=λn c e q=>(C.aI.fE n c e).2 ((fX _).mpr (.inr (.inl q)))
 have b5:∀c v,c∉L.map (·.1)->o.heap.IsCell c v->y.heap.IsCell c v:=λc v av ⟨w,e,d⟩=>⟨w,keep c w av (C.tabs.jl e λJ z=>by rw[d] at z;cases z) e,d⟩
 have qk:∀ab,o.heap.Ns s.locals ab->y.heap.Ns s.locals ab:=λab ⟨w,aU,ck,e,d,r⟩=>⟨w,aU,ck,keep _ w Rx (C.tabs.jl e λJ z=>by rw[d] at z;cases z) e,d,r⟩
 have dP:∀E v,gV o s E v->gV y s E v:=λE v V=>by
  rcases V with⟨ho,ab,n,q⟩|⟨ho,c,l,av⟩
  ·exact .inl ⟨ho,ab,qk ab n,q⟩
  ·exact .inr ⟨ho,c,l,b5 c _ (Hx _ c l) av⟩
 have Ry:∀a,a∈({K with L:=X++c7}:bd).Y ai->a < y.heap.objs.size:=λa q=>by
  rcases(BJ a).mp q with q|q|q
  ·exact cz (C.aI.eb a ((fX a).mpr (.inl q))) x.size
  ·rcases j0 a q with q|q
   ·exact cz (C.aI.eb a ((fX a).mpr (.inr (.inl q)))) x.size
   ·exact q.2
  ·exact cz (C.aI.eb a ((fX a).mpr (.inr (.inr q)))) x.size
 have away:∀a,a < o.heap.objs.size->a∉K.Y ai->a∉({K with L:=X++c7}:bd).Y ai:=λa aF au q=>by
  rw[fX] at au
  rcases(BJ a).mp q with q|q|q
  ·exact au (.inl q)
  ·rcases j0 a q with q|q
   ·exact au (.inr (.inl q))
   ·exact absurd aF (eZ.mpr q.1)
  ·exact au (.inr (.inr q))
 refine⟨C.hN,Rw,C.z,⟨C.aI.base.cw ar x,C.aI.fn,C.aI.hF,C.aI.blt,λE d q=>let ⟨v,V,r⟩:=C.aI.dP E d q;⟨v,dP E v V,r.mono up⟩,Ry,C.aI.inj,λn c e=>⟨cz (C.aI.fE n c e).1 x.size,away c (C.aI.fE n c e).1 (C.aI.fE n c e).2⟩,⟨cz C.aI.cb.1 x.size,away _ C.aI.cb.1 C.aI.cb.2⟩⟩,λE v e=>dP E v (C.dP E v e),λp af=>(C.ic p af).mono up,λp af=>?_,?_,λa aF=>?_,let ⟨ab,n⟩:=C.ns;⟨ab,qk ab n⟩,C.lo,λn c e l=>let ⟨u,dn⟩:=C.l4 n c e l;⟨u,b5 c u (Hx n c e) dn⟩⟩
 ·have af:p∈X++c7:=af
  rcases df.mp af with af|af
  ·have q:=C.led p (by refine m a1 ?_;exact e2 _ af)
   have Hy:p.1∉L.map (·.1):=λz=>ah.2.2 p.1 (d9 af) p.1 z rfl
   have tR:tab p.1=false:=nM (C.fj (by unfold bd.as;refine m a1 (m d3 ?_);exact e2 _ (d9 af)))
   cases kX:p.2 with
   |own f=>rw[kX] at q;obtain⟨w,e,gd,vv⟩:=q;exact⟨w,keep _ w Hy tR e,gd,vv⟩
   |lst aM=>rw[kX] at q;obtain⟨J,n,l,r⟩:=q;exact⟨J,n,keep _ _ Hy tR l,r.mono up⟩
  ·exact vR p af _
 ·show((X++c7).map (·.1)).Nodup
  refine m d3 ?_;rewrite[ia]
  refine⟨ah.1,hX,λa aF b aA=>?_⟩
  rcases j0 b aA with q|q
  ·exact ah.2.2 a aF b q
  ·rintro rfl
   exact absurd (C.aI.eb a ((fX a).mpr (.inl aF))) (eZ.mpr q.1)
 ·have aF:a∈(X++c7).map (·.1):=aF
  rw[d3] at aF
  rcases df.mp aF with q|q
  ·exact C.own a (by unfold bd.as;refine m a1 (m d3 ?_);exact e2 _ q)
  ·rcases j0 a q with q|q
   ·exact C.own a (by unfold bd.as;refine m a1 (m d3 ?_);exact ez _ q)
   ·exact .inl (aK C.ex.size q.1)
theorem aw.iC {X:List (Addr×Ent)} {t:cC} (C:aw Q U ai Z ak s K o) (a1:K.L=X++bp B A t) (au:(t.ns.map (·.ah.nm)).Nodup):hk B A t o.heap:=by
 have ah:=C.ah
 unfold bd.as at ah
 rw[a1,d3,ia] at ah
 refine⟨λp af Y=>Ent.M3 (NK t p af) (C.led p (by refine m a1 ?_;exact ez _ af)),ah.2.1,λa aF=>C.fj (by unfold bd.as;refine m a1 (m d3 ?_);exact ez _ aF),au⟩
theorem hk.lt {t:cC} (w:hk B A t o.heap):∀a∈eV B A t,a < o.heap.objs.size:=λa aF=>by
 obtain⟨p,af,rfl⟩:=bZ.mp aF
 have:=w.led p af []
 cases e:p.2 with
 |own f=>rw[e] at this;obtain⟨jY,q,_⟩:=this;exact dL q
 |lst aM=>rw[e] at this;obtain⟨J,n,l,_⟩:=this;exact dL l
end
structure cO where
 text:Str
 dot:Bool
 cM:List Str
noncomputable def dg (r:cO):PyData:=.list [.str r.text,.bool r.dot,.list (r.cM.map .str)]
noncomputable def p5 (x:Str):Bool:=x=="7"||x=="77"
noncomputable def jP (r:cO):Str:=r.cM.getLastD ""
noncomputable def zl (wide kt:cO):Bool:=
 wide.dot&&(!p5 (jP wide)&&(decide (wide.cM.length < kt.cM.length)&&decide (kt.cM.drop (kt.cM.length - wide.cM.length)=wide.cM)))
structure xV (r:cO):Prop where
 ne:r.cM≠[]
 cL:r.cM.length<=3
 ok:∀x∈r.cM,PyData.strOk x=true
 MU:PyData.strOk r.text=true
noncomputable def J8:List (Str×NameKind):=[("wide",.local),("narrow",.local),("size",.local),("len",.globalImplicit)]
section
variable {k:Nat}
theorem a8 {names:List (Str×NameKind)} (h:s.scope.names=names) {dj:Option NameKind} (e:names.lookup x=dj):s.kindOf x=dj:=by unfold Env.kindOf;refine m h ?_;exact e
theorem H.zo {Y:List Addr} {az:Str->Option PyData} {p:Pos} (aa:cJ Q U Y o s az) (O:H B A D Y o s e (dg r)):H B A D Y o s (.Subscript e (.Constant (.int 0) j p) ao) (.str r.text):=
 H.sub aa O H.int (by simp) (by simp) rfl
theorem H.DT {Y:List Addr} {az:Str->Option PyData} {p:Pos} (aa:cJ Q U Y o s az) (O:H B A D Y o s e (dg r)):H B A D Y o s (.Subscript e (.Constant (.int 1) j p) ao) (.bool r.dot):=
 H.sub aa O H.int (by simp) (by simp) rfl
theorem H.rC {Y:List Addr} {az:Str->Option PyData} {p:Pos} (aa:cJ Q U Y o s az) (O:H B A D Y o s e (dg r)):H B A D Y o s (.Subscript e (.Constant (.int 2) j p) ao) (.list (r.cM.map .str)):=
 H.sub aa O H.int (by simp) (by simp) rfl
theorem zG:∀ag cP:List Str,PyData.eqvAll (ag.map .str) (cP.map .str)=decide (ag=cP)
 |[],[]=>by simp[PyData.eqvAll]
 |[],_::_=>by simp[PyData.eqvAll]
 |_::_,[]=>by simp[PyData.eqvAll]
 |x::ag,E::cP=>by
  refine m dG (m dG ?_);rewrite[PyData.eqvAll,PyData.eqv];refine m (zG ag cP) ?_
  by_cases h:x=E<;>simp[h]
theorem gp (h:PyData.strOk x=true):low (.str x):=⟨by simpa [PyData.canLay0] using h,by simp[PyData.depth]⟩
theorem kc {ag:List Str} (h:∀x∈ag,PyData.strOk x=true):low (.list (ag.map .str)):=by
 have a:PyData.canLayAll0 (ag.map .str)=true/\PyData.depthAll (ag.map .str)=0:=by
  induction ag with
  |nil=>simp[PyData.canLayAll0,PyData.depthAll]
  |cons x ag ih=>
   have b:=ih λE aJ=>h E (.tail _ aJ)
   simp[PyData.canLayAll0,PyData.depthAll,PyData.canLay0,PyData.depth,b.1,b.2,h x (.head _)]
 exact⟨by simpa [PyData.canLay0] using a.1,by simp[PyData.depth,a.2]⟩
theorem xr {a2:Type} (ag:List a2) (lo aH:Option Int):iz ag lo aH none=(ag.drop (kms_lo lo ag.length)).take (kms_hi aH ag.length - kms_lo lo ag.length):=by
 unfold iz
 refine m (kms_bounds _ _ _) ?_
 have key:∀(a b:Nat) (cP:List a2),(sliceRange (a:Int) (b:Int) 1).filterMap (λj=>cP[j]?)=(cP.drop a).take (b - a):=by
  intro a b cP
  refine m (sliceRange_one _ _) ?_
  have:=pick_run cP.toArray a (b - a)
  simpa using this
 exact key _ _ ag
theorem DG {a2:Type} (ag:List a2) (n:Nat) (et:0 < n):iz ag (some (-(n:Int))) none none=ag.drop (ag.length - n):=by
 refine m (xr _ _ _) ?_
 have:kms_lo (some (-(n:Int))) ag.length=ag.length - n:=by
  simp only[kms_lo]
  refine m (b3 (by simp_all)) ?_
  simp
 refine m this ?_
 simp only[kms_hi]
 rw[wO]
 simp
theorem M2 (R:b0 (k+2) D) {wide kt:cO} (ik:xV wide) (au:xV kt):nA B A D Q U (.ref 217) [dg wide,dg kt] (.bool (zl wide kt)):=by
 refine pB J8 ["wide","narrow"] R (λ_ C=>C.rG) rfl rfl rfl rfl (λbs cd J bn=>?_) rfl (by decide) (by decide) (λY ak o s al av C c9=>?_)
 ·obtain⟨a,b,rfl⟩:=wM bn;rfl
 have aa:=C.aI
 have cL:=ik.cL
 have Wx:=au.cL
 have ao:0 < wide.cM.length:=sR.mpr ik.ne
 refine gA (d:=.int wide.cM.length) C ?_ (.inl (a8 al rfl)) (λy a4=>?_)
 ·simpa using H.len aa (a8 al rfl) (H.rC aa (H.name aa rfl)) (by simp;exact aK ‹_› (by decide))
 have bf:=a4.aI
 refine hv (d:=.bool (zl wide kt)) a4 ?_ λv cs fP r=>fP.ends r
 have i8:H B A (D.deeper s) Y y s (.Name "size" ⟨0,0,0,0⟩) (.int wide.cM.length):=H.name bf rfl
 refine H.and (H.DT bf (H.name bf rfl)) λ_=>H.and ?_ λ_=>H.and ?_ λ_=>H.MY ?_
 ·refine H.cmp bf.base (gO:=.str (jP wide)) (ed:=.tuple [.str "7",.str "77"]) (H.sub (ag:=wide.cM.map .str) (i:=-1) bf (H.rC bf (H.name bf rfl)) (H.neg_int H.int) (by simp;exact s5.mpr ao) ⟨by decide,by simp;exact aK ‹_› (by decide)⟩ ?_)
   (H.tuple bf (bK.cons bf.base H.str (bK.cons bf.base H.str bK.nil))) (cH.notIn_tuple c9 (gp ?_) ?_ ?_)
  ·have:placeAt (-1) (wide.cM.map PyData.str).length=wide.cM.length - 1:=by
    unfold placeAt;simp;exact zH ao
   refine m this (m fm ?_)
   unfold jP
   refine m s7 (m List.getLast?_eq_getElem? ?_)
   refine m (d4 (by exact Nat.sub_one_lt_of_lt ao)) ?_;rfl
  ·unfold jP
   refine m s7 (m (zy ik.ne) ?_)
   exact ik.ok _ (List.getLast_mem _)
  ·exact⟨by decide+kernel,by decide+kernel⟩
  ·unfold p5
   generalize jP wide=x
   simp only[List.any_cons,List.any_nil,PyData.eqv,Bool.or_false,ps]
   exact m (s2 (a:=Str.ofString "7")) (m (s2 (a:=Str.ofString "77")) rfl)
 ·refine H.cmp bf.base (H.len bf (a8 al rfl) (H.rC bf (H.name bf rfl)) (by simp;exact aK ‹_› (by decide))) (H.name bf rfl) ?_
  have:=cH.gt (B:=B) (A:=A) (D:=D.deeper s) (a:=((kt.cM.map PyData.str).length:Int)) (b:=(wide.cM.length:Int))
  have e:decide ((wide.cM.length:Int) < ((kt.cM.map PyData.str).length:Int))=decide (wide.cM.length < kt.cM.length):=by simp
  rwa [e] at this
 ·refine H.cmp bf.base (H.slice bf (H.rC bf (H.name bf rfl)) (hA.some (H.neg_int (H.name bf rfl))) hA.none hA.none (by decide) (by simp;exact aK ‹_› (by decide))) (H.rC bf (H.name bf rfl)) (cH.eq c9 ?_ (kc ik.ok) ?_)
  ·refine m (DG _ _ ao) (a9 List.map_drop ?_);exact kc λx I=>au.ok x (List.mem_of_mem_drop I)
  ·refine m (DG _ _ ao) (a9 List.map_drop ?_);rewrite[PyData.eqv];refine m (zG _ _) ?_
   simp
end
section
variable {Y:List Addr} {az:Str->Option PyData} {k:Nat}
theorem Ko:typeLookup (.type "re.Match") "__bool__"=pure none:=by rewrite[kD];refine m kM ?_;kernel_rfl
theorem OA:typeLookup (.type "re.Match") "__len__"=pure none:=by rewrite[kD];refine m kM ?_;kernel_rfl
theorem Lj {G:Bool->Shared->Prop} (cK:o.TypeIs (.ref a) "re.Match") (h:G true o):wpAny (model B A) D (truthy (.ref a)) G M o:=by
 unfold truthy
 refine ay (wpAny_callSpecial?_none (name:=Str.ofString "__bool__") cK Ko ?_)
 refine ay (wpAny_specialOf (name:=Str.ofString "__len__") cK OA ?_)
 exact bx h
theorem bL.search {p ap:Pos} {b:Bool} (aa:cJ Q U Y o s az) (aN:s.kindOf "IPV4_RE"=some .globalImplicit) (O:H B A D Y o s e (.str x)) (I:ke x=some b) (ar:x.cps.size<=1000) (aW:autoParam (starEach [e] s=[(false,eval e s)]) cg._auto_1)
  (fA:autoParam (attributeBase (.Name "IPV4_RE" p) "search" s (eval (.Name "IPV4_RE" p) s)=eval (.Name "IPV4_RE" p) s) cg._auto_1) (fB:autoParam ((ap.endLine==ao.line)=true) cg._auto_1):
  bL B A D o s (.Call (.Attribute (.Name "IPV4_RE" p) "search" ap) [e] [] ao) b:=.mk λaj G M aq h=>by
 have V:bi B A D o s (.Name "IPV4_RE" p) (.ref 43):=bi.glob aa aN (by exact iT (by kernel_rfl))
 refine m (show isTrue (.Call (.Attribute (.Name "IPV4_RE" p) "search" ap) [e] [] ao) s (eval (.Call (.Attribute (.Name "IPV4_RE" p) "search" ap) [e] [] ao) s)=(do
  let v <-eval (.Call (.Attribute (.Name "IPV4_RE" p) "search" ap) [e] [] ao) s
  standAt ao
  holding [v] (truthy v)) from rfl) ?_
 refine ay (m6 fA aW fB (V.ap aj _ _ aq λaB aE=>?_))
 have aQ:=aa.base.ex (aq.trans aE)
 obtain⟨w,aP,e4,p9,u,rfl⟩:=aQ.st (43,_) (.head _)
 have aP:aB.heap.get? 43=some {cls:=.type "re.Pattern",data:=.fields #[.str e4 p9,.int 256 u,.int 0 0,.none,.none,.ref 42,.int 0 0]}:=aP
 refine⟨"re.Pattern","re.Pattern.search",Lz,Fo,Qb,⟨_,aP,rfl⟩,λa i9=>by have e:=mb i9;subst e;exact⟨_,aP,rfl⟩,?_⟩
 refine method_meets Fo NF rfl (kg (jO (O.ap aB _ _ (aq.trans aE) λv ax a7 r=>kH ?_)))
 refine aO.fV r λt=>?_
 have bh:=aQ.ex a7
 obtain⟨Wy,BK,Rz,RA,RB,rfl⟩:=bh.st (43,_) (.head _)
 have BK:ax.heap.get? 43=some {cls:=.type "re.Pattern",data:=.fields #[.str Rz RA,.int 256 RB,.int 0 0,.none,.none,.ref 42,.int 0 0]}:=BK
 refine⟨rfl,⟨_,BK,rfl⟩,Ox _ _,λD R o=>ce (o=ax) (b=false->R (.ok (.ret .none)) o) (b=true->∀a y,an o y->(∃w,y.heap.get? a=some w/\w.cls=.type "re.Match")->R (.ok (.ret (.ref a))) y),.of_wp λB A D R o bj=>?_,rfl,?_,?_⟩
 ·obtain⟨rfl,et,aX⟩:=bj
  exact Qc bh I ar (λaA=>⟨_,rfl,et aA⟩) λaA a y dr aP=>⟨_,rfl,aX aA a y dr aP⟩
 ·intro aA
  subst aA
  exact ay (gK (dZ λ_ _ _=>h _ (aE.trans a7)))
 ·intro aA a y dr aP
  subst aA
  obtain⟨w,aP,av⟩:=aP
  exact ay (gK (dZ (Lj ⟨w,aP,av⟩ (h _ ((aE.trans a7).trans dr)))))
noncomputable def K7:List (Str×NameKind):=[("text",.local),("IPV4_RE",.globalImplicit)]
theorem Fu (R:b0 (k+1) D) {b:Bool} (I:ke x=some b) (ar:x.cps.size<=1000):nA B A D Q U (.ref 50) [.str x] (.bool (!b)):=by
 refine pB K7 ["text"] R (λ_ C=>C.qX) rfl rfl rfl rfl (λbs cd J bn=>?_) rfl (by decide) (by decide) (λY ak o s al av C c9=>?_)
 ·obtain⟨a,rfl⟩:=uM bn;rfl
 have aa:=C.aI
 refine fF C (c:=b) (bL.search aa (a8 al rfl) (H.name aa rfl) I ar) λy a4=>?_
 cases b with
 |true=>exact hv a4 H.bool λv cs fP r=>fP.ends r
 |false=>exact b8 (hv a4 H.bool λv cs fP r=>fP.ends r)
noncomputable def gU (a b:Str):Bool:=
 if !(ke (dz a)==some false&&ke (dz b)==some false) then dz a==dz b
 else(mJ (dz b) "."&&qS (dz a) (dz b))||(!mJ (dz b) "."&&dz a==dz b)
structure uZ (x:Str):Prop where
 hit:(ke (dz x)).isSome=true
 cL:(dz x).cps.size<=1000
 ok:PyData.strOk (dz x)=true
noncomputable def Kl:List (Str×NameKind):=[("A",.local),("B",.local),("initial_dot",.local),("liberal_is_HDN",.globalImplicit)]
theorem GL (R:b0 (k+2) D) {a b:Str} (aF:uZ a) (aA:uZ b):nA B A D Q U (.ref 57) [.str a,.str b] (.bool (gU a b)):=by
 refine pB Kl ["A","B"] R (λ_ C=>C.pL) rfl rfl rfl rfl (λbs cd J bn=>?_) rfl (by decide) (by decide) (λY ak o s al av C c9=>?_)
 ·obtain⟨a,b,rfl⟩:=wM bn;rfl
 obtain⟨u,dn⟩:=tf.mp aF.hit
 obtain⟨v,bn⟩:=tf.mp aA.hit
 have qi:(ke (dz a)==some false)=!u:=by refine m dn ?_;cases u<;>rfl
 have RC:(ke (dz b)==some false)=!v:=by refine m bn ?_;cases v<;>rfl
 refine gA C (H.lower (H.name C.aI rfl) aF.cL) (.inl (a8 al rfl)) λaj bc=>?_
 refine gA bc (H.lower (H.name bc.aI rfl) aA.cL) (.inl (a8 al rfl)) λaB aQ=>?_
 have cV:=aQ.aI
 have Hz:∀{h:Heap},Base Q U h->cp λw e5=>h.get? 50=some w/\w.data=.func e5:=λC=>by obtain⟨_,bs,w,bF,J,t,aP,hd,_⟩:=C.qX;exact⟨w,_,aP,hd⟩
 have V:∀p,bi B A (D.deeper s) aB s (.Name "liberal_is_HDN" p) (.ref 50):=λp=>bi.glob cV (a8 al rfl) (by exact iT (by kernel_rfl))
 have eq:∀y,an aB y->∀{p q r:Pos},bL B A (D.deeper s) y s (.Compare (.Name "A" p) [.Eq] [.Name "B" q] r) (dz a==dz b):=λy x p q r=>by
  have aa:=cV.ex x
  exact bL.cmp aa.base (H.name aa rfl) (H.name aa rfl) (cH.eq c9 (gp aF.ok) (gp aA.ok) (by simp[PyData.eqv]))
 have Wz:∀(b:Bool) (e:gU=gU),True:=λ_ _=>trivial
 refine fF aQ (c:=!(!u&&(!v&&true))) (bL.not (bL.and (bL.val (H.call cV (V _) (by simp) (bK.cons cV.base (H.name cV rfl) bK.nil) (Fu c9 dn aF.cL) Hz ⟨_,_,rfl,rfl⟩) iW.bool) λ_=>bL.and (bL.val (H.call cV (V _) (by simp) (bK.cons cV.base (H.name cV rfl) bK.nil) (Fu c9 bn aA.cL) Hz ⟨_,_,rfl,rfl⟩) iW.bool) λ_=>bL.and_nil)) λax bh=>?_
 have RD:gU a b=if !(!u&&(!v&&true)) then dz a==dz b else(mJ (dz b) "."&&qS (dz a) (dz b))||(!mJ (dz b) "."&&dz a==dz b):=by
  unfold gU;exact m qi (m RC (m (pT _) rfl))
 refine m RD ?_
 generalize (!(!u&&(!v&&true)))=c at *
 cases c with
 |true=>
  simp only[fv]
  have eS:=bh.aI
  refine fF bh (bL.cmp eS.base (H.name eS rfl) (H.name eS rfl) (cH.eq c9 (gp aF.ok) (gp aA.ok) (b:=dz a==dz b) (by simp[PyData.eqv]))) λb2 be=>?_
  cases e:(dz a==dz b) with
  |true=>exact hv be H.bool λv cs fP r=>fP.ends r
  |false=>exact b8 (hv be H.bool λv cs fP r=>fP.ends r)
 |false=>
  simp only[fx,fd]
  refine b8 (gA bh (H.startswith (H.name bh.aI rfl) H.str) (.inl (a8 al rfl)) λb2 be=>?_)
  have g5:=be.aI
  refine fF be (c:=mJ (dz b) "."&&(qS (dz a) (dz b)&&true)) (bL.and (bL.val (H.name g5 rfl) iW.bool) λ_=>bL.and (bL.val (H.endswith (H.name g5 rfl) (H.name g5 rfl)) iW.bool) λ_=>bL.and_nil) λcm bJ=>?_
  refine m (pT _) ?_
  cases e:(mJ (dz b) "."&&qS (dz a) (dz b)) with
  |true=>exact hv bJ H.bool λv cs fP r=>fP.ends r
  |false=>
   refine b8 ?_
   have ee:=bJ.aI
   refine fF bJ (c:=!mJ (dz b) "."&&(dz a==dz b&&true)) (bL.and (bL.not (bL.val (H.name ee rfl) iW.bool)) λ_=>bL.and (bL.cmp ee.base (H.name ee rfl) (H.name ee rfl) (cH.eq c9 (gp aF.ok) (gp aA.ok) (by simp[PyData.eqv]))) λ_=>bL.and_nil) λds b6=>?_
   refine m (pT _) (m (Bool.false_or _) ?_)
   cases e:(!mJ (dz b) "."&&dz a==dz b) with
   |true=>exact hv b6 H.bool λv cs fP r=>fP.ends r
   |false=>exact b8 (hv b6 H.bool λv cs fP r=>fP.ends r)
end
noncomputable abbrev ea:=Bool×List Str
noncomputable def us:List Str:=["com","a7","7"]
noncomputable def m1:List Str:=["com","a7","7","77"]
noncomputable def E8:List (List Str):=m1.flatMap λl=>[l]::(us.flatMap λx=>[x,l]::us.map λE=>[E,x,l])
noncomputable def LT:List ea:=E8.map (λl=>(false,l))++E8.map λl=>(true,l)
noncomputable def gw (p:ea):Str:=xX "." (if p.1 then ""::p.2 else p.2)
noncomputable def nz (p:ea):Bool:=p5 (p.2.getLastD "")
noncomputable def lT (p:ea):Bool:=nz p&&(p.1||decide (1 < p.2.length))
noncomputable def eO (wide kt:ea):Bool:=
 wide.1&&(!nz wide&&(decide (wide.2.length < kt.2.length)&&decide (kt.2.drop (kt.2.length - wide.2.length)=wide.2)))
noncomputable def gW (p:ea):Str:=if p.1&&!nz p then "W"++jj (gw p) else jj (gw p)
noncomputable def rd (p:ea):Str:=if p.1&&!nz p then "w"++gw p else gw p
noncomputable def l5:List Nat:=[46,55,97,99,109,111,119,65,67,77,79,87]
noncomputable def h3 (c:Nat):Nat:=if 97<=c&&c<=122 then c - 32 else c
noncomputable def nI (c:Nat):Nat:=if 65<=c&&c<=90 then c+32 else c
theorem J4:(l5.all λc=>Unicode.upperOf c==[h3 c])=true:=by decide+kernel
theorem MN:(l5.all λc=>Unicode.lowerAt #[c] 0==[nI c]&&c !=931)=true:=by decide+kernel
theorem placed_map (x:Str) (f:Nat->Nat->List Nat) (g:Nat->Nat) (h:∀(i:Nat) (aH:i < x.cps.size),f i x.cps[i]=[g x.cps[i]]):placed x f=x.cps.map g:=by
 unfold placed
 have e:(x.cps.mapIdx λi c=>(f i c).toArray)=x.cps.map λc=>#[g c]:=by
  apply Array.ext
  ·simp
  ·intro i aX a5
   simp only[Array.size_mapIdx] at aX
   simp[h i aX]
 refine m e ?_
 apply Array.ext'
 simp
 generalize x.cps.toList=l
 induction l with
 |nil=>rfl
 |cons a l ih=>simp[ih]
noncomputable def kJ (x:Str):Bool:=x.cps.toList.all l5.contains
theorem Gv (h:kJ x=true) (aH:i < x.cps.size):x.cps[i]∈l5:=by
 have:=d1.mp h x.cps[i] (by simp)
 simpa using this
theorem Kk (h:kJ x=true):jj x=⟨x.cps.map h3⟩:=by
 unfold jj
 exact m (placed_map x _ h3 λi aH=>by
  have:=d1.mp J4 _ (Gv h aH)
  simpa using this) rfl
theorem PU (h:kJ x=true):dz x=⟨x.cps.map nI⟩:=by
 unfold dz
 exact m (placed_map x _ nI λi aH=>by
  have q:=d1.mp MN _ (Gv h aH)
  simp only[iR,hh,bne_iff_ne] at q
  obtain⟨mh,ij⟩:=q
  have bV:(x.cps[i]==931)=false:=by simpa using ij
  unfold Unicode.lowerAt at mh ⊢
  refine m (Array.getElem?_eq_getElem aH) ?_
  simp only[u1,List.getElem?_cons_zero] at mh
  simp only[bV,Bool.false_and,fx,fd] at mh ⊢
  exact mh) rfl
noncomputable def FJ:List (List Nat)->List Nat
 |[]=>[]
 |[x]=>x
 |x::r=>x++46::FJ r
noncomputable def hK (p:ea):List Nat:=FJ ((if p.1 then("":Str)::p.2 else p.2).map λx=>x.cps.toList)
noncomputable def mA (p:ea):List Nat:=if p.1&&!nz p then 119::hK p else hK p
noncomputable def F4 (p:ea):Bool:=(gw p).cps.toList==hK p&&(rd p).cps.toList==mA p&&kJ (gw p)&&(mA p).all l5.contains&&(hK p).all (λc=>nI (h3 c)==c&&h3 (h3 c)==h3 c&&nI c==c&&l5.contains (h3 c))&&(mA p).all (λc=>nI (h3 c)==c&&l5.contains (h3 c))
noncomputable def Ab (a b:List Nat):Bool:=decide (b.length<=a.length)&&a.drop (a.length - b.length)==b
noncomputable def tg (a b:List Nat) (sc sd:Bool):Bool:=
 if !(!sc&&!sd) then a==b else(b.head?==some 46&&Ab a b)||(!(b.head?==some 46)&&a==b)
noncomputable def D7 (p:ea):Bool:=ke (gw p)==some (lT p)
noncomputable def FN (p:ea):Bool:=!(p.1&&!nz p)||ke (rd p)==some (lT p)
noncomputable def FF (p:ea):Bool:=(p.2 !=[])&&decide (p.2.length<=3)&&p.2.all PyData.strOk&&decide ((hK p).length<=20)&&decide (0 < (hK p).length)
noncomputable def F3 (p q:ea):Bool:=let e:=p==q||eO q p
 tg (hK p) (hK q) (lT p) (lT q)==e&&tg (mA p) (hK q) (lT p) (lT q)==e&&(hK p==hK q)==(p==q)
theorem NZ:LT.all F4=true:=by decide+kernel
theorem Ke:(LT.all λp=>LT.all λq=>F3 p q)=true:=by decide+kernel
theorem Mg:LT.all D7=true:=by decide+kernel
theorem NR:LT.all FN=true:=by decide+kernel
theorem Lr:LT.all FF=true:=by decide+kernel
noncomputable def cd (x:Str):List Nat:=x.cps.toList
theorem wS (h:cd x=cd E):x=E:=by
 obtain⟨a⟩:=x;obtain⟨b⟩:=E
 have:a=b:=Array.ext' h
 refine m this ?_;rfl
theorem ME (x E:Str):(x==E)=(cd x==cd E):=by
 rw[nB,hh,hh]
 exact⟨λh=>by exact m h rfl,wS⟩
theorem Fj (x E:Str):cd (x++E)=cd x++cd E:=by
 show(x.cps++E.cps).toList=_
 refine m Array.toList_append ?_;rfl
theorem xk (x:Str):x.length=(cd x).length:=by
 show x.cps.size=_
 unfold cd;simp
theorem Fs (h:kJ x=true):cd (jj x)=(cd x).map h3:=by
 refine m (Kk h) ?_;unfold cd;simp
theorem zp (h:kJ x=true):cd (dz x)=(cd x).map nI:=by
 refine m (PU h) ?_;unfold cd;simp
theorem xx:kJ x=(cd x).all l5.contains:=rfl
theorem O3 (x E:Str):qS x E=Ab (cd x) (cd E):=by
 unfold qS Ab Builtin.Str.subAt
 refine m (xk x) (m (xk E) (m (Nat.zero_add _) ?_))
 by_cases h:(cd E).length<=(cd x).length
 ·refine m (hz h) (m (Bool.true_and _) (m (Bool.true_and _) ?_));rewrite[nB,hh,hh]
  rewrite[<-Array.toList_inj];refine m Array.toList_extract ?_
  have:(cd x).length - (cd E).length+(cd E).length=(cd x).length:=by simp_all
  refine m this ?_
  unfold cd
  simp only[List.extract_eq_take_drop,List.drop_take]
  refine m (wO (by simp)) ?_;rfl
 ·rw[jT h,Bool.false_and,Bool.false_and]
theorem L6 (x:Str):mJ x "."=((cd x).head?==some 46):=by
 unfold mJ Builtin.Str.subAt
 have e:((".":Str)).length=1:=by decide+kernel
 have bV:((".":Str)).cps=#[46]:=by decide+kernel
 refine m e (m bV (m (xk x) (m (Nat.zero_add _) ?_)))
 rw[nB]
 simp only[iR,h8,hh]
 rewrite[<-Array.toList_inj];refine m Array.toList_extract ?_
 unfold cd
 simp only[List.extract_eq_take_drop,List.drop_zero]
 cases x.cps.toList with
 |nil=>simp
 |cons a l=>simp
theorem AD {f:Nat->Nat} {l:List Nat} (h:∀c∈l,f c=c):l.map f=l:=by
 refine m (gr (g:=id) h) ?_;simp
theorem iV {p:ea} (h:p∈LT):nF (cd (gw p)=hK p) (cd (rd p)=mA p) (kJ (gw p)=true) (∀c∈mA p,ce (nI (h3 c)=c) (h3 c∈l5) (c∈l5)) (∀c∈hK p,hx (nI (h3 c)=c) (h3 (h3 c)=h3 c) (nI c=c) (h3 c∈l5)):=by
 have q:=d1.mp NZ p h
 unfold F4 at q
 simp only[iR,hh,d1,List.contains_iff_mem] at q
 obtain⟨⟨⟨⟨⟨aX,a5⟩,cu⟩,ej⟩,hf⟩,mW⟩:=q
 exact⟨aX,a5,cu,λc av=>⟨(mW c av).1,(mW c av).2,ej c av⟩,λc av=>⟨(hf c av).1.1.1,(hf c av).1.1.2,(hf c av).1.2,(hf c av).2⟩⟩
noncomputable def l7 (p:ea) (x:Str):Prop:=x=gw p∨x=jj (gw p)
theorem rq {p:ea} (h:p∈LT):cd (jj (gw p))=(hK p).map h3:=by
 obtain⟨aX,_,cu,_⟩:=iV h
 exact m (Fs cu) (m aX rfl)
theorem AL {p:ea} (h:p∈LT):kJ (jj (gw p))=true:=by
 refine m xx (m (rq h) ?_);rewrite[d1]
 intro c av
 obtain⟨bq,i6,rfl⟩:=bZ.mp av
 simpa using((iV h).5 bq i6).4
theorem oH {p:ea} (h:p∈LT) (I:l7 p x):dz x=gw p:=by
 obtain⟨aX,_,cu,_,hf⟩:=iV h
 apply wS
 rcases I with rfl|rfl
 ·refine m (zp cu) (m aX ?_)
  exact AD λc av=>(hf c av).3
 ·refine m (zp (AL h)) (m (rq h) (m aX (m c6 ?_)))
  exact AD λc av=>(hf c av).1
theorem P5 {p:ea} (h:p∈LT) (I:l7 p x):jj x=jj (gw p):=by
 rcases I with rfl|rfl
 ·rfl
 ·apply wS
  refine m (Fs (AL h)) (m (rq h) (m c6 ?_))
  exact gr λc av=>((iV h).5 c av).2
theorem zO {p:ea} (h:p∈LT):cd (gW p)=(mA p).map h3:=by
 unfold gW mA
 split
 ·refine m (Fj _ _) (m (rq h) (m dG ?_));rfl
 ·exact m (rq h) rfl
theorem AU {p:ea} (h:p∈LT):dz (gW p)=rd p:=by
 obtain⟨_,a5,_,ej,_⟩:=iV h
 apply wS
 have RE:kJ (gW p)=true:=by
  refine m xx (m (zO h) ?_);rewrite[d1]
  intro c av
  obtain⟨bq,i6,rfl⟩:=bZ.mp av
  simpa using(ej bq i6).2
 refine m (zp RE) (m (zO h) (m a5 (m c6 ?_)))
 exact AD λc av=>(ej c av).1
theorem uI {p:ea} (h:p∈LT):ke (gw p)=some (lT p):=by
 have:=d1.mp Mg p h
 simpa [D7] using this
theorem GC {p:ea} (h:p∈LT):ke (rd p)=some (lT p):=by
 have q:=d1.mp NR p h
 unfold FN at q
 cases e:(p.1&&!nz p) with
 |true=>rw[e] at q;simpa using q
 |false=>unfold rd;refine m e ?_;exact uI h
theorem pw {p:ea} (h:p∈LT):nF (p.2≠[]) (p.2.length<=3) (∀x∈p.2,PyData.strOk x=true) ((hK p).length<=20) (0 < (hK p).length):=by
 have q:=d1.mp Lr p h
 unfold FF at q
 simp only[iR,bne_iff_ne,h8,d1] at q
 obtain⟨⟨⟨⟨a,b⟩,c⟩,d⟩,e⟩:=q
 exact⟨a,b,c,d,e⟩
theorem DP:(l5.all λc=>decide (c < 0x110000))=true:=by decide
theorem At (h:kJ x=true):PyData.strOk x=true:=by
 unfold PyData.strOk
 refine a9 Array.all_toList ?_;rewrite[d1]
 intro c av
 have:=d1.mp h c av
 exact d1.mp DP c (by simpa using this)
theorem KS {p:ea} (h:p∈LT):kJ (gW p)=true/\kJ (rd p)=true:=by
 obtain⟨_,a5,_,ej,_⟩:=iV h
 constructor
 ·refine m xx (m (zO h) ?_);rewrite[d1]
  intro c av
  obtain⟨bq,i6,rfl⟩:=bZ.mp av
  simpa using(ej bq i6).2
 ·refine m xx (m a5 ?_);rewrite[d1]
  intro c av
  simpa using(ej c av).3
theorem Ek {p:ea} (h:p∈LT) (I:l7 p x):kJ x=true:=by
 rcases I with rfl|rfl
 ·exact(iV h).3
 ·exact AL h
theorem Pu {p:ea} (h:p∈LT):(mA p).length<=21:=by
 have:=(pw h).4
 unfold mA
 split
 ·refine m hE ?_;exact mN ‹_›
 ·exact ht ‹_›
theorem vn (x:Str):x.cps.size=(cd x).length:=by unfold cd;simp
theorem Oe {p:ea} (h:p∈LT) (I:l7 p x):uZ x:=by
 have e:=oH h I
 refine⟨by refine m e (m (uI h) ?_);rfl,?_,?_⟩
 ·refine m e ?_;rewrite[vn];refine m ((iV h).1) ?_;have:=(pw h).4;exact aK ‹_› (by decide)
 ·refine m e ?_;exact At (iV h).3
theorem Ps {p:ea} (h:p∈LT):uZ (gW p):=by
 have e:=AU h
 refine⟨by refine m e (m (GC h) ?_);rfl,?_,?_⟩
 ·refine m e ?_;rewrite[vn];refine m ((iV h).2) ?_;have:=Pu h;exact aK ‹_› (by decide)
 ·refine m e ?_;exact At (KS h).2
theorem zv {p q:ea} (af:p∈LT) (aS:q∈LT):ce (tg (hK p) (hK q) (lT p) (lT q)=(p==q||eO q p)) (tg (mA p) (hK q) (lT p) (lT q)=(p==q||eO q p)) ((hK p==hK q)=(p==q)):=by
 have:=d1.mp (d1.mp Ke p af) q aS
 unfold F3 at this
 simp only[iR,hh] at this
 exact⟨this.1.1,this.1.2,this.2⟩
theorem FR {a b:Str} {sc sd:Bool} (aF:ke (dz a)=some sc) (aA:ke (dz b)=some sd):gU a b=tg (cd (dz a)) (cd (dz b)) sc sd:=by
 unfold gU tg
 refine m aF (m aA (m (L6 _) (m (O3 _ _) (m (ME _ _) ?_))))
 have bS:(some sc==some false)=!sc:=by cases sc<;>rfl
 have bV:(some sd==some false)=!sd:=by cases sd<;>rfl
 refine m bS (m bV ?_);rfl
theorem Nh {p q:ea} (af:p∈LT) (aS:q∈LT) (I:l7 p x) (aJ:l7 q E):gU x E=(p==q||eO q p):=by
 refine m (FR (by refine m (oH af I) ?_;exact uI af) (by refine m (oH aS aJ) ?_;exact uI aS)) (m (oH af I) (m (oH aS aJ) (m ((iV af).1) (m ((iV aS).1) ?_))))
 exact(zv af aS).1
theorem Oy {p q:ea} (af:p∈LT) (aS:q∈LT) (aJ:l7 q E):gU (gW p) E=(p==q||eO q p):=by
 refine m (FR (by refine m (AU af) ?_;exact GC af) (by refine m (oH aS aJ) ?_;exact uI aS)) (m (AU af) (m (oH aS aJ) (m ((iV af).2) (m ((iV aS).1) ?_))))
 exact(zv af aS).2
theorem Oz {p q:ea} (af:p∈LT) (aS:q∈LT) (I:l7 p x) (aJ:l7 q x):p=q:=by
 have e:gw p=gw q:=by exact a9 (oH af I) (m (oH aS aJ) rfl)
 have:=(zv af aS).3
 rw[<-(iV af).1,<-(iV aS).1,e] at this
 simpa using this.symm
theorem sP {p:ea} (h:p∈LT) (I:l7 p x):ce (x.cps.size<=20) (0 < x.cps.size) (PyData.strOk x=true):=by
 have q:=pw h
 refine⟨?_,?_,At (Ek h I)⟩
 ·rw[vn]
  rcases I with rfl|rfl
  ·refine m ((iV h).1) ?_;exact q.4
  ·refine m (rq h) ?_;rewrite[bD];exact q.4
 ·rw[vn]
  rcases I with rfl|rfl
  ·refine m ((iV h).1) ?_;exact q.5
  ·refine m (rq h) ?_;rewrite[bD];exact q.5
noncomputable def cO.pt (r:cO):ea:=(r.dot,r.cM)
structure pN (r:cO):Prop where
 mem:r.pt∈LT
 txt:l7 r.pt r.text
theorem pN.ok (h:pN r):xV r:=by
 have q:=pw h.mem
 exact⟨q.1,q.2,q.3,(sP h.mem h.txt).3⟩
section
variable {k:Nat}
theorem We {Y:List Addr} {az:Str->Option PyData} {BG RF:Pos} {RG RH RI RJ RK:Nat} (R:b0 k D) (aa:cJ Q U Y o s az) (h:xV r) (O:H B A D Y o s e (dg r)):
  H B A D Y o s (.Compare (.Subscript (.Subscript e (.Constant (.int 2) RG BG) hR) (.UnaryOp .USub (.Constant (.int 1) RH hS) jU) ao) [.NotIn] [.Tuple [.Constant (.str "7") RI jV,.Constant (.str "77") RJ x5] RK A0] RF) (.bool (!p5 (jP r))):=by
 have cL:=h.cL
 have ao:0 < r.cM.length:=sR.mpr h.ne
 refine H.cmp aa.base (gO:=.str (jP r)) (ed:=.tuple [.str "7",.str "77"]) (H.sub (ag:=r.cM.map .str) (i:=-1) aa (H.rC aa O) (H.neg_int H.int) (by simp;exact s5.mpr ao) ⟨by decide,by simp;exact aK ‹_› (by decide)⟩ ?_)
   (H.tuple aa (bK.cons aa.base H.str (bK.cons aa.base H.str bK.nil))) (cH.notIn_tuple R (gp ?_) ?_ ?_)
 ·have:placeAt (-1) (r.cM.map PyData.str).length=r.cM.length - 1:=by
   unfold placeAt;simp;exact zH ao
  refine m this (m fm ?_)
  unfold jP
  refine m s7 (m List.getLast?_eq_getElem? ?_)
  refine m (d4 (by exact Nat.sub_lt ao Nat.one_pos)) ?_;rfl
 ·unfold jP
  refine m s7 (m (zy h.ne) ?_)
  exact h.ok _ (List.getLast_mem _)
 ·exact⟨by decide+kernel,by decide+kernel⟩
 ·unfold p5
  generalize jP r=x
  simp only[List.any_cons,List.any_nil,PyData.eqv,Bool.or_false,ps]
  exact m (s2 (a:=Str.ofString "7")) (m (s2 (a:=Str.ofString "77")) rfl)
noncomputable def O4:List (Str×NameKind):=[("rule",.local)]
theorem Mq (R:b0 (k+1) D) (h:pN r):nA B A D Q U (.ref 210) [dg r] (.str (gW r.pt)):=by
 refine pB O4 ["rule"] R (λ_ C=>C.q8) rfl rfl rfl rfl (λbs cd J bn=>?_) rfl (by decide) (by decide) (λY ak o s al av C c9=>?_)
 ·obtain⟨a,rfl⟩:=uM bn;rfl
 have aa:=C.aI
 have fC:=P5 h.mem h.txt
 have dn:=sP h.mem (.inr rfl)
 have ar:(jj r.text).cps.size<=1000:=by refine m fC ?_;have aX:=dn.1;have a5:=dn.2;have cu:=dn.3;exact aK ‹_› (by decide)
 refine fF C (c:=r.dot&&(!p5 (jP r)&&true)) (bL.and (bL.val (H.DT aa (H.name aa rfl)) iW.bool) λ_=>bL.and ?_ λ_=>bL.and_nil) λy a4=>?_
 ·refine bL.cmp aa.base (gO:=.str (jP r)) (ed:=.tuple [.str "7",.str "77"]) (H.sub (ag:=r.cM.map .str) (i:=-1) aa (H.rC aa (H.name aa rfl)) (H.neg_int H.int) ?_ ?_ ?_) (H.tuple aa (bK.cons aa.base H.str (bK.cons aa.base H.str bK.nil))) (cH.notIn_tuple c9 (gp ?_) ?_ ?_)
  ·have:=h.ok.cL;have:=sR.mpr h.ok.ne;simp;exact s5.mpr this
  ·have:=h.ok.cL;exact⟨by decide,by simp;exact aK ‹_› (by decide)⟩
  ·have ao:=sR.mpr h.ok.ne
   have:placeAt (-1) (r.cM.map PyData.str).length=r.cM.length - 1:=by
    unfold placeAt;simp;exact zH ao
   refine m this (m fm ?_)
   unfold jP
   refine m s7 (m List.getLast?_eq_getElem? ?_)
   refine m (d4 (by exact Nat.sub_lt ao Nat.one_pos)) ?_;rfl
  ·unfold jP
   refine m s7 (m (zy h.ok.ne) ?_)
   exact h.ok.ok _ (List.getLast_mem _)
  ·exact⟨by decide+kernel,by decide+kernel⟩
  ·unfold p5
   generalize jP r=x
   simp only[List.any_cons,List.any_nil,PyData.eqv,Bool.or_false,ps]
   exact m (s2 (a:=Str.ofString "7")) (m (s2 (a:=Str.ofString "77")) rfl)
 have bf:=a4.aI
 have se:p5 (jP r)=nz r.pt:=rfl
 have nf:r.dot=r.pt.1:=rfl
 refine m (pT _) (m se (m nf ?_))
 unfold gW
 cases e:(r.pt.1&&!nz r.pt) with
 |true=>
  simp only[fv]
  refine hv a4 (H.bin bf H.str (H.upper (H.zo bf (H.name bf rfl)) ar) ?_) λv cs fP r=>fP.ends r
  refine m fC ?_
  refine eU.add_str (by decide+kernel) (λq=>?_) ?_
  ·have:=dn.2
   have q:(jj (gw r.pt)).cps.size=0:=q
   simp_all
  ·rewrite[xk,Fj];refine m ib (m dR ?_)
   have bS:(cd ("W":Str)).length=1:=by decide+kernel
   have:=dn.1
   rw[vn] at this
   exact c2 (iv (di bS) this)
 |false=>
  simp only[fx,fd]
  refine b8 (hv a4 ?_ λv cs fP r=>fP.ends r)
  refine a9 fC ?_
  exact H.upper (H.zo bf (H.name bf rfl)) ar
end
noncomputable def bases:List Int:=[2320,2002,2020,1000,30,3020]
noncomputable def AM (bw:List Int) (k:Nat):Nat:=((bases.getD k 0+(iz bw (some k) none (some 6)).sum).fmod 10000).toNat
noncomputable def uK (n:Nat):Str:=us.getD n ""
noncomputable def ji (cM:List Str) (n:Nat):List Str:=if n % 4≠0 then uK (n % 4 - 1)::cM else cM
noncomputable def h2 (c:Nat):List Str:=ji (ji [m1.getD (c % 10 % 4) ""] (c / 10 % 10)) (c / 100 % 10)
noncomputable def iQ (c:Nat):Bool:=c / 1000 % 3 !=0
noncomputable def oP (c:Nat):ea:=(iQ c,h2 c)
noncomputable def lb (c:Nat):cO:=⟨if c / 1000 % 2=1 then jj (gw (oP c)) else gw (oP c),iQ c,h2 c⟩
noncomputable def px (BL:List cO) (r:cO):List cO:=if BL.any (λq=>q.dot==r.dot&&decide (q.cM=r.cM)) then BL else BL++[r]
noncomputable def eM (bw:List Int):Nat->List cO
 |0=>[]
 |k+1=>px (eM bw k) (lb (AM bw k))
noncomputable def sM (bw:List Int):List cO:=eM bw 6
theorem DQ (c:Nat):oP c∈LT:=by
 have key:∀(d:Bool) (a b e:Nat),a < 4->b < 4->e < 4->((d,ji (ji [m1.getD a ""] b) e):ea)∈LT:=by
  have:(([false,true].all λd=>(List.range 4).all λa=>(List.range 4).all λb=>(List.range 4).all λe=>LT.contains ((d,ji (ji [m1.getD a ""] b) e):ea))=true):=by decide+kernel
  intro d a b e aF aA al
  have q:=d1.mp this d (by cases d<;>simp)
  have q:=d1.mp q a (hL.mpr aF)
  have q:=d1.mp q b (hL.mpr aA)
  have q:=d1.mp q e (hL.mpr al)
  exact List.contains_iff_mem.mp q
 have bS:∀l n,ji l n=ji l (n % 4):=λl n=>by unfold ji;exact m (Nat.mod_mod _ _) rfl
 unfold oP h2
 refine m (bS _ (c / 100 % 10)) (m (bS _ (c / 10 % 10)) ?_)
 exact key _ _ _ _ (Nat.mod_lt _ (by decide)) (Nat.mod_lt _ (by decide)) (Nat.mod_lt _ (by decide))
theorem Ph (c:Nat):pN (lb c):=by
 refine⟨DQ c,?_⟩
 unfold lb
 by_cases h:c / 1000 % 2=1
 ·simp only[b3 h];exact .inr rfl
 ·simp only[bI h];exact .inl rfl
theorem vk (bw:List Int):∀k,ce (∀r∈eM bw k,pN r) ((eM bw k).length<=k) (((eM bw k).map cO.pt).Nodup)
 |0=>⟨λr h=>(b9 h).elim,cG _,hM⟩
 |k+1=>by
  obtain⟨aX,a5,cu⟩:=vk bw k
  show ce (∀r∈px _ _,pN r) ((px _ _).length<=k+1) (((px _ _).map cO.pt).Nodup)
  unfold px
  split
  ·exact⟨aX,by exact ht ‹_›,cu⟩
  ·rename_i au
   refine⟨λr aV=>?_,by simp;exact a5,?_⟩
   ·rcases df.mp aV with aV|aV
    ·exact aX r aV
    ·refine m (cn.mp aV) ?_;exact Ph _
   ·refine m d3 ?_;rewrite[ia]
    refine⟨cu,by simp,λa aF b aA=>?_⟩
    rw[dG,List.map_nil,cn] at aA
    subst aA
    rintro rfl
    obtain⟨r,aV,e⟩:=bZ.mp aF
    refine au (List.any_eq_true.mpr ⟨r,aV,?_⟩)
    have bS:=iw Prod.fst e
    have bV:=iw Prod.snd e
    simp only[cO.pt] at bS bV
    refine m bS (m bV ?_);simp
theorem zJ (ag:List Str):PyData.depthAll (ag.map .str)=0:=by
 induction ag with
 |nil=>simp[PyData.depthAll]
 |cons x ag ih=>simp[PyData.depthAll,PyData.depth,ih]
theorem GD (r:cO):(dg r).depth=2:=by
 unfold dg
 simp[PyData.depth,PyData.depthAll,zJ]
theorem MH (h:pN r):low (dg r):=by
 have ok:=h.ok
 have a:=kc ok.ok
 have b:=gp ok.MU
 refine⟨?_,?_⟩
 ·unfold dg
  simp only[PyData.canLay0,PyData.canLayAll0,pT,iR]
  exact⟨by simpa [PyData.canLay0] using b.1,trivial,by simpa [PyData.canLay0] using a.1⟩
 ·rw[GD];decide
theorem ot (h:∀x∈ag,low x/\x.depth<=19):low (.list ag):=by
 have:PyData.canLayAll0 ag=true/\PyData.depthAll ag<=19:=by
  induction ag with
  |nil=>simp[PyData.canLayAll0,PyData.depthAll]
  |cons x ag ih=>
   have a:=h x (.head _)
   have b:=ih λE aJ=>h E (.tail _ aJ)
   simp only[PyData.canLayAll0,PyData.depthAll,a.1.1,b.1,Bool.and_self,true_and]
   have:=a.2;have:=b.2
   exact Nat.max_le.mpr ⟨by assumption,this⟩
 exact⟨by simpa [PyData.canLay0] using this.1,by simp only[PyData.depth];simp_all⟩
theorem hC (i:Int):low (.int i):=⟨by simp[PyData.canLay0],by simp[PyData.depth]⟩
noncomputable def EF (p:ea):Bool:=decide (((if p.1 then("":Str)::p.2 else p.2).toArray.foldl (λ(n:Nat) (x:Str)=>n+x.length+((".":Str)).length) 0)<=1000)
theorem Kz:LT.all EF=true:=by decide+kernel
noncomputable def JV:List Stmt:=dV ((dV ((dV (dh 18)).getD 1 (.Pass ⟨0,0,0,0⟩))).getD 2 (.Pass ⟨0,0,0,0⟩))
noncomputable def Pd:List Stmt:=(dV ((dV (dh 18)).getD 1 (.Pass ⟨0,0,0,0⟩))).drop 6
noncomputable def Ag (d:Bool) (cM:List Str):PyData:=.list [.bool d,.list (cM.map .str)]
noncomputable def x3 (d:Bool) (cM:List Str) (x:PyData):Bool:=PyData.eqv (.list (iz (items x) (some 1) none none)) (Ag d cM)
theorem FK (r:cO):iz (items (dg r)) (some 1) none none=[.bool r.dot,.list (r.cM.map .str)]:=by
 refine m (xr _ _ _) ?_;rfl
theorem Oi (d:Bool) (cM:List Str) (r:cO):x3 d cM (dg r)=(r.dot==d&&decide (r.cM=cM)):=by
 unfold x3 Ag
 refine m (FK _) ?_
 simp only[PyData.eqv,PyData.eqvAll,zG,pT]
theorem EC (d:Bool) {cM:List Str} (h:∀x∈cM,PyData.strOk x=true):low (Ag d cM):=by
 have a:=kc h
 refine ot λx I=>?_
 rcases bP.mp I with rfl|I
 ·exact⟨⟨by simp[PyData.canLay0],by simp[PyData.depth]⟩,by simp[PyData.depth]⟩
 ·refine m (cn.mp I) ?_
  exact⟨a,by simp[PyData.depth,zJ]⟩
section
variable {k:Nat}
noncomputable def O5:List (Str×NameKind):=[("script",.local),("rules",.local),("k",.local),("cell",.local),("labels",.cell),("size",.local),("dotted",.cell),("text",.local),("range",.globalImplicit),("sum",.globalImplicit)]
theorem K2 (R:b0 (k+1) D) (bw:List Int) (ar:bw.length<=63):nA B A D Q U (.ref 203) [.list (bw.map .int)] (.list ((sM bw).map dg)):=by
 refine pB O5 ["script"] R (λ_ C=>C.rE) rfl rfl rfl rfl (λbs cd J bn=>?_) rfl (by decide) (by decide) (λY ak o s al bG C c9=>?_)
 ·obtain⟨a,rfl⟩:=uM bn;rfl
 have av:=bG.1
 have bj:(D.deeper s).handled=Option.none:=c9.h
 refine oI C (jr.list C.aI bK.nil) (.inl (a8 al rfl)) λO aj cW bc=>?_
 have bc:=bc.norm [(O,.lst [])] [("script",.list (bw.map .int))] [("rules",.ref O)] rfl ⟨rfl,trivial⟩ ⟨rfl,trivial⟩
 refine mY bc (H.range bc.aI (a8 al rfl) H.int) (.range 6 (by decide)) (.inl (a8 al rfl)) bj
  (λi K=>K={L:=[(O,.lst ((eM bw i).map dg))],az:=dl [("script",.list (bw.map .int))],bO:=dl [("rules",.ref O)]}) rfl ?_ ?_
 ·intro i eC K ae v aB cD jb fR aH d8 aQ
  subst d8
  rw[og] at aH
  have bU:i < 6:=by have:=(gL.mp aH).1;simpa using this
  have qj:eC=.int i:=by simpa [bU] using aH.symm
  subst qj
  have cV:=aQ.aI
  generalize HA:AM bw i=c
  have gs:((c:Nat):Int)=(bases.getD i 0+(iz bw (some i) none (some 6)).sum).fmod 10000:=by
   refine a9 HA ?_;unfold AM
   exact Int.toNat_of_nonneg (Int.fmod_nonneg_of_pos _ (by decide))
  have WA:∀(a b:Nat),(a:Int).fmod (b:Int)=((a % b:Nat):Int):=E0
  refine gA aQ (d:=.int c) ?_ (.inl (a8 al rfl)) λax bh=>?_
  ·refine m gs ?_
   refine H.bin cV (H.bin cV (gO:=.int (bases.getD i 0)) (ed:=.int (iz bw (some i) none (some 6)).sum) ?_ ?_ eU.add_int) H.int (eU.mod_int (by decide))
   ·refine H.sub (ag:=bases.map .int) cV (H.list cV (bK.cons cV.base H.int (bK.cons cV.base H.int (bK.cons cV.base H.int (bK.cons cV.base H.int (bK.cons cV.base H.int (bK.cons cV.base H.int bK.nil))))))) (H.name cV rfl) (by simp) ⟨by exact Int.ofNat_lt.mpr (Nat.lt_succ_of_le (aK (i0 bU) (by decide))),by decide⟩ ?_
    have:placeAt i (bases.map PyData.int).length=i:=by unfold placeAt;refine m (bI (by simp)) ?_;rfl
    refine m this (m fm (m (d4 (by simpa [bases] using bU)) (m jp (m (d4 (by simpa [bases] using bU)) ?_))))
    rfl
   ·refine H.sum cV bj (a8 al rfl) ?_
    rw[<-ES]
    exact H.slice cV (H.name cV rfl) (hA.some (H.name cV rfl)) hA.none (hA.some (Y:=[]) H.int) (by decide) (by rw[bD];exact aK ‹_› (by decide))
  have bh:=bh.e3 [(ae,.own (bk v (dB 6) (i+1))),(O,.lst ((eM bw i).map dg))] [(v,dB 6)] [("script",.list (bw.map .int)),("cell",.int c)] [("rules",.ref O)] rfl ⟨.head _,trivial⟩ ⟨rfl,rfl,trivial⟩ ⟨rfl,trivial⟩
  have eS:=bh.aI
  refine gA bh (d:=.list ([m1.getD (c % 10 % 4) ""].map .str)) ?_ (.inr ⟨a8 al rfl,_,by refine m av ?_;rfl,hb _⟩) λb2 be=>?_
  ·refine H.list eS (bK.cons eS.base (H.Fp (ag:=m1.map .str) (i:=(c % 10 % 4:Nat)) eS (H.tuple eS (bK.cons eS.base H.str (bK.cons eS.base H.str (bK.cons eS.base H.str (bK.cons eS.base H.str bK.nil))))) ?_ (by exact Int.natCast_nonneg (c % 10 % 4)) (by exact Int.ofNat_lt.mpr (cz (Nat.mod_lt _ (by decide)) (by decide))) ?_) bK.nil)
   ·exact H.bin eS (H.bin eS (H.name eS rfl) H.int (eU.pY (b:=10) rfl (by decide))) H.int (eU.pY (b:=4) rfl (by decide))
   ·have ej:c % 10 % 4 < 4:=Nat.mod_lt _ (by decide)
    generalize c % 10 % 4=ab at ej
    refine m (show((ab:Nat):Int).toNat=ab from rfl) (m fm (m jp ?_))
    have:ab < m1.length:=ej
    refine m (d4 this) ?_;rfl
  have be:=be.e3 [(ae,.own (bk v (dB 6) (i+1))),(O,.lst ((eM bw i).map dg))] [(v,dB 6)] [("script",.list (bw.map .int)),("cell",.int c),("labels",.list ([m1.getD (c % 10 % 4) ""].map .str))] [("rules",.ref O)] rfl ⟨.head _,trivial⟩ ⟨rfl,rfl,rfl,trivial⟩ ⟨rfl,trivial⟩
  have g5:=be.aI
  refine mY be (H.tuple g5 (bK.cons g5.base H.int (bK.cons g5.base H.int bK.nil))) (.tuple _) (.inl (a8 al rfl)) bj
   (λj K=>K={L:=[(ae,.own (bk v (dB 6) (i+1))),(O,.lst ((eM bw i).map dg))],R:=[(v,dB 6)],az:=dl [("script",.list (bw.map .int)),("cell",.int c),("labels",.list ((match j with|0=>[m1.getD (c % 10 % 4) ""]|1=>ji [m1.getD (c % 10 % 4) ""] (c / 10 % 10)|_=>h2 c).map .str))],bO:=dl [("rules",.ref O)]}) rfl ?_ ?_
  ·have turn:∀(eB:Nat) (cM:List Str) (HB:cM.length<=5) (j:Nat) (ct:Addr) (gg:Value) (cm:Shared) (n0:Value->Shared->Prop) (G:Flow->Shared->Prop),eB=10∨eB=100->
     aw Q U Y [] ak s ((bd.it {L:=[(ae,.own (bk v (dB 6) (i+1))),(O,.lst ((eM bw i).map dg))],R:=[(v,dB 6)],az:=dl [("script",.list (bw.map .int)),("cell",.int c),("labels",.list (cM.map .str))],bO:=dl [("rules",.ref O)]} ct gg (.tuple [.int 10,.int 100]) (j+1)).set "size" (.int eB)) cm->
     (∀y,aw Q U Y [] ak s (bd.it {L:=[(ae,.own (bk v (dB 6) (i+1))),(O,.lst ((eM bw i).map dg))],R:=[(v,dB 6)],az:=dl [("script",.list (bw.map .int)),("cell",.int c),("labels",.list ((ji cM (c / eB % 10)).map .str))],bO:=dl [("rules",.ref O)]} ct gg (.tuple [.int 10,.int 100]) (j+1)) y->G .next y)->
     bl B A (D.deeper s) JV s G n0 cm:=by
    intro eB cM HB j ct gg cm n0 G i8 bJ dt
    have ee:=bJ.aI
    have af:∀x:Int,Builtin.divisionGoesByPylong x eB=false:=λx=>by rcases i8 with rfl|rfl<;>rfl
    have et:eB≠0:=by rcases i8 with rfl|rfl<;>decide
    refine fF bJ (c:=decide (c / eB % 10 % 4≠0)) (bL.cmp (eP:=[]) ee.base (gO:=.int (c / eB % 10 % 4:Nat)) (H.bin ee (H.bin ee (H.bin ee (H.name ee rfl) (H.name ee rfl) (eU.wV rfl et (af _))) H.int (eU.pY (b:=10) rfl (by decide))) H.int (eU.pY (b:=4) rfl (by decide))) H.int
     (cH.ne c9 (hC _) (hC _) ?_)) λds b6=>?_
    ·show(((c / eB % 10 % 4:Nat):Int)==0)=!decide (c / eB % 10 % 4≠0)
     by_cases h:c / eB % 10 % 4=0
     ·refine m h ?_;rfl
     ·refine m (hz h) (m Bool.not_true ?_);rewrite[iG];exact Int.ofNat_ne_zero.mpr h
    by_cases h:c / eB % 10 % 4=0
    ·have:decide (c / eB % 10 % 4≠0)=false:=by simp[h]
     refine m this ?_
     have e:ji cM (c / eB % 10)=cM:=by unfold ji;exact m (bI (by simpa using h)) rfl
     refine b8 (b8 ?_)
     rw[e] at dt
     exact dt ds (b6.e3 [(ct,.own (bk gg (.tuple [.int 10,.int 100]) (j+1))),(ae,.own (bk v (dB 6) (i+1))),(O,.lst ((eM bw i).map dg))] [(gg,.tuple [.int 10,.int 100]),(v,dB 6)] [("script",.list (bw.map .int)),("cell",.int c),("labels",.list (cM.map .str))] [("rules",.ref O)] rfl ⟨.head _,.tail _ (.head _),trivial⟩ ⟨rfl,rfl,rfl,trivial⟩ ⟨rfl,trivial⟩)
    ·have:decide (c / eB % 10 % 4≠0)=true:=by simp[h]
     refine m this ?_
     have e:ji cM (c / eB % 10)=uK (c / eB % 10 % 4 - 1)::cM:=by unfold ji;exact m (b3 h) rfl
     have gi:=b6.aI
     have cu:c / eB % 10 % 4 < 4:=Nat.mod_lt _ (by decide)
     rw[e] at dt
     refine gA b6 (d:=.list ([.str (uK (c / eB % 10 % 4 - 1))]++cM.map .str)) ?_ (.inr ⟨a8 al rfl,_,by refine m av ?_;rfl,hb _⟩) λfK c1=>b8 (b8 (dt fK (c1.e3 [(ct,.own (bk gg (.tuple [.int 10,.int 100]) (j+1))),(ae,.own (bk v (dB 6) (i+1))),(O,.lst ((eM bw i).map dg))] [(gg,.tuple [.int 10,.int 100]),(v,dB 6)] [("script",.list (bw.map .int)),("cell",.int c),("labels",.list ((uK (c / eB % 10 % 4 - 1)::cM).map .str))] [("rules",.ref O)] rfl ⟨.head _,.tail _ (.head _),trivial⟩ ⟨rfl,rfl,rfl,trivial⟩ ⟨rfl,trivial⟩)))
     refine H.add_list gi (H.list gi (bK.cons gi.base (H.Fp (ag:=us.map .str) (i:=(c / eB % 10 % 4:Nat) - 1) gi (H.tuple gi (bK.cons gi.base H.str (bK.cons gi.base H.str (bK.cons gi.base H.str bK.nil))))
      (H.bin gi (gO:=.int (c / eB % 10 % 4:Nat)) (H.bin gi (H.bin gi (H.bin gi (H.name gi rfl) (H.name gi rfl) (eU.wV rfl et (af _))) H.int (eU.pY (b:=10) rfl (by decide))) H.int (eU.pY (b:=4) rfl (by decide))) H.int eU.sub_int) (by exact Int.sub_nonneg_of_le (s5.mpr (Nat.pos_of_ne_zero h))) (by exact Int.lt_of_le_of_lt (Int.sub_le_self _ (by decide)) (Int.ofNat_lt.mpr (cz cu (by decide)))) ?_) bK.nil)) (H.name gi rfl) (by simp;exact c2 (iv (cG _) HB))
     generalize c / eB % 10 % 4=ab at h cu
     have qw:((ab:Int) - 1).toNat=ab - 1:=by simp
     refine m qw (m fm ?_)
     have hm:ab - 1 < us.length:=by show ab - 1 < 3;exact Nat.sub_lt_right_of_lt_add (Nat.pos_of_ne_zero h) cu
     unfold uK
     refine m jp (m (d4 hm) ?_);rfl
   intro j yp K ct gg cm n0 HC qx bv d8 bJ
   subst d8
   have cB:(ji [m1.getD (c % 10 % 4) ""] (c / 10 % 10)).length<=5:=by
    unfold ji;split<;>simp
   match j,bv with
   |0,bv=>
    have I:PyData.int 10=yp:=m4 bv
    subst I
    exact turn 10 _ (by simp) 0 ct gg cm n0 _ (.inl rfl) bJ λy a4=>qx _ _ ⟨_,rfl,a4⟩
   |1,bv=>
    have I:PyData.int 100=yp:=m4 bv
    subst I
    exact turn 100 _ cB 1 ct gg cm n0 _ (.inr rfl) bJ λy a4=>qx _ _ ⟨_,rfl,a4⟩
   |j+2,bv=>exact nomatch bv
  ·intro K cm n0 d8 bJ
   subst d8
   refine b8 ?_
   have bJ:=bJ.e3 [(ae,.own (bk v (dB 6) (i+1))),(O,.lst ((eM bw i).map dg))] [(v,dB 6)] [("script",.list (bw.map .int)),("cell",.int c),("labels",.list ((h2 c).map .str))] [("rules",.ref O)] rfl ⟨.head _,trivial⟩ ⟨rfl,rfl,rfl,trivial⟩ ⟨rfl,trivial⟩
   have ee:=bJ.aI
   refine gA bJ (d:=.bool (iQ c)) (H.cmp ee.base (gO:=.int (c / 1000 % 3:Nat)) (H.bin ee (H.bin ee (H.name ee rfl) H.int (eU.wV (b:=1000) rfl (by decide))) H.int (eU.pY (b:=3) rfl (by decide))) H.int (cH.ne c9 (hC _) (hC _) ?_)) (.inr ⟨a8 al rfl,_,by refine m av ?_;rfl,is (hb _)⟩) λds b6=>?_
   ·show(((c / 1000 % 3:Nat):Int)==0)=!iQ c
    unfold iQ
    by_cases h:c / 1000 % 3=0
    ·refine m h ?_;rfl
    ·refine m (bne_iff_ne.mpr h) (m Bool.not_true ?_);rewrite[iG];exact Int.ofNat_ne_zero.mpr h
   have mem:=DQ c
   have gi:=b6.aI
   have cL:=sP mem (.inl rfl)
   have cI:(h2 c).length<=3:=(pw mem).2
   refine gA b6 (d:=.str (gw (oP c))) (H.join (ag:=if iQ c then("":Str)::h2 c else h2 c) H.str (H.xu (c:=iQ c) (bL.val (H.name gi rfl) iW.bool) (λh=>?_) λh=>?_) ?_ ?_) (.inl (a8 al rfl)) λfK c1=>?_
   ·refine m h ?_
    exact H.add_list (ag:=[.str ""]) gi (H.list gi (bK.cons gi.base H.str bK.nil)) (H.name gi rfl) (by simp;exact c2 (iv (cG _) cI))
   ·refine m h ?_;exact H.name gi rfl
   ·have:=d1.mp Kz _ mem
    unfold EF at this
    exact Ae (oc this)
   ·exact aK cL.1 (by decide)
   have vN:∀(gS:Shared) (ci:Str) (G:Flow->Shared->Prop) (M:Value->Shared->Prop),ci=(lb c).text->aw Q U Y [] ak s {L:=[(ae,.own (bk v (dB 6) (i+1))),(O,.lst ((eM bw i).map dg))],R:=[(v,dB 6)],az:=dl [("script",.list (bw.map .int)),("labels",.list ((h2 c).map .str)),("dotted",.bool (iQ c)),("text",.str ci)],bO:=dl [("rules",.ref O)]} gS->
     (∀y,aw Q U Y [] ak s (bd.it {L:=[(O,.lst ((eM bw (i+1)).map dg))],az:=dl [("script",.list (bw.map .int))],bO:=dl [("rules",.ref O)]} ae v (dB 6) (i+1)) y->G .next y)->bl B A (D.deeper s) Pd s G M gS:=by
    intro gS ci G M RL cS dt
    have vS:=vk bw i;have HD:=vS.2
    have vT:=cS.pD (x:="rules") (O:=O) (aM:=(eM bw i).map dg) rfl (.tail _ (.head _))
    have ok:∀x∈h2 c,PyData.strOk x=true:=(pw mem).3
    have HE:(((eM bw i).map dg).filter (x3 (iQ c) (h2 c))).map id=((eM bw i).filter (λr=>r.dot==iQ c&&decide (r.cM=h2 c))).map dg:=by
     refine m (oC _) (m nC ?_)
     congr 1
     exact tu λr _=>Oi _ _ r
    refine fF cS (c:=((eM bw i).filter (λr=>r.dot==iQ c&&decide (r.cM=h2 c))).isEmpty) (bL.cmp (eP:=[]) vT.base (f0.ou vT (h5 (λx=>[("rule",x)]) (x3 (iQ c) (h2 c)) id vT bj al rfl rfl (by refine m av ?_;rfl) (H.name vT rfl) (.list _) (by show((eM bw i).map dg).length<=1000;rw[bD];exact c2 (aK HD (i0 bU))) (by intro _;rfl)
     (λaY bG x I=>fp.name (.inl (a8 bG.names rfl))) (λx I q aS=>by refine m (cn.mp aS) ?_;rfl)
     (λaY bG x I eP y _ bf=>?_))) (H.list vT bK.nil) (cH.eq c9 ?_ ?_ ?_)) λgG cT=>?_
    ·obtain⟨r,aV,rfl⟩:=bZ.mp I
     refine⟨fk.one (bL.cmp bf.base (H.slice (ag:=items (dg r)) bf (H.name bf rfl) (hA.some (Y:=[]) H.int) hA.none hA.none (by decide) (by show 3<=1000;decide)) (H.list bf (bK.cons bf.base (H.name bf rfl) (bK.cons bf.base (H.name bf rfl) bK.nil))) (cH.eq c9 ?_ (EC _ ok) rfl)),λ_=>H.name bf rfl⟩
     rw[FK]
     exact EC _ (vS.1 r aV).ok.ok
    ·refine m (show items (.list ((eM bw i).map dg))=(eM bw i).map dg from rfl) (m HE ?_)
     refine ot λx I=>?_
     obtain⟨r,aV,rfl⟩:=bZ.mp I
     exact⟨MH (vS.1 r (eY.mp aV).1),by rw[GD];decide⟩
    ·exact ot λx I=>by cases I
    ·refine m (show items (.list ((eM bw i).map dg))=(eM bw i).map dg from rfl) (m HE ?_)
     cases (eM bw i).filter (λr=>r.dot==iQ c&&decide (r.cM=h2 c)) with
     |nil=>simp[PyData.eqv,PyData.eqvAll]
     |cons a l=>simp[PyData.eqv,PyData.eqvAll]
    have tS:eM bw (i+1)=px (eM bw i) (lb c):=by refine a9 HA ?_;rfl
    have yq:(eM bw i).any (λq=>q.dot==(lb c).dot&&decide (q.cM=(lb c).cM))=!((eM bw i).filter (λr=>r.dot==iQ c&&decide (r.cM=h2 c))).isEmpty:=by
     rewrite[nB,List.any_eq_true];refine m (lX _) ?_;rewrite[List.isEmpty_eq_false_iff,<-sR,List.length_pos_iff_exists_mem]
     simp only[eY]
     rfl
    cases qw:((eM bw i).filter (λr=>r.dot==iQ c&&decide (r.cM=h2 c))).isEmpty with
    |true=>
     rw[qw,Bool.not_true] at yq
     have tS:eM bw (i+1)=eM bw i++[lb c]:=by refine m tS ?_;unfold px;refine m yq ?_;rfl
     have sf:=cT.aI
     refine vm (bz:=[(ae,.own (bk v (dB 6) (i+1)))]) (bY:=[]) cT rfl rfl (d:=dg (lb c)) ?_ (by simp;exact c2 (aK HD (i0 bU))) λy a4=>b8 (b8 (dt y ?_))
     ·have e:dg (lb c)=.list [.str ci,.bool (iQ c),.list ((h2 c).map .str)]:=by refine m RL ?_;rfl
      refine m e ?_
      exact H.list sf (bK.cons sf.base (H.name sf rfl) (bK.cons sf.base (H.name sf rfl) (bK.cons sf.base (H.name sf rfl) bK.nil)))
     ·refine m tS (m d3 ?_)
      exact a4.e3 [(ae,.own (bk v (dB 6) (i+1))),(O,.lst ((eM bw i).map dg++[dg (lb c)]))] [(v,dB 6)] [("script",.list (bw.map .int))] [("rules",.ref O)] rfl ⟨.head _,trivial⟩ ⟨rfl,trivial⟩ ⟨rfl,trivial⟩
    |false=>
     rw[qw,Bool.not_false] at yq
     have tS:eM bw (i+1)=eM bw i:=by refine m tS ?_;unfold px;refine m yq ?_;rfl
     refine b8 (b8 (dt gG ?_))
     refine m tS ?_
     exact cT.e3 [(ae,.own (bk v (dB 6) (i+1))),(O,.lst ((eM bw i).map dg))] [(v,dB 6)] [("script",.list (bw.map .int))] [("rules",.ref O)] rfl ⟨.head _,trivial⟩ ⟨rfl,trivial⟩ ⟨rfl,trivial⟩
   have hr:=c1.aI
   refine fF c1 (c:=decide (c / 1000 % 2=1)) (bL.cmp (eP:=[]) hr.base (gO:=.int (c / 1000 % 2:Nat)) (H.bin hr (H.bin hr (H.name hr rfl) H.int (eU.wV (b:=1000) rfl (by decide))) H.int (eU.pY (b:=2) rfl (by decide))) H.int (cH.eq c9 (hC _) (hC _) ?_)) λgS cS=>?_
   ·show(((c / 1000 % 2:Nat):Int)==1)=decide (c / 1000 % 2=1)
    by_cases h:c / 1000 % 2=1
    ·refine m h ?_;rfl
    ·refine m (jT h) ?_;rewrite[iG];simp_all
   have fin:∀y,aw Q U Y [] ak s (bd.it {L:=[(O,.lst ((eM bw (i+1)).map dg))],az:=dl [("script",.list (bw.map .int))],bO:=dl [("rules",.ref O)]} ae v (dB 6) (i+1)) y->∃bH,bH=({L:=[(O,.lst ((eM bw (i+1)).map dg))],az:=dl [("script",.list (bw.map .int))],bO:=dl [("rules",.ref O)]}:bd)/\aw Q U Y [] ak s (bH.it ae v (dB 6) (i+1)) y:=λy C=>⟨_,rfl,C⟩
   by_cases h:c / 1000 % 2=1
   ·refine m (hz h) ?_
    have RM:=cS.aI
    have RN:=sP mem (.inr rfl)
    refine gA cS (H.upper (H.name RM rfl) (aK RN.1 (by decide))) (.inl (a8 al rfl)) λgG cT=>b8 ?_
    refine vN gG (jj (gw (oP c))) _ _ (by unfold lb;exact m (b3 h) rfl) (cT.e3 _ _ [("script",.list (bw.map .int)),("labels",.list ((h2 c).map .str)),("dotted",.bool (iQ c)),("text",.str (jj (gw (oP c))))] [("rules",.ref O)] rfl ⟨.head _,trivial⟩ ⟨rfl,rfl,rfl,rfl,trivial⟩ ⟨rfl,trivial⟩) λy a4=>fR _ _ (fin y a4)
   ·refine m (jT h) ?_
    refine b8 ?_
    refine vN gS (gw (oP c)) _ _ (by unfold lb;exact m (bI h) rfl) (cS.e3 _ _ [("script",.list (bw.map .int)),("labels",.list ((h2 c).map .str)),("dotted",.bool (iQ c)),("text",.str (gw (oP c)))] [("rules",.ref O)] rfl ⟨.head _,trivial⟩ ⟨rfl,rfl,rfl,rfl,trivial⟩ ⟨rfl,trivial⟩) λy a4=>fR _ _ (fin y a4)
 ·intro K aB cD d8 aQ
  subst d8
  have cW:O∉Y:=λq=>cW O (ez _ q) rfl
  have jv:=aQ.freeze (a:=O) (L:=[]) rfl cW
  have bh:=(aQ.drop (L:=[]) rfl).uA (x:="rules") (aQ.dP "rules" _ rfl) jv
  refine b8 (hv bh (H.name bh.aI rfl) λv cs fP r=>?_)
  have e:=fP.ends r
  rwa [show(items (dB 6)).length=6 from rfl] at e
end
noncomputable def bE (ag:List Str):PyData:=.list (ag.map .str)
noncomputable def e0 (l:List Str) (x:Str):List Str:=if x∈l then l else l++[x]
noncomputable def f3 (rows:List (List Str)):List Str:=rows.foldl (λl r=>r.foldl e0 l) []
theorem u7 (l:List Str) (x:Str):((l.map PyData.str).any λE=>PyData.eqv E (.str x))=decide (x∈l):=by
 rewrite[nB,List.any_eq_true];refine m h8 ?_
 constructor
 ·rintro⟨E,aJ,e⟩
  obtain⟨z,ar,rfl⟩:=bZ.mp aJ
  simp only[PyData.eqv,hh] at e
  refine a9 e ?_;exact ar
 ·intro h
  exact⟨.str x,d9 h,by simp[PyData.eqv]⟩
theorem JR (l:List Str) (x:Str):(e0 l x).length<=l.length+1:=by
 unfold e0;split<;>simp
theorem Fy (r l:List Str):(r.foldl e0 l).length<=l.length+r.length:=by
 induction r generalizing l with
 |nil=>simp
 |cons x r ih=>have:=ih (e0 l x);have:=JR l x;simp only[pA,hE];exact aK ‹_› (aK (ox this _) (di (pP _ _ _)))
theorem Nt {l:List Str} (h:∀E∈l,PyData.strOk E=true) (I:PyData.strOk x=true):∀E∈e0 l x,PyData.strOk E=true:=by
 unfold e0
 split
 ·exact h
 ·intro E aJ
  rcases df.mp aJ with aJ|aJ
  ·exact h E aJ
  ·refine m (cn.mp aJ) ?_;exact I
theorem D0 {r l:List Str} (h:∀E∈l,PyData.strOk E=true) (aV:∀E∈r,PyData.strOk E=true):∀E∈r.foldl e0 l,PyData.strOk E=true:=by
 induction r generalizing l with
 |nil=>exact h
 |cons x r ih=>exact ih (Nt h (aV x (.head _))) λE aJ=>aV E (.tail _ aJ)
theorem OO (rows:List (List Str)) (eo:∀r∈rows,∀E∈r,PyData.strOk E=true):∀l:List Str,(∀E∈l,PyData.strOk E=true)->∀E∈rows.foldl (λl r=>r.foldl e0 l) l,PyData.strOk E=true:=by
 induction rows with
 |nil=>intro l h;exact h
 |cons r rows ih=>intro l h;exact ih (λhZ jC=>eo hZ (.tail _ jC)) _ (D0 h (eo r (.head _)))
theorem Op (rows:List (List Str)) (ab:Nat) (hm:∀r∈rows,r.length<=ab):∀l:List Str,(rows.foldl (λl r=>r.foldl e0 l) l).length<=l.length+rows.length * ab:=by
 induction rows with
 |nil=>intro l;simp
 |cons r rows ih=>
  intro l
  have aX:=ih (λhZ jC=>hm hZ (.tail _ jC)) (r.foldl e0 l)
  have a5:=Fy r l
  have cu:=hm r (.head _)
  simp only[pA,hE]
  refine m (Nat.add_mul _ _ _) ?_;exact aK aX (aK (ox (aK a5 (lg cu _)) _) (di (by rw[Nat.one_mul,ru,oj ab])))
section
variable {k:Nat}
noncomputable def KW:List (Str×NameKind):=[("rows",.local),("listing",.local),("row",.local),("text",.local)]
theorem JZ (R:b0 (k+1) D) (rows:List (List Str)) (ar:rows.length<=20) (hm:∀r∈rows,r.length<=20) (eo:∀r∈rows,∀E∈r,PyData.strOk E=true):nA B A D Q U (.ref 241) [.list (rows.map bE)] (bE (f3 rows)):=by
 refine pB KW ["rows"] R (λ_ C=>C.q2) rfl rfl rfl rfl (λbs cd J bn=>?_) rfl (by decide) (by decide) (λY ak o s al av C c9=>?_)
 ·obtain⟨a,rfl⟩:=uM bn;rfl
 have bj:(D.deeper s).handled=Option.none:=c9.h
 refine oI C (jr.list C.aI bK.nil) (.inl (a8 al rfl)) λO aj cW bc=>?_
 have bc:=bc.norm [(O,.lst [])] [("rows",.list (rows.map bE))] [("listing",.ref O)] rfl ⟨rfl,trivial⟩ ⟨rfl,trivial⟩
 refine mY bc (H.name bc.aI rfl) (.list _) (.inl (a8 al rfl)) bj
  (λi K=>K={L:=[(O,.lst (((rows.take i).foldl (λl r=>r.foldl e0 l) []).map .str))],az:=dl [("rows",.list (rows.map bE))],bO:=dl [("listing",.ref O)]}) rfl ?_ ?_
 ·intro i eC K ae v aB cD jb fR aH d8 aQ
  subst d8
  have e6:(rows.map bE)[i]?=some eC:=aH
  rw[fm] at e6
  obtain⟨gj,yr,rfl⟩:=ka.mp e6
  have dF:=fc yr
  have lK:rows.take (i+1)=rows.take i++[gj]:=by refine m kf (m yr ?_);rfl
  generalize a0:(rows.take i).foldl (λl r=>r.foldl e0 l) []=l at aQ
  have RO:∀E∈l,PyData.strOk E=true:=by
   refine a9 a0 ?_;exact OO _ (λr aV=>eo r (q9 aV)) [] λE aJ=>by cases aJ
  have RP:l.length<=400:=by
   refine a9 a0 ?_
   have:=Op (rows.take i) 20 (λr aV=>hm r (q9 aV)) []
   have a5:=vd i rows
   simp only[rK,Nat.zero_add] at this
   exact c2 (aK this (Nat.mul_le_mul_right 20 (aK a5 ar)))
  have RQ:=hm gj dF
  have aQ:=aQ.e3 [(ae,.own (bk v (.list (rows.map bE)) (i+1))),(O,.lst (l.map .str))] [(v,.list (rows.map bE))] [("rows",.list (rows.map bE)),("row",bE gj)] [("listing",.ref O)] rfl ⟨.head _,trivial⟩ ⟨rfl,rfl,trivial⟩ ⟨rfl,trivial⟩
  refine mY aQ (H.name aQ.aI rfl) (.list _) (.inl (a8 al rfl)) bj
   (λj K=>K={L:=[(ae,.own (bk v (.list (rows.map bE)) (i+1))),(O,.lst (((gj.take j).foldl e0 l).map .str))],R:=[(v,.list (rows.map bE))],az:=dl [("rows",.list (rows.map bE)),("row",bE gj)],bO:=dl [("listing",.ref O)]}) rfl ?_ ?_
  ·intro j yp K ct gg ax n0 HC qx bv d8 bh
   subst d8
   have h1:(gj.map PyData.str)[j]?=some yp:=bv
   rw[fm] at h1
   obtain⟨x,I,rfl⟩:=ka.mp h1
   have RR:=fc I
   have RS:gj.take (j+1)=gj.take j++[x]:=by refine m kf (m I ?_);rfl
   have sg:(gj.take (j+1)).foldl e0 l=e0 ((gj.take j).foldl e0 l) x:=by refine m RS (m pM ?_);rfl
   have HF:∀E∈(gj.take j).foldl e0 l,PyData.strOk E=true:=D0 RO λE aJ=>eo gj dF E (q9 aJ)
   have RT:((gj.take j).foldl e0 l).length<=420:=by
    have:=Fy (gj.take j) l
    have:=vd j gj
    exact aK ‹_› (iv RP (aK this RQ))
   generalize (gj.take j).foldl e0 l=ab at bh sg HF RT
   have nn:=bh.pD (x:="listing") (O:=O) (aM:=ab.map .str) rfl (.tail _ (.tail _ (.head _)))
   refine fF bh (c:=decide (x∉ab)) (bL.cmp nn.base (H.name nn rfl) (H.name nn rfl) (cH.notIn_list c9 (gp (eo gj dF x RR)) (kc HF) ?_)) λb2 be=>?_
   ·refine m (u7 _ _) ?_;simp
   by_cases fY:x∈ab
   ·refine m (jT (by simpa using fY)) ?_
    refine b8 (b8 (qx _ _ ⟨_,rfl,?_⟩))
    have e:e0 ab x=ab:=by unfold e0;exact m (b3 fY) rfl
    refine m sg (m e ?_)
    exact be.e3 [(ct,.own (bk gg (bE gj) (j+1))),(ae,.own (bk v (.list (rows.map bE)) (i+1))),(O,.lst (ab.map .str))] [(gg,bE gj),(v,.list (rows.map bE))] [("rows",.list (rows.map bE)),("row",bE gj)] [("listing",.ref O)] rfl ⟨.head _,.tail _ (.head _),trivial⟩ ⟨rfl,rfl,trivial⟩ ⟨rfl,trivial⟩
   ·refine m (hz (by simpa using fY)) ?_
    have e:e0 ab x=ab++[x]:=by unfold e0;exact m (bI fY) rfl
    refine vm (bz:=[(ct,.own (bk gg (bE gj) (j+1))),(ae,.own (bk v (.list (rows.map bE)) (i+1)))]) (bY:=[]) be rfl rfl (H.name be.aI rfl) (by rw[bD];exact aK ‹_› (by decide)) λy a4=>b8 (b8 (qx _ _ ⟨_,rfl,?_⟩))
    refine m sg (m e (m d3 ?_))
    exact a4.e3 [(ct,.own (bk gg (bE gj) (j+1))),(ae,.own (bk v (.list (rows.map bE)) (i+1))),(O,.lst (ab.map .str++[.str x]))] [(gg,bE gj),(v,.list (rows.map bE))] [("rows",.list (rows.map bE)),("row",bE gj)] [("listing",.ref O)] rfl ⟨.head _,.tail _ (.head _),trivial⟩ ⟨rfl,rfl,trivial⟩ ⟨rfl,trivial⟩
  ·intro K ax n0 d8 bh
   subst d8
   refine b8 (b8 (fR _ _ ⟨_,rfl,?_⟩))
   refine m lK (m pM (m a0 ?_))
   have e:(items (bE gj)).length=gj.length:=by show(gj.map PyData.str).length=_;rw[bD]
   rw[e,jN] at bh
   exact bh.e3 [(ae,.own (bk v (.list (rows.map bE)) (i+1))),(O,.lst ((gj.foldl e0 l).map .str))] [(v,.list (rows.map bE))] [("rows",.list (rows.map bE))] [("listing",.ref O)] rfl ⟨.head _,trivial⟩ ⟨rfl,trivial⟩ ⟨rfl,trivial⟩
 ·intro K aB cD d8 aQ
  subst d8
  have cW:O∉Y:=λq=>cW O (ez _ q) rfl
  have jv:=aQ.freeze (a:=O) (L:=[]) rfl cW
  have bh:=(aQ.drop (L:=[]) rfl).uA (x:="listing") (aQ.dP "listing" _ rfl) jv
  refine b8 (hv bh (H.name bh.aI rfl) λv cs fP r=>?_)
  have e:=fP.ends r
  have BM:(items (.list (rows.map bE))).length=rows.length:=by show(rows.map bE).length=_;rw[bD]
  rwa [BM,jN] at e
end
section
variable {k:Nat}
theorem H.E5 {Y:List Addr} {az:Str->Option PyData} {f:Str} {np:Pos} {aU:List Expr} {d:PyData} (aa:cJ Q U Y o s az) (V:bi B A D o s (.Name f np) (.ref a)) (O:bK B A D Y o s ao aU aM)
  (bb:cp λw e5=>o.heap.get? a=some w/\w.data=.func e5) (F:∀(y:Shared) (J:List Value),an o y->bR Y y.heap J aM->codeAny (model B A) D (.call (.ref a) ⟨J,[]⟩) (λr cs=>∃v,ce (r=.ok (.ret v)) (an y cs) (aO Y cs.heap v d)) y)
  (al:cp λe aZ=>aU=e::aZ/\starEach aU s=(false,eval e s)::starEach aZ s):H B A D Y o s (.Call (.Name f np) aU [] ao) d:=.mk λaj G M aq h=>by
 refine Call_Name rfl (V.ap aj _ _ aq λaB aE=>?_)
 obtain⟨e,aZ,rfl,A5⟩:=al
 have key:wpAny (model B A) D (spliced (backTo ao (starEach (e::aZ) s))) (λJ ax=>an aB ax/\bR Y ax.heap J aM) M aB:=O.ap aB _ _ (aq.trans aE) λJ ax a7 r=>⟨a7,r⟩
 obtain⟨w,e5,aP,hT⟩:=bb
 have hU:tab a=false:=aa.base.tabs.jl aP λJ q=>by rw[hT] at q;cases q
 refine ra (o:=w) (fd:=e5) ?_
 rw[A5] at key ⊢
 refine kg (c5 key (λJ ax ef=>?_) λ_ _ x=>x)
 obtain⟨a7,m9⟩:=ef
 have jW:=(aq.trans aE).trans a7
 refine⟨⟨jW.keep a w hU aP,hT⟩,?_⟩
 refine hg (h4 (F ax J jW m9) λr b2 aV=>?_)
 obtain⟨v,rfl,c0,eX⟩:=aV
 exact h _ _ ((aE.trans a7).trans c0) eX
noncomputable def AS:List (Str×NameKind):=[("function",.local),("sequence",.local),("initial",.local),("it",.local),("value",.local),("element",.local),("iter",.globalImplicit),("_initial_missing",.globalImplicit),("next",.globalImplicit),("StopIteration",.globalImplicit),("TypeError",.globalImplicit)]
noncomputable def Ec (B:Program) (A:World) (k:Nat) (Q U:Str->Option Value) (ai:List Addr) (ak:Shared) (F:Addr) (qy:PyData->Prop) (tT:PyData->Prop) (g:PyData->PyData->PyData):Prop:=
 ∀(D:Around) (Y:List Addr) (o:Shared) (v u:Value) (d x:PyData),b0 k D->Base Q U o.heap->an ak o->(∀E∈Y,(E∈ai∨ak.heap.objs.size<=E)/\E < o.heap.objs.size)->aO Y o.heap v d->aO Y o.heap u x->qy d->tT x->
  codeAny (model B A) D (.call (.ref F) ⟨[v,u],[]⟩) (λr y=>∃E,ce (r=.ok (.ret E)) (an o y) (aO Y y.heap E (g d x))) o
noncomputable def ul (f vU i:Value):List (Str×Value):=[("function",f),("sequence",vU),("initial",i)]
theorem JS (bs:Value) (C:Base Q U o.heap) (f vU i:Value) (G:List (Str×Value)->Shared->Prop) (M:Value->Shared->Prop) (h:G (ul f vU i) o):
  wpAny (model B A) D (bindArgs (fdOf (dh 9) "reduce" (.ref 66) bs (.ref (73 - 1))) ⟨[f,vU,i],[]⟩) G M o:=by
 obtain⟨w,aP,n,hd⟩:=C.st (66,_) (.tail _ (.tail _ (.tail _ (.tail _ (.tail _ (.head _))))))
 exact BindsTo.of_defaults (fd:=fdOf (dh 9) "reduce" (.ref 66) bs (.ref (73 - 1))) (args:=⟨[f,vU,i],[]⟩) rfl aP hd rfl rfl _ _ _ _ h
theorem K1 (R:b0 (k+1) D) {F:Addr} {tU:PyData} {qy tT:PyData->Prop} {g:PyData->PyData->PyData} {Y:List Addr} {tV me:Value} (C:Base Q U o.heap) (aJ:∀E∈Y,E < o.heap.objs.size) (RU:aO Y o.heap tV (.list ag)) (qd:aO Y o.heap me tU) (aH:tU=.none)
  (vV:cp λw e5=>o.heap.get? F=some w/\w.data=.func e5) (e7:Ec B A k Q U Y o F qy tT g) (et:qy tU) (bW:∀d x,qy d->tT x->qy (g d x)) (I:∀x∈ag,tT x):
  codeAny (model B A) D (.call (.ref 73) ⟨[.ref F,tV,me],[]⟩) (λr y=>∃v,ce (r=.ok (.ret v)) (an o y) (aO Y y.heap v (ag.foldl g tU))) o:=by
 refine xg (Z:=[]) (ai:=Y) (K:={az:=dl [("sequence",.list ag),("initial",tU)],bO:=dl [("function",.ref F),("initial",me)]}) AS R.room C (λz q=>(b9 q).elim) aJ (λp q=>(b9 q).elim) (λp q=>(b9 q).elim) hM (λp q=>(b9 q).elim)
  C.q4 rfl rfl rfl rfl (by decide) (λeD y=>eD=ul (.ref F) tV me/\y=o) (λbs G M h=>JS bs C _ _ _ G M (h _ _ (an.refl _) ⟨rfl,rfl⟩)) (λeD y af=>?_) (λeD y x af E d e=>?_) (λeD y x af E v e=>?_) λaj s al av hJ bc=>?_
 ·obtain⟨rfl,rfl⟩:=af
  intro x I
  simp only[ul,bP,b9,eH] at I
  rcases I with rfl|rfl|rfl<;>rfl
 ·obtain⟨rfl,rfl⟩:=af
  have:=AllP.mem (P:=λp:Str×PyData=>∃v,ce (List.lookup p.1 (List.reverse (ul (.ref F) tV me))=some v) (AS.lookup p.1=some .local) (aO Y y.heap v p.2)) (l:=[("sequence",.list ag),("initial",tU)]) ⟨⟨tV,rfl,rfl,RU⟩,⟨me,rfl,rfl,qd⟩,trivial⟩ (E,d) (gq e)
  exact this
 ·obtain⟨rfl,rfl⟩:=af
  have:=AllP.mem (P:=λp:Str×Value=>List.lookup p.1 (List.reverse (ul (.ref F) tV me))=some p.2/\AS.lookup p.1=some .local) (l:=[("function",.ref F),("initial",me)]) ⟨⟨rfl,rfl⟩,⟨rfl,rfl⟩,trivial⟩ (E,v) (gq e)
  exact this
 have bj:(D.deeper s).handled=Option.none:=(R.deeper s).h
 subst aH
 have ev:=qd.none_inv
 subst ev
 refine Kb bc (a8 al rfl) (H.name bc.aI rfl) (.list _) (.inl (a8 al rfl)) λae v aB aQ=>?_
 refine fF aQ (c:=false) (.mk λax G M a7 h=>?_) λax bh=>?_
 ·have V:bi B A (D.deeper s) aB s (.Name "_initial_missing" ⟨0,0,0,0⟩) (.ref 65):=bi.glob aQ.aI (a8 al rfl) (by exact iT (by kernel_rfl))
  refine mM ((aQ.ev (x:="initial") (v:=.none) rfl).ap ax _ _ a7 λb2 c0=>(bi.glob aQ.aI (a8 al rfl) (by exact iT (by kernel_rfl)):bi B A (D.deeper s) aB s (.Name "_initial_missing" _) (.ref 65)).ap b2 _ _ (a7.trans c0) λcm fW=>?_) (by with_unfolding_all rfl)
  exact wpAny_is_other rfl (by intro e;cases e) (iq (h _ (c0.trans fW)))
 ·refine gA bh (H.name bh.aI rfl) (.inl (a8 al rfl)) λb2 be=>b8 ?_
  have be:=be.tv (ae:=ae) (v:=v) (d:=.list ag) (i:=0) [] [("value",.none)] [("function",.ref F),("it",.ref ae)] rfl (.head _) ⟨rfl,trivial⟩ ⟨rfl,rfl,trivial⟩
  refine PA be (be.ev (x:="it") rfl) (.list _) (.inl (a8 al rfl)) bj (λi K=>K={az:=dl [("value",(ag.take i).foldl g .none)],bO:=dl [("function",.ref F),("it",.ref ae)]}) rfl ?_ ?_
  ·intro i eC K cm cD jb fR aH d8 bJ
   subst d8
   have aH:ag[i]?=some eC:=aH
   have dF:=fc aH
   have lK:ag.take (i+1)=ag.take i++[eC]:=by refine m kf (m aH ?_);rfl
   have b1:∀l:List PyData,(∀x∈l,tT x)->∀d,qy d->qy (l.foldl g d):=by
    intro l
    induction l with
    |nil=>intro _ d h;exact h
    |cons a l ih=>intro a0 d h;exact ih (λx q=>a0 x (.tail _ q)) _ (bW d a h (a0 a (.head _)))
   have i1:=b1 (ag.take i) (λx q=>I x (q9 q)) .none et
   have ee:=bJ.aI
   obtain⟨w,e5,aP,hT⟩:=vV
   have hU:tab F=false:=C.tabs.jl aP λJ q=>by rw[hT] at q;cases q
   refine gA bJ (d:=g ((ag.take i).foldl g .none) eC) (H.E5 ee (bJ.ev (x:="function") rfl) (bK.cons ee.base (H.name ee rfl) (bK.cons ee.base (H.name ee rfl) bK.nil)) ⟨w,e5,bJ.ex.ex.keep F w hU aP,hT⟩ (λy J dr rs=>?_) ⟨_,_,rfl,rfl⟩) (.inl (a8 al rfl)) λds b6=>b8 (fR _ _ ⟨_,rfl,?_⟩)
   ·obtain⟨a,b,rfl,vG,qm⟩:=rs.two
    ·refine e7 (D.deeper s) _ y a b _ _ (R.deeper s) (ee.base.ex dr) (bJ.ex.ex.trans dr) (λE o6=>⟨?_,cz (ee.eb E o6) dr.size⟩) vG qm i1 (I eC dF)
     have o6:E∈ae::Y:=o6
     rcases bP.mp o6 with rfl|o6
     ·rcases bJ.own E (.head _) with q|q
      ·exact .inr q
      ·cases q
     ·exact .inl o6
   ·refine m lK (m pM ?_)
    exact b6.tv (ae:=ae) (v:=v) (d:=.list ag) (i:=i+1) [] [("value",g ((ag.take i).foldl g .none) eC)] [("function",.ref F),("it",.ref ae)] rfl (.head _) ⟨rfl,trivial⟩ ⟨rfl,rfl,trivial⟩
  ·intro K cm cD d8 bJ
   subst d8
   have e:(items (.list ag)).length=ag.length:=rfl
   rw[e,jN] at bJ
   refine b8 (hv bJ (H.name bJ.aI rfl) λgg ds b6 Bo=>⟨gg,rfl,b6.ex.ex,Bo.weak λb q=>ez _ q⟩)
noncomputable def uz:Option Str->PyData
 |none=>.none
 |some x=>.str x
noncomputable def lS (aG ec:List Str):Option Str:=aG.find? λx=>decide (x∈ec)
noncomputable def pU (ec:List Str) (d x:PyData):PyData:=match d,x with
 |.none,.str t=>if t∈ec then .str t else .none
 |d,_=>d
theorem Gz (ec:List Str):∀(aG:List Str),(aG.map PyData.str).foldl (pU ec) .none=uz (lS aG ec)
 |[]=>rfl
 |x::r=>by
  have keep:∀(l:List PyData) (t:Str),l.foldl (pU ec) (.str t)=.str t:=by
   intro l t
   induction l with
   |nil=>rfl
   |cons a l ih=>exact ih
  unfold lS
  refine m dG (m pA (m mH ?_))
  by_cases h:x∈ec
  ·refine m (hz h) ?_
   have:pU ec .none (.str x)=.str x:=by show(if x∈ec then PyData.str x else PyData.none)=_;exact m (b3 h) rfl
   refine m this (m (keep _ _) ?_);rfl
  ·refine m (jT h) ?_
   have:pU ec .none (.str x)=.none:=by show(if x∈ec then PyData.str x else PyData.none)=_;exact m (bI h) rfl
   refine m this ?_
   exact Gz ec r
noncomputable def Am:List (Str×NameKind):=[("order",.local),("fit",.cell),("reduce",.globalImplicit)]
theorem P9 (R:b0 (k+3) D) {ec:List Str} (aP:∀x∈aG,PyData.strOk x=true) (bb:∀x∈ec,PyData.strOk x=true):nA B A D Q U (.ref 224) [bE aG,bE ec] (uz (lS aG ec)):=by
 refine pB Am ["order","fit"] R (λ_ C=>C.q3) rfl rfl rfl rfl (λbs cd J bn=>?_) rfl (by decide) (by decide) (λY ak o s al bG C c9=>?_)
 ·obtain⟨a,b,rfl⟩:=wM bn;rfl
 obtain⟨av,j2,aS⟩:=bG
 refine hv C (d:=uz (lS aG ec)) (.mk λaj G M aq h=>?_) λv cs fP r=>fP.ends r
 have aa:=C.aI
 refine Call_Name (trees:=[_,_,_]) rfl ((bi.glob aa (a8 al rfl) (by exact iT (by kernel_rfl)):bi B A (D.deeper s) o s (.Name "reduce" _) (.ref 73)).ap aj _ _ aq λaB aE=>?_)
 have na:=aq.trans aE
 have cV:=aa.ex na
 obtain⟨_,bs,HG,WB,WC,WD,RV,RW,_⟩:=cV.base.q4
 refine ra (o:=HG) (fd:=fdOf (dh 9) "reduce" (.ref 66) bs (.ref (73 - 1))) ?_
 obtain⟨n1,BN,BO⟩:=cV.dP "fit" (bE ec) rfl
 have RX:∃c,s.cells.lookup (Str.ofString "fit")=some c/\aB.heap.IsCell c (some n1):=by
  rcases BN with⟨vW,_⟩|⟨_,c,l,gs⟩
  ·rw[a8 al (show Am.lookup (Str.ofString "fit")=some NameKind.cell from rfl)] at vW;cases vW
  ·exact⟨c,l,gs⟩
 obtain⟨BP,lL,gs⟩:=RX
 have BQ:BP=s.locals+1:=by
  rw[av] at lL
  have e:List.lookup (Str.ofString "fit") (cellsFrom (s.locals+1) Am [])=some (s.locals+1):=rfl
  rw[e] at lL;cases lL;rfl
 subst BQ
 obtain⟨bg,nW,bU⟩:=cV.base.tabs.oa
 obtain⟨RY,RZ,R0⟩:=cV.base.st (223,m5 219) (.tail _ (.tail _ (.tail _ (.head _))))
 have eg:=uX (s:=s) (aR:={kind:=.function,names:=[("found",.local),("text",.local),("fit",.free)],isGenerator:=false,isCoroutine:=false}) (λp af q=>by
  simp only[bP,b9,eH] at af
  rcases af with rfl|rfl|rfl
  ·cases q
  ·cases q
  ·show(s.cells.lookup (Str.ofString "fit")).isSome=true
   refine m lL ?_;rfl)
 have BR:ip s.cells [((Str.ofString "found"),NameKind.local),((Str.ofString "text"),NameKind.local),((Str.ofString "fit"),NameKind.free)] []=[(Str.ofString "fit",s.locals+1)]:=by
  show [(Str.ofString "fit",(s.cells.lookup (Str.ofString "fit")).getD 0)]=_
  refine m lL ?_;rfl
 have ar:cV.base.tabs.oa=cV.base.tabs.oa:=rfl
 refine kg ?_
 refine jO ?_
 simp only[fx,fd]
 refine DF cV.base (.inl rfl) aa.hF (eg.trans (by exact m BR rfl)) j2 ⟨RY,RZ,R0⟩ (by decide) nW bU (by refine m aS ?_;decide+kernel) ⟨λ_=>⟨rfl,rfl⟩,λe=>absurd e (by decide)⟩ ?_ λf bq R1 cR ax a7 o7 jD BS=>?_
 ·rfl
 have jW:=na.trans a7
 have eS:=aa.ex jW
 refine jO ?_
 refine(H.name (x:="order") (d:=bE aG) eS rfl).ap ax _ _ (an.refl _) λR2 b2 c0 R3=>?_
 refine jO ?_
 refine(H.none (Y:=Y)).ap b2 _ _ (an.refl _) λR4 cm fW oL=>kH ?_
 have qz:=c0.trans fW
 have R5:=jW.trans qz
 have ee:=aa.ex R5
 have R6:tab 73=false:=rfl
 refine⟨⟨(a7.trans qz).keep 73 HG R6 RV,RW⟩,?_⟩
 have vX:tab f=false:=eS.base.tabs.jl jD λJ q=>by cases q
 have HH:=qz.keep f _ vX jD
 have tW:aO Y cm.heap R2 (bE aG):=R3.ex (aa.ex (jW.trans c0)).base.tabs fW
 have R7:=BS.ex eS.base.tabs qz
 have step:Ec B A (k+1) Q U Y cm f (λd=>d=.none∨∃t,d=.str t/\PyData.strOk t=true) (λx=>∃t,x=.str t/\PyData.strOk t=true) (pU ec):=by
  intro HI ys ds v u d x vY b6 eu BU eX d7 i1 oQ
  obtain⟨ci,rfl,BV⟩:=oQ
  have HJ:ds.heap.IsCell (s.locals+1) (some n1):=by
   obtain⟨bF,g,hd⟩:=gs
   have BW:tab (s.locals+1)=false:=cV.base.tabs.jl g λJ z=>by rw[hd] at z;cases z
   exact⟨bF,((a7.trans qz).trans eu).keep _ _ BW g,hd⟩
  have BX:aO ys ds.heap n1 (bE ec):=by
   have tW:=BO.ex cV.base.tabs (a7.trans qz)
   have WE:aO Y ds.heap n1 (bE ec):=tW.ex ee.base.tabs eu
   refine tW.mono λb w aA o1 e=>⟨eu.keep b w (ee.base.tabs.xA e o1) e,λq=>?_⟩
   rcases(BU b q).1 with q|q
   ·exact aA q
   ·exact ey _ (cz (dL e) q)
  refine Gu (az:=dl [("found",d),("text",.str ci),("fit",bE ec)]) _ [("found",v),("text",u)] vY b6 (λE aJ=>(BU E aJ).2) (eu.keep f _ vX HH) (R7.ex ee.base.tabs eu) rfl rfl rfl rfl rfl (by decide) (λx I=>?_) (λx dW e=>?_) (λn c e=>?_) (λn d6 c e bt=>?_) λfK R8 R9 hr BY=>?_
  ·simp only[bP,b9,eH] at I
   rcases I with rfl|rfl<;>rfl
  ·have hm:=gq e
   simp only[bP,b9,eH] at hm
   rcases hm with hm|hm|hm
   ·obtain⟨rfl,rfl⟩:=gv hm
    exact .inl ⟨v,rfl,rfl,eX⟩
   ·obtain⟨rfl,rfl⟩:=gv hm
    exact .inl ⟨u,rfl,rfl,d7⟩
   ·obtain⟨rfl,rfl⟩:=gv hm
    exact .inr ⟨s.locals+1,n1,rfl,rfl,HJ,BX⟩
  ·have hm:=gq e
   rw[cn] at hm
   obtain⟨rfl,rfl⟩:=gv hm
   refine⟨HJ.lt,λq=>?_⟩
   rcases(BU _ q).1 with q|q
   ·exact(aa.fE _ _ lL).2 q
   ·exact ey _ (cz (cz gs.lt (a7.trans qz).size) q)
  ·have hm:=gq e
   have fL:=gq bt
   rw[cn] at hm fL
   refine m ((gv hm).1) (m ((gv fL).1) ?_);rfl
  ·rcases i1 with rfl|⟨HK,rfl,HL⟩
   ·refine H.xu (c:=true&&(decide (ci∈ec)&&true)) (bL.and (bL.cmp (eP:=[]) hr.base (H.name hr rfl) H.none cH.is_none) λ_=>bL.and (bL.cmp hr.base (H.name hr rfl) (H.name hr rfl) (cH.in_list BY (gp BV) (kc bb) (u7 ec ci))) λ_=>bL.and_nil) (λaS=>?_) λaS=>?_
    ·have fY:ci∈ec:=by simpa using aS
     have e:pU ec .none (.str ci)=.str ci:=by show(if ci∈ec then PyData.str ci else PyData.none)=_;exact m (b3 fY) rfl
     refine m e ?_;exact H.name hr rfl
    ·have fY:ci∉ec:=by simpa using aS
     have e:pU ec .none (.str ci)=.none:=by show(if ci∈ec then PyData.str ci else PyData.none)=_;exact m (bI fY) rfl
     refine m e ?_;exact H.name hr rfl
   ·refine H.xu (c:=false&&false) (bL.and (bL.cmp (eP:=[]) hr.base (H.name hr rfl) H.none cH.EP) λaS=>by cases aS) (λaS=>by cases aS) λ_=>H.name hr rfl
 refine hg (h4 (K1 c9 ee.base ee.eb tW oL rfl ⟨_,_,HH,rfl⟩ step (.inl rfl) (λd x hd I=>?_) (λx I=>?_)) λr ds aV=>?_)
 ·obtain⟨ci,rfl,BV⟩:=I
  rcases hd with rfl|⟨HK,rfl,HL⟩
  ·have e:pU ec .none (.str ci)=if ci∈ec then PyData.str ci else PyData.none:=rfl
   by_cases h:ci∈ec
   ·rw[b3 h] at e;exact .inr ⟨ci,e,BV⟩
   ·rw[bI h] at e;exact .inl e
  ·exact .inr ⟨HK,rfl,HL⟩
 ·obtain⟨E,aJ,rfl⟩:=bZ.mp I
  exact⟨E,rfl,aP E aJ⟩
 ·obtain⟨v,rfl,eu,eX⟩:=aV
  rw[Gz] at eX
  exact h _ _ ((aE.trans (a7.trans qz)).trans eu) eX
end
section
variable {Y:List Addr} {k:Nat}
theorem b0.made {BZ:List Value} {kw:List (Str×Value)} (R:b0 (k+1) D):b0 k (D.under (.builtin "type.__call__" ⟨.ref aa::BZ,kw⟩)):=
 ⟨by have:=R.d;refine m (depth_under_kw _ _ _ _) ?_;exact sW this (by decide),by
  have:=R.u
  have e:(D.under (.builtin "type.__call__" ⟨.ref aa::BZ,kw⟩)).units=D.units+1:=rfl
  refine m e ?_;exact sW this (by decide),R.h⟩
theorem xP {t:Expr} {b w:List Stmt}
  (h:wpAny (model B A) D (isTrue t s (eval t s)) (λc y=>bl B A D (if c then b else w) s (kN B A D aZ s G M) M y) M o):
  bl B A D (.If t b w ao::aZ) s G M o:=
 ⟨dA (wpAny_If (c5 h (λc aj ca=>by
  have:=c5 ca.out (Q':=λf y=>match f with|.next=>wpAny (model B A) D (execs aZ s) G M y|f=>G f y) (λf y q=>by cases f<;>first|exact q.out|exact q) λ_ _ q=>q
  cases c<;>exact this) λ_ _ q=>q))⟩
noncomputable def MJ:List (Str×NameKind):=[("self",.local),("node",.local)]
theorem NO (R:b0 (k+1) D) {x:Addr} {n:Str} {aD:Tok} (C:Base Q U o.heap) (I:o.heap.get? x=some (b7 97 bB [])) (hd:o.heap.get? bB=some emptyDict) (aA:ce (247<=x) (247<=bB) (x≠bB)):
  codeAny (model B A) D (.call (.ref 93) ⟨[.ref x,.str n aD],[]⟩) (λr y=>r=.ok (.ret .none)/\cp λdO S=>uu (es [x,bB] o y) (o.heap.objs.size<=S) (S < y.heap.objs.size) (y.heap.get? x=some (b7 97 bB [some (.str n aD),some (.int 0 dO),some (.ref S)])) (y.heap.get? bB=some emptyDict) (∃ab,IsL y.heap S #[] ab)) o:=by
 refine oi (Z:=[x,bB]) (ai:=[]) (K:={L:=[(x,.own (· =b7 97 bB [])),(bB,.own (· =emptyDict))],bO:=dl [("self",.ref x),("node",.str n aD)]}) MJ ["self","node"] R.room C (λz ar=>?_) (λE aJ=>?_) (λp q=>(b9 q).elim) (λp af=>?_) ?_ (λa aF=>aF)
  (λE d e=>by cases e) (λE v e=>?_) (Lv C) rfl rfl rfl rfl (λbs cd=>rfl) rfl (by decide) (by decide) λaj s al av hJ bc=>?_
 ·simp only[bP,b9,eH] at ar
  rcases ar with rfl|rfl
  ·exact aA.1
  ·exact aA.2
 ·have aJ:E∈[x,bB]++[]:=aJ
  simp only[iy,bP,b9,eH] at aJ
  rcases aJ with rfl|rfl
  ·exact dL I
  ·exact dL hd
 ·simp only[bP,b9,eH] at af
  rcases af with rfl|rfl
  ·exact⟨_,I,rfl,rfl⟩
  ·exact⟨_,hd,rfl,rfl⟩
 ·show [x,bB].Nodup
  simp[aA.3]
 ·exact gq e
 refine mF ((bc.ev (x:="node") rfl).ap aj _ _ (an.refl _) λaB aE=>(bc.ev (x:="self") rfl).ap aB _ _ aE λax a7=>?_)
 have bh:=bc.step (aE.trans a7)
 refine bh.xY (aa:=97) (T:=x) (cr:=bB) (p:=(· =b7 97 bB [])) (e4:=(· =b7 97 bB [some (.str n aD)])) (bz:=[]) (bY:=[(bB,.own (· =emptyDict))]) (q:=(· =emptyDict)) rfl (.tail _ (.head _)) (λw aP=>⟨[],aP,rfl⟩) l9 zA λb2 be=>?_
 refine mF ((H.int (Y:=[])).ap b2 _ _ (an.refl _) λv cm fW eX=>(be.ev (x:="self") rfl).ap cm _ _ fW λds eu=>?_)
 refine aO.fU eX λdO=>?_
 have b6:=be.step (fW.trans eu)
 refine b6.xY (aa:=97) (T:=x) (cr:=bB) (p:=(· =b7 97 bB [some (.str n aD)])) (e4:=(· =b7 97 bB [some (.str n aD),some (.int 0 dO)])) (bz:=[]) (bY:=[(bB,.own (· =emptyDict))]) (q:=(· =emptyDict)) rfl (.tail _ (.head _)) (λw aP=>⟨_,aP,rfl⟩) l9 oM λfK c1=>?_
 refine mF ((jr.list (Y:=({L:=[(x,.own (· =b7 97 bB [some (.str n aD),some (.int 0 dO)])),(bB,.own (· =emptyDict))],bO:=dl [("self",.ref x),("node",.str n aD)]}:bd).Y []) c1.aI bK.nil).ap fK _ _ (an.refl _) λS gS o8 e7 vZ a0=>?_)
 obtain⟨J,ab,l,rs⟩:=a0
 have cS:=c1.add (e:=.lst []) o8 ⟨e7,vZ⟩ ⟨J,ab,l,rs⟩
 refine(cS.ev (x:="self") rfl).ap gS _ _ (an.refl _) λgG sh=>?_
 have cT:=cS.step sh
 refine cT.xY (aa:=97) (T:=x) (cr:=bB) (p:=(· =b7 97 bB [some (.str n aD),some (.int 0 dO)])) (e4:=(· =b7 97 bB [some (.str n aD),some (.int 0 dO),some (.ref S)])) (bz:=[(S,.lst [])]) (bY:=[(bB,.own (· =emptyDict))]) (q:=(· =emptyDict)) rfl (.tail _ (.tail _ (.head _))) (λw aP=>⟨_,aP,rfl⟩) l9 z5 λy a4=>?_
 refine b8 ⟨rfl,dO,S,a4.ex,?_,?_,?_,?_,?_⟩
 ·rcases a4.own S (.head _) with q|q
  ·exact q
  ·exfalso
   have ah:=a4.ah
   have ah:[S,x,bB].Nodup:=ah
   rw[fO] at ah
   exact ah.1 q
 ·obtain⟨J,ab,l,_⟩:=a4.iZ (O:=S) (aM:=[]) (.head _)
  exact dL l
 ·obtain⟨w,e,rfl⟩:=a4.owned (a:=x) (p:=(· =b7 97 bB [some (.str n aD),some (.int 0 dO),some (.ref S)])) (.tail _ (.head _));exact e
 ·obtain⟨w,e,rfl⟩:=a4.owned (a:=bB) (p:=(· =emptyDict)) (.tail _ (.tail _ (.head _)));exact e
 ·obtain⟨J,ab,l,r⟩:=a4.iZ (O:=S) (aM:=[]) (.head _)
  have:=r.length
  have bn:J=#[]:=by
   have:J.size=0:=by simpa using this
   exact Array.eq_empty_of_size_eq_zero this
  subst bn
  exact⟨ab,l⟩
theorem NI (R:b0 (k+2) D) {n:Str} {aD:Tok} {G:Value->Shared->Prop} (C:Base Q U o.heap)
  (h:∀x bB S dO y,an o y->o.heap.objs.size<=bB->bB < x->x < S->S < y.heap.objs.size->y.heap.get? x=some (b7 97 bB [some (.str n aD),some (.int 0 dO),some (.ref S)])->y.heap.get? bB=some emptyDict->(∃ab,IsL y.heap S #[] ab)->G (.ref x) y):
  wpAny (model B A) D (call (.ref 97) [.str n aD]) G M o:=by
 obtain⟨P,cf⟩:=C.cf
 refine hg ?_
 obtain⟨af,g,d,t,os⟩:=o
 refine make_core (makes_of cf (l9.wP P)) (rN cf (DS.de P)) (λself=>bind_fn cf self (DS.fn P)) (.inl rfl) ?_
 generalize lM:(⟨(af.push emptyDict).push (instObj 97 af.objs.size),g,d,t,os⟩:Shared)=aB
 have aE:an ⟨af,g,d,t,os⟩ aB:=by
  refine a9 lM ?_
  exact(an.push (o:=⟨af,g,d,t,os⟩) emptyDict).trans (an.push (o:=⟨af.push emptyDict,g,d,t,os⟩) (instObj 97 af.objs.size))
 have aQ:=C.ex aE
 have n2:247<=af.objs.size:=C.fj
 have I:aB.heap.get? (af.objs.size+1)=some (b7 97 af.objs.size []):=by
  refine a9 lM ?_
  have:=dT (af.push emptyDict) (o:=instObj 97 af.objs.size) rfl
  rw[eN] at this
  exact this
 have hd:aB.heap.get? af.objs.size=some emptyDict:=by
  refine a9 lM ?_
  exact e1 _ (dT _ rfl)
 have ko:aB.heap.objs.size=af.objs.size+1+1:=by refine a9 lM ?_;simp
 have c9:b0 (k+1) (D.under (.builtin "type.__call__" ⟨.ref 97::[.str n aD],[]⟩)):=R.made
 have lG:247<=af.objs.size+1:=ht n2
 have k1:af.objs.size+1≠af.objs.size:=uL _
 refine h4 (NO (n:=n) (aD:=aD) c9 aQ I hd ⟨lG,n2,k1⟩) λr y aV=>?_
 obtain⟨rfl,dO,S,cw,aX,a5,cu,ej,hf⟩:=aV
 refine⟨rfl,?_⟩
 have ex:an ⟨af,g,d,t,os⟩ y:=by
  obtain⟨bj,m8,e⟩:=aE.same
  obtain⟨o9,v0,bt⟩:=cw.same
  refine⟨⟨o9,v0,by exact m bt (m e rfl)⟩,λb w bu e=>cw.keep b w (λq=>?_) bu (aE.keep b w bu e),aK aE.size cw.size,λT=>cw.tabs (aE.tabs T)⟩
  have bU:b < af.objs.size:=dL e
  simp only[bP,b9,eH] at q
  rcases q with q|q
  ·rw[q] at bU;exact absurd bU (eZ.mpr (hw _))
  ·rw[q] at bU;exact ey _ bU
 rw[ko] at aX
 exact h _ _ S dO y ex (cG _) (hb _) aX a5 cu ej hf
end
noncomputable def eT (g:List cj) (n:Str):List cj:=if n∈g.map (·.nm) then g else g++[⟨n,0,[]⟩]
theorem JT (t:cC) (a b:Tok):ha t a b "_node2info"=some (.ref t.N):=by unfold ha;exact m (b3 rfl) rfl
theorem zT (t:cC) (a b:Tok):ha t a b "_ready_nodes"=some (pr t.bM):=by unfold ha;exact m (bI (by decide)) (m (b3 rfl) rfl)
theorem xT (t:cC) (a b:Tok):ha t a b "_npassedout"=some (.int t.po a):=by unfold ha;exact m (bI (by decide)) (m (bI (by decide)) (m (b3 rfl) rfl))
theorem xI (t:cC) (a b:Tok):ha t a b "_nfinished"=some (.int t.de b):=by unfold ha;exact m (bI (by decide)) (m (bI (by decide)) (m (bI (by decide)) (m (b3 rfl) rfl)))
noncomputable def foreign (x:Str):Bool:=!(x=="_node2info"||x=="_ready_nodes"||x=="_npassedout"||x=="_nfinished")
theorem q5 (t:cC) (a b:Tok) (h:foreign x=true):ha t a b x=none:=by
 unfold foreign at h
 simp only[lX,Bool.or_eq_false_iff,iG] at h
 unfold ha
 exact m (bI h.1.1.1) (m (bI h.1.1.2) (m (bI h.1.2) (m (bI h.2) rfl)))
theorem OH (P:Params):keepIn (KB P) (.ref 97)=true:=by kernel_rfl
theorem P4 (P:Params):keepIn (KB P) (.ref 194)=true:=by kernel_rfl
theorem uE {ns:List co} (h:(ns.map (·.ah.nm)).Nodup) {n:co} (hm:n∈ns):valueAt (dC ns) n.ah.nm=some (.ref n.ae):=by
 unfold valueAt dC
 induction ns with
 |nil=>cases hm
 |cons a l ih=>
  rw[dG,fO] at h
  refine m dG (m mH ?_)
  by_cases e:a.ah.nm=n.ah.nm
  ·rcases bP.mp hm with rfl|hm
   ·simp
   ·exact absurd (bZ.mpr ⟨n,hm,rfl⟩) (e▸h.1)
  ·rcases bP.mp hm with rfl|hm
   ·exact absurd rfl e
   ·simp only[e,ig]
    exact ih h.2 hm
theorem NE {ns:List co} {n:Str} (h:n∉ns.map (·.ah.nm)):valueAt (dC ns) n=none:=by
 unfold valueAt dC
 induction ns with
 |nil=>rfl
 |cons a l ih=>
  rw[dG,bP,not_or] at h
  refine m dG (m mH ?_)
  have:¬a.ah.nm=n:=λq=>h.1 q.symm
  simp only[this,ig]
  exact ih h.2
theorem stored_new {ns:List co} {n:Str} (h:n∉ns.map (·.ah.nm)) (v:Value):stored (dC ns) n v=dC ns++[(n,v)]:=by
 unfold stored
 have:(dC ns).any (λsi=>decide (si.1=n))=false:=by
  rw[List.any_eq_false]
  intro p af
  unfold dC at af
  obtain⟨a,aF,rfl⟩:=bZ.mp af
  simp only[h8]
  intro q
  exact h (bZ.mpr ⟨a,aF,q⟩)
 refine m this ?_;rfl
section
variable {Y:List Addr} {k:Nat} {t:cC} {X:List (Addr×Ent)}
theorem j8 (a1:K.L=X++bp B A t):(t.T,Ent.own (· =b7 194 t.cr []))∈K.L:=by refine m a1 ?_;exact ez _ (.head _)
theorem memD (a1:K.L=X++bp B A t):(t.cr,Ent.own (fo t))∈K.L:=by refine m a1 ?_;exact ez _ (.tail _ (.head _))
theorem pv (a1:K.L=X++bp B A t):(t.N,Ent.own (dv B A (dC t.ns)))∈K.L:=by refine m a1 ?_;exact ez _ (.tail _ (.tail _ (.head _)))
theorem Eo (a1:K.L=X++bp B A t):K.L=(X++[(t.T,Ent.own (· =b7 194 t.cr []))])++(t.cr,Ent.own (fo t))::((t.N,.own (dv B A (dC t.ns)))::(f5 t.bM++t.ns.flatMap dN)):=by refine m a1 ?_;simp[bp]
theorem Lq (a1:K.L=X++bp B A t):K.L=(X++[(t.T,Ent.own (· =b7 194 t.cr [])),(t.cr,Ent.own (fo t))])++(t.N,.own (dv B A (dC t.ns)))::(f5 t.bM++t.ns.flatMap dN):=by refine m a1 ?_;simp[bp]
theorem bi.rQ (C:aw Q U ai Z ak s K o) (V:bi B A D o s e (.ref t.T)) (a1:K.L=X++bp B A t)
  (al:autoParam (eval (.Attribute e "_node2info" ao) s=(do let w <-eval e s;standAt ao.atName;let r <-holding [w] (getAttr w "_node2info" true);letTemporaryGo e w r;pure r)) h7._auto_1):bi B A D o s (.Attribute e "_node2info" ao) (.ref t.N):=
 bi.uP C V (j8 a1) (memD a1) (λw ⟨a,b,d⟩=>⟨4,_,d,JT t a b⟩) rfl hD Fw al
theorem bi.d0 (C:aw Q U ai Z ak s K o) (V:bi B A D o s e (.ref t.T)) (a1:K.L=X++bp B A t)
  (al:autoParam (eval (.Attribute e "_ready_nodes" ao) s=(do let w <-eval e s;standAt ao.atName;let r <-holding [w] (getAttr w "_ready_nodes" true);letTemporaryGo e w r;pure r)) h7._auto_1):bi B A D o s (.Attribute e "_ready_nodes" ao) (pr t.bM):=
 bi.uP C V (j8 a1) (memD a1) (λw ⟨a,b,d⟩=>⟨4,_,d,zT t a b⟩) (by unfold pr;split<;>rfl) hD zs al
theorem H.po (C:aw Q U ai Z ak s K o) (V:bi B A D o s e (.ref t.T)) (a1:K.L=X++bp B A t)
  (al:autoParam (eval (.Attribute e "_npassedout" ao) s=(do let w <-eval e s;standAt ao.atName;let r <-holding [w] (getAttr w "_npassedout" true);letTemporaryGo e w r;pure r)) h7._auto_1):H B A D Y o s (.Attribute e "_npassedout" ao) (.int t.po):=
 H.uP C V (j8 a1) (memD a1) (λw ⟨a,b,d⟩=>⟨4,_,_,d,xT t a b,rfl,λX h=>.int _ _⟩) hD uC al
theorem H.de (C:aw Q U ai Z ak s K o) (V:bi B A D o s e (.ref t.T)) (a1:K.L=X++bp B A t)
  (al:autoParam (eval (.Attribute e "_nfinished" ao) s=(do let w <-eval e s;standAt ao.atName;let r <-holding [w] (getAttr w "_nfinished" true);letTemporaryGo e w r;pure r)) h7._auto_1):H B A D Y o s (.Attribute e "_nfinished" ao) (.int t.de):=
 H.uP C V (j8 a1) (memD a1) (λw ⟨a,b,d⟩=>⟨4,_,_,d,xI t a b,rfl,λX h=>.int _ _⟩) hD uy al
theorem Nd {w i:Expr} {G:Unit->Shared->Prop} (h:wpAny (model B A) D (eval w s) (λgE aj=>wpAny (model B A) D (eval i s) (λHM aB=>wpAny (model B A) D (setItem gE HM v) G M aB) M aj) M o):wpAny (model B A) D (assign (.Subscript w i ao) s v) G M o:=by
 rw[assign_Subscript]
 refine ay (dZ (c5 h (λgE aj ca=>ay (dZ (c5 ca (λHM aB en=>ay (gK (ay (dZ (c5 en (λu ax ef=>wpAny_release ef) λ_ _ q=>q))))) λ_ _ q=>q))) λ_ _ q=>q))
theorem FU (C:aw Q U ai Z ak s K o) (V:bi B A D o s e v) (h:∀y,aw Q U ai Z ak s K y->G (.ret v) y):bl B A D (.Return (some e) ao::aZ) s G M o:=
 ⟨dA (wpAny_Return_some (V.ap o _ _ (an.refl _) λaj aq=>h aj (C.step aq)))⟩
noncomputable def s0 (B:Program) (A:World) (o y:Shared) (t dd:cC):Prop:=∀a∈eV B A dd,a∈eV B A t∨(o.heap.objs.size<=a/\a < y.heap.objs.size)
theorem Qx {R:Result->Shared->Prop} {st:Stmt} (names:List (Str×NameKind)) (cQ:List Str) (kp:D.depth < recursionLimit) (C:Base Q U o.heap) (w:hk B A t o.heap)
  (jy:FnAt o.heap a st bN em) (aW:(dQ st).names=names) (fh:(dQ st).kind=.function) (fi:(dQ st).isCoroutine=false) (kq:(dQ st).isGenerator=false)
  (lF:∀bs cd,bindArgs (fdOf st bN em bs cd) ⟨J,[]⟩=pure (cQ.zip J)) (a0:J.length=cQ.length)
  (nh:(cQ.all λx=>names.lookup x==some .local||names.lookup x==some .cell)=true) (nU:cQ.Nodup)
  (dE:∀(aj:Shared) (s:Env),s.scope.names=names->aw Q U [] (eV B A t) o s {L:=bp B A t,bO:=dl (cQ.zip J)} aj->
   bl B A (D.deeper s) (dV st) s (sQ R)
    (ti B A (D.deeper s) s R) aj):
  codeAny (model B A) D (.call (.ref a) ⟨J,[]⟩) R o:=by
 refine oi (Z:=eV B A t) (ai:=[]) (K:={L:=bp B A t,bO:=dl (cQ.zip J)}) names cQ kp C w.fj (λE aJ=>?_) (λp q=>(b9 q).elim) (λp af=>w.led p af _) w.ah (λa aF=>aF)
  (λE d e=>by cases e) (λE v e=>gq e) jy aW fh fi kq lF a0 nh nU λaj s al av hJ bc=>dE aj s al bc
 have aJ:E∈eV B A t++[]:=aJ
 rw[iy] at aJ
 exact w.lt E aJ
theorem bi.Aa {w:Expr} {ap:Pos} {n:Str} (C:aw Q U ai Z ak s K o) (V:bi B A D o s w (.ref O)) (cW:(O,Ent.own (dv B A cx))∈K.L) (f9:H B A D Y o s e (.str n)) (bn:(valueAt cx n).getD .none=v)
  (fA:autoParam (attributeBase w "get" s (eval w s)=eval w s) cg._auto_1) (aW:autoParam (starEach [e] s=[(false,eval e s)]) cg._auto_1) (fB:autoParam ((ap.endLine==ao.line)=true) cg._auto_1):
  bi B A D o s (.Call (.Attribute w "get" ap) [e] [] ao) v:=bn▸bi.OG C V cW f9 fA aW fB
theorem aw.ou {p:Pos} {d:PyData} (C:aw Q U ai Z ak s K o) (bn:K.bO x=some v) (r:∀X h,aO X h v d) (hd:autoParam ((x==("__debug__":Str))=false) fe._auto_1) (au:autoParam ((x==("__classdict__":Str))=false) fe._auto_1):H B A D Y o s (.Name x p) d:=
 .mk λaB G M aq h=>(C.ev bn hd au).ap aB _ _ aq λax a7=>h _ _ a7 (r _ _)
noncomputable def MB:List (Str×NameKind):=[("self",.local),("node",.local),("result",.local),("_NodeInfo",.globalImplicit)]
theorem Nm (R:b0 (k+3) D) {n:Str} {aD:Tok} (C:Base Q U o.heap) (w:hk B A t o.heap) (ar:t.ns.length<=900):
  codeAny (model B A) D (.call (.ref 137) ⟨[.ref t.T,.str n aD],[]⟩) (λr y=>cp λl a3=>z3 (r=.ok (.ret (.ref a3.ae))) (es (eV B A t) o y) (hk B A {t with ns:=t.ns++l} y.heap) (a3∈t.ns++l) (a3.ah.nm=n) ((t.ns++l).map (·.ah)=eT (t.ns.map (·.ah)) n) (s0 B A o y t {t with ns:=t.ns++l})) o:=by
 refine oF λG dt=>?_
 refine Qx MB ["self","node"] R.room C w (ED C) rfl rfl rfl rfl (λbs cd=>rfl) rfl (by decide) (by decide) λaj s al bc=>?_
 have c9:=R.deeper s
 have lN:({L:=bp B A t,bO:=dl ([("self":Str),"node"].zip [Value.ref t.T,.str n aD])}:bd).L=[]++bp B A t:=rfl
 refine xP ?_
 by_cases fY:n∈t.ns.map (·.ah.nm)
 ·obtain⟨a3,gH,gT⟩:=bZ.mp fY
  have bn:(valueAt (dC t.ns) n).getD .none=.ref a3.ae:=by refine a9 gT (m (uE w.eI gH) ?_);rfl
  refine mM (wpAny_NamedExpr ((bi.Aa (Y:=[]) bc (bi.rQ bc (bc.ev (x:="self") rfl) lN) (pv lN) (bc.ou (x:="node") rfl λX h=>.str n aD) bn).ap aj _ _ (an.refl _) λaB aE=>m3 ((bc.step aE).li (.inl (a8 al rfl)) λax bh=>?_))) (by with_unfolding_all rfl)
  refine(H.none (Y:=[])).ap ax _ _ (an.refl _) λv b2 c0 r=>?_
  refine aO.rM r ?_
  have be:=bh.step c0
  refine wpAny_is_other rfl (by intro e;cases e) (iq ?_)
  refine b8 (FU be (be.ev (x:="result") rfl) λy a4=>dt _ _ ⟨[],a3,rfl,a4.ex,?_,?_,gT,?_,?_⟩)
  ·refine m (iy _) ?_;exact a4.iC (X:=[]) rfl w.eI
  ·rw[iy];exact gH
  ·refine m (iy _) ?_
   unfold eT
   exact m (b3 (by refine m c6 ?_;exact fY)) rfl
  ·intro a aF
   rw[iy] at aF
   exact .inl aF
 ·have bn:(valueAt (dC t.ns) n).getD .none=.none:=by refine m (NE fY) ?_;rfl
  refine mM (wpAny_NamedExpr ((bi.Aa (Y:=[]) bc (bi.rQ bc (bc.ev (x:="self") rfl) lN) (pv lN) (bc.ou (x:="node") rfl λX h=>.str n aD) bn).ap aj _ _ (an.refl _) λaB aE=>m3 ((bc.step aE).li (.inl (a8 al rfl)) λax bh=>?_))) (by with_unfolding_all rfl)
  refine(H.none (Y:=[])).ap ax _ _ (an.refl _) λv b2 c0 r=>?_
  refine aO.rM r ?_
  have be:=bh.step c0
  refine wpAny_is_self rfl (iq ?_)
  refine⟨dA (wpAny_Assign_two ?_)⟩
  refine Call_Name rfl ((bi.glob be.aI (a8 al rfl) (by exact iT (by kernel_rfl)):bi B A (D.deeper s) b2 s (.Name "_NodeInfo" _) (.ref 97)).ap b2 _ _ (an.refl _) λcm fW=>?_)
  have bJ:=be.step fW
  obtain⟨P,cf⟩:=bJ.aI.base.cf
  refine callWith_of (P:=λh=>(KB P).In h) rfl (keeps_K (OH P)) (kg (jO ((bJ.ev (x:="node") rfl).ap cm _ _ (an.refl _) λds eu=>kH ⟨DL (Z:=[]) (λz q=>by cases q) eu.cw cf,?_⟩)))
  have b6:=bJ.step eu
  refine NI c9 b6.aI.base λx bB S dO fK j4 cB jw yt B0 aX a5 cu=>?_
  obtain⟨ab,cu⟩:=cu
  generalize gH:({ah:=⟨n,0,[]⟩,ae:=x,p4:=bB,S:=S}:co)=a3
  have c1:=b6.nE (X:=bp B A t) (L:=[]) (c7:=dN a3) (y:=fK) (by refine m (iy _) ?_;rfl) j4.cw (λp af Y=>by
   rw[<-gH] at af
   simp only[dN,bP,b9,eH] at af
   rcases af with rfl|rfl|rfl
   ·exact⟨_,aX,rfl,aD,dO,rfl⟩
   ·exact⟨_,a5,rfl,rfl⟩
   ·exact⟨#[],ab,cu,.nil⟩) (by
   refine a9 gH ?_
   show [x,bB,S].Nodup
   simp only[fO,bP,b9,eH,not_or,mE,and_true,hM]
   exact⟨⟨by exact Nat.ne_of_gt ‹_›,by exact kG ‹_›⟩,by exact X.ne_objs bB S emptyDict {cls:=Value.type "list",data:=Data.seq #[] ab} a5 cu rfl⟩) (λa aF=>by
   rw[<-gH] at aF
   have aF:a∈[x,bB,S]:=aF
   simp only[bP,b9,eH] at aF
   exact .inr (by rcases aF with rfl|rfl|rfl<;>first|exact⟨cB,ff jw (ff yt B0)⟩|exact⟨ew (ki cB jw),ff yt B0⟩|exact⟨ew (ki cB (ff jw yt)),B0⟩))
  have c1:=c1.perm (L:=dN a3++bp B A t) List.perm_append_comm
  refine Nd ((bi.rQ (X:=dN a3) (t:=t) c1 (c1.ev (x:="self") rfl) rfl).ap fK _ _ (an.refl _) λgS o8=>(c1.ev (x:="node") rfl).ap gS _ _ o8 λgG sh=>?_)
  have cT:=c1.step (o8.trans sh)
  refine cT.FE (Lq (X:=dN a3) (t:=t) rfl) (by unfold dC;refine m (bD _) ?_;exact aK ‹_› (by decide)) λlO e8=>?_
  rw[stored_new fY] at e8
  refine m3 (e8.li (.inl (a8 al rfl)) λsj ku=>?_)
  have k4:x=a3.ae:=by exact a9 gH rfl
  have se:a3.ah.nm=n:=by exact a9 gH rfl
  have B1:dC t.ns++[(n,Value.ref x)]=dC (t.ns++[a3]):=by unfold dC;refine m d3 (a9 gH ?_);rfl
  have jd:=ku.perm (L:=bp B A {t with ns:=t.ns++[a3]}) (by
   show(bp B A {t with ns:=t.ns++[a3]}).Perm ((dN a3++[(t.T,Ent.own (· =b7 194 t.cr [])),(t.cr,Ent.own (fo t))])++(t.N,.own (dv B A (dC t.ns++[(n,Value.ref x)])))::(f5 t.bM++t.ns.flatMap dN))
   refine m B1 ?_
   have bS:(dN a3++[(t.T,Ent.own (· =b7 194 t.cr [])),(t.cr,Ent.own (fo t))])++(t.N,.own (dv B A (dC (t.ns++[a3]))))::(f5 t.bM++t.ns.flatMap dN)=dN a3++((t.T,Ent.own (· =b7 194 t.cr []))::(t.cr,Ent.own (fo t))::(t.N,.own (dv B A (dC (t.ns++[a3]))))::(f5 t.bM++t.ns.flatMap dN)):=by simp
   refine m bS ?_
   have bV:bp B A {t with ns:=t.ns++[a3]}=((t.T,Ent.own (· =b7 194 t.cr []))::(t.cr,Ent.own (fo t))::(t.N,.own (dv B A (dC (t.ns++[a3]))))::(f5 t.bM++t.ns.flatMap dN))++dN a3:=by
    show(t.T,Ent.own (· =b7 194 t.cr []))::(t.cr,Ent.own (fo t))::(t.N,.own (dv B A (dC (t.ns++[a3]))))::(f5 t.bM++(t.ns++[a3]).flatMap dN)=_
    refine m tq (m (List.flatMap_singleton _ _) ?_)
    simp
   refine m bV ?_
   exact List.perm_append_comm)
  have eI:((t.ns++[a3]).map (·.ah.nm)).Nodup:=by
   refine m d3 ?_;rewrite[ia]
   refine⟨w.eI,by simp,λa aF b aA=>?_⟩
   have aA:b=a3.ah.nm:=by simpa using aA
   refine m aA (m se ?_)
   rintro rfl
   exact fY aF
  refine bl.out (b8 ?_)
  refine FU jd (jd.ev (x:="result") rfl) λy a4=>dt _ _ ⟨[a3],a3,by exact m k4 rfl,a4.ex,a4.iC (X:=[]) rfl eI,by simp,se,?_,?_⟩
  ·unfold eT
   refine m (bI (by refine m c6 ?_;exact fY)) (m d3 (a9 gH ?_))
   rfl
  ·intro a aF
   have bU:=(a4.iC (X:=[]) rfl eI).lt a aF
   rcases a4.own a aF with q|q
   ·exact .inr ⟨q,bU⟩
   ·exact .inl q
end
noncomputable def j9 (g:List cj) (n:Str) (k:Int):List cj:=g.map λd=>if d.nm=n then {d with np:=d.np+k} else d
noncomputable def iS (g:List cj) (p n:Str):List cj:=g.map λd=>if d.nm=p then {d with succ:=d.succ++[n]} else d
noncomputable def sZ (g:List cj) (n:Str) (bg:List Str):List cj:=bg.foldl (λg p=>iS (eT g p) p n) (j9 (eT g n) n bg.length)
noncomputable def co.up (n:co) (f:cj->cj):co:={n with ah:=f n.ah}
noncomputable def fM (ns:List co) (n:Str) (f:cj->cj):List co:=ns.map λx=>if x.ah.nm=n then x.up f else x
noncomputable def cC.upd (t:cC) (n:Str) (f:cj->cj):cC:={t with ns:=fM t.ns n f}
theorem EK {ns:List co} {n:Str} {f:cj->cj} (bb:∀d,(f d).nm=d.nm):(fM ns n f).map (·.ah.nm)=ns.map (·.ah.nm):=by
 unfold fM
 refine m c6 ?_
 refine gr λx _=>?_
 simp only[Function.comp]
 split
 ·exact bb _
 ·rfl
theorem uJ {ns:List co} {n:Str} {f:cj->cj}:(fM ns n f).map (·.ah)=(ns.map (·.ah)).map λd=>if d.nm=n then f d else d:=by
 unfold fM
 refine m c6 (m c6 ?_)
 refine gr λx _=>?_
 simp only[Function.comp]
 split<;>rfl
theorem M6 {ns:List co} (h:(ns.map (·.ah.nm)).Nodup) {n:co} (hm:n∈ns) (f:cj->cj):cp λa b=>ns=a++n::b/\fM ns n.ah.nm f=a++n.up f::b:=by
 obtain⟨a,b,rfl⟩:=List.append_of_mem hm
 refine⟨a,b,rfl,?_⟩
 rw[d3,dG,ia,fO] at h
 have same:∀l:List co,(∀x∈l,x.ah.nm≠n.ah.nm)->l.map (λx=>if x.ah.nm=n.ah.nm then x.up f else x)=l:=λl a0=>by
  conv=>rhs;rw[<-oC l]
  exact gr λx I=>by refine m (bI (a0 x I)) ?_;rfl
 unfold fM
 refine m d3 (m dG (m (b3 rfl) (m (same a λx I q=>h.2.2 _ (d9 I) _ (.head _) q) (m (same b λx I q=>h.2.1.1 (q▸bZ.mpr ⟨x,I,rfl⟩)) ?_))));rfl
theorem KO {ns:List co} {n:Str} {f:cj->cj} (bb:∀d,(f d).nm=d.nm):dC (fM ns n f)=dC ns:=by
 unfold dC fM
 refine m c6 ?_
 refine gr λx _=>?_
 simp only[Function.comp]
 split
 ·show((f x.ah).nm,Value.ref x.ae)=_;rw[bb]
 ·rfl
section
variable {Y:List Addr} {k:Nat} {t:cC} {X:List (Addr×Ent)}
theorem GU (au:(t.ns.map (·.ah.nm)).Nodup) (hm:a3∈t.ns) (f:cj->cj) (bb:∀d,(f d).nm=d.nm):cp λbz bY=>X++bp B A t=bz++(dN a3++bY)/\X++bp B A (t.upd a3.ah.nm f)=bz++(dN (a3.up f)++bY):=by
 obtain⟨a,b,aX,a5⟩:=M6 au hm f
 refine⟨X++((t.T,.own (· =b7 194 t.cr []))::(t.cr,.own (fo t))::(t.N,.own (dv B A (dC t.ns)))::(f5 t.bM++a.flatMap dN)),b.flatMap dN,?_,?_⟩
 ·show X++((t.T,.own (· =b7 194 t.cr []))::(t.cr,.own (fo t))::(t.N,.own (dv B A (dC t.ns)))::(f5 t.bM++t.ns.flatMap dN))=_
  have e:t.ns.flatMap dN=a.flatMap dN++(dN a3++b.flatMap dN):=by
   conv=>lhs;rw[aX]
   exact m tq (m List.flatMap_cons rfl)
  refine m e ?_
  simp only[oe,vi]
 ·show X++((t.T,.own (· =b7 194 t.cr []))::(t.cr,.own (fo t))::(t.N,.own (dv B A (dC (fM t.ns a3.ah.nm f))))::(f5 t.bM++(fM t.ns a3.ah.nm f).flatMap dN))=_
  have e:(fM t.ns a3.ah.nm f).flatMap dN=a.flatMap dN++(dN (a3.up f)++b.flatMap dN):=by
   exact m a5 (m tq (m List.flatMap_cons rfl))
  refine m (KO bb) (m e ?_)
  simp only[oe,vi]
theorem ma (a1:K.L=X++bp B A t) (hm:a3∈t.ns):∀p∈dN a3,p∈K.L:=λp af=>by
 refine m a1 ?_
 refine ez _ ?_
 refine .tail _ (.tail _ (.tail _ (ez _ (uT.mpr ⟨a3,hm,af⟩))))
theorem H.node (C:aw Q U ai Z ak s K o) (V:bi B A D o s e (.ref a3.ae)) (a1:K.L=X++bp B A t) (hm:a3∈t.ns)
  (al:autoParam (eval (.Attribute e "node" ao) s=(do let w <-eval e s;standAt ao.atName;let r <-holding [w] (getAttr w "node" true);letTemporaryGo e w r;pure r)) h7._auto_1):H B A D Y o s (.Attribute e "node" ao) (.str a3.ah.nm):=
 H.uo C V (ma a1 hm _ (.head _)) (ma a1 hm _ (.tail _ (.head _))) (λw ⟨a,b,d⟩=>⟨_,_,d,rfl,rfl,λX h=>.str _ _⟩) l9 zA al
theorem H.np (C:aw Q U ai Z ak s K o) (V:bi B A D o s e (.ref a3.ae)) (a1:K.L=X++bp B A t) (hm:a3∈t.ns)
  (al:autoParam (eval (.Attribute e "npredecessors" ao) s=(do let w <-eval e s;standAt ao.atName;let r <-holding [w] (getAttr w "npredecessors" true);letTemporaryGo e w r;pure r)) h7._auto_1):H B A D Y o s (.Attribute e "npredecessors" ao) (.int a3.ah.np):=
 H.uo C V (ma a1 hm _ (.head _)) (ma a1 hm _ (.tail _ (.head _))) (λw ⟨a,b,d⟩=>⟨_,_,d,rfl,rfl,λX h=>.int _ _⟩) l9 oM al
theorem bi.EG (C:aw Q U ai Z ak s K o) (V:bi B A D o s e (.ref a3.ae)) (a1:K.L=X++bp B A t) (hm:a3∈t.ns)
  (al:autoParam (eval (.Attribute e "successors" ao) s=(do let w <-eval e s;standAt ao.atName;let r <-holding [w] (getAttr w "successors" true);letTemporaryGo e w r;pure r)) h7._auto_1):bi B A D o s (.Attribute e "successors" ao) (.ref a3.S):=
 bi.uo C V (ma a1 hm _ (.head _)) (ma a1 hm _ (.tail _ (.head _))) (λw ⟨a,b,d⟩=>⟨_,d,rfl⟩) rfl l9 z5 al
theorem Gw {G:Value->Shared->Prop} (C:aw Q U ai Z ak s K o) (a1:K.L=X++bp B A t) (hm:a3∈t.ns) (h:∀aD y,aw Q U ai Z ak s K y->G (.int a3.ah.np aD) y):wpAny (model B A) D (getAttr (.ref a3.ae) "npredecessors" true) G M o:=by
 obtain⟨P,cf⟩:=C.aI.base.cf
 obtain⟨w,I,a,b,rfl⟩:=C.owned (ma a1 hm _ (.head _))
 obtain⟨dM,hq,_⟩:=C.owned (ma a1 hm _ (.tail _ (.head _)))
 exact u3 cf I hq rfl rfl (l9.kK P _) (oM.cl P) (oM.de P) (oM.ge P) (oM.tp P) (oM.gc P) (h b _ (C.step (an.tok _)))
theorem aw.wU {k aD} {G:Unit->Shared->Prop} (C:aw Q U ai Z ak s K o) (a1:K.L=X++bp B A t) (au:(t.ns.map (·.ah.nm)).Nodup) (hm:a3∈t.ns)
  (h:∀y,aw Q U ai Z ak s {K with L:=X++bp B A (t.upd a3.ah.nm λd=>{d with np:=k})} y->G () y):wpAny (model B A) D (setAttr (.ref a3.ae) "npredecessors" (.int k aD)) G M o:=by
 obtain⟨bz,bY,bS,bV⟩:=GU (B:=B) (A:=A) (X:=X) au hm (λd=>{d with np:=k}) λ_=>rfl
 refine C.xY (aa:=97) (T:=a3.ae) (cr:=a3.p4) (p:=rB a3) (e4:=rB (a3.up λd=>{d with np:=k})) (q:=(· =emptyDict)) (bz:=bz) (bY:=(a3.p4,.own (· =emptyDict))::(a3.S,.lst (a3.ah.succ.map .str))::bY) (by refine m a1 (m bS ?_);rfl) (ma a1 hm _ (.tail _ (.head _)))
  (λw ⟨a,b,d⟩=>⟨_,d,a,aD,rfl⟩) l9 oM λy a4=>h y ?_
 refine m bV ?_
 exact a4
theorem Li {w:Expr} {ap:Pos} {n:Str} (C:aw Q U ai Z ak s K o) (V:bi B A D o s w (.ref a3.ae)) (a1:K.L=X++bp B A t) (au:(t.ns.map (·.ah.nm)).Nodup) (hm:a3∈t.ns)
  (f9:H B A D (K.Y ai) o s e (.str n)) (ar:a3.ah.succ.length<=1000) (h:∀y,aw Q U ai Z ak s {K with L:=X++bp B A (t.upd a3.ah.nm λd=>{d with succ:=d.succ++[n]})} y->bl B A D aZ s G M y)
  (al:autoParam (eval (.Attribute w "successors" lw) s=(do let v <-eval w s;standAt lw.atName;let r <-holding [v] (getAttr v "successors" true);letTemporaryGo w v r;pure r)) h7._auto_1)
  (fA:autoParam (attributeBase (.Attribute w "successors" lw) "append" s (eval (.Attribute w "successors" lw) s)=eval (.Attribute w "successors" lw) s) cg._auto_1) (aW:autoParam (starEach [e] s=[(false,eval e s)]) cg._auto_1) (fB:autoParam ((ap.endLine==fI.line)=true) cg._auto_1)
  (kr:autoParam (swapsWith (.Call (.Attribute (.Attribute w "successors" lw) "append" ap) [e] [] fI) none ao.line s=pure false) cg._auto_1):
  bl B A D (.Expr (.Call (.Attribute (.Attribute w "successors" lw) "append" ap) [e] [] fI) ao::aZ) s G M o:=by
 obtain⟨bz,bY,bS,bV⟩:=GU (B:=B) (A:=A) (X:=X) au hm (λd=>{d with succ:=d.succ++[n]}) λ_=>rfl
 refine Aw (O:=a3.S) (aM:=a3.ah.succ.map .str) (bz:=bz++[(a3.ae,.own (rB a3)),(a3.p4,.own (· =emptyDict))]) (bY:=bY) C (bi.EG C V a1 hm al) (by refine m a1 (m bS ?_);simp[dN]) f9 (by rw[bD];exact ar) (λy a4=>h y ?_) fA aW fB kr
 refine m bV ?_
 have:bz++[(a3.ae,Ent.own (rB a3)),(a3.p4,.own (· =emptyDict))]++(a3.S,.lst (a3.ah.succ.map .str++[.str n]))::bY=bz++(dN (a3.up λd=>{d with succ:=d.succ++[n]})++bY):=by
  have B2:rB (a3.up λd=>{d with succ:=d.succ++[n]})=rB a3:=rfl
  simp only[dN,B2,co.up,d3,dG,List.map_nil,oe,vi,pn]
  rfl
 rw[this] at a4
 exact a4
theorem N1:foreign "_get_nodeinfo"=true:=by decide
theorem F2 {w:Expr} {ap:Pos} {n:Str} {G:Value->Shared->Prop} (R:b0 (k+3) D) (C:aw Q U ai Z ak s K o) (V:bi B A D o s w (.ref t.T)) (a1:K.L=X++bp B A t) (au:(t.ns.map (·.ah.nm)).Nodup) (ar:t.ns.length<=900)
  (f9:H B A D (K.Y ai) o s e (.str n))
  (h:∀l a3 y,aw Q U ai Z ak s {K with L:=X++bp B A {t with ns:=t.ns++l}} y->((t.ns++l).map (·.ah.nm)).Nodup->a3∈t.ns++l->a3.ah.nm=n->(t.ns++l).map (·.ah)=eT (t.ns.map (·.ah)) n->G (.ref a3.ae) y)
  (al:autoParam (eval (.Call (.Attribute w "_get_nodeinfo" ap) [e] [] ao) s=(do
   let gE <-eval w s
   standAt ap.atName
   let (f,first) <-holding [gE] (getMethod gE "_get_nodeinfo" qa)
   callWith ao f first (backTo ao (starEach [e] s)) (backToKw ao (keywordEach [] s)))) cg._auto_1) (aW:autoParam (starEach [e] s=[(false,eval e s)]) cg._auto_1):
  wpAny (model B A) D (eval (.Call (.Attribute w "_get_nodeinfo" ap) [e] [] ao) s) G M o:=by
 refine tt C (an.refl _) V (j8 a1) (memD a1) (λw ⟨a,b,d⟩=>⟨4,_,d,q5 t a b N1⟩) hD MQ (λC=>(ED C).fn) (λaB aE=>?_) al
 refine m aW ?_
 refine kg (jO (f9.ap aB _ _ aE λv ax a7 r=>kH ⟨a7,?_⟩))
 refine aO.fV r λaD=>?_
 have bh:=C.step (aE.trans a7)
 refine hg (h4 (Nm R bh.aI.base (bh.iC a1 au) ar) λr y aV=>?_)
 obtain⟨l,a3,rfl,cw,ok,hm,gT,bW,bC⟩:=aV
 refine h l a3 y ?_ ok.eI hm gT bW
 exact bh.nE a1 cw ok.led ok.ah bC
end
theorem LP (g:List cj) (n:Str) (k:Int):(j9 g n k).length=g.length:=by unfold j9;exact m (bD _) rfl
theorem Nn (g:List cj) (p n:Str):(iS g p n).length=g.length:=by unfold iS;exact m (bD _) rfl
theorem GH (g:List cj) (n:Str):(eT g n).length<=g.length+1:=by unfold eT;split<;>simp
noncomputable def lY (g:List cj) (ab:Nat):Prop:=∀d∈g,d.succ.length<=ab
theorem AV {g:List cj} {ab:Nat} (h:lY g ab) (n:Str):lY (eT g n) ab:=by
 unfold eT
 split
 ·exact h
 ·intro d hd
  rcases df.mp hd with hd|hd
  ·exact h d hd
  ·refine m (cn.mp hd) ?_;exact lU _
theorem PK {g:List cj} {ab:Nat} (h:lY g ab) (n:Str) (k:Int):lY (j9 g n k) ab:=by
 intro d hd
 unfold j9 at hd
 obtain⟨x,I,rfl⟩:=bZ.mp hd
 split
 ·exact h x I
 ·exact h x I
theorem JQ {g:List cj} {ab:Nat} (h:lY g ab) (p n:Str):lY (iS g p n) (ab+1):=by
 intro d hd
 unfold iS at hd
 obtain⟨x,I,rfl⟩:=bZ.mp hd
 have:=h x I
 split
 ·simp;exact this
 ·exact ht ‹_›
section
variable {Y:List Addr} {k:Nat} {t:cC} {X:List (Addr×Ent)}
theorem H.E9 {np:Pos} {az:Str->Option PyData} (aa:cJ Q U Y o s az) (aN:s.kindOf "len"=some .globalImplicit) (O:H B A D Y o s e (.tuple ag)) (ar:ag.length<=1000) (al:autoParam (starEach [e] s=[(false,eval e s)]) cg._auto_1):
  H B A D Y o s (.Call (.Name "len" np) [e] [] ao) (.int ag.length):=.mk λaj G M aq h=>by
 have V:bi B A D o s (.Name "len" np) (.builtin "len"):=bi.blt aa aN (by exact jk (by kernel_rfl))
 refine l3 al (V.ap aj _ _ aq λaB aE=>callWith_builtin1 (O.ap aB _ _ (aq.trans aE) λv ax a7 r=>?_))
 refine aO.AN r λa J rV aF l rs=>?_
 have a0:=rs.length
 refine PyProof.Rows.len_tuple l.isTup (by simp only[gz];(first|assumption|lia|omega)) (h _ _ ((aE.trans a7).trans (an.tok _)) ?_)
 refine m gz (m a0 ?_)
 exact .int _ _
theorem bL.isNotNone {p:Pos} {b:Bool} (V:bi B A D o s e v) (aA:(v=.none/\b=false)∨(∃a,v=.ref a/\b=true)):bL B A D o s (.Compare e [.IsNot] [.Constant .none j p] ao) b:=.mk λaj G M aq h=>by
 refine mM (V.ap aj _ _ aq λaB aE=>(H.none (Y:=[])).ap aB _ _ (aq.trans aE) λu ax a7 r=>?_) (by with_unfolding_all rfl)
 refine aO.rM r ?_
 rcases aA with⟨rfl,rfl⟩|⟨a,rfl,rfl⟩
 ·exact wpAny_isNot_self rfl (iq (h _ (aE.trans a7)))
 ·exact wpAny_isNot_other rfl (by intro e;cases e) (iq (h _ (aE.trans a7)))
theorem bL.isNone {p:Pos} {b:Bool} (V:bi B A D o s e v) (aA:(v=.none/\b=true)∨(∃a,v=.ref a/\b=false)):bL B A D o s (.Compare e [.Is] [.Constant .none j p] ao) b:=.mk λaj G M aq h=>by
 refine mM (V.ap aj _ _ aq λaB aE=>(H.none (Y:=[])).ap aB _ _ (aq.trans aE) λu ax a7 r=>?_) (by with_unfolding_all rfl)
 refine aO.rM r ?_
 rcases aA with⟨rfl,rfl⟩|⟨a,rfl,rfl⟩
 ·exact wpAny_is_self rfl (iq (h _ (aE.trans a7)))
 ·exact wpAny_is_other rfl (by intro e;cases e) (iq (h _ (aE.trans a7)))
noncomputable def zU (T n fQ:Value):List (Str×Value):=[("self",T),("node",n),("predecessors",fQ)]
theorem Ks (bs:Value) (T:Value) (n:Value) (bg:List Value):bindArgs (fdOf (hu 2) "TopologicalSorter.add" .none bs (.ref (144 - 1))) ⟨T::n::bg,[]⟩=(newTuple bg >>=λfQ=>pure (zU T n fQ)):=by
 cases bg<;>rfl
theorem Oc {g:List cj} (h:(g.map (·.nm)).Nodup) (hm:f6∈g) {n:Str} (au:f6.nm=n) {B3 B4:cj->cj} (e:B3 f6=B4 f6):(g.map λd=>if d.nm=n then B3 d else d)=g.map λd=>if d.nm=n then B4 d else d:=by
 refine gr λd hd=>?_
 by_cases q:d.nm=n
 ·refine m (b3 q) (m (b3 q) ?_)
  have:d=f6:=by
   obtain⟨i,aH,rfl⟩:=oJ hd
   obtain⟨j,bv,rfl⟩:=oJ hm
   have af:=mX.mp h
   rcases qV i j with z|z|z
   ·exact absurd (by exact m (my _) (m (my _) (m q (m au rfl)))) (af i j (by simpa using aH) (by simpa using bv) z)
   ·subst z;rfl
   ·exact absurd (by exact m (my _) (m (my _) (m q (m au rfl)))) (af j i (by simpa using bv) (by simpa using aH) z)
  refine m this (m e ?_);rfl
 ·exact m (bI q) (m (bI q) rfl)
noncomputable def rf (g:List cj) (n:Str) (ab:Nat) (je:List Str):List cj:=je.foldl (λg p=>iS (eT g p) p n) (j9 (eT g n) n ab)
theorem Kg {g:List cj} {n:Str} {ab:Nat} {b:Nat} (h:lY g b):∀je:List Str,(rf g n ab je).length<=g.length+1+je.length/\lY (rf g n ab je) (b+je.length):=by
 intro je
 have gen:∀(je:List Str) (g:List cj) (b:Nat),lY g b->(je.foldl (λg p=>iS (eT g p) p n) g).length<=g.length+je.length/\lY (je.foldl (λg p=>iS (eT g p) p n) g) (b+je.length):=by
  intro je
  induction je with
  |nil=>intro g b h;exact⟨cG _,h⟩
  |cons q je ih=>
   intro g b h
   have aX:=ih (iS (eT g q) q n) (b+1) (JQ (AV h q) q n)
   have a5:(iS (eT g q) q n).length<=g.length+1:=by refine m (Nn _ _ _) ?_;exact GH g q
   simp only[pA,hE]
   refine⟨by exact aK aX.1 (aK (ox a5 _) (di (pP _ _ _))),?_⟩
   refine m (show b+(je.length+1)=b+1+je.length by simp only[oj,Nat.add_left_comm,ru]) ?_
   exact aX.2
 have aX:=gen je (j9 (eT g n) n ab) b (PK (AV h n) n ab)
 have a5:(j9 (eT g n) n ab).length<=g.length+1:=by refine m (LP _ _ _) ?_;exact GH g n
 exact⟨by unfold rf;exact aK aX.1 (ox a5 _),aX.2⟩
noncomputable def KQ:List (Str×NameKind):=[("self",.local),("node",.local),("predecessors",.local),("nodeinfo",.local),("pred",.local),("pred_info",.local),("ValueError",.globalImplicit),("len",.globalImplicit)]
noncomputable def cC.with (t:cC) (ns:List co):cC:={t with ns:=ns}
theorem PO (R:b0 (k+4) D) {n:Str} {aD:Tok} {bg:List Str} {tX:List Value} (C:Base Q U o.heap) (w:hk B A t o.heap) (aV:t.bM=none) (ar:t.ns.length+bg.length<=800) (yu:lY (t.ns.map (·.ah)) 500) (B5:bg.length<=400) (nW:∃l:List (Str×Tok),tX=l.map (λp=>.str p.1 p.2)/\l.map (·.1)=bg):
  codeAny (model B A) D (.call (.ref 144) ⟨.ref t.T::.str n aD::tX,[]⟩) (λr y=>∃ns,nF (r=.ok (.ret .none)) (es (eV B A t) o y) (hk B A (t.with ns) y.heap) (ns.map (·.ah)=sZ (t.ns.map (·.ah)) n bg) (s0 B A o y t (t.with ns))) o:=by
 have HN:∀X h,bR X h tX (bg.map .str):=by
  obtain⟨l,rfl,rfl⟩:=nW
  intro X h
  induction l with
  |nil=>exact .nil
  |cons a l ih=>
   refine .cons (.str _ _) (ih ?_ ?_)
   ·simp at ar ⊢;exact ew ‹_›
   ·simp at B5 ⊢;exact ht ‹_›
 have cI:tX.length=bg.length:=by have:=(HN [] o.heap).length;rwa [bD] at this
 refine oF λG dt=>?_
 refine xg (Z:=eV B A t) (ai:=[]) (K:={L:=bp B A t,az:=dl [("predecessors",.tuple (bg.map .str))],bO:=dl [("self",.ref t.T),("node",.str n aD)]}) KQ R.room C w.fj (λE aJ=>?_) (λp q=>(b9 q).elim) (λp af=>w.led p af _) w.ah (λa aF=>aF)
  (Ns C) rfl rfl rfl rfl (by decide) (λeD y=>∃fQ,ce (eD=zU (.ref t.T) (.str n aD) (.ref fQ)) (o.heap.objs.size<=fQ) (∃ab,IsT y.heap fQ tX.toArray ab)) (λbs G M h=>?_) (λeD y af=>?_) (λeD y x af E d e=>?_) (λeD y x af E v e=>?_) λaj s al av hJ bc=>?_
 ·have aJ:E∈eV B A t++[]:=aJ
  rw[iy] at aJ
  exact w.lt E aJ
 ·refine m (Ks _ _ _ _) ?_
  refine ay (wpAny_newTuple ?_ (by refine m dR ?_;exact c2 (aK (di cI) B5)))
  exact bx (h _ _ (an.push _) ⟨_,rfl,cG _,0,dT _ rfl⟩)
 ·obtain⟨fQ,rfl,_⟩:=af
  intro x I
  simp only[zU,bP,b9,eH] at I
  rcases I with rfl|rfl|rfl<;>rfl
 ·obtain⟨fQ,rfl,B6,ab,it⟩:=af
  have hm:=gq e
  rw[cn] at hm
  obtain⟨rfl,rfl⟩:=gv hm
  refine⟨.ref fQ,rfl,rfl,.tuple (λq=>?_) it (by simpa using HN _ _)⟩
  have q:fQ∈eV B A t++[]:=q
  rw[iy] at q
  exact absurd (w.lt fQ q) (eZ.mpr B6)
 ·obtain⟨fQ,rfl,_⟩:=af
  have hm:=gq e
  simp only[bP,b9,eH] at hm
  rcases hm with hm|hm
  ·obtain⟨rfl,rfl⟩:=gv hm;exact⟨rfl,rfl⟩
  ·obtain⟨rfl,rfl⟩:=gv hm;exact⟨rfl,rfl⟩
 have c9:=R.deeper s
 have bj:(D.deeper s).handled=Option.none:=c9.h
 refine fF bc (c:=false) (bL.isNotNone (bi.d0 (X:=[]) (t:=t) bc (bc.ev (x:="self") rfl) rfl) (.inl ⟨by refine m aV ?_;rfl,rfl⟩)) λaB aQ=>b8 ?_
 refine⟨dA (kO (F2 (X:=[]) (t:=t) (n:=n) c9 aQ (aQ.ev (x:="self") rfl) rfl w.eI (by exact c2 (aK (jS _ _) ar)) (aQ.ou (x:="node") rfl λX h=>.str n aD) λl a3 ax bh eI hm gT bW=>bh.li (.inl (a8 al rfl)) λb2 be=>?_))⟩
 generalize yv:({t with ns:=t.ns++l}:cC)=t1 at be
 have bS:t1.ns=t.ns++l:=by exact a9 yv rfl
 have be:=be.norm (bp B A t1) [("predecessors",.tuple (bg.map .str))] [("self",.ref t1.T),("node",.str n aD),("nodeinfo",.ref a3.ae)] rfl ⟨rfl,trivial⟩ ⟨by refine a9 yv ?_;rfl,rfl,rfl,trivial⟩
 have mm:a3∈t1.ns:=by refine m bS ?_;exact hm
 have HO:(t1.ns.map (·.ah.nm)).Nodup:=by refine m bS ?_;exact eI
 refine bl.out (x4 ((be.ev (x:="nodeinfo") rfl).ap b2 _ _ (an.refl _) λcm fW=>Gw (X:=[]) (t:=t1) (be.step fW) rfl mm λhH ds b6=>(H.E9 b6.aI (a8 al rfl) (H.name b6.aI rfl) (by rw[bD];exact aK ‹_› (by decide))).ap ds _ _ (an.refl _) λv fK j4 r=>?_))
 refine aO.fU r λSa=>?_
 refine AutoIntOps.iadd_0 ?_
 have c1:=(b6.step j4).step (an.tok (o:=fK) (fK.toks+1))
 refine c1.wU (X:=[]) (t:=t1) (a3:=a3) rfl HO mm λgS cS=>?_
 have cS:=cS.norm (bp B A (t1.upd a3.ah.nm λd=>{d with np:=a3.ah.np+((bg.map PyData.str).length:Nat)})) [("predecessors",.tuple (bg.map .str))] [("self",.ref t1.T),("node",.str n aD)] rfl ⟨rfl,trivial⟩ ⟨rfl,rfl,trivial⟩
 have gC:(fM t1.ns a3.ah.nm λd=>{d with np:=a3.ah.np+((bg.map PyData.str).length:Nat)}).map (·.ah)=rf (t.ns.map (·.ah)) n bg.length []:=by
  refine m uJ (m bS (m bW (m gT ?_)))
  show _=j9 (eT (t.ns.map (·.ah)) n) n bg.length
  unfold j9
  refine Oc (B3:=λd=>{d with np:=a3.ah.np+((bg.map PyData.str).length:Nat)}) (B4:=λd=>{d with np:=d.np+(bg.length:Nat)}) (f6:=a3.ah) ?_ ?_ gT (by simp only[bD])
  ·refine a9 bW (m c6 ?_);exact eI
  ·refine a9 bW ?_;exact d9 (f:=(·.ah)) hm
 have HP:((fM t1.ns a3.ah.nm λd=>{d with np:=a3.ah.np+((bg.map PyData.str).length:Nat)}).map (·.ah.nm)).Nodup:=by
  refine m (EK (f:=λd:cj=>{d with np:=a3.ah.np+((bg.map PyData.str).length:Nat)}) λ_=>rfl) ?_;exact HO
 have B7:t1.T=t.T:=by exact a9 yv rfl
 have Sb:t1.upd a3.ah.nm (λd=>{d with np:=a3.ah.np+((bg.map PyData.str).length:Nat)})=t.with (fM t1.ns a3.ah.nm λd=>{d with np:=a3.ah.np+((bg.map PyData.str).length:Nat)}):=by unfold cC.upd cC.with;exact a9 yv rfl
 rw[Sb,B7] at cS
 generalize (fM t1.ns a3.ah.nm λd=>{d with np:=a3.ah.np+((bg.map PyData.str).length:Nat)})=mn at cS gC HP
 refine mY cS (H.name cS.aI rfl) (.tuple _) (.inl (a8 al rfl)) bj
  (λi K=>∃ns,ce (K={L:=bp B A (t.with ns),az:=dl [("predecessors",.tuple (bg.map .str))],bO:=dl [("self",.ref t.T),("node",.str n aD)]}) (ns.map (·.ah)=rf (t.ns.map (·.ah)) n bg.length (bg.take i)) ((ns.map (·.ah.nm)).Nodup)) ⟨mn,rfl,by simpa using gC,HP⟩ ?_ ?_
 ·rintro i eC K ae v gG cD jb fR aH ⟨ns,rfl,tY,B8⟩ cT
  have e6:(bg.map PyData.str)[i]?=some eC:=aH
  rw[fm] at e6
  obtain⟨q,aS,rfl⟩:=ka.mp e6
  have lK:bg.take (i+1)=bg.take i++[q]:=by refine m kf (m aS ?_);rfl
  have bU:=(gL.mp aS).1
  have HQ:=Kg (n:=n) (ab:=bg.length) yu (bg.take i)
  have HR:(bg.take i).length<=i:=List.length_take_le i bg
  have Sc:ns.length<=t.ns.length+1+i:=by
   have:ns.length=(ns.map (·.ah)).length:=by rw[bD]
   refine m this (m tY ?_)
   have:=HQ.1
   rw[bD] at this
   exact aK this (lg HR _)
  have cT:=cT.e3 ((ae,.own (bk v (.tuple (bg.map .str)) (i+1)))::bp B A (t.with ns)) [(v,.tuple (bg.map .str))] [("predecessors",.tuple (bg.map .str)),("pred",.str q)] [("self",.ref t.T),("node",.str n aD)] rfl ⟨.head _,trivial⟩ ⟨rfl,rfl,trivial⟩ ⟨rfl,rfl,trivial⟩
  refine⟨dA (kO (F2 (X:=[(ae,.own (bk v (.tuple (bg.map .str)) (i+1)))]) (t:=t.with ns) (n:=q) c9 cT (cT.ev (x:="self") rfl) rfl B8 (by show ns.length<=900;exact c2 (aK Sc (aK (di (ru _ _ _)) (aK (lg (aK (di (oj 1 i)) bU) _) ar)))) (H.name cT.aI rfl) λfg mo lO e8 qA fL Sd ja=>e8.li (.inl (a8 al rfl)) λsj ku=>?_))⟩
  have fL:mo∈ns++fg:=fL
  have ja:(ns++fg).map (·.ah)=eT (ns.map (·.ah)) q:=ja
  have qA:((ns++fg).map (·.ah.nm)).Nodup:=qA
  have i8:mo.ah.succ.length<=1000:=by
   have aX:mo.ah∈eT (ns.map (·.ah)) q:=by refine a9 ja ?_;exact d9 (f:=(·.ah)) fL
   rw[tY] at aX
   have:=AV HQ.2 q _ aX
   exact c2 (aK this (lg (aK HR (aK (ew bU) B5)) _))
  have ku:=ku.e3 ((ae,.own (bk v (.tuple (bg.map .str)) (i+1)))::bp B A (t.with (ns++fg))) [(v,.tuple (bg.map .str))] [("predecessors",.tuple (bg.map .str)),("pred",.str q)] [("self",.ref t.T),("node",.str n aD),("pred_info",.ref mo.ae)] rfl ⟨.head _,trivial⟩ ⟨rfl,rfl,trivial⟩ ⟨rfl,rfl,rfl,trivial⟩
  refine bl.out (Li (X:=[(ae,.own (bk v (.tuple (bg.map .str)) (i+1)))]) (t:=t.with (ns++fg)) (a3:=mo) (n:=n) ku (ku.ev (x:="pred_info") rfl) rfl qA fL (ku.ou (x:="node") rfl λX h=>.str n aD) i8 λyw jd=>b8 (fR _ _ ⟨_,⟨fM (ns++fg) mo.ah.nm λd=>{d with succ:=d.succ++[n]},rfl,?_,?_⟩,?_⟩))
  ·refine m uJ (m ja (m Sd (m lK (m tY ?_))))
   show iS (eT (rf _ n bg.length (bg.take i)) q) q n=_
   unfold rf
   refine m pM ?_;rfl
  ·refine m (EK (f:=λd:cj=>{d with succ:=d.succ++[n]}) λ_=>rfl) ?_;exact qA
  ·exact jd.tv (ae:=ae) (v:=v) (d:=.tuple (bg.map .str)) (i:=i+1) (bp B A (t.with (fM (ns++fg) mo.ah.nm λd=>{d with succ:=d.succ++[n]}))) [("predecessors",.tuple (bg.map .str))] [("self",.ref t.T),("node",.str n aD)] rfl (.head _) ⟨rfl,trivial⟩ ⟨rfl,rfl,trivial⟩
 ·rintro K gG cD ⟨ns,rfl,tY,B8⟩ cT
  have e:(items (.tuple (bg.map .str))).length=bg.length:=by show(bg.map PyData.str).length=_;rw[bD]
  rw[e,jN] at tY
  have ok:=cT.iC (X:=[]) (t:=t.with ns) rfl B8
  refine b8 (b8 (dt _ _ ⟨ns,rfl,cT.ex,ok,tY,λa aF=>?_⟩))
  have bU:=ok.lt a aF
  rcases cT.own a aF with q|q
  ·exact .inr ⟨q,bU⟩
  ·exact .inl q
end
theorem Mc (l:Addr) (items:Array Value) (B9:(items.size:Int) < 2 ^ 63):Meets (Builtin.«bool.__new__» ⟨[.type "bool",.ref l],[]⟩) (λ_ R o=>o.heap.IsList l items/\R (.ok (.ret (.bool (!items.isEmpty)))) {o with toks:=o.toks+1+1}):=
 Meets.of_wp λB A D R o aW=>by
  obtain⟨a0,aW⟩:=aW
  obtain⟨af,g,d,aD,os⟩:=o
  have f1:=F.conv_sub_bool
  repeat (any_goals (first|assumption|(with_reducible refine wpAny_truthy_list a0 B9 ?_)|wp_step))
  all_goals first|exact⟨_,rfl,aW⟩|exact aW|skip
section
variable {Y:List Addr} {k:Nat} {t:cC} {X:List (Addr×Ent)}
theorem H.Qv {np:Pos} (C:aw Q U ai Z ak s K o) (aN:s.kindOf "bool"=some .globalImplicit) (V:bi B A D o s e (.ref O)) (cW:(O,Ent.lst aM)∈K.L) (ar:aM.length<=1000) (al:autoParam (starEach [e] s=[(false,eval e s)]) cg._auto_1):
  H B A D Y o s (.Call (.Name "bool" np) [e] [] ao) (.bool (!aM.isEmpty)):=.mk λaj G M aq h=>by
 have Ca:bi B A D o s (.Name "bool" np) (.type "bool"):=bi.blt C.aI aN (by exact jk (by kernel_rfl))
 refine l3 al (Ca.ap aj _ _ aq λaB aE=>xm (V.ap aB _ _ (aq.trans aE) λax a7=>?_))
 obtain⟨J,n,l,rs⟩:=(C.step ((aq.trans aE).trans a7)).iZ cW
 have cI:=rs.length
 rw[lj] at cI
 have e:J.isEmpty=aM.isEmpty:=by
  cases aM with
  |nil=>simp only[rK] at cI;refine m (Array.eq_empty_of_size_eq_zero cI) ?_;rfl
  |cons d aM=>
   cases q:J.isEmpty with
   |false=>rfl
   |true=>rw[Array.isEmpty_iff_size_eq_zero.mp q] at cI;simp at cI
 refine call_bool_1 (Mc O J (by refine m cI ?_;(first|assumption|lia|omega))) ⟨l.isList,(show wants _ _ _ _ from⟨rfl,?_⟩)⟩
 refine m e ?_
 exact h _ _ ((aE.trans a7).trans (an.tok _)) (.bool _)
theorem Gl {R:Result->Shared->Prop} {st:Stmt} (names:List (Str×NameKind)) (cQ:List Str) (kp:D.depth < recursionLimit) (C:Base Q U o.heap) (w:hk B A t o.heap) (aJ:∀E∈ai,E < o.heap.objs.size)
  (jy:FnAt o.heap a st bN em) (aW:(dQ st).names=names) (fh:(dQ st).kind=.function) (fi:(dQ st).isCoroutine=false) (kq:(dQ st).isGenerator=false)
  (lF:∀bs cd,bindArgs (fdOf st bN em bs cd) ⟨J,[]⟩=pure (cQ.zip J)) (a0:J.length=cQ.length)
  (nh:(cQ.all λx=>names.lookup x==some .local||names.lookup x==some .cell)=true) (nU:cQ.Nodup)
  (dE:∀(aj:Shared) (s:Env),s.scope.names=names->aw Q U ai (eV B A t) o s {L:=bp B A t,bO:=dl (cQ.zip J)} aj->
   bl B A (D.deeper s) (dV st) s (sQ R)
    (ti B A (D.deeper s) s R) aj):
  codeAny (model B A) D (.call (.ref a) ⟨J,[]⟩) R o:=by
 refine oi (Z:=eV B A t) (ai:=ai) (K:={L:=bp B A t,bO:=dl (cQ.zip J)}) names cQ kp C w.fj (λE hm=>?_) (λp q=>(b9 q).elim) (λp af=>w.led p af _) w.ah (λa aF=>aF)
  (λE d e=>by cases e) (λE v e=>gq e) jy aW fh fi kq lF a0 nh nU λaj s al av hJ bc=>dE aj s al bc
 rcases df.mp hm with q|q
 ·exact w.lt E q
 ·exact aJ E q
noncomputable def Om:List (Str×NameKind):=[("self",.local),("ValueError",.globalImplicit),("bool",.globalImplicit)]
theorem EQ {l:List Str} (a1:K.L=X++bp B A t) (aV:t.bM=some (a,l)):(a,Ent.lst (l.map .str))∈K.L:=by
 refine m a1 ?_
 refine ez _ (.tail _ (.tail _ (.tail _ (e2 _ ?_))))
 refine m aV ?_
 exact .head _
theorem sK {l:List Str} (aV:t.bM=some (a,l)):pr t.bM=.ref a:=by refine m aV ?_;rfl
theorem KE (R:b0 (k+1) D) {l:List Str} (C:Base Q U o.heap) (w:hk B A t o.heap) (aV:t.bM=some (a,l)) (ar:l.length<=1000):
  codeAny (model B A) D (.call (.ref 163) ⟨[.ref t.T],[]⟩) (λr y=>ce (r=.ok (.ret (.bool (decide (t.de < t.po)||!l.isEmpty)))) (es (eV B A t) o y) (hk B A t y.heap)) o:=by
 refine Gl (ai:=[]) Om ["self"] R.room C w (λ_ q=>(b9 q).elim) (FD C) rfl rfl rfl rfl (λbs cd=>rfl) rfl (by decide) (by decide) λaj s al bc=>?_
 refine fF bc (c:=false) (bL.isNone (bi.d0 (X:=[]) (t:=t) bc (bc.ev (x:="self") rfl) rfl) (.inr ⟨a,sK aV,rfl⟩)) λaB aQ=>b8 ?_
 have V:bi B A (D.deeper s) aB s (.Name "self" _) (.ref t.T):=aQ.ev (x:="self") (p:=⟨142,58,142,62⟩) rfl
 have Se:bi B A (D.deeper s) aB s (.Attribute (.Name "self" ⟨142,58,142,62⟩) "_ready_nodes" ⟨142,58,142,75⟩) (.ref a):=sK aV▸bi.d0 (X:=[]) (t:=t) aQ V rfl
 refine hv aQ (H.or (H.cmp aQ.aI.base (H.de (X:=[]) (t:=t) aQ (aQ.ev (x:="self") rfl) rfl) (H.po (X:=[]) (t:=t) aQ (aQ.ev (x:="self") rfl) rfl) cH.lt) λ_=>H.GS (H.Qv aQ (a8 al rfl) Se (EQ (X:=[]) (t:=t) rfl aV) (by rw[bD];exact ar))) λv y a4 r=>?_
 refine aO.GJ r ?_
 refine⟨?_,a4.ex,a4.iC (X:=[]) rfl w.eI⟩
 cases l<;>rfl
end
noncomputable def iA (g:List cj) (pa:List Str):List cj:=g.map λd=>if d.nm∈pa then {d with np:=-1} else d
theorem L4 (g:List cj):iA g []=g:=by
 unfold iA
 conv=>rhs;rw[<-oC g]
 exact gr λd _=>by refine m (bI (b9)) ?_;rfl
theorem zM (g:List cj) (pa:List Str):(iA g pa).map (·.nm)=g.map (·.nm):=by
 unfold iA
 refine m c6 ?_
 exact gr λd _=>by simp only[Function.comp];split<;>rfl
theorem Nw (g:List cj) (pa:List Str) (q:Str):(iA g pa).map (λd=>if d.nm=q then {d with np:=-1} else d)=iA g (pa++[q]):=by
 unfold iA
 refine m c6 ?_
 refine gr λd _=>?_
 simp only[Function.comp,df,cn]
 by_cases aX:d.nm∈pa
 ·simp only[aX,true_or,fv]
  split<;>rfl
 ·by_cases a5:d.nm=q
  ·subst a5;simp[aX]
  ·simp[aX,a5]
theorem Gk {ns:List co} {g:List cj} (h:ns.map (·.ah)=g):ns.map (·.ah.nm)=g.map (·.nm):=by refine a9 h (m c6 ?_);rfl
theorem xn {ns:List co} (h:q∈ns.map (·.ah.nm)):∃a3∈ns,a3.ah.nm=q:=bZ.mp h
theorem N3 {t dd:cC} (aX:dd.N=t.N) (a5:pr dd.bM=pr t.bM) (cu:dd.po=t.po) (ej:dd.de=t.de):fo dd=fo t:=by
 unfold fo ha
 exact m aX (m a5 (m cu (m ej rfl)))
theorem vl {G:List Value->Shared->Prop} (it:Addr) {T:String} {items:Array Value} {n:Nat} (cK:T="list"∨T="tuple")
  (aP:o.heap.get? it=some w) (av:w.cls=.type T) (hd:w.data=.seq items n) (i8:items.size<=sizeLine)
  (dt:∀am,(∀b bA,o.heap.get? b=some bA->am.get? b=some bA)->o.heap.objs.size<=am.objs.size->G items.toList {o with heap:=am}):
  wpAny (model B A) D (collect (.ref it)) G M o:=
 j7 (c5 (wpAny_collect_seq (E:=λ_ _=>False) (Q:=λl y=>o.heap.objs.size<=y.heap.objs.size->G l y) it cK aP av hd (λam aN ar=>dt am aN ar) i8) (λ_ _ q=>q) λ_ _ q=>q.elim)
theorem NV (l:Addr) (w:Obj) (items:Array Value) (n:Nat) (av:w.cls=.type "list") (hd:w.data=.seq items n) (i8:items.size<=sizeLine):
  Meets (Builtin.«tuple.__new__» ⟨[.type "tuple",.ref l],[]⟩)
   (λ_ R o=>o.heap.get? l=some w/\∀am:Heap,(∀b bA,o.heap.get? b=some bA->am.get? b=some bA)->o.heap.objs.size<=am.objs.size->R (.ok (.ret (.ref am.objs.size))) {o with heap:=am.push {cls:=.type "tuple",data:=.seq items}}):=
 .of_wp λB A D R o h=>by
  obtain⟨af,g,d,aD,os⟩:=o;obtain⟨bu,h⟩:=h
  have gP:=sub_tuple_self
  have WF:=init_tuple_lookup
  have WG:=madeHere_tuple
  have cK:Shared.TypeIs ⟨af,g,d,aD,os⟩ (.ref l) "list":=⟨w,bu,av⟩
  wp_walk using wpAny_loadPart' bu,wpAny_typeOf cK,vl (i8:=i8) l (.inl rfl) bu av hd
  intro am aN ar
  show wpAny _ _ (Builtin.Tuple.tupleExact items.toList.toArray >>=λv=>ret v) _ _ _
  unfold Builtin.Tuple.tupleExact
  refine ay (jJ ?_ (by show items.toList.toArray.size<=sizeLine;simpa using i8))
  refine bx ⟨_,rfl,?_⟩
  have e:items.toList.toArray=items:=by simp
  refine m e ?_
  exact h am aN ar
theorem Nq {l:Addr} {items:Array Value} {G:Value->Shared->Prop} (a0:o.heap.IsList l items)
  (h:∀am:Heap,(∀b bA,o.heap.get? b=some bA->am.get? b=some bA)->o.heap.objs.size<=am.objs.size->G (.ref am.objs.size) {o with heap:=am.push {cls:=.type "tuple",data:=.seq items}})
  (i8:items.size<=sizeLine):wpAny (model B A) D (call (.type "tuple") [.ref l]) G M o:=by
 obtain⟨w,aP,av,n,hd⟩:=a0
 exact callType_new F.called_tuple (by decide) (F.typeCall_tuple_1 _) (F.newCall_tuple_1 _) (λyx=>F.args_object_init_2 yx _) F.entry_tuple_new
  (NV l w items n av hd i8) ⟨aP,λam aN ar=>⟨⟨_,dT _ rfl,rfl⟩,h am aN ar⟩⟩
section
variable {Y:List Addr} {k:Nat} {t:cC} {X:List (Addr×Ent)} {az:Str->Option PyData}
theorem H.zZ {np:Pos} (aa:cJ Q U Y o s az) (aN:s.kindOf "_NODE_OUT"=some .globalImplicit):H B A D Y o s (.Name "_NODE_OUT" np) (.int (-1)):=.mk λaj G M aq h=>by
 obtain⟨t,bu⟩:=aa.base.nm.out
 exact uW aa.fn aN (Calls.loadGlobal_global (mg:=Q) (by refine m aa.hF ?_;exact(aa.base.ex aq).g) bu (h _ aj (an.refl _) (.int _ _))) (by decide)
theorem H.P7 {np:Pos} (aa:cJ Q U Y o s az) (aN:s.kindOf "_NODE_DONE"=some .globalImplicit):H B A D Y o s (.Name "_NODE_DONE" np) (.int (-2)):=.mk λaj G M aq h=>by
 obtain⟨t,bu⟩:=aa.base.nm.done
 exact uW aa.fn aN (Calls.loadGlobal_global (mg:=Q) (by refine m aa.hF ?_;exact(aa.base.ex aq).g) bu (h _ aj (an.refl _) (.int _ _))) (by decide)
theorem H.tupleOf {np:Pos} (C:aw Q U ai Z ak s K o) (aN:s.kindOf "tuple"=some .globalImplicit) (V:bi B A D o s e (.ref O)) (cW:(O,Ent.lst aM)∈K.L) (ar:aM.length<=1000) (al:autoParam (starEach [e] s=[(false,eval e s)]) cg._auto_1):
  H B A D (K.Y ai) o s (.Call (.Name "tuple" np) [e] [] ao) (.tuple aM):=.mk λaj G M aq h=>by
 have Ca:bi B A D o s (.Name "tuple" np) (.type "tuple"):=bi.blt C.aI aN (by exact jk (by kernel_rfl))
 refine l3 al (Ca.ap aj _ _ aq λaB aE=>xm (V.ap aB _ _ (aq.trans aE) λax a7=>?_))
 have bh:=C.step ((aq.trans aE).trans a7)
 obtain⟨J,n,l,rs⟩:=bh.iZ cW
 have cI:=rs.length
 rw[lj] at cI
 refine Nq l.isList (λam aN ar=>?_) (by refine m dR ?_;exact c2 (aK (di cI) ar))
 have tZ:an ax {ax with heap:=am.push {cls:=.type "tuple",data:=.seq J}}:=
  an.of_keeps (aD:=ax.toks) (λb w q=>e1 _ (aN b w q)) (by refine m (eN _ _) ?_;exact ht ar)
 refine h _ _ ((aE.trans a7).trans tZ) (.tuple (λq=>?_) (dT _ rfl) (rs.ex bh.tabs tZ))
 exact absurd (bh.aI.eb _ q) (eZ.mpr ar)
theorem wK {np:Pos} (C:aw Q U ai Z ak s K o) (V:bi B A D o s e v) (aN:hG s x)
  (h:∀y,aw Q U ai Z ak s (K.tc x v) y->bl B A D aZ s G M y) (aW:autoParam (swapsWith e (some (.Name x np)) ao.line s=pure false) cg._auto_1):
  bl B A D (.Assign [.Name x np] e ao::aZ) s G M o:=
 ⟨dA (kO (V.ap o _ _ (an.refl _) λaj aq=>(C.step aq).li aN λy a4=>(h y a4).out) aW)⟩
theorem OS {G:Value->Shared->Prop} (C:aw Q U ai Z ak s K o) (a1:K.L=X++bp B A t) (h:∀aD y,aw Q U ai Z ak s K y->G (.int t.po aD) y):wpAny (model B A) D (getAttr (.ref t.T) "_npassedout" true) G M o:=by
 obtain⟨P,cf⟩:=C.aI.base.cf
 obtain⟨w,I,rfl⟩:=C.owned (j8 a1)
 obtain⟨dM,hq,a,b,az⟩:=C.owned (memD a1)
 exact w7 cf I hq az (xT t a b) rfl (hD.kK P _) (uC.hd P) (uC.de P) rfl (h a _ (C.step (an.tok _)))
theorem OR {G:Value->Shared->Prop} (C:aw Q U ai Z ak s K o) (a1:K.L=X++bp B A t) (h:∀aD y,aw Q U ai Z ak s K y->G (.int t.de aD) y):wpAny (model B A) D (getAttr (.ref t.T) "_nfinished" true) G M o:=by
 obtain⟨P,cf⟩:=C.aI.base.cf
 obtain⟨w,I,rfl⟩:=C.owned (j8 a1)
 obtain⟨dM,hq,a,b,az⟩:=C.owned (memD a1)
 exact w7 cf I hq az (xI t a b) rfl (hD.kK P _) (uy.hd P) (uy.de P) rfl (h b _ (C.step (an.tok _)))
theorem aw.NC {k aD} {G:Unit->Shared->Prop} (C:aw Q U ai Z ak s K o) (a1:K.L=X++bp B A t)
  (h:∀y,aw Q U ai Z ak s {K with L:=X++bp B A {t with po:=k}} y->G () y):wpAny (model B A) D (setAttr (.ref t.T) "_npassedout" (.int k aD)) G M o:=by
 refine C.qW (e4:=fo {t with po:=k}) (j8 a1) (Eo a1) (λw ⟨a,b,d⟩=>⟨4,_,d,by decide,λbA dW=>⟨aD,b,?_⟩⟩) hD uC λy a4=>h y ?_
 ·rw[xT,xf,b3 rfl] at dW
  have:ha {t with po:=k} aD b=λ(E:Str)=>if E="_npassedout" then some (.int k aD) else ha t a b E:=by
   funext E
   by_cases q:E="_npassedout"
   ·subst q;refine m (b3 rfl) ?_;exact xT _ _ _
   ·refine m (bI q) ?_;unfold ha;simp only[bI q]
  refine m this ?_;exact dW
 ·have e:X++[(t.T,Ent.own (· =b7 194 t.cr []))]++(t.cr,Ent.own (fo {t with po:=k}))::((t.N,.own (dv B A (dC t.ns)))::(f5 t.bM++t.ns.flatMap dN))=X++bp B A {t with po:=k}:=by simp[bp]
  refine a9 e ?_;exact a4
theorem aw.O1 {k aD} {G:Unit->Shared->Prop} (C:aw Q U ai Z ak s K o) (a1:K.L=X++bp B A t)
  (h:∀y,aw Q U ai Z ak s {K with L:=X++bp B A {t with de:=k}} y->G () y):wpAny (model B A) D (setAttr (.ref t.T) "_nfinished" (.int k aD)) G M o:=by
 refine C.qW (e4:=fo {t with de:=k}) (j8 a1) (Eo a1) (λw ⟨a,b,d⟩=>⟨4,_,d,by decide,λbA dW=>⟨a,aD,?_⟩⟩) hD uy λy a4=>h y ?_
 ·rw[xI,xf,b3 rfl] at dW
  have:ha {t with de:=k} a aD=λ(E:Str)=>if E="_nfinished" then some (.int k aD) else ha t a b E:=by
   funext E
   by_cases q:E="_nfinished"
   ·subst q;refine m (b3 rfl) ?_;exact xI _ _ _
   ·refine m (bI q) ?_;unfold ha;simp only[bI q]
  refine m this ?_;exact dW
 ·have e:X++[(t.T,Ent.own (· =b7 194 t.cr []))]++(t.cr,Ent.own (fo {t with de:=k}))::((t.N,.own (dv B A (dC t.ns)))::(f5 t.bM++t.ns.flatMap dN))=X++bp B A {t with de:=k}:=by simp[bp]
  refine a9 e ?_;exact a4
theorem Fx {l:List Str} (a1:K.L=X++bp B A t) (aV:t.bM=some (a,l)):K.L=(X++[(t.T,Ent.own (· =b7 194 t.cr [])),(t.cr,.own (fo t)),(t.N,.own (dv B A (dC t.ns)))])++(a,.lst (l.map .str))::t.ns.flatMap dN:=by
 refine m a1 ?_
 simp only[bp]
 refine m aV ?_
 simp[f5]
theorem joinR {l:List Str} (fg:List Str) (aV:t.bM=some (a,l)):(X++[(t.T,Ent.own (· =b7 194 t.cr [])),(t.cr,.own (fo t)),(t.N,.own (dv B A (dC t.ns)))])++(a,.lst (fg.map .str))::t.ns.flatMap dN=X++bp B A {t with bM:=some (a,fg)}:=by
 have e:fo {t with bM:=some (a,fg)}=fo t:=N3 rfl (by refine m aV ?_;rfl) rfl rfl
 simp[bp,f5,e]
noncomputable def Mh:List (Str×NameKind):=[("self",.local),("result",.local),("n2i",.local),("node",.local),("ValueError",.globalImplicit),("tuple",.globalImplicit),("_NODE_OUT",.globalImplicit),("len",.globalImplicit)]
theorem PX (R:b0 (k+2) D) {l:List Str} (C:Base Q U o.heap) (w:hk B A t o.heap) (aJ:∀E∈ai,E < o.heap.objs.size) (aV:t.bM=some (a,l)) (a0:∀x∈l,x∈t.ns.map (·.ah.nm)) (ar:l.length<=900):
  codeAny (model B A) D (.call (.ref 156) ⟨[.ref t.T],[]⟩) (λr y=>cp λv ns=>uu (r=.ok (.ret v)) (aO (eV B A {t with ns:=ns,bM:=some (a,[]),po:=t.po+(l.length:Nat)}++ai) y.heap v (.tuple (l.map .str))) (es (eV B A t) o y) (hk B A {t with ns:=ns,bM:=some (a,[]),po:=t.po+(l.length:Nat)} y.heap) (ns.map (·.ah)=iA (t.ns.map (·.ah)) l) (s0 B A o y t {t with ns:=ns,bM:=some (a,[]),po:=t.po+(l.length:Nat)})) o:=by
 refine oF λG dt=>?_
 refine Gl (ai:=ai) Mh ["self"] R.room C w aJ (Gd C) rfl rfl rfl rfl (λbs cd=>rfl) rfl (by decide) (by decide) λaj s al bc=>?_
 have bj:(D.deeper s).handled=Option.none:=(R.deeper s).h
 refine fF bc (c:=false) (bL.isNone (bi.d0 (X:=[]) (t:=t) bc (bc.ev (x:="self") rfl) rfl) (.inr ⟨a,sK aV,rfl⟩)) λaB aQ=>b8 ?_
 refine gA aQ (d:=.tuple (l.map .str)) (H.tupleOf aQ (a8 al rfl) (sK aV▸bi.d0 (X:=[]) (t:=t) aQ (aQ.ev (x:="self") rfl) rfl) (EQ (X:=[]) (t:=t) rfl aV) (by rw[bD];exact aK ‹_› (by decide))) (.inl (a8 al rfl)) λax bh=>?_
 refine wK bh (bi.rQ (X:=[]) (t:=t) bh (bh.ev (x:="self") rfl) rfl) (.inl (a8 al rfl)) λb2 be=>?_
 have be:=be.norm (bp B A t) [("result",.tuple (l.map .str))] [("self",.ref t.T),("n2i",.ref t.N)] rfl ⟨rfl,trivial⟩ ⟨rfl,rfl,trivial⟩
 refine mY be (H.name be.aI rfl) (.tuple _) (.inl (a8 al rfl)) bj
  (λi K=>∃ns,K={L:=bp B A (t.with ns),az:=dl [("result",.tuple (l.map .str))],bO:=dl [("self",.ref t.T),("n2i",.ref t.N)]}/\ns.map (·.ah)=iA (t.ns.map (·.ah)) (l.take i)) ⟨t.ns,rfl,by refine m List.take_zero ?_;rw[L4]⟩ ?_ ?_
 ·rintro i eC K ae v cm cD jb fR aH ⟨ns,rfl,bW⟩ bJ
  have e6:(l.map PyData.str)[i]?=some eC:=aH
  rw[fm] at e6
  obtain⟨q,aS,rfl⟩:=ka.mp e6
  have lK:l.take (i+1)=l.take i++[q]:=by refine m kf (m aS ?_);rfl
  have yy:ns.map (·.ah.nm)=t.ns.map (·.ah.nm):=by refine m (Gk bW) (m (zM _ _) (m c6 ?_));rfl
  have eI:(ns.map (·.ah.nm)).Nodup:=by refine m yy ?_;exact w.eI
  obtain⟨a3,gH,gT⟩:=xn (by refine m yy ?_;exact a0 q (fc aS):q∈ns.map (·.ah.nm))
  have bJ:=bJ.e3 ((ae,.own (bk v (.tuple (l.map .str)) (i+1)))::bp B A (t.with ns)) [(v,.tuple (l.map .str))] [("result",.tuple (l.map .str)),("node",.str q)] [("self",.ref t.T),("n2i",.ref t.N)] rfl ⟨.head _,trivial⟩ ⟨rfl,rfl,trivial⟩ ⟨rfl,rfl,trivial⟩
  refine mF ((H.zZ bJ.aI (a8 al rfl)).ap cm _ _ (an.refl _) λu ds eu d7=>?_)
  refine aO.fU d7 λaD=>?_
  have b6:=bJ.step eu
  refine(bi.Fq (O:=t.N) (cx:=dC ns) (n:=q) (v:=.ref a3.ae) b6 (b6.ev (x:="n2i") rfl) (pv (X:=[(ae,.own (bk v (.tuple (l.map .str)) (i+1)))]) (t:=t.with ns) rfl) (H.name b6.aI rfl) (by refine a9 gT ?_;exact uE eI gH)).ap ds _ _ (an.refl _) λfK j4=>?_
  have c1:=b6.step j4
  refine c1.wU (X:=[(ae,.own (bk v (.tuple (l.map .str)) (i+1)))]) (t:=t.with ns) (a3:=a3) rfl eI gH λgS cS=>b8 (fR _ _ ⟨_,⟨fM ns a3.ah.nm λd=>{d with np:=-1},rfl,?_⟩,?_⟩)
  ·refine m uJ (m bW (m gT (m lK ?_)));exact Nw _ _ _
  ·exact cS.tv (ae:=ae) (v:=v) (d:=.tuple (l.map .str)) (i:=i+1) (bp B A (t.with (fM ns a3.ah.nm λd=>{d with np:=-1}))) [("result",.tuple (l.map .str))] [("self",.ref t.T),("n2i",.ref t.N)] rfl (.head _) ⟨rfl,trivial⟩ ⟨rfl,rfl,trivial⟩
 ·rintro K cm cD ⟨ns,rfl,bW⟩ bJ
  have e:(items (.tuple (l.map .str))).length=l.length:=by show(l.map PyData.str).length=_;rw[bD]
  rw[e,jN] at bW
  have yy:ns.map (·.ah.nm)=t.ns.map (·.ah.nm):=by refine m (Gk bW) (m (zM _ _) (m c6 ?_));rfl
  have eI:(ns.map (·.ah.nm)).Nodup:=by refine m yy ?_;exact w.eI
  refine b8 ?_
  refine Ky (O:=a) (aM:=l.map .str) bJ (sK aV▸bi.d0 (X:=[]) (t:=t.with ns) bJ (bJ.ev (x:="self") rfl) rfl) (Fx (X:=[]) (t:=t.with ns) rfl aV) (by rw[bD];exact aK ‹_› (by decide)) λds b6=>?_
  have b6:=b6.norm (bp B A {t.with ns with bM:=some (a,[])}) [("result",.tuple (l.map .str))] [("self",.ref t.T)] (joinR (X:=[]) (t:=t.with ns) (l:=l) [] aV) ⟨rfl,trivial⟩ ⟨rfl,trivial⟩
  refine x4 ((b6.ev (x:="self") rfl).ap ds _ _ (an.refl _) λfK j4=>OS (X:=[]) (t:={t.with ns with bM:=some (a,[])}) (b6.step j4) rfl λaD gS cS=>(H.E9 cS.aI (a8 al rfl) (H.name cS.aI rfl) (by rw[bD];exact aK ‹_› (by decide))).ap gS _ _ (an.refl _) λu gG sh r=>?_)
  refine aO.fU r λSa=>?_
  refine AutoIntOps.iadd_0 ?_
  have cT:=(cS.step sh).step (an.tok (o:=gG) (gG.toks+1))
  refine m (bD _) ?_
  refine cT.NC (X:=[]) (t:={t.with ns with bM:=some (a,[])}) rfl λlO e8=>?_
  have e8:=e8.norm (bp B A {t with ns:=ns,bM:=some (a,[]),po:=t.po+(l.length:Nat)}) [("result",.tuple (l.map .str))] [("self",.ref t.T)] rfl ⟨rfl,trivial⟩ ⟨rfl,trivial⟩
  refine hv e8 (H.name e8.aI rfl) λu y a4 r=>?_
  have ok:=a4.iC (X:=[]) (t:={t with ns:=ns,bM:=some (a,[]),po:=t.po+(l.length:Nat)}) rfl eI
  refine dt _ _ ⟨u,ns,rfl,r,a4.ex,ok,bW,λb aA=>?_⟩
  have bU:=ok.lt b aA
  rcases a4.own b aA with q|q
  ·exact .inr ⟨q,bU⟩
  ·exact .inl q
end
noncomputable def zS (x:Value):List (Str×Value):=[("self",x),("graph",.none)]
noncomputable def MR:List (Str×NameKind):=[("self",.local),("graph",.local),("node",.local),("predecessors",.local)]
noncomputable def jo (N:Addr) (i:Nat) (t1 dO:Tok):Str->Option Value:=λx=>
 if x="_node2info"/\1<=i then some (.ref N) else if x="_ready_nodes"/\2<=i then some .none else if x="_npassedout"/\3<=i then some (.int 0 t1) else if x="_nfinished"/\4<=i then some (.int 0 dO) else none
theorem PG (N:Addr) (t1 dO:Tok):jo N 0 t1 dO=λ_=>none:=by
 funext x;unfold jo;simp
theorem L7:hi 0 (λ_=>none) emptyDict:=⟨#[],0,rfl,λe al=>by simp at al,λ_=>rfl,cG _⟩
section
variable {Y:List Addr} {k:Nat}
theorem Kv (bs:Value) (C:Base Q U o.heap) (x:Value) (G:List (Str×Value)->Shared->Prop) (M:Value->Shared->Prop) (h:G (zS x) o):
  wpAny (model B A) D (bindArgs (fdOf (hu 0) "TopologicalSorter.__init__" (.ref 123) bs (.ref (130 - 1))) ⟨[x],[]⟩) G M o:=by
 obtain⟨P,cf⟩:=C.cf
 have aP:=cf 123 _ rfl
 exact BindsTo.of_defaults (fd:=fdOf (hu 0) "TopologicalSorter.__init__" (.ref 123) bs (.ref (130 - 1))) (args:=⟨[x],[]⟩) rfl aP rfl rfl rfl _ _ _ _ h
theorem J2 (R:b0 (k+1) D) {x:Addr} (C:Base Q U o.heap) (I:o.heap.get? x=some (b7 194 bB [])) (hd:o.heap.get? bB=some emptyDict) (aA:ce (247<=x) (247<=bB) (x≠bB)):
  codeAny (model B A) D (.call (.ref 130) ⟨[.ref x],[]⟩) (λr y=>r=.ok (.ret .none)/\∃N,hx (es [x,bB] o y) (o.heap.objs.size<=N) (N < y.heap.objs.size) (hk B A ⟨x,bB,N,[],none,0,0⟩ y.heap)) o:=by
 refine oF λG dt=>?_
 refine xg (Z:=[x,bB]) (ai:=[]) (K:={L:=[(x,.own (· =b7 194 bB [])),(bB,.own (· =emptyDict))],bO:=dl [("self",.ref x),("graph",.none)]}) MR R.room C (λz ar=>?_) (λE aJ=>?_) (λp q=>(b9 q).elim) (λp af=>?_) ?_ (λa aF=>aF)
  (LB C) rfl rfl rfl rfl (by decide) (λeD y=>eD=zS (.ref x)/\y=o) (λbs G M h=>Kv bs C _ G M (h _ _ (an.refl _) ⟨rfl,rfl⟩)) (λeD y af=>?_) (λeD y x af E d e=>by cases e) (λeD y x af E v e=>?_) λaj s al av hJ bc=>?_
 ·simp only[bP,b9,eH] at ar
  rcases ar with rfl|rfl
  ·exact aA.1
  ·exact aA.2
 ·have aJ:E∈[x,bB]++[]:=aJ
  simp only[iy,bP,b9,eH] at aJ
  rcases aJ with rfl|rfl
  ·exact dL I
  ·exact dL hd
 ·simp only[bP,b9,eH] at af
  rcases af with rfl|rfl
  ·exact⟨_,I,rfl,rfl⟩
  ·exact⟨_,hd,rfl,rfl⟩
 ·show [x,bB].Nodup
  simp[aA.3]
 ·obtain⟨rfl,rfl⟩:=af
  intro x I
  simp only[zS,bP,b9,eH] at I
  rcases I with rfl|rfl<;>rfl
 ·obtain⟨rfl,rfl⟩:=af
  have hm:=gq e
  simp only[bP,b9,eH] at hm
  rcases hm with hm|hm
  ·obtain⟨rfl,rfl⟩:=gv hm;exact⟨rfl,rfl⟩
  ·obtain⟨rfl,rfl⟩:=gv hm;exact⟨rfl,rfl⟩
 refine mF (wpAny_Dict_empty ?_)
 have aQ:=bc.add (a:=aj.heap.objs.size) (e:=.own (dv B A [])) (an.push {cls:=.type "dict",data:=.dict #[]}) ⟨cG _,by simp⟩ ⟨_,dT _ rfl,rfl,#[],0,⟨rfl,rfl,rfl⟩,rfl,λe al=>by simp at al,.nil,hM⟩
 have eK:o.heap.objs.size<=aj.heap.objs.size:=bc.ex.size
 generalize aj.heap.objs.size=N at aQ eK
 generalize ({aj with heap:=aj.heap.push {cls:=.type "dict",data:=.dict #[]}}:Shared)=aB at aQ
 have aQ:=aQ.loose (bz:=[(N,.own (dv B A [])),(x,.own (· =b7 194 bB []))]) (bY:=[]) (q:=hi 0 (jo N 0 0 0)) rfl (λw aP=>by subst aP;rw[PG];exact L7)
 refine(aQ.ev (x:="self") rfl).ap aB _ _ (an.refl _) λax a7=>?_
 refine(aQ.step a7).qW (e4:=hi 1 (jo N 1 0 0)) (.tail _ (.head _)) (bz:=[(N,.own (dv B A [])),(x,.own (· =b7 194 bB []))]) (bY:=[]) rfl (λw d=>⟨0,_,d,by decide,λbA dW=>?_⟩) hD Fw λb2 be=>?_
 ·have e:(λ(E:Str)=>if E="_node2info" then some (Value.ref N) else jo N 0 0 0 E)=jo N 1 0 0:=by
   funext E;unfold jo
   by_cases q:E="_node2info"<;>simp[q]
  rw[e] at dW
  exact dW
 refine mF ((H.none (Y:=[])).ap b2 _ _ (an.refl _) λv cm fW eX=>?_)
 refine aO.rM eX ?_
 refine(be.ev (x:="self") rfl).ap cm _ _ fW λds eu=>?_
 refine(be.step (fW.trans eu)).qW (e4:=hi 2 (jo N 2 0 0)) (.tail _ (.head _)) (bz:=[(N,.own (dv B A [])),(x,.own (· =b7 194 bB []))]) (bY:=[]) rfl (λw d=>⟨1,_,d,by decide,λbA dW=>?_⟩) hD zs λfK c1=>?_
 ·have e:(λ(E:Str)=>if E="_ready_nodes" then some Value.none else jo N 1 0 0 E)=jo N 2 0 0:=by
   funext E;unfold jo
   by_cases q:E="_ready_nodes"
   ·subst q;rw[b3 rfl,bI (by decide),b3 (by decide)]
   ·simp[q]
  rw[e] at dW
  exact dW
 refine mF ((H.int (Y:=[])).ap fK _ _ (an.refl _) λv gS o8 eX=>?_)
 refine aO.fU eX λt1=>?_
 refine(c1.ev (x:="self") rfl).ap gS _ _ o8 λgG sh=>?_
 refine(c1.step (o8.trans sh)).qW (e4:=hi 3 (jo N 3 t1 0)) (.tail _ (.head _)) (bz:=[(N,.own (dv B A [])),(x,.own (· =b7 194 bB []))]) (bY:=[]) rfl (λw d=>⟨2,_,d,by decide,λbA dW=>?_⟩) hD uC λlO e8=>?_
 ·have e:(λ(E:Str)=>if E="_npassedout" then some (Value.int 0 t1) else jo N 2 0 0 E)=jo N 3 t1 0:=by
   funext E;unfold jo
   by_cases q:E="_npassedout"
   ·subst q;rw[b3 rfl,bI (by decide),bI (by decide),b3 (by decide)]
   ·simp[q]
  rw[e] at dW
  exact dW
 refine mF ((H.int (Y:=[])).ap lO _ _ (an.refl _) λv sj yz eX=>?_)
 refine aO.fU eX λdO=>?_
 refine(e8.ev (x:="self") rfl).ap sj _ _ yz λyw yA=>?_
 refine(e8.step (yz.trans yA)).qW (e4:=fo ⟨x,bB,N,[],none,0,0⟩) (.tail _ (.head _)) (bz:=[(N,.own (dv B A [])),(x,.own (· =b7 194 bB []))]) (bY:=[]) rfl (λw d=>⟨3,_,d,by decide,λbA dW=>⟨t1,dO,?_⟩⟩) hD uy λyB k5=>?_
 ·have e:(λ(E:Str)=>if E="_nfinished" then some (Value.int 0 dO) else jo N 3 t1 0 E)=ha ⟨x,bB,N,[],none,0,0⟩ t1 dO:=by
   funext E;unfold jo ha
   by_cases q:E="_nfinished"
   ·subst q;rw[b3 rfl,bI (by decide),bI (by decide),bI (by decide),b3 rfl]
   ·simp[q,pr]
  rw[e] at dW
  exact dW
 refine fF k5 (c:=false) (bL.isNotNone (k5.ev (x:="graph") rfl) (.inl ⟨rfl,rfl⟩)) λyC qB=>b8 (b8 (dt _ _ ⟨rfl,N,qB.ex,eK,?_,?_⟩))
 ·obtain⟨w,e,_⟩:=qB.owned (a:=N) (p:=dv B A []) (.head _)
  exact dL e
 ·have v1:=qB.perm (L:=bp B A ⟨x,bB,N,[],none,0,0⟩) (by
   show(List.Perm [(x,Ent.own (· =b7 194 bB [])),(bB,Ent.own (fo ⟨x,bB,N,[],none,0,0⟩)),(N,.own (dv B A []))] [(N,.own (dv B A [])),(x,.own (· =b7 194 bB [])),(bB,Ent.own (fo ⟨x,bB,N,[],none,0,0⟩))])
   exact List.perm_append_comm (l₁:=[(x,Ent.own (· =b7 194 bB [])),(bB,Ent.own (fo ⟨x,bB,N,[],none,0,0⟩))]) (l₂:=[(N,.own (dv B A []))]))
  exact v1.iC (X:=[]) (t:=⟨x,bB,N,[],none,0,0⟩) rfl hM
theorem Pb (R:b0 (k+2) D) {G:Value->Shared->Prop} (C:Base Q U o.heap)
  (h:∀t y,an o y->t.ns=[]->t.bM=none->t.po=0->t.de=0->hk B A t y.heap->(∀a∈eV B A t,o.heap.objs.size<=a/\a < y.heap.objs.size)->G (.ref t.T) y):
  wpAny (model B A) D (call (.ref 194) []) G M o:=by
 obtain⟨P,cf⟩:=C.cf
 refine hg ?_
 obtain⟨af,g,d,t,os⟩:=o
 refine make_core (makes_of cf (hD.wP P)) (rN cf (FP.de P)) (λself=>bind_fn cf self (FP.fn P)) (.inl rfl) ?_
 generalize lM:(⟨(af.push emptyDict).push (instObj 194 af.objs.size),g,d,t,os⟩:Shared)=aB
 have aE:an ⟨af,g,d,t,os⟩ aB:=by
  refine a9 lM ?_
  exact(an.push (o:=⟨af,g,d,t,os⟩) emptyDict).trans (an.push (o:=⟨af.push emptyDict,g,d,t,os⟩) (instObj 194 af.objs.size))
 have aQ:=C.ex aE
 have n2:247<=af.objs.size:=C.fj
 have I:aB.heap.get? (af.objs.size+1)=some (b7 194 af.objs.size []):=by
  refine a9 lM ?_
  have:=dT (af.push emptyDict) (o:=instObj 194 af.objs.size) rfl
  rw[eN] at this
  exact this
 have hd:aB.heap.get? af.objs.size=some emptyDict:=by
  refine a9 lM ?_
  exact e1 _ (dT _ rfl)
 have ko:aB.heap.objs.size=af.objs.size+1+1:=by refine a9 lM ?_;simp
 have c9:b0 (k+1) (D.under (.builtin "type.__call__" ⟨.ref 194::[],[]⟩)):=R.made
 have lG:247<=af.objs.size+1:=ht n2
 have k1:af.objs.size+1≠af.objs.size:=uL _
 refine h4 (J2 c9 aQ I hd ⟨lG,n2,k1⟩) λr y aV=>?_
 obtain⟨rfl,N,cw,aX,a5,ok⟩:=aV
 refine⟨rfl,?_⟩
 have ex:an ⟨af,g,d,t,os⟩ y:=by
  obtain⟨bj,m8,e⟩:=aE.same
  obtain⟨o9,v0,bt⟩:=cw.same
  refine⟨⟨o9,v0,by exact m bt (m e rfl)⟩,λb w bu e=>cw.keep b w (λq=>?_) bu (aE.keep b w bu e),aK aE.size cw.size,λT=>cw.tabs (aE.tabs T)⟩
  have bU:b < af.objs.size:=dL e
  simp only[bP,b9,eH] at q
  rcases q with q|q
  ·rw[q] at bU;exact absurd bU (eZ.mpr (hw _))
  ·rw[q] at bU;exact ey _ bU
 have o0:=cw.size
 rw[ko] at aX o0
 refine h ⟨af.objs.size+1,af.objs.size,N,[],none,0,0⟩ y ex rfl rfl rfl rfl ok λa aF=>?_
 have aF:a∈[af.objs.size+1,af.objs.size,N]:=aF
 simp only[bP,b9,eH] at aF
 rcases aF with rfl|rfl|rfl
 ·exact⟨hw _,o0⟩
 ·exact⟨cG _,cz (is (hb _)) o0⟩
 ·exact⟨aK (ht (hw _)) aX,a5⟩
end
noncomputable def du (l:List Env):List Addr:=l.filterMap (·.frame)
noncomputable def ur:Heap:={}
theorem Lf (a:Addr):ur.get? a=none:=rfl
theorem Ow (h:Heap) (a:Addr):(h.update a λw=>{w with data:=.freed}).get? a=none:=by
 obtain⟨Sf,l⟩:=h
 unfold Heap.get? Heap.update
 simp only[Array.getElem?_modify]
 cases Sf[a]?<;>simp
noncomputable def bare (h:Heap):List Addr->Heap
 |[]=>h
 |a::F=>(bare h F).update a λw=>{w with data:=.freed}
theorem rx {h:Heap}:∀{F:List Addr} {a:Addr},a∈F->(bare h F).get? a=none
 |b::F,a,ab=>by
  unfold bare
  by_cases e:b=a
  ·subst e;exact Ow _ _
  ·refine m (pX _ _ e) ?_
   rcases bP.mp ab with q|q
   ·exact absurd q.symm e
   ·exact rx q
theorem rR {h:Heap}:∀{F:List Addr} {a:Addr},a∉F->(bare h F).get? a=h.get? a
 |[],a,_=>rfl
 |b::F,a,ab=>by
  unfold bare
  rw[bP,not_or] at ab
  refine m (pX _ _ (l1 ab.1)) ?_
  exact rR ab.2
noncomputable def iu (bQ:Addr->Array (Option Value)) (h:Heap):List Addr->Heap
 |[]=>h
 |a::F=>(iu bQ h F).update a λw=>{w with slots:=bQ a}
theorem EM (h:w.isFreed=false) (bQ:Array (Option Value)):({w with slots:=bQ}:Obj).isFreed=false:=by
 obtain⟨c,d,sk,Sg⟩:=w
 cases sk<;>first|rfl|exact h
theorem En {h:Heap} (e:h.get? a=some w):w.isFreed=false:=(Heap.get?_some_iff.mp e).2
theorem u4 {bQ:Addr->Array (Option Value)} {h:Heap} {a:Addr} {w:Obj} (e:h.get? a=some w):∀{F:List Addr},a∈F->(iu bQ h F).get? a=some {w with slots:=bQ a}
 |b::F,ab=>by
  unfold iu
  by_cases q:b=a
  ·subst q
   by_cases ii:b∈F
   ·have:=u4 (bQ:=bQ) e ii
    exact n8 (o:={w with slots:=bQ b}) (λw=>{w with slots:=bQ b}) this (EM (w:=w) (En e) _)
   ·have:(iu bQ h F).get? b=some w:=by
     have out:∀{F:List Addr},b∉F->(iu bQ h F).get? b=h.get? b:=by
      intro F
      induction F with
      |nil=>intro _;rfl
      |cons c F ih=>intro n;rw[bP,not_or] at n;unfold iu;refine m (pX _ _ (l1 n.1)) ?_;exact ih n.2
     refine m (out ii) (m e ?_);rfl
    exact n8 _ this (EM (En e) _)
  ·refine m (pX _ _ q) ?_
   rcases bP.mp ab with z|z
   ·exact absurd z.symm q
   ·exact u4 e z
theorem vb {bQ:Addr->Array (Option Value)} {h:Heap}:∀{F:List Addr},a∉F->(iu bQ h F).get? a=h.get? a
 |[],_=>rfl
 |b::F,n=>by
  rw[bP,not_or] at n
  unfold iu
  refine m (pX _ _ (l1 n.1)) ?_
  exact vb n.2
theorem xz {bQ:Addr->Array (Option Value)} {h:Heap}:∀{F:List Addr},(iu bQ h F).objs.size=h.objs.size
 |[]=>rfl
 |b::F=>by unfold iu;refine m (zB _ _ _) ?_;exact xz
theorem D6 (bQ:Addr->Array (Option Value)) (h:Heap) (F:List Addr):Heap.SlotsOnly F h (iu bQ h F):=
 ⟨xz,λb aA=>vb aA,λb w e=>by
  by_cases ab:b∈F
  ·exact⟨_,u4 e ab⟩
  ·exact⟨w.slots,by exact m (vb ab) (m e rfl)⟩⟩
structure el (F:List Addr) (o y:Shared):Prop where
 same:∃h,y={o with heap:=h}
 fN:Heap.SlotsOnly F o.heap y.heap
theorem el.refl (F:List Addr) (o:Shared):el F o o:=⟨⟨o.heap,rfl⟩,.refl ..⟩
theorem el.trans (x:el F o y) (E:el F y cs):el F o cs:=by
 obtain⟨h,e⟩:=x.same
 obtain⟨am,bt⟩:=E.same
 exact⟨⟨am,by exact m bt (m e rfl)⟩,x.fN.trans E.fN⟩
structure ek (l:List Env) (Z:List Addr) (o:Shared):Prop where
 kk:o.heap.FunFrames ur l
 oO:∀a∈du l,hO λw aU n=>o.heap.get? a=some w/\w.data=.dict aU n
 fj:∀a∈du l,247<=a
 off:∀a∈du l,a∉Z
theorem ek.nil (o:Shared):ek [] [] o:=⟨trivial,λa h=>(by cases h),λa h=>(by cases h),λa h=>(by cases h)⟩
theorem ek.lt (f:ek l Z o) (h:a∈du l):a < o.heap.objs.size:=let ⟨w,_,_,e,_⟩:=f.oO a h;dL e
theorem ek.Gf (f:ek l Z o) {base:Heap} (aA:∀a∈du l,base.get? a=none):o.heap.FunFrames base l:=by
 have:∀fg:List Env,(∀a∈du fg,base.get? a=none)->o.heap.FunFrames ur fg->o.heap.FunFrames base fg:=by
  intro fg
  induction fg with
  |nil=>intro _ _;trivial
  |cons e fg ih=>
   intro aA ⟨aX,⟨L,w,a5,_,cu,ej⟩,hf⟩
   have v2:du (e::fg)=L::du fg:=by unfold du;exact m u9 (m a5 rfl)
   rw[v2] at aA
   exact⟨aX,⟨L,w,a5,aA L (.head _),cu,ej⟩,ih (λa aF=>aA a (.tail _ aF)) hf⟩
 exact this l aA f.kk
theorem ek.of (f:ek l Z o) (k:∀a∈du l,∀w,o.heap.get? a=some w->∃bQ,y.heap.get? a=some {w with slots:=bQ}):ek l Z y:=by
 refine⟨?_,λa aF=>?_,f.fj,f.off⟩
 ·have:∀fg:List Env,(∀a∈du fg,a∈du l)->o.heap.FunFrames ur fg->y.heap.FunFrames ur fg:=by
   intro fg
   induction fg with
   |nil=>intro _ _;trivial
   |cons e fg ih=>
    intro aA ⟨aX,⟨L,w,a5,Sh,cu,ej⟩,hf⟩
    have v2:du (e::fg)=L::du fg:=by unfold du;exact m u9 (m a5 rfl)
    rw[v2] at aA
    obtain⟨bQ,aW⟩:=k L (aA L (.head _)) w cu
    exact⟨aX,⟨L,_,a5,Sh,aW,ej⟩,ih (λa aF=>aA a (.tail _ aF)) hf⟩
  exact this l (λ_ h=>h) f.kk
 ·obtain⟨w,aU,n,e,d⟩:=f.oO a aF
  obtain⟨bQ,aW⟩:=k a aF w e
  exact⟨_,aU,n,aW,d⟩
theorem ek.up (f:ek l Z o) (x:el F o y):ek l Z y:=f.of λa _ w e=>x.fN.2.2 a w e
theorem ek.cw (f:ek l Z o) (x:es Z o y):ek l Z y:=f.of λa aF w e=>⟨w.slots,x.keep a w (f.off a aF) (nM (f.fj a aF)) e⟩
theorem E2 (x:el F o y) (hd:∀a∈F,hO λw aU n=>o.heap.get? a=some w/\w.data=.dict aU n) (T:d2 o.heap):d2 y.heap:=by
 refine T.mono λb w aF e=>?_
 rewrite[x.fN.2.1 b λab=>?_]
 ·exact e
 ·obtain⟨bA,aU,n,bt,d⟩:=hd b ab
  rw[e] at bt
  cases bt
  rw[rj (λJ q=>by rw[d] at q;cases q)] at aF
  cases aF
theorem OJ (x:el F o y) (hd:∀a∈F,hO λw aU n=>o.heap.get? a=some w/\w.data=.dict aU n) (T:d2 y.heap):d2 o.heap:=by
 refine T.mono λb w aF e=>?_
 by_cases ab:b∈F
 ·obtain⟨bA,aU,n,bt,d⟩:=hd b ab
  obtain⟨bQ,q⟩:=x.fN.2.2 b bA bt
  rw[e] at q
  cases q
  rw[rj (λJ q=>by rw[d] at q;cases q)] at aF
  cases aF
 ·refine a9 (x.fN.2.1 b ab) ?_;exact e
theorem el.cw (x:el F o y) (hd:∀a∈F,hO λw aU n=>o.heap.get? a=some w/\w.data=.dict aU n):es F o y:=by
 obtain⟨h,e⟩:=x.same
 exact⟨⟨h,o.toks,by exact m e rfl⟩,λb w aA _ q=>by refine m (x.fN.2.1 b aA) ?_;exact q,di x.fN.1.symm,E2 x hd⟩
theorem rebase {L:Addr} (x:es Z ak o) (E:el (L::F) o dD) (vV:∀a∈F,hO λw aU n=>ak.heap.get? a=some w/\w.data=.dict aU n) (ar:∀a∈F,a∉Z) (aA:∀a∈F,247<=a) (a1:ak.heap.objs.size<=L) (Si:hO λw aU n=>o.heap.get? L=some w/\w.data=.dict aU n):
  ∃bX,el F ak bX/\es Z bX dD:=by
 let bQ:Addr->Array (Option Value):=λa=>match dD.heap.get? a with|some w=>w.slots|none=>#[]
 have up:el F ak {ak with heap:=iu bQ ak.heap F}:=⟨⟨_,rfl⟩,D6 bQ ak.heap F⟩
 have HS:∀a∈F,∀w,ak.heap.get? a=some w->o.heap.get? a=some w:=λa aF w e=>x.keep a w (ar a aF) (nM (aA a aF)) e
 have nl:∀a∈L::F,hO λw aU n=>o.heap.get? a=some w/\w.data=.dict aU n:=λa aF=>by
  rcases bP.mp aF with rfl|aF
  ·exact Si
  ·obtain⟨w,aU,n,e,d⟩:=vV a aF
   exact⟨w,aU,n,HS a aF w e,d⟩
 refine⟨_,up,?_⟩
 obtain⟨h,aD,bS⟩:=x.same
 obtain⟨am,bV⟩:=E.same
 refine⟨⟨am,aD,by exact m bV (m bS rfl)⟩,λb w Sj bu e=>?_,?_,λT=>?_⟩
 ·by_cases ab:b∈F
  ·obtain⟨yD,aU,n,v3,d⟩:=vV b ab
   have q:(iu bQ ak.heap F).get? b=_:=u4 v3 ab
   have e:(iu bQ ak.heap F).get? b=some w:=e
   rw[q] at e
   cases e
   obtain⟨tQ,gD⟩:=E.fN.2.2 b yD (HS b ab yD v3)
   refine m gD ?_
   have:bQ b=tQ:=by show(match dD.heap.get? b with|some w=>w.slots|none=>#[])=tQ;exact m gD rfl
   refine m this ?_;rfl
  ·have e:(iu bQ ak.heap F).get? b=some w:=e
   rw[vb ab] at e
   have Bp:b∉L::F:=λq=>by
    rcases bP.mp q with rfl|q
    ·exact absurd (dL e) (eZ.mpr a1)
    ·exact ab q
   refine m (E.fN.2.1 b Bp) ?_
   exact x.keep b w Sj bu e
 ·show(iu bQ ak.heap F).objs.size<=dD.heap.objs.size
  refine m xz (m E.fN.1 ?_)
  exact x.size
 ·exact E2 E nl (x.tabs (OJ up vV T))
section
variable {k:Nat}
theorem rp (bb:s.frame=some s.locals):du (s::l)=s.locals::du l:=by unfold du;exact m u9 (m bb rfl)
theorem aw.EL (C:aw Q U ai Z ak s K o):hO λw aU n=>o.heap.get? s.locals=some w/\w.data=.dict aU n:=let ⟨ab,w,aU,ck,e,d,_⟩:=C.ns;⟨w,aU,ck,e,d⟩
theorem aw.rt (C:aw Q U ai Z ak s K o) (F:ek l Z ak) (bb:s.frame=some s.locals):ek (s::l) K.as o:=by
 have HT:=F.cw C.ex
 obtain⟨w,aU,n,e,d⟩:=C.EL
 refine⟨⟨by refine m C.aI.fn ?_;decide,⟨s.locals,w,bb,Lf _,e,λJ q=>by rw[d] at q;cases q⟩,HT.kk⟩,λa aF=>?_,λa aF=>?_,λa aF q=>?_⟩
 ·rw[rp bb] at aF
  rcases bP.mp aF with rfl|aF
  ·exact⟨w,aU,n,e,d⟩
  ·exact HT.oO a aF
 ·rw[rp bb] at aF
  rcases bP.mp aF with rfl|aF
  ·exact aK C.hN.fj C.lo
  ·exact F.fj a aF
 ·rw[rp bb] at aF
  rcases bP.mp aF with rfl|aF
  ·exact C.aI.cb.2 (e2 _ q)
  ·rcases C.own a q with z|z
   ·exact absurd (F.lt aF) (eZ.mpr z)
   ·exact F.off a aF z
theorem aw.up (C:aw Q U ai Z ak s K o) (F:ek l Z ak) (bb:s.frame=some s.locals) (E:el (du (s::l)) o dD):∃bX,el (du l) ak bX/\aw Q U ai Z bX s K dD:=by
 have no:=C.rt F bb
 rw[rp bb] at E
 have nl:∀a∈s.locals::du l,hO λw aU n=>o.heap.get? a=some w/\w.data=.dict aU n:=λa aF=>no.oO a (by refine m (rp bb) ?_;exact aF)
 obtain⟨bX,u,kn⟩:=rebase C.ex E F.oO F.off F.fj C.lo C.EL
 refine⟨bX,u,?_⟩
 have Sk:∀z∈du l,247<=z:=F.fj
 have ar:∀z∈s.locals::du l,247<=z:=λz q=>no.fj z (by refine m (rp bb) ?_;exact q)
 have Sl:es (du l) ak bX:=u.cw F.oO
 have v4:es (s.locals::du l) o dD:=E.cw nl
 have eB:bX.heap.objs.size=ak.heap.objs.size:=u.fN.1
 have Cb:dD.heap.objs.size=o.heap.objs.size:=E.fN.1
 have keep:∀b w,(∀aU n,w.data≠.dict aU n)->o.heap.get? b=some w->dD.heap.get? b=some w:=λb w au e=>by
  rewrite[E.fN.2.1 b λab=>?_]
  ·exact e
  ·obtain⟨bA,aU,n,bt,d⟩:=nl b ab
   rw[e] at bt;cases bt
   exact au aU n d
 have b5:∀c v,o.heap.IsCell c v->dD.heap.IsCell c v:=λc v ⟨w,e,d⟩=>let ⟨bQ,q⟩:=E.fN.2.2 c w e;⟨_,q,d⟩
 have qk:∀a ab,o.heap.Ns a ab->dD.heap.Ns a ab:=λa ab ⟨w,aU,ck,e,d,r⟩=>let ⟨bQ,q⟩:=E.fN.2.2 a w e;⟨_,aU,ck,q,d,r⟩
 have dP:∀x v,gV o s x v->gV dD s x v:=λx v V=>by
  rcases V with⟨ho,ab,n,q⟩|⟨ho,c,l,av⟩
  ·exact .inl ⟨ho,ab,qk _ ab n,q⟩
  ·exact .inr ⟨ho,c,l,b5 c _ av⟩
 have HU:∀b w,jR w->o.heap.get? b=some w->dD.heap.get? b=some w:=λb w hd e=>keep b w (λaU n q=>by
  rcases hd with⟨_,_,z⟩|⟨_,_,z⟩<;>rw[q] at z<;>cases z) e
 have bM:∀{v d},aO (K.Y ai) o.heap v d->aO (K.Y ai) dD.heap v d:=λr=>r.mono λb w aA hd e=>⟨HU b w hd e,aA⟩
 have A6:∀{v d},bR (K.Y ai) o.heap v d->bR (K.Y ai) dD.heap v d:=λr=>r.mono λb w aA hd e=>⟨HU b w hd e,aA⟩
 refine⟨C.hN.cw Sk Sl,kn,C.z,⟨C.aI.base.cw ar v4,C.aI.fn,C.aI.hF,C.aI.blt,λx d e=>let ⟨v,V,r⟩:=C.aI.dP x d e;⟨v,dP x v V,bM r⟩,λa aF=>by refine m Cb ?_;exact C.aI.eb a aF,C.aI.inj,λn c e=>by refine m Cb ?_;exact C.aI.fE n c e,by refine m Cb ?_;exact C.aI.cb⟩,λx v e=>dP x v (C.dP x v e),λp af=>bM (C.ic p af),λp af=>?_,C.ah,λa aF=>by refine m eB ?_;exact C.own a aF,let ⟨ab,n⟩:=C.ns;⟨ab,qk _ ab n⟩,by refine m eB ?_;exact C.lo,λn c e q=>let ⟨u,dn⟩:=C.l4 n c e q;⟨u,b5 c u dn⟩⟩
 have HV:p.1∉s.locals::du l:=λq=>no.off p.1 (by refine m (rp bb) ?_;exact q) (d9 af)
 have q:=C.led p af
 cases kX:p.2 with
 |own f=>rw[kX] at q;obtain⟨w,e,gd,vv⟩:=q;exact⟨w,by refine m (E.fN.2.1 _ HV) ?_;exact e,gd,vv⟩
 |lst aM=>rw[kX] at q;obtain⟨J,n,l,r⟩:=q;exact⟨J,n,by show dD.heap.get? p.1=_;refine m (E.fN.2.1 _ HV) ?_;exact l,A6 r⟩
end
noncomputable def kE (o y:Shared):Prop:=cp λh aD=>y={o with heap:=h,toks:=aD}
theorem kE.trans (x:kE o y) (E:kE y cs):kE o cs:=by
 obtain⟨h,t,e⟩:=x
 obtain⟨am,dd,bt⟩:=E
 exact⟨am,dd,by exact m bt (m e rfl)⟩
theorem kE.heap {h:Heap}:kE o {o with heap:=h}:=⟨h,o.toks,rfl⟩
structure xi (o y:Shared) (e:Addr) (X:String):Prop where
 same:kE o y
 keep:∀b w,o.heap.get? b=some w->y.heap.get? b=some w
 size:o.heap.objs.size<=y.heap.objs.size
 new:o.heap.get? e=none
 there:hO λjY J kv=>nF (y.heap.get? e=some jY) (jY.cls=.type X) (jY.data=.fields J) (J[0]?=some kv) (J[1]?=some .none)
theorem DK {base:Heap} {ax:Shared} (hd:∀a∈F,hO λw aU n=>o.heap.get? a=some w/\w.data=.dict aU n) (z6:∀b,b∉F->base.get? b=o.heap.get? b) (st:base.StaysIn ax.heap) (vS:o.heap.UpToSlots ax.heap) (AK:kE o ax) (eB:o.heap.objs.size<=ax.heap.objs.size):
  ∃dD,el F o dD/\an dD ax:=by
 let bQ:Addr->Array (Option Value):=λa=>match ax.heap.get? a with|some w=>w.slots|none=>#[]
 obtain⟨h,aD,e⟩:=AK
 have keep:∀b w,(iu bQ o.heap F).get? b=some w->ax.heap.get? b=some w:=λb w q=>by
  by_cases ab:b∈F
  ·obtain⟨yD,aU,n,v3,d⟩:=hd b ab
   rw[u4 v3 ab] at q
   cases q
   obtain⟨tQ,gD⟩:=vS b yD v3 λJ z=>by rw[d] at z;cases z
   refine m gD ?_
   have:bQ b=tQ:=by show(match ax.heap.get? b with|some w=>w.slots|none=>#[])=tQ;exact m gD rfl
   refine m this ?_;rfl
  ·rw[vb ab,<-z6 b ab] at q
   exact st b w q
 exact⟨{o with heap:=iu bQ o.heap F},⟨⟨_,rfl⟩,D6 bQ o.heap F⟩,⟨h,aD,by exact m e rfl⟩,λb w _ q=>keep b w q,by show(iu bQ o.heap F).objs.size<=_;refine m xz ?_;exact eB,λT=>T.mono λb w _ q=>keep b w q⟩
section
variable {k:Nat}
theorem FL {base:Heap} {e L:Addr} {X T:String} {kv:Value} {aZ:List ExceptHandler} {P:Shared->Prop} {t:Expr}
  (bj:Heap.HeldW base (s::l) e (.type X) kv L y.heap) (b1:∀ax,base.StaysIn ax.heap->y.heap.UpToSlots ax.heap->kE y ax->y.heap.objs.size<=ax.heap.objs.size->P ax)
  (pb:isSubtype (.type T) (.type "BaseException")=pure true) (hU:isSubtype (.type ((Manifest.find? T).elim "type" λx=>x.metatype)) (.type "tuple")=pure false) (gP:isSubtype (.type X) (.type T)=pure true)
  (v5:∀aB (fJ:Value->Shared->Prop) (cD:Value->Shared->Prop),P aB->fJ (.type T) aB->wpAny (model B A) (D.mark (some (.ref e))) (eval t s) fJ cD aB)
  (k6:∀ax cD,P ax->bl B A (D.mark (some (.ref e))) (nO::nN) s G cD ax):
  wpAny (model B A) D (setFlight (.ref e) none) (λ_ ax=>wpAny (model B A) D (handleBy (.ref e) s (.ExceptHandler (some t) none (nO::nN) ao::aZ)) G M ax) M y:=by
 refine j7 (wpAny_landsW bj λen Cc yE mq=>?_)
 have Sm:P {y with heap:=en}:=b1 _ Cc.1 yE .heap mq
 refine wpAny_handleBy_builtin (X:=X) (T:=T) (b:=true) pb hU gP (v5 _ _ _ Sm ⟨rfl,?_,?_⟩)
 ·obtain⟨jY,bS,bV⟩:=Cc.there
  exact⟨jY,bS,bV⟩
 refine m (b3 rfl) ?_
 obtain⟨f1,f2,da,f4⟩:=Cc
 refine j7 (wpAny_setFlight_noneW f1 da f4.at λef h0 g3 gF jz v6=>(k6 _ _ (b1 _ h0 (yE.trans λb w aA au=>⟨w.slots,jz b w aA au⟩) .heap (aK mq v6))).out)
theorem Qr {base:Heap} {e:Addr} {X T:String} {aZ:List ExceptHandler} {P:Shared->Prop} {t:Expr}
  (e9:D.frames=some (s::l)) (bb:s.frame=some s.locals) (kk:y.heap.FunFrames base (s::l)) (st:base.StaysIn y.heap) (sl:base.get? e=none)
  (there:hO λjY J kv=>nF (y.heap.get? e=some jY) (jY.cls=.type X) (jY.data=.fields J) (J[0]?=some kv) (J[1]?=some .none))
  (b1:∀ax,base.StaysIn ax.heap->y.heap.UpToSlots ax.heap->kE y ax->y.heap.objs.size<=ax.heap.objs.size->P ax)
  (pb:isSubtype (.type T) (.type "BaseException")=pure true) (hU:isSubtype (.type ((Manifest.find? T).elim "type" λx=>x.metatype)) (.type "tuple")=pure false) (gP:isSubtype (.type X) (.type T)=pure true)
  (v5:∀aB (fJ:Value->Shared->Prop) (cD:Value->Shared->Prop),P aB->fJ (.type T) aB->wpAny (model B A) (D.mark (some (.ref e))) (eval t s) fJ cD aB)
  (k6:∀ax cD,P ax->bl B A (D.mark (some (.ref e))) (nO::nN) s G cD ax):
  wpAny (model B A) D (noteFrame (.ref e) s) (λ_ aB=>wpAny (model B A) D (setFlight (.ref e) none) (λ_ ax=>wpAny (model B A) D (handleBy (.ref e) s (.ExceptHandler (some t) none (nO::nN) ao::aZ)) G M ax) M aB) M y:=by
 obtain⟨jY,J,kv,al,av,hd,et,aX⟩:=there
 refine j7 ?_
 unfold noteFrame
 simp only[bb]
 refine ay (lZ al hd aX ?_)
 refine m (bI (by decide)) ?_
 refine wpAny_entryW e9 kk bb al st sl hd (Array.getElem?_eq_some_iff.mp aX).1 et λen eK mq=>?_
 obtain⟨h0,g3,gF,jz⟩:=eK
 rw[av] at gF
 exact FL (L:=s.locals) (kv:=kv) ⟨h0,sl,g3,gF⟩ (λax hR hS jU jV=>b1 ax hR (Heap.UpToSlots.trans jz hS) (kE.heap.trans jU) (aK mq jV)) pb hU gP v5 k6
theorem NL {base:Heap} {e:Addr} {X T:String} {kv:Value} {aZ:List ExceptHandler} {P:Shared->Prop} {t:Expr}
  (e9:D.frames=some (s::l)) (bb:s.frame=some s.locals) (dJ:Heap.FlyingW base (s::l) e (.type X) kv y.heap)
  (b1:∀ax,base.StaysIn ax.heap->y.heap.UpToSlots ax.heap->kE y ax->y.heap.objs.size<=ax.heap.objs.size->P ax)
  (pb:isSubtype (.type T) (.type "BaseException")=pure true) (hU:isSubtype (.type ((Manifest.find? T).elim "type" λx=>x.metatype)) (.type "tuple")=pure false) (gP:isSubtype (.type X) (.type T)=pure true)
  (v5:∀aB (fJ:Value->Shared->Prop) (cD:Value->Shared->Prop),P aB->fJ (.type T) aB->wpAny (model B A) (D.mark (some (.ref e))) (eval t s) fJ cD aB)
  (k6:∀ax cD,P ax->bl B A (D.mark (some (.ref e))) (nO::nN) s G cD ax):
  wpAny (model B A) D (noteFrame (.ref e) s) (λ_ aB=>wpAny (model B A) D (setFlight (.ref e) none) (λ_ ax=>wpAny (model B A) D (handleBy (.ref e) s (.ExceptHandler (some t) none (nO::nN) ao::aZ)) G M ax) M aB) M y:=by
 refine j7 (wpAny_looks_onW e9 bb dJ λen bj u mq=>?_)
 exact FL (L:=s.locals) bj (λax hR hS jU jV=>b1 ax hR (u.trans hS) (kE.heap.trans jU) (aK mq jV)) pb hU gP v5 k6
theorem cJ.Fa {Y:List Addr} {az:Str->Option PyData} {np:Pos} {G:Value->Shared->Prop} (aa:cJ Q U Y o s az) (aN:s.kindOf x=some .globalImplicit) (hm:(x,v)∈ob) (h:G v o) (hd:autoParam ((x==("__debug__":Str))=false) fe._auto_1):wpAny (model B A) D (eval (.Name x np) s) G M o:=
 uW aa.fn aN (Calls.loadGlobal_builtin (mg:=Q) (mb:=U) (by refine m aa.hF ?_;exact aa.base.g) (aa.base.nm.b _ hm).1 (by refine m aa.blt ?_;exact aa.base.b) (aa.base.nm.b _ hm).2 h) hd
noncomputable def xG (Q U:Str->Option Value) (ai Z:List Addr) (l:List Env) (ak:Shared) (s:Env) (K:bd) (o:Shared):Prop:=∃bX,el (du l) ak bX/\aw Q U ai Z bX s K o
theorem aw.Ld {e:Addr} {X T:String} {nq:Str} {np:Pos} {aZ:List ExceptHandler}
  (C:aw Q U ai Z ak s K o) (F:ek l Z ak) (e9:D.frames=some (s::l)) (bb:s.frame=some s.locals) (x:xi o y e X) (aN:s.kindOf nq=some .globalImplicit) (hm:(nq,.type T)∈ob)
  (pb:isSubtype (.type T) (.type "BaseException")=pure true) (hU:isSubtype (.type ((Manifest.find? T).elim "type" λx=>x.metatype)) (.type "tuple")=pure false) (gP:isSubtype (.type X) (.type T)=pure true)
  (k6:∀ax cD,xG Q U ai Z l ak s K ax->bl B A (D.mark (some (.ref e))) (nO::nN) s G cD ax) (hd:autoParam ((nq==("__debug__":Str))=false) fe._auto_1):
  wpAny (model B A) D (noteFrame (.ref e) s) (λ_ aB=>wpAny (model B A) D (setFlight (.ref e) none) (λ_ ax=>wpAny (model B A) D (handleBy (.ref e) s (.ExceptHandler (some (.Name nq np)) none (nO::nN) ao::aZ)) G M ax) M aB) M y:=by
 have no:=C.rt F bb
 have Cd:ek (s::l) K.as y:=no.of λa _ w e=>⟨w.slots,x.keep a w e⟩
 have st:(bare o.heap (du (s::l))).StaysIn y.heap:=λb w q=>by
  by_cases ab:b∈du (s::l)
  ·rw[rx ab] at q;cases q
  ·rw[rR ab] at q;exact x.keep b w q
 have sl:(bare o.heap (du (s::l))).get? e=none:=by
  by_cases ab:e∈du (s::l)
  ·exact rx ab
  ·refine m (rR ab) ?_;exact x.new
 refine Qr e9 bb (Cd.Gf λa aF=>rx aF) st sl x.there (P:=xG Q U ai Z l ak s K) (λax hR hS jU jV=>?_) pb hU gP (λaB fJ cD p q=>?_) k6
 ·obtain⟨dD,u,ex⟩:=DK no.oO (λb aA=>rR aA) hR ((Heap.UpToSlots.of_keeps x.keep).trans hS) (x.same.trans jU) (aK x.size jV)
  obtain⟨bX,nT,a4⟩:=C.up F bb u
  exact⟨bX,nT,a4.step ex⟩
 ·obtain⟨bX,nT,a4⟩:=p
  exact a4.aI.Fa aN hm q hd
structure AH (B:Program) (A:World) (l:List Env) (t:cC) (X:String) (o:Shared) (e:Addr) (y:Shared):Prop where
 Qd:cp λbase kv=>Heap.FlyingW base l e (.type X) kv y.heap/\∀ax,base.StaysIn ax.heap->y.heap.UpToSlots ax.heap->kE y ax->y.heap.objs.size<=ax.heap.objs.size->∃dD,ce (el (du l) o dD) (es (eV B A t) dD ax) (hk B A t ax.heap)
theorem aw.KG {t:cC} {yF:List (Addr×Ent)} {e:Addr} {X T:String} {nq:Str} {np:Pos} {aZ:List ExceptHandler}
  (C:aw Q U ai Z ak s K o) (a1:K.L=yF++bp B A t) (F:ek l Z ak) (e9:D.frames=some (s::l)) (bb:s.frame=some s.locals) (x:AH B A (s::l) t X o e y) (aN:s.kindOf nq=some .globalImplicit) (hm:(nq,.type T)∈ob)
  (pb:isSubtype (.type T) (.type "BaseException")=pure true) (hU:isSubtype (.type ((Manifest.find? T).elim "type" λx=>x.metatype)) (.type "tuple")=pure false) (gP:isSubtype (.type X) (.type T)=pure true)
  (k6:∀ax cD,xG Q U ai Z l ak s K ax->bl B A (D.mark (some (.ref e))) (nO::nN) s G cD ax) (hd:autoParam ((nq==("__debug__":Str))=false) fe._auto_1):
  wpAny (model B A) D (noteFrame (.ref e) s) (λ_ aB=>wpAny (model B A) D (setFlight (.ref e) none) (λ_ ax=>wpAny (model B A) D (handleBy (.ref e) s (.ExceptHandler (some (.Name nq np)) none (nO::nN) ao::aZ)) G M ax) M aB) M y:=by
 obtain⟨base,kv,dJ,all⟩:=x.Qd
 refine NL e9 bb dJ (P:=xG Q U ai Z l ak s K) (λax hR hS jU jV=>?_) pb hU gP (λaB fJ cD p q=>?_) k6
 ·obtain⟨dD,u,cw,ok⟩:=all ax hR hS jU jV
  obtain⟨bX,nT,a4⟩:=C.up F bb u
  refine⟨bX,nT,?_⟩
  have:=a4.nE a1 cw ok.led ok.ah (λa aF=>.inl aF)
  rw[<-a1] at this
  exact this
 ·obtain⟨bX,nT,a4⟩:=p
  exact a4.aI.Fa aN hm q hd
theorem aw.Md {t:cC} {e:Addr} {X:String} {R:Unit->Shared->Prop} {Sn:Value->Shared->Prop} (C:aw Q U ai (eV B A t) ak s K o) (yF:List (Addr×Ent)) (a1:K.L=yF++bp B A t) (au:(t.ns.map (·.ah.nm)).Nodup) (F:ek l (eV B A t) ak) (e9:D.frames=some (s::l)) (bb:s.frame=some s.locals) (x:xi o y e X)
  (k6:∀cs,AH B A l t X ak e cs->R () cs):wpAny (model B A) D (leaving s (.ref e)) R Sn y:=by
 have no:=C.rt F bb
 have Cd:ek (s::l) K.as y:=no.of λa _ w e=>⟨w.slots,x.keep a w e⟩
 have st:(bare o.heap (du (s::l))).StaysIn y.heap:=λb w q=>by
  by_cases ab:b∈du (s::l)
  ·rw[rx ab] at q;cases q
  ·rw[rR ab] at q;exact x.keep b w q
 have sl:(bare o.heap (du (s::l))).get? e=none:=by
  by_cases ab:e∈du (s::l)
  ·exact rx ab
  ·refine m (rR ab) ?_;exact x.new
 obtain⟨jY,J,kv,al,av,hd,et,aX⟩:=x.there
 refine j7 (wpAny_leaving_firstW e9 (Cd.Gf λa aF=>rx aF) bb al st sl hd aX et λen HW mq=>k6 _ ⟨⟨bare o.heap (du (s::l)),kv,?_,λax hR hS jU jV=>?_⟩⟩)
 ·obtain⟨h0,⟨_,_,g3⟩,gF,_⟩:=HW
  rw[av] at gF
  exact⟨h0,sl,g3,gF⟩
 ·obtain⟨h0,g3,gF,jz⟩:=HW
  obtain⟨dD,u,ex⟩:=DK no.oO (λb aA=>rR aA) hR (((Heap.UpToSlots.of_keeps x.keep).trans jz).trans hS) ((x.same.trans .heap).trans jU) (aK x.size (aK mq jV))
  obtain⟨bX,nT,a4⟩:=C.up F bb u
  have bh:=a4.step ex
  exact⟨bX,nT,bh.ex,bh.iC a1 au⟩
theorem F9 {HX:ExceptHandler} {aW:List ExceptHandler}
  (h:bl B A D dE s (kN B A D aZ s G M)
   (λe aj=>wpAny (model B A) D (noteFrame e s) (λ_ aB=>wpAny (model B A) D (setFlight e none) (λ_ ax=>wpAny (model B A) D (handleBy e s (HX::aW)) (kN B A D aZ s G M) M ax) M aB) M aj) o):
  bl B A D (.Try dE (HX::aW) [] [] ao::aZ) s G M o:=by
 refine⟨dA (wpAny_Try_except (c5 h.out (λf aj q=>?_) λe aj q=>?_))⟩
 ·cases f with
  |next=>exact wpAny_execs_nil q.out
  |_=>exact q
 ·refine c5 q (λ_ aB q=>c5 q (λ_ ax q=>c5 q (λf b2 q=>?_) λ_ _ q=>q) λ_ _ q=>q) λ_ _ q=>q
  cases f<;>first|exact q.out|exact q
end
section
variable {Y:List Addr} {k:Nat} {t:cC}
theorem PE {d:PyData} (Ce:PassesOwn (model B A) D s M) (C:aw Q U ai Z ak s K o) (O:H B A D (K.Y ai) o s iter d) (hd:hj d) (I:hG s x) (bj:D.handled=none)
  (ct:Nat->bd->Prop) (et:ct 0 K)
  (turn:∀(i:Nat) eC K ae v y (cD:Value->Shared->Prop) (fJ:Flow->Shared->Prop),(∀dJ y,oz B A D aZ s G M (zQ Q U ai Z ak s ct ae v d i) dJ y->fJ dJ y)->(∀e o,M e o->cD e o)->(items d)[i]?=some eC->ct i K->aw Q U ai Z ak s ((K.it ae v d (i+1)).set x eC) y->bl B A D dE s fJ cD y)
  (fin:∀K y cD,ct (items d).length K->aw Q U ai Z ak s K y->bl B A D i3 s (kN B A D aZ s G M) cD y)
  (aW:autoParam (∀x,foldedSetIterable iter s x=pure x) pZ._auto_1):
  bl B A D (.For (.Name x oQ) iter dE i3 ao::aZ) s G M o:=by
 refine⟨dA (wpAny_For (O.ap o _ _ (an.refl _) λv aj aq r=>(C.step aq).start hd r λae aB aQ=>?_) aW)⟩
 refine sJ (λdJ y h=>by cases dJ<;>first|exact h.out|exact h) (items d).length (λi y=>∃bH,ct i bH/\aw Q U ai Z ak s (bH.it ae v d i) y) ⟨K,et,aQ⟩ (λax h=>h.elim λbH q=>q.2.fin bj hd (on (cG _)) λb2 be=>⟨rfl,fin bH b2 _ q.1 be⟩) λi ax bU h=>h.elim λbH q=>?_
 exact q.2.next hd (d4 bU) λu b2 be oZ=>⟨u,rfl,be.store I oZ λcm bJ=>turn i _ bH ae v cm _ _ (λ_ _ x=>x) (λe o q=>Ce e o q) (d4 bU) q.1 bJ⟩
theorem LZ {nb So Sp:String} (F:ExcCallFacts nb So Sp) (jx:ExcRaiseFacts nb) {np:Pos} {v7:Expr} {d:PyData} (C:aw Q U ai Z ak s K o) (bj:D.handled=none) (aN:s.kindOf x=some .globalImplicit) (hm:(x,.type nb)∈ob)
  (O:H B A D Y o s v7 d) (h:∀aj y e,aw Q U ai Z ak s K aj->xi aj y e nb->M (.ref e) y) (aW:autoParam (starEach [v7] s=[(false,eval v7 s)]) cg._auto_1) (hd:autoParam ((x==("__debug__":Str))=false) fe._auto_1):
  bl B A D (.Raise (some (.Call (.Name x np) [v7] [] hQ)) none ao::aZ) s G M o:=by
 refine⟨dA (wpAny_Raise_made jx bj (wpAny_Call_ofName ((bi.blt C.aI aN hm hd:bi B A D o s (.Name x np) (.type nb)).ap o _ _ (an.refl _) λaj aq=>?_)))⟩
 refine m aW ?_
 refine callWith_excType rfl (kg (jO (O.ap aj _ _ aq λv aB aE r=>kH ?_)))
 have aQ:=C.step (aq.trans aE)
 obtain⟨af,g,b4,aD,os⟩:=aB
 refine j7 (wpAny_call_exc F (hrest:=by refine m dR ?_;simp) λam e hm ar=>?_)
 obtain⟨m8,bu,Sq,mr⟩:=hm.there
 exact⟨e,m8,rfl,bu,h _ _ e aQ ⟨⟨am,aD,rfl⟩,hm.keeps,ar,hm.new,⟨_,_,_,bu,rfl,rfl,rfl,rfl⟩⟩⟩
theorem H.K6 {a b:Str} {n:Str} (O:H B A D Y o s e (.str n)) (au:(reprText n).length<=10000) (aF:a.length<=1000) (aA:b.length<=1000):
  ∃x,H B A D Y o s (.JoinedStr [.Constant (.str a) i hR,.FormattedValue e 114 Option.none hS,.Constant (.str b) j jU] ao) (.str x):=by
 refine⟨Str.empty++a++reprText n++b,.mk λaj G M aq h=>?_⟩
 have cB:(Str.empty++a).length<=1000:=by rw[strLen_append];have:(Str.empty).length=0:=rfl;simp_all
 have jw:(Str.empty++a++reprText n).length<=11000:=by rw[strLen_append];exact iv cB au
 have yt:(Str.empty++a++reprText n++b).length<=12000:=by refine m (strLen_append _ _) ?_;exact iv jw aA
 refine JoinedStr_many (joinParts_cons ((H.str (Y:=Y) (o:=o)).ap aj _ _ aq λv aB aE r=>?_))
 refine aO.fV r λt1=>?_
 refine⟨by refine m dR ?_;exact aK ‹_› (by decide),joinParts_cons (wpAny_FormattedValue_repr (O.ap aB _ _ (aq.trans aE) λv ax a7 r=>?_))⟩
 refine aO.fV r λdO=>?_
 refine wpAny_pyReprObj_str (formatField_str (λdd aD=>?_) (by refine m dR ?_;exact aK ‹_› (by decide))) (by refine m dR ?_;exact aK ‹_› (by decide))
 refine⟨by refine m dR ?_;exact aK ‹_› (by decide),?_⟩
 have lz:an ax {ax with toks:=aD}:=an.tok aD
 refine joinParts_cons ((H.str (Y:=Y) (o:=o)).ap _ _ _ (((aq.trans aE).trans a7).trans lz) λv b2 c0 r=>?_)
 refine aO.fV r λfy=>?_
 refine⟨by refine m dR ?_;exact aK ‹_› (by decide),joinParts_nil (h _ _ ((((aE.trans a7).trans lz).trans c0).trans (an.tok _)) (.str _ _)) (by refine m dR ?_;exact aK ‹_› (by decide))⟩
end
noncomputable def setG (g:List cj) (n:Str) (k:Int):List cj:=g.map λd=>if d.nm=n then {d with np:=k} else d
noncomputable def gM (g:List cj) (q:Str):Int:=((g.find? λd=>decide (d.nm=q)).map (·.np)).getD 0
noncomputable def kd (st:List cj×List Str) (q:Str):List cj×List Str:=(setG st.1 q (gM st.1 q - 1),if gM st.1 q - 1=0 then st.2++[q] else st.2)
theorem ut (g:List cj) (n:Str) (k:Int):(setG g n k).map (·.nm)=g.map (·.nm):=by
 unfold setG
 refine m c6 ?_
 exact gr λd _=>by simp only[Function.comp];split<;>rfl
theorem Qw {ns:List co} (h:(ns.map (·.ah.nm)).Nodup) {n:co} (hm:n∈ns):gM (ns.map (·.ah)) n.ah.nm=n.ah.np:=by
 unfold gM
 induction ns with
 |nil=>cases hm
 |cons a l ih=>
  rw[dG,fO] at h
  refine m dG (m mH ?_)
  by_cases e:a.ah.nm=n.ah.nm
  ·rcases bP.mp hm with rfl|hm
   ·simp
   ·exact absurd (bZ.mpr ⟨n,hm,rfl⟩) (e▸h.1)
  ·rcases bP.mp hm with rfl|hm
   ·exact absurd rfl e
   ·simp only[e,ig]
    exact ih h.2 hm
noncomputable def co.key (x:co):Addr×Addr×Str×List Str:=(x.ae,x.S,x.ah.nm,x.ah.succ)
theorem GR {ns:List co} {n:Str} {k:Int}:(fM ns n λd=>{d with np:=k}).map co.key=ns.map co.key:=by
 unfold fM
 refine m c6 ?_
 exact gr λd _=>by simp only[Function.comp];split<;>rfl
theorem AG {ns kx:List co} (h:ns.map co.key=kx.map co.key):ns.map (·.ah.nm)=kx.map (·.ah.nm):=by
 have:=iw (List.map λp:Addr×Addr×Str×List Str=>p.2.2.1) h
 simpa [c6,Function.comp_def,co.key] using this
theorem E4 {ns kx:List co} (h:ns.map co.key=kx.map co.key) {ab:co} (hm:ab∈kx):∃n∈ns,hx (n.ae=ab.ae) (n.S=ab.S) (n.ah.nm=ab.ah.nm) (n.ah.succ=ab.ah.succ):=by
 have:co.key ab∈ns.map co.key:=by refine m h ?_;exact d9 hm
 obtain⟨n,au,e⟩:=bZ.mp this
 unfold co.key at e
 simp only[Prod.mk.injEq] at e
 exact⟨n,au,e.1,e.2.1,e.2.2.1,e.2.2.2⟩
noncomputable def Ay (T fQ:Value):List (Str×Value):=[("self",T),("nodes",fQ)]
theorem J3 (bs:Value) (T:Value) (bg:List Value):bindArgs (fdOf (hu 7) "TopologicalSorter.done" .none bs (.ref (177 - 1))) ⟨T::bg,[]⟩=(newTuple bg >>=λfQ=>pure (Ay T fQ)):=by
 cases bg<;>rfl
noncomputable def LX:List (Str×NameKind):=[("self",.local),("nodes",.local),("n2i",.local),("node",.local),("nodeinfo",.local),("stat",.local),("successor",.local),("successor_info",.local),("ValueError",.globalImplicit),("_NODE_OUT",.globalImplicit),("_NODE_DONE",.globalImplicit)]
section
variable {Y:List Addr} {k:Nat} {t:cC}
theorem cH.ge {a b:Int}:cH B A D .GtE (.int a) (.int b) (decide (b<=a)):=λo dX dU G M c8 c4 h=>by
 refine aO.fU c8 λ_=>?_;refine aO.fU c4 λ_=>?_
 exact PyProof.Rows.ge_int (h o (an.refl _))
theorem NX {X:List (Addr×Ent)} {n:co} {ns:List co} (a1:K.L=X++bp B A {t with ns:=ns,bM:=some (a,bo)}) (au:n∈ns):(n.S,Ent.lst (n.ah.succ.map .str))∈K.L:=ma (t:={t with ns:=ns,bM:=some (a,bo)}) a1 au _ (.tail _ (.tail _ (.head _)))
noncomputable abbrev JX (B:Program) (A:World) (t:cC) (n:Str) (a3:co) (a:Addr) (j5:List Str) (i:Nat) (K:bd):Prop:=(i=0/\K={L:=bp B A t,az:=dl [("nodes",.tuple [.str n])],bO:=dl [("self",.ref t.T),("n2i",.ref t.N)]})∨(ce (i=1) (a3.ah.np=-1) (cp λns bo=>ce (K={L:=bp B A {t with ns:=ns,bM:=some (a,bo),de:=t.de+1}}) ((ns.map (·.ah),bo)=a3.ah.succ.foldl kd (setG (t.ns.map (·.ah)) n (-2),j5)) (ns.map co.key=t.ns.map co.key)))
noncomputable abbrev KN (B:Program) (A:World) (t:cC) (n:Str) (a3:co) (a:Addr) (j5:List Str) (ae:Addr) (v:Value) (i:Nat) (K:bd):Prop:=cp λns bo=>hx (K={L:=(ae,.own (bk v (.tuple [.str n]) 1))::bp B A {t with ns:=ns,bM:=some (a,bo)},R:=[(v,.tuple [.str n])],az:=dl [],bO:=dl [("self",.ref t.T),("n2i",.ref t.N)]}) ((ns.map (·.ah),bo)=(a3.ah.succ.take i).foldl kd (setG (t.ns.map (·.ah)) n (-2),j5)) (ns.map co.key=t.ns.map co.key) (bo.length<=j5.length+i)
theorem MP (R:b0 (k+4) D) {n:Str} {aD:Tok} {j5:List Str} (e9:D.frames=some l) (F:ek l (eV B A t) o) (C:Base Q U o.heap) (w:hk B A t o.heap) (aV:t.bM=some (a,j5)) (gH:a3∈t.ns) (gT:a3.ah.nm=n) (ky:a3.ah.np=-1∨0<=a3.ah.np)
  (Cf:∀x∈a3.ah.succ,x∈t.ns.map (·.ah.nm)) (ar:j5.length+a3.ah.succ.length<=900) (pc:(reprText n).length<=10000):
  codeAny (model B A) D (.call (.ref 177) ⟨[.ref t.T,.str n aD],[]⟩) (λr y=>
   (a3.ah.np=-1/\cp λns bo=>nF (r=.ok (.ret .none)) (es (eV B A t) o y) (hk B A {t with ns:=ns,bM:=some (a,bo),de:=t.de+1} y.heap) ((ns.map (·.ah),bo)=a3.ah.succ.foldl kd (setG (t.ns.map (·.ah)) n (-2),j5)) (s0 B A o y t {t with ns:=ns,bM:=some (a,bo),de:=t.de+1}))∨
   (0<=a3.ah.np/\∃e,r=.error (.ref e)/\AH B A l t "ValueError" o e y)) o:=by
 refine oF λG dt=>?_
 refine xg (Z:=eV B A t) (ai:=[]) (K:={L:=bp B A t,az:=dl [("nodes",.tuple [.str n])],bO:=dl [("self",.ref t.T)]}) LX R.room C w.fj (λE aJ=>?_) (λp q=>(b9 q).elim) (λp af=>w.led p af _) w.ah (λa aF=>aF)
  (ER C) rfl rfl rfl rfl (by decide) (λeD y=>∃fQ,ce (eD=Ay (.ref t.T) (.ref fQ)) (o.heap.objs.size<=fQ) (∃ab,IsT y.heap fQ [Value.str n aD].toArray ab)) (λbs G M h=>?_) (λeD y af=>?_) (λeD y x af E d e=>?_) (λeD y x af E v e=>?_) λaj s al av hJ bc=>?_
 ·have aJ:E∈eV B A t++[]:=aJ
  rw[iy] at aJ
  exact w.lt E aJ
 ·refine m (J3 _ _ _) ?_
  refine ay (wpAny_newTuple ?_ (by refine m dR ?_;simp))
  exact bx (h _ _ (an.push _) ⟨_,rfl,cG _,0,dT _ rfl⟩)
 ·obtain⟨fQ,rfl,_⟩:=af
  intro x I
  simp only[Ay,bP,b9,eH] at I
  rcases I with rfl|rfl<;>rfl
 ·obtain⟨fQ,rfl,B6,ab,it⟩:=af
  have hm:=gq e
  rw[cn] at hm
  obtain⟨rfl,rfl⟩:=gv hm
  refine⟨.ref fQ,rfl,rfl,.tuple (λq=>?_) it (.cons (.str _ _) .nil)⟩
  have q:fQ∈eV B A t++[]:=q
  rw[iy] at q
  exact absurd (w.lt fQ q) (eZ.mpr B6)
 ·obtain⟨fQ,rfl,_⟩:=af
  have hm:=gq e
  simp only[bP,b9,eH] at hm
  obtain⟨rfl,rfl⟩:=gv hm;exact⟨rfl,rfl⟩
 have c9:=R.deeper s
 have bj:(D.deeper s).handled=Option.none:=c9.h
 have nr:(D.deeper s).frames=some (s::l):=u5 e9
 refine fF bc (c:=false) (bL.isNone (bi.d0 (X:=[]) (t:=t) bc (bc.ev (x:="self") rfl) rfl) (.inr ⟨a,sK aV,rfl⟩)) λaB aQ=>b8 ?_
 refine wK aQ (bi.rQ (X:=[]) (t:=t) aQ (aQ.ev (x:="self") rfl) rfl) (.inl (a8 al rfl)) λax bh=>?_
 have bh:=bh.norm (bp B A t) [("nodes",.tuple [.str n])] [("self",.ref t.T),("n2i",.ref t.N)] rfl ⟨rfl,trivial⟩ ⟨rfl,rfl,trivial⟩
 refine PE PassesOwn.leaving bh (H.name bh.aI rfl) (.tuple _) (.inl (a8 al rfl)) bj
  (JX B A t n a3 a j5) (.inl ⟨rfl,rfl⟩) ?_ ?_
 ·intro i eC K ae v b2 cD jb fR Ce aH gh be
  have aH:[PyData.str n][i]?=some eC:=aH
  have Sr:i=0:=by have:=(gL.mp aH).1;simp at this;exact this
  subst Sr
  rcases gh with⟨_,rfl⟩|⟨h,_⟩
  case inr=>exact absurd h (by decide)
  have qj:eC=.str n:=by simpa using aH.symm
  subst qj
  have be:=be.e3 ((ae,.own (bk v (.tuple [.str n]) 1))::bp B A t) [(v,.tuple [.str n])] [("nodes",.tuple [.str n]),("node",.str n)] [("self",.ref t.T),("n2i",.ref t.N)] rfl ⟨.head _,trivial⟩ ⟨rfl,rfl,trivial⟩ ⟨rfl,rfl,trivial⟩
  have bn:(valueAt (dC t.ns) n).getD .none=.ref a3.ae:=by refine a9 gT (m (uE w.eI gH) ?_);rfl
  refine xP (mM (wpAny_NamedExpr ((bi.Aa (Y:=({L:=(ae,.own (bk v (.tuple [.str n]) 1))::bp B A t,R:=[(v,.tuple [.str n])],az:=dl [("nodes",.tuple [.str n]),("node",.str n)],bO:=dl [("self",.ref t.T),("n2i",.ref t.N)]}:bd).Y []) be (be.ev (x:="n2i") rfl) (pv (X:=[(ae,.own (bk v (.tuple [.str n]) 1))]) (t:=t) rfl) (H.name be.aI rfl) bn).ap b2 _ _ (an.refl _) λcm fW=>m3 ((be.step fW).li (.inl (a8 al rfl)) λds b6=>?_))) (by with_unfolding_all rfl))
  refine(H.none (Y:=[])).ap ds _ _ (an.refl _) λdU fK j4 r=>?_
  refine aO.rM r ?_
  have c1:=b6.step j4
  refine wpAny_is_other rfl (by intro e;cases e) (iq (b8 ?_))
  have c1:=c1.e3 ((ae,.own (bk v (.tuple [.str n]) 1))::bp B A t) [(v,.tuple [.str n])] [("nodes",.tuple [.str n]),("node",.str n)] [("self",.ref t.T),("n2i",.ref t.N),("nodeinfo",.ref a3.ae)] rfl ⟨.head _,trivial⟩ ⟨rfl,rfl,trivial⟩ ⟨rfl,rfl,rfl,trivial⟩
  refine gA c1 (H.np (X:=[(ae,.own (bk v (.tuple [.str n]) 1))]) (t:=t) c1 (c1.ev (x:="nodeinfo") rfl) rfl gH) (.inl (a8 al rfl)) λgS cS=>?_
  have cS:=cS.e3 ((ae,.own (bk v (.tuple [.str n]) 1))::bp B A t) [(v,.tuple [.str n])] [("nodes",.tuple [.str n]),("node",.str n),("stat",.int a3.ah.np)] [("self",.ref t.T),("n2i",.ref t.N),("nodeinfo",.ref a3.ae)] rfl ⟨.head _,trivial⟩ ⟨rfl,rfl,rfl,trivial⟩ ⟨rfl,rfl,rfl,trivial⟩
  by_cases mm:a3.ah.np=-1
  ·refine fF cS (c:=false) (bL.cmp cS.aI.base (H.name cS.aI rfl) (H.zZ cS.aI (a8 al rfl)) (cH.ne c9 (hC _) (hC _) (by refine m mm ?_;rfl))) λgG cT=>b8 ?_
   refine mF ((H.P7 cT.aI (a8 al rfl)).ap gG _ _ (an.refl _) λu lO Ss d7=>?_)
   refine aO.fU d7 λWH=>?_
   have e8:=cT.step Ss
   refine(e8.ev (x:="nodeinfo") rfl).ap lO _ _ (an.refl _) λsj yz=>?_
   refine(e8.step yz).wU (X:=[(ae,.own (bk v (.tuple [.str n]) 1))]) (t:=t) (a3:=a3) rfl w.eI gH λyw jd=>?_
   have bS:t.upd a3.ah.nm (λd=>{d with np:=-2})={t with ns:=fM t.ns n (λd=>{d with np:=-2}),bM:=some (a,j5)}:=by unfold cC.upd;exact m gT (a9 aV rfl)
   have hV:(fM t.ns n λd=>{d with np:=-2}).map (·.ah)=setG (t.ns.map (·.ah)) n (-2):=uJ
   have h0:(fM t.ns n λd=>{d with np:=-2}).map co.key=t.ns.map co.key:=GR
   rw[bS] at jd
   generalize (fM t.ns n λd=>{d with np:=-2})=yG at jd hV h0
   have jd:=jd.e3 ((ae,.own (bk v (.tuple [.str n]) 1))::bp B A {t with ns:=yG,bM:=some (a,j5)}) [(v,.tuple [.str n])] [] [("self",.ref t.T),("n2i",.ref t.N),("nodeinfo",.ref a3.ae)] rfl ⟨.head _,trivial⟩ trivial ⟨rfl,rfl,rfl,trivial⟩
   have Su:∀{kx:List co},kx.map co.key=t.ns.map co.key->(kx.map (·.ah.nm)).Nodup:=λh=>by refine m (AG h) ?_;exact w.eI
   obtain⟨mo,Sv,Sw,Sx,WI,WJ⟩:=E4 h0 gH
   have Sy:bi B A (D.deeper s) yw s (.Attribute (.Name "nodeinfo" ⟨163,29,163,37⟩) "successors" ⟨163,29,163,48⟩) (.ref a3.S):=Sx▸bi.EG (X:=[(ae,.own (bk v (.tuple [.str n]) 1))]) (t:={t with ns:=yG,bM:=some (a,j5)}) (a3:=mo) jd (Sw▸jd.ev (x:="nodeinfo") rfl) rfl Sv
   have jd:=jd.e3 ((ae,.own (bk v (.tuple [.str n]) 1))::bp B A {t with ns:=yG,bM:=some (a,j5)}) [(v,.tuple [.str n])] [] [("self",.ref t.T),("n2i",.ref t.N)] rfl ⟨.head _,trivial⟩ trivial ⟨rfl,rfl,trivial⟩
   refine PZ (O:=a3.S) (aM:=a3.ah.succ.map .str) jd Sy (pC _) (.inl (a8 al rfl)) bj
    (KN B A t n a3 a j5 ae v) ?_ ?_ ?_ ?_
   ·rintro i K ⟨ns,bo,rfl,_,aN,_⟩
    obtain⟨qh,Sz,_,bS,bV,hp⟩:=E4 aN gH
    have:=NX (K:={L:=(ae,.own (bk v (.tuple [.str n]) 1))::bp B A {t with ns:=ns,bM:=some (a,bo)},R:=[(v,.tuple [.str n])],bO:=dl [("self",.ref t.T),("n2i",.ref t.N)]}) (X:=[(ae,.own (bk v (.tuple [.str n]) 1))]) (t:=t) rfl Sz
    rw[bS,hp] at this
    exact this
   ·exact⟨yG,j5,rfl,by refine m hV ?_;rfl,h0,cG _⟩
   ·rintro i eC K lP yB n0 HC qx aH ⟨ns,bo,rfl,bW,aN,cI⟩ k5
    rw[fm] at aH
    obtain⟨q,aS,rfl⟩:=ka.mp aH
    have lK:a3.ah.succ.take (i+1)=a3.ah.succ.take i++[q]:=by refine m kf (m aS ?_);rfl
    have bU:=(gL.mp aS).1
    have eI:=Su aN
    obtain⟨io,v8,yH⟩:=xn (by refine m (AG aN) ?_;exact Cf q (fc aS):q∈ns.map (·.ah.nm))
    have k5:=k5.e3 ((lP,.own (bk (.ref a3.S) (.list (a3.ah.succ.map .str)) (i+1)))::(ae,.own (bk v (.tuple [.str n]) 1))::bp B A {t with ns:=ns,bM:=some (a,bo)}) [(v,.tuple [.str n])] [("successor",.str q)] [("self",.ref t.T),("n2i",.ref t.N)] rfl ⟨.head _,trivial⟩ ⟨rfl,trivial⟩ ⟨rfl,rfl,trivial⟩
    refine wK k5 (bi.Fq (O:=t.N) (cx:=dC ns) (n:=q) (v:=.ref io.ae) k5 (k5.ev (x:="n2i") rfl) (pv (X:=[(lP,.own (bk (.ref a3.S) (.list (a3.ah.succ.map .str)) (i+1))),(ae,.own (bk v (.tuple [.str n]) 1))]) (t:={t with ns:=ns,bM:=some (a,bo)}) rfl) (H.name k5.aI rfl) (by refine a9 yH ?_;exact uE eI v8)) (.inl (a8 al rfl)) λyC qB=>?_
    refine x4 ((qB.ev (x:="successor_info") rfl).ap yC _ _ (an.refl _) λCg SA=>Gw (X:=[(lP,.own (bk (.ref a3.S) (.list (a3.ah.succ.map .str)) (i+1))),(ae,.own (bk v (.tuple [.str n]) 1))]) (t:={t with ns:=ns,bM:=some (a,bo)}) (qB.step SA) rfl v8 λhH v9 wa=>(H.int (Y:=[])).ap v9 _ _ (an.refl _) λu yI SD d7=>?_)
    refine aO.fU d7 λfQ=>?_
    refine AutoIntOps.isub_0 ?_
    have wb:=(wa.step SD).step (an.tok (o:=yI) (yI.toks+1))
    refine wb.wU (X:=[(lP,.own (bk (.ref a3.S) (.list (a3.ah.succ.map .str)) (i+1))),(ae,.own (bk v (.tuple [.str n]) 1))]) (t:={t with ns:=ns,bM:=some (a,bo)}) (a3:=io) rfl eI v8 λWK qC=>?_
    have bV:({t with ns:=ns,bM:=some (a,bo)}:cC).upd io.ah.nm (λd=>{d with np:=io.ah.np - 1})={t with ns:=fM ns q (λd=>{d with np:=io.ah.np - 1}),bM:=some (a,bo)}:=by unfold cC.upd;exact m yH rfl
    have gC:(fM ns q λd=>{d with np:=io.ah.np - 1}).map (·.ah)=setG (ns.map (·.ah)) q (io.ah.np - 1):=uJ
    have g3:(fM ns q λd=>{d with np:=io.ah.np - 1}).map co.key=t.ns.map co.key:=GR.trans aN
    have qD:(io.up λd=>{d with np:=io.ah.np - 1})∈fM ns q λd=>{d with np:=io.ah.np - 1}:=bZ.mpr ⟨io,v8,by exact m (b3 yH) rfl⟩
    have SE:gM (ns.map (·.ah)) q=io.ah.np:=by refine a9 yH ?_;exact Qw eI v8
    rw[bV] at qC
    generalize (fM ns q λd=>{d with np:=io.ah.np - 1})=mn at qC gC g3 qD
    have qC:=qC.e3 ((lP,.own (bk (.ref a3.S) (.list (a3.ah.succ.map .str)) (i+1)))::(ae,.own (bk v (.tuple [.str n]) 1))::bp B A {t with ns:=mn,bM:=some (a,bo)}) [(v,.tuple [.str n])] [("successor",.str q)] [("self",.ref t.T),("n2i",.ref t.N),("successor_info",.ref io.ae)] rfl ⟨.head _,trivial⟩ ⟨rfl,trivial⟩ ⟨rfl,rfl,rfl,trivial⟩
    have yJ:(mn.map (·.ah),if io.ah.np - 1=0 then bo++[q] else bo)=(a3.ah.succ.take (i+1)).foldl kd (setG (t.ns.map (·.ah)) n (-2),j5):=by
     refine m lK (m pM (a9 bW ?_))
     show _=kd (ns.map (·.ah),bo) q
     unfold kd
     exact m SE (m gC rfl)
    refine fF qC (c:=decide (io.ah.np - 1=0)) (bL.cmp (Y:=[]) qC.aI.base (H.np (X:=[(lP,.own (bk (.ref a3.S) (.list (a3.ah.succ.map .str)) (i+1))),(ae,.own (bk v (.tuple [.str n]) 1))]) (t:={t with ns:=mn,bM:=some (a,bo)}) (a3:=io.up λd=>{d with np:=io.ah.np - 1}) qC (qC.ev (x:="successor_info") rfl) rfl qD) (H.int (Y:=[])) (cH.eq c9 (hC _) (hC _) rfl)) λWL wc=>?_
    by_cases tO:io.ah.np - 1=0
    ·refine m (hz tO) ?_
     rw[b3 tO] at yJ
     refine Aw (O:=a) (aM:=bo.map .str) wc (bi.d0 (X:=[(lP,.own (bk (.ref a3.S) (.list (a3.ah.succ.map .str)) (i+1))),(ae,.own (bk v (.tuple [.str n]) 1))]) (t:={t with ns:=mn,bM:=some (a,bo)}) wc (wc.ev (x:="self") rfl) rfl) (Fx (X:=[(lP,.own (bk (.ref a3.S) (.list (a3.ah.succ.map .str)) (i+1))),(ae,.own (bk v (.tuple [.str n]) 1))]) (t:={t with ns:=mn,bM:=some (a,bo)}) rfl rfl) (H.name wc.aI rfl) (by rw[bD];lia) λWM SF=>b8 (b8 (qx _ _ ⟨_,⟨mn,bo++[q],rfl,yJ,g3,by refine m ib ?_;simp;exact mN ‹_›⟩,?_⟩))
     have qr:=joinR (B:=B) (A:=A) (X:=[(lP,.own (bk (.ref a3.S) (.list (a3.ah.succ.map .str)) (i+1))),(ae,.own (bk v (.tuple [.str n]) 1))]) (t:={t with ns:=mn,bM:=some (a,bo)}) (l:=bo) (bo++[q]) rfl
     rw[d3] at qr
     exact SF.e3 ((lP,.own (bk (.ref a3.S) (.list (a3.ah.succ.map .str)) (i+1)))::(ae,.own (bk v (.tuple [.str n]) 1))::bp B A {t with ns:=mn,bM:=some (a,bo++[q])}) [(v,.tuple [.str n])] [] [("self",.ref t.T),("n2i",.ref t.N)] qr ⟨.head _,trivial⟩ trivial ⟨rfl,rfl,trivial⟩
    ·refine m (jT tO) ?_
     rw[bI tO] at yJ
     exact b8 (b8 (qx _ _ ⟨_,⟨mn,bo,rfl,yJ,g3,by exact ht ‹_›⟩,wc.e3 ((lP,.own (bk (.ref a3.S) (.list (a3.ah.succ.map .str)) (i+1)))::(ae,.own (bk v (.tuple [.str n]) 1))::bp B A {t with ns:=mn,bM:=some (a,bo)}) [(v,.tuple [.str n])] [] [("self",.ref t.T),("n2i",.ref t.N)] rfl ⟨.head _,trivial⟩ trivial ⟨rfl,rfl,trivial⟩⟩))
   ·rintro K yB n0 ⟨ns,bo,rfl,bW,aN,cI⟩ k5
    rw[bD,jN] at bW
    refine b8 (x4 ((k5.ev (x:="self") rfl).ap yB _ _ (an.refl _) λyC SG=>OR (X:=[(ae,.own (bk v (.tuple [.str n]) 1))]) (t:={t with ns:=ns,bM:=some (a,bo)}) (k5.step SG) rfl λhH Cg v1=>(H.int (Y:=[])).ap Cg _ _ (an.refl _) λu v9 SH d7=>?_))
    refine aO.fU d7 λfQ=>?_
    refine AutoIntOps.iadd_0 ?_
    have wa:=(v1.step SH).step (an.tok (o:=v9) (v9.toks+1))
    refine wa.O1 (X:=[(ae,.own (bk v (.tuple [.str n]) 1))]) (t:={t with ns:=ns,bM:=some (a,bo)}) rfl λyI wb=>b8 (fR _ _ ⟨_,.inr ⟨rfl,mm,ns,bo,rfl,bW,aN⟩,?_⟩)
    exact wb.tv (ae:=ae) (v:=v) (d:=.tuple [.str n]) (i:=1) (bp B A {t with ns:=ns,bM:=some (a,bo),de:=t.de+1}) [] [] rfl (.head _) trivial trivial
  ·have j1:0<=a3.ah.np:=by rcases ky with h|h;exact absurd h mm;exact h
   refine fF cS (c:=true) (bL.cmp cS.aI.base (H.name cS.aI rfl) (H.zZ cS.aI (a8 al rfl)) (cH.ne c9 (hC _) (hC _) (by show decide (a3.ah.np=-1)=_;refine m (jT mm) ?_;rfl))) λgG cT=>?_
   refine fF cT (c:=true) (bL.cmp cT.aI.base (H.name cT.aI rfl) (H.int (Y:=[])) (by have:=cH.ge (B:=B) (A:=A) (D:=D.deeper s) (a:=a3.ah.np) (b:=0);rwa [hz j1] at this)) λlO e8=>?_
   obtain⟨v7,SI⟩:=H.K6 (B:=B) (A:=A) (D:=D.deeper s) (a:="node ") (b:=" was not passed out (still not ready)") (i:=0) (j:=0) (hR:=⟨157,39,157,44⟩) (hS:=⟨157,44,157,52⟩) (jU:=⟨157,52,157,89⟩) (ao:=⟨157,37,157,90⟩) (H.name e8.aI (x:="node") (ao:=⟨157,45,157,49⟩) rfl) pc (by decide) (by decide)
   exact LZ PySem.F.excCall_ValueError PySem.F.excRaise_ValueError e8 bj (a8 al rfl) (by exact jk (by kernel_rfl)) SI λsj y e ku x=>Ce _ _ (ku.Md [(ae,.own (bk v (.tuple [.str n]) 1))] rfl w.eI F nr hJ.3 x λcs Ci=>dt _ _ (.inr ⟨j1,e,rfl,Ci⟩))
 ·rintro K b2 cD gh be
  rcases gh with⟨h,_⟩|⟨_,mm,ns,bo,rfl,bW,aN⟩
  ·exact absurd h (by show ¬((1:Nat)=0);decide)
  ·have eI:(ns.map (·.ah.nm)).Nodup:=by refine m (AG aN) ?_;exact w.eI
   have ok:=be.iC (X:=[]) (t:={t with ns:=ns,bM:=some (a,bo),de:=t.de+1}) rfl eI
   refine b8 (b8 (dt _ _ (.inl ⟨mm,ns,bo,rfl,be.ex,ok,bW,λb aA=>?_⟩)))
   have bU:=ok.lt b aA
   rcases be.own b aA with q|q
   ·exact .inr ⟨q,bU⟩
   ·exact .inl q
end
namespace F
theorem zV:Slot "wrapper_descriptor" "__get__" "wrapper_descriptor.__get__":=
 .of (owner:="wrapper_descriptor") (n:="__get__") (by refine m (kD _ _) (m kM ?_);kernel_rfl) (by decide+kernel) (by decide+kernel) (by decide+kernel)
  (by first|exact .inl (by decide+kernel)|exact .inr (by decide+kernel)) (by rw[jq];kernel_rfl)
theorem Mu:entryFor table "wrapper_descriptor.__get__"=some Builtin.«wrapper_descriptor.__get__»:=sO (by kernel_rfl)
theorem Lx (a b c:Value):argsOk "wrapper_descriptor.__get__" ⟨[a,b,c],[]⟩:=by unfold argsOk;kernel_rfl
theorem LL:typeLookup (.type "wrapper_descriptor") "__set__"=pure none:=by rewrite[kD];refine m kM ?_;kernel_rfl
theorem KU:typeLookup (.type "wrapper_descriptor") "__delete__"=pure none:=by rewrite[kD];refine m kM ?_;kernel_rfl
theorem La:typeLookup (.type "list_iterator") "__next__"=pure (some (.builtin "list_iterator.__next__")):=by refine m (kD _ _) (m kM ?_);kernel_rfl
theorem Ak:typeOf (.builtin "list_iterator.__next__")=pure (.type "wrapper_descriptor"):=by kernel_rfl
theorem xh:Slot "list_iterator" "__getattribute__" "object.__getattribute__":=
 .of (owner:="object") (n:="__getattribute__") (by refine m (kD _ _) (m kM ?_);kernel_rfl) (by decide+kernel) (by decide+kernel) (by decide+kernel)
  (by first|exact .inl (by decide+kernel)|exact .inr (by decide+kernel)) (by rw[jq];kernel_rfl)
theorem MT (a b:Value):argsOk "object.__getattribute__" ⟨[a,b],[]⟩:=by unfold argsOk;kernel_rfl
theorem Nb:entryFor table "object.__getattribute__"=some Builtin.«object.__getattribute__»:=sO (by kernel_rfl)
theorem LN:isSubtype (.type "list_iterator") (.type (".".intercalate ("list_iterator.__next__".cutAt '.').dropLast))=pure true:=by
 have e:(".".intercalate ("list_iterator.__next__".cutAt '.').dropLast)="list_iterator":=by
  have wd:"list_iterator.__next__".cutAt '.'=["list_iterator","__next__"]:=by first|rfl|decide+kernel
  refine m wd ?_;decide+kernel
 refine m e ?_;rewrite[jq];kernel_rfl
end F
section
variable {h:Heap} {g:Array GenState} {d:Drawn} {t:Nat}
noncomputable def gJ (a:Addr):Obj:={cls:=.type "method-wrapper",data:=.fields #[.builtin "list_iterator.__next__",.ref a]}
theorem Oh {R:Result->Shared->Prop} (I:h.get? a=some w) (av:w.cls=.type "list_iterator") (aS:R (.ok (.ret (.ref h.objs.size))) ⟨h.push (gJ a),g,d,t,os⟩):
  codeAny (model B A) D (.call (.builtin "wrapper_descriptor.__get__") ⟨[.builtin "list_iterator.__next__",.ref a,.type "list_iterator"],[]⟩) R ⟨h,g,d,t,os⟩:=by
 have cK:(⟨h,g,d,t,os⟩:Shared).TypeIs (.ref a) "list_iterator":=⟨_,I,av⟩
 have HY:(⟨h,g,d,t,os⟩:Shared).TypeIs (.builtin "list_iterator.__next__") "wrapper_descriptor":=F.Ak
 have SJ:=F.LN
 refine xC F.zV.plain F.Mu (F.zV.check _ _ _ _ _ _ _ _ HY (F.Lx _ _ _) ?_)
 repeat (any_goals (first|assumption|wp_step))
theorem Nv {aD:Tok} {J:Array Value} {G:Fin->Shared->Prop} (I:h.get? a=some w) (av:w.cls=.type "list_iterator") (vF:w.dict=none) (hd:w.data=.fields J) (aS:G (.done (.ret (.ref h.objs.size))) ⟨h.push (gJ a),g,d,t,os⟩):
  wpAny (model B A) D (Builtin.«object.__getattribute__» ⟨[.ref a,.str "__next__" aD],[]⟩) G M ⟨h,g,d,t,os⟩:=by
 have cK:(⟨h,g,d,t,os⟩:Shared).TypeIs (.ref a) "list_iterator":=⟨_,I,av⟩
 have HY:(⟨h,g,d,t,os⟩:Shared).TypeIs (.builtin "list_iterator.__next__") "wrapper_descriptor":=F.Ak
 have f4:=F.La
 have dy:=F.Ak
 have dS:=F.zV.lookup
 have WN:=F.LL
 have SJ:=F.KU
 repeat (any_goals (first|assumption|wp_step))
 refine m hd ?_
 show wpAny _ _ (instanceDict a false) _ _ _
 repeat (any_goals (first|assumption|wp_step))
 refine m av (m vF ?_)
 repeat (any_goals (first|assumption|wp_step))
 refine Oh I av ?_
 repeat (any_goals (first|assumption|wp_step))
theorem Pp {J:Array Value} {G:Value->Shared->Prop} (I:h.get? a=some w) (av:w.cls=.type "list_iterator") (vF:w.dict=none) (hd:w.data=.fields J) (aS:G (.ref h.objs.size) ⟨h.push (gJ a),g,d,t+1,os⟩):
  wpAny (model B A) D (getAttr (.ref a) "__next__" true) G M ⟨h,g,d,t,os⟩:=by
 have cK:∀t,(⟨h,g,d,t,os⟩:Shared).TypeIs (.ref a) "list_iterator":=λt=>⟨_,I,av⟩
 have f2:=F.xh.lookup
 have da:=F.xh.bind (.ref a)
 unfold getAttr getAttrBy
 refine ay (pp (dZ (ay (wpAny_typeOf (cK _) ?_))))
 repeat (any_goals (first|assumption|wp_step))
 refine xC F.xh.plain F.Nb (F.xh.check _ _ _ _ _ _ _ _ (cK _) (F.MT _ _) (Nv I av vF hd ?_))
 repeat (any_goals (first|assumption|wp_step))
end
section
variable {W it l:Addr}
theorem Ot (a:Value):checkBoundCall "list_iterator.__next__" ⟨[a],[]⟩=pure ():=by kernel_rfl
theorem PP (a:Value):(Code.builtin "list_iterator.__next__" ⟨[a],[]⟩).quiet=true:=Code.quiet_builtin _ (by decide+kernel)
theorem zz {a2:Type} {c:Bool} {a b:Sem a2} {G:a2->Shared->Prop} (av:c=true) (h:wpAny ba D a G M o):wpAny ba D (if c=true then a else b) G M o:=by
 subst av
 exact h
theorem Fc {R:Result->Shared->Prop} (sm:o.heap.get? W=some (gJ it)) (h:codeAny (model B A) D (.builtin "list_iterator.__next__" ⟨[.ref it],[]⟩) R o):codeAny (model B A) D (.call (.ref W) ⟨[],[]⟩) R o:=by
 refine codeAny_of_tree ?_
 show wpAny _ D.in1 (callAny (.ref W) ⟨[],[]⟩) _ _ o
 refine ay (m:=load W) (wpAny_load sm ?_)
 refine zz (c:=Value.type "method-wrapper"==.type "method"||Value.type "method-wrapper"==.type "builtin_function_or_method"||Value.type "method-wrapper"==.type "method-wrapper") (by decide) ?_
 refine zz (c:=Value.type "method-wrapper" !=.type "method") (by decide) ?_
 refine ay (fZ (a:=()) (Ot _) ?_)
 refine eL (bx ?_)
 exact⟨PP _,h⟩
theorem KH {R:Result->Shared->Prop} {items:Array Value} {x:Value} (sm:o.heap.get? W=some (gJ it)) (hit:o.heap.IsListIter it l i) (a0:o.heap.IsList l items) (I:items[i]?=some x)
  (dt:∀am,am.IsListIter it l (i+1)->Heap.SameBut it o.heap am->R (.ok (.ret x)) {o with heap:=am}):codeAny (model B A) D (.call (.ref W) ⟨[],[]⟩) R o:=by
 obtain⟨w,aP,av,hd⟩:=id hit
 obtain⟨Cj,yK,_,SK,Ck⟩:=a0
 refine Fc sm (codeAny_builtin entry_listiter_next ?_)
 show wpAny _ _ (field (.ref it) 0 >>=_) _ _ o
 refine ay (lZ aP hd (x:=.ref l) rfl ?_)
 show wpAny _ _ (if(Value.ref l==Value.none)=true then _ else _) _ _ o
 refine m (bI (show ¬((Value.ref l==Value.none)=true) from l6)) ?_
 show wpAny _ _ (field (.ref it) 1 >>=_) _ _ o
 refine ay (lZ aP hd (x:=.int i 0) rfl ?_)
 show wpAny _ _ (seqItems? (.ref l) >>=_) _ _ o
 refine ay (wpAny_seqItems yK Ck ?_)
 simp only[gl,I]
 refine ay (wpAny_setField aP hd (by simp) (bx (dt _ ?_ (fw ..))))
 exact⟨_,n8 _ aP (rD (Obj.data_mapFields hd _)),(Obj.cls_mapFields ..).trans av,by
  refine m ((Obj.data_mapFields hd) _) ?_;simp[rawInt]⟩
theorem LM {R:Result->Shared->Prop} {items:Array Value} (bj:D.handled=none) (sm:o.heap.get? W=some (gJ it)) (hit:o.heap.IsListIter it l i) (a0:o.heap.IsList l items) (I:items[i]?=none)
  (dt:∀ca am e,Heap.SameBut it o.heap ca->(cp λbA J=>ce (ca.get? it=some bA) (bA.cls=.type "list_iterator") (bA.data=.fields J))->xi {o with heap:=ca} {o with heap:=am} e "StopIteration"->R (.error (.ref e)) {o with heap:=am}):codeAny (model B A) D (.call (.ref W) ⟨[],[]⟩) R o:=by
 obtain⟨w,aP,av,hd⟩:=id hit
 obtain⟨Cj,yK,_,SK,Ck⟩:=a0
 refine Fc sm (codeAny_builtin entry_listiter_next ?_)
 show wpAny _ _ (field (.ref it) 0 >>=_) _ _ o
 refine ay (lZ aP hd (x:=.ref l) rfl ?_)
 show wpAny _ _ (if(Value.ref l==Value.none)=true then _ else _) _ _ o
 refine m (bI (show ¬((Value.ref l==Value.none)=true) from l6)) ?_
 show wpAny _ _ (field (.ref it) 1 >>=_) _ _ o
 refine ay (lZ aP hd (x:=.int i 0) rfl ?_)
 show wpAny _ _ (seqItems? (.ref l) >>=_) _ _ o
 refine ay (wpAny_seqItems yK Ck ?_)
 simp only[gl,I]
 refine ay (nJ (ay (wpAny_setField aP hd (by simp) ?_)))
 show wpAny _ _ (newExc (.type "StopIteration") [] >>=_) _ _ _
 refine ay ?_
 simp only[newExc,newTuple]
 refine ay (jJ ?_ (by size_fits))
 refine ay (m:=firstArgMember _ _) (fZ (a:=Value.none) (by first|rfl|(simp only[firstArgMember];rfl)) ?_)
 refine jJ ?_ (by size_fits)
 refine ay (m:=handled) (wpAny_handled ?_)
 refine m (show(D.under (.builtin "list_iterator.__next__" ⟨[.ref it],[]⟩)).handled=none from bj) ?_
 refine eL (wpAny_throw ?_)
 refine dt _ _ _ (fw ..) ⟨_,_,n8 _ aP (rD (Obj.data_mapFields hd _)),(Obj.cls_mapFields ..).trans av,Obj.data_mapFields hd _⟩ ⟨⟨_,o.toks,rfl⟩,λb w aA=>e1 _ (e1 _ aA),(by simp;exact ht (hw _)),Heap.get?_none_of_le (by simp),⟨_,_,_,dT _ rfl,rfl,rfl,rfl,rfl⟩⟩
end
noncomputable def gy (B:Program) (A:World) (S:List Str) (w:Obj):Prop:=
 hO λaU ck t=>z3 w.ExactSet (w.data=.set aU ck t) (ElemsOf (strKind B A) aU.toList) (∀k,(decide (k∈S))=true↔∃e∈aU.toList,(strKind B A).is k e.2=true) (aU.size < scanBound) (t.fits aU.size=true) (aU.size=S.length)
section
variable {Y:List Addr} {k:Nat} {S:List Str}
theorem aw.setOf (C:aw Q U ai Z ak s K o) (h:(O,Ent.own (gy B A S))∈K.L):o.heap.SetOf (strKind B A) O (λk=>decide (k∈S)) S.length:=by
 obtain⟨w,e,aU,ck,t,aX,a5,cu,ej,hf,mW,rA⟩:=C.owned h
 exact⟨w,aU,ck,t,e,aX,a5,cu,ej,hf,mW,rA⟩
theorem bL.inSet {l r:Expr} {n:Str} (C:aw Q U ai Z ak s K o) (V:bi B A D o s r (.ref O)) (cW:(O,Ent.own (gy B A S))∈K.L) (f9:H B A D Y o s l (.str n)) (hm:autoParam (behindInMarks .In r=false) h7._auto_1):
  bL B A D o s (.Compare l [.In] [r] ao) (decide (n∈S)):=.mk λaj G M aq h=>by
 refine mM (f9.ap aj _ _ aq λv aB aE jv=>V.ap aB _ _ (aq.trans aE) λax a7=>?_) hm
 refine aO.fV jv λt=>?_
 exact wpAny_inSet_of (pW B A n t) rfl ((C.step ((aq.trans aE).trans a7)).setOf cW) (iq (h _ ((aE.trans a7).trans (an.tok _))))
theorem Qj {w:Expr} {ap:Pos} {n:Str} (C:aw Q U ai Z ak s K o) (V:bi B A D o s w (.ref O)) (a1:K.L=bz++(O,.own (gy B A S))::bY) (f9:H B A D Y o s e (.str n)) (ar:S.length<=1000) (au:n∉S)
  (h:∀y,aw Q U ai Z ak s {K with L:=bz++(O,.own (gy B A (S++[n])))::bY} y->bl B A D aZ s G M y)
  (fA:autoParam (attributeBase w "add" s (eval w s)=eval w s) cg._auto_1) (aW:autoParam (starEach [e] s=[(false,eval e s)]) cg._auto_1) (fB:autoParam ((ap.endLine==fI.line)=true) cg._auto_1)
  (kr:autoParam (swapsWith (.Call (.Attribute w "add" ap) [e] [] fI) none ao.line s=pure false) cg._auto_1):
  bl B A D (.Expr (.Call (.Attribute w "add" ap) [e] [] fI) ao::aZ) s G M o:=by
 refine⟨dA (m2 ?_ C.quiet kr)⟩
 have dF:(O,Ent.own (gy B A S))∈K.L:=by refine m a1 ?_;simp
 refine m6 fA aW fB (V.ap o _ _ (an.refl _) λaj aq=>?_)
 have HZ:=(C.step aq).setOf dF
 refine⟨"set","set.add",PySem.F.plainAttrs_set,PySem.F.slot_set_add,PySem.F.type_set_add,HZ.typeIs,HZ.noDict,?_⟩
 refine Calls.callWith_builtin rfl (kg (jO (f9.ap aj _ _ aq λv aB aE r=>kH ?_)))
 refine aO.fV r λt=>?_
 have aQ:=C.step (aq.trans aE)
 refine call_set_add (pW B A n t) rfl (aQ.setOf dF) (by show S.length+1 < 4096;exact Nat.lt_succ_of_le (aK (iv ar (cG _)) (by decide))) λam j3 vZ=>(h _ ?_).out
 obtain⟨bA,aU,ck,hP,e,aX,a5,cu,ej,hf,mW,rA⟩:=vZ
 refine aQ.iD (bt:=.own (gy B A (S++[n]))) (aD:=aB.toks+1) a1 j3 ⟨bA,e,(rj λJ q=>(by rw[a5] at q;cases q)),aU,ck,hP,aX,a5,cu,λk=>?_,hf,mW,?_⟩
 ·rw[<-ej k]
  simp[df]
 ·refine m rA (m (bI (by simpa using au)) (m ib ?_));rfl
theorem bi.Pg {slice:Expr} {n:Str} (C:aw Q U ai Z ak s K o) (V:bi B A D o s i2 (.ref O)) (cW:(O,Ent.own (· =c3))∈K.L) (eK:dv B A cx c3) (f9:H B A D Y o s slice (.str n)) (bn:valueAt cx n=some v)
  (aW:autoParam (∀w i,subscripted slice false w i=operate [w,i] (getItem w i)) uq._auto_1):bi B A D o s (.Subscript i2 slice ao) v:=.mk λaj G M aq h=>by
 refine Subscript_ (V.ap aj _ _ aq λaB aE=>f9.ap aB _ _ (aq.trans aE) λme ax a7 r=>?_)
 refine aO.fV r λt=>?_
 obtain⟨w,e,rfl⟩:=(C.step ((aq.trans aE).trans a7)).owned cW
 obtain⟨aU,ck,Cm⟩:=eK
 have sb:ax.heap.DictOf (strKind B A) O cx:=⟨w,aU,ck,e,Cm⟩
 exact tail_any sb.mapOf.typeIs slot_dict_getitem.lookup (wpAny_getItem_of (pW B A n t) sb.mapOf bn (h _ ((aE.trans a7).trans (an.tok _)))) (aW _ _)
theorem aw.Kc {n:Str} {t:Tok} {p:Obj->Prop} {G:Unit->Shared->Prop} (C:aw Q U ai Z ak s K o) (a1:K.L=bz++(O,Ent.own p)::bY) (w:Obj) (al:o.heap.get? O=some w) (af:dv B A cx w) (ar:cx.length<=1000) (bn:(valueAt cx n).isSome=true)
  (h:∀y,aw Q U ai Z ak s {K with L:=bz++(O,Ent.own (dv B A (without cx n)))::bY} y->G () y):wpAny (model B A) D (delItem (.ref O) (.str n t)) G M o:=by
 obtain⟨aU,ck,Cm⟩:=af
 have cW:o.heap.DictOf (strKind B A) O cx:=⟨w,aU,ck,al,Cm⟩
 unfold delItem
 try with_reducible refine dZ ?_
 refine ay (wpAny_sequenceKey cW.typeIs (by decide) ?_)
 refine ay (xv (name:=Str.ofString "__delitem__") cW.typeIs PySem.F.slot_dict_delitem
  (call_meetsIn PySem.F.slot_dict_delitem cW.typeIs PySem.F.entry_dict_delitem (PySem.F.args_dict_delitem_2 _ _) (meets_dict_delitem_pairs (strKind B A) O (pW B A n t)) ⟨cx,cW,(by refine m dR ?_;exact aK ‹_› (by decide)),bn,λam SM aW=>?_⟩))
 exact bx (h _ (C.iD (aD:=o.toks+1) a1 aW (Ent.GF (dv.of SM))))
theorem Km {W it:Addr} {G:Value->Shared->Prop} (sm:o.heap.get? W=some (gJ it)) (h:wpAny (model B A) D (call (.ref W) [] []) G M o):wpAny (model B A) D (callWith ao (.ref W) [] [] []) G M o:=by
 refine ay (m:=holding [.ref W] (evalArgs (.ref W) true [] [])) (dZ (fZ (a:=⟨[],[]⟩) rfl (ay (gK ?_))))
 refine ay (m:=keeperOf (.ref W)) (ay (m:=load W) (wpAny_load sm ?_))
 refine zz (c:=Value.type "method-wrapper" !=.type "method") (by decide) ?_
 refine ay (fZ (a:=Keeper.machine) rfl ?_)
 refine bx ?_
 show wpAny _ D (do let r <-call (.ref W) [] [];holding [r] point;pure r) G M o
 exact ay (c5 h (λr aB aV=>ay (dZ (wpAny_point (bx aV)))) λ_ _ x=>x)
theorem bi.Mt {p up:Pos} (C:aw Q U ai Z ak s K o) (bn:K.bO x=some (.ref O)) (hm:(O,Ent.lst (aM++[bT a]))∈K.L) (ar:aM.length<=900) (hd:autoParam ((x==("__debug__":Str))=false) fe._auto_1) (au:autoParam ((x==("__classdict__":Str))=false) fe._auto_1):
  bi B A D o s (.Subscript (.Name x p) (.UnaryOp .USub (.Constant (.int 1) j hR) up) ao) (.ref a):=.mk λaj G M aq h=>by
 have aa:=C.pD bn hm
 have lE:upd K.az x (PyData.list (aM++[bT a])) x=some (.list (aM++[bT a])):=by unfold upd;exact m (b3 rfl) rfl
 have oW:H B A D [] o s (.Subscript (.Name x p) (.UnaryOp .USub (.Constant (.int 1) j hR) up) ao) (bT a):=
  H.sub aa (H.name aa lE hd au) (H.neg_int H.int) (by refine m ib ?_;simp;exact(λa b=>(W.Z.leB_iff a b).mp) 1 (↑aM.length+1) rfl) ⟨by decide,by refine m ib ?_;simp;exact aK ‹_› (by decide)⟩ (by
   have e:placeAt (-1) (aM++[bT a]).length=aM.length:=by unfold placeAt;simp;exact zW _
   refine m e ?_;simp)
 exact oW.ap aj _ _ aq λv aB aE r=>by
  have:=r.uU
  subst this
  exact h _ aE
theorem H.OQ {np p:Pos} (C:aw Q U ai Z ak s K o) (aN:s.kindOf "len"=some .globalImplicit) (bn:K.bO x=some (.ref O)) (hm:(O,Ent.lst aM)∈K.L) (ar:aM.length<=1000) (hd:autoParam ((x==("__debug__":Str))=false) fe._auto_1) (au:autoParam ((x==("__classdict__":Str))=false) fe._auto_1):
  H B A D Y o s (.Call (.Name "len" np) [.Name x p] [] ao) (.int aM.length):=.mk λaj G M aq h=>by
 have aa:=C.pD bn hm
 have lE:upd K.az x (PyData.list aM) x=some (.list aM):=by unfold upd;exact m (b3 rfl) rfl
 exact(H.len (np:=np) (ao:=ao) aa aN (H.name aa lE hd au) ar).ap aj _ _ aq λv aB aE r=>h _ _ aE (r.flat rfl)
theorem bL.lst {p:Pos} (C:aw Q U ai Z ak s K o) (bn:K.bO x=some (.ref O)) (hm:(O,Ent.lst aM)∈K.L) (ar:aM.length<=1000) (hd:autoParam ((x==("__debug__":Str))=false) fe._auto_1) (au:autoParam ((x==("__classdict__":Str))=false) fe._auto_1):
  bL B A D o s (.Name x p) (!aM.isEmpty):=by
 have aa:=C.pD bn hm
 have lE:upd K.az x (PyData.list aM) x=some (.list aM):=by unfold upd;exact m (b3 rfl) rfl
 exact bL.val (H.name aa lE hd au) (iW.list ar rfl)
theorem LH {p ap sn np:Pos} {k7:Addr} {qE:List PyData} (C:aw Q U ai Z ak s K o) (BF:s.kindOf "iter"=some .globalImplicit) (bn:K.bO x=some (.ref O)) (a1:K.L=bz++(O,.lst qE)::bY)
  (V:bi B A D o s e (.ref k7)) (e7:(k7,Ent.lst aM)∈K.L) (ar:qE.length<=1000)
  (h:∀W it y,aw Q U ai Z ak s {K with L:=(W,.own (· =gJ it))::(it,.own (bk (.ref k7) (.list aM) 0))::(bz++(O,.lst (qE++[bT W]))::bY)} y->bl B A D aZ s G M y)
  (fA:autoParam (attributeBase (.Name x p) "append" s (eval (.Name x p) s)=eval (.Name x p) s) cg._auto_1)
  (aW:autoParam (starEach [.Attribute (.Call (.Name "iter" kR) [e] [] sn) "__next__" np] s=[(false,eval (.Attribute (.Call (.Name "iter" kR) [e] [] sn) "__next__" np) s)]) cg._auto_1) (fB:autoParam ((ap.endLine==fI.line)=true) cg._auto_1)
  (al:autoParam (starEach [e] s=[(false,eval e s)]) cg._auto_1)
  (vR:autoParam (eval (.Attribute (.Call (.Name "iter" kR) [e] [] sn) "__next__" np) s=(do let w <-eval (.Call (.Name "iter" kR) [e] [] sn) s;standAt np.atName;let r <-holding [w] (getAttr w "__next__" true);letTemporaryGo (.Call (.Name "iter" kR) [e] [] sn) w r;pure r)) h7._auto_1)
  (kr:autoParam (swapsWith (.Call (.Attribute (.Name x p) "append" ap) [.Attribute (.Call (.Name "iter" kR) [e] [] sn) "__next__" np] [] fI) none ao.line s=pure false) cg._auto_1) (hd:autoParam ((x==("__debug__":Str))=false) fe._auto_1) (au:autoParam ((x==("__classdict__":Str))=false) fe._auto_1):
  bl B A D (.Expr (.Call (.Attribute (.Name x p) "append" ap) [.Attribute (.Call (.Name "iter" kR) [e] [] sn) "__next__" np] [] fI) ao::aZ) s G M o:=by
 refine⟨dA (m2 ?_ C.quiet kr)⟩
 have dF:(O,Ent.lst qE)∈K.L:=by refine m a1 ?_;simp
 refine m6 fA aW fB ((C.ev bn hd au).ap o _ _ (an.refl _) λaj aq=>?_)
 obtain⟨J,n,l⟩:=C.uF dF aq
 refine⟨"list","list.append",PySem.F.plainAttrs_list,PySem.F.slot_list_append,PySem.F.type_list_append,⟨_,l,rfl⟩,λa i9=>by have e:=mb i9;subst e;exact⟨_,l,rfl⟩,?_⟩
 have yL:bi B A D o s (.Name "iter" kR) (.builtin "iter"):=bi.blt C.aI BF (by exact jk (by kernel_rfl))
 refine P.append_list (ry (l3 al (yL.ap aj _ _ aq λaB aE=>uG (V.ap aB _ _ (aq.trans aE) λax a7=>GV ?_))) vR)
 have bh:=C.step ((aq.trans aE).trans a7)
 obtain⟨SN,ab,yM,we⟩:=bh.iZ e7
 refine wpAny_pyIter_list yM.isList ?_
 have be:=bh.add (a:=ax.heap.objs.size) (e:=.own (bk (.ref k7) (.list aM) 0)) (an.push {cls:=.type "list_iterator",data:=.fields #[.ref k7,.int 0 0]}) ⟨cG _,by simp⟩ ⟨_,dT _ rfl,rfl,k7,rfl,rfl,rfl⟩
 have hit:(ax.heap.push {cls:=.type "list_iterator",data:=.fields #[.ref k7,.int 0 0]}).get? ax.heap.objs.size=some {cls:=.type "list_iterator",data:=.fields #[.ref k7,.int 0 0]}:=dT _ rfl
 generalize ax.heap.objs.size=it at be hit ⊢
 generalize ax.heap.push {cls:=.type "list_iterator",data:=.fields #[.ref k7,.int 0 0]}=jf at be hit ⊢
 obtain⟨af,g,b4,aD,os⟩:=ax
 refine Pp hit rfl rfl rfl ?_
 have bJ:=be.add (a:=jf.objs.size) (e:=.own (· =gJ it)) ((an.push (o:=⟨jf,g,b4,aD,os⟩) (gJ it)).trans (an.tok (o:=⟨jf.push (gJ it),g,b4,aD,os⟩) (aD+1))) ⟨cG _,by simp⟩ ⟨_,dT _ rfl,rfl,rfl⟩
 generalize jf.objs.size=W at bJ ⊢
 have bJ:aw Q U ai Z ak s {K with L:=(W,.own (· =gJ it))::(it,.own (bk (.ref k7) (.list aM) 0))::K.L} ⟨jf.push (gJ it),g,b4,aD+1,os⟩:=bJ
 have H0:(O,Ent.lst qE)∈({K with L:=(W,.own (· =gJ it))::(it,.own (bk (.ref k7) (.list aM) 0))::K.L}:bd).L:=.tail _ (.tail _ dF)
 have SO:O∈({K with L:=(W,.own (· =gJ it))::(it,.own (bk (.ref k7) (.list aM) 0))::K.L}:bd).Y ai:=e2 _ (d9 (f:=(·.1)) H0)
 have SP:({K with L:=(W,.own (· =gJ it))::(it,.own (bk (.ref k7) (.list aM) 0))::K.L}:bd).L=((W,.own (· =gJ it))::(it,.own (bk (.ref k7) (.list aM) 0))::bz)++(O,.lst qE)::bY:=by show _::_::K.L=_;refine m a1 ?_;rfl
 obtain⟨il,lB,iM,ks⟩:=bJ.iZ H0
 have cI:=ks.length
 refine⟨il,lB,by refine m dR ?_;simp only[lj] at cI;exact c2 (aK (di cI) ar),iM,(h W it _ ?_).out⟩
 have H1:=fw (jf.push (gJ it)) O (Obj.mapSeq λag=>ag.push (.ref W))
 have b6:=bJ.iD (aD:=aD+1) (bt:=.lst (qE++[bT W])) SP H1 ⟨il.push (.ref W),_,iM.update _,by
  refine m Array.toList_push ?_
  exact(ks.upd H1 (.inl SO)).snoc (.ref W)⟩
 exact b6
end
structure fs where
 n:co
 W:Addr
 it:Addr
 p:Nat
noncomputable def fs.nm (f:fs):Str:=f.n.ah.nm
noncomputable def nK (f:fs):List (Addr×Ent):=[(f.W,.own (· =gJ f.it)),(f.it,.own (bk (.ref f.n.S) (.list (f.n.ah.succ.map .str)) f.p))]
noncomputable def un (ns:List co) (S:List Str):Nat:=((ns.filter λn=>decide (n.ah.nm∉S)).map λn=>n.ah.succ.length+1).sum
noncomputable def lf (bC:List fs):Nat:=(bC.map λf=>f.n.ah.succ.length - f.p).sum
theorem F6 {S:List Str} {v:Str}:∀ns:List co,un ns (S++[v])<=un ns S
 |[]=>cG _
 |a::ns=>by
  have ih:=F6 (S:=S) (v:=v) ns
  unfold un at ih ⊢
  refine m fH (m fH ?_)
  by_cases h:a.ah.nm∈S
  ·have am:a.ah.nm∈S++[v]:=e2 _ h
   simp only[h,am,nH,ig,fx,fd]
   exact ih
  ·by_cases am:a.ah.nm∈S++[v]
   ·simp only[h,am,nH,mE,ig,lp,fx,fd,fv,dG,s8]
    exact Nat.le_add_left_of_le ih
   ·simp only[h,am,mE,lp,fv,dG,s8]
    exact Nat.add_le_add_iff_left.mpr ih
theorem Fz {S:List Str} {v:Str} {n:co} (bn:v∉S) (au:n.ah.nm=v):∀ns:List co,n∈ns->un ns (S++[v])+(n.ah.succ.length+1)<=un ns S
 |a::ns,hm=>by
  rcases bP.mp hm with rfl|hm
  ·have ih:=F6 (S:=S) (v:=v) ns
   unfold un at ih ⊢
   refine m fH (m fH ?_)
   have aX:n.ah.nm∉S:=by refine m au ?_;exact bn
   have a5:n.ah.nm∈S++[v]:=by refine m au ?_;simp
   simp only[aX,a5,nH,mE,ig,lp,fx,fd,fv,dG,s8]
   lia
  ·have ih:=Fz bn au ns hm
   unfold un at ih ⊢
   refine m fH (m fH ?_)
   by_cases h:a.ah.nm∈S
   ·have am:a.ah.nm∈S++[v]:=e2 _ h
    simp only[h,am,nH,ig,fx,fd]
    exact ih
   ·by_cases am:a.ah.nm∈S++[v]
    ·simp only[h,am,nH,mE,ig,lp,fx,fd,fv,dG,s8]
     exact Nat.le_add_left_of_le ih
    ·simp only[h,am,mE,lp,fv,dG,s8]
     lia
theorem zX (bC:List fs) (f:fs):lf (bC++[f])=lf bC+(f.n.ah.succ.length - f.p):=by
 unfold lf;refine m d3 (m List.sum_append ?_);simp
theorem Kq {ag:List Str} (h:cx.map (·.1)=ag++[x]) (I:x∉ag):(without cx x).map (·.1)=ag:=by
 unfold without
 have e:(cx.filter λsi=>decide (si.1≠x)).map (·.1)=(cx.map (·.1)).filter λE=>decide (E≠x):=by
  refine m nC ?_;rfl
 refine m e (m h (m (p3 _ _) ?_))
 have bV:ag.filter (λE=>decide (E≠x))=ag:=rP.mpr λE aJ=>by
  simp only[ne_eq,decide_not,lX,wT]
  rintro rfl;exact I aJ
 refine m bV ?_;simp
theorem NM (h:x∈V.map (·.1)):(valueAt V x).isSome=true:=by
 unfold valueAt
 refine m Option.isSome_map ?_;rewrite[List.find?_isSome]
 obtain⟨p,af,e⟩:=bZ.mp h
 exact⟨p,af,by simpa using e⟩
theorem L8 (h:x∉V.map (·.1)):(valueAt V x).isSome=false:=by
 unfold valueAt
 refine m Option.isSome_map ?_
 cases e:V.find? λsi=>decide (si.1=x) with
 |none=>rfl
 |some p=>
  have:=tj e
  exact absurd (bZ.mpr ⟨p,rL e,by simpa using this⟩) h
theorem Ol (h:x∉V.map (·.1)):(stored V x v).map (·.1)=V.map (·.1)++[x]:=by
 unfold stored
 have:V.any (λsi=>decide (si.1=x))=false:=by
  rw[List.any_eq_false]
  intro p af
  simp only[h8]
  rintro rfl
  exact h (d9 af)
 refine m this ?_;simp
section
variable {Y:List Addr} {k:Nat} {t:cC}
theorem M5 (C:aw Q U ai Z ak s K o) (V:bi B A D o s iter (.ref O)) (eK:dv B A cx c3) (I:hG s x) (bj:D.handled=none)
  (ct:Nat->Shared->bd->Prop) (gh:∀i ak bH,ct i ak bH->(O,Ent.own (· =c3))∈bH.L) (et:ct 0 ak K)
  (turn:∀(ck i:Nat) n v ak bH ae y (cD:Value->Shared->Prop) (fJ:Flow->Shared->Prop),(∀dJ y,oz B A D aZ s G M (EZ Q U ai Z s ct ae (lv O cx.length ck) i) dJ y->fJ dJ y)->cx[i]?=some (n,v)->ct i ak bH->aw Q U ai Z ak s ((bH.own ae (.own (lv O cx.length ck (i+1)))).set x (.str n)) y->bl B A D dE s fJ cD y)
  (fin:∀ak bH y cD,ct cx.length ak bH->aw Q U ai Z ak s bH y->bl B A D i3 s (kN B A D aZ s G M) cD y)
  (aW:autoParam (∀x,foldedSetIterable iter s x=pure x) pZ._auto_1):
  bl B A D (.For (.Name x oQ) iter dE i3 ao::aZ) s G M o:=by
 obtain⟨aU,ck,Cn,Co,Cp⟩:=id eK
 have t2:∀{ak:Shared} {bH:bd} {y:Shared},aw Q U ai Z ak s bH y->(O,Ent.own (· =c3))∈bH.L->y.heap.DictAt (strKind B A) O cx ck:=λC hm=>by
  obtain⟨w,e,rfl⟩:=C.owned hm
  exact⟨w,aU,e,Cn,Co,Cp⟩
 have SQ:(O==sysModules)=false:=xb (C.xa (gh 0 ak K et))
 refine⟨dA (wpAny_For (V.ap o _ _ (an.refl _) λaj aq=>?_) aW)⟩
 have bc:=C.step aq
 refine wpAny_pyIter_dict SQ (t2 bc (gh 0 ak K et)) ?_
 have aQ:aw Q U ai Z ak s (K.own aj.heap.objs.size (.own (lv O cx.length ck 0))) {aj with heap:=aj.heap.push {cls:=.type "dict_keyiterator",data:=.fields #[.ref O,.int 0 0,.int cx.length 0,.int ck 0]}}:=
  bc.add (an.push _) ⟨cG _,by simp⟩ ⟨_,dT _ rfl,lv.gY (i:=0) ⟨rfl,rfl⟩,rfl,rfl⟩
 generalize aj.heap.objs.size=ae at aQ
 refine sJ (λdJ y h=>by cases dJ<;>first|exact h.out|exact h) cx.length (λi y=>cp λak bH=>ct i ak bH/\aw Q U ai Z ak s (bH.own ae (.own (lv O cx.length ck i))) y) ⟨ak,K,et,aQ⟩ (λax h=>?_) λi ax bU h=>?_
 ·obtain⟨bX,bH,nt,bh⟩:=h
  obtain⟨bA,f8,_,hit⟩:=bh.led (ae,.own (lv O cx.length ck cx.length)) (iF)
  exact j7 (wpAny_pyNext_dict_end bj ⟨bA,f8,hit⟩ (t2 bh (iY _ (gh _ _ bH nt))) (on (cG _)) λam al ar=>by
   have be:=bh.q6 (aD:=ax.toks) (L:=bH.L) rfl al ar
   exact⟨rfl,fin bX bH _ _ nt be⟩)
 ·obtain⟨bX,bH,nt,bh⟩:=h
  obtain⟨bA,f8,_,hit⟩:=bh.led (ae,.own (lv O cx.length ck i)) (iF)
  refine wpAny_pyNext_dict_item ⟨bA,f8,hit⟩ (t2 bh (iY _ (gh _ _ bH nt))) (d4 bU) λkey am SR nc dI=>⟨key,rfl,?_⟩
  obtain⟨t,rfl⟩:=Pz SR
  obtain⟨vP,vQ,H2⟩:=nc
  have be:=bh.turn (bt:=.own (lv O cx.length ck (i+1))) (aD:=ax.toks) rfl dI ⟨vP,vQ,lv.gY H2,H2⟩
  exact aw.store (K:=bH.own ae (.own (lv O cx.length ck (i+1)))) be I (.str _ t) λcm bJ=>turn ck i _ _ bX bH ae cm _ _ (λ_ _ x=>x) (d4 bU) nt bJ
theorem Fn {R:Result->Shared->Prop} {st:Stmt} (names:List (Str×NameKind)) (cQ:List Str) (kp:D.depth < recursionLimit) (C:Base Q U o.heap) (w:hk B A t o.heap) (aJ:∀E∈ai,E < o.heap.objs.size)
  (jy:FnAt o.heap a st bN em) (aW:(dQ st).names=names) (fh:(dQ st).kind=.function) (fi:(dQ st).isCoroutine=false) (kq:(dQ st).isGenerator=false)
  (lF:∀bs cd,bindArgs (fdOf st bN em bs cd) ⟨J,[]⟩=pure (cQ.zip J)) (a0:J.length=cQ.length)
  (nh:(cQ.all λx=>names.lookup x==some .local||names.lookup x==some .cell)=true) (nU:cQ.Nodup)
  (dE:∀(aj:Shared) (s:Env),s.scope.names=names->s.frame=some s.locals->aw Q U ai (eV B A t) o s {L:=bp B A t,bO:=dl (cQ.zip J)} aj->
   bl B A (D.deeper s) (dV st) s (sQ R)
    (ti B A (D.deeper s) s R) aj):
  codeAny (model B A) D (.call (.ref a) ⟨J,[]⟩) R o:=by
 refine oi (Z:=eV B A t) (ai:=ai) (K:={L:=bp B A t,bO:=dl (cQ.zip J)}) names cQ kp C w.fj (λE hm=>?_) (λp q=>(b9 q).elim) (λp af=>w.led p af _) w.ah (λa aF=>aF)
  (λE d e=>by cases e) (λE v e=>gq e) jy aW fh fi kq lF a0 nh nU λaj s al av hJ bc=>dE aj s al hJ.3 bc
 rcases df.mp hm with q|q
 ·exact w.lt E q
 ·exact aJ E q
end
noncomputable def ne (r:List Str):Bool:=!r.isEmpty
noncomputable def mS (rows:List (List Str)) (r:List Str):Bool:=rows.all λwf=>!decide (r.headD ""∈wf.tail)
noncomputable def D4 (p:Addr->Bool) (x:PyData):Bool:=match x with
 |.dict [(.int i,.none)]=>p i.toNat
 |_=>false
noncomputable def strip (c:Str) (r:List Str):List Str:=if r.head?=some c then r.tail else r
noncomputable def mc:Nat->List (List Str)->List Str->Option (List Str)
 |0,_,_=>none
 |n+1,rows,eJ=>
  if(rows.filter ne).isEmpty then some eJ else
  match(rows.filter ne).find? (mS (rows.filter ne)) with
  |none=>none
  |some r=>mc n (rows.map (strip (r.headD ""))) (eJ++[r.headD ""])
section
variable {k:Nat}
theorem bL.place {Y:List Addr} {az:Str->Option PyData} {p:Pos} {b:Bool} (aa:cJ Q U Y o s az) (e:az x=some (bT O)) (h:∀y,an o y->cp λJ n=>ce (IsL y.heap O J n) (J.size<=1000) ((!J.isEmpty)=b)) (hd:autoParam ((x==("__debug__":Str))=false) fe._auto_1) (au:autoParam ((x==("__classdict__":Str))=false) fe._auto_1):
  bL B A D o s (.Name x p) b:=.mk λaj G M aq aS=>by
 refine m (show isTrue (.Name x p) s (eval (.Name x p) s)=(do let v <-eval (.Name x p) s;standAt p;holding [v] (truthy v)) from rfl) ?_
 refine ay ((H.name aa e hd au).ap aj _ _ aq λv aB aE r=>ay (gK (dZ ?_)))
 have e:=r.uU
 subst e
 obtain⟨J,n,l,ar,aA⟩:=h aB (aq.trans aE)
 refine wpAny_truthy_list l.isList (by(first|assumption|lia|omega)) ?_
 refine m aA ?_
 exact aS _ (aE.trans (an.tok _))
theorem ri {np:Pos} {Cq:Nat} (aN:s.scope.kind=.function) (I:s.kindOf x=some .local) (a0:(np.line==(Expr.ListComp cY kT aR hQ).pos.line)=true)
  (au:(aR.names.any λ(n,k)=>n==x&&(k==.local||k==.cell))=false):swapsWith (.ListComp cY kT aR hQ) (some (.Name x np)) Cq s=pure true:=by
 have aA:s.blockKind=.function:=by unfold Env.blockKind;refine m aN ?_;rfl
 show(pure (s.blockKind==.function&&s.kindOf x==some .local&&np.line==(Expr.ListComp cY kT aR hQ).pos.line&&!(aR.names.any λ(n,k)=>n==x&&(k==.local||k==.cell))):Sem Bool)=_
 refine m aA (m I (m a0 (m au ?_)));rfl
theorem u6 (h:G .brk o):bl B A D (.Break ao::aZ) s G M o:=
 ⟨dA (show wpAny (model B A) D (standAt ao >>=λ_=>pure Flow.brk) _ _ _ from ay (gK (bx h)))⟩
noncomputable def eF (as:List Addr) (dH:Addr->List Str):List (Addr×Ent):=as.map λa=>(a,.lst ((dH a).map .str))
theorem Ma {as:List Addr} (h:a∈as) (au:as.Nodup) (ag:List Str):cp λbz bY=>eF as dH=bz++(a,.lst ((dH a).map .str))::bY/\eF as (λb=>if b=a then ag else dH b)=bz++(a,.lst (ag.map .str))::bY:=by
 obtain⟨SS,SU,rfl⟩:=List.append_of_mem h
 rw[ia] at au
 obtain⟨aX,a5,cu⟩:=au
 rw[fO] at a5
 refine⟨eF SS dH,eF SU dH,by unfold eF;exact m d3 (m dG rfl),?_⟩
 unfold eF
 refine m d3 (m dG ?_)
 dsimp only
 refine m (b3 rfl) ?_
 congr 1
 ·exact gr λb aA=>by
   have:b≠a:=cu b aA a (.head _)
   simp[this]
 ·congr 1
  exact gr λb aA=>by
   have:b≠a:=λq=>a5.1 (q▸aA)
   simp[this]
noncomputable def FM:List (Str×NameKind):=[("sequences",.local),("result",.local),("s1",.local),("candidate",.local),("s2",.local),("seq",.local),("RuntimeError",.globalImplicit)]
noncomputable def LG:List Stmt:=(dV ((dV (dh 10)).getD 1 (.Pass ⟨0,0,0,0⟩))).drop 3
theorem NB {k:Nat} (R:b0 k D) {as:List Addr} {cc:List Addr} {c:Str} {eJ:List Str} (al:s.scope.names=FM)
  (hX:as.Nodup) (n3:cc=as.filter λa=>ne (dH a)) (ar:as.length<=20) (kz:∀a∈as,(dH a).length<=20/\∀x∈dH a,PyData.strOk x=true) (eo:PyData.strOk c=true) (ms:eJ.length<=900)
  (C:aw Q U ai as ak s {L:=(O,.lst (eJ.map .str))::eF as dH,az:=dl [("sequences",.list (cc.map bT)),("candidate",.str c)],bO:=dl [("result",.ref O)]} o)
  (h:∀y,aw Q U ai as ak s {L:=(O,.lst ((eJ++[c]).map .str))::eF as (λa=>strip c (dH a)),az:=dl [("sequences",.list (cc.map bT))],bO:=dl [("result",.ref O)]} y->G .next y):bl B A D LG s G M o:=by
 have bj:D.handled=Option.none:=R.h
 refine fF C (c:=false) (bL.cmp (eP:=[]) C.aI.base (H.name C.aI rfl) H.none cH.EP) λaj bc=>b8 ?_
 refine vm (bz:=[]) (bY:=eF as dH) bc rfl rfl (H.name bc.aI rfl) (by rw[bD];exact aK ‹_› (by decide)) λaB aQ=>?_
 have aQ:=aQ.norm ((O,.lst ((eJ++[c]).map .str))::eF as dH) [("sequences",.list (cc.map bT)),("candidate",.str c)] [("result",.ref O)] (by refine m d3 ?_;rfl) ⟨rfl,rfl,trivial⟩ ⟨rfl,trivial⟩
 have SV:cc.Nodup:=by refine m n3 ?_;exact hX.filter _
 have qF:∀a∈cc,a∈as/\ne (dH a)=true:=λa aF=>by rw[n3] at aF;exact eY.mp aF
 refine mY aQ (H.name aQ.aI rfl) (.list _) (.inl (a8 al rfl)) bj
  (λi K=>K={L:=(O,.lst ((eJ++[c]).map .str))::eF as (λa=>if a∈cc.take i then strip c (dH a) else dH a),az:=dl [("sequences",.list (cc.map bT)),("candidate",.str c)],bO:=dl [("result",.ref O)]}) (by simp) ?_ ?_
 ·intro i eC K ae v ax cD jb fR aH d8 bh
  subst d8
  have e6:(cc.map bT)[i]?=some eC:=aH
  rw[fm] at e6
  obtain⟨a,aF,rfl⟩:=ka.mp e6
  have dF:=fc aF
  obtain⟨qG,cE⟩:=qF a dF
  have lK:cc.take (i+1)=cc.take i++[a]:=by refine m kf (m aF ?_);rfl
  have SW:a∉cc.take i:=λq=>by
   have bU:=(gL.mp aF).1
   have Cr:=(gL.mp aF).2
   obtain⟨j,bv,qr⟩:=uV.mp q
   have WO:j < i:=by exact cz bv (um _ _)
   have:cc[j]=cc[i]:=by exact m qr (m Cr rfl)
   exact absurd ((List.getElem_inj SV).mp this) (by exact kG ‹_›)
  generalize H3:(λb=>if b∈cc.take i then strip c (dH b) else dH b)=qH at bh
  have Cs:qH a=dH a:=by refine a9 H3 ?_;simp[SW]
  obtain⟨x,ag,iL⟩:cp λx ag=>dH a=x::ag:=by
   cases e:dH a with
   |nil=>rw[e] at cE;cases cE
   |cons x ag=>exact⟨x,ag,rfl⟩
  have SX:(λb=>if b∈cc.take (i+1) then strip c (dH b) else dH b)=λb=>if b=a then strip c (dH a) else qH b:=by
   funext b
   refine m lK (a9 H3 ?_)
   by_cases aA:b=a
   ·subst aA;simp
   ·simp[aA]
  have yN:PyData.strOk x=true:=(kz a qG).2 x (by refine m iL ?_;exact .head _)
  obtain⟨bz,bY,bS,bV⟩:=Ma (dH:=qH) qG hX (strip c (dH a))
  have Ct:(a,Ent.lst ((x::ag).map .str))∈eF as qH:=bZ.mpr ⟨a,qG,by exact m Cs (m iL rfl)⟩
  have nn:=bh.AT (x:="seq") (O:=a) (aM:=(x::ag).map .str) rfl (.tail _ (.tail _ Ct))
  have H4:(x::ag).length<=20:=by refine a9 iL ?_;exact(kz a qG).1
  refine fF bh (c:=decide (x=c)) (bL.cmp (Y:=[]) (eP:=[]) nn.base (H.sub (ag:=(x::ag).map .str) (i:=0) (d:=.str x) nn (H.name nn rfl) H.int (by simp;exact Int.zero_le_ofNat (ag.length+1)) ⟨by decide,by rw[bD];exact cz ‹_› (by decide)⟩ rfl) (H.name nn rfl) (cH.eq R (gp yN) (gp eo) (by simp only[PyData.eqv];rw[nB];simp))) λb2 be=>?_
  have fin:∀y,aw Q U ai as ak s {L:=(ae,.own (bk v (.list (cc.map bT)) (i+1)))::(O,.lst ((eJ++[c]).map .str))::eF as (λb=>if b=a then strip c (dH a) else qH b),R:=[(v,.list (cc.map bT))],az:=dl [("sequences",.list (cc.map bT)),("candidate",.str c)],bO:=dl [("result",.ref O)]} y->jb .next y:=λy C=>by
   refine fR _ _ ⟨_,rfl,?_⟩
   refine m SX ?_
   exact C
  by_cases I:x=c
  ·refine m (hz I) ?_
   have wg:strip c (dH a)=ag:=by refine m iL ?_;unfold strip;refine m (b3 (by simp[I])) ?_;rfl
   rw[wg] at bV fin
   refine JY (d:=.str x) (aM:=ag.map .str) (bz:=(ae,.own (bk v (.list (cc.map bT)) (i+1)))::(O,.lst ((eJ++[c]).map .str))::bz) (bY:=bY) be rfl (by show(ae,_)::(O,_)::eF as qH=_;refine m bS (m Cs (m iL ?_));rfl) (by rw[bD];simp at H4;exact aK ‹_› (by decide)) λy a4=>b8 (b8 (fin y ?_))
   refine m bV ?_
   exact a4.e3 _ [(v,.list (cc.map bT))] [("sequences",.list (cc.map bT)),("candidate",.str c)] [("result",.ref O)] rfl ⟨.head _,trivial⟩ ⟨rfl,rfl,trivial⟩ ⟨rfl,trivial⟩
  ·refine m (jT I) ?_
   have wg:strip c (dH a)=dH a:=by refine m iL ?_;unfold strip;exact m (bI (by simp[I])) rfl
   have SY:(λb=>if b=a then strip c (dH a) else qH b)=qH:=by
    funext b
    by_cases aA:b=a
    ·subst aA;exact m (b3 rfl) (m wg (m Cs rfl))
    ·exact m (bI aA) rfl
   rw[SY] at fin
   refine b8 (b8 (fin b2 ?_))
   exact be.e3 _ [(v,.list (cc.map bT))] [("sequences",.list (cc.map bT)),("candidate",.str c)] [("result",.ref O)] rfl ⟨.head _,trivial⟩ ⟨rfl,rfl,trivial⟩ ⟨rfl,trivial⟩
 ·intro K ax cD d8 bh
  subst d8
  have e:(items (.list (cc.map bT))).length=cc.length:=by show(cc.map bT).length=_;rw[bD]
  rw[e,jN] at bh
  have aV:eF as (λa=>if a∈cc then strip c (dH a) else dH a)=eF as (λa=>strip c (dH a)):=by
   unfold eF
   refine gr λa aF=>?_
   dsimp only
   by_cases q:a∈cc
   ·exact m (b3 q) rfl
   ·refine m (bI q) ?_
    have:ne (dH a)=false:=by
     cases bV:ne (dH a) with
     |false=>rfl
     |true=>exact absurd (by refine m n3 ?_;exact eY.mpr ⟨aF,bV⟩) q
    have hp:dH a=[]:=by
     cases gR:dH a with
     |nil=>rfl
     |cons x ag=>rw[gR] at this;cases this
    refine m hp ?_;rfl
  refine b8 (b8 (h ax ?_))
  have be:=bh.norm ((O,.lst ((eJ++[c]).map .str))::eF as (λa=>if a∈cc then strip c (dH a) else dH a)) [("sequences",.list (cc.map bT))] [("result",.ref O)] rfl ⟨rfl,trivial⟩ ⟨rfl,trivial⟩
  rwa [aV] at be
noncomputable abbrev P1 (Q U:Str->Option Value) (as ai:List Addr) (o:Shared) (s:Env) (out:List Str) (mu:Nat) (O:Addr) (ab:Nat) (y:Shared):Prop:=om λ(f:Nat) (cA:Addr->List Str) (pd:List Addr) (eJ:List Str)=>z3 (ab=f) (mc f (as.map cA) eJ=some out) (pd.Sublist as) (pd.filter (λa=>ne (cA a))=as.filter (λa=>ne (cA a))) (∀a∈as,(cA a).length<=20/\∀x∈cA a,PyData.strOk x=true) (eJ.length+f<=mu) (aw Q U ai as o s {L:=(O,.lst (eJ.map .str))::eF as cA,az:=dl [("sequences",.list (pd.map bT))],bO:=dl [("result",.ref O)]} y)
noncomputable abbrev Nr (as:List Addr) (cA:Addr->List Str) (cc:List Addr) (eJ:List Str) (O:Addr) (i:Nat) (K:bd):Prop:=K={L:=(O,.lst (eJ.map .str))::eF as cA,az:=dl [("sequences",.list (cc.map bT))],bO:=dl [("result",.ref O)]}/\∀j,j < i->∀a,cc[j]?=some a->mS (cc.map cA) (cA a)=false
noncomputable abbrev NP (as:List Addr) (cA:Addr->List Str) (cc:List Addr) (eJ:List Str) (O ae:Addr) (v:Value) (i:Nat) (x:Str) (ab:Nat) (K:bd):Prop:=K={L:=(ae,.own (bk v (.list (cc.map bT)) (i+1)))::(O,.lst (eJ.map .str))::eF as cA,R:=[(v,.list (cc.map bT))],az:=dl [("sequences",.list (cc.map bT)),("candidate",.str x)],bO:=dl [("result",.ref O)]}/\∀q,q < ab->∀b,cc[q]?=some b->x∉(cA b).tail
theorem Pj (R:b0 (k+1) D) {as:List Addr} {out:List Str} {mu:Nat} {Cu:Value} (C:Base Q U o.heap) (hm:mc mu (as.map dH) []=some out) (Cv:mu<=900) (hX:as.Nodup) (ar:as.length<=20) (yO:∀a∈as,(dH a).length<=20) (eo:∀a∈as,∀x∈dH a,PyData.strOk x=true)
  (n2:∀a∈as,247<=a) (fX:∀E∈as++ai,E < o.heap.objs.size) (WP:∀a∈as,a∉ai) (a1:∀a∈as,cp λJ n=>IsL o.heap a J n/\bR (as++ai) o.heap J.toList ((dH a).map .str)) (we:aO (as++ai) o.heap Cu (.list (as.map bT))):
  codeAny (model B A) D (.call (.ref 78) ⟨[Cu],[]⟩) (λr y=>∃v,ce (r=.ok (.ret v)) (es as o y) (aO ai y.heap v (bE out))) o:=by
 refine oF λG dt=>?_
 have Cw:(eF as dH).map (·.1)=as:=by unfold eF;refine m c6 ?_;simp[Function.comp_def]
 have t3:({L:=eF as dH,az:=dl [("sequences",.list (as.map bT))]}:bd).Y ai=as++ai:=by unfold bd.Y bd.as;exact m Cw rfl
 refine oi (Z:=as) (ai:=ai) (K:={L:=eF as dH,az:=dl [("sequences",.list (as.map bT))]}) FM ["sequences"] R.room C n2 (by refine m t3 ?_;exact fX) (λp q=>(b9 q).elim) (λp af=>?_) (by unfold bd.as;refine m Cw ?_;exact hX) (λa aF=>by unfold bd.as at aF;rw[Cw] at aF;exact aF)
  (λx d e=>?_) (λx v e=>by cases e) C.q1 rfl rfl rfl rfl (λbs cd=>rfl) rfl (by decide) (by decide) λaj s al av hJ bc=>?_
 ·obtain⟨a,aF,rfl⟩:=bZ.mp af
  refine m t3 ?_
  exact a1 a aF
 ·have hm:=gq e
  rw[cn] at hm
  obtain⟨rfl,rfl⟩:=gv hm
  exact⟨Cu,.head _,by refine m t3 ?_;exact we⟩
 have c9:=R.deeper s
 have bj:(D.deeper s).handled=Option.none:=c9.h
 refine oI bc (jr.list bc.aI bK.nil) (.inl (a8 al rfl)) λO aB cW aQ=>?_
 have aQ:=aQ.norm ((O,.lst [])::eF as dH) [("sequences",.list (as.map bT))] [("result",.ref O)] rfl ⟨rfl,trivial⟩ ⟨rfl,trivial⟩
 refine zF (P1 Q U as ai o s out mu O) mu ⟨mu,dH,as,[],rfl,hm,List.Sublist.refl _,rfl,λa aF=>⟨yO a aF,eo a aF⟩,by simp,aQ⟩ λab ax cD gh=>⟨true,bL.val (Y:=[]) H.bool iW.bool,λb2 c0=>?_⟩
 obtain⟨f,cA,pd,eJ,rfl,fL,gP,S0,kz,cI,bh⟩:=gh
 have be:=bh.step c0
 simp only[fv]
 have g5:=be.aI
 have S1:∀a∈pd,a∈as:=λa aF=>gP.subset aF
 have place:∀(a:Addr),a∈as->∀y,an b2 y->cp λJ n=>ce (IsL y.heap a J n) (J.size<=1000) ((!J.isEmpty)=ne (cA a)):=λa aF y dr=>by
  obtain⟨J,n,l,r⟩:=(be.step dr).iZ (O:=a) (aM:=(cA a).map .str) (.tail _ (d9 (f:=λa=>(a,Ent.lst ((cA a).map PyData.str))) aF))
  have a0:=r.length
  rw[bD,lj] at a0
  refine⟨J,n,l,by have:=(kz a aF).1;exact a0▸c2 this,?_⟩
  unfold ne
  cases aX:cA a with
  |nil=>rw[aX] at a0;simp at a0;simp[a0]
  |cons E cP=>
   rw[aX] at a0;simp at a0
   have:J≠#[]:=by rintro rfl;simp at a0
   simp[this]
 refine xe be (h5 (λx=>[("s",x)]) (D4 λa=>ne (cA a)) id g5 bj al rfl rfl (by refine m av ?_;rfl) (H.name g5 rfl) (.list _) (by have:=gP.length_le;show(pd.map bT).length<=1000;rw[bD];exact c2 (aK this ar)) (by intro _;rfl)
  (λaY bG x I=>fp.name (.inl (a8 bG.names rfl))) (λx I q aS=>by refine m (cn.mp aS) ?_;rfl) (λaY bG x I eP y dr bf=>?_)) (.inl (a8 al rfl)) (λcm bJ=>?_) (ri be.aI.fn (a8 al rfl) rfl rfl)
 ·obtain⟨a,aF,rfl⟩:=bZ.mp I
  refine⟨fk.one (bL.place bf rfl (λcs x7=>place a (S1 a aF) cs (dr.trans x7))),λ_=>H.name bf rfl⟩
 have S2:(((items (.list (pd.map bT))).filter (D4 λa=>ne (cA a))).map id)=(as.filter λa=>ne (cA a)).map bT:=by
  refine a9 S0 (m (oC _) (m (show items (.list (pd.map bT))=pd.map bT from rfl) (m nC ?_)))
  rfl
 have bJ:=bJ.norm ((O,.lst (eJ.map .str))::eF as cA) [("sequences",.list ((as.filter λa=>ne (cA a)).map bT))] [("result",.ref O)] rfl ⟨by refine a9 S2 ?_;rfl,trivial⟩ ⟨rfl,trivial⟩
 generalize n3:(as.filter λa=>ne (cA a))=cc at bJ
 have S3:(as.map cA).filter ne=cc.map cA:=by refine m nC (a9 n3 ?_);rfl
 have WQ:cc.length<=20:=by refine a9 n3 ?_;exact aK (lh _ _) ar
 have Cx:∀a∈cc,a∈as/\ne (cA a)=true:=λa aF=>by rw[<-n3] at aF;exact eY.mp aF
 cases ab with
 |zero=>cases fL
 |succ f=>
 unfold mc at fL
 rw[S3] at fL
 refine fF bJ (c:=!(!cc.isEmpty)) (bL.not (bL.val (H.name bJ.aI rfl) (iW.list (ag:=cc.map bT) (b:=!cc.isEmpty) (by rw[bD];exact aK ‹_› (by decide)) (by cases cc<;>rfl)))) λds b6=>?_
 refine m (ps _) ?_
 cases H5:cc.isEmpty with
 |true=>
  have Cy:eJ=out:=by
   have:(cc.map cA).isEmpty=true:=by cases cc with|nil=>rfl|cons a l=>cases H5
   rw[b3 this] at fL
   exact m4 fL
  have S4:O∉ai:=λq=>cW O (ez _ q) rfl
  have jv:=b6.freeze (a:=O) (L:=eF as cA) rfl S4
  have c1:=(b6.drop (L:=eF as cA) rfl).uA (x:="result") (b6.dP "result" _ rfl) jv
  refine hv c1 (H.name c1.aI rfl) λv gS cS S5=>dt _ _ ⟨v,rfl,cS.ex,?_⟩
  refine a9 Cy ?_
  exact S5.weak λb q=>ez _ q
 |false=>
  have cE:(cc.map cA).isEmpty=false:=by cases cc with|nil=>cases H5|cons a l=>rfl
  rw[bI (by refine m cE ?_;decide)] at fL
  refine b8 ?_
  cases hT:(cc.map cA).find? (mS (cc.map cA)) with
  |none=>rw[hT] at fL;cases fL
  |some r=>
  rw[hT] at fL
  have fL:mc f ((as.map cA).map (strip (r.headD ""))) (eJ++[r.headD ""])=some out:=fL
  have S6:=rL hT
  have H6:=tj hT
  obtain⟨Cz,H7,rfl⟩:=bZ.mp S6
  obtain⟨WR,WS⟩:=Cx Cz H7
  have b6:=b6.norm ((O,.lst (eJ.map .str))::eF as cA) [("sequences",.list (cc.map bT))] [("result",.ref O)] rfl ⟨rfl,trivial⟩ ⟨rfl,trivial⟩
  have WT:∀a∈as,cA a≠[]->PyData.strOk ((cA a).headD "")=true:=λa aF au=>by
   cases e:cA a with
   |nil=>exact absurd e au
   |cons x ag=>exact(kz a aF).2 x (by refine m e ?_;exact .head _)
  refine mY b6 (H.name b6.aI rfl) (.list _) (.inl (a8 al rfl)) bj
   (Nr as cA cc eJ O) ⟨rfl,λj bv=>by simp_all⟩ ?_ ?_
  ·intro i eC K ae v fK S7 WU H8 aH d8 c1
   obtain⟨rfl,H9⟩:=d8
   have e6:(cc.map bT)[i]?=some eC:=aH
   rw[fm] at e6
   obtain⟨a,aF,rfl⟩:=ka.mp e6
   have dF:=fc aF
   obtain⟨qG,Ia⟩:=Cx a dF
   obtain⟨x,ag,iL⟩:cp λx ag=>cA a=x::ag:=by
    cases e:cA a with
    |nil=>rw[e] at Ia;cases Ia
    |cons x ag=>exact⟨x,ag,rfl⟩
   have yN:PyData.strOk x=true:=(kz a qG).2 x (by refine m iL ?_;exact .head _)
   have Ct:(a,Ent.lst ((x::ag).map .str))∈eF as cA:=bZ.mpr ⟨a,qG,by exact m iL rfl⟩
   have nn:=c1.AT (x:="s1") (O:=a) (aM:=(x::ag).map .str) rfl (.tail _ (.tail _ Ct))
   have H4:(x::ag).length<=20:=by refine a9 iL ?_;exact(kz a qG).1
   refine gA c1 (d:=.str x) (H.flatten (H.sub (ag:=(x::ag).map .str) (i:=0) (d:=.str x) nn (H.name nn rfl) H.int (by simp;exact Int.le_add_one (Int.ofNat_nonneg _)) ⟨by decide,by rw[bD];exact cz ‹_› (by decide)⟩ rfl) rfl) (.inl (a8 al rfl)) λgS cS=>?_
   have cS:=cS.e3 ((ae,.own (bk v (.list (cc.map bT)) (i+1)))::(O,.lst (eJ.map .str))::eF as cA) [(v,.list (cc.map bT))] [("sequences",.list (cc.map bT)),("candidate",.str x)] [("result",.ref O)] rfl ⟨.head _,trivial⟩ ⟨rfl,rfl,trivial⟩ ⟨rfl,trivial⟩
   refine mY cS (H.name cS.aI rfl) (.list _) (.inl (a8 al rfl)) bj
    (NP as cA cc eJ O ae v i x) ⟨rfl,λq aS=>by simp_all⟩ ?_ ?_
   ·intro ab S8 K ct gg gG S9 WV Ib Ta d8 cT
    obtain⟨rfl,Tb⟩:=d8
    have Ic:(cc.map bT)[ab]?=some S8:=Ta
    rw[fm] at Ic
    obtain⟨b,aA,rfl⟩:=ka.mp Ic
    have Ie:=fc aA
    obtain⟨CA,WW⟩:=Cx b Ie
    have Tc:(b,Ent.lst ((cA b).map .str))∈eF as cA:=bZ.mpr ⟨b,CA,rfl⟩
    have yP:=cT.AT (x:="s2") (O:=b) (aM:=(cA b).map .str) rfl (.tail _ (.tail _ (.tail _ Tc)))
    have nh:iz ((cA b).map PyData.str) (some 1) none none=((cA b).tail).map .str:=by
     rewrite[ES];refine m (xr _ _ _) ?_
     congr 1
     cases e:cA b with
     |nil=>rfl
     |cons E cP=>
      show(List.drop (kms_lo (some 1) (cP.length+1)) (E::cP)).take _=cP
      have bS:kms_lo (some 1) (cP.length+1)=1:=by simp[kms_lo]
      simp only[bS,hE,List.drop_one,List.tail_cons,kms_hi]
      exact wO (by exact cG _)
    have Td:∀E∈(cA b).tail,PyData.strOk E=true:=λE aJ=>(kz b CA).2 E (List.mem_of_mem_tail aJ)
    refine fF cT (c:=decide (x∈(cA b).tail)) (bL.cmp (Y:=[]) (eP:=[]) yP.base (H.name yP rfl) (H.slice yP (H.name yP rfl) (hA.some (Y:=[]) H.int) hA.none hA.none (by decide) (by rw[bD];have:=(kz b CA).1;exact aK ‹_› (by decide))) (by refine m nh ?_;exact cH.in_list c9 (gp yN) (kc Td) (u7 _ _))) λlO e8=>?_
    by_cases fY:x∈(cA b).tail
    ·refine m (hz fY) ?_
     refine gA e8 H.none (.inl (a8 al rfl)) λsj ku=>u6 (Ib _ _ (b8 (H8 _ _ ⟨{L:=(O,.lst (eJ.map .str))::eF as cA,az:=dl [("sequences",.list (cc.map bT))],bO:=dl [("result",.ref O)]},⟨rfl,λq aS ju pe=>?_⟩,?_⟩)))
     ·by_cases Te:q < i
      ·exact H9 q Te ju pe
      ·have CB:q=i:=by exact mQ (i0 ‹_›) (eZ.mp ‹_›)
       subst CB
       rw[aF] at pe
       have Tf:=m4 pe
       subst Tf
       unfold mS
       rw[List.all_eq_false]
       refine⟨cA b,d9 Ie,?_⟩
       refine m iL ?_
       simpa using fY
     ·have jd:=ku.drop (L:=(ae,.own (bk v (.list (cc.map bT)) (i+1)))::(O,.lst (eJ.map .str))::eF as cA) rfl
      exact jd.e3 ((ae,.own (bk v (.list (cc.map bT)) (i+1)))::(O,.lst (eJ.map .str))::eF as cA) [(v,.list (cc.map bT))] [("sequences",.list (cc.map bT))] [("result",.ref O)] rfl ⟨.tail _ (.head _),trivial⟩ ⟨rfl,trivial⟩ ⟨rfl,trivial⟩
    ·refine m (jT fY) ?_
     refine b8 (b8 (Ib _ _ ⟨{L:=(ae,.own (bk v (.list (cc.map bT)) (i+1)))::(O,.lst (eJ.map .str))::eF as cA,R:=[(v,.list (cc.map bT))],az:=dl [("sequences",.list (cc.map bT)),("candidate",.str x)],bO:=dl [("result",.ref O)]},⟨rfl,λq aS qc oY=>?_⟩,?_⟩))
     ·by_cases Tg:q < ab
      ·exact Tb q Tg qc oY
      ·have CB:q=ab:=by exact mQ (i0 ‹_›) (eZ.mp ‹_›)
       subst CB
       rw[aA] at oY
       have Th:=m4 oY
       subst Th
       exact fY
     ·exact e8.e3 ((ct,.own (bk gg (.list (cc.map bT)) (ab+1)))::(ae,.own (bk v (.list (cc.map bT)) (i+1)))::(O,.lst (eJ.map .str))::eF as cA) [(gg,.list (cc.map bT)),(v,.list (cc.map bT))] [("sequences",.list (cc.map bT)),("candidate",.str x)] [("result",.ref O)] rfl ⟨.head _,.tail _ (.head _),trivial⟩ ⟨rfl,rfl,trivial⟩ ⟨rfl,trivial⟩
   ·intro K gG S9 d8 cT
    obtain⟨rfl,Ti⟩:=d8
    have Bs:(items (.list (cc.map bT))).length=cc.length:=by show(cc.map bT).length=_;rw[bD]
    have Tj:mS (cc.map cA) (cA a)=true:=by
     unfold mS
     rw[d1]
     intro lJ CC
     obtain⟨b,aA,rfl⟩:=bZ.mp CC
     obtain⟨q,aS,eq⟩:=List.mem_iff_getElem.mp aA
     have:=Ti q (by refine m Bs ?_;exact aS) b (by exact m (d4 aS) (m eq rfl))
     refine m iL ?_
     simpa using this
    have Ig:(cc.map cA).find? (mS (cc.map cA))=some (cA a):=by
     rw[ve]
     obtain⟨bU,Cr⟩:=gL.mp aF
     refine⟨Tj,i,by rw[bD];exact bU,by exact m (my _) (m Cr rfl),λj bv=>?_⟩
     have CD:j < cc.length:=by exact ff ‹_› ‹_›
     have:=H9 j bv cc[j] (d4 CD)
     refine m (my _) (m this ?_);rfl
    rw[hT] at Ig
    have Tk:=m4 Ig
    have Tl:(cA Cz).headD ""=x:=by refine m Tk (m iL ?_);rfl
    rw[Tl] at fL
    have e8:=(cT.drop (L:=(O,.lst (eJ.map .str))::eF as cA) rfl).norm ((O,.lst (eJ.map .str))::eF as cA) [("sequences",.list (cc.map bT)),("candidate",.str x)] [("result",.ref O)] rfl ⟨rfl,rfl,trivial⟩ ⟨rfl,trivial⟩
    refine u6 (H8 _ _ (NB c9 al hX n3.symm ar kz yN ?_ e8 λy a4=>?_))
    ·exact aK (aK (jS _ _) cI) Cv
    ·have wg:∀a,ne (strip x (cA a))=true->ne (cA a)=true:=λa h=>by
      cases e:cA a with
      |nil=>rw[e] at h;exact h
      |cons E cP=>rfl
     refine⟨f,hb _,f,λa=>strip x (cA a),cc,eJ++[x],rfl,?_,?_,?_,λa aF=>?_,?_,a4⟩
     ·rw[c6] at fL;exact fL
     ·refine a9 n3 ?_;exact mU
     ·refine a9 n3 (m List.filter_filter ?_)
      refine tu λa _=>?_
      cases e:ne (strip x (cA a)) with
      |false=>rfl
      |true=>refine m (wg a e) ?_;rfl
     ·have Tm:∀E∈strip x (cA a),E∈cA a:=λE aJ=>by
       unfold strip at aJ
       split at aJ
       ·exact List.mem_of_mem_tail aJ
       ·exact aJ
      refine⟨?_,λE aJ=>(kz a aF).2 E (Tm E aJ)⟩
      have:=(kz a aF).1
      show(strip x (cA a)).length<=20
      unfold strip
      split
      ·refine m List.length_tail ?_;exact aK (Nat.sub_le (cA a).length 1) this
      ·exact this
     ·refine m ib (m List.length_singleton ?_);exact aK (di (pP _ 1 _)) cI
  ·intro K fK S7 d8 c1
   obtain⟨rfl,vD⟩:=d8
   obtain⟨j,bv,qr⟩:=List.mem_iff_getElem.mp H7
   have:=vD j (by show j < (cc.map bT).length;rw[bD];exact bv) Cz (by exact m (d4 bv) (m qr rfl))
   rw[this] at H6;cases H6
end
section
variable (B:Program) (A:World)
noncomputable def kP (t:cC) (c3:Obj):List (Addr×Ent):=(t.T,.own (· =b7 194 t.cr []))::(t.cr,.own (fo t))::(t.N,.own (· =c3))::(f5 t.bM++t.ns.flatMap dN)
noncomputable def iX (Tn:List Str) (w:Obj):Prop:=∃cx:List (Str×Value),cx.map (·.1)=Tn/\dv B A cx w
noncomputable def pK (t:cC) (c3:Obj) (a b c d:Addr) (bC:List fs) (S:List Str):List (Addr×Ent):=
 (a,.lst (bC.map λf=>.str f.nm))::(b,.lst (bC.map λf=>bT f.W))::(c,.own (gy B A S))::(d,.own (iX B A (bC.map fs.nm)))::(bC.flatMap nK++kP t c3)
end
noncomputable def kQ (t:cC) (a b c d:Addr):List (Str×Value):=[("n2i",.ref t.N),("stack",.ref a),("itstack",.ref b),("seen",.ref c),("node2stacki",.ref d)]
noncomputable def AE:List (Str×NameKind):=[("self",.local),("n2i",.local),("stack",.local),("itstack",.local),("seen",.local),("node2stacki",.local),("node",.local),("set",.globalImplicit),("iter",.globalImplicit),("len",.globalImplicit),("StopIteration",.globalImplicit)]
structure Inv (t:cC) (br:Str->Nat) (bC:List fs) (S:List Str):Prop where
 fG:bC.Pairwise λf g=>br f.nm < br g.nm
 mem:∀f∈bC,ce (f.nm∈S) (f.n∈t.ns) (f.p<=f.n.ah.succ.length)
 ah:S.Nodup
 sub:∀x∈S,x∈t.ns.map (·.ah.nm)
theorem Inv.pop {t:cC} {br:Str->Nat} {f:fs} {S:List Str} (h:Inv t br (bC++[f]) S):Inv t br bC S:=
 ⟨(rv.mp h.fG).1,λg bW=>h.mem g (e2 _ bW),h.ah,h.sub⟩
theorem Inv.fresh {t:cC} {br:Str->Nat} {f:fs} {S:List Str} (h:Inv t br (bC++[f]) S):f.nm∉bC.map fs.nm:=λq=>by
 obtain⟨g,bW,e⟩:=bZ.mp q
 have:=(rv.mp h.fG).2.2 g bW f (by simp)
 rw[e] at this
 exact ey _ this
theorem Inv.next {t:cC} {br:Str->Nat} {f:fs} {S:List Str} (h:Inv t br (bC++[f]) S) (af:f.p < f.n.ah.succ.length):Inv t br (bC++[{f with p:=f.p+1}]) S:=by
 refine⟨?_,λg bW=>?_,h.ah,h.sub⟩
 ·have:=rv.mp h.fG
  refine rv.mpr ⟨this.1,rg _ _,λa aF b aA=>?_⟩
  have:=this.2.2 a aF f (by simp)
  refine m (cn.mp aA) ?_
  exact this
 ·rcases df.mp bW with q|q
  ·exact h.mem g (e2 _ q)
  ·refine m (cn.mp q) ?_
   have:=h.mem f (by simp)
   exact⟨this.1,this.2,af⟩
theorem Inv.push {t:cC} {br:Str->Nat} {S:List Str} (h:Inv t br bC S) {n:co} (au:n∈t.ns) (bn:n.ah.nm∉S) (aV:∀f∈bC,br f.nm < br n.ah.nm) (W it:Addr):Inv t br (bC++[⟨n,W,it,0⟩]) (S++[n.ah.nm]):=by
 refine⟨rv.mpr ⟨h.fG,rg _ _,λa aF b aA=>?_⟩,λg bW=>?_,?_,λx I=>?_⟩
 ·refine m (cn.mp aA) ?_;exact aV a aF
 ·rcases df.mp bW with q|q
  ·have:=h.mem g q
   exact⟨e2 _ this.1,this.2,this.3⟩
  ·refine m (cn.mp q) ?_
   exact⟨by simp[fs.nm],au,lU _⟩
 ·rw[ia]
  exact⟨h.ah,by simp,λa aF b aA=>by refine m (cn.mp aA) ?_;rintro rfl;exact bn aF⟩
 ·rcases df.mp I with q|q
  ·exact h.sub x q
  ·refine m (cn.mp q) ?_;exact d9 (f:=(·.ah.nm)) au
noncomputable def LS:Stmt:=(dV (hu 8)).getD 5 (.Pass ⟨0,0,0,0⟩)
noncomputable def E6:Stmt:=(dV LS).getD 1 (.Pass ⟨0,0,0,0⟩)
noncomputable def LI:Stmt:=(dV E6).getD 1 (.Pass ⟨0,0,0,0⟩)
section
variable {Y:List Addr} {k:Nat} {t:cC} {br:Str->Nat} {b d ae:Addr} {ep:Ent}
noncomputable def jh (B:Program) (A:World) (t:cC) (c3:Obj) (a b c d ae:Addr) (ep:Ent) (bC:List fs) (S:List Str) (ld:List (Str×PyData)):bd:={L:=(ae,ep)::pK B A t c3 a b c d bC S,az:=dl ld,bO:=dl (kQ t a b c d)}
theorem aw.G4 {ba:List (Addr×Ent)} (C:aw Q U ai Z ak s K o) (a1:K.L=bz++(ba++bY)):aw Q U ai Z ak s {K with L:=bz++bY} o:=by
 refine C.sub (λp af=>?_) ?_ (λ_ q=>q) (λ_ _ q=>q) λ_ _ q=>q
 ·have af:p∈bz++bY:=af
  refine m a1 ?_
  rcases df.mp af with q|q
  ·exact e2 _ q
  ·exact ez _ (ez _ q)
 ·have ah:=C.ah
  unfold bd.as at ah
  rw[a1] at ah
  refine List.Sublist.nodup ?_ ah
  show((bz++bY).map (·.1)).Sublist ((bz++(ba++bY)).map (·.1))
  exact List.Sublist.map _ (List.Sublist.append (List.Sublist.refl _) (List.sublist_append_right _ _))
theorem uk {f:fs} {S:List Str} {ld:List (Str×PyData)}:(jh B A t c3 a b c d ae ep (bC++[f]) S ld).L=
  ((ae,ep)::(a,.lst ((bC++[f]).map λf=>.str f.nm))::(b,.lst ((bC++[f]).map λf=>bT f.W))::(c,.own (gy B A S))::(d,.own (iX B A ((bC++[f]).map fs.nm)))::(bC.flatMap nK++[(f.W,.own (· =gJ f.it))]))++(f.it,.own (bk (.ref f.n.S) (.list (f.n.ah.succ.map .str)) f.p))::kP t c3:=by
 show(ae,ep)::pK B A t c3 a b c d (bC++[f]) S=_
 unfold pK
 refine m tq ?_
 simp[nK]
theorem Eg {n:co} (au:n∈t.ns):(n.S,Ent.lst (n.ah.succ.map .str))∈kP t c3:=
 .tail _ (.tail _ (.tail _ (ez _ (uT.mpr ⟨n,au,.tail _ (.tail _ (.head _))⟩))))
theorem Ml {S:List Str} {ld:List (Str×PyData)} {p:Addr×Ent} (h:p∈kP t c3):p∈(jh B A t c3 a b c d ae ep bC S ld).L:=
 .tail _ (.tail _ (.tail _ (.tail _ (.tail _ (ez _ h)))))
noncomputable abbrev Ku (B:Program) (A:World) (Q U:Str->Option Value) (ai Z:List Addr) (ak:Shared) (s:Env) (t:cC) (l:List Env) (br:Str->Nat) (c3:Obj) (a b c d ae:Addr) (ep:Ent) (bC:List fs) (S:List Str) (ba:Nat) (ab:Nat) (y:Shared):Prop:=cp λbX jg=>uu (ab=jg.length) (ab<=bC.length) (el (du l) ak bX) (aw Q U ai Z bX s (jh B A t c3 a b c d ae ep jg S []) y) (Inv t br jg S) (un t.ns S+lf jg<=ba)
theorem Fk (e9:D.frames=some (s::l)) (bj:D.handled=Option.none) (bb:s.frame=some s.locals) (al:s.scope.names=AE) (F:ek l Z ak) (qI:∀n∈t.ns,∀x∈n.ah.succ,x∈t.ns.map (·.ah.nm)/\br n.ah.nm < br x)
  {S:List Str} (C:aw Q U ai Z ak s (jh B A t c3 a b c d ae ep bC S []) o) (aH:Inv t br bC S) (o7:bC.length<=900) {ba:Nat} (To:un t.ns S+lf bC<=ba)
  (yQ:∀bX jg v y,el (du l) ak bX->aw Q U ai Z bX s (jh B A t c3 a b c d ae ep jg S [("node",.str v)]) y->Inv t br jg S->v∈t.ns.map (·.ah.nm)->(∀f∈jg,br f.nm < br v)->un t.ns S+lf jg < ba->jg.length<=bC.length->G .next y)
  (yR:∀bX y,el (du l) ak bX->aw Q U ai Z bX s (jh B A t c3 a b c d ae ep [] S []) y->G .brk y):
  bl B A D [LI] s G M o:=by
 refine zF (Ku B A Q U ai Z ak s t l br c3 a b c d ae ep bC S ba) bC.length ⟨ak,bC,rfl,cG _,el.refl _ _,C,aH,To⟩ ?_
 rintro ab aj cD ⟨bX,Ih,rfl,i7,fC,bc,lD,CE⟩
 have pf:=F.up fC
 refine⟨_,bL.lst (O:=a) (aM:=Ih.map λf=>.str f.nm) bc rfl (.tail _ (.head _)) (by rw[bD];exact c2 (aK i7 o7)),λaB aE=>?_⟩
 have aQ:=bc.step aE
 rcases List.eq_nil_or_concat Ih with rfl|⟨fD,f,rfl⟩
 ·refine m (bI (by decide)) ?_
  exact u6 (yR bX aB fC aQ)
 rw[List.concat_eq_append] at *
 refine m (b3 (by simp)) ?_
 have Ii:=lD.mem f (by simp)
 have so:(fD++[f]).length=fD.length+1:=by simp
 refine F9 ⟨dA (kO ?_)⟩
 have Tp:bi B A D aB s (.Subscript (.Name "itstack" ⟨190,31,190,38⟩) (.UnaryOp .USub (.Constant (.int 1) 0 ⟨190,40,190,41⟩) ⟨190,39,190,41⟩) ⟨190,31,190,42⟩) (.ref f.W):=
  bi.Mt (O:=b) (aM:=fD.map λf=>bT f.W) aQ rfl (by
   have e:(fD.map λf=>bT f.W)++[bT f.W]=(fD++[f]).map λf=>bT f.W:=by simp
   refine m e ?_
   exact .tail _ (.tail _ (.head _))) (by rw[bD];exact aK (pz (aK (di so.symm) i7)) o7)
 have Tq:eval (.Call (.Subscript (.Name "itstack" ⟨190,31,190,38⟩) (.UnaryOp .USub (.Constant (.int 1) 0 ⟨190,40,190,41⟩) ⟨190,39,190,41⟩) ⟨190,31,190,42⟩) [] [] ⟨190,31,190,44⟩) s=(do
   let g <-eval (.Subscript (.Name "itstack" ⟨190,31,190,38⟩) (.UnaryOp .USub (.Constant (.int 1) 0 ⟨190,40,190,41⟩) ⟨190,39,190,41⟩) ⟨190,31,190,42⟩) s
   callWith ⟨190,31,190,44⟩ g [] [] []):=by with_unfolding_all rfl
 show wpAny (model B A) D (eval (.Call (.Subscript (.Name "itstack" ⟨190,31,190,38⟩) (.UnaryOp .USub (.Constant (.int 1) 0 ⟨190,40,190,41⟩) ⟨190,39,190,41⟩) ⟨190,31,190,42⟩) [] [] ⟨190,31,190,44⟩) s) _ _ aB
 refine m Tq ?_
 refine ay (Tp.ap aB _ _ (an.refl _) λax a7=>?_)
 have bh:=aQ.step a7
 obtain⟨WX,CF,rfl⟩:=bh.owned (a:=f.W) (p:=(· =gJ f.it)) (uk▸e2 _ (.tail _ (.tail _ (.tail _ (.tail _ (.tail _ (ez _ (.head _))))))))
 obtain⟨nu,k4,gd,fz⟩:=bh.led (f.it,.own (bk (.ref f.n.S) (.list (f.n.ah.succ.map .str)) f.p)) (uk▸ez _ (.head _))
 obtain⟨SN,ab,yM,we⟩:=bh.iZ (Ml (Eg Ii.2))
 obtain⟨WY,bS,Tr,Ts⟩:=id fz
 cases bS
 have hit:ax.heap.IsListIter f.it f.n.S f.p:=⟨nu,k4,Tr,Ts⟩
 have cI:=we.length
 rw[bD,lj] at cI
 refine Km CF (hg ?_)
 by_cases af:f.p < f.n.ah.succ.length
 ·obtain⟨u,iI,d7⟩:=we.get (i:=f.p) (d:=.str f.n.ah.succ[f.p]) (by refine m fm (m (d4 af) ?_);rfl)
  obtain⟨aD,rfl⟩:=d7.str_inv
  refine KH CF hit yM.isList (by refine a9 Array.getElem?_toList ?_;exact iI) λam nc aW=>?_
  obtain⟨yS,CG,yT,CH⟩:=nc
  have yU:bk (.ref f.n.S) (.list (f.n.ah.succ.map .str)) (f.p+1) yS:=⟨f.n.S,rfl,yT,CH⟩
  have be:=bh.iD (bt:=.own (bk (.ref f.n.S) (.list (f.n.ah.succ.map .str)) (f.p+1))) (aD:=ax.toks) uk aW ⟨yS,CG,yU.gY,yU⟩
  have be:aw Q U ai Z bX s (jh B A t c3 a b c d ae ep (fD++[{f with p:=f.p+1}]) S []) {ax with heap:=am}:=by
   have e:=uk (B:=B) (A:=A) (t:=t) (c3:=c3) (a:=a) (b:=b) (c:=c) (d:=d) (ae:=ae) (ep:=ep) (bC:=fD) (f:={f with p:=f.p+1}) (S:=S) (ld:=[])
   refine be.norm _ [] (kQ t a b c d) ?_ trivial ⟨rfl,rfl,rfl,rfl,rfl,trivial⟩
   show _=(jh B A t c3 a b c d ae ep (fD++[{f with p:=f.p+1}]) S []).L
   refine m e ?_
   simp[fs.nm]
  refine be.store (d:=.str f.n.ah.succ[f.p]) (.inl (a8 al rfl)) (.str _ aD) λcm bJ=>(u6 (b8 ?_)).out
  have I:=qI f.n Ii.2 _ (mP af)
  refine yQ bX (fD++[{f with p:=f.p+1}]) f.n.ah.succ[f.p] cm fC (bJ.norm _ [("node",.str f.n.ah.succ[f.p])] (kQ t a b c d) rfl ⟨rfl,trivial⟩ ⟨rfl,rfl,rfl,rfl,rfl,trivial⟩) (lD.next af) I.1 (λg bW=>?_) ?_ (by simp;simp_all)
  ·rcases df.mp bW with q|q
   ·exact ff ((rv.mp lD.fG).2.2 g q f (by simp)) I.2
   ·refine m (cn.mp q) ?_;exact I.2
  ·rw[zX] at CE ⊢
   show un t.ns S+(lf fD+(f.n.ah.succ.length - (f.p+1))) < ba
   exact cz (Nat.add_lt_add_left (Nat.add_lt_add_left (rr _ _ af) _) _) CE
 ·refine LM bj CF hit yM.isList (by rw[Array.getElem?_eq_none];simp_all) λca am e aW ⟨yS,WZ,CG,yT,CH⟩ x=>?_
  have be:=bh.iD (bt:=.own (λw=>w.cls=.type "list_iterator")) (aD:=ax.toks) uk aW ⟨yS,CG,(by unfold go;refine m CH (m yT ?_);rfl),yT⟩
  have be:aw Q U ai Z bX s {jh B A t c3 a b c d ae ep fD S [] with L:=(ae,ep)::(a,.lst ((fD.map λf=>.str f.nm)++[.str f.nm]))::(b,.lst ((fD.map λf=>bT f.W)++[bT f.W]))::(c,.own (gy B A S))::(d,.own (iX B A ((fD++[f]).map fs.nm)))::(fD.flatMap nK++kP t c3)} {ax with heap:=ca}:=by
   have bS:(jh B A t c3 a b c d ae ep (fD++[f]) S []).az=dl []:=rfl
   refine(be.G4 (bz:=(ae,ep)::(a,.lst ((fD++[f]).map λf=>.str f.nm))::(b,.lst ((fD++[f]).map λf=>bT f.W))::(c,.own (gy B A S))::(d,.own (iX B A ((fD++[f]).map fs.nm)))::fD.flatMap nK) (ba:=[(f.W,.own (· =gJ f.it)),(f.it,.own (λw=>w.cls=.type "list_iterator"))]) (bY:=kP t c3) (by simp)).norm _ [] (kQ t a b c d) ?_ trivial ⟨rfl,rfl,rfl,rfl,rfl,trivial⟩
   simp
  refine aw.Ld (X:="StopIteration") (T:="StopIteration") (nq:="StopIteration") be pf e9 bb x (a8 al rfl) (by exact jk (by kernel_rfl)) (by rw[jq];kernel_rfl) (by refine m (jq _ _) ?_;kernel_rfl) isSubtype_stop λcm Hh qi=>?_
  obtain⟨jE,t4,bJ⟩:=qi
  refine⟨dA (wpAny_Delete (wpAny_deleteEach_cons (delete_Subscript ((bJ.ev (x:="node2stacki") rfl).ap cm _ _ (an.refl _) λds eu=>?_))))⟩
  refine(bJ.step eu).pop (O:=a) (aM:=fD.map λf=>.str f.nm) (d:=.str f.nm) (bz:=[(ae,ep)]) ((bJ.step eu).ev (x:="stack") rfl) rfl (by rw[bD];exact c2 (aK (pz (aK (di so.symm) i7)) o7)) rfl λv fK c1 eX=>?_
  refine aO.fV ((eX [] fK.heap)) λW0=>?_
  obtain⟨dM,Tt,cx,yV,wh⟩:=c1.owned (a:=d) (p:=iX B A ((fD++[f]).map fs.nm)) (.tail _ (.tail _ (.tail _ (.tail _ (.head _)))))
  have t5:cx.length=fD.length+1:=by
   have:=iw List.length yV
   simpa using this
  have Ij:cx.map (·.1)=fD.map fs.nm++[f.nm]:=by refine m yV ?_;simp
  refine c1.Kc (O:=d) (n:=f.nm) (cx:=cx) (bz:=[(ae,ep),(a,.lst (fD.map λf=>.str f.nm)),(b,.lst ((fD.map λf=>bT f.W)++[bT f.W])),(c,.own (gy B A S))]) rfl dM Tt wh (by exact c2 (aK (di t5) (aK (aK (di so.symm) i7) o7))) (NM (by refine m Ij ?_;simp)) λgS cS=>wpAny_deleteEach_nil (bl.out ?_)
  have cS:=cS.loose (O:=d) (q:=iX B A (fD.map fs.nm)) (bz:=[(ae,ep),(a,.lst (fD.map λf=>.str f.nm)),(b,.lst ((fD.map λf=>bT f.W)++[bT f.W])),(c,.own (gy B A S))]) rfl λw aP=>⟨_,Kq Ij lD.fresh,aP⟩
  refine⟨dA (m2 (cS.pop (O:=b) (aM:=fD.map λf=>bT f.W) (d:=bT f.W) (bz:=[(ae,ep),(a,.lst (fD.map λf=>.str f.nm))]) (cS.ev (x:="itstack") rfl) rfl (by rw[bD];exact c2 (aK (pz (aK (di so.symm) i7)) o7)) rfl λu gG cT d7=>?_) cS.quiet (by rfl))⟩
  refine(b8 (b8 ⟨fD.length,by simp,jE,fD,rfl,by exact pz (aK (di so.symm) i7),fC.trans t4,?_,lD.pop,?_⟩)).out
  ·exact cT.norm _ [] (kQ t a b c d) rfl trivial ⟨rfl,rfl,rfl,rfl,rfl,trivial⟩
  ·rw[zX] at CE;simp_all
end
noncomputable def jL (ns:List co) (S:List Str):Nat:=(ns.filter λn=>decide (n.ah.nm∉S)).length
theorem DJ {S:List Str} {v:Str}:∀ns:List co,jL ns (S++[v])<=jL ns S
 |[]=>cG _
 |a::ns=>by
  have ih:=DJ (S:=S) (v:=v) ns
  unfold jL at ih ⊢
  refine m fH (m fH ?_)
  by_cases h:a.ah.nm∈S
  ·have am:a.ah.nm∈S++[v]:=e2 _ h
   simp only[h,am,nH,ig,fx,fd]
   exact ih
  ·by_cases am:a.ah.nm∈S++[v]
   ·simp only[h,am,nH,mE,ig,lp,fx,fd,fv,hE]
    exact ht ‹_›
   ·simp only[h,am,mE,lp,fv,hE]
    exact mN ‹_›
theorem GP {S:List Str} {v:Str} {n:co} (bn:v∉S) (au:n.ah.nm=v):∀ns:List co,n∈ns->jL ns (S++[v])+1<=jL ns S
 |a::ns,hm=>by
  rcases bP.mp hm with rfl|hm
  ·have ih:=DJ (S:=S) (v:=v) ns
   unfold jL at ih ⊢
   refine m fH (m fH ?_)
   have aX:n.ah.nm∉S:=by refine m au ?_;exact bn
   have a5:n.ah.nm∈S++[v]:=by refine m au ?_;simp
   simp only[aX,a5,nH,mE,ig,lp,fx,fd,fv,hE]
   exact mN ‹_›
  ·have ih:=GP bn au ns hm
   unfold jL at ih ⊢
   refine m fH (m fH ?_)
   by_cases h:a.ah.nm∈S
   ·have am:a.ah.nm∈S++[v]:=e2 _ h
    simp only[h,am,nH,ig,fx,fd]
    exact ih
   ·by_cases am:a.ah.nm∈S++[v]
    ·simp only[h,am,nH,mE,ig,lp,fx,fd,fv,hE]
     exact is ‹_›
    ·simp only[h,am,mE,lp,fv,hE]
     exact mN ‹_›
theorem O2 (ns:List co):jL ns []=ns.length:=by
 unfold jL
 rw[rP.mpr]
 intro a _;simp
section
variable {Y:List Addr} {k:Nat} {t:cC} {br:Str->Nat} {b d ae:Addr} {ep:Ent}
theorem Gr (h:G .cont o):bl B A D (.Continue ao::aZ) s G M o:=
 ⟨dA (show wpAny (model B A) D (standAt ao >>=λ_=>pure Flow.cont) _ _ _ from ay (gK (bx h)))⟩
noncomputable abbrev Pm (B:Program) (A:World) (Q U:Str->Option Value) (ai Z:List Addr) (ak:Shared) (s:Env) (t:cC) (l:List Env) (br:Str->Nat) (c3:Obj) (a b c d ae:Addr) (ep:Ent) (ab:Nat) (y:Shared):Prop:=om λbX bC v S=>F8 (ab=un t.ns S+lf bC) (el (du l) ak bX) (aw Q U ai Z bX s (jh B A t c3 a b c d ae ep bC S [("node",.str v)]) y) (Inv t br bC S) (v∈t.ns.map (·.ah.nm)) (∀f∈bC,br f.nm < br v) (S.length+jL t.ns S<=t.ns.length) (bC.length+jL t.ns S<=t.ns.length)
theorem Mk (e9:D.frames=some (s::l)) (bj:D.handled=Option.none) (bb:s.frame=some s.locals) (al:s.scope.names=AE) (F:ek l Z ak) (eK:dv B A (dC t.ns) c3) (eI:(t.ns.map (·.ah.nm)).Nodup) (qI:∀n∈t.ns,∀x∈n.ah.succ,x∈t.ns.map (·.ah.nm)/\br n.ah.nm < br x) (ar:t.ns.length<=800)
  {v:Str} {S:List Str} (C:aw Q U ai Z ak s (jh B A t c3 a b c d ae ep [] S [("node",.str v)]) o) (aH:Inv t br [] S) (bn:v∈t.ns.map (·.ah.nm)) (av:S.length+jL t.ns S<=t.ns.length)
  (yR:∀bX qJ y,el (du l) ak bX->aw Q U ai Z bX s (jh B A t c3 a b c d ae ep [] qJ []) y->Inv t br [] qJ->qJ.length+jL t.ns qJ<=t.ns.length->bl B A D aZ s G M y):
  bl B A D (E6::aZ) s G M o:=by
 refine zF (Pm B A Q U ai Z ak s t l br c3 a b c d ae ep)
  (un t.ns S+lf []) ⟨ak,[],v,S,rfl,el.refl _ _,C,aH,bn,(λf bb=>by cases bb),av,by simp only[rK];exact aK (ox (lU _) _) av⟩ ?_
 rintro ab aj cD ⟨bX,bC,v,S,rfl,fC,bc,lD,Tu,CI,yW,sp⟩
 have pf:=F.up fC
 refine⟨true,bL.val (H.bool (Y:=[])) iW.bool,λaB aE=>?_⟩
 refine m (b3 rfl) ?_
 have aQ:=bc.step aE
 refine fF aQ (c:=decide (v∈S)) (bL.inSet (O:=c) aQ (aQ.ev (x:="seen") rfl) (.tail _ (.tail _ (.tail _ (.head _)))) (H.name aQ.aI rfl)) λax bh=>?_
 by_cases t6:v∈S
 ·refine m (hz t6) ?_
  have Tv:(jh B A t c3 a b c d ae ep bC S [("node",.str v)]).L=[(ae,ep),(a,.lst (bC.map λf=>.str f.nm)),(b,.lst (bC.map λf=>bT f.W)),(c,.own (gy B A S))]++(d,.own (iX B A (bC.map fs.nm)))::(bC.flatMap nK++kP t c3):=rfl
  obtain⟨dM,⟨cx,aN,wh⟩,be⟩:=bh.pin Tv
  have be:=be.loose (O:=d) (q:=dv B A cx) (bz:=[(ae,ep),(a,.lst (bC.map λf=>.str f.nm)),(b,.lst (bC.map λf=>bT f.W)),(c,.own (gy B A S))]) rfl (λw e=>by refine m e ?_;exact wh)
  have CJ:(valueAt cx v).isSome=false:=L8 (by
   refine m aN ?_
   intro q
   obtain⟨f,bb,e⟩:=bZ.mp q
   have:=CI f bb
   rw[e] at this
   exact ey _ this)
  refine fF be (c:=(valueAt cx v).isSome) (bL.Nc (O:=d) (cx:=cx) be (be.ev (x:="node2stacki") rfl) (.tail _ (.tail _ (.tail _ (.tail _ (.head _))))) (H.name be.aI rfl)) λcm bJ=>?_
  refine m CJ ?_
  have bJ:=bJ.loose (O:=d) (q:=iX B A (bC.map fs.nm)) (bz:=[(ae,ep),(a,.lst (bC.map λf=>.str f.nm)),(b,.lst (bC.map λf=>bT f.W)),(c,.own (gy B A S))]) rfl (λw aP=>⟨cx,aN,aP⟩)
  refine b8 (b8 ?_)
  refine Fk e9 bj bb al pf qI (bC:=bC) (S:=S) (bJ.norm _ [] (kQ t a b c d) rfl trivial ⟨rfl,rfl,rfl,rfl,rfl,trivial⟩) lD (by exact c2 (aK (aK (jS _ _) sp) ar)) (ba:=un t.ns S+lf bC) (cG _) (λjE jg gg y pg a4 e6 CK jC CL nP=>?_) (λjE y pg a4=>?_)
  ·exact⟨un t.ns S+lf jg,CL,jE,jg,gg,S,rfl,fC.trans pg,a4,e6,CK,jC,yW,by exact aK (ox nP _) sp⟩
  ·exact yR jE S y (fC.trans pg) a4 ⟨List.Pairwise.nil,(λf bb=>by cases bb),lD.ah,lD.sub⟩ yW
 ·refine m (jT t6) ?_
  obtain⟨n,au,sq⟩:=xn Tu
  have Ik:=GP t6 sq t.ns au
  have Tw:=Fz t6 sq t.ns au
  refine Qj (O:=c) (bz:=[(ae,ep),(a,.lst (bC.map λf=>.str f.nm)),(b,.lst (bC.map λf=>bT f.W))]) bh (bh.ev (x:="seen") rfl) rfl (H.name bh.aI rfl) (by exact c2 (aK (aK (jS _ _) yW) ar)) t6 λb2 be=>?_
  have n4:∀p∈kP t c3,p∈([(ae,ep),(a,.lst (bC.map λf=>.str f.nm)),(b,.lst (bC.map λf=>bT f.W))]++(c,Ent.own (gy B A (S++[v])))::(d,.own (iX B A (bC.map fs.nm)))::(bC.flatMap nK++kP t c3)):=λp af=>
   .tail _ (.tail _ (.tail _ (.tail _ (.tail _ (ez _ af)))))
  have Tx:bi B A D b2 s (.Subscript (.Name "n2i" ⟨185,40,185,43⟩) (.Name "node" ⟨185,44,185,48⟩) ⟨185,40,185,49⟩) (.ref n.ae):=
   bi.Pg (O:=t.N) (c3:=c3) (cx:=dC t.ns) (n:=v) be (be.ev (x:="n2i") rfl) (n4 _ (.tail _ (.tail _ (.head _)))) eK (H.name be.aI rfl) (by refine a9 sq ?_;exact uE eI au)
  have Im:∀p∈dN n,p∈kP t c3:=λp af=>.tail _ (.tail _ (.tail _ (ez _ (uT.mpr ⟨n,au,af⟩))))
  have Tz:bi B A D b2 s (.Attribute (.Subscript (.Name "n2i" ⟨185,40,185,43⟩) (.Name "node" ⟨185,44,185,48⟩) ⟨185,40,185,49⟩) "successors" ⟨185,40,185,60⟩) (.ref n.S):=
   bi.uo be Tx (n4 _ (Im _ (.head _))) (n4 _ (Im _ (.tail _ (.head _)))) (λw ⟨x,E,e⟩=>⟨_,e,rfl⟩) rfl l9 z5 (by with_unfolding_all rfl)
  refine LH (O:=b) (qE:=bC.map λf=>bT f.W) (bz:=[(ae,ep),(a,.lst (bC.map λf=>.str f.nm))]) be (a8 al rfl) rfl rfl Tz (n4 _ (Eg au)) (by rw[bD];exact c2 (aK (aK (jS _ _) sp) ar)) λW it cm bJ=>?_
  have bJ:=bJ.norm ([(W,.own (· =gJ it)),(it,.own (bk (.ref n.S) (.list (n.ah.succ.map .str)) 0)),(ae,ep),(a,.lst (bC.map λf=>.str f.nm)),(b,.lst ((bC.map λf=>bT f.W)++[bT W])),(c,.own (gy B A (S++[v])))]++(d,.own (iX B A (bC.map fs.nm)))::(bC.flatMap nK++kP t c3)) [("node",.str v)] (kQ t a b c d) rfl ⟨rfl,trivial⟩ ⟨rfl,rfl,rfl,rfl,rfl,trivial⟩
  obtain⟨dM,⟨cx,aN,wh⟩,b6⟩:=bJ.pin rfl
  have b6:=b6.loose (O:=d) (q:=dv B A cx) rfl (λw e=>by refine m e ?_;exact wh)
  have t5:cx.length=bC.length:=by
   have:=iw List.length aN
   simpa using this
  have CJ:v∉cx.map (·.1):=by
   refine m aN ?_
   intro q
   obtain⟨f,bb,e⟩:=bZ.mp q
   have:=CI f bb
   rw[e] at this
   exact ey _ this
  refine⟨dA (wpAny_Assign_Subscript ((H.OQ (O:=a) (aM:=bC.map λf=>.str f.nm) (Y:=[]) b6 (a8 al rfl) rfl (.tail _ (.tail _ (.tail _ (.head _)))) (by rw[bD];exact c2 (aK (aK (jS _ _) sp) ar))).ap cm _ _ (an.refl _) λqe ds eu bo=>?_))⟩
  refine((b6.step eu).ev (x:="node2stacki") rfl).ap ds _ _ (an.refl _) λfK j4=>(H.name (b6.step (eu.trans j4)).aI (x:="node") rfl).ap fK _ _ (an.refl _) λR4 gS o8 oL=>?_
  refine aO.fV oL λBI=>?_
  have cS:=b6.step ((eu.trans j4).trans o8)
  refine cS.FE (O:=d) (cx:=cx) (n:=v) (t:=BI) (v:=qe) rfl (by exact t5▸c2 (aK (aK (jS _ _) sp) ar)) λgG cT=>(bl.out (?_:bl B A D [_] s _ _ gG))
  have cT:=cT.loose (O:=d) (q:=iX B A (bC.map fs.nm++[v])) rfl (λw aP=>⟨_,by exact m (Ol CJ) (m aN rfl),aP⟩)
  refine Aw (O:=a) (aM:=bC.map λf=>.str f.nm) (d:=.str v) (bz:=[(W,.own (· =gJ it)),(it,.own (bk (.ref n.S) (.list (n.ah.succ.map .str)) 0)),(ae,ep)]) cT (cT.ev (x:="stack") rfl) rfl (H.name cT.aI rfl) (by rw[bD];exact c2 (aK (aK (jS _ _) sp) ar)) λlO e8=>b8 ?_
  have ku:=e8.perm (L:=(jh B A t c3 a b c d ae ep (bC++[⟨n,W,it,0⟩]) (S++[v]) []).L) (by
   have e:(jh B A t c3 a b c d ae ep (bC++[⟨n,W,it,0⟩]) (S++[v]) []).L=((ae,ep)::(a,.lst ((bC.map λf=>.str f.nm)++[.str v]))::(b,.lst ((bC.map λf=>bT f.W)++[bT W]))::(c,.own (gy B A (S++[v])))::(d,.own (iX B A (bC.map fs.nm++[v])))::bC.flatMap nK)++([(W,.own (· =gJ it)),(it,.own (bk (.ref n.S) (.list (n.ah.succ.map .str)) 0))]++kP t c3):=by
    show(ae,ep)::pK B A t c3 a b c d (bC++[⟨n,W,it,0⟩]) (S++[v])=_
    unfold pK
    refine m tq ?_
    simp[nK,fs.nm,sq]
   refine m e ?_
   refine(List.perm_append_comm_assoc _ _ _).trans ?_
   simp)
  have ql:Inv t br (bC++[⟨n,W,it,0⟩]) (S++[v]):=by
   have:=lD.push au (by refine m sq ?_;exact t6) (by refine m sq ?_;exact CI) W it
   rw[sq] at this
   exact this
  have TA:un t.ns (S++[v])+lf (bC++[⟨n,W,it,0⟩])<=un t.ns S+lf bC:=by
   refine m (zX _ _) ?_
   show un t.ns (S++[v])+(lf bC+(n.ah.succ.length - 0))<=_
   exact aK (di (by rw[oj (lf bC),<-ru];rfl)) (ox (pz Tw) _)
  have Io:(S++[v]).length+jL t.ns (S++[v])<=t.ns.length:=by refine m ib ?_;simp only[hE,rK];exact aK (di (pP _ 1 _)) (aK (lg Ik _) yW)
  have Ip:(bC++[(⟨n,W,it,0⟩:fs)]).length+jL t.ns (S++[v])<=t.ns.length:=by refine m ib ?_;simp only[hE,rK];exact aK (di (pP _ 1 _)) (aK (lg Ik _) sp)
  refine Fk e9 bj bb al pf qI (bC:=bC++[⟨n,W,it,0⟩]) (S:=S++[v]) (ku.norm _ [] (kQ t a b c d) rfl trivial ⟨rfl,rfl,rfl,rfl,rfl,trivial⟩) ql (by exact c2 (aK (aK (jS _ _) Ip) ar)) (ba:=un t.ns S+lf bC) TA (λjE jg gg y pg a4 e6 CK jC CL nP=>?_) (λjE y pg a4=>?_)
  ·exact⟨un t.ns (S++[v])+lf jg,CL,jE,jg,gg,S++[v],rfl,fC.trans pg,a4,e6,CK,jC,Io,by exact aK (ox nP _) Ip⟩
  ·exact yR jE (S++[v]) y (fC.trans pg) a4 ⟨List.Pairwise.nil,(λf bb=>by cases bb),ql.ah,ql.sub⟩ Io
end
section
variable {Y:List Addr} {k:Nat} {t:cC} {br:Str->Nat}
theorem PJ {np:Pos} (C:aw Q U ai Z ak s K o) (TB:s.kindOf "set"=some .globalImplicit) (aN:hG s x)
  (h:∀c y,aw Q U ai Z ak s ((K.own c (.own (gy B A []))).tc x (.ref c)) y->bl B A D aZ s G M y)
  (aW:autoParam (swapsWith (.Call (.Name "set" lw) [] [] fI) (some (.Name x np)) ao.line s=pure false) cg._auto_1) (al:autoParam (eval (.Call (.Name "set" lw) [] [] fI) s=(do let f <-eval (.Name "set" lw) s;callWith fI f [] [] [])) h7._auto_1):
  bl B A D (.Assign [.Name x np] (.Call (.Name "set" lw) [] [] fI) ao::aZ) s G M o:=by
 refine⟨dA (kO ?_ aW)⟩
 refine m al ?_
 have V:bi B A D o s (.Name "set" lw) (.type "set"):=bi.blt C.aI TB (by exact jk (by kernel_rfl))
 refine ay (V.ap o _ _ (an.refl _) λaj aq=>callWith_excType (T:="set") rfl (fZ (a:=⟨[],[]⟩) rfl (call_set_0 λled=>?_)))
 have bc:=(C.step aq).add (a:=aj.heap.objs.size) (e:=.own (gy B A [])) (an.push {cls:=.type "set",dict:=none,data:=.set #[] 0 (.fresh 0 0 led)}) ⟨cG _,by simp⟩ ⟨_,dT _ rfl,rfl,#[],0,.fresh 0 0 led,⟨rfl,rfl,rfl⟩,rfl,(λe al=>by simp at al),(λk=>by simp),by decide,by rfl,rfl⟩
 exact bc.li aN λy a4=>(h _ y a4).out
theorem PI {np:Pos} (C:aw Q U ai Z ak s K o) (aN:hG s x)
  (h:∀c y,aw Q U ai Z ak s ((K.own c (.own (dv B A []))).tc x (.ref c)) y->bl B A D aZ s G M y) (aW:autoParam (swapsWith (.Dict [] [] fI) (some (.Name x np)) ao.line s=pure false) cg._auto_1):
  bl B A D (.Assign [.Name x np] (.Dict [] [] fI) ao::aZ) s G M o:=by
 refine⟨dA (kO (wpAny_Dict_empty ?_) aW)⟩
 have bc:=C.add (a:=o.heap.objs.size) (e:=.own (dv B A [])) (an.push {cls:=.type "dict",data:=.dict #[]}) ⟨cG _,by simp⟩ ⟨_,dT _ rfl,rfl,#[],0,⟨rfl,rfl,rfl⟩,rfl,λe al=>by simp at al,.nil,hM⟩
 exact bc.li aN λy a4=>(h _ y a4).out
theorem MK (R:b0 (k+2) D) (e9:D.frames=some l) (F:ek l (eV B A t) o) (C:Base Q U o.heap) (w:hk B A t o.heap) (qI:∀n∈t.ns,∀x∈n.ah.succ,x∈t.ns.map (·.ah.nm)/\br n.ah.nm < br x) (ar:t.ns.length<=800):
  codeAny (model B A) D (.call (.ref 184) ⟨[.ref t.T],[]⟩) (λr y=>r=.ok (.ret .none)/\∃dD,ce (el (du l) o dD) (es (eV B A t) dD y) (hk B A t y.heap)) o:=by
 refine oF λG dt=>?_
 refine Fn (ai:=[]) AE ["self"] R.room C w (λ_ q=>(b9 q).elim) (GO C) rfl rfl rfl rfl (λbs cd=>rfl) rfl (by decide) (by decide) λaj s al bb bc=>?_
 have bj:(D.deeper s).handled=Option.none:=(R.deeper s).h
 have nr:(D.deeper s).frames=some (s::l):=u5 e9
 refine wK bc (bi.rQ (X:=[]) (t:=t) bc (bc.ev (x:="self") rfl) rfl) (.inl (a8 al rfl)) λaB aQ=>?_
 have aQ:=aQ.norm (bp B A t) [] [("n2i",.ref t.N)] rfl trivial ⟨rfl,trivial⟩
 refine oI aQ (jr.list aQ.aI bK.nil) (.inl (a8 al rfl)) λa ax _ bh=>?_
 refine oI bh (jr.list bh.aI bK.nil) (.inl (a8 al rfl)) λb b2 _ be=>?_
 refine PJ (B:=B) (A:=A) be (a8 al rfl) (.inl (a8 al rfl)) λc cm bJ=>?_
 refine PI (B:=B) (A:=A) bJ (.inl (a8 al rfl)) λd ds b6=>?_
 have b6:=b6.norm ([(d,.own (dv B A [])),(c,.own (gy B A [])),(b,.lst []),(a,.lst []),(t.T,.own (· =b7 194 t.cr [])),(t.cr,.own (fo t))]++(t.N,.own (dv B A (dC t.ns)))::(f5 t.bM++t.ns.flatMap dN)) [] (kQ t a b c d) rfl trivial ⟨rfl,rfl,rfl,rfl,rfl,trivial⟩
 obtain⟨c3,eK,c1⟩:=b6.pin rfl
 have c1:=c1.loose (O:=d) (bz:=[]) (q:=iX B A []) rfl (λw aP=>⟨[],rfl,aP⟩)
 have cS:=c1.perm (L:=pK B A t c3 a b c d [] []) (by
  show List.Perm ([(a,.lst []),(b,.lst []),(c,.own (gy B A [])),(d,.own (iX B A []))]++kP t c3) ([(d,.own (iX B A [])),(c,.own (gy B A [])),(b,.lst []),(a,.lst [])]++kP t c3)
  refine List.Perm.append_right _ ?_
  exact(List.reverse_perm [(a,Ent.lst []),(b,.lst []),(c,.own (gy B A [])),(d,.own (iX B A []))]).symm)
 have cS:=cS.norm (pK B A t c3 a b c d [] []) [] (kQ t a b c d) rfl trivial ⟨rfl,rfl,rfl,rfl,rfl,trivial⟩
 refine M5 (O:=t.N) (cx:=dC t.ns) (c3:=c3) cS (cS.ev (x:="n2i") rfl) eK (.inl (a8 al rfl)) bj
  (λi bX bH=>∃S,hx (el (du l) o bX) (bH={L:=pK B A t c3 a b c d [] S,az:=dl [],bO:=dl (kQ t a b c d)}) (Inv t br [] S) (S.length+jL t.ns S<=t.ns.length)) ?_ ⟨[],el.refl _ _,rfl,⟨List.Pairwise.nil,(λf bb=>by cases bb),hM,(λx I=>by cases I)⟩,by rw[O2];simp⟩ ?_ ?_
 ·rintro i bX bH ⟨S,_,rfl,_⟩
  exact .tail _ (.tail _ (.tail _ (.tail _ (.tail _ (.tail _ (.head _))))))
 ·rintro ck i n v bX bH ae gG cD jb fR aH ⟨S,fC,rfl,CM,av⟩ cT
  have TC:=F.up fC
  have au:n∈t.ns.map (·.ah.nm):=by
   have:=fc aH
   unfold dC at this
   obtain⟨ab,hm,e⟩:=bZ.mp this
   refine a9 ((gv e).1) ?_
   exact d9 (f:=(·.ah.nm)) hm
  have cT:aw Q U [] (eV B A t) bX s (jh B A t c3 a b c d ae (.own (lv t.N (dC t.ns).length ck (i+1))) [] S [("node",.str n)]) gG:=
   cT.norm _ [("node",.str n)] (kQ t a b c d) rfl ⟨rfl,trivial⟩ ⟨rfl,rfl,rfl,rfl,rfl,trivial⟩
  refine fF cT (c:=decide (n∈S)) (bL.inSet (O:=c) cT (cT.ev (x:="seen") rfl) (.tail _ (.tail _ (.tail _ (.head _)))) (H.name cT.aI rfl)) λlO e8=>?_
  by_cases Iq:n∈S
  ·refine m (hz Iq) ?_
   exact Gr (fR _ _ ⟨bX,_,⟨S,fC,rfl,CM,av⟩,e8.norm _ [] (kQ t a b c d) rfl trivial ⟨rfl,rfl,rfl,rfl,rfl,trivial⟩⟩)
  ·refine m (jT Iq) ?_
   refine b8 (Mk nr bj bb al TC eK w.eI qI ar e8 CM au av λjE qJ y pg a4 e6 i6=>b8 (fR _ _ ⟨jE,_,⟨qJ,fC.trans pg,rfl,e6,i6⟩,a4.norm _ [] (kQ t a b c d) rfl trivial ⟨rfl,rfl,rfl,rfl,rfl,trivial⟩⟩))
 ·rintro bX bH gG cD ⟨S,fC,rfl,CM,av⟩ cT
  refine b8 (hv cT H.none λv y a4 eX=>?_)
  refine aO.rM eX ?_
  have a4:=a4.loose (O:=t.N) (q:=dv B A (dC t.ns)) (bz:=[(a,.lst []),(b,.lst []),(c,.own (gy B A S)),(d,.own (iX B A [])),(t.T,.own (· =b7 194 t.cr [])),(t.cr,.own (fo t))]) rfl (λw e=>by refine m e ?_;exact eK)
  exact dt _ _ ⟨rfl,bX,fC,a4.ex,a4.iC (X:=[(a,.lst []),(b,.lst []),(c,.own (gy B A S)),(d,.own (iX B A []))]) (t:=t) rfl w.eI⟩
end
section
variable {Y:List Addr} {az:Str->Option PyData} {k:Nat}
structure Ft (B:Program) (A:World) (D:Around) (o:Shared) (ag:List PyData) (p:Nat->Obj->Prop):Prop where
 gd:∀i w,p i w->go w=false
 kk:∀i w,p i w->w.isFreed=false
 self:∀aj ae w i (G:Value->Shared->Prop) (M:Value->Shared->Prop),an o aj->aj.heap.get? ae=some w->p i w->G (.ref ae) aj->wpAny (model B A) D (pyIter (.ref ae)) G M aj
 next:∀aj ae w i x (G:Option Value->Shared->Prop) (M:Value->Shared->Prop),an o aj->aj.heap.get? ae=some w->p i w->ag[i]?=some x->(∀u am aD bA,Heap.SameBut ae aj.heap am->am.get? ae=some bA->p (i+1) bA->(∀X h,aO X h u x)->G (some u) {aj with heap:=am,toks:=aD})->wpAny (model B A) D (pyNext (.ref ae)) G M aj
 stop:∀aj ae w i (G:Option Value->Shared->Prop) (M:Value->Shared->Prop),an o aj->aj.heap.get? ae=some w->p i w->ag[i]?=none->(∀am aD,Heap.ExtBut ae aj.heap am->aj.heap.objs.size<=am.objs.size->G none {aj with heap:=am,toks:=aD})->wpAny (model B A) D (pyNext (.ref ae)) G M aj
theorem KX {CN:Pos} {p:Nat->Obj->Prop} (pt:PyData->Bool) (f:PyData->PyData) (aa:cJ Q U Y o s az) (W:Ft B A D o ag p) (al:s.scope.names=d5)
  (fh:aR.kind=.function) (aW:op aR.names d5=true) (eg:p6 aR.names s.cells=true) (ar:ag.length<=1000) (bb:∀x,foldedSetIterable iter s x=pure x)
  (start:∀aj (G:Value->Shared->Prop) (M:Value->Shared->Prop),an o aj->(∀aB w,an aj aB->p 0 w->G (.ref aB.heap.objs.size) {aB with heap:=aB.heap.push w})->wpAny (model B A) D (eval iter s) (λv y=>wpAny (model B A) D (pyIter v) G M y) M aj)
  (aA:(aR.names.lookup x==some .free)=false) (TD:∀aY,kb s aY aR d5->hG aY x)
  (tK:∀aY,kb s aY aR d5->∀d∈ag,∀(Y:List Addr) (y:Shared),an o y->cJ Q U Y y aY (upd (eA aR.names az) x d)->fk B A D y aY dk (pt d)/\(pt d=true->H B A D Y y aY cY (f d))):
  f0 B A D Y o s (.ListComp cY [⟨.Name x CN,iter,dk,0⟩] aR ao) aR vp iter ((ag.filter pt).map f):=.mk λaj use G M aq fin=>by
 have rW:closureFor aR s=pure (ip s.cells aR.names []):=uX λp af q=>by
  have:=d1.mp eg _ af
  rw[q] at this
  simpa using this
 have Bb:∀x∈aR.names,x.2=.local->aR.names.lookup x.1=some .local:=λp af q=>by
  have:=d1.mp aW _ af
  rw[q] at this
  simpa using this
 refine wpAny_comprehension_free rfl bb rW fh Bb (start aj _ _ aq λaB w aE aP=>?_)
 refine jJ (DH ?_) (by show([]:List Value).toArray.size<=sizeLine;simp)
 have cV:=aa.ex (aq.trans aE)
 have vA:w.isFreed=false:=W.kk 0 w aP
 generalize nQ:({aB with heap:=(aB.heap.push w).push {cls:=.type "list",data:=.seq ([]:List Value).toArray}}:Shared)=ax
 have o0:ax.heap.objs.size=aB.heap.objs.size+1+1:=by refine a9 nQ ?_;simp
 have kU:an aB ax:=by refine a9 nQ ?_;exact(an.push w).trans (an.push (o:={aB with heap:=aB.heap.push w}) _)
 have Bc:ax.heap.get? aB.heap.objs.size=some w:=by refine a9 nQ ?_;exact e1 _ (dT _ vA)
 have nd:ax.heap.get? (aB.heap.objs.size+1)=some {cls:=.type "list",dict:=none,data:=.seq #[] 0,slots:=#[]}:=by
  refine a9 nQ ?_
  have:=dT (aB.heap.push w) (o:={cls:=.type "list",data:=.seq ([]:List Value).toArray}) rfl
  rw[eN] at this
  exact this
 have nf:(Value.ref ({aB with heap:=aB.heap.push w}:Shared).heap.objs.size)=.ref (aB.heap.objs.size+1):=by simp
 refine m nf ?_
 have rX:∀b bA,ax.heap.get? b=some bA->(pushCells (ax.heap.push {cls:=.type "dict",data:=.dict #[]}) aR.names).get? b=some bA:=λb bA q=>pushCells_keeps _ _ b bA (e1 _ q)
 have Bd:ax.heap.objs.size+1<=(pushCells (ax.heap.push {cls:=.type "dict",data:=.dict #[]}) aR.names).objs.size:=by
  have:=xE aR.names (ax.heap.push {cls:=.type "dict",data:=.dict #[]})
  rw[eN] at this;exact this
 have lz:an ax {ax with heap:=pushCells (ax.heap.push {cls:=.type "dict",data:=.dict #[]}) aR.names}:=an.of_keeps (aD:=ax.toks) rX (aK (hw _) Bd)
 have ok:=cellsFrom_ok aR.names (ax.heap.push {cls:=.type "dict",data:=.dict #[]}) (ax.heap.objs.size+1) [] ⟨λ_ _ hm=>(nomatch hm),List.Pairwise.nil⟩ (by refine m (eN _ _) ?_;exact cG _)
 rw[eN] at ok
 generalize lC:({scope:=relabel aR s,locals:=ax.heap.objs.size,globals:=s.globals,cells:=cellsFrom (ax.heap.objs.size+1) aR.names (ip s.cells aR.names []),qual:=s.qual,func:=none,code:=s.code,frame:=s.frame,builtins:=s.builtins}:Env)=aY
 have bG:kb s aY aR d5:=⟨by refine a9 lC ?_;exact Ga aa.fn al,by exact a9 lC rfl⟩
 have a1:aY.locals=ax.heap.objs.size:=by exact a9 lC rfl
 have C:=E1 (v:=.none) (d:=.none) (O:=aB.heap.objs.size+1) (aa:=ax.heap.objs.size) (aY:=aY) (p:=p 0) cV al aW eg fh bG (by refine a9 lC ?_;exact fh) (by exact a9 lC rfl) (by exact a9 lC rfl) a1 (kU.trans lz) (cG _) (hb _) (by refine m o0 ?_;exact hb _)
  ((Heap.Ns.new ax.heap (.type "dict")).keeps (pushCells_keeps _ _)) ⟨w,rX _ _ Bc,W.gd 0 w aP,aP⟩ (rX _ _ nd) .none ok
 have na:=aq.trans aE
 generalize fz:aB.heap.objs.size=ae at C ⊢
 generalize Ir:ae+1=O at C ⊢
 have key:codeAny (model B A) D (.compLoop (.ListComp cY [⟨.Name x CN,iter,dk,0⟩] aR ao) 0 (.ref ae) (.ref O) aY) (compPost (model B A) D M use G (.ref O) ax.heap.objs.size)
   {ax with heap:=pushCells (ax.heap.push {cls:=.type "dict",data:=.dict #[]}) aR.names}:=by
  refine codeAny_loop rfl (λn y=>∃i,ce (n=ag.length - i) (i<=ag.length) (aw Q U Y [] aB aY {L:=[(ae,.own (p i)),(O,.lst (((ag.take i).filter pt).map f))],az:=eA aR.names az} y)) (λn y yU=>?_) ag.length ⟨0,by rfl,by simp,?_⟩
  ·obtain⟨i,rfl,aH,a4⟩:=yU
   show wpAny _ D ((compTurn (.ListComp cY [⟨.Name x CN,iter,dk,0⟩] aR ao) 0 (.ref ae) (.ref O) aY).onRaise (λx=>do noteFrame x aY;theTreesLotGoes x)) _ _ y
   refine wpAny_noted ?_
   rw[zu]
   refine ay (gK (ay ?_))
   obtain⟨nu,k4,W1,t7⟩:=a4.led (ae,.own (p i)) (.head _)
   have It:an o y:=na.trans a4.ex.ex
   cases e:ag[i]? with
   |none=>
    have:i=ag.length:=by have:=pS.mp e;exact mQ ‹_› ‹_›
    subst this
    refine W.stop y ae nu _ _ _ It k4 t7 e λam aD wi jZ=>bx ?_
    have be:=a4.q6 (aD:=aD) (L:=[(O,.lst (((ag.take ag.length).filter pt).map f))]) rfl wi jZ
    rw[jN] at be
    obtain⟨J,n,l,rs⟩:=be.led (O,.lst ((ag.filter pt).map f)) (.head _)
    have au:=be.ns
    rw[a1] at au
    have jW:an aj {y with heap:=am,toks:=aD}:=aE.trans be.ex.ex
    have rY:ax.heap.objs.size≠O:=by refine m o0 (a9 Ir (a9 fz ?_));exact uL _
    obtain⟨ab,hm⟩:=au
    have vB:aj.heap.objs.size<=ax.heap.objs.size:=aK aE.size kU.size
    exact fin _ _ _ jW ⟨ab,hm⟩ vB hm.lt rY (by refine a9 Ir (a9 fz ?_);exact aK aE.size (hw _)) (dL l) ⟨J,n,l,rs.weak λb q=>ez _ q⟩
   |some d=>
    have bU:=(gL.mp e).1
    have dF:d∈ag:=fc e
    have aD:ag.take (i+1)=ag.take i++[d]:=by refine m kf (m e ?_);rfl
    refine W.next y ae nu _ _ _ _ It k4 t7 e λu am Be bA dI f8 iJ d7=>?_
    have be:=a4.turn (bt:=.own (p (i+1))) (aD:=Be) rfl dI ⟨bA,f8,W.gd _ _ iJ,iJ⟩
    refine ay (fZ (a:=()) rfl (ay (m3 (be.store (d:=d) (TD aY bG) (d7 _ _) λcm bJ=>?_))))
    have ee:cJ Q U _ cm aY (upd (eA aR.names az) x d):=bJ.aI
    have rT:an o cm:=na.trans bJ.ex.ex
    have i9:=tK aY bG d dF _ cm rT ee
    refine ay (i9.1.ap cm _ _ (an.refl _) λds eu=>?_)
    have b6:=bJ.step eu
    have vH:∀(c7:List (Addr×Ent)) cs,aw Q U Y [] aB aY ({L:=c7,az:=upd (eA aR.names az) x d,bO:=out (λ_=>none) x}) cs->aw Q U Y [] aB aY {L:=c7,az:=eA aR.names az} cs:=λc7 cs C=>by
     refine C.sub (λ_ q=>q) C.ah (λ_ q=>q) (λE fq q=>?_) λE u q=>by cases q
     have q:eA aR.names az E=some fq:=q
     show upd (eA aR.names az) x d E=some fq
     unfold upd
     by_cases h:E=x
     ·subst h
      rw[uN aA] at q;cases q
     ·refine m (bI h) ?_;exact q
    cases tR:pt d with
    |false=>
     simp only[fx,fd]
     refine bx ⟨rfl,_,(by exact rr ag.length i bU:ag.length - (i+1) < ag.length - i),i+1,rfl,by assumption,?_⟩
     refine m aD (m (p3 _ _) ?_)
     simp only[fH,tR,fx,fd,List.filter_nil,iy]
     exact vH _ _ b6
    |true=>
     simp only[fv]
     have vI:=i9.2 tR
     refine ay (ay (vI.ap ds _ _ eu λW2 fK j4 TE=>?_))
     have c1:=b6.step j4
     refine ay (c1.append (bz:=[(ae,.own (p (i+1)))]) (bY:=[]) rfl TE ?_ λgS cS=>bx (bx ⟨rfl,_,(by exact rr _ _ bU:ag.length - (i+1) < ag.length - i),i+1,rfl,by assumption,?_⟩))
     ·rw[bD]
      exact aK (lh _ _) (aK (vd ..) ar)
     ·refine m aD (m (p3 _ _) ?_)
      simp only[fH,tR,fv,List.filter_nil,d3,dG,List.map_nil]
      exact vH _ _ cS
  ·exact C.sub (λ_ q=>q) C.ah (λ_ q=>by cases q) (λ_ _ q=>q) λ_ _ q=>q
 have TF:∃nu,({ax with heap:=pushCells (ax.heap.push {cls:=.type "dict",data:=.dict #[]}) aR.names}:Shared).heap.get? ae=some nu/\p 0 nu:=let ⟨nu,k4,_,t7⟩:=C.led (ae,.own (p 0)) (.head _);⟨nu,k4,t7⟩
 obtain⟨nu,k4,t7⟩:=TF
 refine codeAny_compStart_list ?_ (W.self _ ae nu 0 _ _ (na.trans (kU.trans lz)) k4 t7 ?_)
 ·exact key
 ·exact key
end
noncomputable def Lu:List (Str×NameKind):=[("self",.local),("cycle",.local),("ValueError",.globalImplicit),("CycleError",.globalImplicit)]
noncomputable def P8 (N:Addr) (n ck i:Nat) (w:Obj):Prop:=w.cls=.type "dict_valueiterator"/\w.data=.fields #[.ref N,.int i 0,.int n 0,.int ck 0]
noncomputable def pG (ns:List co) (f:co->PyData):PyData->PyData
 |.dict [(.int a,.none)]=>((ns.find? λn=>decide (n.ae=a.toNat)).map f).getD .none
 |_=>.none
theorem xL {ns:List co} (h:(ns.map (·.ae)).Nodup) (f:co->PyData) {n:co} (hm:n∈ns):pG ns f (bT n.ae)=f n:=by
 show((ns.find? λab=>decide (ab.ae=(Int.ofNat n.ae).toNat)).map f).getD .none=f n
 refine m (show(Int.ofNat n.ae).toNat=n.ae from rfl) ?_
 induction ns with
 |nil=>cases hm
 |cons a l ih=>
  rw[dG,fO] at h
  refine m mH ?_
  by_cases e:a.ae=n.ae
  ·rcases bP.mp hm with rfl|hm
   ·simp
   ·exact absurd (bZ.mpr ⟨n,hm,rfl⟩) (e▸h.1)
  ·rcases bP.mp hm with rfl|hm
   ·exact absurd rfl e
   ·simp only[e,ig]
    exact ih h.2 hm
theorem K0 {t:cC} (h:(eV B A t).Nodup):(t.ns.map (·.ae)).Nodup:=by
 have sub:∀ns:List co,(ns.map (·.ae)).Sublist ((ns.flatMap dN).map (·.1)):=by
  intro ns
  induction ns with
  |nil=>exact List.Sublist.slnil
  |cons a l ih=>
   refine m List.flatMap_cons (m d3 ?_)
   show(a.ae::l.map (·.ae)).Sublist (a.ae::a.p4::a.S::(l.flatMap dN).map (·.1))
   exact .cons₂ _ (.cons _ (.cons _ ih))
 refine List.Sublist.nodup (sub t.ns) (List.Sublist.nodup ?_ h)
 show((t.ns.flatMap dN).map (·.1)).Sublist (((t.T,Ent.own (· =b7 194 t.cr []))::(t.cr,Ent.own (fo t))::(t.N,.own (dv B A (dC t.ns)))::(f5 t.bM++t.ns.flatMap dN)).map (·.1))
 simp only[dG,d3]
 exact .cons _ (.cons _ (.cons _ (List.sublist_append_right _ _)))
noncomputable def intOf:PyData->Int
 |.int i=>i
 |_=>1
noncomputable def g0 (g:List cj):List Str:=(g.filter λd=>decide (d.np=0)).map (·.nm)
section
variable {Y:List Addr} {k:Nat} {t:cC} {br:Str->Nat} {X:List (Addr×Ent)}
theorem H.FQ {p q:Obj->Prop} {d:PyData} {T cr:Addr} {name:Str} (C:aw Q U ai Z ak s K o) (x:an o y) (V:bi B A D y aY e (.ref T)) (cK:(T,Ent.own p)∈K.L) (hd:(cr,Ent.own q)∈K.L)
  (af:∀w,p w->cp λbQ v=>hx (w=b7 aa cr bQ) ((bQ[i]?).join=some v) (handedIn v=true) (∀X h,aO X h v d)) (c:mO aa) (eE:rn aa name i1 i)
  (al:autoParam (eval (.Attribute e name ao) aY=(do let w <-eval e aY;standAt ao.atName;let r <-holding [w] (getAttr w name true);letTemporaryGo e w r;pure r)) h7._auto_1):H B A D Y y aY (.Attribute e name ao) d:=.mk λaj G M aq h=>
 ry (V.ap aj _ _ aq λaB aE=>by
  have aQ:=C.step (x.trans (aq.trans aE))
  obtain⟨P,cf⟩:=aQ.aI.base.cf
  obtain⟨w,I,po⟩:=aQ.owned cK
  obtain⟨bQ,v,rfl,aW,bn,r⟩:=af w po
  obtain⟨dM,hq,_⟩:=aQ.owned hd
  exact u3 cf I hq aW bn (c.kK P name) (eE.cl P) (eE.de P) (eE.ge P) (eE.tp P) (eE.gc P) (h _ _ (aE.trans (an.tok _)) (r _ _))) al
theorem bi.MV (O:H B A D Y o s e (bT a)):bi B A D o s e (.ref a):=.mk λaj G M aq h=>O.ap aj _ _ aq λv aB aE r=>by
 have:=r.uU
 subst this
 exact h _ aE
theorem f0.wX {aZ:List Comprehension} {ys:List Addr} {az:Str->Option PyData} (aa:cJ Q U Y o s az) (V:f0 B A D Y o s (.ListComp cY (⟨cZ,iter,dk,0⟩::aZ) aR ao) aR (firstIterPos (⟨cZ,iter,dk,0⟩::aZ) ao) iter cP)
  (CO:∀E∈cP,flat E=true):jr B A D ys o s (.ListComp cY (⟨cZ,iter,dk,0⟩::aZ) aR ao) cP:=.mk λaj G M aq h=>by
 refine m (eval_ListComp _ _ _ _) ?_
 refine V.ap aj none G M aq λy O Cl aE au hn vJ cE cW tL a0=>?_
 obtain⟨ab,au⟩:=au
 obtain⟨J,n,l,rs⟩:=a0
 refine⟨ab,au,λam aW=>?_⟩
 have jX:=aa.ex aq
 have a7:an aj {y with heap:=am}:=(pq (Z:=[]) (aD:=y.toks) jX.base.tabs aE.cw aW (.inl hn) (hI.gY au)).ex
 exact h _ _ a7 cW (by show O < am.objs.size;refine m aW.1 ?_;exact tL) ⟨J,n,(aW.2 O (l1 cE)).trans l,rs.flat CO⟩
theorem bL.Kd (V:bi B A D o s e .none) (al:autoParam (∀ab,isTrue e s ab=(do let v <-ab;standAt e.pos;holding [v] (truthy v))) pZ._auto_1):bL B A D o s e false:=.mk λaj G M aq h=>by
 rw[al]
 exact ay (V.ap aj _ _ aq λaB aE=>ay (gK (dZ (truthy_none (h _ aE)))))
theorem KY {N:Addr} {as:List Addr} {ck:Nat} (bj:D.handled=Option.none) (T:d2 o.heap) (eK:o.heap.get? N=some c3) (wj:247<=N) (cW:o.heap.DictAt (strKind B A) N cx ck) (aN:cx.map (·.2)=as.map .ref):
  Ft B A D o (as.map bT) (P8 N cx.length ck):=by
 have t2:∀aj,an o aj->aj.heap.DictAt (strKind B A) N cx ck:=λaj x=>by
  obtain⟨w,aU,e,r⟩:=cW
  exact⟨w,aU,x.keep N w (nM wj) e,r⟩
 refine⟨λi w aP=>?_,λi w aP=>rD aP.2,λaj ae w i G M x e aP h=>?_,λaj ae w i d G M x e aP hd h=>?_,λaj ae w i G M x e aP hd h=>?_⟩
 ·unfold go;refine m aP.2 (m aP.1 ?_);rfl
 ·exact wpAny_pyIter_valiter ⟨w,e,aP⟩ h
 ·rw[fm] at hd
  obtain⟨a,aF,rfl⟩:=ka.mp hd
  have:(cx.map (·.2))[i]?=some (.ref a):=by refine m aN (m fm (m aF ?_));rfl
  rw[fm] at this
  obtain⟨⟨q,v⟩,aS,bn⟩:=ka.mp this
  have bn:v=.ref a:=bn
  subst bn
  refine wpAny_pyNext_values_item ⟨w,e,aP⟩ (t2 aj x) aS λam hit aW=>?_
  obtain⟨bA,bt,f8⟩:=hit
  exact h _ am aj.toks bA aW bt f8 λX h=>.ref a
 ·have cI:=iw List.length aN
  rw[bD,bD] at cI
  refine j7 (wpAny_pyNext_values_end bj ⟨w,e,aP⟩ (t2 aj x) ?_ λam al ar=>h am aj.toks al ar)
  have:=pS.mp hd
  rw[bD] at this
  exact pS.mpr (by simp_all)
theorem NQ (R:b0 (k+3) D) (e9:D.frames=some l) (F:ek l (eV B A t) o) (C:Base Q U o.heap) (w:hk B A t o.heap) (aV:t.bM=none) (qI:∀n∈t.ns,∀x∈n.ah.succ,x∈t.ns.map (·.ah.nm)/\br n.ah.nm < br x) (ar:t.ns.length<=800):
  codeAny (model B A) D (.call (.ref 149) ⟨[.ref t.T],[]⟩) (λr y=>r=.ok (.ret .none)/\cp λa dD=>hx (el (du l) o dD) (es (eV B A t) dD y) (hk B A {t with bM:=some (a,g0 (t.ns.map (·.ah)))} y.heap) (s0 B A o y t {t with bM:=some (a,g0 (t.ns.map (·.ah)))})) o:=by
 refine oF λG dt=>?_
 refine Fn (ai:=[]) Lu ["self"] R.room C w (λ_ q=>(b9 q).elim) (GZ C) rfl rfl rfl rfl (λbs cd=>rfl) rfl (by decide) (by decide) λaj s al bb bc=>?_
 have c9:=R.deeper s
 have bj:(D.deeper s).handled=Option.none:=c9.h
 have nr:(D.deeper s).frames=some (s::l):=u5 e9
 refine fF bc (c:=false) (bL.isNotNone (bi.d0 (X:=[]) (t:=t) bc (bc.ev (x:="self") rfl) rfl) (.inl ⟨by refine m aV ?_;rfl,rfl⟩)) λaB aQ=>b8 ?_
 have aQ:=aQ.norm (bp B A t) [] [("self",.ref t.T)] rfl trivial ⟨rfl,trivial⟩
 obtain⟨c3,se,eK⟩:=aQ.owned (pv (X:=[]) (t:=t) rfl)
 obtain⟨aU,ck,Cn,Co,Cp⟩:=id eK
 have Iu:aB.heap.DictAt (strKind B A) t.N (dC t.ns) ck:=⟨c3,aU,se,Cn,Co,Cp⟩
 have wj:247<=t.N:=aQ.xa (pv (X:=[]) (t:=t) rfl)
 have t8:(t.N==sysModules)=false:=xb wj
 have yV:(dC t.ns).map (·.2)=(t.ns.map (·.ae)).map .ref:=by unfold dC;refine m c6 (m c6 ?_);rfl
 have cV:cJ Q U [] aB s (λ_=>none):=(aQ.aI.weak λ_ q=>by cases q).sub λ_ _ q=>by cases q
 have W:=KY (B:=B) (A:=A) (D:=D.deeper s) bj aQ.tabs se wj Iu yV
 have yX:=K0 w.ah
 have Iv:(((t.ns.map (·.ae)).map bT).filter λd=>decide (intOf (pG t.ns (λn=>.int n.ah.np) d)=0)).map (pG t.ns λn=>.str n.ah.nm)=(g0 (t.ns.map (·.ah))).map .str:=by
  unfold g0
  have:∀kx:List co,(∀ab∈kx,ab∈t.ns)->(((kx.map (·.ae)).map bT).filter λd=>decide (intOf (pG t.ns (λn=>.int n.ah.np) d)=0)).map (pG t.ns λn=>.str n.ah.nm)=(((kx.map (·.ah)).filter λd=>decide (d.np=0)).map (·.nm)).map .str:=by
   intro kx
   induction kx with
   |nil=>intro _;rfl
   |cons ab kx ih=>
    intro hm
    have aX:=xL yX (λn=>.int n.ah.np) (hm ab (.head _))
    have a5:=xL yX (λn=>.str n.ah.nm) (hm ab (.head _))
    have Iw:intOf (pG t.ns (λn=>.int n.ah.np) (bT ab.ae))=ab.ah.np:=by refine m aX ?_;rfl
    have ih:=ih λx I=>hm x (.tail _ I)
    by_cases ar:ab.ah.np=0
    ·simp only[dG,fH,Iw,ar,lp,fv,a5]
     refine m ih ?_;rfl
    ·simp only[dG,fH,Iw,ar,ig,fx,fd]
     exact ih
  exact this t.ns λ_ h=>h
 refine mF ((f0.wX (ys:=({L:=bp B A t,az:=dl [],bO:=dl [("self",.ref t.T)]}:bd).Y []) cV (KX (λd=>decide (intOf (pG t.ns (λn=>.int n.ah.np) d)=0)) (pG t.ns λn=>.str n.ah.nm) cV W al rfl (by rfl) (by rfl) (by refine m (bD _) ?_;rewrite[bD];exact aK ‹_› (by decide)) (by intro _;rfl)
  (λax G M a7 h=>Call_method0 (by rfl) (by rfl) ((bi.rQ (X:=[]) (t:=t) aQ (aQ.ev (x:="self") rfl) rfl).ap ax _ _ a7 λb2 c0=>?_))
  (by rfl) (λaY bG=>.inl (by unfold Env.kindOf;refine m bG.names ?_;rfl))
  (λaY bG d hd Y y dr bf=>?_)) (λE aJ=>?_)).ap aB _ _ (an.refl _) λa ax a7 aF pe a0=>?_)
 ·have be:=aQ.step (a7.trans c0)
  have yY:b2.heap.DictOf (strKind B A) t.N (dC t.ns):=be.mT (pv (X:=[]) (t:=t) rfl)
  refine⟨"dict","dict.values",PySem.F.plainAttrs_dict,PySem.F.slot_dict_values,PySem.F.type_dict_values,yY.mapOf.typeIs,yY.mapOf.noDict,?_⟩
  refine callWith_method0 (env:=s) (call_meetsIn PySem.F.slot_dict_values yY.typeIs PySem.F.entry_dict_values (PySem.F.args_dict_values_1 _) (meets_dict_values (strKind B A) t.N t8) ⟨⟨_,yY⟩,?_⟩)
  have fW:an b2 {b2 with heap:=b2.heap.push {cls:=.type "dict_values",data:=.fields #[.ref t.N]}}:=an.push _
  refine wpAny_pyIter_values (d:=t.N) (kvs:=dC t.ns) (ep:=ck) (knd:=strKind B A) ⟨_,dT _ rfl,rfl,rfl⟩ ?_ (h _ _ (c0.trans fW) ⟨rfl,rfl⟩)
  obtain⟨bA,vu,bt,hZ⟩:=Iu
  exact⟨bA,vu,((a7.trans c0).trans fW).keep t.N bA (nM wj) bt,hZ⟩
 ·obtain⟨a,aF,rfl⟩:=bZ.mp hd
  obtain⟨n,au,rfl⟩:=bZ.mp aF
  have yL:∀p,bi B A (D.deeper s) y aY (.Name "i" p) (.ref n.ae):=λp=>bi.MV (H.name bf rfl)
  have n4:=ma (X:=[]) (t:=t) (K:={L:=bp B A t,az:=dl [],bO:=dl [("self",.ref t.T)]}) rfl au _ (.head _)
  have qD:=ma (X:=[]) (t:=t) (K:={L:=bp B A t,az:=dl [],bO:=dl [("self",.ref t.T)]}) rfl au _ (.tail _ (.head _))
  refine⟨fk.one ?_,λ_=>?_⟩
  ·refine m (xL yX (λn=>.int n.ah.np) au) ?_
   exact bL.cmp (Y:=[]) bf.base (H.FQ (aY:=aY) aQ dr (yL _) n4 qD (λw ⟨a,b,e⟩=>⟨_,_,e,rfl,rfl,λX h=>.int _ _⟩) l9 oM) (H.int (Y:=[])) (cH.eq c9 (hC _) (hC _) rfl)
  ·refine m (xL yX (λn=>.str n.ah.nm) au) ?_
   exact H.FQ (aY:=aY) aQ dr (yL _) n4 qD (λw ⟨a,b,e⟩=>⟨_,_,e,rfl,rfl,λX h=>.str _ _⟩) l9 zA
 ·rw[Iv] at aJ
  exact pC _ E aJ
 rw[Iv] at a0
 obtain⟨J,ab,TG,rs⟩:=a0
 have bh:=aQ.add (a:=a) (e:=.lst ((g0 (t.ns.map (·.ah))).map .str)) a7 ⟨aF,pe⟩ ⟨J,ab,TG,rs⟩
 refine(bh.ev (x:="self") rfl).ap ax _ _ (an.refl _) λb2 c0=>?_
 generalize tP:({t with bM:=some (a,g0 (t.ns.map (·.ah)))}:cC)=dd
 have bS:nF (dd.N=t.N) (dd.T=t.T) (dd.cr=t.cr) (dd.ns=t.ns) (dd.bM=some (a,g0 (t.ns.map (·.ah)))):=by refine a9 tP ?_;exact⟨rfl,rfl,rfl,rfl,rfl⟩
 refine(bh.step c0).qW (e4:=fo dd) (bQ:=[]) (T:=t.T) (cr:=t.cr) (.tail _ (.head _)) (bz:=[(a,.lst ((g0 (t.ns.map (·.ah))).map .str)),(t.T,.own (· =b7 194 t.cr []))]) (bY:=(t.N,.own (dv B A (dC t.ns)))::(f5 t.bM++t.ns.flatMap dN)) rfl (λw ⟨r1,sr,im⟩=>⟨4,_,im,by decide,λbA dW=>⟨r1,sr,?_⟩⟩) hD zs λcm bJ=>?_
 ·rw[zT,xf,b3 rfl] at dW
  have:ha dd r1 sr=λ(E:Str)=>if E="_ready_nodes" then some (.ref a) else ha t r1 sr E:=by
   funext E
   refine a9 tP ?_
   by_cases q:E="_ready_nodes"
   ·subst q;refine m (b3 rfl) ?_;exact zT _ _ _
   ·refine m (bI q) ?_;unfold ha;simp only[bI q]
  refine m this ?_;exact dW
 have b6:=bJ.perm (L:=bp B A dd) (by
  refine a9 tP ?_
  show List.Perm ([(t.T,Ent.own (· =b7 194 t.cr [])),(t.cr,.own (fo {t with bM:=some (a,g0 (t.ns.map (·.ah)))})),(t.N,.own (dv B A (dC t.ns)))]++([(a,.lst ((g0 (t.ns.map (·.ah))).map .str))]++t.ns.flatMap dN)) ([(a,.lst ((g0 (t.ns.map (·.ah))).map .str))]++([(t.T,Ent.own (· =b7 194 t.cr [])),(t.cr,.own (fo {t with bM:=some (a,g0 (t.ns.map (·.ah)))})),(t.N,.own (dv B A (dC t.ns)))]++(f5 t.bM++t.ns.flatMap dN)))
  refine m aV ?_
  exact List.perm_append_comm_assoc _ _ _)
 have b6:=b6.norm (bp B A dd) [] [("self",.ref dd.T)] rfl trivial ⟨by refine m bS.2 ?_;rfl,trivial⟩
 have qA:(dd.ns.map (·.ah.nm)).Nodup:=by refine m bS.4 ?_;exact w.eI
 refine⟨dA (kO ?_)⟩
 refine tt b6 (an.refl _) (b6.ev (x:="self") rfl) (j8 (X:=[]) (t:=dd) rfl) (memD (X:=[]) (t:=dd) rfl) (λw ⟨a,b,d⟩=>⟨4,_,d,q5 dd a b (by decide)⟩) hD K8 (λC=>(GO C).fn) (λfK j4=>fZ (a:=⟨[],[]⟩) rfl ⟨an.refl _,?_⟩) (by rfl)
 have c1:=b6.step j4
 have TH:ek (s::l) (eV B A dd) fK:=c1.rt F bb
 refine hg (h4 (MK c9 nr TH c1.aI.base (c1.iC (X:=[]) (t:=dd) rfl qA) (by refine m bS.4 ?_;exact qI) (by refine m bS.4 ?_;exact ar)) λr gS ms=>?_)
 obtain⟨rfl,dD,up1,v4,t9⟩:=ms
 obtain⟨bX,yZ,cS⟩:=c1.up F bb up1
 have cS:=cS.nE (X:=[]) (L:=bp B A dd) (c7:=bp B A dd) rfl v4 t9.led t9.ah (λa aF=>.inl aF)
 refine cS.li (.inl (a8 al rfl)) λgG cT=>bl.out ?_
 subst tP
 refine fF cT (c:=false) (bL.Kd (cT.ev (x:="cycle") rfl)) λlO e8=>b8 (b8 (dt _ _ ⟨rfl,a,bX,yZ,e8.ex,e8.iC (X:=[]) (t:={t with bM:=some (a,g0 (t.ns.map (·.ah)))}) rfl qA,λb aA=>?_⟩))
 have ok:=e8.iC (X:=[]) (t:={t with bM:=some (a,g0 (t.ns.map (·.ah)))}) rfl qA
 have bU:=ok.lt b aA
 rcases e8.own b aA with q|q
 ·exact .inr ⟨by refine a9 yZ.fN.1 ?_;exact q,bU⟩
 ·exact .inl q
end
section
variable {a2:Type} [DecidableEq a2]
noncomputable def d0 (P:List (a2×a2)) (aC:List a2) (t:a2):Bool:=P.all λp=>!decide (p.2=t)||decide (p.1∈aC)
noncomputable def kC (P:List (a2×a2)):Nat->List a2->List a2->List a2
 |0,_,aC=>aC
 |n+1,left,aC=>match left.find? (d0 P aC) with
  |none=>aC
  |some t=>kC P n (left.erase t) (aC++[t])
noncomputable def jK (P:List (a2×a2)) (aG:List a2):List a2:=kC P aG.length aG []
structure Ord (P:List (a2×a2)) (aG:List a2) (br:a2->Nat):Prop where
 ah:aG.Nodup
 mem:∀{a b},(a,b)∈P->a∈aG/\b∈aG
 br:∀{a b},(a,b)∈P->br a < br b
 vj:∀{a b c},(a,b)∈P->(b,c)∈P->(a,c)∈P
 ch:∀{a b c},(a,b)∈P->(a,c)∈P->b=c∨(b,c)∈P∨(c,b)∈P
theorem sS {P:List (a2×a2)} {aC:List a2} {t:a2}:d0 P aC t=true↔∀a,(a,t)∈P->a∈aC:=by
 unfold d0
 rw[d1]
 constructor
 ·intro h a aF
  have:=h _ aF
  simpa using this
 ·intro h p af
  by_cases e:p.2=t
  ·subst e;simp[h p.1 af]
  ·simp[e]
theorem least {P:List (a2×a2)} {br:a2->Nat} (aV:∀{a b},(a,b)∈P->br a < br b) (left:List a2):∀n,∀x∈left,br x<=n->∃t∈left,∀a∈left,(a,t)∉P:=by
 intro n
 induction n with
 |zero=>intro x I au;exact⟨x,I,λa _ h=>by have:=aV h;simp_all⟩
 |succ n ih=>
  intro x I au
  by_cases h:∀a∈left,(a,x)∉P
  ·exact⟨x,I,h⟩
  ·have⟨a,aF,af⟩:∃a,a∈left/\(a,x)∈P:=by
    apply sV
    intro av
    exact h λa aF af=>av ⟨a,aF,af⟩
   have:=aV af
   exact ih a aF (by exact i0 (cz this au))
structure ix (P:List (a2×a2)) (aG left aC:List a2):Prop where
 perm:(aC++left).Perm aG
 fG:aC.Pairwise λx E=>(E,x)∉P
 cl:∀x∈aC,∀E∈left,(E,x)∉P
theorem ix.find {P:List (a2×a2)} {aG left aC:List a2} {br:a2->Nat} (a6:Ord P aG br) (S:ix P aG left aC) (a0:left≠[]):∃t,ce (left.find? (d0 P aC)=some t) (t∈left) (d0 P aC t=true):=by
 obtain⟨x,I⟩:=List.exists_mem_of_ne_nil _ a0
 obtain⟨t,bu,hm⟩:=least (λh=>a6.br h) left _ x I (cG _)
 have aV:d0 P aC t=true:=sS.mpr λa aF=>by
  have:=(S.perm.mem_iff (a:=a)).mpr (a6.mem aF).1
  rcases df.mp this with q|q
  ·exact q
  ·exact absurd aF (hm a q)
 cases e:left.find? (d0 P aC) with
 |none=>exact absurd aV (by simpa using sT.mp e t bu)
 |some u=>exact⟨u,rfl,rL e,by simpa using tj e⟩
theorem ix.step {P:List (a2×a2)} {aG left aC:List a2} {br:a2->Nat} {t:a2} (a6:Ord P aG br) (S:ix P aG left aC) (bu:t∈left) (aV:d0 P aC t=true):ix P aG (left.erase t) (aC++[t]):=by
 have ah:(aC++left).Nodup:=S.perm.nodup_iff.mpr a6.ah
 refine⟨?_,?_,?_⟩
 ·refine List.Perm.trans ?_ S.perm
  refine m (oe _ _ _) ?_
  exact List.Perm.append_left _ (List.perm_cons_erase bu).symm
 ·rw[rv]
  exact⟨S.fG,rg _ _,λx I E aJ=>by simp at aJ;subst aJ;exact S.cl x I _ bu⟩
 ·intro x I E aJ af
  have o6:=List.mem_of_mem_erase aJ
  rcases df.mp I with q|q
  ·exact S.cl x q E o6 af
  ·simp at q;subst q
   have:=sS.mp aV E af
   exact(ia.mp ah).2.2 E this E o6 rfl
theorem ix.run {P:List (a2×a2)} {aG:List a2} {br:a2->Nat} (a6:Ord P aG br):∀(n:Nat) (left aC:List a2),left.length=n->ix P aG left aC->ce ((kC P n left aC).Perm aG) ((kC P n left aC).Pairwise (λx E=>(E,x)∉P)) (aC <+:kC P n left aC)
 |0,left,aC,au,S=>by
  have:left=[]:=q0.mp au
  subst this
  exact⟨by simpa [kC] using S.perm,S.fG,List.prefix_refl _⟩
 |n+1,left,aC,au,S=>by
  obtain⟨t,e,bu,aV⟩:=S.find a6 (by intro q;simp[q] at au)
  have:=ix.run a6 n (left.erase t) (aC++[t]) (by refine m (vc bu) ?_;simp_all) (S.step a6 bu aV)
  rewrite[kC];refine m e ?_
  exact⟨this.1,this.2,List.IsPrefix.trans (List.prefix_append _ _) this.3⟩
theorem ix.start (P:List (a2×a2)) (aG:List a2):ix P aG aG []:=⟨by simp,List.Pairwise.nil,λ_ h=>by cases h⟩
theorem xj {P:List (a2×a2)} {aG:List a2} {br:a2->Nat} (a6:Ord P aG br):(jK P aG).Perm aG:=(ix.run a6 _ _ _ rfl (ix.start P aG)).1
theorem Ap {P:List (a2×a2)} {aG:List a2} {br:a2->Nat} (a6:Ord P aG br):(jK P aG).Pairwise λx E=>(E,x)∉P:=(ix.run a6 _ _ _ rfl (ix.start P aG)).2
theorem Nj {P:List (a2×a2)} {aG:List a2} {br:a2->Nat} (a6:Ord P aG br) {ae:Nat} (fz:ae<=aG.length) (au:∀i k (aH:i < ae) (aN:k < aG.length),i < k->(aG[k],aG[i])∉P):
  ∀d i,i+d=ae->kC P (aG.length - i) (aG.drop i) (aG.take i)=kC P (aG.length - ae) (aG.drop ae) (aG.take ae):=by
 intro d
 induction d with
 |zero=>
  intro i h
  have:i=ae:=h
  subst this
  rfl
 |succ d ih=>
  intro i h
  have aH:i < aG.length:=by exact cz (h▸Nat.lt_add_of_pos_right (Nat.succ_pos d)) fz
  refine a9 (ih (i+1) (by exact(pP i 1 d).trans h)) ?_
  have aV:d0 P (aG.take i) aG[i]=true:=sS.mpr λa aF=>by
   obtain⟨k,aN,e⟩:=oJ (a6.mem aF).1
   subst e
   rcases qV k i with q|q|q
   ·rw[uV];exact⟨k,by exact Nat.lt_min.mpr ⟨q,aN⟩,rfl⟩
   ·subst q;have:=a6.br aF;simp_all
   ·exact absurd aF (au i k (by(subst_vars;first|rfl|simp)) aN q)
  have e:aG.length - i=(aG.length - (i+1))+1:=by exact(Nat.sub_add_cancel (Nat.sub_pos_of_lt aH)).symm
  refine m e ?_;rewrite[kC];refine m (uS aH) ?_
  simp only[mH,aV,List.erase_cons_head]
  refine m (List.take_append_getElem _) ?_;rfl
theorem Ew {P:List (a2×a2)} {aG:List a2} {br:a2->Nat} (a6:Ord P aG br) {ae:Nat} (fz:ae<=aG.length) (au:∀i k (aH:i < ae) (aN:k < aG.length),i < k->(aG[k],aG[i])∉P):(jK P aG).take ae=aG.take ae:=by
 have h:=Nj a6 fz au ae 0 (by simp)
 simp only[Nat.sub_zero,List.drop_zero,List.take_zero] at h
 unfold jK
 refine m h ?_
 have S:ix P aG (aG.drop ae) (aG.take ae):=by
  refine⟨by simp,?_,?_⟩
  ·rw[mX]
   intro i j aH bv y0
   simp only[td] at aH bv
   simp only[List.getElem_take]
   exact au i j (by simp_all) (by exact cz bv (Nat.min_le_right _ _)) y0
  ·intro x I E aJ af
   rw[uV] at I
   rw[List.mem_drop_iff_getElem] at aJ
   obtain⟨i,aH,rfl⟩:=I
   obtain⟨k,aN,rfl⟩:=aJ
   exact au i (ae+k) (by exact cz aH (um _ _)) (by exact ki (di (oj _ _)) aN) (by exact cz (cz aH (um _ _)) (jS _ _)) af
 have:=(ix.run a6 (aG.length - ae) _ _ (by simp) S).3
 have:=List.prefix_iff_eq_take.mp this
 rw[td,uw fz] at this
 exact this.symm
theorem w2 {gf:Type} {l:List gf} (h:l.Nodup) {aH:i < l.length} {bv:j < l.length} (e:l[i]=l[j]):i=j:=by
 have am:=mX.mp h
 rcases qV i j with q|q|q
 ·exact absurd e (am i j aH bv q)
 ·exact q
 ·exact absurd e.symm (am j i bv aH q)
theorem PN {P:List (a2×a2)} {aG:List a2} {br:a2->Nat} (a6:Ord P aG br) {ae k:Nat} (aN:k < aG.length) (qK:ae < k) (af:(aG[k],aG[ae]'(by exact ff ‹_› ‹_›))∈P) (au:∀i k (aH:i < ae) (aN:k < aG.length),i < k->(aG[k],aG[i])∉P):(jK P aG)[ae]?≠some (aG[ae]'(by exact ff ‹_› ‹_›)):=by
 intro e
 have bu:=Ew a6 (ae:=ae) (by exact ew (ff qK aN)) au
 have a0:=(xj a6).length_eq
 have TJ:=Ap a6
 have hm:aG[k]∈jK P aG:=(xj a6).mem_iff.mpr (mP _)
 obtain⟨ab,hm,qw⟩:=oJ hm
 obtain⟨fz,k4⟩:=gL.mp e
 rcases qV ab ae with q|q|q
 ·have:(jK P aG)[ab]=aG[ab]'(by exact Nat.lt_of_lt_of_eq hm a0):=by
   have aX:((jK P aG).take ae)[ab]?=(aG.take ae)[ab]?:=by exact m bu rfl
   rw[wY,wY,b3 q,b3 q,d4 hm,d4 (by exact a0▸hm)] at aX
   exact m4 aX
  rw[qw] at this
  have:=w2 a6.ah this
  exact ey _ (ff (this▸qK) q)
 ·subst q
  rw[qw] at k4
  have:=w2 a6.ah k4
  exact absurd this (Nat.ne_of_gt qK)
 ·have:=mX.mp TJ ae ab fz hm q
  rw[qw,k4] at this
  exact this af
end
noncomputable abbrev fr:=List (Str×Str)
noncomputable def cnt (P:fr) (aC:List Str) (x:Str):Nat:=(P.filter λp=>decide (p.2=x)&&!decide (p.1∈aC)).length
theorem Fi {aC:List Str}:cnt P aC x=0↔d0 P aC x=true:=by
 unfold cnt d0
 rw[q0,tr,d1]
 constructor
 ·intro h p af
  have:=h p af
  simp only[iR,lX] at this
  by_cases e:p.2=x
  ·by_cases ab:p.1∈aC
   ·simp[ab]
   ·exact absurd ⟨by simpa using e,by simpa using ab⟩ this
  ·simp[e]
 ·intro h p af
  have:=h p af
  simp only[Bool.or_eq_true,lX,h8,wT] at this
  simp only[iR,lX,h8,wT,not_and,Decidable.not_not]
  intro e
  rcases this with q|q
  ·exact absurd e q
  ·exact q
theorem xK (au:P.Nodup) {aC:List Str} {t:Str} (bu:t∉aC):cnt P (aC++[t]) x+(if(t,x)∈P then 1 else 0)=cnt P aC x:=by
 unfold cnt
 induction P with
 |nil=>simp
 |cons p P ih=>
  rw[fO] at au
  have ih:=ih au.2
  refine m fH (m fH ?_)
  by_cases e:p=(t,x)
  ·subst e
   have aX:(decide ((t,x).2=x)&&!decide ((t,x).1∈aC++[t]))=false:=by simp
   have a5:(decide ((t,x).2=x)&&!decide ((t,x).1∈aC))=true:=by simp[bu]
   refine m aX (m a5 ?_)
   simp only[fx,fd,fv,hE,bP,true_or]
   rw[bI au.1] at ih
   exact Nat.add_left_inj.mpr ih
  ·have cu:((t,x)∈p::P)↔(t,x)∈P:=by
    rw[bP]
    exact⟨λh=>h.elim (λq=>absurd q.symm e) id,.inr⟩
   have ej:(decide (p.2=x)&&!decide (p.1∈aC++[t]))=(decide (p.2=x)&&!decide (p.1∈aC)):=by
    by_cases q:p.2=x
    ·have:p.1≠t:=λz=>e (Prod.ext z q)
     simp[this]
    ·simp[q]
   refine m ej ?_
   simp only[cu]
   split
   ·simp only[hE];exact(pP _ 1 _).trans (iw (· +1) ih)
   ·exact ih
structure kI (P:fr) (fa:List Str) (g:List cj) (aC given bo:List Str):Prop where
 nm:g.map (·.nm)=fa
 h6:∀d∈g,d.succ.Nodup/\∀x,x∈d.succ↔(d.nm,x)∈P
 np:∀d∈g,d.np=if d.nm∈aC then -2 else if d.nm∈given then -1 else(cnt P aC d.nm:Int)
 pQ:given.Nodup
 s3:∀x∈given,x∈fa/\cnt P aC x=0
 oL:bo.Nodup
 oK:∀x,x∈bo↔ce (x∈fa) (x∉given) (cnt P aC x=0)
 he:∀x∈aC,x∈given
theorem kI.get {g:List cj} {aC:List Str} (h:kI P fa g aC given bo):kI P fa (iA g bo) aC (given++bo) []:=by
 refine⟨by rw[zM];exact h.nm,λd hd=>?_,λd hd=>?_,?_,λx I=>?_,hM,λx=>?_,λx I=>e2 _ (h.he x I)⟩
 ·unfold iA at hd
  obtain⟨e,al,rfl⟩:=bZ.mp hd
  have:=h.h6 e al
  split<;>exact this
 ·unfold iA at hd
  obtain⟨e,al,rfl⟩:=bZ.mp hd
  have:=h.np e al
  by_cases aV:e.nm∈bo
  ·refine m (b3 aV) ?_
   have qL:=((h.oK e.nm).mp aV).2
   show(-1:Int)=if e.nm∈aC then -2 else if e.nm∈given++bo then -1 else _
   exact m (bI λq=>qL (h.he _ q)) (m (b3 (ez _ aV)) rfl)
  ·refine m (bI aV) (m this ?_)
   by_cases q:e.nm∈aC
   ·refine m (b3 q) (m (b3 q) ?_);rfl
   ·refine m (bI q) (m (bI q) ?_)
    by_cases ij:e.nm∈given
    ·refine m (b3 ij) (m (b3 (e2 _ ij)) ?_);rfl
    ·refine m (bI ij) (m (bI λz=>(df.mp z).elim ij aV) ?_);rfl
 ·rw[ia]
  exact⟨h.pQ,h.oL,λa aF b aA=>by rintro rfl;exact((h.oK a).mp aA).2 aF⟩
 ·rcases df.mp I with q|q
  ·exact h.s3 x q
  ·have:=(h.oK x).mp q
   exact⟨this.1,this.3⟩
 ·constructor
  ·intro q;cases q
  ·rintro⟨a,b,c⟩
   have:x∈bo:=(h.oK x).mpr ⟨a,λq=>b (e2 _ q),c⟩
   exact absurd (ez _ this) b
theorem Ex {g:List cj}:∀(S:List Str) (g:List cj) (bo:List Str),(g.map (·.nm)).Nodup->S.Nodup->(∀x∈S,x∈g.map (·.nm))->
  S.foldl kd (g,bo)=(g.map (λd=>if d.nm∈S then {d with np:=d.np - 1} else d),bo++S.filter λx=>decide (gM g x - 1=0))
 |[],g,bo,_,_,_=>by
  simp
 |q::S,g,bo,au,e7,hm=>by
  rw[fO] at e7
  have qL:((setG g q (gM g q - 1)).map (·.nm)).Nodup:=by refine m (ut _ _ _) ?_;exact au
  have step:(q::S).foldl kd (g,bo)=S.foldl kd (setG g q (gM g q - 1),if gM g q - 1=0 then bo++[q] else bo):=rfl
  refine m step (m (Ex (g:=g) S _ _ qL e7.2 λx I=>by refine m (ut _ _ _) ?_;exact hm x (.tail _ I)) ?_)
  have ky:∀d∈g,gM g d.nm=d.np:=by
   have:∀g:List cj,(g.map (·.nm)).Nodup->∀d∈g,gM g d.nm=d.np:=by
    intro g
    induction g with
    |nil=>intro _ d hd;cases hd
    |cons a l ih=>
     intro h d hd
     rw[dG,fO] at h
     unfold gM
     refine m mH ?_
     by_cases e:a.nm=d.nm
     ·rcases bP.mp hd with rfl|hd
      ·simp
      ·exact absurd (bZ.mpr ⟨d,hd,rfl⟩) (e▸h.1)
     ·rcases bP.mp hd with rfl|hd
      ·exact absurd rfl e
      ·simp only[e,ig]
       exact ih h.2 d hd
   exact this g au
  have TK:∀x,x≠q->gM (setG g q (gM g q - 1)) x=gM g x:=λx I=>by
   unfold gM setG
   refine m List.find?_map ?_
   have e:((λd:cj=>decide (d.nm=x))∘λd=>if d.nm=q then {d with np:=((g.find? λd=>decide (d.nm=q)).map (·.np)).getD 0 - 1} else d)=λd=>decide (d.nm=x):=by
    funext d
    simp only[Function.comp]
    split<;>rfl
   refine m e (m (Option.map_map _ _ _) ?_)
   cases f:g.find? λd=>decide (d.nm=x) with
   |none=>rfl
   |some d=>
    have:=tj f
    have hd:d.nm=x:=by simpa using this
    simp only[Option.map_some,Option.getD_some,Function.comp]
    refine m (bI (by refine m hd ?_;exact I)) ?_;rfl
  refine Prod.ext ?_ ?_
  ·show(setG g q (gM g q - 1)).map _=g.map _
   unfold setG
   refine m c6 ?_
   refine gr λd hd=>?_
   simp only[Function.comp,bP]
   by_cases e:d.nm=q
   ·refine m (b3 e) ?_
    have:d.nm∉S:=by refine m e ?_;exact e7.1
    simp only[this,fd,e,true_or,fv]
    refine m (bI e7.1) ?_
    have:=ky d hd
    rw[e] at this
    refine m this ?_;rfl
   ·refine m (bI e) ?_
    simp only[e,false_or]
  ·show(if gM g q - 1=0 then bo++[q] else bo)++S.filter _=bo++(q::S).filter _
   refine m fH ?_
   have r0:S.filter (λx=>decide (gM (setG g q (gM g q - 1)) x - 1=0))=S.filter λx=>decide (gM g x - 1=0):=
    tu λx I=>by exact m (TK x λz=>e7.1 (z▸I)) rfl
   refine m r0 ?_
   by_cases z:gM g q - 1=0
   ·simp[z]
   ·simp[z]
theorem kI.done {g:List cj} {aC:List Str} {t:Str} {br:Str->Nat} (b1:P.Nodup) (aV:∀{a b},(a,b)∈P->br a < br b) (CP:∀{a b},(a,b)∈P->a∈fa/\b∈fa) (t8:fa.Nodup) (h:kI P fa g aC given []) (TL:t∈given) (mr:t∉aC) (ss:f6∈g) (wk:f6.nm=t):
  kI P fa (f6.succ.foldl kd (setG g t (-2),[])).1 (aC++[t]) given (f6.succ.foldl kd (setG g t (-2),[])).2:=by
 have CQ:=h.h6 f6 ss
 have wl:∀x,x∈f6.succ↔(t,x)∈P:=λx=>by rewrite[CQ.2 x];exact m wk Iff.rfl
 have Ix:((setG g t (-2)).map (·.nm)).Nodup:=by rewrite[ut];refine m h.nm ?_;exact t8
 have dF:∀x∈f6.succ,x∈(setG g t (-2)).map (·.nm):=λx I=>by refine m (ut _ _ _) (m h.nm ?_);exact(CP ((wl x).mp I)).2
 refine m (Ex (g:=g) f6.succ _ _ Ix CQ.1 dF) ?_
 have qL:∀x,(t,x)∈P->x∉given:=λx I q=>by
  have aX:=(h.s3 x q).2
  have a5:=xK b1 (x:=x) mr
  rw[b3 I] at a5
  simp_all
 have cE:∀x,(t,x)∈P->x≠t:=λx I e=>by
  have:=aV I
  rw[e] at this
  exact ey _ this
 have Iy:∀x,(t,x)∈P->gM (setG g t (-2)) x=(cnt P aC x:Int):=λx I=>by
  have Iz:=(CP I).2
  rw[<-h.nm] at Iz
  obtain⟨d,hd,e⟩:=bZ.mp Iz
  have nl:(if d.nm=t then {d with np:=(-2:Int)} else d)∈setG g t (-2):=d9 (f:=λd=>if d.nm=t then {d with np:=(-2:Int)} else d) hd
  rw[bI (by refine m e ?_;exact cE x I)] at nl
  have gen:∀g:List cj,(g.map (·.nm)).Nodup->∀d∈g,gM g d.nm=d.np:=by
   intro g
   induction g with
   |nil=>intro _ d hd;cases hd
   |cons a l ih=>
    intro h d hd
    rw[dG,fO] at h
    unfold gM
    refine m mH ?_
    by_cases e:a.nm=d.nm
    ·rcases bP.mp hd with rfl|hd
     ·simp
     ·exact absurd (bZ.mpr ⟨d,hd,rfl⟩) (e▸h.1)
    ·rcases bP.mp hd with rfl|hd
     ·exact absurd rfl e
     ·simp only[e,ig]
      exact ih h.2 d hd
  refine a9 e (m (gen _ Ix d nl) (m (h.np d hd) (m e (m (bI λq=>qL x I (h.he x q)) (m (bI (qL x I)) ?_)))));rfl
 refine⟨?_,λd hd=>?_,λd hd=>?_,h.pQ,λx I=>?_,?_,λx=>?_,λx I=>?_⟩
 ·show((setG g t (-2)).map _).map _=fa
  refine m c6 (a9 h.nm (a9 (ut g t (-2)) ?_))
  exact gr λd _=>by simp only[Function.comp];split<;>rfl
 ·obtain⟨e,al,rfl⟩:=bZ.mp hd
  unfold setG at al
  obtain⟨bt,wi,rfl⟩:=bZ.mp al
  have:=h.h6 bt wi
  by_cases q:bt.nm=t
  ·refine m (b3 q) ?_;split<;>exact this
  ·refine m (bI q) ?_;split<;>exact this
 ·obtain⟨e,al,rfl⟩:=bZ.mp hd
  unfold setG at al
  obtain⟨bt,wi,rfl⟩:=bZ.mp al
  have ky:=h.np bt wi
  have av:=xK b1 (x:=bt.nm) mr
  by_cases q:bt.nm=t
  ·have aX:bt.nm∉f6.succ:=λz=>cE _ ((wl _).mp z) q
   refine m (b3 q) ?_
   refine m (bI aX) ?_
   show(-2:Int)=if bt.nm∈aC++[t] then -2 else _
   exact m (b3 (by simp[q])) rfl
  ·refine m (bI q) ?_
   by_cases aX:bt.nm∈f6.succ
   ·have I:=(wl _).mp aX
    have bW:=qL _ I
    refine m (b3 aX) ?_
    rw[b3 I] at av
    rw[bI λz=>bW (h.he _ z),bI bW] at ky
    show bt.np - 1=if bt.nm∈aC++[t] then -2 else if bt.nm∈given then -1 else(cnt P (aC++[t]) bt.nm:Int)
    refine m (bI (by intro z;rcases df.mp z with z|z;exact bW (h.he _ z);exact q (by simpa using z))) (m (bI bW) (m ky ?_))
    exact Int.sub_eq_iff_eq_add.mpr (iw Nat.cast (id (Eq.symm av)))
   ·have I:(t,bt.nm)∉P:=λz=>aX ((wl _).mpr z)
    refine m (bI aX) (m ky ?_)
    rw[bI I] at av
    have bV:bt.nm∈aC++[t]↔bt.nm∈aC:=by simp[q]
    simp only[bV]
    have:cnt P (aC++[t]) bt.nm=cnt P aC bt.nm:=by exact av
    refine m this ?_;rfl
 ·have:=h.s3 x I
  have av:=xK b1 (x:=x) mr
  exact⟨this.1,by simp_all⟩
 ·exact vo (mU) CQ.1
 ·show x∈([]:List Str)++f6.succ.filter _↔_
  refine m (pn _) ?_;rewrite[eY,wl]
  have av:=xK b1 (x:=x) mr
  constructor
  ·rintro⟨I,ar⟩
   rw[Iy x I] at ar
   rw[b3 I] at av
   have ar:(cnt P aC x:Int) - 1=0:=by simpa using ar
   exact⟨(CP I).2,qL x I,by exact Nat.succ.inj (av.trans (Int.ofNat.inj (Int.sub_eq_zero.mp ar)))⟩
  ·rintro⟨aX,a5,cu⟩
   have I:(t,x)∈P:=by
    apply sV
    intro I
    rw[bI I] at av
    have:=(h.oK x).mpr ⟨aX,a5,by simp_all⟩
    cases this
   refine⟨I,?_⟩
   refine m (Iy x I) ?_
   rw[b3 I] at av
   simp only[h8]
   exact Int.sub_eq_zero.mpr (iw Int.ofNat (av.symm.trans (iw (· +1) cu)))
 ·rcases df.mp I with q|q
  ·exact h.he x q
  ·refine m (cn.mp q) ?_;exact TL
noncomputable def gm (P:fr) (x:Str):List Str:=(P.filter λp=>decide (p.2=x)).map (·.1)
theorem zt {a:Str}:a∈gm P x↔(a,x)∈P:=by
 unfold gm
 rw[bZ]
 constructor
 ·rintro⟨p,af,rfl⟩
  rw[eY] at af
  have:p.2=x:=by simpa using af.2
  refine a9 this ?_;exact af.1
 ·intro h
  exact⟨(a,x),eY.mpr ⟨h,by simp⟩,rfl⟩
theorem N0 (h:P.Nodup) (x:Str):(gm P x).Nodup:=by
 unfold gm
 have a5:=vo (mU (p:=λp:Str×Str=>decide (p.2=x))) h
 have cu:∀p∈P.filter (λp:Str×Str=>decide (p.2=x)),p.2=x:=λp af=>by simpa using(eY.mp af).2
 generalize P.filter (λp:Str×Str=>decide (p.2=x))=l at a5 cu
 induction l with
 |nil=>exact hM
 |cons a l ih=>
  rw[fO] at a5
  refine m dG ?_;rewrite[fO]
  refine⟨λq=>?_,ih a5.2 λp af=>cu p (.tail _ af)⟩
  obtain⟨b,aA,e⟩:=bZ.mp q
  have:b=a:=Prod.ext e (by exact m (cu b (.tail _ aA)) (m (cu a (.head _)) rfl))
  exact a5.1 (this▸aA)
theorem cnt_nil (P:fr) (x:Str):cnt P [] x=(gm P x).length:=by
 unfold cnt gm
 refine m (bD _) ?_
 congr 1
 exact tu λp _=>by simp
noncomputable def g1 (P:fr) (aG:List Str):List cj:=aG.foldl (λg x=>sZ g x (gm P x)) []
structure kh (P:fr) (aG pre:List Str) (g:List cj):Prop where
 ah:(g.map (·.nm)).Nodup
 sub:∀x∈g.map (·.nm),x∈aG
 has:∀x∈pre,x∈g.map (·.nm)
 cl:∀x∈pre,∀a,(a,x)∈P->a∈g.map (·.nm)
 np:∀d∈g,d.np=if d.nm∈pre then((gm P d.nm).length:Int) else 0
 h6:∀d∈g,d.succ.Nodup/\∀x,x∈d.succ↔x∈pre/\(d.nm,x)∈P
theorem u8 {g:List cj} {n:Str}:∀x,x∈(eT g n).map (·.nm)↔x∈g.map (·.nm)∨x=n:=by
 intro x
 unfold eT
 split
 ·rename_i h
  exact⟨.inl,λq=>q.elim id λe=>e▸h⟩
 ·simp
theorem FH {g:List cj} {n:Str} (h:(g.map (·.nm)).Nodup):((eT g n).map (·.nm)).Nodup:=by
 unfold eT
 split
 ·exact h
 ·rename_i au
  refine m d3 ?_;rewrite[ia]
  exact⟨h,by simp,λa aF b aA=>by
   have:b=n:=by simpa using aA
   refine m this ?_;rintro rfl;exact au aF⟩
theorem xR (g:List cj) (n:Str) (k:Int):(j9 g n k).map (·.nm)=g.map (·.nm):=by
 unfold j9
 refine m c6 ?_
 exact gr λd _=>by simp only[Function.comp];split<;>rfl
theorem Gi (g:List cj) (p n:Str):(iS g p n).map (·.nm)=g.map (·.nm):=by
 unfold iS
 refine m c6 ?_
 exact gr λd _=>by simp only[Function.comp];split<;>rfl
structure oy (P:fr) (aG pre G:List Str) (x:Str) (g:List cj):Prop where
 ah:(g.map (·.nm)).Nodup
 sub:∀E∈g.map (·.nm),E∈aG
 has:∀E∈pre++[x],E∈g.map (·.nm)
 cl:∀E∈pre,∀a,(a,E)∈P->a∈g.map (·.nm)
 AJ:∀a∈G,a∈g.map (·.nm)
 np:∀d∈g,d.np=if d.nm∈pre++[x] then((gm P d.nm).length:Int) else 0
 h6:∀d∈g,d.succ.Nodup/\∀E,E∈d.succ↔(E∈pre/\(d.nm,E)∈P)∨(E=x/\d.nm∈G)
theorem oy.step {G:List Str} {p:Str} {g:List cj} (h:oy P aG pre G x g) (I:x∉pre) (af:p∈aG) (CR:p∉G):oy P aG pre (G++[p]) x (iS (eT g p) p x):=by
 have nm:∀E,E∈(iS (eT g p) p x).map (·.nm)↔E∈g.map (·.nm)∨E=p:=λE=>by refine m (Gi _ _ _) ?_;exact u8 E
 have TM:∀d∈eT g p,d.np=if d.nm∈pre++[x] then((gm P d.nm).length:Int) else 0:=λd hd=>by
  unfold eT at hd
  split at hd
  ·exact h.np d hd
  ·rename_i au
   rcases df.mp hd with q|q
   ·exact h.np d q
   ·refine m (cn.mp q) ?_
    show(0:Int)=if p∈pre++[x] then _ else 0
    exact m (bI λz=>au (h.has p z)) rfl
 have TN:∀d∈eT g p,d.succ.Nodup/\∀E,E∈d.succ↔(E∈pre/\(d.nm,E)∈P)∨(E=x/\d.nm∈G):=λd hd=>by
  unfold eT at hd
  split at hd
  ·exact h.h6 d hd
  ·rename_i au
   rcases df.mp hd with q|q
   ·exact h.h6 d q
   ·refine m (cn.mp q) ?_
    refine⟨hM,λE=>⟨λz=>(by cases z),?_⟩⟩
    rintro(⟨aX,a5⟩|⟨rfl,a5⟩)
    ·exact absurd (h.cl E aX p a5) au
    ·exact absurd (h.AJ p a5) au
 refine⟨by rw[Gi];exact FH h.ah,λE aJ=>?_,λE aJ=>(nm E).mpr (.inl (h.has E aJ)),λE aJ a aF=>(nm a).mpr (.inl (h.cl E aJ a aF)),λa aF=>?_,λd hd=>?_,λd hd=>?_⟩
 ·rcases(nm E).mp aJ with q|rfl
  ·exact h.sub E q
  ·exact af
 ·rcases df.mp aF with q|q
  ·exact(nm a).mpr (.inl (h.AJ a q))
  ·exact(nm a).mpr (.inr (cn.mp q))
 ·unfold iS at hd
  obtain⟨e,al,rfl⟩:=bZ.mp hd
  have:=TM e al
  split<;>exact this
 ·unfold iS at hd
  obtain⟨e,al,rfl⟩:=bZ.mp hd
  have:=TN e al
  by_cases q:e.nm=p
  ·refine m (b3 q) ?_
   refine⟨?_,λE=>?_⟩
   ·rw[ia]
    refine⟨this.1,by simp,λa aF b aA=>?_⟩
    refine m (cn.mp aA) ?_
    rintro rfl
    rcases(this.2 a).mp aF with⟨aX,_⟩|⟨_,a5⟩
    ·exact I aX
    ·rw[q] at a5;exact CR a5
   ·show E∈e.succ++[x]↔(E∈pre/\(e.nm,E)∈P)∨(E=x/\e.nm∈G++[p])
    rw[df,this.2 E,cn,df,cn]
    simp only[q,or_true,and_true]
    constructor
    ·rintro((z|⟨z,_⟩)|z)
     ·exact .inl z
     ·exact .inr z
     ·exact .inr z
    ·rintro(z|z)
     ·exact .inl (.inl z)
     ·exact .inr z
  ·refine m (bI q) ?_
   refine⟨this.1,λE=>?_⟩
   rw[this.2 E]
   simp[q]
theorem oy.fold (I:x∉pre):∀(bg G:List Str) (g:List cj),oy P aG pre G x g->(G++bg).Nodup->(∀p∈bg,p∈aG)->oy P aG pre (G++bg) x (bg.foldl (λg p=>iS (eT g p) p x) g)
 |[],G,g,h,_,_=>by refine m (iy _) ?_;exact h
 |p::bg,G,g,h,au,hm=>by
  have CR:p∉G:=λq=>(ia.mp au).2.2 p q p (.head _) rfl
  have:=oy.fold I bg (G++[p]) _ (h.step I (hm p (.head _)) CR) (by simpa using au) λE aJ=>hm E (.tail _ aJ)
  rw[oe] at this
  exact this
theorem kh.step {g:List cj} (b1:P.Nodup) (hm:∀{a b},(a,b)∈P->a∈aG/\b∈aG) (h:kh P aG pre g) (I:x∉pre) (CS:x∈aG):kh P aG (pre++[x]) (sZ g x (gm P x)):=by
 have CT:∀d∈eT g x,d.np=if d.nm∈pre then((gm P d.nm).length:Int) else 0:=λd hd=>by
  unfold eT at hd
  split at hd
  ·exact h.np d hd
  ·rename_i au
   rcases df.mp hd with q|q
   ·exact h.np d q
   ·refine m (cn.mp q) ?_
    show(0:Int)=if x∈pre then _ else 0
    exact m (bI I) rfl
 have TO:oy P aG pre [] x (j9 (eT g x) x (gm P x).length):=by
  refine⟨by rw[xR];exact FH h.ah,λE aJ=>?_,λE aJ=>?_,λE aJ a aF=>?_,λa aF=>(by cases aF),λd hd=>?_,λd hd=>?_⟩
  ·rw[xR] at aJ
   rcases(u8 E).mp aJ with q|rfl
   ·exact h.sub E q
   ·exact CS
  ·refine m (xR _ _ _) ?_
   rcases df.mp aJ with q|q
   ·exact(u8 E).mpr (.inl (h.has E q))
   ·exact(u8 E).mpr (.inr (cn.mp q))
  ·refine m (xR _ _ _) ?_;exact(u8 a).mpr (.inl (h.cl E aJ a aF))
  ·unfold j9 at hd
   obtain⟨e,al,rfl⟩:=bZ.mp hd
   have:=CT e al
   by_cases q:e.nm=x
   ·refine m (b3 q) ?_
    show e.np+((gm P x).length:Int)=if e.nm∈pre++[x] then((gm P e.nm).length:Int) else 0
    refine m this (m (bI (by refine m q ?_;exact I)) (m (b3 (by simp[q])) (m q ?_)))
    simp
   ·refine m (bI q) (m this ?_)
    have:e.nm∈pre++[x]↔e.nm∈pre:=by simp[q]
    simp only[this]
  ·unfold j9 at hd
   obtain⟨e,al,rfl⟩:=bZ.mp hd
   have key:∀e∈eT g x,e.succ.Nodup/\∀E,E∈e.succ↔(E∈pre/\(e.nm,E)∈P)∨(E=x/\e.nm∈([]:List Str)):=λe al=>by
    unfold eT at al
    split at al
    ·have:=h.h6 e al
     exact⟨this.1,λE=>by rw[this.2 E];simp⟩
    ·rename_i au
     rcases df.mp al with q|q
     ·have:=h.h6 e q
      exact⟨this.1,λE=>by rw[this.2 E];simp⟩
     ·refine m (cn.mp q) ?_
      refine⟨hM,λE=>⟨λz=>(by cases z),?_⟩⟩
      rintro(⟨aX,a5⟩|⟨_,a5⟩)
      ·exact absurd (h.cl E aX x a5) au
      ·cases a5
   have:=key e al
   split<;>exact this
 have j:=oy.fold I (gm P x) [] _ TO (by simpa using N0 b1 x) λp af=>(hm (zt.mp af)).1
 rw[pn] at j
 refine⟨j.ah,j.sub,j.has,λE aJ a aF=>?_,j.np,λd hd=>⟨(j.h6 d hd).1,λE=>?_⟩⟩
 ·rcases df.mp aJ with q|q
  ·exact j.cl E q a aF
  ·rw[cn.mp q] at aF
   exact j.AJ a (zt.mpr aF)
 ·rw[(j.h6 d hd).2 E,df,cn,zt]
  constructor
  ·rintro(⟨a,b⟩|⟨rfl,b⟩)
   ·exact⟨.inl a,b⟩
   ·exact⟨.inr rfl,b⟩
  ·rintro⟨a|rfl,b⟩
   ·exact .inl ⟨a,b⟩
   ·exact .inr ⟨rfl,b⟩
theorem kh.fold (b1:P.Nodup) (hm:∀{a b},(a,b)∈P->a∈aG/\b∈aG):∀(ag pre:List Str) (g:List cj),kh P aG pre g->(pre++ag).Nodup->(∀x∈ag,x∈aG)->kh P aG (pre++ag) (ag.foldl (λg x=>sZ g x (gm P x)) g)
 |[],pre,g,h,_,_=>by refine m (iy _) ?_;exact h
 |x::ag,pre,g,h,au,I=>by
  have CT:x∉pre:=λq=>(ia.mp au).2.2 x q x (.head _) rfl
  have:=kh.fold b1 hm ag (pre++[x]) _ (h.step b1 hm CT (I x (.head _))) (by simpa using au) λE aJ=>I E (.tail _ aJ)
  rw[oe] at this
  exact this
theorem kh.start (P:fr) (aG:List Str):kh P aG [] []:=⟨hM,λx h=>(by cases h),λx h=>(by cases h),λx h=>(by cases h),λx h=>(by cases h),λx h=>(by cases h)⟩
theorem P0 (P:fr) (aG:List Str) (i:Nat) (x:Str) (aH:aG[i]?=some x):g1 P (aG.take (i+1))=sZ (g1 P (aG.take i)) x (gm P x):=by
 unfold g1
 refine m kf (m aH ?_)
 simp[pM]
theorem kI.start (b1:P.Nodup) (hm:∀{a b},(a,b)∈P->a∈aG/\b∈aG) (au:aG.Nodup):
  ce (kI P ((g1 P aG).map (·.nm)) (g1 P aG) [] [] (g0 (g1 P aG))) (∀x,x∈(g1 P aG).map (·.nm)↔x∈aG) (((g1 P aG).map (·.nm)).Nodup):=by
 have h:=kh.fold b1 hm aG [] [] (kh.start P aG) (by simpa using au) λx I=>I
 rw[pn] at h
 have h:kh P aG aG (g1 P aG):=h
 refine⟨⟨rfl,λd hd=>⟨(h.h6 d hd).1,λx=>?_⟩,λd hd=>?_,hM,λx I=>(by cases I),?_,λx=>?_,λx I=>(by cases I)⟩,λx=>⟨h.sub x,h.has x⟩,h.ah⟩
 ·rw[(h.h6 d hd).2 x]
  exact⟨λq=>q.2,λq=>⟨(hm q).2,q⟩⟩
 ·have:d.nm∈aG:=h.sub _ (d9 (f:=(·.nm)) hd)
  refine m (h.np d hd) (m (b3 this) (m (bI (by simp)) (m (bI (by simp)) ?_)));rw[cnt_nil]
 ·unfold g0
  exact vo (List.Sublist.map _ mU) h.ah
 ·unfold g0
  rw[bZ]
  constructor
  ·rintro⟨d,hd,rfl⟩
   rw[eY] at hd
   have aX:=h.np d hd.1
   have ar:d.np=0:=by simpa using hd.2
   have:d.nm∈aG:=h.sub _ (d9 (f:=(·.nm)) hd.1)
   rw[b3 this,ar] at aX
   exact⟨d9 (f:=(·.nm)) hd.1,by simp,by rw[cnt_nil];exact Int.ofNat_eq_zero.mp (id (Eq.symm aX))⟩
  ·rintro⟨aX,_,cu⟩
   obtain⟨d,hd,rfl⟩:=bZ.mp aX
   have:d.nm∈aG:=h.sub _ aX
   have ky:=h.np d hd
   rw[b3 this] at ky
   rw[cnt_nil] at cu
   exact⟨d,eY.mpr ⟨hd,by simp;simp_all⟩,rfl⟩
theorem F7 {a2:Type} [DecidableEq a2]:∀{l ab:List a2},l.Nodup->ab.Nodup->(∀x,x∈l↔x∈ab)->l.Perm ab
 |[],ab,_,_,h=>by
  have:ab=[]:=List.eq_nil_iff_forall_not_mem.mpr λx I=>by have:=(h x).mpr I;cases this
  refine m this ?_;rfl
 |a::l,ab,a0,hm,h=>by
  rw[fO] at a0
  have oX:a∈ab:=(h a).mp (.head _)
  refine List.Perm.trans (List.Perm.cons a (F7 a0.2 (hm.erase a) λx=>?_)) (List.perm_cons_erase oX).symm
  rw[hm.mem_erase_iff]
  constructor
  ·intro I
   exact⟨λe=>a0.1 (e▸I),(h x).mp (.tail _ I)⟩
  ·rintro⟨cE,I⟩
   rcases bP.mp ((h x).mpr I) with q|q
   ·exact absurd q cE
   ·exact q
theorem mZ {a2:Type} [DecidableEq a2]:∀{l ab:List a2},l.Nodup->(∀x∈l,x∈ab)->l.length<=ab.length
 |[],_,_,_=>lU _
 |a::l,ab,a0,h=>by
  rw[fO] at a0
  have oX:=h a (.head _)
  have:=mZ (l:=l) (ab:=ab.erase a) a0.2 λx I=>(List.mem_erase_of_ne (λ(e:x=a)=>a0.1 (e▸I))).mpr (h x (.tail _ I))
  rw[vc oX] at this
  have af:0 < ab.length:=xB oX
  simp only[hE]
  exact Nat.add_le_of_le_sub af this
structure kF (P:fr) (aG fa:List Str) (g:List cj) (aC given bo left:List Str):Prop where
 gc:kI P fa g aC given bo
 rs:ix P aG left aC
 oL:kC P left.length left aC=jK P aG
theorem kF.ah {g:List cj} {aC left:List Str} {br:Str->Nat} (a6:Ord P aG br) (h:kF P aG fa g aC given bo left):(aC++left).Nodup:=h.rs.perm.nodup_iff.mpr a6.ah
theorem kF.Ng {g:List cj} {aC left:List Str} {br:Str->Nat} (a6:Ord P aG br) (eK:∀x,x∈fa↔x∈aG) (h:kF P aG fa g aC given bo left):
  (decide ((aC.length:Int) < (given.length:Int))||!bo.isEmpty)=!left.isEmpty:=by
 have ah:=h.ah a6
 have TP:aC.Nodup:=(ia.mp ah).1
 cases a0:left with
 |nil=>
  have all:∀x,x∈aG->x∈aC:=λx I=>by
   have:=(h.rs.perm.mem_iff (a:=x)).mpr I
   rw[a0,iy] at this
   exact this
  have aX:given.length<=aC.length:=mZ h.gc.pQ λx I=>all x ((eK x).mp (h.gc.s3 x I).1)
  have a5:bo=[]:=List.eq_nil_iff_forall_not_mem.mpr λx I=>by
   have:=(h.gc.oK x).mp I
   exact this.2 (h.gc.he x (all x ((eK x).mp this.1)))
  refine m a5 ?_
  have:¬((aC.length:Int) < (given.length:Int)):=by simp_all
  simp only[this,ig,List.isEmpty_nil,Bool.not_true,Bool.or_self]
 |cons E cP=>
  obtain⟨t,_,bu,aV⟩:=h.rs.find a6 (by refine m a0 ?_;simp)
  have mr:t∉aC:=λq=>(ia.mp ah).2.2 t q t bu rfl
  have su:t∈aG:=(h.rs.perm.mem_iff (a:=t)).mp (ez _ bu)
  have av:=Fi.mpr aV
  by_cases bW:t∈given
  ·have:(aC++[t]).length<=given.length:=mZ (by
    rw[ia]
    exact⟨TP,by simp,λa aF b aA=>by refine m (cn.mp aA) ?_;rintro rfl;exact mr aF⟩) λx I=>by
    rcases df.mp I with q|q
    ·exact h.gc.he x q
    ·refine m (cn.mp q) ?_;exact bW
   rw[ib] at this
   simp only[hE,rK] at this
   have:(aC.length:Int) < (given.length:Int):=by exact Int.ofNat_lt.mpr this
   simp[this]
  ·have:t∈bo:=(h.gc.oK t).mpr ⟨(eK t).mpr su,bW,av⟩
   have:bo.isEmpty=false:=by
    cases bo with
    |nil=>cases this
    |cons a l=>rfl
   simp[this]
theorem kF.free {g:List cj} {aC left:List Str} {br:Str->Nat} (a6:Ord P aG br) (eK:∀x,x∈fa↔x∈aG) (h:kF P aG fa g aC given bo left):
  (given++bo).Perm (aG.filter (d0 P aC)):=by
 have o:=h.gc.get
 refine F7 o.pQ (vo mU a6.ah) λx=>?_
 rw[eY,<-Fi,<-eK x]
 constructor
 ·exact o.s3 x
 ·rintro⟨aX,a5⟩
  apply sV
  intro av
  have:=(o.oK x).mpr ⟨aX,av,a5⟩
  cases this
theorem kF.pick {g:List cj} {aC left:List Str} {br:Str->Nat} (a6:Ord P aG br) (eK:∀x,x∈fa↔x∈aG) (h:kF P aG fa g aC given bo left) (a0:left≠[]):
  cp λ(i:Nat) (t:Str)=>nF (left[i]?=some t) (left.find? (d0 P aC)=some t) (t∈given++bo) (t∉aC) (∀j x,j < i->left[j]?=some x->x∉given++bo/\x∉aC):=by
 have ah:=h.ah a6
 obtain⟨t,bb,bu,aV⟩:=h.rs.find a6 a0
 have mr:∀x∈left,x∉aC:=λx I q=>(ia.mp ah).2.2 x q x I rfl
 have dF:∀x∈left,(x∈given++bo↔d0 P aC x=true):=λx I=>by
  rw[(h.free a6 eK).mem_iff,eY]
  exact⟨λq=>q.2,λq=>⟨(h.rs.perm.mem_iff (a:=x)).mp (ez _ I),q⟩⟩
 obtain⟨af,as,cF,e,sv⟩:=List.find?_eq_some_iff_append.mp bb
 refine⟨as.length,t,by refine m e ?_;simp,bb,(dF t bu).mpr aV,mr t bu,λj x bv I=>?_⟩
 have ua:x∈left:=fc I
 refine⟨λq=>?_,mr x ua⟩
 have TQ:x∈as:=by
  rw[e,List.getElem?_append_left bv] at I
  exact fc I
 have:=sv x TQ
 rw[(dF x ua).mp q] at this
 cases this
theorem kF.np {g:List cj} {aC:List Str} (o:kI P fa g aC given []) {d:cj} (hd:d∈g) (bu:d.nm∉aC):(d.nm∈given->d.np=-1)/\(d.nm∉given->0<=d.np):=by
 have:=o.np d hd
 rw[bI bu] at this
 constructor
 ·intro h;exact m this (m (b3 h) rfl)
 ·intro h;refine m this (m (bI h) ?_);exact Int.natCast_nonneg _
theorem kF.next {g:List cj} {aC left:List Str} {br:Str->Nat} (b1:P.Nodup) (a6:Ord P aG br) (eK:∀x,x∈fa↔x∈aG) (CU:fa.Nodup) (h:kF P aG fa g aC given bo left) {t:Str} (bb:left.find? (d0 P aC)=some t) (bu:t∈given++bo) (mr:t∉aC) (ss:f6∈iA g bo) (wk:f6.nm=t):
  kF P aG fa (f6.succ.foldl kd (setG (iA g bo) t (-2),[])).1 (aC++[t]) (given++bo) (f6.succ.foldl kd (setG (iA g bo) t (-2),[])).2 (left.erase t):=by
 have sw:=rL bb
 have aV:d0 P aC t=true:=by simpa using tj bb
 refine⟨h.gc.get.done b1 (λq=>a6.br q) (λq=>⟨(eK _).mpr (a6.mem q).1,(eK _).mpr (a6.mem q).2⟩) CU bu mr ss wk,h.rs.step a6 sw aV,?_⟩
 refine a9 h.oL ?_
 have cI:left.length=(left.erase t).length+1:=by
  refine m (vc sw) ?_
  have:=xB sw
  exact(Nat.sub_add_cancel this).symm
 refine m cI ?_
 conv=>rhs;rw[kC,bb]
noncomputable def oE (a b:Str):Prop:=PySem.Spec.ltCps b.cps.toList a.cps.toList=false
theorem Qm {a b:Str} (h:oE a b) (am:oE b a):a=b:=by
 unfold oE at h am
 rw[ltCps_eq] at h am
 have aX:¬(b.cps.toList < a.cps.toList):=by simpa using h
 have a5:¬(a.cps.toList < b.cps.toList):=by simpa using am
 have:=List.le_antisymm (as:=a.cps.toList) (bs:=b.cps.toList) aX a5
 obtain⟨⟨x⟩⟩:=a
 obtain⟨⟨E⟩⟩:=b
 simp at this
 refine m this ?_;rfl
theorem KP {l ab:List Str} (af:l.Perm ab) (aX:l.Pairwise oE) (a5:ab.Pairwise oE):l=ab:=by
 induction l generalizing ab with
 |nil=>exact(List.Perm.nil_eq af)
 |cons a l ih=>
  cases ab with
  |nil=>exact absurd af.length_eq (by simp)
  |cons b ab=>
   have aF:a=b∨oE a b:=by
    have:b∈a::l:=af.mem_iff.mpr (.head _)
    rcases bP.mp this with q|q
    ·exact .inl q.symm
    ·exact .inr (List.rel_of_pairwise_cons aX q)
   have aA:b=a∨oE b a:=by
    have:a∈b::ab:=af.mem_iff.mp (.head _)
    rcases bP.mp this with q|q
    ·exact .inl q.symm
    ·exact .inr (List.rel_of_pairwise_cons a5 q)
   have e:a=b:=by
    rcases aF with q|q
    ·exact q
    ·rcases aA with z|z
     ·exact z.symm
     ·exact Qm q z
   subst e
   refine m (ih (af.cons_inv) (uR.mp aX).2 (uR.mp a5).2) ?_;rfl
noncomputable def tk (js k8:List Str):Prop:=k8.Perm js/\k8.Pairwise oE
theorem tk.same {a b ju qc:List Str} (h:tk a ju) (am:tk b qc) (af:a.Perm b):ju=qc:=KP ((h.1.trans af).trans am.1.symm) h.2 am.2
theorem PL (e7:StrsAre J js) {ag:Array Keyed} (af:ag.Perm (pairsOf J)) (aW:SortedToK strKind ag (pairsOf J).size):
  ∃k8,StrsAre (ag.map (·.2)).toList k8/\tk js k8:=by
 have a0:ag.toList.Perm (J.zip J):=by rw[<-pairsOf_toList];exact Array.perm_iff_toList_perm.mp af
 have dF:∀p,p∈ag.toList->p.1=p.2/\p.1∈J:=λp iJ=>mem_zip_self (a0.mem_iff.mp iJ)
 refine⟨ag.toList.map (λp=>strOf p.1),?_,?_,?_⟩
 ·have e:(ag.map (·.2)).toList=ag.toList.map (·.1):=by
   refine m Array.toList_map ?_;exact gr λp iJ=>(dF p iJ).1.symm
  refine m e ?_
  have aX:=strsAre_map (ag.toList.map (·.1)) (by
   intro v bn
   obtain⟨p,iJ,rfl⟩:=bZ.mp bn
   exact e7.all _ (dF p iJ).2)
  rwa [c6] at aX
 ·have aX:=a0.map (λp=>strOf p.1)
  have bV:(J.zip J).map (λp=>strOf p.1)=js:=by
   have:(J.zip J).map (λp=>strOf p.1)=((J.zip J).map Prod.fst).map strOf:=by refine m c6 ?_;rfl
   refine m this (m (List.map_fst_zip (cG _)) (m e7.strs ?_));rfl
  rwa [bV] at aX
 ·rw[mX]
  intro i j aH bv y0
  have e6:i < ag.size:=by simpa using aH
  have h1:j < ag.size:=by simpa using bv
  have aX:=aW i j (ew y0) (by refine a9 af.size_eq ?_;exact h1)
  obtain⟨x,t,ex⟩:=e7.all _ (dF ag[i] (by simp)).2
  obtain⟨E,u,qM⟩:=e7.all _ (dF ag[j] (by simp)).2
  rw[KK_str e6 (x:=x) (t:=t) (q:=ag[i].2) (Prod.ext ex rfl),KK_str h1 (x:=E) (t:=u) (q:=ag[j].2) (Prod.ext qM rfl)] at aX
  change decide (E.cps.toList < x.cps.toList)=false at aX
  simp only[my,Array.getElem_toList]
  refine m (show strOf ag[i].1=x by refine m ex ?_;rfl) (m (show strOf ag[j].1=E by refine m qM ?_;rfl) ?_)
  unfold oE
  rw[ltCps_eq]
  exact aX
theorem bR.vf {h:Heap}:∀{J:List Value} {js:List Str},bR X h J (js.map .str)->StrsAre J js
 |[],[],_=>.nil
 |v::J,x::js,.cons a r=>by
  refine aO.fV a λt=>?_
  exact .cons _ _ (bR.vf r)
theorem StrsAre.xo {h:Heap}:∀{J:List Value} {js:List Str},StrsAre J js->bR X h J (js.map .str)
 |_,_,.nil=>.nil
 |_,_,.cons _ t r=>.cons (.str _ _) (StrsAre.xo r)
theorem Ey {T:String} {n:Nat} {G:Value->Shared->Prop} (cK:T="list"∨T="tuple") (aP:o.heap.get? a=some w) (av:w.cls=.type T) (hd:w.data=.seq J.toArray n) (e7:StrsAre J js) (IA:J.length < 64)
  (h:∀am ju out ab k8,(∀b w,o.heap.get? b=some w->am.get? b=some w)->o.heap.objs.size<=ju->IsL am ju out ab->StrsAre out.toList k8->tk js k8->o.heap.objs.size<=am.objs.size->G (.ref ju) {o with heap:=am}):
  wpAny (model B A) D (call (.builtin "sorted") [.ref a]) G M o:=by
 refine j7 (Calls.call_function_entry kind_sorted plain_sorted entry_sorted (args_sorted1 _) ?_)
 unfold Builtin.«sorted»
 refine ay (m:=checkCount "sorted" 1 1 _) (bx ?_)
 refine ay (vl a cK aP av hd (by refine m dR (m gz ?_);exact c2 (i0 IA)) λca y1 wm=>?_)
 refine ay (wpAny_newList ?_)
 have n5:(ca.push (seqObj "list" J.toArray 0)).get? ca.objs.size=some (seqObj "list" J.toArray 0):=dT _ rfl
 show wpAny _ _ _ _ _ {o with heap:=ca.push (seqObj "list" J.toArray 0)}
 refine ay (dZ (oq slot_list_sort ⟨_,n5,rfl⟩ entry_list_sort (list_sort_treeK strKind_oneLt n5 e7.keysOf (λdX dU aZ e=>keyKind_strs (by refine a9 e ?_;exact e7)) IA λph r1 CV=>⟨_,rfl,?_⟩) (args_list_sort _)))
 refine bx ⟨_,rfl,λar=>?_⟩
 obtain⟨k8,aX,a5⟩:=PL e7 r1 CV
 obtain⟨e,al⟩:=sortedHeap_at (out:=(arrOf ph).map (·.2)) n5
 refine h _ _ _ e k8 (λb w aA=>?_) wm al aX a5 ar
 have lG:=y1 b w aA
 have bU:=dL lG
 refine m (sortedHeap_old (kG bU) (by refine m (eN _ _) ?_;exact is bU)) ?_
 exact e1 _ lG
noncomputable def oh (ag:List Str) (t:Str):List Str:=@List.erase Str instBEqOfDecidableEq ag t
theorem StrsAre.get (h:StrsAre J js):J.length=js.length/\∀i,(aH:i < J.length)->∃t,J[i]=.str (js.getD i "") t:=by
 induction h with
 |nil=>exact⟨rfl,λi aH=>absurd aH (Nat.not_lt_zero _)⟩
 |cons n t r ih=>
  refine⟨by simp[ih.1],λi aH=>?_⟩
  cases i with
  |zero=>exact⟨t,rfl⟩
  |succ i=>exact ih.2 i (by simpa using aH)
section
variable {Y:List Addr} {k:Nat} {az:Str->Option PyData}
theorem H.sorted {np:Pos} {d:PyData} {ag:List Str} (aa:cJ Q U Y o s az) (aN:s.kindOf "sorted"=some .globalImplicit) (f9:H B A D Y o s e d) (hd:d=.list (ag.map .str)∨d=.tuple (ag.map .str)) (ar:ag.length < 64) {G:Value->Shared->Prop} (aq:an o aj)
  (h:∀v y cP,an aj y->aO Y y.heap v (.list (cP.map .str))->tk ag cP->G v y) (al:autoParam (starEach [e] s=[(false,eval e s)]) cg._auto_1):wpAny (model B A) D (eval (.Call (.Name "sorted" np) [e] [] ao) s) G M aj:=by
 have V:bi B A D o s (.Name "sorted" np) (.builtin "sorted"):=bi.blt aa aN (by exact jk (by kernel_rfl))
 refine l3 al (V.ap aj _ _ aq λaB aE=>uG (f9.ap aB _ _ (aq.trans aE) λv ax a7 r=>?_))
 have eS:=aa.ex ((aq.trans aE).trans a7)
 rcases hd with rfl|rfl
 ·refine aO.kL r λa J n aF l rs=>?_
  have e7:=bR.vf rs
  have cI:=(StrsAre.get e7).1
  refine Ey (J:=J) (n:=n) (.inl rfl) l rfl rfl e7 (by simp_all) λam ju out ab k8 jF pe nP dI jG jZ=>?_
  have tZ:an ax {ax with heap:=am}:=an.of_keeps (aD:=ax.toks) jF jZ
  exact h _ _ k8 ((aE.trans a7).trans tZ) (.list (λq=>absurd (eS.eb _ q) (eZ.mpr pe)) nP (StrsAre.xo dI)) jG
 ·refine aO.AN r λa J n aF l rs=>?_
  have e7:=bR.vf rs
  have cI:=(StrsAre.get e7).1
  refine Ey (J:=J) (n:=n) (.inr rfl) l rfl rfl e7 (by simp_all) λam ju out ab k8 jF pe nP dI jG jZ=>?_
  have tZ:an ax {ax with heap:=am}:=an.of_keeps (aD:=ax.toks) jF jZ
  exact h _ _ k8 ((aE.trans a7).trans tZ) (.list (λq=>absurd (eS.eb _ q) (eZ.mpr pe)) nP (StrsAre.xo dI)) jG
theorem eU.add_tuple (ar:ag.length+cP.length<=1000) {Y:List Addr} {dX dU:Value} {G:Value->Shared->Prop} (T:d2 o.heap) (aJ:∀E∈Y,E < o.heap.objs.size) (c8:aO Y o.heap dX (.tuple ag)) (c4:aO Y o.heap dU (.tuple cP))
  (h:∀v y,an o y->aO Y y.heap v (.tuple (ag++cP))->G v y):wpAny (model B A) D (binaryOp .Add dX dU) G M o:=by
 obtain⟨a,J,n,rfl,aF,l,rs⟩:=id c8.rb
 obtain⟨b,cq,qh,rfl,aA,jw,IB⟩:=id c4.rb
 have e:J.toArray++cq.toArray=(J++cq).toArray:=by simp
 have aX:=rs.length
 have a5:=IB.length
 by_cases bn:J=[]
 ·subst bn
  have:ag=[]:=q0.mp (by simpa using aX.symm)
  subst this
  exact concat_meets ⟨_,l,rfl⟩ ⟨_,jw,rfl⟩ noFill_tuple_add seq_tuple_add PySem.F.slot_tuple_add PySem.F.entry_tuple_add (PySem.F.args_tuple_add_2 _ _)
   (tuple_addW0 a b (#[]:Array Value) cq.toArray n qh none none #[] #[] (by simp)) ⟨l,jw,h _ _ (an.refl _) (by simpa using c4)⟩
 ·by_cases ik:cq=[]
  ·subst ik
   have:cP=[]:=q0.mp (by simpa using a5.symm)
   subst this
   exact concat_meets ⟨_,l,rfl⟩ ⟨_,jw,rfl⟩ noFill_tuple_add seq_tuple_add PySem.F.slot_tuple_add PySem.F.entry_tuple_add (PySem.F.args_tuple_add_2 _ _)
    (tuple_addW1 a b J.toArray (#[]:Array Value) n qh none none #[] #[] (by simpa using bn) (by simp)) ⟨l,jw,h _ _ (an.refl _) (by simpa using c8)⟩
  ·refine concat_meets ⟨_,l,rfl⟩ ⟨_,jw,rfl⟩ noFill_tuple_add seq_tuple_add PySem.F.slot_tuple_add PySem.F.entry_tuple_add (PySem.F.args_tuple_add_2 _ _)
    (tuple_addW2 a b J.toArray cq.toArray n qh none none #[] #[] (by simpa using bn) (by simpa using ik) (by refine m gz (m gz (m dR ?_));(rw[aX,a5];exact c2 ar))) ⟨l,jw,?_⟩
   refine m e ?_
   exact h _ _ (an.push _) (.tuple (λq=>absurd (aJ _ q) (ey _)) (dT _ rfl) ((rs.append IB).ex T (an.push _)))
theorem M9 {p ap:Pos} {ag:List Str} {t:Str} (C:aw Q U ai Z ak s K o) (bn:K.bO x=some (.ref O)) (a1:K.L=bz++(O,.lst (ag.map .str))::bY)
  (f9:H B A D Y o s e (.str t)) (bu:t∈ag) (ar:ag.length<=1000) (h:∀y,aw Q U ai Z ak s {K with L:=bz++(O,.lst ((oh ag t).map .str))::bY} y->bl B A D aZ s G M y)
  (fA:autoParam (attributeBase (.Name x p) "remove" s (eval (.Name x p) s)=eval (.Name x p) s) cg._auto_1) (aW:autoParam (starEach [e] s=[(false,eval e s)]) cg._auto_1) (fB:autoParam ((ap.endLine==fI.line)=true) cg._auto_1)
  (kr:autoParam (swapsWith (.Call (.Attribute (.Name x p) "remove" ap) [e] [] fI) none ao.line s=pure false) cg._auto_1) (hd:autoParam ((x==("__debug__":Str))=false) fe._auto_1) (au:autoParam ((x==("__classdict__":Str))=false) fe._auto_1):
  bl B A D (.Expr (.Call (.Attribute (.Name x p) "remove" ap) [e] [] fI) ao::aZ) s G M o:=by
 refine⟨dA (m2 ?_ C.quiet kr)⟩
 have dF:(O,Ent.lst (ag.map .str))∈K.L:=by refine m a1 ?_;simp
 refine m6 fA aW fB ((C.ev bn hd au).ap o _ _ (an.refl _) λaj aq=>?_)
 obtain⟨J,n,l⟩:=C.uF dF aq
 refine⟨"list","list.remove",PySem.F.plainAttrs_list,PySem.F.slot_list_remove,PySem.F.type_list_remove,⟨_,l,rfl⟩,λa i9=>by have e:=mb i9;subst e;exact⟨_,l,rfl⟩,?_⟩
 refine seqMethod1_meets PySem.F.slot_list_remove PySem.F.entry_list_remove (f9.ap aj _ _ aq λv aB aE r=>?_)
 refine aO.fV r λaD=>?_
 have aQ:=C.step (aq.trans aE)
 obtain⟨il,lB,iM,ks⟩:=aQ.iZ dF
 have e7:=bR.vf ks
 have bW:=StrsAre.get e7
 have cI:il.size=ag.length:=by have:=bW.1;simpa using this
 have y2:ag.findIdx (λE=>decide (E=t)) < ag.length:=List.findIdx_lt_length_of_exists ⟨t,bu,by simp⟩
 generalize bv:ag.findIdx (λE=>decide (E=t))=j at y2
 have vR:ag[j]=t:=by
  have:=List.findIdx_getElem (p:=λE=>decide (E=t)) (xs:=ag) (w:=by refine m bv ?_;exact y2)
  simp only[bv] at this
  simpa using this
 have TR:∀ab (hm:ab < j),ag[ab]'(by exact ff ‹_› ‹_›)≠t:=λab hm=>by
  have:=List.not_of_lt_findIdx (p:=λE=>decide (E=t)) (xs:=ag) (i:=ab) (by refine m bv ?_;exact hm)
  simpa using this
 have IC:∀ab (hm:ab < il.size),∃u,il[ab]=.str (ag[ab]'(by simp_all)) u:=λab hm=>by
  obtain⟨u,dn⟩:=bW.2 ab (by simpa using hm)
  refine⟨u,?_⟩
  refine a9 (Array.getElem_toList (by simpa using hm)) (m dn (m jp (m (d4 (by exact Nat.lt_of_lt_of_eq hm cI)) ?_)))
  rfl
 have TS:oh ag t=ag.eraseIdx j:=by
  unfold oh
  refine @List.erase_eq_eraseIdx_of_idxOf Str instBEqOfDecidableEq _ ag t j ?_
  refine a9 bv ?_
  unfold List.idxOf
  congr 1
 refine⟨⟨_,iM,rfl⟩,PySem.F.args_list_remove_2 _ _,_,MeetsSeq.list_remove O il lB _ (isStrOf t) (λE aJ=>eq_isStrOf t aD e7 E (by simpa using aJ)) j (by simp_all) ?_ (λab hm TU=>?_) (by refine m dR ?_;exact c2 (aK (di cI) ar)),iM,(h _ ?_).out⟩
 ·obtain⟨u,dn⟩:=IC j (by simp_all)
  refine m dn (m vR ?_)
  exact oD _
 ·obtain⟨u,dn⟩:=IC ab hm
  refine m dn ?_
  have:=TR ab TU
  show(ag[ab]'(by exact ff ‹_› ‹_›)==t)=false
  rw[iG]
  exact this
 ·have nR:=fw aB.heap O (Obj.mapSeq λag=>ag.eraseIdxIfInBounds j)
  refine aQ.iD (aD:=aB.toks) (bt:=.lst ((oh ag t).map .str)) a1 nR ⟨_,_,iM.update _,?_⟩
  have bS:(il.eraseIdxIfInBounds j).toList=il.toList.eraseIdx j:=by
   unfold Array.eraseIdxIfInBounds
   exact m (dif_pos (by simp_all)) (m Array.toList_eraseIdx rfl)
  refine m bS (m TS ?_)
  have f7:O∈K.Y ai:=by unfold bd.Y bd.as;refine m a1 ?_;simp
  have bV:(ag.eraseIdx j).map PyData.str=(ag.map PyData.str).take j++(ag.map PyData.str).drop (j+1):=by
   exact m (Az _ _) (m d3 (m List.map_take (m List.map_drop rfl)))
  refine m (Az _ _) (m bV ?_)
  exact((ks.take j).upd nR (.inl f7)).append ((ks.drop (j+1)).upd nR (.inl f7))
theorem KA {t:Expr} (ct:Nat->Shared->Prop) (n:Nat) (et:ct n o)
  (turn:∀(n:Nat) (o:Shared) (cD:Value->Shared->Prop),ct n o->wpAny (model B A) D (isTrue t s (eval t s)) (λc y=>if c=true then bl B A D dE s (oz B A D aZ s G M (D2 ct n)) cD y else bl B A D i3 s (kN B A D aZ s G M) cD y) cD o):
  bl B A D (.While t dE i3 ao::aZ) s G M o:=by
 refine⟨dA (wpAny_While (codeAny_whileLoop ct (λn aj gh=>?_) n et))⟩
 refine c5 (turn n aj _ gh) (λc aB h=>?_) λ_ _ q=>q
 cases c with
 |true=>
  simp only[fv] at h ⊢
  refine c5 h.out (λdJ ax ef=>?_) λ_ _ q=>q
  cases dJ<;>first|exact ef.out|exact ef
 |false=>
  simp only[fx,fd] at h ⊢
  refine c5 h.out (λdJ ax ef=>?_) λ_ _ q=>q
  cases dJ<;>first|exact ef.out|exact ef
theorem M8 (C:aw Q U ai Z ak s K o) (V:bi B A D o s iter (.ref O)) (bb:∀d∈aM,flat d=true) (I:hG s x) (bj:D.handled=none)
  (ct:Nat->Shared->bd->Prop) (gh:∀i ak bH,ct i ak bH->(O,Ent.lst aM)∈bH.L) (et:ct 0 ak K)
  (turn:∀(i:Nat) eC ak bH ae y (cD:Value->Shared->Prop) (fJ:Flow->Shared->Prop),(∀dJ y,oz B A D aZ s G M (EZ Q U ai Z s ct ae (bk (.ref O) (.list aM)) i) dJ y->fJ dJ y)->aM[i]?=some eC->ct i ak bH->aw Q U ai Z ak s ((bH.own ae (.own (bk (.ref O) (.list aM) (i+1)))).set x eC) y->bl B A D dE s fJ cD y)
  (fin:∀ak bH y cD,ct aM.length ak bH->aw Q U ai Z ak s bH y->bl B A D i3 s (kN B A D aZ s G M) cD y)
  (aW:autoParam (∀x,foldedSetIterable iter s x=pure x) pZ._auto_1):
  bl B A D (.For (.Name x oQ) iter dE i3 ao::aZ) s G M o:=by
 have f5:∀{ak:Shared} {bH:bd} {y:Shared},aw Q U ai Z ak s bH y->(O,Ent.lst aM)∈bH.L->aO [] y.heap (.ref O) (.list aM):=λC hm=>by
  obtain⟨J,n,l,r⟩:=C.iZ hm
  exact .list (by simp) l r.w6
 refine⟨dA (wpAny_For (V.ap o _ _ (an.refl _) λaj aq=>?_) aW)⟩
 have bc:=C.step aq
 refine u2 (.list aM) (f5 bc (gh 0 ak K et)) λw aP=>?_
 have aQ:aw Q U ai Z ak s (K.own aj.heap.objs.size (.own (bk (.ref O) (.list aM) 0))) {aj with heap:=aj.heap.push w}:=
  bc.add (an.push w) ⟨cG _,by simp⟩ ⟨w,dT _ (by obtain⟨_,_,_,e⟩:=aP;exact rD e),aP.gY,aP⟩
 generalize aj.heap.objs.size=ae at aQ
 refine sJ (λdJ y h=>by cases dJ<;>first|exact h.out|exact h) aM.length (λi y=>cp λak bH=>ct i ak bH/\aw Q U ai Z ak s (bH.own ae (.own (bk (.ref O) (.list aM) i))) y) ⟨ak,K,et,aQ⟩ (λax h=>?_) λi ax bU h=>?_
 ·obtain⟨bX,bH,nt,bh⟩:=h
  obtain⟨bA,f8,_,hit⟩:=bh.led (ae,.own (bk (.ref O) (.list aM) aM.length)) (iF)
  exact xH bj (.list aM) f8 hit (f5 bh (iY _ (gh _ _ bH nt))) (on (cG _)) λam aD al ar=>by
   have be:=bh.q6 (aD:=aD) (L:=bH.L) rfl al ar
   exact⟨rfl,fin bX bH _ _ nt be⟩
 ·obtain⟨bX,bH,nt,bh⟩:=h
  obtain⟨bA,f8,_,hit⟩:=bh.led (ae,.own (bk (.ref O) (.list aM) i)) (iF)
  refine wQ (.list aM) f8 hit (f5 bh (iY _ (gh _ _ bH nt))) (d4 bU) λu am aD vP dI vQ nc d7=>⟨u,rfl,?_⟩
  have be:=bh.turn (bt:=.own (bk (.ref O) (.list aM) (i+1))) (aD:=aD) rfl dI ⟨vP,vQ,nc.gY,nc⟩
  exact aw.store (K:=bH.own ae (.own (bk (.ref O) (.list aM) (i+1)))) be I (d7.flat (bb _ (mP bU))) λcm bJ=>turn i _ bX bH ae cm _ _ (λ_ _ x=>x) (d4 bU) nt bJ
end
noncomputable def hy:List (Str×NameKind):=[("order",.local),("pairs",.cell),("sorter",.local),("text",.cell),("left",.local),("told",.cell),("given",.local),("free",.local),("TopologicalSorter",.globalImplicit),("list",.globalImplicit),("sorted",.globalImplicit),("ValueError",.globalImplicit)]
noncomputable def iE (p:Str×Str):PyData:=.list [.str p.1,.str p.2]
noncomputable def fb (P:fr):PyData:=.list (P.map iE)
noncomputable def ny:PyData->PyData
 |.list [a,_]=>a
 |_=>.none
noncomputable def s9:PyData->PyData
 |.list [_,b]=>b
 |_=>.none
noncomputable def snd (x:Str):PyData->Bool
 |.list [_,.str b]=>decide (b=x)
 |_=>false
theorem LO (P:fr) (x:Str):((items (fb P)).filter (snd x)).map ny=(gm P x).map .str:=by
 unfold gm
 show((P.map iE).filter (snd x)).map ny=((P.filter λp=>decide (p.2=x)).map (·.1)).map .str
 induction P with
 |nil=>rfl
 |cons p P ih=>
  refine m dG (m fH (m fH ?_))
  have e:snd x (iE p)=decide (p.2=x):=rfl
  refine m e ?_
  by_cases h:p.2=x
  ·simp only[h,lp,fv,dG]
   refine m ih ?_;rfl
  ·simp only[h,ig,fx,fd]
   exact ih
theorem w0 (a b:Str):PyData.eqv (.str a) (.str b)=decide (a=b):=by
 by_cases h:a=b
 ·subst h;simp[PyData.eqv]
 ·refine m (jT h) ?_
  simp[PyData.eqv,h]
theorem EJ {a2:Type} {p:a2->Prop}:∀{l:List a2},(∀a∈l,p a)->AllP p l
 |[],_=>trivial
 |_::_,h=>⟨h _ (.head _),EJ λ_ q=>h _ (.tail _ q)⟩
noncomputable def oo:List Stmt:=dV (dh 22)
section
variable {Y:List Addr} {k:Nat} {az:Str->Option PyData} {t:cC}
theorem N7 {G:List Value->Shared->Prop} (ar:ag.length<=1000) (r:aO Y o.heap v (.list ag)) (h:∀J y,an o y->bR Y o.heap J ag->G J y):StarOf (model B A) D M v G o:=by
 refine aO.kL r λa J n aF l rs=>?_
 have cI:=rs.length
 unfold StarOf
 unfold notIterableAtAll
 refine ay (wpAny_specialOf l.isList.typeIs slot_list_iter.lookup ?_)
 refine bx ⟨rfl,?_⟩
 refine vl a (.inl rfl) l rfl rfl (by refine m dR (m gz ?_);exact c2 (aK (di cI) ar)) λam aN jZ=>?_
 have e:J.toArray.toList=J:=by simp
 refine m e ?_
 exact h J _ (an.of_keeps (aD:=o.toks) aN jZ) rs
theorem NY {w:Expr} {name:Str} {CW:Pos} {aU:List Expr} {G:Value->Shared->Prop}
  (h:wpAny (model B A) D (eval w s) (λgE aj=>wpAny (model B A) D (getAttr gE name true) (λf aB=>wpAny (model B A) D (callWith ao f [] (backTo ao (starEach aU s)) []) G M aB) M aj) M o)
  (al:autoParam (eval (.Call (.Attribute w name CW) aU [] ao) s=(do
   let gE <-eval w s
   standAt CW.atName
   let (f,first) <-holding [gE] (do pure (<-getAttr gE name true,[]))
   callWith ao f first (backTo ao (starEach aU s)) [])) cg._auto_1):wpAny (model B A) D (eval (.Call (.Attribute w name CW) aU [] ao) s) G M o:=by
 refine m al ?_
 exact ay (c5 h (λgE aj ca=>ay (gK (ay (dZ (ay (c5 ca (λf aB en=>bx en) λ_ _ x=>x)))))) λ_ _ x=>x)
theorem O0 (P:Params):fnIn (KB P) 144=true:=by kernel_rfl
theorem OL (P:Params):hasDictIn (KB P) 194=true:=by kernel_rfl
theorem OZ (P:Params):specialIn (KB P) (.ref 144) "__get__"=some (some (.builtin "function.__get__")):=by kernel_rfl
theorem Pa (P:Params):takesIn (KB P) (.ref 144)=some false:=by kernel_rfl
theorem Ls {T cr:Addr} {p:Obj->Prop} {G:Value->Shared->Prop} (C:aw Q U ai Z ak s K o) (cK:(T,Ent.own (· =b7 194 cr bQ))∈K.L) (hd:(cr,Ent.own p)∈K.L)
  (af:∀w,p w->cp λn ab=>hi n ab w/\ab "add"=none) (h:∀q y,an o y->y.heap.get? q=some (methodObj (.ref 144) (.ref T))->o.heap.objs.size<=q->G (.ref q) y):wpAny (model B A) D (getAttr (.ref T) "add" true) G M o:=by
 obtain⟨P,cf⟩:=C.aI.base.cf
 obtain⟨_,I,rfl⟩:=C.owned cK
 obtain⟨dM,hq,i1⟩:=C.owned hd
 obtain⟨n,ab,az,hm⟩:=af dM i1
 refine get_bind (K:=KB P) cf (b7.at I hq) (plainGet_of (hD.kK P "add")).1 (findObj_fn (OL P) (GX.de P) (OZ P) (Pa P) (by decide+kernel) (by rewrite[az.look];exact m hm rfl)) (plainGet_of (hD.kK P "add")).2 ?_
 refine hg (fn_get (K:=KB P) (s:={o with toks:=o.toks+1}) cf (GX.fn P) (handed_on rfl ?_))
 have x:an o {o with heap:=o.heap.push (methodObj (.ref 144) (.ref T)),toks:=o.toks+1}:=(an.tok (o:=o) (o.toks+1)).trans (an.push (o:={o with toks:=o.toks+1}) _)
 exact h _ _ x (dT _ rfl) (cG _)
theorem KV (R:b0 (k+4) D) (av:s.cells=cellsFrom (s.locals+1) hy []) (al:s.scope.names=hy) {X:List (Addr×Ent)} {CX:List (Value×PyData)} {ns:List co} (lQ:P.length<=400)
  (eo:∀p∈P,PyData.strOk p.2=true) (TV:PyData.strOk x=true)
  (C:aw Q U ai Z ak s {L:=X++bp B A (t.with ns),R:=CX,az:=dl [("order",.list (aG.map .str)),("pairs",fb P),("text",.str x)],bO:=dl [("sorter",.ref t.T)]} o) (pi:t.bM=none) (eI:(ns.map (·.ah.nm)).Nodup) (ar:ns.length+(gm P x).length<=800) (yu:lY (ns.map (·.ah)) 500)
  (h:∀iN y,aw Q U ai Z ak s {L:=X++bp B A (t.with iN),R:=CX,az:=dl [("order",.list (aG.map .str)),("pairs",fb P),("text",.str x)],bO:=dl [("sorter",.ref t.T)]} y->iN.map (·.ah)=sZ (ns.map (·.ah)) x (gm P x)->(iN.map (·.ah.nm)).Nodup->bl B A D aZ s G M y):
  bl B A D (dV (oo.getD 1 (.Pass ⟨0,0,0,0⟩))++aZ) s G M o:=by
 have bj:=R.h
 have qv:(gm P x).length<=400:=by unfold gm;refine m (bD _) ?_;exact aK (lh _ _) lQ
 refine⟨dA (m2 ?_ C.quiet (by rfl))⟩
 refine NY ((C.ev (x:="sorter") rfl).ap o _ _ (an.refl _) λaj aq=>?_) (by rfl)
 have bc:=C.step aq
 refine Ls bc (j8 (X:=X) (t:=t.with ns) rfl) (memD (X:=X) (t:=t.with ns) rfl) (λw ⟨a,b,d⟩=>⟨4,_,d,q5 (t.with ns) a b (by decide)⟩) λq aB aE aS W3=>?_
 have aQ:=bc.step aE
 have ID:tab q=false:=by
  cases bu:tab q with
  |false=>rfl
  |true=>
   obtain⟨J,e⟩:=aQ.tabs.fields bu aS
   exact absurd (iw Obj.cls e) (by unfold tabObj methodObj;exact λq=>by cases q)
 refine ks_call rfl (P:=λh=>∃P,MethP (KB P) q 144 (.ref t.T) h) (λh ⟨P,b1⟩=>keeps_M (O0 P) h b1) ?_
 refine kg (jO ((H.name aQ.aI rfl).ap aB _ _ (an.refl _) λv ax a7 r=>?_))
 refine aO.fV r λaD=>?_
 have bh:=aQ.step a7
 have eS:=bh.aI
 refine ks_spliced ((f0.ou eS (h5 (λd=>[("one",ny d),("two",s9 d)]) (snd x) ny eS bj al rfl (by rfl) (by refine m av ?_;rfl) (H.name eS rfl) (.list _) (by show(P.map iE).length<=1000;rw[bD];exact aK ‹_› (by decide)) (by intro _;rfl)
  (λaY bG d hd=>?_) (λd hd q aS=>?_) (λaY bG d hd eP y dr bf=>?_))).ap ax _ _ (an.refl _) λdU b2 c0 c4=>?_)
 ·obtain⟨p,af,rfl⟩:=bZ.mp hd
  exact fp.pair bj (.inl (a8 bG.names rfl)) (.inl (a8 bG.names rfl))
 ·simp only[bP,b9,eH] at aS
  rcases aS with rfl|rfl<;>rfl
 ·obtain⟨p,af,rfl⟩:=bZ.mp hd
  exact⟨fk.one (bL.cmp bf.base (H.name bf (x:="two") (d:=.str p.2) rfl) (H.name bf (x:="text") (d:=.str x) rfl) (cH.eq R (gp (eo p af)) (gp TV) (w0 _ _))),λ_=>H.name bf rfl⟩
 rw[show List.map ny (List.filter (snd x) (items (PyData.list (List.map iE P))))=_ from LO P x] at c4
 refine N7 (by rw[bD];exact aK ‹_› (by decide)) c4 λJ cm fW rs=>?_
 have CY:=(a7.trans c0).trans fW
 refine kH ⟨?_,?_⟩
 ·obtain⟨jb,cf⟩:=(aQ.step CY).aI.base.cf
  exact⟨jb,CY.keep q _ ID aS,cf⟩
 have bJ:=bh.step (c0.trans fW)
 obtain⟨nV,TW,TX⟩:=zn rs
 show wpAny (model B A) D (call (.ref q) (.str x aD::(J++[])) []) _ _ _
 refine m (iy _) ?_
 have ok:=bJ.iC (X:=X) (t:=t.with ns) rfl eI
 refine hg (method_call (CY.keep q _ ID aS) (h4 (PO (t:=t.with ns) R (n:=x) (aD:=aD) (bg:=gm P x) (tX:=J) bJ.aI.base ok pi ar yu qv ⟨nV,TW,TX⟩) λr ds ms=>?_))
 obtain⟨iN,rfl,cw,CZ,bW,bC⟩:=ms
 have b6:=bJ.nE (X:=X) rfl cw CZ.led CZ.ah bC
 exact(h iN ds (b6.e3 _ CX [("order",.list (aG.map .str)),("pairs",fb P),("text",.str x)] [("sorter",.ref t.T)] rfl (EJ λ_ h=>h) ⟨rfl,rfl,rfl,trivial⟩ ⟨rfl,trivial⟩) bW CZ.eI).out
end
noncomputable def lu (aG:List Str) (P:fr):List (Str×PyData):=[("order",.list (aG.map .str)),("pairs",fb P)]
section
variable {Y:List Addr} {k:Nat} {t:cC} {br:Str->Nat}
theorem D8 (av:s.cells=cellsFrom (s.locals+1) hy []) (al:s.scope.names=hy):hG s "text":=.inr ⟨a8 al rfl,_,by refine m av ?_;rfl,is (hb _)⟩
theorem J6 (av:s.cells=cellsFrom (s.locals+1) hy []) (al:s.scope.names=hy):hG s "told":=.inr ⟨a8 al rfl,_,by refine m av ?_;rfl,is (is (hb _))⟩
theorem Ni (R:b0 (k+4) D) (b1:P.Nodup) (a6:Ord P aG br) (lQ:P.length<=400) (aP:aG.length<=20) (eo:∀x∈aG,PyData.strOk x=true) (av:s.cells=cellsFrom (s.locals+1) hy []) (al:s.scope.names=hy)
  (C:aw Q U ai Z ak s {L:=bp B A t,az:=dl (lu aG P),bO:=dl [("sorter",.ref t.T)]} o) (nY:t.ns=[]) (pi:t.bM=none)
  (h:∀ns y,aw Q U ai Z ak s {L:=bp B A (t.with ns),az:=dl (lu aG P),bO:=dl [("sorter",.ref t.T)]} y->ns.map (·.ah)=g1 P aG->(ns.map (·.ah.nm)).Nodup->bl B A D aZ s G M y):
  bl B A D (oo.getD 1 (.Pass ⟨0,0,0,0⟩)::aZ) s G M o:=by
 have bj:=R.h
 refine mY C (H.name C.aI (d:=.list (aG.map .str)) rfl) (.list _) (D8 av al) bj
  (λi K=>∃ns,ce (K={L:=bp B A (t.with ns),az:=dl (lu aG P),bO:=dl [("sorter",.ref t.T)]}) (ns.map (·.ah)=g1 P (aG.take i)) ((ns.map (·.ah.nm)).Nodup)) ⟨[],by unfold cC.with;exact a9 nY rfl,rfl,hM⟩ ?_ ?_
 ·rintro i eC K ae v aB cD jb fR aH ⟨ns,rfl,bW,au⟩ aQ
  have aH:(aG.map PyData.str)[i]?=some eC:=aH
  rw[fm] at aH
  obtain⟨x,I,rfl⟩:=ka.mp aH
  have CS:=fc I
  have sx:=kh.fold b1 (λq=>a6.mem q) (aG.take i) [] [] (kh.start P aG) (by rw[pn];exact vo (List.take_sublist ..) a6.ah) λx I=>q9 I
  rw[pn] at sx
  have sx:kh P aG (aG.take i) (g1 P (aG.take i)):=sx
  rw[<-bW] at sx
  have cI:ns.length<=20:=by
   have:=mZ (l:=(ns.map (·.ah)).map (·.nm)) (ab:=aG) sx.ah sx.sub
   rw[bD,bD] at this
   exact aK ‹_› ‹_›
  have qv:(gm P x).length<=400:=by unfold gm;refine m (bD _) ?_;exact aK (lh _ _) lQ
  have aQ:=aQ.e3 ([(ae,.own (bk v (.list (aG.map .str)) (i+1)))]++bp B A (t.with ns)) [(v,.list (aG.map .str))] [("order",.list (aG.map .str)),("pairs",fb P),("text",.str x)] [("sorter",.ref t.T)] rfl ⟨.head _,trivial⟩ ⟨rfl,rfl,rfl,trivial⟩ ⟨rfl,trivial⟩
  refine KV (aZ:=[]) R av al lQ (λp af=>eo _ (a6.mem (a:=p.1) (b:=p.2) af).2) (eo x CS) aQ pi au (by exact c2 (iv cI qv)) (λd hd=>?_) λiN y a4 ja mg=>b8 (fR _ _ ⟨_,⟨iN,rfl,?_,mg⟩,?_⟩)
  ·have:=sx.h6 d hd
   exact aK (mZ this.1 λE aJ=>q9 ((this.2 E).mp aJ).1) (by exact aK ‹_› (by decide))
  ·exact m ja (m bW (m (P0 P aG i x I) rfl))
  ·exact a4.tv (ae:=ae) (v:=v) (bp B A (t.with iN)) (lu aG P) [("sorter",.ref t.T)] rfl (.head _) ⟨rfl,rfl,trivial⟩ ⟨rfl,trivial⟩
 ·rintro K aB cD ⟨ns,rfl,bW,au⟩ aQ
  have e:(items (.list (aG.map PyData.str))).length=aG.length:=by show(aG.map PyData.str).length=_;rw[bD]
  rw[e,jN] at bW
  exact b8 (h ns _ aQ bW au)
end
noncomputable def ir (aG:List Str) (P:fr) (given:List Str):List (Str×PyData):=[("order",.list (aG.map .str)),("pairs",fb P),("given",.tuple (given.map .str))]
noncomputable def gZ (T cN cU:Addr):List (Str×Value):=[("sorter",.ref T),("left",.ref cN),("told",.ref cU)]
section
variable {Y:List Addr} {k:Nat} {t:cC} {br:Str->Nat}
theorem Po (R:b0 (k+4) D) (e9:D.frames=some (s::l)) (bb:s.frame=some s.locals) (F:ek l [] ak) (a6:Ord P aG br) (b1:P.Nodup) (av:s.cells=cellsFrom (s.locals+1) hy []) (al:s.scope.names=hy) (aP:aG.length<=20)
  (C:aw Q U ai [] ak s {L:=bp B A t,az:=dl (lu aG P),bO:=dl [("sorter",.ref t.T)]} o) (bW:t.ns.map (·.ah)=g1 P aG) (au:(t.ns.map (·.ah.nm)).Nodup) (pi:t.bM=none)
  (h:∀a bX y,el (du l) ak bX->aw Q U ai [] bX s {L:=bp B A {t with bM:=some (a,g0 (g1 P aG))},az:=dl (lu aG P),bO:=dl [("sorter",.ref t.T)]} y->bl B A D aZ s G M y):
  bl B A D (oo.getD 2 (.Pass ⟨0,0,0,0⟩)::aZ) s G M o:=by
 refine⟨dA (m2 ?_ C.quiet (by rfl))⟩
 refine tt C (an.refl _) (C.ev (x:="sorter") rfl) (j8 (X:=[]) (t:=t) rfl) (memD (X:=[]) (t:=t) rfl) (λw ⟨a,b,d⟩=>⟨4,_,d,q5 t a b (by decide)⟩) hD KJ (λC=>(GZ C).fn) (λaB aE=>fZ (a:=⟨[],[]⟩) rfl ⟨an.refl _,?_⟩) (by rfl)
 have aQ:=C.step aE
 have TY:ek (s::l) (eV B A t) aB:=aQ.rt (K:={L:=bp B A t,az:=dl (lu aG P),bO:=dl [("sorter",.ref t.T)]}) F bb
 have sy:=kI.start b1 (λq=>a6.mem q) a6.ah
 have cI:t.ns.length<=800:=by
  have:=mZ (l:=(t.ns.map (·.ah)).map (·.nm)) (ab:=aG) (by refine m c6 ?_;exact au) (λx I=>by rw[bW] at I;exact(sy.2 x).mp I)
  rw[bD,bD] at this
  exact c2 (aK this aP)
 refine hg (h4 (NQ (br:=br) (k:=k+1) R e9 TY aQ.aI.base (aQ.iC (X:=[]) (t:=t) rfl au) pi (λn gT x I=>?_) cI) λr ax ms=>?_)
 ·have hd:n.ah∈g1 P aG:=bW▸d9 gT
  have:=(sy.1.h6 _ hd).2 x |>.mp I
  refine⟨?_,a6.br this⟩
  have a5:=(sy.2 x).mpr (a6.mem this).2
  rw[<-bW,c6] at a5
  exact a5
 obtain⟨rfl,a,dD,up1,v4,t9,bC⟩:=ms
 obtain⟨bX,yZ,bh⟩:=aQ.up F bb up1
 rw[bW] at t9 bC
 have jg:s0 B A dD ax t {t with bM:=some (a,g0 (g1 P aG))}:=λb aA=>by
  rcases bC b aA with q|q
  ·exact .inl q
  ·exact .inr ⟨by refine m up1.fN.1 ?_;exact q.1,q.2⟩
 have be:=bh.nE (X:=[]) (L:=bp B A t) rfl v4 t9.led t9.ah jg
 exact(h a bX ax yZ be).out
theorem PQ (R:b0 (k+4) D) (av:s.cells=cellsFrom (s.locals+1) hy []) (al:s.scope.names=hy) (aP:aG.length<=20)
  (C:aw Q U ai Z ak s {L:=bp B A t,az:=dl (lu aG P),bO:=dl [("sorter",.ref t.T)]} o)
  (h:∀cN cU y,aw Q U ai Z ak s {L:=[(cU,.lst []),(cN,.lst (aG.map .str))]++bp B A t,az:=dl (ir aG P []),bO:=dl (gZ t.T cN cU)} y->bl B A D aZ s G M y):
  bl B A D (oo.getD 3 (.Pass ⟨0,0,0,0⟩)::oo.getD 4 (.Pass ⟨0,0,0,0⟩)::oo.getD 5 (.Pass ⟨0,0,0,0⟩)::aZ) s G M o:=by
 refine oI C (jr.listOf (ag:=aG.map .str) C.aI (a8 al rfl) (H.name C.aI rfl) (by rw[bD];exact aK ‹_› (by decide))) (.inl (a8 al rfl)) λcN aj cW bc=>?_
 have bc:=bc.norm ([(cN,.lst (aG.map .str))]++bp B A t) (lu aG P) [("sorter",.ref t.T),("left",.ref cN)] rfl ⟨rfl,rfl,trivial⟩ ⟨rfl,rfl,trivial⟩
 refine oI bc (jr.list bc.aI bK.nil) (J6 av al) λcU aB cW aQ=>?_
 have aQ:=aQ.norm ([(cU,.lst []),(cN,.lst (aG.map .str))]++bp B A t) (lu aG P) [("sorter",.ref t.T),("left",.ref cN),("told",.ref cU)] rfl ⟨rfl,rfl,trivial⟩ ⟨rfl,rfl,rfl,trivial⟩
 refine gA aQ (H.tuple aQ.aI bK.nil) (.inl (a8 al rfl)) λax bh=>?_
 exact h cN cU ax (bh.norm ([(cU,.lst []),(cN,.lst (aG.map .str))]++bp B A t) (ir aG P []) (gZ t.T cN cU) rfl ⟨rfl,rfl,rfl,trivial⟩ ⟨rfl,rfl,rfl,trivial⟩)
end
noncomputable def Pf:{t:Expr // hO λb e p=>oo.getD 6 (.Pass ⟨0,0,0,0⟩)=.While t b e p}:=⟨_,_,_,_,rfl⟩
noncomputable def Fe:Expr:=Pf.1
noncomputable def ux:List Stmt:=dV (oo.getD 6 (.Pass ⟨0,0,0,0⟩))
section
variable {Y:List Addr} {k:Nat} {t:cC} {br:Str->Nat}
theorem M0 (R:b0 (k+4) D) {X:List (Addr×Ent)} (C:aw Q U ai Z ak s K o) (a1:K.L=X++bp B A t) (bn:K.bO "sorter"=some (.ref t.T)) (au:(t.ns.map (·.ah.nm)).Nodup) (aV:t.bM=some (a,bo)) (ar:bo.length<=1000) {G:Bool->Shared->Prop}
  (h:∀y,aw Q U ai Z ak s K y->G (decide (t.de < t.po)||!bo.isEmpty) y):wpAny (model B A) D (isTrue Fe s (eval Fe s)) G M o:=by
 refine isTrue_plain ?_ (by rfl)
 refine tt C (an.refl _) (C.ev (x:="sorter") bn) (j8 (X:=X) (t:=t) a1) (memD (X:=X) (t:=t) a1) (λw ⟨a,b,d⟩=>⟨4,_,d,q5 t a b (by decide)⟩) hD MM (λC=>(FD C).fn) (λaB aE=>fZ (a:=⟨[],[]⟩) rfl ⟨an.refl _,?_⟩) (by rfl)
 have aQ:=C.step aE
 refine hg (h4 (KE (k:=k+3) R aQ.aI.base (aQ.iC (X:=X) (t:=t) a1 au) aV ar) λr ax ms=>?_)
 obtain⟨rfl,cw,ok⟩:=ms
 have bh:=aQ.nE (X:=X) (L:=bp B A t) (c7:=bp B A t) a1 cw ok.led ok.ah (λa aF=>.inl aF)
 have e:({K with L:=X++bp B A t}:bd)=K:=by exact a9 a1 rfl
 rw[e] at bh
 exact iq (h ax bh)
theorem PF (R:b0 (k+4) D) {X:List (Addr×Ent)} (al:s.scope.names=hy)
  (C:aw Q U ai Z ak s {L:=X++bp B A t,az:=dl (ir aG P given),bO:=dl (gZ t.T cN cU)} o) (au:(t.ns.map (·.ah.nm)).Nodup) (aV:t.bM=some (a,bo)) (a0:∀x∈bo,x∈t.ns.map (·.ah.nm)) (ar:bo.length<=900) (TZ:given.length+bo.length<=1000)
  (h:∀ns y,aw Q U ai Z ak s {L:=X++bp B A {t with ns:=ns,bM:=some (a,[]),po:=t.po+(bo.length:Nat)},az:=dl (ir aG P (given++bo)),bO:=dl (gZ t.T cN cU)} y->ns.map (·.ah)=iA (t.ns.map (·.ah)) bo->(ns.map (·.ah.nm)).Nodup->bl B A D aZ s G M y):
  bl B A D (ux.getD 0 (.Pass ⟨0,0,0,0⟩)::aZ) s G M o:=by
 refine⟨dA (kO (wpAny_BinOp ((H.name C.aI (d:=.tuple (given.map .str)) rfl).ap o _ _ (an.refl _) λdX aj aq c8=>?_)))⟩
 have bc:=(C.step aq).bM c8
 refine tt bc (an.refl _) (bc.ev (x:="sorter") rfl) (j8 (X:=X) (t:=t) rfl) (memD (X:=X) (t:=t) rfl) (λw ⟨a,b,d⟩=>⟨4,_,d,q5 t a b (by decide)⟩) hD N8 (λC=>(Gd C).fn) (λaB aE=>fZ (a:=⟨[],[]⟩) rfl ⟨an.refl _,?_⟩) (by rfl)
 have aQ:=bc.step aE
 refine hg (h4 (PX (k:=k+2) (ai:=(X++bp B A t).map (·.1)++ai) R aQ.aI.base (aQ.iC (X:=X) (t:=t) rfl au) aQ.aI.eb aV a0 ar) λr ax ms=>?_)
 obtain⟨v,ns,rfl,eX,cw,ok,bW,bC⟩:=ms
 have bh:=aQ.nE (X:=X) (L:=bp B A t) rfl cw ok.led ok.ah bC
 have be:=bh.bM (v:=v) (d:=.tuple (bo.map .str)) (eX.weak λb q=>?_)
 ·refine eU.add_tuple (ag:=given.map .str) (cP:=bo.map .str) (by refine m (bD _) (m (bD _) ?_);exact TZ) be.tabs be.aI.eb (be.ic _ (.tail _ (.head _))) (be.ic _ (.head _)) λu b2 c0 d7=>?_
  rw[<-d3] at d7
  refine(be.step c0).store (.inl (a8 al rfl)) d7 λcm bJ=>?_
  exact(h ns cm (bJ.norm (X++bp B A {t with ns:=ns,bM:=some (a,[]),po:=t.po+(bo.length:Nat)}) (ir aG P (given++bo)) (gZ t.T cN cU) rfl ⟨rfl,rfl,rfl,trivial⟩ ⟨rfl,rfl,rfl,trivial⟩) bW ok.eI).out
 ·have q:b∈(X++bp B A {t with ns:=ns,bM:=some (a,[]),po:=t.po+(bo.length:Nat)}).map (·.1)++ai:=q
  rw[d3,df,df] at q
  rcases q with(q|q)|q
  ·exact ez _ (e2 _ (by refine m d3 ?_;exact e2 _ q))
  ·exact e2 _ q
  ·exact ez _ (ez _ q)
theorem Ax {np:Pos} {aZ:List Comprehension} (C:aw Q U ai Z ak s K o)
  (V:f0 B A D Y o s (.ListComp cY (⟨cZ,iter,dk,0⟩::aZ) aR hQ) aR (firstIterPos (⟨cZ,iter,dk,0⟩::aZ) hQ) iter cP) (CO:∀E∈cP,flat E=true) (aN:hG s x)
  (h:∀y,aw Q U ai Z ak s (K.set x (.list cP)) y->bl B A D dE s G M y)
  (aW:swapsWith (.ListComp cY (⟨cZ,iter,dk,0⟩::aZ) aR hQ) (some (.Name x np)) ao.line s=pure true):
  bl B A D (.Assign [.Name x np] (.ListComp cY (⟨cZ,iter,dk,0⟩::aZ) aR hQ) ao::dE) s G M o:=by
 refine⟨dA ?_⟩
 refine m (exec_Assign_Name_used _ _ _ _ aW) ?_
 refine ay (gK (ay ?_))
 show wpAny _ D (do let _ <-comprehension (.ListComp cY (⟨cZ,iter,dk,0⟩::aZ) aR hQ) aR s (firstIterPos (⟨cZ,iter,dk,0⟩::aZ) hQ) (newList []) false (eval iter s) (some (assign (.Name x np) s))) _ _ o
 refine ay (c5 (V.ap o (some (assign (.Name x np) s)) (λ_ y=>wpAny (model B A) D (execs dE s) G M y) M (an.refl _) λy O Cl aE au hn vJ cE cW tL a0=>?_) (λ_ y aS=>bx (bx aS)) λ_ _ e=>e)
 obtain⟨J,n,l,rs⟩:=a0
 obtain⟨ab,au⟩:=au
 have Bi:∃w,ce (y.heap.get? Cl=some w) (go w=false) (∀h:Heap,h.get? Cl=some w->∃ab,h.Ns Cl ab):=by
  obtain⟨w,aU,ck,e,d,r⟩:=id au
  exact⟨w,e,hI.gY au w e,λh q=>⟨ab,w,aU,ck,q,d,r⟩⟩
 obtain⟨w,aP,Bj,Bk⟩:=Bi
 have aQ:=C.add (e:=.own λbA=>bA=w) aE ⟨hn,vJ⟩ ⟨w,aP,Bj,rfl⟩
 have c4:aO (({K with L:=(Cl,.own λbA=>bA=w)::K.L}:bd).Y ai) y.heap (.ref O) (.list cP):=by
  refine .list (λq=>?_) l (rs.flat CO)
  have q:O∈Cl::K.Y ai:=q
  rcases bP.mp q with q|q
  ·exact cE q.symm
  ·exact absurd (C.aI.eb _ q) (eZ.mpr cW)
 show wpAny _ D (assign (.Name x np) s (.ref O)) _ _ _
 refine m3 (aQ.store aN c4 λax bh=>?_)
 obtain⟨bA,f8,_,rfl⟩:=bh.led (Cl,.own λbA=>bA=w) (.head _)
 refine⟨_,(Bk ax.heap f8).choose_spec,λam dI=>(h _ ?_).out⟩
 exact bh.q6 (L:=K.L) (aD:=ax.toks) rfl dI.extBut (di dI.1.symm)
noncomputable def uB (aC:List Str) (x:Str):PyData->Bool
 |.list [.str a,.str b]=>decide (b=x)&&!decide (a∈aC)
 |_=>false
noncomputable def zw (P:fr) (aC:List Str):PyData->Bool
 |.str x=>d0 P aC x
 |_=>false
theorem DU (P:fr) (aC:List Str) (x:Str):((items (fb P)).filter (uB aC x)).map ny=((P.filter λp=>decide (p.2=x)&&!decide (p.1∈aC)).map (·.1)).map .str:=by
 show((P.map iE).filter (uB aC x)).map ny=_
 induction P with
 |nil=>rfl
 |cons p P ih=>
  refine m dG (m fH (m fH ?_))
  have e:uB aC x (iE p)=(decide (p.2=x)&&!decide (p.1∈aC)):=rfl
  refine m e ?_
  cases decide (p.2=x)&&!decide (p.1∈aC)
  ·exact ih
  ·simp only[fv,dG]
   refine m ih ?_;rfl
theorem LC (P:fr) (aC:List Str) (x:Str):((P.filter λp=>decide (p.2=x)&&!decide (p.1∈aC)).map (·.1)).isEmpty=d0 P aC x:=by
 unfold d0
 induction P with
 |nil=>rfl
 |cons p P ih=>
  refine m fH (m List.all_cons (a9 ih ?_))
  cases aX:decide (p.2=x)<;>cases a5:decide (p.1∈aC)<;>simp
theorem EO (P:fr) (aC aG:List Str):((items (.list (aG.map PyData.str))).filter (zw P aC)).map id=(aG.filter (d0 P aC)).map .str:=by
 refine m (oC _) ?_
 show((aG.map PyData.str).filter (zw P aC))=_
 refine m nC ?_
 rfl
theorem Pl (ag:List PyData):PyData.eqv (.list ag) (.list [])=ag.isEmpty:=by
 cases ag<;>simp[PyData.eqv,PyData.eqvAll]
end
noncomputable def uv (aG:List Str) (P:fr) (given bC:List Str):List (Str×PyData):=[("order",.list (aG.map .str)),("pairs",fb P),("given",.tuple (given.map .str)),("free",.list (bC.map .str))]
section
variable {Y:List Addr} {k:Nat} {t:cC} {br:Str->Nat}
theorem KZ {aC:List Str} {p:Str×Str}:(decide (p.2=x)&&(!decide (p.1∈aC)&&true))=uB aC x (iE p):=by refine m (pT _) ?_;rfl
theorem xt (ag:List Str):PyData.eqv (.list (ag.map .str)) (.list (ag.map .str))=true:=by
 have:PyData.eqvAll (ag.map .str) (ag.map .str)=true:=by
  induction ag with
  |nil=>simp[PyData.eqvAll]
  |cons x ag ih=>simp[PyData.eqvAll,PyData.eqv,ih]
 simp[PyData.eqv,this]
theorem O6 (R:b0 (k+4) D) {X:List (Addr×Ent)} {aC:List Str} (av:s.cells=cellsFrom (s.locals+1) hy []) (al:s.scope.names=hy) (a6:Ord P aG br) (lQ:P.length<=400) (aP:aG.length<=20) (eo:∀x∈aG,PyData.strOk x=true)
  (T0:∀x∈aC,x∈aG) (hm:(cU,Ent.lst (aC.map .str))∈X)
  (C:aw Q U ai Z ak s {L:=X++bp B A t,az:=dl (ir aG P given),bO:=dl (gZ t.T cN cU)} o)
  (h:∀y,aw Q U ai Z ak s {L:=X++bp B A t,az:=dl (uv aG P given (aG.filter (d0 P aC))),bO:=dl (gZ t.T cN cU)} y->bl B A D aZ s G M y):
  bl B A D (ux.getD 1 (.Pass ⟨0,0,0,0⟩)::aZ) s G M o:=by
 have bj:=R.h
 have aa:=C.pD (x:="told") (O:=cU) (aM:=aC.map .str) rfl (e2 _ hm)
 refine Ax C (h5 (λx=>[("text",x)]) (zw P aC) id aa bj al rfl rfl (by refine m av ?_;rfl) (H.name aa (x:="order") (d:=.list (aG.map .str)) rfl) (.list _) (by show(aG.map PyData.str).length<=1000;rw[bD];exact aK ‹_› (by decide)) (by intro _;rfl)
  (λaY bG x I=>fp.name (.inr ⟨a8 bG.names rfl,_,by refine m bG.cells ?_;rfl,hb _⟩)) (λx I q aS=>by refine m (cn.mp aS) ?_;rfl)
  (λaY bG d hd eP y dr bf=>?_)) (λE aJ=>?_) (.inl (a8 al rfl)) (λy a4=>?_) ?_
 ·obtain⟨x,I,rfl⟩:=bZ.mp hd
  refine⟨fk.one (bL.cmp bf.base (f0.ou bf (h5 (λd=>[("one",ny d),("two",s9 d)]) (uB aC x) ny bf bj bG.names rfl rfl (by refine m bG.cells (m av ?_);rfl) (H.name bf (x:="pairs") (d:=fb P) rfl) (.list _) (by show(P.map iE).length<=1000;rw[bD];exact aK ‹_› (by decide)) (by intro _;rfl)
   (λsz kA d hd=>?_) (λd hd q aS=>?_) (λsz kA d hd C0 wf ly gI=>?_))) (H.list bf bK.nil) (cH.eq R ?_ (ot λx I=>by cases I) ?_)),λ_=>H.name bf rfl⟩
  ·obtain⟨p,af,rfl⟩:=bZ.mp hd
   exact fp.pair bj (.inl (a8 kA.names rfl)) (.inl (a8 kA.names rfl))
  ·simp only[bP,b9,eH] at aS
   rcases aS with rfl|rfl<;>rfl
  ·obtain⟨p,af,rfl⟩:=bZ.mp hd
   have IE:=a6.mem (a:=p.1) (b:=p.2) af
   refine⟨fk.one (KZ▸bL.and (b:=decide (p.2=x)) (c:=!decide (p.1∈aC)&&true) (bL.cmp gI.base (H.name gI (x:="two") (d:=.str p.2) rfl) (H.name gI (x:="text") (d:=.str x) rfl) (cH.eq R (gp (eo _ IE.2)) (gp (eo _ I)) (w0 _ _))) λ_=>bL.and (bL.cmp gI.base (H.name gI (x:="one") (d:=.str p.1) rfl) (H.name gI (x:="told") (d:=.list (aC.map .str)) rfl) (cH.notIn_list R (gp (eo _ IE.1)) (kc λE aJ=>eo _ (T0 E aJ)) (by exact m (u7 _ _) (m (ps _) rfl)))) λ_=>bL.and_nil),λ_=>H.name gI rfl⟩
  ·rw[DU]
   refine kc λE aJ=>?_
   obtain⟨p,af,rfl⟩:=bZ.mp aJ
   exact eo _ (a6.mem (a:=p.1) (b:=p.2) (eY.mp af).1).1
  ·refine m (DU _ _ _) (m (Pl _) ?_)
   show _=d0 P aC x
   refine a9 (LC P aC x) ?_
   cases (P.filter λp=>decide (p.2=x)&&!decide (p.1∈aC))<;>rfl
 ·rw[EO] at aJ
  exact pC _ E aJ
 ·rw[EO] at a4
  exact h y (a4.norm (X++bp B A t) (uv aG P given (aG.filter (d0 P aC))) (gZ t.T cN cU) rfl ⟨rfl,rfl,rfl,rfl,trivial⟩ ⟨rfl,rfl,rfl,trivial⟩)
 ·exact ri C.aI.fn (a8 al rfl) rfl rfl
theorem OI (R:b0 (k+4) D) {X:List (Addr×Ent)} {bC:List Str} (av:s.cells=cellsFrom (s.locals+1) hy []) (al:s.scope.names=hy) (af:given.Perm bC) (ar:bC.length < 64) (eo:∀x∈bC,PyData.strOk x=true)
  (C:aw Q U ai Z ak s {L:=X++bp B A t,az:=dl (uv aG P given bC),bO:=dl (gZ t.T cN cU)} o)
  (h:∀y,aw Q U ai Z ak s {L:=X++bp B A t,az:=dl (uv aG P given bC),bO:=dl (gZ t.T cN cU)} y->bl B A D aZ s G M y):
  bl B A D (ux.getD 2 (.Pass ⟨0,0,0,0⟩)::aZ) s G M o:=by
 refine xP (mM ?_ (by with_unfolding_all rfl))
 refine H.sorted (d:=.tuple (given.map .str)) (ag:=given) C.aI (a8 al rfl) (H.name C.aI rfl) (.inr rfl) (by refine m af.length_eq ?_;exact ar) (an.refl _) λdX aj IF aq c8 T1=>?_
 have bc:=(C.step aq).bM c8
 refine H.sorted (d:=.list (bC.map .str)) (ag:=bC) bc.aI (a8 al rfl) (H.name bc.aI rfl) (.inl rfl) ar (an.refl _) λdU aB T2 aE c4 IG=>?_
 have aQ:=bc.step aE
 have T3:=aQ.ic _ (.head _)
 have e:IF=T2:=T1.same IG af
 subst e
 have lo:low (.list (IF.map PyData.str)):=kc λE aJ=>eo E (IG.1.mem_iff.mp aJ)
 refine cH.ne R lo lo (b:=false) ?_ aB dX dU _ M (T3.weak λ_ q=>by cases q) (c4.weak λ_ q=>by cases q) λax a7=>iq ?_
 ·rw[xt];rfl
 ·exact b8 (h ax (aQ.step a7 |>.norm (X++bp B A t) (uv aG P given bC) (gZ t.T cN cU) rfl ⟨rfl,rfl,rfl,rfl,trivial⟩ ⟨rfl,rfl,rfl,trivial⟩))
end
theorem NN:isSubtype (.type "ValueError") (.type "ValueError")=pure true:=by rw[jq];kernel_rfl
theorem ek.less {C1:List Addr} (F:ek l Z o) (h:∀a∈C1,a∈Z):ek l C1 o:=⟨F.kk,F.oO,F.fj,λa q ab=>F.off a q (h a ab)⟩
noncomputable def ie (cU cN:Addr) (aC left:List Str):List (Addr×Ent):=[(cU,.lst (aC.map .str)),(cN,.lst (left.map .str))]
section
variable {Y:List Addr} {k:Nat} {t:cC} {br:Str->Nat}
noncomputable abbrev Qe (B:Program) (A:World) (t:cC) (l:List Env) (P:fr) (aG given aC left:List Str) (cN cU:Addr) (ak:Shared) (lR:Nat) (i:Nat) (bX:Shared) (bH:bd):Prop:=ce (i<=lR) (el (du l) ak bX) (bH={L:=ie cU cN aC left++bp B A t,az:=dl (ir aG P given),bO:=dl (gZ t.T cN cU)})
theorem PY (R:b0 (k+4) D) (e9:D.frames=some (s::l)) (bb:s.frame=some s.locals) (F:ek l [] ak) (a6:Ord P aG br) (av:s.cells=cellsFrom (s.locals+1) hy []) (al:s.scope.names=hy) (aP:aG.length<=20) (pc:∀x∈aG,(reprText x).length<=10000)
  {aC left:List Str} {lR:Nat} {eR:Str} (gc:kI P fa (t.ns.map (·.ah)) aC given []) (eK:∀x,x∈fa↔x∈aG) (au:(t.ns.map (·.ah.nm)).Nodup) (aV:t.bM=some (a,[])) (IH:∀x∈left,x∈aG) (W4:left.length<=20) (sw:aC.length<=20)
  (aH:left[lR]?=some eR) (II:eR∈given) (wn:eR∉aC) (y3:∀j x,j < lR->left[j]?=some x->x∉given/\x∉aC)
  (C:aw Q U ai [] ak s {L:=ie cU cN aC left++bp B A t,az:=dl (ir aG P given),bO:=dl (gZ t.T cN cU)} o)
  (h:∀bX ns bo f6 y,el (du l) ak bX->f6∈t.ns.map (·.ah)->f6.nm=eR->(ns.map (·.ah),bo)=f6.succ.foldl kd (setG (t.ns.map (·.ah)) eR (-2),[])->(ns.map (·.ah.nm)).Nodup->
   aw Q U ai [] bX s {L:=ie cU cN (aC++[eR]) (oh left eR)++bp B A {t with ns:=ns,bM:=some (a,bo),de:=t.de+1},az:=dl (ir aG P given),bO:=dl (gZ t.T cN cU)} y->bl B A D aZ s G M y):
  bl B A D (ux.getD 3 (.Pass ⟨0,0,0,0⟩)::ux.getD 4 (.Pass ⟨0,0,0,0⟩)::aZ) s G M o:=by
 have bj:=R.h
 have T4:eR∈left:=fc aH
 have W5:=(gL.mp aH).1
 have T5:∀x∈left,∃a3∈t.ns,ce (a3.ah.nm=x) (∀E∈a3.ah.succ,E∈t.ns.map (·.ah.nm)) (a3.ah.succ.length<=20):=λx I=>by
  have hm:x∈t.ns.map (·.ah.nm):=by
   have:=(eK x).mpr (IH x I)
   rw[<-gc.nm,c6] at this
   exact this
  obtain⟨a3,gH,gT⟩:=xn hm
  have h6:=gc.h6 _ (d9 (f:=(·.ah)) gH)
  refine⟨a3,gH,gT,λE aJ=>?_,aK (mZ h6.1 λE aJ=>(a6.mem ((h6.2 E).mp aJ)).2) aP⟩
  have:=(eK E).mpr (a6.mem ((h6.2 E).mp aJ)).2
  rw[<-gc.nm,c6] at this
  exact this
 refine M8 (O:=cN) (aM:=left.map .str) C (C.ev (x:="left") rfl) (pC _) (D8 av al) bj
  (Qe B A t l P aG given aC left cN cU ak lR) ?_ ⟨lU _,el.refl _ _,rfl⟩ ?_ ?_
 ·rintro i bX bH ⟨_,_,rfl⟩
  exact .tail _ (.head _)
 ·rintro i eC bX bH ae aj cD jb fR qj ⟨i7,fC,rfl⟩ bc
  rw[fm] at qj
  obtain⟨x,I,rfl⟩:=ka.mp qj
  have pf:=F.up fC
  obtain⟨a3,gH,gT,Cf,yu⟩:=T5 x (fc I)
  have ky:=kF.np gc (d9 (f:=(·.ah)) gH)
  rw[gT] at ky
  have bc:aw Q U ai [] bX s {L:=((ae,Ent.own (bk (.ref cN) (.list (left.map .str)) (i+1)))::ie cU cN aC left)++bp B A t,az:=dl (("text",.str x)::ir aG P given),bO:=dl (gZ t.T cN cU)} aj:=
   bc.norm _ (("text",.str x)::ir aG P given) (gZ t.T cN cU) rfl ⟨rfl,rfl,rfl,rfl,trivial⟩ ⟨rfl,rfl,rfl,trivial⟩
  refine F9 ⟨dA (m2 ?_ bc.quiet (by rfl))⟩
  refine tt bc (an.refl _) (bc.ev (x:="sorter") rfl) (j8 (X:=_::ie cU cN aC left) (t:=t) rfl) (memD (X:=_::ie cU cN aC left) (t:=t) rfl) (λw ⟨a,b,d⟩=>⟨4,_,d,q5 t a b (by decide)⟩) hD NS (λC=>(ER C).fn)
   (λaB aE=>kg (jO ((H.name bc.aI (x:="text") (d:=.str x) rfl).ap aB _ _ aE λv ax a7 r=>kH ⟨a7,?_⟩))) (by rfl)
  refine aO.fV r λaD=>?_
  have bh:=bc.step (aE.trans a7)
  have T6:=(bh.rt pf bb).less (C1:=eV B A t) λb q=>by
   show b∈(((ae,Ent.own (bk (.ref cN) (.list (left.map .str)) (i+1)))::ie cU cN aC left)++bp B A t).map (·.1)
   refine m d3 ?_
   exact ez _ q
  have T7:a3.ah.np=-1∨0<=a3.ah.np:=by
   by_cases bU:i < lR
   ·have:=y3 i x bU I
    exact .inr ((ky this.2).2 this.1)
   ·have:i=lR:=by exact mQ i7 (eZ.mp bU)
    subst this
    have:x=eR:=by rw[aH] at I;injection I with e;exact e.symm
    subst this
    exact .inl ((ky wn).1 II)
  refine hg (h4 (MP (k:=k) R e9 T6 bh.aI.base (bh.iC (X:=_::ie cU cN aC left) (t:=t) rfl au) aV gH gT T7 Cf (by simp;exact aK ‹_› (by decide)) (pc x (IH x (fc I)))) λr b2 ms=>?_)
  rcases ms with⟨mm,ns,bo,rfl,cw,ok,bW,bC⟩|⟨j1,e,rfl,Ci⟩
  ·have C2:x=eR/\i=lR:=by
    by_cases bU:i < lR
    ·have:=y3 i x bU I
     have:=(ky this.2).2 this.1
     simp_all
    ·have:i=lR:=by exact mQ i7 (eZ.mp bU)
     subst this
     rw[aH] at I;injection I with e;exact⟨e.symm,rfl⟩
   obtain⟨rfl,rfl⟩:=C2
   have be:=bh.nE (X:=_::ie cU cN aC left) (L:=bp B A t) rfl cw ok.led ok.ah bC
   refine(b8 (vm (O:=cU) (aM:=aC.map .str) (bz:=[(ae,Ent.own (bk (.ref cN) (.list (left.map .str)) (i+1)))]) (bY:=(cN,.lst (left.map .str))::bp B A {t with ns:=ns,bM:=some (a,bo),de:=t.de+1}) be rfl rfl (H.name (d:=.str x) be.aI rfl) (by rw[bD];exact aK ‹_› (by decide)) λcm bJ=>u6 (fR _ _ ?_))).out
   have b6:aw Q U ai [] bX s {L:=ie cU cN (aC++[x]) left++bp B A {t with ns:=ns,bM:=some (a,bo),de:=t.de+1},az:=dl (ir aG P given),bO:=dl (gZ t.T cN cU)} cm:=
    (bJ.G4 (bz:=[]) (ba:=[(ae,Ent.own (bk (.ref cN) (.list (left.map .str)) (i+1)))]) (bY:=(cU,.lst (aC.map .str++[.str x]))::(cN,.lst (left.map .str))::bp B A {t with ns:=ns,bM:=some (a,bo),de:=t.de+1}) rfl).norm _ (ir aG P given) (gZ t.T cN cU) (by show _=ie cU cN (aC++[x]) left++_;unfold ie;refine m d3 ?_;rfl) ⟨rfl,rfl,rfl,trivial⟩ ⟨rfl,rfl,rfl,trivial⟩
   have aa:=b6.pD (x:="told") (O:=cU) (aM:=(aC++[x]).map .str) rfl (.head _)
   refine M9 (O:=cN) (ag:=left) (t:=x) (bz:=[(cU,.lst ((aC++[x]).map .str))]) (bY:=bp B A {t with ns:=ns,bM:=some (a,bo),de:=t.de+1}) b6 rfl rfl
    (H.sub aa (H.name (d:=.list ((aC++[x]).map .str)) aa rfl) (H.neg_int H.int) (by simp;exact(λa b=>(Z.leB_iff a b).mp) 1 (↑aC.length+1) rfl) ⟨by decide,by simp;exact aK ‹_› (by decide)⟩ (by
     have e:placeAt (-1) ((aC++[x]).map PyData.str).length=aC.length:=by unfold placeAt;simp;exact zW _
     refine m e ?_;simp)) T4 (by exact aK ‹_› (by decide)) λds c1=>?_
   exact h bX ns bo a3.ah ds fC (d9 (f:=(·.ah)) gH) gT bW ok.eI (c1.norm _ (ir aG P given) (gZ t.T cN cU) rfl ⟨rfl,rfl,rfl,trivial⟩ ⟨rfl,rfl,rfl,trivial⟩)
  ·have C2:i < lR:=by
    apply sV
    intro av
    have:i=lR:=by exact mQ i7 (eZ.mp av)
    subst this
    rw[aH] at I;injection I with e
    have:=(ky (e▸wn)).1 (e▸II)
    simp_all
   refine aw.KG (X:="ValueError") (T:="ValueError") (nq:="ValueError") bh (yF:=_::ie cU cN aC left) (t:=t) rfl pf e9 bb Ci (a8 al rfl) (by exact jk (by kernel_rfl)) (by rw[jq];kernel_rfl) (by refine m (jq _ _) ?_;kernel_rfl) NN λcm Hh qi=>?_
   obtain⟨jE,T8,bJ⟩:=qi
   exact Gr (fR _ _ ⟨jE,_,⟨C2,fC.trans T8,rfl⟩,bJ.norm _ (ir aG P given) (gZ t.T cN cU) rfl ⟨rfl,rfl,rfl,trivial⟩ ⟨rfl,rfl,rfl,trivial⟩⟩)
 ·rintro bX bH aj cD ⟨i7,fC,rfl⟩ bc
  rw[bD] at i7
  exact absurd ‹_ < _› (eZ.mpr ‹_<=_›)
end
section
variable {Y:List Addr} {k:Nat} {t:cC} {br:Str->Nat}
noncomputable def cC.at (t:cC) (ns:List co) (a:Addr) (bo given aC:List Str):cC:={t with ns:=ns,bM:=some (a,bo),po:=(given.length:Nat),de:=(aC.length:Nat)}
theorem K9 (R:b0 (k+4) D) (e9:D.frames=some (s::l)) (bb:s.frame=some s.locals) (F:ek l [] ak) (a6:Ord P aG br) (b1:P.Nodup) (lQ:P.length<=400) (av:s.cells=cellsFrom (s.locals+1) hy []) (al:s.scope.names=hy) (aP:aG.length<=20) (eo:∀x∈aG,PyData.strOk x=true) (pc:∀x∈aG,(reprText x).length<=10000)
  {ns:List co} (bW:ns.map (·.ah)=g1 P aG) (au:(ns.map (·.ah.nm)).Nodup)
  (C:aw Q U ai [] ak s {L:=ie cU cN [] aG++bp B A (t.at ns a (g0 (g1 P aG)) [] []),az:=dl (ir aG P []),bO:=dl (gZ t.T cN cU)} o)
  (h:∀bX dd given y,el (du l) ak bX->aw Q U ai [] bX s {L:=ie cU cN (jK P aG) []++bp B A dd,az:=dl (ir aG P given),bO:=dl (gZ t.T cN cU)} y->bl B A D aZ s G M y):
  bl B A D (oo.getD 6 (.Pass ⟨0,0,0,0⟩)::aZ) s G M o:=by
 have sy:=kI.start b1 (λq=>a6.mem q) a6.ah
 have eK:=sy.2
 generalize t8:(g1 P aG).map (·.nm)=fa at eK
 have CU:fa.Nodup:=t8▸sy.3
 have T9:kI P fa (g1 P aG) [] [] (g0 (g1 P aG)):=t8▸sy.1
 refine KA (λn o=>Mb λbX ns bo aC given left=>nF (n=left.length) (el (du l) ak bX) (kF P aG fa (ns.map (·.ah)) aC given bo left) ((ns.map (·.ah.nm)).Nodup) (aw Q U ai [] bX s {L:=ie cU cN aC left++bp B A (t.at ns a bo given aC),az:=dl (ir aG P given),bO:=dl (gZ t.T cN cU)} o)) aG.length ⟨ak,ns,_,[],[],aG,rfl,el.refl _ _,⟨bW▸T9,⟨List.Perm.refl _,List.Pairwise.nil,λx I=>by cases I⟩,rfl⟩,au,C⟩ ?_
 rintro n aj cD ⟨bX,ns,bo,aC,given,left,rfl,fC,jA,au,bc⟩
 have pf:=F.up fC
 have IJ:∀x∈bo,x∈fa:=λx I=>((jA.gc.oK x).mp I).1
 have Ua:bo.length<=20:=aK (mZ jA.gc.oL λx I=>(eK x).mp (IJ x I)) aP
 have Ub:given.length<=20:=aK (mZ jA.gc.pQ λx I=>(eK x).mp (jA.gc.s3 x I).1) aP
 have Sq:=jA.ah a6
 have sw:aC.length+left.length<=20:=by
  have:=jA.rs.perm.length_eq
  rw[ib] at this
  simp_all
 have su:∀x∈aC,x∈aG:=λx I=>(jA.rs.perm.mem_iff (a:=x)).mp (e2 _ I)
 have tH:∀x∈left,x∈aG:=λx I=>(jA.rs.perm.mem_iff (a:=x)).mp (ez _ I)
 have Uc:fa=ns.map (·.ah.nm):=by refine a9 jA.gc.nm (m c6 ?_);rfl
 refine M0 (k:=k) (t:=t.at ns a bo given aC) (X:=ie cU cN aC left) R bc rfl rfl au rfl (by exact aK ‹_› (by decide)) λaB aQ=>?_
 have Ud:(decide ((t.at ns a bo given aC).de < (t.at ns a bo given aC).po)||!bo.isEmpty)=!left.isEmpty:=jA.Ng a6 eK
 refine m Ud ?_
 by_cases a0:left=[]
 ·subst a0
  have e:aC=jK P aG:=jA.oL
  subst e
  exact b8 (h bX _ given aB fC aQ)
 ·have i7:(!left.isEmpty)=true:=by cases left;exact absurd rfl a0;rfl
  refine m i7 (m (b3 rfl) ?_)
  refine PF (k:=k) (t:=t.at ns a bo given aC) (bo:=bo) (X:=ie cU cN aC left) R al aQ au rfl (λx I=>by refine m (show(t.at ns a bo given aC).ns=ns from rfl) (a9 Uc ?_);exact IJ x I) (by exact aK ‹_› (by decide)) (by exact c2 (iv Ub Ua)) λiN ax bh ja mg=>?_
  have ja:iN.map (·.ah)=iA (ns.map (·.ah)) bo:=ja
  refine O6 (k:=k) (t:={t.at ns a bo given aC with ns:=iN,bM:=some (a,[]),po:=(t.at ns a bo given aC).po+(bo.length:Nat)}) (aC:=aC) (X:=ie cU cN aC left) R av al a6 lQ aP eo su (.head _) bh λb2 be=>?_
  have o7:(aG.filter (d0 P aC)).length < 64:=ki (lh _ _) (by exact ki ‹_› (by decide))
  refine OI (k:=k) (t:={t.at ns a bo given aC with ns:=iN,bM:=some (a,[]),po:=(t.at ns a bo given aC).po+(bo.length:Nat)}) (X:=ie cU cN aC left) R av al (jA.free a6 eK) o7 (λx I=>eo x (eY.mp I).1) be λcm bJ=>?_
  have bJ:=bJ.norm _ (ir aG P (given++bo)) (gZ t.T cN cU) rfl ⟨rfl,rfl,rfl,trivial⟩ ⟨rfl,rfl,rfl,trivial⟩
  obtain⟨lR,eR,IK,y2,IL,wn,y3⟩:=jA.pick a6 eK a0
  refine PY (k:=k) (t:={t.at ns a bo given aC with ns:=iN,bM:=some (a,[]),po:=(t.at ns a bo given aC).po+(bo.length:Nat)}) R e9 bb pf a6 av al aP pc (fa:=fa) (aC:=aC) (left:=left) (given:=given++bo) (by refine m (show({t.at ns a bo given aC with ns:=iN,bM:=some (a,[]),po:=(t.at ns a bo given aC).po+(bo.length:Nat)}:cC).ns=iN from rfl) (m ja ?_);exact jA.gc.get) eK mg rfl tH (by exact Nat.le_of_add_left_le sw) (by exact Nat.le_of_add_right_le sw) IK IL wn y3 bJ λjE y4 y5 f6 ds t4 ss wk sg Ue b6=>b8 ?_
  have ss:f6∈iA (ns.map (·.ah)) bo:=ja▸ss
  have sg:(y4.map (·.ah),y5)=f6.succ.foldl kd (setG (iA (ns.map (·.ah)) bo) eR (-2),[]):=ja▸sg
  have IM:=jA.next b1 a6 eK CU y2 IL wn ss wk
  rw[<-sg] at IM
  have IN:eR∈left:=fc IK
  refine⟨(oh left eR).length,?_,jE,y4,y5,aC++[eR],given++bo,oh left eR,rfl,fC.trans t4,IM,Ue,?_⟩
  ·have:=vc IN
   have af:0 < left.length:=xB IN
   show(oh left eR).length < left.length
   have e:(oh left eR).length=left.length - 1:=this
   exact ki (di this) (Nat.sub_lt af Nat.one_pos)
  ·have e:({{t.at ns a bo given aC with ns:=iN,bM:=some (a,[]),po:=(t.at ns a bo given aC).po+(bo.length:Nat)} with ns:=y4,bM:=some (a,y5),de:=(t.at ns a bo given aC).de+1}:cC)=t.at y4 a y5 (given++bo) (aC++[eR]):=by
    unfold cC.at
    simp
   refine a9 e ?_
   exact b6
theorem Mx (R:b0 (k+5) D) (e9:D.frames=some l) (F:ek l [] o) (C:Base Q U o.heap) (a6:Ord P aG br) (b1:P.Nodup) (lQ:P.length<=400) (aP:aG.length<=20) (eo:∀x∈aG,PyData.strOk x=true) (pc:∀x∈aG,(reprText x).length<=10000)
  {dX dU:Value} (aJ:∀E∈Y,E < o.heap.objs.size) (c8:aO Y o.heap dX (.list (aG.map .str))) (c4:aO Y o.heap dU (fb P)):
  codeAny (model B A) D (.call (.ref 229) ⟨[dX,dU],[]⟩) (λr y=>cp λv dD=>hx (r=.ok (.ret v)) (el (du l) o dD) (an dD y) (aO Y y.heap v (.list ((jK P aG).map .str)))) o:=by
 refine oF λG dt=>?_
 refine oi (Z:=[]) (ai:=Y) (K:={az:=dl (lu aG P)}) hy ["order","pairs"] R.room C (λz q=>(b9 q).elim) aJ (λp q=>(b9 q).elim) (λp q=>(b9 q).elim) hM (λp q=>(b9 q).elim)
  (λx bB e=>?_) (λx v e=>by cases e) C.rH rfl rfl rfl rfl (λbs cd=>rfl) rfl (by decide) (by decide) λaj s al av hJ bc=>?_
 ·have hm:=gq e
  simp only[lu,bP,b9,eH] at hm
  rcases hm with hm|hm
  ·obtain⟨rfl,rfl⟩:=gv hm;exact⟨dX,.head _,c8⟩
  ·obtain⟨rfl,rfl⟩:=gv hm;exact⟨dU,.tail _ (.head _),c4⟩
 have c9:=R.deeper s
 have bb:=hJ.3
 have nr:(D.deeper s).frames=some (s::l):=u5 e9
 refine⟨dA (kO ?_)⟩
 refine Call_Name rfl ((bi.glob bc.aI (a8 al rfl) (by exact iT (by kernel_rfl)):bi B A (D.deeper s) aj s (.Name "TopologicalSorter" _) (.ref 194)).ap aj _ _ (an.refl _) λaB aE=>?_)
 have aQ:=bc.step aE
 obtain⟨IP,cf⟩:=aQ.aI.base.cf
 refine callWith_of (P:=λh=>(KB IP).In h) rfl (keeps_K (P4 IP)) (evalArgs_nil3 ⟨cf,?_⟩)
 refine Pb (k:=k+2) c9 aQ.aI.base λt ax a7 aX a5 cu ej ok j0=>?_
 have bh:=aQ.nE (X:=[]) (L:=[]) (c7:=bp B A t) rfl a7.cw ok.led ok.ah (λb aA=>.inr (j0 b aA))
 refine bh.li (.inl (a8 al rfl)) λb2 be=>bl.out ?_
 have be:=be.norm (bp B A t) (lu aG P) [("sorter",.ref t.T)] rfl ⟨rfl,rfl,trivial⟩ ⟨rfl,trivial⟩
 refine Ni (k:=k) c9 b1 a6 lQ aP eo av al be aX a5 λns cm bJ bW au=>?_
 refine Po (k:=k) (t:=t.with ns) c9 nr bb F a6 b1 av al aP bJ bW au a5 λa bX ds fC b6=>?_
 refine PQ (k:=k) (t:={t.with ns with bM:=some (a,g0 (g1 P aG))}) c9 av al aP b6 λcN cU fK c1=>?_
 have e:({t.with ns with bM:=some (a,g0 (g1 P aG))}:cC)=t.at ns a (g0 (g1 P aG)) [] []:=by
  unfold cC.with cC.at
  refine m cu (m ej ?_);rfl
 rw[e] at c1
 refine K9 (k:=k) c9 nr bb (F.up fC) a6 b1 lQ av al aP eo pc bW au c1 λjE dd given gS t4 cS=>?_
 have cW:cU∉Y:=λq=>by
  rcases cS.own cU (.head _) with z|z
  ·rw[t4.fN.1,fC.fN.1] at z
   exact absurd (aJ _ q) (eZ.mpr z)
  ·cases z
 have jv:=cS.freeze (a:=cU) (L:=(cN,.lst [])::bp B A dd) rfl cW
 have cT:=(cS.drop (L:=(cN,.lst [])::bp B A dd) rfl).uA (x:="told") (cS.dP "told" _ rfl) jv
 refine hv cT (H.name cT.aI rfl) λv lO e8 r=>dt _ _ ⟨v,jE,rfl,fC.trans t4,e8.ex.ex,r.weak λb q=>ez _ q⟩
end
noncomputable def rz (aU:List DictEntry) (name:Str):Option (Option Value):=match aU.find? (·.key.isStr name) with
 |some e=>some (some e.val)
 |none=>if aU.any (·.refKey) then none else some none
noncomputable def db (i:Nat):Stmt:=(dV jI).getD i (.Pass ⟨0,0,0,0⟩)
section
open PySem.Calls Builtin Builtin.ObjectAttr
theorem AA {h:Heap} {T:String} (aP:h.get? a=some w) (av:w.cls=.type T) (aW:isSubtype (.type T) (.type T)=pure true):Looks ba h (isInstance (.ref a) (.type T)) true:=by
 unfold isInstance
 refine Looks.andThen (a:=.type T) ?_ ?_
 ·exact av▸(lW (part:=none) aP).andThen .now
 ·exact aW▸.now
section
variable {a2 gf:Type}
theorem lV {G:a2->Shared->Prop} {c:Prop} [Decidable c] {a b:Sem a2} (av:¬c) (h:wpAny ba D b G M o):wpAny ba D (if c then a else b) G M o:=by refine m (bI av) ?_;exact h
theorem uQ {G:a2->Shared->Prop} {c:Prop} [Decidable c] {a b:Sem a2} (av:c) (h:wpAny ba D a G M o):wpAny ba D (if c then a else b) G M o:=by refine m (b3 av) ?_;exact h
theorem mI {wo:gf} {f:a2->gf->Sem (ForInStep gf)} {G:gf->Shared->Prop} (h:G wo o):wpAny ba D (forIn ([]:List a2) wo f) G M o:=by
 refine m List.forIn_nil ?_;exact bx h
theorem gx {x:a2} {l:List a2} {wo:gf} {f:a2->gf->Sem (ForInStep gf)} {G:gf->Shared->Prop} (h:wpAny ba D (f x wo) (λr y=>match r with|.done b=>G b y|.yield b=>wpAny ba D (forIn l b f) G M y) M o):wpAny ba D (forIn (x::l) wo f) G M o:=by
 refine m (List.forIn_cons _ _ _ _) ?_
 refine ay (c5 h (λr y aV=>?_) λ_ _ q=>q)
 cases r with
 |done b=>exact bx aV
 |yield b=>exact aV
end
theorem Pc {h:Heap} {ag:Array Value} {T:String} {n:Nat} (aP:h.get? a=some ⟨.type T,none,.seq ag n,#[]⟩):Looks ba h (seqItems? (.ref a)) (some ag):=by
 unfold seqItems?
 exact(lW (part:=none) aP).andThen .now
theorem EB {h:Heap} {c:Value} {d:Option Addr} {n:Nat} {bQ:Array (Option Value)} (aP:h.get? a=some ⟨c,d,.dict aU n,bQ⟩):Looks ba h (dictEntries a) aU:=by
 unfold dictEntries
 exact(lW (part:=none) aP).andThen .now
theorem ol {h:Heap} {c:Value} {d:Option Addr} {n:Nat} {bQ:Array (Option Value)} {name:Str} {r:Option Value} (aP:h.get? a=some ⟨c,d,.dict aU n,bQ⟩) (aV:rz aU.toList name=some r):Looks ba h (nsGet a name) r:=by
 refine looks_nsIn (K:=[(a,⟨c,d,.dict aU n,bQ⟩)]) (λb w e=>?_) ?_
 ·rw[g9] at e
  cases aA:b==a with
  |true=>rw[aA] at e;cases e;refine m (hh.mp aA) ?_;exact aP
  |false=>rw[aA] at e;cases e
 ·unfold nsIn
  refine m pE ?_
  exact aV
structure ei (h:Heap) (L:List (Addr×Obj)) (am:Heap):Prop where
 keep:∀b w,h.get? b=some w->am.get? b=some w
 at_:∀p∈L,am.get? p.1=some p.2
 new:∀p∈L,h.objs.size<=p.1
 ah:(L.map (·.1)).Nodup
 size:h.objs.size<=am.objs.size
theorem ei.start (h:Heap):ei h [] h:=⟨λ_ _ e=>e,λp q=>(by cases q),λp q=>(by cases q),hM,cG _⟩
theorem ei.ext {h ga:Heap} {L:List (Addr×Obj)} (c:ei h L am) (k:∀b w,am.get? b=some w->ga.get? b=some w) (z:am.objs.size<=ga.objs.size):ei h L ga:=
 ⟨λb w e=>k _ _ (c.keep b w e),λp q=>k _ _ (c.at_ p q),c.new,c.ah,aK c.size z⟩
theorem ei.push {h:Heap} {L:List (Addr×Obj)} (c:ei h L am) (w:Obj) (bb:w.isFreed=false):ei h ((am.objs.size,w)::L) (am.push w):=by
 refine⟨λb bA e=>e1 _ (c.keep b bA e),λp q=>?_,λp q=>?_,?_,?_⟩
 ·rcases bP.mp q with rfl|q
  ·exact dT _ bb
  ·exact e1 _ (c.at_ p q)
 ·rcases bP.mp q with rfl|q
  ·exact c.size
  ·exact c.new p q
 ·refine m dG ?_;rewrite[fO]
  refine⟨λq=>?_,c.ah⟩
  obtain⟨p,af,e⟩:=bZ.mp q
  have:=dL (c.at_ p af)
  rw[e] at this
  exact ey _ this
 ·rw[eN];exact ht c.size
theorem ei.upd {h:Heap} {bz bY:List (Addr×Obj)} (c:ei h (bz++(a,w)::bY) am) (f:Obj->Obj) (bb:(f w).isFreed=false):ei h (bz++(a,f w)::bY) (am.update a f):=by
 have hm:(a,w)∈bz++(a,w)::bY:=by simp
 have aF:=c.at_ _ hm
 have qF:=c.new _ hm
 have ah:=c.ah
 have ya:(bz++(a,f w)::bY).map (·.1)=(bz++(a,w)::bY).map (·.1):=by simp
 refine⟨λb bA e=>?_,λp q=>?_,λp q=>?_,by refine m ya ?_;exact ah,?_⟩
 ·have:a≠b:=λq=>by
   have:=dL e
   rw[<-q] at this
   exact absurd qF (Nat.not_le.mpr this)
  refine m (pX _ _ this) ?_
  exact c.keep b bA e
 ·rw[d3,dG,ia] at ah
  rcases df.mp q with q|q
  ·have cE:a≠p.1:=λe=>ah.2.2 p.1 (d9 q) a (.head _) e.symm
   refine m (pX _ _ cE) ?_
   exact c.at_ p (e2 _ q)
  ·rcases bP.mp q with rfl|q
   ·exact n8 f aF bb
   ·have IQ:=ah.2.1
    rw[fO] at IQ
    have cE:a≠p.1:=λe=>IQ.1 (by show a∈_;refine m e ?_;exact d9 q)
    refine m (pX _ _ cE) ?_
    exact c.at_ p (ez _ (.tail _ q))
 ·have:p.1∈(bz++(a,w)::bY).map (·.1):=by refine a9 ya ?_;exact d9 q
  obtain⟨e4,iJ,e⟩:=bZ.mp this
  refine a9 e ?_;exact c.new e4 iJ
 ·exact aK c.size (di (fw am a f).1.symm)
end
section
open PySem.Calls Builtin Builtin.ObjectAttr
section
variable {h:Heap} {g:Array GenState} {k3:Drawn} {aD:Nat} {L bz bY:List (Addr×Obj)} {c:Value} {d:Option Addr} {n:Nat} {bQ:Array (Option Value)} {name:Str}
theorem ei.mid (aa:ei h (bz++(a,⟨c,d,.dict aU n,bQ⟩)::bY) am):am.get? a=some ⟨c,d,.dict aU n,bQ⟩:=aa.at_ (a,_) (by simp)
theorem GA {G:Unit->Shared->Prop} (aa:ei h (bz++(a,⟨c,d,.dict aU n,bQ⟩)::bY) am) (aV:aRefKeyMayBeTheName name aU=false)
  (aS:∀er ga,ei h (bz++(a,Obj.putName name er (.str name aD) v ⟨c,d,.dict aU n,bQ⟩)::bY) ga->G () ⟨ga,g,k3,aD+1,os⟩):wpAny ba D (nsSet a name v) G M ⟨am,g,k3,aD,os⟩:=by
 delta nsSet strHash mkText
 refine ay (ay (vh (bx (ay (ay (wpAny_fresh (bx (ay (tn aa.mid ?_)))))))))
 show wpAny ba D (if aRefKeyMayBeTheName name aU=true then _ else _) G M _
 refine lV (by refine m aV ?_;decide) ?_
 refine sU aa.mid (aS _ _ (aa.upd _ ?_))
 refine m Obj.putName_eq ?_
 unfold Obj.putNameByArray
 dsimp only
 split<;>rfl
theorem Ka {G:Bool->Shared->Prop} (aa:ei h (bz++(a,⟨c,d,.dict aU n,bQ⟩)::bY) am) (aV:nsHas name ⟨c,d,.dict aU n,bQ⟩=pure true)
  (aS:∀ga,ei h (bz++(a,Obj.dropName name ⟨c,d,.dict aU n,bQ⟩)::bY) ga->G true ⟨ga,g,k3,aD,os⟩):wpAny ba D (nsDel a name) G M ⟨am,g,k3,aD,os⟩:=by
 delta nsDel
 refine ay (tn aa.mid ?_)
 refine m aV ?_
 refine eL (uQ rfl (ay (sU aa.mid (bx (aS _ (aa.upd _ ?_))))))
 unfold Obj.dropName
 dsimp only
 split<;>rfl
theorem uY {A:Option Value} {G:Unit->Shared->Prop} (aa:ei h (bz++(a,w)::bY) am) (aH:i < 1000) (bb:w.isFreed=false)
  (aS:∀ga,ei h (bz++(a,{w with slots:=(w.slots++Array.replicate (i+1 - w.slots.size) none).setIfInBounds i A})::bY) ga->G () ⟨ga,g,k3,aD,os⟩):wpAny ba D (setSlotAt a i A) G M ⟨am,g,k3,aD,os⟩:=by
 delta setSlotAt
 show wpAny ba D (if i>=sizeLine then _ else _) G M _
 refine lV (by refine m dR ?_;exact Nat.not_le.mpr (cz aH (by decide))) ?_
 exact sU (o:=w) (aa.at_ (a,w) (by simp)) (aS _ (aa.upd (λw=>{w with slots:=(w.slots++Array.replicate (i+1 - w.slots.size) none).setIfInBounds i A}) (by obtain⟨W6,f6,Uf,Sg⟩:=w;cases Uf<;>first|rfl|exact bb)))
theorem GB {T:String} {sk:Data} {G:Value->Shared->Prop} (aa:ei h L am) (bb:(⟨.type T,none,sk,#[]⟩:Obj).isFreed=false) (hd:sizeOk sk)
  (aS:∀b ga,ei h ((b,⟨.type T,none,sk,#[]⟩)::L) ga->am.objs.size<=b->G (.ref b) ⟨ga,g,k3,aD,os⟩):wpAny ba D (newObj (.type T) sk) G M ⟨am,g,k3,aD,os⟩:=
 jJ (aS _ _ (aa.push _ bb) (cG _)) hd
theorem Lg {G:Addr->Shared->Prop} (aa:ei h L am) (bb:w.isFreed=false) (aS:∀b ga,ei h ((b,w)::L) ga->am.objs.size<=b->G b ⟨ga,g,k3,aD,os⟩):wpAny ba D (alloc w) G M ⟨am,g,k3,aD,os⟩:=
 wpAny_alloc (aS _ _ (aa.push _ bb) (cG _))
theorem Em {cd:ClassData} {f:ClassData->ClassData} {G:Unit->Shared->Prop} (aa:ei h (bz++(a,⟨c,d,.cls cd,bQ⟩)::bY) am) (af:(Data.cls (f cd)).pastItsLine=none)
  (aS:∀ga,ei h (bz++(a,⟨c,d,.cls (f cd),bQ⟩)::bY) ga->G () ⟨ga,g,k3,aD,os⟩):wpAny ba D (updateCls a f) G M ⟨am,g,k3,aD,os⟩:=by
 have e:am.get? a=some ⟨c,d,.cls cd,bQ⟩:=aa.at_ (a,_) (by simp)
 have bf:=aa.upd (Obj.mapCls f) rfl
 delta updateCls
 refine ay (wpAny_load e ?_)
 refine ay (wpAny_update e ?_)
 exact wpAny_lookBehind (o:=⟨c,d,.cls (f cd),bQ⟩) (bf.at_ (a,_) (by simp;exact .inr (.inl rfl))) af (aS _ bf)
end
end
section
open PySem.Calls Builtin Builtin.ObjectAttr
theorem eh {a2:Type} {G:a2->Shared->Prop} {b:Bool} {x E:Sem a2} (aA:b=false) (h:wpAny ba D E G M o):wpAny ba D (if b=true then x else E) G M o:=by subst aA;exact h
theorem p8 {a2:Type} {G:a2->Shared->Prop} {b:Bool} {x E:Sem a2} (aA:b=true) (h:wpAny ba D x G M o):wpAny ba D (if b=true then x else E) G M o:=by subst aA;exact h
noncomputable def xW (aU:List DictEntry) (name:Str):Option (Option Value):=match rz aU name with
 |some (some v)=>some (some v)
 |some none=>some (fastBuiltinOwn "object" name)
 |none=>none
theorem Py {h:Heap} {c eW:Value} {d g4:Option Addr} {cd:ClassData} {bQ mf:Array (Option Value)} {n:Nat} {name:Str} {r:Option Value} (aF:h.get? a=some ⟨c,d,.cls cd,bQ⟩) (hm:cd.mro=[.ref a,.type "object"]) (cE:(cd.ns==a)=false)
  (au:h.get? cd.ns=some ⟨eW,g4,.dict aU n,mf⟩) (aV:xW aU.toList name=some r):Looks ba h (typeLookup (.ref a) name) r:=by
 refine rN (K:=[(a,⟨c,d,.cls cd,bQ⟩),(cd.ns,⟨eW,g4,.dict aU n,mf⟩)]) (λb w e=>?_) ?_
 ·rw[g9] at e
  cases aA:b==a with
  |true=>rw[aA] at e;cases e;refine m (hh.mp aA) ?_;exact aF
  |false=>
   rw[aA] at e
   have e:List.lookup b [(cd.ns,(⟨eW,g4,.dict aU n,mf⟩:Obj))]=some w:=e
   rw[g9] at e
   cases k1:b==cd.ns with
   |true=>rw[k1] at e;cases e;refine m (hh.mp k1) ?_;exact au
   |false=>rw[k1] at e;cases e
 ·have wd:List.lookup a [(a,(⟨c,d,.cls cd,bQ⟩:Obj)),(cd.ns,(⟨eW,g4,.dict aU n,mf⟩:Obj))]=some ⟨c,d,.cls cd,bQ⟩:=pE
  have Ug:findIn [(a,(⟨c,d,.cls cd,bQ⟩:Obj)),(cd.ns,(⟨eW,g4,.dict aU n,mf⟩:Obj))] (.ref a) name=alongIn [(a,(⟨c,d,.cls cd,bQ⟩:Obj)),(cd.ns,(⟨eW,g4,.dict aU n,mf⟩:Obj))] name cd.mro:=by
   show(match List.lookup a [(a,(⟨c,d,.cls cd,bQ⟩:Obj)),(cd.ns,(⟨eW,g4,.dict aU n,mf⟩:Obj))] with|some ⟨_,_,.cls Uh,_⟩=>alongIn [(a,(⟨c,d,.cls cd,bQ⟩:Obj)),(cd.ns,(⟨eW,g4,.dict aU n,mf⟩:Obj))] name Uh.mro|_=>none)=_
   exact m wd rfl
  refine m Ug ?_
  refine m hm ?_
  have bS:ownIn [(a,⟨c,d,.cls cd,bQ⟩),(cd.ns,⟨eW,g4,.dict aU n,mf⟩)] name (.ref a)=rz aU.toList name:=by
   unfold ownIn
   simp only[pE]
   unfold nsIn
   refine m g9 (m cE ?_)
   show(match List.lookup cd.ns [(cd.ns,(⟨eW,g4,.dict aU n,mf⟩:Obj))] with|some ⟨_,_,.dict aU _,_⟩=>_|_=>none)=_
   refine m pE ?_
   rfl
  unfold alongIn
  refine m bS ?_
  unfold xW at aV
  cases I:rz aU.toList name with
  |none=>rw[I] at aV;cases aV
  |some E=>
   rw[I] at aV
   cases E with
   |some v=>exact aV
   |none=>
    refine a9 aV ?_
    generalize wp:fastBuiltinOwn "object" name=E
    have bV:∀K:Frag,ownIn K name (.type "object")=some E:=λK=>by show some (fastBuiltinOwn "object" name)=_;exact m wp rfl
    show alongIn _ name [.type "object"]=some E
    unfold alongIn
    refine m (bV _) ?_
    cases E with
    |none=>show alongIn _ name []=_;unfold alongIn;rfl
    |some v=>rfl
end
theorem Mi:dV jI=[db 0,db 1,db 2,db 3,db 4,db 5,db 6,db 7,db 8]:=by kernel_rfl
section
variable {ns P bC:Addr} {L:List (Addr×Obj)}
theorem exec_def {name bind:Str} {args:Arguments} {kB:Option Scope} (hd:defaultsOf args s=([],[]))
  (au:annotationsOf (args.args++args.posonlyargs++args.vararg.toList++args.kwonlyargs++args.kwarg.toList) s=[])
  (h:wpAny ba D (makeFunction name (qualnameIn s name bind) args (.stmts dE) aR s [] [] [] ao ao.line) (λf aj=>wpAny ba D (storeName s bind f) (λ_=>G .next) M aj) M o):
  wpAny ba D (exec (.FunctionDef name args dE [] none [] aR kB bind ao) s) G M o:=by
 obtain⟨po,a,IR,wq,dj,IS,aM⟩:=args
 rewrite[arm_exec_FunctionDef];refine m hd ?_
 unfold defStmt
 refine eh (by rfl) ?_
 refine eL ?_
 refine ay (gK ?_)
 refine ay (dZ ?_)
 refine eL ?_
 refine ay (dZ (bx ?_))
 refine dZ ?_
 have B2:evalNamed (annotationsOf (a++po++IR.toList++wq++IS.toList) s++[])=pure []:=by
  have au:annotationsOf (a++po++IR.toList++wq++IS.toList) s=[]:=au
  refine m au ?_;rfl
 refine ay (fZ B2 ?_)
 refine c5 h (λf aj ca=>?_) λ_ _ q=>q
 refine eL ?_
 refine ay (gK ?_)
 exact ay (wpAny_bindName (c5 ca (λ_ aB en=>bx en) λ_ _ q=>q))
theorem FY {k:Nat} {G:Value->Shared->Prop} (h:G (.str x o.toks) {o with toks:=o.toks+1}):wpAny ba D (eval (.Constant (.str x) k ao) s) G M o:=pp h
theorem MX {k:Nat} {G:Value->Shared->Prop} (h:G (.ref o.heap.objs.size) {o with heap:=o.heap.push ⟨.type "list",none,.seq #[.str x o.toks] 0,#[]⟩,toks:=o.toks+1}):wpAny ba D (eval (.List [.Constant (.str x) k hS] ao) s) G M o:=by
 refine m (arm_eval_List _ _ _) ?_
 refine ay (gK ?_)
 refine ay ?_
 show wpAny ba D (do let v <-eval (.Constant (.str x) k hS) s;let IT <-(pure [v]:Sem (List Value));return IT++(<-holding IT (pure []))) _ _ _
 refine ay (FY (eL (ay (dZ (bx (bx ?_))))))
 exact jJ h (by show 1<=_;refine m dR ?_;decide)
theorem dq.asg {n:Nat} (aW:∀v,storeName s x v=localSet s x v) (a0:s.locals=ns) (aV:aRefKeyMayBeTheName x aU=false) (ik:swapsWith e (some (.Name x hR)) hS.line s=pure false)
  (bn:wpAny ba D (eval e s) (λv aj=>∃c7,dq Q U a6 ns c P ⟨.type "dict",none,.dict aU n,#[]⟩ i c7 aj/\∀er aD y,dq Q U a6 ns c P (Obj.putName x er (.str x aD) v ⟨.type "dict",none,.dict aU n,#[]⟩) i c7 y->wpAny ba D (execs aZ s) G M y) M o):
  wpAny ba D (execs (.Assign [.Name x hR] e hS::aZ) s) G M o:=
 dA (kO (c5 bn (λv aj ⟨c7,C,h⟩=>C.store (aW v) a0 aV h) λ_ _ q=>q) ik)
theorem dq.def_ {st:Stmt} {kB:Option Scope} {n:Nat} (C:dq Q U a6 ns c P ⟨.type "dict",none,.dict aU n,#[]⟩ i L o)
  (al:st=.FunctionDef x (lm st) (dV st) [] none [] (dQ st) kB x ao) (hd:defaultsOf (lm st) s=([],[]))
  (au:annotationsOf ((lm st).args++(lm st).posonlyargs++(lm st).vararg.toList++(lm st).kwonlyargs++(lm st).kwarg.toList) s=[]) (C3:qualnameIn s x x=bN) (Ui:defName st=x)
  (j1:s.globals=mainGlobals) (eg:closureFor (dQ st) s=pure dm) (o1:docOf (dV st)=none) (av:s.code=.ref c) (aH:mG[i]?=some (ao,bN))
  (aW:∀v,storeName s x v=localSet s x v) (a0:s.locals=ns) (aV:aRefKeyMayBeTheName x aU=false)
  (h:∀bq bF f bs cR er aD y,dq Q U a6 ns c P (Obj.putName x er (.str x aD) (.ref f) ⟨.type "dict",none,.dict aU n,#[]⟩) (i+1) ((f,{cls:=.type "function",data:=.func (h9 st bN dm cR bs (.ref bq))})::(bq,bF)::L) y->(cp λcq t=>ce (bF.cls=.type "code") (bF.data=.fields cq) (cq[1]?=some (.str bN t)))->wpAny ba D (execs aZ s) G M y):
  wpAny ba D (execs (st::aZ) s) G M o:=by
 have e:execs (st::aZ) s=execs (.FunctionDef x (lm st) (dV st) [] none [] (dQ st) kB x ao::aZ) s:=by exact a9 al rfl
 refine m e ?_
 refine dA (exec_def hd au ?_)
 refine m C3 ?_
 have bb:=C.fn (ba:=ba) (D:=D) (M:=M) (vq:=ao.line) (G:=λf aj=>wpAny ba D (storeName s x f) (λ_ aB=>wpAny ba D (execs aZ s) G M aB) M aj) j1 eg o1 av aH λbq bF f y bs cR a4 fi=>a4.store (aW _) a0 aV λer aD cs fP=>h bq bF f bs cR er aD cs fP fi
 rw[Ui] at bb
 exact bb
end
section
open PySem.Calls Builtin Builtin.ObjectAttr
section
variable {h:Heap} {g:Array GenState} {d:Drawn} {t:Nat}
theorem K3 {IU:Obj} {Uj:ClassData} {G:Value->Shared->Prop} (cW:h.get? O=some IU) (IV:IU.data=.cls Uj) (gP:Looks (model B A) h (isSubtype (.ref O) (.ref O)) true)
  (aS:∀am,am.get? h.objs.size=some {cls:=.type "super",dict:=none,data:=.fields #[.ref O,.ref O,.ref O],slots:=#[]}->(∀E w,h.get? E=some w->am.get? E=some w)->G (.ref h.objs.size) ⟨am,g,d,t,os⟩):
  wpAny (model B A) D (call (.type "super") [.ref O,.ref O]) G M ⟨h,g,d,t,os⟩:=by
 refine ks_callType_codesW (Q₁:=λyx aj=>yx=.ref h.objs.size/\aj=⟨h.push {cls:=.type "super",data:=.fields #[.none,.none,.none]},g,d,t,os⟩) F.ks_called_super (ks_wpAny_checkTypeCall_super cW IV) F.ks_entry_super_init
  (ks_code_super_new _ _ ⟨rfl,rfl⟩) λyx aj ca=>?_
 obtain⟨rfl,rfl⟩:=ca
 have up:∀E w,h.get? E=some w->(h.push {cls:=.type "super",data:=.fields #[.none,.none,.none]}).get? E=some w:=λE w e=>e1 _ e
 have jG:(h.push {cls:=.type "super",data:=.fields #[.none,.none,.none]}).get? h.objs.size=some {cls:=.type "super",dict:=none,data:=.fields #[.none,.none,.none],slots:=#[]}:=Heap.get?_push_at rfl rfl
 have tL:=up _ _ cW
 have Uk:=gP.keeps up
 refine⟨⟨_,jG,rfl⟩,F.ks_initArgs_super _ _ _,?_⟩
 unfold Builtin.«super.__init__» noKeywords
 repeat (first|(with_reducible refine ks_wpAny_isType_cls tL IV ?_)|(with_reducible refine Looks.at Uk ?_)|(with_reducible refine ks_wpAny_super_set3 jG ?_)|wp_step)
 all_goals first
  |(intro am e k;exact⟨rfl,aS am e λE w qM=>k E w (kG (dL qM)) (up E w qM)⟩)
  |(refine ks_wpAny_super_set3 jG ?_;intro am e k;exact⟨rfl,aS am e λE w qM=>k E w (kG (dL qM)) (up E w qM)⟩)
end
end
section
open PySem.Calls Builtin Builtin.ObjectAttr
theorem Lc (a:Addr):([Value.ref a,Value.type "object"].dropWhile (· !=Value.ref a)).drop 1=[Value.type "object"]:=by
 refine m List.dropWhile_cons (m (bne_self_eq_false _) ?_);rfl
theorem NJ:Slot "classmethod_descriptor" "__get__" "classmethod_descriptor.__get__":=.of (owner:="classmethod_descriptor") (n:="__get__") (by refine m (kD _ _) (m kM ?_);kernel_rfl) (by decide+kernel) (by decide+kernel) (by decide+kernel)
 (by first|exact .inl (by decide+kernel)|exact .inr (by decide+kernel)) (by rw[jq];kernel_rfl)
theorem PM:entryFor table "classmethod_descriptor.__get__"=some Builtin.«classmethod_descriptor.__get__»:=sO (by kernel_rfl)
theorem LK (a b c:Value):argsOk "classmethod_descriptor.__get__" ⟨[a,b,c],[]⟩:=by unfold argsOk;kernel_rfl
section
variable {h:Heap} {g:Array GenState} {d:Drawn} {t:Nat}
theorem Kt {cd:ClassData} {G:Value->Shared->Prop} (aF:h.get? a=some kS) (hd:kS.data=.cls cd)
  (gP:Looks (model B A) h (isSubtype (.ref a) (.type "object")) true)
  (aS:G (.ref h.objs.size) ⟨h.push {cls:=.type "builtin_function_or_method",data:=.fields #[.builtin "object.__init_subclass__",.ref a]},g,d,t,os⟩):
  wpAny (model B A) D (call (.builtin "classmethod_descriptor.__get__") [.builtin "object.__init_subclass__",.none,.ref a]) G M ⟨h,g,d,t,os⟩:=by
 refine oq NJ (show typeOf (.builtin "object.__init_subclass__")=pure (.type "classmethod_descriptor") by kernel_rfl) PM ?_ (LK _ _ _)
 delta Builtin.«classmethod_descriptor.__get__»
 refine ay (fZ (a:=(.builtin "object.__init_subclass__",none,some (.ref a))) (by kernel_rfl) ?_)
 refine eL ?_
 refine ay (ks_wpAny_isType_cls aF hd (eh (by rfl) ?_))
 refine cb gP (eh (by rfl) ?_)
 exact ay (jJ (bx ⟨_,rfl,aS⟩) (by show 2<=_;refine m dR ?_;decide))
theorem KI {fN:Addr} {cd:ClassData} {u:Tok} {G:PySem.Fin->Shared->Prop} (aF:h.get? a=some kS) (hd:kS.data=.cls cd) (gP:Looks (model B A) h (isSubtype (.ref a) (.type "object")) true)
  (jG:h.get? fN=some {cls:=.type "super",dict:=none,data:=.fields #[.ref a,.ref a,.ref a],slots:=#[]}) (sv:Looks (model B A) h (opaqueClassAbove (.ref a)) none)
  (hn:Looks (model B A) h (mroOf (.ref a)) [.ref a,.type "object"])
  (aS:G (.done (.ret (.ref h.objs.size))) ⟨h.push {cls:=.type "builtin_function_or_method",data:=.fields #[.builtin "object.__init_subclass__",.ref a]},g,d,t,os⟩):
  wpAny (model B A) D (Builtin.«super.__getattribute__» ⟨[.ref fN,.str "__init_subclass__" u],[]⟩) G M ⟨h,g,d,t,os⟩:=by
 delta Builtin.«super.__getattribute__»
 have Hw:=looks_field (M:=model B A) jG 0 (v:=.ref a) rfl
 have f1:=looks_field (M:=model B A) jG 1 (v:=.ref a) rfl
 have f2:=looks_field (M:=model B A) jG 2 (v:=.ref a) rfl
 refine eL (eh (by rfl) ?_)
 refine eL ?_
 refine cb Hw (cb f1 (cb f2 (eh (by kernel_rfl) ?_)))
 refine ay (ks_wpAny_notOpaque sv (eh (by kernel_rfl) (cb hn ?_)))
 refine m (Lc _) ?_
 refine ay (gx (cb (r:=(some (.builtin "object.__init_subclass__"))) (looks_ownIn (K:=[]) (λ_ _ q=>by cases q) (by kernel_rfl)) (gX (.type "classmethod_descriptor") (by kernel_rfl) (gX (some (.builtin "classmethod_descriptor.__get__")) (by refine m (kD _ _) (m kM ?_);kernel_rfl) ?_))))
 refine m (oD _) ?_
 refine ay ?_
 refine dZ (Kt aF hd gP ?_)
 exact eL (bx (bx aS))
theorem OY {fN:Addr} {cd:ClassData} {G:Value->Shared->Prop} (aF:h.get? a=some kS) (hd:kS.data=.cls cd) (gP:Looks (model B A) h (isSubtype (.ref a) (.type "object")) true)
  (jG:h.get? fN=some {cls:=.type "super",dict:=none,data:=.fields #[.ref a,.ref a,.ref a],slots:=#[]}) (sv:Looks (model B A) h (opaqueClassAbove (.ref a)) none)
  (hn:Looks (model B A) h (mroOf (.ref a)) [.ref a,.type "object"])
  (aS:∀aD,G (.ref h.objs.size) ⟨h.push {cls:=.type "builtin_function_or_method",data:=.fields #[.builtin "object.__init_subclass__",.ref a]},g,d,aD,os⟩):
  wpAny (model B A) D (getAttr (.ref fN) "__init_subclass__") G M ⟨h,g,d,t,os⟩:=by
 have Ul:=F.ks_slot_super_ga.lookup
 have cK:∀dd,(⟨h,g,d,dd,os⟩:Shared).TypeIs (.ref fN) "super":=λ_=>⟨_,jG,rfl⟩
 unfold getAttr getAttrBy
 refine ay (pp (dZ (ay (wpAny_typeOf (cK _) (ay (fZ Ul ?_))))))
 show wpAny _ _ (getAttrByItsOwn (.ref fN) (.str "__init_subclass__" t) (.type "super") (.builtin "super.__getattribute__") true false) _ _ _
 unfold getAttrByItsOwn hookBefore callGetattribute boundAndCalled
 refine ay (fZ (show(if onTheHeap (.type "super") then typeLookup (.type "super") "__getattr__" else pure none)=pure none from rfl) ?_)
 refine ay (rl (dZ ?_))
 show wpAny _ _ (bindSpecial (.builtin "super.__getattribute__") (.ref fN) >>=_) _ _ _
 refine ay (fZ (F.ks_slot_super_ga.bind _) ?_)
 refine c5 (Q:=λv y=>v=.ref h.objs.size/\y=⟨h.push {cls:=.type "builtin_function_or_method",data:=.fields #[.builtin "object.__init_subclass__",.ref a]},g,d,t+1,os⟩) (E:=λ_ _=>False)
  (oq F.ks_slot_super_ga (cK _) F.ks_entry_super_ga (KI aF hd gP jG sv hn ⟨_,rfl,rfl,rfl⟩) (F.ks_gaArgs_super _ _)) (λv y bn=>?_) λ_ _ z=>z.elim
 obtain⟨rfl,rfl⟩:=bn
 exact bx (aS _)
end
end
section
open PySem.W.X PySem.W.XRun
noncomputable def Lo (ns:Addr):ClassData:={name:="K",bases:=[.type "object"],mro:=[],ns:=ns,qualname:="cmp_to_key.<locals>.K"}
noncomputable def Et (a ns:Addr):ClassData:={name:="K",bases:=[.type "object"],mro:=[.ref a,.type "object"],ns:=ns,qualname:="cmp_to_key.<locals>.K"}
noncomputable def mV (a ns:Addr):ClassData:={name:="K",bases:=[.type "object"],mro:=[.ref a,.type "object"],ns:=ns,qualname:="cmp_to_key.<locals>.K",hasDict:=false,slotNames:=["obj"]}
noncomputable def ll (a ns gk:Addr) (t0 t1:Tok):Obj:=⟨.type "type",none,.cls (mV a ns),#[some (.ref gk),none,some (.str "K" t0),some (.str "cmp_to_key.<locals>.K" t1),some (.builtin "object.__new__"),some (.bool false)]⟩
section
set_option hygiene false in
local macro_rules |`(tactic|x_close)=>`(tactic|(exact aS))
theorem Ou {g d aD os} {b ns:Addr} {h:Heap} {gk:Addr} {t0 wr:Tok} {G:Value->Shared->Prop}
 (aF:h.get? a=some ⟨.type "type",none,.cls (mV a ns),#[some (.ref gk),none,some (.str "K" t0),some (.str "cmp_to_key.<locals>.K" wr),some (.builtin "object.__new__"),some (.bool false)]⟩)
 (aA:h.get? b=some ⟨.type "builtin_function_or_method",none,.fields #[.builtin "object.__init_subclass__",.ref a],#[]⟩)
 (aS:G .none ⟨h,g,d,aD,os⟩):
  wpAny (model B A) D (call (.ref b) []) G M ⟨h,g,d,aD,os⟩:=by
 x_run
end
theorem EY {h:Heap} {cd:ClassData} (aF:h.get? a=some w) (hd:w.data=.cls cd):Looks ba h (mroOf (.ref a)) cd.mro:=by
 obtain⟨c,d,sk,bQ⟩:=w
 cases hd
 unfold mroOf classData
 refine Looks.andThen (a:=cd) ?_ .now
 exact(lW (part:=none) aF).andThen .now
theorem D9 {h:Heap} {cd:ClassData} {b:Value} (aF:h.get? a=some w) (hd:w.data=.cls cd) (hm:cd.mro.isEmpty=false) (aA:cd.mro.contains b=true):Looks ba h (isSubtype (.ref a) b) true:=by
 unfold isSubtype
 refine Looks.andThen (a:=cd.mro) (EY aF hd) ?_
 show Looks ba h (if cd.mro.isEmpty=true then _ else _) true
 refine m hm (m (bI l6) (m aA ?_))
 exact .now
end
section
open PySem.Calls Builtin Builtin.ObjectAttr
noncomputable def pR (k:Nat->Int) (t:Nat->Tok) (cB f1 f2 da f4 dy dS t1:Addr):Array DictEntry:=#[⟨k 0,.str "__module__" (t 0),.str "cpy313.functools" (t 20)⟩,⟨k 1,.str "__qualname__" (t 1),.str "cmp_to_key.<locals>.K" (t 21)⟩,⟨k 2,.str "__firstlineno__" (t 2),.int 27 (t 22)⟩,⟨k 3,.str "__slots__" (t 3),.ref cB⟩,⟨k 4,.str "__init__" (t 4),.ref f1⟩,⟨k 5,.str "__lt__" (t 5),.ref f2⟩,⟨k 6,.str "__gt__" (t 6),.ref da⟩,⟨k 7,.str "__eq__" (t 7),.ref f4⟩,⟨k 8,.str "__le__" (t 8),.ref dy⟩,⟨k 9,.str "__ge__" (t 9),.ref dS⟩,⟨k 10,.str "__hash__" (t 10),.none⟩,⟨k 11,.str "__static_attributes__" (t 11),.ref t1⟩]
noncomputable def tw (k:Nat->Int) (t:Nat->Tok) (cB f1 f2 da f4 dy dS t1:Addr):Array DictEntry:=#[⟨k 0,.str "__module__" (t 0),.str "cpy313.functools" (t 20)⟩,⟨k 2,.str "__firstlineno__" (t 2),.int 27 (t 22)⟩,⟨k 3,.str "__slots__" (t 3),.ref cB⟩,⟨k 4,.str "__init__" (t 4),.ref f1⟩,⟨k 5,.str "__lt__" (t 5),.ref f2⟩,⟨k 6,.str "__gt__" (t 6),.ref da⟩,⟨k 7,.str "__eq__" (t 7),.ref f4⟩,⟨k 8,.str "__le__" (t 8),.ref dy⟩,⟨k 9,.str "__ge__" (t 9),.ref dS⟩,⟨k 10,.str "__hash__" (t 10),.none⟩,⟨k 11,.str "__static_attributes__" (t 11),.ref t1⟩]
noncomputable def pO (a:Addr) (u:Tok):Obj:=⟨.type "member_descriptor",none,.fields #[.str "obj" u,.ref a,.builtin "proto.slot",.builtin "proto.slot#set",.int 0 0],#[]⟩
noncomputable def ow (k:Nat->Int) (t:Nat->Tok) (cB f1 f2 da f4 dy dS t1 b4:Addr) (er dj:Int) (fS fT:Tok):Array DictEntry:=((tw k t cB f1 f2 da f4 dy dS t1).push ⟨er,.str "obj" fS,.ref b4⟩).push ⟨dj,.str "__doc__" fT,.none⟩
theorem w9 {h:Heap} {x:Addr} {T:String} (aP:∃w,h.get? x=some w/\w.cls=.type T) (e:fastLookup T "__set_name__"=some none):Looks ba h (specialOf (.ref x) "__set_name__") none:=by
 obtain⟨w,aP,av⟩:=aP
 unfold specialOf
 exact Looks.andThen (a:=.type T) (av▸(lW (part:=none) aP).andThen .now) (rN (K:=[]) (t:=.type T) (λ_ _ q=>by cases q) e)
theorem N4 (a:Addr):List.filter (λx=>x !=Value.ref a) [Value.ref a,Value.type "object"]=[Value.type "object"]:=by
 refine m fH (m (bne_self_eq_false _) ?_);rfl
theorem PR {h g d aD os cB f1 f2 da f4 dy dS t1} {k:Nat->Int} {t:Nat->Tok} {ab:Nat} {G:Slots.Plan->Shared->Prop} (a0:h.get? cB=some ⟨.type "list",none,.seq #[.str "obj" iH] ab,#[]⟩)
  (aS:∀am,(∀b w,h.get? b=some w->am.get? b=some w)->h.objs.size<=am.objs.size->G ⟨["obj"],false,false,[]⟩ ⟨am,g,d,aD,os⟩):wpAny (model B A) D (Slots.read "K" [.type "object"] (pR k t cB f1 f2 da f4 dy dS t1)) G M ⟨h,g,d,aD,os⟩:=by
 delta Slots.read
 have Um:Looks (model B A) h (asStr? (.ref cB)) none:=by
  delta asStr?
  exact(lW (part:=none) a0).andThen (p1 (by kernel_rfl))
 refine gX (.type "object") (by kernel_rfl) (gX [] (by kernel_rfl) (gX false (by kernel_rfl) (gX false (by kernel_rfl) (gX false (by kernel_rfl) ?_))))
 refine ay (nJ (cb Um (lV (by decide) ?_)))
 refine ay (vl cB (.inl rfl) a0 rfl rfl (by refine m dR ?_;show 1<=_;decide) λam aN ar=>?_)
 exact fZ (by kernel_rfl) (aS am aN ar)
theorem ML {h g d aD os gk pj cB f1 f2 da f4 dy dS t1} {k:Nat->Int} {t:Nat->Tok} {t0:Tok} {n ab:Nat} {G:PySem.Fin->Shared->Prop} (aA:h.get? gk=some ⟨.type "tuple",none,.seq #[.type "object"] 0,#[]⟩)
 (au:h.get? pj=some ⟨.type "dict",none,.dict (pR k t cB f1 f2 da f4 dy dS t1) n,#[]⟩) (a0:h.get? cB=some ⟨.type "list",none,.seq #[.str "obj" iH] ab,#[]⟩) (gT:(pj==sysModules)=false) (jD:∀f∈[f1,f2,da,f4,dy,dS],∃w,h.get? f=some w/\w.cls=.type "function") (su:∃w,h.get? t1=some w/\w.cls=.type "tuple") (C4:∃P,(KB P).In h)
 (aS:∀a ns b4 er dj u fS fT am hH,ei h [(b4,pO a u),(a,ll a ns gk t0 (t 21)),(ns,⟨.type "dict",none,.dict (ow k t cB f1 f2 da f4 dy dS t1 b4 er dj fS fT) 3,#[]⟩)] am->G (.done (.ret (.ref a))) ⟨am,g,d,hH,os⟩):wpAny (model B A) D (Builtin.«type.__new__» ⟨[.type "type",.str "K" t0,.ref gk,.ref pj],[]⟩) G M ⟨h,g,d,aD,os⟩:=by
 delta Builtin.«type.__new__»
 refine eL ?_
 refine cb (r:=true) (AA aA rfl (by rw[jq];kernel_rfl)) (lV (by decide) ?_)
 refine cb (r:=true) (AA au rfl (by rw[jq];kernel_rfl)) (lV (by decide) ?_)
 refine cb (r:=(some #[.type "object"])) (Pc aA) (lV (by decide) ?_)
 refine ay (gx (eL (lV (by decide) (bx (bx ?_)))))
 refine ay (gx (gX (.type "type") (by kernel_rfl) (gX true (by rw[jq];kernel_rfl) (uQ rfl (bx (mI (lV (by decide) ?_)))))))
 have Un:Looks (model B A) h (dictEntries pj) (pR k t cB f1 f2 da f4 dy dS t1):=by
  unfold dictEntries
  exact(lW (part:=none) au).andThen .now
 have C5:Looks (model B A) h (specialOf (.ref pj) "__iter__") (some (.builtin "dict.__iter__")):=by
  unfold specialOf
  exact Looks.andThen (a:=.type "dict") ((lW (part:=none) au).andThen .now) (rN (K:=[]) (λ_ _ q=>by cases q) (by kernel_rfl))
 refine gX () (by kernel_rfl) (gX (.type "object") (by kernel_rfl) (lV (by refine m gT ?_;decide) (cb Un (cb C5 (uQ (by rfl) (eL ?_))))))
 refine ay (dZ (PR a0 λca qN Uo=>?_))
 have aa:=(ei.start h).ext qN Uo
 refine ay (GB aa rfl (by show _<=_;refine m dR ?_;exact pF rfl) λns en aa C6=>?_)
 refine eh (by kernel_rfl) ?_
 refine ay (eh (by kernel_rfl) (bx ?_))
 refine eh (by kernel_rfl) ?_
 refine cb (r:=(some (.str "cmp_to_key.<locals>.K" (t 21)))) (ol (ei.mid (bz:=[]) aa) (by kernel_rfl)) (cb (r:=(some (.str "cmp_to_key.<locals>.K" (t 21)))) (ol (ei.mid (bz:=[]) aa) (by kernel_rfl)) ?_)
 refine eL ?_
 refine eL ?_
 refine cb (r:=none) (ol (ei.mid (bz:=[]) aa) (by kernel_rfl)) ?_
 refine ay (Lg aa rfl λa ef aa n6=>?_)
 refine p8 (by rfl) ?_
 refine ay (uY (bz:=[]) aa (by decide) rfl λjf aa=>?_)
 refine ay (uY (bz:=[]) aa (by decide) rfl λx9 aa=>?_)
 refine ay (uY (bz:=[]) aa (by decide) rfl λvy aa=>?_)
 refine ay (Ka (bz:=[_]) aa (by kernel_rfl) λIW aa=>?_)
 have aa:ei h [(a,⟨.type "type",none,.cls (Lo ns),#[some (.ref gk),none,some (.str "K" t0),some (.str "cmp_to_key.<locals>.K" (t 21))]⟩),(ns,⟨.type "dict",none,.dict (tw k t cB f1 f2 da f4 dy dS t1) 1,#[]⟩)] IW:=cast (by kernel_rfl) aa
 have jB:∀nm,rz (tw k t cB f1 f2 da f4 dy dS t1).toList nm=some none->Looks (model B A) IW (nsGet ns nm) none:=λnm e=>ol (ei.mid (bz:=[_]) aa) e
 refine cb (jB "__new__" (by kernel_rfl)) ?_
 refine ay (gx (cb (jB "__init_subclass__" (by kernel_rfl)) (bx (gx (cb (jB "__class_getitem__" (by kernel_rfl)) (bx (mI ?_)))))))
 refine cb (jB "__classcell__" (by kernel_rfl)) ?_
 refine cb (jB "__classdictcell__" (by kernel_rfl)) ?_
 refine gX none (by kernel_rfl) ?_
 refine gX [.type "object"] (by kernel_rfl) ?_
 refine eL ?_
 refine ay ?_
 refine m (N4 _) ?_
 refine fZ (a:=false) (by kernel_rfl) ?_
 refine ay (Em (bz:=[]) aa (by kernel_rfl) λW7 aa=>?_)
 refine gX (some "object.__new__") (by kernel_rfl) (ay (uY (bz:=[]) aa (by decide) rfl λsA aa=>?_))
 have aa:ei h [(a,⟨.type "type",none,.cls (Et a ns),#[some (.ref gk),none,some (.str "K" t0),some (.str "cmp_to_key.<locals>.K" (t 21)),some (.builtin "object.__new__")]⟩),(ns,⟨.type "dict",none,.dict (tw k t cB f1 f2 da f4 dy dS t1) 1,#[]⟩)] sA:=cast (by kernel_rfl) aa
 have cE:((Et a ns).ns==a)=false:=by
  have:=aa.ah
  rw[iG]
  intro e
  have e:ns=a:=e
  subst e
  simp at this
 have Up:Looks (model B A) sA (slotAt a 4) (some (.builtin "object.__new__")):=by
  delta slotAt
  exact(lW (aa.at_ _ (.head _))).andThen .now
 refine ay ?_
 delta Bind.refreshMaker
 refine cb Up (eh (by rfl) (cb (r:=(some (.builtin "object.__new__"))) (Py (aa.at_ _ (.head _)) rfl cE (aa.at_ _ (.tail _ (.head _))) (by kernel_rfl)) (eh (by kernel_rfl) (bx ?_))))
 refine ay ?_
 delta Slots.install
 refine ay (gx (cb (r:=none) (ol (ei.mid (bz:=[_]) aa) (by kernel_rfl)) (p8 (by rfl) ?_)))
 refine ay (wpAny_mkStr (ay (GB aa rfl (by show _<=_;refine m dR ?_;exact pF rfl) λb4 W8 aa W9=>?_)) (by refine m dR ?_;exact pF rfl))
 delta nsSetByValue
 refine ay (ay (tn (ei.mid (bz:=[_,_]) aa) (eh (by kernel_rfl) (GA (bz:=[_,_]) aa (by kernel_rfl) λer Xa aa=>bx (mI ?_)))))
 refine ay (gx (gX false (by kernel_rfl) (eh (by rfl) (bx (mI ?_)))))
 refine lV (by refine m dR ?_;decide) ?_
 refine Em (bz:=[_]) aa (by kernel_rfl) λXb aa=>?_
 refine gX false (by kernel_rfl) (ay (uY (bz:=[_]) aa (by decide) rfl λUq aa=>?_))
 refine eh (by rfl) (eh (by rfl) ?_)
 have aa:ei h [(b4,pO a aD),(a,⟨.type "type",none,.cls (mV a ns),#[some (.ref gk),none,some (.str "K" t0),some (.str "cmp_to_key.<locals>.K" (t 21)),some (.builtin "object.__new__"),some (.bool false)]⟩),(ns,⟨.type "dict",none,.dict ((tw k t cB f1 f2 da f4 dy dS t1).push ⟨er,.str "obj" (aD+1),.ref b4⟩) 2,#[]⟩)] Uq:=cast (by kernel_rfl) aa
 refine cb (r:=none) (ol (ei.mid (bz:=[_,_]) aa) (by kernel_rfl)) (p8 (by rfl) (ay (GA (bz:=[_,_]) aa (by kernel_rfl) λdj ub aa=>?_)))
 have aa:ei h [(b4,pO a aD),(a,⟨.type "type",none,.cls (mV a ns),#[some (.ref gk),none,some (.str "K" t0),some (.str "cmp_to_key.<locals>.K" (t 21)),some (.builtin "object.__new__"),some (.bool false)]⟩),(ns,⟨.type "dict",none,.dict (((tw k t cB f1 f2 da f4 dy dS t1).push ⟨er,.str "obj" (aD+1),.ref b4⟩).push ⟨dj,.str "__doc__" (aD+1+1),.none⟩) 3,#[]⟩)] ub:=cast (by kernel_rfl) aa
 refine cb (r:=(some (.ref f4))) (ol (ei.mid (bz:=[_,_]) aa) (by kernel_rfl)) (p8 (by rfl) (cb (r:=(some .none)) (ol (ei.mid (bz:=[_,_]) aa) (by kernel_rfl)) (eh (by rfl) ?_)))
 refine ay (gx (gX () (by kernel_rfl) (bx (mI ?_))))
 refine ay (wpAny_tryCatch (dZ (cb (EB (ei.mid (bz:=[_,_]) aa)) ?_)))
 refine ay (fZ (a:=false) (by kernel_rfl) ?_)
 refine eh (by rfl) (cb (EB (ei.mid (bz:=[_,_]) aa)) ?_)
 refine a9 Array.forIn_toList ?_
 have Ur:∀x u,Looks (model B A) ub (specialOf (.str x u) "__set_name__") none:=λx u=>p1 (by kernel_rfl)
 have Us:∀u,Looks (model B A) ub (specialOf (.int 27 u) "__set_name__") none:=λu=>p1 (by kernel_rfl)
 have uc:∀f∈[f1,f2,da,f4,dy,dS],Looks (model B A) ub (specialOf (.ref f) "__set_name__") none:=λf bb=>w9 (by obtain⟨w,e,c⟩:=jD f bb;exact⟨w,aa.keep _ _ e,c⟩) (by kernel_rfl)
 refine ay ?_
 refine gx (eh (by kernel_rfl) (cb (Ur _ _) (bx ?_)))
 refine gx (eh (by kernel_rfl) (cb (Us _) (bx ?_)))
 refine gx (eh (by kernel_rfl) (cb (r:=none) (w9 ⟨_,aa.keep _ _ a0,rfl⟩ (by kernel_rfl)) (bx ?_)))
 refine gx (eh (by kernel_rfl) (cb (uc f1 (.head _)) (bx ?_)))
 refine gx (eh (by kernel_rfl) (cb (uc f2 (.tail _ (.head _))) (bx ?_)))
 refine gx (eh (by kernel_rfl) (cb (uc da (.tail _ (.tail _ (.head _)))) (bx ?_)))
 refine gx (eh (by kernel_rfl) (cb (uc f4 (.tail _ (.tail _ (.tail _ (.head _))))) (bx ?_)))
 refine gx (eh (by kernel_rfl) (cb (uc dy (.tail _ (.tail _ (.tail _ (.tail _ (.head _)))))) (bx ?_)))
 refine gx (eh (by kernel_rfl) (cb (uc dS (.tail _ (.tail _ (.tail _ (.tail _ (.tail _ (.head _))))))) (bx ?_)))
 refine gx (eh (by kernel_rfl) (gX none (by kernel_rfl) (bx ?_)))
 refine gx (eh (by kernel_rfl) (cb (r:=none) (w9 (by obtain⟨w,e,c⟩:=su;exact⟨w,aa.keep _ _ e,c⟩) (by kernel_rfl)) (bx ?_)))
 refine gx (eh (by kernel_rfl) (cb (r:=none) (w9 ⟨_,aa.at_ _ (.head _),rfl⟩ (by kernel_rfl)) (bx ?_)))
 refine gx (eh (by kernel_rfl) (gX none (by kernel_rfl) (bx (mI ?_))))
 have n6:ub.get? a=some (ll a ns gk t0 (t 21)):=aa.at_ _ (.tail _ (.head _))
 have Ut:∀am:Heap,am.get? a=some (ll a ns gk t0 (t 21))->Looks (model B A) am (isSubtype (.ref a) (.ref a)) true:=λam e=>D9 e rfl rfl (by show(Value.ref a==Value.ref a||_)=true;rw[oD];rfl)
 have Uu:∀am:Heap,am.get? a=some (ll a ns gk t0 (t 21))->Looks (model B A) am (isSubtype (.ref a) (.type "object")) true:=λam e=>D9 e rfl rfl (by rfl)
 refine ay (K3 n6 rfl (Ut _ n6) λC7 jG C8=>?_)
 have y6:=C8 _ _ n6
 have sv:Looks (model B A) C7 (opaqueClassAbove (.ref a)) none:=by
  obtain⟨P,X⟩:=C4
  have km:(KB P).In C7:=λb w e=>C8 _ _ (aa.keep _ _ (X b w e))
  exact looks_opaque km (by kernel_rfl)
 refine ay (dZ (OY y6 rfl (Uu _ y6) jG sv (EY y6 rfl) λXc=>?_))
 have Uv:ub.objs.size<=C7.objs.size:=ew (dL jG)
 refine ay (Ou (e1 _ y6) (dT _ rfl) (bx (bx ?_)))
 exact aS a ns b4 _ _ _ _ _ _ _ (aa.ext (λb w e=>e1 _ (C8 b w e)) (by refine m (eN _ _) ?_;exact ht Uv))
end
noncomputable def zD (k:Nat->Int) (t:Nat->Tok) (i5:Value):Array DictEntry:=#[⟨k 0,.str "__module__" (t 0),i5⟩,⟨k 1,.str "__qualname__" (t 1),.str "cmp_to_key.<locals>.K" (t 21)⟩,⟨k 2,.str "__firstlineno__" (t 2),.int 27 (t 22)⟩]
noncomputable def ft (L:List (Addr×Obj)) (st:Stmt) (bN:Str) (dm:List (Str×Addr)) (f:Addr):Prop:=om λbq bF bs cR=>ce ((f,({cls:=.type "function",data:=.func (h9 st bN dm cR bs (.ref bq))}:Obj))∈L) ((bq,bF)∈L) (cp λcq t=>ce (bF.cls=.type "code") (bF.data=.fields cq) (cq[1]?=some (.str bN t)))
theorem ft.cons {L:List (Addr×Obj)} {st:Stmt} (p q:Addr×Obj) (x:ft L st bN dm f):ft (p::q::L) st bN dm f:=
 let ⟨bq,bF,bs,cR,a,b,r⟩:=x;⟨bq,bF,bs,cR,.tail _ (.tail _ a),.tail _ (.tail _ b),r⟩
section
variable {ns P bC:Addr} {n:Nat} {L:List (Addr×Obj)}
theorem LD {k:Nat->Int} {t:Nat->Tok} {i5:Value} (C:dq Q U a6 ns c P ⟨.type "dict",none,.dict (zD k t i5) n,#[]⟩ 0 L o)
  (aS:∀(k:Nat->Int) (t:Nat->Tok) iH cB f1 f2 da f4 dy dS d6 c7 y,dq Q U a6 ns c P ⟨.type "dict",none,.dict (pR k t cB f1 f2 da f4 dy dS 0).pop d6,#[]⟩ 6 c7 y->(cB,(⟨.type "list",none,.seq #[.str "obj" iH] 0,#[]⟩:Obj))∈c7->
   ft c7 (db 2) "cmp_to_key.<locals>.K.__init__" [] f1->
   ft c7 (db 3) "cmp_to_key.<locals>.K.__lt__" [("mycmp",b5)] f2->
   ft c7 (db 4) "cmp_to_key.<locals>.K.__gt__" [("mycmp",b5)] da->
   ft c7 (db 5) "cmp_to_key.<locals>.K.__eq__" [("mycmp",b5)] f4->
   ft c7 (db 6) "cmp_to_key.<locals>.K.__le__" [("mycmp",b5)] dy->
   ft c7 (db 7) "cmp_to_key.<locals>.K.__ge__" [("mycmp",b5)] dS->
   (∀p∈L,p∈c7)->G .next y):wpAny ba D (execs (dV jI) (l2 ns c bC b5)) G M o:=by
 refine m Mi ?_
 have wd:db 0=.Assign [.Name "__module__" ⟨28,8,28,18⟩] (.Constant (.str "cpy313.functools") 0 ⟨28,21,28,39⟩) ⟨28,8,28,39⟩:=by kernel_rfl
 refine m wd ?_
 refine dq.asg (ns:=ns) (c:=c) (P:=P) (a6:=a6) (Q:=Q) (U:=U) (i:=0) (aU:=zD k t i5) (n:=n) (λv=>by kernel_rfl) rfl (by kernel_rfl) (by kernel_rfl) ?_
 refine FY ⟨L,C.tok,λer aD ak C=>?_⟩
 generalize o.toks=mv at C
 have C:dq Q U a6 ns c P ⟨.type "dict",none,.dict #[⟨k 0,.str "__module__" (t 0),.str "cpy313.functools" mv⟩,⟨k 1,.str "__qualname__" (t 1),.str "cmp_to_key.<locals>.K" (t 21)⟩,⟨k 2,.str "__firstlineno__" (t 2),.int 27 (t 22)⟩] (n),#[]⟩ 0 L ak:=cast (by kernel_rfl) C
 have bS:db 1=.Assign [.Name "__slots__" ⟨29,8,29,17⟩] (.List [.Constant (.str "obj") 0 ⟨29,21,29,26⟩] ⟨29,20,29,27⟩) ⟨29,8,29,27⟩:=by kernel_rfl
 refine m bS ?_
 refine dq.asg (ns:=ns) (c:=c) (P:=P) (a6:=a6) (Q:=Q) (U:=U) (i:=0) (n:=n) (aU:=#[⟨k 0,.str "__module__" (t 0),.str "cpy313.functools" mv⟩,⟨k 1,.str "__qualname__" (t 1),.str "cmp_to_key.<locals>.K" (t 21)⟩,⟨k 2,.str "__firstlineno__" (t 2),.int 27 (t 22)⟩]) (λv=>by kernel_rfl) rfl (by kernel_rfl) (by kernel_rfl) ?_
 have Uw:=(C.push ⟨.type "list",none,.seq #[.str "obj" ak.toks] 0,#[]⟩ rfl).tok (aD:=ak.toks+1)
 refine MX ⟨_,Uw,λgF fy aj C=>?_⟩
 generalize ak.toks=iH at C
 generalize ak.heap.objs.size=cB at C
 have C:dq Q U a6 ns c P ⟨.type "dict",none,.dict #[⟨k 0,.str "__module__" (t 0),.str "cpy313.functools" mv⟩,⟨k 1,.str "__qualname__" (t 1),.str "cmp_to_key.<locals>.K" (t 21)⟩,⟨k 2,.str "__firstlineno__" (t 2),.int 27 (t 22)⟩,⟨gF,.str "__slots__" fy,.ref cB⟩] (n+1),#[]⟩ 0 ((cB,(⟨.type "list",none,.seq #[.str "obj" iH] 0,#[]⟩:Obj))::L) aj:=cast (by kernel_rfl) C
 have IX:(cB,(⟨.type "list",none,.seq #[.str "obj" iH] 0,#[]⟩:Obj))∈(cB,(⟨.type "list",none,.seq #[.str "obj" iH] 0,#[]⟩:Obj))::L:=.head _
 have lN:∀p∈L,p∈(cB,(⟨.type "list",none,.seq #[.str "obj" iH] 0,#[]⟩:Obj))::L:=λp af=>.tail _ af
 generalize ((cB,(⟨.type "list",none,.seq #[.str "obj" iH] 0,#[]⟩:Obj))::L)=r8 at C IX lN
 refine C.def_ (x:="__init__") (bN:="cmp_to_key.<locals>.K.__init__") (ao:=(db 2).pos) (dm:=[]) (kB:=none) (by kernel_rfl) (by kernel_rfl) (by kernel_rfl) (by kernel_rfl) (by kernel_rfl) rfl (by kernel_rfl) (by kernel_rfl) rfl (by kernel_rfl) (λv=>by kernel_rfl) rfl (by kernel_rfl) λbq bF f1 bs cR jz gB y C fi=>?_
 obtain⟨r9,dx⟩:∃c7,c7=(f1,({cls:=.type "function",data:=.func (h9 (db 2) "cmp_to_key.<locals>.K.__init__" [] cR bs (.ref bq))}:Obj))::(bq,bF)::r8:=⟨_,rfl⟩
 have Ux:(cB,(⟨.type "list",none,.seq #[.str "obj" iH] 0,#[]⟩:Obj))∈r9:=by refine m dx ?_;exact .tail _ (.tail _ IX)
 have Uy:∀p∈L,p∈r9:=λp af=>by refine m dx ?_;exact .tail _ (.tail _ (lN p af))
 have iO:ft r9 (db 2) "cmp_to_key.<locals>.K.__init__" [] f1:=by refine m dx ?_;exact⟨bq,bF,bs,cR,.head _,.tail _ (.head _),fi⟩
 rw[<-dx] at C
 clear dx fi
 have C:dq Q U a6 ns c P ⟨.type "dict",none,.dict #[⟨k 0,.str "__module__" (t 0),.str "cpy313.functools" mv⟩,⟨k 1,.str "__qualname__" (t 1),.str "cmp_to_key.<locals>.K" (t 21)⟩,⟨k 2,.str "__firstlineno__" (t 2),.int 27 (t 22)⟩,⟨gF,.str "__slots__" fy,.ref cB⟩,⟨jz,.str "__init__" gB,.ref f1⟩] (n+1+1),#[]⟩ 1 r9 y:=cast (by kernel_rfl) C
 refine C.def_ (x:="__lt__") (bN:="cmp_to_key.<locals>.K.__lt__") (ao:=(db 3).pos) (dm:=[("mycmp",b5)]) (kB:=none) (by kernel_rfl) (by kernel_rfl) (by kernel_rfl) (by kernel_rfl) (by kernel_rfl) rfl (by kernel_rfl) (by kernel_rfl) rfl (by kernel_rfl) (λv=>by kernel_rfl) rfl (by kernel_rfl) λbq bF f2 bs cR ml jt y C fi=>?_
 obtain⟨sa,dx⟩:∃c7,c7=(f2,({cls:=.type "function",data:=.func (h9 (db 3) "cmp_to_key.<locals>.K.__lt__" [("mycmp",b5)] cR bs (.ref bq))}:Obj))::(bq,bF)::r9:=⟨_,rfl⟩
 have so:(cB,(⟨.type "list",none,.seq #[.str "obj" iH] 0,#[]⟩:Obj))∈sa:=by refine m dx ?_;exact .tail _ (.tail _ Ux)
 have Uz:∀p∈L,p∈sa:=λp af=>by refine m dx ?_;exact .tail _ (.tail _ (Uy p af))
 have iO:ft sa (db 2) "cmp_to_key.<locals>.K.__init__" [] f1:=by refine m dx ?_;exact iO.cons _ _
 have iP:ft sa (db 3) "cmp_to_key.<locals>.K.__lt__" [("mycmp",b5)] f2:=by refine m dx ?_;exact⟨bq,bF,bs,cR,.head _,.tail _ (.head _),fi⟩
 rw[<-dx] at C
 clear dx fi
 have C:dq Q U a6 ns c P ⟨.type "dict",none,.dict #[⟨k 0,.str "__module__" (t 0),.str "cpy313.functools" mv⟩,⟨k 1,.str "__qualname__" (t 1),.str "cmp_to_key.<locals>.K" (t 21)⟩,⟨k 2,.str "__firstlineno__" (t 2),.int 27 (t 22)⟩,⟨gF,.str "__slots__" fy,.ref cB⟩,⟨jz,.str "__init__" gB,.ref f1⟩,⟨ml,.str "__lt__" jt,.ref f2⟩] (n+1+1+1),#[]⟩ 2 sa y:=cast (by kernel_rfl) C
 refine C.def_ (x:="__gt__") (bN:="cmp_to_key.<locals>.K.__gt__") (ao:=(db 4).pos) (dm:=[("mycmp",b5)]) (kB:=none) (by kernel_rfl) (by kernel_rfl) (by kernel_rfl) (by kernel_rfl) (by kernel_rfl) rfl (by kernel_rfl) (by kernel_rfl) rfl (by kernel_rfl) (λv=>by kernel_rfl) rfl (by kernel_rfl) λbq bF da bs cR nj lA y C fi=>?_
 obtain⟨sB,dx⟩:∃c7,c7=(da,({cls:=.type "function",data:=.func (h9 (db 4) "cmp_to_key.<locals>.K.__gt__" [("mycmp",b5)] cR bs (.ref bq))}:Obj))::(bq,bF)::sa:=⟨_,rfl⟩
 have UA:(cB,(⟨.type "list",none,.seq #[.str "obj" iH] 0,#[]⟩:Obj))∈sB:=by refine m dx ?_;exact .tail _ (.tail _ so)
 have UB:∀p∈L,p∈sB:=λp af=>by refine m dx ?_;exact .tail _ (.tail _ (Uz p af))
 have iO:ft sB (db 2) "cmp_to_key.<locals>.K.__init__" [] f1:=by refine m dx ?_;exact iO.cons _ _
 have iP:ft sB (db 3) "cmp_to_key.<locals>.K.__lt__" [("mycmp",b5)] f2:=by refine m dx ?_;exact iP.cons _ _
 have pk:ft sB (db 4) "cmp_to_key.<locals>.K.__gt__" [("mycmp",b5)] da:=by refine m dx ?_;exact⟨bq,bF,bs,cR,.head _,.tail _ (.head _),fi⟩
 rw[<-dx] at C
 clear dx fi
 have C:dq Q U a6 ns c P ⟨.type "dict",none,.dict #[⟨k 0,.str "__module__" (t 0),.str "cpy313.functools" mv⟩,⟨k 1,.str "__qualname__" (t 1),.str "cmp_to_key.<locals>.K" (t 21)⟩,⟨k 2,.str "__firstlineno__" (t 2),.int 27 (t 22)⟩,⟨gF,.str "__slots__" fy,.ref cB⟩,⟨jz,.str "__init__" gB,.ref f1⟩,⟨ml,.str "__lt__" jt,.ref f2⟩,⟨nj,.str "__gt__" lA,.ref da⟩] (n+1+1+1+1),#[]⟩ 3 sB y:=cast (by kernel_rfl) C
 refine C.def_ (x:="__eq__") (bN:="cmp_to_key.<locals>.K.__eq__") (ao:=(db 5).pos) (dm:=[("mycmp",b5)]) (kB:=none) (by kernel_rfl) (by kernel_rfl) (by kernel_rfl) (by kernel_rfl) (by kernel_rfl) rfl (by kernel_rfl) (by kernel_rfl) rfl (by kernel_rfl) (λv=>by kernel_rfl) rfl (by kernel_rfl) λbq bF f4 bs cR qs oT y C fi=>?_
 obtain⟨qO,dx⟩:∃c7,c7=(f4,({cls:=.type "function",data:=.func (h9 (db 5) "cmp_to_key.<locals>.K.__eq__" [("mycmp",b5)] cR bs (.ref bq))}:Obj))::(bq,bF)::sB:=⟨_,rfl⟩
 have UC:(cB,(⟨.type "list",none,.seq #[.str "obj" iH] 0,#[]⟩:Obj))∈qO:=by refine m dx ?_;exact .tail _ (.tail _ UA)
 have UD:∀p∈L,p∈qO:=λp af=>by refine m dx ?_;exact .tail _ (.tail _ (UB p af))
 have iO:ft qO (db 2) "cmp_to_key.<locals>.K.__init__" [] f1:=by refine m dx ?_;exact iO.cons _ _
 have iP:ft qO (db 3) "cmp_to_key.<locals>.K.__lt__" [("mycmp",b5)] f2:=by refine m dx ?_;exact iP.cons _ _
 have pk:ft qO (db 4) "cmp_to_key.<locals>.K.__gt__" [("mycmp",b5)] da:=by refine m dx ?_;exact pk.cons _ _
 have sC:ft qO (db 5) "cmp_to_key.<locals>.K.__eq__" [("mycmp",b5)] f4:=by refine m dx ?_;exact⟨bq,bF,bs,cR,.head _,.tail _ (.head _),fi⟩
 rw[<-dx] at C
 clear dx fi
 have C:dq Q U a6 ns c P ⟨.type "dict",none,.dict #[⟨k 0,.str "__module__" (t 0),.str "cpy313.functools" mv⟩,⟨k 1,.str "__qualname__" (t 1),.str "cmp_to_key.<locals>.K" (t 21)⟩,⟨k 2,.str "__firstlineno__" (t 2),.int 27 (t 22)⟩,⟨gF,.str "__slots__" fy,.ref cB⟩,⟨jz,.str "__init__" gB,.ref f1⟩,⟨ml,.str "__lt__" jt,.ref f2⟩,⟨nj,.str "__gt__" lA,.ref da⟩,⟨qs,.str "__eq__" oT,.ref f4⟩] (n+1+1+1+1+1),#[]⟩ 4 qO y:=cast (by kernel_rfl) C
 refine C.def_ (x:="__le__") (bN:="cmp_to_key.<locals>.K.__le__") (ao:=(db 6).pos) (dm:=[("mycmp",b5)]) (kB:=none) (by kernel_rfl) (by kernel_rfl) (by kernel_rfl) (by kernel_rfl) (by kernel_rfl) rfl (by kernel_rfl) (by kernel_rfl) rfl (by kernel_rfl) (λv=>by kernel_rfl) rfl (by kernel_rfl) λbq bF dy bs cR r5 qb y C fi=>?_
 obtain⟨pl,dx⟩:∃c7,c7=(dy,({cls:=.type "function",data:=.func (h9 (db 6) "cmp_to_key.<locals>.K.__le__" [("mycmp",b5)] cR bs (.ref bq))}:Obj))::(bq,bF)::qO:=⟨_,rfl⟩
 have UE:(cB,(⟨.type "list",none,.seq #[.str "obj" iH] 0,#[]⟩:Obj))∈pl:=by refine m dx ?_;exact .tail _ (.tail _ UC)
 have UF:∀p∈L,p∈pl:=λp af=>by refine m dx ?_;exact .tail _ (.tail _ (UD p af))
 have iO:ft pl (db 2) "cmp_to_key.<locals>.K.__init__" [] f1:=by refine m dx ?_;exact iO.cons _ _
 have iP:ft pl (db 3) "cmp_to_key.<locals>.K.__lt__" [("mycmp",b5)] f2:=by refine m dx ?_;exact iP.cons _ _
 have pk:ft pl (db 4) "cmp_to_key.<locals>.K.__gt__" [("mycmp",b5)] da:=by refine m dx ?_;exact pk.cons _ _
 have sC:ft pl (db 5) "cmp_to_key.<locals>.K.__eq__" [("mycmp",b5)] f4:=by refine m dx ?_;exact sC.cons _ _
 have ws:ft pl (db 6) "cmp_to_key.<locals>.K.__le__" [("mycmp",b5)] dy:=by refine m dx ?_;exact⟨bq,bF,bs,cR,.head _,.tail _ (.head _),fi⟩
 rw[<-dx] at C
 clear dx fi
 have C:dq Q U a6 ns c P ⟨.type "dict",none,.dict #[⟨k 0,.str "__module__" (t 0),.str "cpy313.functools" mv⟩,⟨k 1,.str "__qualname__" (t 1),.str "cmp_to_key.<locals>.K" (t 21)⟩,⟨k 2,.str "__firstlineno__" (t 2),.int 27 (t 22)⟩,⟨gF,.str "__slots__" fy,.ref cB⟩,⟨jz,.str "__init__" gB,.ref f1⟩,⟨ml,.str "__lt__" jt,.ref f2⟩,⟨nj,.str "__gt__" lA,.ref da⟩,⟨qs,.str "__eq__" oT,.ref f4⟩,⟨r5,.str "__le__" qb,.ref dy⟩] (n+1+1+1+1+1+1),#[]⟩ 5 pl y:=cast (by kernel_rfl) C
 refine C.def_ (x:="__ge__") (bN:="cmp_to_key.<locals>.K.__ge__") (ao:=(db 7).pos) (dm:=[("mycmp",b5)]) (kB:=none) (by kernel_rfl) (by kernel_rfl) (by kernel_rfl) (by kernel_rfl) (by kernel_rfl) rfl (by kernel_rfl) (by kernel_rfl) rfl (by kernel_rfl) (λv=>by kernel_rfl) rfl (by kernel_rfl) λbq bF dS bs cR y7 y8 y C fi=>?_
 obtain⟨mw,dx⟩:∃c7,c7=(dS,({cls:=.type "function",data:=.func (h9 (db 7) "cmp_to_key.<locals>.K.__ge__" [("mycmp",b5)] cR bs (.ref bq))}:Obj))::(bq,bF)::pl:=⟨_,rfl⟩
 have UG:(cB,(⟨.type "list",none,.seq #[.str "obj" iH] 0,#[]⟩:Obj))∈mw:=by refine m dx ?_;exact .tail _ (.tail _ UE)
 have UH:∀p∈L,p∈mw:=λp af=>by refine m dx ?_;exact .tail _ (.tail _ (UF p af))
 have iO:ft mw (db 2) "cmp_to_key.<locals>.K.__init__" [] f1:=by refine m dx ?_;exact iO.cons _ _
 have iP:ft mw (db 3) "cmp_to_key.<locals>.K.__lt__" [("mycmp",b5)] f2:=by refine m dx ?_;exact iP.cons _ _
 have pk:ft mw (db 4) "cmp_to_key.<locals>.K.__gt__" [("mycmp",b5)] da:=by refine m dx ?_;exact pk.cons _ _
 have sC:ft mw (db 5) "cmp_to_key.<locals>.K.__eq__" [("mycmp",b5)] f4:=by refine m dx ?_;exact sC.cons _ _
 have ws:ft mw (db 6) "cmp_to_key.<locals>.K.__le__" [("mycmp",b5)] dy:=by refine m dx ?_;exact ws.cons _ _
 have C9:ft mw (db 7) "cmp_to_key.<locals>.K.__ge__" [("mycmp",b5)] dS:=by refine m dx ?_;exact⟨bq,bF,bs,cR,.head _,.tail _ (.head _),fi⟩
 rw[<-dx] at C
 clear dx fi
 have C:dq Q U a6 ns c P ⟨.type "dict",none,.dict #[⟨k 0,.str "__module__" (t 0),.str "cpy313.functools" mv⟩,⟨k 1,.str "__qualname__" (t 1),.str "cmp_to_key.<locals>.K" (t 21)⟩,⟨k 2,.str "__firstlineno__" (t 2),.int 27 (t 22)⟩,⟨gF,.str "__slots__" fy,.ref cB⟩,⟨jz,.str "__init__" gB,.ref f1⟩,⟨ml,.str "__lt__" jt,.ref f2⟩,⟨nj,.str "__gt__" lA,.ref da⟩,⟨qs,.str "__eq__" oT,.ref f4⟩,⟨r5,.str "__le__" qb,.ref dy⟩,⟨y7,.str "__ge__" y8,.ref dS⟩] (n+1+1+1+1+1+1+1),#[]⟩ 6 mw y:=cast (by kernel_rfl) C
 have UI:db 8=.Assign [.Name "__hash__" ⟨48,8,48,16⟩] (.Constant .none 0 ⟨48,19,48,23⟩) ⟨48,8,48,23⟩:=by kernel_rfl
 refine m UI ?_
 refine dq.asg (ns:=ns) (c:=c) (P:=P) (a6:=a6) (Q:=Q) (U:=U) (i:=6) (n:=n+1+1+1+1+1+1+1) (aU:=#[⟨k 0,.str "__module__" (t 0),.str "cpy313.functools" mv⟩,⟨k 1,.str "__qualname__" (t 1),.str "cmp_to_key.<locals>.K" (t 21)⟩,⟨k 2,.str "__firstlineno__" (t 2),.int 27 (t 22)⟩,⟨gF,.str "__slots__" fy,.ref cB⟩,⟨jz,.str "__init__" gB,.ref f1⟩,⟨ml,.str "__lt__" jt,.ref f2⟩,⟨nj,.str "__gt__" lA,.ref da⟩,⟨qs,.str "__eq__" oT,.ref f4⟩,⟨r5,.str "__le__" qb,.ref dy⟩,⟨y7,.str "__ge__" y8,.ref dS⟩]) (λv=>by kernel_rfl) rfl (by kernel_rfl) (by kernel_rfl) ?_
 have UJ:∀s,eval (.Constant .none 0 ⟨48,19,48,23⟩) s=pure .none:=λs=>by kernel_rfl
 refine m (UJ _) ?_
 refine bx ⟨mw,C,λIY IZ y C=>wpAny_execs_nil ?_⟩
 have C:dq Q U a6 ns c P ⟨.type "dict",none,.dict #[⟨k 0,.str "__module__" (t 0),.str "cpy313.functools" mv⟩,⟨k 1,.str "__qualname__" (t 1),.str "cmp_to_key.<locals>.K" (t 21)⟩,⟨k 2,.str "__firstlineno__" (t 2),.int 27 (t 22)⟩,⟨gF,.str "__slots__" fy,.ref cB⟩,⟨jz,.str "__init__" gB,.ref f1⟩,⟨ml,.str "__lt__" jt,.ref f2⟩,⟨nj,.str "__gt__" lA,.ref da⟩,⟨qs,.str "__eq__" oT,.ref f4⟩,⟨r5,.str "__le__" qb,.ref dy⟩,⟨y7,.str "__ge__" y8,.ref dS⟩,⟨IY,.str "__hash__" IZ,.none⟩] (n+1+1+1+1+1+1+1+1),#[]⟩ 6 mw y:=cast (by kernel_rfl) C
 exact aS (λi=>[k 0,k 1,k 2,gF,jz,ml,nj,qs,r5,y7,IY].getD i 0) (λi=>[t 0,t 1,t 2,fy,gB,jt,lA,oT,qb,y8,IZ,0,0,0,0,0,0,0,0,0,mv,t 21,t 22].getD i 0) iH cB f1 f2 da f4 dy dS _ mw y C UG iO iP pk sC ws C9 UH
end
section
open PySem.Calls Builtin Builtin.ObjectAttr
theorem Nl (a:Str) (t:Tok) (b c:Addr):checkBuiltinCall "type.__new__" ⟨[.type "type",.str a t,.ref b,.ref c],[]⟩=pure ():=by kernel_rfl
theorem Pq (x:Addr) (a:Str) (t:Tok) (b c:Addr):argsOk "type.__init__" ⟨[.ref x,.str a t,.ref b,.ref c],[]⟩:=by unfold argsOk;kernel_rfl
theorem AI:Slot "type" "__init__" "type.__init__":=.of (owner:="type") (n:="__init__") (by refine m (kD _ _) (m kM ?_);kernel_rfl) (by decide+kernel) (by decide+kernel) (by decide+kernel)
 (by first|exact .inl (by decide+kernel)|exact .inr (by decide+kernel)) (by rw[jq];kernel_rfl)
theorem MZ:entryFor table "type.__init__"=some Builtin.«type.__init__»:=sO (by kernel_rfl)
theorem Mn:entryFor table "type.__new__"=some Builtin.«type.__new__»:=sO (by kernel_rfl)
theorem Qq {h g d aD os gk pj cB f1 f2 da f4 dy dS t1} {k:Nat->Int} {t:Nat->Tok} {t0:Tok} {n ab:Nat} {G:Value->Shared->Prop} (aA:h.get? gk=some ⟨.type "tuple",none,.seq #[.type "object"] 0,#[]⟩)
 (au:h.get? pj=some ⟨.type "dict",none,.dict (pR k t cB f1 f2 da f4 dy dS t1) n,#[]⟩) (a0:h.get? cB=some ⟨.type "list",none,.seq #[.str "obj" iH] ab,#[]⟩) (gT:(pj==sysModules)=false) (jD:∀f∈[f1,f2,da,f4,dy,dS],∃w,h.get? f=some w/\w.cls=.type "function") (su:∃w,h.get? t1=some w/\w.cls=.type "tuple") (C4:∃P,(KB P).In h)
 (aS:∀a ns b4 er dj u fS fT am hH,ei h [(b4,pO a u),(a,ll a ns gk t0 (t 21)),(ns,⟨.type "dict",none,.dict (ow k t cB f1 f2 da f4 dy dS t1 b4 er dj fS fT) 3,#[]⟩)] am->G (.ref a) ⟨am,g,d,hH,os⟩):
  wpAny (model B A) D (call (.type "type") [.str "K" t0,.ref gk,.ref pj]) G M ⟨h,g,d,aD,os⟩:=by
 refine hg (codeAny_of_tree ?_)
 show wpAny _ _ (callAny (.type "type") _) _ _ _
 refine bx ⟨Code.quiet_builtin _ (by decide+kernel),codeAny_builtin F.entry_type_call ?_⟩
 refine m (Around.under_plain (weight_type_call_type "type" _ []) rfl) ?_
 delta Builtin.«type.__call__»
 refine eL ?_
 refine gX [.type "type",.type "object"] (by rw[mroOf_type];kernel_rfl) ?_
 refine gX (some "type.__new__") (by kernel_rfl) ?_
 refine eL ?_
 refine ay (dZ ?_)
 refine hg (xC (by decide+kernel) Mn (fZ (Nl _ _ _ _) ?_))
 refine ML aA au a0 gT jD su C4 λa ns b4 er dj u fS fT am hH aa=>?_
 have n6:am.get? a=some (ll a ns gk t0 (t 21)):=aa.at_ _ (.tail _ (.head _))
 have cK:∀dd,(⟨am,g,d,dd,os⟩:Shared).TypeIs (.ref a) "type":=λ_=>⟨_,n6,rfl⟩
 refine cb (r:=true) (AA n6 rfl (by rw[jq];kernel_rfl)) (eh (by rfl) ?_)
 refine ay (dZ ?_)
 unfold callSpecial?
 refine ay (wpAny_specialOf (cK _) AI.lookup ?_)
 refine dZ (ay (fZ (AI.bind _) ?_))
 refine ay (oq AI (cK _) MZ ?_ (Pq _ _ _ _ _))
 exact bx ⟨_,rfl,bx (bx (aS a ns b4 er dj u fS fT am hH aa))⟩
end
section
open PySem.W.X PySem.W.XRun
section
set_option hygiene false in
local macro_rules |`(tactic|x_close)=>`(tactic|(refine aS _ _ _ (by assumption)))
theorem O7 {g d aD os} {h:Heap} {u:Tok} {G:Value->Shared->Prop}
 (aS:∀a am hH,Mem h am [] [(a,⟨.type "builtin_function_or_method",none,.fields #[.builtin "type.__prepare__",.type "type"],#[]⟩)]->G (.ref a) ⟨am,g,d,hH,os⟩):
  wpAny (model B A) D (call (.builtin "type.__getattribute__") [.type "type",.str "__prepare__" u]) G M ⟨h,g,d,aD,os⟩:=by
 x_run
theorem Mw {g d aD os} {h:Heap} {b gk:Addr} {u:Tok} {G:Value->Shared->Prop}
 (aA:h.get? b=some ⟨.type "builtin_function_or_method",none,.fields #[.builtin "type.__prepare__",.type "type"],#[]⟩)
 (aS:∀a am hH,Mem h am [] [(a,⟨.type "dict",none,.dict #[] 0,#[]⟩)]->G (.ref a) ⟨am,g,d,hH,os⟩):
  wpAny (model B A) D (call (.ref b) [.str "K" u,.ref gk] []) G M ⟨h,g,d,aD,os⟩:=by
 x_run
end
theorem slot_tga:Slot "type" "__getattribute__" "type.__getattribute__":=.of (owner:="type") (n:="__getattribute__") (by refine m (kD _ _) (m kM ?_);kernel_rfl) (by decide+kernel) (by decide+kernel) (by decide+kernel)
 (by first|exact .inl (by decide+kernel)|exact .inr (by decide+kernel)) (by rw[jq];kernel_rfl)
theorem Ev {h:Heap} {UK:List (Addr×Obj)} (ab:Mem h am [] UK):∀b w,h.get? b=some w->am.get? b=some w:=λb w e=>ab.keep b w e (by rw[Bool.or_eq_true];exact .inr rfl)
section
variable {h:Heap} {g:Array GenState} {d:Drawn} {aD:Nat}
theorem JU {G:Option Value->Shared->Prop}
  (aS:∀b am hH,(∀b w,h.get? b=some w->am.get? b=some w)->h.objs.size<=am.objs.size->am.get? b=some ⟨.type "builtin_function_or_method",none,.fields #[.builtin "type.__prepare__",.type "type"],#[]⟩->G (some (.ref b)) ⟨am,g,d,hH,os⟩):
  wpAny (model B A) D (getAttr? (.type "type") "__prepare__") G M ⟨h,g,d,aD,os⟩:=by
 have cK:∀dd,(⟨h,g,d,dd,os⟩:Shared).TypeIs (.type "type") "type":=λ_=>by show typeOf (.type "type")=_;kernel_rfl
 unfold getAttr? getAttrBy? getAttrBy
 refine ay (pp (ay (rl (dZ (ay (wpAny_typeOf (cK _) (ay (fZ slot_tga.lookup ?_))))))))
 show wpAny _ _ (getAttrByItsOwn (.type "type") (.str "__prepare__" aD) (.type "type") (.builtin "type.__getattribute__") false false) _ _ _
 unfold getAttrByItsOwn hookBefore callGetattribute boundAndCalled
 refine ay (fZ (show(if onTheHeap (.type "type") then typeLookup (.type "type") "__getattr__" else pure none)=pure none from rfl) ?_)
 refine ay (rl (dZ ?_))
 show wpAny _ _ (bindSpecial (.builtin "type.__getattribute__") (.type "type") >>=_) _ _ _
 refine ay (fZ (slot_tga.bind _) ?_)
 refine j7 (O7 λb am hH ab z=>?_)
 exact bx (bx (aS b am hH (Ev ab) z (ab.at 0 _ _ rfl)))
end
end
theorem d2.s1 {h:Heap} (T:d2 h) {b:Addr} (e:h.get? b=some w) (av:w.cls≠.none):tab b=false:=by
 cases bu:tab b with
 |false=>rfl
 |true=>obtain⟨J,rfl⟩:=T.fields bu e;exact absurd rfl av
theorem g7.full {h:Heap} (ab:z0 true h bg) (n:Nat):g7 n h bg:=λi q aH=>(ab q (fc aH)).imp (λz=>by cases z.1) id
theorem g7.six {h:Heap} (ab:g7 6 h bg):z0 true h bg:=λq aS=>by
 obtain⟨i,aH⟩:=List.mem_iff_getElem?.mp aS
 rcases ab i q aH with⟨z,_⟩|z
 ·have:=(gL.mp aH).1
  rw[xO] at this
  exact absurd this (eZ.mpr z)
 ·exact .inr z
structure OM (o y:Shared) (c P:Addr):Prop where
 same:cp λh aD=>y={o with heap:=h,toks:=aD}
 keep:∀b w,b≠59->o.heap.get? b=some w->y.heap.get? b=some w
 size:o.heap.objs.size<=y.heap.objs.size
 rc:∃bg,ce (mC y.heap c P bg) (g7 0 y.heap bg) ((P < o.heap.objs.size->g7 6 y.heap bg))
 hP:y.heap.get? 59=some (tabObj #[rawInt posK.line,rawInt posK.col,.ref c])
 lc:g2 y.heap c Aq
theorem Kw {UL:Nat} {name:Str} {G:Value->Shared->Prop} (T:d2 o.heap) (UM:∃w,o.heap.get? 63=some w/\m5 59 w) (j2:s.code=.ref 63) (aA:247<=o.heap.objs.size)
  (aS:∀c P y,OM o y c P->G (.ref c) y):wpAny ba D (classCode s posK UL name Aq aR) G M o:=by
 obtain⟨J,Db,Dc⟩:=T.tb
 unfold classCode
 refine EE (P:=59) (bg:=J) j2 ⟨UM,by decide,Db,?_⟩ (λv bn=>?_) λau Bx=>?_
 ·rcases Dc with rfl|⟨c,P,bg,rfl,_⟩
  ·trivial
  ·trivial
 ·rcases Dc with rfl|⟨c,P,bg,rfl,lc,K,ab⟩
  ·cases bn
  ·have:codeAmong posK #[rawInt posK.line,rawInt posK.col,Value.ref c].toList=some (.ref c):=by simp[codeAmong,rawInt]
   rw[this] at bn;cases bn
   exact aS c P o ⟨⟨_,_,rfl⟩,λ_ _ _ e=>e,cG _,⟨bg,K,g7.full ab 0,λ_=>g7.full ab 6⟩,Db,lc⟩
 ·rcases Dc with rfl|⟨c,P,bg,rfl,lc,K,ab⟩
  ·refine wpAny_newCodeX λbq jb am aD aN i6 fR By Bz BA=>⟨bq,rfl,aN _ _ Db,λga g3 gC ko=>?_⟩
   obtain⟨⟨r7,vM,im,g4,lH,UN⟩,UO⟩:=Bz
   obtain⟨eW,Hn,Ho,fy,bS,bV,hp,gR⟩:=BA
   cases bS
   rw[im] at bV;cases bV
   rw[lH] at hp;cases hp
   obtain⟨w,J,tz,tA,tB,he,tC,text,m8,i4,mh,ij,UP,UQ,UR,US,UT,Xd,Xe,Xf,UU⟩:=By
   rw[im] at mh;cases mh
   rw[lH] at ij;cases ij
   have ar:o.heap.objs.size<=ga.objs.size:=aK (aK i6 (ew (dL im))) (di ko.symm)
   have mo:bq≠59:=by rintro rfl;exact absurd (aK aA i6) (by decide)
   have qh:jb≠59:=by rintro rfl;exact absurd (aK aA fR) (by decide)
   refine aS bq jb _ ⟨⟨ga,aD,rfl⟩,λb w aA e=>g3 b w aA (aN b w e),ar,⟨#[],⟨⟨r7,g3 _ _ mo im,⟨_,tz,tA,tB,he,tC,text,m8,g4,lH,UN,UP,UQ,UR,US,UT⟩⟩,aK aA fR,UU,g3 _ _ qh UO,trivial⟩,λi ab aH=>.inl ⟨lU _,rfl⟩,λz=>absurd fR (Nat.not_le.mpr z)⟩,gC,⟨r7,_,fy,g3 _ _ mo im,g4,lH,gR⟩⟩
  ·have:codeAmong posK #[rawInt posK.line,rawInt posK.col,Value.ref c].toList=some (.ref c):=by simp[codeAmong,rawInt]
   rw[this] at au;cases au
section
variable {ns P bC:Addr} {n:Nat} {L:List (Addr×Obj)}
theorem OF {G:Value->Shared->Prop} (C:dq Q U a6 ns c P ⟨.type "dict",none,.dict #[] n,#[]⟩ i L o) (aS:∀v,G v o):wpAny ba D (loadName (l2 ns c bC b5) "__name__") G M o:=by
 delta loadName
 refine eh (by kernel_rfl) ?_
 have bS:(l2 ns c bC b5).blockKind=.class:=by kernel_rfl
 have bV:(l2 ns c bC b5).kindOf "__name__"=none:=by kernel_rfl
 refine m bS (m bV ?_)
 refine eh (by kernel_rfl) ?_
 delta localGet
 refine ay (ay (wpAny_load C.dict ?_))
 refine p8 (by rfl) ?_
 obtain⟨h,g,d,t,os⟩:=o
 have mh:Looks ba h (nsGet ns "__name__") none:=ol C.dict (by kernel_rfl)
 obtain⟨p,X⟩:=C.cb.cf
 refine mh.at ?_
 delta loadGlobal
 exact cb (r:=(some (.str "law_il0181_01" 549))) (looks_nsIn X (by kernel_rfl)) (bx (aS _))
theorem MS {G:Unit->Shared->Prop} (C:dq Q U a6 ns c P ⟨.type "dict",none,.dict #[] 0,#[]⟩ 0 L o)
  (aS:∀(k:Nat->Int) (t:Nat->Tok) i5 y,dq Q U a6 ns c P ⟨.type "dict",none,.dict (zD k t i5) 3,#[]⟩ 0 L y->G () y):
  wpAny ba D (do storeName (l2 ns c bC b5) "__module__" (<-loadName (l2 ns c bC b5) "__name__");storeName (l2 ns c bC b5) "__qualname__" (<-mkText "cmp_to_key.<locals>.K");storeName (l2 ns c bC b5) "__firstlineno__" (<-mkInt (jI.pos.line:Nat));pure ()) G M o:=by
 refine ay (OF C λi5=>?_)
 refine ay (C.store (by kernel_rfl) rfl (by kernel_rfl) λy9 t0 aj C=>?_)
 have C:dq Q U a6 ns c P ⟨.type "dict",none,.dict #[⟨y9,.str "__module__" t0,i5⟩] 1,#[]⟩ 0 L aj:=cast (by kernel_rfl) C
 refine ay (pp ?_)
 refine ay (C.tok.store (by kernel_rfl) rfl (by kernel_rfl) λh0 t1 aB C=>?_)
 generalize aj.toks=wr at C
 have C:dq Q U a6 ns c P ⟨.type "dict",none,.dict #[⟨y9,.str "__module__" t0,i5⟩,⟨h0,.str "__qualname__" t1,.str "cmp_to_key.<locals>.K" wr⟩] 2,#[]⟩ 0 L aB:=cast (by kernel_rfl) C
 refine ay (wpAny_mkInt ?_)
 refine ay (C.tok.store (by kernel_rfl) rfl (by kernel_rfl) λg3 dO ax C=>bx ?_)
 generalize aB.toks=I0 at C
 have C:dq Q U a6 ns c P ⟨.type "dict",none,.dict #[⟨y9,.str "__module__" t0,i5⟩,⟨h0,.str "__qualname__" t1,.str "cmp_to_key.<locals>.K" wr⟩,⟨g3,.str "__firstlineno__" dO,.int 27 I0⟩] 3,#[]⟩ 0 L ax:=cast (by kernel_rfl) C
 exact aS (λi=>[y9,h0,g3].getD i 0) (λi=>[t0,t1,dO,0,0,0,0,0,0,0,0,0,0,0,0,0,0,0,0,0,0,wr,I0].getD i 0) i5 ax C
theorem MI {k:Nat->Int} {t:Nat->Tok} {cB f1 f2 da f4 dy dS:Addr} {G:Unit->Shared->Prop} (C:dq Q U a6 ns c P ⟨.type "dict",none,.dict (pR k t cB f1 f2 da f4 dy dS 0).pop n,#[]⟩ 6 L o)
  (aS:∀(k:Nat->Int) (t:Nat->Tok) t1 wt d6 y,dq Q U a6 ns c P ⟨.type "dict",none,.dict (pR k t cB f1 f2 da f4 dy dS t1) d6,#[]⟩ 6 ((t1,wt)::L) y->wt.cls=.type "tuple"->G () y):
  wpAny ba D (do storeName (l2 ns c bC b5) "__static_attributes__" (<-newTextTuple (<-(["obj"]:List Str).mapM mkText));pure ()) G M o:=by
 refine ay ?_
 show wpAny ba D (do let a <-mkText "obj";(pure [a].reverse:Sem (List Value))) _ _ _
 refine ay (pp (bx (ay (wpAny_newTextTuple ?_))))
 refine ay (((C.tok (aD:=o.toks+1)).push _ rfl).store (by kernel_rfl) rfl (by kernel_rfl) λUV UW aj C=>bx ?_)
 have C:dq Q U a6 ns c P ⟨.type "dict",none,.dict (pR (λi=>[k 0,k 1,k 2,k 3,k 4,k 5,k 6,k 7,k 8,k 9,k 10,UV].getD i 0) (λi=>[t 0,t 1,t 2,t 3,t 4,t 5,t 6,t 7,t 8,t 9,t 10,UW,0,0,0,0,0,0,0,0,t 20,t 21,t 22].getD i 0) cB f1 f2 da f4 dy dS o.heap.objs.size) (n+1),#[]⟩ 6 ((o.heap.objs.size,⟨.type "tuple",none,.seq #[.str "obj" o.toks] 0,#[]⟩)::L) aj:=cast (by kernel_rfl) C
 exact aS _ _ _ _ _ aj C rfl
end
theorem Oq:jI=.ClassDef "K" [.Name "object" ⟨27,12,27,18⟩] [] (dV jI) [] [] p2 none "K" ["obj"] jI.pos:=by kernel_rfl
noncomputable def ls (h:Heap) (st:Stmt) (bN:Str) (dm:List (Str×Addr)) (f:Addr):Prop:=om λbq bF bs cR=>ce (h.get? f=some {cls:=.type "function",data:=.func (h9 st bN dm cR bs (.ref bq))}) (h.get? bq=some bF) (cp λcq t=>ce (bF.cls=.type "code") (bF.data=.fields cq) (cq[1]?=some (.str bN t)))
set_option genInjectivity false in
structure AC where
 (ns b4 gk:Addr)
 k:Nat->Int
 t:Nat->Tok
 (cB f1 f2 da f4 dy dS t1:Addr)
 (er dj:Int)
 (u fS fT t0:Tok)
noncomputable def AC.ents (p:AC):Array DictEntry:=ow p.k p.t p.cB p.f1 p.f2 p.da p.f4 p.dy p.dS p.t1 p.b4 p.er p.dj p.fS p.fT
noncomputable def hs (lo:Nat) (h:Heap) (a b5:Addr):Prop:=∃p:AC,uu (p.ns≠a/\lo<=p.ns) (h.get? a=some (ll a p.ns p.gk p.t0 (p.t 21))) (h.get? p.ns=some ⟨.type "dict",none,.dict p.ents 3,#[]⟩) (h.get? p.b4=some (pO a p.u)) (ls h (db 2) "cmp_to_key.<locals>.K.__init__" [] p.f1) (ls h (db 3) "cmp_to_key.<locals>.K.__lt__" [("mycmp",b5)] p.f2)
theorem ls.mono {h:Heap} {st:Stmt} (k:∀b w,w.cls≠.none->(∀aU n,w.data≠.dict aU n)->h.get? b=some w->am.get? b=some w) (x:ls h st bN dm f):ls am st bN dm f:=by
 obtain⟨bq,bF,bs,cR,a,b,cq,t,d,e,r⟩:=x
 exact⟨bq,bF,bs,cR,k _ _ (by intro q;cases q) (by intro _ _ q;cases q) a,k _ _ (by refine m d ?_;intro q;cases q) (by refine m e ?_;intro _ _ q;cases q) b,cq,t,d,e,r⟩
theorem hs.mono {lo:Nat} {h:Heap} (k:∀b w,w.cls≠.none->(∀aU n,w.data≠.dict aU n)∨lo<=b->h.get? b=some w->am.get? b=some w) (x:hs lo h a b5):hs lo am a b5:=by
 obtain⟨p,n,a,b,c,d,e⟩:=x
 exact⟨p,n,k _ _ (by intro q;cases q) (.inl (by intro _ _ q;cases q)) a,k _ _ (by intro q;cases q) (.inr n.2) b,k _ _ (by intro q;cases q) (.inl (by intro _ _ q;cases q)) c,d.mono λb w p q=>k b w p (.inl q),e.mono λb w p q=>k b w p (.inl q)⟩
theorem hs.ex {lo:Nat} (T:d2 o.heap) (x:an o y) (c:hs lo o.heap a b5):hs lo y.heap a b5:=c.mono λb w av _ e=>x.keep b w (T.s1 e av) e
theorem ft.at {h:Heap} {L:List (Addr×Obj)} {st:Stmt} (k:∀p∈L,h.get? p.1=some p.2) (x:ft L st bN dm f):ls h st bN dm f:=by
 obtain⟨bq,bF,bs,cR,a,b,r⟩:=x
 exact⟨bq,bF,bs,cR,k _ a,k _ b,r⟩
theorem Qp {G:Value->Shared->Prop} (kp:D.depth < recursionLimit) (C:Base Q U o.heap) (j1:s.globals=mainGlobals) (UX:s.builtins=builtinsNs) (j2:s.code=.ref 63)
  (eg:closureFor p2 s=pure [(("mycmp":Str),b5)])
  (aS:∀a y,an o y->hs o.heap.objs.size y.heap a b5->G (.ref a) y):
  wpAny (model B A) D (buildClass "K" "cmp_to_key.<locals>.K" [.type "object"] [] (dV jI) p2 ["obj"] jI.pos.line s jI.pos none) G M o:=by
 delta buildClass
 refine m j1 (m UX ?_)
 have I1:∀h,Looks (model B A) h (typeOf (.type "object")) (.type "type"):=λh=>p1 (by kernel_rfl)
 have UY:∀h,Looks (model B A) h (isSubtype (.type "type") (.type "type")) true:=λh=>p1 (by rw[jq];kernel_rfl)
 have C5:∀h,Looks (model B A) h (isType (.type "object")) true:=λh=>p1 (by kernel_rfl)
 have lP:∀h,Looks (model B A) h (isType (.type "type")) true:=λh=>p1 (by kernel_rfl)
 obtain⟨h,g,d,aD,os⟩:=o
 refine ay (wpAny_newTuple ?_ (by show 1<=_;refine m dR ?_;decide))
 have aq:an ⟨h,g,d,aD,os⟩ ⟨h.push ⟨.type "tuple",none,.seq #[.type "object"] 0,#[]⟩,g,d,aD,os⟩:=an.push (o:=⟨h,g,d,aD,os⟩) _
 have za:(h.push ⟨.type "tuple",none,.seq #[.type "object"] 0,#[]⟩).get? h.objs.size=some ⟨.type "tuple",none,.seq #[.type "object"] 0,#[]⟩:=dT _ rfl
 have qN:∀b w,h.get? b=some w->(h.push ⟨.type "tuple",none,.seq #[.type "object"] 0,#[]⟩).get? b=some w:=λb w e=>e1 _ e
 show wpAny _ _ _ _ _ ⟨h.push ⟨.type "tuple",none,.seq #[.type "object"] 0,#[]⟩,g,d,aD,os⟩
 generalize h.push ⟨.type "tuple",none,.seq #[.type "object"] 0,#[]⟩=ca at aq za qN
 show wpAny _ _ (_ >>=_) _ _ ⟨ca,g,d,aD,os⟩
 refine ay (gx (cb (C5 ca) (p8 (by rfl) ?_)))
 refine lV (by decide) ?_
 refine bx (mI ?_)
 refine cb (I1 ca) ?_
 refine cb (lP ca) (p8 (by rfl) ?_)
 refine ay (gx (cb (I1 ca) (cb (UY ca) (p8 (by rfl) ?_))))
 refine bx (mI ?_)
 refine ay (pp ?_)
 refine eh (by rfl) ?_
 refine eL ?_
 refine dZ ?_
 refine ay (JU λb en vC mx mq UZ=>?_)
 refine ay ?_
 refine j7 (Mw UZ λns ef vE Dd v6=>?_)
 have sD:=Ev Dd
 have C6:ef.get? ns=some ⟨.type "dict",none,.dict #[] 0,#[]⟩:=Dd.at 0 _ _ rfl
 have qP:en.get? ns=none:=(Dd.nw _ (.head _)).2
 have X:an ⟨h,g,d,aD,os⟩ ⟨ef,g,d,vE,os⟩:=aq.trans (⟨⟨ef,vE,rfl⟩,λb w _ e=>sD _ _ (mx _ _ e),aK mq v6,λT=>T.mono λb w _ e=>sD _ _ (mx _ _ e)⟩)
 have bh:Base Q U ef:=C.ex X
 have I2:(ns==sysModules)=false:=by
  rw[iG]
  rintro rfl
  obtain⟨P,U0⟩:=C.cf
  have:=mx _ _ (aq.keep _ _ (by decide) (U0 sysModules _ rfl))
  rw[qP] at this;cases this
 show wpAny _ _ (notTheModulesDict _ ns >>=_) _ _ _
 delta notTheModulesDict
 refine ay (eh I2 (bx ?_))
 have U1:(⟨ef,g,d,vE,os⟩:Shared).TypeIs (.ref ns) "dict":=⟨_,C6,rfl⟩
 refine ay (wpAny_specialOf U1 F.slot_dict_getitem.lookup ?_)
 refine eh (by rfl) ?_
 refine dZ ?_
 refine eh (by kernel_rfl) ?_
 refine eL ?_
 refine eh (by kernel_rfl) ?_
 refine eL ?_
 refine ay (Kw bh.tabs (bh.st (63,_) (.tail _ (.tail _ (.tail _ (.tail _ (.tail _ (.tail _ (.tail _ (.head _))))))))) j2 bh.fj λc P y hY=>?_)
 obtain⟨jf,I3,rfl⟩:=hY.same
 have U2:∀b,tab b=false->b≠59:=λb e q=>by rw[q] at e;cases e
 have I4:n9 Q U en:=(C.ex aq).cb.keep λb w _ _ e=>mx _ _ e
 have k6:∀b w,tab b=false->en.get? b=some w->jf.get? b=some w:=λb w t e=>hY.keep b w (U2 b t) (sD _ _ e)
 have zb:n9 Q U jf:=I4.keep λb w _ t e=>k6 b w t e
 obtain⟨nX,tM,lG,k1,tN⟩:=zb.s4
 refine ay (wpAny_builtinsFor zb.g zb.nm.bm (by decide) tM lG k1 tN ?_)
 refine ay ?_
 delta newBodyFrame
 refine ay (wpAny_nsGet zb.g (wpAny_alloc ?_))
 refine m eg ?_
 refine eL ?_
 have I5:ns≠59:=by
  rintro rfl
  obtain⟨J,q,_⟩:=C.tabs.tb
  rw[mx _ _ (qN _ _ q)] at qP;cases qP
 have I6:jf.get? ns=some ⟨.type "dict",none,.dict #[] 0,#[]⟩:=hY.keep _ _ I5 C6
 obtain⟨De,I7,U3⟩:=C.tabs.oa
 obtain⟨Df,I8,U4⟩:=C.tabs.q7
 obtain⟨bF,U5,U6,wu,U7,I9,U8⟩:=hY.lc
 have kW:∀(w:Obj) b p,jf.get? b=some p->(jf.push w).get? b=some p:=λw b p e=>e1 w e
 have Dg:dq Q U ⟨en,g,d,vC,os⟩ ns c P ⟨.type "dict",none,.dict #[] 0,#[]⟩ 0 [(59,tabObj #[rawInt posK.line,rawInt posK.col,.ref c]),(219,tabObj De),(231,tabObj Df),(c,bF),(h.objs.size,⟨.type "tuple",none,.seq #[.type "object"] 0,#[]⟩)] ⟨jf.push ⟨.type "frame",none,.plain,#[some (.ref c),some (.ref mainGlobals),some (.ref ns),none,some ((Q "__name__").getD .none),none,some (.ref builtinsNs)]⟩,g,d,I3,os⟩:=by
  obtain⟨bg,⟨⟨Dh,qQ,Di⟩,b1,cE,qt,bu⟩,hm,bb⟩:=hY.rc
  have mk:∀{n} (w:Obj),g7 n jf bg->g7 n (jf.push w) bg:=λw ab j q bv=>(ab j q bv).imp id λ⟨c,e,bF,cq,t,g,jB,lJ,nk⟩=>⟨c,e,bF,cq,t,kW w _ _ g,jB,lJ,nk⟩
  have Dj:∀b,b < 247->b≠P:=λb aA q=>absurd b1 (by refine a9 q ?_;exact Nat.not_le.mpr aA)
  have Ja:∀b w,h.get? b=some w->b≠ns:=λb w e q=>by
   rw[q] at e
   rw[mx _ _ (qN _ _ e)] at qP;cases qP
  have Jb:h.objs.size≠59:=λq=>absurd (show 247<=h.objs.size from C.fj) (by refine m q ?_;decide)
  refine⟨⟨_,I3,rfl⟩,I4,kW _ _ _ I6,λb w t e=>kW _ _ _ (k6 b w t e),aK v6 (aK hY.size (by refine m (eN _ _) ?_;exact hw _)),qP,⟨_,_,rfl⟩,⟨bg,⟨⟨Dh,kW _ _ _ qQ,Di⟩,b1,cE,kW _ _ _ qt,bu⟩,mk _ hm,λz=>mk _ (bb (cz z v6))⟩,λp af=>?_⟩
  revert p
  refine AllP.mem ?_
  refine⟨?_,?_,?_,?_,?_,trivial⟩
  ·exact⟨kW _ _ _ hY.hP,I5.symm,Dj 59 (by decide)⟩
  ·exact⟨kW _ _ _ (hY.keep 219 _ (by decide) (sD _ _ (mx _ _ (qN _ _ I7)))),Ja _ _ I7,Dj 219 (by decide)⟩
  ·exact⟨kW _ _ _ (hY.keep 231 _ (by decide) (sD _ _ (mx _ _ (qN _ _ I8)))),Ja _ _ I8,Dj 231 (by decide)⟩
  ·refine⟨kW _ _ _ wu,λq=>?_,cE⟩
   rw[show c=ns from q,I6] at wu;cases wu;cases I9
  ·refine⟨kW _ _ _ (hY.keep _ _ (λq=>?_) (sD _ _ (mx _ _ za))),λq=>?_,λq=>?_⟩
   ·exact Jb q
   ·rw[<-(show h.objs.size=ns from q),mx _ _ za] at qP;cases qP
   ·have:=hY.keep _ _ Jb (sD _ _ (mx _ _ za))
    rw[show h.objs.size=P from q,qt] at this;cases this
 generalize lN:[(59,tabObj #[rawInt posK.line,rawInt posK.col,.ref c]),(219,tabObj De),(231,tabObj Df),(c,bF),(h.objs.size,(⟨.type "tuple",none,.seq #[.type "object"] 0,#[]⟩:Obj))]=r8 at Dg
 refine dZ ?_
 refine ay (wpAny_enterFrame Dg.cb.lim kp ?_)
 refine ay (wpAny_onRaise (MS Dg λk t i5 cm bJ=>?_))
 refine ay (wpAny_run (codeAny_of_tree ?_))
 show wpAny _ _ (do blockStart (dV jI) (l2 _ _ _ _);return Fin.done (<-(execs (dV jI) (l2 _ _ _ _)).onRaise (leaving (l2 _ _ _ _)))) _ _ _
 refine ay (fZ (a:=()) (by kernel_rfl) ?_)
 refine ay (wpAny_onRaise (LD bJ λk t iH cB f1 f2 da f4 dy dS d6 Jc ds b6 a0 iO iP pk sC ws C9 Jd=>bx ?_))
 refine ay (wpAny_onRaise (MI b6 λk t t1 wt Xg gG cT U9=>?_))
 obtain⟨sA,Va,Dk⟩:=cT.same
 have Dk:gG=⟨sA,g,d,Va,os⟩:=Dk
 subst Dk
 have sE:∀p∈(t1,wt)::Jc,sA.get? p.1=some p.2:=λp af=>(cT.obs p af).1
 have Vb:sA.get? h.objs.size=some ⟨.type "tuple",none,.seq #[.type "object"] 0,#[]⟩:=sE (h.objs.size,_) (.tail _ (Jd _ (lN▸fc (i:=4) rfl)))
 have Vc:=sE _ (.tail _ a0)
 have kk:∀{st q cl f},ft Jc st q cl f->∃w,sA.get? f=some w/\w.cls=.type "function":=λ⟨bq,bF,bs,cR,a,_,_⟩=>⟨_,sE _ (.tail _ a),rfl⟩
 refine eh (by rfl) ?_
 refine ay (Qq Vb cT.dict Vc I2 ?_ ⟨wt,sE _ (.head _),U9⟩ cT.cb.cf λa iN b4 er dj u fS fT am hH aa=>?_)
 ·intro f bb
  revert f
  refine AllP.mem ?_
  refine⟨?_,?_,?_,?_,?_,?_,trivial⟩
  ·exact kk iO
  ·exact kk iP
  ·exact kk pk
  ·exact kk sC
  ·exact kk ws
  ·exact kk C9
 have Je:∀b w,tab b=false->h.get? b=some w->am.get? b=some w:=λb w t e=>aa.keep _ _ (cT.keep b w t (mx _ _ (qN _ _ e)))
 have zc:∀p∈r8,am.get? p.1=some p.2:=λp af=>aa.keep _ _ (sE p (.tail _ (Jd p af)))
 have Jf:∀{J:Array Value} {ao:Pos} {bN:Str},la h J ao bN->la am J ao bN:=λx=>x.imp id λ⟨c,e,bF,cq,t,g,av,hd,q⟩=>⟨c,e,bF,cq,t,Je c bF (C.tabs.s1 g (by refine m av ?_;intro q;cases q)) g,av,hd,q⟩
 refine bx (aS a _ ⟨⟨am,hH,rfl⟩,Je,?_,λ_=>⟨⟨De,zc (219,_) (lN▸fc (i:=1) rfl),Jf U3⟩,⟨Df,zc (231,_) (lN▸fc (i:=2) rfl),Jf U4⟩,⟨_,zc (59,tabObj #[rawInt posK.line,rawInt posK.col,.ref c]) (lN▸fc (i:=0) rfl),?_⟩⟩⟩ ?_)
 ·exact aK (by have:=aq.size;exact this) (aK mq (aK cT.size aa.size))
 ·obtain⟨bg,⟨⟨Dh,qQ,Di⟩,b1,cE,qt,bu⟩,hm,bb⟩:=cT.rc
  refine .inr ⟨c,P,bg,rfl,⟨bF,U5,U6,zc (c,bF) (lN▸fc (i:=3) rfl),U7,I9,U8⟩,⟨⟨Dh,aa.keep _ _ qQ,Di⟩,b1,cE,aa.keep _ _ qt,bu⟩,?_⟩
  exact g7.six λj q bv=>(hm j q bv).imp id λ⟨c,e,bF,cq,t,g,jB,lJ,nk⟩=>⟨c,e,bF,cq,t,aa.keep _ _ g,jB,lJ,nk⟩
 ·have cE:iN≠a:=by
   have ah:=aa.ah
   rintro rfl
   simp at ah
  exact⟨⟨iN,b4,_,k,t,cB,f1,f2,da,f4,dy,dS,t1,er,dj,u,fS,fT,_⟩,⟨cE,aK (aK aq.size (aK mq cT.size)) (aa.new _ (.tail _ (.tail _ (.head _))))⟩,aa.at_ _ (.tail _ (.head _)),aa.at_ _ (.tail _ (.tail _ (.head _))),aa.at_ _ (.head _),iO.at λp af=>aa.keep _ _ (sE p (.tail _ af)),iP.at λp af=>aa.keep _ _ (sE p (.tail _ af))⟩
noncomputable def EV:List (Str×NameKind):=(dQ (dh 7)).names
theorem Lw:dV (dh 7)=[jI,.Return (some (.Name "K" ⟨49,11,49,12⟩)) ((dV (dh 7)).getD 1 (.Pass ⟨0,0,0,0⟩)).pos]:=by kernel_rfl
theorem hs.low {lo Jg:Nat} {h:Heap} (l:Jg<=lo) (x:hs lo h a b5):hs Jg h a b5:=by
 obtain⟨p,n,jB,lJ,nk,Vd,tW⟩:=x
 exact⟨p,⟨n.1,aK l n.2⟩,jB,lJ,nk,Vd,tW⟩
section
variable {k:Nat}
theorem PD (C:aw Q U ai Z ak s K o) (kp:D.depth < recursionLimit) (al:s.scope.names=EV) (j2:s.code=.ref 63) (Ve:s.qual="cmp_to_key"++".<locals>.") (av:s.cells.lookup ("mycmp":Str)=some b5)
  (h:∀a aj,an o aj->hs o.heap.objs.size aj.heap a b5->wpAny (model B A) D (storeName s "K" (.ref a)) (λ_ y=>wpAny (model B A) D (execs aZ s) G M y) M aj):wpAny (model B A) D (execs (jI::aZ) s) G M o:=by
 refine m Oq ?_
 refine dA ?_
 rw[arm_exec_ClassDef]
 refine eL (ay (gK ?_))
 obtain⟨p,X⟩:=C.aI.base.cf
 obtain⟨af,g,d,aD,os⟩:=o
 refine ay ?_
 delta buildClassGuard
 refine m C.aI.blt ?_
 refine cb (r:=(some (.builtin "__build_class__"))) (looks_nsIn X (by kernel_rfl)) (bx ?_)
 refine ay (dZ ?_)
 have V:∀ao,bi B A D ⟨af,g,d,aD,os⟩ s (.Name "object" ao) (.type "object"):=λao=>bi.blt C.aI (a8 al (by kernel_rfl)) (by exact jk (by kernel_rfl))
 refine ay (kg (jO ?_))
 refine eh (by rfl) ?_
 refine(V _).ap _ _ _ (an.refl _) λaj aq=>?_
 refine kH ?_
 refine ay (gK (dZ ?_))
 have C3:qualnameIn s "K" "K"="cmp_to_key.<locals>.K":=by
  unfold qualnameIn
  refine m (a8 al (x:="K") (dj:=some .local) (by kernel_rfl)) (m Ve ?_)
  kernel_rfl
 refine m C3 ?_
 have jX:=(C.step aq).aI
 have eg:closureFor p2 s=pure [(("mycmp":Str),b5)]:=by
  have aN:=uX (aR:=p2) (s:=s) (λp af q=>by
   have e:p2.names.all (λp=>p.2 !=.free||p.1==("mycmp":Str))=true:=by kernel_rfl
   have:=d1.mp e p af
   rw[q] at this
   have:=hh.mp (by simpa using this:(p.1==("mycmp":Str))=true)
   refine m this (m av ?_);rfl)
  have a5:∀cells,ip cells p2.names []=[(("mycmp":Str),(cells.lookup ("mycmp":Str)).getD 0)]:=λcells=>by kernel_rfl
  refine m aN (m (a5 _) (m av ?_));rfl
 refine Qp kp jX.base jX.hF jX.blt j2 eg λa aB aE g6=>?_
 refine eL (ay (gK ?_))
 refine ay (wpAny_bindName (c5 (h a aB (aq.trans aE) (g6.low aq.size)) (λ_ y am=>bx am) λ_ _ q=>q))
theorem OB {G:Value->Shared->Prop} (R:b0 (k+1) D) (C:Base Q U o.heap)
  (aS:∀a b5 y,an o y->hs o.heap.objs.size y.heap a b5->y.heap.IsCell b5 (some (.ref f))->G (.ref a) y):codeAny (model B A) D (.call (.ref 64) ⟨[.ref f],[]⟩) (λr y=>∃v,r=.ok (.ret v)/\G v y) o:=by
 refine oi (Z:=[]) (ai:=[]) (K:={bO:=dl [("mycmp",.ref f)]}) EV ["mycmp"] R.room C (λz q=>(b9 q).elim) (λz q=>(b9 q).elim) (λp q=>(b9 q).elim) (λp q=>(b9 q).elim) hM (λp q=>(b9 q).elim)
  (λx bB e=>by cases e) (λx v e=>?_) C.rk rfl (by kernel_rfl) (by kernel_rfl) (by kernel_rfl) (λbs cd=>?_) rfl (by kernel_rfl) (by decide) λaj s al eg hJ bc=>?_
 ·have:=gq e
  simpa using this
 ·kernel_rfl
 ·have gs:s.cells.lookup ("mycmp":Str)=some (s.locals+1):=by refine m eg ?_;kernel_rfl
  refine m Lw ?_
  refine⟨PD bc (R.deeper s).room al hJ.1 hJ.2 gs λa aB aE g6=>?_⟩
  have aQ:=bc.step aE
  obtain⟨ab,n⟩:=aQ.ns
  have af:(s.scope.kind==.class||(s.scope.kind==.module&&s.locals !=s.globals))=false:=by refine m aQ.aI.fn ?_;rfl
  have aN:s.kindOf "K"=some .local:=a8 al (by kernel_rfl)
  refine wpAny_storeName_local aN n (λam mg dI=>?_) af
  have a7:es [] o {aB with heap:=am,toks:=aB.toks+1}:=pq bc.hN.tabs aQ.ex dI (.inl aQ.lo) (hI.gY n)
  refine dA (wpAny_Return_some (wpAny_Name (z1 aQ.aI.fn (.inl ⟨aN,_,mg,b3 rfl⟩) ?_) (by decide)))
  have lt:s.locals < aj.heap.objs.size:=bc.aI.cb.1
  have Vf:∀b w,b≠s.locals->aB.heap.get? b=some w->am.get? b=some w:=λb w aA e=>(dI.2 b aA).trans e
  obtain⟨Cj,Vg,Vh,Jh,Ji,_⟩:=n
  refine⟨_,rfl,aS a (s.locals+1) _ a7.ex ((g6.mono λb w av hd e=>Vf b w ?_ e).low bc.ex.size) ?_⟩
  ·rintro rfl
   rcases hd with hd|hd
   ·rw[Jh] at e;cases e;exact hd _ _ Ji
   ·exact ey _ (cz lt hd)
  ·rcases aQ.dP "mycmp" (.ref f) rfl with⟨h0,_⟩|⟨_,c,l,Jj⟩
   ·rw[a8 al (x:="mycmp") (dj:=some .cell) (by kernel_rfl)] at h0;cases h0
   ·rw[gs] at l;cases l
    exact Jj.sameBut dI (hI.xN ⟨Cj,Vg,Vh,Jh,Ji,‹_›⟩ Jj)
end
noncomputable def oB (a ns b4:Addr) (kS eE dM:Obj):Frag:=[(a,kS),(ns,eE),(b4,dM)]
section
variable {ns b4:Addr} {eE dM:Obj}
theorem Ql:(oB a ns b4 kS eE dM).lookup a=some kS:=pE
theorem Ms (h:ns≠a):(oB a ns b4 kS eE dM).lookup ns=some eE:=by
 unfold oB
 refine m g9 (m (iG.mpr h) ?_)
 exact pE
theorem Kh (h:b4≠a) (a5:b4≠ns):(oB a ns b4 kS eE dM).lookup b4=some dM:=by
 unfold oB
 refine m g9 (m (iG.mpr h) ?_)
 show List.lookup b4 ((ns,eE)::_)=_
 refine m g9 (m (iG.mpr a5) ?_)
 exact pE
theorem OW {h:Heap} (aF:h.get? a=some kS) (au:h.get? ns=some eE) (hd:h.get? b4=some dM):(oB a ns b4 kS eE dM).In h:=λb w e=>by
 have:=uO e
 simp only[oB,bP,b9,eH,Prod.mk.injEq] at this
 rcases this with⟨rfl,rfl⟩|⟨rfl,rfl⟩|⟨rfl,rfl⟩
 ·exact aF
 ·exact au
 ·exact hd
end
structure Ee (cX:Frag) (a b4 f1 f2:Addr):Prop where
 kK:∀name,plainGet cX a name=true
 po:plainOver cX a=true
 xD:findIn cX (.ref a) "__setattr__"=some (some (.builtin "object.__setattr__"))
 cl:(clsIn cX a).isSome=true
 de:findIn cX (.ref a) "obj"=some (some (.ref b4))
 ge:specialIn cX (.ref b4) "__get__"=some (some (.builtin "member_descriptor.__get__"))
 tp:takesIn cX (.ref b4)=some true
 gc:slotIn cX b4 a=some 0
 aD:takerIn cX a "obj"=some (some (.ref b4))
 ty:typeIn cX (.ref b4)=some (.type "member_descriptor")
 Pk:findIn cX (.ref a) "__init__"=some (some (.ref f1))
 lt:findIn cX (.ref a) "__lt__"=some (some (.ref f2))
 wP:makesIn cX a=true
theorem Mf {ns b4 gk:Addr} {k:Nat->Int} {t:Nat->Tok} {cB f1 f2 da f4 dy dS t1:Addr} {er dj:Int} {u fS fT t0:Tok} (aX:ns≠a) (a5:b4≠a) (cu:b4≠ns):
  Ee (oB a ns b4 (ll a ns gk t0 (t 21)) ⟨.type "dict",none,.dict (ow k t cB f1 f2 da f4 dy dS t1 b4 er dj fS fT) 3,#[]⟩ (pO a u)) a b4 f1 f2:=by
 generalize Dl:oB a ns b4 (ll a ns gk t0 (t 21)) ⟨.type "dict",none,.dict (ow k t cB f1 f2 da f4 dy dS t1 b4 er dj fS fT) 3,#[]⟩ (pO a u)=cX
 have wv:cX.lookup a=some (ll a ns gk t0 (t 21)):=by refine a9 Dl ?_;exact Ql
 have Vi:cX.lookup ns=some ⟨.type "dict",none,.dict (ow k t cB f1 f2 da f4 dy dS t1 b4 er dj fS fT) 3,#[]⟩:=by refine a9 Dl ?_;exact Ms aX
 have Jk:cX.lookup b4=some (pO a u):=by refine a9 Dl ?_;exact Kh a5 cu
 have own:∀name,ownIn cX name (.ref a)=rz (ow k t cB f1 f2 da f4 dy dS t1 b4 er dj fS fT).toList name:=λname=>by
  unfold ownIn
  simp only[wv,ll]
  unfold nsIn
  simp only[mV,Vi]
  rfl
 have find:∀name r,xW (ow k t cB f1 f2 da f4 dy dS t1 b4 er dj fS fT).toList name=some r->findIn cX (.ref a) name=some r:=λname r aV=>by
  unfold findIn
  simp only[wv,ll]
  show alongIn cX name [.ref a,.type "object"]=_
  unfold alongIn
  refine m (own _) ?_
  unfold xW at aV
  cases I:rz (ow k t cB f1 f2 da f4 dy dS t1 b4 er dj fS fT).toList name with
  |none=>rw[I] at aV;cases aV
  |some E=>
   rw[I] at aV
   cases E with
   |some v=>exact aV
   |none=>
    refine a9 aV ?_
    show alongIn cX name [.type "object"]=some (fastBuiltinOwn "object" name)
    generalize wp:fastBuiltinOwn "object" name=E
    have bV:ownIn cX name (.type "object")=some E:=by show some (fastBuiltinOwn "object" name)=_;exact m wp rfl
    unfold alongIn
    refine m bV ?_
    cases E with
    |none=>show alongIn cX name []=_;unfold alongIn;rfl
    |some v=>rfl
 have nb:clsIn cX a=some (mV a ns):=by unfold clsIn;refine m wv ?_;rfl
 have Dm:typeIn cX (.ref b4)=some (.type "member_descriptor"):=by show(cX.lookup b4).map _=_;refine m Jk ?_;rfl
 have Jl:findIn cX (.ref a) "obj"=some (some (.ref b4)):=find _ _ (by kernel_rfl)
 have Jm:takesIn cX (.ref b4)=some true:=by
  have e:specialIn cX (.ref b4) "__set__"=some (some (.builtin "member_descriptor.__set__")):=by
   unfold specialIn
   refine m Dm ?_
   show fastLookup "member_descriptor" "__set__"=_
   kernel_rfl
  unfold takesIn
  refine m e ?_;rfl
 have kz:(mV a ns).mro.contains (Value.ref a)=true:=by
  show((Value.ref a==Value.ref a)||_)=true
  rw[oD];rfl
 have Jn:typeIn cX (.ref a)=some (.type "type"):=by show(cX.lookup a).map _=_;refine m wv ?_;rfl
 refine⟨λname=>?_,?_,find _ _ (by kernel_rfl),by refine m nb ?_;rfl,Jl,?_,Jm,?_,?_,Dm,find _ _ (by kernel_rfl),find _ _ (by kernel_rfl),?_⟩
 ·unfold plainGet
  refine m (find "__getattribute__" (some (.builtin "object.__getattribute__")) (by kernel_rfl)) (m (find "__getattr__" none (by kernel_rfl)) ?_)
  kernel_rfl
 ·unfold plainOver
  refine m nb ?_
  show onlyObject [.ref a,.type "object"]=true
  kernel_rfl
 ·unfold specialIn
  refine m Dm ?_
  show fastLookup "member_descriptor" "__get__"=_
  kernel_rfl
 ·unfold slotIn recIn
  refine m Jk (m nb ?_)
  show(if("proto.slot"=="proto.slot"&&"proto.slot#set"=="proto.slot#set"&&!(mV a ns).mro.isEmpty&&(mV a ns).mro.contains (.ref a)&&decide ((0:Int).toNat < (mV a ns).slotNames.length))=true then some ((mV a ns).slotNames.length - 1 - (0:Int).toNat) else none)=some 0
  refine m kz ?_;rfl
 ·unfold takerIn
  refine m Jl ?_
  show(takesIn cX (.ref b4)).map _=_
  refine m Jm ?_;rfl
 ·unfold makesIn
  simp only[wv,ll]
  have bS:specialIn cX (.ref a) "__call__"=some (some (.builtin "type.__call__")):=by
   unfold specialIn
   refine m Jn ?_
   show fastLookup "type" "__call__"=_
   kernel_rfl
  have bV:instIn cX (.ref a) (.type "type")=some true:=by
   unfold instIn
   refine m Jn ?_
   show(fastBuiltinMro "type").map _=_
   kernel_rfl
  refine m kz (m bS (m bV ?_))
  rfl
theorem hs.facts {lo:Nat} {h:Heap} (c:hs lo h a b5):om λcX b4 f1 f2=>hx (cX.In h) (Ee cX a b4 f1 f2) (ls h (db 2) "cmp_to_key.<locals>.K.__init__" [] f1) (ls h (db 3) "cmp_to_key.<locals>.K.__lt__" [("mycmp",b5)] f2):=by
 obtain⟨p,n,n6,pQ,ud,iO,iP⟩:=c
 have a5:p.b4≠a:=λe=>by rw[e,n6] at ud;have q:=iw (λw=>w.map (·.cls)) ud;injection q with q;injection q with q;exact absurd q (by decide)
 have cu:p.b4≠p.ns:=λe=>by rw[e,pQ] at ud;have q:=iw (λw=>w.map (·.cls)) ud;injection q with q;injection q with q;exact absurd q (by decide)
 exact⟨_,p.b4,p.f1,p.f2,OW n6 pQ ud,Mf n.1 a5 cu,iO,iP⟩
section
variable {k:Nat}
theorem EN {R:Result->Shared->Prop} {st:Stmt} (names:List (Str×NameKind)) (cQ:List Str) (kp:D.depth < recursionLimit)
  (C:Base Q U o.heap) (ar:∀z∈Z,247<=z) (fX:∀E∈K.Y ai,E < o.heap.objs.size) (iK:∀p∈K.R,aO (K.Y ai) o.heap p.1 p.2) (a1:∀p∈K.L,p.2.at (K.Y ai) o.heap p.1) (hX:K.as.Nodup) (r2:∀a∈K.as,a∈Z)
  (jy:ls o.heap st bN dm f) (aW:(dQ st).names=names) (fh:(dQ st).kind=.function) (fi:(dQ st).isCoroutine=false) (kq:(dQ st).isGenerator=false) (gs:names.all (λx=>x.2 !=.cell)=true)
  (lF:∀cR bs cd,bindArgs (h9 st bN dm cR bs cd) ⟨J,[]⟩=pure (cQ.zip J)) (a0:J.length=cQ.length) (qv:(cQ.all λx=>names.lookup x==some .local)=true) (nU:cQ.Nodup)
  (rW:∀n c,dm.lookup n=some c->c < o.heap.objs.size/\c∉K.Y ai) (Bv:∀n d6 c,dm.lookup n=some c->dm.lookup d6=some c->n=d6) (lE:∀x,K.az x=none)
  (o2:∀x v,K.bO x=some v->(x,v)∈cQ.zip J∨(names.lookup x=some .free/\∃c,dm.lookup x=some c/\o.heap.IsCell c (some v)))
  (dE:∀(aj:Shared) (s:Env),s.scope.names=names->s.cells=dm->an o aj->aw Q U ai Z o s K aj->
   bl B A (D.deeper s) (dV st) s (sQ R)
    (ti B A (D.deeper s) s R) aj):
  codeAny (model B A) D (.call (.ref f) ⟨J,[]⟩) R o:=by
 subst aW
 obtain⟨bq,bF,bs,cR,aP,r3,cq,t,Br,vL,aS⟩:=jy
 have r4:(cQ.zip J).map (·.1)=cQ:=by rw[List.map_fst_zip];simp_all
 refine codeAny_call_function (fd:=h9 st bN dm cR bs (.ref bq)) kp aP rfl fi kq rfl ⟨bq,bF,cq,t,rfl,r3,vL,aS⟩ ?_
 refine m (lF _ _ _) ?_
 refine bx (wpAny_newFunctionEnv (λx I=>?_) (λx I=>?_) (λca nY j3=>⟨C.lim.fresh _ j3,codeAny_func ?_⟩) fh)
 ·have:=d1.mp gs x I
  exact λe=>by rw[e] at this;cases this
 ·have hm:x.1∈cQ:=by refine a9 r4 ?_;exact d9 I
  exact hh.mp (d1.mp qv _ hm)
 have keep:∀b w,o.heap.get? b=some w->ca.get? b=some w:=λb w e=>j3.extBut b w (kG (dL e)) (e1 _ e)
 have jZ:o.heap.objs.size<=ca.objs.size:=by refine m j3.1 (m (eN _ _) ?_);exact hw _
 have bU:o.heap.objs.size < ca.objs.size:=by refine m j3.1 (m (eN _ _) ?_);exact hb _
 generalize mj:({o with heap:=ca,toks:=o.toks+(cQ.zip J).length}:Shared)=aj
 have aq:an o aj:=by refine a9 mj ?_;exact an.of_keeps keep jZ
 have lI:aj.heap=ca:=by exact a9 mj rfl
 have BD:newEnv (h9 st bN dm cR bs (.ref bq)).scope o.heap.objs.size (h9 st bN dm cR bs (.ref bq)).globals (h9 st bN dm cR bs (.ref bq)).closure ((h9 st bN dm cR bs (.ref bq)).qualname++".<locals>.") (some f) (h9 st bN dm cR bs (.ref bq)).code none (h9 st bN dm cR bs (.ref bq)).builtins=newEnv (dQ st) o.heap.objs.size mainGlobals dm (bN++".<locals>.") (some f) (.ref bq) none builtinsNs:=rfl
 refine m BD ?_
 generalize jc:newEnv (dQ st) o.heap.objs.size mainGlobals dm (bN++".<locals>.") (some f) (.ref bq) none builtinsNs=s
 have bS:s.scope=dQ st:=by refine a9 jc ?_;rfl
 have bV:s.locals=o.heap.objs.size:=by refine a9 jc ?_;rfl
 have hp:s.globals=mainGlobals:=by refine a9 jc ?_;rfl
 have gR:s.cells=dm:=by refine a9 jc ?_;rfl
 have o5:s.builtins=builtinsNs:=by refine a9 jc ?_;rfl
 have dj:∀x,s.kindOf x=(dQ st).names.lookup x:=λx=>by unfold Env.kindOf;exact m bS rfl
 refine(dE aj s (by exact m bS rfl) gR aq ?_).out
 have BE:s.locals∉K.Y ai:=λq=>by
  rw[bV] at q
  exact ey _ (fX _ q)
 have dP:∀E v,K.bO E=some v->gV aj s E v:=λE v e=>by
  rcases o2 E v e with hm|⟨bb,c,av,Bw⟩
  ·have Dn:E∈cQ:=by refine a9 r4 ?_;exact d9 (f:=(·.1)) hm
   refine .inl ⟨by rw[dj];exact hh.mp (d1.mp qv _ Dn),_,by refine m bV (m lI ?_);exact nY,?_⟩
   have ah:((cQ.zip J).reverse.map (·.1)).Nodup:=by refine m List.map_reverse (m r4 ?_);exact(List.reverse_perm _).nodup_iff.mpr nU
   have ue:(E,v)∈(cQ.zip J).reverse:=List.mem_reverse.mpr hm
   generalize (cQ.zip J).reverse=l at ah ue
   induction l with
   |nil=>cases ue
   |cons p r ih=>
    rw[dG,fO] at ah
    refine m g9 ?_
    rcases bP.mp ue with rfl|ue
    ·simp
    ·have:(E==p.1)=false:=iG.mpr λe=>ah.1 (e▸d9 (f:=(·.1)) ue)
     refine m this ?_
     exact ih ah.2 ue
  ·exact .inr ⟨.inr (by rw[dj];exact bb),c,by refine m gR ?_;exact av,by refine m lI ?_;exact Bw.keeps keep⟩
 refine⟨C,aq.cw,ar,⟨C.ex aq,by refine m bS ?_;exact fh,hp,o5,λE fq e=>(by rw[lE] at e;cases e),λE q=>cz (fX E q) aq.size,by refine m gR ?_;exact Bv,λn c q=>?_,?_,BE⟩,dP,λp af=>(iK p af).ex C.tabs aq,λp af=>?_,hX,λb aA=>.inr (r2 b aA),⟨_,by refine m bV (m lI ?_);exact nY⟩,by refine m bV ?_;exact cG _,λn c q l=>?_⟩
 ·rw[gR] at q
  exact⟨cz (rW n c q).1 aq.size,(rW n c q).2⟩
 ·refine m bV (m lI ?_);exact bU
 ·exact Ent.ex C.tabs (nM (ar _ (r2 _ (d9 af)))) aq (a1 p af)
 ·rw[gR] at q
  rw[bV] at l
  exact absurd (rW n c q).1 (eZ.mpr (ew l))
end
noncomputable def Gb (i:Nat):List (Str×NameKind):=(dQ (db i)).names
section
variable {k:Nat}
theorem LR (R:b0 (k+1) D) {x f1:Addr} {lo:Nat} {n:Str} {aD:Tok} (C:Base Q U o.heap) (I:o.heap.get? x=some (b7 a bB [])) (hd:o.heap.get? bB=some emptyDict) (aA:ce (247<=x) (247<=bB) (x≠bB)) (g6:hs lo o.heap a b5)
  (bb:ls o.heap (db 2) "cmp_to_key.<locals>.K.__init__" [] f1):
  codeAny (model B A) D (.call (.ref f1) ⟨[.ref x,.str n aD],[]⟩) (λr y=>hx (r=.ok (.ret .none)) (es [x,bB] o y) (y.heap.get? x=some (b7 a bB [some (.str n aD)])) (y.heap.get? bB=some emptyDict)) o:=by
 refine EN (Z:=[x,bB]) (ai:=[]) (K:={L:=[(x,.own (· =b7 a bB [])),(bB,.own (· =emptyDict))],bO:=dl [("self",.ref x),("obj",.str n aD)]}) (Gb 2) ["self","obj"] R.room C (λz ar=>?_) (λE aJ=>?_) (λp q=>(b9 q).elim) (λp af=>?_) ?_ (λa aF=>aF)
  bb rfl (by kernel_rfl) (by kernel_rfl) (by kernel_rfl) (by kernel_rfl) (λcR bs cd=>by kernel_rfl) rfl (by kernel_rfl) (by decide) (λn c q=>by cases q) (λn d6 c q=>by cases q) (λx=>rfl) (λE v e=>.inl (gq e)) λaj s al av aq bc=>?_
 ·simp only[bP,b9,eH] at ar
  rcases ar with rfl|rfl
  ·exact aA.1
  ·exact aA.2
 ·have aJ:E∈[x,bB]++[]:=aJ
  simp only[iy,bP,b9,eH] at aJ
  rcases aJ with rfl|rfl
  ·exact dL I
  ·exact dL hd
 ·simp only[bP,b9,eH] at af
  rcases af with rfl|rfl
  ·exact⟨_,I,rfl,rfl⟩
  ·exact⟨_,hd,rfl,rfl⟩
 ·show [x,bB].Nodup
  simp[aA.3]
 refine mF ((bc.ev (x:="obj") rfl).ap aj _ _ (an.refl _) λaB aE=>(bc.ev (x:="self") rfl).ap aB _ _ aE λax a7=>?_)
 have bh:=bc.step (aE.trans a7)
 obtain⟨cX,b4,hV,gC,cf,ok,_,_⟩:=(g6.ex C.tabs (aq.trans (aE.trans a7))).facts
 obtain⟨_,Vj,rfl⟩:=bh.owned (a:=x) (p:=(· =b7 a bB [])) (.head _)
 obtain⟨_,Vk,rfl⟩:=bh.owned (a:=bB) (p:=(· =emptyDict)) (.tail _ (.head _))
 refine GW cf Vj Vk ok.xD ok.po ok.aD ok.ty ok.gc (by decide) λam dI bt=>?_
 have be:=bh.iD (bz:=[]) (bY:=[(bB,.own (· =emptyDict))]) (a:=x) (e:=.own (· =b7 a bB [])) (bt:=.own (· =b7 a bB [some (.str n aD)])) (aD:=ax.toks+1) rfl dI ⟨_,bt,E7 _ _ _,rfl⟩
 refine b8 ⟨rfl,be.ex,?_,?_⟩
 ·obtain⟨w,e,rfl⟩:=be.owned (a:=x) (p:=(· =b7 a bB [some (.str n aD)])) (.head _);exact e
 ·obtain⟨w,e,rfl⟩:=be.owned (a:=bB) (p:=(· =emptyDict)) (.tail _ (.head _));exact e
theorem ls.bind {h:Heap} {st:Stmt} (x:ls h st bN dm f) (self:Value):Looks ba h (bindSpecial (.ref f) self) (.ref f,[self]):=by
 obtain⟨bq,bF,bs,cR,e,_⟩:=x
 refine bind_fn (K:=[(f,{cls:=.type "function",data:=.func (h9 st bN dm cR bs (.ref bq))})]) (λb w q=>?_) self ?_
 ·have:=uO q
  simp only[bP,b9,eH,Prod.mk.injEq] at this
  obtain⟨rfl,rfl⟩:=this
  exact e
 ·show(List.lookup f [(f,_)]).map _=_
  refine m pE ?_
  rfl
theorem call_K (R:b0 (k+2) D) {lo:Nat} {n:Str} {aD:Tok} {G:Value->Shared->Prop} (C:Base Q U o.heap) (g6:hs lo o.heap a b5)
  (h:∀x bB y,an o y->o.heap.objs.size<=x->y.heap.get? x=some (b7 a bB [some (.str n aD)])->y.heap.get? bB=some emptyDict->G (.ref x) y):
  wpAny (model B A) D (call (.ref a) [.str n aD]) G M o:=by
 obtain⟨cX,b4,f1,f2,cf,ok,iO,iP⟩:=g6.facts
 refine hg ?_
 obtain⟨af,g,d,t,os⟩:=o
 refine make_core (makes_of cf ok.wP) (rN cf ok.Pk) (λself=>iO.bind self) (.inl rfl) ?_
 generalize lM:(⟨(af.push emptyDict).push (instObj a af.objs.size),g,d,t,os⟩:Shared)=aB
 have aE:an ⟨af,g,d,t,os⟩ aB:=by
  refine a9 lM ?_
  exact(an.push (o:=⟨af,g,d,t,os⟩) emptyDict).trans (an.push (o:=⟨af.push emptyDict,g,d,t,os⟩) (instObj a af.objs.size))
 have aQ:=C.ex aE
 have n2:247<=af.objs.size:=C.fj
 have I:aB.heap.get? (af.objs.size+1)=some (b7 a af.objs.size []):=by
  refine a9 lM ?_
  have:=dT (af.push emptyDict) (o:=instObj a af.objs.size) rfl
  rw[eN] at this
  exact this
 have hd:aB.heap.get? af.objs.size=some emptyDict:=by
  refine a9 lM ?_
  exact e1 _ (dT _ rfl)
 have c9:b0 (k+1) (D.under (.builtin "type.__call__" ⟨.ref a::[.str n aD],[]⟩)):=R.made
 refine h4 (LR (n:=n) (aD:=aD) c9 aQ I hd ⟨ht n2,n2,uL _⟩ (g6.ex C.tabs aE) (iO.mono λb w av _ e=>aE.keep b w (C.tabs.s1 e av) e)) λr y aV=>?_
 obtain⟨rfl,cw,aX,a5⟩:=aV
 refine⟨rfl,?_⟩
 have ex:an ⟨af,g,d,t,os⟩ y:=by
  obtain⟨bj,m8,e⟩:=aE.same
  obtain⟨o9,v0,bt⟩:=cw.same
  refine⟨⟨o9,v0,by exact m bt (m e rfl)⟩,λb w bu e=>cw.keep b w (λq=>?_) bu (aE.keep b w bu e),aK aE.size cw.size,λT=>cw.tabs (aE.tabs T)⟩
  have bU:b < af.objs.size:=dL e
  simp only[bP,b9,eH] at q
  rcases q with q|q
  ·rw[q] at bU;exact absurd bU (eZ.mpr (hw _))
  ·rw[q] at bU;exact ey _ bU
 exact h _ _ y ex (hw _) aX a5
end
section
variable {k:Nat}
noncomputable def ov (h:Heap) (a x:Addr) (n:Str):Prop:=cp λbB aD=>h.get? x=some (b7 a bB [some (.str n aD)])/\h.get? bB=some emptyDict
theorem ov.ex {x:Addr} {n:Str} (T:d2 o.heap) (X:an o y) (i:ov o.heap a x n):ov y.heap a x n:=
 let ⟨bB,aD,aX,a5⟩:=i
 ⟨bB,aD,X.keep _ _ (T.s1 aX (by intro q;cases q)) aX,X.keep _ _ (T.s1 a5 (by intro q;cases q)) a5⟩
noncomputable def wH (B:Program) (A:World) (k:Nat) (Q U:Str->Option Value) (ak:Shared) (f:Addr) (g:Str->Str->Int):Prop:=
 ∀(D:Around) (o:Shared) (n ab:Str) (t u:Tok),b0 k D->Base Q U o.heap->an ak o->PyData.strOk n=true->PyData.strOk ab=true->codeAny (model B A) D (.call (.ref f) ⟨[.str n t,.str ab u],[]⟩) (λr y=>∃dd,r=.ok (.ret (.int (g n ab) dd))/\an o y) o
theorem H.Gx {Y:List Addr} {x:Addr} {lo:Nat} {n:Str} (C:Base Q U o.heap) (V:bi B A D o s e (.ref x)) (g6:hs lo o.heap a b5) (i:ov o.heap a x n)
  (al:autoParam (eval (.Attribute e "obj" ao) s=(do let w <-eval e s;standAt ao.atName;let r <-holding [w] (getAttr w "obj" true);letTemporaryGo e w r;pure r)) h7._auto_1):H B A D Y o s (.Attribute e "obj" ao) (.str n):=.mk λaj G M aq h=>
 ry (V.ap aj _ _ aq λaB aE=>by
  have X:=aq.trans aE
  obtain⟨cX,b4,hV,gC,cf,ok,_,_⟩:=(g6.ex C.tabs X).facts
  obtain⟨bB,aD,I,hd⟩:=i.ex C.tabs X
  exact u3 cf I hd rfl rfl (ok.kK _) ok.cl ok.de ok.ge ok.tp ok.gc (h _ _ (aE.trans (an.tok _)) (.str _ _))) al
theorem OT (R:b0 (k+1) D) {x E f2:Addr} {lo:Nat} {n ab:Str} {g:Str->Str->Int} (C:Base Q U o.heap) (g6:hs lo o.heap a b5) (I:ov o.heap a x n) (aJ:ov o.heap a E ab)
  (bb:ls o.heap (db 3) "cmp_to_key.<locals>.K.__lt__" [("mycmp",b5)] f2) (av:o.heap.IsCell b5 (some (.ref f))) (jD:cp λw e5=>o.heap.get? f=some w/\w.data=.func e5) (F:wH B A k Q U o f g) (au:PyData.strOk n=true) (hm:PyData.strOk ab=true):
  codeAny (model B A) D (.call (.ref f2) ⟨[.ref x,.ref E],[]⟩) (λr y=>r=.ok (.ret (.bool (decide (g n ab < 0))))/\an o y) o:=by
 have one:∀{d6:Str} {c:Addr},List.lookup d6 [(("mycmp":Str),b5)]=some c->d6="mycmp"/\c=b5:=λ{d6 c} e=>by
  have:=uO (a2:=Addr) (l:=[]) (n:=0) (c:=0)
  rw[g9] at e
  cases aA:d6==("mycmp":Str) with
  |true=>rw[aA] at e;cases e;exact⟨hh.mp aA,rfl⟩
  |false=>rw[aA] at e;cases e
 refine EN (Z:=[]) (ai:=[]) (K:={bO:=dl [("self",.ref x),("other",.ref E),("mycmp",.ref f)]}) (Gb 3) ["self","other"] R.room C (λz ar=>(b9 ar).elim) (λE aJ=>(b9 aJ).elim) (λp q=>(b9 q).elim) (λp af=>(b9 af).elim) hM (λa aF=>aF)
  bb rfl (by kernel_rfl) (by kernel_rfl) (by kernel_rfl) (by kernel_rfl) (λcR bs cd=>by kernel_rfl) rfl (by kernel_rfl) (by decide) (λn c q=>?_) (λn d6 c q gD=>?_) (λx=>rfl) (λE v e=>?_) λaj s al eg aq bc=>?_
 ·obtain⟨_,rfl⟩:=one q
  exact⟨av.lt,λh=>(b9 h).elim⟩
 ·exact m ((one q).1) (m ((one gD).1) rfl)
 ·have:=gq e
  simp only[bP,b9,eH,Prod.mk.injEq] at this
  rcases this with⟨rfl,rfl⟩|⟨rfl,rfl⟩|⟨rfl,rfl⟩
  ·exact .inl (.head _)
  ·exact .inl (.tail _ (.head _))
  ·exact .inr ⟨by kernel_rfl,b5,rfl,av⟩
 have Jo:=g6.ex C.tabs aq
 have Vl:=I.ex C.tabs aq
 have Vm:=aJ.ex C.tabs aq
 refine hv bc (H.cmp bc.aI.base (gO:=.int (g n ab)) (ed:=.int 0) (H.E5 bc.aI (bc.ev (x:="mycmp") rfl) (bK.cons bc.aI.base (H.Gx bc.aI.base (bc.ev (x:="self") rfl) Jo Vl) (bK.cons bc.aI.base (H.Gx bc.aI.base (bc.ev (x:="other") rfl) Jo Vm) bK.nil)) ?_ (λy J dr rs=>?_) ⟨_,_,rfl,rfl⟩) H.int cH.lt) λv y a4 r=>?_
 ·obtain⟨w,e5,e,d⟩:=jD
  exact⟨w,e5,aq.keep _ _ (C.tabs.jl e λJ q=>by rw[d] at q;cases q) e,d⟩
 ·obtain⟨Xh,Xi,rfl,vG,qm⟩:=rs.two
  ·refine aO.fV vG λt=>?_
   refine aO.fV qm λu=>?_
   refine h4 (F (D.deeper s) y n ab t u (R.deeper s) (bc.aI.base.ex dr) (aq.trans dr) au hm) λr cs aV=>?_
   obtain⟨dd,rfl,gQ⟩:=aV
   exact⟨_,rfl,gQ,.int _ _⟩
 ·refine aO.GJ r ?_
  exact⟨rfl,a4.ex.ex⟩
end
theorem PC:∃K,ce (kas_sort 2=.ask 1 0 K) (K true=.ret #[1,0]) (K false=.ret #[0,1]):=⟨_,rfl,by kernel_rfl,by kernel_rfl⟩
noncomputable def kl {a2:Type} (lt:a2->a2->Bool):List a2->List a2
 |[v,u]=>if lt u v then [u,v] else [v,u]
 |l=>l
theorem an.own {aD:Nat} {ag:Array Value} {n:Nat} (T:d2 o.heap) (x:an o y) (aW:Heap.SameBut a y.heap am) (aF:o.heap.objs.size<=a) (a0:y.heap.get? a=some (seqObj "list" ag n)):an o {y with heap:=am,toks:=aD}:=
 (pq (Z:=[]) T x.cw aW (.inl aF) (λw e=>by rw[a0] at e;cases e;rfl)).ex
theorem LA {l sF:Addr} {a3:Nat} {G:Value->Shared->Prop} (T:d2 o.heap) (aA:247<=o.heap.objs.size) (a0:o.heap.get? l=some (seqObj "list" J.toArray a3)) (a5:J.length<=2) (ae:Addr->Value->Heap->Prop) (lt:Value->Value->Bool)
  (fz:∀{x v h am},(∀b w,w.cls≠.none->w.cls≠.type "list"->Heap.get? h b=some w->Heap.get? am b=some w)->ae x v h->ae x v am) (cK:∀x v h,ae x v h->Looks (model B A) h (typeOf (.ref x)) (.ref sF))
  (key:∀y v,an o y->v∈J->wpAny (model B A) D.in1.in1 (call (.ref sF) [v]) (λr cs=>∃x,ce (r=.ref x) (an y cs) (ae x v cs.heap)) (λ_ _=>False) y)
  (less:∀y x E v u,an o y->ae x v y.heap->ae E u y.heap->v∈J->u∈J->wpAny (model B A) D.in1.in1 (keyLt' oneType' (.ref x) (.ref E)) (λb cs=>b=lt v u/\an y cs) (λ_ _=>False) y)
  (h:∀O ab y,an o y->o.heap.objs.size<=O->y.heap.get? O=some (seqObj "list" (kl lt J).toArray ab)->G (.ref O) y):
  wpAny (model B A) D (call (.builtin "sorted") [.ref l] [("key",.ref sF)]) G M o:=by
 refine call_function_entry_kw kind_sorted plain_sorted entry_sorted (ksk_s1 _ _) ?_
 unfold Builtin.«sorted»
 refine ay (m:=checkCount "sorted" 1 1 _) (bx ?_)
 refine ay (vl l (.inl rfl) a0 rfl rfl (by refine m dR (m gz ?_);exact aK ‹_› (by decide)) λca y1 wm=>?_)
 refine ay (wpAny_newList ?_ (by refine m dR ?_;show J.toArray.size<=_;refine m gz ?_;exact aK ‹_› (by decide)))
 have n5:(ca.push (seqObj "list" J.toArray 0)).get? ca.objs.size=some (seqObj "list" J.toArray 0):=dT _ rfl
 show wpAny _ _ _ _ _ {o with heap:=ca.push (seqObj "list" J.toArray 0)}
 refine ay (dZ (wpAny_call_entry_kw slot_list_sort ⟨_,n5,rfl⟩ entry_list_sort ?_ (ksk_l1 _ _)))
 show wpAny (model B A) D.in1.in1 (Builtin.«list.sort» ⟨[.ref ca.objs.size],[("key",.ref sF)]⟩) _ _ _
 refine m (ksk_t1 _ _) ?_
 have aq:an o {o with heap:=ca.push (seqObj "list" J.toArray 0)}:=an.of_keeps (λb w e=>e1 _ (y1 b w e)) (by refine m (eN _ _) ?_;exact ht wm)
 generalize cW:ca.objs.size=O at *
 have ww:o.heap.objs.size<=O:=wm
 generalize ca.push (seqObj "list" J.toArray 0)=en at *
 unfold ksk_tree
 refine ay (listItems_at n5 rfl ?_)
 refine ay (listUpdate_at n5 rfl ?_ (by refine m gz (m qZ ?_);exact aK ‹_› (by decide)) (lU _))
 obtain⟨bS,uf⟩:∃bS,(en.update O (Obj.mapSeq λ_=>(#[]:Array Value))).get? O=some (seqObj "list" #[] bS):=⟨_,get?_update_seq n5 λ_=>#[]⟩
 have aE:an o {o with heap:=en.update O (Obj.mapSeq λ_=>(#[]:Array Value))}:=an.own (y:={o with heap:=en}) (aD:=o.toks) T aq (fw ..) ww n5
 generalize en.update O (Obj.mapSeq λ_=>(#[]:Array Value))=ef at *
 refine ay (seqEpoch_at uf rfl ?_)
 refine ay (wpAny_newTuple ?_ (by refine m qZ ?_;show J.toArray.toList.length<=_;refine m List.toList_toArray ?_;exact aK ‹_› (by decide)))
 refine ay (wpAny_newList ?_ (lU _))
 refine dZ ?_
 show wpAny (model B A) D.in1.in1 (ksk_rest O (.ref sF) false J.toArray bS (.ref (ef.push ⟨.type "tuple",none,.seq J.toArray.toList.toArray 0,#[]⟩).objs.size)) _ _ {o with heap:=(ef.push ⟨.type "tuple",none,.seq J.toArray.toList.toArray 0,#[]⟩).push (seqObj "list" #[] 0)}
 have wx:((ef.push ⟨.type "tuple",none,.seq J.toArray.toList.toArray 0,#[]⟩).push (seqObj "list" #[] 0)).get? O=some (seqObj "list" #[] bS):=e1 _ (e1 _ uf)
 have ug:((ef.push ⟨.type "tuple",none,.seq J.toArray.toList.toArray 0,#[]⟩).push (seqObj "list" #[] 0)).get? (ef.push ⟨.type "tuple",none,.seq J.toArray.toList.toArray 0,#[]⟩).objs.size=some (seqObj "list" #[] 0):=dT _ rfl
 have c0:an o {o with heap:=(ef.push ⟨.type "tuple",none,.seq J.toArray.toList.toArray 0,#[]⟩).push (seqObj "list" #[] 0)}:=
  (aE.trans (an.push (o:={o with heap:=ef}) ⟨.type "tuple",none,.seq J.toArray.toList.toArray 0,#[]⟩)).trans (an.push (o:={o with heap:=ef.push ⟨.type "tuple",none,.seq J.toArray.toList.toArray 0,#[]⟩}) (seqObj "list" #[] 0))
 have Jp:(ef.push ⟨.type "tuple",none,.seq J.toArray.toList.toArray 0,#[]⟩).objs.size≠O:=by
  have q:=dL uf
  refine m (eN _ _) ?_;exact Nat.ne_of_gt (is q)
 have zd:o.heap.objs.size<=(ef.push ⟨.type "tuple",none,.seq J.toArray.toList.toArray 0,#[]⟩).objs.size:=by
  have q:o.heap.objs.size<=ef.objs.size:=aE.size
  refine m (eN _ _) ?_;exact ht q
 generalize (ef.push ⟨.type "tuple",none,.seq J.toArray.toList.toArray 0,#[]⟩).objs.size=jH at *
 generalize (ef.push ⟨.type "tuple",none,.seq J.toArray.toList.toArray 0,#[]⟩).push (seqObj "list" #[] 0)=jf at *
 generalize Do:({o with heap:=jf}:Shared)=b2 at *
 have wx:b2.heap.get? O=some (seqObj "list" #[] bS):=by refine a9 Do ?_;exact wx
 have ug:b2.heap.get? jH=some (seqObj "list" #[] 0):=by refine a9 Do ?_;exact ug
 clear Do aq aE uf n5 y1 wm
 have gB:∀b:Addr,o.heap.objs.size<=b->tab b=false:=λb oY=>nM (aK aA oY)
 have step:∀(y:Shared) (qR:Array Value) (e:Nat) (v:Value) (fJ:ForInStep PUnit->Shared->Prop),an o y->y.heap.get? O=some (seqObj "list" #[] bS)->y.heap.get? jH=some (seqObj "list" qR e)->qR.size<=1->v∈J->
   (∀x cs bt,an o cs->cs.heap.get? O=some (seqObj "list" #[] bS)->cs.heap.get? jH=some (seqObj "list" (qR.push (.ref x)) bt)->ae x v cs.heap->(∀E u,ae E u y.heap->ae E u cs.heap)->fJ (.yield ⟨⟩) cs)->
   wpAny (model B A) D.in1.in1 (do
    match <-(call (.ref sF) [v]).attempt with
    |.ok k=>do Builtin.List.listUpdate (.ref jH) (·.push k);pure (.yield ⟨⟩)
    |.error e=>do
     rule "list.sort.key-raised"
     let made <-Builtin.List.listItems (.ref jH)
     Builtin.List.listUpdate (.ref jH) λ_=>#[]
     letGo made.toList.reverse [e]
     Builtin.List.listUpdate (.ref O) λ_=>J.toArray;throw e;pure (.yield ⟨⟩)) fJ M y:=λy qR e v fJ dr nd qQ ar bn aS=>by
  have wy:=dr.tabs T
  refine ay (rl (c5 (key y v dr bn) (λr cs aV=>?_) λ_ _ q=>q.elim))
  obtain⟨x,rfl,gQ,aH⟩:=aV
  have Vn:=gQ.keep _ _ (gB O ww) nd
  have ze:=gQ.keep _ _ (gB jH zd) qQ
  have uh:=fw cs.heap jH (Obj.mapSeq (·.push (.ref x)))
  refine ay (listUpdate_at ze rfl (bx ?_) (by refine m qZ ?_;exact aK ‹_› (by decide)) (by refine m (Array.size_push _) (m qZ ?_);exact ki ‹_› (by decide)))
  have keep:∀b w,w.cls≠.none->w.cls≠.type "list"->cs.heap.get? b=some w->(cs.heap.update jH (Obj.mapSeq (·.push (.ref x)))).get? b=some w:=λb w _ av e=>(uh.2 b (λq=>by rw[q,ze] at e;cases e;exact av rfl)).trans e
  refine aS x _ _ (an.own T (dr.trans gQ) uh zd ze) ((uh.2 O Jp.symm).trans Vn) (get?_update_seq ze (·.push (.ref x))) (fz keep aH) λE u i=>fz keep (fz (λb w av _ e=>gQ.keep b w (wy.s1 e av) e) i)
 have fin:∀(y:Shared) (st:SortSt) (qR:Array Value) (e:Nat) (out:List Value),an o y->y.heap.get? O=some (seqObj "list" #[] bS)->y.heap.get? jH=some (seqObj "list" qR e)->qR.size<=2->(arrOf st).map (·.2)=out.toArray->out.length<=2->failedOf st=none->out=kl lt J->
   wpAny (model B A) D.in1.in1 (ksk_tail O false bS (.ref jH) st) (λfin cs=>∃v,fin=.done (.ret v)/\wpAny (model B A) D.in1 (ret (.ref O)) (λfin y=>∃v,fin=.done (.ret v)/\G v y) M cs) M y:=λy st qR e out dr nd qQ ar aP yK bb Cy=>by
  subst Cy
  unfold ksk_tail
  have uh:=fw y.heap jH (Obj.mapSeq λ_=>(#[]:Array Value))
  refine ay (listUpdate_at qQ rfl ?_ (by refine m qZ ?_;exact aK ‹_› (by decide)) (lU _))
  have rT:an o {y with heap:=y.heap.update jH (Obj.mapSeq λ_=>(#[]:Array Value))}:=an.own (y:=y) (aD:=y.toks) T dr uh zd qQ
  have zf:(y.heap.update jH (Obj.mapSeq λ_=>(#[]:Array Value))).get? O=some (seqObj "list" #[] bS):=(uh.2 O Jp.symm).trans nd
  refine ay (wpAny_letGo ?_)
  refine ay (seqEpoch_at zf rfl ?_)
  dsimp only
  refine m aP ?_
  refine ay (listUpdate_at zf rfl ?_ (lU _) (by show(if false=true then _ else(kl lt J).toArray).size<=_;refine m (bI l6) (m gz (m qZ ?_));exact aK ‹_› (by decide)))
  refine m bb ?_
  simp only[bne_self_eq_false,fx,fd]
  have Vo:=fw (y.heap.update jH (Obj.mapSeq λ_=>(#[]:Array Value))) O (Obj.mapSeq λ_=>(kl lt J).toArray)
  refine bx ⟨_,rfl,bx ⟨_,rfl,h O _ _ (an.own (y:={y with heap:=y.heap.update jH (Obj.mapSeq λ_=>(#[]:Array Value))}) (aD:=y.toks) T rT Vo ww zf) ww (get?_update_seq zf λ_=>(kl lt J).toArray)⟩⟩
 unfold ksk_rest
 refine ay (nJ ?_)
 refine a9 Array.forIn_toList (m List.toList_toArray ?_)
 rcases J with _|⟨v,_|⟨u,_|⟨z,r⟩⟩⟩
 ·refine ay (mI ?_)
  refine ay (listItems_at ug rfl ?_)
  unfold ksk_end
  refine eh (by rfl) ?_
  refine uQ (by decide) ?_
  refine eL (ay ?_)
  have Vp:(#[]:Array Value).zip (#[]:Array Value)=#[]:=by simp
  refine m (b3 (by decide)) (m (StateT.run_pure _ _) ?_)
  dsimp only
  refine m Vp (m (bI l6) ?_)
  exact bx (fin b2 _ #[] 0 [] c0 wx ug (by decide) (by show Array.map (λx:Keyed=>x.2) #[]=#[];simp) (by decide) rfl rfl)
 ·refine ay (gx (step b2 #[] 0 v _ c0 wx ug (by decide) (.head _) λx cm o5 fW Dp zg wz ml=>mI ?_))
  refine ay (listItems_at zg rfl ?_)
  unfold ksk_end
  refine eh (by rfl) ?_
  refine uQ (show(1:Nat) < 2 by decide) ?_
  refine eL (ay ?_)
  have wA:(#[].push (Value.ref x)).zip #[v]=#[(Value.ref x,v)]:=Array.toList_inj.mp (by refine m (show(#[v]:Array Value)=[v].toArray from rfl) (m (ksk_zip _ _) ?_);rfl)
  have mh:(#[v]:Array Value).size < 2:=show(1:Nat) < 2 by decide
  refine m (b3 mh) (m (StateT.run_pure _ _) ?_)
  dsimp only
  refine m wA (m (bI l6) ?_)
  exact bx (fin cm _ _ o5 [v] fW Dp zg (show(1:Nat)<=2 by decide) (by show Array.map (λx:Keyed=>x.2) #[(Value.ref x,v)]=#[v];simp) (show(1:Nat)<=2 by decide) rfl rfl)
 ·refine ay (gx (step b2 #[] 0 v _ c0 wx ug (by decide) (.head _) λx cm o5 fW Dp zg wz ml=>gx (step cm _ o5 u _ fW Dp zg (show(1:Nat)<=1 by decide) (.tail _ (.head _)) λE ds Vq eu Vr Jq Jr nj=>mI ?_)))
  refine ay (listItems_at Jq rfl ?_)
  unfold ksk_end
  refine eh (by rfl) ?_
  refine lV (show ¬(2:Nat) < 2 by decide) ?_
  have wz:=nj _ _ wz
  have aN:wpAny (model B A) D.in1.in1 (keyKind' [Value.ref x,Value.ref E].toArray) (λJs y=>Js=oneType'/\ds=y) M ds:=kas_kind (T:=.ref sF) (show(2:Nat)<=2 by decide) (λq aS=>by
   simp only[bP,b9,eH] at aS
   rcases aS with rfl|rfl
   ·exact cK _ _ _ wz
   ·exact cK _ _ _ Jr) rfl (oD _) ⟨rfl,rfl⟩
  refine ay (c5 aN (λJs y q=>?_) λ_ _ q=>q)
  obtain⟨rfl,rfl⟩:=q
  have ij:¬(#[v,u]:Array Value).size < 2:=show ¬(2:Nat) < 2 by decide
  refine m (bI ij) (m (bI l6) ?_)
  obtain⟨K,B1,B7,Vs⟩:=PC
  have ko:((#[].push (Value.ref x)).push (Value.ref E)).zip #[v,u]=#[(Value.ref x,v),(Value.ref E,u)]:=Array.toList_inj.mp (by refine m (show(#[v,u]:Array Value)=[v,u].toArray from rfl) (m (ksk_zip _ _) ?_);rfl)
  have Vt:SortSt.mk' oneType' #[(Value.ref x,v),(Value.ref E,u)] #[] 7 none=kas_st oneType' #[(Value.ref x,v),(Value.ref E,u)] (List.toArray (List.range 2)):=by
   have e:=kas_range #[(Value.ref x,v),(Value.ref E,u)]
   show _=SortSt.mk' oneType' ((List.toArray (List.range (#[(Value.ref x,v),(Value.ref E,u)]:Array Keyed).size)).map (kas_item #[(Value.ref x,v),(Value.ref E,u)])) #[] 7 none
   exact m e rfl
  dsimp only
  refine m ko (m Vt ?_)
  have run:=kas_runs (prog:=B) (w:=A) (A:=D.in1.in1) (κ:=oneType') (it:=#[(Value.ref x,v),(Value.ref E,u)]) (E:=M) (n:=2) (Q:=λ_ ph y=>∃p:Array Nat,hx (arrOf ph=p.map (kas_item #[(Value.ref x,v),(Value.ref E,u)])) (failedOf ph=none) (p=if lt u v then #[1,0] else #[0,1]) (an ds y))
   (G:=λp y=>(p=if lt u v then #[1,0] else #[0,1])/\an ds y) (s:=ds) (by decide) (by decide) (λe4 ph y r1 CV Vu Jt=>⟨e4,CV,Vu,Jt.1,Jt.2⟩) (by
    refine m B1 ?_
    show wpAny (model B A) D.in1.in1 (keyLt' oneType' (.ref E) (.ref x)) _ (λ_ _=>False) ds
    refine c5 (less ds E x u v eu Jr wz (.tail _ (.head _)) (.head _)) (λb y q=>?_) λ_ _ q=>q
    obtain⟨rfl,gQ⟩:=q
    cases aA:lt u v with
    |true=>refine m B7 ?_;exact⟨rfl,gQ⟩
    |false=>refine m Vs ?_;exact⟨rfl,gQ⟩)
  refine ay (c5 run (λr y q=>?_) λ_ _ q=>q)
  obtain⟨⟨⟩,ph⟩:=r
  obtain⟨p,aF,bb,rfl,gQ⟩:=q
  have aW:(arrOf ph).map (·.2)=(kl lt [v,u]).toArray:=by
   have aF:arrOf ph=(if lt u v then #[1,0] else #[0,1]).map (kas_item #[(Value.ref x,v),(Value.ref E,u)]):=aF
   refine m aF ?_
   show _=(if lt u v=true then [u,v] else [v,u]).toArray
   cases lt u v<;>simp[kas_item]
  have ar:(kl lt [v,u]).length<=2:=by
   show(if lt u v=true then [u,v] else [v,u]).length<=2
   cases lt u v<;>simp
  exact fin y ph _ Vq _ (eu.trans gQ) (gQ.keep _ _ (gB O ww) Vr) (gQ.keep _ _ (gB jH zd) Jq) (show(2:Nat)<=2 by decide) aW ar bb rfl
 ·exact absurd a5 (by simp only[hE];simp)
section
variable {k:Nat}
theorem Np (R:b0 (k+2) D) {x E:Addr} {lo:Nat} {n ab:Str} {g:Str->Str->Int} (C:Base Q U o.heap) (g6:hs lo o.heap a b5) (I:ov o.heap a x n) (aJ:ov o.heap a E ab)
  (av:o.heap.IsCell b5 (some (.ref f))) (jD:cp λw e5=>o.heap.get? f=some w/\w.data=.func e5) (F:wH B A k Q U o f g) (au:PyData.strOk n=true) (hm:PyData.strOk ab=true):
  wpAny (model B A) D (keyLt' oneType' (.ref x) (.ref E)) (λb y=>b=decide (g n ab < 0)/\an o y) (λ_ _=>False) o:=by
 obtain⟨cX,b4,f1,f2,cf,ok,_,iP⟩:=g6.facts
 obtain⟨bB,aD,Vv,ud⟩:=id I
 refine m (keyLt'_oneType _ _) (m (oneLt'_eq _ _ _) ?_)
 simp only[fv]
 refine ay (wpAny_cRoomFor (by have:=R.units;exact Nat.lt_of_add_right_lt this) ?_)
 unfold callSpecialIfBound? bindSpecialIfBound?
 have r8:Looks (model B A) o.heap (typeOf (.ref x)) (.ref a):=(lW Vv).andThen .now
 refine ay (dZ (ay (ay (ay (r8.here ((rN cf ok.lt).here ?_))))))
 have fin:wpAny (model B A) D (call (.ref f2) ([.ref x]++[.ref E]) >>=λv=>pure (some v)) (λr y=>r=some (.bool (decide (g n ab < 0)))/\an o y) (λ_ _=>False) o:=
  ay (hg (h4 (OT (R.le (hw _)) C g6 I aJ iP av jD F au hm) λr y aV=>by obtain⟨rfl,gQ⟩:=aV;exact bx ⟨rfl,gQ⟩))
 refine ay (vh (wpAny_ite ?_))
 split
 ·refine ay ((iP.bind _).here (bx ?_))
  exact c5 fin (λr y ⟨e,gQ⟩=>by subst e;exact iq ⟨rfl,gQ⟩) λ_ _ q=>q
 ·refine wpAny_tryCatch (ay ((iP.bind _).here (bx ?_)))
  exact c5 fin (λr y ⟨e,gQ⟩=>by subst e;exact iq ⟨rfl,gQ⟩) λ_ _ q=>q
noncomputable def Fh:Value->Str
 |.str n _=>n
 |_=>""
theorem EU:∀{J:List Value} {ag:List Str},StrsAre J ag->∀v∈J,cp λn t=>v=.str n t
 |_,_,.nil,_,h=>nomatch h
 |_,_,.cons n t r,v,h=>by
  rcases bP.mp h with rfl|h
  ·exact⟨_,_,rfl⟩
  ·exact EU r v h
theorem zI:∀{J:List Value} {ag:List Str},StrsAre J ag->∀{n t},Value.str n t∈J->n∈ag
 |_,_,.nil,_,_,h=>nomatch h
 |_,_,.cons n t r,_,_,h=>by
  rcases bP.mp h with e|h
  ·cases e;exact .head _
  ·exact .tail _ (zI r h)
theorem Kj {Dq:Value->Value->Bool} {iM:Str->Str->Bool} (a0:∀n t ab u,Dq (.str n t) (.str ab u)=iM n ab) {ag:List Str} (h:StrsAre J ag):StrsAre (kl Dq J) (kl iM ag):=by
 cases h with
 |nil=>exact .nil
 |cons n t h=>cases h with
  |nil=>exact .cons n t .nil
  |cons d6 dd h=>cases h with
   |nil=>
    show StrsAre (if Dq (.str d6 dd) (.str n t)=true then _ else _) (if iM d6 n=true then _ else _)
    refine m (a0 _ _ _ _) ?_
    split
    ·exact .cons d6 dd (.cons n t .nil)
    ·exact .cons n t (.cons d6 dd .nil)
   |cons a b h=>exact .cons n t (.cons d6 dd (.cons a b h))
theorem P6 (R:b0 (k+4) D) {l:Addr} {lo a3:Nat} {ag:List Str} {g:Str->Str->Int} {G:Value->Shared->Prop} (C:Base Q U o.heap) (g6:hs lo o.heap a b5) (av:o.heap.IsCell b5 (some (.ref f))) (jD:cp λw e5=>o.heap.get? f=some w/\w.data=.func e5) (F:wH B A k Q U o f g)
  (a0:o.heap.get? l=some (seqObj "list" J.toArray a3)) (e7:StrsAre J ag) (a5:ag.length<=2) (eo:∀x∈ag,PyData.strOk x=true)
  (h:∀O ab y kV,an o y->o.heap.objs.size<=O->y.heap.get? O=some (seqObj "list" kV.toArray ab)->StrsAre kV (kl (λu v=>decide (g u v < 0)) ag)->G (.ref O) y):
  wpAny (model B A) D (call (.builtin "sorted") [.ref l] [("key",.ref a)]) G M o:=by
 have cI:=(StrsAre.get e7).1
 have str:=EU e7
 refine LA (a3:=a3) (J:=J) C.tabs C.fj a0 (by simp_all) (λx v am=>cp λn t=>v=.str n t/\ov am a x n) (λv u=>decide (g (Fh v) (Fh u) < 0)) (λ{x v ca am} wB ⟨n,t,e,i⟩=>⟨n,t,e,?_⟩) (λx v am ⟨n,t,e,i⟩=>?_) (λy v dr bn=>?_) (λy x E v u dr gu wC bn dn=>?_) λO ab y dr cW nd=>?_
 ·obtain⟨bB,aD,hV,gC⟩:=i
  exact⟨bB,aD,wB _ _ (by intro q;cases q) (by intro q;cases q) hV,wB _ _ (by intro q;cases q) (by intro q;injection q with q;exact absurd q (by decide)) gC⟩
 ·obtain⟨bB,aD,hV,gC⟩:=i
  exact(lW hV).andThen .now
 ·obtain⟨n,t,rfl⟩:=str v bn
  exact call_K ((R.in1:b0 (k+3) D.in1).in1) (C.ex dr) (g6.ex C.tabs dr) λx bB cs gQ I hV gC=>⟨x,rfl,gQ,n,t,rfl,bB,t,hV,gC⟩
 ·obtain⟨n,t,rfl,gu⟩:=gu
  obtain⟨ab,nT,rfl,wC⟩:=wC
  obtain⟨bF,wu,mT⟩:=av
  obtain⟨of,e5,BC,wX⟩:=jD
  have wq:∀b w,(∀J,w.data≠.fields J)->o.heap.get? b=some w->y.heap.get? b=some w:=λb w hd e=>dr.keep b w (C.tabs.jl e hd) e
  exact Np (((R.in1:b0 (k+3) D.in1).in1)) (C.ex dr) (g6.ex C.tabs dr) gu wC ⟨bF,wq _ _ (λJ q=>by rw[mT] at q;cases q) wu,mT⟩ ⟨of,e5,wq _ _ (λJ q=>by rw[wX] at q;cases q) BC,wX⟩ (λD aB n ab t u vY aQ aE=>F D aB n ab t u vY aQ (dr.trans aE)) (eo _ (zI e7 bn)) (eo _ (zI e7 dn))
 ·refine h O ab y _ dr cW nd ?_
  clear h
  exact Kj (λn t ab u=>rfl) e7
end
noncomputable def ro:List (Str×NameKind):=[("texts",.local),("pairs",.cell),("rows",.local),("known",.cell),("text",.cell),("wider",.local),("ladder",.local),("new",.local),("sorted",.globalImplicit),("cmp_to_key",.globalImplicit),("len",.globalImplicit)]
noncomputable def NA:List Stmt:=dV ((dV (dh 23)).getD 2 (.Pass ⟨0,0,0,0⟩))
noncomputable def Od:{e:Expr // om λa b c d=>om λf k g p=>cp λq r=>NA.getD 1 (.Pass ⟨0,0,0,0⟩)=.Assign a (.BinOp b c (.Call d f [⟨k,e,g⟩] p) q) r}:=⟨_,_,_,_,_,_,_,_,_,_,_,rfl⟩
noncomputable def z7:Expr:=Od.1
noncomputable def pJ (P:fr) (n ab:Str):Int:=if(n,ab)∈P then -1 else 1
theorem K4 (P:fr) (n ab:Str):((P.map iE).any λE=>PyData.eqv E (.list [.str n,.str ab]))=decide ((n,ab)∈P):=by
 rewrite[nB,List.any_eq_true];refine m h8 ?_
 have e:∀p:Str×Str,PyData.eqv (iE p) (.list [.str n,.str ab])=(decide (p.1=n)&&decide (p.2=ab)):=λp=>by
  rw[nB]
  simp[iE,PyData.eqv,PyData.eqvAll]
 constructor
 ·rintro⟨E,aJ,q⟩
  obtain⟨p,af,rfl⟩:=bZ.mp aJ
  rw[e,iR,h8,h8] at q
  obtain⟨hR,hS⟩:=p
  obtain⟨rfl,rfl⟩:=q
  exact af
 ·intro h
  refine⟨iE (n,ab),d9 h,?_⟩
  rw[e];simp
section
variable {k:Nat} {Y:List Addr} {az:Str->Option PyData}
theorem Ej {p:Str×Str} (h:PyData.strOk p.1=true/\PyData.strOk p.2=true):low (iE p):=ot λx I=>by
 simp only[bP,b9,eH] at I
 rcases I with rfl|rfl
 ·exact⟨gp h.1,pF rfl⟩
 ·exact⟨gp h.2,pF rfl⟩
theorem M1 (R:b0 (k+2) D) (aa:cJ Q U Y o s az) (al:s.scope.names=ro) (Dr:s.cells=cellsFrom (s.locals+1) ro []) (j2:s.code=.ref 233) (aS:s.qual="_law_rows"++".<locals>.") (hd:az "pairs"=some (fb P)) (eo:∀p∈P,PyData.strOk p.1=true/\PyData.strOk p.2=true) {G:Value->Shared->Prop}
  (h:∀a b5 f y,an o y->hs 0 y.heap a b5->y.heap.IsCell b5 (some (.ref f))->(cp λw e5=>y.heap.get? f=some w/\w.data=.func e5)->wH B A (k+1) Q U y f (pJ P)->G (.ref a) y):
  wpAny (model B A) D (eval z7 s) G M o:=by
 refine l3 (x:="cmp_to_key") rfl ((bi.glob aa (a8 al rfl) (by exact iT (by kernel_rfl)):bi B A D o s (.Name "cmp_to_key" _) (.ref 64)).ap o _ _ (an.refl _) λaB yA=>?_)
 have cV:=aa.ex yA
 obtain⟨_,bs,Ju,Xj,Xk,Xl,Vw,Vx,_⟩:=cV.base.rk
 refine ra (o:=Ju) (fd:=fdOf (dh 7) "cmp_to_key" .none bs (.ref (64 - 1))) ?_
 obtain⟨n1,BN,BO⟩:=cV.dP "pairs" (fb P) hd
 have Vy:∃c,s.cells.lookup (Str.ofString "pairs")=some c/\aB.heap.IsCell c (some n1):=by
  rcases BN with⟨vW,_⟩|⟨_,c,l,gs⟩
  ·rw[a8 al (show ro.lookup (Str.ofString "pairs")=some NameKind.cell from rfl)] at vW;cases vW
  ·exact⟨c,l,gs⟩
 obtain⟨BP,lL,gs⟩:=Vy
 have BQ:BP=s.locals+1:=by
  rw[Dr] at lL
  have e:List.lookup (Str.ofString "pairs") (cellsFrom (s.locals+1) ro [])=some (s.locals+1):=rfl
  rw[e] at lL;cases lL;rfl
 subst BQ
 obtain⟨bg,nW,bU⟩:=cV.base.tabs.q7
 obtain⟨Vz,VA,VB⟩:=cV.base.st (233,m5 231) (.tail _ (.tail _ (.tail _ (.tail _ (.head _)))))
 have eg:=uX (s:=s) (aR:={kind:=.function,names:=[("one",.local),("two",.local),("pairs",.free)],isGenerator:=false,isCoroutine:=false}) (λp af q=>by
  revert p;refine AllP.mem ?_;refine⟨?_,?_,?_,trivial⟩<;>intro q
  ·cases q
  ·cases q
  ·show(s.cells.lookup (Str.ofString "pairs")).isSome=true
   refine m lL ?_;rfl)
 have BR:ip s.cells [((Str.ofString "one"),NameKind.local),((Str.ofString "two"),NameKind.local),((Str.ofString "pairs"),NameKind.free)] []=[(Str.ofString "pairs",s.locals+1)]:=by
  show [(Str.ofString "pairs",(s.cells.lookup (Str.ofString "pairs")).getD 0)]=_
  refine m lL ?_;rfl
 refine kg ?_
 refine jO ?_
 refine DF cV.base (.inr rfl) aa.hF (eg.trans (by exact m BR rfl)) j2 ⟨Vz,VA,VB⟩ (by decide) nW bU (by refine m aS ?_;decide+kernel) ⟨λe=>absurd e (by decide),λ_=>⟨rfl,rfl⟩⟩ ?_ λf bq R1 cR ax a7 o7 jD BS=>?_
 ·rfl
 have jW:=yA.trans a7
 have eS:=aa.ex jW
 refine kH ?_
 refine⟨⟨a7.keep 64 Ju rfl Vw,Vx⟩,?_⟩
 have vX:tab f=false:=eS.base.tabs.jl jD λJ q=>by cases q
 refine hg (h4 (OB (k:=k+1) (f:=f) (G:=λv b2=>cp λa b5=>hx (v=.ref a) (an ax b2) (hs ax.heap.objs.size b2.heap a b5) (b2.heap.IsCell b5 (some (.ref f)))) R eS.base λa b5 b2 c0 g6 av=>⟨a,b5,rfl,c0,g6,av⟩) λr b2 aV=>?_)
 obtain⟨v,rfl,a,b5,rfl,c0,g6,av⟩:=aV
 have Jv:=jW.trans c0
 have g5:=aa.ex Jv
 have Jw:=c0.keep f _ vX jD
 have VC:=BS.ex eS.base.tabs c0
 refine h a b5 f b2 Jv (g6.low (lU _)) av ⟨_,_,Jw,rfl⟩ ?_
 intro HI ds n ab t u vY b6 eu VD VE
 have Jx:ds.heap.IsCell (s.locals+1) (some n1):=by
  obtain⟨bF,g,hd⟩:=gs
  have BW:tab (s.locals+1)=false:=cV.base.tabs.jl g λJ z=>by rw[hd] at z;cases z
  exact⟨bF,((a7.trans c0).trans eu).keep _ _ BW g,hd⟩
 have BX:aO Y ds.heap n1 (fb P):=(BO.ex cV.base.tabs (a7.trans c0)).ex g5.base.tabs eu
 have key:codeAny (model B A) HI (.call (.ref f) ⟨[.str n t,.str ab u],[]⟩) (λr y=>∃v,ce (r=.ok (.ret v)) (an ds y) (aO Y y.heap v (.int (pJ P n ab)))) ds:=by
  refine Gu (az:=dl [("one",.str n),("two",.str ab),("pairs",fb P)]) _ [("one",.str n t),("two",.str ab u)] vY b6 (λE aJ=>cz (g5.eb E aJ) eu.size) (eu.keep f _ vX Jw) (VC.ex g5.base.tabs eu) rfl rfl rfl rfl rfl (by decide) (λx I=>?_) (λx dW e=>?_) (λn c e=>?_) (λn d6 c e bt=>?_) λfK R8 R9 hr BY=>?_
  ·simp only[bP,b9,eH] at I
   rcases I with rfl|rfl<;>rfl
  ·have hm:=gq e
   simp only[bP,b9,eH] at hm
   rcases hm with hm|hm|hm
   ·obtain⟨rfl,rfl⟩:=gv hm
    exact .inl ⟨_,rfl,rfl,.str _ _⟩
   ·obtain⟨rfl,rfl⟩:=gv hm
    exact .inl ⟨_,rfl,rfl,.str _ _⟩
   ·obtain⟨rfl,rfl⟩:=gv hm
    exact .inr ⟨s.locals+1,n1,rfl,rfl,Jx,BX⟩
  ·have hm:=gq e
   rw[cn] at hm
   obtain⟨rfl,rfl⟩:=gv hm
   exact⟨Jx.lt,(aa.fE _ _ lL).2⟩
  ·have hm:=gq e
   have fL:=gq bt
   rw[cn] at hm fL
   refine m ((gv hm).1) (m ((gv fL).1) ?_);rfl
  ·refine H.xu (c:=decide ((n,ab)∈P)) (bL.cmp hr.base (H.list (aM:=[.str n,.str ab]) hr (bK.cons hr.base (H.name hr rfl) (bK.cons hr.base (H.name hr rfl) bK.nil))) (H.name hr (d:=fb P) rfl) (cH.in_list BY ?_ ?_ (K4 P n ab))) (λaS=>?_) λaS=>?_
   ·exact Ej (p:=(n,ab)) ⟨VD,VE⟩
   ·exact ot λx I=>by
     obtain⟨p,af,rfl⟩:=bZ.mp I
     exact⟨Ej (eo p af),pF rfl⟩
   ·have e:pJ P n ab=-1:=by unfold pJ;exact m (b3 (oc aS)) rfl
    refine m e ?_;exact H.neg_int H.int
   ·have e:pJ P n ab=1:=by unfold pJ;exact m (bI (of_decide_eq_false aS)) rfl
    refine m e ?_;exact H.int
 refine h4 key λr y aV=>?_
 obtain⟨v,rfl,gQ,eX⟩:=aV
 refine aO.fU eX λdd=>?_
 exact⟨dd,rfl,gQ⟩
end
noncomputable def s6 (P:fr) (u v:Str):Bool:=decide (pJ P u v < 0)
section
variable {k:Nat} {Y:List Addr} {az:Str->Option PyData}
theorem H.sortedK {np Ds wB:Pos} {ag:List Str} (R:b0 (k+5) D) (aa:cJ Q U Y o s az) (al:s.scope.names=ro) (Dr:s.cells=cellsFrom (s.locals+1) ro []) (j2:s.code=.ref 233) (aS:s.qual="_law_rows"++".<locals>.") (hd:az "pairs"=some (fb P)) (eo:∀p∈P,PyData.strOk p.1=true/\PyData.strOk p.2=true)
  (f9:H B A D Y o s (.Name x Ds) (.list (ag.map .str))) (a5:ag.length<=2) (VF:∀x∈ag,PyData.strOk x=true):
  H B A D Y o s (.Call (.Name "sorted" np) [.Name x Ds] [⟨some "key",z7,wB⟩] ao) (.list ((kl (s6 P) ag).map .str)):=.mk λaj G M aq h=>by
 have V:bi B A D o s (.Name "sorted" np) (.builtin "sorted"):=bi.blt aa (a8 al rfl) (by exact jk (by kernel_rfl))
 show wpAny _ _ (do callWith ao (<-eval (.Name "sorted" np) s) [] (backTo ao (starEach [.Name x Ds] s)) (backToKw ao (keywordEach [⟨some "key",z7,wB⟩] s))) _ _ _
 refine ay (V.ap aj _ _ aq λaB aE=>callWith_kw ?_ rfl rfl rfl rfl)
 refine jO ?_
 refine f9.ap aB _ _ (aq.trans aE) λv ax a7 r=>?_
 refine kH (kws_cons ?_)
 have VG:=(aq.trans aE).trans a7
 have eS:=aa.ex VG
 refine M1 (k:=k) (R.le (by simp)) eS al Dr j2 aS hd eo λa b5 f b2 c0 g6 av jD F=>?_
 have g5:=eS.ex c0
 have oZ:=r.ex eS.base.tabs c0
 refine aO.kL oZ λl J n aF a0 rs=>?_
 have e7:=bR.vf rs
 refine kws_nil ?_
 refine P6 (k:=k+1) R g5.base g6 av jD F a0 e7 a5 VF λO ab cm kV fW cW nd vZ=>?_
 exact h _ _ ((aE.trans a7).trans (c0.trans fW)) (.list (λq=>absurd (g5.eb _ q) (eZ.mpr cW)) nd (StrsAre.xo vZ))
end
noncomputable def hB (P:fr) (t:Str):List Str:=(P.filter λp=>decide (p.1=t)).map (·.2)
noncomputable def eG (P:fr) (t:Str):List Str:=t::kl (s6 P) (hB P t)
noncomputable def hc (P:fr) (dp:List Str) (t:Str):List Str:=(eG P t).filter λx=>decide (x∉dp)
noncomputable def iB (P:fr) (st:List (List Str)×List Str) (t:Str):List (List Str)×List Str:=(st.1++[(eG P t).take ((hc P st.2 t).length+1)],st.2++hc P st.2 t)
noncomputable def ta (P:fr) (dK:List Str):List (List Str):=(dK.foldl (iB P) ([],[])).1
noncomputable def w3 (x:Str):PyData->Bool
 |.list [.str a,_]=>decide (a=x)
 |_=>false
noncomputable def zL (dp:List Str):PyData->Bool
 |.str x=>decide (x∉dp)
 |_=>false
theorem Ei (P:fr) (x:Str):((items (fb P)).filter (w3 x)).map s9=(hB P x).map .str:=by
 unfold hB
 show((P.map iE).filter (w3 x)).map s9=((P.filter λp=>decide (p.1=x)).map (·.2)).map .str
 induction P with
 |nil=>rfl
 |cons p P ih=>
  refine m dG (m fH (m fH ?_))
  have e:w3 x (iE p)=decide (p.1=x):=rfl
  refine m e ?_
  by_cases h:p.1=x
  ·simp only[h,lp,fv,dG]
   refine m ih ?_;rfl
  ·simp only[h,ig,fx,fd]
   exact ih
theorem Ef (dp ag:List Str):((items (.list (ag.map PyData.str))).filter (zL dp)).map id=(ag.filter λx=>decide (x∉dp)).map .str:=by
 refine m (oC _) ?_
 show((ag.map PyData.str).filter (zL dp))=_
 refine m nC ?_
 rfl
theorem KC {a2:Type} (ag:List a2) (n:Nat):iz ag none (some (n:Int)) none=ag.take n:=by
 rw[xr]
 have bS:kms_lo none ag.length=0:=rfl
 have bV:kms_hi (some (n:Int)) ag.length=min n ag.length:=by
  show(if(n:Int) < 0 then ag.length - (-(n:Int)).toNat else min (n:Int).toNat ag.length)=_
  refine m (bI (by simp)) ?_;rw[gl]
 refine m bS (m bV (m List.drop_zero (m (Nat.sub_zero _) ?_)))
 by_cases h:n<=ag.length
 ·refine m (uw h) ?_;rfl
 ·refine m (Nat.min_eq_right (by exact Nat.le_of_not_ge h)) (m jN (m (wO (by exact ew (Nat.not_le.mp h))) ?_));rfl
theorem GN {a2:Type} (lt:a2->a2->Bool):∀(l:List a2) x,x∈kl lt l↔x∈l
 |[],_=>.rfl
 |[_],_=>.rfl
 |[v,u],x=>by
  show x∈(if lt u v=true then [u,v] else [v,u])↔_
  split
  ·simp[or_comm]
  ·rfl
 |_::_::_::_,_=>.rfl
theorem Er {a2:Type} (lt:a2->a2->Bool):∀(l:List a2),(kl lt l).length=l.length
 |[]=>rfl
 |[_]=>rfl
 |[v,u]=>by
  show(if lt u v=true then [u,v] else [v,u]).length=_
  split<;>rfl
 |_::_::_::_=>rfl
theorem D3 {t:Str} (h:(hB P t).length<=2):(eG P t).length<=3:=by
 unfold eG;refine m hE (m (Er _ _) ?_);exact mN ‹_›
theorem Fg {t:Str} {dp:List Str} (h:(hB P t).length<=2):(hc P dp t).length<=3:=aK (lh _ _) (D3 h)
theorem Ep {t:Str} (bu:PyData.strOk t=true) (b1:∀p∈P,PyData.strOk p.1=true/\PyData.strOk p.2=true):∀x∈eG P t,PyData.strOk x=true:=λx I=>by
 rcases bP.mp I with rfl|I
 ·exact bu
 ·rw[GN] at I
  obtain⟨p,af,rfl⟩:=bZ.mp I
  exact(b1 p (eY.mp af).1).2
theorem FX {dK:List Str} (bu:∀t∈dK,PyData.strOk t=true) (b1:∀p∈P,PyData.strOk p.1=true/\PyData.strOk p.2=true) (ik:∀t∈dK,(hB P t).length<=2) (i:Nat):ce (((dK.take i).foldl (iB P) ([],[])).2.length<=3 * i) (((dK.take i).foldl (iB P) ([],[])).1.length<=i) (∀x∈((dK.take i).foldl (iB P) ([],[])).2,PyData.strOk x=true):=by
 induction i with
 |zero=>exact⟨by simp,by simp,λx I=>by simp at I⟩
 |succ i ih=>
  have gu:=ih.1
  have wC:=ih.2
  cases h:dK[i]? with
  |none=>
   have:dK.take (i+1)=dK.take i:=by refine m kf (m h ?_);simp
   refine m this ?_;exact⟨by exact aK gu (Nat.mul_le_mul_left 3 (hw i)),by exact ht ‹_›,ih.3⟩
  |some t=>
   have hm:=fc h
   have:dK.take (i+1)=dK.take i++[t]:=by refine m kf (m h ?_);rfl
   refine m this (m pM ?_)
   generalize (dK.take i).foldl (iB P) ([],[])=st at ih gu wC
   show ce ((st.2++hc P st.2 t).length<=_) ((st.1++[_]).length<=_) (∀x∈st.2++hc P st.2 t,_)
   have:=Fg (dp:=st.2) (ik t hm)
   refine⟨by refine m ib ?_;exact iv gu this,by refine m ib (m List.length_singleton ?_);exact mN ‹_›,λx I=>?_⟩
   rcases df.mp I with I|I
   ·exact ih.3 x I
   ·exact Ep (bu t hm) b1 x (eY.mp I).1
section
variable {k:Nat}
theorem Qf (R:b0 (k+6) D) {dK:List Str} (ar:dK.length<=20) (lQ:P.length<=400) (ik:∀t∈dK,(hB P t).length<=2) (eo:∀t∈dK,PyData.strOk t=true) (b1:∀p∈P,PyData.strOk p.1=true/\PyData.strOk p.2=true):nA B A D Q U (.ref 234) [.list (dK.map .str),fb P] (.list ((ta P dK).map bE)):=by
 refine pB ro ["texts","pairs"] R (λ_ C=>C.qT) rfl rfl rfl rfl (λbs cd J bn=>?_) rfl (by decide) (by decide) (λY ak o s al bG C c9=>?_)
 ·obtain⟨a,b,rfl⟩:=wM bn;rfl
 obtain⟨av,j2,aS⟩:=bG
 have bj:(D.deeper s).handled=Option.none:=c9.h
 refine oI C (jr.list C.aI bK.nil) (.inl (a8 al rfl)) λO aj cW bc=>?_
 have bc:=bc.norm [(O,.lst [])] [("texts",.list (dK.map .str)),("pairs",fb P)] [("rows",.ref O)] rfl ⟨rfl,rfl,trivial⟩ ⟨rfl,trivial⟩
 refine oI bc (jr.list bc.aI bK.nil) (.inr ⟨a8 al rfl,_,by refine m av ?_;rfl,is (hb _)⟩) λj6 aB Xm aQ=>?_
 have aQ:=aQ.norm [(j6,.lst []),(O,.lst [])] [("texts",.list (dK.map .str)),("pairs",fb P)] [("rows",.ref O),("known",.ref j6)] rfl ⟨rfl,rfl,trivial⟩ ⟨rfl,rfl,trivial⟩
 refine mY aQ (H.name aQ.aI rfl) (.list _) (.inr ⟨a8 al rfl,_,by refine m av ?_;rfl,is (is (hb _))⟩) bj
  (λi K=>K={L:=[(j6,.lst (((dK.take i).foldl (iB P) ([],[])).2.map .str)),(O,.lst (((dK.take i).foldl (iB P) ([],[])).1.map bE))],az:=dl [("texts",.list (dK.map .str)),("pairs",fb P)],bO:=dl [("rows",.ref O),("known",.ref j6)]}) rfl ?_ ?_
 ·intro i eC K ae v ax cD jb fR aH d8 bh
  subst d8
  have e6:(dK.map PyData.str)[i]?=some eC:=aH
  rw[fm] at e6
  obtain⟨t,bu,rfl⟩:=ka.mp e6
  have dF:=fc bu
  have lK:dK.take (i+1)=dK.take i++[t]:=by refine m kf (m bu ?_);rfl
  obtain⟨wA,ko,zh⟩:=FX eo b1 ik i
  have Xn:i < 20:=cz (gL.mp bu).1 ar
  have yQ:(dK.take (i+1)).foldl (iB P) ([],[])=iB P ((dK.take i).foldl (iB P) ([],[])) t:=by refine m lK (m pM ?_);rfl
  generalize (dK.take i).foldl (iB P) ([],[])=st at bh wA ko zh yQ
  obtain⟨rs,dp⟩:=st
  have wA:dp.length<=3 * i:=wA
  have ko:rs.length<=i:=ko
  have zh:∀x∈dp,PyData.strOk x=true:=zh
  have bh:=bh.e3 [(ae,.own (bk v (.list (dK.map .str)) (i+1))),(j6,.lst (dp.map .str)),(O,.lst (rs.map bE))] [(v,.list (dK.map .str))] [("texts",.list (dK.map .str)),("pairs",fb P),("text",.str t)] [("rows",.ref O),("known",.ref j6)] rfl ⟨.head _,trivial⟩ ⟨rfl,rfl,rfl,trivial⟩ ⟨rfl,rfl,trivial⟩
  have eS:=bh.aI
  have tok:=eo t dF
  have zi:=ik t dF
  refine Ax bh (h5 (λd=>[("one",ny d),("two",s9 d)]) (w3 t) s9 eS bj al rfl rfl (by refine m av ?_;rfl) (H.name eS (x:="pairs") (d:=fb P) rfl) (.list _) (by show(P.map iE).length<=1000;rw[bD];exact aK ‹_› (by decide)) (by intro _;rfl)
   (λaY bG d hd=>?_) (λd hd q aS=>?_) (λaY bG d hd eP y dr bf=>?_)) (λE aJ=>?_) (.inl (a8 al rfl)) (λb2 be=>?_) ?_
  ·obtain⟨p,af,rfl⟩:=bZ.mp hd
   exact fp.pair bj (.inl (a8 bG.names rfl)) (.inl (a8 bG.names rfl))
  ·simp only[bP,b9,eH] at aS
   rcases aS with rfl|rfl<;>rfl
  ·obtain⟨p,af,rfl⟩:=bZ.mp hd
   exact⟨fk.one (bL.cmp bf.base (H.name bf (x:="one") (d:=.str p.1) rfl) (H.name bf (x:="text") (d:=.str t) rfl) (cH.eq c9 (gp (b1 p af).1) (gp tok) (w0 _ _))),λ_=>H.name bf rfl⟩
  ·rw[Ei] at aJ
   exact pC _ E aJ
  ·rw[Ei] at be
   have be:=be.e3 [(ae,.own (bk v (.list (dK.map .str)) (i+1))),(j6,.lst (dp.map .str)),(O,.lst (rs.map bE))] [(v,.list (dK.map .str))] [("texts",.list (dK.map .str)),("pairs",fb P),("text",.str t),("wider",.list ((hB P t).map .str))] [("rows",.ref O),("known",.ref j6)] rfl ⟨.head _,trivial⟩ ⟨rfl,rfl,rfl,rfl,trivial⟩ ⟨rfl,rfl,trivial⟩
   have g5:=be.aI
   have VH:∀x∈hB P t,PyData.strOk x=true:=λx I=>by
    obtain⟨p,af,rfl⟩:=bZ.mp I
    exact(b1 p (eY.mp af).1).2
   refine gA be (d:=.list ((eG P t).map .str)) (H.add_list (ag:=[.str t]) (cP:=(kl (s6 P) (hB P t)).map .str) g5 (H.list g5 (bK.cons g5.base (H.name g5 rfl) bK.nil)) (H.sortedK c9 g5 al av j2 aS rfl b1 (H.name g5 rfl) zi VH) (by refine m (bD _) (m (Er _ _) ?_);simp;exact c2 (iv (cG _) zi))) (.inl (a8 al rfl)) λcm bJ=>?_
   have bJ:=bJ.e3 [(ae,.own (bk v (.list (dK.map .str)) (i+1))),(j6,.lst (dp.map .str)),(O,.lst (rs.map bE))] [(v,.list (dK.map .str))] [("texts",.list (dK.map .str)),("pairs",fb P),("text",.str t),("ladder",.list ((eG P t).map .str))] [("rows",.ref O),("known",.ref j6)] rfl ⟨.head _,trivial⟩ ⟨rfl,rfl,rfl,rfl,trivial⟩ ⟨rfl,rfl,trivial⟩
   have Xo:=D3 zi
   have VI:=Ep tok b1
   have ee:=bJ.pD (x:="known") (O:=j6) (aM:=dp.map .str) rfl (.tail _ (.head _))
   refine Ax bJ (h5 (λx=>[("name",x)]) (zL dp) id ee bj al rfl rfl (by refine m av ?_;rfl) (H.name ee (x:="ladder") (d:=.list ((eG P t).map .str)) rfl) (.list _) (by show((eG P t).map PyData.str).length<=1000;rw[bD];exact aK ‹_› (by decide)) (by intro _;rfl)
    (λaY bG x I=>fp.name (.inl (a8 bG.names rfl))) (λx I q aS=>by refine m (cn.mp aS) ?_;rfl) (λaY bG d hd eP y dr bf=>?_)) (λE aJ=>?_) (.inl (a8 al rfl)) (λds b6=>?_) ?_
   ·obtain⟨x,I,rfl⟩:=bZ.mp hd
    refine⟨fk.one (bL.cmp bf.base (H.name bf rfl) (H.name bf (x:="known") (d:=.list (dp.map .str)) rfl) (cH.notIn_list c9 (gp (VI x I)) (kc zh) ?_)),λ_=>H.name bf rfl⟩
    refine m (u7 _ _) ?_
    show _=!decide (x∉dp)
    simp
   ·rw[Ef] at aJ
    exact pC _ E aJ
   ·rw[Ef] at b6
    have b6:=b6.e3 [(ae,.own (bk v (.list (dK.map .str)) (i+1))),(j6,.lst (dp.map .str)),(O,.lst (rs.map bE))] [(v,.list (dK.map .str))] [("texts",.list (dK.map .str)),("pairs",fb P),("ladder",.list ((eG P t).map .str)),("new",.list ((hc P dp t).map .str))] [("rows",.ref O),("known",.ref j6)] rfl ⟨.head _,trivial⟩ ⟨rfl,rfl,rfl,rfl,trivial⟩ ⟨rfl,rfl,trivial⟩
    have gi:=b6.aI
    have Xp:=Fg (dp:=dp) zi
    refine vm (bz:=[(ae,.own (bk v (.list (dK.map .str)) (i+1))),(j6,.lst (dp.map .str))]) (bY:=[]) b6 rfl rfl (d:=bE ((eG P t).take ((hc P dp t).length+1))) ?_ (by rw[bD];lia) λfK c1=>?_
    ·have e:bE ((eG P t).take ((hc P dp t).length+1))=.list (iz ((eG P t).map PyData.str) none (some ((((hc P dp t).map PyData.str).length:Int)+1)) none):=by
      refine m (bD _) (m (show(((hc P dp t).length:Int)+1)=(((hc P dp t).length+1:Nat):Int) by rfl) (m (KC _ _) (a9 List.map_take ?_)))
      rfl
     refine m e ?_
     exact H.slice gi (H.name gi rfl) hA.none (hA.some (H.bin gi (H.len gi (a8 al rfl) (H.name gi rfl) (by rw[bD];exact aK ‹_› (by decide))) H.int eU.add_int)) hA.none (by decide) (by rw[bD];exact aK ‹_› (by decide))
    ·refine JP (bz:=[(ae,.own (bk v (.list (dK.map .str)) (i+1)))]) (bY:=[(O,.lst (rs.map bE++[bE ((eG P t).take ((hc P dp t).length+1))]))]) c1 rfl rfl (H.name c1.aI (d:=.list ((hc P dp t).map .str)) rfl) (by refine m (bD _) (m (bD _) ?_);lia) λgS cS=>b8 (fR _ _ ⟨_,rfl,?_⟩)
     refine m yQ ?_
     exact cS.e3 [(ae,.own (bk v (.list (dK.map .str)) (i+1))),(j6,.lst ((iB P (rs,dp) t).2.map .str)),(O,.lst ((iB P (rs,dp) t).1.map bE))] [(v,.list (dK.map .str))] [("texts",.list (dK.map .str)),("pairs",fb P)] [("rows",.ref O),("known",.ref j6)] (by simp[iB]) ⟨.head _,trivial⟩ ⟨rfl,rfl,trivial⟩ ⟨rfl,rfl,trivial⟩
   ·exact ri bJ.aI.fn (a8 al rfl) rfl rfl
  ·exact ri bh.aI.fn (a8 al rfl) rfl rfl
 ·intro K ax cD d8 bh
  subst d8
  have BM:(items (.list (dK.map PyData.str))).length=dK.length:=by show(dK.map PyData.str).length=_;rw[bD]
  rw[BM,jN] at bh
  have VJ:O∉Y:=λq=>cW O (ez _ q) rfl
  have be:=bh.drop (L:=[(O,.lst ((dK.foldl (iB P) ([],[])).1.map bE))]) rfl
  have jv:=be.freeze (a:=O) (L:=[]) rfl VJ
  have bJ:=(be.drop (L:=[]) rfl).uA (x:="rows") (be.dP "rows" _ rfl) jv
  refine b8 (hv bJ (H.name bJ.aI rfl) λv cs fP r=>?_)
  exact fP.ends r
end
section
variable {T:List Str} {br:Str->Nat}
theorem FO {u v:Str}:s6 P u v=true↔(u,v)∈P:=by
 unfold s6 pJ
 split<;>simp[*]
theorem tx {t:Str}:x∈hB P t↔(t,x)∈P:=by
 unfold hB
 rw[bZ]
 constructor
 ·rintro⟨p,af,rfl⟩
  obtain⟨h,e⟩:=eY.mp af
  have e:=oc e
  obtain⟨a,b⟩:=p
  have e:a=t:=e
  subst e;exact h
 ·intro h
  exact⟨(t,x),eY.mpr ⟨h,hz rfl⟩,rfl⟩
theorem tl {t:Str}:x∈eG P t↔x=t∨(t,x)∈P:=by
 unfold eG
 rw[bP,GN,tx]
theorem DO (b1:P.Nodup) (t:Str):(hB P t).Nodup:=by
 unfold hB
 rw[List.Nodup,List.pairwise_map]
 refine List.Pairwise.imp_of_mem ?_ (b1.sublist mU)
 intro a b aF aA cE e
 have bS:=oc (eY.mp aF).2
 have bV:=oc (eY.mp aA).2
 exact cE (Prod.ext (bS.trans bV.symm) e)
theorem DM (a6:Ord P T br) (b1:P.Nodup) (aV:∀x∈T,br x<=2) (t:Str):(hB P t).length<=2:=by
 have ah:=DO b1 t
 have up:∀x∈hB P t,br t < br x/\br x<=2:=λx I=>⟨a6.br (tx.mp I),aV x (a6.mem (tx.mp I)).2⟩
 have cmp:∀x∈hB P t,∀E∈hB P t,x≠E->br x≠br E:=λx I E aJ cE e=>by
  rcases a6.ch (tx.mp I) (tx.mp aJ) with q|q|q
  ·exact cE q
  ·have:=a6.br q;simp_all
  ·have:=a6.br q;simp_all
 match h:hB P t with
 |[]=>simp
 |[_]=>simp
 |[_,_]=>simp
 |x::E::z::r=>
  exfalso
  rw[h] at ah up cmp
  simp only[fO,bP,not_or] at ah
  have Jy:=up x (by simp);have Jz:=up E (by simp);have JA:=up z (by simp)
  have md:=cmp x (by simp) E (by simp) ah.1.1
  have eW:=cmp x (by simp) z (by simp) ah.1.2.1
  have nG:=cmp E (by simp) z (by simp) ah.2.1.1
  exact No Jy.1 Jy.2 Jz.1 Jz.2 JA.1 JA.2 md eW nG
theorem zN (a6:Ord P T br) (b1:P.Nodup) (aV:∀x∈T,br x<=2) (t:Str):(eG P t).Pairwise λx E=>(x,E)∈P:=by
 have two:=DM a6 b1 aV t
 have ah:=DO b1 t
 have wD:∀x∈hB P t,(t,x)∈P:=λx I=>tx.mp I
 unfold eG
 match h:hB P t,two with
 |[],_=>exact rg _ _
 |[x],_=>
  rw[h] at wD
  exact .cons (AllP.mem ⟨wD x (.head _),trivial⟩) (rg _ _)
 |[v,u],_=>
  rw[h] at wD ah
  have bn:=wD v (by simp)
  have dn:=wD u (by simp)
  have cE:v≠u:=by intro e;subst e;simp at ah
  show(t::(if s6 P u v=true then [u,v] else [v,u])).Pairwise _
  split
  ·rename_i bU
   exact .cons (AllP.mem ⟨dn,bn,trivial⟩) (.cons (AllP.mem ⟨FO.mp bU,trivial⟩) (rg _ _))
  ·rename_i bU
   have:(v,u)∈P:=by
    rcases a6.ch bn dn with q|q|q
    ·exact absurd q cE
    ·exact q
    ·exact absurd (FO.mpr q) bU
   exact .cons (AllP.mem ⟨bn,dn,trivial⟩) (.cons (AllP.mem ⟨this,trivial⟩) (rg _ _))
 |_::_::_::_,two=>simp at two
structure mR (P:fr) (done:List Str) (st:List (List Str)×List Str):Prop where
 up:∀x∈st.2,∀E,(x,E)∈P->E∈st.2
 all:∀t∈done,t∈st.2
 own:∀x∈st.2,∃t∈done,x∈eG P t
 rows:∀r∈st.1,∃t∈done,∃ab,r=(eG P t).take ab
 side:∀E∈st.2,hO λt ab p=>ce ((eG P t).take ab∈st.1) ((eG P t)[p]?=some E) (p+1 < ab)
theorem mR.step (a6:Ord P T br) (b1:P.Nodup) (aV:∀x∈T,br x<=2) {done:List Str} {st:List (List Str)×List Str} (ae:mR P done st) (t:Str):mR P (done++[t]) (iB P st t):=by
 have fG:=zN a6 b1 aV t
 obtain⟨rs,dp⟩:=st
 have zj:∀x,x∈dp++hc P dp t↔x∈dp∨x∈eG P t:=λx=>by
  rw[df]
  unfold hc
  rw[eY]
  by_cases h:x∈dp<;>simp[h]
 refine⟨λx I E Dt=>?_,λu dn=>?_,λx I=>?_,λr jC=>?_,λE aJ=>?_⟩
 ·have I:x∈dp++hc P dp t:=I
  show E∈dp++hc P dp t
  rw[zj] at I ⊢
  rcases I with I|I
  ·exact .inl (ae.up x I E Dt)
  ·refine .inr (tl.mpr (.inr ?_))
   rcases tl.mp I with rfl|q
   ·exact Dt
   ·exact a6.vj q Dt
 ·show u∈dp++hc P dp t
  rw[zj]
  rcases df.mp dn with dn|dn
  ·exact .inl (ae.all u dn)
  ·refine m (cn.mp dn) ?_;exact .inr (tl.mpr (.inl rfl))
 ·have I:x∈dp++hc P dp t:=I
  rw[zj] at I
  rcases I with I|I
  ·obtain⟨u,dn,h⟩:=ae.own x I
   exact⟨u,e2 _ dn,h⟩
  ·exact⟨t,by simp,I⟩
 ·have jC:r∈rs++[(eG P t).take ((hc P dp t).length+1)]:=jC
  rcases df.mp jC with h|h
  ·obtain⟨u,dn,ab,e⟩:=ae.rows r h
   exact⟨u,e2 _ dn,ab,e⟩
  ·exact⟨t,by simp,_,cn.mp h⟩
 ·have aJ:E∈dp++hc P dp t:=aJ
  by_cases aN:E∈dp
  ·obtain⟨u,ab,p,aX,a5,cu⟩:=ae.side E aN
   exact⟨u,ab,p,e2 _ aX,a5,cu⟩
  ·have a0:E∈eG P t:=by
    rcases(zj E).mp aJ with q|q
    ·exact absurd q aN
    ·exact q
   obtain⟨p,af,e⟩:=oJ a0
   refine⟨t,(hc P dp t).length+1,p,ez _ (.head _),by exact m (d4 af) (m e rfl),?_⟩
   have VK:∀x∈(eG P t).take (p+1),x∉dp:=λx I Du=>by
    rw[uV] at I
    obtain⟨i,aH,rfl⟩:=I
    rcases qY i p with q|q
    ·have e6:i < (eG P t).length:=by exact ff ‹_› ‹_›
     have:=mX.mp fG i p e6 af q
     rw[e] at this
     exact aN (ae.up _ Du _ this)
    ·have:i=p:=by exact mQ (i0 (cz aH (um _ _))) q
     subst this
     rw[e] at Du;exact aN Du
   have aX:((eG P t).take (p+1)).filter (λx=>decide (x∉dp))=(eG P t).take (p+1):=rP.mpr λx I=>hz (VK x I)
   have a5:(((eG P t).take (p+1)).filter (λx=>decide (x∉dp))).length<=(hc P dp t).length:=((List.take_sublist _ _).filter _).length_le
   rw[aX,td] at a5
   exact Nat.succ_lt_succ (cz (Nat.lt_min.mpr ⟨hb p,af⟩) a5)
theorem mR.fold (a6:Ord P T br) (b1:P.Nodup) (aV:∀x∈T,br x<=2):∀(kB done:List Str) (st:List (List Str)×List Str),mR P done st->mR P (done++kB) (kB.foldl (iB P) st)
 |[],done,st,ae=>by simpa using ae
 |t::kB,done,st,ae=>by
  have:=mR.fold a6 b1 aV kB (done++[t]) _ (ae.step a6 b1 aV t)
  simpa using this
theorem mR.start:mR P [] ([],[]):=⟨λx h=>(b9 h).elim,λx h=>(b9 h).elim,λx h=>(b9 h).elim,λx h=>(b9 h).elim,λx h=>(b9 h).elim⟩
end
theorem G6 (p:Str->Bool):∀(ag l:List Str),(ag.foldl e0 l).find? p=(l++ag).find? p
 |[],l=>by simp
 |x::ag,l=>by
  refine m pA (m ((G6 p ag) _) ?_)
  unfold e0
  split
  ·rename_i h
   refine m rF (m rF (m mH ?_))
   cases af:p x with
   |false=>rfl
   |true=>
    have:(l.find? p).isSome=true:=by rw[List.find?_isSome];exact⟨x,h,af⟩
    obtain⟨E,aJ⟩:=tf.mp this
    refine m aJ ?_;rfl
  ·refine m (oe _ _ _) ?_;rfl
theorem Gc (p:Str->Bool):∀(rows:List (List Str)) (l:List Str),(rows.foldl (λl r=>r.foldl e0 l) l).find? p=(l++rows.flatten).find? p
 |[],l=>by simp
 |r::rows,l=>by
  refine m pA (m ((Gc p rows) _) (m rF (m (G6 _ _ _) (m List.flatten_cons (m rF (m rF (m rF ?_)))))))
  exact m Option.or_assoc rfl
theorem Qh {l:List Str} (x:Str) (h:l.Nodup):(e0 l x).Nodup:=by
 unfold e0
 split
 ·exact h
 ·rename_i I
  rw[ia]
  refine⟨h,by simp,λa aF b aA e=>?_⟩
  rw[cn.mp aA] at e
  exact I (e▸aF)
theorem GK:∀(ag l:List Str),l.Nodup->(ag.foldl e0 l).Nodup
 |[],_,h=>h
 |x::ag,l,h=>GK ag _ (Qh x h)
theorem wI (rows:List (List Str)):(f3 rows).Nodup:=by
 have:∀(rows:List (List Str)) (l:List Str),l.Nodup->(rows.foldl (λl r=>r.foldl e0 l) l).Nodup:=by
  intro rows
  induction rows with
  |nil=>intro l h;exact h
  |cons r rows ih=>intro l h;exact ih _ (GK r l h)
 exact this rows [] hM
theorem J5 {l:List Str}:E∈e0 l x↔E∈l∨E=x:=by
 unfold e0
 split
 ·rename_i h
  exact⟨.inl,λq=>q.elim id λe=>e▸h⟩
 ·simp
theorem Gn:∀(ag l:List Str) (E:Str),E∈ag.foldl e0 l↔E∈l∨E∈ag
 |[],l,E=>by simp
 |x::ag,l,E=>by
  refine m pA ?_;rw[Gn ag,J5,bP,or_assoc]
theorem xc (rows:List (List Str)) (E:Str):E∈f3 rows↔∃r∈rows,E∈r:=by
 have:∀(rows:List (List Str)) (l:List Str),E∈rows.foldl (λl r=>r.foldl e0 l) l↔E∈l∨∃r∈rows,E∈r:=by
  intro rows
  induction rows with
  |nil=>intro l;simp
  |cons r rows ih=>
   intro l
   refine m pA ?_;rewrite[ih,Gn]
   simp only[bP,exists_eq_or_imp,or_assoc]
 have:=this rows []
 unfold f3
 rw[this];simp
theorem Mo {c:Str} {l:List Str} (au:l.Nodup) (av:c∉l.tail):strip c l=l.filter λx=>decide (x≠c):=by
 unfold strip
 cases l with
 |nil=>rfl
 |cons a t=>
  rw[fO] at au
  have bu:t.filter (λx=>decide (x≠c))=t:=rP.mpr λx I=>hz λe=>av (e▸I)
  by_cases h:a=c
  ·subst h
   refine m List.head?_cons (m (b3 rfl) (m fH (m (bI (by simp)) (m bu ?_))));rfl
  ·refine m List.head?_cons (m (bI (by intro q;exact h (m4 q))) (m fH (m (b3 (hz h)) (m bu ?_))));rfl
structure to (P:fr) (rows:List (List Str)):Prop where
 fG:∀r∈rows,r.Pairwise λx E=>(x,E)∈P
 z6:∀E h,(E,h)∈P->(∀z,(E,z)∈P->(z,h)∉P)->E∈f3 rows->∃r∈rows,cp λpre post=>r=pre++E::h::post
section
variable {T:List Str} {br:Str->Nat} {rows:List (List Str)}
noncomputable def cut (aC:List Str) (r:List Str):List Str:=r.filter λx=>decide (x∉aC)
theorem sY {aC r:List Str}:x∈cut aC r↔x∈r/\x∉aC:=by
 unfold cut;rewrite[eY];exact m h8 Iff.rfl
theorem PH (a6:Ord P T br) (W:to P rows) (cK:∀x∈T,x∈f3 rows) {aC:List Str} (cl:∀x∈aC,∀E,(E,x)∈P->E∈aC) {r:List Str} (aV:r∈rows) {h:Str} {t:List Str} (e:cut aC r=h::t):
  mS ((rows.map (cut aC)).filter ne) (cut aC r)=d0 P aC h:=by
 refine m e ?_;rewrite[nB,sS]
 unfold mS
 rw[d1]
 constructor
 ·intro vD a aF
  apply sV
  intro qF
  have ex:∀n a,br h - br a<=n->(a,h)∈P->a∉aC->∃E,ce ((E,h)∈P) (E∉aC) (∀z,(E,z)∈P->(z,h)∉P):=by
   intro n
   induction n with
   |zero=>intro a au aF _;have:=a6.br aF;exact absurd (Nat.sub_pos_of_lt this) (eZ.mpr au)
   |succ n ih=>
    intro a au aF qF
    by_cases av:∀z,(a,z)∈P->(z,h)∉P
    ·exact⟨a,aF,qF,av⟩
    ·have⟨z,aX,a5⟩:∃z,(a,z)∈P/\(z,h)∈P:=by
      apply sV
      intro I
      exact av λz aX a5=>I ⟨z,aX,a5⟩
     have:=a6.br aX
     have:=a6.br aF
     exact ih z (by exact aK (Nat.sub_le_sub_left ‹br a < br z› _) (Nat.pred_le_pred au)) a5 λar=>qF (cl z ar a aX)
  obtain⟨E,aJ,VL,Dv⟩:=ex _ a (cG _) aF qF
  obtain⟨hZ,jC,pre,post,VM⟩:=W.z6 E h aJ Dv (cK E (a6.mem aJ).1)
  have VN:h∉aC:=by
   have:h∈cut aC r:=by refine m e ?_;exact .head _
   exact(sY.mp this).2
  have x6:cut aC hZ=cut aC pre++E::h::cut aC post:=by
   refine m VM ?_
   unfold cut
   exact m (p3 _ _) (m fH (m (b3 (hz VL)) (m fH (m (b3 (hz VN)) rfl))))
  have cE:cut aC hZ∈(rows.map (cut aC)).filter ne:=by
   rw[eY]
   refine⟨d9 jC,?_⟩
   refine m x6 ?_
   unfold ne
   cases cut aC pre<;>rfl
  have:=vD _ cE
  rw[x6] at this
  have fY:h∈(cut aC pre++E::h::cut aC post).tail:=by
   cases cut aC pre with
   |nil=>simp
   |cons b l=>simp
  rw[List.headD_cons,hz fY] at this
  cases this
 ·intro pi lJ CC
  obtain⟨hm,_⟩:=eY.mp CC
  obtain⟨k9,wE,rfl⟩:=bZ.mp hm
  refine m List.headD_cons ?_
  cases av:cut aC k9 with
  |nil=>rfl
  |cons b l=>
   refine m List.tail_cons ?_
   by_cases fY:h∈l
   ·exfalso
    have fG:(cut aC k9).Pairwise λx E=>(x,E)∈P:=(W.fG k9 wE).sublist mU
    rw[av,uR] at fG
    have aA:b∈cut aC k9:=by refine m av ?_;exact .head _
    exact(sY.mp aA).2 (pi b (fG.1 h fY))
   ·refine m (jT fY) ?_;rfl
end
section
variable {T:List Str} {br:Str->Nat} {rows:List (List Str)}
theorem FV (a6:Ord P T br) {r:List Str} (h:r.Pairwise λx E=>(x,E)∈P):r.Nodup:=h.imp λ{a b} VO e=>by subst e;have:=a6.br VO;simp_all
theorem J0 (a6:Ord P T br) {aC r:List Str} (fG:r.Pairwise λx E=>(x,E)∈P):r.find? (λx=>decide (x∉aC)&&d0 P aC x)=match cut aC r with
  |[]=>none
  |h::_=>if d0 P aC h=true then some h else none:=by
 have e:r.find? (λx=>decide (x∉aC)&&d0 P aC x)=(cut aC r).find? (d0 P aC):=by
  unfold cut
  refine m List.find?_filter ?_
  congr 1
  funext x
  simp
 refine m e ?_
 have JB:(cut aC r).Pairwise λx E=>(x,E)∈P:=fG.sublist mU
 cases av:cut aC r with
 |nil=>rfl
 |cons h l=>
  rw[av,uR] at JB
  have bj:h∉aC:=(sY.mp (by refine m av ?_;exact iF:h∈cut aC r)).2
  by_cases aV:d0 P aC h=true
  ·refine m (List.find?_cons_of_pos aV) ?_
   show some h=if d0 P aC h=true then some h else none
   exact m (b3 aV) rfl
  ·refine m (List.find?_cons_of_neg aV) ?_
   show _=if d0 P aC h=true then some h else none
   refine m (bI aV) ?_;rewrite[sT]
   intro x I q
   exact bj (sS.mp q h (JB.1 x I))
theorem FS (a6:Ord P T br) (W:to P rows) (cK:∀x∈T,x∈f3 rows) {aC:List Str} (cl:∀x∈aC,∀E,(E,x)∈P->E∈aC):∀Dw:List (List Str),(∀r∈Dw,r∈rows)->
  (((Dw.map (cut aC)).filter ne).find? (mS ((rows.map (cut aC)).filter ne))).map (·.headD "")=Dw.findSome? λr=>r.find? λx=>decide (x∉aC)&&d0 P aC x
 |[],_=>rfl
 |r::rs,h=>by
  have ih:=FS a6 W cK cl rs λx I=>h x (.tail _ I)
  have aV:=h r (.head _)
  have r0:=J0 a6 (aC:=aC) (W.fG r aV)
  refine m dG (m fH (m List.findSome?_cons (m r0 ?_)))
  cases av:cut aC r with
  |nil=>exact ih
  |cons x l=>
   have aP:=PH a6 W cK cl aV av
   rw[av] at aP
   refine m (b3 (by rfl)) ?_
   by_cases aS:d0 P aC x=true
   ·refine m (List.find?_cons_of_pos (by refine m aP ?_;exact aS)) ?_
    dsimp only
    refine m (b3 aS) ?_
    rfl
   ·refine m (List.find?_cons_of_neg (by refine m aP ?_;exact aS)) (m ih ?_)
    dsimp only
    refine m (bI aS) ?_;rfl
theorem Gp (a6:Ord P T br) (ui:Ord P (f3 rows) br) (W:to P rows) (cK:∀x∈T,x∈f3 rows):∀(n:Nat) (left aC:List Str),left.length=n->ix P (f3 rows) left aC->left=cut aC (f3 rows)->mc (n+1) (rows.map (cut aC)) aC=some (kC P n left aC)
 |0,left,aC,au,S,e=>by
  have a0:left=[]:=q0.mp au
  have VP:(rows.map (cut aC)).filter ne=[]:=by
   rw[tr]
   intro r aV
   obtain⟨k9,wE,rfl⟩:=bZ.mp aV
   cases av:cut aC k9 with
   |nil=>simp[ne]
   |cons x l=>
    exfalso
    have I:=sY.mp (by refine m av ?_;exact iF:x∈cut aC k9)
    have:x∈cut aC (f3 rows):=sY.mpr ⟨(xc rows x).mpr ⟨k9,wE,I.1⟩,I.2⟩
    rw[<-e,a0] at this
    cases this
  unfold mc
  refine m VP ?_
  subst a0
  rfl
 |n+1,left,aC,au,S,e=>by
  obtain⟨t,bu,JC,JD⟩:=S.find ui (by intro q;simp[q] at au)
  have cl:∀x∈aC,∀E,(E,x)∈P->E∈aC:=λx I E aJ=>by
   have:=(S.perm.mem_iff (a:=E)).mpr (ui.mem aJ).1
   rcases df.mp this with q|q
   ·exact q
   ·exact absurd aJ (S.cl x I E q)
  have bb:=FS a6 W cK cl rows λ_ h=>h
  rw[<-List.find?_flatten] at bb
  have a0:=Gc (λx=>decide (x∉aC)&&d0 P aC x) rows []
  rw[pn] at a0
  rw[<-a0] at bb
  have bV:(rows.foldl (λl r=>r.foldl e0 l) []).find? (λx=>decide (x∉aC)&&d0 P aC x)=left.find? (d0 P aC):=by
   refine m e ?_
   unfold cut f3
   refine m List.find?_filter ?_
   congr 1
   funext x
   simp
  rw[bV,bu] at bb
  cases aV:((rows.map (cut aC)).filter ne).find? (mS ((rows.map (cut aC)).filter ne)) with
  |none=>rw[aV] at bb;cases bb
  |some r=>
   rw[aV] at bb
   have bj:r.headD ""=t:=m4 bb
   have cE:((rows.map (cut aC)).filter ne).isEmpty=false:=by
    have:=rL aV
    cases q:(rows.map (cut aC)).filter ne with
    |nil=>rw[q] at this;cases this
    |cons _ _=>rfl
   unfold mc
   refine m cE (m (bI (by decide)) (m aV ?_))
   show mc (n+1) ((rows.map (cut aC)).map (strip (r.headD ""))) (aC++[r.headD ""])=_
   refine m bj ?_
   have hm:(rows.map (cut aC)).map (strip t)=rows.map (cut (aC++[t])):=by
    refine m c6 ?_
    refine gr λk9 wE=>?_
    show strip t (cut aC k9)=_
    have fG:(cut aC k9).Pairwise λx E=>(x,E)∈P:=(W.fG k9 wE).sublist mU
    rewrite[Mo (FV a6 fG) (λfY=>?_)]
    ·unfold cut
     refine m List.filter_filter ?_
     refine tu λx _=>?_
     simp[and_comm]
    ·cases av:cut aC k9 with
     |nil=>rw[av] at fY;cases fY
     |cons b l=>
      rw[av,uR] at fG
      rw[av] at fY
      have aA:=sY.mp (by refine m av ?_;exact iF:b∈cut aC k9)
      exact aA.2 (sS.mp JD b (fG.1 t fY))
   refine m hm ?_
   have qJ:=S.step ui JC JD
   have bt:left.erase t=cut (aC++[t]) (f3 rows):=by
    have ah:left.Nodup:=by refine m e ?_;exact(wI rows).sublist mU
    refine m (ah.erase_eq_filter _) (m e ?_)
    unfold cut
    refine m List.filter_filter ?_
    refine tu λx _=>?_
    by_cases h:x=t<;>simp[h]
   refine m (Gp a6 ui W cK n (left.erase t) (aC++[t]) (by refine m (vc JC) ?_;simp_all) qJ bt) ?_
   rewrite[kC];refine m bu ?_;rfl
theorem OK (a6:Ord P T br) (ui:Ord P (f3 rows) br) (W:to P rows) (cK:∀x∈T,x∈f3 rows):mc ((f3 rows).length+1) rows []=some (jK P (f3 rows)):=by
 have h:=Gp a6 ui W cK _ (f3 rows) [] rfl (ix.start P _) (by unfold cut;exact m (rP.mpr (by simp)) rfl)
 have e:rows.map (cut [])=rows:=by
  refine(gr (g:=id) λr _=>?_).trans (oC rows)
  unfold cut;refine m (rP.mpr (by simp)) ?_;rfl
 rw[e] at h
 exact h
theorem PS (a6:Ord P T br) (b1:P.Nodup) (aV:∀x∈T,br x<=2):ce (to P (ta P T)) (∀x∈T,x∈f3 (ta P T)) (∀x∈f3 (ta P T),x∈T):=by
 have ae:=mR.fold a6 b1 aV T [] ([],[]) mR.start
 rw[pn] at ae
 have e:ta P T=(T.foldl (iB P) ([],[])).1:=rfl
 refine m e ?_
 generalize T.foldl (iB P) ([],[])=st at ae
 have low:∀x∈f3 st.1,x∈T:=λx I=>by
  obtain⟨r,jC,VQ⟩:=(xc _ _).mp I
  obtain⟨t,bu,ab,rfl⟩:=ae.rows r jC
  have:=q9 VQ
  rcases tl.mp this with rfl|q
  ·exact bu
  ·exact(a6.mem q).2
 refine⟨⟨λr jC=>?_,λE h aJ Dv VR=>?_⟩,λx I=>?_,low⟩
 ·obtain⟨t,bu,ab,rfl⟩:=ae.rows r jC
  exact(zN a6 b1 aV t).sublist (List.take_sublist _ _)
 ·obtain⟨t,ab,p,aX,a5,cu⟩:=ae.side E (ae.all E (low E VR))
  refine⟨_,aX,?_⟩
  have fG:=zN a6 b1 aV t
  obtain⟨af,ck⟩:=gL.mp a5
  have a0:h∈eG P t:=by
   refine tl.mpr (.inr ?_)
   rcases tl.mp (fc a5) with rfl|q
   ·exact aJ
   ·exact a6.vj q aJ
  obtain⟨q,aS,eq⟩:=oJ a0
  have Xq:p < q:=by
   rcases qV p q with z|z|z
   ·exact z
   ·subst z
    rw[ck] at eq;subst eq
    have:=a6.br aJ;simp_all
   ·have:=mX.mp fG q p aS af z
    rw[eq,ck] at this
    have:=a6.br this
    have:=a6.br aJ
    exact absurd (ff ‹br h < br E› ‹br E < br h›) (ey _)
  have VS:q=p+1:=by
   rcases qY (p+1) q with z|z
   ·exfalso
    have ar:p+1 < (eG P t).length:=by exact ff ‹_› ‹_›
    have a:=mX.mp fG p (p+1) af ar (by exact cG _)
    have b:=mX.mp fG (p+1) q ar aS z
    rw[ck] at a
    rw[eq] at b
    exact Dv _ a b
   ·exact mQ ‹_› ‹_›
  subst VS
  refine⟨(eG P t).take p,((eG P t).take ab).drop (p+2),?_⟩
  have cI:p+1 < ((eG P t).take ab).length:=by refine m td ?_;exact Nat.lt_min.mpr ⟨cu,aS⟩
  have hV:((eG P t).take ab)[p]'(by exact ew ‹_›)=E:=by refine m List.getElem_take ?_;exact ck
  have gC:((eG P t).take ab)[p+1]'cI=h:=by refine m List.getElem_take ?_;exact eq
  have im:=uS (l:=(eG P t).take ab) (i:=p) (by exact ew ‹_›)
  have g4:=uS (l:=(eG P t).take ab) (i:=p+1) cI
  rw[hV] at im
  rw[gC] at g4
  have:=List.take_append_drop p ((eG P t).take ab)
  rw[im,g4] at this
  rw[List.take_take,uw (by exact ew (Nat.lt_of_succ_lt cu))] at this
  exact this.symm
 ·obtain⟨t,ab,p,aX,a5,cu⟩:=ae.side x (ae.all x I)
  refine(xc _ _).mpr ⟨_,aX,?_⟩
  rw[uV]
  obtain⟨af,ck⟩:=gL.mp a5
  exact⟨p,by exact Nat.lt_min.mpr ⟨Nat.lt_of_succ_lt cu,af⟩,ck⟩
end
theorem tm {A n:ea}:eO A n=true↔A.1=true/\nz A=false/\A.2.length < n.2.length/\n.2.drop (n.2.length - A.2.length)=A.2:=by
 unfold eO
 simp only[iR,lX,h8]
theorem Qn {a b c:ea} (aX:eO b a=true) (a5:eO c b=true):eO c a=true:=by
 rw[tm] at *
 obtain⟨sr,JE,wF,uj⟩:=aX
 obtain⟨md,eW,nG,sG⟩:=a5
 refine⟨md,eW,by exact ff ‹_› ‹_›,?_⟩
 rw[<-uj,List.drop_drop] at sG
 have e:(b.2).length=(a.2.drop (a.2.length - b.2.length)).length:=by exact m uj rfl
 rw[List.length_drop] at sG
 rw[show a.2.length - c.2.length=a.2.length - b.2.length+(a.2.length - (a.2.length - b.2.length) - c.2.length) by(rw[Nat.sub_sub_self (ew wF)];exact(Nat.sub_add_sub_cancel (ew wF) (ew nG)).symm)]
 exact sG
theorem O9 {a b c:ea} (aX:eO b a=true) (a5:eO c a=true):b=c∨eO c b=true∨eO b c=true:=by
 rw[tm] at aX a5
 obtain⟨sr,JE,wF,uj⟩:=aX
 obtain⟨md,eW,nG,sG⟩:=a5
 rcases qV b.2.length c.2.length with q|q|q
 ·refine .inr (.inr (tm.mpr ⟨sr,JE,q,?_⟩))
  have e:c.2.drop (c.2.length - b.2.length)=a.2.drop (a.2.length - c.2.length+(c.2.length - b.2.length)):=by
   conv=>lhs;rw[<-sG]
   refine m List.drop_drop (m List.length_drop ?_)
   congr 1;rw[Nat.sub_sub_self (ew nG)]
  refine m e (m (show a.2.length - c.2.length+(c.2.length - b.2.length)=a.2.length - b.2.length by exact Nat.sub_add_sub_cancel (ew nG) (ew q)) ?_)
  exact uj
 ·refine .inl ?_
  have:b.2=c.2:=by exact a9 uj (a9 sG (m q rfl))
  exact Prod.ext (sr.trans md.symm) this
 ·refine .inr (.inl (tm.mpr ⟨md,eW,q,?_⟩))
  have e:b.2.drop (b.2.length - c.2.length)=a.2.drop (a.2.length - b.2.length+(b.2.length - c.2.length)):=by
   conv=>lhs;rw[<-uj]
   refine m List.drop_drop (m List.length_drop ?_)
   congr 1;rw[Nat.sub_sub_self (ew wF)]
  refine m e (m (show a.2.length - b.2.length+(b.2.length - c.2.length)=a.2.length - c.2.length by exact Nat.sub_add_sub_cancel (ew wF) (ew q)) ?_)
  exact sG
structure gb (R:List cO):Prop where
 t:∀r∈R,pN r
 cL:R.length<=6
 ah:(R.map cO.pt).Nodup
theorem M4 (bw:List Int):gb (sM bw):=⟨(vk bw 6).1,(vk bw 6).2,(vk bw 6).3⟩
noncomputable def cy (R:List cO):List Str:=R.map (·.text)
noncomputable def ci (R:List cO) (i:Nat):Str:=(cy R).getD i ""
noncomputable def dc (R:List cO) (i:Nat):ea:=(R.map cO.pt).getD i (false,[])
noncomputable def hP (R:List cO) (j k:Nat):Bool:=gU (ci R j) (ci R k)
noncomputable def gN (R:List cO):fr:=(List.range R.length).flatMap λk=>((List.range R.length).filter λj=>decide (j≠k)&&hP R j k).map λj=>(ci R j,ci R k)
noncomputable def Ac (R:List cO) (x:Str):ea:=((R.find? λr=>decide (r.text=x)).map cO.pt).getD (false,[])
noncomputable def u0 (R:List cO) (x:Str):Nat:=3 - (Ac R x).2.length
section
variable {R:List cO} (aL:gb R)
theorem mK (h:i < R.length):ci R i=R[i].text/\dc R i=R[i].pt:=by
 unfold ci dc cy
 simp[h]
include aL
theorem ln (h:i < R.length):dc R i∈LT/\l7 (dc R i) (ci R i):=by
 have:=aL.t _ (mP h)
 refine m ((mK h).1) (m ((mK h).2) ?_)
 exact⟨this.mem,this.txt⟩
theorem xJ (aH:i < R.length) (bv:j < R.length) (e:dc R i=dc R j):i=j:=by
 rw[(mK aH).2,(mK bv).2] at e
 have e:(R.map cO.pt)[i]'(by simpa using aH)=(R.map cO.pt)[j]'(by simpa using bv):=by simpa using e
 exact w2 aL.ah e
theorem nL (aH:i < R.length) (bv:j < R.length) (e:ci R i=ci R j):i=j:=by
 refine xJ aL aH bv (Oz (ln aL aH).1 (ln aL bv).1 (ln aL aH).2 ?_)
 refine m e ?_;exact(ln aL bv).2
theorem zq:(cy R).Nodup:=by
 rw[List.Nodup,mX]
 intro i j aH bv y0 e
 have e6:i < R.length:=by simpa [cy] using aH
 have h1:j < R.length:=by simpa [cy] using bv
 have:=nL aL e6 h1 (by unfold ci;simp[aH,bv,e])
 simp_all
theorem zR (h:i < R.length):Ac R (ci R i)=dc R i:=by
 unfold Ac
 have hm:R[i]∈R:=mP h
 cases bb:R.find? λr=>decide (r.text=ci R i) with
 |none=>
  have:=sT.mp bb _ hm
  simp[(mK h).1] at this
 |some r=>
  have aX:=rL bb
  have a5:r.text=ci R i:=by
   have:=tj (p:=λr:cO=>decide (r.text=ci R i)) bb
   exact oc this
  obtain⟨j,bv,rfl⟩:=oJ aX
  have:ci R j=ci R i:=by refine m ((mK bv).1) ?_;exact a5
  have:=nL aL bv h this
  subst this
  show(some (R[j].pt)).getD _=_
  refine m ((mK h).2) ?_;rfl
theorem Aj {k:Nat} (bv:j < R.length) (aN:k < R.length):hP R j k=(decide (j=k)||eO (dc R k) (dc R j)):=by
 unfold hP
 refine m (Nh (ln aL bv).1 (ln aL aN).1 (ln aL bv).2 (ln aL aN).2) ?_
 congr 1
 rewrite[nB,hh];refine m h8 ?_
 exact⟨λe=>xJ aL bv aN e,λe=>by exact m e rfl⟩
theorem NG {k:Nat} (h:eO (dc R k) (dc R j)=true):j≠k:=by
 rintro rfl
 have:=(tm.mp h).2.2.1
 simp_all
theorem rO {a b:Str}:(a,b)∈gN R↔∃j k,j < R.length/\k < R.length/\eO (dc R k) (dc R j)=true/\a=ci R j/\b=ci R k:=by
 unfold gN
 simp only[uT,bZ,eY,hL,iR,h8,Prod.mk.injEq]
 constructor
 ·rintro⟨k,aN,j,⟨bv,cE,bu⟩,rfl,rfl⟩
  rw[Aj aL bv aN,jT cE,Bool.false_or] at bu
  exact⟨j,k,bv,aN,bu,rfl,rfl⟩
 ·rintro⟨j,k,bv,aN,h,rfl,rfl⟩
  exact⟨k,aN,j,⟨bv,NG aL h,by refine m (Aj aL bv aN) (m h ?_);rw[Bool.or_true]⟩,rfl,rfl⟩
theorem oA {k:Nat} (bv:j < R.length) (aN:k < R.length):(ci R j,ci R k)∈gN R↔eO (dc R k) (dc R j)=true:=by
 rw[rO aL]
 constructor
 ·rintro⟨VT,wG,h1,jF,h,bS,bV⟩
  refine m (nL aL bv h1 bS) (m (nL aL aN jF bV) ?_);exact h
 ·intro h;exact⟨j,k,bv,aN,h,rfl,rfl⟩
theorem pH:x∈cy R↔∃i,i < R.length/\x=ci R i:=by
 constructor
 ·intro h
  obtain⟨i,aH,rfl⟩:=oJ h
  have e6:i < R.length:=by simpa [cy] using aH
  exact⟨i,e6,by unfold ci;simp[aH]⟩
 ·rintro⟨i,aH,rfl⟩
  refine m ((mK aH).1) ?_
  exact d9 (mP aH)
theorem nD:Ord (gN R) (cy R) (u0 R):=by
 refine⟨zq aL,λ{a b} h=>?_,λ{a b} h=>?_,λ{a b c} aX a5=>?_,λ{a b c} aX a5=>?_⟩
 ·obtain⟨j,k,bv,aN,_,rfl,rfl⟩:=(rO aL).mp h
  exact⟨(pH aL).mpr ⟨j,bv,rfl⟩,(pH aL).mpr ⟨k,aN,rfl⟩⟩
 ·obtain⟨j,k,bv,aN,bj,rfl,rfl⟩:=(rO aL).mp h
  unfold u0
  refine m (zR aL bv) (m (zR aL aN) ?_)
  have a:=(tm.mp bj).2.2.1
  have b:=(pw (ln aL bv).1).2
  exact Nat.sub_lt_sub_left (cz a b) a
 ·obtain⟨j,k,bv,aN,bj,rfl,rfl⟩:=(rO aL).mp aX
  obtain⟨wG,l,jF,a0,o9,e,rfl⟩:=(rO aL).mp a5
  have:=nL aL aN jF e
  subst this
  exact(oA aL bv a0).mpr (Qn bj o9)
 ·obtain⟨j,k,bv,aN,bj,rfl,rfl⟩:=(rO aL).mp aX
  obtain⟨VT,l,h1,a0,o9,e,rfl⟩:=(rO aL).mp a5
  have:=nL aL bv h1 e
  subst this
  rcases O9 bj o9 with q|q|q
  ·refine m (xJ aL aN a0 q) ?_;exact .inl rfl
  ·exact .inr (.inl ((oA aL aN a0).mpr q))
  ·exact .inr (.inr ((oA aL a0 aN).mpr q))
theorem Gy:∀x∈cy R,u0 R x<=2:=λx I=>by
 obtain⟨i,aH,rfl⟩:=(pH aL).mp I
 unfold u0
 refine m (zR aL aH) ?_
 have:=sR.mpr (pw (ln aL aH).1).1
 exact Nat.sub_le_sub_left this 3
theorem x1:(gN R).Nodup:=by
 unfold gN
 rw[List.Nodup,List.pairwise_flatMap]
 refine⟨λk aN=>?_,?_⟩
 ·rw[List.pairwise_map]
  refine List.Pairwise.imp_of_mem ?_ (List.nodup_range.sublist mU)
  intro a b aF aA cE e
  have aF:=hL.mp (eY.mp aF).1
  have aA:=hL.mp (eY.mp aA).1
  exact cE (nL aL aF aA (gv e).1)
 ·refine List.Pairwise.imp_of_mem ?_ List.nodup_range
  intro a b aF aA cE x I E aJ e
  have aF:=hL.mp aF
  have aA:=hL.mp aA
  obtain⟨_,_,rfl⟩:=bZ.mp I
  obtain⟨_,_,rfl⟩:=bZ.mp aJ
  exact cE (nL aL aF aA (gv e).2)
theorem pairs_len:(gN R).length<=36:=by
 unfold gN
 refine m List.length_flatMap ?_
 have:∀(l:List Nat),(l.map λk=>(((List.range R.length).filter λj=>decide (j≠k)&&hP R j k).map λj=>(ci R j,ci R k)).length).sum<=l.length * 6:=by
  intro l
  induction l with
  |nil=>simp
  |cons k l ih=>
   refine m dG (m s8 (m hE (m (bD _) ?_)))
   have aX:=lh (λj=>decide (j≠k)&&hP R j k) (List.range R.length)
   rw[od] at aX
   have:=aL.cL
   refine m (Nat.add_mul _ _ _) ?_;exact aK (iv (aK aX this) ih) (di (by rw[Nat.one_mul,oj]))
 have h:=this (List.range R.length)
 rw[od] at h
 have:=aL.cL
 exact aK h (by exact Nat.mul_le_of_le_div 6 R.length 36 this)
end
noncomputable def oG (R:List cO):List (List Str):=R.map λr=>(cy R).filter λx=>gU (gW r.pt) x
noncomputable def ec (R:List cO) (k:Nat):List Str:=(cy R).filter λx=>gU (gW (dc R k)) x
noncomputable def dY (R:List cO) (k:Nat):Nat:=((List.range k).find? λj=>eO (dc R j) (dc R k)).getD k
noncomputable def aC (R:List cO):List Str:=jK (gN R) (cy R)
section
variable {R:List cO} (aL:gb R)
include aL
theorem xp {k:Nat} (aN:k < R.length):x∈ec R k↔x∈cy R/\(x=ci R k∨(ci R k,x)∈gN R):=by
 unfold ec
 rw[eY]
 refine and_congr_right λI=>?_
 obtain⟨i,aH,rfl⟩:=(pH aL).mp I
 refine m (Oy (ln aL aN).1 (ln aL aH).1 (ln aL aH).2) (m (Bool.or_eq_true _ _) ?_);rewrite[hh,oA aL aN aH]
 refine or_congr_left ⟨λe=>by exact m (xJ aL aN aH e) rfl,λe=>by exact m (nL aL aH aN e) rfl⟩
theorem Ai (k:Nat):dY R k<=k:=by
 unfold dY
 cases h:(List.range k).find? λj=>eO (dc R j) (dc R k) with
 |none=>exact cG _
 |some j=>exact ew (hL.mp (rL h))
theorem w5 (k:Nat):(dY R k=k∨(dY R k < k/\eO (dc R (dY R k)) (dc R k)=true))/\∀i,i < dY R k->eO (dc R i) (dc R k)=false:=by
 unfold dY
 cases h:(List.range k).find? λj=>eO (dc R j) (dc R k) with
 |none=>
  refine⟨.inl rfl,λi aH=>?_⟩
  have:=sT.mp h i (hL.mpr aH)
  simpa using this
 |some j=>
  obtain⟨af,i,aH,e,aA⟩:=ve.mp h
  rw[te] at e
  subst e
  refine⟨.inr ⟨by simpa using aH,af⟩,λj bv=>?_⟩
  have:=aA j bv
  rw[te] at this
  simpa using this
theorem jM:(cy R).length=R.length:=bD _
theorem Ob {k:Nat} (aN:k < R.length):lS (cy R) (ec R k)=some (ci R (dY R k)):=by
 have hd:=ki (Ai aL k) aN
 obtain⟨aX,a5⟩:=w5 aL k
 have ge:∀i (aH:i < (cy R).length),(cy R)[i]=ci R i:=λi aH=>by unfold ci;simp[aH]
 unfold lS
 rw[ve]
 refine⟨hz ((xp aL aN).mpr ⟨(pH aL).mpr ⟨_,hd,rfl⟩,?_⟩),dY R k,by refine m (jM aL) ?_;exact hd,ge _ _,λj bv=>?_⟩
 ·rcases aX with e|⟨_,h⟩
  ·refine m e ?_;exact .inl rfl
  ·exact .inr ((oA aL aN hd).mpr h)
 ·have h1:j < R.length:=by exact ff ‹_› ‹_›
  refine m (ge _ _) ?_;rewrite[jT];rfl
  intro hm
  rcases((xp aL aN).mp hm).2 with e|e
  ·have:=nL aL h1 aN e
   have:=Ai aL k
   exact absurd (cz bv this) (eZ.mpr (di (Eq.symm ‹j=k›)))
  ·have a:=(oA aL aN h1).mp e
   rw[a5 j bv] at a;cases a
theorem KL {k:Nat} (aN:k < R.length) (af:aG.Perm (cy R)) (fG:aG.Pairwise λx E=>(E,x)∉gN R):lS aG (ec R k)=some (ci R k):=by
 have hm:ci R k∈aG:=af.mem_iff.mpr ((pH aL).mpr ⟨k,aN,rfl⟩)
 obtain⟨i,aH,e⟩:=oJ hm
 unfold lS
 rw[ve]
 refine⟨hz ((xp aL aN).mpr ⟨(pH aL).mpr ⟨k,aN,rfl⟩,.inl rfl⟩),i,aH,e,λj bv=>?_⟩
 rw[jT];rfl
 intro I
 have h1:j < aG.length:=by exact ff ‹_› ‹_›
 rcases((xp aL aN).mp I).2 with q|q
 ·have ah:aG.Nodup:=af.nodup_iff.mpr (zq aL)
  have:=w2 (aH:=h1) (bv:=aH) ah (by exact m q (m e rfl))
  exact absurd this (kG bv)
 ·have:=mX.mp fG j i h1 aH bv
  rw[e] at this
  exact this q
theorem xy:(aC R).Perm (cy R):=xj (nD aL)
theorem x0:(aC R).length=R.length:=by exact m ((xy aL).length_eq) (m (jM aL) rfl)
theorem J9:∃ba:Nat,(ba∈((List.range R.length).filter λk=>decide ((aC R).getD k ""≠ci R k))++[6]/\∀x∈((List.range R.length).filter λk=>decide ((aC R).getD k ""≠ci R k))++[6],ba<=x)/\
  (ba∈(((List.range R.length).filter λk=>decide (dY R k≠k)).map (dY R))++[6]/\∀x∈(((List.range R.length).filter λk=>decide (dY R k≠k)).map (dY R))++[6],ba<=x):=by
 have a6:=nD aL
 have ge:∀i (aH:i < (cy R).length),(cy R)[i]=ci R i:=λi aH=>by unfold ci;simp[aH]
 have cL:=aL.cL
 have cI:=jM aL
 have gt:∀k,k < R.length->(aC R)[k]?=some ((aC R).getD k ""):=λk aN=>by
  refine m jp (m (d4 (by refine m (x0 aL) ?_;exact aN)) ?_);rfl
 have JF:∀ae,ae<=R.length->(∀i k,i < ae->k < R.length->i < k->eO (dc R i) (dc R k)=false)->∀x,x < ae->(aC R).getD x ""=ci R x:=λae fz au x I=>by
  have h:=Ew a6 (ae:=ae) (by refine m cI ?_;exact fz) (λi k aH aN pm af=>by
   have jF:k < R.length:=by rw[cI] at aN;exact aN
   rw[ge,ge] at af
   have a:=(oA aL jF (by exact ff ‹_› ‹_›)).mp af
   rw[au i k aH jF pm] at a;cases a)
  have a5:((aC R).take ae)[x]?=((cy R).take ae)[x]?:=by unfold aC;exact m h rfl
  rw[wY,wY,b3 I,b3 I,gt x (by exact aK ‹_› ‹_›),d4 (by refine m cI ?_;exact aK ‹_› ‹_›),ge] at a5
  exact m4 a5
 by_cases aW:∃ae,ce (ae < R.length) (∃k,ce (ae < k) (k < R.length) (eO (dc R ae) (dc R k)=true)) (∀i,i < ae->¬∃k,ce (i < k) (k < R.length) (eO (dc R i) (dc R k)=true))
 ·obtain⟨ae,fz,⟨k,qK,aN,bj⟩,VU⟩:=aW
  have au:∀i k,i < ae->k < R.length->i < k->eO (dc R i) (dc R k)=false:=λi k aH aN pm=>by
   cases e:eO (dc R i) (dc R k) with
   |false=>rfl
   |true=>exact absurd ⟨k,pm,aN,e⟩ (VU i aH)
  refine⟨ae,⟨e2 _ ?_,λx I=>?_⟩,⟨e2 _ ?_,λx I=>?_⟩⟩
  ·rw[eY,hL]
   refine⟨fz,hz λe=>?_⟩
   have:=PN a6 (ae:=ae) (k:=k) (by refine m cI ?_;exact aN) qK (by refine m (ge _ _) (m (ge _ _) ?_);exact(oA aL aN fz).mpr bj) (λi k aH aN pm af=>by
    have jF:k < R.length:=by rw[cI] at aN;exact aN
    rw[ge,ge] at af
    have a:=(oA aL jF (by(first|assumption|lia|omega))).mp af
    rw[au i k aH jF pm] at a;cases a)
   apply this
   have:=gt ae fz
   unfold aC at this
   refine m this (m (ge _ _) ?_)
   unfold aC at e
   refine m e ?_;rfl
  ·rcases df.mp I with I|I
   ·obtain⟨aX,a5⟩:=eY.mp I
    have a5:=oc a5
    rcases qY x ae with q|q
    ·exact absurd (JF ae (ew fz) au x q) a5
    ·exact q
   ·refine m (cn.mp I) ?_;exact c2 (i0 (cz qK (i0 (cz aN cL))))
  ·rw[bZ]
   have JG:dY R k=ae:=by
    obtain⟨aX,a5⟩:=w5 aL k
    rcases qV (dY R k) ae with q|q|q
    ·rcases aX with e|⟨cu,ej⟩
     ·simp_all
     ·rw[au _ k q aN cu] at ej;cases ej
    ·exact q
    ·rw[a5 ae q] at bj;cases bj
   exact⟨k,eY.mpr ⟨hL.mpr aN,hz (by exact JG▸kG qK)⟩,JG⟩
  ·rcases df.mp I with I|I
   ·obtain⟨wG,jF,rfl⟩:=bZ.mp I
    obtain⟨aX,a5⟩:=eY.mp jF
    have a5:=oc a5
    obtain⟨cu,_⟩:=w5 aL wG
    rcases cu with e|⟨cu,ej⟩
    ·exact absurd e a5
    ·rcases qY (dY R wG) ae with q|q
     ·rw[au _ wG q (hL.mp aX) cu] at ej;cases ej
     ·exact q
   ·refine m (cn.mp I) ?_;exact c2 (i0 (cz qK (i0 (cz aN cL))))
 ·have au:∀i k,i < R.length->k < R.length->i < k->eO (dc R i) (dc R k)=false:=by
   intro i
   induction i using Nat.strongRecOn with
   |_ i ih=>
    intro k aH aN pm
    cases e:eO (dc R i) (dc R k) with
    |false=>rfl
    |true=>
     exfalso
     exact aW ⟨i,aH,⟨k,pm,aN,e⟩,λj bv ⟨l,CD,a0,bj⟩=>by rw[ih j bv l (by exact ff ‹_› ‹_›) a0 CD] at bj;cases bj⟩
  have bS:((List.range R.length).filter λk=>decide ((aC R).getD k ""≠ci R k))=[]:=by
   rw[tr]
   intro x I
   have I:=hL.mp I
   refine m (JF R.length (cG _) (λi k aH aN pm=>au i k aH aN pm) x I) ?_
   simp
  have bV:((List.range R.length).filter λk=>decide (dY R k≠k))=[]:=by
   rw[tr]
   intro x I
   have I:=hL.mp I
   obtain⟨aX,_⟩:=w5 aL x
   rcases aX with e|⟨aX,a5⟩
   ·refine m e ?_;simp
   ·rw[au _ x (by(first|assumption|lia|omega)) I aX] at a5;cases a5
  refine m bS (m bV ?_)
  exact⟨6,⟨by simp,by simp⟩,⟨by simp,by simp⟩⟩
end
noncomputable def jn:List Stmt:=dV (dh 25)
noncomputable def fu:List (Str×NameKind):=[("script",.local),("rules",.cell),("texts",.cell),("table",.cell),("places",.cell),("pairs",.local),("hosts",.local),("fits",.cell),("due",.cell),("told",.cell),("parted",.local),("rows",.local),("merged",.local),("_law_rules",.globalImplicit),("range",.globalImplicit),("len",.globalImplicit),("_law_run",.globalImplicit),("min",.globalImplicit),("_law_rows",.globalImplicit),("_c3_merge",.globalImplicit),("_law_listing",.globalImplicit)]
noncomputable def wW (cF:List Bool):PyData:=.list (cF.map .bool)
noncomputable def Ah (R:List cO):PyData:=.list ((cy R).map λx=>wW ((cy R).map λE=>gU x E))
noncomputable def re (ns:List Nat):PyData:=.list ((ns.map Int.ofNat).map .int)
noncomputable def AW (R:List cO):List Nat:=(List.range R.length).filter λk=>decide ((aC R).getD k ""≠ci R k)
noncomputable def lq (bw:List Int) (R:List cO):List (Str×PyData):=
 [("script",.list (bw.map .int)),("rules",.list (R.map dg)),("texts",bE (cy R)),("table",Ah R),("places",dB R.length),("pairs",fb (gN R)),("hosts",bE (R.map λr=>gW r.pt)),("fits",.list ((oG R).map bE)),("due",re ((List.range R.length).map (dY R))),("told",bE (aC R)),("parted",re (AW R))]
theorem xU {np:Pos} {Cq:Nat} (aN:s.scope.kind=.function) (I:s.kindOf x=some .cell):swapsWith (.ListComp cY kT aR hQ) (some (.Name x np)) Cq s=pure false:=by
 have aA:s.blockKind=.function:=by unfold Env.blockKind;refine m aN ?_;rfl
 show(pure (s.blockKind==.function&&s.kindOf x==some .local&&np.line==(Expr.ListComp cY kT aR hQ).pos.line&&!(aR.names.any λ(n,k)=>n==x&&(k==.local||k==.cell))):Sem Bool)=_
 refine m aA (m I ?_);rfl
theorem sL (a:Nat):a < a+1:=hb _
theorem Ed (a:Nat):a < a+1+1:=is (sL a)
theorem G3 (a:Nat):a < a+1+1+1:=is (Ed a)
theorem Gg (a:Nat):a < a+1+1+1+1:=is (G3 a)
theorem DR (a:Nat):a < a+1+1+1+1+1:=is (Gg a)
theorem El (a:Nat):a < a+1+1+1+1+1+1:=is (DR a)
theorem JW (a:Nat):a < a+1+1+1+1+1+1+1:=is (El a)
section
variable {Y:List Addr} {k:Nat} {R:List cO}
theorem f0.l0 {cl:List Comprehension} {hW:List PyData} {az:Str->Option PyData} (aa:cJ Q U Y o s az) (V:f0 B A D Y o s (.ListComp cY (⟨cZ,iter,dk,0⟩::cl) aR ao) aR (firstIterPos (⟨cZ,iter,dk,0⟩::cl) ao) iter cP) (e:cP=hW):
  H B A D Y o s (.ListComp cY (⟨cZ,iter,dk,0⟩::cl) aR ao) (.list hW):=e▸f0.ou aa V
noncomputable def py:PyData->Str
 |.str x=>x
 |_=>""
noncomputable def hl:PyData->Nat
 |.int i=>i.toNat
 |_=>0
noncomputable def N5:PyData->PyData
 |.list (x::_)=>x
 |_=>.none
theorem AF (ag:List PyData):items (.list ag)=ag:=rfl
theorem xM (ag:List Str):items (bE ag)=ag.map .str:=rfl
theorem p0 {a2:Type} (ag:List a2):ag.filter (λ_=>true)=ag:=rP.mpr λ_ _=>rfl
theorem H.mL {slice:Expr} {d:PyData} {az:Str->Option PyData} (aa:cJ Q U Y o s az) (O:H B A D Y o s i2 (.list ag)) (ae:H B A D Y o s slice (.int i)) (ar:ag.length<=1000) (e:ag[i]?=some d) (aW:autoParam (∀w i,subscripted slice false w i=operate [w,i] (getItem w i)) uq._auto_1):H B A D Y o s (.Subscript i2 slice ao) d:=by
 have a0:=(gL.mp e).1
 exact H.sub aa O ae (by simp) ⟨by exact Int.ofNat_lt.mpr (Nat.lt_succ_of_le (i0 (cz a0 ar))),ar⟩ (by unfold placeAt;refine m (bI (by simp)) (m (gl _) ?_);exact e) aW
theorem xl (a b:Nat):PyData.eqv (.int (a:Int)) (.int (b:Int))=decide (a=b):=by
 have:PyData.eqv (.int (a:Int)) (.int (b:Int))=decide ((a:Int)=b):=by simp[PyData.eqv];rfl
 refine m this ?_;exact decide_eq_decide.mpr Int.ofNat_inj
theorem Af (aL:gb R):∀x∈cy R,uZ x:=λx I=>by
 obtain⟨r,aV,rfl⟩:=bZ.mp I
 exact Oe (aL.t r aV).mem (aL.t r aV).txt
theorem jm (aL:gb R):∀x∈cy R,PyData.strOk x=true:=λx I=>by
 obtain⟨r,aV,rfl⟩:=bZ.mp I
 exact(sP (aL.t r aV).mem (aL.t r aV).txt).3
noncomputable def gn (Q U:Str->Option Value) (ai:List Addr) (ak:Shared) (s:Env) (bw:List Int) (R:List cO) (n:Nat) (o:Shared):Prop:=aw Q U ai [] ak s {az:=dl ((lq bw R).take n)} o
theorem ND (ba:b0 (k+6) D) (al:s.scope.names=fu) (av:s.cells=cellsFrom (s.locals+1) fu []) (ar:bw.length<=63) (iK:sM bw=R)
  (C:gn Q U ai ak s bw R 1 o) (h:∀y,gn Q U ai ak s bw R 2 y->bl B A D aZ s G M y):bl B A D (jn.getD 0 (.Pass ⟨0,0,0,0⟩)::aZ) s G M o:=by
 have aa:=C.aI
 refine gA (d:=.list (R.map dg)) C (H.call aa (bi.glob aa (a8 al rfl) (by exact iT (by kernel_rfl))) (by simp) (bK.cons aa.base (H.name aa rfl) bK.nil) (iK▸K2 (k:=k) (ba.le (by simp)) bw ar) (λC=>C.rE.fn) ⟨_,_,rfl,rfl⟩) (.inr ⟨a8 al rfl,_,by refine m av ?_;rfl,sL _⟩) λy a4=>?_
 exact h y (a4.norm [] ((lq bw R).take 2) [] rfl ⟨rfl,rfl,trivial⟩ trivial)
theorem M7 (ba:b0 (k+6) D) (al:s.scope.names=fu) (av:s.cells=cellsFrom (s.locals+1) fu []) (aL:gb R)
  (C:gn Q U ai ak s bw R 2 o) (h:∀y,gn Q U ai ak s bw R 3 y->bl B A D aZ s G M y):bl B A D (jn.getD 1 (.Pass ⟨0,0,0,0⟩)::aZ) s G M o:=by
 have aa:=C.aI
 have bj:=ba.h
 have cL:=aL.cL
 refine gA (d:=bE (cy R)) C ?_ (.inr ⟨a8 al rfl,_,by refine m av ?_;rfl,Ed _⟩) (λy a4=>?_) (xU C.aI.fn (a8 al rfl))
 ·refine f0.l0 aa (h5 (λx=>[("rule",x)]) (λ_=>true) N5 aa bj al rfl rfl (by refine m av ?_;rfl) (H.name aa (x:="rules") (d:=.list (R.map dg)) rfl) (.list _) (by show(R.map dg).length<=1000;rw[bD];exact aK ‹_› (by decide)) (by intro _;rfl)
   (λaY bG x I=>fp.name (.inl (a8 bG.names rfl))) (λx I q aS=>by refine m (cn.mp aS) ?_;rfl) (λaY bG d hd eP y dr bf=>by
    obtain⟨r,aV,rfl⟩:=bZ.mp hd
    exact⟨fk.nil,λ_=>H.zo bf (H.name bf rfl)⟩)) ?_
  refine m (AF _) ?_;rewrite[p0];refine m c6 ?_
  unfold cy
  refine m c6 ?_;rfl
 ·exact h y (a4.norm [] ((lq bw R).take 3) [] rfl ⟨rfl,rfl,rfl,trivial⟩ trivial)
theorem KD (ba:b0 (k+6) D) (al:s.scope.names=fu) (av:s.cells=cellsFrom (s.locals+1) fu []) (aL:gb R)
  (C:gn Q U ai ak s bw R 3 o) (h:∀y,gn Q U ai ak s bw R 4 y->bl B A D aZ s G M y):bl B A D (jn.getD 2 (.Pass ⟨0,0,0,0⟩)::aZ) s G M o:=by
 have aa:=C.aI
 have bj:=ba.h
 have cL:=aL.cL
 have a0:=jM aL
 have ar:((cy R).map PyData.str).length<=1000:=by rw[bD];exact c2 (aK (di a0) cL)
 refine gA (d:=Ah R) C ?_ (.inr ⟨a8 al rfl,_,by refine m av ?_;rfl,G3 _⟩) (λy a4=>?_) (xU C.aI.fn (a8 al rfl))
 ·refine f0.l0 aa (h5 (λx=>[("one",x)]) (λ_=>true) (λx=>wW ((cy R).map λE=>gU (py x) E)) aa bj al rfl rfl (by refine m av ?_;rfl) (H.name aa (x:="texts") (d:=bE (cy R)) rfl) (.list _) ar (by intro _;rfl)
   (λaY bG x I=>fp.name (.inr ⟨a8 bG.names rfl,_,by refine m bG.cells ?_;rfl,sL _⟩)) (λx I q aS=>by refine m (cn.mp aS) ?_;rfl) (λaY bG d hd eP y dr bf=>⟨fk.nil,λ_=>?_⟩)) ?_
  ·obtain⟨x,I,rfl⟩:=bZ.mp hd
   refine f0.l0 bf (h5 (λE=>[("two",E)]) (λ_=>true) (λE=>.bool (gU x (py E))) bf bj bG.names rfl rfl (by refine m bG.cells (m av ?_);rfl) (H.name bf (x:="texts") (d:=bE (cy R)) rfl) (.list _) ar (by intro _;rfl)
    (λsz kA x I=>fp.name (.inl (a8 kA.names rfl))) (λx I q aS=>by refine m (cn.mp aS) ?_;rfl) (λsz kA d hd C0 wf ly gI=>⟨fk.nil,λ_=>?_⟩)) ?_
   ·obtain⟨E,aJ,rfl⟩:=bZ.mp hd
    exact H.call gI (bi.glob gI (a8 kA.names rfl) (by exact iT (by kernel_rfl))) (by simp) (bK.cons gI.base (H.name gI (x:="one") (d:=.str x) rfl) (bK.cons gI.base (H.name gI (x:="two") (d:=.str E) rfl) bK.nil)) (GL (k:=k+4) ba (Af aL x I) (Af aL E aJ)) (λC=>C.pL.fn) ⟨_,_,rfl,rfl⟩
   ·rewrite[xM,p0,c6,c6];rfl
  ·refine m (xM _) (m (p0 _) (m c6 ?_));rfl
 ·exact h y (a4.norm [] ((lq bw R).take 4) [] rfl ⟨rfl,rfl,rfl,rfl,trivial⟩ trivial)
theorem J1 (ba:b0 (k+6) D) (al:s.scope.names=fu) (av:s.cells=cellsFrom (s.locals+1) fu []) (aL:gb R)
  (C:gn Q U ai ak s bw R 4 o) (h:∀y,gn Q U ai ak s bw R 5 y->bl B A D aZ s G M y):bl B A D (jn.getD 3 (.Pass ⟨0,0,0,0⟩)::aZ) s G M o:=by
 have aa:=C.aI
 have cL:=aL.cL
 have a0:(R.map dg).length=R.length:=bD _
 refine gA (d:=dB R.length) C (a0▸H.range aa (a8 al rfl) (H.len aa (a8 al rfl) (H.name aa (x:="rules") (d:=.list (R.map dg)) rfl) (by exact c2 (aK (di a0) cL)))) (.inr ⟨a8 al rfl,_,by refine m av ?_;rfl,Gg _⟩) λy a4=>?_
 exact h y (a4.norm [] ((lq bw R).take 5) [] rfl ⟨rfl,rfl,rfl,rfl,rfl,trivial⟩ trivial)
end
section
variable {Y:List Addr} {k:Nat} {R:List cO}
theorem pV {n:Nat} {d:PyData} (h:d∈items (dB n)):∃i,i < n/\d=.int (i:Nat):=by
 rw[og] at h
 obtain⟨i,aH,rfl⟩:=bZ.mp h
 exact⟨i,hL.mp aH,rfl⟩
theorem pI (n:Nat):(items (dB n)).length=n:=by rewrite[og,bD];exact m od rfl
theorem Es (h:i < R.length):(R.map dg)[i]?=some (dg R[i]):=by refine m fm (m (d4 h) ?_);rfl
theorem w1 (h:i < R.length):((cy R).map PyData.str)[i]?=some (.str (ci R i)):=by
 have am:i < (cy R).length:=by unfold cy;rw[bD];exact h
 refine m fm (m (d4 am) ?_)
 unfold ci
 refine m jp (m (d4 am) ?_);rfl
theorem Qs {k:Nat} (bv:j < R.length) (aN:k < R.length):((cy R).map λx=>wW ((cy R).map λE=>gU x E))[j]?=some (wW ((cy R).map λE=>gU (ci R j) E))/\(((cy R).map λE=>gU (ci R j) E).map PyData.bool)[k]?=some (.bool (hP R j k)):=by
 have h1:j < (cy R).length:=by unfold cy;rw[bD];exact bv
 have jF:k < (cy R).length:=by unfold cy;rw[bD];exact aN
 have e:∀i (h:i < (cy R).length),(cy R)[i]=ci R i:=λi h=>by unfold ci;refine m jp (m (d4 h) ?_);rfl
 constructor
 ·refine m fm (m (d4 h1) (m (e _ _) ?_));rfl
 ·refine m fm (m fm (m (d4 jF) (m (e _ _) ?_)));rfl
theorem H.hP {az:Str->Option PyData} (aL:gb R) (aa:cJ Q U Y o aY az) (bu:az "table"=some (Ah R)) (bv:az "j"=some (.int (i:Nat))) (aN:az "k"=some (.int (j:Nat))) (aH:i < R.length) (h1:j < R.length):
  H B A D Y o aY (.Subscript (.Subscript (.Name "table" hR) (.Name "j" hS) jU) (.Name "k" jV) x5) (.bool (hP R i j)):=by
 have cL:=aL.cL
 have a0:=jM aL
 have q:=Qs aH h1
 exact H.mL aa (H.mL aa (H.name aa bu) (H.name aa bv) (by refine m (bD _) ?_;exact c2 (aK (di a0) cL)) q.1) (H.name aa aN) (by refine m (bD _) ?_;rewrite[bD];exact c2 (aK (di a0) cL)) q.2
theorem Nu (aH:i < R.length) (bv:j < R.length):zl R[j] R[i]=eO (dc R j) (dc R i):=by refine m ((mK aH).2) (m ((mK bv).2) ?_);rfl
theorem H.hold {az:Str->Option PyData} {Dx VV:Pos} (ba:b0 (k+2) D) (aL:gb R) (aa:cJ Q U Y o aY az) (bW:aY.kindOf "_law_holds"=some .globalImplicit) (aV:az "rules"=some (.list (R.map dg))) (I:az x=some (.int (j:Nat))) (aJ:az E=some (.int (i:Nat))) (aH:i < R.length) (bv:j < R.length)
  (VW:autoParam ((x==("__debug__":Str))=false) fe._auto_1) (wp:autoParam ((x==("__classdict__":Str))=false) fe._auto_1) (VX:autoParam ((E==("__debug__":Str))=false) fe._auto_1) (VY:autoParam ((E==("__classdict__":Str))=false) fe._auto_1):
  H B A D Y o aY (.Call (.Name "_law_holds" hR) [.Subscript (.Name "rules" hS) (.Name x jU) jV,.Subscript (.Name "rules" x5) (.Name E A0) Dx] [] VV) (.bool (eO (dc R j) (dc R i))):=by
 have cL:=aL.cL
 refine a9 (Nu aH bv) ?_
 exact H.call aa (bi.glob aa bW (by exact iT (by kernel_rfl))) (by simp) (bK.cons aa.base (H.mL aa (H.name aa aV) (H.name aa I VW wp) (by rw[bD];exact aK ‹_› (by decide)) (Es bv)) (bK.cons aa.base (H.mL aa (H.name aa aV) (H.name aa aJ VX VY) (by rw[bD];exact aK ‹_› (by decide)) (Es aH)) bK.nil)) (M2 (k:=k) ba (aL.t _ (mP bv)).ok (aL.t _ (mP aH)).ok) (λC=>C.rG.fn) ⟨_,_,rfl,rfl⟩
theorem My {a2:Type} (ag:List a2):ag.filter (λ_=>false)=[]:=tr.mpr (by simp)
theorem Ov:("j":Str)≠"k":=by decide
theorem L2:("k":Str)≠"j":=by decide
theorem Kp {a2 gf:Type} (ag:List a2) (f:a2->a2->gf):(ag.flatMap λx=>(ag.filter λ_=>false).map (f x))=[]:=by
 rw[List.flatMap_eq_nil_iff]
 intro x _
 simp
theorem Nz (ba:b0 (k+6) D) (al:s.scope.names=fu) (av:s.cells=cellsFrom (s.locals+1) fu []) (aL:gb R)
  (C:gn Q U ai ak s bw R 5 o) (h:∀y,gn Q U ai ak s bw R 5 y->bl B A D aZ s G M y):bl B A D (jn.getD 4 (.Pass ⟨0,0,0,0⟩)::aZ) s G M o:=by
 have aa:=C.aI
 have bj:=ba.h
 have cL:=aL.cL
 have au:R.length<=1000:=by exact aK ‹_› (by decide)
 refine fF C (c:=false) ?_ λy a4=>b8 (h y a4)
 refine bL.cmp aa.base (f0.l0 aa (Fb (λx=>[("j",x)]) (λ_=>dB R.length) (λ_ E=>[("k",E)]) (λ_ _=>false) (λx _=>x) aa bj al rfl rfl (by refine m av ?_;rfl) (H.name aa (x:="places") (d:=dB R.length) rfl) (.range _ au) (by intro _;rfl) (by intro _ _;rfl) (λ_ _=>.range _ au) (λag x cP e=>?_)
  (λaY bG x I=>fp.name (.inl (a8 bG.names rfl))) (λaY bG x I E aJ=>fp.name (.inl (a8 bG.names rfl))) (λx I q aS=>by refine m (cn.mp aS) ?_;rfl) (λx I E aJ q aS=>by refine m (cn.mp aS) ?_;exact⟨rfl,λgD Dy=>by refine m (cn.mp Dy) ?_;exact Ov⟩)
  (λaY bG x I eP y dr bf=>H.name bf rfl) (λaY bG x I E aJ eP y dr bf=>⟨?_,λe=>by cases e⟩)) (Kp _ _)) (H.list aa bK.nil) (cH.ne ba (ot λx I=>by cases I) (ot λx I=>by cases I) (by simp[PyData.eqv,PyData.eqvAll]))
 ·show(ag.flatMap λx=>((items (dB R.length)).filter λ_=>false).map λ_=>x).length+(items (dB R.length)).length<=1000
  have:(ag.flatMap λx=>((items (dB R.length)).filter λ_=>false).map λ_=>x)=[]:=by
   rw[List.flatMap_eq_nil_iff];intro E _;rw[My];rfl
  refine m this (m (pI _) ?_)
  show 0+_<=_
  simp_all
 ·obtain⟨i,aH,rfl⟩:=pV I
  obtain⟨j,bv,rfl⟩:=pV aJ
  have e:(!(hP R i j==(decide (i=j)||eO (dc R j) (dc R i))))=false:=by refine m (Aj aL aH bv) ?_;simp
  refine a9 e ?_
  exact fk.one (bL.cmp bf.base (H.hP aL bf rfl rfl rfl aH bv) (H.or (H.cmp bf.base (H.name bf (x:="j") (d:=.int (i:Nat)) rfl) (H.name bf (x:="k") (d:=.int (j:Nat)) rfl) (cH.eq ba (hC _) (hC _) (xl i j))) λ_=>H.GS (H.hold (k:=k+4) ba aL bf (a8 bG.names rfl) rfl rfl rfl aH bv)) cH.Mp)
end
section
variable {Y:List Addr} {k:Nat} {R:List cO}
theorem D1 {a2 gf:Type} {ab:Nat} {g:a2->List gf}:∀{ag:List a2},(∀x∈ag,(g x).length<=ab)->(ag.flatMap g).length<=ag.length * ab
 |[],_=>by simp
 |x::ag,h=>by
  refine m List.flatMap_cons (m ib (m hE (m (Nat.add_mul _ _ _) ?_)))
  have:=D1 (ag:=ag) λE aJ=>h E (.tail _ aJ)
  have:=h x (.head _)
  exact aK (iv this ‹_›) (di (by rw[Nat.one_mul,oj]))
noncomputable def wL (R:List cO) (x E:PyData):Bool:=decide (hl E≠hl x)&&(hP R (hl E) (hl x)&&true)
noncomputable def zK (R:List cO) (x E:PyData):PyData:=iE (ci R (hl E),ci R (hl x))
theorem J7 (R:List cO):((items (dB R.length)).flatMap λx=>((items (dB R.length)).filter (wL R x)).map (zK R x))=(gN R).map iE:=by
 unfold gN
 refine m (og _) (m (List.flatMap_map _ _ _) (m List.map_flatMap ?_))
 refine iw (List.flatMap · _) (funext λi=>?_)
 refine m nC (m c6 (m c6 ?_))
 have e:(wL R (.int (i:Nat))∘λ(i:Nat)=>PyData.int (i:Int))=λj=>decide (j≠i)&&hP R j i:=funext λj=>by
  show(decide (((j:Nat):Int).toNat≠((i:Nat):Int).toNat)&&(hP R ((j:Nat):Int).toNat ((i:Nat):Int).toNat&&true))=_
  refine m (gl _) (m (gl _) ?_);rw[pT]
 refine m e ?_
 rfl
theorem Mm (ba:b0 (k+6) D) (al:s.scope.names=fu) (av:s.cells=cellsFrom (s.locals+1) fu []) (aL:gb R)
  (C:gn Q U ai ak s bw R 5 o) (h:∀y,gn Q U ai ak s bw R 6 y->bl B A D aZ s G M y):bl B A D (jn.getD 5 (.Pass ⟨0,0,0,0⟩)::aZ) s G M o:=by
 have aa:=C.aI
 have bj:=ba.h
 have cL:=aL.cL
 have au:R.length<=1000:=by exact aK ‹_› (by decide)
 refine xe C (Fb (λx=>[("k",x)]) (λ_=>dB R.length) (λ_ E=>[("j",E)]) (wL R) (zK R) aa bj al rfl rfl (by refine m av ?_;rfl) (H.name aa (x:="places") (d:=dB R.length) rfl) (.range _ au) (by intro _;rfl) (by intro _ _;rfl) (λ_ _=>.range _ au) (λag x cP e=>?_)
  (λaY bG x I=>fp.name (.inl (a8 bG.names rfl))) (λaY bG x I E aJ=>fp.name (.inl (a8 bG.names rfl))) (λx I q aS=>by refine m (cn.mp aS) ?_;rfl) (λx I E aJ q aS=>by refine m (cn.mp aS) ?_;exact⟨rfl,λgD Dy=>by refine m (cn.mp Dy) ?_;exact L2⟩)
  (λaY bG x I eP y dr bf=>H.name bf rfl) (λaY bG x I E aJ eP y dr bf=>?_)) (.inl (a8 al rfl)) (λy a4=>?_) (ri C.aI.fn (a8 al rfl) rfl rfl)
 ·have aX:(ag.flatMap λx=>((items (dB R.length)).filter (wL R x)).map (zK R x)).length<=ag.length * 6:=D1 λE _=>by
   refine m (bD _) ?_
   exact aK (lh _ _) (by rw[pI];exact cL)
  have a5:ag.length<=R.length:=by
   have:=iw List.length e
   rw[pI,ib,ib] at this
   exact aK (aK (jS _ _) (jS _ _)) (di this.symm)
  refine m (pI _) ?_;exact c2 (iv (aK aX (Nat.mul_le_mul_right 6 (aK a5 cL))) cL)
 ·obtain⟨i,aH,rfl⟩:=pV I
  obtain⟨j,bv,rfl⟩:=pV aJ
  refine⟨fk.one ?_,λ_=>?_⟩
  ·refine bL.and (b:=decide (((j:Nat):Int).toNat≠((i:Nat):Int).toNat)) (c:=hP R ((j:Nat):Int).toNat ((i:Nat):Int).toNat&&true) (bL.cmp bf.base (H.name bf (x:="j") (d:=.int (j:Nat)) rfl) (H.name bf (x:="k") (d:=.int (i:Nat)) rfl) (cH.ne ba (hC _) (hC _) ?_)) λ_=>bL.and (bL.val (Y:=eP) ?_ iW.bool) λ_=>bL.and_nil
   ·refine m (xl _ _) (m (gl _) (m (gl _) ?_));simp
   ·refine m (gl _) (m (gl _) ?_)
    exact H.hP aL bf rfl rfl rfl bv aH
  ·show H _ _ _ _ _ _ _ (.list [.str (ci R ((j:Nat):Int).toNat),.str (ci R ((i:Nat):Int).toNat)])
   refine m (gl _) (m (gl _) ?_)
   have ar:((cy R).map PyData.str).length<=1000:=by rewrite[bD];refine m (jM aL) ?_;exact au
   exact H.list bf (bK.cons bf.base (H.mL bf (H.name bf (x:="texts") (d:=bE (cy R)) rfl) (H.name bf rfl) ar (w1 bv)) (bK.cons bf.base (H.mL bf (H.name bf (x:="texts") (d:=bE (cy R)) rfl) (H.name bf rfl) ar (w1 aH)) bK.nil))
 ·rw[J7] at a4
  exact h y (a4.norm [] ((lq bw R).take 6) [] rfl ⟨rfl,rfl,rfl,rfl,rfl,rfl,trivial⟩ trivial)
noncomputable def xq:PyData->cO
 |.list [.str t,.bool b,.list pa]=>⟨t,b,pa.map py⟩
 |_=>⟨"",false,[]⟩
theorem EH (ag:List Str):(ag.map PyData.str).map py=ag:=by refine m c6 ?_;exact List.map_id' ag
theorem Eh (r:cO):xq (dg r)=r:=by
 show(⟨r.text,r.dot,(r.cM.map PyData.str).map py⟩:cO)=r
 rw[EH]
theorem Ok (ba:b0 (k+6) D) (al:s.scope.names=fu) (av:s.cells=cellsFrom (s.locals+1) fu []) (aL:gb R)
  (C:gn Q U ai ak s bw R 6 o) (h:∀y,gn Q U ai ak s bw R 7 y->bl B A D aZ s G M y):bl B A D (jn.getD 6 (.Pass ⟨0,0,0,0⟩)::aZ) s G M o:=by
 have aa:=C.aI
 have bj:=ba.h
 have cL:=aL.cL
 have e:((items (.list (R.map dg))).filter λ_=>true).map (λd=>PyData.str (gW (xq d).pt))=(R.map λr=>gW r.pt).map .str:=by
  refine m (AF _) (m (p0 _) (m c6 (m c6 ?_)))
  refine gr λr _=>?_
  show PyData.str (gW (xq (dg r)).pt)=_
  rw[Eh];rfl
 refine xe C (h5 (λx=>[("rule",x)]) (λ_=>true) (λd=>.str (gW (xq d).pt)) aa bj al rfl rfl (by refine m av ?_;rfl) (H.name aa (x:="rules") (d:=.list (R.map dg)) rfl) (.list _) (by show(R.map dg).length<=1000;rw[bD];exact aK ‹_› (by decide)) (by intro _;rfl)
  (λaY bG x I=>fp.name (.inl (a8 bG.names rfl))) (λx I q aS=>by refine m (cn.mp aS) ?_;rfl) (λaY bG d hd eP y dr bf=>⟨fk.nil,λ_=>?_⟩)) (.inl (a8 al rfl)) (λy a4=>?_) (ri C.aI.fn (a8 al rfl) rfl rfl)
 ·obtain⟨r,aV,rfl⟩:=bZ.mp hd
  refine m (Eh _) ?_
  exact H.call bf (bi.glob bf (a8 bG.names rfl) (by exact iT (by kernel_rfl))) (by simp) (bK.cons bf.base (H.name bf (x:="rule") (d:=dg r) rfl) bK.nil) (Mq (k:=k+5) ba (aL.t r aV)) (λC=>C.q8.fn) ⟨_,_,rfl,rfl⟩
 ·rw[e] at a4
  exact h y (a4.norm [] ((lq bw R).take 7) [] rfl ⟨rfl,rfl,rfl,rfl,rfl,rfl,rfl,trivial⟩ trivial)
theorem Px (ba:b0 (k+6) D) (al:s.scope.names=fu) (av:s.cells=cellsFrom (s.locals+1) fu []) (aL:gb R)
  (C:gn Q U ai ak s bw R 7 o) (h:∀y,gn Q U ai ak s bw R 8 y->bl B A D aZ s G M y):bl B A D (jn.getD 7 (.Pass ⟨0,0,0,0⟩)::aZ) s G M o:=by
 have aa:=C.aI
 have bj:=ba.h
 have cL:=aL.cL
 have ar:((cy R).map PyData.str).length<=1000:=by rewrite[bD];refine m (jM aL) ?_;exact aK ‹_› (by decide)
 refine gA (d:=.list ((oG R).map bE)) C ?_ (.inr ⟨a8 al rfl,_,by refine m av ?_;rfl,DR _⟩) (λy a4=>?_) (xU C.aI.fn (a8 al rfl))
 ·refine f0.l0 aa (h5 (λx=>[("host",x)]) (λ_=>true) (λx=>bE ((cy R).filter λE=>gU (py x) E)) aa bj al rfl rfl (by refine m av ?_;rfl) (H.name aa (x:="hosts") (d:=bE (R.map λr=>gW r.pt)) rfl) (.list _) (by show((R.map λr=>gW r.pt).map PyData.str).length<=1000;refine m (bD _) ?_;rewrite[bD];exact aK ‹_› (by decide)) (by intro _;rfl)
   (λaY bG x I=>fp.name (.inr ⟨a8 bG.names rfl,_,by refine m bG.cells ?_;rfl,sL _⟩)) (λx I q aS=>by refine m (cn.mp aS) ?_;rfl) (λaY bG d hd eP y dr bf=>⟨fk.nil,λ_=>?_⟩)) ?_
  ·obtain⟨x,I,rfl⟩:=bZ.mp hd
   obtain⟨r,aV,rfl⟩:=bZ.mp I
   refine f0.l0 bf (h5 (λE=>[("text",E)]) (λE=>gU (gW r.pt) (py E)) id bf bj bG.names rfl rfl (by refine m bG.cells (m av ?_);rfl) (H.name bf (x:="texts") (d:=bE (cy R)) rfl) (.list _) ar (by intro _;rfl)
    (λsz kA x I=>fp.name (.inl (a8 kA.names rfl))) (λx I q aS=>by refine m (cn.mp aS) ?_;rfl) (λsz kA d hd C0 wf ly gI=>?_)) ?_
   ·obtain⟨E,aJ,rfl⟩:=bZ.mp hd
    have e:(gU (gW r.pt) E==true)=gU (gW r.pt) E:=by cases gU (gW r.pt) E<;>rfl
    refine⟨fk.one ?_,λ_=>H.name gI rfl⟩
    show bL _ _ _ _ _ _ (gU (gW r.pt) E)
    refine a9 e ?_
    exact bL.cmp gI.base (H.call gI (bi.glob gI (a8 kA.names rfl) (by exact iT (by kernel_rfl))) (by simp) (bK.cons gI.base (H.name gI (x:="host") (d:=.str (gW r.pt)) rfl) (bK.cons gI.base (H.name gI (x:="text") (d:=.str E) rfl) bK.nil)) (GL (k:=k+4) ba (Ps (aL.t r aV).mem) (Af aL E aJ)) (λC=>C.pL.fn) ⟨_,_,rfl,rfl⟩) (H.bool (Y:=[])) cH.is_bool
   ·refine m (xM _) (m (oC _) (m nC ?_));rfl
  ·refine m (xM _) (m (p0 _) (m c6 (m c6 ?_)))
   unfold oG
   refine m c6 ?_;rfl
 ·exact h y (a4.norm [] ((lq bw R).take 8) [] rfl ⟨rfl,rfl,rfl,rfl,rfl,rfl,rfl,rfl,trivial⟩ trivial)
end
section
variable {Y:List Addr} {k:Nat} {R:List cO}
noncomputable def sN (R:List cO) (i:Nat):List Nat:=((List.range i).filter λj=>eO (dc R j) (dc R i))++[i]
theorem JO (R:List cO) (i:Nat):dY R i∈sN R i/\∀x∈sN R i,dY R i<=x:=by
 unfold dY sN
 cases h:(List.range i).find? λj=>eO (dc R j) (dc R i) with
 |none=>
  have:(List.range i).filter (λj=>eO (dc R j) (dc R i))=[]:=by
   rw[tr];exact sT.mp h
  refine m this ?_
  exact⟨.head _,λx I=>by refine m (cn.mp I) ?_;exact cG _⟩
 |some j=>
  obtain⟨af,ab,hm,e,aA⟩:=ve.mp h
  rw[te] at e
  subst e
  have fL:ab < i:=by simpa using hm
  refine⟨e2 _ (eY.mpr ⟨hL.mpr fL,af⟩),λx I=>?_⟩
  show ab<=x
  rcases df.mp I with I|I
  ·obtain⟨I,aS⟩:=eY.mp I
   rcases qY x ab with bU|j1
   ·have:=aA x bU
    rw[te,aS] at this
    cases this
   ·exact j1
  ·refine m (cn.mp I) ?_;exact ew fL
theorem Au {ab:Nat} {ns:List Nat} (h:ab∈ns/\∀x∈ns,ab<=x):(ab:Int)∈ns.map Int.ofNat/\∀x∈ns.map Int.ofNat,(ab:Int)<=x:=by
 refine⟨bZ.mpr ⟨ab,h.1,rfl⟩,λx I=>?_⟩
 obtain⟨n,au,rfl⟩:=bZ.mp I
 exact s5.mpr (h.2 n au)
theorem FT (n:Nat) (p:Nat->Bool) (q:PyData->Bool) (h:∀i:Nat,q (.int i)=p i):((items (dB n)).filter q).map id=(((List.range n).filter p).map Int.ofNat).map .int:=by
 refine m (oC _) ?_;rewrite[og];refine m nC (m c6 ?_)
 have:(q∘λ(i:Nat)=>PyData.int (i:Int))=p:=funext h
 refine m this ?_;rfl
theorem PW (ba:b0 (k+6) D) (al:s.scope.names=fu) (av:s.cells=cellsFrom (s.locals+1) fu []) (aL:gb R)
  (C:gn Q U ai ak s bw R 8 o) (h:∀y,gn Q U ai ak s bw R 9 y->bl B A D aZ s G M y):bl B A D (jn.getD 8 (.Pass ⟨0,0,0,0⟩)::aZ) s G M o:=by
 have aa:=C.aI
 have bj:=ba.h
 have cL:=aL.cL
 have au:R.length<=1000:=by exact aK ‹_› (by decide)
 refine gA (d:=re ((List.range R.length).map (dY R))) C ?_ (.inr ⟨a8 al rfl,_,by refine m av ?_;rfl,El _⟩) (λy a4=>?_) (xU C.aI.fn (a8 al rfl))
 ·refine f0.l0 aa (h5 (λx=>[("k",x)]) (λ_=>true) (λx=>.int (dY R (hl x):Nat)) aa bj al rfl rfl (by refine m av ?_;rfl) (H.name aa (x:="places") (d:=dB R.length) rfl) (.range _ au) (by rw[pI];exact au) (by intro _;rfl)
   (λaY bG x I=>fp.name (.inr ⟨a8 bG.names rfl,_,by refine m bG.cells ?_;rfl,sL _⟩)) (λx I q aS=>by refine m (cn.mp aS) ?_;rfl) (λaY bG d hd eP y dr bf=>⟨fk.nil,λ_=>?_⟩)) ?_
  ·obtain⟨i,aH,rfl⟩:=pV hd
   have JH:=Au (JO R i)
   refine m (show hl (.int (i:Nat))=i from gl i) ?_
   refine H.min (eQ:=(sN R i).map Int.ofNat) bf bj (a8 bG.names rfl) ?_ JH.1 JH.2
   have e:((sN R i).map Int.ofNat).map PyData.int=(((List.range i).filter λj=>eO (dc R j) (dc R i)).map Int.ofNat).map .int++[.int (i:Nat)]:=by
    unfold sN
    refine m d3 (m d3 ?_);rfl
   refine m e ?_
   refine H.add_list bf (f0.l0 bf (h5 (λE=>[("j",E)]) (λE=>eO (dc R (hl E)) (dc R i)) id bf bj bG.names rfl rfl (by refine m bG.cells (m av ?_);rfl) (H.range bf (a8 bG.names rfl) (H.name bf (x:="k") (d:=.int (i:Nat)) rfl)) (.range i (by exact c2 (i0 (cz aH cL)))) (by rw[pI];exact c2 (i0 (cz aH cL))) (by intro _;rfl)
    (λsz kA x I=>fp.name (.inl (a8 kA.names rfl))) (λx I q aS=>by refine m (cn.mp aS) ?_;rfl) (λsz kA d hd C0 wf ly gI=>?_)) (FT i _ _ λj=>by exact m (show hl (.int (j:Nat))=j from gl j) rfl)) (H.list bf (bK.cons bf.base (H.name bf (x:="k") (d:=.int (i:Nat)) rfl) bK.nil)) ?_
   ·obtain⟨j,bv,rfl⟩:=pV hd
    refine m (show hl (.int (j:Nat))=j from gl j) ?_
    exact⟨fk.one (bL.val (Y:=[]) (H.hold (k:=k+4) (x:="j") (E:="k") ba aL (gI.weak λb aA=>by cases aA) (a8 kA.names rfl) rfl rfl rfl aH (ff bv aH)) iW.bool),λ_=>H.name gI rfl⟩
   ·refine m (bD _) (m (bD _) ?_)
    have:=lh (λj=>eO (dc R j) (dc R i)) (List.range i)
    rw[od] at this
    show _+1<=_
    exact c2 (iv (aK this (i0 (cz aH cL))) (cG _))
  ·refine m (p0 _) (m (og _) (m c6 (m c6 (m c6 ?_))))
   refine gr λi _=>?_
   show PyData.int (dY R ((i:Nat):Int).toNat:Nat)=_
   rw[gl];rfl
 ·exact h y (a4.norm [] ((lq bw R).take 9) [] rfl ⟨rfl,rfl,rfl,rfl,rfl,rfl,rfl,rfl,rfl,trivial⟩ trivial)
noncomputable def strsOf (d:PyData):List Str:=(items d).map py
theorem F5 (ag:List Str):strsOf (bE ag)=ag:=EH ag
theorem GY (R:List cO):oG R=(List.range R.length).map (ec R):=by
 unfold oG
 refine List.ext_getElem (by simp) λi aX a5=>?_
 have aH:i < R.length:=by simpa using aX
 refine m (my _) (m (my _) (m (te _) ?_))
 unfold ec
 refine m ((mK aH).2) ?_;rfl
theorem G5 (aL:gb R) (h:i < R.length):ci R i∈cy R:=(pH aL).mpr ⟨i,h,rfl⟩
theorem PV (aL:gb R):∀f∈oG R,∀x∈f,PyData.strOk x=true:=λf bb x I=>by
 obtain⟨r,aV,rfl⟩:=bZ.mp bb
 exact jm aL x (eY.mp I).1
theorem H.z2 {az:Str->Option PyData} {w:Str} {names:List (Str×NameKind)} {hW:List Str} {Dx:Pos} (ba:b0 (k+3) D) (aL:gb R) (aa:cJ Q U Y o aY az) (al:aY.scope.names=names)
  (fh:aR.kind=.function) (aW:op aR.names names=true) (eg:p6 aR.names aY.cells=true) (JI:∀eW,kb aY eW aR names->eW.kindOf "_law_judge"=some .globalImplicit/\eW.kindOf "fit"=some .local) (B9:(aR.names.lookup ("fit":Str)==some .free)=false) (aP:aR.names.lookup w=some .free)
  (bn:az "fits"=some (.list ((oG R).map bE))) (VZ:az w=some (bE aG)) (V0:∀x∈aG,PyData.strOk x=true) (uf:(w==("__debug__":Str))=false) (qf:(w==("__classdict__":Str))=false) (cE:w≠("fit":Str))
  (ar:∀i,i < R.length->lS aG (ec R i)=some (hW.getD i "")) (JJ:hW.length=R.length):
  H B A D Y o aY (.ListComp (.Call (.Name "_law_judge" hR) [.Name w hS,.Name "fit" jU] [] jV) [⟨.Name "fit" x5,.Name "fits" A0,[],0⟩] aR Dx) (bE hW):=by
 have cL:=aL.cL
 refine f0.l0 aa (h5 (λx=>[("fit",x)]) (λ_=>true) (λx=>uz (lS aG (strsOf x))) aa ba.h al fh aW eg (H.name aa bn) (.list _) (by show((oG R).map bE).length<=1000;rewrite[bD,GY,bD];refine m od ?_;exact aK ‹_› (by decide)) (by intro _;rfl)
  (λeW bG x I=>fp.name (.inl (JI eW bG).2)) (λx I q aS=>by refine m (cn.mp aS) ?_;exact B9) (λeW bG d hd eP y dr bf=>⟨fk.nil,λ_=>?_⟩)) ?_
 ·obtain⟨f,bb,rfl⟩:=bZ.mp hd
  refine m (F5 _) ?_
  have e:iU (eA aR.names az) [("fit",bE f)] w=some (bE aG):=by
   show upd (eA aR.names az) "fit" (bE f) w=_
   unfold upd eA
   exact m (bI cE) (m (b3 aP) (m VZ rfl))
  exact H.call bf (bi.glob bf (JI eW bG).1 (by exact iT (by kernel_rfl))) (by simp) (bK.cons bf.base (H.name bf e uf qf) (bK.cons bf.base (H.name bf (x:="fit") (d:=bE f) rfl) bK.nil)) (P9 (k:=k) ba V0 (PV aL f bb)) (λC=>C.q3.fn) ⟨_,_,rfl,rfl⟩
 ·refine m (AF _) (m (p0 _) (m c6 (m (GY _) (m c6 ?_))))
  refine List.ext_getElem (by simp[JJ]) λi aX a5=>?_
  have aH:i < R.length:=by simpa using aX
  refine m (my _) (m (my _) (m (te _) ?_))
  show uz (lS aG (strsOf (bE (ec R i))))=_
  refine m (F5 _) (m (ar i aH) ?_)
  show PyData.str _=_
  refine m jp (m (d4 (by refine m JJ ?_;exact aH)) ?_);rfl
theorem Pn (ba:b0 (k+6) D) (al:s.scope.names=fu) (av:s.cells=cellsFrom (s.locals+1) fu []) (aL:gb R)
  (C:gn Q U ai ak s bw R 9 o) (h:∀y,gn Q U ai ak s bw R 9 y->bl B A D aZ s G M y):bl B A D (jn.getD 9 (.Pass ⟨0,0,0,0⟩)::aZ) s G M o:=by
 have aa:=C.aI
 have bj:=ba.h
 have cL:=aL.cL
 have V1:((cy R).map PyData.str).length<=1000:=by rewrite[bD];refine m (jM aL) ?_;exact aK ‹_› (by decide)
 have hd:∀i,i < R.length->dY R i < R.length:=λi aH=>ki (Ai aL i) aH
 refine fF C (c:=false) ?_ λy a4=>b8 (h y a4)
 have lo:low (bE ((List.range R.length).map λi=>ci R (dY R i))):=kc λx I=>by
  obtain⟨i,aH,rfl⟩:=bZ.mp I
  exact jm aL _ (G5 aL (hd i (hL.mp aH)))
 refine bL.cmp aa.base (H.z2 (k:=k+3) (w:="texts") (aG:=cy R) (hW:=(List.range R.length).map λi=>ci R (dY R i)) ba aL aa al rfl rfl (by refine m av ?_;rfl) (λeW bG=>⟨a8 bG.names rfl,a8 bG.names rfl⟩) rfl rfl rfl rfl (jm aL) (by decide) (by decide) (by decide) (λi aH=>?_) (by simp))
  (f0.l0 aa (h5 (λx=>[("place",x)]) (λ_=>true) (λx=>.str (ci R (hl x))) aa bj al rfl rfl (by refine m av ?_;rfl) (H.name aa (x:="due") (d:=re ((List.range R.length).map (dY R))) rfl) (.list _) (by show((((List.range R.length).map (dY R)).map Int.ofNat).map PyData.int).length<=1000;refine m (bD _) ?_;rewrite[bD,bD];refine m od ?_;exact aK ‹_› (by decide)) (by intro _;rfl)
  (λeW bG x I=>fp.name (.inl (a8 bG.names rfl))) (λx I q aS=>by refine m (cn.mp aS) ?_;rfl) (λeW bG d nl eP y dr bf=>⟨fk.nil,λ_=>?_⟩)) (hW:=((List.range R.length).map λi=>ci R (dY R i)).map .str) ?_) (cH.ne ba lo lo (by refine m (show bE ((List.range R.length).map λi=>ci R (dY R i))=.list _ from rfl) (m (xt _) ?_);rfl))
 ·refine m (Ob aL aH) (m jp (m fm (m (List.getElem?_range aH) ?_)));rfl
 ·obtain⟨z,ar,rfl⟩:=bZ.mp nl
  obtain⟨ab,hm,rfl⟩:=bZ.mp ar
  obtain⟨i,aH,rfl⟩:=bZ.mp hm
  refine m (show hl (.int (Int.ofNat (dY R i)))=dY R i from gl _) ?_
  exact H.mL bf (H.name bf (x:="texts") (d:=bE (cy R)) rfl) (H.name bf rfl) V1 (w1 (hd i (hL.mp aH)))
 ·show(((((List.range R.length).map (dY R)).map Int.ofNat).map PyData.int).filter _).map _=_
  refine m (p0 _) (m c6 (m c6 (m c6 (m c6 ?_))))
  refine gr λi _=>?_
  show PyData.str (ci R ((dY R i:Nat):Int).toNat)=_
  rw[gl];rfl
end
noncomputable def kj (as:List Addr) (rows:List (List Str)):List (Addr×Ent):=(as.zip rows).map λp=>(p.1,.lst (p.2.map .str))
noncomputable def nv (as:List Addr) (rows:List (List Str)) (a:Addr):List Str:=((as.zip rows).lookup a).getD []
theorem xd:∀{as:List Addr} {rows:List (List Str)},as.length=rows.length->(kj as rows).map (·.1)=as
 |[],_,_=>rfl
 |a::as,[],h=>by cases h
 |a::as,r::rows,h=>by
  show a::(kj as rows).map (·.1)=_
  exact m (xd (Nat.succ.inj h)) rfl
theorem wR:∀{as:List Addr} {rows:List (List Str)} {a:Addr},as.length=rows.length->a∈as->(a,Ent.lst ((nv as rows a).map .str))∈kj as rows/\nv as rows a∈rows
 |b::as,[],a,h,_=>by cases h
 |b::as,r::rows,a,h,aF=>by
  have e:nv (b::as) (r::rows) a=if a==b then r else nv as rows a:=by
   unfold nv
   refine m List.zip_cons_cons (m g9 ?_)
   cases a==b<;>rfl
  refine m e ?_
  by_cases aA:a=b
  ·subst aA
   simp only[oD,fv]
   exact⟨.head _,.head _⟩
  ·have hm:a∈as:=by rcases bP.mp aF with q|q;exact absurd q aA;exact q
   have:=wR (Nat.succ.inj h) hm
   refine m (bI (by simpa using aA)) ?_
   exact⟨.tail _ this.1,.tail _ this.2⟩
theorem Gm:∀{as:List Addr} {rows:List (List Str)},as.length=rows.length->as.Nodup->as.map (nv as rows)=rows
 |[],[],_,_=>rfl
 |[],_::_,h,_=>by cases h
 |_::_,[],h,_=>by cases h
 |b::as,r::rows,h,au=>by
  rw[fO] at au
  have e:∀a,nv (b::as) (r::rows) a=if a==b then r else nv as rows a:=λa=>by
   unfold nv
   refine m List.zip_cons_cons (m g9 ?_)
   cases a==b<;>rfl
  refine m dG ?_;rewrite[e];refine m (b3 (by simp)) ?_
  congr 1
  refine(gr λa aF=>?_).trans (Gm (Nat.succ.inj h) au.2)
  rewrite[e];exact m (bI (by simpa using λq:a=b=>au.1 (q▸aF))) rfl
theorem ON {as:List Addr} {rows:List (List Str)} {r:List Str} (h:as.length=rows.length):kj (as++[a]) (rows++[r])=kj as rows++[(a,.lst (r.map .str))]:=by
 unfold kj
 refine m (List.zip_append h) (m d3 ?_);rfl
theorem an.over {as:List Addr} (x:an o y) (E:es as y cs) (h:∀a∈as,o.heap.objs.size<=a):an o cs:=by
 have kn:=x.cw (Z:=as)
 have z:=kn.trans E
 exact⟨z.same,λb w bu e=>z.keep b w (λq=>ey _ (cz (dL e) (h b q))) bu e,z.size,z.tabs⟩
section
variable {Y:List Addr} {az:Str->Option PyData} {k:Nat}
theorem H.nG {np gX JK:Pos} {rows:List (List Str)} {out:List Str} {mu:Nat} (R:b0 (k+1) D) (aa:cJ Q U Y o s az) (aN:s.kindOf "_c3_merge"=some .globalImplicit)
  (al:s.scope.names=d5) (fh:aR.kind=.function) (aW:op aR.names d5=true) (eg:p6 aR.names s.cells=true)
  (t5:∀aY,kb s aY aR d5->aY.kindOf "list"=some .globalImplicit/\aY.kindOf "row"=some .local) (yr:(aR.names.lookup ("row":Str)==some .free)=false)
  (hm:mc mu rows []=some out) (Cv:mu<=900) (ar:rows.length<=20) (yO:∀r∈rows,r.length<=20) (eo:∀r∈rows,∀x∈r,PyData.strOk x=true) (bn:az "rows"=some (.list (rows.map bE))):
  H B A D Y o s (.Call (.Name "_c3_merge" np) [.ListComp (.Call (.Name "list" gX) [.Name "row" JK] [] jV) [⟨.Name "row" p9,.Name "rows" kR,[],0⟩] aR hQ] [] ao) (bE out):=.mk λaj G M aq h=>by
 refine Call_Name (trees:=[_]) rfl ((bi.glob aa aN (by exact iT (by kernel_rfl)):bi B A D o s (.Name "_c3_merge" np) (.ref 78)).ap aj _ _ aq λaB aE=>?_)
 have na:=aq.trans aE
 have cV:=aa.ex na
 obtain⟨w,e5,aP,hT⟩:=cV.base.q1.fn
 have hU:tab 78=false:=rfl
 refine ra (o:=w) (fd:=e5) ?_
 refine kg (jO ?_)
 simp only[fx,fd]
 refine m (eval_ListComp _ _ _ _) ?_
 have JL:(rows.map bE).length=rows.length:=bD _
 refine DV (λO aY ak y=>∃as,as.length=rows.length/\aw Q U Y [] ak aY {L:=(O,.lst (as.map bT))::kj as rows,az:=eA aR.names az} y) cV al fh aW eg (H.name cV bn) (.list _) (by intro _;rfl)
  (λaY ak b2 ae O v Xr eR bG C fin=>?_) (an.refl _) λy O aY ak x hn cE cW b1=>?_
 ·refine FG (K:={L:=[(O,.lst [])],az:=eA aR.names az}) (do let _ <-PySem.call (.builtin "list.append") [.ref O,<-eval (.Call (.Name "list" gX) [.Name "row" JK] [] jV) aY]) (.list _) R.h (zu ..) (λx=>[("row",x)]) (λ_=>true) (λx I=>fp.name (.inl (t5 aY bG).2)) (λx I q aS=>by refine m (cn.mp aS) ?_;exact uN yr) (λx I Y y _ bf=>fk.nil)
   (λag L=>∃as:List Addr,as.length=ag.length/\L=(O,.lst (as.map bT))::kj as (rows.take ag.length)) ⟨[],rfl,rfl⟩ (λ_=>rfl) (λag x L y i G M aH iL af gh a4 dt=>?_) (λag x L af=>by cases af) C λL y gh a4=>?_
  ·obtain⟨as,a0,rfl⟩:=gh
   have e6:(rows.map bE)[i]?=some x:=aH
   rw[fm] at e6
   obtain⟨r,aV,rfl⟩:=ka.mp e6
   have V2:=fc aV
   have Dz:i < rows.length:=(gL.mp aV).1
   have ua:ag.length=i:=by refine m iL ?_;show((rows.map bE).take i).length=i;refine m td (m JL ?_);exact uw (ew Dz)
   rw[ua] at a4 a0
   have bf:=a4.aI
   refine ay ((jr.listOf bf (t5 aY bG).1 (H.name bf (x:="row") (d:=bE r) rfl) (by rw[bD];exact aK (yO r V2) (by decide))).ap y _ _ (an.refl _) λa ax a7 aF aA V3=>?_)
   have bh:=a4.add (e:=.lst (r.map .str)) a7 ⟨aF,aA⟩ V3
   refine ay (bh.append (a:=O) (aM:=as.map bT) (bz:=[(a,.lst (r.map .str)),(ae,.own (bk v (.list (rows.map bE)) (i+1)))]) (bY:=kj as (rows.take i)) rfl (.ref a) (by rewrite[bD];refine m a0 ?_;exact c2 (i0 (cz Dz ar))) λb2 be=>bx (dt ((O,.lst ((as++[a]).map bT))::kj (as++[a]) (rows.take (i+1))) b2 ⟨as++[a],by refine m ib (m ib (m a0 (m ua ?_)));rfl,by refine m ib (m ua ?_);rfl⟩ ?_))
   have bS:rows.take (i+1)=rows.take i++[r]:=by refine m kf (m aV ?_);rfl
   have bV:as.length=(rows.take i).length:=by refine m a0 (m td ?_);exact(uw (ew Dz)).symm
   refine be.perm ?_
   refine m bS (m (ON bV) (m d3 ?_))
   show List.Perm ((ae,_)::(O,_)::(kj as (rows.take i)++[(a,Ent.lst (r.map .str))])) ((a,Ent.lst (r.map .str))::(ae,_)::(O,_)::kj as (rows.take i))
   have p:List.Perm (kj as (rows.take i)++[(a,Ent.lst (r.map .str))]) ((a,Ent.lst (r.map .str))::kj as (rows.take i)):=List.perm_append_singleton ..
   exact((p.cons _).cons _).trans (((List.Perm.swap _ _ _).cons _).trans (List.Perm.swap _ _ _))
  ·obtain⟨as,a0,rfl⟩:=gh
   have e:(items (.list (rows.map bE))).length=rows.length:=JL
   rw[e] at a0 a4
   rw[jN] at a4
   exact fin y ⟨as,a0,a4⟩
 ·obtain⟨as,a0,C⟩:=b1
  obtain⟨ab,au⟩:=C.ns
  refine⟨ab,au,λam DA=>?_⟩
  have a7:an aB {y with heap:=am}:=(pq (Z:=[]) (aD:=y.toks) cV.base.tabs (x.trans C.ex.ex).cw DA (.inl hn) (hI.gY au)).ex
  have zk:({L:=(O,.lst (as.map bT))::kj as rows,az:=eA aR.names az}:bd).Y Y=O::(as++Y):=by unfold bd.Y bd.as;refine m dG (m (xd a0) ?_);rfl
  have hX:=C.ah
  unfold bd.as at hX
  rw[dG,xd a0,fO] at hX
  have j0:∀a∈as,ak.heap.objs.size<=a:=λa aF=>(C.own a (by unfold bd.as;refine m dG (m (xd a0) ?_);exact .tail _ aF)).elim id λq=>(b9 q).elim
  have DB:∀a∈as,aB.heap.objs.size<=a:=λa aF=>aK x.size (j0 a aF)
  have JM:=C.aI.eb
  rw[zk] at JM
  have up:∀{a:Addr} {e:Ent},a≠aY.locals->e.at (O::(as++Y)) y.heap a->e.at (as++Y) am a:=λ{a e} cE q=>Ent.weak (Y:=O::(as++Y)) (λb aA=>.tail _ aA) (Ent.same DA (.inr (hI.l8 au)) cE q)
  have V4:aY.locals∉O::(as++Y):=by refine a9 zk ?_;exact C.aI.cb.2
  refine kH ⟨⟨a7.keep 78 w hU aP,hT⟩,?_⟩
  refine hg (h4 (Pj (k:=k) R (as:=as) (dH:=nv as rows) (out:=out) (mu:=mu) (ai:=Y) (cV.base.ex a7) (by refine m (Gm a0 hX.2) ?_;exact hm) Cv hX.2 (by refine m a0 ?_;exact ar) (λa aF=>yO _ (wR a0 aF).2) (λa aF=>eo _ (wR a0 aF).2)
   (λa aF=>aK cV.base.fj (DB a aF)) (λE aJ=>by show E < am.objs.size;refine m DA.1 ?_;exact JM E (.tail _ aJ)) (λa aF q=>ey _ (cz (cV.eb a q) (DB a aF))) (λa aF=>?_) ?_) λr b2 aV=>?_)
  ·have:=C.led _ (.tail _ (wR a0 aF).1)
   rw[zk] at this
   exact up (λq=>V4 (q▸.tail _ (e2 _ aF))) this
  ·have:=C.led (O,.lst (as.map bT)) (.head _)
   rw[zk] at this
   obtain⟨J,n,l,rs⟩:=up (l1 cE) this
   exact .list (λq=>(df.mp q).elim hX.1 λq=>ey _ (cz (cV.eb _ q) cW)) l rs
  ·obtain⟨v,rfl,cw,eX⟩:=aV
   exact h v b2 (aE.trans (a7.over cw DB)) eX
end
noncomputable def jQ (R:List cO):List (List Str):=ta (gN R) (cy R)
noncomputable def mD (R:List cO):List Str:=jK (gN R) (f3 (jQ R))
section
variable {R:List cO} (aL:gb R)
include aL
theorem oN:ce (to (gN R) (jQ R)) (∀x∈cy R,x∈f3 (jQ R)) (∀x∈f3 (jQ R),x∈cy R):=PS (nD aL) (x1 aL) (Gy aL)
theorem xZ:Ord (gN R) (f3 (jQ R)) (u0 R):=by
 have a6:=nD aL
 have q:=oN aL
 exact⟨wI _,λh=>⟨q.2 _ (a6.mem h).1,q.2 _ (a6.mem h).2⟩,a6.br,a6.vj,a6.ch⟩
theorem G0:(f3 (jQ R)).length<=6:=by
 have:=mZ (wI (jQ R)) (oN aL).3
 rw[jM aL] at this
 exact aK this aL.cL
theorem w4 {r:List Str} (aV:r∈jQ R):r.length<=6/\∀x∈r,x∈cy R:=by
 have q:=oN aL
 have hm:∀x∈r,x∈cy R:=λx I=>q.3 x ((xc _ _).mpr ⟨r,aV,I⟩)
 have:=mZ (FV (nD aL) (q.1.fG r aV)) hm
 rw[jM aL] at this
 exact⟨aK this aL.cL,hm⟩
theorem Eb:∀p∈gN R,PyData.strOk p.1=true/\PyData.strOk p.2=true:=λp af=>by
 have:=(nD aL).mem (a:=p.1) (b:=p.2) af
 exact⟨jm aL _ this.1,jm aL _ this.2⟩
theorem Fv (t:Str):(hB (gN R) t).length<=2:=DM (nD aL) (x1 aL) (Gy aL) t
theorem GG:(jQ R).length<=6:=by
 have q:=(FX (jm aL) (Eb aL) (λt _=>Fv aL t) (cy R).length).2
 rw[jN,jM aL] at q
 exact aK q aL.cL
theorem NW:mc ((f3 (jQ R)).length+1) (jQ R) []=some (mD R):=OK (nD aL) (xZ aL) (oN aL).1 (oN aL).2
theorem Ge:(mD R).Perm (cy R):=by
 refine(xj (xZ aL)).trans ?_
 rw[List.perm_ext_iff_of_nodup (wI _) (zq aL)]
 exact λx=>⟨(oN aL).3 x,(oN aL).2 x⟩
theorem FC:∀x∈aC R,PyData.strOk x=true:=λx I=>jm aL x ((xy aL).mem_iff.mp I)
theorem Ad:∀x∈mD R,PyData.strOk x=true:=λx I=>jm aL x ((Ge aL).mem_iff.mp I)
theorem Pw:∀x∈f3 (jQ R),PyData.strOk x=true:=λx I=>jm aL x ((oN aL).3 x I)
theorem E3:∀x∈cy R,(reprText x).length<=10000:=λx I=>by
 obtain⟨r,aV,rfl⟩:=bZ.mp I
 have a:=Ek (aL.t r aV).mem (aL.t r aV).txt
 have b:=(sP (aL.t r aV).mem (aL.t r aV).txt).1
 have:=StrLaws.reprText_len r.text λc av=>by
  have aX:=d1.mp a c av
  have a5:=d1.mp DP c (List.contains_iff_mem.mp aX)
  have:=oc a5
  exact aK ‹_› (by decide)
 have ar:r.text.length=r.text.cps.size:=rfl
 (first|assumption|lia|omega)
end
section
variable {Y:List Addr} {k:Nat} {br:Str->Nat}
theorem EW {np:Pos} (ba:b0 (k+5) D) (e9:D.frames=some (s::l)) (bb:s.frame=some s.locals) (F:ek l [] ak) (C:aw Q U ai [] ak s K o) (a1:K.L=[]) (aN:s.kindOf "_law_run"=some .globalImplicit)
  (O:bK B A D ai o s ao [m7,lx] [bE aG,fb P]) (a6:Ord P aG br) (b1:P.Nodup) (lQ:P.length<=400) (aP:aG.length<=20) (eo:∀x∈aG,PyData.strOk x=true) (pc:∀x∈aG,(reprText x).length<=10000) {G:Value->Shared->Prop}
  (h:∀bX v y,el (du l) ak bX->aw Q U ai [] bX s {K with R:=(v,bE (jK P aG))::K.R} y->G v y) (al:autoParam (starEach [m7,lx] s=(false,eval m7 s)::starEach [lx] s) cg._auto_1):
  wpAny (model B A) D (eval (.Call (.Name "_law_run" np) [m7,lx] [] ao) s) G M o:=by
 refine Call_Name rfl ((bi.glob C.aI aN (by exact iT (by kernel_rfl)):bi B A D o s (.Name "_law_run" np) (.ref 229)).ap o _ _ (an.refl _) λaB aE=>?_)
 have key:wpAny (model B A) D (spliced (backTo ao (starEach [m7,lx] s))) (λJ ax=>an aB ax/\bR ai ax.heap J [bE aG,fb P]) M aB:=O.ap aB _ _ aE λJ ax a7 r=>⟨a7,r⟩
 obtain⟨w,e5,f8,hT⟩:=(C.aI.base.ex aE).rH.fn
 have hU:tab 229=false:=rfl
 refine ra (o:=w) (fd:=e5) ?_
 rw[al] at key ⊢
 refine kg (c5 key (λJ ax ef=>?_) λ_ _ x=>x)
 obtain⟨a7,m9⟩:=ef
 refine⟨⟨a7.keep 229 w hU f8,hT⟩,?_⟩
 have bh:=C.step (aE.trans a7)
 obtain⟨dX,dU,rfl,c8,c4⟩:=m9.two
 ·have no:ek (s::l) [] ax:=(bh.rt F bb).less λb q=>by cases q
  have t3:K.Y ai=ai:=by unfold bd.Y bd.as;refine m a1 ?_;rfl
  refine hg (h4 (Mx (k:=k) (Y:=ai) ba e9 no bh.aI.base a6 b1 lQ aP eo pc (t3▸bh.aI.eb) c8 c4) λr b2 aV=>?_)
  obtain⟨v,dD,rfl,E,c0,eX⟩:=aV
  obtain⟨bX,u,be⟩:=bh.up F bb E
  exact h bX v b2 u ((be.step c0).bM (t3.symm▸eX))
end
section
variable {Y:List Addr} {k:Nat} {R:List cO}
theorem Of (ba:b0 (k+6) D) (e9:D.frames=some (s::l)) (bb:s.frame=some s.locals) (F:ek l [] ak) (al:s.scope.names=fu) (av:s.cells=cellsFrom (s.locals+1) fu []) (aL:gb R)
  (C:gn Q U ai ak s bw R 9 o) (h:∀bX y,el (du l) ak bX->gn Q U ai bX s bw R 10 y->bl B A D aZ s G M y):bl B A D (jn.getD 10 (.Pass ⟨0,0,0,0⟩)::aZ) s G M o:=by
 have aa:=C.aI
 have cL:=aL.cL
 refine⟨dA (kO (EW (k:=k+1) ba e9 bb F C rfl (a8 al rfl) (bK.cons aa.base (H.name aa (x:="texts") (d:=bE (cy R)) rfl) (bK.cons aa.base (H.name aa (x:="pairs") (d:=fb (gN R)) rfl) bK.nil)) (nD aL) (x1 aL) (aK (pairs_len aL) (by decide)) (by refine m (jM aL) ?_;exact aK ‹_› (by decide)) (jm aL) (E3 aL) λbX v aj u bc=>?_))⟩
 refine bc.store (x:="told") (.inr ⟨a8 al rfl,_,by refine m av ?_;rfl,JW _⟩) (bc.ic _ (.head _)) λaB aQ=>?_
 exact(h bX aB u (aQ.norm [] ((lq bw R).take 10) [] rfl ⟨rfl,rfl,rfl,rfl,rfl,rfl,rfl,rfl,rfl,rfl,trivial⟩ trivial)).out
theorem Lb {ag:List Str} (h:i < ag.length):(ag.map PyData.str)[i]?=some (.str (ag.getD i "")):=by
 refine m fm (m (d4 h) (m jp (m (d4 h) ?_)));rfl
theorem L1 (aL:gb R) (h:i < R.length):(aC R).getD i ""∈cy R:=by
 have am:i < (aC R).length:=by refine m (x0 aL) ?_;exact h
 refine m jp (m (d4 am) ?_)
 exact(xy aL).mem_iff.mp (mP am)
theorem Qk (ba:b0 (k+6) D) (al:s.scope.names=fu) (av:s.cells=cellsFrom (s.locals+1) fu []) (aL:gb R)
  (C:gn Q U ai ak s bw R 10 o) (h:∀y,gn Q U ai ak s bw R 11 y->bl B A D aZ s G M y):bl B A D (jn.getD 11 (.Pass ⟨0,0,0,0⟩)::aZ) s G M o:=by
 have aa:=C.aI
 have bj:=ba.h
 have cL:=aL.cL
 have au:R.length<=1000:=by exact aK ‹_› (by decide)
 have e:=FT R.length (λi=>decide ((aC R).getD i ""≠ci R i)) (λd=>decide ((aC R).getD (hl d) ""≠ci R (hl d))) λj=>by
  have:hl (.int (j:Nat))=j:=gl j
  refine m this ?_;rfl
 refine xe C (h5 (λx=>[("k",x)]) (λd=>decide ((aC R).getD (hl d) ""≠ci R (hl d))) id aa bj al rfl rfl (by refine m av ?_;rfl) (H.name aa (x:="places") (d:=dB R.length) rfl) (.range _ au) (by rw[pI];exact au) (by intro _;rfl)
  (λaY bG x I=>fp.name (.inl (a8 bG.names rfl))) (λx I q aS=>by refine m (cn.mp aS) ?_;rfl) (λaY bG d hd eP y dr bf=>?_)) (.inl (a8 al rfl)) (λy a4=>?_) (ri C.aI.fn (a8 al rfl) rfl rfl)
 ·obtain⟨i,aH,rfl⟩:=pV hd
  have DC:hl (.int (i:Nat))=i:=gl i
  refine m DC ?_
  exact⟨fk.one (bL.cmp bf.base (H.mL bf (H.name bf (x:="told") (d:=bE (aC R)) rfl) (H.name bf rfl) (by rewrite[bD];refine m (x0 aL) ?_;exact au) (Lb (by refine m (x0 aL) ?_;exact aH))) (H.mL bf (H.name bf (x:="texts") (d:=bE (cy R)) rfl) (H.name bf rfl) (by rewrite[bD];refine m (jM aL) ?_;exact au) (w1 aH)) (cH.ne ba (gp (jm aL _ (L1 aL aH))) (gp (jm aL _ (G5 aL aH))) (by refine m (w0 _ _) ?_;simp))),λ_=>H.name bf rfl⟩
 ·rw[e] at a4
  exact h y (a4.norm [] ((lq bw R).take 11) [] rfl ⟨rfl,rfl,rfl,rfl,rfl,rfl,rfl,rfl,rfl,rfl,rfl,trivial⟩ trivial)
noncomputable def xw (R:List cO) (d:PyData):Bool:=decide (dY R (hl d)≠hl d)
noncomputable def AR (R:List cO) (d:PyData):PyData:=.int (dY R (hl d):Nat)
theorem LW (R:List cO):((items (dB R.length)).filter (xw R)).map (AR R)=((((List.range R.length).filter λk=>decide (dY R k≠k)).map (dY R)).map Int.ofNat).map .int:=by
 refine m (og _) (m nC (m c6 (m c6 (m c6 ?_))))
 have bS:(xw R∘λ(i:Nat)=>PyData.int (i:Int))=λk=>decide (dY R k≠k):=funext λk=>by
  show decide (dY R ((k:Nat):Int).toNat≠((k:Nat):Int).toNat)=_
  exact m (gl _) rfl
 refine m bS ?_
 refine gr λi _=>?_
 show PyData.int (dY R ((i:Nat):Int).toNat:Nat)=_
 rw[gl];rfl
theorem OD (ba:b0 (k+6) D) (al:s.scope.names=fu) (av:s.cells=cellsFrom (s.locals+1) fu []) (aL:gb R)
  (C:gn Q U ai ak s bw R 11 o) (h:∀y,gn Q U ai ak s bw R 11 y->bl B A D aZ s G M y):bl B A D (jn.getD 12 (.Pass ⟨0,0,0,0⟩)::aZ) s G M o:=by
 have aa:=C.aI
 have bj:=ba.h
 have cL:=aL.cL
 have au:R.length<=1000:=by exact aK ‹_› (by decide)
 obtain⟨ab,mm,Dn⟩:=J9 aL
 have n4:=Au mm
 have qD:=Au Dn
 have cB:=lh (λk=>decide ((aC R).getD k ""≠ci R k)) (List.range R.length)
 have jw:=lh (λk=>decide (dY R k≠k)) (List.range R.length)
 rw[od] at cB jw
 refine fF C (c:=false) ?_ λy a4=>b8 (h y a4)
 refine bL.cmp aa.base (H.min (ab:=(ab:Int)) aa bj (a8 al rfl) (by
   refine m d3 (m d3 ?_)
   exact H.add_list (ag:=((AW R).map Int.ofNat).map .int) (cP:=[.int 6]) aa (H.name aa (x:="parted") (d:=re (AW R)) rfl) (H.list aa (bK.cons aa.base H.int bK.nil)) (by refine m (bD _) (m (bD _) ?_);exact aK (mN cB) (by exact c2 (mN cL)))) n4.1 n4.2)
  (H.min (ab:=(ab:Int)) aa bj (a8 al rfl) (by
   refine m d3 (m d3 ?_)
   refine H.add_list (cP:=[.int 6]) aa (f0.l0 aa (h5 (λx=>[("k",x)]) (xw R) (AR R) aa bj al rfl rfl (by refine m av ?_;rfl) (H.name aa (x:="places") (d:=dB R.length) rfl) (.range _ au) (by rw[pI];exact au) (by intro _;rfl)
    (λaY bG x I=>fp.name (.inl (a8 bG.names rfl))) (λx I q aS=>by refine m (cn.mp aS) ?_;rfl) (λaY bG d hd eP y dr bf=>?_)) (LW R)) (H.list aa (bK.cons aa.base H.int bK.nil)) ?_
   ·obtain⟨i,aH,rfl⟩:=pV hd
    have DC:hl (.int (i:Nat))=i:=gl i
    unfold xw AR
    refine m DC ?_
    have hd:(((List.range R.length).map (dY R)).map Int.ofNat |>.map PyData.int)[i]?=some (.int (dY R i:Nat)):=by
     refine m fm (m fm (m fm (m (List.getElem?_range aH) ?_)));rfl
    exact⟨fk.one (bL.cmp bf.base (H.mL bf (H.name bf (x:="due") (d:=re ((List.range R.length).map (dY R))) rfl) (H.name bf (x:="k") (d:=.int (i:Nat)) rfl) (by refine m (bD _) ?_;rewrite[bD,bD];refine m od ?_;exact au) hd) (H.name bf (x:="k") (d:=.int (i:Nat)) rfl) (cH.ne ba (hC _) (hC _) (by refine m (xl _ _) ?_;simp))),λ_=>H.mL bf (H.name bf (x:="due") (d:=re ((List.range R.length).map (dY R))) rfl) (H.name bf (x:="k") (d:=.int (i:Nat)) rfl) (by refine m (bD _) ?_;rewrite[bD,bD];refine m od ?_;exact au) hd⟩
   ·refine m (bD _) (m (bD _) (m (bD _) ?_));show _+1<=1000;exact c2 (iv (aK jw cL) (cG _))) qD.1 qD.2)
  (cH.ne ba (hC _) (hC _) (by rw[xl];simp))
end
noncomputable def x2 (R:List cO):List (Str×PyData):=[("texts",bE (cy R)),("pairs",fb (gN R)),("fits",.list ((oG R).map bE)),("told",bE (aC R)),("rows",.list ((jQ R).map bE))]
noncomputable def rI (R:List cO):List (Str×PyData):=x2 R++[(("merged":Str),bE (mD R))]
theorem Mv {ag cP:List Str} (I:∀x∈ag,PyData.strOk x=true) (aJ:∀x∈cP,PyData.strOk x=true):low (.list [bE ag,bE cP]):=by
 have d:∀hW:List Str,(bE hW).depth<=19:=λhW=>by unfold bE;simp[PyData.depth,zJ]
 refine ot λx h=>?_
 simp only[bP,b9,eH] at h
 rcases h with rfl|rfl
 ·exact⟨kc I,d _⟩
 ·exact⟨kc aJ,d _⟩
theorem OX (ag:List Str):PyData.eqv (.list [bE ag,bE ag]) (.list [bE ag,bE ag])=true:=by
 have e:=xt ag
 have bt:PyData.eqv (bE ag) (bE ag)=true:=e
 simp[PyData.eqv,PyData.eqvAll,bt]
section
variable {Y:List Addr} {k:Nat} {R:List cO}
theorem Ln (ba:b0 (k+6) D) (al:s.scope.names=fu) (aL:gb R)
  (C:gn Q U ai ak s bw R 11 o) (h:∀y,aw Q U ai [] ak s {az:=dl (x2 R)} y->bl B A D aZ s G M y):bl B A D (jn.getD 13 (.Pass ⟨0,0,0,0⟩)::aZ) s G M o:=by
 have aa:=C.aI
 have cL:=aL.cL
 refine gA (d:=.list ((jQ R).map bE)) C (H.call aa (bi.glob aa (a8 al rfl) (by exact iT (by kernel_rfl))) (by simp) (bK.cons aa.base (H.name aa (x:="texts") (d:=bE (cy R)) rfl) (bK.cons aa.base (H.name aa (x:="pairs") (d:=fb (gN R)) rfl) bK.nil)) (Qf (k:=k) ba (by refine m (jM aL) ?_;exact aK ‹_› (by decide)) (aK (pairs_len aL) (by decide)) (λt _=>Fv aL t) (jm aL) (Eb aL)) (λC=>C.qT.fn) ⟨_,_,rfl,rfl⟩) (.inl (a8 al rfl)) λy a4=>?_
 exact h y (a4.norm [] (x2 R) [] rfl ⟨rfl,rfl,rfl,rfl,rfl,trivial⟩ trivial)
theorem LV (ba:b0 (k+6) D) (al:s.scope.names=fu) (av:s.cells=cellsFrom (s.locals+1) fu []) (aL:gb R)
  (C:aw Q U ai [] ak s {az:=dl (x2 R)} o) (h:∀y,aw Q U ai [] ak s {az:=dl (rI R)} y->bl B A D aZ s G M y):bl B A D (jn.getD 14 (.Pass ⟨0,0,0,0⟩)::aZ) s G M o:=by
 have aa:=C.aI
 have cL:=GG aL
 have V5:=G0 aL
 refine gA (d:=bE (mD R)) C (H.nG (k:=k+5) ba aa (a8 al rfl) al rfl rfl (by refine m av ?_;rfl) (λaY bG=>⟨a8 bG.names rfl,a8 bG.names rfl⟩) rfl (NW aL) (by exact ki ‹_› (by decide)) (by exact aK ‹_› (by decide)) (λr aV=>aK (w4 aL aV).1 (by decide)) (λr aV x I=>jm aL x ((w4 aL aV).2 x I)) rfl) (.inl (a8 al rfl)) λy a4=>?_
 exact h y (a4.norm [] (rI R) [] rfl ⟨rfl,rfl,rfl,rfl,rfl,rfl,trivial⟩ trivial)
theorem O8 (ba:b0 (k+6) D) (e9:D.frames=some (s::l)) (bb:s.frame=some s.locals) (F:ek l [] ak) (al:s.scope.names=fu) (aL:gb R)
  (C:aw Q U ai [] ak s {az:=dl (rI R)} o) (h:∀bX y,el (du l) ak bX->aw Q U ai [] bX s {az:=dl (rI R)} y->bl B A D aZ s G M y):bl B A D (jn.getD 15 (.Pass ⟨0,0,0,0⟩)::aZ) s G M o:=by
 have aa:=C.aI
 have cL:=GG aL
 have V5:=G0 aL
 refine xP (mM ?_ (by with_unfolding_all rfl))
 refine(H.name aa (x:="merged") (d:=bE (mD R)) rfl).ap o _ _ (an.refl _) λdX aj aq c8=>?_
 have bc:=(C.step aq).bM c8
 have jX:=bc.aI
 refine EW (k:=k+1) ba e9 bb F bc rfl (a8 al rfl) (bK.cons jX.base (H.call jX (bi.glob jX (a8 al rfl) (by exact iT (by kernel_rfl))) (by simp) (bK.cons jX.base (H.name jX (x:="rows") (d:=.list ((jQ R).map bE)) rfl) bK.nil) (JZ (k:=k+5) ba (jQ R) (by exact aK ‹_› (by decide)) (λr aV=>aK (w4 aL aV).1 (by decide)) (λr aV x I=>jm aL x ((w4 aL aV).2 x I))) (λC=>C.q2.fn) ⟨_,_,rfl,rfl⟩) (bK.cons jX.base (H.name jX (x:="pairs") (d:=fb (gN R)) rfl) bK.nil))
  (xZ aL) (x1 aL) (aK (pairs_len aL) (by decide)) (by exact aK ‹_› (by decide)) (Pw aL) (λx I=>E3 aL x ((oN aL).3 x I)) λbX dU aB u aQ=>?_
 have lo:low (bE (mD R)):=kc (Ad aL)
 refine cH.ne ba lo lo (b:=false) ?_ aB dX dU _ M ((aQ.ic _ (.tail _ (.head _))).weak λ_ q=>by cases q) ((aQ.ic _ (.head _)).weak λ_ q=>by cases q) λax a7=>iq ?_
 ·refine m (show bE (mD R)=.list _ from rfl) ?_;rewrite[xt];rfl
 ·exact b8 (h bX ax u ((aQ.step a7).norm [] (rI R) [] rfl ⟨rfl,rfl,rfl,rfl,rfl,rfl,trivial⟩ trivial))
theorem LF (ba:b0 (k+6) D) (al:s.scope.names=fu) (av:s.cells=cellsFrom (s.locals+1) fu []) (aL:gb R)
  (C:aw Q U ai [] ak s {az:=dl (rI R)} o) (h:∀y,aw Q U ai [] ak s {az:=dl (rI R)} y->G (.ret (.bool true)) y):bl B A D (jn.getD 16 (.Pass ⟨0,0,0,0⟩)::aZ) s G M o:=by
 have aa:=C.aI
 have bj:=ba.h
 have lo:=Mv (jm aL) (jm aL)
 refine hv (d:=.bool true) C (H.cmp aa.base (f0.l0 aa (h5 (λx=>[("order",x)]) (λ_=>true) (λ_=>bE (cy R)) aa bj al rfl rfl (by refine m av ?_;rfl) (H.tuple aa (bK.cons aa.base (H.name aa (x:="told") (d:=bE (aC R)) rfl) (bK.cons aa.base (H.name aa (x:="merged") (d:=bE (mD R)) rfl) bK.nil))) (.tuple _) (by show 2<=1000;decide) (by intro _;rfl)
  (λaY bG x I=>fp.name (.inr ⟨a8 bG.names rfl,_,by refine m bG.cells ?_;rfl,sL _⟩)) (λx I q aS=>by refine m (cn.mp aS) ?_;rfl) (λaY bG d hd eP y dr bf=>⟨fk.nil,λ_=>?_⟩)) (hW:=[bE (cy R),bE (cy R)]) rfl) (H.list aa (bK.cons aa.base (H.name aa (x:="texts") (d:=bE (cy R)) rfl) (bK.cons aa.base (H.name aa (x:="texts") (d:=bE (cy R)) rfl) bK.nil))) (cH.eq ba lo lo (OX _))) λv y a4 r=>?_
 ·have hd:d∈[bE (aC R),bE (mD R)]:=hd
  have key:∀aG:List Str,d=bE aG->aG.Perm (cy R)->(aG.Pairwise λx E=>(E,x)∉gN R)->(∀x∈aG,PyData.strOk x=true)->∀i,i < R.length->lS aG (ec R i)=some ((cy R).getD i ""):=λaG _ af fG _ i aH=>KL aL aH af fG
  simp only[bP,b9,eH] at hd
  rcases hd with rfl|rfl
  ·exact H.z2 (k:=k+3) (w:="order") (aG:=aC R) ba aL bf bG.names rfl rfl (by refine m bG.cells (m av ?_);rfl) (λeW qg=>⟨a8 qg.names rfl,a8 qg.names rfl⟩) rfl rfl rfl rfl (FC aL) (by decide) (by decide) (by decide) (key _ rfl (xy aL) (Ap (nD aL)) (FC aL)) (jM aL)
  ·exact H.z2 (k:=k+3) (w:="order") (aG:=mD R) ba aL bf bG.names rfl rfl (by refine m bG.cells (m av ?_);rfl) (λeW qg=>⟨a8 qg.names rfl,a8 qg.names rfl⟩) rfl rfl rfl rfl (Ad aL) (by decide) (by decide) (by decide) (key _ rfl (Ge aL) (Ap (xZ aL)) (Ad aL)) (jM aL)
 ·refine m r.bool_inv ?_;exact h y a4
end
section
variable {Y:List Addr} {k:Nat}
theorem Ki (ba:b0 (k+7) D) (e9:D.frames=some []) (C:Base Q U o.heap) (jy:FnAt o.heap 246 (dh 25) "law" .none) (ar:bw.length<=63) (aJ:∀E∈Y,E < o.heap.objs.size) (eX:aO Y o.heap v (.list (bw.map .int))):
  codeAny (model B A) D (.call (.ref 246) ⟨[v],[]⟩) (λr y=>r=.ok (.ret (.bool true))/\∃dD,el [] o dD/\an dD y) o:=by
 have aL:=M4 bw
 refine oi (Z:=[]) (ai:=Y) (K:={az:=dl ((lq bw (sM bw)).take 1)}) fu ["script"] ba.room C (λz q=>(b9 q).elim) aJ (λp q=>(b9 q).elim) (λp q=>(b9 q).elim) hM (λp q=>(b9 q).elim)
  (λx bB e=>?_) (λx v e=>by cases e) jy rfl rfl rfl rfl (λbs cd=>rfl) rfl (by decide) (by decide) λaj s al av hJ bc=>?_
 ·have hm:=gq e
  rw[show(lq bw (sM bw)).take 1=[(("script":Str),PyData.list (bw.map .int))] from rfl,cn] at hm
  obtain⟨rfl,rfl⟩:=gv hm
  exact⟨v,.head _,eX⟩
 have R:=ba.deeper s
 have bb:=hJ.3
 have nr:(D.deeper s).frames=some [s]:=u5 e9
 generalize iK:sM bw=bo at *
 refine ND R al av ar iK bc λaB aQ=>?_
 refine M7 R al av aL aQ λax bh=>?_
 refine KD R al av aL bh λb2 be=>?_
 refine J1 R al av aL be λcm bJ=>?_
 refine Nz R al av aL bJ λds b6=>?_
 refine Mm R al av aL b6 λfK c1=>?_
 refine Ok R al av aL c1 λgS cS=>?_
 refine Px R al av aL cS λgG cT=>?_
 refine PW R al av aL cT λlO e8=>?_
 refine Pn R al av aL e8 λsj ku=>?_
 refine Of R nr bb (ek.nil o) al av aL ku λV6 yw V7 jd=>?_
 refine Qk R al av aL jd λyB k5=>?_
 refine OD R al av aL k5 λyC qB=>?_
 refine Ln R al aL qB λCg v1=>?_
 refine LV R al av aL v1 λv9 wa=>?_
 refine O8 R nr bb (ek.nil V6) al aL wa λV8 yI yE wb=>?_
 exact LF R al av aL wb λy a4=>⟨rfl,V8,V7.trans yE,a4.ex.ex⟩
end
theorem Qt {h:Heap} {P:Addr} (e:h.get? c=some w) (k:m5 P w):isCodeTable h P:=by
 obtain⟨J,_,_,_,_,_,_,_,md,eW,nG,_⟩:=k
 exact⟨c,w,J,e,md,eW,nG⟩
theorem MA {b:Addr} (h:tab b=true):b=59∨b=219∨b=231:=by simpa [tab,or_assoc] using h
noncomputable def z9 (h:Heap):Prop:=ce (h.get? 59=some (tabObj #[])) (h.get? 219=some (tabObj #[])) (h.get? 231=some (tabObj #[]))
theorem K5 (C:Base Q U o.heap) (n7:z9 o.heap) (u:el [] o dD) (x:an dD y):ce (OldK o.heap y.heap) (y.os=o.os) (y.gens=o.gens):=by
 have E:an o y:=((u.cw (λa h=>by cases h)).ex).trans x
 have wy:=E.tabs C.tabs
 have DD:∀{b:Addr} {J:Array Value},isCodeTable o.heap b->o.heap.get? b=some (tabObj #[])->y.heap.get? b=some (tabObj J)->∀w,o.heap.get? b=some w->asItWas o.heap y.heap b w:=λ{b J} av e bt w aP=>by
  rw[e] at aP;cases aP
  refine .inr (.inl ⟨av,rfl,#[],J,rfl,?_⟩)
  exact m bt (m Array.empty_append rfl)
 have st:∀c P,(c,m5 P)∈statics->isCodeTable o.heap P:=λc P h=>let ⟨w,e,k⟩:=C.st _ h;Qt e k
 have key:∀b w,o.heap.get? b=some w->asItWas o.heap y.heap b w/\∃bA,y.heap.get? b=some bA:=λb w e=>by
  cases bu:tab b with
  |false=>exact⟨.inl (E.keep b w bu e),w,E.keep b w bu e⟩
  |true=>
   rcases MA bu with rfl|rfl|rfl
   ·obtain⟨J,q,_⟩:=wy.tb
    exact⟨DD (st 63 59 (fc (i:=7) rfl)) n7.1 q w e,_,q⟩
   ·obtain⟨J,q,_⟩:=wy.oa
    exact⟨DD (st 223 219 (fc (i:=3) rfl)) n7.2 q w e,_,q⟩
   ·obtain⟨J,q,_⟩:=wy.q7
    exact⟨DD (st 233 231 (fc (i:=4) rfl)) n7.3 q w e,_,q⟩
 obtain⟨h,t,e⟩:=E.same
 exact⟨⟨λb w e=>(key b w e).1,λb w e=>(key b w e).2⟩,by exact m e rfl,by exact m e rfl⟩
theorem DX {P:Params} {h:Heap}:∀{eQ:List Int} {J:List Value},WellAll P h J (ofPys (eQ.map .int))->bR [] h J (eQ.map .int)
 |[],J,h=>by cases h;exact .nil
 |i::eQ,J,h=>by
  cases h with
  |cons a q=>cases a;exact .cons (.int i _) (DX q)
theorem Nf {P:Params} {h:Heap} (A:Well P h v (ofPy (.list (eQ.map .int)))):aO [] h v (.list (eQ.map .int)):=by
 cases A with
 |list e q=>exact .list (λq=>by cases q) e (DX q)
theorem NH {P:Params} {h:Heap} (g:h.Ns mainGlobals Q) (b:h.Ns builtinsNs U) (X:(KB P).In h) (aA:∀x:Str,x≠"__name__"->U x=bootBuiltins x):Ao Q U where
 g:=by
  refine AllP.mem (l:=uH) ⟨?_,?_,?_,?_,?_,?_,?_,?_,?_,?_,?_,?_,?_,?_,?_,?_,?_,trivial⟩<;>exact mg_of X g (by kernel_rfl)
 b:=by
  refine AllP.mem (l:=ob) ⟨?_,?_,?_,?_,?_,?_,?_,?_,?_,?_,?_,?_,?_,?_,?_,trivial⟩<;>exact⟨mg_none_of X g (by kernel_rfl),(aA _ (by decide)).trans (by kernel_rfl)⟩
 out:=⟨_,mg_of (v:=.int (-1) 370) X g (by kernel_rfl)⟩
 done:=⟨_,mg_of (v:=.int (-2) 373) X g (by kernel_rfl)⟩
 bm:=mg_of X g (by kernel_rfl)
structure Gj (h:Heap):Prop where
 qX:FnAt h 50 (dh 4) "liberal_is_HDN" .none
 pL:FnAt h 57 (dh 5) "user_domain_match" .none
 rk:FnAt h 64 (dh 7) "cmp_to_key" .none
 q1:FnAt h 78 (dh 10) "_c3_merge" .none
 rE:FnAt h 203 (dh 18) "_law_rules" .none
 q8:FnAt h 210 (dh 19) "_law_host" .none
 rG:FnAt h 217 (dh 20) "_law_holds" .none
 q3:FnAt h 224 (dh 21) "_law_judge" .none
 rH:FnAt h 229 (dh 22) "_law_run" .none
 qT:FnAt h 234 (dh 23) "_law_rows" .none
 q2:FnAt h 241 (dh 24) "_law_listing" .none
 q4:FnAt h 73 (dh 9) "reduce" (.ref 66)
 Ar:FnAt h 246 (dh 25) "law" .none
theorem Ny {cl:Str->Option Addr} {JN:ExcName->Option Value} (g:o.heap.Ns mainGlobals Q) (b:o.heap.Ns builtinsNs U) (lim:o.heap.NoLimit) (aA:∀x:Str,x≠"__name__"->U x=bootBuiltins x) (X:(KB A.params).In o.heap) (n7:z9 o.heap) (F:Gj o.heap)
  (S:∀q∈statics,∃w,o.heap.get? q.1=some w/\q.2 w) (bW:o.gens=#[]) (ik:Well A.params o.heap v (ofPy (.list (bw.map .int)))) (ar:bw.length<=63):
  wpAny (model PySem.Challenge.rw_il0181_01.row.prog A) callerA (PySem.call (.ref 246) [v]) (λu y=>GoodWG PySem.Challenge.rw_il0181_01.row.claim cl JN [ofPy (.list (bw.map .int))] o (.ok (.ret u)) y) (λe y=>GoodWG PySem.Challenge.rw_il0181_01.row.claim cl JN [ofPy (.list (bw.map .int))] o (.error e) y) o:=by
 have fj:247<=o.heap.objs.size:=by
  obtain⟨_,_,_,_,_,_,e,_⟩:=F.Ar
  exact dL e
 have C:Base Q U o.heap:=⟨g,b,lim,NH g b X aA,⟨⟨_,n7.2,.inl rfl⟩,⟨_,n7.3,.inl rfl⟩,⟨_,n7.1,.inl rfl⟩⟩,fj,F.qX,F.pL,F.rk,F.q1,F.rE,F.q8,F.rG,F.q3,F.rH,F.qT,F.q2,F.q4,S,_,X⟩
 have ba:b0 (0+7) callerA:=⟨by decide,by decide,rfl⟩
 refine hg (h4 (Ki (k:=0) (Y:=[]) ba rfl C F.Ar ar (λE q=>by cases q) (Nf ik)) λr y aV=>?_)
 obtain⟨rfl,dD,u,x⟩:=aV
 obtain⟨h0,g3,gF⟩:=K5 C n7 u x
 exact⟨.inl ⟨.bool true,.bool true,[],rfl,λnb=>rfl,.bool true,postW_of (by wrow_shape) (by wtm_val) (by first|rfl|(str_meet;first|done|w_fin)),unshared_nil⟩,h0,g3,.of_eq (gF.trans bW)⟩
section
open PySem.W.X
theorem D5:∀{l r:Frag},l.lookup a=some w->(l++r).lookup a=some w
 |[],_,h=>by cases h
 |(b,x)::l,r,h=>by
  refine m vi (m g9 ?_)
  rw[g9] at h
  cases aA:a==b with
  |true=>rw[aA] at h;exact h
  |false=>rw[aA] at h;exact D5 h
noncomputable def AY:Option Obj->Option Value
 |some ⟨_,_,.fields J,_⟩=>J[1]?
 |_=>none
theorem OU {w:Option Obj} (h:AY w=some v):cp λjY J=>ce (w=some jY) (jY.data=.fields J) (J[1]?=some v):=by
 unfold AY at h
 split at h
 ·exact⟨_,_,rfl,rfl,h⟩
 ·cases h
theorem lr {P:Params} {h:Heap} {st:Stmt} (X:(pu P).In h) (bs:Value) (t:Tok) (aX:a < 247) (a5:(pu P).lookup a=some {cls:=.type "function",data:=.func (fdOf st q em bs (.ref (a - 1)))})
  (cu:tab (a - 1)=false) (ej:AY ((pu P).lookup (a - 1))=some (.str q t)):FnAt h a st q em:=by
 obtain⟨bF,J,e,d,q⟩:=OU ej
 exact⟨aX,bs,_,bF,J,t,X _ _ a5,rfl,cu,X _ _ e,d,q⟩
noncomputable def FW:Value:=.str "cpy313.http.cookiejar" 289
noncomputable def zE:Value:=.str "cpy313.functools" 337
noncomputable def p7:Value:=.str "law_il0181_01" 549
theorem Mj {P:Params} {h:Heap} (X:(pu P).In h):Gj h where
 qX:=lr X FW 322 (by decide) (by kernel_rfl) rfl (by kernel_rfl)
 pL:=lr X FW 329 (by decide) (by kernel_rfl) rfl (by kernel_rfl)
 rk:=lr X zE 340 (by decide) (by kernel_rfl) rfl (by kernel_rfl)
 q1:=lr X zE 362 (by decide) (by kernel_rfl) rfl (by kernel_rfl)
 rE:=lr X p7 552 (by decide) (by kernel_rfl) rfl (by kernel_rfl)
 q8:=lr X p7 558 (by decide) (by kernel_rfl) rfl (by kernel_rfl)
 rG:=lr X p7 565 (by decide) (by kernel_rfl) rfl (by kernel_rfl)
 q3:=lr X p7 574 (by decide) (by kernel_rfl) rfl (by kernel_rfl)
 rH:=lr X p7 583 (by decide) (by kernel_rfl) rfl (by kernel_rfl)
 qT:=lr X p7 589 (by decide) (by kernel_rfl) rfl (by kernel_rfl)
 q2:=lr X p7 595 (by decide) (by kernel_rfl) rfl (by kernel_rfl)
 q4:=lr X zE 350 (by decide) (by kernel_rfl) rfl (by kernel_rfl)
 Ar:=lr X p7 605 (by decide) (by kernel_rfl) rfl (by kernel_rfl)
theorem L9 {P:Params} {h:Heap} (X:(pu P).In h):∀q∈statics,∃w,h.get? q.1=some w/\q.2 w:=by
 refine AllP.mem (l:=statics) ⟨?_,?_,?_,?_,?_,?_,?_,?_,trivial⟩
 ·exact⟨_,X 43 _ rfl,_,_,_,rfl⟩
 ·exact⟨_,X 42 _ rfl,rfl⟩
 ·exact⟨_,X 4 _ rfl,rfl,rfl,rfl⟩
 ·exact⟨_,X 223 _ rfl,_,_,_,_,_,_,_,_,rfl,rfl,rfl,rfl,rfl,rfl,rfl,rfl⟩
 ·exact⟨_,X 233 _ rfl,_,_,_,_,_,_,_,_,rfl,rfl,rfl,rfl,rfl,rfl,rfl,rfl⟩
 ·exact⟨_,X 66 _ rfl,_,rfl⟩
 ·exact⟨_,X 65 _ rfl,rfl⟩
 ·exact⟨_,X 63 _ rfl,_,_,_,_,_,_,_,_,rfl,rfl,rfl,rfl,rfl,rfl,rfl,rfl⟩
end
section
open PySem.W.X
open Il
end
end Il
open PySem PySem.W PyProof.Rows Il PySem.W.X
theorem PySem.Challenge.cw_il0181_01_holds : PySem.Challenge.rw_il0181_01.Holds := by
 refine holds_law (by kernel_rfl) λV9=>?_
 refine holds_open (q:=va) (loose:=lo) (Xt:=λo=>xlAt va [] o&&recOk (RowW.records PySem.Challenge.rw_il0181_01.row.toRowW) o) (XP:=XL va []) (Yf:=Hook.obs qU) (Ya:=Hook.val qU) (YP:=Hook.says qU) (N:=3224) left (Hook.of qU) (Hook.keeps qU) (λo e=>xl_of o (Bool.and_eq_true_iff.mp e).1) XL.keeps (by rfl) (by rfl) (by rfl) (λo e=>recFacts_of (Bool.and_eq_true_iff.mp e).2) (by rfl) V9 (by decide+kernel) ⟨rfl,rfl,rfl,rfl,rfl,by decide+kernel⟩ ⟨[.list []],by decide+kernel,by decide+kernel⟩ ?_
 intro A ak aj Q U jx Y v2 w bs cd Xs em Xu aP hd Xv cW Wa bW args BZ as Wb Wc pi Wd tH
 have sH:(pu A.params).In aj.heap:=kIn_of Y
 refine Ground.open jx ?_
 intro T C O Xw Xx
 wrow_args Wb Wc pi Wd tH
 obtain rfl:246=v2:=Value.ref.inj (Option.some.inj ((mg_of (v:=.ref 246) sH T.g (by kernel_rfl)).symm.trans Wa))
 have X:(KB A.params).In aj.heap:=λa w e=>sH a w (D5 e)
 have n7:z9 aj.heap:=⟨sH 59 _ (by kernel_rfl),sH 219 _ (by kernel_rfl),sH 231 _ (by kernel_rfl)⟩
 exact Ny T.g T.b T.nolimit T.builtins X n7 (Mj sH) (L9 sH) bW (by assumption) (by(first|assumption|lia|omega))
