import PyProof.Rows.All
import Wide.All
import OpenK.AllK
import Wide.FinOn
import Lean
import PySem.Challenge.RW_ba0005_01
set_option Elab.async false
set_option linter.unusedVariables false
set_option maxRecDepth 100000
set_option genSizeOf false
set_option genInjectivity false
open PySem PySem.W PyProof.Rows PySem.Calls
open Sem (wp)
namespace Mine
def q_N(k:Lean.Name)(l:Array Lean.Syntax):Lean.Syntax:=.node .none k l
def q_A(x:String):Lean.Syntax:=.atom .none x
def q_S(l:Array Lean.Syntax):Lean.Syntax:=q_N `Lean.Parser.Tactic.tacticSeq #[q_N `Lean.Parser.Tactic.tacticSeq1Indented #[q_N `null l]]
def q_I(x:Lean.Syntax):Lean.Syntax:=q_S #[q_N `Lean.Parser.Tactic.intros #[q_A "intros",q_N `null #[]],q_A ";",x]
def q_F:Lean.Syntax:=q_N `Lean.Parser.Tactic.tacticRfl #[q_A "rfl"]
def q_R:Lean.Syntax:=q_I q_F
def q_K:Lean.Syntax:=q_I (q_N `tacticKernel_rfl #[q_A "kernel_rfl"])
def q_W:Lean.Syntax:=q_I (q_N `Lean.Parser.Tactic.withUnfoldingAll #[q_A "with_unfolding_all",q_S #[q_F]])
def q_H:Lean.Syntax:=q_N `Lean.Parser.Term.hole #[q_A "_"]
def q_P:Lean.Syntax:=q_I (q_N `Lean.Parser.Tactic.exact #[q_A "exact",q_N `Lean.Parser.Term.anonymousCtor #[q_A "⟨",q_N `null #[q_H,q_A ",",.ident .none "rfl".toRawSubstring `rfl []],q_A "⟩"]])
noncomputable section
abbrev fU:=@Option.some.inj
abbrev bP:=@Bool.and_eq_true_iff
abbrev ad:=@wpAny_mono
abbrev gb:=@List.nodup_nil
abbrev aA:=@Nat.lt_of_lt_of_le
abbrev cL:=@Nat.le_of_ble_eq_true
abbrev bp:=@Nat.lt_of_le_of_lt
abbrev ae:=@Nat.le_trans
abbrev iH:=@Nat.add_le_add_left
abbrev wg:=@Int.lt_of_lt_of_le
abbrev bV:=@Int.ofNat_lt
abbrev ci:=@of_decide_eq_true
abbrev sS:=@Int.lt_of_le_of_lt
abbrev cY:=@Int.ofNat_le
abbrev jb:=@Int.le_trans
abbrev jc:=@Nat.le_add_left
abbrev aX:=@Nat.add_le_add_right
abbrev fO:=@Nat.add_comm
abbrev bi:=@Heap.size_push
abbrev bY:=@Nat.le_succ
abbrev av:=@List.not_mem_nil
abbrev sT:=@List.cons_ne_nil
abbrev al:=@List.mem_append_right
abbrev iu:=@List.append_assoc
abbrev aB:=@Nat.le_refl
abbrev aH:=@Nat.le_of_eq
abbrev dH:=@Heap.SameBut.update
abbrev lD:=@Nat.ne_of_lt
abbrev bI:=@if_pos
abbrev bj:=@if_neg
abbrev aO:=@Heap.lt_size
abbrev aw:=@Nat.not_lt
abbrev lE:=@Array.getElem?_eq_some_iff
abbrev aq:=@List.mem_append_left
abbrev aj:=@List.mem_append
abbrev pw:=@Nat.mul_le_mul_left
abbrev jd:=@Nat.lt_of_succ_lt
abbrev iw:=@Nat.add_right_comm
abbrev ac:=@wpAny_pure
abbrev be:=@List.mem_of_getElem?
abbrev sU:=@wpAny_loadName_local
abbrev sV:=@wpAny_loadName_cell
abbrev pz:=@wpAny_loadName_free
abbrev pA:=@Name_function_global
abbrev pB:=@loadGlobal_builtin
abbrev sW:=@wpAny_isTrue_Compare1
abbrev gW:=@wpAny_truthy_bool
abbrev pC:=@List.any_cons
abbrev je:=@spliced_cons
abbrev aa:=@wpAny_bind
abbrev ct:=@wpAny_standAt
abbrev aP:=@wpAny_holding
abbrev bd:=@List.all_eq_true
abbrev cj:=@List.mem_map_of_mem
abbrev a9:=@List.mem_map
abbrev dO:=@callWith_of
abbrev dP:=@Bool.false_or
abbrev gX:=@List.any_eq_false
abbrev cP:=@List.map_map
abbrev cZ:=@wpAny_execs_nil
abbrev bE:=@wpAny_execs_cons
abbrev et:=@Heap.get?_update_self
abbrev b8:=@List.getElem?_eq_some_iff
abbrev mz:=@List.getElem_inj
abbrev ix:=@List.getElem?_set_self
abbrev fP:=@List.getElem?_set_ne
abbrev jX:=@Bool.or_eq_true_iff
abbrev aL:=@beq_iff_eq
abbrev ba:=@List.contains_iff_mem
abbrev mA:=@wpAny_Assign_Name
abbrev jY:=@wpAny_Return_some
abbrev bt:=@List.mem_cons_of_mem
abbrev gY:=@Ne.symm
abbrev eW:=@wpAny_field
abbrev jZ:=@wpAny_setField
abbrev aY:=@congrArg
abbrev dQ:=@wpAny_newObj_type
abbrev aC:=@List.mem_cons
abbrev dR:=@Nat.lt_succ_self
abbrev fQ:=@Nat.lt_succ_of_lt
abbrev bf:=@Heap.get?_push_size
abbrev aV:=@Heap.get?_push_of_some
abbrev cE:=@Nat.ne_of_gt
abbrev aW:=@Nat.le_add_right
abbrev mB:=@Array.getElem?_eq_getElem
abbrev c0:=@List.append_nil
abbrev mD:=@Nat.le_of_succ_le
abbrev iy:=@List.lookup_cons
abbrev ey:=@beq_eq_false_iff_ne
abbrev bz:=@Nat.lt_irrefl
abbrev lF:=@pushCells_keeps
abbrev mE:=@List.forIn_cons
abbrev dI:=@Nat.lt_trans
abbrev lG:=@wpAny_alloc
abbrev cz:=@List.map_cons
abbrev jf:=@List.nodup_cons
abbrev cQ:=@Nat.le_of_lt
abbrev bk:=@List.mem_filter
abbrev c8:=@decide_eq_true
abbrev dS:=@List.mem_cons_self
abbrev cA:=@Looks.of_peek
abbrev iI:=@wpAt_of_wpAny
abbrev cB:=@any_some
abbrev e6:=@List.isEmpty_iff
abbrev jv:=@Nat.le_of_succ_le_succ
abbrev mF:=@List.mem_of_mem_take
abbrev bQ:=@wpAny_call
abbrev bN:=@codeAny_mono
abbrev jw:=@List.length_take
abbrev e7:=@List.size_toArray
abbrev iJ:=@plainGet_of
abbrev mG:=@Attribute_any_
abbrev cR:=@Looks.of_pure
abbrev mH:=@List.map_set
abbrev dw:=@List.getElem?_map
abbrev bg:=@Bool.and_eq_true
abbrev iK:=@sizeLine_eq
abbrev ah:=@List.mem_singleton
abbrev bW:=@List.map_append
abbrev mI:=@plainObj_wpAny_Assign_Attribute
abbrev pQ:=@wpAny_unpackItems_tuple
abbrev jx:=@wpAny_assign_Name
abbrev da:=@wpAny_rule
abbrev fB:=@looks_findIn
abbrev mJ:=@Nat.lt_add_of_pos_right
abbrev mK:=@Int.natCast_add
abbrev g3:=@methodCall_KW
abbrev eB:=@wpAny_call_entry
abbrev g4:=@typeIs_int
abbrev kG:=@wpAny_load
abbrev mM:=@Option.isSome_iff_exists
abbrev g5:=@wpAny_callSpecial?_slot
abbrev jy:=@Nat.le_antisymm
abbrev kH:=@List.length_nil
abbrev dT:=@Nat.zero_le
abbrev pR:=@wpAny_pyIter_list
abbrev pS:=@wpAny_pyNext_list_item
abbrev pT:=@wpAny_pyIter_listiter
abbrev pU:=@wpAny_pyNext_list_end
abbrev mN:=@Nat.le_of_not_lt
abbrev jz:=@beq_self_eq_true
abbrev pV:=@List.length_filterMap_le
abbrev pW:=@wpAny_list_append_plain
abbrev dU:=@List.length_append
abbrev dy:=@Bool.eq_iff_iff
abbrev mO:=@Int.ofNat_inj
abbrev kI:=@List.filter_cons
abbrev kJ:=@bne_iff_ne
abbrev cn:=@List.any_eq_true
abbrev g6:=@List.cons.inj
abbrev pX:=@slot_list_getitem
abbrev pY:=@wpAny_getItem_list
abbrev eM:=@wpAny_specialOf
abbrev jA:=@wpAny_operating
abbrev mP:=@wpAny_letTemporaryGo
abbrev mQ:=@Nat.gcd_comm
abbrev iL:=@Nat.mod_lt
abbrev mR:=@Nat.pos_of_ne_zero
abbrev fC:=@List.filter_congr
abbrev pZ:=@List.mem_flatMap
abbrev aI:=@List.mem_range
abbrev gf:=@Bool.not_eq_true'
abbrev g7:=@Bool.not_eq_true
abbrev g8:=@Nat.mul_le_mul_right
abbrev eN:=@intKind_is
abbrev mS:=@Int.ofNat.inj
abbrev jB:=@Heap.SameBut.refl
abbrev qa:=@wpAny_storeSet_of
abbrev e8:=@Bool.and_false
abbrev iM:=@List.Perm.refl
abbrev mT:=@List.length_eq_zero_iff
abbrev kK:=@Nat.le_zero
abbrev kN:=@Bool.or_eq_true
abbrev eO:=@wpAny_askSetting
abbrev bR:=@wpAny_of_eq
abbrev g9:=@bne_self_eq_false
abbrev mU:=@sub_set_self
abbrev iN:=@codeAny_call_builtin
abbrev kO:=@entryFor_alias
abbrev kP:=@wpAny_letGo
abbrev eC:=@Bool.false_ne_true
abbrev mV:=@wpAny_tryCatch
abbrev a0:=@List.length_map
abbrev dz:=@List.getElem?_eq_getElem
abbrev gh:=@wpAny_attempt
abbrev mW:=@List.getElem?_eq_none
abbrev mX:=@wpAny_handled
abbrev kQ:=@wpAny_throw
abbrev eQ:=@wpAny_isInstance
abbrev db:=@and_congr_right
abbrev qb:=@decide_eq_true_iff
abbrev jC:=@wpAny_Expr_any
abbrev qc:=@Int.toNat_natCast
abbrev qd:=@Sem.bind_eq_wrap'
abbrev fD:=@isSubtype_type
abbrev mY:=@Nat.not_lt_zero
abbrev iO:=@Nat.le_succ_of_le
abbrev mZ:=@List.sum_cons
abbrev cM:=@codeAny_builtin
abbrev eD:=@plainId_quiet
abbrev kR:=@wpAny_updateSeq
abbrev kS:=@call_function_tree
abbrev iP:=@wpAny_typeOf
abbrev jD:=@codeAny_of_tree
abbrev m1:=@Code.quiet_builtin
abbrev jE:=@getMethod_builtin
abbrev m2:=@F.plainAttrs_set
abbrev m3:=@F.slot_set_add
abbrev hG:=@List.length_cons
abbrev b9:=@Nat.zero_add
abbrev kT:=@Nat.not_le
abbrev fE:=@Exists.elim
abbrev iQ:=@List.foldl_cons
abbrev dc:=@List.length_range
abbrev m5:=@Nat.sub_self
abbrev qe:=@List.take_of_length_le
abbrev qf:=@List.filter_eq_self
abbrev eR:=@decide_eq_false
abbrev iR:=@Int.not_lt
abbrev qg:=@List.getElem?_append_left
abbrev kU:=@List.any_append
abbrev cy:=@Bool.and_true
abbrev m6:=@List.filter_append
abbrev m7:=@List.map_nil
abbrev gj:=@List.length_filter_le
abbrev bq:=@decide_eq_true_eq
abbrev kW:=@List.getElem_mem
abbrev eS:=@List.getD_eq_getElem?_getD
abbrev qh:=@Nat.ble_eq_true_of_le
abbrev iS:=@of_decide_eq_false
abbrev eE:=@List.length_set
abbrev gm:=@Nat.zero_lt_one
abbrev m8:=@Nat.lt_of_lt_of_eq
abbrev jF:=@Nat.lt_succ_of_le
abbrev m9:=@Bool.false_and
abbrev hW:=@Nat.lt_add_right
abbrev ng:=@Nat.le_sub_one_of_lt
abbrev qi:=@Nat.lt_add_of_pos_left
abbrev jG:=@Nat.mul_pos
abbrev kX:=@Bool.true_and
abbrev fF:=@decide_eq_decide
abbrev jH:=@wpAny_Try_except
abbrev nh:=@Bool.not_true
abbrev ni:=@List.filterMap_eq_map'
abbrev nj:=@List.isEmpty_map
abbrev eT:=@forall_congr'
abbrev jI:=@List.filter_eq_nil_iff
abbrev iT:=@exists_congr
abbrev hY:=@Bool.not_eq_false'
abbrev eU:=@List.filter_sublist
abbrev qj:=@List.filter_filter
abbrev hZ:=@List.countP_eq_length_filter
abbrev nk:=@List.countP_mono_left
abbrev qk:=@Bool.not_eq_false
abbrev kY:=@List.exists_mem_of_ne_nil
abbrev iU:=@Nat.le_of_lt_succ
abbrev nl:=@Nat.min_eq_left
abbrev ql:=@Nat.min_le_right
theorem ck{a b:Prop}{q:Prop}(h:a/\b)(k:a->b->q):q:=by
 obtain⟨c,d⟩:=h
 exact k c d
theorem dn{a b c:Prop}{q:Prop}(h:a/\b/\c)(k:a->b->c->q):q:=by
 obtain⟨f,d,e⟩:=h
 exact k f d e
theorem Ex{b c d a:Prop}{q:Prop}(h:b/\c/\d/\a)(k:b->c->d->a->q):q:=by
 obtain⟨i,e,g,f⟩:=h
 exact k i e g f
theorem Cd{b c d a e:Prop}{q:Prop}(h:b/\c/\d/\a/\e)(k:b->c->d->a->e->q):q:=by
 obtain⟨j,f,i,g,l⟩:=h
 exact k j f i g l
theorem Ey{g a c e d b f:Prop}{q:Prop}(h:g/\a/\c/\e/\d/\b/\f)(k:g->a->c->e->d->b->f->q):q:=by
 obtain⟨o,i,j,m,l,p,n⟩:=h
 exact k o i j m l p n
theorem dK{b:Type}{c:b->Prop}{q:Prop}(h:∃a,c a)(k:∀a,c a->q):q:=by
 obtain⟨a,d⟩:=h
 exact k a d
theorem bc{b:Type}{c d:b->Prop}{q:Prop}(h:∃a,c a/\d a)(k:∀a,c a->d a->q):q:=by
 obtain⟨a,f,e⟩:=h
 exact k a f e
theorem fG{b:Type}{c d e:b->Prop}{q:Prop}(h:∃a,c a/\d a/\e a)(k:∀a,c a->d a->e a->q):q:=by
 obtain⟨a,i,f,g⟩:=h
 exact k a i f g
theorem G9{b:Type}{d e f c:b->Prop}{q:Prop}(h:∃a,d a/\e a/\f a/\c a)(k:∀a,d a->e a->f a->c a->q):q:=by
 obtain⟨a,l,g,j,i⟩:=h
 exact k a l g j i
theorem FW{b:Type}{g c d f e:b->Prop}{q:Prop}(h:∃a,g a/\c a/\d a/\f a/\e a)(k:∀a,g a->c a->d a->f a->e a->q):q:=by
 obtain⟨a,m,i,j,n,l⟩:=h
 exact k a m i j n l
theorem FX{b:Type}{i c e g f d:b->Prop}{q:Prop}(h:∃a,i a/\c a/\e a/\g a/\f a/\d a)(k:∀a,i a->c a->e a->g a->f a->d a->q):q:=by
 obtain⟨a,n,j,l,p,m,o⟩:=h
 exact k a n j l p m o
theorem yK{c d:Type}{e:c->d->Prop}{q:Prop}(h:∃b a,e b a)(k:∀b a,e b a->q):q:=by
 obtain⟨b,a,f⟩:=h
 exact k b a f
theorem jJ{c d:Type}{e f:c->d->Prop}{q:Prop}(h:∃b a,e b a/\f b a)(k:∀b a,e b a->f b a->q):q:=by
 obtain⟨b,a,i,g⟩:=h
 exact k b a i g
theorem rU{c d:Type}{e f g:c->d->Prop}{q:Prop}(h:∃b a,e b a/\f b a/\g b a)(k:∀b a,e b a->f b a->g b a->q):q:=by
 obtain⟨b,a,l,i,j⟩:=h
 exact k b a l i j
theorem uf{c d:Type}{i e f g:c->d->Prop}{q:Prop}(h:∃b a,i b a/\e b a/\f b a/\g b a)(k:∀b a,i b a->e b a->f b a->g b a->q):q:=by
 obtain⟨b,a,m,j,l,n⟩:=h
 exact k b a m j l n
theorem Ha{c d:Type}{i j l g e f:c->d->Prop}{q:Prop}(h:∃a b,i a b/\j a b/\l a b/\g a b/\e a b/\f a b)(k:∀a b,i a b->j a b->l a b->g a b->e a b->f a b->q):q:=by
 obtain⟨a,b,o,r,n,m,s,p⟩:=h
 exact k a b o r n m s p
theorem FY{d e f:Type}{g i:d->e->f->Prop}{q:Prop}(h:∃c b a,g c b a/\i c b a)(k:∀c b a,g c b a->i c b a->q):q:=by
 obtain⟨c,b,a,l,j⟩:=h
 exact k c b a l j
theorem i9{d e f:Type}{j g i:d->e->f->Prop}{q:Prop}(h:∃b a c,j b a c/\g b a c/\i b a c)(k:∀b a c,j b a c->g b a c->i b a c->q):q:=by
 obtain⟨b,a,c,n,l,m⟩:=h
 exact k b a c n l m
theorem wh{d e f:Type}{l g i j:d->e->f->Prop}{q:Prop}(h:∃b a c,l b a c/\g b a c/\i b a c/\j b a c)(k:∀b a c,l b a c->g b a c->i b a c->j b a c->q):q:=by
 obtain⟨b,a,c,o,m,n,p⟩:=h
 exact k b a c o m n p
theorem sX{d e f:Type}{j l m i g:d->e->f->Prop}{q:Prop}(h:∃b c a,j b c a/\l b c a/\m b c a/\i b c a/\g b c a)(k:∀b c a,j b c a->l b c a->m b c a->i b c a->g b c a->q):q:=by
 obtain⟨b,c,a,p,r,o,n,s⟩:=h
 exact k b c a p r o n s
theorem Hb{d e f:Type}{l m n j g i:d->e->f->Prop}{q:Prop}(h:∃b c a,l b c a/\m b c a/\n b c a/\j b c a/\g b c a/\i b c a)(k:∀b c a,l b c a->m b c a->n b c a->j b c a->g b c a->i b c a->q):q:=by
 obtain⟨b,c,a,r,t,p,o,u,s⟩:=h
 exact k b c a r t p o u s
theorem Hc{e f g i:Type}{l m n j:e->f->g->i->Prop}{q:Prop}(h:∃b c a d,l b c a d/\m b c a d/\n b c a d/\j b c a d)(k:∀b c a d,l b c a d->m b c a d->n b c a d->j b c a d->q):q:=by
 obtain⟨b,c,a,d,r,s,p,o⟩:=h
 exact k b c a d r s p o
theorem Hd{i j l g n m:Type}{o:i->j->l->g->n->m->Prop}{q:Prop}(h:∃e a f b c d,o e a f b c d)(k:∀e a f b c d,o e a f b c d->q):q:=by
 obtain⟨e,a,f,b,c,d,p⟩:=h
 exact k e a f b c d p
theorem He{j l m n o r p s:Type}{v w x u t:j->l->m->n->o->r->p->s->Prop}{q:Prop}(h:∃c f a i g b d e,v c f a i g b d e/\w c f a i g b d e/\x c f a i g b d e/\u c f a i g b d e/\t c f a i g b d e)(k:∀c f a i g b d e,v c f a i g b d e->w c f a i g b d e->x c f a i g b d e->u c f a i g b d e->t c f a i g b d e->q):q:=by
 obtain⟨c,f,a,i,g,b,d,e,A,B,z,y,C⟩:=h
 exact k c f a i g b d e A B z y C
noncomputable abbrev prg:Program:=PySem.Challenge.rw_ba0005_01.row.prog
noncomputable def S(x:String):Str:=Str.ofString x
noncomputable def en(P:Params)(k:String)(t:Nat)(v:Value):DictEntry:=⟨PyData.keyHash P (Str.ofString k),.str (Str.ofString k) t,v⟩
noncomputable def stG:Stmt->(Arguments×List Stmt×Scope)×Str×List Expr×Pos
 | .FunctionDef n a b d _ _ sc _ _ p=>((a,b,sc),n,d,p)
 | .ClassDef _ _ _ b _ _ _ _ _ _ _ | .For _ _ b _ _ | .While _ b _ _ | .If _ b _ _=>((⟨[],[],none,[],[],none,[]⟩,b,default), "",[],default)
 | _=>((⟨[],[],none,[],[],none,[]⟩,[],default), "",[],default)
noncomputable def stF(s:Stmt):Arguments×List Stmt×Scope:=(stG s).1
noncomputable def stC(s:Stmt):List Stmt:=(stF s).2.1
noncomputable def nth:List Stmt->Nat->Stmt
 | [],_=>.Pass default
 | s::_,0=>s
 | _::r,n+1=>nth r n
noncomputable def Ez(s:Stmt):Str×List Expr×Pos:=(stG s).2
noncomputable def znT(i:Nat):Stmt:=nth prg.main.body i
noncomputable def znM(i j:Nat):Stmt:=nth (stC (nth prg.main.body i)) j
noncomputable def fT(i:Nat):Arguments×List Stmt×Scope:=stF (nth prg.main.body i)
noncomputable def fM(i j:Nat):Arguments×List Stmt×Scope:=stF (nth (stC (nth prg.main.body i)) j)
noncomputable def fn(x:Arguments×List Stmt×Scope)(a b:Str)(g:Addr)(c:List (Str×Addr))(d k o m:Value)(n:Option Addr)(e t:Value)(u:Addr):FuncData :=
 { name:=a,qualname:=b,params:=x.1,body:=.stmts x.2.1,scope:=x.2.2,globals:=g,closure:=c,defaults:=d,kwdefaults:=k,doc:=o,pyModule:=m,annotations:=n,code:=e,closureTuple:=t,builtins:=u }
noncomputable def zsv(x:String)(t:Nat):Value:=.str (S x) t
noncomputable def ziv(k:Int):Value:=.int k 0
noncomputable def zrv(a:Nat):Value:=.ref a
noncomputable def zm0:Value:=.str (S "__main__") 164
noncomputable def zm1:Value:=.str (S "abcvoting.misc") 194
noncomputable def zm2:Value:=.str (S "itertools") 254
noncomputable def zm3:Value:=.str (S "abcvoting.misc") 433
noncomputable def zm4:Value:=.str (S "abcvoting.properties") 648
noncomputable def zm5:Value:=.str (S "abcvoting.preferences") 840
noncomputable def zm6:Value:=.str (S "law_ba0005_01") 1052
noncomputable def zss:Nat->List String->List Value
 | _,[]=>[]
 | t,x::r=>zsv x t::zss (t+1) r
noncomputable def zst:Nat->List Str->List Value
 | _,[]=>[]
 | t,x::r=>.str x t::zst (t+1) r
noncomputable def zer(P:Params):List (String×Nat×Nat)->List DictEntry
 | []=>[]
 | (k,t,a)::r=>en P k t (.ref a)::zer P r
noncomputable def ztt(c:Int):List (Int×Nat)->List Value
 | []=>[]
 | (l,a)::r=>ziv l::ziv c::zrv a::ztt c r
noncomputable def zfd(x:String)(l:List Value):Obj:=⟨.type x,none,.fields ⟨l⟩,#[]⟩
noncomputable def ztp(l:List Value):Obj:=⟨.type "tuple",none,.seq ⟨l⟩ 0,#[]⟩
noncomputable def ztb(c:Int)(l:List (Int×Nat)):Obj:=⟨.none,none,.fields ⟨ztt c l⟩,#[]⟩
noncomputable def zdc(l:List DictEntry)(k:Nat):Obj:=⟨.type "dict",none,.dict ⟨l⟩ k,#[]⟩
noncomputable def Ce(t:Nat):Value:=zsv "/claim/cut.py" t
noncomputable def zcc(a t:Nat)(x:String)(l:Int):Obj:=zfd "code" [zsv x t,zsv x (t+1),Ce (t+2),ziv l,ziv 0,ziv 0,ziv 0,ziv 0,zrv a,.bool false,ziv 181,zrv (a+1),.none,.none,.none,.none,ziv (t+3:Nat),ziv l,Ce (t+4)]
noncomputable def zfr(c n:Nat)(m:Value):Obj:=⟨.type "frame",none,.plain,#[some (zrv c),some (zrv 3),some (zrv n),none,some m,none,some (zrv 0)]⟩
noncomputable def zcl(a:Nat)(x b:String)(l:List Value)(n:Nat)(h:Bool)(sl:List Str)(c:List (Option Value)):Obj :=
 ⟨.type "type",none,.cls { name:=S x,bases:=[.type b],mro:=.ref a::l,ns:=n,qualname:=S x,hasDict:=h,slotNames:=sl,subclasses:=[],abstract:=false,collection:=none,hasDel:=false },⟨c⟩⟩
noncomputable def zzt(k:Bool)(a:Nat)(o:Obj)(w:List (Nat×Obj)):List (Nat×Obj):=bif k then w else(a,o)::w
noncomputable def zzl:Nat->List Obj->List (Nat×Obj)->List (Nat×Obj)
 | _,[],r=>r
 | n,o::l,r=>(n,o)::zzl (n+1) l r
noncomputable def zgp(e b:Bool)(a t:Nat)(s:Stmt)(q:String)(m d:Value)(f:Option Nat)(w:List (Nat×Obj)):List (Nat×Obj) :=
 let x:=stF s
 let n:=(Ez s).1
 let l:Nat:=firstLineOf (Ez s).2.1 (Ez s).2.2
 let k:=(localNames x.1 x.2.2 (.stmts [])).getD ([],[])
 let k:=bif b then k else([],[])
 let u:=t+3+k.1.length+k.2.length
 let v (i:Nat):Value:=bif b then zrv (a+i) else .none
 let c:=bif b then a+4 else a+2
 let r:=zzt e c ⟨.none,none,.func (fn x n (S q++n) 0 [] .none .none .none .none none .none .none 0),#[]⟩ <|
  (c+1,zfd "code" [.str n t,.str (S q++n) (t+1),Ce (t+2),ziv l,ziv (x.1.posonlyargs.length+x.1.args.length:Nat),ziv x.1.posonlyargs.length,ziv x.1.kwonlyargs.length,ziv (functionFlags x.1.vararg.isSome x.1.kwarg.isSome x.2.2 ⟨"",0,false,0⟩:Nat),zrv a,.bool true,ziv 181,zrv (a+1),.none,v 2,v 3,zrv c,ziv u,ziv l,Ce (u+1)]) ::
  (c+2,⟨.type "function",none,.func (fn x n (S q++n) 3 [] d .none .none m f (zrv (c+1)) .none 0),#[]⟩)::w
 (a,ztp [])::zzt e (a+1) (ztb 0 []) (bif b then(a+2,ztp (zst (t+3) k.1))::(a+3,ztp (zst (t+3+k.1.length) k.2))::r else r)
noncomputable def cS(e:Bool)(a t:Nat)(s:Stmt)(q:String)(m:Value)(w:List (Nat×Obj)):List (Nat×Obj):=zgp e true a t s q m .none none w
noncomputable def zbl(P:Params)(i:Nat):Obj:=(boot_heap P).objs.toList.getD i default
noncomputable def zhO(P:Params)(k:Bool)(a b c:Obj):List (Nat×Obj):=zzl 0 [zbl P 0,zbl P 1,a,b,zbl P 4,zbl P 5,zbl P 6,zbl P 7] <| zzt k 8 (zbl P 8) <| zzl 9 [zbl P 9,zbl P 10] (zzl 11 [ztp []] <| zzt k 12 (c) <| zzl 13 [zcc 11 182 "<module>" 1,zfr 13 3 zm0] <| cS k 15 187 (znT 0) "" zm0 <| zzl 22 [ztp [.type "set"],zfd "builtin_function_or_method" [.builtin "type.__prepare__",.type "type"],zdc ([en P "__module__" 203 zm1,en P "__qualname__" 205 (zsv "CandidateSet" 204),en P "__firstlineno__" 207 (.int 5 206)]++zer P [("__init__",219,39),("__str__",226,46),("str_with_names",234,54),("__static_attributes__",235,55),("__classcell__",236,25)]) 8,⟨(.type "cell"),none,.cell (some (.ref 57)),#[]⟩,ztp []] <| zzt k 27 (ztb 4 [(7,38),(19,45),(22,53)]) <| zzl 28 [zcc 26 198 "CandidateSet" 5,zfr 28 24 zm1,ztp [],ztp [zrv 30,.none],ztp [zrv 25],ztp (zss 211 ["__class__"])] <| zzt k 34 (ztb 0 []) <| zzl 35 [ztp (zss 212 ["self", "candidates", "num_cand", "cand"]),ztp (zss 216 ["num_cand"])] <| zzt k 37 (⟨.none,none,.func (fn (fM 2 0) (S "__init__") (S "CandidateSet.__init__") 0 [] .none .none .none .none none .none .none 0),#[]⟩) <| zzl 38 [zfd "code" [zsv "__init__" 208,zsv "CandidateSet.__init__" 209,zsv "/claim/cut.py" 210,ziv 7,ziv 3,ziv 0,ziv 0,ziv 3,zrv 33,.bool true,ziv 181,zrv 34,.none,zrv 35,zrv 36,zrv 37,ziv 217,ziv 7,zsv "/claim/cut.py" 218],⟨.type "function",none,.func (fn (fM 2 0) (S "__init__") (S "CandidateSet.__init__") 3 [((S "__class__"),25)] (.ref 31) .none .none (.str (S "abcvoting.misc") 194) none (.ref 38) (.ref 32) 0),#[]⟩] <| cS k 40 220 (znM 2 1) "CandidateSet." zm1 <| zzl 47 [ztp [.none]] <| zgp k true 48 227 (znM 2 2) "CandidateSet." zm1 (zrv 47) none <| zzl 55 [ztp [],zdc ([en P "__module__" 203 zm1,en P "__firstlineno__" 207 (.int 5 206)]++zer P [("__init__",219,39),("__str__",226,46),("str_with_names",234,54),("__static_attributes__",235,55),("__dict__",238,58)]++[en P "__doc__" 239 .none]) 4,zcl 57 "CandidateSet" "set" [.type "set",.type "object"] 56 true [] [some (zrv 22),none,some (zsv "CandidateSet" 196),some (zsv "CandidateSet" 204),some (.builtin "set.__new__"),some (.bool true)],zfd "getset_descriptor" [zsv "__dict__" 237,zrv 57,.builtin "function.__dict__",.builtin "function.__dict__#set"],zfd "super" [zrv 57,zrv 57,zrv 57],zfd "builtin_function_or_method" [.builtin "object.__init_subclass__",zrv 57],ztp [.none]] <| zgp k true 62 244 (znT 3) "" zm1 (zrv 61) none <| cS k 69 256 (znT 5) "" zm2 <| cS k 76 264 (znT 6) "" zm2 <| cS k 83 273 (znT 7) "" zm2 <| zzl 90 [ztp [],zfd "builtin_function_or_method" [.builtin "type.__prepare__",.type "type"],zdc ([en P "__module__" 287 zm2,en P "__qualname__" 289 (zsv "chain" 288),en P "__firstlineno__" 291 (.int 44 290)]++zer P [("__slots__",294,97),("__init__",302,104),("from_iterable",324,113),("__iter__",331,121),("__next__",344,128),("__static_attributes__",347,129)]) 9,ztp []] <| zzt k 94 (ztb 4 [(47,103),(52,110),(58,120),(61,127)]) <| zzl 95 [zcc 93 282 "chain" 44,zfr 95 92 zm2,ztp (zss 292 ["_source", "_active"])] <| cS k 98 295 (znM 8 1) "chain." zm2 <| zgp k true 105 303 (znM 8 2) "chain." zm2 .none (some 114) <| zzl 112 [zdc ([en P "__module__" 313 zm2,en P "__name__" 316 (zsv "from_iterable" 315),en P "__qualname__" 319 (zsv "chain.from_iterable" 318),en P "__doc__" 321 .none]++zer P [("__annotations__",323,114)]) 5,⟨(.type "classmethod"),(some 112),.fields #[(.ref 111),(.bool false)],#[]⟩,zdc ([]) 0] <| cS k 115 325 (znM 8 3) "chain." zm2 <| cS k 122 332 (znM 8 4) "chain." zm2 <| zzl 129 [ztp (zss 345 ["_active", "_source"]),⟨(.type "list"),none,.seq #[(.str (S "_source") 292),(.str (S "_active") 293)] 1,#[]⟩,zdc ([en P "__module__" 287 zm2,en P "__firstlineno__" 291 (.int 44 290)]++zer P [("__slots__",294,97),("__init__",302,104),("from_iterable",324,113),("__iter__",331,121),("__next__",344,128),("__static_attributes__",347,129),("_active",349,133),("_source",351,134)]++[en P "__doc__" 352 .none]) 4,zcl 132 "chain" "object" [.type "object"] 131 false [S "_active",S "_source"] [none,none,some (zsv "chain" 280),some (zsv "chain" 288),some (.builtin "object.__new__"),some (.bool false)],zfd "member_descriptor" [zsv "_active" 348,zrv 132,.builtin "proto.slot",.builtin "proto.slot#set",ziv 1],zfd "member_descriptor" [zsv "_source" 350,zrv 132,.builtin "proto.slot",.builtin "proto.slot#set",ziv 0],zfd "super" [zrv 132,zrv 132,zrv 132],zfd "builtin_function_or_method" [.builtin "object.__init_subclass__",zrv 132]] <| cS k 137 355 (znT 9) "" zm2 <| zzl 144 [ztp [],zfd "builtin_function_or_method" [.builtin "type.__prepare__",.type "type"],zdc ([en P "__module__" 373 zm2,en P "__qualname__" 375 (zsv "combinations" 374),en P "__firstlineno__" 377 (.int 103 376)]++zer P [("__slots__",383,151),("__init__",393,158),("__iter__",400,165),("__next__",413,172),("__static_attributes__",419,173)]) 8,ztp []] <| zzt k 148 (ztb 4 [(106,157),(117,164),(120,171)]) <| zzl 149 [zcc 147 368 "combinations" 103,zfr 149 146 zm2,ztp (zss 378 ["_pool", "_indices", "_r", "_first", "_stopped"])] <| cS k 152 384 (znM 10 1) "combinations." zm2 <| cS k 159 394 (znM 10 2) "combinations." zm2 <| cS k 166 401 (znM 10 3) "combinations." zm2 <| zzl 173 [ztp (zss 414 ["_first", "_indices", "_pool", "_r", "_stopped"]),⟨(.type "list"),none,.seq #[(.str (S "_pool") 378),(.str (S "_indices") 379),(.str (S "_r") 380),(.str (S "_first") 381),(.str (S "_stopped") 382)] 1,#[]⟩,zdc ([en P "__module__" 373 zm2,en P "__firstlineno__" 377 (.int 103 376)]++zer P [("__slots__",383,151),("__init__",393,158),("__iter__",400,165),("__next__",413,172),("__static_attributes__",419,173),("_first",421,177),("_indices",423,178),("_pool",425,179),("_r",427,180),("_stopped",429,181)]++[en P "__doc__" 430 .none]) 7,zcl 176 "combinations" "object" [.type "object"] 175 false [S "_first",S "_indices",S "_pool",S "_r",S "_stopped"] [none,none,some (zsv "combinations" 366),some (zsv "combinations" 374),some (.builtin "object.__new__"),some (.bool false)],zfd "member_descriptor" [zsv "_first" 420,zrv 176,.builtin "proto.slot",.builtin "proto.slot#set",ziv 4],zfd "member_descriptor" [zsv "_indices" 422,zrv 176,.builtin "proto.slot",.builtin "proto.slot#set",ziv 3],zfd "member_descriptor" [zsv "_pool" 424,zrv 176,.builtin "proto.slot",.builtin "proto.slot#set",ziv 2],zfd "member_descriptor" [zsv "_r" 426,zrv 176,.builtin "proto.slot",.builtin "proto.slot#set",ziv 1],zfd "member_descriptor" [zsv "_stopped" 428,zrv 176,.builtin "proto.slot",.builtin "proto.slot#set",ziv 0],zfd "super" [zrv 176,zrv 176,zrv 176],zfd "builtin_function_or_method" [.builtin "object.__init_subclass__",zrv 176],ztp [.none]] <| zgp k true 185 435 (znT 12) "" zm3 (zrv 184) none <| cS k 192 444 (znT 13) "" zm3 <| cS k 199 454 (znT 14) "" zm3 <| zzl 206 [ztp [],zfd "builtin_function_or_method" [.builtin "type.__prepare__",.type "type"],zdc ([en P "__module__" 468 zm3,en P "__qualname__" 470 (zsv "Fraction" 469),en P "__firstlineno__" 472 (.int 164 471)]++zer P [("__init__",489,220),("__bool__",496,227),("__str__",503,234),("floor",510,241),("ceil",517,248),("__neg__",524,255),("__add__",534,262),("__radd__",542,269),("__sub__",550,276),("__rsub__",558,283),("__mul__",568,290),("__rmul__",576,297),("__truediv__",584,304),("__rtruediv__",592,311),("__eq__",600,318),("__lt__",610,325),("__le__",620,332),("__gt__",628,339),("__ge__",636,346),("__static_attributes__",639,347)]) 23,ztp []] <| zzt k 210 (ztb 4 [(166,219),(178,226),(181,233),(186,240),(189,247),(192,254),(195,261),(199,268),(202,275),(205,282),(208,289),(212,296),(215,303),(218,310),(221,317),(224,324),(228,331),(232,338),(235,345)]) <| zzl 211 [zcc 209 463 "Fraction" 164,zfr 211 208 zm3,ztp [.int 0 473,.int 1 474]] <| zgp k true 214 475 (znM 15 0) "Fraction." zm3 (zrv 213) none <| cS k 221 490 (znM 15 1) "Fraction." zm3 <| cS k 228 497 (znM 15 2) "Fraction." zm3 <| cS k 235 504 (znM 15 3) "Fraction." zm3 <| cS k 242 511 (znM 15 4) "Fraction." zm3 <| cS k 249 518 (znM 15 5) "Fraction." zm3 <| cS k 256 525 (znM 15 6) "Fraction." zm3 <| cS k 263 535 (znM 15 7) "Fraction." zm3 <| cS k 270 543 (znM 15 8) "Fraction." zm3 <| cS k 277 551 (znM 15 9) "Fraction." zm3 <| cS k 284 559 (znM 15 10) "Fraction." zm3 <| cS k 291 569 (znM 15 11) "Fraction." zm3 <| cS k 298 577 (znM 15 12) "Fraction." zm3 <| cS k 305 585 (znM 15 13) "Fraction." zm3 <| cS k 312 593 (znM 15 14) "Fraction." zm3 <| cS k 319 601 (znM 15 15) "Fraction." zm3 <| cS k 326 611 (znM 15 16) "Fraction." zm3 <| cS k 333 621 (znM 15 17) "Fraction." zm3 <| cS k 340 629 (znM 15 18) "Fraction." zm3 <| zzl 347 [ztp (zss 637 ["denominator", "numerator"]),zdc ([en P "__module__" 468 zm3,en P "__firstlineno__" 472 (.int 164 471)]++zer P [("__init__",489,220),("__bool__",496,227),("__str__",503,234),("floor",510,241),("ceil",517,248),("__neg__",524,255),("__add__",534,262),("__radd__",542,269),("__sub__",550,276),("__rsub__",558,283),("__mul__",568,290),("__rmul__",576,297),("__truediv__",584,304),("__rtruediv__",592,311),("__eq__",600,318),("__lt__",610,325),("__le__",620,332),("__gt__",628,339),("__ge__",636,346),("__static_attributes__",639,347),("__dict__",641,350),("__weakref__",643,351)]++[en P "__doc__" 644 .none,en P "__hash__" 645 .none]) 5,zcl 349 "Fraction" "object" [.type "object"] 348 true [] [none,none,some (zsv "Fraction" 461),some (zsv "Fraction" 469),some (.builtin "object.__new__"),some (.bool true)],zfd "getset_descriptor" [zsv "__dict__" 640,zrv 349,.builtin "function.__dict__",.builtin "function.__dict__#set"],zfd "getset_descriptor" [zsv "__weakref__" 642,zrv 349,.builtin "ExceptionGroup.__weakref__",.none],zfd "super" [zrv 349,zrv 349,zrv 349],zfd "builtin_function_or_method" [.builtin "object.__init_subclass__",zrv 349],ztp (zss 650 ["fastest"])] <| zgp k true 355 651 (znT 17) "" zm4 (zrv 354) none <| zzl 362 [ztp [.none,zsv "fastest" 662]] <| zgp k true 363 663 (znT 18) "" zm4 (zrv 362) none <| zzl 370 [ztp [.none,zsv "fastest" 676]] <| zgp k true 371 677 (znT 19) "" zm4 (zrv 370) none <| zzl 378 [ztp [.none]] <| zgp k true 379 690 (znT 20) "" zm4 (zrv 378) none <| cS k 386 702 (znT 21) "" zm4 <| cS k 393 717 (znT 22) "" zm4 <| cS k 400 727 (znT 23) "" zm4 <| cS k 407 747 (znT 24) "" zm4 <| zzl 414 [ztp [.none]] <| zgp k true 415 769 (znT 25) "" zm4 (zrv 414) none <| cS k 422 781 (znT 26) "" zm4 <| zzl 429 [ztp [.none,zsv "fastest" 800]] <| zgp k true 430 801 (znT 27) "" zm4 (zrv 429) none <| zgp k false 437 814 (znT 28) "" zm4 .none none <| zzl 442 [ztp [.none,zsv "fastest" 820]] <| zgp k true 443 821 (znT 29) "" zm4 (zrv 442) none <| zgp k false 450 834 (znT 30) "" zm4 .none none <| zzl 455 [ztp [],zfd "builtin_function_or_method" [.builtin "type.__prepare__",.type "type"],zdc ([en P "__module__" 849 zm5,en P "__qualname__" 851 (zsv "Profile" 850),en P "__firstlineno__" 853 (.int 427 852)]++zer P [("__init__",859,467),("num_cand",867,475),("approved_candidates",876,482),("__len__",883,489),("_unique_voter",892,496),("add_voter",900,503),("add_voters",909,510),("total_weight",916,517),("has_unit_weights",923,524),("convert_to_unit_weights",930,531),("convert_to_weighted",937,538),("__iter__",944,545),("__getitem__",952,552),("__setitem__",961,559),("__str__",971,566),("copy",978,573),("is_party_list",985,580),("str_compact",992,587),("__static_attributes__",996,588)]) 22,ztp []] <| zzt k 459 (ztb 4 [(429,466),(441,473),(444,481),(450,488),(453,495),(460,502),(463,509),(467,516),(470,523),(473,530),(476,537),(479,544),(482,551),(485,558),(488,565),(500,572),(503,579),(506,586)]) <| zzl 460 [zcc 458 844 "Profile" 427,zfr 460 457 zm5,ztp [.none]] <| zgp k false 463 854 (znM 32 0) "Profile." zm5 (zrv 462) none <| cS k 468 860 (znM 32 1) "Profile." zm5 <| zzl 475 [zfd "property" [zrv 474,.none,.none,.none,zsv "num_cand" 867,.bool false]] <| cS k 476 868 (znM 32 2) "Profile." zm5 <| cS k 483 877 (znM 32 3) "Profile." zm5 <| cS k 490 884 (znM 32 4) "Profile." zm5 <| cS k 497 893 (znM 32 5) "Profile." zm5 <| cS k 504 901 (znM 32 6) "Profile." zm5 <| cS k 511 910 (znM 32 7) "Profile." zm5 <| cS k 518 917 (znM 32 8) "Profile." zm5 <| cS k 525 924 (znM 32 9) "Profile." zm5 <| cS k 532 931 (znM 32 10) "Profile." zm5 <| cS k 539 938 (znM 32 11) "Profile." zm5 <| cS k 546 945 (znM 32 12) "Profile." zm5 <| cS k 553 953 (znM 32 13) "Profile." zm5 <| cS k 560 962 (znM 32 14) "Profile." zm5 <| cS k 567 972 (znM 32 15) "Profile." zm5 <| cS k 574 979 (znM 32 16) "Profile." zm5 <| cS k 581 986 (znM 32 17) "Profile." zm5 <| zzl 588 [ztp (zss 993 ["_voters", "cand_names", "candidates"]),zdc ([en P "__module__" 849 zm5,en P "__firstlineno__" 853 (.int 427 852)]++zer P [("__init__",859,467),("num_cand",867,475),("approved_candidates",876,482),("__len__",883,489),("_unique_voter",892,496),("add_voter",900,503),("add_voters",909,510),("total_weight",916,517),("has_unit_weights",923,524),("convert_to_unit_weights",930,531),("convert_to_weighted",937,538),("__iter__",944,545),("__getitem__",952,552),("__setitem__",961,559),("__str__",971,566),("copy",978,573),("is_party_list",985,580),("str_compact",992,587),("__static_attributes__",996,588),("__dict__",998,591),("__weakref__",1000,592)]++[en P "__doc__" 1001 .none]) 4,zcl 590 "Profile" "object" [.type "object"] 589 true [] [none,none,some (zsv "Profile" 842),some (zsv "Profile" 850),some (.builtin "object.__new__"),some (.bool true)],zfd "getset_descriptor" [zsv "__dict__" 997,zrv 590,.builtin "function.__dict__",.builtin "function.__dict__#set"],zfd "getset_descriptor" [zsv "__weakref__" 999,zrv 590,.builtin "ExceptionGroup.__weakref__",.none],zfd "super" [zrv 590,zrv 590,zrv 590],zfd "builtin_function_or_method" [.builtin "object.__init_subclass__",zrv 590],ztp [],zfd "builtin_function_or_method" [.builtin "type.__prepare__",.type "type"],zdc ([en P "__module__" 1011 zm5,en P "__qualname__" 1013 (zsv "Voter" 1012),en P "__firstlineno__" 1015 (.int 508 1014)]++zer P [("__init__",1026,609),("__str__",1033,616),("str_with_names",1041,624),("__static_attributes__",1044,625)]) 7,ztp []] <| zzt k 599 (ztb 4 [(510,608),(516,615),(519,623)]) <| zzl 600 [zcc 598 1006 "Voter" 508,zfr 600 597 zm5,ztp [.int 1 1016,.none]] <| zgp k true 603 1017 (znM 33 0) "Voter." zm5 (zrv 602) none <| cS k 610 1027 (znM 33 1) "Voter." zm5 <| zzl 617 [ztp [.none]] <| zgp k true 618 1034 (znM 33 2) "Voter." zm5 (zrv 617) none <| zzl 625 [ztp (zss 1042 ["approved", "weight"]),zdc ([en P "__module__" 1011 zm5,en P "__firstlineno__" 1015 (.int 508 1014)]++zer P [("__init__",1026,609),("__str__",1033,616),("str_with_names",1041,624),("__static_attributes__",1044,625),("__dict__",1046,628),("__weakref__",1048,629)]++[en P "__doc__" 1049 .none]) 4,zcl 627 "Voter" "object" [.type "object"] 626 true [] [none,none,some (zsv "Voter" 1004),some (zsv "Voter" 1012),some (.builtin "object.__new__"),some (.bool true)],zfd "getset_descriptor" [zsv "__dict__" 1045,zrv 627,.builtin "function.__dict__",.builtin "function.__dict__#set"],zfd "getset_descriptor" [zsv "__weakref__" 1047,zrv 627,.builtin "ExceptionGroup.__weakref__",.none],zfd "super" [zrv 627,zrv 627,zrv 627],zfd "builtin_function_or_method" [.builtin "object.__init_subclass__",zrv 627]] <| zgp k false 632 1054 (znT 35) "" zm6 .none none <| zgp k false 637 1060 (znT 36) "" zm6 .none none <| zgp k false 642 1066 (znT 37) "" zm6 .none none <| zgp k false 647 1072 (znT 38) "" zm6 .none none <| zgp k false 652 1078 (znT 39) "" zm6 .none none <| cS k 657 1084 (znT 40) "" zm6 <| zgp k false 664 1092 (znT 41) "" zm6 .none none [])
noncomputable def zow(P:Params)(m:Value)(n:Nat):Obj:=zdc (en P "__name__" 165 m::([en P "__doc__" 166 .none,en P "__package__" 167 .none,en P "__loader__" 168 (.builtin "__main__.__loader__#opaque"),en P "__spec__" 169 .none]++zer P [("__annotations__",170,6),("__builtins__",171,4)]++[en P "__file__" 173 (zsv "/claim/cut.py" 172),en P "__cached__" 174 .none]++zer P [("_wall",193,21),("CandidateSet",243,57),("str_set_of_candidates",253,68),("_is_int",263,75),("_whole",272,82),("_pull",279,89),("chain",354,132),("_picked",365,143),("combinations",432,176),("powerset",443,191),("dominate",453,198),("fraction_parts",460,205),("Fraction",647,349),("check_pareto_optimality",661,361),("check_EJR",675,369),("check_PJR",689,377),("check_JR",701,385),("_check_JR",716,392),("_check_pareto_optimality_brute_force",726,399),("_check_EJR_brute_force",746,406),("_check_PJR_brute_force",768,413),("check_EJR_plus",780,421),("_check_EJR_plus",799,428),("check_FJR",813,436),("_check_FJR_brute_force",819,441),("check_core",833,449),("_check_core_brute_force",839,454),("Profile",1003,590),("Voter",1051,627),("_law_draws",1059,636),("_law_ballots",1065,641),("_law_within",1071,646),("_law_count",1077,651),("_law_due",1083,656),("_law_refused",1091,663),("law",1097,668)]).take (n-1)) n
noncomputable def zot(n:Nat):Obj:=ztb 0 ([(1,20),(5,28),(24,67),(31,74),(34,81),(39,88),(44,95),(96,142),(103,149),(143,190),(148,197),(158,204),(164,211),(238,360),(247,368),(261,376),(275,384),(284,391),(297,398),(304,405),(323,412),(346,420),(355,427),(373,435),(387,440),(400,448),(414,453),(427,460),(508,600),(522,635),(525,640),(527,645),(532,650),(534,655),(563,662),(569,667)].take n)
noncomputable def zov(P:Params):Obj:=⟨.none,none,.dict ⟨[en P "type.__subclasses__.set.0" 240 (ziv 57),en P "type.__subclasses__.set.n" 241 (.int 1 0)]⟩ 2,#[]⟩
noncomputable def zhv(P:Params)(n:Nat)(m:Value)(k:Nat)(o:Obj):Heap:=⟨⟨((zhO P false o (zow P m k) (zot (k-9))).map (·.2)).take n⟩,{}⟩
noncomputable def hpA(P:Params):Heap:=boot_heap P
noncomputable def hpB(P:Params):Heap:=zhv P 15 zm0 9 ⟨.none,none,.dict #[] 0,#[]⟩
noncomputable def FZ(P:Params):Heap:=zhv P 184 zm2 18 (zov P)
noncomputable def F0(P:Params):Heap:=zhv P 354 zm3 22 (zov P)
noncomputable def F1(P:Params):Heap:=zhv P 595 zm5 37 (zov P)
noncomputable def o1(P:Params):Obj:=zdc [en P "builtins" 162 (zrv 4),en P "__main__" 163 (zrv 5)] 2
noncomputable def o3(P:Params):Obj:=zow P zm6 45
noncomputable def hpF(P:Params):Heap:=zhv P 669 zm6 45 (zov P)
noncomputable def KK(P:Params):Frag:=zhO P true (zov P) (o3 P) (zot 36)
noncomputable def qm:Pos:=⟨0,0,0,0⟩
noncomputable def yL:Env:={ scope:=prg.main.scope,locals:=mainNs,globals:=mainNs,cells:=[],code:=.ref 13,frame:=some 14 }
noncomputable def ol:Code:=.body (behindTheImports prg) yL
noncomputable def sts(a n:Nat):List Stmt:=(prg.main.body.drop a).take n
noncomputable def rV:Option Value:=some (.ref 6)
theorem opn(w:World):(fencedOpening treeTable prg w 9000).map (λs=>(s.heap,s.gens,s.drawn,s.toks))=some (hpA w.params,#[],{},181):=by kernel_rfl
theorem siz(w:World):((hpA w.params).isNs mainGlobals&&(#[]:Array GenState).size==0,(hpA w.params).objs.size,(hpA w.params).nsMap mainGlobals "__annotations__")=(true,11,rV):=by kernel_rfl
theorem pre(w:World)(os:OsState):topGo treeTable prg w 11 rV 12 ⟨hpA w.params,#[],{},181,os⟩ (topStub prg)=some (⟨hpB w.params,#[],{},187,os⟩,⟨denote treeTable ol,ol,qm,[topFrame qm]⟩):=by kernel_rfl
theorem blk(w:World)(os:OsState):segRun treeTable prg w 11 rV 1 1 ⟨hpB w.params,#[],{},187,os⟩ (blockOf (behindTheImports prg) yL ol qm [topFrame qm])=some (.next,⟨hpB w.params,#[],{},187,os⟩,ol,qm):=by kernel_rfl
theorem pc1(w:World)(os:OsState):segRun treeTable prg w 11 rV 1 1400 ⟨hpB w.params,#[],{},187,os⟩ (piecesOf (sts 0 11) yL ol qm [topFrame qm])=some (.next,⟨FZ w.params,#[],{},433,os⟩,ol,⟨103,0,141,40⟩):=by kernel_rfl
theorem pc2(w:World)(os:OsState):segRun treeTable prg w 11 rV 1 1000 ⟨FZ w.params,#[],{},433,os⟩ (piecesOf (sts 11 5) yL ol ⟨103,0,141,40⟩ [topFrame qm])=some (.next,⟨F0 w.params,#[],{},648,os⟩,ol,⟨164,0,236,31⟩):=by kernel_rfl
theorem pc3(w:World)(os:OsState):segRun treeTable prg w 11 rV 1 1400 ⟨F0 w.params,#[],{},648,os⟩ (piecesOf (sts 16 17) yL ol ⟨164,0,236,31⟩ [topFrame qm])=some (.next,⟨F1 w.params,#[],{},1004,os⟩,ol,⟨427,0,507,16⟩):=by kernel_rfl
theorem pc4(w:World)(os:OsState):segRun treeTable prg w 11 rV 1 1000 ⟨F1 w.params,#[],{},1004,os⟩ (piecesOf (sts 33 9) yL ol ⟨427,0,507,16⟩ [topFrame qm])=some (.next,⟨hpF w.params,#[],{},1098,os⟩,ol,⟨569,0,586,59⟩):=by kernel_rfl
theorem fin(w:World)(os:OsState):topRun treeTable prg w 11 rV 3 ⟨hpF w.params,#[],{},1098,os⟩ ⟨doneF .next,ol,⟨569,0,586,59⟩,[topFrame qm]⟩=some ⟨hpF w.params,#[],{},1098,os⟩:=by kernel_rfl
theorem F3:sts 0 11++(sts 11 5++(sts 16 17++(sts 33 9++[])))=behindTheImports prg:=by kernel_rfl
theorem Hf(w:World)(os:OsState):topRun treeTable prg w 11 rV (12+(1+(1400+(1000+(1400+(1000+3)))))) ⟨hpA w.params,#[],{},181,os⟩ (topStub prg)=some ⟨hpF w.params,#[],{},1098,os⟩:=by
 refine go_top (pre w os) (piece_block (blk w os) ?_)
 rw[← F3]
 exact piece_app (pc1 w os) (piece_app (pc2 w os) (piece_app (pc3 w os) (piece_app (pc4 w os) (piece_nil (fin w os)))))
noncomputable def vw:Program:={ PySem.Challenge.rw_ba0005_01.row.prog with main:={ prg.main with body:=[nth prg.main.body 41] } }
noncomputable def lse:List Str:=(["_wall", "CandidateSet", "str_set_of_candidates", "_is_int", "_whole", "_pull", "chain", "_picked", "combinations", "powerset", "dominate", "fraction_parts", "Fraction", "check_pareto_optimality", "check_EJR", "check_PJR", "check_JR", "_check_JR", "_check_pareto_optimality_brute_force", "_check_EJR_brute_force", "_check_PJR_brute_force", "check_EJR_plus", "_check_EJR_plus", "check_FJR", "_check_FJR_brute_force", "check_core", "_check_core_brute_force", "Profile", "Voter", "_law_draws", "_law_ballots", "_law_within", "_law_count", "_law_due", "_law_refused"]:List String).map Str.ofString
noncomputable def XtM(s:Shared):Bool:=xlAt vw [] s&&recOk (RowW.records PySem.Challenge.rw_ba0005_01.row.toRowW) s
noncomputable def xy(w:World)(h:Heap):Prop:=∀b o,(hpF w.params).get? b=some o->h.get? b=some o
theorem Hg(w:World):(λos=>((staticsOk (importedModules prg.main.body) (hpA w.params) (hpF w.params)&&namesBound prg (hpF w.params)&&gensDone ⟨hpF w.params,#[],{},1098,os⟩&&laidKept (hpA w.params) (hpF w.params)),
    openSeen vw lse (importedModules prg.main.body) XtM true ⟨hpF w.params,#[],{},1098,os⟩,(λs:Shared=>s.heap) ⟨hpF w.params,#[],{},1098,os⟩))=λ(a:OsState)=>(true,openGood vw lse,(λw:World=>hpF w.params) w):=by
 funext os;kernel_rfl
theorem l9:LeftO prg vw lse XtM (λs:Shared=>s.heap) (λw:World=>hpF w.params) 9000 :=
 LeftO.of_pieces (H₀:=hpA) (H₁:=hpF) (m₀:=11) (ann:=rV) (M:=12+(1+(1400+(1000+(1400+(1000+3)))))) opn siz Hf (by decide) Hg
noncomputable def D7:Prop:=∀(w:World) (s₁:Shared) (l:Addr) (vs:List Value) (ns:List Int) (b a:Str->Option Value),xy w s₁.heap->s₁.gens = #[]->s₁.heap.Ns mainGlobals b ->
 s₁.heap.Ns builtinsNs a->(∀x:Str,x ≠ "__name__" -> a x=bootBuiltins x)->s₁.heap.NoLimit->s₁.heap.IsList l vs.toArray->IntsAre vs ns->ns.length<=63 ->
 wpAny (model prg w) callerA (call (.ref 668) [.ref l]) (λv s'=>v = .bool true/\OldK s₁.heap s'.heap/\s'.os=s₁.os/\AllBare s'.gens) (λc c=>False) s₁
theorem Cf{w:World}{h:Heap}(Y:xy w h){a:Str->Option Value}(g:h.Ns mainGlobals a){x:Str}{v:Value}(e:nsFind (match(o3 w.params).data with | .dict es _=>es | _=>#[]) x=some v):a x=some v:=by
 obtain⟨o,es,d,b,hd,f,hf⟩:=g
 have c:=Y 3 (o3 w.params) (by kernel_rfl)
 have:o=o3 w.params:=fU (b.symm.trans c)
 subst this
 rw[hd] at e
 rw[← hf];exact e
theorem EA(w:World):nsFind (match(o3 w.params).data with | .dict es _=>es | _=>#[]) (Str.ofString "law")=some (.ref 668):=by kernel_rfl
set_option maxHeartbeats 0 in
theorem hd(j:D7):PySem.Challenge.rw_ba0005_01.Holds:=by
 refine holds_law (by kernel_rfl) λA=>?_
 refine holds_open (q:=vw) (loose:=lse) (Xt:=XtM) (XP:=XL vw []) (Yf:=λs:Shared=>s.heap) (Ya:=λw:World=>hpF w.params) (YP:=xy) (N:=9000) l9 (λw s e=>by show xy w s.heap;rw[e];exact λA A h=>h) (λw h h' x k b o e=>k b o (x b o e)) (λs e=>xl_of s (bP.mp e).1) XL.keeps (by rfl) (by rfl) (by rfl) (λs e=>recFacts_of (bP.mp e).2) (by rfl) (by first | assumption | decide +kernel) (by decide +kernel) ⟨rfl,rfl,rfl,rfl,rfl,by decide +kernel⟩ ?hw ?hc
 case hw=>w_witness2
 case hc =>
  intro w s₀ s₁ u F G Y a o K M doc J L H hd n E i I z y as d f r t p
  have B:=(Ground.T G)
  have l:u (Str.ofString "law")=some (.ref 668):=Cf Y B.g (EA w)
  have C:a=668:=by
   have e:u (Str.ofString "law")=some (.ref a):=by with_reducible_and_instances exact i
   exact Value.ref.inj (fU (e.symm.trans l))
  subst C
  clear hd E i H n
  wrow_args d f r t p
  refine ad (j w s₁ _ _ _ u F Y I B.g B.b B.builtins B.nolimit (by assumption) (by assumption) (by omega)) ?_ (λA A h=>h.elim)
  rintro v s' ⟨rfl,c,m,D⟩
  refine⟨.inl ⟨_,_,[],rfl,λA=>rfl,ReadsW.bool true,?_,λA=>⟨gb,λA l=>(nomatch l)⟩⟩,c,m,D⟩
  wrow_post
theorem oA{a b c:Nat}(h:a<b)(k:autoParam (Nat.ble b c=true) q_R):a<c:=aA h (cL k)
theorem oB{a b c:Nat}(h:a<=b)(k:autoParam (Nat.ble (b+1) c=true) q_R):a<c:=bp h (cL k)
theorem oC{a b c:Nat}(h:a<=b)(k:autoParam (Nat.ble b c=true) q_R):a<=c:=ae h (cL k)
theorem oE{n a b:Nat}(k:autoParam (Nat.ble a b=true) q_R):n+a<=n+b:=iH (cL k) n
theorem oF{a b:Nat}{c:Int}(h:a<b)(k:autoParam (decide ((b:Int)<=c)=true) q_R):(a:Int)<c:=wg (bV.mpr h) (ci k)
theorem oG{a b:Nat}{c:Int}(h:a<=b)(k:autoParam (decide ((b:Int)<c)=true) q_R):(a:Int)<c:=sS (cY.mpr h) (ci k)
theorem oI{a:Nat}{c:Int}(k:autoParam (decide (c<=0)=true) q_R):c<=(a:Int):=jb (ci k) (Int.natCast_nonneg a)
theorem oJ{n a b:Nat}(k:autoParam (Nat.ble a b=true) q_R):a<=n+b:=ae (cL k) (jc b n)
theorem oM{a b c d:Nat}(h:a<=b)(k:autoParam (Nat.ble (b+c+1) d=true) q_R):a+c<d:=bp (aX h c) (cL k)
theorem oN{j k n:Nat}(h:j<k)(h':k<=n):1+j<=n:=fO 1 j▸ae h h'
theorem oR{a b n L:Nat}(k:b<=8)(h:a+8*(n+1)<L):a+b+8*n<L:=bp (by rw[Nat.mul_succ,Nat.add_assoc,fO b];exact iH (iH k _) a) h
theorem oV{a b n L:Nat}(k:b<=1)(h:a+(n+1)<L):a+b+n<L:=bp (by rw[Nat.add_assoc,fO b];exact iH (iH k n) a) h
theorem zP{h:Heap}{o:Obj}:h.objs.size<=(h.push o).objs.size:=bi .. ▸ bY _
theorem xz{c b a:Prop}{G:Prop}(k:c->b->a->G)(h:c/\b/\a):G:=k h.1 h.2.1 h.2.2
theorem D8{d:Type}{c:d->Prop}{G:Prop}(k:∀a,c a->G)(h:∃a,c a):G:=h.elim λa b=>k a b
theorem ir{e:Type}{d c:e->Prop}{G:Prop}(k:∀a,d a->c a->G)(h:∃a,d a/\c a):G:=h.elim λa b=>k a b.1 b.2
theorem xA{e:Type}{d c:e->Prop}{G:Prop}(h:∃a,d a/\c a)(k:∀a,d a->c a->G):G:=h.elim λa b=>k a b.1 b.2
theorem jK{f:Type}{d e c:f->Prop}{G:Prop}(k:∀a,d a->e a->c a->G)(h:∃a,d a/\e a/\c a):G:=h.elim λa b=>k a b.1 b.2.1 b.2.2
theorem F4{f:Type}{d e c:f->Prop}{G:Prop}(h:∃a,d a/\e a/\c a)(k:∀a,d a->e a->c a->G):G:=h.elim λa b=>k a b.1 b.2.1 b.2.2
theorem zZ{j i:Type}{f g e:j->i->Prop}{G:Prop}(k:∀c b,f c b->g c b->e c b->G)(h:∃c,∃b,f c b/\g c b/\e c b):G:=h.elim λc d=>d.elim λb a=>k c b a.1 a.2.1 a.2.2
theorem F5{j l:Type}{g i e f:j->l->Prop}{G:Prop}(k:∀b c,g b c->i b c->e b c->f b c->G)(h:∃b,∃c,g b c/\i b c/\e b c/\f b c):G:=h.elim λb d=>d.elim λc a=>k b c a.1 a.2.1 a.2.2.1 a.2.2.2
theorem F6{m l j:Type}{g i:m->l->j->Prop}{G:Prop}(k:∀e d b,g e d b->i e d b->G)(h:∃e,∃d,∃b,g e d b/\i e d b):G:=h.elim λe f=>f.elim λd c=>c.elim λb a=>k e d b a.1 a.2
theorem D9{m l j:Type}{g i:m->l->j->Prop}{G:Prop}(h:∃e,∃d,∃b,g e d b/\i e d b)(k:∀e d b,g e d b->i e d b->G):G:=h.elim λe f=>f.elim λd c=>c.elim λb a=>k e d b a.1 a.2
theorem F7{m n l:Type}{i j g:m->n->l->Prop}{G:Prop}(h:∃c,∃d,∃b,i c d b/\j c d b/\g c d b)(k:∀c d b,i c d b->j c d b->g c d b->G):G:=h.elim λc f=>f.elim λd e=>e.elim λb a=>k c d b a.1 a.2.1 a.2.2
theorem F8{i g:Type}{e f:i->g->Prop}{G:Prop}(k:∀c b,e c b->f c b->G)(h:∃c,∃b,e c b/\f c b):G:=h.elim λc d=>d.elim λb a=>k c b a.1 a.2
theorem F9{m n l:Type}{i j g:m->n->l->Prop}{G:Prop}(k:∀c d b,i c d b->j c d b->g c d b->G)(h:∃c,∃d,∃b,i c d b/\j c d b/\g c d b):G:=h.elim λc f=>f.elim λd e=>e.elim λb a=>k c d b a.1 a.2.1 a.2.2
theorem Ga{c b a:Prop}{G:Prop}(h:c/\b/\a)(k:c->b->a->G):G:=k h.1 h.2.1 h.2.2
theorem nM{a:Type}{x:a}{C:Prop}(m:x∈([]:List a)):C:=absurd m av
theorem nS{a:Type}{x:a}{C:Prop}(h:none=some x):C:=absurd h.symm (Option.some_ne_none x)
theorem nD{xs:Array Value}{n:Nat}{es:Array DictEntry}{p:Nat}{C:Prop}(h:Data.seq xs n=Data.dict es p):C:=nomatch h
theorem nL{a:Type}{x:a}{l:List a}{C:Prop}(h:x::l=[]):C:=absurd h (sT x l)
theorem fR{a:Type}{l b Us:List a}{x:a}(e:l=b++x::Us):x∈l:=e▸al _ (.head _)
theorem dA{b:Type}{l a Us:List b}{x:b}(e:l=a++x::Us):l=(a++[x])++Us:=e.trans (iu a [x] Us).symm
structure e9(s s':Shared):Prop where
 h:s.heap.objs.size<=s'.heap.objs.size
 g:s.gens.size<=s'.gens.size
 n:∀b,b<s.heap.objs.size->s.heap.get? b=none->s'.heap.get? b=none
theorem e9.refl(s:Shared):e9 s s:=⟨aB _,aB _,λa a e=>e⟩
theorem e9.trans{s s' s'':Shared}(x:e9 s s')(y:e9 s' s''):e9 s s'':=⟨ae x.h y.h,ae x.g y.g,λb a e=>y.n b (aA a x.h) (x.n b a e)⟩
theorem sj(s:Shared)(a:Addr)(f:Obj->Obj)(c:(s.heap.get? a).isSome):e9 s { s with heap:=s.heap.update a f }:=⟨aH (dH (h:=s.heap) (a:=a) (f:=f)).1.symm,aB _,λb d e=>((dH (h:=s.heap) (a:=a) (f:=f)).2 b λh=>by rw[h,] at e;rw[e] at c;cases c).trans e⟩
theorem qo(s:Shared)(o:Obj):e9 s { s with heap:=s.heap.push o }:=⟨by show _<=(s.heap.push o).objs.size;rw[bi];exact bY _,aB _,λb a e=>(Heap.get?_push_ne _ _ _ (lD a)).trans e⟩
theorem dM(s:Shared)(g:Nat)(x:GenState):e9 s (s.setGen g x):=⟨aB _,by simp[Shared.setGen],λa a e=>e⟩
theorem nn(s:Shared)(c:Code):e9 s { s with gens:=s.gens.push (.fresh c) }:=⟨aB _,by simp,λa a e=>e⟩
theorem Runs.grown{M:Model}{Γ:Ctx}{p:Pos}{t:Sem Fin}{fs:List Frame}{s s':Shared}{e:End}(h:Runs M Γ p t fs s e s'):e9 s s':=by
 induction h with
 | done=>exact e9.refl _
 | raise=>exact e9.refl _
 | yield=>exact e9.refl _
 | update h _ ih=>exact(sj _ _ _ h).trans ih
 | alloc _ ih=>exact(qo _ _).trans ih
 | newGen _ ih=>exact(nn _ _).trans ih
 | fresh _ ih=>exact⟨ih.h,ih.g,ih.n⟩
 | choose _ _ ih=>exact⟨ih.h,ih.g,ih.n⟩
 | os _ ih=>exact⟨ih.h,ih.g,ih.n⟩
 | call _ _ i1 i2=>exact i1.trans i2
 | callSusp _ ih=>exact ih
 | resumeFresh _ _ _ _ i1 i2=>exact((dM _ _ _).trans i1).trans ((dM _ _ _).trans i2)
 | resumeSuspended _ _ _ _ i1 i2=>exact((dM _ _ _).trans i1).trans ((dM _ _ _).trans i2)
 | resumeJustStarted _ _ _ ih=>exact ih
 | resumeThrowFresh _ _ ih=>exact(dM _ _ _).trans ih
 | resumeRunning _ _ ih=>exact ih
 | resumeFinished _ _ ih=>exact ih
 | segRet _ _ i1 i2=>exact i1.trans i2
 | segGen _ _ i1 i2=>exact i1.trans ((dM _ _ _).trans i2)
 | segSuspOut _ _ ih=>exact ih
 | segSuspGen _ _ _ _ i1 i2=>exact i1.trans ((dM _ _ _).trans i2)
 | _=>assumption
theorem Wakes.grown{M:Model}{Γ:Ctx}{p:Pos}{g:Nat}{r:Resume}{s s':Shared}{res:GenResult}(h:Wakes M Γ p g r s res s'):e9 s s':=by
 unfold Wakes at h
 cases d:s.gens[g]? with
 | none=>rw[d] at h;exact h.elim
 | some x =>
  rw[d] at h
  cases x with
  | fresh c=>cases r with
   | send v=>cases v with
    | none=>obtain⟨a,s₁,b,e,e,rfl⟩:=h;exact((dM _ _ _).trans (Runs.grown b)).trans (dM _ _ _)
    | _=>exact h.2▸e9.refl _
   | throw _=>exact h.2▸dM _ _ _
  | suspended=>obtain⟨a,s₁,b,e,e,rfl⟩:=h;exact((dM _ _ _).trans (Runs.grown b)).trans (dM _ _ _)
  | _=>exact h.2▸e9.refl _
theorem z0{l:Type}(M:Model)(Γ:Ctx)(s₀:Shared)(t:Sem l):∀(Q:l->Pos->Shared->Prop) (E:Value->Pos->Shared->Prop) (p:Pos) (s:Shared),e9 s₀ s->Sem.wp M Γ t Q E p s ->
  Sem.wp M Γ t (λa d s'=>e9 s₀ s'/\Q a d s') (λe d s'=>e9 s₀ s'/\E e d s') p s:=by
 induction t with
 | pure a=>intro Q E p s b h;exact⟨b,h⟩
 | raise e=>intro Q E p s b h;exact⟨b,h⟩
 | unsupported _=>intro Q E p s w h;exact h
 | finish _=>intro Q E p s w h;exact h
 | rule _ k ih=>intro Q E p s b h;exact ih () Q E p s b h
 | «at» d k ih=>intro Q E p s b h;exact ih () Q E d s b h
 | load a _ k ih=>intro Q E p s b h;obtain⟨o,u,h⟩:=h;exact⟨o,u,ih o Q E p s b h⟩
 | update a _ f k ih=>intro Q E p s b h;exact⟨h.1,ih () Q E p _ (b.trans (sj s a f h.1)) h.2⟩
 | loadIfAlive a k ih=>intro Q E p s b h;exact ih _ Q E p s b h
 | point _ k ih=>intro Q E p s b h;exact ih () Q E p s b h
 | register _ _=>intro Q E p s w h;exact h
 | alloc o k ih=>intro Q E p s b h;exact ih _ Q E p _ (b.trans (qo s o)) h
 | fresh k ih=>intro Q E p s b h;exact ih _ Q E p _ ⟨b.h,b.g,b.n⟩ h
 | ask k ih=>intro Q E p s b h;exact ih _ Q E p s b h
 | choose src m k ih=>intro Q E p s b h;exact⟨h.1,ih _ Q E p _ ⟨b.h,b.g,b.n⟩ h.2⟩
 | os q _ k ih=>intro Q E p s b h;exact ih _ Q E p _ ⟨b.h,b.g,b.n⟩ h
 | call c hd _ _ k ih=>intro Q E p s b h;obtain⟨r,s',i,h⟩:=h;exact⟨r,s',i,ih r Q E p s' (b.trans (Runs.grown i)) h⟩
 | handled own k ih=>intro Q E p s b h;exact ih _ Q E p s b h
 | genState g k ih=>intro Q E p s b h;obtain⟨v,hs,h⟩:=h;exact⟨v,hs,ih _ Q E p s b h⟩
 | newGen c k ih=>intro Q E p s b h;exact ih _ Q E p _ (b.trans (nn s c)) h
 | resume g r _ k ih=>intro Q E p s b h;obtain⟨res,s',j,h⟩:=h;exact⟨res,s',j,ih res Q E p s' (b.trans (Wakes.grown j)) h⟩
 | yield _ _ _ _=>intro Q E p s w h;exact h
 | stack k ih=>intro Q E p s b h;exact ih _ Q E p s b h
 | fork _ _=>intro Q E p s w h;exact h
 | thread k ih=>intro Q E p s b h;exact ih _ Q E p s b h
 | await _ _ _ _ _=>intro Q E p s w h;exact h
theorem cV{c:Type}{M:Model}{A:Around}{s:Shared}{t:Sem c}{Q:c->Shared->Prop}{E:Value->Shared->Prop}(h:wpAny M A t (λa s'=>e9 s s'->Q a s') (λe s'=>e9 s s'->E e s') s):wpAny M A t Q E s :=
 λΓ p b=>Sem.wp_mono M Γ t (λd d d x=>x.2 x.1) (λd d d x=>x.2 x.1) p s (z0 M Γ s t _ _ p s (e9.refl s) (h Γ p b))
theorem ifN{a:Type}{M:Model}{A:Around}{E:Value->Shared->Prop}{s:Shared}{Q:a->Shared->Prop}{b:Bool}{x y:Sem a}(c:b=false)(h:wpAny M A y Q E s):wpAny M A (if b=true then x else y) Q E s:=by subst c;exact h
theorem ifY{a:Type}{M:Model}{A:Around}{E:Value->Shared->Prop}{s:Shared}{Q:a->Shared->Prop}{b:Bool}{x y:Sem a}(c:b=true)(h:wpAny M A x Q E s):wpAny M A (if b=true then x else y) Q E s:=by subst c;exact h
theorem ifP{a:Type}{M:Model}{A:Around}{E:Value->Shared->Prop}{s:Shared}{Q:a->Shared->Prop}{c:Prop}[Decidable c]{x y:Sem a}(h:c)(k:wpAny M A x Q E s):wpAny M A (if c then x else y) Q E s:=(bI h).symm▸k
theorem ifZ{a:Type}{M:Model}{A:Around}{E:Value->Shared->Prop}{s:Shared}{Q:a->Shared->Prop}{c:Prop}[Decidable c]{x y:Sem a}(h:¬c)(k:wpAny M A y Q E s):wpAny M A (if c then x else y) Q E s:=(bj h).symm▸k
theorem xB{a:Type}{M:Model}{A:Around}{m:Sem a}{Q:a->Shared->Prop}{E:Value->Shared->Prop}{s:Shared}(h:∀(Q':a->Shared->Prop) (b:Value->Shared->Prop),(∀v s,Q v s->Q' v s)->(∀e s,E e s->b e s)->wpAny M A m Q' b s):wpAny M A m Q E s:=h Q E (λc c x=>x) λc c x=>x
variable {w:World} {s s' s₀ s₁ s'' s₂:Shared} {A:Around} {h h':Heap} {E Q:Value->Shared->Prop} {b body:List Stmt} {n n' m k i j N tk:Nat} {O X H H' O₀ O' X':List Addr} {bs cs:List (List Nat)} {l ks l' g t idx l2 rs ds:List Nat} {env genv:Env} {e tgt value iter r elt test slice:Expr} {o ox oa ob:Obj} {x y f name:Str} {a L D dx src:Addr} {c v it fv u:Value} {pos p pos' spos py apos px xp sp p4 p5:Pos} {scope:Scope} {es ifs:List Expr} {vs:List Value} {d:List Bool} {q led tr:Bool} {fd:FuncData} {cls:String} {act:Option Addr} {os:OsState} {xs:List Int} {z:Int} {binds:List (Str×Value)} {kvs:List (Int×Value)} {prog:Program} {Φ:End->Shared->Prop} {got:Option Value}
noncomputable abbrev fH:=Addr->Option Obj
noncomputable def am(h:Heap)(O:List Addr):fH:=λa=>if a∈O then none else h.get? a
noncomputable def nt:Obj->Bool
 | ⟨.none,_,.fields _,_⟩=>false
 | ⟨.type T,_,.dict _ _,_⟩=>T != "frame"
 | _=>true
theorem xC{es ep}(h:o.data = .dict es ep)(a:o.cls = .type "dict"):nt o=true:=by
 obtain⟨c,d,b,sl⟩:=o;subst h;subst a;rfl
theorem nq{v}(h:o.data = .cell v):nt o=true:=by
 obtain⟨c,d,a,sl⟩:=o;subst h;cases c <;> rfl
theorem ik(h:o.cls≠.none)(hd:∀es a,o.data≠.dict es a:=by intro e e h;cases h):nt o=true:=by
 obtain⟨c,d,b,sl⟩:=o
 cases c with
 | none=>exact absurd rfl h
 | type T=>cases b with
  | dict es a=>exact absurd rfl (hd _ _)
  | _=>rfl
 | _=>rfl
theorem kZ(hd:o.data = .plain):nt o=true:=by
 obtain⟨c,d,a,sl⟩:=o
 subst hd
 cases c <;> rfl
noncomputable def Vle(V V':fH):Prop:=∀a o,V a=some o->nt o=true->V' a=some o
theorem Vle.refl(V:fH):Vle V V:=λa a e a=>e
theorem Vle.trans{V V' b:fH}(x:Vle V V')(y:Vle V' b):Vle V b:=λa o e c=>y a o (x a o e c) c
structure Ty where
 p:fH->Value->Prop
 mono:∀{V V' v},Vle V V'->p V v->p V' v
structure OTy where
 p:fH->Obj->Prop
 mono:∀{V V' o},Vle V V'->p V o->p V' o
structure Fp where
 a:List Addr
 g:List Nat
structure ak(M:Fp)(s s':Shared):Prop where
 obj:∀b o,b∉M.a->s.heap.get? b=some o->nt o=true->s'.heap.get? b=some o
 dct:∀b o es ep,b∉M.a->s.heap.get? b=some o->o.data = .dict es ep->∃sl,s'.heap.get? b=some { o with slots:=sl }
 gen:∀(g:Nat) (x:GenState),g∉M.g->s.gens[g]? = some x->s'.gens[g]? = some x
 siz:s.heap.objs.size<=s'.heap.objs.size
 gsz:s.gens.size<=s'.gens.size
noncomputable abbrev aF(s s':Shared):Prop:=ak ⟨[],[]⟩ s s'
theorem dp{M:Fp}(k:∀b o,b∉M.a->s.heap.get? b=some o->s'.heap.get? b=some o)(g:∀(g:Nat) (x:GenState),g∉M.g->s.gens[g]? = some x->s'.gens[g]? = some x)(z:s.heap.objs.size<=s'.heap.objs.size)(c:s.gens.size<=s'.gens.size):ak M s s' :=
 ⟨λb o m e d=>k b o m e,λb o d d m e d=>⟨o.slots,k b o m e⟩,g,z,c⟩
theorem ak.refl(M:Fp)(s:Shared):ak M s s:=dp (λa a a e=>e) (λa a a e=>e) (aB _) (aB _)
theorem ak.ofK{M:Fp}(k:aF s s'):ak M s s':=⟨λb o d e c=>k.obj b o (by simp) e c,λb o es a d e c=>k.dct b o es a (by simp) e c,λg x d e=>k.gen g x (by simp) e,k.siz,k.gsz⟩
theorem ak.ns{M:Fp}(k:ak M s s'){m:Str->Option Value}(n:L∉M.a)(h:s.heap.Ns L m):s'.heap.Ns L m:=by
 refine i9 h λo es b e hd r=>?_
 refine dK (k.dct L o es b n e hd) λsl c=>?_
 exact⟨_,es,b,c,hd,r⟩
theorem aF.refl(s:Shared):aF s s:=ak.refl _ s
theorem aF.obj'(k:aF s s'){b:Addr}(e:s.heap.get? b=some o)(c:nt o=true):s'.heap.get? b=some o:=k.obj b o (by simp) e c
theorem ak.trans{M:Fp}(x:ak M s s')(y:ak M s' s''):ak M s s'' :=
 ⟨λb o m e c=>y.obj b o m (x.obj b o m e c) c,λb o es f m e c=>(x.dct b o es f m e c).elim λh a=>(y.dct b _ es f m a c).elim λsl d=>⟨sl,d⟩,λg z m e=>y.gen g z m (x.gen g z m e),ae x.siz y.siz,ae x.gsz y.gsz⟩
structure Ext(s:Shared)(M M':Fp):Prop where
 a:∀b∈M'.a,b∈M.a∨s.heap.objs.size<=b
 g:∀b∈M'.g,b∈M.g∨s.gens.size<=b
theorem Ext.refl(s:Shared)(M:Fp):Ext s M M:=⟨λa=>.inl,λa=>.inl⟩
theorem Ext.trans{M M' c:Fp}(x:Ext s M M')(y:Ext s' M' c)(z:s.heap.objs.size<=s'.heap.objs.size)(d:s.gens.size<=s'.gens.size):Ext s M c :=
 ⟨λb m=>(y.a b m).elim (x.a b) λh=>.inr (ae z h),λb m=>(y.g b m).elim (x.g b) λh=>.inr (ae d h)⟩
theorem ak.of_ext{M M':Fp}(k:ak M s₀ s)(x:Ext s₀ M M')(y:ak M' s s'):ak M s₀ s' :=
 ⟨λb o m e c=>y.obj b o (λq=>(x.a b q).elim m λh=>absurd (aO e) (aw.mpr h)) (k.obj b o m e c) c,
  λb o es i m e c=>(k.dct b o es i m e c).elim λj d=>(y.dct b _ es i (λq=>(x.a b q).elim m λh=>absurd (aO e) (aw.mpr h)) d c).elim λsl f=>⟨sl,f⟩,
  λg z m e=>y.gen g z (λq=>(x.g g q).elim m λh=>absurd (lE.mp e).1 (aw.mpr h)) (k.gen g z m e),ae k.siz y.siz,ae k.gsz y.gsz⟩
theorem ak.vle{M M':Fp}(k:ak M s s')(x:Ext s M M'):Vle (am s.heap (O++M.a)) (am s'.heap (O++M'.a)):=λa o e c=>by
 unfold am at e ⊢
 split at e
 ·cases e
 ·rename_i q
  have q1:a∉O:=λh=>q (aq _ h)
  have q2:a∉M.a:=λh=>q (al _ h)
  have q3:a∉O++M'.a:=λh=>(aj.mp h).elim q1 λh=>(x.a a h).elim q2 λh=>absurd (aO e) (aw.mpr h)
  rw[bj q3];exact k.obj a o q2 e c
theorem ak.vle0(k:aF s s')(O:List Addr):Vle (am s.heap O) (am s'.heap O):=λa o e c=>by
 unfold am at e ⊢
 split at e
 ·cases e
 ·rename_i q;rw[bj q];exact k.obj' e c
theorem bG(hs:∀a,a∈O'->a∈O):Vle (am h O) (am h O'):=λa o e b=>by
 unfold am at e ⊢
 split at e
 ·cases e
 ·rename_i q;rw[bj (λz=>q (hs a z))];exact e
theorem af(e:am h O a=some o):h.get? a=some o:=by
 unfold am at e
 split at e
 ·cases e
 ·exact e
theorem a8(e:am h O a=some o):a∉O:=by
 unfold am at e
 split at e
 ·cases e
 ·assumption
theorem aK(e:h.get? a=some o)(n:a∉O):am h O a=some o:=by
 unfold am;rw[if_neg n];exact e
structure Wc where
 w:World
 H:Heap
 os:OsState
 tabs:List (Addr×Addr)
 mg:Str->Option Value
 mb:Str->Option Value
 mc:Str->Option Value
 frs:List Env
 base:Nat
noncomputable abbrev Wc.at(W:Wc)(l:List Env):Wc:={ W with frs:=l }
noncomputable abbrev Wc.from(W:Wc)(N:Nat):Wc:={ W with base:=N }
structure wi(H h:Heap)(e:Env):Prop where
 kind:e.scope.kind≠.module
 loc:∃L m o,e.frame=some L/\H.objs.size<=L/\h.get? L=some o/\h.Ns L m/\o.cls = .type "frame"
theorem wi.keep{H:Heap}{e:Env}(x:wi H h e)(k:∀L o m,H.objs.size<=L->h.get? L=some o->h.Ns L m->∃a b,h'.get? L=some a/\h'.Ns L b/\a.cls=o.cls):wi H h' e:=by
 refine sX x.loc λL m o i c f g l=>?_
 refine rU (k L o m c f g) λa b n j d=>?_
 exact⟨x.kind,L,b,a,i,c,n,j,d.trans l⟩
theorem jg{m:Str->Option Value}(x:h.Ns L m)(e:h.get? L=some o):∃es a,o.data = .dict es a:=by
 refine i9 x λc es a b hd c=>?_
 rw[e] at b;cases b
 exact⟨es,a,hd⟩
noncomputable abbrev Wc.K(W:Wc):Frag:=KK W.w.params
structure G(W:Wc)(s:Shared):Prop where
 old:OldK W.H s.heap
 siz:W.H.objs.size<=s.heap.objs.size
 bare:AllBare s.gens
 os:s.os=W.os
 kin0:W.K.In W.H
 kin:W.K.In s.heap
 glob0:W.H.Ns mainGlobals W.mg
 glob:s.heap.Ns mainGlobals W.mg
 bui0:W.H.Ns builtinsNs W.mb
 bui:s.heap.Ns builtinsNs W.mb
 boot:∀x:Str,x ≠ "__name__" -> W.mb x=bootBuiltins x
 sta0:W.H.Ns cStatics W.mc
 sta:s.heap.Ns cStatics W.mc
 lim:W.mc "sys.recursionlimit" = none
 tab0:∀c P,(c,P)∈W.tabs->c<W.H.objs.size/\P<W.H.objs.size/\W.K.lookup P=none/\(∃ps,W.H.TableAt c P ps)/\∀c',(c',P)∈W.tabs->c'=c
 tab:∀c P,(c,P)∈W.tabs->∃ps,s.heap.IsCode c P ps/\s.heap.TableAt c P ps
 frs:∀e∈W.frs,wi W.H s.heap e
 bas:W.base<=s.heap.objs.size
theorem G.at{W:Wc}(g:G W s){l:List Env}(h:∀e∈l,wi W.H s.heap e):G (W.at l) s :=
 ⟨g.old,g.siz,g.bare,g.os,g.kin0,g.kin,g.glob0,g.glob,g.bui0,g.bui,g.boot,g.sta0,g.sta,g.lim,g.tab0,g.tab,h,g.bas⟩
theorem G.from{W:Wc}(g:G W s)(h:N<=s.heap.objs.size):G (W.from N) s :=
 ⟨g.old,g.siz,g.bare,g.os,g.kin0,g.kin,g.glob0,g.glob,g.bui0,g.bui,g.boot,g.sta0,g.sta,g.lim,g.tab0,g.tab,g.frs,h⟩
theorem G.noLimit{W:Wc}(g:G W s):s.heap.NoLimit:=⟨_,g.sta,g.lim⟩
theorem G.step{W:Wc}(g:G W s)(k:∀b o,s.heap.get? b=some o->h'.get? b=some o)(z:s.heap.objs.size<=h'.objs.size):
  G W { s with heap:=h',toks:=tk } :=
 ⟨g.old.step_keeps k,ae g.siz z,g.bare,g.os,g.kin0,g.kin.keeps k,g.glob0,g.glob.keeps k,g.bui0,g.bui.keeps k,g.boot,g.sta0,g.sta.keeps k,g.lim,g.tab0,
  λc P m=>xA (g.tab c P m) λf x y=>⟨f,x.keeps k,y.keeps k⟩,λe m=>(g.frs e m).keep λL o m h a d=>⟨o,m,k _ _ a,d.keeps k,rfl⟩,ae g.bas z⟩
theorem G.tok{W:Wc}(g:G W s):G W { s with toks:=tk }:=g.step (λa a e=>e) (aB _)
theorem aF.step(k:∀b o,s.heap.get? b=some o->h'.get? b=some o)(z:s.heap.objs.size<=h'.objs.size):aF s { s with heap:=h',toks:=tk } :=
 dp (λb o a e=>k b o e) (λa a a e=>e) z (aB _)
theorem aF.tok:aF s { s with toks:=tk }:=dp (λa a a e=>e) (λa a a e=>e) (aB _) (aB _)
theorem xD{c P:Addr}{g:Array Value}(x:h.IsCode c P g/\h.TableAt c P g)(m:∀o,h.get? c=some o->h'.get? c=some o)(n:∀o,h.get? P=some o->h'.get? P=some o):h'.IsCode c P g/\h'.TableAt c P g:=by
 refine dn x λk j t=>?_
 obtain⟨o,vs,f,C,d,y,i,e,s,op,a,D,p,B,z,A,q,b,r⟩:=k
 obtain⟨v,l,u,w⟩:=j
 exact⟨⟨o,vs,f,C,d,y,i,e,s,op,m _ a,D,p,B,z,A,q,n _ b,r⟩,⟨v,l,m _ u,w⟩,n _ t⟩
inductive wj(h h':Heap)(a:Addr):Prop
 | inl (x:∃o,h.get? a=some o/\∀es ep,o.data≠.dict es ep)
 | inr (x:∃o o' m,h.get? a=some o/\h'.get? a=some o'/\h'.Ns a m/\o'.cls=o.cls)
theorem G.upd0{W:Wc}(g:G W s)(n:W.H.objs.size<=a)(hs:Heap.SameBut a s.heap h')(hf:(∃e∈W.frs,e.frame=some a)->∃o h m,s.heap.get? a=some o/\h'.get? a=some h/\h'.Ns a m/\h.cls=o.cls):G W { s with heap:=h',toks:=tk }:=by
 have d:∀{b},b<W.H.objs.size->b≠a:=λl e=>by subst e;exact absurd l (aw.mpr n)
 have k:∀{b o},b<W.H.objs.size->s.heap.get? b=some o->h'.get? b=some o:=λl e=>(hs.2 _ (d l)).trans e
 refine⟨g.old.step_same n hs,by rw[hs.1];exact g.siz,g.bare,g.os,g.kin0,λb o e=>k (aO (g.kin0 b o e)) (g.kin b o e),g.glob0,g.glob.sameBut hs (d g.glob0.lt),
  g.bui0,g.bui.sameBut hs (d g.bui0.lt),g.boot,g.sta0,g.sta.sameBut hs (d g.sta0.lt),g.lim,g.tab0,λc P m=>?_,λe m=>?_,by rw[hs.1];exact g.bas⟩
 rotate_left
 ·refine sX ((g.frs e m).loc) λL D o j q i r p=>?_
  refine⟨(g.frs e m).kind,?_⟩
  by_cases f:L=a
  ·subst f
   refine wh (hf ⟨e,m,j⟩) λh C w z B u v=>?_
   rw[z] at i;cases i
   exact⟨L,w,C,j,q,B,u,v.trans p⟩
  ·exact⟨L,D,o,j,q,(hs.2 L f).trans i,r.sameBut hs f,p⟩
 refine bc (g.tab c P m) λt x y=>?_
 refine dn (g.tab0 c P m) λlc A E=>?_
 exact⟨t,xD ⟨x,y⟩ (λE=>k lc) λE=>k A⟩
theorem G.upd{W:Wc}(g:G W s)(f:W.H.objs.size<=a)(hs:Heap.SameBut a s.heap h')(hf:wj s.heap h' a):G W { s with heap:=h',toks:=tk } :=
 g.upd0 f hs λw=>by
  refine bc w λe m i=>?_
  rcases hf with⟨l,b,k⟩ | h
  ·refine sX ((g.frs e m).loc) λL q o d p c j r=>?_
   rw[i] at d;cases d
   rw[b] at c;cases c
   refine yK (jg j b) λes n hd=>?_
   exact absurd hd (k _ _)
  ·exact h
theorem G.frlt{W:Wc}(g:G W s){e:Env}(m:e∈W.frs)(h:e.frame=some L):L<s.heap.objs.size:=by
 refine wh ((g.frs e m).loc) λd d o a c b d=>?_
 rw[h] at a;cases a
 exact aO b
theorem EB{h₀:Heap}(K:OldK h₀ h)(f:∀b o,b<h₀.objs.size->h.get? b=some o->h'.get? b=some o):OldK h₀ h':=by
 have g:∀{b o},h₀.get? b=some o->b<h₀.objs.size:=λe=>aO e
 refine⟨λb o e=>?_,λb o e=>(K.there b o e).elim λi a=>⟨i,f _ _ (g e) a⟩⟩
 rcases K.old b o e with x | ⟨t,j,vs,c,k,x⟩ | ⟨rfl,j,⟨i,es,n,a,r⟩,z⟩
 ·exact .inl (f _ _ (g e) x)
 ·exact .inr (.inl ⟨t,j,vs,c,k,f _ _ (g e) x⟩)
 ·exact .inr (.inr ⟨rfl,j,⟨i,es,n,f _ _ (g e) a,r⟩,λd=>by refine(OldK.staticOf_congr ((f _ _ (g e) a).trans a.symm) d) ▸ ?_;exact z d⟩)
theorem G.fr{W:Wc}(g:G W s)(k:∀b o,b<W.H.objs.size->s.heap.get? b=some o->s'.heap.get? b=some o)(z:s.heap.objs.size<=s'.heap.objs.size)(h:AllBare s'.gens)(f:s'.os=s.os)(hd:∀L o m,W.H.objs.size<=L->s.heap.get? L=some o->s.heap.Ns L m->∃d l,s'.heap.get? L=some d/\s'.heap.Ns L l/\d.cls=o.cls):G W s':=by
 have ns:∀{a m},W.H.Ns a m->s.heap.Ns a m->s'.heap.Ns a m:=λx=>F6 λo es j e r=>⟨o,es,j,k _ _ x.lt e,r⟩
 refine⟨EB g.old k,ae g.siz z,h,f.trans g.os,g.kin0,λb o e=>k b o (aO (g.kin0 b o e)) (g.kin b o e),g.glob0,ns g.glob0 g.glob,g.bui0,ns g.bui0 g.bui,g.boot,g.sta0,ns g.sta0 g.sta,g.lim,g.tab0,λc P m=>?_,λe m=>(g.frs e m).keep hd,ae g.bas z⟩
 refine bc (g.tab c P m) λi x y=>?_
 refine dn (g.tab0 c P m) λlc n p=>?_
 exact⟨i,xD ⟨x,y⟩ (λp=>k _ _ lc) λp=>k _ _ n⟩
structure aU(W:Wc)(A:Around)(n:Nat):Prop where
 hd:A.handled=none
 fr:A.frames=some W.frs
 depth:A.depth+n<recursionLimit
 units:A.units+8*n<cLine
theorem aU.le{W:Wc}(r:aU W A n)(h:m<=n):aU W A m:=⟨r.hd,r.fr,by have:=r.depth;exact ae (aX (iH h _) 1) this,by have:=r.units;exact ae (aX (iH (pw _ h) _) 1) this⟩
theorem aU.in1{W:Wc}(r:aU W A (n+1)):aU W A.in1 n:=⟨r.hd,r.fr,jd r.depth,oR (b:=1) (by decide) r.units⟩
theorem aU.deeper{W:Wc}(env:Env)(r:aU W A (n+1)):aU (W.at (env::W.frs)) (A.deeper env) n:=⟨r.hd,by show A.frames.map _=_;rw[r.fr];rfl,by have:=r.depth;show A.depth+1+n<_;exact iw A.depth 1 n▸this,by have:=r.units;show A.units+3+8*n<_;exact oR (by decide) this⟩
structure Cx where
 scope:Scope
 names:List Str
 own:List Str
 code:Option Value:=none
noncomputable def qp(x:Str):Bool:=!(x==("__debug__" : Str)) && !(x==("__classdict__" : Str))
structure yM(C:Cx):Prop where
 kind:C.scope.kind = .function
 nd:C.names.Nodup
 nm:∀x∈C.names,qp x=true
theorem wk(h:qp x=true):(x==("__debug__" : Str))=false:=by
 simp only[qp,Bool.and_eq_true,Bool.not_eq_true'] at h;exact h.1
theorem EC(h:qp x=true):(x==("__classdict__" : Str))=false:=by
 simp only[qp,Bool.and_eq_true,Bool.not_eq_true'] at h;exact h.2
structure nr(C:Cx)(env:Env):Prop where
 cx:yM C
 scope:env.scope=C.scope
 glob:env.globals=mainGlobals
 bui:env.builtins=builtinsNs
 apart:env.cells.Pairwise λx y=>x.2≠y.2
 ownc:∀x∈C.own,∃c,env.cells.lookup x=some c
 code:∀v,C.code=some v->env.code=v
noncomputable def ug(C:Cx)(env:Env)(h:Heap)(m:Str->Option Value)(x:Str)(v:Value):Prop :=
 (C.scope.names.lookup x=some .local/\m x=some v) ∨
 ((C.scope.names.lookup x=some .cell∨C.scope.names.lookup x=some .free)/\∃c,env.cells.lookup x=some c/\h.IsCell c (some v))
structure Kn where
 v:List (Option Ty)
 h:List (Addr×OTy)
inductive jL(V:fH)(h:Heap)(P:OTy)(a:Addr):Prop
 | mk (o:Obj) (e:h.get? a=some o) (n:nt o=true) (p:P.p V o)
inductive z1(env:Env)(O:List Addr)(M:Fp)(s:Shared)(P:OTy)(a:Addr):Prop
 | mk (m:a∈M.a) (l:a≠env.locals) (c:∀x,env.cells.lookup x≠some a) (n:a∉O) (o:Obj) (h:s.heap.get? a=some o) (t:nt o=true) (p:P.p (am s.heap (O++M.a)) o)
theorem z1.mem{M:Fp}{P:OTy}(h:z1 env O M s P a):a∈M.a:=by
 obtain⟨h,b,b,b,b,b,b,b⟩:=h
 exact h
structure Inv(W:Wc)(C:Cx)(env:Env)(Γ:Kn)(O:List Addr)(M:Fp)(s:Shared):Prop where
 g:G W s
 ok:nr C env
 own:env.locals∈M.a
 cel:∀x c,env.cells.lookup x=some c->x∈C.own->c∈M.a
 up:∀a∈O++M.a,W.H.objs.size<=a/\a<s.heap.objs.size
 upg:∀g∈M.g,g<s.gens.size
 loc:∃m,s.heap.Ns env.locals m/\∀(i:Nat) (x:Str) (T:Ty),C.names[i]? = some x->Γ.v[i]? = some (some T)->∃v,ug C env s.heap m x v/\T.p (am s.heap (O++M.a)) v
 cells:∀x c,env.cells.lookup x=some c->∃v,s.heap.IsCell c v
 phi:∀a P,(a,P)∈Γ.h->z1 env O M s P a
 nod:(Γ.h.map (·.1)).Nodup
 top:∃e l,W.frs=e::l/\e.frame=env.frame
theorem jh(k:aF s s'){c:Addr}{v:Option Value}(h:s.heap.IsCell c v):s'.heap.IsCell c v:=by
 refine bc h λo e r=>?_
 exact⟨o,k.obj' e (nq r),r⟩
theorem Ch(k:aF s s'){m:Str->Option Value}(h:s.heap.Ns L m):s'.heap.Ns L m:=k.ns (by simp) h
theorem sk{cells:List (Str×Addr)}{c:Addr}(h:cells.lookup x=some c):(x,c)∈cells:=mem_of_lookup h
theorem nr.kind{C:Cx}(e:nr C env):env.scope.kind = .function:=by rw[e.scope];exact e.cx.kind
theorem nr.of{C:Cx}(e:nr C env){k:NameKind}(h:C.scope.names.lookup x=some k):env.kindOf x=some k:=by rw[Env.kindOf,e.scope];exact h
theorem Inv.keep{W:Wc}{C:Cx}{Γ:Kn}{M:Fp}(I:Inv W C env Γ O M s)(k:aF s s')(g:G W s'):Inv W C env Γ O M s':=by
 refine bc I.loc λm u n=>?_
 refine⟨g,I.ok,I.own,I.cel,λa f=>⟨(I.up a f).1,aA (I.up a f).2 k.siz⟩,λg p=>aA (I.upg g p) k.gsz,⟨m,Ch k u,λi x T j q=>?_⟩,λx c d=>?_,λa P d=>?_,I.nod,I.top⟩
 ·refine bc (n i x T j q) λv sl r=>?_
  refine⟨v,?_,T.mono (k.vle0 _) r⟩
  rcases sl with sl | ⟨y,c,t,b⟩
  ·exact .inl sl
  ·exact .inr ⟨y,c,t,jh k b⟩
 ·refine dK (I.cells x c d) λv e=>?_
  exact⟨v,jh k e⟩
 ·obtain⟨A,z,w,B,o,l,h,D⟩:=I.phi a P d
  exact⟨A,z,w,B,o,k.obj' l h,h,P.mono (k.vle0 _) D⟩
noncomputable def Nev:Value->Shared->Prop:=λa a=>False
noncomputable def Res(W:Wc)(O:List Addr)(s:Shared)(T:Ty)(v:Value)(s':Shared):Prop:=G W s'/\aF s s'/\T.p (am s'.heap O) v
noncomputable def EvP(W:Wc)(C:Cx)(Γ:Kn)(n:Nat)(e:Expr)(T:Ty):Prop :=
 ∀A env O M s,aU W A n->Inv W C env Γ O M s->wpAny (model prg W.w) A (eval e env) (Res W (O++M.a) s T) Nev s
noncomputable def TsP(W:Wc)(C:Cx)(Γ:Kn)(n:Nat)(e:Expr)(b:Bool):Prop :=
 ∀A env O M s,aU W A n->Inv W C env Γ O M s->wpAny (model prg W.w) A (isTrue e env (eval e env)) (λr s'=>r=b/\G W s'/\aF s s') Nev s
structure GO(W:Wc)(O:List Addr)(s:Shared):Prop where
 g:G W s
 ok:∀a∈O,W.H.objs.size<=a/\a<s.heap.objs.size
 top:W.frs≠[]
theorem Inv.go{W:Wc}{C:Cx}{Γ:Kn}{M:Fp}(I:Inv W C env Γ O M s):GO W (O++M.a) s:=⟨I.g,I.up,by obtain⟨e,l,h,b⟩:=I.top;rw[h];exact sT _ _⟩
abbrev jM(W:Wc)(x:String)(v:Value):Prop:=nsIn W.K mainGlobals (S x)=some none/\bootBuiltins (S x)=some v/\S x ≠ "__name__"
abbrev fc(W:Wc)(x:String)(a:Addr):Prop:=nsIn W.K mainGlobals (S x)=some (some (.ref a))
variable {V V':fH} {T U R T1:Ty} {Ts:List Ty} {M F F₀ Fs Fa M' F':Fp} {Q':OTy} {W:Wc} {C C' Cg:Cx} {Γ Γ':Kn} {fs Ks:List (Str×Ty)} {Θ Θ':List Ty->Prop} {σ σ':List (Option Ty)}
noncomputable def bh(i:Int):Ty:=⟨λa v=>∃t,v = .int i t,λa h=>h⟩
noncomputable def aG(b:Bool):Ty:=⟨λa v=>v = .bool b,λa h=>h⟩
noncomputable def cJ:Ty:=⟨λa v=>v = .none,λa h=>h⟩
noncomputable def ma(x:Str):Ty:=⟨λa v=>∃t,v = .str x t,λa h=>h⟩
noncomputable def aE(a:Value):Ty:=⟨λb v=>v=a,λb h=>h⟩
noncomputable def dk:Ty:=⟨λa a=>True,λa h=>h⟩
theorem aJ{i k pos}:EvP W C Γ n (.Constant (.int i) k pos) (bh i):=λa a a a a a I=>wpAny_Constant_int ⟨I.g.tok,aF.tok,_,rfl⟩
theorem bO{b k pos}:EvP W C Γ n (.Constant (.bool b) k pos) (aG b):=λa a a a s a I=>ac ⟨I.g,aF.refl s,rfl⟩
theorem eX{k pos}:EvP W C Γ n (.Constant .none k pos) cJ:=λa a a a s a I=>ac ⟨I.g,aF.refl s,rfl⟩
theorem fu{x k pos}:EvP W C Γ n (.Constant (.str x) k pos) (ma x):=λa a a a a a I=>Constant_str ⟨I.g.tok,aF.tok,_,rfl⟩
theorem pD(i:Nat)(f:C.names[i]? = some x)(p:Γ.v[i]? = some (some T)):EvP W C Γ n (.Name x pos) T:=λA env O M s r I=>by
 obtain⟨m,l,o⟩:=I.loc
 obtain⟨v,sl,k⟩:=o i x T f p
 have nm:=I.ok.cx.nm x (be f)
 have b:Res W (O++M.a) s T v s:=⟨I.g,aF.refl s,k⟩
 rcases sl with⟨e,j⟩ | ⟨e | e,c,h,d⟩
 ·exact wpAny_Name (sU I.ok.kind (I.ok.of e) l j b) (wk nm)
 ·exact wpAny_Name (sV I.ok.kind (I.ok.of e) h d b) (wk nm)
 ·exact wpAny_Name (pz I.ok.kind (I.ok.of e) h d b (EC nm)) (wk nm)
theorem Ci(a:C.scope.names.lookup x=some .globalImplicit)(b:nsIn W.K mainGlobals x=some (some v))(hd:qp x=true):EvP W C Γ n (.Name x pos) (aE v):=λA env O M s r I =>
 pA I.ok.kind (I.ok.of a) (loadGlobal_global (by rw[I.ok.glob];exact I.g.glob) (mg_of I.g.kin I.g.glob b) ⟨I.g,aF.refl s,rfl⟩) (wk hd)
theorem z2(b:C.scope.names.lookup x=some .globalImplicit)(c:nsIn W.K mainGlobals x=some none)(a:bootBuiltins x=some v)(d:x ≠ "__name__")(hd:qp x=true):EvP W C Γ n (.Name x pos) (aE v):=λA env O M s r I =>
 pA I.ok.kind (I.ok.of b) (pB (by rw[I.ok.glob];exact I.g.glob) (mg_none_of I.g.kin I.g.glob c) (by rw[I.ok.bui];exact I.g.bui) ((I.g.boot x d).trans a) ⟨I.g,aF.refl s,rfl⟩) (wk hd)
theorem Res.then(h:Res W O' s T v s₁)(I:Inv W C env Γ O M s):Inv W C env Γ O M s₁:=I.keep h.2.1 h.1
theorem nev{e:Value}(h:Nev e s):Q e s:=False.elim h
theorem az(e:Value)(s:Shared)(h:Nev e s):Q e s:=False.elim h
theorem il{l:Expr}{op pos}(i:EvP W C Γ n l T)(g:EvP W C Γ n r U)(h:∀A O s a b,aU W A n->GO W O s->T.p (am s.heap O) a->U.p (am s.heap O) b->wpAny (model prg W.w) A (binaryOp op a b) (Res W O s R) Nev s):EvP W C Γ n (.BinOp l op r pos) R:=λA env O M s f I =>
 wpAny_BinOp (ad (i A env O M s f I) (λa s₁ d=>ad (g A env O M s₁ f (d.then I)) (λb s₂ c =>
  ad (h A _ s₂ a b f (c.then (d.then I)).go (T.mono (c.2.1.vle0 _) d.2.2) c.2.2) (λj j e=>⟨e.1,(d.2.1.trans c.2.1).trans e.2.1,e.2.2⟩) az) az) az)
theorem dW{t:Nat}(g:G W s)(h:T.p (am s.heap O) v):Res W O s T v { s with toks:=t }:=⟨g.tok,aF.tok,h⟩
theorem sY{l:Expr}{pos}{a b:Int}(f:EvP W C Γ n l (bh a))(c:EvP W C Γ n r (bh b)):EvP W C Γ n (.BinOp l .Add r pos) (bh (a+b)) :=
 il f c λA O s x y h g d e=>by obtain⟨h,rfl⟩:=d;obtain⟨h,rfl⟩:=e;exact add_int (dW g.g ⟨_,rfl⟩)
theorem md{l:Expr}{pos}{a b:Int}(f:EvP W C Γ n l (bh a))(c:EvP W C Γ n r (bh b)):EvP W C Γ n (.BinOp l .Sub r pos) (bh (a-b)) :=
 il f c λA O s x y h g d e=>by obtain⟨h,rfl⟩:=d;obtain⟨h,rfl⟩:=e;exact sub_int (dW g.g ⟨_,rfl⟩)
theorem Cj{l:Expr}{pos}{a b:Int}(d:b≠0)(i:Builtin.divisionGoesByPylong a b=false)(h:EvP W C Γ n l (bh a))(c:EvP W C Γ n r (bh b)):EvP W C Γ n (.BinOp l .FloorDiv r pos) (bh (a.fdiv b)) :=
 il h c λA O s x y j g e f=>by obtain⟨j,rfl⟩:=e;obtain⟨j,rfl⟩:=f;exact floordiv_int d (dW g.g ⟨_,rfl⟩) (.inl i)
theorem ED{l:Expr}{op pos}(i:behindInMarks op r=false)(j:EvP W C Γ n l T)(g:EvP W C Γ n r U)(h:∀A O s a b,aU W A n->GO W O s->T.p (am s.heap O) a->U.p (am s.heap O) b->wpAny (model prg W.w) A (compareOp op a b) (Res W O s R) Nev s):EvP W C Γ n (.Compare l [op] [r] pos) R:=λA env O M s f I =>
 wpAny_Compare1 (ad (j A env O M s f I) (λa s₁ c=>ad (g A env O M s₁ f (c.then I)) (λb s₂ d =>
  ad (h A _ s₂ a b f (d.then (c.then I)).go (T.mono (d.2.1.vle0 _) c.2.2) d.2.2) (λk k e=>⟨e.1,(c.2.1.trans d.2.1).trans e.2.1,e.2.2⟩) az) az) az) i
theorem EE{l:Expr}{op pos}(k:behindInMarks op r=false)(m:EvP W C Γ n l T)(i:EvP W C Γ n r U)(h:∀A O s a b,aU W A n->GO W O s->T.p (am s.heap O) a->U.p (am s.heap O) b->wpAny (model prg W.w) A (compareOp op a b) (Res W O s (aG q)) Nev s):TsP W C Γ n (.Compare l [op] [r] pos) q:=λA env O M s f I =>
 sW (ad (m A env O M s f I) (λa s₁ c=>ad (i A env O M s₁ f (c.then I)) (λb s₂ d =>
  ad (h A _ s₂ a b f (d.then (c.then I)).go (T.mono (d.2.1.vle0 _) c.2.2) d.2.2) (λv g e=>by
   have j:v = .bool q:=e.2.2
   subst j
   exact gW ⟨rfl,e.1,(c.2.1.trans d.2.1).trans e.2.1⟩) az) az) az) k
noncomputable abbrev iz(W:Wc)(n:Nat)(op:CmpOp)(T U:Ty)(q:Bool):Prop:=∀A O s a b,aU W A n->GO W O s->T.p (am s.heap O) a->U.p (am s.heap O) b->wpAny (model prg W.w) A (compareOp op a b) (Res W O s (aG q)) Nev s
theorem ia{a b:Int}:iz W n .Lt (bh a) (bh b) (decide (a<b)):=λA O s x y e g c d=>by obtain⟨e,rfl⟩:=c;obtain⟨e,rfl⟩:=d;exact lt_int ⟨g.g,aF.refl s,rfl⟩
theorem qq{a b:Int}:iz W n .Gt (bh a) (bh b) (decide (b<a)):=λA O s x y e g c d=>by obtain⟨e,rfl⟩:=c;obtain⟨e,rfl⟩:=d;exact gt_int ⟨g.g,aF.refl s,rfl⟩
theorem uh{a b:Int}:iz W n .LtE (bh a) (bh b) (decide (a<=b)):=λA O s x y e g c d=>by obtain⟨e,rfl⟩:=c;obtain⟨e,rfl⟩:=d;exact le_int ⟨g.g,aF.refl s,rfl⟩
theorem k6{a b:Int}:iz W n .GtE (bh a) (bh b) (decide (b<=a)):=λA O s x y e g c d=>by obtain⟨e,rfl⟩:=c;obtain⟨e,rfl⟩:=d;exact ge_int ⟨g.g,aF.refl s,rfl⟩
theorem sm{a b:Int}:iz W n .Eq (bh a) (bh b) (a==b):=λA O s x y e g c d=>by obtain⟨e,rfl⟩:=c;obtain⟨e,rfl⟩:=d;exact eq_int ⟨g.g,aF.refl s,rfl⟩
theorem Gb{a b:Int}:iz W n .NotEq (bh a) (bh b) (a != b):=λA O s x y e g c d=>by obtain⟨e,rfl⟩:=c;obtain⟨e,rfl⟩:=d;exact ne_int ⟨g.g,aF.refl s,rfl⟩
noncomputable def ay(V:fH):List Ty->List Value->Prop
 | [],[]=>True
 | T::Ts,v::vs=>T.p V v/\ay V Ts vs
 | _,_=>False
theorem ay.ind{P:List Ty->List Value->Prop}(a:P [] [])(b:∀{T:Ty} {Ts:List Ty} {v:Value} {vs:List Value},T.p V v->ay V Ts vs->P Ts vs->P (T::Ts) (v::vs)){Ts:List Ty}:∀{vs:List Value},ay V Ts vs->P Ts vs:=by
 induction Ts with
 | nil =>
  intro vs h
  cases vs with
  | nil=>exact a
  | cons=>exact h.elim
 | cons T Ts ih =>
  intro vs h
  cases vs with
  | nil=>exact h.elim
  | cons v vs=>exact b h.1 h.2 (ih h.2)
theorem ay.mono(h:Vle V V'):∀{Ts:List Ty} {vs:List Value},ay V Ts vs->ay V' Ts vs:=ay.ind (P:=ay V') trivial λa c b=>⟨Ty.mono _ h a,b⟩
theorem ay.nil_iff(h:ay V [] vs):vs=[]:=by cases vs with | nil=>rfl | cons=>exact h.elim
inductive Gc(V:fH)(T:Ty)(Ts:List Ty)(vs:List Value):Prop
 | mk (v:Value) (r:List Value) (e:vs=v::r) (t:T.p V v) (h:ay V Ts r)
theorem ay.cons_iff(h:ay V (T::Ts) vs):Gc V T Ts vs:=by
 cases vs with
 | nil=>exact h.elim
 | cons v r=>exact⟨v,r,rfl,h.1,h.2⟩
inductive Gd(V:fH)(A:Ty)(vs:List Value):Prop
 | mk (v:Value) (e:vs=[v]) (a:A.p V v)
theorem ay.a1{A:Ty}(h:ay V [A] vs):Gd V A vs:=by
 obtain⟨v,a,rfl,t,g⟩:=h.cons_iff
 exact(ay.nil_iff g)▸(⟨v,rfl,t⟩)
inductive Ge(V:fH)(A B:Ty)(vs:List Value):Prop
 | mk (v w:Value) (e:vs=[v,w]) (a:A.p V v) (b:B.p V w)
theorem ay.a2{A B:Ty}(h:ay V [A,B] vs):Ge V A B vs:=by
 obtain⟨v,b,rfl,t,g⟩:=h.cons_iff
 obtain⟨w,rfl,a⟩:=g.a1
 exact⟨v,w,rfl,t,a⟩
inductive Gf(V:fH)(A B D:Ty)(vs:List Value):Prop
 | mk (v w x:Value) (e:vs=[v,w,x]) (a:A.p V v) (b:B.p V w) (d:D.p V x)
theorem ay.a3{A B D:Ty}(h:ay V [A,B,D] vs):Gf V A B D vs:=by
 obtain⟨v,c,rfl,t,g⟩:=h.cons_iff
 obtain⟨w,x,rfl,a,b⟩:=g.a2
 exact⟨v,w,x,rfl,t,a,b⟩
noncomputable def Gg(W:Wc)(O:List Addr)(s:Shared)(Ts:List Ty)(vs:List Value)(s':Shared):Prop:=G W s'/\aF s s'/\ay (am s'.heap O) Ts vs
noncomputable def dJ(W:Wc)(C:Cx)(Γ:Kn)(n:Nat)(es:List Expr)(Ts:List Ty):Prop :=
 ∀A env O M s pos,aU W A n->Inv W C env Γ O M s->(backTo pos (starEach es env)).any (·.1)=false /\
  wpAny (model prg W.w) A (spliced (backTo pos (starEach es env))) (Gg W (O++M.a) s Ts) Nev s
theorem dl:dJ W C Γ n [] []:=λa a a a s a a I=>⟨rfl,ac ⟨I.g,aF.refl s,trivial⟩⟩
theorem eY(hs:∀env,starEach (e::es) env=(false,eval e env)::starEach es env)(h:EvP W C Γ n e T)(d:dJ W C Γ n es Ts):dJ W C Γ n (e::es) (T::Ts):=λA env O M s pos c I=>by
 have f:backTo pos (starEach (e::es) env)=(false,eval e env)::backTo pos (starEach es env):=by rw[hs];rfl
 obtain⟨g,i⟩:=d A env O M s pos c I
 refine⟨?_,?_⟩
 ·rw[f,pC,g];rfl
 ·rw[f]
  refine je (ad (h A env O M s c I) (λv s₁ b=>?_) az)
  refine ad (d A env O M s₁ pos c (b.then I)).2 (λvs s₂ a=>?_) az
  exact⟨a.1,b.2.1.trans a.2.1,T.mono (a.2.1.vle0 _) b.2.2,a.2.2⟩
noncomputable def ui(W:Wc)(C:Cx)(Γ:Kn)(n:Nat)(ks:List Keyword)(Ks:List (Str×Ty)):Prop :=
 ∀A env O M s pos,aU W A n->Inv W C env Γ O M s->(backToKw pos (keywordEach ks env)).map (·.1)=Ks.map (λk=>some k.1) /\
  wpAny (model prg W.w) A (evalAll ((backToKw pos (keywordEach ks env)).map (·.2))) (Gg W (O++M.a) s (Ks.map (·.2))) Nev s
theorem au:ui W C Γ n [] []:=λa a a a s a a I=>⟨rfl,ac ⟨I.g,aF.refl s,trivial⟩⟩
theorem eA{ks:List Keyword}(h:EvP W C Γ n e T)(d:ui W C Γ n ks Ks):ui W C Γ n (⟨some x,e,p⟩::ks) ((x,T)::Ks):=λA env O M s pos c I=>by
 obtain⟨f,g⟩:=d A env O M s pos c I
 refine⟨?_,?_⟩
 ·refine(?_:some x::(backToKw pos (keywordEach ks env)).map (·.1)=some x::_)
  rw[f]
 ·show wpAny _ A (do let v ← (do let v ← eval e env;standAt pos;pure v);return v::(← holding [v] (evalAll ((backToKw pos (keywordEach ks env)).map (·.2))))) _ _ s
  refine aa (aa (ad (h A env O M s c I) (λv s₁ b=>aa (ct (ac ?_))) az))
  refine aa (aP (ad (d A env O M s₁ pos c (b.then I)).2 (λvs s₂ a=>ac ?_) az))
  exact⟨a.1,b.2.1.trans a.2.1,T.mono (a.2.1.vle0 _) b.2.2,a.2.2⟩
theorem bU{f:Value}{as:List (Bool×Sem Value)}{ks:List (Option Str×Sem Value)}{ns:List Str}{Q:Args->Shared->Prop}(l:as.any (·.1)=false)(j:ks.map (·.1)=ns.map some)(h:wpAny (model prg W.w) A (spliced as) (λvs s₁=>wpAny (model prg W.w) A (evalAll (ks.map (·.2))) (λkv s₂=>Q ⟨vs,ns.zip kv⟩ s₂) E s₁) E s):wpAny (model prg W.w) A (evalArgs f true as ks) Q E s:=by
 have e:as=[]∨∃x r,as=(false,x)::r:=by
  cases as with
  | nil=>exact .inl rfl
  | cons y r =>
   obtain⟨b,x⟩:=y
   simp only[List.any_cons,Bool.or_eq_false_iff] at l
   have m:b=false:=l.1
   subst m
   exact .inr ⟨x,r,rfl⟩
 have h':∀{k:List Value->Sem Args},(∀vs s₁,wpAny (model prg W.w) A (evalAll (ks.map (·.2))) (λkv s₂=>Q ⟨vs,ns.zip kv⟩ s₂) E s₁->wpAny (model prg W.w) A (k vs) Q E s₁)->wpAny (model prg W.w) A (spliced as >>= k) Q E s :=
  λp=>aa (ad h (λvs s₁ a=>p vs s₁ a) λu u e=>e)
 suffices z:∀vs s₁,wpAny (model prg W.w) A (evalAll (ks.map (·.2))) (λkv s₂=>Q ⟨vs,ns.zip kv⟩ s₂) E s₁->wpAny (model prg W.w) A (holding (vs++(none:Option Value).toList) do
   let readLate (c:List Value):Sem (List Value):=do
    let some s:=(none:Option Value) | return vs
    if ← notIterableAtAll s then
     rule "call.star.not-iterable"
     raiseError "TypeError" s!"{← functionStr f} argument after * must be an iterable, not {← typeNameOf s}"
    holding c (collect s)
   if ks.all (·.1.isSome) then
    let i:=(ks.filterMap (·.1)).zip (← evalAll (ks.map (·.2)))
    return⟨← readLate (i.map (·.2)),i⟩
   let d ← mergedKeywords f ks
   let pos ← readLate [.ref d]
   return⟨pos,← holding (.ref d::pos) (keywordsIn f d)⟩) Q E s₁ by
  rcases e with e | ⟨x,r,e⟩
  ·subst e;exact h' z
  ·subst e;exact h' z
 intro vs s₁ a
 refine aP ?_
 have t:ks.all (λx=>x.1.isSome)=true:=by
  rw[bd]
  intro x q
  have:x.1∈ks.map (·.1):=cj q
  rw[j] at this
  obtain⟨y,u,n⟩:=a9.mp this
  rw[← n];rfl
 have o:ks.filterMap (·.1)=ns:=by
  have:ks.filterMap (·.1)=(ks.map (·.1)).filterMap id:=by rw[List.filterMap_map];rfl
  rw[this,j,List.filterMap_map];simp
 rw[o]
 refine ifY t ?_
 refine aa (ad a (λkv s₂ g=>?_) λu u e=>e)
 exact ac g
noncomputable def aM(W:Wc)(n:Nat)(f:Value)(Ts:List Ty)(Ks:List (Str×Ty))(R:Ty):Prop :=
 ∀A O s vs ks,aU W A n->GO W O s->ay (am s.heap O) Ts vs->ay (am s.heap O) (Ks.map (·.2)) ks->wpAny (model prg W.w) A (call f vs ((Ks.map (·.1)).zip ks)) (Res W O s R) Nev s
noncomputable abbrev KeP(W:Wc)(v:Value)(h:Heap):Prop:=∃k,(k=Keeper.frame∨k=Keeper.machine∨k=Keeper.boundFrame)/\Looks (model prg W.w) h (keeperOf v) k
noncomputable def jp(W:Wc)(f:Value):Prop:=∀s,G W s->KeP W f s.heap
theorem mf{T:Ty}{fv:Value}{first:List Value}{Fs:List Ty}{es:List Expr}{ks:List Keyword}{Ts:List Ty}{Ks:List (Str×Ty)}{R:Ty}(l:jp W fv)(j:dJ W C Γ n es Ts)(e:ui W C Γ n ks Ks)(q:aM W n fv (Fs++Ts) Ks R){A env O M s pos}(f:aU W A n)(I:Inv W C env Γ O M s)(t:ay (am s.heap (O++M.a)) Fs first):
  wpAny (model prg W.w) A (callWith pos fv first (backTo pos (starEach es env)) (backToKw pos (keywordEach ks env))) (Res W (O++M.a) s R) Nev s:=by
 obtain⟨i,m⟩:=j A env O M s pos f I
 refine dO (P:=KeP W fv) ?_ (λh p=>p) ?_
 ·rw[i,dP]
  rw[gX]
  intro x o
  have:x.1∈(backToKw pos (keywordEach ks env)).map (·.1):=cj o
  rw[(e A env O M s pos f I).1] at this
  obtain⟨y,h,k⟩:=a9.mp this
  rw[← k];simp
 ·refine bU (ns:=Ks.map (·.1)) i (by rw[(e A env O M s pos f I).1,cP];rfl) (ad m (λvs s₁ c=>?_) az)
  refine ad (e A env O M s₁ pos f (I.keep c.2.1 c.1)).2 (λkv s₂ b=>⟨l s₂ b.1,?_⟩) az
  have g:∀{Fs:List Ty} {first:List Value},ay (am s₂.heap (O++M.a)) Fs first->ay (am s₂.heap (O++M.a)) (Fs++Ts) (first++vs):=by
   intro Fs
   induction Fs with
   | nil=>intro first hf;rw[ay.nil_iff hf];exact ay.mono (b.2.1.vle0 _) c.2.2
   | cons F Fs ih =>
    intro first hf
    obtain⟨v,r,rfl,x,y⟩:=ay.cons_iff hf
    exact⟨x,ih y⟩
  exact ad (q A _ s₂ _ kv f (I.keep (c.2.1.trans b.2.1) b.1).go (g (ay.mono ((c.2.1.trans b.2.1).vle0 _) t)) b.2.2) (λh h d=>⟨d.1,(c.2.1.trans b.2.1).trans d.2.1,d.2.2⟩) az
theorem ao{ks:List Keyword}(hf:EvP W C Γ n (.Name x p) (aE fv))(h:jp W fv)(e:dJ W C Γ n es Ts)(c:ui W C Γ n ks Ks)(g:aM W n fv Ts Ks R):EvP W C Γ n (.Call (.Name x p) es ks pos) R:=λA env O M s d I=>by
 refine(?_:wpAny _ A (do callWith pos (← eval (.Name x p) env) [] (backTo pos (starEach es env)) (backToKw pos (keywordEach ks env))) _ _ s)
 refine aa (ad (hf A env O M s d I) (λv s₁ a=>?_) az)
 have f:v=fv:=a.2.2
 subst f
 exact ad (mf (T:=dk) (first:=[]) (Fs:=[]) h e c g d (a.then I) trivial) (λi i b=>⟨b.1,a.2.1.trans b.2.1,b.2.2⟩) az
inductive ja where
 | next (Γ:Kn)
 | ret (Γ:Kn) (T:Ty)
 | cont (Γ:Kn)
 | brk (Γ:Kn)
 | exc (Γ:Kn) (cls:String)
def EF(W:Wc)(C:Cx)(env:Env)(O:List Addr)(M:Fp)(o:ja)(f:Flow)(s:Shared):Prop:=match f,o with
 | .next,.next Γ=>Inv W C env Γ O M s
 | .cont,.cont Γ=>Inv W C env Γ O M s
 | .brk,.brk Γ=>Inv W C env Γ O M s
 | .ret v,.ret Γ T=>Inv W C env Γ O M s/\T.p (am s.heap (O++M.a)) v
 | _,_=>False
inductive nu(W:Wc)(C:Cx)(env:Env)(O:List Addr)(M:Fp)(s:Shared)(P:ja->Prop)(f:Flow)(s':Shared):Prop
 | mk (k:ak M s s') (M':Fp) (x:Ext s M M') (o:ja) (p:P o) (h:EF W C env O M' o f s')
structure fJ(h:Heap)(X:List Addr)(cls:String)(tr:Bool)(e:Value):Prop where
 flds:∀a∈X,∃o vs,h.get? a=some o/\o.data = .fields vs
 exc:∃x o vs,e = .ref x/\x∈X/\h.get? x=some o/\o.cls = .type cls/\o.data = .fields vs/\1<vs.size /\
  ((vs[1]? = some .none/\tr=false)∨∃T oT ts,vs[1]? = some (.ref T)/\T∈X/\T≠x/\h.get? T=some oT/\oT.data = .fields ts/\3<ts.size)
inductive gn(W:Wc)(C:Cx)(env:Env)(O:List Addr)(M:Fp)(s:Shared)(P:ja->Prop)(e:Value)(s':Shared):Prop
 | mk (k:ak M s s') (M':Fp) (X:List Addr) (x:Ext s M M') (f:∀a∈X,s.heap.objs.size<=a) (d:∀a∈X,a∉M'.a) (Γ:Kn) (cls:String) (p:P (.exc Γ cls)) (I:Inv W C env Γ (O++X) M' s') (tr:Bool) (ex:fJ s'.heap X cls tr e)
def ExP(W:Wc)(C:Cx)(Γ:Kn)(n:Nat)(b:List Stmt)(P:ja->Prop):Prop :=
 ∀A env O M s,aU W A n->Inv W C env Γ O M s->wpAny (model prg W.w) A (execs b env) (nu W C env O M s P) (gn W C env O M s P) s
def StP(W:Wc)(C:Cx)(Γ:Kn)(n:Nat)(a:Stmt)(P:ja->Prop):Prop :=
 ∀A env O M s,aU W A n->Inv W C env Γ O M s->wpAny (model prg W.w) A (exec a env) (nu W C env O M s P) (gn W C env O M s P) s
theorem nu.trans{P:ja->Prop}{f:Flow}(k:ak M s s₁)(x:Ext s M M')(h:nu W C env O M' s₁ P f s₂):nu W C env O M s P f s₂:=by
 obtain⟨c,a,b,o,p,r⟩:=h
 exact⟨k.of_ext x c,a,x.trans b k.siz k.gsz,o,p,r⟩
theorem gn.trans{P:ja->Prop}{e:Value}(k:ak M s s₁)(x:Ext s M M')(h:gn W C env O M' s₁ P e s₂):gn W C env O M s P e s₂:=by
 obtain⟨i,b,X,g,f,d,Γ,c,p,I,tr,z⟩:=h
 exact⟨k.of_ext x i,b,X,x.trans g k.siz k.gsz,λa m=>ae k.siz (f a m),d,Γ,c,p,I,tr,z⟩
theorem gn.mono{P P':ja->Prop}{e:Value}(h:gn W C env O M s P e s₁)(a:∀Γ c,P (.exc Γ c)->P' (.exc Γ c)):gn W C env O M s P' e s₁:=by
 obtain⟨k,M',X,x,f,d,o,c,y,I,tr,z⟩:=h
 exact⟨k,M',X,x,f,d,o,c,a o c y,I,tr,z⟩
theorem nu.mono{P P':ja->Prop}{f:Flow}(h:nu W C env O M s P f s₁)(a:∀o,P o->P' o):nu W C env O M s P' f s₁:=by
 obtain⟨k,M',x,o,y,z⟩:=h
 exact⟨k,M',x,o,a o y,z⟩
theorem aN{P:ja->Prop}(h:P (.next Γ)):ExP W C Γ n [] P:=λa a a M s a I=>cZ ⟨ak.refl M s,M,Ext.refl s M,_,h,I⟩
abbrev uj(W:Wc)(C:Cx)(n:Nat)(b:List Stmt)(P:ja->Prop):ja->Prop:=λo=>match o with | .next Γ'=>ExP W C Γ' n b P | o=>P o
theorem bT{e:Stmt}{P:ja->Prop}(h:StP W C Γ n e (uj W C n b P)):ExP W C Γ n (e::b) P:=λA env O M s r I=>by
 refine bE (ad (h A env O M s r I) (λf s₁ c=>?_) λg g h=>h.mono λg g h=>h)
 obtain⟨k,M',x,o,d,hf⟩:=c
 cases f <;> cases o <;> first | exact hf.elim | skip
 ·exact ad (d A env O M' s₁ r hf) (λf s₂ a=>a.trans k x) λg g h=>h.trans k x
 ·exact⟨k,M',x,_,d,hf⟩
 ·exact⟨k,M',x,_,d,hf⟩
 ·exact⟨k,M',x,_,d,hf⟩
theorem lH{P P':ja->Prop}(h:ExP W C Γ n b P)(a:∀o,P o->P' o):ExP W C Γ n b P':=λA env O M s r I =>
 ad (h A env O M s r I) (λc c h=>h.mono a) λc c e=>e.mono λc c=>a _
theorem uk{h:Int}{a:Value}{es ep}(hd:o.data = .dict es ep):(Obj.putName name h a v o).cls=o.cls:=by
 obtain⟨c,d,b,sl⟩:=o
 subst hd
 rw[Obj.putName_eq]
 unfold Obj.putNameByArray
 dsimp only
 split <;> rfl
theorem z3{M:Model}{m}{Q:Unit->Shared->Prop}(i:s.heap.Ns a m)(k:∀h',h'.Ns a (λx=>if x=name then some v else m x)->Heap.SameBut a s.heap h'->(∀o,s.heap.get? a=some o->∃g,h'.get? a=some g/\g.cls=o.cls)->Q () { s with heap:=h',toks:=s.toks+1 }):
  wpAny M A (nsSet a name v) Q E s:=λΓ p t=>by
 have b:=Sem.wp_nsSet M Γ (λe t s'=>E e s') p s i name v (λt t s'=>s'.heap.Ns a (λx=>if x=name then some v else m x)/\Heap.SameBut a s.heap s'.heap) (λh' x y=>⟨x,y⟩)
 refine wh i λo es u f hd r t=>?_
 simp only[nsSet,strHash,Sem.wp_bind',Sem.wp_cmd_ask,Sem.wp_pure',Sem.wp_cmd_mkText] at b ⊢
 rw[Sem.wp_loadPart_of M Γ _ p { s with toks:=s.toks+1 } (o:=o) _ f] at b ⊢
 simp only[hd] at b ⊢
 split at b
 ·exact absurd b (by simp)
 ·rename_i n
  rw[bj n]
  simp only[Sem.wp_cmd_updatePart] at b ⊢
  refine⟨b.1,k _ b.2.1 b.2.2 λg e=>?_⟩
  rw[f] at e;cases e
  refine i9 b.2.1 λt j l q1 q2 t=>?_
  have:=et (h:=s.heap) (Obj.putName name (PyData.keyHash M.w.params name) (.str name s.toks) v) f ?_
  ·exact⟨_,this,uk hd⟩
  ·obtain⟨c,d,q,sl⟩:=o
   subst hd
   rw[Obj.putName_eq]
   unfold Obj.putNameByArray
   dsimp only
   split <;> rfl
theorem cm(d:a∈O)(hs:Heap.SameBut a h h'):Vle (am h O) (am h' O):=λb o e f=>by
 have c:=a8 e
 exact aK ((hs.2 b (λz=>c (z▸d))).trans (af e)) c
theorem qr(a:yM C)(b:C.names[i]? = some x)(c:C.names[j]? = some x):i=j:=by
 obtain⟨f,d⟩:=b8.mp b
 obtain⟨g,e⟩:=b8.mp c
 exact(mz a.nd).mp (d.trans e.symm)
theorem dB{A env O M s}(i:Nat)(hi:C.names[i]? = some x)(hk:C.scope.names.lookup x=some .local∨(C.scope.names.lookup x=some .cell/\x∈C.own))(I:Inv W C env Γ O M s)(hv:T.p (am s.heap (O++M.a)) v):
  wpAny (model prg W.w) A (storeName env x v) (λG s'=>ak M s s'/\Inv W C env ⟨Γ.v.set i (some T),Γ.h⟩ O M s') Nev s:=by
 refine bc I.loc λm hn hsl=>?_
 have hp:(env.scope.kind == .class||(env.scope.kind == .module&&env.locals != env.globals))=false:=by rw[I.ok.kind];rfl
 have Z:∀(a:Addr) (h':Heap) (tk:Nat),a∈M.a->(a=env.locals∨∃x,env.cells.lookup x=some a)->Heap.SameBut a s.heap h'->(wj s.heap h' a) ->
   (∃X,h'.Ns env.locals X/\ug C env h' X x v/\(∀j y f,C.names[j]? = some y->j≠i->ug C env s.heap m y f->ug C env h' X y f))->(∀y c,env.cells.lookup y=some c->∃v,h'.IsCell c v) ->
   ak M s { s with heap:=h',toks:=tk }/\Inv W C env ⟨Γ.v.set i (some T),Γ.h⟩ O M { s with heap:=h',toks:=tk }:=by
  intro a h' tk hM f2 d e0 a4 a6
  have hO:a∈O++M.a:=al _ hM
  refine fG a4 λX D d8 f3=>?_
  refine⟨dp (λb o R e=>(d.2 b (λz=>R (z▸hM))).trans e) (λG G G e=>e) (by show _<=h'.objs.size;rw[d.1];exact aB _) (aB _),I.g.upd (I.up _ hO).1 d e0,I.ok,I.own,I.cel,
   λb R=>⟨(I.up b R).1,by show _<h'.objs.size;rw[d.1];exact(I.up b R).2⟩,I.upg,⟨X,D,λj y U H hU=>?_⟩,a6,λb P R=>?_,I.nod,I.top⟩
  ·by_cases N:i=j
   ·subst N
    have:y=x:=fU (H.symm.trans hi)
    subst this
    have c4:i<Γ.v.length:=by
     have:=(b8.mp hU).1
     simpa using this
    have t:(Γ.v.set i (some T))[i]? = some (some U):=hU
    rw[ix c4] at t
    cases t
    exact⟨v,d8,T.mono (cm hO d) hv⟩
   ·have t:(Γ.v.set i (some T))[j]? = some (some U):=hU
    rw[fP N] at t
    refine bc (hsl j y U H t) λf sl ht=>?_
    exact⟨f,f3 j y f H (λh=>N h.symm) sl,U.mono (cm hO d) ht⟩
  ·obtain⟨h1,h2,h3,e4,o,h4,h5,h6⟩:=I.phi b P R
   have c7:b≠a:=λe=>by
    subst e
    rcases f2 with e | ⟨y,V⟩
    ·exact h2 e
    ·exact h3 y V
   exact⟨h1,h2,h3,e4,o,(d.2 b c7).trans h4,h5,P.mono (cm hO d) h6⟩
 rcases hk with hl | ⟨hl,E⟩
 ·rw[storeName_local (I.ok.of hl) hp]
  refine z3 hn λh' D d a5=>?_
  have ne:∀{c:Addr} {w},s.heap.IsCell c w->c≠env.locals:=λK e=>by
   subst e
   refine i9 hn λo es ep e1 e2 G=>?_
   refine bc K λo' B u=>?_
   rw[e1] at B;cases B;rw[e2] at u;cases u
  have l:∀j y f,C.names[j]? = some y->j≠i->ug C env s.heap m y f->ug C env h' (λz=>if z=x then some v else m z) y f:=λj y f H L sl=>by
   have V:y≠x:=λz=>L (qr I.ok.cx (z▸H) hi)
   rcases sl with⟨J,F⟩ | ⟨J,c,F,a3⟩
   ·exact .inl ⟨J,(bj V).trans F⟩
   ·exact .inr ⟨J,c,F,a3.sameBut d (ne a3)⟩
  refine Z _ h' _ I.own (.inl rfl) d (.inr (D9 hn λo G G q G=>xA (a5 o q) λo' q' c'=>⟨o,o',_,q,q',D,c'⟩)) ⟨_,D,.inl ⟨hl,bI rfl⟩,l⟩ λy c hm=>?_
  refine dK (I.cells y c hm) λf hw=>?_
  exact⟨f,hw.sameBut d (ne hw)⟩
 ·refine dK (I.ok.ownc x E) λc n=>?_
  refine dK (I.cells x c n) λf6 k=>?_
  refine wpAny_storeName_cell I.ok.kind (I.ok.of hl) n k λh' Y d=>?_
  have hM:=I.cel x c n E
  have ne:env.locals≠c:=λe=>by
   subst e
   refine i9 hn λo es ep e1 e2 G=>?_
   refine bc k λo' B u=>?_
   rw[e1] at B;cases B;rw[e2] at u;cases u
  have Q:∀{y c'},env.cells.lookup y=some c'->y≠x->c'≠c:=fun {y c'} h1 h2 e=>by
   subst e
   exact h2 (name_of_addr I.ok.apart (sk h1) (sk n))
  have l:∀j y f,C.names[j]? = some y->j≠i->ug C env s.heap m y f->ug C env h' m y f:=λj y f H L sl=>by
   have V:y≠x:=λz=>L (qr I.ok.cx (z▸H) hi)
   rcases sl with⟨J,F⟩ | ⟨J,c',F,a3⟩
   ·exact .inl ⟨J,F⟩
   ·exact .inr ⟨J,c',F,a3.sameBut d (Q F V)⟩
  refine Z _ h' _ hM (.inr ⟨x,n⟩) d (.inl (xA k λo q r=>⟨o,q,λG G z=>by rw[r] at z;cases z⟩)) ⟨_,hn.sameBut d ne,.inr ⟨.inl hl,c,n,Y⟩,l⟩ λy c' hm=>?_
  by_cases b1:c'=c
  ·subst b1;exact⟨_,Y⟩
  ·refine dK (I.cells y c' hm) λf hw=>?_
   exact⟨f,hw.sameBut d b1⟩
variable {P P':ja->Prop}
noncomputable def fe(C:Cx)(x:Str):Bool:=(C.scope.names.lookup x==some .local)||(C.scope.names.lookup x==some .cell&&C.own.contains x)
theorem iV(h:fe C x=true):C.scope.names.lookup x=some .local∨(C.scope.names.lookup x=some .cell/\x∈C.own):=(jX.mp h).imp aL.mp λh=>(bP.mp h).imp aL.mp ba.mp
noncomputable abbrev Kn.set(Γ:Kn)(i:Nat)(T:Ty):Kn:=⟨Γ.v.set i (some T),Γ.h⟩
theorem lI(i:Nat)(c:C.names[i]? = some x)(e:fe C x=true)(hs:∀env,swapsWith value (some (.Name x pos')) pos.line env=pure false)(d:EvP W C Γ n value T)(f:P (.next (Γ.set i T))):StP W C Γ n (.Assign [.Name x pos'] value pos) P:=λA env O M s g I =>
 mA (ad (d A env O M s g I) (λv s₁ a=>ad (dB i c (iV e) (a.then I) a.2.2)
  (λh s₂ b=>⟨(ak.ofK a.2.1).trans b.1,M,Ext.refl s M,_,f,b.2⟩) az) az) (hs env)
theorem z4{a:List Stmt}(b:Bool)(e:TsP W C Γ n test b)(f:b=true->ExP W C Γ n body P)(i:b=false->ExP W C Γ n a P):StP W C Γ n (.If test body a pos) P:=λA env O M s d I=>by
 refine wpAny_If (ad (e A env O M s d I) (λr s₁ c=>?_) az)
 obtain⟨rfl,g,k⟩:=c
 cases r with
 | true=>exact ad (f rfl A env O M s₁ d (I.keep k g)) (λj j h=>h.trans (ak.ofK k) (Ext.refl s M)) λj j h=>h.trans (ak.ofK k) (Ext.refl s M)
 | false=>exact ad (i rfl A env O M s₁ d (I.keep k g)) (λj j h=>h.trans (ak.ofK k) (Ext.refl s M)) λj j h=>h.trans (ak.ofK k) (Ext.refl s M)
theorem EG(h:EvP W C Γ n e T)(b:P (.ret Γ T)):StP W C Γ n (.Return (some e) pos) P:=λA env O M s c I =>
 jY (ad (h A env O M s c I) (λd d a=>⟨ak.ofK a.2.1,M,Ext.refl s M,_,b,a.then I,a.2.2⟩) az)
theorem pE(a:P (.cont Γ)):StP W C Γ n (.Continue pos) P:=λb b b M s b I=>wpAny_Continue ⟨ak.refl M s,M,Ext.refl s M,_,a,I⟩
theorem EH{op:Operator}(i:Nat)(m:C.names[i]? = some x)(l:fe C x=true)(t:EvP W C Γ n (.Name x pos') T)(o:EvP W C Γ n value U)(h:∀A O s a b,aU W A n->GO W O s->T.p (am s.heap O) a->U.p (am s.heap O) b->wpAny (model prg W.w) A (inplaceOp op a b) (Res W O s R) Nev s)(r:∀A env O M s,aU W A n->Inv W C env Γ O M s->wpAny (model prg W.w) A (loadName env x) (Res W (O++M.a) s T) Nev s)(q:P (.next (Γ.set i R))):StP W C Γ n (.AugAssign (.Name x pos') op value pos) P:=λA env O M s g I =>
 wpAny_AugAssign_Name (ad (r A env O M s g I) (λa s₁ c=>ad (o A env O M s₁ g (c.then I)) (λb s₂ d =>
  ad (h A _ s₂ a b g (d.then (c.then I)).go (T.mono (d.2.1.vle0 _) c.2.2) d.2.2) (λv k e=>ad (dB i m (iV l) (e.then (d.then (c.then I))) e.2.2)
   (λu j f=>⟨(ak.ofK ((c.2.1.trans d.2.1).trans e.2.1)).trans f.1,M,Ext.refl s M,_,q,f.2⟩) az) az) az) az)
theorem sZ{b:Bool}(f:∀env c,isTrue e env c=(do let v ← c;standAt e.pos;holding [v] (truthy v)))(h:EvP W C Γ n e T)(g:∀A O s v,aU W A n->GO W O s->T.p (am s.heap O) v->wpAny (model prg W.w) A (truthy v) (λr s'=>r=b/\G W s'/\aF s s') Nev s):TsP W C Γ n e b:=λA env O M s d I =>
 wpAny_isTrue_value (ad (h A env O M s d I) (λv s₁ a=>ad (g A _ s₁ v d (a.then I).go a.2.2) (λi i h=>⟨h.1,h.2.1,a.2.1.trans h.2.2⟩) az) az) (f env _)
theorem mh{b:Bool}(h:TsP W C Γ n e b):TsP W C Γ n (.UnaryOp .Not e pos) (!b):=λA env O M s a I =>
 wpAny_isTrue_Not (ad (h A env O M s a I) (λc c h=>⟨by rw[h.1],h.2⟩) az)
noncomputable def qs(W:Wc)(C:Cx)(Γ:Kn)(n:Nat)(op:BoolOp)(es:List Expr)(b:Bool):Prop :=
 ∀A env O M s,aU W A n->Inv W C env Γ O M s->wpAny (model prg W.w) A (allTrue op es env) (λr s'=>r=b/\G W s'/\aF s s') Nev s
theorem gq{op:BoolOp}{b:Bool}(h:qs W C Γ n op es b):TsP W C Γ n (.BoolOp op es pos) b:=λA env O M s a I=>wpAny_isTrue_BoolOp (h A env O M s a I)
theorem ji:qs W C Γ n .And [] true:=λa a a a s a I=>wpAny_allTrue_And_nil ⟨rfl,I.g,aF.refl s⟩
theorem EI:qs W C Γ n .Or [] false:=λa a a a s a I=>wpAny_allTrue_Or_nil ⟨rfl,I.g,aF.refl s⟩
theorem cN(b:Bool){c:Bool}(h:TsP W C Γ n e b)(f:b=true->qs W C Γ n .And es c):qs W C Γ n .And (e::es) (b&&c):=λA env O M s d I=>by
 refine wpAny_allTrue_And_cons (ad (h A env O M s d I) (λr s₁ a=>?_) az)
 obtain⟨rfl,g,k⟩:=a
 cases r with
 | true=>exact ad (f rfl A env O M s₁ d (I.keep k g)) (λi i h=>⟨by rw[h.1];rfl,h.2.1,k.trans h.2.2⟩) az
 | false=>exact⟨rfl,g,k⟩
theorem xE(b:Bool){c:Bool}(h:TsP W C Γ n e b)(f:b=false->qs W C Γ n .Or es c):qs W C Γ n .Or (e::es) (b||c):=λA env O M s d I=>by
 refine wpAny_allTrue_Or_cons (ad (h A env O M s d I) (λr s₁ a=>?_) az)
 obtain⟨rfl,g,k⟩:=a
 cases r with
 | false=>exact ad (f rfl A env O M s₁ d (I.keep k g)) (λi i h=>⟨by rw[h.1];rfl,h.2.1,k.trans h.2.2⟩) az
 | true=>exact⟨rfl,g,k⟩
theorem fh(h:∀V v,T.p V v->(v == .none)=q):iz W n .Is T cJ q:=λA O s x y c g a b=>by
 have:y = .none:=b
 subst this
 exact is_none ⟨g.g,aF.refl s,by rw[h _ _ a];rfl⟩
theorem qt(h:∀V v,T.p V v->(v == .none)=q):iz W n .IsNot T cJ (!q):=λA O s x y c g a b=>by
 have:y = .none:=b
 subst this
 exact isNot_none ⟨g.g,aF.refl s,by rw[h _ _ a];rfl⟩
theorem ul{M:Model}{base:Heap}{e:Env}{a:List Env}(f:A.frames=some (e::a))(g:e.frame=env.frame)(i:s.heap.FunFrames base (e::a))(hf:env.frame=some L)(h:∀h',Heap.SlotsOnly ((e::a).filterMap (·.frame)) s.heap h'->Q (.ref L) { s with heap:=h' }):wpAny M A (PySem.frameOf env) Q E s:=by
 refine aa (wpAny_frameEnvs f ?_)
 have d:((e::a).dropWhile λx=>x.frame != env.frame)=e::a:=by simp[List.dropWhile,g]
 rw[d]
 refine aa (aa (wpAny_readyFrames_fun i λc b=>ac ?_))
 refine g ▸ ?_;refine hf ▸ ?_
 exact ac (h c b)
theorem s0{H:Heap}{l:List Env}:(∀e∈l,wi H h e)->h.FunFrames ⟨#[],{}⟩ l:=by
 induction l with
 | nil =>
  intro g
  exact trivial
 | cons e l ih =>
  intro k
  refine sX ((k e (.head _)).loc) λL m o d g b a g=>?_
  refine yK (jg a b) λes f c=>?_
  exact⟨(k e (.head _)).kind,⟨L,o,d,rfl,b,λvs q=>by rw[c] at q;cases q⟩,ih λe m=>k e (bt _ m)⟩
theorem k7{H:Heap}{l:List Env}(k:∀e∈l,wi H h e){b:Addr}(m:b∈l.filterMap (·.frame)):H.objs.size<=b/\∃o es a,h.get? b=some o/\o.data = .dict es a/\o.cls = .type "frame" := by
 refine bc (List.mem_filterMap.mp m) λe f c=>?_
 refine sX ((k e f).loc) λL m o n j d g i=>?_
 rw[n] at c;cases c
 refine yK (jg g d) λes a p=>?_
 exact⟨j,o,es,a,d,p,i⟩
theorem z5{es ep}(h:o.data = .dict es ep)(a:o.cls = .type "frame"):nt o=false:=by
 obtain⟨c,d,b,sl⟩:=o;subst h;subst a;rfl
structure fK(W:Wc)(X X':List Addr)(s s':Shared):Prop where
 g:G W s'
 k:ak ⟨X,[]⟩ s s'
 x:∀a∈X',a∈X∨s.heap.objs.size<=a
 b:∀a∈X',W.H.objs.size<=a/\a<s'.heap.objs.size
 gens:s'.gens=s.gens
theorem fK.refl(g:G W s)(b:∀a∈X,W.H.objs.size<=a/\a<s.heap.objs.size):fK W X X s s:=⟨g,ak.refl _ _,λc=>.inl,b,rfl⟩
theorem fK.trans{c:List Addr}(x:fK W X X' s s')(y:fK W X' c s' s''):fK W X c s s'' :=
 ⟨y.g,x.k.of_ext (M':=⟨X',[]⟩) ⟨x.x,λd m=>absurd m av⟩ y.k,λa m=>(y.x a m).elim (x.x a) λh=>.inr (ae x.k.siz h),y.b,y.gens.trans x.gens⟩
theorem qu(g:G W s)(n:∀a∈X,W.H.objs.size<=a/\a<s.heap.objs.size)(i:∀a∈X,∃o vs,s.heap.get? a=some o/\o.data = .fields vs)(hsz:s.heap.objs.size<=h'.objs.size)(v:∀b o,b∉X->b∉W.frs.filterMap (·.frame)->s.heap.get? b=some o->h'.get? b=some o)(w:∀b o,b∉X->s.heap.get? b=some o->∃sl,h'.get? b=some { o with slots:=sl })(x:∀a∈X',a∈X∨s.heap.objs.size<=a)(b:∀a∈X',a<h'.objs.size):fK W X X' s { s with heap:=h' } where
 g:=g.fr (λb o d e=>v b o (λm=>aw.mpr (n b m).1 d) (λm=>aw.mpr (k7 g.frs m).1 d) e) hsz g.bare rfl λL o m u l p=>by
  have y:L∉X:=λm=>by
   refine jJ (i L m) λu vs q r=>?_
   refine yK (jg p l) λes j hd=>?_
   rw[l] at q;cases q;rw[hd] at r;cases r
  refine dK (w L o y l) λsl e=>?_
  refine i9 p λu es j t hd r=>?_
  rw[l] at t;cases t
  exact⟨_,m,e,⟨_,es,j,e,hd,r⟩,rfl⟩
 k:=⟨λb o d e c=>by
   by_cases m:b∈W.frs.filterMap (·.frame)
   ·refine ck (k7 g.frs m) λu f=>?_
    refine i9 f λu es j q r z=>?_
    rw[e] at q;cases q
    rw[z5 r z] at c;cases c
   ·exact v b o d m e,λb o es j d e c=>w b o d e,λu u u e=>e,hsz,aB _⟩
 x:=x
 b:=λa m=>⟨(x a m).elim (λh=>(n a h).1) λh=>ae g.siz h,b a m⟩
 gens:=rfl
theorem om{vs:Array Value}(g:G W s)(j:∀a∈X,W.H.objs.size<=a/\a<s.heap.objs.size)(f:∀a∈X,∃o vs,s.heap.get? a=some o/\o.data = .fields vs)(k:a∈X)(n:s.heap.get? a=some o)(hd:o.data = .fields vs):
  fK W X X s { s with heap:=s.heap.update a (Obj.mapFields (·.setIfInBounds i v)) }/\(s.heap.update a (Obj.mapFields (·.setIfInBounds i v))).get? a=some (Obj.mapFields (·.setIfInBounds i v) o)/\(Obj.mapFields (·.setIfInBounds i v) o).data = .fields (vs.setIfInBounds i v) /\
   (Obj.mapFields (·.setIfInBounds i v) o).cls=o.cls/\(∀b,b≠a->(s.heap.update a (Obj.mapFields (·.setIfInBounds i v))).get? b=s.heap.get? b):=by
 have d:=Obj.data_mapFields hd (·.setIfInBounds i v)
 have p:=et (Obj.mapFields (·.setIfInBounds i v)) n (Obj.isFreed_of_fields d)
 have h:∀b,b≠a->(s.heap.update a (Obj.mapFields (·.setIfInBounds i v))).get? b=s.heap.get? b:=λb c=>Heap.get?_update_other _ _ (gY c)
 have l:(s.heap.update a (Obj.mapFields (·.setIfInBounds i v))).objs.size=s.heap.objs.size:=Heap.size_after_update ..
 refine⟨qu g j f (aH l.symm) (λb o c q e=>(h b (λz=>c (z▸k))).trans e) (λb o c e=>⟨o.slots,(h b (λz=>c (z▸k))).trans e⟩) (λq=>.inl) (λb m=>by rw[l];exact(j b m).2),p,d,Obj.cls_mapFields _ _,h⟩
theorem ib{m:Value}{B:Option Addr}{Q:Unit->Shared->Prop}(g:G W s)(n:∀a∈X,W.H.objs.size<=a/\a<s.heap.objs.size)(x:fJ s.heap X cls tr m)(u:∀s',fK W X X s s'->fJ s'.heap X cls tr m->Q () s'):wpAny (model prg W.w) A (setFlight m B) Q E s:=by
 obtain⟨J,o,vs,rfl,C,l,F,hd,hz,h⟩:=x.exc
 rcases h with⟨h,rfl⟩ | ⟨T,M,N,h,z,c,b,d,j⟩
 ·refine aa (eW l hd h ?_)
  exact ac (u s (fK.refl g n) x)
 ·refine aa (eW l hd h ?_)
  refine Cd (om (i:=3) (v:=B.elim .none λf=>rawInt f) g n x.flds z b d) λK t p L y=>?_
  refine jZ b d j (u _ K ⟨λa I=>?_,⟨J,o,vs,rfl,C,(y _ (gY c)).trans l,F,hd,hz,.inr ⟨T,_,_,h,z,c,t,p,by simpa using j⟩⟩⟩)
  by_cases e:a=T
  ·subst e;exact⟨_,_,t,p⟩
  ·refine jJ (x.flds a I) λD k q r=>?_
   exact⟨D,k,(y a e).trans q,r⟩
theorem qv{t:Addr}{x:Value}{k:Bool}{Q:Unit->Shared->Prop}{vs:Array Value}(K:A.frames=some W.frs)(g:G W s)(M:∃e l,W.frs=e::l/\e.frame=env.frame)(hL:env.frame=some L)(V:∀a∈X,W.H.objs.size<=a/\a<s.heap.objs.size)(p:∀a∈X,∃o vs,s.heap.get? a=some o/\o.data = .fields vs)(N:t∈X)(ho:s.heap.get? t=some o)(hc:o.cls = .type cls)(hd:o.data = .fields vs)(hz:1<vs.size)(hQ:∀s' X',fK W X X' s s'->fJ s'.heap X' cls true (.ref t)->Q () s'):
  wpAny (model prg W.w) A (do let a ← PySem.frameOf env;let pl ← entryPlaceOf L k;let b ← EntryCells.newEntry x a .none (rawInt L) .none pl;setField (.ref t) 1 b) Q E s:=by
 refine jJ M λe l J he=>?_
 have ff:=s0 g.frs
 refine aa (ul (base:=⟨#[],{}⟩) (K.trans (aY some J)) he (J▸ff) hL λc d=>?_)
 have R:∀a∈X,a∉(e::l).filterMap (·.frame):=λa m z=>by
  rw[← J] at z
  refine ck (k7 g.frs z) λS D=>?_
  refine i9 D λB es ep q r S=>?_
  refine jJ (p a m) λo2 v2 q2 U=>?_
  rw[q] at q2;cases q2;rw[r] at U;cases U
 refine aa (wpAny_entryPlaceOf λpl O=>?_)
 refine aa (dQ ?_ (O.sizeOk5 _ _ _ _ _))
 have y:fK W X X s { s with heap:=c }:=by
  refine qu g V p (aH d.1.symm) (λb o S hb e=>(d.2.1 b (by rw[← J];exact hb)).trans e) (λb o S e=>d.2.2 b o e) (λS=>.inl) (λb m=>by rw[d.1];exact(V b m).2)
 have h:∀a∈X,∃o vs,c.get? a=some o/\o.data = .fields vs:=λa m=>by
  refine jJ (p a m) λB C q r=>?_
  exact⟨B,C,(d.2.1 a (R a m)).trans q,r⟩
 have u:c.get? t=some o:=(d.2.1 t (R t N)).trans ho
 generalize P:({ cls:=.type "traceback",dict:=none,data:=.fields ([x,.ref L,.none,rawInt L,.none]++(if pl.isEmpty then List.replicate 6 Value.none else pl)).toArray }:Obj)=oT
 have n:∀a∈c.objs.size::X,W.H.objs.size<=a/\a<(c.push oT).objs.size:=λa m=>by
  rw[bi]
  rcases aC.mp m with rfl | m
  ·exact⟨y.g.siz,dR _⟩
  ·exact⟨(y.b a m).1,fQ (y.b a m).2⟩
 have F:(c.push oT).get? c.objs.size=some oT:=bf _ (by subst P;rfl)
 have Y:fK W X (c.objs.size::X) { s with heap:=c } { s with heap:=c.push oT }:=by
  refine qu (s:={ s with heap:=c }) y.g y.b h (by show _<=(c.push oT).objs.size;rw[bi];exact bY _) (λb o S S e=>aV _ e) (λb o S e=>⟨o.slots,aV _ e⟩) (λa m=>?_) (λa m=>(n a m).2)
  rcases aC.mp m with rfl | m
  ·exact .inr (aB _)
  ·exact .inl m
 have f:∀a∈c.objs.size::X,∃o vs,(c.push oT).get? a=some o/\o.data = .fields vs:=λa m=>by
  rcases aC.mp m with rfl | m
  ·exact⟨oT,_,F,by subst P;rfl⟩
  ·refine jJ (h a m) λB C q r=>?_
   exact⟨B,C,aV _ q,r⟩
 have j:(c.push oT).get? t=some o:=aV _ u
 refine Cd (om (s:={ s with heap:=c.push oT }) (i:=1) (v:=.ref c.objs.size) Y.g n f (bt _ N) j hd) λs3 e1 Z e3 T=>?_
 have I:c.objs.size≠t:=cE (aO u)
 refine jZ j hd hz (hQ _ _ ((y.trans Y).trans s3) ⟨λa m=>?_,⟨t,_,_,rfl,bt _ N,e1,e3.trans hc,Z,by simpa using hz,.inr ⟨c.objs.size,oT,_,by simp[hz],.head _,I,(T _ I).trans F,by subst P;rfl,?_⟩⟩⟩)
 ·by_cases q:a=t
  ·subst q;exact⟨_,_,e1,Z⟩
  ·refine jJ (f a m) λB C q1 r=>?_
   exact⟨B,C,(T a q).trans q1,r⟩
 ·simp only[List.size_toArray,List.length_append,List.length_cons,List.length_nil];exact ae (by decide) (aW _ _)
theorem qw{F:Value}{Q:Unit->Shared->Prop}(n:A.frames=some W.frs)(g:G W s)(f:∃e l,W.frs=e::l/\e.frame=env.frame)(t:∀a∈X,W.H.objs.size<=a/\a<s.heap.objs.size)(x:fJ s.heap X cls tr F)(C:∀s' X',fK W X X' s s'->fJ s'.heap X' cls true F->Q () s'):wpAny (model prg W.w) A (noteFrame F env) Q E s:=by
 have hf:∃L,env.frame=some L:=by
  refine jJ f λe l V Y=>?_
  refine FY ((g.frs e (V ▸ .head _)).loc) λL S S h S=>?_
  exact⟨L,Y▸h⟩
 refine dK hf λL B=>?_
 obtain⟨Z,o,vs,rfl,y,p,z,hd,hz,h⟩:=x.exc
 unfold noteFrame
 refine B ▸ ?_
 rcases h with⟨h,rfl⟩ | ⟨T,R,I,h,K,k,c,d,j⟩
 ·refine aa (eW p hd h ?_)
  exact qv n g f B t x.flds y p z hd hz C
 ·refine aa (eW p hd h ?_)
  obtain⟨u,N⟩:∃u,I[3]? = some u:=⟨_,mB j⟩
  refine aa (eW c d N ?_)
  by_cases q:(u==rawInt L)=true
  ·exact(bI q)▸(ac (C s X (fK.refl g t) ⟨x.flds,⟨Z,o,vs,rfl,y,p,z,hd,hz,.inr ⟨T,R,I,h,K,k,c,d,j⟩⟩⟩))
  ·refine ifZ q ?_
   refine Cd (om (i:=3) (v:=.none) g t x.flds K c d) λD U O e3 J=>?_
   refine aa (jZ c d j ?_)
   refine qv n D.g f B D.b (λa m=>?_) y ((J _ (gY k)).trans p) z hd hz λs' X' st q=>C s' X' (D.trans st) q
   by_cases e:a=T
   ·subst e;exact⟨_,_,U,O⟩
   ·refine jJ (x.flds a m) λP M q1 r=>?_
    exact⟨P,M,(J a e).trans q1,r⟩
theorem oo{c:Value}{Q:Unit->Shared->Prop}(h:aU W A n)(g:G W s)(b:∃e l,W.frs=e::l/\e.frame=env.frame)(d:∀a∈X,W.H.objs.size<=a/\a<s.heap.objs.size)(x:fJ s.heap X cls tr c)(f:∀s' X',fK W X X' s s'->fJ s'.heap X' cls true c->Q () s'):wpAny (model prg W.w) A (noteFrame c env) Q E s:=qw h.fr g b d x f
theorem qx{k:Value}{Q:Unit->Shared->Prop}(p:aU W A n)(g:G W s)(i:∃e l,W.frs=e::l/\e.frame=env.frame)(m:∀a∈X,W.H.objs.size<=a/\a<s.heap.objs.size)(x:fJ s.heap X cls tr k)(o:∀s' X',fK W X X' s s'->fJ s'.heap X' cls true k->Q () s'):wpAny (model prg W.w) A (leaving env k) Q E s:=by
 exact aa (oo p g i m x λs₁ h j d=>ib j.g j.b d λs₂ c f=>o s₂ h (j.trans c) f)
structure InB(W:Wc)(F:Fp)(s:Shared):Prop where
 a:∀b∈F.a,W.H.objs.size<=b/\b<s.heap.objs.size
 g:∀b∈F.g,b<s.gens.size
theorem Inv.lent(I:Inv W C env Γ (O++F.a) M s)(k:ak F s s')(g:G W s')(x:Ext s F F')(b:InB W F' s')(B:∀a∈F.a,a∉M.a)(K:∀y c,env.cells.lookup y=some c->c∉F.a):Inv W C env Γ (O++F'.a) M s':=by
 have p:∀a o,a∉F.a->s.heap.get? a=some o->nt o=true->s'.heap.get? a=some o:=k.obj
 have D:Vle (am s.heap ((O++F.a)++M.a)) (am s'.heap ((O++F'.a)++M.a)):=λa o e c=>by
  have l:=a8 e
  have j:=af e
  refine aK (p a o (λm=>l (aq _ (al _ m))) j c) λm=>?_
  rcases aj.mp m with m | m
  ·rcases aj.mp m with m | m
   ·exact l (aq _ (aq _ m))
   ·rcases x.a a m with m | m
    ·exact l (aq _ (al _ m))
    ·exact absurd (aO j) (aw.mpr m)
  ·exact l (al _ m)
 refine bc I.loc λm l L=>?_
 have u:s'.heap.Ns env.locals m:=k.ns (λz=>B _ z I.own) l
 have f:∀{y c v},env.cells.lookup y=some c->s.heap.IsCell c v->s'.heap.IsCell c v:=λh=>ir λo e r=>⟨o,p _ o (K _ _ h) e (nq r),r⟩
 refine⟨g,I.ok,I.own,I.cel,λa d=>?_,λq Q=>aA (I.upg q Q) k.gsz,⟨m,u,λi y T J U=>?_⟩,λy c h=>(I.cells y c h).elim λv R=>⟨v,f h R⟩,λa P d=>?_,I.nod,I.top⟩
 ·rcases aj.mp d with d | d
  ·rcases aj.mp d with d | d
   ·have:=I.up a (aq _ (aq _ d));exact⟨this.1,aA this.2 k.siz⟩
   ·exact b.a a d
  ·have:=I.up a (al _ d);exact⟨this.1,aA this.2 k.siz⟩
 ·refine bc (L i y T J U) λv sl N=>?_
  refine⟨v,?_,T.mono D N⟩
  rcases sl with sl | ⟨j,c,n,t⟩
  ·exact .inl sl
  ·exact .inr ⟨j,c,n,f n t⟩
 ·obtain⟨j,n,t,E,o,w,A,H⟩:=I.phi a P d
  refine⟨j,n,t,λm=>(aj.mp m).elim (λm=>E (aq _ m)) λm=>(x.a a m).elim (λm=>E (al _ m)) λz=>aw.mpr z (aO w),o,p _ o (λz=>B _ z j) w A,A,P.mono D H⟩
theorem nv(I:Inv W C env Γ O M s):Inv W C env Γ (O++(⟨[],[]⟩:Fp).a) M s:=by
 refine(?_:Inv W C env Γ (O++[]) M s)
 rw[c0];exact I
theorem Inv.xstep(I:Inv W C env Γ (O++X) M s)(d:fK W X X' s s')(e:∀a∈X,a∉M.a)(f:∀a∈X,∃o vs,s.heap.get? a=some o/\o.data = .fields vs):Inv W C env Γ (O++X') M s' :=
 I.lent (F:=⟨X,[]⟩) (F':=⟨X',[]⟩) d.k d.g ⟨d.x,λl m=>absurd m av⟩ ⟨d.b,λl m=>absurd m av⟩ e (λy c h m=>by
  refine jJ (I.cells y c h) λv o i j=>?_
  refine jJ (f c m) λl vs q1 q2=>?_
  rw[i] at q1;cases q1;rw[j] at q2;cases q2)
theorem gn.xstep{e:Value}(k:ak M s s₁)(x:Ext s M M')(f:∀a∈X,s.heap.objs.size<=a)(d:∀a∈X,a∉M'.a)(j:P (.exc Γ cls))(I:Inv W C env Γ (O++X) M' s₁)(i:∀a∈X,∃o vs,s₁.heap.get? a=some o/\o.data = .fields vs)(b:fK W X X' s₁ s₂)(c:fJ s₂.heap X' cls tr e):gn W C env O M s P e s₂ :=
 ⟨k.of_ext (M':=⟨X,[]⟩) ⟨λa m=>.inr (f a m),λl m=>absurd m av⟩ b.k,M',X',x,λa m=>(b.x a m).elim (f a) λh=>ae k.siz h,λa m g=>(b.x a m).elim (λz=>d a z g) λz=>absurd (I.up a (al _ g)).2 (aw.mpr z),Γ,cls,j,I.xstep b d i,tr,c⟩
theorem qy{e:Value}(E:aU W A n)(h:gn W C env O M s P e s₁):
  notedBy (model prg W.w) A env (λe s'=>cameBackBy (model prg W.w) A env (gn W C env O M s P) e s') e s₁:=by
 obtain⟨k,M',X,x,f,d,Γ',cls,F,I,tr,t⟩:=h
 have l:∀a∈X,W.H.objs.size<=a/\a<s₁.heap.objs.size:=λa m=>I.up a (aq _ (al _ m))
 refine oo E I.g I.top l t λs₂ r p c=>?_
 refine(?_:wpAny _ A (do
  if(← field e 1) == .none then unsupported "frame.own-activation:exception-without-traceback"
  setFlight e env.frame) _ _ s₂)
 obtain⟨N,o,vs,rfl,u,y,Q,hd,hz,h⟩:=c.exc
 rcases h with⟨q,h⟩ | ⟨T,L,J,h,K,D,z,v,B⟩
 ·cases h
 refine aa (eW y hd h ?_)
 exact ib p.g p.b c λq j i=>gn.xstep k x f d F I t.flds (p.trans j) i
theorem jq(l:List (Str×NameKind)):∀(k:Nat) (acc:List (Str×Addr)) (x:Str) (c:Addr),(x,c)∈cellsFrom k l acc->(x,c)∈acc∨((x,NameKind.cell)∈l/\k<=c):=by
 induction l with
 | nil =>
  intro d d d d h
  exact .inl h
 | cons y_ r ih =>
  obtain⟨y,b⟩:=y_
  intro k acc x c h
  unfold cellsFrom at h
  split at h
  ·rename_i a
   rcases ih _ _ _ _ h with h | h
   ·rcases aC.mp h with e | h
    ·cases e;refine(aL.mp a) ▸ ?_;exact .inr ⟨.head _,aB _⟩
    ·exact .inl h
   ·exact .inr ⟨bt _ h.1,mD h.2⟩
  ·rcases ih _ _ _ _ h with h | h
   ·exact .inl h
   ·exact .inr ⟨bt _ h.1,h.2⟩
theorem iW(l:List (Str×NameKind)):∀(k:Nat) (acc:List (Str×Addr)) (x:Str),(x,NameKind.cell)∉l->(cellsFrom k l acc).lookup x=acc.lookup x:=by
 induction l with
 | nil =>
  intro c c c c
  exact rfl
 | cons y_ r ih =>
  obtain⟨y,b⟩:=y_
  intro k acc x h
  have h':(x,NameKind.cell)∉r:=λm=>h (bt _ m)
  unfold cellsFrom
  split
  ·rename_i a
   rw[ih _ _ _ h',iy]
   have:(x==y)=false:=ey.mpr λe=>h (by rw[e,← aL.mp a];exact .head _)
   rw[this]
  ·exact ih _ _ _ h'
theorem lZ:∀(l:List (Str×NameKind)) (h:Heap) (acc:List (Str×Addr)),(∀x c,(x,c)∈acc->c<h.objs.size)->(acc.Pairwise λx y=>x.2≠y.2) ->
  ((cellsFrom h.objs.size l acc).Pairwise λx y=>x.2≠y.2)/\(∀x c,(x,c)∈cellsFrom h.objs.size l acc->(x,c)∈acc∨(pushCells h l).IsCell c none)/\h.objs.size<=(pushCells h l).objs.size:=by
 intro l
 induction l with
 | nil=>exact λk k k a=>⟨a,λk k m=>.inl m,aB _⟩
 | cons p r ih =>
  obtain⟨y,j⟩:=p
  intro h acc b a
  unfold cellsFrom pushCells
  split
  ·have:=ih (h.push { cls:=.type "cell",data:=.cell none }) ((y,h.objs.size)::acc) (λx c m=>by
    rw[bi]
    rcases aC.mp m with e | m
    ·cases e;exact dR _
    ·exact fQ (b x c m)) (List.pairwise_cons.mpr ⟨λz hz e=>by
     have:=b z.1 z.2 hz
     have g:h.objs.size=z.2:=e
     rw[← g] at this;exact bz _ this,a⟩)
   rw[bi] at this
   refine dn this λf i d=>?_
   refine⟨f,λx c m=>?_,mD d⟩
   rcases i x c m with m | m
   ·rcases aC.mp m with e | m
    ·cases e
     exact .inr ⟨_,lF r _ _ _ (bf _ rfl),rfl⟩
    ·exact .inl m
   ·exact .inr m
  ·exact ih h acc b a
theorem yN(names:List (Str×NameKind)):∀(k:Nat) (acc:List (Str×Addr)) (x:Str),(∃c,acc.lookup x=some c)->∃c,(cellsFrom k names acc).lookup x=some c:=by
 induction names with
 | nil =>
  intro b b b h
  exact h
 | cons y_ r ih =>
  obtain⟨y,a⟩:=y_
  intro k acc x h
  unfold cellsFrom
  split
  ·refine ih _ _ x ?_
   rw[iy]
   cases x==y
   ·exact h
   ·exact⟨_,rfl⟩
  ·exact ih _ _ x h
theorem lJ(names:List (Str×NameKind)):∀(k:Nat) (acc:List (Str×Addr)) (x:Str),names.lookup x=some .cell->∃c,(cellsFrom k names acc).lookup x=some c:=by
 induction names with
 | nil =>
  intro d d d h
  simp at h
 | cons y_ r ih =>
  intro k acc x h
  obtain⟨y,b⟩:=y_
  rw[iy] at h
  unfold cellsFrom
  cases a:x==y with
  | true =>
   rw[a] at h;cases h
   have:x=y:=aL.mp a
   subst this
   exact yN r _ _ x ⟨k,by simp⟩
  | false =>
   rw[a] at h
   split
   ·exact ih _ _ x h
   ·exact ih _ _ x h
structure k8(s:Shared)(env:Env)(closure:List (Str×Addr))(mL mC:Str->Option Value)(h':Heap):Prop where
 keep:∀b o,s.heap.get? b=some o->h'.get? b=some o
 ns:h'.Ns env.locals mL
 cls:∃o es ep,h'.get? env.locals=some o/\o.data = .dict es ep/\o.cls = .type "frame"
 apart:env.cells.Pairwise λx y=>x.2≠y.2
 cells:∀x c,(x,c)∈env.cells->(x,c)∈closure∨(s.heap.objs.size<c/\∃v,h'.IsCell c v)
 par:∀x c,env.cells.lookup x=some c->(x,c)∉closure->h'.IsCell c (mC x)
 siz:s.heap.objs.size<h'.objs.size
section
variable {M:Model}
theorem yO{closure:List (Str×Addr)}(f:Str×Value->PUnit->Sem (ForInStep PUnit))(hf:∀n v u,f (n,v) u=(do storeName env n v;pure (.yield ⟨⟩)))(Y:env.scope.kind = .function)(hL:env.locals=s.heap.objs.size)(a3:∀x c,(x,c)∈closure->c<s.heap.objs.size):
  ∀(binds:List (Str×Value)) (L I:Str->Option Value) (h:Heap) (tk:Nat) (Q:PUnit->Shared->Prop),k8 s env closure L I h->(∀x∈binds,env.kindOf x.1=some .local∨(env.kindOf x.1=some .cell/\∃c,env.cells.lookup x.1=some c/\(x.1,c)∉closure)) ->
   (∀h' tk,k8 s env closure (bindL env.kindOf binds L) (bindC env.kindOf binds I) h'->Q ⟨⟩ { s with heap:=h',toks:=tk })->wpAny M A (forIn binds PUnit.unit f) Q E { s with heap:=h,toks:=tk }:=by
 intro binds
 induction binds with
 | nil =>
  intro L I h tk Q N G K
  rw[List.forIn_nil];exact ac (K h tk N)
 | cons y_ r ih =>
  intro L I h tk Q N W K
  obtain⟨x,v⟩:=y_
  rw[mE,hf]
  have J:=λy i=>W y (bt _ i)
  have g:∀{c w},h.IsCell c w->c≠env.locals:=λl e=>by
   subst e
   refine i9 N.cls λo es U e1 e2 G=>?_
   refine bc l λo' H D=>?_
   rw[e1] at H;cases H;rw[e2] at D;cases D
  have hp:(env.scope.kind == .class||(env.scope.kind == .module&&env.locals != env.globals))=false:=by rw[Y];rfl
  refine aa (aa ?_)
  rcases W (x,v) (.head _) with p | ⟨p,c,l,t⟩
  ·rw[storeName_local p hp]
   refine z3 N.ns λh' X hs C=>ac ?_
   refine ih _ _ h' _ Q ⟨λb o e=>?_,X,?_,N.apart,λy c m=>?_,λy c i j=>?_,by rw[hs.1];exact N.siz⟩ J (λk d T=>K k d (by
     refine(?_:k8 _ _ _ (bindL _ r (if env.kindOf x=some .local then _ else _)) (bindC _ r (if env.kindOf x=some .local then _ else _)) _)
     rw[bI p,bI p];exact T))
   ·exact(hs.2 b (λz=>by rw[z,hL] at e;exact absurd (aO e) (bz _))).trans (N.keep b o e)
   ·refine i9 N.cls λo es U q1 q2 q3=>?_
    refine bc (C o q1) λo' q4 q5=>?_
    refine i9 X λo2 O R q6 q7 G=>?_
    rw[q4] at q6;cases q6
    exact⟨o',O,R,q4,q7,q5.trans q3⟩
   ·exact(N.cells y c m).imp id λ⟨a,w,B⟩=>⟨a,w,B.sameBut hs (g B)⟩
   ·exact(N.par y c i j).sameBut hs (g (N.par y c i j))
  ·have B:=N.par x c l t
   refine wpAny_storeName_cell Y p l B λh' q hs=>ac ?_
   have Z:env.locals≠c:=λe=>g B e.symm
   have P:s.heap.objs.size<c:=(N.cells x c (mem_of_lookup l)).elim (λz=>absurd z t) λz=>z.1
   refine ih _ _ h' _ Q ⟨λb o e=>?_,N.ns.sameBut hs Z,?_,N.apart,λy c' m=>?_,λy c' i j=>?_,by rw[hs.1];exact N.siz⟩ J (λk d T=>K k d (by
     refine(?_:k8 _ _ _ (bindL _ r (if env.kindOf x=some .local then _ else _)) (bindC _ r (if env.kindOf x=some .local then _ else _)) _)
     have F:¬env.kindOf x=some .local:=by rw[p];decide
     rw[bj F,bj F];exact T))
   ·exact(hs.2 b (λz=>by rw[z] at e;exact absurd (dI (aO e) P) (bz _))).trans (N.keep b o e)
   ·refine i9 N.cls λo es U q1 q2 q3=>?_
    exact⟨o,es,U,(hs.2 _ Z).trans q1,q2,q3⟩
   ·refine(N.cells y c' m).imp id λ⟨a,w,V⟩=>⟨a,?_⟩
    by_cases e:c'=c
    ·subst e;exact⟨_,q⟩
    ·exact⟨w,V.sameBut hs e⟩
   ·show h'.IsCell c' (if y=x then some v else I y)
    by_cases e:y=x
    ·subst e
     rw[l] at i;cases i
     exact(bI rfl)▸(q)
    ·rw[bj e]
     refine(N.par y c' i j).sameBut hs λz=>e ?_
     subst z
     exact name_of_addr N.apart (mem_of_lookup i) (mem_of_lookup l)
theorem um{globals:Addr}{closure:List (Str×Addr)}{a:Str}{d:Option Addr}{code:Value}{builtins:Addr}{Q:Env->Shared->Prop}(r:scope.kind = .function)(g:∀x c,(x,c)∈closure->c<s.heap.objs.size)(k:closure.Pairwise λx y=>x.2≠y.2)(f:∀x∈binds,scope.names.lookup x.1=some .local∨scope.names.lookup x.1=some .cell)(j:∀x c,(x,c)∈closure->scope.names.lookup x≠some .cell)(p:∀env h' tk,env=newEnv scope s.heap.objs.size globals (cellsFrom (s.heap.objs.size+1) scope.names closure) a d code none builtins->k8 s env closure (bindL env.kindOf binds λb=>none) (bindC env.kindOf binds λb=>none) h'->Q env { s with heap:=h',toks:=tk }):
  wpAny M A (newFunctionEnv scope globals closure binds a d code none builtins) Q E s:=by
 refine aa (lG (o:={ cls:=.type "frame",data:=.dict #[] }) ?_)
 refine aa (wpAny_layCells _ (λname i cells=>by cases l:i==NameKind.cell <;> simp[l]) _ _ _ _ ?_)
 have hsz:(s.heap.push { cls:=.type "frame",data:=.dict #[] }).objs.size=s.heap.objs.size+1:=bi ..
 obtain⟨q1,q2,q3⟩:=lZ scope.names (s.heap.push { cls:=.type "frame",data:=.dict #[] }) closure (λx c h=>by rw[hsz];exact fQ (g x c h)) k
 have q4:=jq scope.names (s.heap.objs.size+1) closure
 rw[hsz] at q1 q2 q3
 rw[show({ s with heap:=s.heap.push { cls:=.type "frame",data:=.dict #[] } }:Shared).heap.objs.size=s.heap.objs.size+1 from hsz]
 refine aa (yO (s:=s) (closure:=closure) (env:=newEnv scope s.heap.objs.size globals (cellsFrom (s.heap.objs.size+1) scope.names closure) a d code none builtins) _ (λb b b=>rfl) r rfl g binds (λb=>none) (λb=>none) _ s.toks _
  ⟨λb o e=>lF _ _ _ _ (aV _ e),(Heap.Ns.new s.heap (.type "frame")).keeps (lF _ _),⟨_,_,_,lF _ _ _ _ (bf _ rfl),rfl,rfl⟩,q1,λx c m=>?_,λx c n q=>?_,Nat.lt_of_succ_le q3⟩ (λx n=>?_) λh' tk N=>ac (p _ h' tk rfl N))
 ·rcases q4 x c m with h | ⟨_,h⟩
  ·exact .inl h
  ·refine .inr ⟨h,?_⟩
   rcases q2 x c m with h' | h'
   ·exact absurd (g x c h') (aw.mpr (mD h))
   ·exact⟨_,h'⟩
 ·rcases q2 x c (mem_of_lookup n) with h' | h'
  ·exact absurd h' q
  ·exact h'
 ·refine(f x n).imp id λh=>⟨h,?_⟩
  refine dK (lJ scope.names (s.heap.objs.size+1) closure x.1 h) λc t=>?_
  exact⟨c,t,λm=>j x.1 c m h⟩
end
noncomputable def Ty.le(T R:Ty):Prop:=∀V v,T.p V v->R.p V v
theorem Ty.le_refl(T:Ty):T.le T:=λa a h=>h
noncomputable def dL(V:fH)(binds:List (Str×Value)):List Str->List (Option Ty)->Prop
 | x::xs,some T::ts=>(∃v,binds.lookup x=some v/\T.p V v)/\dL V binds xs ts
 | _::xs,none::ts=>dL V binds xs ts
 | _,_=>True
theorem un{b:List (Str×Value)}{a:List (Option Ty)}:∀{xs:List Str},a.all Option.isNone=true->dL V b xs a:=by
 induction a with
 | nil=>intro xs c;cases xs <;> trivial
 | cons o a ih =>
  intro xs h
  cases o with
  | none =>
   cases xs with
   | nil=>trivial
   | cons x xs=>exact ih h
  | some T=>cases h
theorem dL.at{xs:List Str}{a:List (Option Ty)}(b:dL V binds xs a){i:Nat}{x:Str}{T:Ty}(h:xs[i]? = some x)(h':a[i]? = some (some T)):∃v,binds.lookup x=some v/\T.p V v:=by
 induction xs generalizing a i with
 | nil=>cases h
 | cons y ys ih=>cases a with
  | nil=>cases h'
  | cons U us=>cases i with
   | zero=>cases h;cases h';exact b.1
   | succ i=>cases U with
    | none=>exact ih b h h'
    | some U=>exact ih b.2 h h'
theorem wl{k:Str->Option NameKind}{binds:List (Str×Value)}:∀{m:Str->Option Value} {x:Str},x∉binds.map (·.1)->bindL k binds m x=m x:=by
 induction binds with
 | nil=>exact λc=>rfl
 | cons p r ih =>
  obtain⟨y,v⟩:=p
  intro m x h
  have b:x≠y:=λe=>h (by subst e;simp)
  have a:x∉r.map (·.1):=λe=>h (by rw[cz,aC];exact .inr e)
  rw[bindL,ih a]
  split
  ·exact bj b
  ·rfl
theorem wm{k:Str->Option NameKind}{binds:List (Str×Value)}:∀{m:Str->Option Value} {x:Str},x∉binds.map (·.1)->bindC k binds m x=m x:=by
 induction binds with
 | nil=>exact λc=>rfl
 | cons p r ih =>
  obtain⟨y,v⟩:=p
  intro m x h
  have b:x≠y:=λe=>h (by subst e;simp)
  have a:x∉r.map (·.1):=λe=>h (by rw[cz,aC];exact .inr e)
  rw[bindC,ih a]
  split
  ·rfl
  ·exact bj b
theorem z6{k:Str->Option NameKind}{binds:List (Str×Value)}:∀{m:Str->Option Value} {x:Str} {v:Value},(binds.map (·.1)).Nodup->binds.lookup x=some v->k x=some .local->bindL k binds m x=some v:=by
 induction binds with
 | nil=>exact λd h d=>nS h
 | cons p r ih =>
  obtain⟨y,w⟩:=p
  intro m x v b h c
  rw[cz,jf] at b
  rw[iy] at h
  cases a:x==y with
  | true =>
   rw[a] at h;cases h
   have:x=y:=aL.mp a
   subst this
   rw[bindL,wl b.1,bI c,bI rfl]
  | false=>rw[a] at h;rw[bindL];exact ih b.2 h c
theorem z7{k:Str->Option NameKind}{binds:List (Str×Value)}:∀{m:Str->Option Value} {x:Str} {v:Value},(binds.map (·.1)).Nodup->binds.lookup x=some v->k x=some .cell->bindC k binds m x=some v:=by
 induction binds with
 | nil=>exact λd h d=>nS h
 | cons p r ih =>
  obtain⟨y,w⟩:=p
  intro m x v b h c
  rw[cz,jf] at b
  rw[iy] at h
  cases a:x==y with
  | true =>
   rw[a] at h;cases h
   have:x=y:=aL.mp a
   subst this
   rw[bindC,wm b.1,bj (by rw[c];decide),bI rfl]
  | false=>rw[a] at h;rw[bindC];exact ih b.2 h c
structure wn(C:Cx)(fd:FuncData)(body:List Stmt)(binds:List (Str×Value)):Prop where
 cx:yM C
 scope:fd.scope=C.scope
 co:fd.scope.isCoroutine=false
 gen:fd.scope.isGenerator=false
 body:fd.body = .stmts body
 code:∀v,C.code=some v->fd.code=v
 glob:fd.globals=mainGlobals
 bui:fd.builtins=builtinsNs
 nd:(binds.map (·.1)).Nodup
 kinds:∀x∈binds,C.scope.names.lookup x.1=some .local∨C.scope.names.lookup x.1=some .cell
 own:∀x∈C.own,C.scope.names.lookup x=some .cell
structure im(a:Addr)(fd:FuncData)(env:Env):Prop where
 func:env.func=some a
 code:env.code=fd.code
 clo:∀x c,fd.closure.lookup x=some c->(x,NameKind.cell)∉fd.scope.names->env.cells.lookup x=some c
 cel:∀x c,env.cells.lookup x=some c->(x,c)∈fd.closure∨(x,NameKind.cell)∈fd.scope.names
theorem uo{L:Fp}(rm:aU W A (n+1))(g:G W s)(ho:W.K.lookup a=some o)(hd:o.data = .func fd)(F:wn C fd body binds)(a7:∀x c,(x,c)∈fd.closure->∃v,s.heap.IsCell c v)(e0:fd.closure.Pairwise λx y=>x.2≠y.2)(b4:∀x c,(x,c)∈fd.closure->C.scope.names.lookup x≠some .cell)(D:∀x∈O++L.a,W.H.objs.size<=x/\x<s.heap.objs.size)(b2:∀x∈L.g,x<s.gens.size)(hB:dL (am s.heap (O++L.a)) binds C.names Γ.v)(c6:∀a P,(a,P)∈Γ.h->a∈L.a/\a∉O/\jL (am s.heap (O++L.a)) s.heap P a)(c4:(Γ.h.map (·.1)).Nodup)(U:∀a P,(a,P)∈Γ.h->∀x,(x,a)∉fd.closure){R:Result->Shared->Prop}(a3:∀env,im a fd env->∀M s₁,aU (W.at (env::W.frs)) (A.deeper env) n->aF s s₁->Ext s L M->(∀b∈L.a,b∈M.a)->M.g=L.g->Inv (W.at (env::W.frs)) C env Γ O M s₁->_root_.PySem.wpAt (model prg W.w) (A.deeper env) (.func body env) (execs body env) (λf s'=>R (.ok (.ret (match f with | .ret v=>v | _=>.none))) s')
   (λe s'=>wpAny (model prg W.w) (A.deeper env) (leaving env e) (λi s''=>R (.error e) s'') (λe' s''=>R (.error e') s'') s') s₁):
  wpAny (model prg W.w) A.in1 (newFunctionEnv fd.scope fd.globals fd.closure binds (fd.qualname ++ ".<locals>.") (some a) fd.code none fd.builtins) (λenv s₂=>s₂.heap.NoLimit/\codeAny (model prg W.w) A (.func body env) R s₂) (λe s'=>R (.error e) s') s:=by
 have a6:∀x c,(x,c)∈fd.closure->c<s.heap.objs.size:=λx c m=>(a7 x c m).elim λv h=>h.lt
 refine um (by rw[F.scope];exact F.cx.kind) a6 e0 (λx E=>by rw[F.scope];exact F.kinds x E) (λx c m=>by rw[F.scope];exact b4 x c m) λenv k tk Z X=>?_
 ·have hL:env.locals=s.heap.objs.size:=by subst Z;rfl
  have l:env.cells=cellsFrom (s.heap.objs.size+1) C.scope.names fd.closure:=by subst Z;rw[F.scope];rfl
  have r:env.scope=C.scope:=by subst Z;exact F.scope
  have a2:env.globals=mainGlobals:=by subst Z;exact F.glob
  have b1:env.builtins=builtinsNs:=by subst Z;exact F.bui
  have b5:env.func=some a:=by subst Z;rfl
  have B:env.code=fd.code:=by subst Z;rfl
  have Q:env.frame=some env.locals:=by subst Z;rfl
  have t:∀x,env.kindOf x=C.scope.names.lookup x:=λx=>by rw[Env.kindOf,r]
  have a4:=X.ns
  have p:=X.keep
  have J:s.heap.objs.size<k.objs.size:=X.siz
  have u:G W { s with heap:=k,toks:=tk }:=g.step p (cQ J)
  have gF:G (W.at (env::W.frs)) { s with heap:=k,toks:=tk }:=u.at λe m=>by
   rcases aC.mp m with rfl | m
   ·refine i9 X.cls λo es ep q1 q2 q3=>?_
    exact⟨by rw[r,F.cx.kind];decide,e.locals,_,o,Q,by rw[hL];exact g.siz,q1,a4,q3⟩
   ·exact u.frs e m
  have a1:aF s { s with heap:=k,toks:=tk }:=aF.step p (cQ J)
  refine⟨u.noLimit,ks_codeAny_funcAt ?_⟩
  let M:Fp:=⟨env.locals::((env.cells.map (·.2)).filter λc=>decide (s.heap.objs.size<c))++L.a,L.g⟩
  have c7:∀y c,env.cells.lookup y=some c->s.heap.objs.size<c->c∈M.a:=λy c hm hl=>by
   refine aq _ (bt _ (bk.mpr ⟨a9.mpr ⟨(y,c),mem_of_lookup hm,rfl⟩,c8 hl⟩))
  have a5:∀x c,env.cells.lookup x=some c->C.scope.names.lookup x=some .cell->(x,c)∉fd.closure:=λx c i N m=>b4 x c m N
  have c2:∀x c,env.cells.lookup x=some c->(x,c)∉fd.closure->s.heap.objs.size<c:=λx c h n=>(X.cells x c (mem_of_lookup h)).elim (λz=>absurd z n) λz=>z.1
  have c1:∀x c,env.cells.lookup x=some c->∃v,k.IsCell c v:=λx c h=>(X.cells x c (mem_of_lookup h)).elim (λz=>(a7 x c z).elim λv q=>⟨v,q.keeps p⟩) λz=>z.2
  have V:∀b∈M.a,b∈L.a∨(s.heap.objs.size<=b/\b<k.objs.size):=λb d=>by
   rcases aj.mp d with d | d
   ·rcases aC.mp d with e | d
    ·exact .inr (by rw[e];exact⟨by rw[hL];exact aB _,a4.lt⟩)
    ·refine ck (bk.mp d) λd j=>?_
     refine bc (a9.mp d) λy hy e=>?_
     have j:=ci j
     refine .inr ⟨cQ j,?_⟩
     rcases X.cells y.1 y.2 hy with z | ⟨_,v,q⟩
     ·have:=a6 _ _ z;rw[e] at this;exact absurd j (aw.mpr (cQ this))
     ·exact e▸(q.lt)
   ·exact .inl d
  have Y:Ext s L M:=⟨λb d=>(V b d).elim .inl λh=>.inr h.1,λb d=>.inl d⟩
  have b3:Vle (am s.heap (O++L.a)) (am k (O++M.a)):=(ak.ofK a1:ak L s _).vle Y
  have I:Inv (W.at (env::W.frs)) C env Γ O M { s with heap:=k,toks:=tk }:=by
   refine⟨gF,⟨F.cx,r,a2,b1,X.apart,λx E=>?_,λv hv=>B.trans (F.code v hv)⟩,aq _ dS,λx c E ho=>c7 x c E (c2 x c E (a5 x c E (F.own x ho))),λb d=>?_,b2,⟨_,a4,λi x T hi hT=>?_⟩,c1,λb P d=>?_,c4,env,W.frs,rfl,rfl⟩
   ·exact l▸(lJ _ _ _ _ (F.own x E))
   ·rcases aj.mp d with d | d
    ·exact⟨(D b (aq _ d)).1,dI (D b (aq _ d)).2 J⟩
    ·rcases V b d with d | d
     ·exact⟨(D b (al _ d)).1,dI (D b (al _ d)).2 J⟩
     ·exact⟨ae g.siz d.1,d.2⟩
   ·refine bc (hB.at hi hT) λv hv ht=>?_
    refine⟨v,?_,T.mono b3 ht⟩
    rcases F.kinds (x,v) (mem_of_lookup hv) with N | N
    ·exact .inl ⟨N,z6 F.nd hv (by rw[t];exact N)⟩
    ·refine dK (lJ C.scope.names (s.heap.objs.size+1) fd.closure x N) λc hc=>?_
     rw[← l] at hc
     have:=X.par x c hc (a5 x c hc N)
     rw[z7 F.nd hv (by rw[t];exact N)] at this
     exact .inr ⟨.inl N,c,hc,this⟩
   ·obtain⟨h1,d8,o,h2,h3,h4⟩:=c6 b P d
    have j:=(D b (al _ h1)).2
    refine⟨al _ h1,λe=>?_,λx e=>?_,d8,o,p _ _ h2,h3,P.mono b3 h4⟩
    ·rw[e,hL] at j;exact bz _ j
    ·rcases X.cells x b (mem_of_lookup e) with z | z
     ·exact U b P d x z
     ·exact absurd j (aw.mpr (cQ z.1))
  have c5:im a fd env:=⟨b5,B,λx c E hn=>by rw[l,iW _ _ _ _ (F.scope▸hn)];exact E,λx c h=>by
   rw[l] at h
   exact(jq _ _ _ _ _ (mem_of_lookup h)).imp id λh=>F.scope▸h.1⟩
  exact a3 env c5 M _ (rm.deeper env) a1 Y (λb d=>al _ d) rfl I
theorem nw{kvs:List (Str×Value)}{L:Fp}(u:aU W A (n+1))(g:G W s)(t:W.K.lookup a=some o)(hd:o.data = .func fd)(D:s.heap.CodeRec fd.code fd.qualname)(z:peek W.K ⟨prg,W.w.params⟩ (bindArgs fd ⟨vs,kvs⟩)=some binds)(F:wn C fd body binds)(p:∀x c,(x,c)∈fd.closure->∃v,s.heap.IsCell c v)(l:fd.closure.Pairwise λx y=>x.2≠y.2)(k:∀x c,(x,c)∈fd.closure->C.scope.names.lookup x≠some .cell)(r:∀x∈O++L.a,W.H.objs.size<=x/\x<s.heap.objs.size)(j:∀x∈L.g,x<s.gens.size)(E:dL (am s.heap (O++L.a)) binds C.names Γ.v)(m:∀a P,(a,P)∈Γ.h->a∈L.a/\a∉O/\jL (am s.heap (O++L.a)) s.heap P a)(q:(Γ.h.map (·.1)).Nodup)(d:∀a P,(a,P)∈Γ.h->∀x,(x,a)∉fd.closure){R:Result->Shared->Prop}(i:∀env,im a fd env->∀M s₁,aU (W.at (env::W.frs)) (A.deeper env) n->aF s s₁->Ext s L M->(∀b∈L.a,b∈M.a)->M.g=L.g->Inv (W.at (env::W.frs)) C env Γ O M s₁->_root_.PySem.wpAt (model prg W.w) (A.deeper env) (.func body env) (execs body env) (λf s'=>R (.ok (.ret (match f with | .ret v=>v | _=>.none))) s')
   (λe s'=>wpAny (model prg W.w) (A.deeper env) (leaving env e) (λI s''=>R (.error e) s'') (λB s''=>R (.error B) s'') s') s₁):
  codeAny (model prg W.w) A (.call (.ref a) ⟨vs,kvs⟩) R s :=
 codeAny_call_function (by have:=u.depth;exact ae (aX (aW _ _) 1) this) (g.kin a o (by exact t)) hd F.co F.gen F.body D (Looks.here (cA (M:=model prg W.w) g.kin z) (uo u g t hd F p l k r j E m q d i))
theorem G.back(g:G (W.at (env::W.frs)) s):G W s:=⟨g.old,g.siz,g.bare,g.os,g.kin0,g.kin,g.glob0,g.glob,g.bui0,g.bui,g.boot,g.sta0,g.sta,g.lim,g.tab0,g.tab,λe m=>g.frs e (bt _ m),g.bas⟩
theorem sn{kvs:List (Str×Value)}{L:Fp}(rm:aU W A (n+1))(g:G W s)(ho:W.K.lookup a=some o)(hd:o.data = .func fd)(hc:s.heap.CodeRec fd.code fd.qualname)(hb:peek W.K ⟨prg,W.w.params⟩ (bindArgs fd ⟨vs,kvs⟩)=some binds)(F:wn C fd body binds)(b2:∀x c,(x,c)∈fd.closure->∃v,s.heap.IsCell c v)(c2:fd.closure.Pairwise λx y=>x.2≠y.2)(c1:∀x c,(x,c)∈fd.closure->C.scope.names.lookup x≠some .cell)(c3:∀x∈O++L.a,W.H.objs.size<=x/\x<s.heap.objs.size)(V:∀x∈L.g,x<s.gens.size)(hB:dL (am s.heap (O++L.a)) binds C.names Γ.v)(b5:∀a P,(a,P)∈Γ.h->a∈L.a/\a∉O/\jL (am s.heap (O++L.a)) s.heap P a)(b3:(Γ.h.map (·.1)).Nodup)(u:∀a P,(a,P)∈Γ.h->∀x,(x,a)∉fd.closure)(E:∀env,im a fd env->∀A O M s,aU (W.at (env::W.frs)) A n->Inv (W.at (env::W.frs)) C env Γ O M s->_root_.PySem.wpAt (model prg W.w) A (.func body env) (execs body env) (nu (W.at (env::W.frs)) C env O M s P) (gn (W.at (env::W.frs)) C env O M s P) s){QE:Value->Shared->Prop}(hQ:∀v s' M' Γ' T,ak L s s'->Ext s L M'->G W s'->(∀a P,(a,P)∈Γ'.h->a∈M'.a/\jL (am s'.heap (O++M'.a)) s'.heap P a)->(∀x∈M'.a,W.H.objs.size<=x/\x<s'.heap.objs.size) ->
   (P (.ret Γ' T)/\T.p (am s'.heap (O++M'.a)) v∨P (.next Γ')/\v = .none∨(P (.cont Γ')∨P (.brk Γ'))/\v = .none)->Q v s')(hE:∀ev s' M' X Γ' cls,ak L s s'->Ext s L M'->(∀a∈X,s.heap.objs.size<=a/\W.H.objs.size<=a/\a<s'.heap.objs.size)->G W s'->(∀a P,(a,P)∈Γ'.h->a∈M'.a/\a∉X/\jL (am s'.heap (O++M'.a)) s'.heap P a)->(∀x∈M'.a,W.H.objs.size<=x/\x<s'.heap.objs.size) ->
   P (.exc Γ' cls)->fJ s'.heap X cls true ev->QE ev s'):
  codeAny (model prg W.w) A (.call (.ref a) ⟨vs,kvs⟩) (λr s'=>match r with | .ok (.ret v)=>Q v s' | .ok _=>False | .error e=>QE e s') s:=by
 refine nw rm g ho hd hc hb F b2 c2 c1 c3 V hB b5 b3 u λenv a7 M s₁ c5 d j S S I=>?_
 refine ks_wpAt_mono (E env a7 (A.deeper env) O M s₁ c5 I) (λf s' h'=>?_) λev s' h'=>?_
 ·obtain⟨k',M',x',oc,R,hf⟩:=h'
  have N:ak L s s':=(ak.ofK d:ak L s _).of_ext j k'
  have xx:Ext s L M':=j.trans x' d.siz d.gsz
  have i:∀{Γ'},Inv (W.at (env::W.frs)) C env Γ' O M' s'->∀a P,(a,P)∈Γ'.h->a∈M'.a/\jL (am s'.heap (O++M'.a)) s'.heap P a:=λJ a P hm=>by
   obtain⟨q1,S,S,S,o,h,t,p⟩:=J.phi a P hm
   exact⟨q1,o,h,t,p⟩
  have l:∀{Γ'},Inv (W.at (env::W.frs)) C env Γ' O M' s'->∀x∈M'.a,W.H.objs.size<=x/\x<s'.heap.objs.size:=λJ x m=>J.up x (al _ m)
  cases f <;> cases oc <;> first | exact hf.elim | skip
  ·exact hQ _ s' M' _ dk N xx (hf.g.back) (i hf) (l hf) (.inr (.inl ⟨R,rfl⟩))
  ·exact hQ _ s' M' _ dk N xx (hf.g.back) (i hf) (l hf) (.inr (.inr ⟨.inr R,rfl⟩))
  ·exact hQ _ s' M' _ dk N xx (hf.g.back) (i hf) (l hf) (.inr (.inr ⟨.inl R,rfl⟩))
  ·exact hQ _ s' M' _ _ N xx (hf.1.g.back) (i hf.1) (l hf.1) (.inl ⟨R,hf.2⟩)
 ·obtain⟨k',M',X',x',U,Y,Γ',cls,R,J,tr,hx⟩:=h'
  have b6:∀a∈X',W.H.objs.size<=a/\a<s'.heap.objs.size:=λa m=>J.up a (aq _ (al _ m))
  refine qx (W:=W.at (env::W.frs)) (rm.deeper env) J.g J.top b6 hx λs'' D B c4=>?_
  have N:ak L s s'':=((ak.ofK d:ak L s _).of_ext j k').of_ext (M':=⟨X',[]⟩) ⟨λa m=>.inr (ae d.siz (U a m)),λS m=>absurd m av⟩ B.k
  have Z:∀a∈D,s.heap.objs.size<=a:=λa m=>(B.x a m).elim (λm=>ae d.siz (U a m)) λh=>ae (ae d.siz k'.siz) h
  have nX:∀a∈M'.a,a∉D:=λa m m'=>(B.x a m').elim (λz=>Y a z m) λz=>absurd (J.up a (al _ m)).2 (aw.mpr z)
  refine hE ev s'' M' D Γ' cls N (j.trans x' d.siz d.gsz) (λa m=>⟨Z a m,B.b a m⟩) B.g.back (λb P hb=>?_) (λx m=>⟨(J.up x (al _ m)).1,aA (J.up x (al _ m)).2 B.k.siz⟩) R c4
  obtain⟨h1,S,S,S,o,h4,h5,h6⟩:=J.phi b P hb
  refine⟨h1,nX b h1,o,B.k.obj b o (λz=>Y b z h1) h4 h5,h5,P.mono (λc oc e q=>?_) h6⟩
  have hn:=a8 e
  simp only[List.mem_append,not_or] at hn
  exact aK (B.k.obj c oc hn.1.2 (af e) q) (by simp only[List.mem_append,not_or];exact⟨hn.1.1,hn.2⟩)
theorem iA{kvs:List (Str×Value)}{L:Fp}(u:aU W A (n+1))(g:G W s)(R:W.K.lookup a=some o)(hd:o.data = .func fd)(D:s.heap.CodeRec fd.code fd.qualname)(B:peek W.K ⟨prg,W.w.params⟩ (bindArgs fd ⟨vs,kvs⟩)=some binds)(F:wn C fd body binds)(j:∀x c,(x,c)∈fd.closure->∃v,s.heap.IsCell c v)(q:fd.closure.Pairwise λx y=>x.2≠y.2)(m:∀x c,(x,c)∈fd.closure->C.scope.names.lookup x≠some .cell)(t:∀x∈O++L.a,W.H.objs.size<=x/\x<s.heap.objs.size)(f:∀x∈L.g,x<s.gens.size)(E:dL (am s.heap (O++L.a)) binds C.names Γ.v)(l:∀a P,(a,P)∈Γ.h->a∈L.a/\a∉O/\jL (am s.heap (O++L.a)) s.heap P a)(k:(Γ.h.map (·.1)).Nodup)(b:∀a P,(a,P)∈Γ.h->∀x,(x,a)∉fd.closure)(d:∀env,im a fd env->ExP (W.at (env::W.frs)) C Γ n body P){QE:Value->Shared->Prop}(J:∀v s' M' Γ' T,ak L s s'->Ext s L M'->G W s'->(∀a P,(a,P)∈Γ'.h->a∈M'.a/\jL (am s'.heap (O++M'.a)) s'.heap P a)->(∀x∈M'.a,W.H.objs.size<=x/\x<s'.heap.objs.size) ->
   (P (.ret Γ' T)/\T.p (am s'.heap (O++M'.a)) v∨P (.next Γ')/\v = .none∨(P (.cont Γ')∨P (.brk Γ'))/\v = .none)->Q v s')(N:∀z s' M' X Γ' cls,ak L s s'->Ext s L M'->(∀a∈X,s.heap.objs.size<=a/\W.H.objs.size<=a/\a<s'.heap.objs.size)->G W s'->(∀a P,(a,P)∈Γ'.h->a∈M'.a/\a∉X/\jL (am s'.heap (O++M'.a)) s'.heap P a)->(∀x∈M'.a,W.H.objs.size<=x/\x<s'.heap.objs.size) ->
   P (.exc Γ' cls)->fJ s'.heap X cls true z->QE z s'):
  codeAny (model prg W.w) A (.call (.ref a) ⟨vs,kvs⟩) (λr s'=>match r with | .ok (.ret v)=>Q v s' | .ok _=>False | .error e=>QE e s') s :=
 sn u g R hd D B F j q m t f E l k b (λenv i A O M s u I=>iI (d env i A env O M s u I)) J N
noncomputable def xG:Value->Option Addr
 | .ref a=>some a
 | _=>none
theorem qz{v:Value}(h:xG v=some a):v = .ref a:=by
 cases v <;> cases h;rfl
noncomputable def z8:Value->Option Str
 | .str q _=>some q
 | _=>none
theorem ur{v:Value}{q:Str}(h:z8 v=some q):∃t,v = .str q t:=by
 cases v <;> cases h;exact⟨_,rfl⟩
noncomputable def z9:Data->Option (Array Value)
 | .fields vs=>some vs
 | _=>none
theorem ut{d:Data}{vs:Array Value}(h:z9 d=some vs):d = .fields vs:=by
 cases d <;> cases h;rfl
noncomputable def Ea:Data->Option FuncData
 | .func fd=>some fd
 | _=>none
theorem Aa{d:Data}(h:Ea d=some fd):d = .func fd:=by
 cases d <;> cases h;rfl
noncomputable def s4(K:Frag)(a:Value)(q:Str):Bool:=(xG a).any λc=>(K.lookup c).any λo=>(z9 o.data).any λvs=>(vs[1]? : Option Value).any λv=>z8 v==some q
theorem dC{K:Frag}{b:Value}{q:Str}(e:s4 K b q=true)(X:K.In h):h.CodeRec b q:=by
 refine bc (cB e) λc g e=>?_
 refine bc (cB e) λo d e=>?_
 refine bc (cB e) λvs hd e=>?_
 refine bc (cB e) λv f e=>?_
 refine dK (ur (aL.mp e)) λt a=>?_
 obtain rfl:=a
 exact⟨c,o,vs,t,qz g,X c o d,ut hd,f⟩
noncomputable def Ab(C:Cx):Bool:=C.scope.kind == .function&&decide C.names.Nodup&&C.names.all qp
theorem xH(h:Ab C=true):yM C:=by
 simp only[Ab,Bool.and_eq_true,decide_eq_true_eq,List.all_eq_true] at h
 exact⟨by have:=h.1.1;revert this;cases C.scope.kind <;> decide,h.1.2,h.2⟩
noncomputable def pp(K:Frag)(a:Addr):Option FuncData:=(K.lookup a).bind λo=>Ea o.data
theorem Ac{K:Frag}(h:pp K a=some fd):∃o,K.lookup a=some o/\o.data = .func fd:=by
 refine bc (Option.bind_eq_some_iff.mp h) λo b hd=>?_
 exact⟨o,b,Aa hd⟩
noncomputable def rW(K:Frag)(C:Cx)(a:Addr)(ns:List Str):Bool:=(pp K a).any λfd=>Ab C&&fd.scope.names==C.scope.names&&fd.scope.kind==C.scope.kind&&fd.scope.isGenerator==false&&fd.scope.isCoroutine==false&&fd.closure.isEmpty&&fd.globals==mainGlobals&&fd.builtins==builtinsNs &&
 s4 K fd.code fd.qualname&&decide ns.Nodup&&ns.all (λx=>C.scope.names.lookup x==some .local||C.scope.names.lookup x==some .cell)&&C.own.all (λx=>C.scope.names.lookup x==some .cell) &&
 C.code.all λv=>fd.code==v
structure l0(K:Frag)(C:Cx)(a:Addr)(fd:FuncData)(body:List Stmt)(ns:List Str):Prop where
 here:∃o,K.lookup a=some o/\o.data = .func fd
 code:s4 K fd.code fd.qualname=true
 ok:∀binds:List (Str×Value),binds.map (·.1)=ns->wn C fd body binds
 clo:fd.closure=[]
theorem l0.nc{K:Frag}{ns:List Str}(D:l0 K C a fd body ns)(x:Str)(c:Addr):(x,c)∉fd.closure:=by rw[D.clo];exact av
theorem gt{K:Frag}{ns:List Str}(hf:pp K a=some fd)(b:rW K C a ns=true)(hs:fd.scope=C.scope)(f:fd.body = .stmts body):l0 K C a fd body ns:=by
 have i:=Ac hf
 unfold rW at b
 rw[hf,Option.any_some] at b
 refine ck (bP.mp b) λb c=>?_
 refine ck (bP.mp b) λb d=>?_
 refine ck (bP.mp b) λb g=>?_
 refine ck (bP.mp b) λb h=>?_
 refine ck (bP.mp b) λb n=>?_
 refine ck (bP.mp b) λb m=>?_
 refine ck (bP.mp b) λb q=>?_
 refine ck (bP.mp b) λb o=>?_
 refine ck (bP.mp b) λb l=>?_
 refine ck (bP.mp b) λb j=>?_
 refine ck (bP.mp b) λb r=>?_
 refine ck (bP.mp b) λp r=>?_
 refine⟨i,n,λbinds en=>⟨xH p,hs,aL.mp l,aL.mp j,f,λv k=>?_,aL.mp q,aL.mp m,en▸ci h,λx e=>(jX.mp (bd.mp g x.1 (en▸cj e))).imp aL.mp aL.mp,λx e=>aL.mp (bd.mp d x e)⟩,e6.mp o⟩
 rw[k] at c
 exact aL.mp c
noncomputable abbrev jr(R:Ty):ja->Prop:=λo=>match o with | .ret _ T=>T.le R | .exc ..=>False | _=>cJ.le R
theorem ay.len:∀{Ts:List Ty} {vs:List Value},ay V Ts vs->vs.length=Ts.length:=ay.ind (P:=λTs vs=>vs.length=Ts.length) rfl λb b a=>aY (· + 1) a
theorem Ck{V:fH}{σ:List (Option Ty)}(c:σ.all (·.isNone)=true):∀{Ps:List Ty} {b:List Value} {ns:List Str} {B:List (Str×Value)},ay V Ps b->ns.Nodup->Ps.length<=ns.length->(∀x v,(x,v)∈(ns.take Ps.length).zip b->B.lookup x=some v)->dL V B ns (Ps.map some++σ) :=
 fun {Ps b ns B} a=>ay.ind (P:=λPs b=>∀{ns:List Str},ns.Nodup->Ps.length<=ns.length->(∀x v,(x,v)∈(ns.take Ps.length).zip b->B.lookup x=some v)->dL V B ns (Ps.map some++σ)) (λg g g=>un c) (λa g e ns f h d=>by
  cases ns with
  | nil=>exact absurd h (Nat.not_succ_le_zero _)
  | cons x ns=>exact⟨⟨_,d x _ (.head _),a⟩,e f.of_cons (jv h) λy v m=>d y v (.tail _ m)⟩) a
theorem Ad{ns:List Str}:∀{k:Nat} {a:List Value},ns.Nodup->∀x v,(x,v)∈(ns.take k).zip a->((ns.take k).zip a).lookup x=some v:=by
 induction ns with
 | nil=>intro k a g x v m;rw[List.take_nil,List.zip_nil_left] at m;exact nM m
 | cons y ns ih =>
  intro k a f x v m
  cases k with
  | zero=>exact nM m
  | succ k =>
  cases a with
  | nil=>exact nM m
  | cons p a =>
  rcases aC.mp m with m | m
  ·refine ck (Prod.mk.inj m) λd b=>?_
   obtain rfl:=d
   obtain rfl:=b
   show List.lookup _ ((_,_)::_)=_
   rw[List.lookup_cons_self]
  ·have c:x≠y:=λe=>(jf.mp f).1 (e▸mF (List.of_mem_zip m).1)
   refine(?_:List.lookup x ((y,p)::_)=_)
   rw[iy,ey.mpr c]
   exact ih (jf.mp f).2 x v m
theorem Hh{i n m j l:Type}{o:Option i}{f:i->n}{g:i->m}{h:i->j}{k:i->l}{a:n}{b:m}{c:j}{d:l}(e:o.map (λx=>(f x,g x,h x,k x))=some (a,b,c,d)):∃x,o=some x/\f x=a/\g x=b/\h x=c/\k x=d:=by
 cases o with
 | none=>cases e
 | some x=>exact have e:=fU e;⟨x,rfl,aY (·.1) e,aY (·.2.1) e,aY (·.2.2.1) e,aY (·.2.2.2) e⟩
abbrev FnQ(W:Wc)(C:Cx)(a:Addr)(b:List Stmt)(k:Nat)(r:Args)(c:List Value):Prop :=
 (pp W.K a).map (λfd=>(rW W.K C a (C.names.take k),fd.scope,fd.body,peek W.K ⟨prg,W.w.params⟩ (bindArgs fd r)))=some (true,C.scope,.stmts b,some ((C.names.take k).zip c))
theorem fnQ{r:Args}{c:List Value}(h:FnQ W C a b k r c):∃fd,pp W.K a=some fd/\rW W.K C a (C.names.take k)=true/\fd.scope=C.scope/\fd.body = .stmts b/\peek W.K ⟨prg,W.w.params⟩ (bindArgs fd r)=some ((C.names.take k).zip c):=Hh h
def uu(W:Wc)(n:Nat)(a:Addr)(Ts:List Ty)(Ks:List (Str×Ty))(R:Ty):Prop:=∀A O s vs ks,aU W A n->GO W O s->ay (am s.heap O) Ts vs->ay (am s.heap O) (Ks.map (·.2)) ks->codeAny (model prg W.w) A (.call (.ref a) ⟨vs,(Ks.map (·.1)).zip ks⟩) (λr s'=>∃v,r = .ok (.ret v)/\Res W O s R v s') s
theorem uu.call(h:uu W n a Ts Ks R):aM W n (.ref a) Ts Ks R:=λA O s vs ks b g c hK=>by
 refine bQ (bN (h A O s vs ks b g c hK) λr s' h=>?_)
 obtain⟨v,rfl,h⟩:=h
 exact h
theorem uw{Ps:List Ty}(x:Arguments×List Stmt×Scope)(C:Cx)(σ:List (Option Ty))(q:∀V vs ks,ay V Ts vs->ay V (Ks.map (·.2)) ks->∃i,ay V Ps i/\FnQ W C a x.2.1 Ps.length ⟨vs,(Ks.map (·.1)).zip ks⟩ i)(d:∀env,ExP (W.at (env::W.frs)) C ⟨Ps.map some++σ,[]⟩ n x.2.1 (jr R))(f:(decide C.names.Nodup&&decide (Ps.length<=C.names.length)&&σ.all (·.isNone))=true):uu W (n+1) a Ts Ks R:=λA O s vs ks E g B hK=>by
 simp only[Bool.and_eq_true,decide_eq_true_eq] at f
 refine bc (q _ vs ks B hK) λi b y=>?_
 refine FW (fnQ y) λfd hf l hs j e=>?_
 have t:=ay.len b
 have en:((C.names.take Ps.length).zip i).map (·.1)=C.names.take Ps.length:=by
  refine List.map_fst_zip ?_
  rw[jw,t]
  exact Nat.min_le_left _ _
 have D:=gt hf l hs j
 refine bc D.here λo z hd=>?_
 have p:∀x c,(x,c)∉fd.closure:=λx c m=>nomatch (D.clo▸m:(x,c)∈[])
 refine bN (iA (L:=⟨[],[]⟩) (O:=O) (Γ:=⟨Ps.map some++σ,[]⟩) (Q:=λv s'=>Res W O s R v s') (QE:=Nev) E g.g z hd (dC D.code g.g.kin) e (D.ok _ en) (λx c m=>absurd m (p x c)) (by rw[D.clo];exact List.Pairwise.nil) (λx c m=>absurd m (p x c)) (λx u=>g.ok x (by simpa using u)) (λo=>nM) ?_ (λo o=>nM) gb (λo o=>nM) (λenv o=>d env) ?_ ?_) λr s' h=>?_
 ·rw[c0];exact Ck f.2 b f.1.1 f.1.2 (Ad f.1.1)
 ·intro v s' M' Γ' T k x g' o o h
  refine⟨g',k,?_⟩
  rcases h with⟨b,w⟩ | ⟨b,rfl⟩ | ⟨b,rfl⟩
  ·exact b _ _ (T.mono (bG λa m=>aq _ m) w)
  ·exact b _ _ rfl
  ·exact(b.elim id id) _ _ rfl
 ·exact λo o o o o o o o o o o o b o=>b.elim
 ·rcases r with F | (v | _ | _ | _) <;> first | exact h.elim | exact⟨_,rfl,h⟩
theorem Eb(x:Arguments×List Stmt×Scope)(C:Cx)(σ:List (Option Ty))(c:∀env,ExP (W.at (env::W.frs)) C ⟨some T::σ,[]⟩ n x.2.1 (jr R))(e:autoParam (∀v,FnQ W C a x.2.1 1 ⟨[v],[]⟩ [v]) q_K)(d:autoParam ((decide C.names.Nodup&&decide (1<=C.names.length)&&σ.all (·.isNone))=true) q_K):uu W (n+1) a [T] [] R :=
 uw (Ps:=[T]) x C σ (λV vs ks a b=>by
  obtain⟨v,rfl,h⟩:=a.a1
  exact⟨[v],a,e v⟩) c d
theorem s5(x:Arguments×List Stmt×Scope)(C:Cx)(σ:List (Option Ty))(b:∀env,ExP (W.at (env::W.frs)) C ⟨some T::σ,[]⟩ n x.2.1 (jr R))(d:autoParam (∀v,FnQ W C a x.2.1 1 ⟨[v],[]⟩ [v]) q_K)(c:autoParam ((decide C.names.Nodup&&decide (1<=C.names.length)&&σ.all (·.isNone))=true) q_K):aM W (n+1) (.ref a) [T] [] R:=(Eb x C σ b d c).call
theorem rX(x:Arguments×List Stmt×Scope)(C:Cx)(σ:List (Option Ty))(c:∀env,ExP (W.at (env::W.frs)) C ⟨some T::some U::σ,[]⟩ n x.2.1 (jr R))(e:autoParam (∀v w,FnQ W C a x.2.1 2 ⟨[v,w],[]⟩ [v,w]) q_K)(d:autoParam ((decide C.names.Nodup&&decide (2<=C.names.length)&&σ.all (·.isNone))=true) q_K):aM W (n+1) (.ref a) [T,U] [] R :=
 (uw (Ps:=[T,U]) x C σ (λV vs ks a b=>by
  obtain⟨v,w,rfl,h,h'⟩:=a.a2
  exact⟨[v,w],a,e v w⟩) c d).call
theorem s7{X:Ty}(x:Arguments×List Stmt×Scope)(C:Cx)(σ:List (Option Ty))(c:∀env,ExP (W.at (env::W.frs)) C ⟨some T::some U::some X::σ,[]⟩ n x.2.1 (jr R))(e:autoParam (∀u v w,FnQ W C a x.2.1 3 ⟨[u,v,w],[]⟩ [u,v,w]) q_K)(d:autoParam ((decide C.names.Nodup&&decide (3<=C.names.length)&&σ.all (·.isNone))=true) q_K):aM W (n+1) (.ref a) [T,U,X] [] R :=
 (uw (Ps:=[T,U,X]) x C σ (λV vs ks a b=>by
  obtain⟨u,v,w,rfl,f⟩:=a.a3
  exact⟨[u,v,w],a,e u v w⟩) c d).call
noncomputable def Vw.seq(V:fH)(T:String)(v:Value)(vs:List Value):Prop:=∃a c,v = .ref a/\V a=some { cls:=.type T,dict:=none,data:=.seq vs.toArray c,slots:=#[] }
theorem Vw.seq_mono(h:Vle V V'){T:String}(x:Vw.seq V T v vs):Vw.seq V' T v vs:=by
 obtain⟨a,c,e,o⟩:=x
 exact⟨a,c,e,h a _ o (ik (by simp))⟩
noncomputable def ux(T:String)(Ts:List Ty):Ty:=⟨λV v=>∃vs,Vw.seq V T v vs/\ay V Ts vs,λh=>ir λvs x y=>⟨vs,x.elim λa x=>Vw.seq_mono h ⟨a,x⟩,ay.mono h y⟩⟩
noncomputable abbrev bw(Ts:List Ty):Ty:=ux "list" Ts
noncomputable abbrev bH(Ts:List Ty):Ty:=ux "tuple" Ts
theorem ay.get:∀{Ts:List Ty} {vs:List Value},ay V Ts vs->∀{i:Nat} {T:Ty},Ts[i]? = some T->∃v,vs[i]? = some v/\T.p V v :=
 ay.ind (P:=λTs vs=>∀{i:Nat} {T:Ty},Ts[i]? = some T->∃v,vs[i]? = some v/\T.p V v) (λh=>nS h) λa c b i T h=>by
  cases i with
  | zero =>
   have e:=fU h
   subst e
   exact⟨_,rfl,a⟩
  | succ i=>exact b h
theorem ay.append:∀{Ts Us:List Ty} {vs c:List Value},ay V Ts vs->ay V Us c->ay V (Ts++Us) (vs++c) :=
 fun {Ts Us vs c} x y=>ay.ind (P:=λTs vs=>ay V (Ts++Us) (vs++c)) y (λa d b=>⟨a,b⟩) x
theorem Vw.seq_at{T:String}(x:Vw.seq (am h O) T v vs):∃a c,v = .ref a/\h.get? a=some { cls:=.type T,dict:=none,data:=.seq vs.toArray c,slots:=#[] }:=by
 obtain⟨a,c,e,o⟩:=x
 exact⟨a,c,e,af o⟩
theorem bJ(g:GO W O s)(o:Obj)(tk:Nat):G W { s with heap:=s.heap.push o,toks:=tk }/\aF s { s with heap:=s.heap.push o,toks:=tk }/\s.heap.objs.size∉O :=
 ⟨g.g.step (λb x e=>aV o e) (by show _<=(s.heap.push o).objs.size;rw[bi];exact bY _),aF.step (λb x e=>aV o e) (by rw[bi];exact bY _),
  λm=>bz _ (g.ok _ m).2⟩
theorem ny{T:String}(g:GO W O s)(tk:Nat)(h:ay (am s.heap O) Ts vs):
  Res W O s (ux T Ts) (.ref s.heap.objs.size) { s with heap:=s.heap.push { cls:=.type T,dict:=none,data:=.seq vs.toArray,slots:=#[] },toks:=tk }:=by
 obtain⟨g',k,n⟩:=bJ g { cls:=.type T,dict:=none,data:=.seq vs.toArray,slots:=#[] } tk
 exact⟨g',k,vs,⟨_,0,rfl,aK (bf _ rfl) n⟩,ay.mono (k.vle0 O) h⟩
theorem cg(h:dJ W C Γ n es Ts)(hz:autoParam (Nat.ble Ts.length sizeLine=true) q_R):EvP W C Γ n (.Tuple es k pos) (bH Ts):=λA env O M s c I =>
 wpAny_Tuple (ad (h A env O M s pos c I).2 (λvs s₁ a=>by
  have b:=I.keep a.2.1 a.1
  have r:=ny (T := "tuple") b.go s₁.toks a.2.2
  exact⟨by rw[ay.len a.2.2];exact cL hz,r.1,a.2.1.trans r.2.1,r.2.2⟩) az)
theorem eZ(h:dJ W C Γ n es Ts)(hz:autoParam (Nat.ble Ts.length sizeLine=true) q_R):EvP W C Γ n (.List es pos) (bw Ts):=λA env O M s c I =>
 wpAny_List (ad (h A env O M s pos c I).2 (λvs s₁ a=>by
  have b:=I.keep a.2.1 a.1
  have r:=ny (T := "list") b.go s₁.toks a.2.2
  exact⟨by rw[ay.len a.2.2];exact cL hz,r.1,a.2.1.trans r.2.1,r.2.2⟩) az)
theorem ed{T:String}(j:T = "list" ∨ T = "tuple")(hz:Ts.length<2 ^ 62):aM W n (.builtin "len") [ux T Ts] [] (bh Ts.length):=λA O s vs ks k g b hK=>by
 obtain⟨v,r,rfl,⟨xs,i,h⟩,f⟩:=ay.cons_iff b
 refine(ay.nil_iff f) ▸ ?_
 obtain⟨a,c,rfl,d⟩:=Vw.seq_at i
 have e:xs.toArray.size=Ts.length:=by rw[e7,ay.len h]
 rcases j with rfl | rfl
 ·refine call_len_list (items:=xs.toArray) ⟨_,d,rfl,c,rfl⟩ (oF (bp (aH e) hz)) ?_
  rw[e];exact⟨g.g.tok,aF.tok,_,rfl⟩
 ·refine P.len_tuple (items:=xs.toArray) (n:=c) d (Int.not_le.mpr (oF (bp (aH e) hz))) ?_
  rw[e];exact⟨g.g.tok,aF.tok,_,rfl⟩
noncomputable def fV(o:Obj)(m:Str->Option Value):Prop:=o.cls = .type "dict" /\ ∃es a,o.data = .dict es a/\StrKeys es/\UniqKeys es/\∀x,nsFind es x=m x
theorem fV.nt{m:Str->Option Value}(h:fV o m):nt o=true:=h.2.elim λa w=>w.elim λa w=>xC w.1 h.1
theorem fV.ns1{m:Str->Option Value}(d:fV o m)(e:h.get? a=some o):h.Ns1 a m:=d.2.elim λes w=>w.elim λb r=>⟨o,es,b,e,r⟩
theorem fV.of_ns1{m:Str->Option Value}(x:h.Ns1 a m)(e:h.get? a=some o)(c:o.cls = .type "dict"):fV o m:=D9 x λf es d b r=>by
 rw[e] at b;cases b
 exact⟨c,es,d,r⟩
theorem nz{m:Str->Option Value}(d:fV o m)(x:Str):lookIn x o=some (m x):=by
 obtain⟨g,es,c,e,k,g,f⟩:=d
 unfold lookIn
 rw[e]
 dsimp only
 have a:es.toList.any (·.refKey)=false:=by
  rw[gX]
  intro y b
  obtain⟨n,t,h⟩:=k y (Array.mem_def.mpr b)
  simp[DictEntry.refKey,h]
 have hf:(es.toList.find? (·.key.isStr x)).map (·.val)=m x:=by rw[← f x,nsFind,findBy,Array.find?_toList]
 rw[← hf]
 cases es.toList.find? (·.key.isStr x) with
 | some y=>rfl
 | none=>simp only[a,Bool.false_eq_true,if_false,Option.map_none]
structure jN(V:fH)(m:Str->Option Value)(fs:List (Str×Ty)):Prop where
 has:∀f T,(f,T)∈fs->∃u,m f=some u/\handedIn u=true/\T.p V u
 no:∀x,x∉fs.map (·.1)->m x=none
theorem jN.mono{m:Str->Option Value}(h:Vle V V')(c:jN V m fs):jN V' m fs:=⟨λf T m=>F4 (c.has f T m) λu p q r=>⟨u,p,q,T.mono h r⟩,c.no⟩
noncomputable def dY(fs:List (Str×Ty)):OTy:=⟨λV o=>∃m,fV o m/\jN V m fs,λh=>ir λm d c=>⟨m,d,c.mono h⟩⟩
structure j0(ox:Obj)(C dx:Addr):Prop where
 cls:ox.cls = .ref C
 dict:ox.dict=some dx
 pl:ox.data = .plain
theorem j0.no{C:Addr}(h:j0 ox C dx):notCls ox=true:=by unfold notCls;rw[h.pl]
theorem j0.nt{C:Addr}(h:j0 ox C dx):nt ox=true:=kZ h.pl
noncomputable def gG(C dx:Addr):Ty:=⟨λV v=>∃x ox,v = .ref x/\V x=some ox/\j0 ox C dx,λh=>zZ λx ox e a b=>⟨x,ox,e,h _ _ a b.nt,b⟩⟩
inductive Gh(C:Addr)(fs:List (Str×Ty))(V:fH)(v:Value):Prop
 | mk (dx:Addr) (od:Obj) (a:(gG C dx).p V v) (b:V dx=some od) (o:(dY fs).p V od)
noncomputable def de(C:Addr)(fs:List (Str×Ty)):Ty:=⟨Gh C fs,λh w=>w.casesOn λdx od a b p=>⟨dx,od,(gG C dx).mono h a,h _ _ b (p.elim λm q=>q.1.nt),(dY fs).mono h p⟩⟩
noncomputable def mi(K:Frag)(C:Addr)(x:Str):Bool:=plainGet K C x&&hasDictIn K C&&(match findIn K (.ref C) x with | some a=>noGet K a | none=>false)
theorem Cl{K:Frag}{C:Addr}(h:mi K C x=true):plainGet K C x=true/\hasDictIn K C=true/\∃a,findIn K (.ref C) x=some a/\noGet K a=true:=by
 unfold mi at h
 obtain⟨h,c⟩:=bP.mp h
 obtain⟨a,b⟩:=bP.mp h
 refine⟨a,b,?_⟩
 cases d:findIn K (.ref C) x with
 | some y=>rw[d] at c;exact⟨y,rfl,c⟩
 | none=>rw[d] at c;cases c
theorem gu{C x:Addr}{od:Obj}(a:h.get? x=some ox)(s:j0 ox C dx)(b:h.get? dx=some od):InstAt h x ox C (some od) :=
 ⟨a,s.cls,s.no,by rw[s.dict];exact b⟩
theorem uy{x:Addr}{od:Obj}{m:Str->Option Value}{o:Bool}(g:G W s)(a:s.heap.get? x=some ox)(hs:j0 ox D dx)(b:s.heap.get? dx=some od)(d:fV od m)(j:m f=some u)(n:handedIn u=true)(c:mi W.K D f=true)(h:Q u { s with toks:=s.toks+1 }):wpAny (model prg W.w) A (getAttr (.ref x) f o) Q E s:=by
 obtain⟨l,k,y,e,i⟩:=Cl c
 exact get_value g.kin (gu a hs b) (iJ l).1 (findObj_own k e i (by rw[nz d,j])) n h
theorem Ae{A O s}{i:Bool}(g:GO W O s)(e:(de D fs).p (am s.heap O) v)(h:(f,T)∈fs)(j:mi W.K D f=true):
  wpAny (model prg W.w) A (getAttr v f i) (Res W O s T) Nev s:=by
 obtain⟨dx,od,⟨x,ox,rfl,a,hs⟩,b,m,d,c⟩:=e
 obtain⟨u,p,q,r⟩:=c.has f T h
 exact uy g.g (af a) hs (af b) d p q j (dW g.g r)
theorem dq(h:EvP W C Γ n e (de D fs))(g:(f,T)∈fs)(b:mi W.K D f=true)(c:∀env,eval (.Attribute e f pos) env=(do
   let o ← eval e env
   standAt pos.atName
   let r ← holding [o] (getAttr o f true)
   letTemporaryGo e o r
   pure r)):EvP W C Γ n (.Attribute e f pos) T:=λA env O M s d I =>
 mG (ad (h A env O M s d I) (λv s₁ a=>ad (Ae (a.then I).go a.2.2 g b) (λi i r=>⟨r.1,a.2.1.trans r.2.1,r.2.2⟩) az) az) (c env)
theorem rY{i:Int}(f:isNotIn W.K "int" D=true):aM W n (.builtin "isinstance") [bh i,aE (.ref D)] [] (aG false):=λA O s vs ks j g h hK=>by
 obtain⟨v,r,rfl,⟨t,rfl⟩,d⟩:=ay.cons_iff h
 obtain⟨v,r,rfl,c,b⟩:=ay.cons_iff d
 have c:v = .ref D:=c
 subst c
 have a:=ay.nil_iff b
 subst a
 exact isn_call (P:=λk=>True) g.g.kin (λM=>cR rfl) f (by intro e;cases e) trivial int_cls (dW g.g rfl)
theorem qB{i:Int}:aM W n (.builtin "isinstance") [bh i,aE (.type "int")] [] (aG true):=λA O s vs ks f g e hK=>by
 obtain⟨v,r,rfl,⟨t,rfl⟩,d⟩:=ay.cons_iff e
 obtain⟨v,r,rfl,c,b⟩:=ay.cons_iff d
 have c:v = .type "int" := c
 subst c
 have a:=ay.nil_iff b
 subst a
 exact PySem.IsiPair.int_int ⟨g.g,aF.refl s,rfl⟩
theorem uz:aM W n (.builtin "isinstance") [de D fs,aE (.ref D)] [] (aG true):=λA O s vs ks j g i hK=>by
 obtain⟨v,r,rfl,⟨dx,od,⟨x,ox,rfl,a,hs⟩,b,k⟩,h⟩:=ay.cons_iff i
 obtain⟨v,r,rfl,f,d⟩:=ay.cons_iff h
 have f:v = .ref D:=f
 subst f
 have c:=ay.nil_iff d
 subst c
 exact isi_call g.g.kin (λM=>(gu (af a) hs (af b)).type) (by simp[isIn]) (by intro e;cases e) ⟨g.g,aF.refl s,rfl⟩
theorem nm(i:Nat)(b:autoParam (C.names[i]? = some x) q_R)(a:autoParam (Γ.v[i]? = some (some T)) q_R):EvP W C Γ n (.Name x pos) T:=pD i b a
theorem gl(v:Value)(a:nsIn W.K mainGlobals x=some (some v))(b:autoParam (C.scope.names.lookup x=some .globalImplicit) q_K)(hd:autoParam (qp x=true) q_K):EvP W C Γ n (.Name x pos) (aE v):=Ci b a hd
theorem bl(a:nsIn W.K mainGlobals x=some none/\bootBuiltins x=some v/\x ≠ "__name__")(b:autoParam (C.scope.names.lookup x=some .globalImplicit) q_K)(hd:autoParam (qp x=true) q_K):EvP W C Γ n (.Name x pos) (aE v):=z2 b a.1 a.2.1 a.2.2 hd
theorem bo(i:Nat)(e:EvP W C Γ n value T)(a:ExP W C (Γ.set i T) n b P)(d:autoParam (C.names[i]? = some x) q_R)(c:autoParam (fe C x=true) q_K)(hs:autoParam (∀env,swapsWith value (some (.Name x pos')) pos.line env=pure false) q_R):ExP W C Γ n (.Assign [.Name x pos'] value pos::b) P:=bT (lI i d c hs e a)
theorem fw{a:List Stmt}(c:TsP W C Γ n test true)(h:ExP W C Γ n body (uj W C n b P)):ExP W C Γ n (.If test body a pos::b) P:=bT (z4 true c (λd=>h) λe=>nomatch e)
theorem s8{a:List Stmt}(c:TsP W C Γ n test false)(h:ExP W C Γ n a (uj W C n b P)):ExP W C Γ n (.If test body a pos::b) P:=bT (z4 false c (λe=>nomatch e) λd=>h)
theorem dD(a:TsP W C Γ n test false)(h:ExP W C Γ n b P):ExP W C Γ n (.If test body [] pos::b) P:=s8 a (aN h)
theorem bB(h:EvP W C Γ n e T)(a:P (.ret Γ T)):ExP W C Γ n (.Return (some e) pos::b) P:=bT (EG h a)
theorem ar1(h:EvP W C Γ n e T)(hs:autoParam (∀env,starEach [e] env=(false,eval e env)::starEach [] env) q_R):dJ W C Γ n [e] [T]:=eY hs h dl
theorem ar2{f:Expr}(h:EvP W C Γ n e T)(h':EvP W C Γ n f U)(hs:autoParam (∀env,starEach [e,f] env=(false,eval e env)::starEach [f] env) q_R)(a:autoParam (∀env,starEach [f] env=(false,eval f env)::starEach [] env) q_R):dJ W C Γ n [e,f] [T,U]:=eY hs h (ar1 h' a)
theorem ar3{f k:Expr}{V:Ty}(h:EvP W C Γ n e T)(h':EvP W C Γ n f U)(c:EvP W C Γ n k V)(hs:autoParam (∀env,starEach [e,f,k] env=(false,eval e env)::starEach [f,k] env) q_R)(b:autoParam (∀env,starEach [f,k] env=(false,eval f env)::starEach [k] env) q_R)(a:autoParam (∀env,starEach [k] env=(false,eval k env)::starEach [] env) q_R):dJ W C Γ n [e,f,k] [T,U,V]:=eY hs h (ar2 h' c b a)
theorem jO{b:Bool}(h:EvP W C Γ n e (aG b))(d:autoParam (∀env a,isTrue e env a=(do let v ← a;standAt e.pos;holding [v] (truthy v))) q_R):TsP W C Γ n e b :=
 sZ d h λA O s v f g c=>by
  have c:v = .bool b:=c
  subst c
  exact gW ⟨rfl,g.g,aF.refl s⟩
theorem kb{i:String}:jp W (.builtin i):=λs a=>⟨.machine,.inr (.inl rfl),cR rfl⟩
theorem kt{i:String}:jp W (.type i):=λs a=>⟨.machine,.inr (.inl rfl),cR rfl⟩
theorem kf{f:Addr}(a:autoParam (keepIn W.K (.ref f)=true) q_K):jp W (.ref f):=λs g=>keeps_K a _ g.kin
theorem aM.le{f:Value}(h:aM W m f Ts Ks R)(b:m<=n):aM W n f Ts Ks R:=λA O s vs ks a=>h A O s vs ks (a.le b)
noncomputable abbrev Kn.hset(Γ:Kn)(k:Nat)(a:Addr)(P:OTy):Kn:=⟨Γ.v,Γ.h.set k (a,P)⟩
theorem o7{f d:Type}{l:List (f×d)}{a:f}{b j:d}(h:l[k]? = some (a,b)):(l.set k (a,j)).map (·.1)=l.map (·.1):=by
 obtain⟨g,e⟩:=b8.mp h
 rw[mH]
 refine List.ext_getElem? λi=>?_
 by_cases c:k=i
 ·subst c
  rw[ix (by simpa using g),dw,h];rfl
 ·rw[fP c]
theorem Inv.mut(I:Inv W C env Γ O M s){P P':OTy}(r:Γ.h[k]? = some (a,P))(hs:Heap.SameBut a s.heap h'){u:Obj}(R:h'.get? a=some u)(L:nt u=true)(V:P'.p (am h' (O++M.a)) u)(K:wj s.heap h' a):ak M s { s with heap:=h',toks:=tk }/\Inv W C env (Γ.hset k a P') O M { s with heap:=h',toks:=tk }:=by
 obtain⟨D,y,l,H,G⟩:=I.phi a P (be r)
 have E:a∈O++M.a:=al _ D
 refine bc I.loc λm F hv=>?_
 refine⟨dp (λb o f e=>(hs.2 b (λz=>f (z▸D))).trans e) (λG G G e=>e) (by show _<=h'.objs.size;rw[hs.1];exact aB _) (aB _),I.g.upd (I.up _ E).1 hs K,I.ok,I.own,I.cel,
  λb f=>⟨(I.up b f).1,by show _<h'.objs.size;rw[hs.1];exact(I.up b f).2⟩,I.upg,⟨m,F.sameBut hs (gY y),λi x T B hT=>?_⟩,λx c w=>?_,λb Q f=>?_,?_,I.top⟩
 ·refine bc (hv i x T B hT) λv sl ht=>?_
  refine⟨v,?_,T.mono (cm E hs) ht⟩
  rcases sl with sl | ⟨r,c,w,j⟩
  ·exact .inl sl
  ·exact .inr ⟨r,c,w,j.sameBut hs (λe=>l x (e▸w))⟩
 ·refine dK (I.cells x c w) λv J=>?_
  exact⟨v,J.sameBut hs (λe=>l x (e▸w))⟩
 ·rcases List.mem_or_eq_of_mem_set f with n | n
  ·obtain⟨X,N,U,t,o,Y,h5,h6⟩:=I.phi b Q n
   by_cases A:b=a
   ·subst A
    refine dK (List.getElem?_of_mem f) λi B=>?_
    have Z:=I.nod
    by_cases q:i=k
    ·subst q
     obtain⟨hl,G⟩:=b8.mp r
     have d:(Γ.h.set i (b,P'))[i]? = some (b,Q):=B
     rw[ix hl] at d
     cases d
     exact⟨X,N,U,t,u,R,L,V⟩
    ·have d:(Γ.h.set k (b,P'))[i]? = some (b,Q):=B
     rw[fP (λe=>q e.symm)] at d
     obtain⟨li,ei⟩:=b8.mp d
     obtain⟨lk,ek⟩:=b8.mp r
     have:(Γ.h.map (·.1))[i]'(by simpa using li)=(Γ.h.map (·.1))[k]'(by simpa using lk):=by simp[ei,ek]
     exact absurd ((mz Z).mp this) q
   ·exact⟨X,N,U,t,o,(hs.2 b A).trans Y,h5,Q.mono (cm E hs) h6⟩
  ·cases n
   exact⟨D,y,l,H,u,R,L,V⟩
 ·rw[show(Γ.hset k a P').h=Γ.h.set k (a,P') from rfl,o7 r];exact I.nod
noncomputable def uA(K:Frag)(D:Addr)(x:Str):Bool:=findIn K (.ref D) "__setattr__" == some (some (.builtin "object.__setattr__"))&&plainOver K D&&takerIn K D x==some none&&hasDictIn K D
theorem uB{x:Addr}{od:Obj}{m:Str->Option Value}{fs:List Str}{Q:Unit->Shared->Prop}(g:G W s)(a:s.heap.get? x=some ox)(hs:j0 ox D dx)(b:s.heap.get? dx=some od)(d:fV od m)(z:uA W.K D f=true)(F:∀y,y∉fs->m y=none)(hz:fs.length<=100)(h:∀h' c,h'.get? dx=some c->fV c (λy=>if y=f then some u else m y)->Heap.SameBut dx s.heap h'->∀tk,Q () { s with heap:=h',toks:=tk }):wpAny (model prg W.w) A (setAttr (.ref x) f u) Q E s:=by
 rw[uA,bg,bg,bg,aL,aL] at z
 refine ck z λp C=>?_
 obtain⟨⟨Y,M⟩,X⟩:=p
 have I:=gu a hs b
 refine set_plain g.kin I Y (osa_open (s:={ s with toks:=s.toks+1 }) g.kin I M X λS=>?_)
 refine bc (cB C) λcd U n=>?_
 obtain⟨oc,L,V,O⟩:=ox
 obtain⟨e,j,P⟩:=hs
 dsimp only at e j
 subst e j
 refine aa (ac (aa (aa (wpAny_loadPart a (aa (Looks.here (s:={ s with toks:=s.toks+1 }) (looks_clsIn g.kin U) ?_))))))
 rw[n]
 refine ac (a:=some dx) (aa (ac (aa (wpAny_nsSet1EFk (d.ns1 b) λh' v t e=>?_))))
 refine fG (e od b) λc k l S=>?_
 have N:=fV.of_ns1 v k (l.trans d.1)
 have r:∃es B,c.data = .dict es B/\es.size<=fs.length+1:=by
  obtain⟨Z,o,q,q1,q2,q3⟩:=Heap.Ns1.count v (ns:=f::fs) (λy H=>by
   by_cases i:y=f
   ·exact i▸dS
   ·refine bt _ (Classical.byContradiction λJ=>H ?_)
    refine(?_:(if y=f then some u else m y)=none)
    rw[bj i];exact F y J)
  have:=fU (k.symm.trans q1)
  subst this
  exact⟨o,q,q2,by simpa using q3⟩
 refine jJ r λes B T R=>?_
 refine aa (wpAny_lookBehind k (by rw[T];exact pastItsLine_dict (by rw[iK];exact ae R (oB hz))) ?_)
 exact ac (h h' c k N t _)
def gH(T:Ty):Prop:=∀V v,T.p V v->handedIn v=true
theorem js{i:Int}:gH (bh i):=λa a=>D8 λa e=>by subst e;rfl
theorem wo{T:String}:gH (ux T Ts):=λa a w=>w.elim λa w=>w.1.elim λa w=>w.elim λa w=>by have e:=w.1;subst e;rfl
theorem qC:gH (aE (.ref a)):=λb v e=>by have e:v = .ref a:=e;subst e;rfl
theorem pF:gH (aG q):=λa v e=>by have e:v = .bool q:=e;subst e;rfl
theorem s9:gH cJ:=λa v e=>by have e:v = .none:=e;subst e;rfl
theorem pb{m:Str->Option Value}(c:jN V m fs)(hf:(fs.map (·.1)).contains f=false)(i:handedIn u=true)(k:T.p V u):
  jN V (λy=>if y=f then some u else m y) (fs++[(f,T)]):=by
 have d:f∉fs.map (·.1):=λh=>by rw[ba.mpr h] at hf;cases hf
 refine⟨λg U a=>?_,λy b=>?_⟩
 ·rcases aj.mp a with a | a
  ·obtain⟨j,p,q,r⟩:=c.has g U a
   have:g≠f:=λe=>d (e▸cj a)
   exact⟨j,(bj this).trans p,q,r⟩
  ·rw[ah] at a
   cases a
   exact⟨u,bI rfl,i,k⟩
 ·rw[bW,aj,not_or] at b
  have:y≠f:=λe=>b.2 (by simp[e])
  exact(bj this).trans (c.no y b.1)
theorem wq(k:Nat)(F:EvP W C Γ n value T)(E:EvP W C Γ n e (gG D dx))(u:Γ.h[k]? = some (dx,dY fs))(H:gH T)(hf:(fs.map (·.1)).contains f=false)(hz:fs.length<=100)(B:uA W.K D f=true)(hs:∀env,swapsWith value (some (.Attribute e f pos')) pos.line env=pure false)(L:P (.next (Γ.hset k dx (dY (fs++[(f,T)]))))):
  StP W C Γ n (.Assign [.Attribute e f pos'] value pos) P:=λA env O M s z I=>by
 refine mI (ad (F A env O M s z I) (λv s₁ b=>ad (E A env O M s₁ z (b.then I)) (λN s₂ i=>?_) az) az) (hs env)
 have j:=i.then (b.then I)
 refine rU i.2.2 λx ox t a hs=>?_
 obtain rfl:=t
 obtain⟨q1,q2,q3,v,od,q4,q5,m,d,c⟩:=j.phi dx _ (be u)
 refine uB j.g (af a) hs q4 d B (fs:=fs.map (·.1)) c.no (by simpa using hz) λh' l q p o tk=>?_
 have r:=j.mut u o (tk:=tk) q p.nt (P':=dY (fs++[(f,T)])) ⟨_,p,?_⟩ (p.2.elim λes w=>w.elim λJ w=>.inr ⟨od,l,_,q4,q,⟨l,es,J,q,w.1,w.2.1,w.2.2.2⟩,p.1.trans d.1.symm⟩)
 ·exact⟨((ak.ofK (b.2.1.trans i.2.1)).trans r.1),M,Ext.refl s M,_,L,r.2⟩
 ·have y:Vle (am s₂.heap (O++M.a)) (am h' (O++M.a)):=cm (al _ q1) o
  exact pb (c.mono y) hf (H _ _ b.2.2) (T.mono y (T.mono (i.2.1.vle0 _) b.2.2))
theorem sq(k:Nat)(i:EvP W C Γ n value T)(j:gH T)(g:EvP W C Γ n e (gG D dx))(a:ExP W C (Γ.hset k dx (dY (fs++[(f,T)]))) n b P)(c:autoParam (Γ.h[k]? = some (dx,dY fs)) q_R)(hf:autoParam ((fs.map (·.1)).contains f=false) q_R)(hz:autoParam (Nat.ble fs.length 100=true) q_R)(d:autoParam (uA W.K D f=true) q_K)(hs:autoParam (∀env,swapsWith value (some (.Attribute e f pos')) pos.line env=pure false) q_R):
  ExP W C Γ n (.Assign [.Attribute e f pos'] value pos::b) P:=bT (wq k i g c j hf (cL hz) d hs a)
theorem EJ(k:Nat)(h:EvP W C Γ n e (gG D dx))(t:(f,T)∈fs)(w:autoParam (Γ.h[k]? = some (dx,dY fs)) q_R)(y:autoParam (mi W.K D f=true) q_K)(l:autoParam (∀env,eval (.Attribute e f pos) env=(do
   let o ← eval e env
   standAt pos.atName
   let r ← holding [o] (getAttr o f true)
   letTemporaryGo e o r
   pure r)) q_W):EvP W C Γ n (.Attribute e f pos) T:=λA env O M s z I =>
 mG (ad (h A env O M s z I) (λv s₁ b=>by
  have i:=b.then I
  refine rU b.2.2 λx ox j a hs=>?_
  obtain rfl:=j
  obtain⟨q1,q2,q3,v,od,q4,q5,m,d,c⟩:=i.phi dx _ (be w)
  obtain⟨u,p,q,r⟩:=c.has f T t
  exact uy i.g (af a) hs q4 d p q y ⟨i.g.tok,b.2.1.trans aF.tok,r⟩) az) (l env)
theorem nr.eq(e:nr C env):env=({ env with scope:=C.scope }:Env):=by rw[← e.scope]
theorem Inv.fresh_step(I:Inv W C env Γ O M s)(d:Heap.ExtBut s.heap.objs.size s.heap h')(a:s.heap.objs.size<=h'.objs.size):
  aF s { s with heap:=h',toks:=tk }/\Inv W C env Γ O M { s with heap:=h',toks:=tk }:=by
 have c:∀b o,s.heap.get? b=some o->h'.get? b=some o:=λb o e=>d b o (lD (aO e)) e
 have k:aF s { s with heap:=h',toks:=tk }:=aF.step c a
 exact⟨k,I.keep k (I.g.step c a)⟩
theorem yP{tp:Pos}(i j:Nat)(H:C.names[i]? = some x)(L:C.names[j]? = some y)(z:fe C x=true)(u:fe C y=true)(N:EvP W C Γ n value (bH [T,U]))(hs:∀env,swapsWithSole [.Tuple [.Name x px,.Name y py] k tp] value pos.line env=pure false)(F:∀env:Env,swappedStores [.Tuple [.Name x px,.Name y py] k tp] value { env with scope:=C.scope }=pure none)(R:P (.next ((Γ.set i T).set j U))):
  StP W C Γ n (.Assign [.Tuple [.Name x px,.Name y py] k tp] value pos) P:=λA env O M s E I=>by
 refine wpAny_Assign_stores (ad (N A env O M s E I) (λv s₁ e=>?_) az) (hs env) (by rw[I.ok.eq];exact F env)
 refine bc e.2.2 λvs o m=>?_
 refine jJ (Vw.seq_at o) λa c w J=>?_
 obtain rfl:=w
 obtain⟨g,b,rfl,p,t⟩:=m.a2
 refine(?_:wpAny _ A (assign (.Tuple [.Name x px,.Name y py] k tp) env (.ref a)) _ _ s₁)
 refine aa (ct ?_)
 unfold unpack
 have r:=e.then I
 refine aa (aP (cV (pQ (items:=#[g,b]) E.hd ⟨_,J,rfl,c,rfl⟩ λh' Q K=>?_)))
 obtain⟨f,q⟩:=r.fresh_step Q K.h
 show wpAny _ A (do holding [b] (assign (.Name x px) env g);holding [] (assign (.Name y py) env b);pure ()) _ _ _
 refine aa (aP (jx (ad (dB i H (iV z) q (T.mono (f.vle0 _) p)) (λv D d=>?_) az)))
 refine aa (aP (jx (ad (dB j L (iV u) d.2 (U.mono (d.1.vle (Ext.refl _ M)) (U.mono (f.vle0 _) t))) (λv B l=>ac ?_) az)))
 exact⟨(ak.ofK (e.2.1.trans f)).trans (d.1.trans l.1),M,Ext.refl s M,_,R,l.2⟩
theorem wr{tp:Pos}(i j:Nat)(H:C.names[i]? = some x)(L:C.names[j]? = some y)(z:fe C x=true)(w:fe C y=true)(N:EvP W C Γ n value (bH [T,U]))(hs:∀env,swapsWithSole [.Tuple [.Name x px,.Name y py] k tp] value pos.line env=pure false)(F:∀env:Env,swappedStores [.Tuple [.Name x px,.Name y py] k tp] value { env with scope:=C.scope }=pure (some [x,y]))(R:P (.next ((Γ.set j U).set i T))):
  StP W C Γ n (.Assign [.Tuple [.Name x px,.Name y py] k tp] value pos) P:=λA env O M s E I=>by
 refine aa (ct ?_)
 rw[hs env]
 refine aa (ac ?_)
 refine aa (ad (N A env O M s E I) (λv s₁ e=>?_) az)
 rw[show swappedStores [.Tuple [.Name x px,.Name y py] k tp] value env=pure (some [x,y]) by rw[I.ok.eq];exact F env]
 refine aa (ac ?_)
 refine bc e.2.2 λvs o m=>?_
 refine jJ (Vw.seq_at o) λa c u J=>?_
 obtain rfl:=u
 obtain⟨b,g,rfl,p,t⟩:=m.a2
 refine(?_:wpAny _ A (do
   rule "assign.swapped-stores"
   let items ← unpackItems (.ref a) 2 none
   assignInOrder ([x,y].reverse.map λn=>bindName env n) items.reverse
   pure Flow.next) _ _ s₁)
 have r:=e.then I
 refine aa (da (aa (cV (pQ (items:=#[b,g]) E.hd ⟨_,J,rfl,c,rfl⟩ λh' Q K=>?_))))
 obtain⟨f,q⟩:=r.fresh_step Q K.h
 refine aa ?_
 show wpAny _ A (do holding [b] (bindName env y g);holding [] (bindName env x b);pure ()) _ _ _
 refine aa (aP (wpAny_bindName (ad (dB j L (iV w) q (U.mono (f.vle0 _) t)) (λv D d=>?_) az)))
 refine aa (aP (wpAny_bindName (ad (dB i H (iV z) d.2 (T.mono (d.1.vle (Ext.refl _ M)) (T.mono (f.vle0 _) p))) (λv B l=>ac (ac ?_)) az)))
 exact⟨(ak.ofK (e.2.1.trans f)).trans (d.1.trans l.1),M,Ext.refl s M,_,R,l.2⟩
theorem nA{tp:Pos}(i j:Nat)(g:EvP W C Γ n value (bH [T,U]))(d:ExP W C ((Γ.set i T).set j U) n b P)(e:autoParam (C.names[i]? = some x) q_R)(f:autoParam (C.names[j]? = some y) q_R)(a:autoParam (fe C x=true) q_K)(c:autoParam (fe C y=true) q_K)(hs:autoParam (∀env,swapsWithSole [.Tuple [.Name x px,.Name y py] k tp] value pos.line env=pure false) q_R)(h:autoParam (∀env:Env,swappedStores [.Tuple [.Name x px,.Name y py] k tp] value { env with scope:=C.scope }=pure none) q_R):ExP W C Γ n (.Assign [.Tuple [.Name x px,.Name y py] k tp] value pos::b) P:=bT (yP i j e f a c g hs h d)
theorem wt{tp:Pos}(i j:Nat)(g:EvP W C Γ n value (bH [T,U]))(d:ExP W C ((Γ.set j U).set i T) n b P)(e:autoParam (C.names[i]? = some x) q_R)(f:autoParam (C.names[j]? = some y) q_R)(a:autoParam (fe C x=true) q_K)(c:autoParam (fe C y=true) q_K)(hs:autoParam (∀env,swapsWithSole [.Tuple [.Name x px,.Name y py] k tp] value pos.line env=pure false) q_R)(h:autoParam (∀env:Env,swappedStores [.Tuple [.Name x px,.Name y py] k tp] value { env with scope:=C.scope }=pure (some [x,y])) q_R):ExP W C Γ n (.Assign [.Tuple [.Name x px,.Name y py] k tp] value pos::b) P:=bT (wr i j e f a c g hs h d)
theorem nB{ι:Type}(J:ι->Kn)(l:ι->Nat)(t:ι->Bool)(g:ι)(V:Γ=J g)(U:∀x,TsP W C (J x) n test (t x))(T:∀x,t x=true->ExP W C (J x) n body (λo=>match o with | .next Γ'=>∃y,l y<l x/\Γ'=J y | .cont Γ'=>∃y,l y<l x/\Γ'=J y | .brk Γ'=>ExP W C Γ' n b P | o=>P o))(X:∀x,t x=false->ExP W C (J x) n b P):ExP W C Γ n (.While test body [] pos::b) P:=bT λA env O M s L I=>by
 subst V
 refine wpAny_While (codeAny_whileLoop (λk s'=>∃x M',k=l x/\ak M s s'/\Ext s M M'/\Inv W C env (J x) O M' s') ?_ (l g) ⟨g,M,rfl,ak.refl M s,Ext.refl s M,I⟩)
 intro k s₁ p
 refine uf p λx M' N Y q j=>?_
 obtain rfl:=N
 refine ad (U x A env O M' s₁ L j) (λr s₂ B=>?_) az
 refine dn B λK v m=>?_
 obtain rfl:=K
 have i:=j.keep m v
 have a:ak M s s₂:=Y.of_ext q (ak.ofK m)
 cases R:t x with
 | false =>
  exact cZ ⟨a,M',q,.next (J x),X x R,i⟩
 | true =>
  refine ad (T x R A env O M' s₂ L i) (λf Q w=>?_) λr r h=>qy L ((h.trans a q).mono λr r h=>h)
  obtain⟨u,e,z,o,D,hf⟩:=w
  have d:=a.of_ext q u
  have c:=q.trans z a.siz a.gsz
  cases f <;> cases o <;> first | exact hf.elim | skip
  ·refine bc D λy E H=>?_
   obtain rfl:=H
   exact⟨l y,E,y,e,rfl,d,c,hf⟩
  ·rename_i Γ'
   exact⟨d,e,c,.next Γ',D,hf⟩
  ·refine bc D λy E F=>?_
   obtain rfl:=F
   exact⟨l y,E,y,e,rfl,d,c,hf⟩
  ·exact⟨d,e,c,_,D,hf⟩
theorem Hi(D:Addr)(l:List Value)(a:List (Str×Value)):(Code.builtin "type.__call__" ⟨.ref D::l,a⟩).weight<=1:=by
 have h:(Code.builtin "type.__call__" ⟨.ref D::l,a⟩).weight=(Code.builtin "type.__call__" ⟨[.ref 0],[]⟩).weight:=by kernel_rfl
 rw[h];decide +kernel
theorem Hj(a:Args):(Code.builtin "type.__call__" a).cUnits<=8:=by
 have h:(Code.builtin "type.__call__" a).cUnits=(Code.builtin "type.__call__" ⟨[],[]⟩).cUnits:=rfl
 rw[h];decide +kernel
theorem aU.make(D:Addr)(l:List Value)(a:List (Str×Value))(r:aU W A (n+1)):aU W (A.under (.builtin "type.__call__" ⟨.ref D::l,a⟩)) n :=
 ⟨r.hd,by show pushEnvs [] A.frames=_;rw[r.fr];rfl,by have:=r.depth;have:=Hi D l a;show A.depth+(Code.builtin "type.__call__" ⟨.ref D::l,a⟩).weight+n<_;exact oV this ‹_›,by have:=r.units;have:=Hj ⟨.ref D::l,a⟩;show A.units+(Code.builtin "type.__call__" ⟨.ref D::l,a⟩).cUnits+8*n<_;exact oR this ‹_›⟩
theorem qD:fV emptyDict (λb=>none):=⟨rfl,#[],0,rfl,λe a=>by simp at a,List.Pairwise.nil,λx=>rfl⟩
theorem oq{fI:Addr}{σ:Addr->List (Option Ty)}(ns:List Str)(hm:makesIn W.K D=true)(hi:findIn W.K (.ref D) "__init__" = some (some (.ref fI)))(ht:typeIn W.K (.ref fI)=some (.type "function"))(hf:pp W.K fI=some fd)(N:rW W.K C fI ns=true)(hs:fd.scope=C.scope)(M:fd.body = .stmts body)(hb:∀V x vs ks,ay V Ts vs->ay V (Ks.map (·.2)) ks->∃binds,peek W.K ⟨prg,W.w.params⟩ (bindArgs fd ⟨x::vs,(Ks.map (·.1)).zip ks⟩)=some binds/\binds.map (·.1)=ns/\∀dx,(gG D dx).p V x->dL V binds C.names (σ dx))(t:∀dx env,im fI fd env->ExP (W.at (env::W.frs)) C ⟨σ dx,[(dx,dY [])]⟩ n body (λo=>match o with | .next Γ'=>Γ'.h[0]? = some (dx,dY fs) | .ret Γ' T=>T.le cJ/\Γ'.h[0]? = some (dx,dY fs) | _=>False)):
  aM W (n+2) (.ref D) Ts Ks (de D fs):=λA O s vs ks rm g hT hK=>by
 obtain⟨d,y,u,tk,os⟩:=s
 refine bQ (make_core (makes_of g.g.kin hm) (fB g.g.kin hi) (λself=>bind_fn g.g.kin self ht) (.inl rfl) ?_)
 generalize i:(⟨(d.push emptyDict).push (instObj D d.objs.size),y,u,tk,os⟩:Shared)=s₁
 have X:∀b o,d.get? b=some o->s₁.heap.get? b=some o:=λb o e=>by subst i;exact aV _ (aV _ e)
 have U:s₁.heap.objs.size=d.objs.size+2:=by subst i;show((d.push emptyDict).push _).objs.size=_;rw[bi,bi]
 have ex:s₁={ (⟨d,y,u,tk,os⟩:Shared) with heap:=s₁.heap,toks:=tk }:=by subst i;rfl
 have l:G W s₁:=by rw[ex];exact g.g.step X (by rw[U];exact aW _ _)
 have F:aF ⟨d,y,u,tk,os⟩ s₁:=by rw[ex];exact aF.step X (by rw[U];exact aW _ _)
 have Z:s₁.heap.get? (d.objs.size+1)=some (instObj D d.objs.size):=by
  subst i
  have:=bf (d.push emptyDict) (o:=instObj D d.objs.size) rfl
  rwa [bi] at this
 have hd:s₁.heap.get? d.objs.size=some emptyDict:=by subst i;exact aV _ (bf _ rfl)
 have nx:d.objs.size+1∉O:=λm=>bz _ (jd (g.ok _ m).2)
 have nd:d.objs.size∉O:=λm=>bz _ (g.ok _ m).2
 have vl:Vle (am d O) (am s₁.heap (O++[d.objs.size])):=λa o e c=>by
  have h1:=af e
  refine aK (X _ _ h1) λm=>?_
  rcases aj.mp m with m | m
  ·exact a8 e m
  ·rw[ah] at m;subst m;exact absurd (aO h1) (bz _)
 have q:(gG D d.objs.size).p (am s₁.heap (O++[d.objs.size])) (.ref (d.objs.size+1)) :=
  ⟨_,_,rfl,aK Z (λm=>(aj.mp m).elim nx λm=>by simp at m),rfl,rfl,rfl⟩
 obtain⟨binds,e,en,B⟩:=hb (am s₁.heap (O++[d.objs.size])) (.ref (d.objs.size+1)) vs ks (ay.mono vl hT) (ay.mono vl hK)
 have E:=gt hf N hs M
 obtain⟨o,ho,I⟩:=E.here
 have J:∀x c,(x,c)∉fd.closure:=E.nc
 refine bN (iA (L:=⟨[d.objs.size],[]⟩) (O:=O) (QE:=Nev) (Γ:=⟨σ d.objs.size,[(d.objs.size,dY [])]⟩) (Q:=λv s'=>v = .none/\Res W O ⟨d,y,u,tk,os⟩ (de D fs) (.ref (d.objs.size+1)) s') (rm.make _ _ _) l ho I (dC E.code l.kin) e (E.ok binds en) (λx c m=>absurd m (J x c)) (by rw[E.clo];exact List.Pairwise.nil) (λx c m=>absurd m (J x c)) (λa m=>?_) (λf=>nM) (B _ q) ?_ ?_ (λa P m x=>J x a) (t _) ?_ ?_) λr s' h=>?_
 ·rw[U]
  rcases aj.mp m with m | m
  ·exact⟨(g.ok a m).1,aA (g.ok a m).2 (aW _ _)⟩
  ·have m:a=d.objs.size:=ah.mp m
   subst m;exact⟨g.g.siz,mJ (by decide)⟩
 ·intro a P m
  have m:=ah.mp m
  cases m
  exact⟨ah.mpr rfl,nd,_,hd,rfl,_,qD,⟨λf T m=>absurd m av,λf f=>rfl⟩⟩
 ·simp
 ·intro v s' M' Γ' T k x g' H f z
  have fin:Γ'.h[0]? = some (d.objs.size,dY fs)->Res W O ⟨d,y,u,tk,os⟩ (de D fs) (.ref (d.objs.size+1)) s':=λhg=>by
   obtain⟨q1,od,q2,q3,m,dm,fm⟩:=H _ _ (be hg)
   have R:=k.obj _ _ (by show d.objs.size+1∉[d.objs.size];simp) Z (ik (by simp))
   have kk:aF ⟨d,y,u,tk,os⟩ s':=F.of_ext ⟨λb m=>.inr (by have m:b=d.objs.size:=ah.mp m;subst m;exact aB _),λf m=>absurd m av⟩ k
   refine⟨g',kk,d.objs.size,od,⟨_,_,rfl,aK R nx,rfl,rfl,rfl⟩,aK q2 nd,m,dm,fm.mono (bG λa h=>aq _ h)⟩
  rcases z with⟨j,Y⟩ | ⟨j,rfl⟩ | ⟨j,rfl⟩
  ·exact⟨j.1 _ _ Y,fin j.2⟩
  ·exact⟨rfl,fin j⟩
  ·exact j.elim (λh=>h.elim) (λh=>h.elim)
 ·exact λf f f f f f f f f f f f j f=>j.elim
 ·rcases r with er | (v | _ | _ | _) <;> first | exact h.elim | exact h
abbrev ag(k:Nat):Ty:=bh (k:Int)
theorem wu{a:Nat}(h:a<2 ^ 60):Builtin.Int.intBits (a:Int)<=64 :=
 PySem.intBits_le_iff.mpr (dI h (by decide))
theorem gv{l:Expr}{pos}{a b:Nat}(h:EvP W C Γ n l (ag a))(c:EvP W C Γ n r (ag b))(d:a<2 ^ 60):EvP W C Γ n (.BinOp l .Mult r pos) (ag (a*b)) :=
 il h c λA O s x y i g e f=>by
  obtain⟨i,rfl⟩:=e;obtain⟨i,rfl⟩:=f
  exact PyProof.Rows.mul_int (dW g.g ⟨_,by rw[Int.natCast_mul]⟩) (IntMulOk.of_left (wu d))
theorem eK{l:Expr}{pos}{a b:Nat}(f:EvP W C Γ n l (ag a))(c:EvP W C Γ n r (ag b)):EvP W C Γ n (.BinOp l .Add r pos) (ag (a+b)) :=
 il f c λA O s x y h g d e=>by
  obtain⟨h,rfl⟩:=d;obtain⟨h,rfl⟩:=e
  exact add_int (dW g.g ⟨_,by rw[mK]⟩)
theorem jj{l:Expr}{pos}{a b:Nat}(i:EvP W C Γ n l (ag a))(c:EvP W C Γ n r (ag b))(h:b≠0)(d:b<2 ^ 30):EvP W C Γ n (.BinOp l .FloorDiv r pos) (ag (a / b)) :=
 il i c λA O s x y j g e f=>by
  obtain⟨j,rfl⟩:=e;obtain⟨j,rfl⟩:=f
  exact floordiv_int (by simpa using h) (dW g.g ⟨_,by rw[Int.fdiv_eq_ediv_of_nonneg _ (Int.natCast_nonneg b),Int.natCast_ediv]⟩) (.inl (PyProof.noPylong_small (by simpa using d)))
theorem iB{l:Expr}{pos}{a b:Nat}(h:EvP W C Γ n l (ag a))(c:EvP W C Γ n r (ag b))(f:b≠0):EvP W C Γ n (.BinOp l .Mod r pos) (ag (a % b)) :=
 il h c λA O s x y i g d e=>by
  obtain⟨i,rfl⟩:=d;obtain⟨i,rfl⟩:=e
  exact mod_int' (by simpa using f) (dW g.g ⟨_,by rw[Int.fmod_eq_emod_of_nonneg _ (Int.natCast_nonneg b),Int.natCast_emod]⟩)
theorem EK{i:Int}(h:EvP W C Γ n e (bh i))(b:autoParam (∀env a,isTrue e env a=(do let v ← a;standAt e.pos;holding [v] (truthy v))) q_R):TsP W C Γ n e (i != 0) :=
 sZ b h λA O s v d g c=>by
  obtain⟨t,rfl⟩:=c
  exact PyProof.Rows.truthy_int ⟨rfl,g.g,aF.refl s⟩
theorem TsP.eq{p:Bool}(h:TsP W C Γ n e p)(a:p=q):TsP W C Γ n e q:=a▸h
theorem EvP.eq(h:EvP W C Γ n e T)(a:T=U):EvP W C Γ n e U:=a▸h
theorem cp{l:Expr}{op:CmpOp}(a:EvP W C Γ n l T)(b:EvP W C Γ n r U)(h:iz W n op T U q)(c:autoParam (behindInMarks op r=false) q_W):TsP W C Γ n (.Compare l [op] [r] pos) q:=EE c a b h
theorem cpv{l:Expr}{op:CmpOp}(a:EvP W C Γ n l T)(b:EvP W C Γ n r U)(h:iz W n op T U q)(c:autoParam (behindInMarks op r=false) q_W):EvP W C Γ n (.Compare l [op] [r] pos) (aG q):=ED c a b h
noncomputable def tc(K:Frag)(D:Addr)(x:Str)(f:Addr):Bool:=plainGet K D x&&findIn K (.ref D) x==some (some (.ref f))&&typeIn K (.ref f)==some (.type "function")
theorem uC{f:Addr}{x:Addr}{od:Obj}{m:Str->Option Value}{pl:Sem Bool}{Q:Value×List Value->Shared->Prop}(g:G W s)(a:s.heap.get? x=some ox)(hs:j0 ox D dx)(b:s.heap.get? dx=some od)(d:fV od m)(k:m name=none)(c:tc W.K D name f=true)(h:Q (.ref f,[.ref x]) s):wpAny (model prg W.w) A (getMethod (.ref x) name pl) Q E s:=by
 rw[tc,bg,bg,aL,aL] at c
 obtain⟨⟨e,j⟩,i⟩:=c
 exact method_fn g.kin (gu a hs b) (iJ e).1 (iJ e).2 j i (by show(lookIn name od).map _=_;rw[nz d,k];rfl) h
theorem e5{o:Expr}{ks:List Keyword}{f:Addr}(y:EvP W C Γ n o (de D fs))(w:tc W.K D name f=true)(k:(fs.map (·.1)).contains name=false)(q:keepIn W.K (.ref f)=true)(t:dJ W C Γ n es Ts)(l:ui W C Γ n ks Ks)(B:aM W n (.ref f) (de D fs::Ts) Ks R)(z:autoParam (∀env,∃pl,eval (.Call (.Attribute o name apos) es ks pos) env=(do
   let ov ← eval o env
   standAt apos.atName
   let(f,first) ← holding [ov] (getMethod ov name pl)
   callWith pos f first (backTo pos (starEach es env)) (backToKw pos (keywordEach ks env)))) q_P):EvP W C Γ n (.Call (.Attribute o name apos) es ks pos) R:=λA env O M s r I=>by
 obtain⟨pl,p⟩:=z env
 refine g3 (ad (y A env O M s r I) (λv s₁ e=>?_) az) p
 have i:=e.then I
 have j:=e.2.2
 obtain⟨dx,od,⟨x,ox,rfl,a,hs⟩,b,m,d,c⟩:=j
 refine uC i.g (af a) hs (af b) d (c.no _ λu=>by rw[ba.mpr u] at k;cases k) w ?_
 exact ad (mf (T:=dk) (first:=[.ref x]) (Fs:=[de D fs]) (kf q) t l B r i ⟨e.2.2,trivial⟩) (λv v h=>⟨h.1,e.2.1.trans h.2.1,h.2.2⟩) az
theorem EL:∃nm f,Builtin.«int.__mul__» = Builtin.Int.intBinary nm f:=by
 exact⟨_,_,rfl⟩
theorem Gi:∃nm f,Builtin.«int.__ge__» = Builtin.Int.intBinary nm f:=by
 exact⟨_,_,rfl⟩
theorem nC{i:Int}{t:Tok}{x:Addr}{id:String}{j:Str}{B:Builtin}(e:PySem.Slot "int" j id)(c:entryFor table id=some B)(g:∃nm f,B=Builtin.Int.intBinary nm f)(d:∀a b,argsOk id ⟨[a,b],[]⟩)(a:s.heap.get? x=some ox)(k:ox.data = .plain)(h:Q .notImplemented s):wpAny (model prg W.w) A (call (.builtin id) [.int i t,.ref x]) Q E s:=by
 obtain⟨nm,f,rfl⟩:=g
 refine eB e (g4 s i t) c ?_ (d _ _)
 refine aa (m:=slotArgs nm 1 ⟨[.int i t,.ref x],[]⟩) (ac ?_)
 refine aa (m:=Builtin.Int.intOfSelf (.int i t)) (ac ?_)
 refine aa (m:=asInt? (.ref x)) (aa (kG a ?_))
 exact k▸(ac (aa (da (ac ⟨_,rfl,h⟩))))
noncomputable def hK(W:Wc):Heap:=⟨W.H.objs.mapIdx λi o=>if(W.K.lookup i).isSome then o else { cls:=.none,data:=.freed },{}⟩
theorem EM(W:Wc)(b:Addr)(o:Obj)(h:(hK W).get? b=some o):(W.K.lookup b).isSome=true/\W.H.get? b=some o:=by
 unfold hK Heap.get? at h
 rw[Array.getElem?_mapIdx] at h
 unfold Heap.get?
 generalize W.K=K at *
 cases e:W.H.objs[b]? with
 | none=>rw[e] at h;exact nS h
 | some q =>
  rw[e] at h
  rw[Option.map_some] at h
  cases a:(K.lookup b).isSome with
  | false=>rw[a] at h;exact nS h
  | true=>rw[a] at h;exact⟨rfl,h⟩
theorem qF(g:G W s):W.K.In (hK W):=λa o e=>by
 have h:=g.kin0 a o e
 unfold Heap.get? at h
 unfold hK Heap.get?
 rw[Array.getElem?_mapIdx]
 generalize W.K=K at *
 cases q:W.H.objs[a]? with
 | none=>rw[q] at h;cases h
 | some p =>
  rw[q] at h
  rw[Option.map_some]
  rw[show(K.lookup a).isSome=true by rw[e];rfl]
  exact h
theorem qG(g:GO W O s):∃L m,Fr (hK W) L s.heap m:=by
 have d:∃L m,s.heap.Ns L m/\W.H.objs.size<=L:=by
  obtain⟨e,l,f⟩:=List.exists_cons_of_ne_nil g.top
  obtain⟨L,m,o,k,c,k,h,k⟩:=(g.g.frs e (f ▸ .head _)).loc
  exact⟨L,m,h,c⟩
 obtain⟨L,m,i,c⟩:=d
 refine⟨L,m,i,λb o e=>?_,by show(Array.mapIdx _ W.H.objs).size<=L;rw[Array.size_mapIdx];exact c⟩
 obtain⟨x,y⟩:=EM W b o e
 obtain⟨j,a⟩:=mM.mp x
 have:=g.g.kin0 b j a
 rw[y] at this
 cases this
 exact g.g.kin b o a
theorem Cm{op:CmpOp}{f:Addr}{i:Int}(e:∀a b,compareOp op a b=richCompare op a b)(w:notFirst W.K D (.type "int")=true)(hs:findIn W.K (.ref D) (cmpInfo op).2.1=some (some (.ref f)))(hf:isFn W.K (.ref f)=true)(u:aM W n (.ref f) [de D fs,bh i] [] (aG q)):iz W n op (de D fs) (bh i) q:=λA O s x y o g l p=>by
 have k:=l
 obtain⟨dx,od,⟨x,ox,rfl,a,j⟩,b,m,d,c⟩:=k
 obtain⟨t,rfl⟩:=p
 obtain⟨L,z,F⟩:=qG g
 rw[e]
 refine cmp_K (by have:=o.units;exact ae (aX (aW _ _) 1) this) F (qF g.g) (gu (af a) j (af b)) (cR rfl) w hs hf ?_
 refine ad (u A O s [.ref x,.int i t] [] o g ⟨l,⟨t,rfl⟩,trivial⟩ trivial) (λv s' h=>?_) az
 have r:v = .bool q:=h.2.2
 subst r
 exact h
theorem wv{f:Addr}{i:Int}(e:subIn W.K (.ref D) (.type "int")=some false)(hs:findIn W.K (.ref D) "__le__" = some (some (.ref f)))(hf:isFn W.K (.ref f)=true)(u:aM W n (.ref f) [de D fs,bh i] [] (aG q)):iz W n .GtE (bh i) (de D fs) q:=λA O s x y o g p l=>by
 have k:=l
 obtain⟨dx,od,⟨y,w,rfl,a,j⟩,b,m,d,c⟩:=k
 obtain⟨t,rfl⟩:=p
 refine(?_:wpAny _ A (richCompare .GtE (.int i t) (.ref y)) _ _ s)
 have I:=gu (af a) j (af b)
 refine aP (aa (wpAny_cRoomFor (by have:=o.units;exact ae (aX (aW _ _) 1) this) ?_))
 show wpAny _ A (do
  let ta ← typeOf (.int i t);let tb ← typeOf (.ref y)
  let rightFirst ← if ta != tb then isSubtype tb ta else pure false
  if rightFirst then
   if let some v ← tryCompare (.ref y) "__le__" (.int i t) then rule "compare.subclass-reflected-first";return v
  if let some v ← tryCompare (.int i t) "__ge__" (.ref y) then return v
  if !rightFirst then
   if let some v ← tryCompare (.ref y) "__le__" (.int i t) then return v
  rule "compare.unsupported"
  raiseError "TypeError" s!"'{(">=" : String)}' not supported between instances of '{← typeNameOf (.int i t)}' and '{← typeNameOf (.ref y)}'") _ _ s
 refine aa (m:=typeOf (.int i t)) (ac (aa (I.type.here ?_)))
 refine aa ((looks_subIn g.g.kin e).here ?_)
 refine ifN rfl ?_
 refine aa (m:=tryCompare (.int i t) _ _) (wpAny_tryCompare_declines (g4 s i t) F.slot_int_ge (nC F.slot_int_ge F.entry_int_ge Gi F.args_int_ge_2 (af a) j.pl ⟨rfl,?_⟩))
 refine aa (m:=tryCompare (.ref y) _ _) ?_
 refine aa (ifBound_K g.g.kin I hs hf (ad (u A O s [.ref y,.int i t] [] o g ⟨l,⟨t,rfl⟩,trivial⟩ trivial) (λv s' h=>?_) az))
 have r:v = .bool q:=h.2.2
 subst r
 exact ac (ac h)
theorem yQ{Q:Option Value->Shared->Prop}{nm:String}{a b c d:Value}(p:Looks (model prg w) s.heap (typeOf a) c)(i:Looks (model prg w) s.heap (typeOf b) d)(t:Looks (model prg w) s.heap (fillsNumberSlot c nm) true)(f:(c==d)=false)(u:Looks (model prg w) s.heap (fillsNumberSlot d nm) true)(o:Looks (model prg w) s.heap (isSubtype d c) false)(j:Looks (model prg w) s.heap (numberSlotInPython c nm) false)(g:wpAny (model prg w) A (tryMethod a (PySem.dunder nm) b) (λr s'=>r=none/\s'=s) E s)(h:wpAny (model prg w) A (tryMethod b (dunderR nm) a) (λr s'=>∃v,r=some v/\Q (some v) s') E s):wpAny (model prg w) A (binaryOp1 nm a b) Q E s:=by
 have fin:wpAny (model prg w) A (tryMethod b (dunderR nm) a) (λr s'=>∀Z:Sem (Option Value),(∀v,r=some v->Z=(do rule "binop.reflected";pure (some v)))->wpAny (model prg w) A Z Q E s') E s:=ad h (λr s'=>ir λv e n k l=>by refine(l v e) ▸ ?_;exact aa (da (ac n))) λC C e=>e
 obtain⟨B,y,x,z,os⟩:=s
 refine aa (p.at (aa (i.at (aa (t.at ?_)))))
 generalize(c==d)=q at f
 subst f
 refine aa (m:=fillsNumberSlot d nm) (u.at (aa (m:=isSubtype d c) (o.at (aa (m:=numberSlotInPython c nm) (j.at (aa (m:=tryMethod a (PySem.dunder nm) b) (ad g (λr s' q=>?_) λC C e=>e)))))))
 obtain⟨rfl,rfl⟩:=q
 exact aa (m:=tryMethod b (dunderR nm) a) (ad fin (λr s' q=>q _ λv e=>by subst e;rfl) λC C e=>e)
theorem Af{A O s}{f fm:Addr}{i:Int}{a b:Value}(l:subIn W.K (.ref D) (.type "int")=some false)(j:selfFirst W.K D=true)(E:findIn W.K (.ref D) (PySem.dunder "mul")=some (some (.ref fm)))(hs:findIn W.K (.ref D) (dunderR "mul")=some (some (.ref f)))(hf:isFn W.K (.ref f)=true)(L:aM W n (.ref f) [de D fs,bh i] [] R)(M:∀V v,R.p V v->v≠.notImplemented)(N:aU W A n)(g:GO W O s)(J:(bh i).p (am s.heap O) a)(C:(de D fs).p (am s.heap O) b):wpAny (model prg W.w) A (binaryOp .Mult a b) (Res W O s R) Nev s:=by
 have x:=C
 obtain⟨dx,od,⟨y,P,rfl,a,o⟩,b,m,d,c⟩:=x
 obtain⟨t,rfl⟩:=J
 have I:=gu (af a) o (af b)
 obtain⟨Q,rest,q,k⟩:=ksp_first j
 have u:wpAny (model prg W.w) A (tryMethod (.ref y) (dunderR "mul") (.int i t)) (λr s'=>∃v,r=some v/\Res W O s R v s') Nev s :=
  ksp_try g.g.kin I hs hf (ad (L A O s [.ref y,.int i t] [] N g ⟨C,⟨t,rfl⟩,trivial⟩ trivial) (λv s' h=>by
   have:=M _ _ h.2.2
   cases v <;> first | exact absurd rfl this | exact h) az)
 have B:wpAny (model prg W.w) A (tryMethod (.int i t) (PySem.dunder "mul") (.ref y)) (λr s'=>r=none/\s'=s) Nev s:=by
  have z:wpAny (model prg W.w) A (call (.builtin "int.__mul__") [.int i t,.ref y]) (λv s'=>v = .notImplemented/\s'=s) Nev s :=
   nC F.slot_int_mul F.entry_int_mul EL F.args_int_mul_2 (af a) o.pl ⟨rfl,rfl⟩
  have sp:=@g5 (model prg W.w) A Nev s (.int i t) "int" (PySem.dunder "mul") "int.__mul__" [.ref y] [] (λr s'=>r=some .notImplemented/\s'=s) (g4 s i t) PySem.F.slot_int_mul (ad z (λv s' h=>⟨by rw[h.1],h.2⟩) az)
  refine aa (ad sp (λr s' h=>?_) az)
  obtain⟨rfl,rfl⟩:=h
  exact ac ⟨rfl,rfl⟩
 refine aP (aa (yQ (cR rfl) I.type (cR F.fills_int_mul) (ey.mpr (by simp)) (fills_K g.g.kin q k E) (looks_subIn g.g.kin l) (cR rfl) B (ad u (λr s'=>ir λv e H=>⟨v,e,?_⟩) λG G e=>e)))
 repeat lk
 exact H
theorem td{A O s}{f g':Addr}{i:Int}{a b:Value}{fo ro:Option Value}(e:selfFirst W.K D=true)(hs:findIn W.K (.ref D) (PySem.dunder "mul")=some (some (.ref f)))(hf:isFn W.K (.ref f)=true)(q:findIn W.K (.ref D) (dunderR "mul")=some (some (.ref g')))(C:findIn W.K (.type "int") (PySem.dunder "mul")=some fo)(z:findIn W.K (.type "int") (dunderR "mul")=some ro)(j:subIn W.K (.type "int") (.ref D)=some false)(u:aM W n (.ref f) [de D fs,bh i] [] R)(x:∀V v,R.p V v->v≠.notImplemented)(E:aU W A n)(g:GO W O s)(o:(de D fs).p (am s.heap O) a)(r:(bh i).p (am s.heap O) b):wpAny (model prg W.w) A (binaryOp .Mult a b) (Res W O s R) Nev s:=by
 have k:=o
 obtain⟨dx,od,⟨y,H,rfl,a,l⟩,b,m,d,c⟩:=k
 obtain⟨t,rfl⟩:=r
 obtain⟨L,F,B⟩:=qG g
 refine ksp_binT (op:=.Mult) B (qF g.g) (gu (af a) l (af b)) (T := "int") rfl e hs hf q (.inr ⟨_,rfl⟩) C z j ?_
 refine ad (u A O s [.ref y,.int i t] [] E g ⟨o,⟨t,rfl⟩,trivial⟩ trivial) (λv s' h=>?_) az
 have:=x _ _ h.2.2
 cases v <;> first | exact absurd rfl this | exact h
theorem xI:∀V v,(de D fs).p V v->v≠.notImplemented:=λV v h e=>by
 obtain⟨b,b,⟨b,b,a,b⟩,b⟩:=h
 rw[a] at e;cases e
structure bC(F:Fp)(s s':Shared):Prop where
 a:∀b∈F.a,∀o,s.heap.get? b=some o->nt o=true->s'.heap.get? b=some o
 d:∀b∈F.a,∀o es ep,s.heap.get? b=some o->o.data = .dict es ep->∃sl,s'.heap.get? b=some { o with slots:=sl }
 g:∀b∈F.g,∀(x:GenState),s.gens[b]? = some x->s'.gens[b]? = some x
theorem bC.refl(F:Fp)(s:Shared):bC F s s:=⟨λa a a e a=>e,λa a o a a e a=>⟨o.slots,e⟩,λa a a e=>e⟩
theorem bC.trans(x:bC F s s')(y:bC F s' s''):bC F s s'':=⟨λb m o e c=>y.a b m o (x.a b m o e c) c,λb m o es j e h=>(x.d b m o es j e h).elim λk f=>(y.d b m _ es j f h).elim λsl i=>⟨sl,i⟩,λb m o e=>y.g b m o (x.g b m o e)⟩
theorem Cn{I:Addr}(d:Heap.ExtBut I h h')(c:I∈H'):Vle (am h H') (am h' (H'++[I])):=λb o e f=>by
 have a:=a8 e
 refine aK (d b o (λz=>a (z▸c)) (af e)) λm=>?_
 rcases aj.mp m with m | m
 ·exact a m
 ·exact a (ah.mp m▸c)
theorem cr(e:∀a,a∈O↔a∈O'):am h O=am h O':=by
 funext a
 unfold am
 by_cases m:a∈O
 ·rw[bI m,bI ((e a).mp m)]
 ·rw[bj m,bj λz=>m ((e a).mpr z)]
inductive ItT(W:Wc)(l:List Env)(T:Ty)(F:Fp)(H':List Addr)(v:Value)(s' s'':Shared)(J:Fp->Prop):Prop
 | mk (F':Fp) (g:G (W.at l) s'') (k:ak F s' s'') (x:Ext s' F F') (b:InB W F' s'') (t:T.p (am s''.heap (H'++F'.a)) v) (i:J F')
noncomputable def It(W:Wc)(n:Nat)(tgt:Expr)(it:Value)(P:List Addr):List Ty->Fp->List Addr->Shared->Prop
 | [],F,H,s=>∀l A s' H',aU (W.at l) A n->GO (W.at l) H' s'->bC F s s'->bC ⟨P,[]⟩ s s'->(∀a∈F.a,a∈H')->Vle (am s.heap H) (am s'.heap H') ->
   wpAny (model prg W.w) A (pyNext it) (λr s''=>r=none/\G (W.at l) s''/\ak F s' s'') Nev s'
 | T::Ts,F,H,s=>∀l A s' H',aU (W.at l) A n->GO (W.at l) H' s'->bC F s s'->bC ⟨P,[]⟩ s s'->(∀a∈F.a,a∈H')->Vle (am s.heap H) (am s'.heap H') ->
   wpAny (model prg W.w) A (pyNext it) (λr s₁=>∃v,r=some v/\wpAny (model prg W.w) A (letOwnedTupleGo tgt it v) (λb s''=>ItT W l T F H' v s' s'' λF'=>It W n tgt it P Ts F' (H'++F'.a) s'') Nev s₁) Nev s'
theorem It.move{P:List Addr}(h:It W n tgt it P Ts F H s)(j:bC F s s')(sp:bC ⟨P,[]⟩ s s')(i:Vle (am s.heap H) (am s'.heap H')):It W n tgt it P Ts F H' s':=by
 cases Ts with
 | nil=>exact λl A s'' d e g b c f a=>h l A s'' d e g (j.trans b) (sp.trans c) f (i.trans a)
 | cons T Ts=>exact λl A s'' d e g b c f a=>h l A s'' d e g (j.trans b) (sp.trans c) f (i.trans a)
theorem It.le{P:List Addr}(j:m<=n){Ts:List Ty}:∀{F:Fp} {H:List Addr} {s:Shared},It W m tgt it P Ts F H s->It W n tgt it P Ts F H s:=by
 induction Ts with
 | nil =>
  intro t t t h
  exact λl A s' H' i=>h l A s' H' (i.le j)
 | cons T Ts ih =>
  intro t t t h
  exact λl A s' H' i g p sp r k=>ad (h l A s' H' (i.le j) g p sp r k) (λt t=>ir λv e q=>⟨v,e,ad q (λt t o=>o.rec λF' a b c d e f=>⟨F',a,b,c,d,e,ih f⟩) az⟩) az
theorem bK(k:ak M s s')(h:∀a∈M.a,a∈M'.a)(d:∀a∈M.g,a∈M'.g):ak M' s s':=⟨λb o m e c=>k.obj b o (λz=>m (h b z)) e c,λb o es f m e c=>k.dct b o es f (λz=>m (h b z)) e c,λg x m e=>k.gen g x (λz=>m (d g z)) e,k.siz,k.gsz⟩
theorem ak.stays(k:ak M s s')(h:∀a∈F.a,a∉M.a)(d:∀a∈F.g,a∉M.g):bC F s s':=⟨λb m o e c=>k.obj b o (h b m) e c,λb m o es f e c=>k.dct b o es f (h b m) e c,λb m x e=>k.gen b x (d b m) e⟩
theorem cW:bC ⟨[],[]⟩ s s':=⟨λa m=>absurd m av,λa m=>absurd m av,λa m=>absurd m av⟩
inductive ItR(W:Wc)(n:Nat)(tgt:Expr)(Θ:List Ty->Prop)(H:List Addr)(s:Shared)(it:Value)(s₂:Shared):Prop
 | mk (F:Fp) (Ts:List Ty) (t:Θ Ts) (g:G W s₂) (k:aF s s₂) (x:Ext s ⟨[],[]⟩ F) (b:InB W F s₂) (i:It W n tgt it [] Ts F (H++F.a) s₂)
noncomputable abbrev EN(W:Wc)(n:Nat)(it:Value)(F:Fp)(s₂:Shared):Prop:=∀l a s' H',aU (W.at l) a n->GO (W.at l) H' s'->bC F s₂ s'->wpAny (model prg W.w) a (pyIter it) (λv s''=>v=it/\s''=s') Nev s'
inductive ItS(W:Wc)(n:Nat)(tgt:Expr)(Θ:List Ty->Prop)(H:List Addr)(s:Shared)(it:Value)(s₂:Shared):Prop
 | mk (F:Fp) (Ts:List Ty) (t:Θ Ts) (g:G W s₂) (k:aF s s₂) (x:Ext s ⟨[],[]⟩ F) (b:InB W F s₂) (i:It W n tgt it [] Ts F (H++F.a) s₂) (self:EN W n it F s₂)
noncomputable def ItP(W:Wc)(C:Cx)(Γ:Kn)(n:Nat)(tgt:Expr)(e:Expr)(Θ:List Ty->Prop):Prop :=
 ∀A env O M s,aU W A n->Inv W C env Γ O M s->wpAny (model prg W.w) A (eval e env) (λb s₁=>wpAny (model prg W.w) A (pyIter b) (ItR W n tgt Θ (O++M.a) s) Nev s₁) Nev s
noncomputable def io(W:Wc)(C:Cx)(Γ:Kn)(n:Nat)(tgt:Expr)(e:Expr)(Θ:List Ty->Prop):Prop :=
 ∀A env O M s,aU W A n->Inv W C env Γ O M s->wpAny (model prg W.w) A (eval e env) (λb s₁=>wpAny (model prg W.w) A (pyIter b) (ItS W n tgt Θ (O++M.a) s) Nev s₁) Nev s
theorem io.itp{tgt e:Expr}{Θ:List Ty->Prop}(h:io W C Γ n tgt e Θ):ItP W C Γ n tgt e Θ:=λA env O M s g I=>ad (h A env O M s g I) (λi i h=>ad h (λi i f=>f.rec λF Ts t a b c d e i=>⟨F,Ts,t,a,b,c,d,e⟩) az) az
noncomputable def j1(W:Wc)(C:Cx)(n:Nat)(tgt:Expr)(T:Ty)(u:Kn->Kn):Prop:=∀Γ A env O M s v,aU W A n->Inv W C env Γ O M s->T.p (am s.heap (O++M.a)) v->wpAny (model prg W.w) A (assign tgt env v) (λb s'=>ak M s s'/\Inv W C env (u Γ) O M s') Nev s
theorem aZ(i:Nat)(b:autoParam (C.names[i]? = some x) q_R)(a:autoParam (fe C x=true) q_K):j1 W C n (.Name x px) T (λΓ=>Γ.set i T):=λΓ A env O M s v c I h=>jx (dB i b (iV a) I h)
theorem k9{tp:Pos}(i j:Nat)(z:autoParam (C.names[i]? = some x) q_R)(D:autoParam (C.names[j]? = some y) q_R)(t:autoParam (fe C x=true) q_K)(r:autoParam (fe C y=true) q_K):j1 W C n (.Tuple [.Name x px,.Name y py] k tp) (bH [T,U]) (λΓ=>(Γ.set i T).set j U):=λΓ A env O M s v H I h=>by
 obtain⟨vs,o,l⟩:=h
 obtain⟨a,c,rfl,F⟩:=Vw.seq_at o
 obtain⟨g,d,rfl,m,q⟩:=l.a2
 refine aa (ct ?_)
 unfold unpack
 refine aa (aP (cV (pQ (items:=#[g,d]) H.hd ⟨_,F,rfl,c,rfl⟩ λh' E B=>?_)))
 obtain⟨e,p⟩:=I.fresh_step E B.h
 show wpAny _ A (do holding [d] (assign (.Name x px) env g);holding [] (assign (.Name y py) env d);pure ()) _ _ _
 refine aa (aP (jx (ad (dB i z (iV t) p (T.mono (e.vle0 _) m)) (λG w b=>?_) az)))
 refine aa (aP (jx (ad (dB j D (iV r) b.2 (U.mono (b.1.vle (Ext.refl _ M)) (U.mono (e.vle0 _) q))) (λG u f=>ac ?_) az)))
 exact⟨(ak.ofK e).trans (b.1.trans f.1),f.2⟩
theorem Inv.regroup(I:Inv W C env Γ O M s)(h:∀a,a∈O++M.a↔a∈O'++M'.a)(d:∀a∈M.a,a∈M'.a)(k:∀g∈M'.g,g<s.gens.size)(u:∀a∈O',a∈O):Inv W C env Γ O' M' s:=by
 have e:am s.heap (O'++M'.a)=am s.heap (O++M.a):=cr λa=>(h a).symm
 obtain⟨m,p,w⟩:=I.loc
 refine⟨I.g,I.ok,d _ I.own,λx c h h'=>d _ (I.cel x c h h'),λa b=>I.up a ((h a).mpr b),k,⟨m,p,λi x T f l=>?_⟩,I.cells,λa P b=>?_,I.nod,I.top⟩
 ·exact e▸(w i x T f l)
 ·obtain⟨t,r,q,y,o,j,n,v⟩:=I.phi a P b
  exact⟨d _ t,r,q,λm=>y (u _ m),o,j,n,e▸v⟩
theorem Inv.take(I:Inv W C env Γ (O++F.a) M s)(b:InB W F s):Inv W C env Γ O ⟨M.a++F.a,M.g++F.g⟩ s :=
 I.regroup (λa=>by
  simp only[List.mem_append]
  exact⟨λh=>h.elim (λh=>h.elim .inl λh=>.inr (.inr h)) λh=>.inr (.inl h),λh=>h.elim (λh=>.inl (.inl h)) (λh=>h.elim .inr λh=>.inl (.inr h))⟩) (λa m=>aq _ m) (λg m=>(aj.mp m).elim (I.upg g) (b.g g)) (λa m=>aq _ m)
inductive Gj{ι:Type}(W:Wc)(C:Cx)(env:Env)(n:Nat)(tgt:Expr)(it:Value)(f:ι->Ty)(l:List ι)(J:List ι->List ι->Kn->Prop)(O:List Addr)(M:Fp)(s:Shared)(k:Nat)(s':Shared):Prop
 | mk (Us:List ι) (Γ':Kn) (F M':Fp) (e:∃Rd,l=Rd++Us) (j:J l Us Γ') (hk:k=Us.length) (kx:ak M s s') (x:Ext s M M') (fr:∀a∈F.a,s.heap.objs.size<=a) (fg:∀a∈F.g,s.gens.size<=a) (b:InB W F s') (d:∀a∈F.a,a∉M'.a) (dg:∀a∈F.g,a∉M'.g) (I:Inv W C env Γ' (O++F.a) M' s') (i:It W n tgt it [] (Us.map f) F ((O++F.a)++M'.a) s')
theorem fW{ι:Type}(Ψ:List ι->Prop)(f:ι->Ty)(u:ι->Kn->Kn)(J:List ι->List ι->Kn->Prop)(hit:ItP W C Γ n tgt iter (λTs=>∃l,Ψ l/\Ts=l.map f))(i1:∀T,j1 W C n tgt (f T) (u T))(h0:∀l,Ψ l->J l l Γ)(hb:∀l,Ψ l->∀Rd T Us,l=Rd++T::Us->∀Γ,J l (T::Us) Γ->ExP W C (u T Γ) n body (λo=>match o with | .next Γ'=>J l Us Γ' | .cont Γ'=>J l Us Γ' | .brk Γ'=>ExP W C Γ' n b P | o=>P o))(he:∀l,Ψ l->∀Γ,J l [] Γ->ExP W C Γ n b P)(hs:∀env x,foldedSetIterable iter env x=pure x):ExP W C Γ n (.For tgt iter body [] pos::b) P:=bT λA env O M s rm I=>by
 refine wpAny_For (ad (hit A env O M s rm I) (λxv s₁ e4=>ad e4 (λit s₂ h2=>?_) az) az) (hs env)
 obtain⟨F₀,r,⟨l,hl,rfl⟩,g0,c3,a5,c1,c4⟩:=h2
 have cl:∀y c,env.cells.lookup y=some c->c<s.heap.objs.size:=λy c h=>(I.cells y c h).elim λr hv=>hv.lt
 have f2:Inv W C env Γ (O++F₀.a) M s₂:=(nv I).lent (F:=⟨[],[]⟩) c3 g0 a5 c1 (λr m=>absurd m av) (λr r r m=>absurd m av)
 have a7:∀a∈F₀.a,s.heap.objs.size<=a:=λa m=>(a5.a a m).elim (λh=>absurd h av) id
 have Z:∀a∈F₀.g,s.gens.size<=a:=λa m=>(a5.g a m).elim (λh=>absurd h av) id
 have c7:∀a,a∈(O++M.a)++F₀.a↔a∈(O++F₀.a)++M.a:=λa=>by
  simp only[List.mem_append]
  exact⟨λh=>h.elim (λh=>h.elim (λh=>.inl (.inl h)) .inr) (λh=>.inl (.inr h)),λh=>h.elim (λh=>h.elim (λh=>.inl (.inl h)) .inr) (λh=>.inl (.inr h))⟩
 refine codeAny_forLoop_any (Gj W C env n tgt it f l J O M s) ?_ l.length
  ⟨l,Γ,F₀,M,⟨[],rfl⟩,h0 l hl,rfl,ak.ofK c3,Ext.refl s M,a7,Z,c1,λa m U=>aw.mpr (a7 a m) (I.up a (al _ U)).2,λa m U=>aw.mpr (Z a m) (I.upg a U),f2,c4.move (bC.refl _ _) cW (by rw[cr c7];exact Vle.refl _)⟩
 rintro k b2 ⟨Us,L,F,M',⟨Rd,b4⟩,hJ,rfl,kx,xt,fr,fg,bF,dj,k3,K,e2⟩
 have hF:∀a∈F.a,a∈(O++F.a)++M'.a:=λa m=>aq _ (al _ m)
 have h4:∀y c,env.cells.lookup y=some c->c∉F.a:=λy c h m=>aw.mpr (fr c m) (cl y c h)
 have b6:Ext s M F:=⟨λa m=>.inr (fr a m),λa m=>.inr (fg a m)⟩
 cases Us with
 | nil =>
  refine ad (e2 W.frs A b2 _ rm K.go (bC.refl _ _) cW hF (Vle.refl _)) (λr b1 N=>?_) az
  obtain⟨rfl,f6,V⟩:=N
  refine cZ ?_
  have c2:InB W F b1:=⟨λa m=>⟨(bF.a a m).1,aA (bF.a a m).2 V.siz⟩,λa m=>aA (bF.g a m) V.gsz⟩
  have f5:=(K.lent V f6 (Ext.refl _ _) c2 dj h4).take c2
  exact⟨kx.of_ext b6 V,_,⟨λa m=>(aj.mp m).elim (xt.a a) λm=>.inr (fr a m),λa m=>(aj.mp m).elim (xt.g a) λm=>.inr (fg a m)⟩,.next L,he l hl L hJ,f5⟩
 | cons T Us =>
  refine ad (e2 W.frs A b2 _ rm K.go (bC.refl _ _) cW hF (Vle.refl _)) (λr b1 N=>?_) az
  obtain⟨v,rfl,N⟩:=N
  refine ad N (λr a6 f3=>?_) az
  obtain⟨F',f8,b5,Q,B,ht,h3⟩:=f3
  have f0:=K.lent b5 f8 Q B dj h4
  have g1:∀a∈F'.a,s.heap.objs.size<=a:=λa m=>(Q.a a m).elim (fr a) (ae kx.siz)
  have f1:∀a∈F'.g,s.gens.size<=a:=λa m=>(Q.g a m).elim (fg a) (ae kx.gsz)
  have d8:∀a∈F'.a,a∉M'.a:=λa m U=>(Q.a a m).elim (λh=>dj a h U) λh=>aw.mpr h (K.up a (al _ U)).2
  have a4:∀a∈F'.g,a∉M'.g:=λa m U=>(Q.g a m).elim (λh=>k3 a h U) λh=>aw.mpr h (K.upg a U)
  have k1:(f T).p (am a6.heap ((O++F'.a)++M'.a)) v:=(f T).mono (bG λa m=>by
   simp only[List.mem_append] at m ⊢
   exact m.elim (λh=>h.elim (λh=>.inl (.inl (.inl h))) .inr) λh=>.inl (.inr h)) ht
  refine ad (i1 T L A env _ M' a6 v rm f0 k1) (λr a1 e3=>?_) az
  obtain⟨i,g2⟩:=e3
  have E:ak M s a6:=kx.of_ext b6 b5
  have xx:∀{d:Fp},Ext a1 M' d->Ext s M d:=λD=>xt.trans D (ae E.siz i.siz) (ae E.gsz i.gsz)
  have c5:∀{d:Fp},Ext s M d->Ext s M ⟨d.a++F'.a,d.g++F'.g⟩:=λj=>⟨λa m=>(aj.mp m).elim (j.a a) λm=>.inr (g1 a m),λa m=>(aj.mp m).elim (j.g a) λm=>.inr (f1 a m)⟩
  refine ad (hb l hl Rd T Us b4 L hJ A env _ M' a1 rm g2) (λfl q a2=>?_) (λe q a2=>qy rm ?_)
  ·obtain⟨t,d,D,o,hp,hf⟩:=a2
   have H:ak M s q:=(E.of_ext xt i).of_ext xt t
   have j:Ext s M d:=xx D
   have a3:InB W F' q:=⟨λa m=>⟨(B.a a m).1,aA (B.a a m).2 (ae i.siz t.siz)⟩,λa m=>aA (B.g a m) (ae i.gsz t.gsz)⟩
   have b3:∀Γ',J l Us Γ'->Inv W C env Γ' (O++F'.a) d q->∃m,m<(T::Us).length/\Gj W C env n tgt it f l J O M s m q:=λΓ' k2 Y=>by
    refine⟨Us.length,dR _,Us,Γ',F',d,⟨Rd++[T],by rw[b4,iu];rfl⟩,k2,rfl,H,j,g1,f1,a3,λa m U=>?_,λa m U=>?_,Y,h3.move ((i.stays d8 a4).trans (t.stays d8 a4)) cW λa o e c=>?_⟩
    ·exact(D.a a U).elim (d8 a m) λh=>aw.mpr h (aA (B.a a m).2 i.siz)
    ·exact(D.g a U).elim (a4 a m) λh=>aw.mpr h (aA (B.g a m) i.gsz)
    ·have hn:=a8 e
     have h1:=af e
     simp only[List.mem_append,not_or] at hn
     refine aK (t.obj a o hn.1.2 (i.obj a o hn.1.2 h1 c) c) λm=>?_
     simp only[List.mem_append] at m
     rcases m with(m | m) | m
     ·exact hn.1.1.1 m
     ·exact hn.2 m
     ·exact(D.a a m).elim hn.1.2 λh=>aw.mpr h (aA (aO h1) i.siz)
   cases fl <;> cases o <;> first | exact hf.elim | skip
   ·exact b3 _ hp hf
   ·rename_i Γ'
    exact⟨H,_,c5 j,.next Γ',hp,hf.take a3⟩
   ·exact b3 _ hp hf
   ·rename_i w Γ' R
    refine⟨H,_,c5 j,.ret Γ' R,hp,hf.1.take a3,?_⟩
    have e:am q.heap (O++(d.a++F'.a))=am q.heap ((O++F'.a)++d.a):=cr λa=>by
     simp only[List.mem_append]
     exact⟨λh=>h.elim (λh=>.inl (.inl h)) (λh=>h.elim .inr λh=>.inl (.inr h)),λh=>h.elim (λh=>h.elim .inl λh=>.inr (.inr h)) λh=>.inr (.inl h)⟩
    refine(?_:R.p (am q.heap (O++(d.a++F'.a))) w)
    exact e▸(hf.2)
  ·obtain⟨t,d,X,D,fX,dX,Γ',cls,hp,Y,tr,hx⟩:=a2
   have H:ak M s q:=(E.of_ext xt i).of_ext xt t
   have j:Ext s M d:=xx D
   have s6:s.heap.objs.size<=a1.heap.objs.size:=ae E.siz i.siz
   refine⟨H,⟨d.a++F'.a,d.g++F'.g⟩,X,c5 j,λa m=>ae s6 (fX a m),λa m U=>(aj.mp U).elim (dX a m) λz=>aw.mpr (fX a m) (aA (B.a a z).2 i.siz),Γ',cls,hp,Y.regroup (λa=>?_) (λa m=>aq _ m) (λg m=>(aj.mp m).elim (Y.upg g) λm=>aA (B.g g m) (ae i.gsz t.gsz)) (λa m=>(aj.mp m).elim (λm=>aq _ (aq _ m)) λm=>al _ m),tr,hx⟩
   simp only[List.mem_append]
   exact⟨λh=>h.elim (λh=>h.elim (λh=>h.elim (λh=>.inl (.inl h)) λh=>.inr (.inr h)) λh=>.inl (.inr h)) λh=>.inr (.inl h),λh=>h.elim (λh=>h.elim (λh=>.inl (.inl (.inl h))) λh=>.inl (.inr h)) λh=>h.elim .inr λh=>.inl (.inl (.inr h))⟩
theorem Co{ι:Type}(l:List ι)(f:ι->Ty)(u:ι->Kn->Kn)(J:List ι->Kn)(r:Γ=J l)(hit:ItP W C Γ n tgt iter (λTs=>Ts=l.map f))(d:∀T,j1 W C n tgt (f T) (u T))(j:∀c T Us,l=c++T::Us->ExP W C (u T (J (T::Us))) n body (λo=>match o with | .next Γ'=>Γ'=J Us | .cont Γ'=>Γ'=J Us | .brk Γ'=>ExP W C Γ' n b P | o=>P o))(m:ExP W C (J []) n b P)(hs:autoParam (∀env x,foldedSetIterable iter env x=pure x) q_R):ExP W C Γ n (.For tgt iter body [] pos::b) P :=
 fW (λl'=>l'=l) f u (λv Us Γ'=>Γ'=J Us) (λA env O M s q I=>ad (hit A env O M s q I) (λv v h=>ad h (λv v p=>p.rec λF Ts t g k x b i=>⟨F,Ts,⟨l,rfl,t⟩,g,k,x,b,i⟩) az) az) d (λv h=>h▸r)
  (λl' h c T Us e Γ' a=>by subst a;exact j c T Us (h▸e)) (λv v Γ' a=>by subst a;exact m) hs
noncomputable def j2(T:String):Bool:=["enumerate", "zip", "dict_itemiterator", "dict_reverseitemiterator", "odict_iterator", "itertools.zip_longest", "itertools.pairwise"].contains T
theorem su{I:Addr}{T:String}{Q:Unit->Shared->Prop}(g:s.heap.get? I=some o)(i:o.cls = .type T)(f:j2 T=false)(b:Q () s):wpAny (model prg W.w) A (letOwnedTupleGo tgt (.ref I) v) Q E s:=by
 have e:∀a,wpAny (model prg W.w) A (do
   let o ← load I
   match o.cls,o.data with
   | .type n,.fields vs =>
    if["enumerate", "zip", "dict_itemiterator", "dict_reverseitemiterator", "odict_iterator", "itertools.zip_longest", "itertools.pairwise"].contains n&&vs[0]? == some (rawInt a) then
     rule "for.unpacks-the-owned-tuple"
     updateField I 0 .none
   | _,_=>pure ()) Q E s:=λa=>by
  refine aa (kG g ?_)
  obtain⟨c,d,h,sl⟩:=o
  subst i
  cases h <;> first | exact ac b | skip
  rename_i vs
  unfold j2 at f
  dsimp only
  exact f▸(ac b)
 cases tgt <;> first | exact ac b | skip
 all_goals (cases v <;> first | exact ac b | exact e _)
inductive Hk(I:Addr)(T:Ty)(St:Heap->Prop)(H':List Addr)(s:Shared)(r:Option Value)(s':Shared):Prop
 | mk (v:Value) (h':Heap) (tk:Nat) (e:r=some v) (es:s'={ s with heap:=h',toks:=tk }) (b:Heap.SameBut I s.heap h') (st:St h') (t:T.p (am s.heap H') v)
inductive Hl(I:Addr)(s:Shared)(r:Option Value)(s':Shared):Prop
 | mk (e:r=none) (h':Heap) (tk:Nat) (es:s'={ s with heap:=h',toks:=tk }) (b:Heap.ExtBut I s.heap h')
structure xJ(W:Wc)(n:Nat)(I:Addr)(T₀:String)(Ts:List Ty)(St:Nat->Heap->Prop)(Vis:fH->Prop):Prop where
 stay:∀i h h',St i h->(∀o,h.get? I=some o->nt o=true->h'.get? I=some o)->St i h'
 cls:∀i h,St i h->∃o,h.get? I=some o/\o.cls = .type T₀/\∃vs,o.data = .fields vs
 vis:∀V V',Vle V V'->Vis V->Vis V'
 item:∀i T,Ts[i]? = some T->∀l A s H',aU (W.at l) A n->GO (W.at l) H' s->I∈H'->St i s.heap->Vis (am s.heap H')->wpAny (model prg W.w) A (pyNext (.ref I)) (Hk I T (St (i+1)) H' s) Nev s
 self:∀i l A s H',aU (W.at l) A n->GO (W.at l) H' s->St i s.heap->wpAny (model prg W.w) A (pyIter (.ref I)) (λv s'=>v = .ref I/\s'=s) Nev s
 done:∀l A s H',aU (W.at l) A n->GO (W.at l) H' s->I∈H'->St Ts.length s.heap->Vis (am s.heap H')->wpAny (model prg W.w) A (pyNext (.ref I)) (Hl I s) Nev s
theorem Ag{I:Addr}{t:String}{d:List Ty}{Y:Nat->Heap->Prop}{F:fH->Prop}(o:xJ W n I t d Y F)(w:j2 t=false):∀(Ts:List Ty) (i:Nat) (H:List Addr) (s:Shared),Ts=d.drop i->i<=d.length->Y i s.heap->I∈H->F (am s.heap H) ->
  It W n tgt (.ref I) [] Ts ⟨[I],[]⟩ H s:=by
 intro Ts
 induction Ts with
 | nil =>
  intro i H s hd Z P R M l A s' H' Q g U G V J
  have k:=o.stay _ _ _ P (λq=>U.a I (ah.mpr rfl) q)
  have c:=V I (ah.mpr rfl)
  have:i=d.length:=jy Z (by have:=aY List.length hd;rw[List.length_drop,kH] at this;exact Nat.le_of_sub_eq_zero this.symm)
  subst this
  refine fG (o.cls _ _ k) λoI f G C=>?_
  refine dK C λvs p=>?_
  refine cV (ad (o.done l A s' H' Q g c k (o.vis _ _ J M)) (λr s₁ h gr=>?_) λG G e G=>nev e)
  obtain⟨rfl,h',tk,rfl,K⟩:=h
  refine⟨rfl,g.g.fr (λb o u e=>K b o (λz=>aw.mpr (g.ok I c).1 (z▸u)) e) gr.h g.g.bare rfl (λL o m G O X=>⟨o,m,K L o (λz=>?_) O,?_,rfl⟩),dp (λb o u e=>K b o (λz=>u (ah.mpr z)) e) (λG G G e=>e) gr.h (aB _)⟩
  ·subst z;rw[f] at O;cases O;obtain⟨es,ep,q⟩:=jg X f;rw[p] at q;cases q
  ·refine i9 X λo' es ep N j r=>?_
   refine⟨o',es,ep,K L o' (λz=>?_) N,j,r⟩
   subst z;rw[f] at N;cases N;rw[p] at j;cases j
 | cons T Ts ih =>
  intro i H s hd Z P R M l A s' H' Q g U G V J
  have k:=o.stay _ _ _ P (λq=>U.a I (ah.mpr rfl) q)
  have c:=V I (ah.mpr rfl)
  have hx:d[i]? = some T:=by
   have:=aY List.head? hd
   simpa[List.head?_drop] using this.symm
  have j:Ts=d.drop (i+1):=by
   have:=aY List.tail hd
   simpa[List.tail_drop] using this
  refine fG (o.cls _ _ k) λoI f G D=>?_
  refine dK D λvs p=>?_
  refine ad (o.item i T hx l A s' H' Q g c k (o.vis _ _ J M)) (λr s₁ h=>?_) az
  obtain⟨v,h',tk,rfl,rfl,hs,x,ht⟩:=h
  have y:Vle (am s'.heap H') (am h' (H'++[I])):=Cn (λb o u e=>(hs.2 b u).trans e) c
  refine fG (o.cls _ _ x) λa6 B E G=>?_
  refine⟨v,rfl,su (s:={ s' with heap:=h',toks:=tk }) B E w ⟨⟨[I],[]⟩,g.g.upd (g.ok I c).1 hs (.inl ⟨oI,f,λG G z=>by rw[p] at z;cases z⟩),dp (λb o u e=>(hs.2 b (λz=>u (ah.mpr z))).trans e) (λG G G e=>e) (aH hs.1.symm) (aB _),Ext.refl _ _,
   ⟨λb m=>by rw[ah.mp m];exact⟨(g.ok I c).1,by show I<h'.objs.size;rw[hs.1];exact(g.ok I c).2⟩,λG m=>absurd m av⟩,T.mono y ht,?_⟩⟩
  exact ih (i+1) _ _ j (by have:=(b8.mp hx).1;exact this) x (aq _ c) (o.vis _ _ y (o.vis _ _ J M))
inductive Hm(W:Wc)(n:Nat)(Θ:List Ty->Prop)(O:List Addr)(s:Shared)(it:Value)(s':Shared):Prop
 | mk (o:Obj) (tk:Nat) (T₀:String) (Ts:List Ty) (St:Nat->Heap->Prop) (Vis:fH->Prop) (t:Θ Ts) (e:it = .ref s.heap.objs.size) (es:s'={ s with heap:=s.heap.push o,toks:=tk }) (st:St 0 s'.heap) (v:Vis (am s.heap O)) (hT:j2 T₀=false) (one:xJ W n s.heap.objs.size T₀ Ts St Vis)
noncomputable def ww(W:Wc)(n:Nat)(T:Ty)(Θ:List Ty->Prop):Prop:=∀A O s v,aU W A n->GO W O s->T.p (am s.heap O) v->wpAny (model prg W.w) A (pyIter v) (Hm W n Θ O s) Nev s
noncomputable def kn(W:Wc)(n:Nat)(tgt:Expr)(T:Ty)(Θ:List Ty->Prop):Prop:=∀A O s v,aU W A n->GO W O s->T.p (am s.heap O) v->wpAny (model prg W.w) A (pyIter v) (ItS W n tgt Θ O s) Nev s
theorem ww.its(D:ww W n T Θ):kn W n tgt T Θ:=λA O s v z g h=>by
 refine ad (D A O s v z g h) (λit s₂ j=>?_) az
 obtain⟨o,tk,r,Ts,E,B,k,rfl,rfl,hs,x,d,c⟩:=j
 refine dn (bJ g o tk) λf i w=>?_
 refine⟨⟨[s.heap.objs.size],[]⟩,Ts,k,f,i,⟨λb m=>.inr (by rw[ah.mp m];exact aB _),λb m=>absurd m av⟩,
  ⟨λb m=>by rw[ah.mp m];exact⟨g.g.siz,by show _<(s.heap.push o).objs.size;rw[bi];exact dR _⟩,λb m=>absurd m av⟩,?_,λl y s' H' p g' C=>c.self 0 l y s' H' p g' (c.stay _ _ _ hs λq=>C.a _ (ah.mpr rfl) q)⟩
 refine Ag c d Ts 0 _ _ rfl (dT _) hs (al _ (ah.mpr rfl)) (c.vis _ _ (λa F e b=>?_) x)
 have u:=a8 e
 have t:=af e
 refine aK (aV _ t) λm=>?_
 rcases aj.mp m with m | m
 ·exact u m
 ·have:=aO t;rw[ah.mp m] at this;exact bz _ this
theorem eV(h:EvP W C Γ n e T)(l:kn W n tgt T Θ):io W C Γ n tgt e Θ:=λA env O M s k I=>by
 refine ad (h A env O M s k I) (λv s₁ f=>?_) az
 refine ad (l A _ s₁ v k (f.then I).go f.2.2) (λit s₂ j=>?_) az
 obtain⟨F,Ts,a,b,c,d,e,i,z⟩:=j
 exact⟨F,Ts,a,b,f.2.1.trans c,⟨λa m=>(d.a a m).imp id (ae f.2.1.siz),λa m=>(d.g a m).imp id (ae f.2.1.gsz)⟩,e,i,z⟩
theorem gy:ww W n (bw Ts) (λUs=>Us=Ts):=λA O s v I g F=>by
 refine bc F λvs q B=>?_
 obtain⟨u,c,rfl,f⟩:=q
 refine pR (items:=vs.toArray) ⟨_,af f,rfl,c,rfl⟩ ⟨_,s.toks, "list_iterator",Ts,λi h=>h.IsListIter s.heap.objs.size u i,λV=>V u=some { cls:=.type "list",dict:=none,data:=.seq vs.toArray c,slots:=#[] }/\ay V Ts vs,rfl,rfl,rfl,
  ⟨_,bf _ rfl,rfl,rfl⟩,⟨f,B⟩,by decide +kernel,⟨λi h h'=>jK λo r m hd k=>⟨o,k o r (ik (by rw[m];simp) (by rw[hd];intro A A z;cases z)),m,hd⟩,λi h=>jK λo r m hd=>⟨o,r,m,_,hd⟩,λV V' w=>And.elim λa b=>⟨w _ _ a rfl,ay.mono w b⟩,λi T H l y s' H' d g' t j e=>?_,λi l y s' H' d g' j=>?_,λl y s' H' d g' t j e=>?_⟩⟩
 ·refine bc (ay.get e.2 H) λv E C=>?_
  exact pS j (items:=vs.toArray) ⟨_,af e.1,rfl,c,rfl⟩ (x:=v) (by simpa using E) λh' p hs=>⟨v,h',s'.toks,rfl,rfl,hs,p,C⟩
 ·exact pT j ⟨rfl,rfl⟩
 ·exact pU d.hd j (items:=vs.toArray) ⟨_,af e.1,rfl,c,rfl⟩ (by rw[← ay.len e.2];simp) λh' D=>⟨rfl,h',s'.toks,rfl,D⟩
theorem jk:ww W n (bH Ts) (λUs=>Us=Ts):=λA O s v I g F=>by
 refine bc F λvs p B=>?_
 obtain⟨u,c,rfl,f⟩:=p
 refine wpAny_pyIter_tuple (items:=vs.toArray) ⟨_,af f,rfl,c,rfl⟩ ⟨_,s.toks, "tuple_iterator",Ts,λi h=>h.IsTupleIter s.heap.objs.size u i,λV=>V u=some { cls:=.type "tuple",dict:=none,data:=.seq vs.toArray c,slots:=#[] }/\ay V Ts vs,rfl,rfl,rfl,
  ⟨_,bf _ rfl,rfl,rfl⟩,⟨f,B⟩,by decide +kernel,⟨λi h h'=>jK λo r m hd k=>⟨o,k o r (ik (by rw[m];simp) (by rw[hd];intro A A z;cases z)),m,hd⟩,λi h=>jK λo r m hd=>⟨o,r,m,_,hd⟩,λV V' w=>And.elim λa b=>⟨w _ _ a rfl,ay.mono w b⟩,λi T H l y s' H' d g' t j e=>?_,λi l y s' H' d g' j=>?_,λl y s' H' d g' t j e=>?_⟩⟩
 ·refine bc (ay.get e.2 H) λv E C=>?_
  exact wpAny_pyNext_tuple_item j (items:=vs.toArray) ⟨_,af e.1,rfl,c,rfl⟩ (x:=v) (by simpa using E) λh' q hs=>⟨v,h',s'.toks,rfl,rfl,hs,q,C⟩
 ·exact wpAny_pyIter_tupleiter j ⟨rfl,rfl⟩
 ·exact wpAny_pyNext_tuple_end d.hd j (items:=vs.toArray) ⟨_,af e.1,rfl,c,rfl⟩ (by rw[← ay.len e.2];simp) λh' D=>⟨rfl,h',s'.toks,rfl,D⟩
inductive Hn(a b:Nat)(V:fH)(v:Value):Prop
 | mk (r:Addr) (t u w:Tok) (e:v = .ref r) (o:V r=some { cls:=.type "range",dict:=none,data:=.fields #[.int (a:Int) t,.int (b:Int) u,.int 1 w],slots:=#[] })
noncomputable def j3(a b:Nat):Ty:=⟨Hn a b,λh k=>by
 obtain⟨r,t,u,w,e,o⟩:=k
 exact⟨r,t,u,w,e,h _ _ o rfl⟩⟩
theorem eF{b:Nat}:aM W n (.type "range") [ag b] [] (j3 0 b):=λA O s vs ks d g c hK=>by
 obtain⟨v,rfl,⟨t,rfl⟩⟩:=c.a1
 refine call_range_1 ?_
 refine dn (bJ g { cls:=.type "range",data:=.fields #[.int 0 s.toks,.int (b:Int) t,.int 1 (s.toks+1)] } (s.toks+1+1)) λg' k a=>?_
 exact⟨g',k,_,_,_,_,rfl,aK (bf _ rfl) a⟩
theorem wx{a b:Nat}:Builtin.Range.rangeSize (a:Int) (b:Int) 1=((b-a:Nat):Int):=by
 rw[rangeSize_one]
 split
 ·rename_i h;exact(Int.ofNat_sub (cQ (bV.mp h))).symm
 ·rename_i h;rw[Nat.sub_eq_zero_of_le (mN λz=>h (bV.mpr z))];rfl
theorem iD{a b:Nat}:aM W n (.type "range") [ag a,ag b] [] (j3 a b):=λA O s vs ks e g d hK=>by
 obtain⟨v,v,rfl,⟨t,rfl⟩,⟨u,rfl⟩⟩:=d.a2
 refine call_range_2 ?_
 refine dn (bJ g { cls:=.type "range",data:=.fields #[.int (a:Int) t,.int (b:Int) u,.int 1 s.toks] } (s.toks+1)) λg' k c=>?_
 exact⟨g',k,_,_,_,_,rfl,aK (bf _ rfl) c⟩
noncomputable abbrev fj(a b:Nat):List Ty:=(List.range (b-a)).map λj=>ag (a+j)
theorem yR{a b:Nat}(z:a<2 ^ 60)(x:b<2 ^ 60):ww W n (j3 a b) (λUs=>Us=fj a b):=λA O s v F g D=>by
 obtain⟨r,t,u,w,rfl,p⟩:=D
 have hsz:Builtin.Range.rangeSize (a:Int) (b:Int) 1=((b-a:Nat):Int):=wx
 refine wpAny_pyIter_range (af p) (small_one oI (oF z) oI (oF x)) ⟨_,s.toks, "range_iterator",fj a b,λi h=>IsRangeIter h s.heap.objs.size ((a+i:Nat):Int) (((b-a:Nat):Int)-(i:Nat)) 1,λA=>True,rfl,rfl,rfl,?_,trivial,by decide +kernel,
  ⟨λi h h' q k=>k _ q rfl,λi h q=>⟨_,q,rfl,_,rfl⟩,λA A A A=>trivial,λi T f l o s' H' c g' e d B=>?_,λi l o s' H' c g' d=>?_,λl o s' H' c g' e d B=>?_⟩⟩
 ·refine(?_:IsRangeIter _ _ _ _ _)
  rw[hsz]
  have:(((b-a:Nat):Int)-((0:Nat):Int))=((b-a:Nat):Int):=by simp
  exact this▸(bf _ rfl)
 ·have m:i<b-a:=by have:=(b8.mp f).1;simpa using this
  have j:T=ag (a+i):=by
   rw[dw,List.getElem?_range m] at f
   exact(fU f).symm
  subst j
  refine wpAny_pyNext_range_item d (Int.sub_pos_of_lt (bV.mpr m)) λh' q hs=>⟨_,h',_,rfl,rfl,hs,?_,⟨_,rfl⟩⟩
  have E:((a+i:Nat):Int)+1=((a+(i+1):Nat):Int):=rfl
  have y:(((b-a:Nat):Int)-(i:Nat))-1=((b-a:Nat):Int)-((i+1:Nat):Int):=Int.sub_sub ..
  rw[y] at q
  exact q
 ·exact wpAny_pyIter_rangeiter d ⟨rfl,rfl⟩
 ·rw[show(fj a b).length=b-a by simp] at d
  exact wpAny_pyNext_range_end c.hd d (Int.le_of_eq (Int.sub_self _)) λh' C=>⟨rfl,h',s'.toks,rfl,C⟩
theorem dE(h:EvP W C Γ n e (bw Ts)):io W C Γ n tgt e (λUs=>Us=Ts):=eV h gy.its
theorem Cp{tgt e:Expr}{Ts:List Ty}(h:EvP W C Γ n e (bH Ts)):io W C Γ n tgt e (λUs=>Us=Ts):=eV h jk.its
theorem di{a b:Nat}(h:EvP W C Γ n e (j3 a b))(c:a<2 ^ 60:=by decide)(d:b<2 ^ 60:=by decide):io W C Γ n tgt e (λUs=>Us=fj a b):=eV h (yR c d).its
theorem io.eq(h:io W C Γ n tgt e Θ)(q:∀Ts,Θ Ts->Θ' Ts):io W C Γ n tgt e Θ':=λA env O M s c I=>ad (h A env O M s c I) (λd d h=>ad h (λd d a=>a.rec λF Ts t g k x b i z=>⟨F,Ts,q _ t,g,k,x,b,i,z⟩) az) az
noncomputable def ft(env:Env):List (Str×NameKind)->List (Str×Addr)->List (Str×Addr)
 | [],acc=>acc
 | (x,k)::r,acc=>if k == .free then ft env r ((x,(env.cells.lookup x).getD 0)::acc) else ft env r acc
theorem j4{acc:List (Str×Addr)}{r:List (Str×NameKind)}{k:NameKind}:ft env ((x,k)::r) acc=if k == .free then ft env r ((x,(env.cells.lookup x).getD 0)::acc) else ft env r acc:=rfl
theorem yS(f:Str×NameKind->List (Str×Addr)->Sem (ForInStep (List (Str×Addr))))(hf:∀x k cs,f (x,k) cs=if k == .free then(do let a ← cellOf env x;pure (.yield ((x,a)::cs))) else pure (.yield cs)):
  ∀(l:List (Str×NameKind)) (acc:List (Str×Addr)),(∀x,(x,NameKind.free)∈l->∃c,env.cells.lookup x=some c)->forIn l acc f=pure (ft env l acc):=by
 intro l
 induction l with
 | nil =>
  intro acc i
  rw[List.forIn_nil];rfl
 | cons y_ r ih =>
  intro acc d
  obtain⟨x,k⟩:=y_
  have b:∀x,(x,NameKind.free)∈r->∃c,env.cells.lookup x=some c:=λx h=>d x (bt _ h)
  rw[mE,hf]
  rw[j4]
  cases g:(k==NameKind.free) with
  | true =>
   obtain⟨c,e⟩:=d x (by rw[aL.mp g];exact .head _)
   refine(bI rfl) ▸ ?_;refine e ▸ ?_
   have:cellOf env x=pure c:=by unfold cellOf;rw[e]
   exact this▸(ih _ b)
  | false =>
   rw[bj (by decide)]
   exact ih _ b
theorem Ah(h:∀x,(x,NameKind.free)∈scope.names->∃c,env.cells.lookup x=some c):closureFor scope env=pure (ft env scope.names []):=by
 rw[closureFor]
 rw[yS _ (λx k cs=>by cases a:k==NameKind.free <;> simp[a]) scope.names [] h]
 rfl
theorem te{l:List (Str×NameKind)}:∀{acc:List (Str×Addr)} {x:Str} {c:Addr},(∀x,(x,NameKind.free)∈l->∃c,env.cells.lookup x=some c)->(x,c)∈ft env l acc->(x,c)∈acc∨((x,NameKind.free)∈l/\env.cells.lookup x=some c):=by
 induction l with
 | nil=>exact λj h=>.inl h
 | cons p r ih =>
  obtain⟨y,k⟩:=p
  intro acc x c d h
  rw[j4] at h
  have a:∀x,(x,NameKind.free)∈r->∃c,env.cells.lookup x=some c:=λx g=>d x (bt _ g)
  split at h
  ·rename_i f
   rcases ih a h with h | h
   ·rcases aC.mp h with e | h
    ·cases e
     have b:=aL.mp f
     subst b
     obtain⟨c,i⟩:=d y (.head _)
     exact i▸(.inr ⟨.head _,rfl⟩)
    ·exact .inl h
   ·exact .inr ⟨bt _ h.1,h.2⟩
  ·rcases ih a h with h | h
   ·exact .inl h
   ·exact .inr ⟨bt _ h.1,h.2⟩
theorem Cq{l:List (Str×NameKind)}:∀{acc:List (Str×Addr)} {x:Str},((x,NameKind.free)∈l∨∃c,(x,c)∈acc)->∃c,(x,c)∈ft env l acc:=by
 induction l with
 | nil =>
  intro d x h
  exact h.elim nM id
 | cons y_ r ih =>
  obtain⟨y,k⟩:=y_
  intro acc x h
  refine j4 ▸ ?_
  split
  ·rename_i a
   refine ih (h.elim (λh=>?_) λb=>b.rec λc h=>.inr ⟨c,bt _ h⟩)
   rcases aC.mp h with e | h
   ·cases e;exact .inr ⟨_,.head _⟩
   ·exact .inl h
  ·rename_i a
   refine ih (h.elim (λh=>?_) .inr)
   rcases aC.mp h with e | h
   ·cases e;exact absurd rfl a
   ·exact .inl h
theorem mj{a:Type}{l:List (Str×a)}:∀{x:Str} {c:a},(x,c)∈l->∃d,l.lookup x=some d/\(x,d)∈l:=by
 induction l with
 | nil=>exact λh=>nM h
 | cons p r ih =>
  obtain⟨y,d⟩:=p
  intro x c h
  rw[iy]
  cases e:x==y with
  | true=>exact⟨d,rfl,by rw[aL.mp e];exact .head _⟩
  | false =>
   rcases aC.mp h with h | h
   ·cases h;rw[jz] at e;cases e
   ·obtain⟨g,f,b⟩:=ih h
    exact⟨g,f,bt _ b⟩
theorem qH{l:List (Str×NameKind)}(f:∀x,(x,NameKind.free)∈l->∃c,env.cells.lookup x=some c)(b:(x,NameKind.free)∈l):(ft env l []).lookup x=env.cells.lookup x:=by
 obtain⟨c,g⟩:=Cq (env:=env) (acc:=[]) (.inl b)
 obtain⟨d,e,a⟩:=mj g
 rcases te f a with h | h
 ·cases h
 ·rw[e,h.2]
theorem sw(l:List (Str×NameKind)):∀(acc:List (Str×Addr)),(l.map (·.1)).Nodup->(acc.map (·.1)).Nodup->(∀x∈l.map (·.1),x∉acc.map (·.1))->((ft env l acc).map (·.1)).Nodup:=by
 induction l with
 | nil =>
  intro f f h f
  exact h
 | cons y_ r ih =>
  obtain⟨y,k⟩:=y_
  intro acc b d hd
  rw[cz,jf] at b
  refine j4 ▸ ?_
  split
  ·refine ih _ b.2 (by rw[cz,jf];exact⟨hd y (.head _),d⟩) λx a c=>?_
   rw[cz,aC] at c
   rcases c with e | c
   ·exact b.1 (e▸a)
   ·exact hd x (bt _ a) c
  ·exact ih _ b.2 d λx a=>hd x (bt _ a)
theorem uD{cs a:List (Str×Addr)}(d:cs.Pairwise λx y=>x.2≠y.2):(∀x c,(x,c)∈a->(x,c)∈cs)->(a.map (·.1)).Nodup->a.Pairwise λx y=>x.2≠y.2:=by
 induction a with
 | nil=>exact λi i=>List.Pairwise.nil
 | cons y r ih =>
  intro h b
  rw[cz,jf] at b
  refine List.pairwise_cons.mpr ⟨λz hz e=>?_,ih (λx c m=>h x c (bt _ m)) b.2⟩
  have g:=h y.1 y.2 (.head _)
  have f:=h z.1 z.2 (bt _ hz)
  rw[← e] at f
  exact b.1 (name_of_addr d g f▸cj hz)
noncomputable def nE(scope:Scope)(C:Cx):Scope :=
 { scope with names:=scope.names.map λ(n,k)=>if(k == .free&&C.scope.kind == .function&&C.scope.names.lookup n==some .cell) then(n,.cell) else(n,k) }
theorem jl{l:List (Str×NameKind)}{x:Str}{k b:NameKind}(a:(l.map (·.1)).Nodup)(h:(x,k)∈l)(h':(x,b)∈l):k=b:=by
 induction l with
 | nil=>cases h
 | cons y r ih =>
  rw[cz,jf] at a
  cases h with
  | head=>cases h' with
   | head=>rfl
   | tail _ h'=>exact absurd (cj h') a.1
  | tail _ h=>cases h' with
   | head=>exact absurd (cj h) a.1
   | tail _ h'=>exact ih a.2 h h'
structure qI(C:Cx)(Γ:Kn)(scope:Scope)(C':Cx)(σ':List (Option Ty)):Prop where
 code:C'.code=C.code
 sc:C'.scope=nE scope C
 cx:yM C'
 kind:scope.kind = .function
 nd:(scope.names.map (·.1)).Nodup
 free:∀x,(x,NameKind.free)∈scope.names->(∃(j:Nat) (T:Ty),C.names[j]? = some x/\Γ.v[j]? = some (some T))/\C.scope.names.lookup x≠some .local
 own:∀x∈C'.own,(x,NameKind.cell)∈scope.names
 ty:∀(i:Nat) (x:Str) (T:Ty),C'.names[i]? = some x->σ'[i]? = some (some T)->(x,NameKind.free)∈scope.names/\(C'.scope.names.lookup x=some .cell∨C'.scope.names.lookup x=some .free)/\∃(j:Nat),C.names[j]? = some x/\Γ.v[j]? = some (some T)
theorem uE{Q:Env->Shared->Prop}(I:Inv W C env Γ O M s)(p:qI C Γ scope C' σ')(hQ:∀n s' M',G W s'->aF s s'->Ext s ⟨[],[]⟩ M'->Inv W C' { n with scope:=relabel scope env } ⟨σ',[]⟩ (O++M.a) M' s'->(n.locals=s.heap.objs.size/\(∀b∈M'.a,b<s'.heap.objs.size)/\∀y c,n.cells.lookup y=some c->c∈M'.a∨env.cells.lookup y=some c)->Q n s'):
  closureFor scope env=pure (ft env scope.names [])/\wpAny (model prg W.w) A (newFunctionEnv scope env.globals (ft env scope.names []) [] env.qual none .none (some env)) Q Nev s:=by
 refine bc I.loc λm hn hl=>?_
 have fr:∀x,(x,NameKind.free)∈scope.names->∃c,env.cells.lookup x=some c:=λx z=>by
  refine ck (p.free x z) λZ h3=>?_
  obtain⟨j,T,D,R⟩:=Z
  refine bc (hl j x T D R) λv sl d=>?_
  rcases sl with⟨h,d⟩ | ⟨d,c,f,d⟩
  ·exact absurd h h3
  ·exact⟨c,f⟩
 refine⟨Ah fr,?_⟩
 have K:∀x c,env.cells.lookup x=some c->c<s.heap.objs.size:=λx c h=>(I.cells x c h).elim λd U=>U.lt
 refine(?_:wpAny _ _ (alloc { cls:=.type "dict",data:=.dict #[] } >>= _) _ _ _)
 refine aa (lG ?_)
 refine aa (wpAny_layCells _ (λname V cells=>by cases Y:V==NameKind.cell <;> simp[Y]) _ _ _ _ ?_)
 have hsz:(s.heap.push { cls:=.type "dict",data:=.dict #[] }).objs.size=s.heap.objs.size+1:=bi ..
 have t:∀x c,(x,c)∈ft env scope.names []->(x,NameKind.free)∈scope.names/\env.cells.lookup x=some c:=λx c h=>(te fr h).elim nM id
 obtain⟨q1,q2,q3⟩:=lZ scope.names (s.heap.push { cls:=.type "dict",data:=.dict #[] }) (ft env scope.names []) (λx c h=>by rw[hsz];exact fQ (K x c (t x c h).2))
  (uD I.ok.apart (λx c h=>mem_of_lookup (t x c h).2) (sw _ _ p.nd gb (λd d=>nM)))
 rw[hsz] at q1 q2 q3
 rw[show({ s with heap:=s.heap.push { cls:=.type "dict",data:=.dict #[] } }:Shared).heap.objs.size=s.heap.objs.size+1 from hsz]
 generalize J:cellsFrom (s.heap.objs.size+1) scope.names (ft env scope.names [])=cells at q1 q2
 generalize hH:pushCells (s.heap.push { cls:=.type "dict",data:=.dict #[] }) scope.names=H at q2 q3
 have k:∀b o,s.heap.get? b=some o->H.get? b=some o:=λb o e=>by rw[← hH];exact lF _ _ _ _ (aV _ e)
 have P:s.heap.objs.size<=H.objs.size:=mD q3
 have g':G W { s with heap:=H }:=I.g.step (tk:=s.toks) k P
 have k':aF s { s with heap:=H }:=aF.step (tk:=s.toks) k P
 have hL:H.Ns s.heap.objs.size (λd=>none):=by rw[← hH];exact(Heap.Ns.new s.heap (.type "dict")).keeps (lF _ _)
 have N:∀x,(x,NameKind.free)∈scope.names->cells.lookup x=env.cells.lookup x:=λx z=>by
  rw[← J,iW _ _ _ _ (λh=>by have:=jl p.nd z h;cases this)]
  exact qH fr z
 have u:∀x c,(x,c)∈cells->((x,NameKind.free)∈scope.names/\env.cells.lookup x=some c)∨((x,NameKind.cell)∈scope.names/\s.heap.objs.size+1<=c):=λx c h=>by
  rw[← J] at h
  rcases jq _ _ _ _ _ h with h | h
  ·exact .inl (t x c h)
  ·exact .inr h
 let M':Fp:=⟨s.heap.objs.size::((cells.map (·.2)).filter λc=>decide (s.heap.objs.size<c)),[]⟩
 have r:∀b∈M'.a,s.heap.objs.size<=b/\b<H.objs.size:=λb F=>by
  rcases aC.mp F with e | F
  ·subst e;exact⟨aB _,hL.lt⟩
  ·refine ck (bk.mp F) λF B=>?_
   have B:=ci B
   refine bc (a9.mp F) λy hy e=>?_
   refine⟨cQ B,?_⟩
   rcases q2 y.1 y.2 hy with h | h
   ·have:=K _ _ (t _ _ h).2
    rw[e] at this
    exact absurd B (aw.mpr (cQ this))
   ·exact e▸(h.lt)
 have x':Ext s ⟨[],[]⟩ M':=⟨λb m=>.inr (r b m).1,λd m=>absurd m (by simp[M'])⟩
 have vl:Vle (am s.heap (O++M.a)) (am H ((O++M.a)++M'.a)):=λa o e d=>by
  have D:=af e
  refine aK (k a o D) λm=>?_
  rcases aj.mp m with m | m
  ·exact a8 e m
  ·exact absurd (aO D) (aw.mpr (r a m).1)
 refine(?_:wpAny _ _ (forIn ([]:List (Str×Value)) _ _ >>= _) _ _ _)
 rw[List.forIn_nil]
 refine aa (ac (ac (hQ _ _ M' g' k' x' ⟨g',⟨p.cx,?_,I.ok.glob,I.ok.bui,q1,λx z=>?_,λv U=>I.ok.code v (p.code▸U)⟩,.head _,λx c f z=>?_,λa E=>?_,λd h=>absurd h (by simp[M']),⟨_,hL,λi x T hi hT=>?_⟩,λx c f=>?_,(λd d=>nM),gb,I.top.imp λe h=>h.imp λl q=>⟨q.1,q.2.trans rfl⟩⟩ ⟨rfl,λb F=>(r b F).2,λy c f=>?_⟩)))
 ·refine(?_:relabel scope env=C'.scope)
  rw[p.sc];unfold relabel nE Env.kindOf;rw[I.ok.scope]
 ·refine(?_:∃c,cells.lookup x=some c)
  rw[← J]
  refine lJ _ _ _ _ ?_
  refine bc (mj (p.own x z)) λd D R=>?_
  rw[D,jl p.nd R (p.own x z)]
 ·have f:cells.lookup x=some c:=f
  rcases u x c (mem_of_lookup f) with h | h
  ·have:=jl p.nd h.1 (p.own x z);cases this
  ·exact bt _ (bk.mpr ⟨a9.mpr ⟨(x,c),mem_of_lookup f,rfl⟩,c8 h.2⟩)
 ·rcases aj.mp E with E | E
  ·exact⟨(I.up a E).1,aA (I.up a E).2 P⟩
  ·exact⟨ae I.g.siz (r a E).1,(r a E).2⟩
 ·refine dn (p.ty i x T hi hT) λhf hk X=>?_
  refine bc X λj D R=>?_
  refine bc (hl j x T D R) λv sl ht=>?_
  refine⟨v,.inr ⟨hk,?_⟩,T.mono vl ht⟩
  rcases sl with⟨h,d⟩ | ⟨d,c,f,L⟩
  ·exact absurd h (p.free x hf).2
  ·refine⟨c,(N x hf).trans f,L.keeps k⟩
 ·have f:cells.lookup x=some c:=f
  rcases u x c (mem_of_lookup f) with h | h
  ·refine dK (I.cells x c h.2) λv U=>?_
   exact⟨v,U.keeps k⟩
  ·rcases q2 x c (mem_of_lookup f) with h' | h'
   ·exact absurd (K _ _ (t _ _ h').2) (aw.mpr (mD h.2))
   ·exact⟨_,h'⟩
 ·have f:cells.lookup y=some c:=f
  rcases u y c (mem_of_lookup f) with h | h
  ·exact .inr h.2
  ·exact .inl (bt _ (bk.mpr ⟨a9.mpr ⟨(y,c),mem_of_lookup f,rfl⟩,c8 h.2⟩))
theorem Inv.weak(I:Inv W C env Γ O M s)(d:∀(j:Nat) (T:Ty),Γ'.v[j]? = some (some T)->Γ.v[j]? = some (some T))(b:Γ'.h=[]):Inv W C env Γ' O M s:=by
 obtain⟨m,f,k⟩:=I.loc
 exact⟨I.g,I.ok,I.own,I.cel,I.up,I.upg,⟨m,f,λi x T c e=>k i x T c (d i T e)⟩,I.cells,(λa P h=>by rw[b] at h;cases h),by rw[b];exact gb,I.top⟩
theorem Inv.perm(I:Inv W C env Γ O M s)(h:∀a,a∈O↔a∈O'):Inv W C env Γ O' M s :=
 I.regroup (λa=>by simp only[List.mem_append,h]) (λb m=>m) I.upg (λa m=>(h a).mpr m)
theorem qJ{M:List Addr}(k:ak F s s')(x:Ext s F F'):Vle (am s.heap ((O++F.a)++M)) (am s'.heap ((O++F'.a)++M)):=λa o e c=>by
 have b:=a8 e
 have d:=af e
 simp only[List.mem_append,not_or] at b
 refine aK (k.obj a o b.1.2 d c) λm=>?_
 simp only[List.mem_append] at m
 rcases m with(m | m) | m
 ·exact b.1.1 m
 ·exact(x.a a m).elim b.1.2 λh=>aw.mpr h (aO d)
 ·exact b.2 m
theorem j5(hs:Heap.SameBut D s.heap h')(d:D∈F.a):ak F s { s with heap:=h' } :=
 dp (λb o c e=>(hs.2 b (λz=>c (z▸d))).trans e) (λf f f e=>e) (aH hs.1.symm) (aB _)
noncomputable def ip(W:Wc)(C:Cx)(Γ:Kn)(n:Nat)(ifs:List Expr)(b:Bool):Prop :=
 ∀A env O M s,aU W A n->Inv W C env Γ O M s->wpAny (model prg W.w) A (forIn ifs true λc r=>if r=true then do let ok ← isTrue c env (eval c env);pure (ForInStep.yield ok) else pure (ForInStep.yield r)) (λr s'=>r=b/\G W s'/\aF s s') Nev s
theorem fa:ip W C Γ n [] true:=λa a a a s a I=>wpAny_tests_nil ⟨rfl,I.g,aF.refl s⟩
theorem iX{c:Expr}{b:Bool}(h:TsP W C Γ n c b):ip W C Γ n [c] b:=λA env O M s a I=>wpAny_tests_one (h A env O M s a I)
structure nG(e tgt iter:Expr)(ifs:List Expr)(emit:Env->Addr->Sem Unit):Prop where
 clauses:clausesOf e=[⟨tgt,iter,ifs,0⟩]
 turn:∀it D env,compTurn e 0 it (.ref D) env=(do
   standAt iter.pos
   match ← pyNext it with
   | none=>pure (.done .next)
   | some v =>
    letOwnedTupleGo tgt it v
    assign tgt env v
    let ok ← forIn ifs true λc r=>if r=true then do let ok ← isTrue c env (eval c env);pure (ForInStep.yield ok) else pure (ForInStep.yield r)
    if ok=true then emit env D
    again (.compLoop e 0 it (.ref D) env))
 frame:∀it D env,(Code.compLoop e 0 it (.ref D) env).isFrame=false
 quiet:∀it D env,(Code.compLoop e 0 it (.ref D) env).quiet=true
 under:∀(A:Around) it D env,A.under (Code.compLoop e 0 it (.ref D) env)=A
 start:∀{w:World} {A:Around} {R:Result->Shared->Prop} {s:Shared} {it:Value} {D:Addr} {env:Env},codeAny (model prg w) A (.compLoop e 0 it (.ref D) env) R s ->
  wpAny (model prg w) A (pyIter it) (λit' s'=>codeAny (model prg w) A (.compLoop e 0 it' (.ref D) env) R s') (notedBy (model prg w) A env λx s'=>R (.error x) s') s->codeAny (model prg w) A (.compStart e 0 it (.ref D) env) R s
theorem qK{R:Result->Shared->Prop}{f:Env->Addr->Sem Unit}(k:nG e tgt iter ifs f)(I:Nat->Shared->Prop)(q:∀n s,I n s->wpAny (model prg w) A (pyNext it) (λr s₁=>match r with
   | none=>R (.ok .next) s₁
   | some v=>wpAny (model prg w) A (letOwnedTupleGo tgt it v) (λy i=>wpAny (model prg w) A (assign tgt env v) (λy s₂ =>
     wpAny (model prg w) A (forIn ifs true λc r=>if r=true then do let l ← isTrue c env (eval c env);pure (ForInStep.yield l) else pure (ForInStep.yield r)) (λl a =>
      if l=true then wpAny (model prg w) A (f env D) (λy d=>∃m,m<n/\I m d) Nev a
      else ∃m,m<n/\I m a) Nev s₂) Nev i) Nev s₁) Nev s)(n:Nat)(h:I n s):codeAny (model prg w) A (.compLoop e 0 it (.ref D) env) R s:=by
 refine codeAny_loop (k.quiet it D env) I (λn s u=>?_) n h
 rw[k.under]
 show wpAny _ A (if(Code.compLoop e 0 it (.ref D) env).isFrame then(compTurn e 0 it (.ref D) env).onRaise (leaving env) else(compTurn e 0 it (.ref D) env).onRaise (λx=>do noteFrame x env;theTreesLotGoes x)) _ _ s
 rw[k.frame it D env];refine ifZ (by decide) ?_
 refine wpAny_noted ?_
 rw[k.turn]
 refine aa (ct (aa (ad (q n s u) (λr s₁ b=>?_) az)))
 cases r with
 | none=>exact ac b
 | some v =>
  refine aa (ad b (λy s₂ o=>aa (ad o (λy a p=>aa (ad p (λl t g=>?_) az)) az)) az)
  cases l with
  | false=>exact aa (ac (ac ⟨rfl,g⟩))
  | true=>exact aa (ad g (λy d j=>ac ⟨rfl,j⟩) az)
theorem sy:nG (.ListComp elt [⟨tgt,iter,ifs,0⟩] scope pos) tgt iter ifs (λenv D=>do let _ ← call (.builtin "list.append") [.ref D,← eval elt env]) :=
 ⟨rfl,λb b b=>rfl,λb b b=>rfl,λb b b=>rfl,λb b b b=>rfl,λa h=>codeAny_compStart_list a h⟩
theorem yT{b a:Expr}:nG (.DictComp b a [⟨tgt,iter,ifs,0⟩] scope pos) tgt iter ifs (λenv D=>do
      let kv ← eval b env
      let vv ← holding [kv] (eval a env)
      standAt { b.pos with endLine:=a.pos.endLine,endCol:=a.pos.endCol }
      holding [kv,vv] (dictSet D kv vv)) :=
 ⟨rfl,λd d d=>rfl,λd d d=>rfl,λd d d=>rfl,λd d d d=>rfl,λc h=>codeAny_compStart_dict c h⟩
structure uF(ι:Type) where
 p:List ι->fH->Obj->Prop
 mono:∀{Rd V V' o},Vle V V'->p Rd V o->p Rd V' o
 nt:∀{Rd V o},p Rd V o->nt o=true
 nf:∀{Rd V o},p Rd V o->(∃T,o.cls = .type T/\T ≠ "frame")
noncomputable abbrev uG(D:Addr)(F:Fp):Fp:=⟨D::F.a,F.g⟩
inductive Emt(W:Wc)(D:Addr)(q:fH->Obj->Prop)(H:List Addr)(s s':Shared):Prop
 | mk (o':Obj) (g:G W s') (k:ak ⟨[D],[]⟩ s s') (h:s'.heap.get? D=some o') (p:q (am s'.heap H) o')
inductive Gk{ι:Type}(W:Wc)(C':Cx)(ce:Env)(σ':List (Option Ty))(n:Nat)(tgt:Expr)(it:Value)(f:ι->Ty)(l:List ι)(acc:uF ι)(s:Shared)(D:Addr)(H:List Addr)(M':Fp)(k:Nat)(s':Shared):Prop
 | mk (Rd Rs:List ι) (F:Fp) (o:Obj) (hl:l=Rd++Rs) (hk:k=Rs.length) (kp:aF s s') (fr:∀a∈F.a,s.heap.objs.size<=a) (fg:∀a∈F.g,s.gens.size<=a) (b:InB W (uG D F) s') (dj:∀a∈(uG D F).a,a∉M'.a) (dg:∀a∈F.g,a∉M'.g) (hD:D∉F.a) (I:Inv W C' ce ⟨σ',[]⟩ (H++(uG D F).a) M' s') (ho:s'.heap.get? D=some o) (p:acc.p Rd (am s'.heap ((H++(uG D F).a)++M'.a)) o) (i:It W n tgt it [] (Rs.map f) F ((H++(uG D F).a)++M'.a) s')
theorem ou{ι:Type}{b4:Env->Addr->Sem Unit}(kd:nG e tgt iter ifs b4)(l:List ι)(f:ι->Ty)(e0:ι->Bool)(u:ι->Kn->Kn)(hh:∀T,(u T ⟨σ',[]⟩).h=[])(has:∀T,j1 W C' n tgt (f T) (u T))(hu:∀T (j:Nat) (U:Ty),σ'[j]? = some (some U)->(u T ⟨σ',[]⟩).v[j]? = some (some U))(hit:io W C Γ n tgt iter (λTs=>Ts=l.map f))(ok:qI C Γ scope C' σ')(hnm:∀x∈scope.names,x.2 = .local->scope.names.lookup x.1=some .local)(t:Obj)(hnf:t.isFreed=false)(a7:Sem Value)(r3:∀{A:Around} {s:Shared} {Q:Value->Shared->Prop},Q (.ref s.heap.objs.size) { s with heap:=s.heap.push t,toks:=s.toks }->wpAny (model prg W.w) A a7 Q Nev s)(acc:uF ι)(f1:∀V,acc.p [] V t)(s6:∀Rd T V o,e0 T=false->acc.p Rd V o->acc.p (Rd++[T]) V o)(ht:∀T∈l,ip W C' (u T ⟨σ',[]⟩) n ifs (e0 T))(he:∀Rd T Us,l=Rd++T::Us->e0 T=true->∀A env O M s D o,aU W A n->Inv W C' env (u T ⟨σ',[]⟩) O M s->D∈O->s.heap.get? D=some o->acc.p Rd (am s.heap (O++M.a)) o ->
   wpAny (model prg W.w) A (b4 env D) (λS s'=>Emt W D (acc.p (Rd++[T])) (O++M.a) s s') Nev s){A env O M s}(rm:aU W A n)(I:Inv W C env Γ O M s){use:Option (Value->Sem Unit)}{cp:Pos}(hs:∀y,foldedSetIterable iter env y=pure y)(hQ:∀D L s' o,G W s'->aF s s'->s'.heap.get? D=some o->acc.p l (am s'.heap ((O++M.a)++[L])) o->(∃m,s'.heap.Ns L m)->s.heap.objs.size<=L->s.heap.objs.size<=D->D≠L->compPost (model prg W.w) A Nev use Q (.ref D) L (.ok .next) s'):
  wpAny (model prg W.w) A (comprehension e scope env cp a7 false (eval iter env) use) Q Nev s:=by
 have clo:closureFor scope env=pure (ft env scope.names []):=(uE (A:=A) (Q:=λS S=>True) I ok (λS S S S S S S S=>trivial)).1
 refine wpAny_comprehension_free kd.clauses hs clo ok.kind hnm (ad (hit A env O M s rm I) (λxv s₁ p7=>ad p7 (λit s₂ x3=>?_) az) az)
 obtain⟨F₀,S,rfl,s1,a5,b1,K,k0,self⟩:=x3
 have h4:=I.keep a5 s1
 refine r3 ?_
 refine dn (bJ h4.go t s₂.toks) λt2 Z nD=>?_
 have b3:=a5.trans Z
 have x5:W.H.objs.size<=s₂.heap.objs.size:=h4.g.siz
 have m0:=(nv I).lent (F:=⟨[],[]⟩) (F':=⟨s₂.heap.objs.size::F₀.a,F₀.g⟩) b3 t2 ⟨λa m=>(aC.mp m).elim (λe=>.inr (e▸a5.siz)) (b1.a a),b1.g⟩
  ⟨λa m=>(aC.mp m).elim (λe=>by subst e;exact⟨x5,by show _<(s₂.heap.push _).objs.size;rw[bi];exact dR _⟩) λm=>⟨(K.a a m).1,aA (K.a a m).2 Z.siz⟩,K.g⟩ (λS m=>absurd m av) (λS S S m=>absurd m av)
 refine(uE m0 ok (λY N M' g₄ P f5 r5 x1=>?_)).2
 generalize c5:s₂.heap.objs.size=D at *
 have m4:(s₂.heap.push t).get? D=some t:=by rw[← c5];exact bf _ hnf
 generalize c6:({ s₂ with heap:=s₂.heap.push t,toks:=s₂.toks }:Shared)=i at *
 have b2:i.heap.get? D=some t:=by rw[← c6];exact m4
 have a4:D<i.heap.objs.size:=aO b2
 have c4:s.heap.objs.size<=D:=by rw[← c5];exact a5.siz
 refine dn x1 λhL hMb hcc=>?_
 have a3:aF s i:=a5.trans Z
 have clt:∀y c,env.cells.lookup y=some c->c<s.heap.objs.size:=λy c h=>(I.cells y c h).elim λS hv=>hv.lt
 have fM:∀a∈M'.a,i.heap.objs.size<=a:=λa m=>(f5.a a m).elim (λh=>absurd h av) id
 have gM:∀a∈M'.g,i.gens.size<=a:=λa m=>(f5.g a m).elim (λh=>absurd h av) id
 have k3:∀a∈F₀.a,s.heap.objs.size<=a:=λa m=>(b1.a a m).elim (λh=>absurd h av) id
 have l2:∀a∈F₀.g,s.gens.size<=a:=λa m=>(b1.g a m).elim (λh=>absurd h av) id
 have hgs:i.gens=s₂.gens:=by rw[← c6]
 have a2:∀a∈F₀.a,a<D:=λa m=>by rw[← c5];exact(K.a a m).2
 generalize x6:({ Y with scope:=relabel scope env }:Env)=ce at *
 have h3:ce.locals=Y.locals:=by rw[← x6]
 have u0:ce.cells=Y.cells:=by rw[← x6]
 have g1:∀(F:Fp),(∀a∈F.a,s.heap.objs.size<=a)->(∀a∈F.a,a∉M'.a)->∀y c,ce.cells.lookup y=some c->c∉F.a:=λF h1 h2 y c hc hm=>by
  rw[u0] at hc
  rcases hcc y c hc with h | h
  ·exact h2 c hm h
  ·exact aw.mpr (h1 c hm) (clt y c h)
 let E:Fp->Fp:=λF=>⟨D::F.a,F.g⟩
 let Iv:Nat->Shared->Prop:=Gk W C' ce σ' n tgt it f l acc s D (O++M.a) M'
 have x7:D<N.heap.objs.size:=aA a4 P.siz
 have c1:bC F₀ s₂ N:=(Z.stays (λS S=>av) (λS S=>av)).trans (P.stays (λS S=>av) (λS S=>av))
 have c2:Inv W C' ce ⟨σ',[]⟩ ((O++M.a)++(E F₀).a) M' N:=r5.perm λa=>by
  simp only[List.mem_append,E,List.mem_cons]
  constructor
  ·rintro((h | h | h) | h)
   ·exact .inl (.inl h)
   ·exact .inr (.inl h)
   ·exact .inr (.inr h)
   ·exact .inl (.inr h)
  ·rintro((h | h) | h | h)
   ·exact .inl (.inl h)
   ·exact .inr h
   ·exact .inl (.inr (.inl h))
   ·exact .inl (.inr (.inr h))
 have k4:Iv l.length N:=by
  refine⟨[],l,F₀,t,rfl,rfl,a3.trans P,k3,l2,⟨λa m=>(aC.mp m).elim (λe=>by rw[e];exact⟨x5,x7⟩) λm=>⟨(K.a a m).1,dI (a2 a m) x7⟩,λa m=>aA (K.g a m) (ae Z.gsz P.gsz)⟩,
   λa m m'=>aw.mpr (fM a m') ((aC.mp m).elim (λe=>e▸a4) λm=>dI (a2 a m) a4),λa m m'=>aw.mpr (gM a m') (by rw[hgs];exact K.g a m),λm=>bz _ (a2 D m),c2,
   P.obj' b2 (acc.nt (f1 (λS=>none))),f1 _,k0.move c1 cW λa o e c=>?_⟩
  have hn:=a8 e
  have h1:=af e
  simp only[List.mem_append,not_or] at hn
  have e3:=aO h1
  refine aK (P.obj' (Z.obj' h1 c) c) λm=>?_
  simp only[List.mem_append,E,List.mem_cons] at m
  rcases m with((m | m) | m | m) | m
  ·exact hn.1.1 m
  ·exact hn.1.2 m
  ·rw[c5,m] at e3;exact bz _ e3
  ·exact hn.2 m
  ·rw[c5] at e3;exact aw.mpr (fM a m) (dI e3 a4)
 have v8:∀k s',Iv k s'->wpAny (model prg W.w) A (pyNext it) (λr s₁=>match r with
   | none=>compPost (model prg W.w) A Nev use Q (.ref D) Y.locals (.ok .next) s₁
   | some v=>wpAny (model prg W.w) A (letOwnedTupleGo tgt it v) (λS n3=>wpAny (model prg W.w) A (assign tgt ce v) (λS s₂ =>
     wpAny (model prg W.w) A (forIn ifs true λc r=>if r=true then do let ok ← isTrue c ce (eval c ce);pure (ForInStep.yield ok) else pure (ForInStep.yield r)) (λok i =>
      if ok=true then wpAny (model prg W.w) A (b4 ce D) (λS d=>∃m,m<k/\Iv m d) Nev i
      else ∃m,m<k/\Iv m i) Nev s₂) Nev n3) Nev s₁) Nev s':=by
  intro k s' p4
  obtain⟨Rd,Rs,F,o,b6,rfl,kp,fr,fg,bF,dj,e1,k1,I',q7,R,u5⟩:=p4
  have hF:∀a∈F.a,a∈((O++M.a)++(E F).a)++M'.a:=λa m=>aq _ (al _ (bt _ m))
  have f3:∀a∈F.a,a∈(E F).a:=λa m=>bt _ m
  have w7:D<s'.heap.objs.size:=(bF.a D (.head _)).2
  have s3:=g1 (E F) (λa m=>(aC.mp m).elim (λe=>e▸c4) (fr a)) dj
  have h7:Ext s ⟨[],[]⟩ (E F):=⟨λa m=>.inr ((aC.mp m).elim (λe=>e▸c4) (fr a)),λa m=>.inr (fg a m)⟩
  have r2:Ext s ⟨[],[]⟩ M':=⟨λa m=>.inr (ae a3.siz (fM a m)),λa m=>.inr (ae a3.gsz (gM a m))⟩
  cases Rs with
  | nil =>
   refine ad (u5 W.frs A s' _ rm I'.go (bC.refl _ _) cW hF (Vle.refl _)) (λr s₁ h=>?_) az
   refine dn h λz1_ f6 h9=>?_
   obtain rfl:=z1_
   have kL:ak (E F) s' s₁:=bK h9 f3 (λS m=>m)
   have w5:InB W (E F) s₁:=⟨λa m=>⟨(bF.a a m).1,aA (bF.a a m).2 kL.siz⟩,λa m=>aA (bF.g a m) kL.gsz⟩
   have h0:=I'.lent kL f6 (Ext.refl _ _) w5 dj s3
   refine bc h0.loc λv9 l1 S=>?_
   rw[c0] at b6
   subst b6
   refine hQ D Y.locals s₁ o f6 (kp.of_ext h7 kL) (h9.obj D _ k1 q7 (acc.nt R)) ?_ ⟨v9,by rw[← h3];exact l1⟩ (by rw[hL];exact a3.siz) c4 (by rw[hL];exact lD a4)
   refine acc.mono ?_ R
   exact(qJ kL (Ext.refl _ _)).trans (bG λa m=>(aj.mp m).elim (λm=>aq _ (aq _ m)) λm=>al _ (by rw[ah.mp m,← h3];exact h0.own))
  | cons T Rs =>
   refine ad (u5 W.frs A s' _ rm I'.go (bC.refl _ _) cW hF (Vle.refl _)) (λr s₁ h=>?_) az
   obtain⟨v,rfl,h⟩:=h
   refine ad h (λS d r1=>?_) az
   obtain⟨F',w8,f2,X,h5,hT,x4⟩:=r1
   have kL:ak (E F) s' d:=bK f2 f3 (λS m=>m)
   have xL:Ext s' (E F) (E F'):=⟨λa m=>(aC.mp m).elim (λe=>.inl (e ▸ .head _)) λm=>(X.a a m).elim (λh=>.inl (bt _ h)) .inr,X.g⟩
   have bL:InB W (E F') d:=⟨λa m=>(aC.mp m).elim (λe=>by rw[e];exact⟨(bF.a D (.head _)).1,aA w7 kL.siz⟩) (h5.a a),h5.g⟩
   have w3:=I'.lent kL w8 xL bL dj s3
   have s2:∀a∈F'.a,s.heap.objs.size<=a:=λa m=>(X.a a m).elim (fr a) (ae kp.siz)
   have fg':∀a∈F'.g,s.gens.size<=a:=λa m=>(X.g a m).elim (fg a) (ae kp.gsz)
   have d8:∀a∈(E F').a,a∉M'.a:=λa m m'=>(xL.a a m).elim (λh=>dj a h m') λh=>aw.mpr h (I'.up a (al _ m')).2
   have g0:D∉F'.a:=λm=>(X.a D m).elim k1 λh=>aw.mpr h w7
   have u3:∀a∈F'.g,a∉M'.g:=λa m m'=>(X.g a m).elim (λh=>e1 a h m') λh=>aw.mpr h (I'.upg a m')
   have hT':(f T).p (am d.heap (((O++M.a)++(E F').a)++M'.a)) v:=(f T).mono (bG λa m=>by
    simp only[List.mem_append,E,List.mem_cons] at m ⊢
    rcases m with(m | m | m) | m
    ·exact .inl (.inl (.inl m))
    ·exact .inl (.inl (.inr (.inl m)))
    ·exact .inr m
    ·exact .inl (.inr m)) hT
   refine ad (has T ⟨σ',[]⟩ A ce _ M' d v rm w3 hT') (λS p8 p5=>?_) az
   refine ck p5 λa1 f8=>?_
   have v2:T∈l:=by rw[b6];exact al _ (.head _)
   refine ad (ht T v2 A ce _ M' p8 rm f8) (λokk B r0=>?_) az
   refine dn r0 λz2_ h6 J=>?_
   obtain rfl:=z2_
   have f0:=f8.keep J h6
   have k2:aF s d:=kp.of_ext h7 kL
   have n2:aF s B:=(k2.of_ext r2 a1).trans J
   have p9:Ext s ⟨[],[]⟩ ⟨[D],[]⟩:=⟨λa m=>.inr (ah.mp m▸c4),λS m=>absurd m av⟩
   have x0:=g1 (E F') (λa m=>(aC.mp m).elim (λe=>e▸c4) (s2 a)) d8
   have t1:Vle (am d.heap (((O++M.a)++(E F').a)++M'.a)) (am B.heap (((O++M.a)++(E F').a)++M'.a)):=(a1.vle (Ext.refl _ _)).trans (J.vle0 _)
   have vX:Vle (am s'.heap (((O++M.a)++(E F).a)++M'.a)) (am B.heap (((O++M.a)++(E F').a)++M'.a)):=(qJ kL xL).trans t1
   have a6:=acc.mono vX R
   have b5:B.heap.get? D=some o:=J.obj' (a1.obj D _ (d8 D (.head _)) (f2.obj D _ k1 q7 (acc.nt R)) (acc.nt R)) (acc.nt R)
   have c7:∀b o',ak ⟨[D],[]⟩ B b->G W b->b.heap.get? D=some o'->acc.p (Rd++[T]) (am b.heap (((O++M.a)++(E F').a)++M'.a)) o'->∃m,m<(T::Rs).length/\Iv m b:=λb o' kE r4 n0 n4=>by
    have r6:ak (E F') B b:=bK kE (λa m=>ah.mp m ▸ .head _) (λS m=>absurd m av)
    have x2:d.heap.objs.size<=b.heap.objs.size:=ae a1.siz (ae J.siz kE.siz)
    have v1:d.gens.size<=b.gens.size:=ae a1.gsz (ae J.gsz kE.gsz)
    have h8:InB W (E F') b:=⟨λa m=>⟨(bL.a a m).1,aA (bL.a a m).2 x2⟩,λa m=>aA (bL.g a m) v1⟩
    have Iw:Inv W C' ce ⟨σ',[]⟩ ((O++M.a)++(E F').a) M' B:=f0.weak (Γ':=⟨σ',[]⟩) (λq U hq=>hu T q U hq) rfl
    refine⟨Rs.length,dR _,Rd++[T],Rs,F',o',by rw[b6,iu];rfl,rfl,n2.of_ext p9 kE,s2,fg',h8,d8,u3,g0,Iw.lent r6 r4 (Ext.refl _ _) h8 d8 x0,n0,n4,x4.move ((a1.stays (λa m=>d8 a (bt _ m)) (λa m=>u3 a m)).trans ((J.stays (λS S=>av) (λS S=>av)).trans (kE.stays (λa m z=>g0 (ah.mp z▸m)) (λS S=>av)))) cW ?_⟩
    ·refine Vle.trans (bG λa m=>?_) (t1.trans (qJ r6 (Ext.refl _ _)))
     simp only[List.mem_append,E,List.mem_cons] at m ⊢
     rcases m with(m | m | m) | m
     ·exact .inl (.inl (.inl m))
     ·exact .inl (.inl (.inr (.inl m)))
     ·exact .inr m
     ·exact .inl (.inr m)
   cases g2:e0 T with
   | false =>
    exact c7 B o (ak.refl _ _) h6 b5 (s6 Rd T _ o g2 a6)
   | true =>
    refine ad (he Rd T Rs b6 g2 A ce _ M' B D o rm f0 (al _ (.head _)) b5 a6) (λy x8 w4=>?_) az
    obtain⟨o',p6,u6,n1,i2⟩:=w4
    exact c7 x8 o' u6 p6 n1 i2
 have e4:codeAny (model prg W.w) A (.compLoop e 0 it (.ref D) ce) (λr s'=>compPost (model prg W.w) A Nev use Q (.ref D) Y.locals r s') N:=qK kd Iv v8 l.length k4
 refine kd.start e4 (ad (self W.frs A N _ rm c2.go c1) (λv s' h=>?_) az)
 refine ck h λz3_ z4_=>?_
 obtain rfl:=z3_
 obtain rfl:=z4_
 exact e4
theorem uH(hs:Heap.SameBut L h h'):Vle (am h (O++[L])) (am h' O):=λa o e c=>by
 have b:=a8 e
 simp only[List.mem_append,List.mem_singleton,not_or] at b
 exact aK ((hs.2 a b.2).trans (af e)) b.1
noncomputable def nH{ι:Type}(b:ι->Option Ty):uF ι where
 p:=λd V o=>∃(vs:List Value) (c:Nat),o={ cls:=.type "list",dict:=none,data:=.seq vs.toArray c,slots:=#[] }/\ay V (d.filterMap b) vs
 mono:=λh q=>by obtain⟨vs,c,e,a⟩:=q;exact⟨vs,c,e,ay.mono h a⟩
 nt:=λq=>by obtain⟨vs,c,e,f⟩:=q;subst e;rfl
 nf:=λq=>by obtain⟨vs,c,e,f⟩:=q;subst e;exact⟨_,rfl,by decide⟩
theorem sA{ι:Type}{d:ι->Option Ty}{T:ι}{i:List ι}(B:d T=some U)(hz:i.length<=sizeLine)(x:EvP W C' Γ' n elt U){A env O M s D o}(F:aU W A n)(I:Inv W C' env Γ' O M s)(r:D∈O)(t:s.heap.get? D=some o)(j:(nH d).p i (am s.heap (O++M.a)) o):
  wpAny (model prg W.w) A (do let _ ← call (.builtin "list.append") [.ref D,← eval elt env]) (λG s'=>Emt W D ((nH d).p (i++[T])) (O++M.a) s s') Nev s:=by
 refine jJ j λvs c m q=>?_
 obtain rfl:=m
 refine aa (ad (x A env O M s F I) (λy s₁ f=>?_) az)
 refine dn f λh b u=>?_
 have k:vs.length<=sizeLine:=by
  have E:=ay.len q
  have C:(i.filterMap d).length<=i.length:=pV _ _
  exact ae (aH E) (ae C hz)
 refine aa (pW ⟨c,b.obj' t rfl⟩ (λh' j e=>ac ?_) (by simpa using k))
 refine dK j λc' j=>?_
 have l:=(I.up D (aq _ r)).1
 refine⟨_,h.upd (tk:=s₁.toks) l e (.inl ⟨_,b.obj' t rfl,λG G z=>by cases z⟩),(ak.ofK b:ak ⟨[D],[]⟩ s s₁).trans (j5 e (.head _)),j,vs++[y],c',by simp,?_⟩
 have g:Vle (am s₁.heap (O++M.a)) (am h' (O++M.a)):=cm (aq _ r) e
 rw[List.filterMap_append]
 have v:[T].filterMap d=[U]:=by simp[B]
 exact v▸(ay.append (ay.mono g (ay.mono (b.vle0 _) q)) ⟨U.mono g u,trivial⟩)
theorem uI(h:Q (.ref s.heap.objs.size) { s with heap:=s.heap.push { cls:=.type "list",dict:=none,data:=.seq ([]:List Value).toArray,slots:=#[] },toks:=s.toks }):wpAny (model prg W.w) A (newList []) Q Nev s:=dQ h
theorem Gl{ι:Type}(l:List ι)(f:ι->Ty)(b:ι->Option Ty)(u:ι->Kn->Kn)(Z:∀T,(u T ⟨σ',[]⟩).h=[])(K:∀T,j1 W C' n tgt (f T) (u T))(Y:∀T (j:Nat) (U:Ty),σ'[j]? = some (some U)->(u T ⟨σ',[]⟩).v[j]? = some (some U))(hit:io W C Γ n tgt iter (λTs=>Ts=l.map f))(ok:qI C Γ scope C' σ')(r:∀x∈scope.names,x.2 = .local->scope.names.lookup x.1=some .local)(hz:l.length<=sizeLine)(X:∀T∈l,ip W C' (u T ⟨σ',[]⟩) n ifs (b T).isSome)(w:∀T∈l,∀U,b T=some U->EvP W C' (u T ⟨σ',[]⟩) n elt U)(hs:∀env y,foldedSetIterable iter env y=pure y):
  EvP W C Γ n (.ListComp elt [⟨tgt,iter,ifs,0⟩] scope pos) (bw (l.filterMap b)):=λA env O M s J I=>by
 refine ou sy l f (λT=>(b T).isSome) u Z K Y hit ok r _ rfl _ uI (nH b) (λV=>⟨[],0,rfl,trivial⟩) (λRd T V o p z=>by
   refine jJ z λvs c e a=>?_
   refine⟨vs,c,e,?_⟩
   have:b T=none:=by cases h:b T with | none=>rfl | some _=>rw[h] at p;cases p
   simpa[this] using a) X (λRd T Us e p A env O M s D o J I R t z=>?_) J I (use:=none) (hs env) λD L s' o g k t p N i H B=>?_
 ·refine dK (mM.mp p) λU P=>?_
  exact sA P (by have:=aY List.length e;rw[dU] at this;exact ae (aW _ _) (ae (aH this.symm) hz)) (w T (by rw[e];exact al _ (.head _)) U P) J I R t z
 ·refine⟨N.choose,N.choose_spec,λh' d=>⟨g.upd0 (tk:=s'.toks) (ae I.g.siz i) d (ir λe m w=>absurd (I.g.frlt m w) (aw.mpr i)),?_,?_⟩⟩
  ·exact ak.of_ext (M:=⟨[],[]⟩) (M':=⟨[L],[]⟩) k ⟨λa m=>.inr (ah.mp m▸i),λG m=>absurd m av⟩ (j5 (F:=⟨[L],[]⟩) d (.head _))
  ·refine jJ p λvs c E Q=>?_
   obtain rfl:=E
   have q:D∉O++M.a:=λm=>aw.mpr H (I.up D m).2
   exact⟨vs,⟨D,c,rfl,aK ((d.2 D B).trans t) q⟩,ay.mono (uH d) Q⟩
theorem qL{ι:Type}{acc:uF ι}{l:List ι}(hT:∀V D o,V D=some o->acc.p l V o->T.p V (.ref D))(j:Nat)(hj:C.names[j]? = some y)(E:fe C y=true)(hP:P (.next (Γ.set j T))){A env O M s D L s' o}(rm:aU W A n)(I:Inv W C env Γ O M s)(g:G W s')(k:aF s s')(Y:s'.heap.get? D=some o)(hp:acc.p l (am s'.heap ((O++M.a)++[L])) o)(X:∃m,s'.heap.Ns L m)(b:s.heap.objs.size<=L)(B:s.heap.objs.size<=D)(N:D≠L):
  compPost (model prg W.w) A Nev (some (assign (.Name y py) env)) (λS s'=>nu W C env O M s P .next s') (.ref D) L (.ok .next) s':=by
 refine dK X λU t=>?_
 have H:∀y c,env.cells.lookup y=some c->c<s.heap.objs.size:=λy c h=>(I.cells y c h).elim λS hv=>hv.lt
 have J:InB W ⟨[L],[]⟩ s':=⟨λa m=>by rw[ah.mp m];exact⟨ae I.g.siz b,t.lt⟩,λS m=>absurd m av⟩
 have Q:∀a∈(⟨[L],[]⟩:Fp).a,a∉M.a:=λa m R=>by rw[ah.mp m] at R;exact aw.mpr b (I.up L (al _ R)).2
 have hc:∀y c,env.cells.lookup y=some c->c∉(⟨[L],[]⟩:Fp).a:=λy c h m=>by rw[ah.mp m] at h;exact aw.mpr b (H y L h)
 have x:Inv W C env Γ (O++(⟨[L],[]⟩:Fp).a) M s':=(nv I).lent (F:=⟨[],[]⟩) (F':=⟨[L],[]⟩) k g ⟨λa m=>.inr (ah.mp m▸b),λS m=>absurd m av⟩ J (λS m=>absurd m av) (λS S S m=>absurd m av)
 have e:am s'.heap ((O++M.a)++[L])=am s'.heap ((O++(⟨[L],[]⟩:Fp).a)++M.a):=cr λa=>by
  simp only[List.mem_append]
  exact⟨λh=>h.elim (λh=>h.elim (λh=>.inl (.inl h)) .inr) (λh=>.inl (.inr h)),λh=>h.elim (λh=>h.elim (λh=>.inl (.inl h)) .inr) (λh=>.inl (.inr h))⟩
 have nD:D∉(O++(⟨[L],[]⟩:Fp).a)++M.a:=λm=>by
  simp only[List.mem_append,List.mem_singleton] at m
  rcases m with(m | m) | m
  ·exact aw.mpr B (I.up D (aq _ m)).2
  ·exact N m
  ·exact aw.mpr B (I.up D (al _ m)).2
 have K:T.p (am s'.heap ((O++(⟨[L],[]⟩:Fp).a)++M.a)) (.ref D):=hT _ D o (aK Y nD) (e▸hp)
 refine jx (ad (dB j hj (iV E) x K) (λS s₂ z=>?_) az)
 obtain⟨f,r⟩:=z
 have i:s₂.heap.Ns L U:=f.ns (Q L (.head _)) t
 refine⟨U,i,λh' v=>?_⟩
 have d:ak ⟨[L],[]⟩ s₂ { s₂ with heap:=h' }:=j5 (F:=⟨[L],[]⟩) v (.head _)
 have q:InB W ⟨[L],[]⟩ { s₂ with heap:=h' }:=⟨λa m=>⟨(J.a a m).1,aA (J.a a m).2 (ae f.siz d.siz)⟩,λS m=>absurd m av⟩
 have u:=(r.lent (F:=⟨[L],[]⟩) (F':=⟨[L],[]⟩) d (r.g.upd0 (tk:=s₂.toks) (ae I.g.siz b) v (ir λe m Z=>absurd (I.g.frlt m Z) (aw.mpr b))) (Ext.refl _ _) q Q hc).take q
 have kx:ak M s s₂:=(ak.ofK k).trans f
 exact⟨kx.of_ext (M':=⟨[L],[]⟩) ⟨λa m=>.inr (ah.mp m▸b),λS m=>absurd m av⟩ d,_,⟨λa m=>(aj.mp m).elim .inl λm=>.inr (ah.mp m▸b),λa m=>(aj.mp m).elim .inl λm=>absurd m av⟩,.next _,hP,u⟩
theorem Cr{ι:Type}{a:ι->Option Ty}{l:List ι}:∀V D o,V D=some o->(nH a).p l V o->(bw (l.filterMap a)).p V (.ref D):=λV D o h e=>by
 refine jJ e λvs c b d=>?_
 obtain rfl:=b
 exact⟨vs,⟨D,c,rfl,h⟩,d⟩
theorem th{ι:Type}(j:Nat)(l:List ι)(f:ι->Ty)(b:ι->Option Ty)(u:ι->Kn->Kn)(hh:∀T,(u T ⟨σ',[]⟩).h=[])(E:∀T,j1 W C' n tgt (f T) (u T))(H:∀T (j:Nat) (U:Ty),σ'[j]? = some (some U)->(u T ⟨σ',[]⟩).v[j]? = some (some U))(hit:io W C Γ n tgt iter (λTs=>Ts=l.map f))(K:qI C Γ scope C' σ')(m:∀x∈scope.names,x.2 = .local->scope.names.lookup x.1=some .local)(hz:l.length<=sizeLine)(Y:∀T∈l,ip W C' (u T ⟨σ',[]⟩) n ifs (b T).isSome)(he:∀T∈l,∀U,b T=some U->EvP W C' (u T ⟨σ',[]⟩) n elt U)(hs:∀env y,foldedSetIterable iter env y=pure y)(J:C.names[j]? = some y)(t:fe C y=true)(w:∀env:Env,swapsWith (.ListComp elt [⟨tgt,iter,ifs,0⟩] scope pos) (some (.Name y py)) spos.line { env with scope:=C.scope }=pure true)(hP:P (.next (Γ.set j (bw (l.filterMap b))))):StP W C Γ n (.Assign [.Name y py] (.ListComp elt [⟨tgt,iter,ifs,0⟩] scope pos) spos) P:=λA env O M s i I=>by
 rw[exec_Assign_Name_used _ _ _ _ (by rw[I.ok.eq];exact w env)]
 refine aa (ct (aa ?_))
 refine(?_:wpAny _ A (do let _ ← comprehension (.ListComp elt [⟨tgt,iter,ifs,0⟩] scope pos) scope env _ (newList []) false (eval iter env) (some (assign (.Name y py) env))) _ _ s)
 refine aa (ad (ou sy l f (λT=>(b T).isSome) u hh E H hit K m _ rfl _ uI (nH b) (λV=>⟨[],0,rfl,trivial⟩) (λN T V o d q=>by
   refine jJ q λvs c e a=>?_
   refine⟨vs,c,e,?_⟩
   have:b T=none:=by cases h:b T with | none=>rfl | some _=>rw[h] at d;cases d
   simpa[this] using a) Y (λN T Us e d A env O M s D o i I X z q=>?_) i I (use:=some (assign (.Name y py) env)) (Q:=λG s'=>nu W C env O M s P .next s') (hs env) λD L s' o g k z d R r B p=>?_)
  (λG s' Z=>ac (ac Z)) az)
 ·refine dK (mM.mp d) λU F=>?_
  exact sA F (by have:=aY List.length e;rw[dU] at this;exact ae (aW _ _) (ae (aH this.symm) hz)) (he T (by rw[e];exact al _ (.head _)) U F) i I X z q
 ·exact qL Cr j J t hP i I g k z d R r B p
abbrev aD(l:List Nat):Ty:=bw (l.map ag)
theorem sB{l:List Nat}:∀{vs:List Value},ay V (l.map ag) vs->∀v∈vs,∃k t,v = .int (k:Nat) t:=by
 induction l with
 | nil =>
  intro vs h v m
  rw[ay.nil_iff h] at m
  exact nM m
 | cons a l ih =>
  intro vs h v b
  obtain⟨w,f,rfl,d,c⟩:=ay.cons_iff h
  rcases aC.mp b with e | b
  ·subst e;obtain⟨t,e⟩:=d;exact⟨a,t,e⟩
  ·exact ih c v b
theorem l3{l:List Nat}:∀{vs:List Value},ay V (l.map ag) vs->vs.any (λv=>match v with | .int i _=>i==(k:Int) | _=>false)=l.contains k:=by
 induction l with
 | nil =>
  intro vs h
  rw[ay.nil_iff h];rfl
 | cons a l ih =>
  intro vs h
  obtain⟨w,d,rfl,c,b⟩:=ay.cons_iff h
  obtain⟨t,e⟩:=c
  subst e
  rw[pC,ih b,List.contains_cons]
  congr 1
  refine(?_:((a:Int)==(k:Int))=(k==a))
  rw[dy];rw[aL];exact mO.trans (eq_comm.trans aL.symm)
theorem Ec:iz W n .In (ag k) (aD l) (l.contains k):=λA O s x y m g h f=>by
 obtain⟨t,rfl⟩:=h
 obtain⟨vs,⟨a,c,rfl,d⟩,b⟩:=f
 have e:=l3 (k:=k) b
 refine PySem.SeqRoads2.in_list (items:=vs.toArray) (n:=c) (λv=>match v with | .int i _=>i==(k:Int) | _=>false) (λv j=>?_) (af d) ?_
 ·obtain⟨q,u,rfl⟩:=sB b v (List.mem_toArray.mp j)
  exact PySem.MeetsSeq.EqGives.int _ _ _ _
 ·refine⟨g.g,aF.refl s,?_⟩
  refine(?_:_=Value.bool _)
  rw[← e,List.any_toArray]
theorem uJ:iz W n .NotIn (ag k) (aD l) (!l.contains k):=λA O s x y m g h f=>by
 obtain⟨t,rfl⟩:=h
 obtain⟨vs,⟨a,c,rfl,d⟩,b⟩:=f
 have e:=l3 (k:=k) b
 refine PySem.SeqRoads2.notIn_list (items:=vs.toArray) (n:=c) (λv=>match v with | .int i _=>i==(k:Int) | _=>false) (λv j=>?_) (af d) ?_
 ·obtain⟨q,u,rfl⟩:=sB b v (List.mem_toArray.mp j)
  exact PySem.MeetsSeq.EqGives.int _ _ _ _
 ·refine⟨g.g,aF.refl s,?_⟩
  refine(?_:_=Value.bool _)
  rw[← e,List.any_toArray]
theorem ee{ι:Type}(p:ι->Bool)(f:ι->Ty):∀l:List ι,(l.filterMap λk=>if p k=true then some (f k) else none)=(l.filter p).map f:=by
 intro l
 induction l with
 | nil =>
  exact rfl
 | cons a l ih =>
  rw[List.filterMap_cons,kI,ih]
  cases p a <;> rfl
noncomputable def uK(C:Cx)(a:List Bool)(scope:Scope)(C':Cx)(b:List Bool):Bool :=
 Ab C'&&scope.kind == .function&&decide (scope.names.map (·.1)).Nodup &&
 scope.names.all (λp=>p.2 != .free||(C.scope.names.lookup p.1 != some .local&&(List.range C.names.length).any λj=>C.names[j]? == some p.1&&a[j]? == some true)) &&
 C'.own.all (λx=>scope.names.contains (x,.cell)) &&
 (C'.names.zip b).all (λp=>!p.2||(scope.names.contains (p.1,.free)&&(C'.scope.names.lookup p.1==some .cell||C'.scope.names.lookup p.1==some .free))) &&
 scope.names.all (λp=>p.2 != .local||scope.names.lookup p.1==some .local)
noncomputable def pq(C:Cx)(v:List (Option Ty)):List Str->List (Option Ty)->Prop
 | x::xs,some T::ts=>(∃(j:Nat),C.names[j]? = some x/\v[j]? = some (some T))/\pq C v xs ts
 | _::xs,none::ts=>pq C v xs ts
 | _,_=>True
theorem pq.at{v:List (Option Ty)}{xs:List Str}:∀{a:List (Option Ty)},pq C v xs a->∀{i:Nat} {x:Str} {T:Ty},xs[i]? = some x->a[i]? = some (some T)->∃(j:Nat),C.names[j]? = some x/\v[j]? = some (some T):=by
 induction xs with
 | nil=>exact λd d d d h d=>nS h
 | cons y ys ih =>
  intro a b i x T h h'
  cases a with
  | nil=>exact nS h'
  | cons U us =>
   cases i with
   | zero =>
    have e:=fU h
    have c:=fU h'
    subst e c
    exact b.1
   | succ i =>
    cases U with
    | none=>exact ih b h h'
    | some U=>exact ih b.2 h h'
theorem xK{v:List (Option Ty)}(h:scope.names.all (λp=>p.2 != .free||(C.scope.names.lookup p.1 != some .local&&(List.range C.names.length).any λj=>C.names[j]? == some p.1&&(v.map Option.isSome)[j]? == some true))=true)(f:(x,NameKind.free)∈scope.names):
  (∃(j:Nat) (T:Ty),C.names[j]? = some x/\v[j]? = some (some T))/\C.scope.names.lookup x≠some .local:=by
 obtain⟨c,d⟩:=bP.mp ((jX.mp (bd.mp h _ f)).resolve_left λz=>kJ.mp z rfl)
 obtain⟨j,g,b⟩:=cn.mp d
 obtain⟨b,a⟩:=bP.mp b
 have a:=aL.mp a
 rw[dw] at a
 refine⟨⟨j,?_⟩,kJ.mp c⟩
 cases e:v[j]? with
 | none=>rw[e] at a;cases a
 | some o =>
  cases o with
  | none=>rw[e] at a;cases a
  | some T=>exact⟨T,aL.mp b,rfl⟩
theorem xM{ns:List Str}{i:Nat}(b:ns[i]? = some x)(a:σ[i]? = some (some T)):(x,true)∈ns.zip (σ.map Option.isSome):=by
 refine be (i:=i) ?_
 rw[List.getElem?_zip_eq_some]
 exact⟨b,by rw[dw,a];rfl⟩
theorem lK(h:uK C (Γ.v.map Option.isSome) scope C' (σ'.map Option.isSome)=true)(c:C'.scope=nE scope C)(b:C'.code=C.code)(l:pq C Γ.v C'.names σ'):
  qI C Γ scope C' σ'/\(∀x∈scope.names,x.2 = .local->scope.names.lookup x.1=some .local):=by
 unfold uK at h
 obtain⟨h,q⟩:=bP.mp h
 obtain⟨h,n⟩:=bP.mp h
 obtain⟨h,k⟩:=bP.mp h
 obtain⟨h,g⟩:=bP.mp h
 obtain⟨h,o⟩:=bP.mp h
 obtain⟨p,m⟩:=bP.mp h
 refine⟨⟨b,c,xH p,aL.mp m,ci o,λx a=>xK g a,λx a=>ba.mp (bd.mp k x a),λi x T d e=>?_⟩,λx a r=>aL.mp ((jX.mp (bd.mp q x a)).resolve_left λz=>kJ.mp z r)⟩
 rcases jX.mp (bd.mp n _ (xM d e)) with h | h
 ·cases h
 ·obtain⟨f,j⟩:=bP.mp h
  exact⟨ba.mp f,(jX.mp j).imp aL.mp aL.mp,l.at d e⟩
noncomputable abbrev cC(scope:Scope)(C:Cx)(ns a:List Str):Cx:=⟨nE scope C,ns,a,C.code⟩
theorem lc{ι:Type}(ns b:List Str)(σ':List (Option Ty))(l:List ι)(f:ι->Ty)(a:ι->Option Ty)(u:ι->Kn->Kn)(hit:io W C Γ n tgt iter (λTs=>Ts=l.map f))(hz:l.length<=sizeLine)(c:∀T,j1 W (cC scope C ns b) n tgt (f T) (u T))(i:∀T (j:Nat) (U:Ty),σ'[j]? = some (some U)->(u T ⟨σ',[]⟩).v[j]? = some (some U))(m:∀T∈l,ip W (cC scope C ns b) (u T ⟨σ',[]⟩) n ifs (a T).isSome)(g:∀T∈l,∀U,a T=some U->EvP W (cC scope C ns b) (u T ⟨σ',[]⟩) n elt U)(d:pq C Γ.v ns σ')(k:autoParam (∀T,(u T ⟨σ',[]⟩).h=[]) q_R)(e:autoParam (uK C (Γ.v.map Option.isSome) scope (cC scope C ns b) (σ'.map Option.isSome)=true) q_K)(hs:autoParam (∀env y,foldedSetIterable iter env y=pure y) q_R):
  EvP W C Γ n (.ListComp elt [⟨tgt,iter,ifs,0⟩] scope pos) (bw (l.filterMap a)) :=
 Gl l f a u k c i hit (lK e rfl rfl d).1 (lK e rfl rfl d).2 hz m g hs
theorem sC{ι:Type}(ns c:List Str)(σ':List (Option Ty))(j:Nat)(l:List ι)(f:ι->Ty)(a:ι->Option Ty)(u:ι->Kn->Kn)(hit:io W C Γ n tgt iter (λTs=>Ts=l.map f))(hz:l.length<=sizeLine)(g:∀T,j1 W (cC scope C ns c) n tgt (f T) (u T))(p:∀T (j:Nat) (U:Ty),σ'[j]? = some (some U)->(u T ⟨σ',[]⟩).v[j]? = some (some U))(s:∀T∈l,ip W (cC scope C ns c) (u T ⟨σ',[]⟩) n ifs (a T).isSome)(o:∀T∈l,∀U,a T=some U->EvP W (cC scope C ns c) (u T ⟨σ',[]⟩) n elt U)(i:pq C Γ.v ns σ')(m:ExP W C (Γ.set j (bw (l.filterMap a))) n b P)(r:autoParam (∀T,(u T ⟨σ',[]⟩).h=[]) q_R)(k:autoParam (uK C (Γ.v.map Option.isSome) scope (cC scope C ns c) (σ'.map Option.isSome)=true) q_K)(q:autoParam (C.names[j]? = some y) q_R)(d:autoParam (fe C y=true) q_K)(e:autoParam (∀env:Env,swapsWith (.ListComp elt [⟨tgt,iter,ifs,0⟩] scope pos) (some (.Name y py)) spos.line { env with scope:=C.scope }=pure true) q_R)(hs:autoParam (∀env y,foldedSetIterable iter env y=pure y) q_R):
  ExP W C Γ n (.Assign [.Name y py] (.ListComp elt [⟨tgt,iter,ifs,0⟩] scope pos) spos::b) P :=
 bT (th j l f a u r g p hit (lK k rfl rfl i).1 (lK k rfl rfl i).2 hz s o hs q d e m)
theorem bx(a:σ'[i]? = some none):∀(j:Nat) (U:Ty),σ'[j]? = some (some U)->((⟨σ',[]⟩:Kn).set i T).v[j]? = some (some U):=λj U h=>by
 refine(?_:(σ'.set i (some T))[j]? = _)
 rw[fP (λe=>by subst e;rw[a] at h;cases h)];exact h
theorem qM{V:Ty}(a:σ'[i]? = some none)(b:σ'[k]? = some none):∀(j:Nat) (U:Ty),σ'[j]? = some (some U)->(((⟨σ',[]⟩:Kn).set i T).set k V).v[j]? = some (some U):=λj U h=>by
 refine(?_:((σ'.set i (some T)).set k (some V))[j]? = _)
 rw[fP (λe=>by subst e;rw[b] at h;cases h),fP (λe=>by subst e;rw[a] at h;cases h)];exact h
noncomputable def xN:List (Option Ty)->List (Option Ty)->List (Option Ty)
 | [],v=>v
 | u::us,[]=>u::us
 | u::us,v::vs=>u.or v::xN us vs
noncomputable def ti(v u:List (Option Ty)):Prop:=xN u v=v
theorem ti.at{u v:List (Option Ty)}(s:ti v u):∀(j:Nat) (T:Ty),u[j]? = some (some T)->v[j]? = some (some T):=by
 induction u generalizing v with
 | nil=>exact λa a=>nS
 | cons u us ih =>
  cases v with
  | nil=>cases s
  | cons v vs =>
   intro j T h
   cases j with
   | zero=>cases h;exact aY some (g6 s).1.symm
   | succ j=>exact ih (g6 s).2 j T h
theorem j6(e:ti Γ.v Γ'.v)(a:Γ'.h=Γ.h)(h:ExP W C Γ' n b P):ExP W C Γ n b P:=λA env O M s f I=>by
 obtain⟨m,d,j⟩:=I.loc
 exact h A env O M s f ⟨I.g,I.ok,I.own,I.cel,I.up,I.upg,⟨m,d,λi x T c k=>j i x T c (e.at i T k)⟩,I.cells,by rw[a];exact I.phi,by rw[a];exact I.nod,I.top⟩
theorem ti.set{u v:List (Option Ty)}(s:ti v u)(j:Nat)(x:Option Ty):ti (v.set j x) (u.set j x):=by
 induction u generalizing v j with
 | nil=>rfl
 | cons u us ih =>
  cases v with
  | nil=>cases s
  | cons v vs =>
   cases j with
   | zero=>exact(congr (aY List.cons (by cases x <;> rfl)) (g6 s).2:x.or x::xN us vs=x::vs)
   | succ j=>exact(congr (aY List.cons (g6 s).1) (ih (g6 s).2 j):u.or v::xN (us.set j x) (vs.set j x)=v::vs.set j x)
structure Sub(Γ Γ₀:Kn):Prop where
 v:ti Γ.v Γ₀.v
 h:Γ₀.h=Γ.h
theorem Sub.set{a:Kn}(s:Sub Γ a)(i:Nat)(T:Ty):Sub (Γ.set i T) (a.set i T):=⟨s.v.set i _,s.h⟩
theorem cF{a:Kn}(s:Sub Γ a)(h:ExP W C a n b P):ExP W C Γ n b P:=j6 s.v s.h h
theorem gI{l:Expr}{Us:List Ty}(m:EvP W C Γ n l (bw Ts))(h:EvP W C Γ n r (bw Us))(hz:Ts.length+Us.length<=sizeLine):EvP W C Γ n (.BinOp l .Add r pos) (bw (Ts++Us)) :=
 il m h λA O s x y p g j k=>by
  obtain⟨vs,⟨a,c,rfl,i⟩,f⟩:=j
  obtain⟨b,⟨o,c',rfl,d⟩,e⟩:=k
  refine P.add_list (items:=vs.toArray) (items2:=b.toArray) (n:=c) (n2:=c') (af i) (af d) ?_ (by rw[e7,e7,ay.len f,ay.len e];exact hz)
  have:=ny (T := "list") (vs:=vs++b) g s.toks (ay.append f e)
  exact(show vs.toArray++b.toArray=(vs++b).toArray by simp)▸(this)
theorem dZ{Q:String}(p:Q = "list" ∨ Q = "tuple")(B:EvP W C Γ n value (ux Q Ts))(x:EvP W C Γ n slice (ag k))(z:Ts[k]? = some U)(q:k<2 ^ 60)(hs:autoParam (∀o i,subscripted slice false o i=operate [o,i] (getItem o i)) q_R):EvP W C Γ n (.Subscript value slice pos) U:=λA env O M s v I=>by
 refine aa (ad (B A env O M s v I) (λo s₁ d=>aa (aP (ad (x A env O M s₁ v (d.then I)) (λi s₂ b=>aa (ct ?_)) az))) az)
 have f:=(ux Q Ts).mono (b.2.1.vle0 _) d.2.2
 obtain⟨t,rfl⟩:=b.2.2
 obtain⟨vs,⟨a,c,rfl,m⟩,g⟩:=f
 obtain⟨u,j,y⟩:=ay.get g z
 have E:s₂.TypeIs (.ref a) Q:=⟨_,af m,rfl⟩
 have l:∃id,typeLookup (.type Q) "__getitem__" = pure (some (.builtin id)):=by
  rcases p with rfl | rfl
  ·exact⟨_,pX.lookup⟩
  ·exact⟨_,F.slot_tuple_getitem.lookup⟩
 obtain⟨id,l⟩:=l
 have D:wpAny (model prg W.w) A (getItem (.ref a) (.int (k:Int) t)) (λr e=>r=u/\e=s₂) Nev s₂:=by
  rcases p with rfl | rfl
  ·exact pY (items:=vs.toArray) ⟨_,af m,rfl,c,rfl⟩ oI (oF q) (by simpa using j) ⟨rfl,rfl⟩
  ·exact P.getItem_tuple (items:=vs.toArray) (n:=c) (k:=k) (af m) oI (oF q) (by rw[seqIndex_of oI (by have:=(b8.mp j).1;simpa using this)];simp) (by simpa using j) ⟨rfl,rfl⟩
 refine aa ?_
 refine aa (eM E l (ac ?_))
 rw[hs]
 refine aa (jA (ad D (λr e h=>aa (mP (ac ?_))) az))
 obtain⟨rfl,rfl⟩:=h
 exact⟨b.1,d.2.1.trans b.2.1,y⟩
theorem gz:jM W "isinstance" (.builtin "isinstance"):=⟨by kernel_rfl,by decide +kernel,by decide +kernel⟩
theorem Ai:jM W "int" (.type "int"):=⟨by kernel_rfl,by decide +kernel,by decide +kernel⟩
theorem eL:fc W "Fraction" 349:=by kernel_rfl
abbrev cFp:Cx:=⟨(fT 14).2.2,[S "number"],[],none⟩
theorem xO(h:∀l,ExP (W.at l) cFp ⟨[some T],[]⟩ n (fT 14).2.1 (jr R)):aM W (n+1) (.ref 205) [T] [] R:=s5 (fT 14) cFp [] λa=>h _
theorem j7{a:Int}:aM W (n+1) (.ref 205) [bh a] [] (bH [bh a,bh 1]) :=
 xO λb=>(dD (jO (ao (bl gz) kb (ar2 (nm 0) (gl _ eL)) au (rY (by kernel_rfl))))
  (fw (jO (ao (bl gz) kb (ar2 (nm 0) (bl Ai)) au qB)) (bB (cg (ar2 (nm 0) aJ)) (Ty.le_refl _))))
abbrev Gm(p q:Int):Ty:=de 349 [(S "numerator",bh p),(S "denominator",bh q)]
theorem xP{p q:Int}:aM W (n+1) (.ref 205) [Gm p q] [] (bH [bh p,bh q]) :=
 xO λa=>(fw (jO (ao (bl gz) kb (ar2 (nm 0) (gl _ eL)) au uz))
  (bB (cg (ar2 (dq (nm 0) (.head _) (by kernel_rfl) (λa=>by with_unfolding_all rfl)) (dq (nm 0) (.tail _ (.head _)) (by kernel_rfl) (λa=>by with_unfolding_all rfl)))) (Ty.le_refl _)))
noncomputable abbrev cFi:Cx:=⟨(fM 15 0).2.2,[S "self",S "numerator",S "denominator",S "upper",S "below",S "lower",S "above",S "divisor",S "rest"],[],none⟩
noncomputable abbrev Gn:FuncData:=fn (fM 15 0) (S "__init__") (S "Fraction.__init__") 3 [] (.ref 213) .none .none (.str (S "abcvoting.misc") 433) none (.ref 219) .none 0
theorem Cs:fc W "fraction_parts" 205:=by kernel_rfl
theorem sD{d:Ty}{p1 q1 p2 q2:Nat}(q:aM W n (.ref 205) [T1] [] (bH [ag p1,ag q1]))(m:aM W n (.ref 205) [d] [] (bH [ag p2,ag q2]))(j:q1≠0)(k:p2≠0)(l:p1<1000)(i:p2<1000)(p:q1<1000)(b4:q2<1000):
  ExP W cFi ⟨[some (gG 349 dx),some T1,some d,none,none,none,none,none,none],[(dx,dY [])]⟩ n (fM 15 0).2.1 (λo=>match o with | .next Γ'=>Γ'.h[0]? = some (dx,dY [(S "numerator",ag (p1*q2 / Nat.gcd (p1*q2) (p2*q1))),(S "denominator",ag (p2*q1 / Nat.gcd (p1*q2) (p2*q1)))]) | .ret Γ' T=>T.le cJ/\Γ'.h[0]? = some (dx,dY [(S "numerator",ag (p1*q2 / Nat.gcd (p1*q2) (p2*q1))),(S "denominator",ag (p2*q1 / Nat.gcd (p1*q2) (p2*q1)))]) | _=>False):=by
 have f:p2*q1≠0:=Nat.mul_ne_zero k j
 have bl:p2*q1<2 ^ 30:=aA (Nat.mul_lt_mul'' i p) (by decide)
 refine nA 3 4 (ao (gl _ Cs) kf (ar1 (nm 1)) au q) ?_
 refine nA 5 6 (ao (gl _ Cs) kf (ar1 (nm 2)) au m) ?_
 refine wt 3 5 (cg (ar2 (gv (nm 3) (nm 6) (dI l (by decide))) (gv (nm 5) (nm 4) (dI i (by decide))))) ?_
 refine dD (TsP.eq (cp (nm 5) aJ sm) (by simpa using⟨k,j⟩)) ?_
 refine wt 7 8 (cg (ar2 (nm 5) (iB (nm 3) (nm 5) f))) ?_
 refine nB (ι:={ x:Nat×Nat // Nat.gcd x.1 x.2=Nat.gcd (p1*q2) (p2*q1) }) (λx=>⟨[some (gG 349 dx),some T1,some d,some (ag (p1*q2)),some (ag q1),some (ag (p2*q1)),some (ag q2),some (ag x.1.1),some (ag x.1.2)],[(dx,dY [])]⟩) (λx=>x.1.2) (λx=>(x.1.2:Int) != 0)
  ⟨(p2*q1,p1*q2 % (p2*q1)),?_⟩ rfl (λx=>EK (nm 8)) (λx c=>?_) (λx c=>?_)
 ·rw[mQ,mQ (p1*q2),← Nat.gcd_rec]
 ·have b:x.1.2≠0:=by simpa using c
  refine wt 7 8 (cg (ar2 (nm 8) (iB (nm 7) (nm 8) b))) (aN ⟨⟨(x.1.2,x.1.1 % x.1.2),?_⟩,iL _ (mR b),rfl⟩)
  refine Eq.trans ?_ x.2
  refine(?_:Nat.gcd x.1.2 (x.1.1 % x.1.2)=_)
  exact(mQ _ _).trans ((Nat.gcd_rec x.1.2 x.1.1).symm.trans (mQ _ _))
 ·have b:x.1.2=0:=by simpa using c
  have e:x.1.1=Nat.gcd (p1*q2) (p2*q1):=by have:=x.2;rw[b,Nat.gcd_zero_right] at this;exact this
  have g:x.1.1≠0:=by rw[e];exact cE (Nat.gcd_pos_of_pos_right _ (mR f))
  have a:x.1.1<2 ^ 30:=by rw[e];exact bp (Nat.gcd_le_right _ (mR f)) bl
  exact sq (fs:=[]) 0 (EvP.eq (jj (nm 3) (nm 7) g a) (by rw[e])) js (nm 0) (sq (fs:=[(S "numerator",_)]) 0 (EvP.eq (jj (nm 5) (nm 7) g a) (by rw[e])) js (nm 0) (aN rfl))
noncomputable abbrev jP(p1 q1 p2 q2:Nat):Nat:=p1*q2 / Nat.gcd (p1*q2) (p2*q1)
noncomputable abbrev iC(p1 q1 p2 q2:Nat):Nat:=p2*q1 / Nat.gcd (p1*q2) (p2*q1)
noncomputable abbrev tFr(p q:Nat):Ty:=de 349 [(S "numerator",ag p),(S "denominator",ag q)]
theorem Aj{a:Ty}{p1 q1 p2 q2:Nat}(p:∀l,aM (W.at l) n (.ref 205) [T1] [] (bH [ag p1,ag q1]))(f:∀l,aM (W.at l) n (.ref 205) [a] [] (bH [ag p2,ag q2]))(h:q1≠0)(q:p2≠0)(c:p1<1000)(g:p2<1000)(o:q1<1000)(b4:q2<1000):
  aM W (n+2) (.ref 349) [T1,a] [] (tFr (jP p1 q1 p2 q2) (iC p1 q1 p2 q2)) :=
 oq (fI:=220) (fd:=Gn) (σ:=λdx=>[some (gG 349 dx),some T1,some a,none,none,none,none,none,none]) [S "self",S "numerator",S "denominator"] (by kernel_rfl) (by kernel_rfl) (by kernel_rfl) (by kernel_rfl) (by kernel_rfl) (by kernel_rfl) (by rfl)
  (λV x vs ks d e=>by
   obtain⟨k,b,rfl,i,r⟩:=d.a2
   have m:=ay.nil_iff e
   subst m
   exact⟨[(S "self",x),(S "numerator",k),(S "denominator",b)],by kernel_rfl,rfl,λdx j=>⟨⟨_,rfl,j⟩,⟨_,rfl,i⟩,⟨_,rfl,r⟩,trivial⟩⟩)
  (λdx s s=>sD (p _) (f _) h q c g o b4)
theorem Go{p1 q1:Nat}(j:∀l,aM (W.at l) n (.ref 205) [T1] [] (bH [ag p1,ag q1]))(i:∀l,aM (W.at l) n (.ref 205) [ag 1] [] (bH [ag 1,ag 1]))(k:q1≠0)(c:p1<1000)(h:q1<1000):
  aM W (n+2) (.ref 349) [T1] [] (tFr (jP p1 q1 1 1) (iC p1 q1 1 1)) :=
 oq (fI:=220) (fd:=Gn) (σ:=λdx=>[some (gG 349 dx),some T1,some (ag 1),none,none,none,none,none,none]) [S "self",S "numerator",S "denominator"] (by kernel_rfl) (by kernel_rfl) (by kernel_rfl) (by kernel_rfl) (by kernel_rfl) (by kernel_rfl) (by rfl)
  (λV x vs ks f g=>by
   obtain⟨d,rfl,a⟩:=f.a1
   have e:=ay.nil_iff g
   subst e
   refine⟨[(S "self",x),(S "numerator",d),(S "denominator",.int 1 474)],by kernel_rfl,rfl,λdx b=>⟨⟨_,rfl,b⟩,⟨_,rfl,a⟩,⟨_,rfl,⟨_,rfl⟩⟩,trivial⟩⟩)
  (λdx m m=>sD (j _) (i _) k (by decide) c (by decide) h (by decide))
theorem at_(h:EvP W C Γ n e (de D fs))(c:(f,T)∈fs)(a:autoParam (mi W.K D f=true) q_K)(b:autoParam (∀env,eval (.Attribute e f pos) env=(do
   let o ← eval e env
   standAt pos.atName
   let r ← holding [o] (getAttr o f true)
   letTemporaryGo e o r
   pure r)) q_W):EvP W C Γ n (.Attribute e f pos) T:=dq h c a b
theorem tj{i:Int}(h:EvP W C Γ n e (bh i)):EvP W C Γ n (.UnaryOp .USub e pos) (bh (-i)):=λA env O M s b I =>
 wpAny_UnaryOp (ad (h A env O M s b I) (λv s₁ a=>by
  obtain⟨t,rfl⟩:=a.2.2
  exact neg_int ⟨a.1.tok,a.2.1.trans aF.tok,_,rfl⟩) az)
abbrev cFl:Cx:=⟨(fM 15 3).2.2,[S "self"],[],none⟩
abbrev cCe:Cx:=⟨(fM 15 4).2.2,[S "self"],[],none⟩
abbrev cMu:Cx:=⟨(fM 15 10).2.2,[S "self",S "other",S "upper",S "lower"],[],none⟩
abbrev cRm:Cx:=⟨(fM 15 11).2.2,[S "self",S "other"],[],none⟩
abbrev cLe:Cx:=⟨(fM 15 16).2.2,[S "self",S "other",S "upper",S "lower"],[],none⟩
theorem Ak{p q:Nat}(b:q≠0)(a:q<2 ^ 30):aM W (n+1) (.ref 241) [tFr p q] [] (ag (p / q)) :=
 s5 (fM 15 3) cFl [] (λc=>bB (jj (at_ (nm 0) (.head _)) (at_ (nm 0) (.tail _ (.head _))) b a) (Ty.le_refl _))
theorem Ct{p q:Nat}(b:q≠0)(a:q<2 ^ 30):aM W (n+1) (.ref 248) [tFr p q] [] (bh (-((-(p:Int)).fdiv (q:Int)))) :=
 s5 (fM 15 4) cCe [] (λc=>bB (tj (Cj (by simpa using b) (PyProof.noPylong_small (by simpa using a)) (tj (at_ (nm 0) (.head _))) (at_ (nm 0) (.tail _ (.head _))))) (Ty.le_refl _))
theorem EO{p q a b:Nat}(e:∀l,aM (W.at l) n (.ref 205) [U] [] (bH [ag a,ag b]))(h:q*b≠0)(f:p*a<1000)(g:q*b<1000)(d:p<1000)(b4:q<1000)(c:5<=n):aM W (n+1) (.ref 290) [tFr p q,U] [] (tFr (jP (p*a) 1 (q*b) 1) (iC (p*a) 1 (q*b) 1)) :=
 rX (fM 15 10) cMu [none,none] (λi=>nA 2 3 (ao (gl _ Cs) kf (ar1 (nm 1)) au (e _))
   (bB (ao (gl _ eL) kf (ar2 (gv (at_ (nm 0) (.head _)) (nm 2) (dI d (by decide))) (gv (at_ (nm 0) (.tail _ (.head _))) (nm 3) (dI b4 (by decide)))) au
    ((Aj (n:=1) (λi=>j7) (λi=>j7) (by decide) h f g (by decide) (by decide)).le (ae (by decide) c))) (Ty.le_refl _)))
theorem Cu{p q a:Nat}(j:q≠0)(c:p*a<1000)(h:p<1000)(b4:q<1000)(e:6<=n):aM W (n+1) (.ref 297) [tFr p q,ag a] [] (tFr (jP (p*a) 1 (q*1) 1) (iC (p*a) 1 (q*1) 1)) :=
 rX (fM 15 11) cRm [] (λk=>bB (il (nm 0) (nm 1) λA O s x y i g b d=>td (f:=290) (g':=297) (fo:=some (.builtin "int.__mul__")) (ro:=some (.builtin "int.__rmul__")) (by kernel_rfl) (by kernel_rfl) (by kernel_rfl) (by kernel_rfl) (by kernel_rfl) (by kernel_rfl) (by kernel_rfl)
   ((EO (n:=5) (U:=ag a) (λk=>j7) (by simpa using j) c (by simpa using b4) h b4 (by decide)).le e) xI i g b d) (Ty.le_refl _))
theorem Ed{p q a b:Nat}(c:∀l,aM (W.at l) n (.ref 205) [U] [] (bH [ag a,ag b]))(d:p<1000)(b4:a<1000):aM W (n+1) (.ref 332) [tFr p q,U] [] (aG (decide (((p*b:Nat):Int)<=((a*q:Nat):Int)))) :=
 rX (fM 15 16) cLe [none,none] (λe=>nA 2 3 (ao (gl _ Cs) kf (ar1 (nm 1)) au (c _))
   (bB (cpv (gv (at_ (nm 0) (.head _)) (nm 3) (dI d (by decide))) (gv (nm 2) (at_ (nm 0) (.tail _ (.head _))) (dI b4 (by decide))) uh) (Ty.le_refl _)))
theorem qO{l:Expr}{p q a:Nat}(k:EvP W C Γ n l (ag a))(b:EvP W C Γ n r (tFr p q))(h:q≠0)(c:p*a<1000)(j:p<1000)(b4:q<1000)(e:7<=n):EvP W C Γ n (.BinOp l .Mult r pos) (tFr (jP (p*a) 1 (q*1) 1) (iC (p*a) 1 (q*1) 1)) :=
 il k b λA O s x y m g i d=>Af (f:=297) (fm:=290) (by kernel_rfl) (by kernel_rfl) (by kernel_rfl) (by kernel_rfl) (by kernel_rfl) ((Cu (n:=6) h c j b4 (by decide)).le e) xI m g i d
theorem qP{p q a:Nat}(c:p<1000)(b4:a<1000)(d:2<=n):iz W n .GtE (ag a) (tFr p q) (decide (((p*1:Nat):Int)<=((a*q:Nat):Int))) :=
 wv (f:=332) (by kernel_rfl) (by kernel_rfl) (by kernel_rfl) ((Ed (n:=1) (b:=1) (λe=>j7) c b4).le d)
theorem yU{p q a:Nat}(c:p<1000)(b4:a<1000)(d:2<=n):iz W n .LtE (tFr p q) (ag a) (decide (((p*1:Nat):Int)<=((a*q:Nat):Int))) :=
 Cm (f:=332) (λe e=>rfl) (by kernel_rfl) (by kernel_rfl) (by kernel_rfl) ((Ed (n:=1) (b:=1) (λe=>j7) c b4).le d)
noncomputable def ch(a:Nat->Tok)(l:List Nat):Array (Int×Value):=(l.map λk:Nat=>((k:Int),Value.int (k:Int) (a k))).toArray
noncomputable def cst(l:List Nat)(b a:Nat)(led:Bool):SetTable:=⟨b,l.toArray,#[],0,led,a,true⟩
noncomputable def br:List (List Nat):=[[],[0],[1],[2],[3],[0,1],[0,2],[0,3],[1,2],[1,3],[2,3],[0,1,2],[0,1,3],[0,2,3],[1,2,3],[0,1,2,3]]
noncomputable def ins(k:Nat)(l:List Nat):List Nat:=(List.range 4).filter λj=>j==k||l.contains j
noncomputable def upτ(a:Nat->Tok)(k:Nat)(t:Tok):Nat->Tok:=λj=>if j=k then t else a j
theorem j8(h:l∈br):∀k∈l,k<4:=by revert l;decide
theorem wy(h:l∈br):l.Nodup:=by revert l;decide
theorem c9(h:l∈br):l.length<=4:=by revert l;decide
theorem cO(h:l∈br):(List.range 4).filter (λj=>l.contains j)=l:=by revert l;decide
theorem gJ(p:Nat->Bool):(List.range 4).filter p∈br:=by
 have e:∀a b c d:Bool,(if a then[0] else[])++(if b then[1] else[])++(if c then[2] else[])++(if d then[3] else[])∈br:=by decide
 have:=e (p 0) (p 1) (p 2) (p 3)
 have h:(List.range 4).filter p=(if p 0 then[0] else[])++(if p 1 then[1] else[])++(if p 2 then[2] else[])++(if p 3 then[3] else[]):=by
  rw[show List.range 4=[0,1,2,3] from rfl]
  simp only[List.filter_cons,List.filter_nil]
  cases p 0 <;> cases p 1 <;> cases p 2 <;> cases p 3 <;> rfl
 exact h▸(this)
theorem Cv(k:Nat)(l:List Nat):ins k l∈br:=gJ _
theorem Cw(h:l∈br)(a:k∈l):ins k l=l:=by
 have:=cO h
 rw[← this]
 conv=>rhs;rw[this]
 conv=>rhs;rw[← this]
 refine fC λj b=>?_
 rw[this]
 by_cases e:j=k
 ·subst e;simp[a]
 ·simp[e]
theorem oz{a b:Type}{f g:a->b}{l:List a}:l.map f=l.map g->∀x∈l,f x=g x:=by
 induction l with
 | nil =>
  intro c c m
  exact nM m
 | cons y l ih =>
  intro e x m
  rw[cz] at e
  rcases aC.mp m with rfl | m
  ·exact(g6 e).1
  ·exact ih (g6 e).2 x m
noncomputable def Gp:List (List Nat×Nat×Nat):=br.flatMap λl=>((List.range 4).filter λk=>!l.contains k).flatMap λk=>[(l,k,7),(l,k,15),(l,k,31)]
theorem Cy(b:Nat->Tok)(t:Tok)(a:Nat)(led:Bool):Gp.map (λx=>layNew (cst x.1 x.2.2 a led) (ch b x.1) (x.2.1:Int) (.int (x.2.1:Int) t))=Gp.map λx=>(ch (upτ b x.2.1 t) (ins x.2.1 x.1),cst (ins x.2.1 x.1) x.2.2 a led,false,false):=by kernel_rfl
theorem Cz(e:l∈br)(d:k<4)(g:k∉l){a:Nat}(f:a=7∨a=15∨a=31)(c:Nat->Tok)(t:Tok)(b:Nat)(led:Bool):
  layNew (cst l a b led) (ch c l) (k:Int) (.int (k:Int) t)=(ch (upτ c k t) (ins k l),cst (ins k l) a b led,false,false):=by
 refine oz (Cy c t b led) (l,k,a) (pZ.mpr ⟨l,e,pZ.mpr ⟨k,bk.mpr ⟨aI.mpr d,?_⟩,?_⟩⟩)
 ·rw[gf,← g7,ba];exact g
 ·rcases f with rfl | rfl | rfl
  ·exact .head _
  ·exact .tail _ (.head _)
  ·exact .tail _ (.tail _ (.head _))
theorem qQ(c:l∈br){a:Nat}(d:a=7∨a=15∨a=31)(b:Nat)(led:Bool):(cst l a b led).fits l.length=true:=by
 have:=c9 c
 unfold cst SetTable.fits SetTable.fill
 simp only[List.size_toArray,beq_self_eq_true,Bool.true_and,decide_eq_true_eq,Array.size_empty,List.length_nil,Nat.add_zero]
 rcases d with rfl | rfl | rfl <;> exact oC this
theorem Al(c:l∈br){a:Nat}(d:a=7∨a=15∨a=31)(b:Nat)(led:Bool):(cst l a b led).tooFull=false:=by
 have:=c9 c
 unfold cst SetTable.tooFull SetTable.fill
 simp only[List.size_toArray,Array.size_empty,List.length_nil,Nat.add_zero,ge_iff_le,decide_eq_false_iff_not,Nat.not_le]
 rcases d with rfl | rfl | rfl <;> exact bp (g8 5 this) (by decide)
theorem fk(a:Nat->Tok)(l:List Nat):(ch a l).size=l.length:=by simp[ch]
structure eI(led:Bool)(l:List Nat)(d:Data):Prop where
 sub:l∈br
 eq:∃τ ep mask moves,d = .set (ch τ l) ep (cst l mask moves led)/\(mask=7∨mask=15∨mask=31)
theorem lt4:∀k<4,k=0∨k=1∨k=2∨k=3:=by decide
theorem Ee(d:Nat->Tok)(h:∀k∈l,k<4):ElemsOf (intKind prg w) (ch d l).toList:=by
 intro e b
 rw[ch,a9] at b
 obtain⟨k,c,rfl⟩:=b
 have a:=h k c
 refine⟨⟨(k:Int),eN _ _ _ _,?_⟩,rfl⟩
 have:k=0∨k=1∨k=2∨k=3:=lt4 k a
 rcases this with rfl | rfl | rfl | rfl <;> rfl
theorem ml(a:k<4):(intKind prg w).hash (k:Int)=(k:Int):=by
 have:k=0∨k=1∨k=2∨k=3:=lt4 k a
 rcases this with rfl | rfl | rfl | rfl <;> rfl
theorem xQ(b:Nat->Tok)(l:List Nat)(k:Nat):((ch b l).toList.findIdx? (λe=>(intKind prg w).is (k:Int) e.2)).isSome=l.contains k:=by
 refine(List.findIdx?_isSome) ▸ ?_
 rw[ch,List.any_map]
 rw[dy]
 simp only[List.any_eq_true,Function.comp,List.contains_iff_mem]
 constructor
 ·rintro⟨j,a,h⟩
  have:(j:Int)=(k:Int):=by simpa[intKind,Value.isInt] using h
  exact mS this▸a
 ·intro h
  exact⟨k,h,eN _ _ _ _⟩
theorem cD{τ ep mask moves}{Q:(Array (Int×Value)×Nat×SetTable)->Shared->Prop}(b:l∈br)(c:mask=7∨mask=15∨mask=31)(d:s.heap.get? a=some o)(hd:o.data = .set (ch τ l) ep (cst l mask moves led))(h:Q (ch τ l,ep,cst l mask moves led) s):
  wpAny (model prg W.w) A (setState a) Q E s:=wpAny_setState_of d hd (by rw[fk];exact qQ b c _ _) h
theorem uL{t:Tok}{Q:Option Nat->Shared->Prop}(hs:eI led l o.data)(m:s.heap.get? a=some o)(h:∀r:Option Nat,r.isSome=l.contains k->Q r s):
  wpAny (model prg W.w) A (setFind a (.int (k:Int) t) ((intKind prg W.w).hash (k:Int))) Q E s:=by
 obtain⟨d,f,q,p,g,hd,n⟩:=hs
 have b:=Ee (w:=W.w) f (j8 d)
 refine aa (cD d n m hd ?_)
 dsimp only
 rw[byScan_of (knd:=intKind prg W.w) rfl (by rw[fk];have:=c9 d;have:scanBound=4096:=rfl;exact ae (aX ‹_› 1) (ae (by decide) (aH this.symm))) b]
 refine aa (da ?_)
 refine aa (wpAny_setScan_of (knd:=intKind prg W.w) (k:=(k:Int)) (eN _ _ _ _) m hd (by rw[fk];exact qQ d n _ _) b ?_)
 have c:=xQ (w:=W.w) f l k
 cases i:(ch f l).toList.findIdx? (λe=>(intKind prg W.w).is (k:Int) e.2) with
 | none=>rw[i] at c;exact ac (h none c)
 | some j=>rw[i] at c;exact ac (h (some (0+j)) c)
theorem nI{t:Tok}{Q:Bool->Shared->Prop}(y:k<4)(hs:eI led l o.data)(q:s.heap.get? a=some o)(h:∀b h' z,Heap.SameBut a s.heap h'->h'.get? a=some { o with data:=z }->eI led (ins k l) z->Q b { s with heap:=h' }):
  wpAny (model prg W.w) A (setAddHashed a (.int (k:Int) t) ((intKind prg W.w).hash (k:Int))) Q E s:=by
 have u:=hs
 obtain⟨n,i,C,d,c,hd,r⟩:=hs
 have p:=Ee (w:=W.w) i (j8 n)
 refine aP (aa (cD n r q hd ?_))
 dsimp only
 rw[byScan_of (knd:=intKind prg W.w) rfl (by rw[fk];have:=c9 n;have:scanBound=4096:=rfl;exact ae (aX ‹_› 1) (ae (by decide) (aH this.symm))) p]
 refine aa (aa (da ?_))
 refine aa (wpAny_setScan_of (knd:=intKind prg W.w) (k:=(k:Int)) (eN _ _ _ _) q hd (by rw[fk];exact qQ n r _ _) p ?_)
 have hf:=xQ (w:=W.w) i l k
 cases v:(ch i l).toList.findIdx? (λe=>(intKind prg W.w).is (k:Int) e.2) with
 | some j =>
  rw[v] at hf
  have f:k∈l:=by rw[← ba];exact hf.symm
  refine ac (ac ?_)
  refine h _ s.heap o.data (jB a s.heap) q ?_
  rw[Cw n f];exact u
 | none =>
  rw[v] at hf
  have f:k∉l:=λm=>by rw[← ba,← hf] at m;cases m
  rw[ml y,Cz n y f r i t c led]
  have g:=Cv k l
  refine aa (ac ?_)
  refine aa ?_
  refine(?_:wpAny _ _ (if(cst (ins k l) d c led).plain=true then hashByValue 8 (.int (k:Int) t) else pure true) _ _ _)
  refine(?_:wpAny _ _ (pure true) _ _ _)
  refine ac ?_
  simp only[↓reduceIte]
  have hz:(ch (upτ i k t) (ins k l)).size<=sizeLine:=by rw[fk];have:=c9 g;rw[iK];exact oC this
  refine aa (qa q hd ?_ hz)
  have B:=putSet_of (o:=o) (ch (upτ i k t) (ins k l)) (cst (ins k l) d c led) hd
  have x:=et (Obj.putSet (ch (upτ i k t) (ins k l)) (cst (ins k l) d c led)) q (by rw[B];rfl)
  rw[B] at x
  rw[Al g r,e8];refine ifZ (by decide) ?_
  exact ac (ac (h true _ _ (dH s.heap a _) x ⟨g,_,_,_,_,rfl,r⟩))
noncomputable def ld(W:Wc):Bool:=!W.w.params.followText "set-order"
theorem xR(d:l∈br){b:Nat}(e:b=7∨b=15∨b=31)(c:Nat->Tok)(a:Nat)(led:Bool):SetTable.laid b 0 a led true ((ch c l).map (·.1))=some (cst l b a led,(Array.range l.length)):=by
 rcases e with rfl | rfl | rfl <;> exact oz (f:=λl=>SetTable.laid _ 0 a led true ((ch c l).map (·.1))) (g:=λl=>some (cst l _ a led,Array.range l.length)) (by kernel_rfl) l d
theorem uM(b:l∈br)(a:Nat->Tok):(Array.range l.length).filterMap ((ch a l)[·]?)=ch a l:=by
 exact oz (f:=λl=>(Array.range l.length).filterMap ((ch a l)[·]?)) (g:=ch a) (by kernel_rfl) l b
theorem wz{b:Type}{l:List b}:∀{i:Nat} {x:b},l[i]? = some x->(x::l.eraseIdx i).Perm l:=by
 induction l with
 | nil=>exact λh=>nS h
 | cons a l ih =>
  intro i x h
  cases i with
  | zero =>
   have e:=fU h
   subst e
   exact iM _
  | succ i=>exact(List.Perm.swap a x _).trans ((ih h).cons a)
theorem CA{e:Type}(c:Nat->Nat):∀(b k:Nat) (l9:List e) (a:Array e),l9.length<=b->(pickOrder.go c b k l9 a).toList.Perm (a.toList++l9):=by
 intro b
 induction b with
 | zero =>
  intro k l9 a h
  have:l9=[]:=mT.mp (kK.mp h)
  subst this
  exact(c0 a.toList).symm▸iM a.toList
 | succ b ih =>
  intro k l9 a h
  refine(?_:(match l9[c k % l9.length]? with | some x=>pickOrder.go c b (k+1) (l9.eraseIdx (c k % l9.length)) (a.push x) | none=>a).toList.Perm _)
  cases d:l9[c k % l9.length]? with
  | some x =>
   have f:=(b8.mp d).1
   refine(ih (k+1) _ _ (by rw[List.length_eraseIdx];split <;> exact Nat.sub_le_of_le_add h)).trans ?_
   rw[Array.toList_push,iu]
   refine List.Perm.append_left _ ?_
   exact wz d
  | none =>
   cases l9 with
   | nil=>exact(c0 a.toList).symm▸iM a.toList
   | cons y r =>
    rw[List.getElem?_eq_none_iff] at d
    exact absurd (iL (c k) (Nat.succ_pos _)) (aw.mpr d)
theorem sE{b:Type}(a:Nat->Nat)(xs:Array b):(pickOrder a xs).toList.Perm xs.toList:=by
 have:=CA a xs.size 0 xs.toList #[] (by simp)
 simpa[pickOrder] using this
noncomputable def uni(l l':List Nat):List Nat:=(List.range 4).filter λj=>l.contains j||l'.contains j
theorem lL(l l':List Nat):uni l l'∈br:=gJ _
theorem tm(j:Nat)(a:j<4):(ins k l).contains j=(j==k||l.contains j):=by
 unfold ins
 rw[dy]
 rw[ba,bk,aI,kN,aL]
 constructor
 ·exact λh=>h.2
 ·exact λh=>⟨a,h⟩
theorem to(l:List Nat)(k:Nat)(r:List Nat):uni (ins k l) r=uni l (k::r):=by
 refine fC λj a=>?_
 rw[tm j (aI.mp a),List.contains_cons]
 cases(j==k) <;> cases l.contains j <;> rfl
theorem pH(h:l∈br):uni l []=l:=by
 exact(aY (λp=>(List.range 4).filter p) (funext λx=>Bool.or_false _)).trans (cO h)
theorem Am{r a:List Nat}(h:r.Perm a):uni l r=uni l a:=by
 refine fC λj b=>?_
 congr 1
 rw[dy,ba,ba,h.mem_iff]
theorem pI{r:List Nat}(h:r∈br):uni [] r=r:=by
 exact cO h
theorem An{τ ep mask moves}{Q:Array (Int×Value)->Shared->Prop}(f:l∈br)(e:mask=7∨mask=15∨mask=31)(c:s.heap.get? a=some o)(hd:o.data = .set (ch τ l) ep (cst l mask moves (ld W)))(h:∀xs:Array (Int×Value),xs.toList.Perm (ch τ l).toList->Q xs s):wpAny (model prg W.w) A (setWalk a) Q E s:=by
 refine aa (cD f e c hd ?_)
 refine aa (aa (eO (ac ?_)))
 refine(?_:wpAny _ _ (if W.w.params.followText "set-order" = true then _ else _) _ _ _)
 cases d:W.w.params.followText "set-order" with
 | true =>
  exact aa (eO (ac (h _ (sE _ _))))
 | false =>
  have b:ld W=true:=by unfold ld;rw[d];rfl
  rw[b]
  exact aa (bR (a:=()) (by with_unfolding_all rfl) (ac (h _ (iM _))))
theorem nJ(hs:eI (ld W) l o.data)(d:s.heap.get? a=some o){Q:Nat->Shared->Prop}(h:Q l.length s):wpAny (model prg W.w) A (Builtin.Frozenset.sizeOf a) Q E s:=by
 obtain⟨e,g,i,c,b,hd,f⟩:=hs
 refine aa (aa (cD e f d hd (ac (ac ?_))))
 rw[fk];exact h
theorem yV{τ ep mask moves}{b:Nat}{Q:Unit->Shared->Prop}(g:l∈br)(t:mask=7∨mask=15∨mask=31)(i:s.heap.get? a=some o)(hd:o.data = .set (ch τ l) ep (cst l mask moves (ld W)))(r:SetTable.sizeAbove b=16∨SetTable.sizeAbove b=32)(h:∀h' p mask' c m,Heap.SameBut a s.heap h'->h'.get? a=some { o with data:=p }->p = .set (ch τ l) m (cst l mask' c (ld W))->(mask'=7∨mask'=15∨mask'=31)->Q () { s with heap:=h' }):
  wpAny (model prg W.w) A (setRelay a b) Q E s:=by
 refine aa (cD g t i hd ?_)
 dsimp only
 obtain⟨nm,f,hsz,k⟩:∃nm,(nm=7∨nm=15∨nm=31)/\SetTable.sizeAbove b-1=nm/\¬SetTable.sizeAbove b>sizeLine:=by
  rcases r with e | e <;> rw[e]
  ·exact⟨15,.inr (.inl rfl),rfl,by rw[iK];exact aw.mpr (by decide)⟩
  ·exact⟨31,.inr (.inr rfl),rfl,by rw[iK];exact aw.mpr (by decide)⟩
 refine ifZ k ?_
 have u:(cst l mask moves (ld W)).relaid ((ch τ l).map (·.1)) b=some (cst l nm ((cst l mask moves (ld W)).movedTo nm) (ld W),Array.range l.length):=by
  unfold SetTable.relaid
  exact hsz▸(xR g f τ _ _)
 rw[u]
 generalize(cst l mask moves (ld W)).movedTo nm=mv
 refine aa ?_
 refine(?_:wpAny _ _ (do
  let d:=(Array.range l.length).filterMap ((ch τ l)[·]?)
  if d.size != (ch τ l).size then unsupported "internal:set-table-lost-an-element"
  pure (d,cst l nm mv (ld W))) _ _ _)
 rw[uM g τ]
 have j:((ch τ l).size != (ch τ l).size)=false:=by rw[g9]
 refine ifN j ?_
 refine ac ?_
 have hz:(ch τ l).size<=sizeLine:=by rw[fk];have:=c9 g;rw[iK];exact oC this
 refine qa i hd ?_ hz
 have q:=putSet_of (o:=o) (ch τ l) (cst l nm mv (ld W)) hd
 have n:=et (Obj.putSet (ch τ l) (cst l nm mv (ld W))) i (by rw[q];rfl)
 rw[q] at n
 exact h _ _ nm mv _ (dH s.heap a _) n rfl f
noncomputable def ent(a:Nat->Tok)(k:Nat):Int×Value:=((k:Int),.int (k:Int) (a k))
theorem pJ(a:Nat->Tok)(l:List Nat):(ch a l).toList=l.map (ent a):=by simp[ch,ent]
theorem qR{a:Nat->Tok}{xs:List (Int×Value)}(h:xs.Perm (l.map (ent a))):∃r:List Nat,r.Perm l/\xs=r.map (ent a):=by
 refine⟨xs.map λe=>e.1.toNat,?_,?_⟩
 ·have:=h.map (λe=>e.1.toNat)
  rw[cP] at this
  have e:((λe:Int×Value=>e.1.toNat)∘ent a)=id:=by funext k;simp[ent]
  rw[e,List.map_id] at this
  exact this
 ·rw[cP]
  have:xs.map (ent a∘λe=>e.1.toNat)=xs.map id:=by
   refine List.map_congr_left λe b=>?_
   obtain⟨k,c,rfl⟩:=a9.mp (h.mem_iff.mp b)
   simp[ent]
  rw[this,List.map_id]
theorem wA(h:(n+m)*5 ≥ 21)(a:n<=4)(b:m<=4):SetTable.sizeAbove ((n+m)*2)=16∨SetTable.sizeAbove ((n+m)*2)=32:=by
 have:∀k,k<=8->k*5 ≥ 21->SetTable.sizeAbove (k*2)=16∨SetTable.sizeAbove (k*2)=32:=by decide
 exact this (n+m) (Nat.add_le_add a b) h
theorem Ao{Q:Unit->Shared->Prop}(hs:eI (ld W) l o.data)(i:s.heap.get? a=some o)(t:m<=4)(h:∀h' g,Heap.SameBut a s.heap h'->h'.get? a=some { o with data:=g }->eI (ld W) l g->Q () { s with heap:=h' }):wpAny (model prg W.w) A (setRoomFor a m) Q E s:=by
 have r:=hs
 obtain⟨f,y,z,b,c,hd,n⟩:=hs
 refine aa (cD f n i hd ?_)
 have v:=c9 f
 by_cases q:(l.length+m)*5 ≥ b*3
 ·have e:(cst l b c (ld W)).roomFor m=some ((l.length+m)*2):=by
   unfold SetTable.roomFor SetTable.fill
   rw[bI (by show((l.toArray.size+0)+m)*5 ≥ b*3;simpa using q)]
   refine(?_:some ((l.toArray.size+m)*2)=_)
   simp
  rw[e]
  refine yV f n i hd (wA (by rcases n with rfl | rfl | rfl <;> exact ae (by decide) q) v t) λh' g mask' d j p x k u=>h h' g p x ⟨f,y,j,mask',d,k,u⟩
 ·have e:(cst l b c (ld W)).roomFor m=none:=by
   unfold SetTable.roomFor SetTable.fill
   rw[bj (by show ¬((l.toArray.size+0)+m)*5 ≥ b*3;simpa using q)]
  rw[e]
  refine ac ?_
  exact h s.heap o.data (jB a _) i r
theorem qS{b:List Addr}{f:Option Addr}{τ ep mask moves}{Q:Array (Int×Value)->Shared->Prop}(g:l∈br)(d:mask=7∨mask=15∨mask=31)(c:s.heap.get? a=some o)(hd:o.data = .set (ch τ l) ep (cst l mask moves (ld W)))(h:∀xs:Array (Int×Value),xs.toList.Perm (ch τ l).toList->Q xs s):wpAny (model prg W.w) A (setWalkUnseen a b f) Q E s:=by
 refine aa (cD g d c hd ?_)
 refine aa (aa (eO (ac ?_)))
 refine(?_:wpAny _ _ (if(W.w.params.followText "set-order" || ((cst l mask moves (ld W)).led&&(cst l mask moves (ld W)).plain)||_)=true then _ else _) _ _ _)
 have e:(W.w.params.followText "set-order" || ((cst l mask moves (ld W)).led&&(cst l mask moves (ld W)).plain))=true:=by
  refine(?_:(W.w.params.followText "set-order" || (ld W&&true))=true)
  unfold ld
  cases W.w.params.followText "set-order" <;> rfl
 rw[e,Bool.true_or];refine ifP rfl ?_
 exact An g d c hd h
theorem iY{c:Heap}(x:Heap.SameBut a h h')(y:Heap.SameBut a h' c):Heap.SameBut a h c:=⟨y.1.trans x.1,λb d=>(y.2 b d).trans (x.2 b d)⟩
theorem wB{b:Addr}{n:Nat->Tok}{m:Sem Unit}{g c i:Nat}{H:Nat->Tok}(F:a≠b)(C:l'∈br)(B:c=7∨c=15∨c=31)(D:ob.data = .set (ch H l') g (cst l' c i (ld W)))(L:∀(s':Shared) (Q:Unit->Shared->Prop),s'.heap.get? b=some ob->Q () s'->wpAny (model prg W.w) A m Q E s')(f:Int×Value->PUnit->Sem (ForInStep PUnit))(hf:∀h x u,f (h,x) u=(do
   let _ ← holding [x] (setAddHashed a x h)
   m
   if(← setState b).2.1 != g then unsupported "set.changed-during-merge"
   pure (.yield ⟨⟩))):
  ∀(r:List Nat) (l:List Nat) (s:Shared) (d:Data) (Q:PUnit->Shared->Prop),(∀k∈r,k<4)->eI (ld W) l d->s.heap.get? a=some { oa with data:=d }->s.heap.get? b=some ob ->
   (∀h' y,Heap.SameBut a s.heap h'->h'.get? a=some { oa with data:=y }->eI (ld W) (uni l r) y->Q ⟨⟩ { s with heap:=h' })->wpAny (model prg W.w) A (forIn (r.map (ent n)) PUnit.unit f) Q E s:=by
 intro r
 induction r with
 | nil =>
  intro l s d Q z hs N q K
  refine ac ?_
  exact K s.heap d (jB a _) N (by rw[pH hs.sub];exact hs)
 | cons k r ih =>
  intro l s d Q z hs N q K
  rw[cz,mE,show ent n k=((k:Int),Value.int (k:Int) (n k)) from rfl,hf]
  have R:=z k (.head _)
  refine aa (aa (aP ?_))
  have V:((k:Int))=(intKind prg W.w).hash (k:Int):=(ml R).symm
  rw[show setAddHashed a (.int (k:Int) (n k)) (k:Int)=setAddHashed a (.int (k:Int) (n k)) ((intKind prg W.w).hash (k:Int)) from aY _ V]
  refine nI (o:={ oa with data:=d }) R hs N λX h' y v U I=>?_
  have e:h'.get? b=some ob:=(v.2 b (gY F)).trans q
  refine aa (L { s with heap:=h' } _ e ?_)
  refine aa (cD (s:={ s with heap:=h' }) C B e D ?_)
  have O:(g != g)=false:=g9 _
  refine ifN O ?_
  refine ac ?_
  refine(?_:wpAny _ _ (forIn (r.map (ent n)) PUnit.unit f) _ _ _)
  refine ih (ins k l) { s with heap:=h' } y Q (λj T=>z j (bt _ T)) I U e λM J t P p=>?_
  refine K M J (iY v t) P ?_
  rw[← to];exact p
theorem sF{b:Addr}{F:Sem Unit}{Q:Unit->Shared->Prop}(I:a≠b)(hs:eI (ld W) l oa.data)(ho:s.heap.get? a=some oa)(X:eI (ld W) l' ob.data)(M:s.heap.get? b=some ob)(R:∀(s':Shared) (Q:Unit->Shared->Prop),s'.heap.get? b=some ob->Q () s'->wpAny (model prg W.w) A F Q E s')(h:∀h' N,Heap.SameBut a s.heap h'->h'.get? a=some { oa with data:=N }->eI (ld W) (uni l l') N->Q () { s with heap:=h' }):wpAny (model prg W.w) A (setMerge a b F) Q E s:=by
 have es:s={ s with heap:=s.heap }:=by cases s;rfl
 obtain⟨q,j,b2,f,g,H,B⟩:=X
 unfold setMerge
 have Y:(a==b)=false:=ey.mpr I
 refine ifN Y ?_
 refine aa (cD q B M H ?_)
 by_cases hn:l'=[]
 ·subst hn
  have:(ch j []).isEmpty=true:=rfl
  refine ifP this ?_
  refine ac ?_
  exact es▸(h s.heap oa.data (jB a _) ho (by rw[pH hs.sub];exact hs))
 have a2:(ch j l').isEmpty=false:=by
  rw[Array.isEmpty_eq_false_iff]
  intro z
  have:=aY Array.size z
  rw[fk] at this
  exact hn (mT.mp (by simpa using this))
 refine ifN a2 ?_
 rw[fk]
 refine aa (Ao hs ho (c9 q) λm D p n v=>?_)
 have t:m.get? b=some ob:=(p.2 b (gY I)).trans M
 have C:=v
 obtain⟨Z,τ,ep,d,c,hd,P⟩:=v
 refine aa (cD (s:={ s with heap:=m }) Z P n hd ?_)
 dsimp only
 have hz:∀{τ:Nat->Tok} {l:List Nat},l∈br->(ch τ l).size<=sizeLine:=λZ=>by rw[fk];have:=c9 Z;rw[iK];exact oC this
 have fin:∀{mask':Nat} {τ':Nat->Tok},l=[]->(mask'=7∨mask'=15∨mask'=31)->wpAny (model prg W.w) A (storeSet a (ch τ' l') (cst l' mask' c (ld W))) Q E { s with heap:=m }:=fun {mask' τ'} e a1=>by
  refine qa n hd ?_ (hz q)
  have hp:=putSet_of (o:={ oa with data:=D }) (ch τ' l') (cst l' mask' c (ld W)) hd
  have O:=et (Obj.putSet (ch τ' l') (cst l' mask' c (ld W))) n (by rw[hp];rfl)
  rw[hp] at O
  exact h _ _ (iY p (dH m a _)) O ⟨lL _ _,τ',_,mask',c,by rw[e,pI q],a1⟩
 by_cases x:l=[]
 ·have u:(cst l d c (ld W)).fill=0:=by subst x;rfl
  by_cases J:d=f
  ·have i:(cst l d c (ld W)).road (cst l' f g (ld W)) = .slotForSlot:=by
    unfold SetTable.road
    rw[u]
    subst J
    simp[cst]
   rw[i]
   have y:((cst l d c (ld W)).led&&(cst l' f g (ld W)).led)=ld W:=by show(ld W&&ld W)=ld W;rw[Bool.and_self]
   rw[y]
   exact fin (mask':=f) (τ':=j) x B
  ·have i:(cst l d c (ld W)).road (cst l' f g (ld W)) = .clean:=by
    unfold SetTable.road
    rw[u]
    have:(d==f)=false:=ey.mpr J
    simp[cst,this]
   rw[i]
   have y:((cst l d c (ld W)).led&&(cst l' f g (ld W)).led)=ld W:=by show(ld W&&ld W)=ld W;rw[Bool.and_self]
   rw[y]
   refine(?_:wpAny _ _ (_ >>= _) _ _ _)
   have e1:SetTable.laid (cst l d c (ld W)).mask (cst l d c (ld W)).finger (cst l d c (ld W)).moves (ld W) ((cst l d c (ld W)).plain&&(cst l' f g (ld W)).plain) ((ch j l').map (·.1))=some (cst l' d c (ld W),Array.range l'.length):=xR q P j c _
   rw[e1]
   refine aa ?_
   refine(?_:wpAny _ _ (do
    let L:=(Array.range l'.length).filterMap ((ch j l')[·]?)
    if L.size != (ch j l').size then unsupported "internal:set-table-lost-an-element"
    pure (L,cst l' d c (ld W))) _ _ _)
   rw[uM q j]
   have U:((ch j l').size != (ch j l').size)=false:=by rw[g9]
   refine ifN U ?_
   exact ac (fin x P)
 ·have i:(cst l d c (ld W)).road (cst l' f g (ld W)) = .oneByOne:=by
   unfold SetTable.road
   have:((cst l d c (ld W)).fill != 0)=true:=by
    unfold SetTable.fill cst
    have:l.length≠0:=λz=>x (mT.mp z)
    simpa using x
   rw[bI this]
  rw[i]
  refine aa (qS (s:={ s with heap:=m }) q B t H λxs hx=>?_)
  rw[pJ] at hx
  obtain⟨r,hr,V⟩:=qR hx
  refine aa ?_
  rw[← Array.forIn_toList,V]
  refine wB I q B H R _ (λG G G=>rfl) r l { s with heap:=m } D _ (λk hk=>j8 q k (hr.mem_iff.mp hk)) C n t λh' N T O K=>ac ?_
  exact h h' N (iY p T) O (by rw[Am hr] at K;exact K)
noncomputable def f4(c:Value)(led:Bool)(l:List Nat)(o:Obj):Prop:=o.cls=c/\(c = .type "set" -> o.dict=none/\o.slots = #[])/\eI led l o.data
theorem mn{led l}(h:eI led l o.data):nt o=true:=by
 obtain⟨i,f,g,b,a,hd,i⟩:=h
 obtain⟨c,d,e,sl⟩:=o
 dsimp only at hd;subst hd
 cases c <;> rfl
theorem j9{led l}(h:eI led l o.data):∀es b,o.data≠.dict es b:=λes b e=>by
 obtain⟨f,d,b,c,a,hd,f⟩:=h
 rw[hd] at e;cases e
noncomputable def fy(c:Value)(led:Bool)(l:List Nat):Ty:=⟨λV v=>∃a o,v = .ref a/\V a=some o/\f4 c led l o,λh=>zZ λa o e v i=>⟨a,o,e,h _ _ v (mn i.2.2),i⟩⟩
noncomputable def nN(c:Value)(led:Bool)(l:List Nat):OTy:=⟨λa o=>f4 c led l o,λa h=>h⟩
theorem EP{a τ':Nat->Tok}(h:ch a l=ch τ' l'):l=l':=by
 have:=aY (λx:Array (Int×Value)=>x.toList.map λe=>e.1.toNat) h
 simpa[ch,Function.comp_def] using this
theorem uN{led led' l l' d}(h:eI led l d)(h':eI led' l' d):l=l':=by
 obtain⟨j,g,i,e,c,hd,j⟩:=h
 obtain⟨j,τ',f,mask',b,a,j⟩:=h'
 rw[hd] at a
 injection a with e1
 exact EP e1
noncomputable def aQ(l l':List Nat):List Nat:=(List.range 4).filter λj=>l.contains j&&l'.contains j
theorem gK(l l':List Nat):aQ l l'∈br:=gJ _
theorem qT(l l':List Nat):aQ l l'=aQ l' l:=by unfold aQ;simp only[Bool.and_comm]
theorem wC(h:l∈br):aQ l l=l:=by unfold aQ;simpa using cO h
structure SetCls(W:Wc)(c:Value):Prop where
 sub:∀h,W.K.In h->Looks (model prg W.w) h (isSubtype c (.type "set")) true
theorem jQ:SetCls W (.type "set"):=⟨λh X=>cR mU⟩
theorem ka:SetCls W (.ref 57):=⟨λh X=>looks_subIn X (by kernel_rfl)⟩
theorem l4(d:s.heap.get? a=some o)(b:o.cls=c)(h:Q c s):wpAny (model prg W.w) A (typeOf (.ref a)) Q E s:=by
 exact aa (kG d (ac (b▸h)))
theorem lb{Q:Bool->Shared->Prop}(g:W.K.In s.heap)(K:SetCls W c)(b:s.heap.get? a=some o)(d:o.cls=c)(h:Q true s):wpAny (model prg W.w) A (isInstance (.ref a) (.type "set")) Q E s:=by
 exact aa (l4 b d ((K.sub _ g).here h))
theorem nO{Q:Bool->Shared->Prop}(g:W.K.In s.heap)(K:SetCls W c)(b:s.heap.get? a=some o)(d:o.cls=c)(h:Q true s):wpAny (model prg W.w) A (Builtin.Frozenset.isAnySet (.ref a)) Q E s:=by
 refine aa (m:=isInstance (.ref a) (.type "set")) (lb g K b d ?_)
 exact ac h
theorem yW{M:Type}{id nm:String}{rest:List Value}{Q:Unit->Shared->Prop}(b:builtinKind id=some .slot∨builtinKind id=some .method)(d:splitId id=some ("set",nm))(f:argsOk id ⟨.ref a::rest,[]⟩)(g:W.K.In s.heap)(K:SetCls W c)(i:s.heap.get? a=some o)(k:o.cls=c)(h:Q () s):wpAny (model prg W.w) A (checkBuiltinCall id ⟨.ref a::rest,[]⟩) Q E s:=by
 rcases b with b | b <;>
 ·unfold checkBuiltinCall
  generalize builtinKind id=y at b ⊢
  generalize splitId id=z at d ⊢
  subst b d
  refine aa (lb g K i k ?_)
  refine ifN rfl ?_
  cases e:Manifest.signature? id with
  | none=>exact ac h
  | some sig =>
   rw[argsOk,e] at f
   have j:Bind.checkArgs id sig ⟨.ref a::rest,[]⟩=pure ():=f
   refine(?_:wpAny (model prg W.w) A (Bind.checkArgs id sig ⟨.ref a::rest,[]⟩) Q E s)
   exact j▸(ac h)
theorem lf{id nm:String}{b:Builtin}{rest:List Value}(m:plainId id=true)(f:entryFor table id=some b)(i:builtinKind id=some .slot∨builtinKind id=some .method)(d:splitId id=some ("set",nm))(e:argsOk id ⟨.ref a::rest,[]⟩)(g:W.K.In s.heap)(K:SetCls W c)(j:s.heap.get? a=some o)(l:o.cls=c)(h:wpAny (model prg W.w) A.in1 (b ⟨.ref a::rest,[]⟩) (λfin s'=>∃v,fin = .done (.ret v)/\Q v s') E s):wpAny (model prg W.w) A (call (.builtin id) (.ref a::rest)) Q E s:=by
 refine bQ (iN m f (yW (M:=Unit) i d e g K j l (ad h (λfin s' h'=>?_) λn n h'=>h')))
 obtain⟨v,rfl,k⟩:=h';exact k
theorem lM{Q:Nat->Shared->Prop}{τ ep mask moves}(b:l∈br)(c:mask=7∨mask=15∨mask=31)(d:s.heap.get? a=some o)(hd:o.data = .set (ch τ l) ep (cst l mask moves led))(h:Q ep s):wpAny (model prg W.w) A (setEpoch a) Q E s:=by
 exact aa (cD b c d hd (ac h))
noncomputable abbrev eG(W:Wc):Obj:={ cls:=.type "set",dict:=none,data:=.set #[] 0 (.fresh 0 0 (ld W)),slots:=#[] }
theorem lN(W:Wc):f4 (.type "set") (ld W) [] (eG W):=⟨rfl,λa=>⟨rfl,rfl⟩,by decide,λa=>0,0,7,0,rfl,.inl rfl⟩
theorem xS(h:Q (.ref s.heap.objs.size) { s with heap:=s.heap.push (eG W) }):wpAny (model prg W.w) A (newSet (.type "set")) Q E s:=by
 refine aa (aa (eO (ac ?_)))
 exact aa (lG (ac h))
theorem xU(g:W.K.In s.heap)(K:SetCls W c)(b:s.heap.get? a=some o)(d:o.cls=c)(h:Q (.type "set") s):wpAny (model prg W.w) A (Builtin.Frozenset.baseOf a) Q E s:=by
 refine aa (lb g K b d ?_)
 exact ac h
theorem nP{b:Addr}{x:Obj}(e:h.get? b=some x):(h.push o).get? b=some x:=aV _ e
structure gL(W:Wc)(s:Shared)(l:List Nat)(s':Shared):Prop where
 eq:∃h',s'={ s with heap:=h' }
 keep:∀b o,s.heap.get? b=some o->s'.heap.get? b=some o
 siz:s'.heap.objs.size=s.heap.objs.size+1
 new:∃o,s'.heap.get? s.heap.objs.size=some o/\f4 (.type "set") (ld W) l o
theorem gL.of{d:Data}(hs:Heap.SameBut s.heap.objs.size (s.heap.push (eG W)) h')(a:h'.get? s.heap.objs.size=some { eG W with data:=d })(hd:eI (ld W) l d):gL W s l { s with heap:=h' } :=
 ⟨⟨h',rfl⟩,λb o e=>(hs.2 b (lD (aO e))).trans (nP e),by rw[hs.1,bi],_,a,rfl,λc=>⟨rfl,rfl⟩,hd⟩
theorem qU(g:W.K.In s.heap)(K:SetCls W c)(b:s.heap.get? a=some o)(hs:f4 c (ld W) l o)(h:∀s',gL W s l s'->Q (.ref s.heap.objs.size) s'):wpAny (model prg W.w) A (Builtin.Frozenset.copyOf a) Q E s:=by
 refine aa (xU g K b hs.1 ?_)
 refine aa (xS ?_)
 have i:(s.heap.push (eG W)).get? s.heap.objs.size=some (eG W):=bf _ rfl
 have e:s.heap.objs.size≠a:=cE (aO b)
 refine aa (m:=Builtin.Frozenset.addrOf _) (ac ?_)
 refine aa (sF (s:={ s with heap:=s.heap.push (eG W) }) e (lN W).2.2 i hs.2.2 (nP b) (λs' Q k h=>ac h) λh' j d f hd=>ac (h _ (gL.of d f ?_)))
 rw[pI hs.2.2.sub] at hd;exact hd
section
variable {c':Value}
theorem kc{id:String}{Q:Unit->Shared->Prop}{τ ep mask moves}(c:l∈br)(d:mask=7∨mask=15∨mask=31)(e:s.heap.get? a=some o)(hd:o.data = .set (ch τ l) ep (cst l mask moves led))(h:Q () s):wpAny (model prg W.w) A (Builtin.Frozenset.unchanged id a ep) Q E s:=by
 refine aa (lM c d e hd ?_)
 have b:(ep != ep)=false:=g9 _
 rw[b];refine ifZ (by decide) ?_
 exact ac h
theorem wD{n:Addr}{b a:Addr}{on L:Obj}{v:Nat->Tok}{id:String}{lw J:List Nat}{B c q:Nat}{P:Nat->Tok}(X:n≠b)(z:n≠a)(H:lw∈br)(C:c=7∨c=15∨c=31)(F:L.data = .set (ch P lw) B (cst lw c q (ld W)))(U:eI (ld W) J oa.data)(f:Int×Value->PUnit->Sem (ForInStep PUnit))(hf:∀h x u,f (h,x) u=(do
   let __r ← holding [x] (do
    if(← setFind b x h).isSome then
     let _ ← setAddHashed n x h)
   Builtin.Frozenset.unchanged id a B
   pure (.yield ⟨⟩))):
  ∀(r:List Nat) (l:List Nat) (s:Shared) (d:Data) (Q:PUnit->Shared->Prop),(∀k∈r,k<4)->eI (ld W) l d->s.heap.get? n=some { on with data:=d }->s.heap.get? b=some oa->s.heap.get? a=some L ->
   (∀h' M,Heap.SameBut n s.heap h'->h'.get? n=some { on with data:=M }->eI (ld W) (uni l (r.filter λk=>J.contains k)) M->Q ⟨⟩ { s with heap:=h' })->wpAny (model prg W.w) A (forIn (r.map (ent v)) PUnit.unit f) Q E s:=by
 intro r
 induction r with
 | nil =>
  intro l s d Q O hs N y t V
  refine ac ?_
  exact V s.heap d (jB n _) N (by rw[List.filter_nil,pH hs.sub];exact hs)
 | cons k r ih =>
  intro l s d Q O hs N y t V
  rw[cz,mE,show ent v k=((k:Int),Value.int (k:Int) (v k)) from rfl,hf]
  have hk:=O k (.head _)
  have hh:((k:Int))=(intKind prg W.w).hash (k:Int):=(ml hk).symm
  have rest:∀(i:List Nat) (h':Heap) (g:Data),Heap.SameBut n s.heap h'->h'.get? n=some { on with data:=g }->eI (ld W) i g->(uni i (r.filter λk=>J.contains k)=uni l ((k::r).filter λk=>J.contains k)) ->
    wpAny (model prg W.w) A (forIn (r.map (ent v)) PUnit.unit f) Q E { s with heap:=h' }:=λi h' g m hg hd e=>by
   have p:h'.get? a=some L:=(m.2 a (gY z)).trans t
   have K:h'.get? b=some oa:=(m.2 b (gY X)).trans y
   refine ih i { s with heap:=h' } g Q (λj hj=>O j (bt _ hj)) hd hg K p λZ T I Y D=>?_
   exact V Z T (iY m I) Y (e▸D)
  refine aa (aa (aP ?_))
  rw[show setFind b (.int (k:Int) (v k)) (k:Int)=setFind b (.int (k:Int) (v k)) ((intKind prg W.w).hash (k:Int)) from aY _ hh]
  refine aa (uL U y λrr a2=>?_)
  rw[a2]
  cases hc:J.contains k with
  | false =>
   refine ifZ (by decide) ?_
   refine ac (aa (kc H C t F (ac ?_)))
   have:=rest l s.heap d (jB n _) N hs (by rw[kI,bj (by rw[hc];decide)])
   exact this
  | true =>
   refine ifP rfl ?_
   rw[show setAddHashed n (.int (k:Int) (v k)) (k:Int)=setAddHashed n (.int (k:Int) (v k)) ((intKind prg W.w).hash (k:Int)) from aY _ hh]
   refine aa (nI (o:={ on with data:=d }) hk hs N λbb h' M m hg R=>ac ?_)
   have p:h'.get? a=some L:=(m.2 a (gY z)).trans t
   refine aa (kc (s:={ s with heap:=h' }) H C p F (ac ?_))
   exact rest (ins k l) h' M m hg R (by rw[kI,bI hc,to])
theorem wE{r:List Nat}(b:l∈br)(a:r.Perm l):uni [] (r.filter λk=>l'.contains k)=aQ l l':=by
 refine fC λj c=>?_
 have:([]:List Nat).contains j=false:=rfl
 rw[this,dP,dy]
 simp only[List.contains_iff_mem,List.mem_filter,Bool.and_eq_true,a.mem_iff]
theorem sG{b:Addr}{id:String}(g:W.K.In s.heap)(K:SetCls W c)(K':SetCls W c')(D:s.heap.get? a=some oa)(hs:f4 c (ld W) l oa)(q:s.heap.get? b=some ob)(p:f4 c' (ld W) l' ob)(h:∀s',gL W s (aQ l l') s'->Q (.ref s.heap.objs.size) s'):wpAny (model prg W.w) A (Builtin.Frozenset.intersection id a (.ref b)) Q E s:=by
 unfold Builtin.Frozenset.intersection
 by_cases H:b=a
 ·subst H
  refine ifP (by simp) ?_
  rw[D] at q;cases q
  have e:=uN hs.2.2 p.2.2
  subst e
  exact qU g K D hs λs' n=>h s' (by rw[wC hs.2.2.sub];exact n)
 ·refine ifZ (by simpa using H) ?_
  refine aa (xU g K D hs.1 ?_)
  refine aa (xS ?_)
  have Y:(s.heap.push (eG W)).get? s.heap.objs.size=some (eG W):=bf _ rfl
  have B:s.heap.objs.size≠a:=cE (aO D)
  have z:s.heap.objs.size≠b:=cE (aO q)
  have i:(s.heap.push (eG W)).get? a=some oa:=nP D
  have d:(s.heap.push (eG W)).get? b=some ob:=nP q
  have F:W.K.In (s.heap.push (eG W)):=λx y e=>nP (g x y e)
  refine aa (m:=Builtin.Frozenset.addrOf _) (ac ?_)
  refine aa (aP ?_)
  refine aa (nO (s:={ s with heap:=s.heap.push (eG W) }) F K' d p.1 ?_)
  refine aa (m:=Builtin.Frozenset.addrOf (.ref b)) (ac ?_)
  refine aa (nJ (s:={ s with heap:=s.heap.push (eG W) }) p.2.2 d ?_)
  refine aa (nJ (s:={ s with heap:=s.heap.push (eG W) }) hs.2.2 i ?_)
  have V:∀(j f:Addr) (oA M:Obj) (L N:List Nat),s.heap.objs.size≠j->s.heap.objs.size≠f->(s.heap.push (eG W)).get? j=some oA->(s.heap.push (eG W)).get? f=some M->eI (ld W) L oA.data->eI (ld W) N M.data->aQ N L=aQ l l' ->
    wpAny (model prg W.w) A (do
     let was ← setEpoch f
     for (h,x) in ← setWalkUnseen f [j,s.heap.objs.size] (some s.heap.objs.size) do
      holding [x] do
       if(← setFind j x h).isSome then
        let _ ← setAddHashed s.heap.objs.size x h
      Builtin.Frozenset.unchanged id f was) (λG s₁=>Q (Value.ref s.heap.objs.size) s₁) E { s with heap:=s.heap.push (eG W) }:=by
   intro j f oA M L N h1 h2 h3 J X h6 h7
   obtain⟨o,b2,Z,R,I,t,u⟩:=h6
   refine aa (lM (s:={ s with heap:=s.heap.push (eG W) }) o u J t ?_)
   refine aa (qS (s:={ s with heap:=s.heap.push (eG W) }) o u J t λxs U=>?_)
   rw[pJ] at U
   obtain⟨r,T,P⟩:=qR U
   rw[← Array.forIn_toList,P]
   refine aa (wD (on:=eG W) h1 h2 o u t X _ (λG G G=>rfl) r [] { s with heap:=s.heap.push (eG W) } (eG W).data _ (λk hk=>j8 o k (T.mem_iff.mp hk)) (lN W).2.2 Y h3 J λh' d' O hg v=>ac ?_)
   refine h _ (gL.of O hg ?_)
   rw[wE o T,h7] at v;exact v
  by_cases C:l'.length>l.length
  ·rw[bI C]
   refine ad (V b a ob oa l' l z B d i p.2.2 hs.2.2 rfl) (λG G h=>ac h) λG G e=>e
  ·rw[bj C]
   refine ad (V a b oa ob l l' B z i d hs.2.2 p.2.2 (qT _ _)) (λG G h=>ac h) λG G e=>e
end
noncomputable def Ap:List (Str×String):=[("__len__", "set.__len__"),("__contains__", "set.__contains__"),("__iter__", "set.__iter__"),("__and__", "set.__and__")]
theorem rZ:entryFor table "set.__and__" = some Builtin.«frozenset.__and__»:=kO (id' := "frozenset.__and__") (by kernel_rfl) rfl (by decide +kernel) (by kernel_rfl)
theorem qV:entryFor table "set.__iter__" = some Builtin.«frozenset.__iter__»:=kO (id' := "frozenset.__iter__") (by kernel_rfl) rfl (by decide +kernel) (by kernel_rfl)
theorem pr:entryFor table "set.union" = some Builtin.«frozenset.union»:=kO (id' := "frozenset.union") (by kernel_rfl) rfl (by decide +kernel) (by kernel_rfl)
theorem ke:entryFor table "set.intersection" = some Builtin.«frozenset.intersection»:=kO (id' := "frozenset.intersection") (by kernel_rfl) rfl (by decide +kernel) (by kernel_rfl)
structure SetOps(W:Wc)(c:Value):Prop extends SetCls W c where
 find:∀p∈Ap,findIn W.K c p.1=some (some (.builtin p.2))
theorem bS:SetOps W (.type "set"):=⟨jQ,oz (f:=λp:Str×String=>findIn W.K _ p.1) (g:=λp=>some (some (.builtin p.2))) (by kernel_rfl)⟩
theorem bM:SetOps W (.ref 57):=⟨ka,oz (f:=λp:Str×String=>findIn W.K _ p.1) (g:=λp=>some (some (.builtin p.2))) (by kernel_rfl)⟩
theorem ic{nm:Str}{id:String}{Q:Option Value->Shared->Prop}(hf:findIn W.K c nm=some (some (.builtin id)))(g:W.K.In s.heap)(b:s.heap.get? a=some o)(d:o.cls=c)(h:Q (some (.builtin id)) s):wpAny (model prg W.w) A (specialOf (.ref a) nm) Q E s:=by
 exact aa (l4 b d ((fB g hf).here h))
theorem qW{nm:Str}{id:String}{b:List Value}{Q:Option Value->Shared->Prop}(hf:findIn W.K c nm=some (some (.builtin id)))(e:∀self,bindSpecial (.builtin id) self=pure (.builtin id,[self]))(g:W.K.In s.heap)(d:s.heap.get? a=some o)(f:o.cls=c)(h:wpAny (model prg W.w) A (call (.builtin id) (.ref a::b)) (λv=>Q (some v)) E s):wpAny (model prg W.w) A (callSpecial? (.ref a) nm b) Q E s:=by
 refine aa (ic hf g d f ?_)
 simp only[e]
 exact aP (aa (ac (aa (ad h (λv s' h'=>ac h') λi i h'=>h'))))
theorem uO{nm:Str}{id:String}{d:List Value}{b:Sem Value}{Q:Option Value->Shared->Prop}(hf:findIn W.K c nm=some (some (.builtin id)))(f:∀self,bindSpecial (.builtin id) self=pure (.builtin id,[self]))(g:W.K.In s.heap)(e:s.heap.get? a=some o)(i:o.cls=c)(h:wpAny (model prg W.w) A (call (.builtin id) (.ref a::d)) (λv=>Q (some v)) E s):wpAny (model prg W.w) A (callSpecialUnlessNone? (.ref a) nm d b) Q E s:=by
 refine aa (ic hf g e i ?_)
 simp only[f]
 refine aP (aa (ac ?_))
 exact aa (ad h (λv s' h'=>ac h') λj j h'=>h')
theorem tq(K:SetOps W c)(g:W.K.In s.heap)(b:s.heap.get? a=some o)(hs:f4 c (ld W) l o)(h:Q (.int (l.length:Int) s.toks) { s with toks:=s.toks+1 }):
  wpAny (model prg W.w) A (call (.builtin "set.__len__") [.ref a]) Q E s:=by
 refine lf (nm := "__len__") (by decide +kernel) entry_set_len (by decide +kernel) (by decide +kernel) (F.args_set_len_1 _) g K.toSetCls b hs.1 ?_
 unfold Builtin.«frozenset.__len__» Builtin.Frozenset.slot0 slotArgs
 simp only[List.isEmpty_nil,Bool.not_true,Bool.false_eq_true,↓reduceIte,bind_assoc,List.length_nil,bne_self_eq_false]
 refine aa (ac ?_)
 try dsimp only
 refine aa (ac ?_)
 refine aa (nJ hs.2.2 b ?_)
 exact aa (wpAny_mkInt (ac ⟨_,rfl,h⟩))
theorem uP(K:SetOps W c)(g:W.K.In s.heap)(b:s.heap.get? a=some o)(hs:f4 c (ld W) l o)(h:Q (.int (l.length:Int) (s.toks+1)) { s with toks:=s.toks+1+1 }):
  wpAny (model prg W.w) A (call (.builtin "len") [.ref a]) Q E s:=by
 refine Calls.call_function_entry kind_len plain_len entry_len (args_len1 _) ?_
 have d:=c9 hs.2.2.sub
 refine aa (m:=oneArg "len" _) (ac ?_)
 refine aa (m:=callSpecial? (.ref a) (Str.ofString "__len__")) (qW (K.find ("__len__", "set.__len__") (.head _)) F.slot_set_len.bind g b hs.1 (tq K g b hs ?_))
 refine aa (aP (ac ?_))
 refine aa (kP ?_)
 refine(?_:wpAny _ _ (if((l.length:Nat):Int)<0 then _ else _) _ _ _)
 refine(?_:wpAny _ _ (if((l.length:Nat):Int) ≥ 2 ^ 63 then _ else _) _ _ _)
 refine ifZ (Int.not_le.mpr (oG ‹_›)) ?_
 exact aa (wpAny_mkInt (ac ⟨_,rfl,h⟩))
theorem tu{t:Tok}{Q:Bool->Shared->Prop}(K:SetOps W c)(g:W.K.In s.heap)(b:s.heap.get? a=some o)(hs:f4 c (ld W) l o)(h:Q (l.contains k) { s with toks:=s.toks+1 }):
  wpAny (model prg W.w) A (contains (.ref a) (.int (k:Int) t)) Q E s:=by
 unfold contains
 try with_reducible refine aP ?_
 refine aa (ic (K.find ("__contains__", "set.__contains__") (.tail _ (.head _))) g b hs.1 ?_)
 refine(?_:wpAny _ _ (if(some (Value.builtin "set.__contains__")==some Value.none)=true then _ else _) _ E s)
 refine ifZ (by rw[beq_builtin_none];exact eC) ?_
 refine aa (uO (K.find ("__contains__", "set.__contains__") (.tail _ (.head _))) F.slot_set_contains.bind g b hs.1
  (lf (nm := "__contains__") (by decide +kernel) entry_set_contains (by decide +kernel) (by decide +kernel) (F.args_set_contains_2 _ _) g K.toSetCls b hs.1 ?_))
 unfold Builtin.«frozenset.__contains__» Builtin.Frozenset.oneOther
 simp only[List.isEmpty_nil,bind_assoc]
 unfold Builtin.Frozenset.addrOf Builtin.Frozenset.withSetAsKey setContains
 refine aa (ac ?_)
 try dsimp only
 refine aa (ac ?_)
 try dsimp only
 refine aa (mV ?_)
 refine aP ?_
 refine aa ((intKind prg W.w).pyHash (k:=(k:Int)) (eN _ _ _ _) ?_)
 refine aa (uL (s:={ s with toks:=s.toks+1 }) hs.2.2 b λr d=>?_)
 refine ac ?_
 refine(?_:wpAny _ _ (ret (Value.bool r.isSome)) _ _ _)
 exact d▸(ac ⟨_,rfl,gW h⟩)
theorem bD(K:SetOps W c):aM W n (.builtin "len") [fy c (ld W) l] [] (ag l.length):=λA O s vs ks f g e hK=>by
 obtain⟨v,r,rfl,⟨a,o,rfl,d,hs⟩,b⟩:=ay.cons_iff e
 exact(ay.nil_iff b)▸(uP K g.g.kin (af d) hs (dW g.g ⟨_,rfl⟩))
theorem nQ(K:SetOps W c):iz W n .In (ag k) (fy c (ld W) l) (l.contains k):=λA O s x y f g d e=>by
 obtain⟨t,rfl⟩:=d
 obtain⟨a,o,rfl,b,hs⟩:=e
 refine(?_:wpAny _ _ (do return Value.bool (← contains (.ref a) (.int (k:Int) t)):Sem Value) _ _ s)
 exact aa (tu K g.g.kin (af b) hs (ac (dW g.g rfl)))
theorem gL.res(g:GO W O s)(h:gL W s l s'):Res W O s (fy (.type "set") (ld W) l) (.ref s.heap.objs.size) s':=by
 obtain⟨h',rfl⟩:=h.eq
 have a:s.heap.objs.size<=h'.objs.size:=ae (bY _) (aH h.siz.symm)
 obtain⟨o,b,hs⟩:=h.new
 exact⟨g.g.step (tk:=s.toks) h.keep a,aF.step (tk:=s.toks) h.keep a,_,o,rfl,aK b (λm=>bz _ (g.ok _ m).2),hs⟩
structure qX(W:Wc)(c c':Value):Prop where
 lft:peek W.K ⟨prg,W.w.params⟩ (fillsNumberSlot c "and")=some true
 right:c≠c'->peek W.K ⟨prg,W.w.params⟩ (fillsNumberSlot c' "and")=some true/\∃b,peek W.K ⟨prg,W.w.params⟩ (isSubtype c' c)=some b/\(b=true->peek W.K ⟨prg,W.w.params⟩ (reflectedDiffers c c' "and")=some false)
 py:c≠c'->peek W.K ⟨prg,W.w.params⟩ (numberSlotInPython c "and")=some false
theorem EQ:qX W (.type "set") (.type "set"):=⟨by kernel_rfl,λh=>absurd rfl h,λh=>absurd rfl h⟩
theorem fY:qX W (.ref 57) (.ref 57):=⟨by kernel_rfl,λh=>absurd rfl h,λh=>absurd rfl h⟩
theorem Aq:qX W (.ref 57) (.type "set"):=⟨by kernel_rfl,λa=>⟨by kernel_rfl,false,by kernel_rfl,λh=>nomatch h⟩,λa=>by kernel_rfl⟩
theorem ER:qX W (.type "set") (.ref 57):=⟨by kernel_rfl,λa=>⟨by kernel_rfl,true,by kernel_rfl,λa=>by kernel_rfl⟩,λa=>by kernel_rfl⟩
theorem Ar{c':Value}{b:Addr}(K:SetOps W c)(i:SetOps W c')(g:W.K.In s.heap)(f:s.heap.get? a=some oa)(hs:f4 c (ld W) l oa)(e:s.heap.get? b=some ob)(d:f4 c' (ld W) l' ob)(h:∀s',gL W s (aQ l l') s'->Q (.ref s.heap.objs.size) s'):wpAny (model prg W.w) A (call (.builtin "set.__and__") [.ref a,.ref b]) Q Nev s:=by
 refine lf (nm := "__and__") (by decide +kernel) rZ (by decide +kernel) (by decide +kernel) (F.args_set_and_2 _ _) g K.toSetCls f hs.1 ?_
 show wpAny _ _ (do
  let(self,other) ← Builtin.Frozenset.slot1 "__and__" ⟨[.ref a,.ref b],[]⟩
  let(l,r):=if false then(other,self) else(self,other)
  if !(← (Builtin.Frozenset.isAnySet l <&&> Builtin.Frozenset.isAnySet r)) then rule s!"frozenset.{("__and__" : String)}.declined";return ← ret .notImplemented
  ret (← Builtin.Frozenset.intersection s!"frozenset.{("__and__" : String)}" (← Builtin.Frozenset.addrOf l) r)) _ _ s
 refine aa (m:=Builtin.Frozenset.slot1 "__and__" _) (ac (a:=(Value.ref a,Value.ref b)) ?_)
 refine aa ?_
 refine aa (m:=Builtin.Frozenset.isAnySet (.ref a)) (nO g K.toSetCls f hs.1 ?_)
 refine nO g i.toSetCls e d.1 ?_
 refine ifN rfl ?_
 refine aa (m:=Builtin.Frozenset.addrOf (.ref a)) (ac ?_)
 refine aa (sG g K.toSetCls i.toSetCls f hs e d λs' j=>?_)
 exact ac ⟨_,rfl,h s' j⟩
theorem CB{c':Value}{b:Addr}{Q:Option Value->Shared->Prop}(K:SetOps W c)(i:SetOps W c')(g:W.K.In s.heap)(f:s.heap.get? a=some oa)(hs:f4 c (ld W) l oa)(e:s.heap.get? b=some ob)(d:f4 c' (ld W) l' ob)(h:∀s',gL W s (aQ l l') s'->Q (some (.ref s.heap.objs.size)) s'):wpAny (model prg W.w) A (tryMethod (.ref a) "__and__" (.ref b)) Q Nev s:=by
 exact aa (qW (K.find ("__and__", "set.__and__") (.tail _ (.tail _ (.tail _ (.head _))))) F.slot_set_and.bind g f hs.1 (Ar K i g f hs e d λs' j=>ac (h s' j)))
theorem As{Q:Option Value->Shared->Prop}{nm:String}{a b c d:Value}(C:Looks (model prg w) s.heap (typeOf a) c)(l:Looks (model prg w) s.heap (typeOf b) d)(F:Looks (model prg w) s.heap (fillsNumberSlot c nm) true)(n:c≠d->Looks (model prg w) s.heap (fillsNumberSlot d nm) true/\∃g,Looks (model prg w) s.heap (isSubtype d c) g/\(g=true->Looks (model prg w) s.heap (reflectedDiffers c d nm) false))(j:c≠d->Looks (model prg w) s.heap (numberSlotInPython c nm) false)(h:wpAny (model prg w) A (tryMethod a (PySem.dunder nm) b) (λr s'=>∃v,r=some v/\Q (some v) s') E s):wpAny (model prg w) A (binaryOp1 nm a b) Q E s:=by
 obtain⟨y,u,o,x,os⟩:=s
 refine aa (C.at (aa (l.at (aa (F.at ?_)))))
 have fin:wpAny (model prg w) A (tryMethod a (PySem.dunder nm) b) (λr s'=>∀Z:Sem (Option Value),(∀v,r=some v->Z=pure (some v))->wpAny (model prg w) A Z Q E s') E ⟨y,u,o,x,os⟩:=ad h (λr s'=>ir λv e t k p=>by rw[p v e];exact ac t) λG G e=>e
 cases i:c==d with
 | true=>exact aa (m:=tryMethod a (PySem.dunder nm) b) (ad fin (λr s' q=>q _ λv e=>by subst e;rfl) λG G e=>e)
 | false =>
  have f:c≠d:=λe=>by rw[e,jz] at i;cases i
  obtain⟨D,g,z,B⟩:=n f
  refine aa (m:=fillsNumberSlot d nm) (D.at (aa (m:=isSubtype d c) (z.at ?_)))
  cases g with
  | true=>exact aa (m:=reflectedDiffers c d nm) ((B rfl).at (aa (m:=numberSlotInPython c nm) ((j f).at (aa (m:=tryMethod a (PySem.dunder nm) b) (ad fin (λr s' q=>q _ λv e=>by subst e;rfl) λG G e=>e)))))
  | false=>exact aa (m:=numberSlotInPython c nm) ((j f).at (aa (m:=tryMethod a (PySem.dunder nm) b) (ad fin (λr s' q=>q _ λv e=>by subst e;rfl) λG G e=>e)))
theorem CC{A O s c c' l l'}{a b:Value}(K:SetOps W c)(m:SetOps W c')(P:qX W c c')(g:GO W O s)(n:(fy c (ld W) l).p (am s.heap O) a)(o:(fy c' (ld W) l').p (am s.heap O) b):wpAny (model prg W.w) A (binaryOp .BitAnd a b) (Res W O s (fy (.type "set") (ld W) (aQ l l'))) Nev s:=by
 obtain⟨a,oa,rfl,i,hs⟩:=n
 obtain⟨b,ob,rfl,d,h⟩:=o
 have i:=af i
 have d:=af d
 have X:=g.g.kin
 refine aP (aa (As (λA Q E s k q=>l4 (k _ _ i) hs.1 q) (λA Q E s k q=>l4 (k _ _ d) h.1 q) (cA X P.lft) (λf=>?_) (λf=>cA X (P.py f)) (CB K m X i hs d h λs' t=>⟨_,rfl,?_⟩)))
 ·obtain⟨r,j,v,u⟩:=P.right f
  exact⟨cA X r,j,cA X v,λe=>cA X (u e)⟩
 ·repeat lk
  exact gL.res g t
theorem gO{l:Expr}{c':Value}{x y:List Nat}(K:SetOps W c)(e:SetOps W c')(P:qX W c c')(h:EvP W C Γ n l (fy c (ld W) x))(d:EvP W C Γ n r (fy c' (ld W) y)):EvP W C Γ n (.BinOp l .BitAnd r pos) (fy (.type "set") (ld W) (aQ x y)) :=
 il h d λA O s a b j g f i=>CC K e P g f i
theorem dN:PySem.Slot "set_iterator" "__next__" "set_iterator.__next__" :=
 .of (owner := "set_iterator") (n := "__next__") (by kernel_rfl) (by decide +kernel) (by decide +kernel) (by decide +kernel)
  (by first | exact .inl (by decide +kernel) | exact .inr (by decide +kernel)) (by kernel_rfl)
theorem ko:PySem.Slot "set_iterator" "__iter__" "set_iterator.__iter__" :=
 .of (owner := "set_iterator") (n := "__iter__") (by kernel_rfl) (by decide +kernel) (by decide +kernel) (by decide +kernel)
  (by first | exact .inl (by decide +kernel) | exact .inr (by decide +kernel)) (by kernel_rfl)
theorem jR:entryFor table "set_iterator.__next__" = some Builtin.«set_iterator.__next__»:=entryFor_of_tree (by kernel_rfl)
theorem oH:entryFor table "set_iterator.__iter__" = some Builtin.«dict_keyiterator.__iter__»:=kO (id' := "dict_keyiterator.__iter__") (by kernel_rfl) rfl (by decide +kernel) (by kernel_rfl)
theorem kq(a:Value):argsOk "set_iterator.__next__" ⟨[a],[]⟩:=by unfold argsOk;kernel_rfl
theorem pt(a:Value):argsOk "set_iterator.__iter__" ⟨[a],[]⟩:=by unfold argsOk;kernel_rfl
noncomputable def oK(l:List Nat)(i:Nat):Nat:=match i with
 | 0=>0
 | i+1=>(l[i]?).getD 0+1
theorem At(b:l∈br)(a:i<=l.length):SetTable.below l.toArray (oK l i)=i:=by
 have h:∀l∈br,∀i<5,i<=l.length->SetTable.below l.toArray (oK l i)=i:=by decide +kernel
 exact h l b i (by have:=c9 b;exact ae (aX a 1) (aX this 1)) a
noncomputable def sl(W:Wc)(l:List Nat)(i:Nat):Nat:=if W.w.params.followText "set-order" then 0 else oK l i
noncomputable abbrev pc(a:Addr)(sl i n b:Nat):Obj:={ cls:=.type "set_iterator",dict:=none,data:=.fields #[rawInt sl,rawInt i,.ref a,rawInt n,rawInt b],slots:=#[] }
theorem yX(W:Wc)(a:Addr)(b:Nat->Tok)(c:Nat)(g:l∈br):∃r:List Nat,r.Perm l/\(W.w.params.followText "set-order" = true->pickOrder (W.w.params.setOrder a c) (ch b l)=(r.map (ent b)).toArray)/\(W.w.params.followText "set-order" = false->r=l):=by
 cases f:W.w.params.followText "set-order" with
 | true =>
  have h:=sE (W.w.params.setOrder a c) (ch b l)
  rw[pJ] at h
  obtain⟨r,d,e⟩:=qR h
  exact⟨r,d,λi=>by rw[← e],λh=>nomatch h⟩
 | false=>exact⟨l,iM _,λh=>(nomatch h),λi=>rfl⟩
theorem uQ{r:List Nat}{τ ep mask moves}{Q:Option (Value×Nat)->Shared->Prop}(d:l∈br)(m:mask=7∨mask=15∨mask=31)(g:s.heap.get? a=some o)(hd:o.data = .set (ch τ l) ep (cst l mask moves (ld W)))(n:i<=l.length)(v:r.Perm l)(q:W.w.params.followText "set-order" = true->pickOrder (W.w.params.setOrder a ep) (ch τ l)=(r.map (ent τ)).toArray)(p:W.w.params.followText "set-order" = false->r=l)(h:Q ((r[i]?).map λk:Nat=>(Value.int (k:Int) (τ k),sl W l (i+1))) s):wpAny (model prg W.w) A (setNext a (sl W l i) i ep) Q E s:=by
 refine aa (cD d m g hd ?_)
 refine aa (aa (eO (ac ?_)))
 refine(?_:wpAny _ _ (if W.w.params.followText "set-order" = true then _ else _) _ _ _)
 unfold sl at h ⊢
 cases b:W.w.params.followText "set-order" with
 | true =>
  rw[b] at h
  refine ifY rfl (ifN (g9 _) ?_)
  refine aa (aa (cD d m g hd ?_))
  refine aa (aa (eO (ac ?_)))
  refine(?_:wpAny _ _ (if W.w.params.followText "set-order" = true then _ else _) _ _ _)
  rw[b];refine ifP rfl ?_
  refine aa (eO (ac ?_))
  refine(?_:wpAny _ _ (pure (((pickOrder (W.w.params.setOrder a ep) (ch τ l))[i]?).map λe=>(e.2,0))) _ _ _)
  rw[q b]
  refine ac ?_
  have e:(((r.map (ent τ)).toArray)[i]?).map (λe=>(e.2,0))=(r[i]?).map λk:Nat=>(Value.int (k:Int) (τ k),0):=by
   rw[List.getElem?_toArray,dw,Option.map_map];rfl
  exact e▸(h)
 | false =>
  rw[b] at h
  have f:ld W=true:=by unfold ld;rw[b];rfl
  rw[p b] at h
  refine ifN rfl ?_
  rw[bj eC] at h
  rw[f]
  refine aa (bR (a:=()) (by with_unfolding_all rfl) ?_)
  refine(?_:wpAny _ _ (pure (match(ch τ l)[SetTable.below l.toArray (oK l i)]?,l.toArray[SetTable.below l.toArray (oK l i)]? with | some (_,x),some j=>some (x,j+1) | _,_=>none)) _ _ _)
  rw[At d n]
  refine ac ?_
  have u:(ch τ l)[i]? = (l[i]?).map (ent τ):=by
   rw[← Array.getElem?_toList,pJ,dw]
  rw[u,List.getElem?_toArray]
  cases c:l[i]? with
  | none=>rw[c] at h;exact h
  | some k =>
   rw[c] at h
   have t:oK l (i+1)=k+1:=by
    refine(?_:l[i]?.getD 0+1=_)
    rw[c];rfl
   rw[t] at h
   exact h
theorem pd{τ ep mask moves}{Q:Array (Int×Value)->Shared->Prop}(b:l∈br)(c:mask=7∨mask=15∨mask=31)(d:s.heap.get? a=some o)(hd:o.data = .set (ch τ l) ep (cst l mask moves (ld W)))(h:Q (ch τ l) s):wpAny (model prg W.w) A (setEntries a) Q E s:=by
 exact aa (cD b c d hd (ac h))
theorem tw(K:SetOps W c):ww W n (fy c (ld W) l) (λUs=>∃r:List Nat,r.Perm l/\Us=r.map ag):=λA O s v rm g hv=>by
 obtain⟨a,o,rfl,J,hs⟩:=hv
 have C:=af J
 have L:=hs
 obtain⟨Q,G,t,M,p,a3,P,hd,B⟩:=hs
 obtain⟨r,D,h1,h2⟩:=yX W a M p t
 have E:r.length=l.length:=D.length_eq
 refine aa (ic (K.find ("__iter__", "set.__iter__") (.tail _ (.tail _ (.head _)))) g.g.kin C Q ?_)
 refine(?_:wpAny _ A (callSpecialIfBoundUnlessNone? (.ref a) "__iter__" _ >>= _) _ _ s)
 have body:wpAny (model prg W.w) A (call (.builtin "set.__iter__") [.ref a]) (λit s'=>it = .ref s.heap.objs.size/\s'={ s with heap:=s.heap.push (pc a 0 0 l.length p) }) Nev s:=by
  refine lf (nm := "__iter__") (by decide +kernel) qV (by decide +kernel) (by decide +kernel) (F.args_set_iter_1 _) g.g.kin K.toSetCls C Q ?_
  refine aa (m:=(do Builtin.Frozenset.addrOf (← slotArgs "__iter__" 0 ⟨[.ref a],[]⟩).1)) (ac (a:=a) ?_)
  refine aa (nJ L.2.2 C ?_)
  refine aa ?_
  refine aa (cD t B C hd ?_)
  refine aa (aa (eO (ac ?_)))
  refine ac ?_
  refine(?_:wpAny _ _ (if(!W.w.params.followText "set-order" && false)=true then _ else _) _ _ _)
  rw[e8];refine ifZ (by decide) ?_
  refine aa (ac ?_)
  refine aa (lM t B C hd ?_)
  exact aa (dQ (ac ⟨_,rfl,rfl,rfl⟩) (cL rfl))
 have u:wpAny (model prg W.w) A (callSpecialIfBoundUnlessNone? (.ref a) "__iter__" (do rule "iter.none";raiseError "TypeError" s!"'{← typeNameOf (.ref a)}' object is not iterable")) (λr s'=>r=some (.ref s.heap.objs.size)/\s'={ s with heap:=s.heap.push (pc a 0 0 l.length p) }) Nev s:=by
  refine aP (aa (aa (ic (K.find ("__iter__", "set.__iter__") (.tail _ (.tail _ (.head _)))) g.g.kin C Q ?_)))
  refine aa (eO (wpAny_ite ?_))
  have fin:wpAny (model prg W.w) A (if(Value.builtin "set.__iter__" == Value.none)=true then((do rule "iter.none";raiseError "TypeError" s!"'{← typeNameOf (.ref a)}' object is not iterable") >>= λv=>pure (some v)) else(call (.builtin "set.__iter__") [.ref a] >>= λv=>pure (some v))) (λr s'=>r=some (.ref s.heap.objs.size)/\s'={ s with heap:=s.heap.push (pc a 0 0 l.length p) }) Nev s:=by
   exact(bj (show ¬((Value.builtin "set.__iter__" == Value.none)=true) from by simp))▸(wpAny_bind (wpAny_mono body (λv s' h'=>wpAny_pure ⟨by rw[h'.1],h'.2⟩) λG G h'=>h'))
  split
  ·exact ac fin
  ·exact mV (ac fin)
 refine aa (ad u (λrr s' h'=>?_) λG G e=>e)
 obtain⟨rfl,rfl⟩:=h'
 have hI:(s.heap.push (pc a 0 0 l.length p)).get? s.heap.objs.size=some (pc a 0 0 l.length p):=bf _ rfl
 have H:Shared.TypeIs { s with heap:=s.heap.push (pc a 0 0 l.length p) } (.ref s.heap.objs.size) "set_iterator" := ⟨_,hI,rfl⟩
 refine aa (eM H dN.lookup (ac ?_))
 have Y:sl W l 0=0:=by unfold sl;split <;> rfl
 refine⟨_,s.toks, "set_iterator",r.map ag,λi h=>h.get? s.heap.objs.size=some (pc a (sl W l i) i l.length p),λV=>V a=some o,⟨r,D,rfl⟩,rfl,rfl,by show _=some _;rw[Y];exact hI,J,by decide +kernel,
  ⟨λi h h' q k=>k _ q rfl,λi h q=>⟨_,q,rfl,_,rfl⟩,λV V' vl q=>vl _ _ q (mn L.2.2),λi T H l' Z s' H' z g' U d X=>?_,λi l' Z s' H' z g' d=>?_,λl' Z s' H' z g' U d X=>?_⟩⟩
 ·
  have hi:i<r.length:=a0 .. ▸ (b8.mp H).1
  have N:∃k,r[i]? = some k:=⟨_,dz hi⟩
  obtain⟨k,N⟩:=N
  have R:T=ag k:=by rw[dw,N] at H;exact(fU H).symm
  subst R
  have j:=af X
  have f:s'.TypeIs (.ref s.heap.objs.size) "set_iterator" := ⟨_,d,rfl⟩
  generalize s.heap.objs.size=I at *
  refine aa (gh (g5 (name:=Str.ofString "__next__") f dN
   (eB dN f jR ?_ (kq _))))
  refine aa (m:=slotArgs "__next__" 0 _) (ac (a:=(Value.ref I,[])) ?_)
  refine aa (wpAny_fieldsOf d rfl ?_)
  show wpAny _ _ (do
   if((← setEntries a).size:Int) != (l.length:Int) then
    rule "set_iterator.__next__.size-changed"
    setField (.ref I) 3 (rawInt (-1))
    raiseError "RuntimeError" "Set changed size during iteration"
   match ← setNext a (sl W l i:Int).toNat (i:Int).toNat (p:Int).toNat with
    | some (x,next) =>
     setField (.ref I) 0 (rawInt next)
     setField (.ref I) 1 (rawInt ((i:Int)+1))
     ret x
    | none=>setField (.ref I) 2 .none;raiseNew (← newExc (.type "StopIteration") [])) _ _ _
  refine aa (pd t B j hd ?_)
  have y:(((ch M l).size:Int) != (l.length:Int))=false:=by rw[fk];exact g9 _
  rw[y];refine ifZ (by decide) ?_
  refine aa (uQ t B j hd (D.length_eq▸cQ hi) D h1 h2 ?_)
  rw[N]
  refine(?_:wpAny _ _ (do
     setField (.ref I) 0 (rawInt (sl W l (i+1):Nat))
     setField (.ref I) 1 (rawInt ((i:Int)+1))
     ret (.int (k:Int) (M k))) _ _ _)
  refine aa (jZ d rfl (by simp) ?_)
  have g1:=et (h:=s'.heap) (Obj.mapFields (·.setIfInBounds 0 (rawInt (sl W l (i+1):Nat)))) d rfl
  refine aa (jZ (s:={ s' with heap:=s'.heap.update I (Obj.mapFields (·.setIfInBounds 0 (rawInt (sl W l (i+1):Nat)))) }) g1 rfl (by simp[Obj.mapFields]) ?_)
  have g2:=et (h:=s'.heap.update I (Obj.mapFields (·.setIfInBounds 0 (rawInt (sl W l (i+1):Nat))))) (Obj.mapFields (·.setIfInBounds 1 (rawInt ((i:Int)+1)))) g1 rfl
  refine ac ⟨_,rfl,ac ⟨_,_,s'.toks,rfl,rfl,iY (dH s'.heap I _) (dH _ I _),?_,⟨_,rfl⟩⟩⟩
  rw[g2]
  simp[Obj.mapFields,pc,rawInt]
 ·have f:s'.TypeIs (.ref s.heap.objs.size) "set_iterator" := ⟨_,d,rfl⟩
  refine wpAny_pyIter_slot f ko (eB ko f oH ?_ (pt _))
  refine(?_:wpAny _ _ (ret (.ref s.heap.objs.size)) _ _ s')
  exact ac ⟨_,rfl, "set_iterator",_,f,dN.lookup,rfl,rfl⟩
 ·have j:=af X
  rw[a0] at d
  have f:s'.TypeIs (.ref s.heap.objs.size) "set_iterator" := ⟨_,d,rfl⟩
  generalize s.heap.objs.size=I at *
  refine aa (gh (g5 (name:=Str.ofString "__next__") f dN
   (eB dN f jR ?_ (kq _))))
  refine aa (m:=slotArgs "__next__" 0 _) (ac (a:=(Value.ref I,[])) ?_)
  refine aa (wpAny_fieldsOf d rfl ?_)
  show wpAny _ _ (do
   if((← setEntries a).size:Int) != (l.length:Int) then
    rule "set_iterator.__next__.size-changed"
    setField (.ref I) 3 (rawInt (-1))
    raiseError "RuntimeError" "Set changed size during iteration"
   match ← setNext a (sl W l r.length:Int).toNat (r.length:Int).toNat (p:Int).toNat with
    | some (x,next) =>
     setField (.ref I) 0 (rawInt next)
     setField (.ref I) 1 (rawInt ((r.length:Int)+1))
     ret x
    | none=>setField (.ref I) 2 .none;raiseNew (← newExc (.type "StopIteration") [])) _ _ _
  refine aa (pd t B j hd ?_)
  have y:(((ch M l).size:Int) != (l.length:Int))=false:=by rw[fk];exact g9 _
  rw[y];refine ifZ (by decide) ?_
  refine aa (uQ t B j hd (aH E) D h1 h2 ?_)
  rw[mW (aB _)]
  refine(?_:wpAny _ _ (do
     setField (.ref I) 2 .none
     raiseNew (← newExc (.type "StopIteration") [])) _ _ _)
  refine aa (jZ d rfl (by simp) ?_)
  refine(?_:wpAny _ _ (newExc (.type "StopIteration") [] >>= _) _ _ _)
  refine aa ?_
  refine aa (dQ ?_ (cL rfl))
  refine aa (m:=firstArgMember _ _) (bR (a:=Value.none) (by first | rfl | (simp only[firstArgMember];rfl)) ?_)
  refine dQ ?_ (by size_fits)
  refine aa (mX ?_)
  rw[show Z.in1.handled=none from z.hd]
  refine aa (ac (kQ ?_))
  refine aa (eQ (T := "StopIteration") (b:=true) ⟨_,bf _ rfl,rfl⟩ isSubtype_stop ?_)
  exact ac ⟨rfl,_,s'.toks,rfl,((dH s'.heap I _).extBut.push _).push _⟩
theorem xV(K:SetOps W c)(h:EvP W C Γ n e (fy c (ld W) l)):io W C Γ n tgt e (λUs=>∃r:List Nat,r.Perm l/\Us=r.map ag):=eV h (tw K).its
theorem mo{env:Env}(h:env.scope.kind = .function):interactive env=false:=by unfold interactive;rw[h];rfl
theorem aR{l:List Addr}:a∈l.filter (λb=>decide (b≠L))↔a∈l/\a≠L:=bk.trans (db λc=>qb)
inductive Gq(W:Wc)(H:List Addr)(P:OTy)(s:Shared)(v:Value)(s':Shared):Prop
 | mk (L:Addr) (o:Obj) (e:v = .ref L) (g:G W s') (k:aF s s') (hL:s.heap.objs.size<=L) (ho:s'.heap.get? L=some o) (hn:nt o=true) (p:P.p (am s'.heap (H++[L])) o)
inductive Gr(W:Wc)(L:Addr)(P:OTy)(H:List Addr)(s s':Shared):Prop
 | mk (o':Obj) (g:G W s') (k:ak ⟨[L],[]⟩ s s') (ho:s'.heap.get? L=some o') (hn:nt o'=true) (p:P.p (am s'.heap H) o')
def jS(W:Wc)(C:Cx)(Γ:Kn)(n:Nat)(e:Expr)(P:OTy):Prop:=∀A env O M s,aU W A n->Inv W C env Γ O M s->wpAny (model prg W.w) A (eval e env) (Gq W (O++M.a) P s) Nev s
theorem jS.evp{Q:OTy}(h:jS W C Γ n e Q)(d:∀V L o,V L=some o->Q.p V o->T.p V (.ref L)):EvP W C Γ n e T:=λA env O M s i I=>ad (h A env O M s i I) (λv s' f=>f.rec λL o e g k b c l j=>by
 subst e
 refine⟨g,k,d _ L o (aK c λm=>aw.mpr b (I.up L m).2) (Q.mono (bG λa m=>aq _ m) j)⟩) az
theorem Inv.give{Q:OTy}(I:Inv W C env Γ O M s)(k:aF s s')(g:G W s')(d:s.heap.objs.size<=L)(q:s'.heap.get? L=some o)(y:nt o=true)(z:Q.p (am s'.heap ((O++M.a)++[L])) o):
  Inv W C env ⟨Γ.v,Γ.h++[(L,Q)]⟩ O ⟨M.a++[L],M.g⟩ s':=by
 have f:=aO q
 have j:Inv W C env Γ (O++(⟨[L],[]⟩:Fp).a) M s':=(nv I).lent (F:=⟨[],[]⟩) (F':=⟨[L],[]⟩) k g ⟨λa m=>.inr (ah.mp m▸d),λA m=>absurd m av⟩ ⟨λa m=>by rw[ah.mp m];exact⟨ae I.g.siz d,f⟩,λA m=>absurd m av⟩ (λA m=>absurd m av) (λA A A m=>absurd m av)
 have c:=j.take (F:=⟨[L],[]⟩) ⟨λa m=>by rw[ah.mp m];exact⟨ae I.g.siz d,f⟩,λA m=>absurd m av⟩
 have w:M.g++(⟨[L],[]⟩:Fp).g=M.g:=by simp
 rw[w] at c
 have nM:∀{a},a∈O++M.a->a≠L:=λm e=>by subst e;exact aw.mpr d (I.up _ m).2
 refine⟨c.g,c.ok,c.own,c.cel,c.up,c.upg,c.loc,c.cells,λa Q' i=>?_,?_,c.top⟩
 ·rcases aj.mp i with i | i
  ·exact c.phi a Q' i
  ·have e:=ah.mp i
   cases e
   refine⟨al _ (.head _),λe=>nM (al _ I.own) e.symm,λx t=>?_,λm=>nM (aq _ m) rfl,o,q,y,?_⟩
   ·obtain⟨v,u⟩:=I.cells x L t
    exact absurd u.lt (aw.mpr d)
   ·have e:am s'.heap (O++(M.a++[L]))=am s'.heap ((O++M.a)++[L]):=cr λa=>by simp only[List.mem_append,or_assoc]
    refine(?_:Q.p (am s'.heap (O++(M.a++[L]))) o)
    exact e▸(z)
 ·rw[bW]
  refine List.nodup_append.mpr ⟨I.nod,by simp,λa r b l e=>?_⟩
  obtain⟨p,n,rfl⟩:=a9.mp r
  have l:b=L:=by simpa using l
  exact nM (al _ (I.phi p.1 p.2 n).mem) (e.trans l)
theorem Inv.chg{y:Obj}{Q:OTy}(I:Inv W C env Γ O M s)(w:Γ.h[i]? = some (L,Q))(k:ak ⟨[L],[]⟩ s s')(g:G W s')(ho:s'.heap.get? L=some y)(Z:nt y=true)(hp:Q'.p (am s'.heap (O++M.a)) y):
  ak M s s'/\Inv W C env (Γ.hset i L Q') O M s':=by
 obtain⟨J,u,f,E,S⟩:=I.phi L Q (be w)
 have q:ak M s s':=bK k (λa m=>ah.mp m▸J) (λS m=>absurd m av)
 have N:Vle (am s.heap (O++M.a)) (am s'.heap (O++M.a)):=q.vle (Ext.refl _ _)
 obtain⟨m,B,hv⟩:=I.loc
 refine⟨q,g,I.ok,I.own,I.cel,λa m=>⟨(I.up a m).1,aA (I.up a m).2 k.siz⟩,λa m=>aA (I.upg a m) k.gsz,⟨m,k.ns (λz=>u (ah.mp z).symm) B,λi x T hi hT=>?_⟩,λx c t=>?_,λb R U=>?_,?_,I.top⟩
 ·obtain⟨v,sl,Y⟩:=hv i x T hi hT
  refine⟨v,?_,T.mono N Y⟩
  rcases sl with sl | ⟨H,c,t,⟨n,F,r⟩⟩
  ·exact .inl sl
  ·exact .inr ⟨H,c,t,n,k.obj c n (λz=>f x (ah.mp z▸t)) F (nq r),r⟩
 ·obtain⟨v,n,F,r⟩:=I.cells x c t
  exact⟨v,n,k.obj c n (λz=>f x (ah.mp z▸t)) F (nq r),r⟩
 ·obtain⟨j,P⟩:=List.getElem?_of_mem U
  by_cases l:i=j
  ·subst l
   obtain⟨hl,S⟩:=b8.mp w
   have d:(Γ.h.set i (L,Q'))[i]? = some (b,R):=P
   rw[ix hl] at d
   cases d
   exact⟨J,u,f,E,y,ho,Z,hp⟩
  ·have d:(Γ.h.set i (L,Q'))[j]? = some (b,R):=P
   rw[fP l] at d
   have D:=be d
   obtain⟨H,h2,h3,h0,o,V,K,h6⟩:=I.phi b R D
   have A:b≠L:=λe=>by
    subst e
    obtain⟨li,ei⟩:=b8.mp w
    obtain⟨lj,X⟩:=b8.mp d
    have:(Γ.h.map (·.1))[i]'(by simpa using li)=(Γ.h.map (·.1))[j]'(by simpa using lj):=by simp[ei,X]
    exact l ((mz I.nod).mp this)
   exact⟨H,h2,h3,h0,o,k.obj b o (λz=>A (ah.mp z)) V K,K,R.mono N h6⟩
 ·rw[show(Γ.hset i L Q').h=Γ.h.set i (L,Q') from rfl,o7 w];exact I.nod
theorem Inv.freeze{Q:OTy}(I:Inv W C env Γ O M s)(H:Γ.h[i]? = some (L,Q))(E:Γ.v[j]? = some (some (aE (.ref L))))(hT:∀V o,V L=some o->Q.p V o->T.p V (.ref L)):
  Inv W C env ⟨Γ.v.set j (some T),Γ.h.eraseIdx i⟩ O ⟨M.a.filter (λb=>decide (b≠L)),M.g⟩ s:=by
 obtain⟨ha,D,A,B,o,ho,hn,hp⟩:=I.phi L Q (be H)
 have k:∀a,a∈O++M.a.filter (λb=>decide (b≠L))->a∈O++M.a:=λa m=>(aj.mp m).elim (λm=>aq _ m) λm=>al _ (aR.mp m).1
 have y:Vle (am s.heap (O++M.a)) (am s.heap (O++M.a.filter (λb=>decide (b≠L)))):=bG k
 have nL:L∉O++M.a.filter (λb=>decide (b≠L)):=λm=>(aj.mp m).elim B λm=>(aR.mp m).2 rfl
 obtain⟨m,z,K⟩:=I.loc
 refine⟨I.g,I.ok,aR.mpr ⟨I.own,λe=>D e.symm⟩,λx c h h'=>aR.mpr ⟨I.cel x c h h',λe=>A x (e▸h)⟩,λa m=>I.up a (k a m),I.upg,⟨m,z,λq x U r J=>?_⟩,I.cells,λa R F=>?_,?_,I.top⟩
 ·by_cases n:j=q
  ·subst n
   have t:j<Γ.v.length:=by have:=(b8.mp E).1;exact this
   have d:(Γ.v.set j (some T))[j]? = some (some U):=J
   rw[ix t] at d
   cases d
   obtain⟨v,sl,l⟩:=K j x _ r E
   have l:v = .ref L:=l
   subst l
   exact⟨_,sl,hT _ o (aK ho nL) (Q.mono y hp)⟩
  ·have d:(Γ.v.set j (some T))[q]? = some (some U):=J
   rw[fP n] at d
   obtain⟨v,sl,l⟩:=K q x U r d
   exact⟨v,sl,U.mono y l⟩
 ·have u:=List.mem_of_mem_eraseIdx F
  obtain⟨h1,h2,h3,h0,Z,P,X,Y⟩:=I.phi a R u
  have f:a≠L:=λe=>by
   subst e
   obtain⟨q,r,w⟩:=List.mem_eraseIdx_iff_getElem?.mp F
   obtain⟨lq,eq⟩:=b8.mp w
   obtain⟨li,N⟩:=b8.mp H
   have:(Γ.h.map (·.1))[q]'(by simpa using lq)=(Γ.h.map (·.1))[i]'(by simpa using li):=by simp[eq,N]
   exact r ((mz I.nod).mp this)
  exact⟨aR.mpr ⟨h1,f⟩,h2,h3,h0,Z,P,X,R.mono y Y⟩
 ·exact List.Sublist.nodup (List.Sublist.map _ (List.eraseIdx_sublist _ _)) I.nod
theorem f7(i j:Nat){Q:OTy}(t:∀V o,V L=some o->Q.p V o->T.p V (.ref L))(h:ExP W C ⟨Γ.v.set j (some T),Γ.h.eraseIdx i⟩ n b P)(u:autoParam (Γ.h[i]? = some (L,Q)) q_R)(q:autoParam (Γ.v[j]? = some (some (aE (.ref L)))) q_R):ExP W C Γ n b P:=λA env O M s y I=>by
 have l:∀a∈(⟨M.a.filter (λb=>decide (b≠L)),M.g⟩:Fp).a,a∈M.a:=λa m=>(aR.mp m).1
 refine ad (h A env O _ s y (I.freeze u q t)) (λf s' h'=>?_) λe s' h'=>?_
 ·obtain⟨k,M',x,o,p,r⟩:=h'
  exact⟨bK k l (λe m=>m),M',⟨λa m=>(x.a a m).imp (l a) id,x.g⟩,o,p,r⟩
 ·obtain⟨k,M',X,x,f,d,Γ',c,p,w,tr,z⟩:=h'
  exact⟨bK k l (λe m=>m),M',X,⟨λa m=>(x.a a m).imp (l a) id,x.g⟩,f,d,Γ',c,p,w,tr,z⟩
theorem kg{Q:OTy}(i:Nat)(r:jS W C Γ n value Q)(l:∀L,ExP W C ⟨Γ.v.set i (some (aE (.ref L))),Γ.h++[(L,Q)]⟩ n b P)(p:autoParam (C.names[i]? = some x) q_R)(u:autoParam (fe C x=true) q_K)(hs:autoParam (∀env,swapsWith value (some (.Name x pos')) pos.line env=pure false) q_R):ExP W C Γ n (.Assign [.Name x pos'] value pos::b) P :=
 bT λA env O M s w I=>mA (ad (r A env O M s w I) (λv s₁ e=>by
  obtain⟨L,o,rfl,g,k,j,q,t,y⟩:=e
  have f:=I.give k g j q t y
  have c:Ext s M ⟨M.a++[L],M.g⟩:=⟨λa m=>(aj.mp m).imp id λm=>by rw[ah.mp m];exact j,λz=>.inl⟩
  refine ad (dB (T:=aE (.ref L)) i p (iV u) f rfl) (λz s₂ d=>?_) az
  exact⟨(ak.ofK k).of_ext c d.1,_,c,.next _,l L,d.2⟩) az) (hs env)
theorem tx{id:String}{Q:OTy}(i k:Nat)(ha:dJ W C Γ n es Ts)(J:∀(A:Around) (s:Shared) (o:Obj) (V:fH) (pl:Sem Bool) (R:Value×List Value->Shared->Prop),s.heap.get? L=some o->Q.p V o->R (.builtin id,[.ref L]) s->wpAny (model prg W.w) A (getMethod (.ref L) name pl) R Nev s)(hc:∀A O s o vs,aU W A n->GO W O s->L∈O->s.heap.get? L=some o->Q.p (am s.heap O) o->ay (am s.heap O) Ts vs ->
   wpAny (model prg W.w) A (call (.builtin id) (.ref L::vs)) (λG s'=>Gr W L Q' O s s') Nev s)(hr:ExP W C (Γ.hset k L Q') n b P)(K:autoParam (Γ.h[k]? = some (L,Q)) q_R)(hi:autoParam (C.names[i]? = some x) q_R)(hv:autoParam (Γ.v[i]? = some (some (aE (.ref L)))) q_R)(he:autoParam (∀env,∃pl,eval (.Call (.Attribute (.Name x xp) name apos) es [] pos) env=(do
   let ov ← eval (.Name x xp) env
   standAt apos.atName
   let(f,first) ← holding [ov] (getMethod ov name pl)
   callWith pos f first (backTo pos (starEach es env)) (backToKw pos (keywordEach [] env)))) q_P)(N:autoParam (∀env,swapsWith (.Call (.Attribute (.Name x xp) name apos) es [] pos) none spos.line env=pure false) q_R):ExP W C Γ n (.Expr (.Call (.Attribute (.Name x xp) name apos) es [] pos) spos::b) P :=
 bT λA env O M s X I=>by
  obtain⟨pl,U⟩:=he env
  refine jC ?_ (mo I.ok.kind) (N env)
  refine g3 (ad (nm (T:=aE (.ref L)) i hi hv A env O M s X I) (λv s₁ d=>?_) az) U
  have c:=d.then I
  have F:v = .ref L:=d.2.2
  subst F
  obtain⟨G,G,G,G,E,q,G,j⟩:=c.phi L Q (be K)
  refine ad (J A s₁ E _ pl (λfx s₂=>fx=(.builtin id,[.ref L])/\s₁=s₂) q j ⟨rfl,rfl⟩) (λfx H h'=>?_) az
  obtain⟨rfl,rfl⟩:=h'
  obtain⟨Z,a3⟩:=ha A env O M s₁ pos X c
  refine dO (P:=KeP W (.builtin id)) ?_ (λh p=>p) ?_
  ·rw[Z,dP];rfl
  ·refine bU (ns:=[]) Z rfl (ad a3 (λvs s₂ a=>ac ⟨⟨.machine,.inr (.inl rfl),cR rfl⟩,?_⟩) az)
   have e:=c.keep a.2.1 a.1
   obtain⟨q1,G,G,G,u,m,G,g⟩:=e.phi L Q (be K)
   refine ad (hc A _ s₂ u vs X e.go (al _ q1) m g a.2.2) (λG Y y=>?_) az
   obtain⟨o',D,B,t,l,r⟩:=y
   obtain⟨kM,z⟩:=e.chg K B D t l r
   exact⟨(ak.ofK (d.2.1.trans a.2.1)).trans kM,M,Ext.refl s M,.next _,hr,z⟩
noncomputable def Gs(vs:List Value)(o:Obj):Prop:=∃c,o={ cls:=.type "list",dict:=none,data:=.seq vs.toArray c,slots:=#[] }
noncomputable def cq(Ts:List Ty):OTy:=⟨λV o=>∃vs,Gs vs o/\ay V Ts vs,λh=>ir λvs i a=>⟨vs,i,ay.mono h a⟩⟩
theorem lO:∀V o,V L=some o->(cq Ts).p V o->(bw Ts).p V (.ref L):=λV o h w=>w.imp λvs w=>⟨w.1.elim λc e=>⟨L,c,rfl,e▸h⟩,w.2⟩
theorem pK(h:dJ W C Γ n es Ts)(hz:autoParam (Nat.ble Ts.length sizeLine=true) q_R):jS W C Γ n (.List es pos) (cq Ts):=λA env O M s f I =>
 wpAny_List (ad (h A env O M s pos f I).2 (λvs s₁ b=>by
  have c:=I.keep b.2.1 b.1
  obtain⟨g',k,g⟩:=bJ c.go { cls:=.type "list",dict:=none,data:=.seq vs.toArray 0,slots:=#[] } s₁.toks
  have d:(s₁.heap.push { cls:=.type "list",dict:=none,data:=.seq vs.toArray 0,slots:=#[] }).get? s₁.heap.objs.size=some { cls:=.type "list",dict:=none,data:=.seq vs.toArray 0,slots:=#[] }:=bf _ rfl
  exact⟨by rw[ay.len b.2.2];exact cL hz,_,_,rfl,g',b.2.1.trans k,b.2.1.siz,d,rfl,vs,⟨0,rfl⟩,ay.mono (λa o e a=>aK (aV _ (af e)) λm=>by
   rcases aj.mp m with m | m
   ·exact a8 e m
   ·have:=aO (af e);rw[ah.mp m] at this;exact bz _ this) b.2.2⟩) az)
theorem tz{x:Value}:vs.toArray.push x=(vs++[x]).toArray:=by simp
theorem oO(i k:Nat)(q:EvP W C Γ n e T)(B:ExP W C (Γ.hset k L (cq (Ts++[T]))) n b P)(F:autoParam (Γ.h[k]? = some (L,cq Ts)) q_R)(hz:autoParam (Nat.ble Ts.length sizeLine=true) q_R)(H:autoParam (C.names[i]? = some x) q_R)(J:autoParam (Γ.v[i]? = some (some (aE (.ref L)))) q_R)(u:autoParam (∀env,starEach [e] env=(false,eval e env)::starEach [] env) q_R)(I:autoParam (∀env,∃pl,eval (.Call (.Attribute (.Name x xp) "append" apos) [e] [] pos) env=(do
   let ov ← eval (.Name x xp) env
   standAt apos.atName
   let(f,first) ← holding [ov] (getMethod ov "append" pl)
   callWith pos f first (backTo pos (starEach [e] env)) (backToKw pos (keywordEach [] env)))) q_P)(p:autoParam (∀env,swapsWith (.Call (.Attribute (.Name x xp) "append" apos) [e] [] pos) none spos.line env=pure false) q_R):
  ExP W C Γ n (.Expr (.Call (.Attribute (.Name x xp) "append" apos) [e] [] pos) spos::b) P:=by
 refine tx (id := "list.append") (Q:=cq Ts) (Q':=cq (Ts++[T])) i k (ar1 q u) ?_ ?_ B F H J I p
 ·intro A s o V pl R j w K
  obtain⟨vs,⟨c,rfl⟩,G⟩:=w
  exact getMethod_list_append j rfl rfl K
 ·intro A O s o vs N g y j w l
  obtain⟨E,⟨c,rfl⟩,d⟩:=w
  obtain⟨v,r,rfl,t,m⟩:=ay.cons_iff l
  rw[ay.nil_iff m]
  refine pW ⟨c,j⟩ (λh' M hs=>?_) (by rw[e7,ay.len d];exact cL hz)
  obtain⟨c',a⟩:=M
  rw[tz] at a
  refine⟨_,g.g.upd (g.ok L y).1 hs (.inl ⟨_,j,λG G=>nD⟩),dp (λb o D e=>(hs.2 b (λz=>D (ah.mpr z))).trans e) (λG G G e=>e) (aH hs.1.symm) (aB _),a,rfl,E++[v],⟨_,rfl⟩,?_⟩
  exact ay.mono (cm y hs) (ay.append d ⟨t,trivial⟩)
theorem ay.drop(k:Nat):∀{Ts:List Ty} {vs:List Value},ay V Ts vs->ay V (Ts.drop k) (vs.drop k):=by
 induction k with
 | zero=>intro a a h;exact h
 | succ k ih =>
  intro Ts vs h
  cases Ts <;> cases vs <;> first | exact h.elim | skip
  ·exact trivial
  ·exact ih h.2
theorem ay.take(k:Nat):∀{Ts:List Ty} {vs:List Value},ay V Ts vs->ay V (Ts.take k) (vs.take k):=by
 induction k with
 | zero=>intro a a h;simp;trivial
 | succ k ih =>
  intro Ts vs h
  cases Ts <;> cases vs <;> first | exact h.elim | skip
  ·exact trivial
  ·exact⟨h.1,ih h.2⟩
theorem l5{f g:Option Expr}{Us:List Ty}(R:EvP W C Γ n value (bw Ts))(hz:Nat.ble Ts.length sizeLine=true)(H E:Option Int)(U:∀A env O M s,aU W A n->Inv W C env Γ O M s->wpAny (model prg W.w) A (evalPart f env) (λv s'=>IsPart v H/\G W s'/\aF s s') Nev s)(P:∀A env O M s,aU W A n->Inv W C env Γ O M s->wpAny (model prg W.w) A (evalPart g env) (λv s'=>IsPart v E/\G W s'/\aF s s') Nev s)(Q:∀V vs,ay V Ts vs->∃B,slicePick vs.toArray H E none=B.toArray/\ay V Us B)(L:autoParam (∀o r,letTemporaryGo value o r=pure ()) q_R):EvP W C Γ n (.Subscript value (.Slice f g none p) pos) (bw Us):=λA env O M s D I=>by
 refine wpAny_Subscript_Slice (T := "list") list_getitem_lookup (ad (R A env O M s D I) (λo s₁ h=>wpAny_Slice ?_) az) L
 have q:=h.then I
 refine ad (U A env O M s₁ D q) (λl s₂ b=>ad (P A env O M s₂ D (q.keep b.2.2 b.2.1)) (λu e d=>?_) az) az
 refine ac ?_
 have m:=h.2.1.trans (b.2.2.trans d.2.2)
 have k:=I.keep m d.2.1
 obtain⟨vs,⟨a,c,rfl,J⟩,j⟩:=(bw Ts).mono ((b.2.2.trans d.2.2).vle0 _) h.2.2
 have z:=af J
 obtain⟨y,i,F⟩:=bJ k.go { cls:=.type "slice",data:=.fields #[l,u,.none] } e.toks
 have x:=k.keep i y
 refine⟨⟨_,aV _ z,rfl⟩,?_⟩
 have t:(e.heap.push { cls:=.type "slice",data:=.fields #[l,u,.none] }).IsList a vs.toArray:=⟨_,aV _ z,rfl,c,rfl⟩
 refine wpAny_getItem_list_slice t (Heap.IsSliceOf.new ..) b.1 d.1 .none (by simp) ?_ (by rw[List.size_toArray,ay.len j];exact cL hz)
 obtain⟨B,N,K⟩:=Q _ vs (ay.mono (i.vle0 _) j)
 rw[N]
 have r:=ny (T := "list") x.go e.toks K
 exact⟨r.1,m.trans (i.trans r.2.1),r.2.2⟩
theorem sH(g:G W s):wpAny (model prg W.w) A (evalPart none env) (λv s'=>IsPart v none/\G W s'/\aF s s') Nev s:=ac ⟨.none,g,aF.refl s⟩
theorem nR(h:EvP W C Γ n e (ag k)){O M}(b:aU W A n)(I:Inv W C env Γ O M s):wpAny (model prg W.w) A (evalPart (some e) env) (λv s'=>IsPart v (some (k:Int))/\G W s'/\aF s s') Nev s:=by
 refine ad (h A env O M s b I) (λv s₁ a=>?_) az
 obtain⟨t,rfl⟩:=a.2.2
 exact⟨.int _ _,a.1,a.2.1⟩
theorem CD(c:EvP W C Γ n value (bw Ts))(h:EvP W C Γ n e (ag k))(hz:autoParam (Nat.ble Ts.length sizeLine=true) q_R)(d:autoParam (∀o r,letTemporaryGo value o r=pure ()) q_R):EvP W C Γ n (.Subscript value (.Slice (some e) none none p) pos) (bw (Ts.drop k)) :=
 l5 c hz (some (k:Int)) none (λA env O M s a I=>nR h a I) (λA env O M s a I=>sH I.g) (λV vs b=>⟨vs.drop k,by rw[slicePick_from'],ay.drop k b⟩) d
theorem CE{d:Expr}{q:Nat}(i:EvP W C Γ n value (bw Ts))(h:EvP W C Γ n e (ag k))(h':EvP W C Γ n d (ag q))(a:k<=q)(g:q<=Ts.length)(hz:autoParam (Nat.ble Ts.length sizeLine=true) q_R)(f:autoParam (∀o r,letTemporaryGo value o r=pure ()) q_R):EvP W C Γ n (.Subscript value (.Slice (some e) (some d) none p) pos) (bw ((Ts.drop k).take (q-k))) :=
 l5 i hz (some (k:Int)) (some (q:Int)) (λA env O M s b I=>nR h b I) (λA env O M s b I=>nR h' b I) (λV vs c=>⟨(vs.drop k).take (q-k),by rw[slicePick_run _ k q (by rw[e7,ay.len c];exact g) a],ay.take _ (ay.drop k c)⟩) f
theorem yY{l:Addr}{items:Array Value}{x:Int}{u:Tok}(a:s.heap.get? l=some { cls:=.type "list",dict:=none,data:=.seq items k,slots:=#[] })(c:-(2 ^ 63:Int)<=x)(b:x<2 ^ 63)(hsz:items.size*x.toNat<=2 ^ 24)(h:Q (.ref s.heap.objs.size) { s with heap:=s.heap.push { cls:=.type "list",data:=.seq (List.foldl (λe d=>e++d) #[] (List.replicate (if items.isEmpty=true then 0 else x.toNat) items)) } }):
  wpAny (model prg w) A (binaryOp .Mult (.ref l) (.int x u)) Q E s :=
 wpAny_binaryOp_repeat_ref (T := "list") (U := "int") (by decide) ⟨_,a,rfl⟩ (λs'=>g4 s' x u) noFill_list_mul F.fills_int_mul F.slot_int_rmul repeat_list F.slot_int_index.lookup
  (call_meets F.slot_int_rmul (g4 s x u) F.entry_int_rmul (F.args_int_rmul_2 _ _) (int___rmul___int_list x u l items k)
   ⟨a,rfl,⟨_,a,rfl⟩,call_meets F.slot_list_mul ⟨_,a,rfl⟩ F.entry_list_mul (F.args_list_mul_2 _ _)
    (AutoListH.list___mul___list_int_3 l items k x u (by simp[Builtin.List.listFitsIndex];exact⟨jb (by decide) c,wg b (by decide)⟩) (aw.mpr (ae hsz (by decide))) (by simp[Builtin.List.listTooLong,sizeLine];exact hsz))
    ⟨a,h⟩⟩)
theorem ay.rep(h:T.p V v):∀k,ay V (List.replicate k T) (List.replicate k v):=by
 intro k
 induction k with
 | zero=>trivial
 | succ k ih=>exact⟨h,ih⟩
theorem Au:∀k,(List.replicate k [v]).flatten=List.replicate k v:=by
 intro k
 induction k with
 | zero=>rfl
 | succ k ih=>rw[List.replicate_succ,List.flatten_cons,ih];rfl
theorem CF(x:EvP W C Γ n e T)(j:EvP W C Γ n r (ag k))(h:k<1000)(g:autoParam (∀env,starEach [e] env=(false,eval e env)::starEach [] env) q_R):jS W C Γ n (.BinOp (.List [e] p) .Mult r pos) (cq (List.replicate k T)):=λA env O M s i I=>by
 refine wpAny_BinOp (ad ((eZ (ar1 x g) (by rfl):EvP W C Γ n (.List [e] p) (bw [T])) A env O M s i I) (λa s₁ d=>ad (j A env O M s₁ i (d.then I)) (λc s₂ b=>?_) az) az)
 have f:=b.then (d.then I)
 obtain⟨t,rfl⟩:=b.2.2
 obtain⟨vs,⟨L,c,rfl,q⟩,l⟩:=(bw [T]).mono (b.2.1.vle0 _) d.2.2
 obtain⟨v,rfl,y⟩:=l.a1
 refine yY (af q) oI (oF h) (by rw[qc];exact ae (aH (Nat.one_mul k)) (cQ (oA h))) ?_
 rw[show(#[v]:Array Value).isEmpty=false from rfl,bj eC,listMul_foldl,qc,List.nil_append,Au]
 obtain⟨g',w,z⟩:=bJ f.go { cls:=.type "list",data:=.seq (List.replicate k v).toArray } s₂.toks
 have u:(s₂.heap.push { cls:=.type "list",data:=.seq (List.replicate k v).toArray }).get? s₂.heap.objs.size=some { cls:=.type "list",data:=.seq (List.replicate k v).toArray }:=bf _ rfl
 refine⟨_,_,rfl,g',(d.2.1.trans b.2.1).trans w,(d.2.1.trans b.2.1).siz,u,rfl,_,⟨0,rfl⟩,ay.rep ?_ k⟩
 refine T.mono (λa o e a=>aK (aV _ (af e)) λm=>?_) y
 rcases aj.mp m with m | m
 ·exact a8 e m
 ·have:=aO (af e);rw[ah.mp m] at this;exact bz _ this
theorem qY{idx:Expr}(i k:Nat)(f:EvP W C Γ n idx (ag j))(B:Ts[j]? = some U)(z:j<2 ^ 60)(q:autoParam (Γ.h[k]? = some (L,cq Ts)) q_R)(r:autoParam (C.names[i]? = some x) q_R)(D:autoParam (Γ.v[i]? = some (some (aE (.ref L)))) q_R)(hs:autoParam (∀o i,subscripted idx false o i=operate [o,i] (getItem o i)) q_R):EvP W C Γ n (.Subscript (.Name x xp) idx pos) U:=λA env O M s m I=>by
 refine aa (ad (nm (T:=aE (.ref L)) i r D A env O M s m I) (λo s₁ a=>aa (aP (ad (f A env O M s₁ m (a.then I)) (λi s₂ b=>aa (ct ?_)) az))) az)
 have g:=b.then (a.then I)
 have w:o = .ref L:=a.2.2
 subst w
 obtain⟨t,rfl⟩:=b.2.2
 obtain⟨F,F,F,F,l,d,F,vs,⟨c,rfl⟩,e⟩:=g.phi L _ (be q)
 obtain⟨u,y,p⟩:=ay.get e B
 have E:s₂.TypeIs (.ref L) "list" := ⟨_,d,rfl⟩
 refine aa ?_
 refine aa (eM E pX.lookup (ac ?_))
 rw[hs]
 refine aa (jA (pY (items:=vs.toArray) ⟨_,d,rfl,c,rfl⟩ oI (oF z) (by simpa using y) (aa (mP (ac ?_)))))
 exact⟨b.1,a.2.1.trans b.2.1,p⟩
theorem ay.upd(h:U.p V u):∀{Ts:List Ty} {vs:List Value} (j:Nat),ay V Ts vs->ay V (Ts.set j U) (vs.set j u) :=
 λj x=>ay.ind (P:=λTs vs=>∀j,ay V (Ts.set j U) (vs.set j u)) (λc=>trivial) (λa x b j=>by
  cases j with
  | zero=>exact⟨h,x⟩
  | succ j=>exact⟨a,b j⟩) x j
theorem tB(items:Array Value)(c:Nat)(f:Array Value->Array Value):∃c',Obj.mapSeq f { cls:=.type "list",dict:=none,data:=.seq items c,slots:=#[] }={ cls:=.type "list",dict:=none,data:=.seq (f items) c',slots:=#[] }:=⟨_,rfl⟩
theorem pu{l:Addr}{items:Array Value}{c:Nat}{k:Int}{t:Tok}{Q:Unit->Shared->Prop}(d:s.heap.get? l=some { cls:=.type "list",dict:=none,data:=.seq items c,slots:=#[] })(i:0<=k)(a:k<2 ^ 63)(m:k<items.size)(h:∀h' c',h'.get? l=some { cls:=.type "list",dict:=none,data:=.seq (items.setIfInBounds k.toNat v) c',slots:=#[] }->Heap.SameBut l s.heap h'->Q () { s with heap:=h' }):
  wpAny (model prg w) A (setItem (.ref l) (.int k t) v) Q E s:=by
 have g:s.heap.IsList l items:=⟨_,d,rfl,c,rfl⟩
 unfold setItem
 try with_reducible refine aP ?_
 skip
 refine aa (wpAny_sequenceKey g.typeIs (by decide) ?_)
 refine aa (g5 (name:=Str.ofString "__setitem__") g.typeIs slot_list_setitem
  (eB slot_list_setitem g.typeIs entry_list_setitem ?_ (args_list_setitem _ _ _)))
 refine(?_:wpAny _ _ (Builtin.List.listSubscript? (.int k t) >>= _) _ _ s)
 refine aa (wpAny_listSubscript_int (fitsIndex_of i a) ?_)
 clear a
 obtain⟨j,rfl⟩:=Int.eq_ofNat_of_zero_le i
 have n:j<items.size:=bV.mp m
 have f:items[j]? = some items[j]:=mB n
 refine(?_:wpAny _ _ ((seqItemAt l j >>= λr=>pure (r.map (j,·))) >>= _) _ _ s)
 refine aa (aa (wpAny_seqItemAt d rfl (ac ?_)))
 rw[f]
 refine(?_:wpAny _ _ (setSeqItemAt l j v >>= _) _ _ s)
 obtain⟨c',e⟩:=tB items c (·.setIfInBounds j v)
 have b:(s.heap.update l (Obj.mapSeq (·.setIfInBounds j v))).get? l=some { cls:=.type "list",dict:=none,data:=.seq (items.setIfInBounds j v) c',slots:=#[] }:=by
  rw[et _ d rfl,e]
 refine aa (wpAny_setSeqItemAt d rfl ?_)
 first
  | exact aa (ac (ac ⟨.none,rfl,ac (h _ _ b (dH ..))⟩))
  | exact ac ⟨.none,rfl,ac (h _ _ b (dH ..))⟩
theorem lg{l:Addr}{items:Array Value}{c:Nat}{t:Tok}{Q:Unit->Shared->Prop}(d:s.heap.get? l=some { cls:=.type "list",dict:=none,data:=.seq items c,slots:=#[] })(a:k<2 ^ 60)(f:k<items.size)(e:∀h' c',h'.get? l=some { cls:=.type "list",dict:=none,data:=.seq (items.setIfInBounds k v) c',slots:=#[] }->Heap.SameBut l s.heap h'->Q () { s with heap:=h' }):
  wpAny (model prg w) A (setItem (.ref l) (.int (k:Int) t) v) Q E s:=by
 refine pu d oI (oF a) (bV.mpr f) λh' c' b hs=>e h' c' ?_ hs
 rw[qc] at b
 exact b
theorem qZ{idx:Expr}(i k:Nat)(w:EvP W C Γ n value U)(q:EvP W C Γ n idx (ag j))(Q:j<Ts.length)(y:j<2 ^ 60)(H:ExP W C (Γ.hset k L (cq (Ts.set j U))) n b P)(E:autoParam (Γ.h[k]? = some (L,cq Ts)) q_R)(K:autoParam (C.names[i]? = some x) q_R)(R:autoParam (Γ.v[i]? = some (some (aE (.ref L)))) q_R)(hs:autoParam (∀env,swapsWith value (some (.Subscript (.Name x xp) idx sp)) pos.line env=pure false) q_R):ExP W C Γ n (.Assign [.Subscript (.Name x xp) idx sp] value pos::b) P :=
 bT λA env O M s B I=>by
  refine wpAny_Assign_Subscript (ad (w A env O M s B I) (λv s₁ d=>ad (nm (T:=aE (.ref L)) i K R A env O M s₁ B (d.then I)) (λJ s₂ e=>ad (q A env O M s₂ B (e.then (d.then I))) (λX r f=>?_) az) az) az) (hs env)
  have m:=f.then (e.then (d.then I))
  have N:J = .ref L:=e.2.2
  subst N
  obtain⟨t,rfl⟩:=f.2.2
  have z:=U.mono ((e.2.1.trans f.2.1).vle0 _) d.2.2
  obtain⟨q1,G,G,G,D,g,G,vs,⟨c,rfl⟩,l⟩:=m.phi L _ (be E)
  refine lg g y (by rw[e7,ay.len l];exact Q) λh' c' u o=>?_
  have F:L∈O++M.a:=al _ q1
  rw[show vs.toArray.setIfInBounds j v=(vs.set j v).toArray by simp] at u
  obtain⟨V,p⟩:=m.mut (P':=cq (Ts.set j U)) (tk:=r.toks) E o u rfl ⟨_,⟨c',rfl⟩,ay.upd (U.mono (cm F o) z) j (ay.mono (cm F o) l)⟩ (.inl ⟨_,g,λG G=>nD⟩)
  exact⟨(ak.ofK (d.2.1.trans (e.2.1.trans f.2.1))).trans V,M,Ext.refl s M,.next _,H,p⟩
theorem xW{l:Expr}{x:Bool}{y:Bool}(f:EvP W C Γ n l (aG x))(d:x=true->EvP W C Γ n r (aG y)):EvP W C Γ n (.BoolOp .And [l,r] pos) (aG (x&&y)):=λA env O M s c I=>by
 refine(?_:wpAny _ _ (boolOp pos .And [eval l env,eval r env]) _ _ s)
 refine aa (ad (f A env O M s c I) (λv s₁ a=>aa (ct (aa (aP ?_)))) az)
 have e:v = .bool x:=a.2.2
 subst e
 refine gW ?_
 cases x with
 | false=>exact ac ⟨a.1,a.2.1,rfl⟩
 | true=>exact ad (d rfl A env O M s₁ c (a.then I)) (λv s₂ b=>⟨b.1,a.2.1.trans b.2.1,b.2.2⟩) az
noncomputable def jt(M:Model)(A:Around)(Φ:End->Shared->Prop)(c:Code)(t:Sem Fin)(fs:List Frame)(s:Shared):Prop :=
 ∀Γ p,Γ.code=c->Γ.Woken A->∃e s',Runs M Γ p t fs s e s'/\Φ e s'
section
variable {M:Model} {c:Code} {fs:List Frame}
theorem oP{e:Type}{m:Sem e}{K:e->Sem Fin}{H:Value->Sem Fin}{gd lv}(h:wpAny M (A.over c fs) m (λa s'=>jt M A Φ c (K a) fs s') (λx s'=>jt M A Φ c (H x) fs s') s):jt M A Φ c (m.wrap K H gd lv) fs s:=by
 rintro Γ p rfl b
 exact runs_wrap_of_wp K H gd lv m (h (Γ.over fs) p (b.over fs)) (λa d s' h'=>h' Γ d rfl b) (λx d s' h'=>h' Γ d rfl b)
theorem bX{e d:Type}{m:Sem e}{K:e->Sem d}{b:d->Sem Fin}{H':Value->Sem Fin}{gd lv}(h:wpAny M (A.over c fs) m (λa s'=>jt M A Φ c ((K a).wrap b H' gd lv) fs s') (λx s'=>jt M A Φ c (H' x) fs s') s):jt M A Φ c ((m >>= K).wrap b H' gd lv) fs s:=by
 rw[qd,Sem.wrap_wrap];exact oP h
theorem CG{a:Pos}{k:Unit->Sem Fin}(h:jt M A Φ c (k ()) fs s):jt M A Φ c (.at a k) fs s :=
 oP (m:=standAt a) (K:=k) (H:=.raise) (gd:=id) (lv:=id) (ct h)
theorem iZ{c':Code}(g:c'.quiet=true)(f:jt M A Φ c' (M.den c') fs s):jt M A Φ c (.pure (.again c')) fs s:=by
 rintro Γ p rfl a
 obtain⟨e,s',b,d⟩:=f (Γ.goto c') p rfl (a.goto c')
 exact⟨e,s',Runs.head (c₁:=c') (λh h x=>.again g x) b,d⟩
theorem Av(r:Result)(h:Φ (.ret r) s):jt M A Φ c (leafOf r) [] s:=by
 rintro Γ p rfl a
 exact⟨.ret r,s,Runs.leaf r,h⟩
theorem wF{v g l}{k:Resume->Sem Fin}(a:splitAtGen fs=none)(h:∀p,Φ (.susp v g l k c p fs) s):jt M A Φ c (.yield v g l k) fs s:=by
 rintro Γ p rfl b
 exact⟨_,s,Runs.yield' fs a,h p⟩
noncomputable def Aw(M:Model)(A:Around)(Φ:End->Shared->Prop)(gs:GenState)(s:Shared):Prop:=match gs with
 | .fresh c=>jt M A Φ c (M.den c) [] s
 | .suspended k _ c _ fs _=>jt M A Φ c (k (.send .none)) fs s
 | _=>False
theorem Ax{g:Nat}{gs:GenState}{l:List Value}{n:Type}{k:GenResult->Sem n}{Q:n->Shared->Prop}(o:s.gens[g]? = some gs)(b:Aw M A Φ gs (s.setGen g .running))(f:∀e s₁,Φ e s₁->e.quiet=true/\wpAny M A (k e.result) Q E (s₁.setGen g e.genState)):wpAny M A (.resume g (.send .none) l k) Q E s:=by
 intro Γ p d
 have q:∀c,(Γ.wake c p).Woken A:=λc=>d.wake c p
 cases gs with
 | fresh c =>
  obtain⟨a,s₁,h,m⟩:=b (Γ.wake c p) p rfl (q c)
  obtain⟨j,i⟩:=f a s₁ m
  exact⟨_,_,by unfold Wakes;refine o ▸ ?_;exact⟨a,s₁,h,j,rfl,rfl⟩,i Γ p d⟩
 | suspended k₀ l₀ c₀ p₀ fs₀ cl =>
  obtain⟨a,s₁,h,m⟩:=b (Γ.wake c₀ p) p₀ rfl (q c₀)
  obtain⟨j,i⟩:=f a s₁ m
  exact⟨_,_,by unfold Wakes;refine o ▸ ?_;exact⟨a,s₁,h,j,rfl,rfl⟩,i Γ p d⟩
 | running=>exact b.elim
 | finished=>exact b.elim
end
noncomputable abbrev q8(t:Addr):Obj:={ cls:=.type "StopIteration",data:=.fields #[.ref t,.none,.none,.none,.bool false,.none] }
noncomputable def lQ(it:Value):Sem (Option Value):=callSpecial? it (Str.ofString "__next__") [] []
theorem yZ{g:Nat}{gs:GenState}{Q:Option Value->Shared->Prop}(n:A.handled=none)(p:s.heap.NoLimit)(c:A.depth<recursionLimit)(j:s.heap.IsGen a g)(f:s.gens[g]? = some gs)(d:Aw (model prg w) A.in1 Φ gs (s.setGen g .running))(i:∀e s₁,Φ e s₁->e.quiet=true/\match e with
   | .ret r=>r = .ok .next/\∀(h':Heap) (e t:Addr),(∀b o,s₁.heap.get? b=some o->h'.get? b=some o)->s₁.heap.objs.size<=e->h'.get? e=some (q8 t)->s₁.heap.objs.size<=h'.objs.size->E (.ref e) { s₁.setGen g .finished with heap:=h' }
   | .susp v ..=>Q (some v) (s₁.setGen g e.genState)):wpAny (model prg w) A (lQ (.ref a)) Q E s:=by
 refine g5 (name:=Str.ofString "__next__") j.typeIs slot_gen_next
  (eB slot_gen_next j.typeIs entry_gen_next ?_ (args_gen_next _))
 refine(?_:wpAny _ A.in1 (Builtin.Generator.genWake (.ref a) (.send .none)) _ _ s)
 refine aa (aP (wpAny_genNumber j (aa (wpAny_genState f ?_))))
 cases gs with
 | running=>exact d.elim
 | finished=>exact d.elim
 | _ =>
  refine aa (wpAny_roomToWake p c ?_)
  refine(?_:wpAny _ A.in1 (.resume g (.send .none) [] _) _ _ s)
  refine Ax f d λe s₁ h=>?_
  obtain⟨l,h⟩:=i e s₁ h
  refine⟨l,?_⟩
  cases e with
  | ret x =>
   obtain⟨rfl,q⟩:=h
   refine(?_:wpAny _ A.in1 (newExc (.type "StopIteration") [] >>= _) _ _ _)
   refine aa ?_
   refine aa (dQ ?_ (cL rfl))
   refine aa (m:=firstArgMember _ _) (bR (a:=Value.none) (by first | rfl | (simp only[firstArgMember];rfl)) ?_)
   refine dQ ?_ (by size_fits)
   refine aa (aa (mX ?_))
   rw[show A.in1.handled=none from n]
   exact kQ (q _ _ _ (λb o k=>aV _ (aV _ k)) (by rw[bi];exact bY _) (bf _ rfl) (by rw[bi,bi];exact ae (bY _) (bY _)))
  | susp v g₀ l₀ k₀ c₀ p₀ fs₀=>exact ac ⟨v,rfl,h⟩
theorem Ay(t:env.scope.isCoroutine=false)(I:Nat->Shared->Prop)(q:∀n s,I n s->wpAny (model prg w) (A.over (.compLoop (.GeneratorExp elt [⟨tgt,iter,ifs,0⟩] scope pos) 0 it .none env) []) (pyNext it) (λr s₁=>match r with
   | none=>Φ (.ret (.ok .next)) s₁
   | some v=>wpAny (model prg w) (A.over (.compLoop (.GeneratorExp elt [⟨tgt,iter,ifs,0⟩] scope pos) 0 it .none env) []) (letOwnedTupleGo tgt it v) (λC s₂ =>
     wpAny (model prg w) (A.over (.compLoop (.GeneratorExp elt [⟨tgt,iter,ifs,0⟩] scope pos) 0 it .none env) []) (assign tgt env v) (λC d =>
     wpAny (model prg w) (A.over (.compLoop (.GeneratorExp elt [⟨tgt,iter,ifs,0⟩] scope pos) 0 it .none env) []) (forIn ifs true λc r=>if r=true then do let j ← isTrue c env (eval c env);pure (ForInStep.yield j) else pure (ForInStep.yield r)) (λj a =>
      if j=true then wpAny (model prg w) (A.over (.compLoop (.GeneratorExp elt [⟨tgt,iter,ifs,0⟩] scope pos) 0 it .none env) []) (eval elt env) (λy f =>
        ∀k l p,k (.send .none) = .pure (.again (.compLoop (.GeneratorExp elt [⟨tgt,iter,ifs,0⟩] scope pos) 0 it .none env))->Φ (.susp y false l k (.compLoop (.GeneratorExp elt [⟨tgt,iter,ifs,0⟩] scope pos) 0 it .none env) p []) f) Nev a
      else ∃m,m<n/\I m a) Nev d) Nev s₂) Nev s₁) Nev s):
  ∀n s,I n s->jt (model prg w) A Φ (.compLoop (.GeneratorExp elt [⟨tgt,iter,ifs,0⟩] scope pos) 0 it .none env) ((model prg w).den (.compLoop (.GeneratorExp elt [⟨tgt,iter,ifs,0⟩] scope pos) 0 it .none env)) [] s:=by
 intro n
 induction n using Nat.strongRecOn with
 | _ n ih =>
  intro s B
  refine(?_:jt _ A _ _ ((compTurn (.GeneratorExp elt [⟨tgt,iter,ifs,0⟩] scope pos) 0 it .none env).onRaise (leaving env)) [] s)
  rw[compTurn_gen,Sem.onRaise_eq_wrap]
  refine bX (ct ?_)
  refine bX (ad (q n s B) (λr s₁ g=>?_) λC C e=>False.elim e)
  cases r with
  | none=>exact Av (.ok .next) g
  | some v =>
   refine bX (ad g (λC s₂ o=>?_) λC C e=>False.elim e)
   refine bX (ad o (λC d h=>?_) λC C e=>False.elim e)
   refine bX (ad h (λj a b=>?_) λC C e=>False.elim e)
   cases j with
   | false =>
    simp only[Bool.false_eq_true,if_false] at b ⊢
    obtain⟨m,z,u⟩:=b
    exact iZ rfl (ih m z a u)
   | true =>
    simp only[if_true] at b ⊢
    have x:∀v,yieldOut env v=yieldValue v:=λv=>by simp only[yieldOut,t,Bool.false_eq_true,if_false]
    simp only[x]
    rw[qd,qd,Sem.wrap_wrap,Sem.wrap_wrap]
    refine oP (ad b (λy f i=>?_) λC C e=>False.elim e)
    exact CG (wF rfl λp=>i _ _ p rfl)
theorem tD{P:Addr}{m:Str->Option Value}{a:Array Value}{c:Addr}(b:Heap.ExtBut P h h')(d:h.TableAt c P a)(x:h.Ns L m):h'.Ns L m:=by
 refine i9 x λo es f e hd r=>?_
 refine⟨o,es,f,b L o (λz=>?_) e,hd,r⟩
 subst z
 have:=d.2
 rw[e] at this
 cases this
 cases hd
theorem G.table(g:G W s){c P:Addr}{p h:Array Value}(m:(c,P)∈W.tabs)(l:s.heap.TableAt c P p)(d:Heap.ExtBut P s.heap h')(I:h'.IsCode c P (p++h))(B:h'.TableAt c P (p++h))(z:s.heap.objs.size<=h'.objs.size):G W { s with heap:=h',toks:=tk }:=by
 refine Cd (g.tab0 c P m) λlc M K t E=>?_
 obtain⟨u,k⟩:=t
 have A:P≠cStatics:=λe=>by
  refine i9 g.sta λo es N v hd O=>?_
  have:=l.2
  rw[e,v] at this
  cases this
  cases hd
 refine⟨g.old.step_table k l B d A,ae g.siz z,g.bare,g.os,g.kin0,λb o e=>d b o (λq=>?_) (g.kin b o e),g.glob0,tD d l g.glob,g.bui0,tD d l g.bui,g.boot,g.sta0,tD d l g.sta,g.lim,g.tab0,λa i f=>?_,λe m=>(g.frs e m).keep λL o F C J D=>⟨o,F,d L o (λq=>aw.mpr C (q▸M)) J,tD d l D,rfl⟩,ae g.bas z⟩
 ·subst q;rw[K] at e;cases e
 ·by_cases w:i=P
  ·subst w
   have:=E a f
   subst this
   exact⟨_,I,B⟩
  ·refine bc (g.tab a i f) λj x y=>?_
   have n:a≠P:=λe=>by
    refine ck y λr O=>?_
    obtain⟨o,vs,v,H,O⟩:=r
    have:=l.2
    rw[← e,v] at this
    cases this
    cases H
   exact⟨j,x.extBut d n w,y.extBut d n w⟩
theorem wG{c P:Addr}{f:Array Value}(d:s.heap.TableAt c P f)(a:Heap.ExtBut P s.heap h')(z:s.heap.objs.size<=h'.objs.size):aF s { s with heap:=h',toks:=tk }:=by
 refine⟨λb o h e n=>a b o (λq=>?_) e,λb o es g h e hd=>⟨o.slots,a b o (λq=>?_) e⟩,λh h h e=>e,z,aB _⟩
 ·subst q;rw[d.2] at e;cases e;cases n
 ·subst q;rw[d.2] at e;cases e;cases hd
theorem Az(g:G W s){c P:Addr}{n:Str}(l:env.code = .ref c)(m:(c,P)∈W.tabs)(k:∀f s',G W s'->aF s s'->Q f s'):wpAny (model prg W.w) A (genexprCode env pos n scope) Q E s:=by
 refine bc (g.tab c P m) λo a e=>?_
 cases hf:codeAmong pos o.toList with
 | some f=>exact wpAny_genexprCode_hit l a hf (k f s g (aF.refl s))
 | none =>
  refine cV (wpAny_genexprCodeX l a e hf λc' h' tk j t r b p d q i=>?_)
  exact k _ _ (g.table m e j b d i.h) (wG e j i.h)
theorem CH(h:W.K.In s.heap){Q:Addr->Shared->Prop}(a:Q builtinsNs s):wpAny (model prg W.w) A (builtinsFor mainGlobals builtinsNs) Q E s :=
 (cA (r:=builtinsNs) h (by kernel_rfl)).here a
theorem wH{g:Nat}{x:GenState}(h:g<s.gens.size):(s.setGen g x).gens[g]? = some x:=by
 unfold Shared.setGen
 simp[h]
theorem G.gen(a:G W s){g:Nat}{x:GenState}(d:x.bare=true):G W (s.setGen g x):=by
 refine a.fr (s':=s.setGen g x) (λi i i e=>e) (aB _) ?_ rfl (λL o m i b c=>⟨o,m,b,c,rfl⟩)
 intro y f
 rcases Array.mem_or_eq_of_mem_setIfInBounds f with h | h
 ·exact a.bare y h
 ·exact h▸d
theorem ak.gen1{g:Nat}{x:GenState}(a:g∈F.g):ak F s (s.setGen g x) :=
 ⟨λc c c e c=>e,λc o c c c e c=>⟨o.slots,e⟩,λq y b e=>by
  refine(?_:(s.gens.setIfInBounds g x)[q]? = some y)
  rw[Array.getElem?_setIfInBounds_ne (by rintro rfl;exact b a)];exact e,aB _,by unfold Shared.setGen;simp⟩
theorem i0{g:Nat}(x:h.IsGen a g)(k:∀o,h.get? a=some o->nt o=true->h'.get? a=some o):h'.IsGen a g:=by
 refine i9 x λo q n c b hd=>?_
 exact⟨o,q,n,k o c (ik (by rw[b];simp) (by refine hd.1 ▸ ?_;intro d d z;cases z)),b,hd⟩
noncomputable abbrev geF(a L:Addr)(g:Nat)(F:Fp):Fp:=⟨a::L::F.a,g::F.g⟩
noncomputable def xX(W:Wc)(n:Nat)(it:Value)(F:Fp)(s:Shared):Prop:=∀l a s' H',aU (W.at l) a n->GO (W.at l) H' s'->bC F s s'->wpAny (model prg W.w) a (pyIter it) (λv s''=>v=it/\s''=s') Nev s'
structure y7(W:Wc)(n:Nat)(Cg:Cx)(σ:List (Option Ty))(ge:Expr)(it:Value)(genv:Env)(a L:Addr)(g:Nat)(P:List Addr)(F₀:Fp)(H:List Addr)(s:Shared):Prop where
 gen:s.heap.IsGen a g
 gs:∃gs,s.gens[g]? = some gs/\((gs = .fresh (.compStart ge 0 it .none genv)/\xX W n it F₀ s)∨∃k l p cl,gs = .suspended k l (.compLoop ge 0 it .none genv) p [] cl/\k (.send .none) = .pure (.again (.compLoop ge 0 it .none genv)))
 fr:∃m o,s.heap.get? L=some o/\s.heap.Ns L m/\o.cls = .type "frame"
 cap:∀(i:Nat) (x:Str) (T:Ty),Cg.names[i]? = some x->σ[i]? = some (some T)->Cg.scope.names.lookup x=some .free/\∃c v,genv.cells.lookup x=some c/\s.heap.IsCell c (some v)/\T.p (am s.heap H) v
 cel:∀x c,genv.cells.lookup x=some c->c∈P/\c∉a::L::F₀.a/\∃v,s.heap.IsCell c v
 dis:a≠L/\a∉F₀.a/\L∉F₀.a/\g∉F₀.g
 inH:∀b∈a::L::F₀.a,b∈H
 bnd:InB W (geF a L g F₀) s
structure y8(Cg:Cx)(genv:Env)(L:Addr):Prop where
 ok:nr Cg genv
 own:Cg.own=[]
 loc:genv.locals=L
 frame:genv.frame=some L
 co:genv.scope.isCoroutine=false
theorem CI{ge:Expr}{g:Nat}{P:List Addr}{k:List Env}{x:GenState}(S:y8 Cg genv L)(c:y7 W n Cg σ ge it genv a L g P F₀ H s)(D:GO (W.at k) H' s')(st:bC (geF a L g F₀) s s')(sp:bC ⟨P,[]⟩ s s')(J:∀b∈a::L::F₀.a,b∈H')(U:Vle (am s.heap H) (am s'.heap H'))(Y:x.bare=true):
  Inv (W.at (genv::k)) Cg genv ⟨σ,[]⟩ (H'++F₀.a) ⟨[L],[]⟩ (s'.setGen g x):=by
 refine rU c.fr λm o F M hc=>?_
 refine yK (jg M F) λes ep hd=>?_
 refine dK (st.d L (.tail _ (.head _)) o es ep F hd) λsl C=>?_
 have B:s'.heap.Ns L m:=by
  refine i9 M λQ t u j q r=>?_
  rw[F] at j;cases j
  exact⟨_,t,u,C,q,r⟩
 have l:L∈H':=J L (.tail _ (.head _))
 have A:G (W.at (genv::k)) s':=G.at (W:=W.at k) D.g λe E=>by
  rcases aC.mp E with rfl | E
  ·exact⟨by rw[S.ok.kind];decide,L,m,_,S.frame,(D.ok L l).1,C,B,hc⟩
  ·exact D.g.frs e E
 have ev:am s'.heap H'=am s'.heap ((H'++F₀.a)++[L]):=cr λb=>by
  simp only[List.mem_append,List.mem_singleton]
  exact⟨λh=>.inl (.inl h),λh=>h.elim (λh=>h.elim id λh=>J b (.tail _ (.tail _ h))) λh=>h▸l⟩
 have f:∀c₁ v,c₁∈P->s.heap.IsCell c₁ v->s'.heap.IsCell c₁ v:=λc₁ v I=>ir λN e1 O=>⟨N,sp.a c₁ I N e1 (nq O),O⟩
 refine⟨A.gen Y,S.ok,by rw[S.loc];exact .head _,λy c₁ Q h=>(by rw[S.own] at h;cases h),λb K=>?_,λQ h=>absurd h av,⟨m,by rw[S.loc];exact B,λi y T X Z=>?_⟩,λy c₁ h=>?_,(λQ Q=>nM),gb,⟨genv,k,rfl,rfl⟩⟩
 ·simp only[List.mem_append,List.mem_singleton] at K
  exact D.ok b (K.elim (λh=>h.elim id λh=>J b (.tail _ (.tail _ h))) λh=>h▸l)
 ·refine ck (c.cap i y T X Z) λhf w=>?_
  refine rU w λc₁ v R V h3=>?_
  refine⟨v,.inr ⟨.inr hf,c₁,R,f c₁ _ (c.cel y c₁ R).1 V⟩,?_⟩
  refine(?_:T.p (am s'.heap ((H'++F₀.a)++[L])) v)
  exact ev▸(T.mono U h3)
 ·refine dn (c.cel y c₁ h) λI Q z=>?_
  refine dK z λv hv=>?_
  exact⟨v,f c₁ v I hv⟩
theorem y9{k:List Env}(a:aU (W.at k) A (n+2)):aU (W.at (genv::k)) (A.in1.over (.compLoop (.GeneratorExp elt [⟨tgt,iter,ifs,0⟩] scope pos) 0 it .none genv) []) n :=
 ⟨a.hd,by show pushEnvs [genv] (pushEnvs [] A.frames)=_;refine a.fr ▸ ?_;rfl,by have:=a.depth;show A.depth+0+1+n<_;exact jd (oV (b:=1) (n:=n+1) (aB _) this),by have:=a.units;show A.units+1+0+3+8*n<_;exact oR (b:=4) (by decide) (bp (iH (pw 8 (bY _)) _) this)⟩
theorem wI{k:List Env}(a:aU (W.at k) A (n+2)):aU (W.at (genv::k)) (A.in1.over (.compStart (.GeneratorExp elt [⟨tgt,iter,ifs,0⟩] scope pos) 0 it .none genv) []) n :=
 ⟨a.hd,by show pushEnvs [genv] (pushEnvs [] A.frames)=_;rw[a.fr];rfl,by have:=a.depth;show A.depth+0+1+n<_;exact jd (oV (b:=1) (n:=n+1) (aB _) this),by have:=a.units;show A.units+1+0+3+8*n<_;exact oR (b:=4) (by decide) (bp (iH (pw 8 (bY _)) _) this)⟩
theorem oQ:isSubtype (.type "StopIteration") (.type "StopIteration")=pure true:=by rw[fD];kernel_rfl
structure Itm where
 p:List Addr->fH->Heap->Value->Prop
 mono:∀{N V V' h h' v},Vle V V'->(∀a∈N,∀o,h.get? a=some o->nt o=true->h'.get? a=some o)->p N V h v->p N V' h' v
noncomputable def Ty.itm(T:Ty):Itm:=⟨λN V b v=>N=[]/\T.p V v,λa b h=>⟨h.1,T.mono a h.2⟩⟩
noncomputable def q9(s:Shared)(e:Value)(s':Shared):Prop:=∃X tr,(∀a∈X,s.heap.objs.size<=a/\a<s'.heap.objs.size)/\fJ s'.heap X "StopIteration" tr e
inductive r7(it:Value)(F:Fp)(s:Shared):Prop
 | mk (a:Addr) (o:Obj) (e:it = .ref a) (m:a∈F.a) (h:s.heap.get? a=some o) (n:nt o=true) (c:o.cls = .type "generator" ∨ o.cls = .ref 176)
theorem r7.stay(h:r7 it F s)(d:bC F s s'):r7 it F s':=by
 obtain⟨a,o,e,m,c,b,f⟩:=h
 exact⟨a,o,e,m,d.a a m o c b,b,f⟩
inductive Ho(W:Wc)(l:List Env)(I:Itm)(F:Fp)(H':List Addr)(s':Shared)(r:Option Value)(s'':Shared)(J:Fp->List Addr->Prop):Prop
 | mk (v:Value) (F':Fp) (N:List Addr) (e:r=some v) (g:G (W.at l) s'') (k:ak F s' s'') (x:Ext s' F F') (b:InB W F' s'') (hN:∀a∈N,s'.heap.objs.size<=a/\a<s''.heap.objs.size/\a∉F'.a) (p:I.p N (am s''.heap ((H'++F'.a)++N)) s''.heap v) (i:J F' N)
noncomputable def ItN(W:Wc)(n:Nat)(it:Value):List Itm->Fp->List Addr->Shared->Prop
 | [],F,H,s=>r7 it F s/\∀l A s' H',aU (W.at l) A n->GO (W.at l) H' s'->bC F s s'->(∀a∈F.a,a∈H')->Vle (am s.heap H) (am s'.heap H') ->
   wpAny (model prg W.w) A (lQ it) (λb b=>False) (λe s''=>G (W.at l) s''/\ak F s' s''/\q9 s' e s'') s'
 | I::Is,F,H,s=>r7 it F s/\∀l A s' H',aU (W.at l) A n->GO (W.at l) H' s'->bC F s s'->(∀a∈F.a,a∈H')->Vle (am s.heap H) (am s'.heap H') ->
   wpAny (model prg W.w) A (lQ it) (λr s''=>Ho W l I F H' s' r s'' λF' N=>ItN W n it Is F' ((H'++F'.a)++N) s'') Nev s'
theorem ItN.move{Is:List Itm}(h:ItN W n it Is F H s)(e:bC F s s')(f:Vle (am s.heap H) (am s'.heap H')):ItN W n it Is F H' s':=by
 cases Is <;> exact⟨h.1.stay e,λl A s₂ a g i d c b=>h.2 l A s₂ a g i (e.trans d) c (f.trans b)⟩
theorem ItN.ok:∀{Is:List Itm} {F:Fp} {H:List Addr} {s:Shared},ItN W n it Is F H s->r7 it F s:=fun {Is _ _ _} h=>by cases Is <;> exact h.1
theorem ItN.at{k:List Env}{Is:List Itm}:∀{F:Fp} {H:List Addr} {s:Shared},ItN W n it Is F H s->ItN (W.at k) n it Is F H s:=by
 induction Is with
 | nil =>
  intro r r r h
  exact h
 | cons _ _ ih =>
  intro r r r h
  exact⟨h.1,λl A s' H' o f q c i=>ad (h.2 l A s' H' o f q c i) (λr s'' j=>j.rec λv F' N e g d x b p t m=>⟨v,F',N,e,g,d,x,⟨b.a,b.g⟩,p,t,ih m⟩) az⟩
theorem tE{e:Value}(h:q9 s e s'):wpAny (model prg W.w) A (isInstance e (.type "StopIteration")) (λb s₂=>b=true/\s₂=s') Nev s':=by
 obtain⟨X,tr,d,d,x,o,vs,rfl,d,a,c,d⟩:=h
 exact eQ (T := "StopIteration") ⟨o,a,c⟩ oQ ⟨rfl,rfl⟩
theorem ItN.toIt{P:List Addr}(d:∀A s v Q,Q () s->wpAny (model prg W.w) A (letOwnedTupleGo tgt it v) Q Nev s){Ts:List Ty}(h:ItN W n it (Ts.map Ty.itm) F H s):It W n tgt it P Ts F H s:=by
 induction Ts generalizing F H s with
 | nil =>
  intro l A s' H' m j o r a f
  refine aa (gh (ad (h.2 l A s' H' m j o a f) (λr r z=>z.elim) λe s'' i=>?_))
  obtain⟨g,k,i⟩:=i
  refine aa (ad (tE i) (λb s₂ c=>?_) az)
  obtain⟨rfl,rfl⟩:=c
  exact ac ⟨rfl,g,k⟩
 | cons T Ts ih =>
  intro l A s' H' m j o r a f
  refine aa (gh (ad (h.2 l A s' H' m j o a f) (λr s'' t=>?_) λr r e=>False.elim e))
  obtain⟨v,F',N,rfl,g,k,x,b,u,⟨rfl,q⟩,p⟩:=t
  rw[c0] at q p
  exact ac ⟨v,rfl,d _ _ _ _ ⟨F',g,k,x,b,q,ih p⟩⟩
inductive Ef(W:Wc)(O:List Addr)(I:Itm)(s:Shared)(v:Value)(s':Shared):Prop
 | mk (N:List Addr) (g:G W s') (k:aF s s') (hN:∀a∈N,s.heap.objs.size<=a/\a<s'.heap.objs.size) (p:I.p N (am s'.heap (O++N)) s'.heap v)
noncomputable def EvR(W:Wc)(C:Cx)(Γ:Kn)(n:Nat)(e:Expr)(I:Itm):Prop:=∀A env O M s,aU W A n->Inv W C env Γ O M s ->
 wpAny (model prg W.w) A (eval e env) (Ef W (O++M.a) I s) Nev s
theorem EvP.evr(h:EvP W C Γ n e T):EvR W C Γ n e T.itm:=λA env O M s a I=>ad (h A env O M s a I) (λv s'=>xz λg k t=>⟨[],g,k,(λb=>nM),rfl,by rw[c0];exact t⟩) az
theorem Inv.wider(I:Inv W C env Γ O M s)(k:aF s s')(g:G W s')(b:∀a∈X,s.heap.objs.size<=a/\a<s'.heap.objs.size):Inv W C env Γ (O++X) M s' :=
 (nv I).lent (F':=⟨X,[]⟩) k g ⟨λa m=>.inr (b a m).1,λc=>nM⟩ ⟨λa m=>⟨ae I.g.siz (b a m).1,(b a m).2⟩,λc=>nM⟩ (λc=>nM) (λc c c=>nM)
theorem CJ{N:List Addr}(k:aF s s')(d:∀a∈N,s.heap.objs.size<=a/\a<s'.heap.objs.size):Vle (am s.heap O) (am s'.heap (O++N)):=λa o e c=>by
 have b:=af e
 exact aK (k.obj' b c) λm=>(aj.mp m).elim (a8 e) λm=>aw.mpr (d a m).1 (aO b)
theorem q9.new{e t:Addr}{gs:Array GenState}(hs:s.heap.objs.size<=s₁.heap.objs.size)(c:s₁.heap.objs.size<=e)(b:h'.get? e=some (q8 t)):q9 s (.ref e) { s₁ with heap:=h',gens:=gs } :=
 ⟨[e],false,λa m=>by refine(ah.mp m) ▸ ?_;exact⟨ae hs c,aO b⟩,λa m=>by refine(ah.mp m) ▸ ?_;exact⟨_,_,b,rfl⟩,e,_,_,rfl,.head _,b,rfl,rfl,by simp,.inl ⟨rfl,rfl⟩⟩
variable {Is:List Itm}
theorem ES{g:Nat}(x:Ext s F F'):Ext s (geF a L g F) (geF a L g F') :=
 ⟨λb m=>by
  rcases aC.mp m with e | m
  ·exact .inl (e ▸ .head _)
  ·rcases aC.mp m with e | m
   ·exact .inl (e ▸ .tail _ (.head _))
   ·exact(x.a b m).imp (λh=>.tail _ (.tail _ h)) id,λb m=>by
  rcases aC.mp m with e | m
  ·exact .inl (e ▸ .head _)
  ·exact(x.g b m).imp (λh=>.tail _ h) id⟩
inductive Hp{ι:Type}(W:Wc)(n:Nat)(Cg:Cx)(σ:List (Option Ty))(E tgt:Expr)(f:ι->Ty)(e:ι->Itm)(q:ι->Bool)(it:Value)(genv:Env)(a L:Addr)(g:Nat)(P:List Addr)(F₀:Fp)(H':List Addr)(k:List Env)(l:List ι)(s':Shared)(r:Option Value)(s'':Shared):Prop
 | mk (v:Value) (T:ι) (Us:List ι) (F':Fp) (N:List Addr) (er:r=some v) (hf:l.filter q=T::Us.filter q) (hl:Us.length<l.length) (hs:∀x∈Us,x∈l) (gg:G (W.at k) s'') (kx:ak (geF a L g F₀) s' s'') (x:Ext s' (geF a L g F₀) (geF a L g F')) (hN:∀x∈N,s'.heap.objs.size<=x/\x<s''.heap.objs.size/\x∉(geF a L g F').a) (p:(e T).p N (am s''.heap ((H'++(geF a L g F').a)++N)) s''.heap v) (c:y7 W n Cg σ E it genv a L g P F' ((H'++(geF a L g F').a)++N) s'') (i:It W n tgt it [] (Us.map f) F' ((H'++(geF a L g F').a)++N) s'')
inductive Hq{ι:Type}(W:Wc)(n:Nat)(Cg:Cx)(σ:List (Option Ty))(tgt:Expr)(f:ι->Ty)(e:ι->Itm)(q:ι->Bool)(it:Value)(genv:Env)(a L:Addr)(g:Nat)(F₀:Fp)(H':List Addr)(k:List Env)(l:List ι)(sr:Shared)(v:Value)(s₁:Shared):Prop
 | mk (T:ι) (Us:List ι) (F':Fp) (N:List Addr) (hf:l.filter q=T::Us.filter q) (hl:Us.length<l.length) (hs:∀x∈Us,x∈l) (I:Inv (W.at (genv::k)) Cg genv ⟨σ,[]⟩ ((H'++F'.a)++N) ⟨[L],[]⟩ s₁) (kx:ak (geF a L g F₀) sr s₁) (x:Ext sr F₀ F') (b:InB W F' s₁) (hg:s₁.heap.IsGen a g) (hN:∀x∈N,sr.heap.objs.size<=x/\x<s₁.heap.objs.size/\x∉F'.a) (p:(e T).p N (am s₁.heap (((H'++F'.a)++[L])++N)) s₁.heap v) (i:It W n tgt it [] (Us.map f) F' (((H'++F'.a)++[L])++N) s₁)
inductive Hr{ι:Type}(W:Wc)(n:Nat)(Cg:Cx)(σ:List (Option Ty))(tgt:Expr)(f:ι->Ty)(q:ι->Bool)(it:Value)(genv:Env)(a L:Addr)(g:Nat)(F₀:Fp)(H':List Addr)(k:List Env)(l:List ι)(sr:Shared)(m:Nat)(sx:Shared):Prop
 | mk (Us:List ι) (F':Fp) (hk:m=Us.length) (hf:l.filter q=Us.filter q) (hl:Us.length<=l.length) (hs:∀x∈Us,x∈l) (I:Inv (W.at (genv::k)) Cg genv ⟨σ,[]⟩ (H'++F'.a) ⟨[L],[]⟩ sx) (kx:ak (geF a L g F₀) sr sx) (x:Ext sr F₀ F') (b:InB W F' sx) (hg:sx.heap.IsGen a g) (i:It W n tgt it [] (Us.map f) F' ((H'++F'.a)++[L]) sx)
theorem uR{ι:Type}{g:Nat}{P:List Addr}{k:List Env}(S:y8 Cg genv L)(f:ι->Ty)(e:ι->Itm)(q:ι->Bool)(u:ι->Kn->Kn)(w4:∀l' T,j1 (W.at l') Cg n tgt (f T) (u T))(hu:∀T (j:Nat) (U:Ty),σ[j]? = some (some U)->(u T ⟨σ,[]⟩).v[j]? = some (some U))(hh:∀T,(u T ⟨σ,[]⟩).h=[]){l:List ι}(ht:∀l' T,T∈l->ip (W.at l') Cg (u T ⟨σ,[]⟩) n ifs (q T))(he:∀l' T,T∈l->q T=true->EvR (W.at l') Cg (u T ⟨σ,[]⟩) n elt (e T))(c:y7 W n Cg σ (.GeneratorExp elt [⟨tgt,iter,ifs,0⟩] scope pos) it genv a L g P F₀ H s)(v1:It W n tgt it [] (l.map f) F₀ H s)(rm:aU (W.at k) A (n+2))(go:GO (W.at k) H' s')(st:bC (geF a L g F₀) s s')(sp:bC ⟨P,[]⟩ s s')(hF:∀b∈a::L::F₀.a,b∈H')(vl:Vle (am s.heap H) (am s'.heap H')):
  wpAny (model prg W.w) A (lQ (.ref a)) (Hp W n Cg σ (.GeneratorExp elt [⟨tgt,iter,ifs,0⟩] scope pos) tgt f e q it genv a L g P F₀ H' k l s')
   (λev s''=>l.filter q=[]/\G (W.at k) s''/\ak (geF a L g F₀) s' s''/\q9 s' ev s'') s':=by
 refine bc c.gs λgs w8 hw=>?_
 have f1:s'.heap.IsGen a g:=i0 c.gen λo e nt=>st.a a (.head _) o e nt
 have f6:s'.gens[g]? = some gs:=st.g g (.head _) gs w8
 have c1:g<s'.gens.size:=(lE.mp f6).1
 have a1:=CI (x:=.running) S c go st sp hF vl rfl
 have a5:a∈H':=hF a (.head _)
 have Q:L∈H':=hF L (.tail _ (.head _))
 have b4:∀b∈F₀.a,b∈H':=λb m=>hF b (.tail _ (.tail _ m))
 generalize M:s'.setGen g .running=sr at a1
 have kr:ak (geF a L g F₀) s' sr:=by rw[← M];exact ak.gen1 (.head _)
 have g0:sr.heap.IsGen a g:=by rw[← M];exact f1
 have a7:sr.heap.objs.size=s'.heap.objs.size:=by rw[← M];rfl
 have b3:sr.gens.size=s'.gens.size:=by rw[← M];unfold Shared.setGen;simp
 have n1:InB W F₀ sr:=⟨λb m=>⟨(go.ok b (b4 b m)).1,by rw[a7];exact(go.ok b (b4 b m)).2⟩,λb m=>by
  rw[b3]
  have:=c.bnd.g b (.tail _ m)
  obtain⟨x,hx⟩:∃x,s.gens[b]? = some x:=⟨_,mB this⟩
  exact(lE.mp (st.g b (.tail _ m) x hx)).1⟩
 have o2:∀y c₁,genv.cells.lookup y=some c₁->c₁<sr.heap.objs.size:=λy c₁ h=>(a1.cells y c₁ h).elim λaa hv=>hv.lt
 have d8:∀y c₁,genv.cells.lookup y=some c₁->c₁∉a::L::F₀.a:=λy c₁ h=>(c.cel y c₁ h).2.1
 have h8:It W n tgt it [] (l.map f) F₀ ((H'++F₀.a)++[L]) sr:=v1.move
  (bC.trans (s':=s') ⟨λb m=>st.a b (.tail _ (.tail _ m)),λb m=>st.d b (.tail _ (.tail _ m)),λb m=>st.g b (.tail _ m)⟩ (by
   rw[← M]
   exact(ak.gen1 (F:=⟨[],[g]⟩) (.head _)).stays (λaa aa=>av) (λb m z=>c.dis.2.2.2 (ah.mp z▸m)))) cW (by
   have e1:am sr.heap ((H'++F₀.a)++[L])=am s'.heap H':=by
    rw[show sr.heap=s'.heap by rw[← M];rfl]
    exact cr λb=>by
     simp only[List.mem_append,List.mem_singleton]
     exact⟨λh=>h.elim (λh=>h.elim id (b4 b)) λh=>h▸Q,λh=>.inl (.inl h)⟩
   rw[e1];exact vl)
 let lp:Code:=.compLoop (.GeneratorExp elt [⟨tgt,iter,ifs,0⟩] scope pos) 0 it .none genv
 let Φ:End->Shared->Prop:=λen s₁=>match en with
  | .ret r=>r = .ok .next/\l.filter q=[]/\G (W.at (genv::k)) s₁/\ak (geF a L g F₀) sr s₁
  | .susp v gd lv kk c' p fs=>gd=false/\fs=[]/\c'=lp/\kk (.send .none) = .pure (.again lp)/\Hq W n Cg σ tgt f e q it genv a L g F₀ H' k l sr v s₁
 let Iv:Nat->Shared->Prop:=Hr W n Cg σ tgt f q it genv a L g F₀ H' k l sr
 have nF:∀{F':Fp},Ext sr F₀ F'->∀b,b<sr.heap.objs.size->b∉F₀.a->b∉F'.a:=λx b hb hn m=>(x.a b m).elim hn λh=>aw.mpr h hb
 have V:∀b∈H',b<sr.heap.objs.size:=λb m=>by rw[a7];exact(go.ok b m).2
 have o8:∀m sx,Iv m sx->wpAny (model prg W.w) (A.in1.over lp []) (pyNext it) (λr s₁=>match r with
   | none=>Φ (.ret (.ok .next)) s₁
   | some v=>wpAny (model prg W.w) (A.in1.over lp []) (letOwnedTupleGo tgt it v) (λaa s₂ =>
     wpAny (model prg W.w) (A.in1.over lp []) (assign tgt genv v) (λaa k1 =>
     wpAny (model prg W.w) (A.in1.over lp []) (forIn ifs true λc r=>if r=true then do let ok ← isTrue c genv (eval c genv);pure (ForInStep.yield ok) else pure (ForInStep.yield r)) (λok e2 =>
      if ok=true then wpAny (model prg W.w) (A.in1.over lp []) (eval elt genv) (λy J =>
        ∀k l p,k (.send .none) = .pure (.again lp)->Φ (.susp y false l k lp p []) J) Nev e2
      else ∃m',m'<m/\Iv m' e2) Nev k1) Nev s₂) Nev s₁) Nev sx:=by
  intro m sx k2
  obtain⟨Us,F,rfl,X,t2,a4,I',kx,xt,bF,hg,hI⟩:=k2
  have c2:aU (W.at (genv::k)) (A.in1.over lp []) n:=y9 rm
  have q7:∀b∈F.a,b∈(H'++F.a)++[L]:=λb m=>aq _ (al _ m)
  have t1:∀y c₁,genv.cells.lookup y=some c₁->c₁∉F.a:=λy c₁ h=>nF xt c₁ (o2 y c₁ h) λm=>d8 y c₁ h (.tail _ (.tail _ m))
  have v9:∀b∈F.a,b∉[L]:=λb m z=>nF xt L (V L Q) c.dis.2.2.1 (ah.mp z▸m)
  have x1:a∉F.a:=nF xt a (V a a5) c.dis.2.1
  have p7:∀{s₁:Shared},ak F sx s₁->ak (geF a L g F₀) sr s₁:=λh=>kx.of_ext (M':=F) ⟨λb m=>(xt.a b m).imp (λh=>.tail _ (.tail _ h)) id,λb m=>(xt.g b m).imp (λh=>.tail _ h) id⟩ h
  cases Us with
  | nil =>
   refine ad (hI (genv::k) _ sx _ c2 I'.go (bC.refl _ _) cW q7 (Vle.refl _)) (λr s₁ h=>?_) az
   refine dn h λu3 b5 B=>?_
   obtain rfl:=u3
   exact⟨rfl,X,b5,p7 B⟩
  | cons T Us =>
   refine ad (hI (genv::k) _ sx _ c2 I'.go (bC.refl _ _) cW q7 (Vle.refl _)) (λr s₁ h=>?_) az
   obtain⟨v,rfl,h⟩:=h
   refine ad h (λaa J n0=>?_) az
   obtain⟨F',p8,b2,f3,R,hT,w7⟩:=n0
   have p0:=I'.lent b2 p8 f3 ⟨R.a,R.g⟩ v9 t1
   have h9:Ext sr F₀ F':=xt.trans f3 kx.siz kx.gsz
   have s2:(f T).p (am J.heap ((H'++F'.a)++[L])) v:=(f T).mono (bG λb m=>by
    simp only[List.mem_append,List.mem_singleton] at m ⊢
    rcases m with(m | m) | m
    ·exact .inl (.inl (.inl m))
    ·exact .inr m
    ·exact .inl (.inr m)) hT
   refine ad (w4 (genv::k) T ⟨σ,[]⟩ _ genv _ ⟨[L],[]⟩ J v c2 p0 s2) (λaa m0 k5=>?_) az
   refine ck k5 λK f0=>?_
   have f2:T∈l:=a4 T (.head _)
   refine ad (ht (genv::k) T f2 _ genv _ ⟨[L],[]⟩ m0 c2 f0) (λy4 I m4=>?_) az
   refine dn m4 λw5 p5 C=>?_
   obtain rfl:=w5
   have e4:=f0.keep C p5
   have Iw:Inv (W.at (genv::k)) Cg genv ⟨σ,[]⟩ (H'++F'.a) ⟨[L],[]⟩ I:=e4.weak (Γ':=⟨σ,[]⟩) (λj U hj=>hu T j U hj) rfl
   have l1:L∉F'.a:=nF h9 L (V L Q) c.dis.2.2.1
   have g2:=p7 b2
   have Y:ak (geF a L g F₀) sr I:=g2.trans ((bK K (λb m=>by rw[ah.mp m];exact .tail _ (.head _)) (λaa m=>absurd m av)).trans (ak.ofK C))
   have c4:I.heap.IsGen a g:=i0 hg λo ho hn=>C.obj' (K.obj a o (λz=>c.dis.1 (ah.mp z)) (b2.obj a o x1 ho hn) hn) hn
   have O:InB W F' I:=⟨λb m=>⟨(R.a b m).1,aA (R.a b m).2 (ae K.siz C.siz)⟩,λb m=>aA (R.g b m) (ae K.gsz C.gsz)⟩
   have p6:bC F' J I:=(K.stays (λb m z=>l1 (ah.mp z▸m)) (λaa aa=>av)).trans (C.stays (λaa aa=>av) (λaa aa=>av))
   have u5:Vle (am J.heap (((H'++F.a)++[L])++F'.a)) (am I.heap ((H'++F'.a)++[L])):=(bG λb m=>by
    simp only[List.mem_append,List.mem_singleton] at m ⊢
    rcases m with(m | m) | m
    ·exact .inl (.inl (.inl m))
    ·exact .inr m
    ·exact .inl (.inr m)).trans ((K.vle (Ext.refl _ _)).trans (C.vle0 _))
   have b6:=w7.move p6 cW u5
   have b1:∀x∈Us,x∈l:=λx m=>a4 x (.tail _ m)
   have e0:Us.length<l.length:=Nat.lt_of_succ_le t2
   cases hq:q T with
   | false =>
    exact⟨Us.length,dR _,Us,F',rfl,by rw[X,kI,bj (by rw[hq];decide)],cQ e0,b1,Iw,Y,h9,O,c4,b6⟩
   | true =>
    refine ad (he (genv::k) T f2 hq _ genv _ ⟨[L],[]⟩ I c2 e4) (λy y0 p4=>?_) az
    obtain⟨N,l2,E,hN,hy⟩:=p4
    intro kk ll p w6
    refine⟨rfl,rfl,rfl,w6,T,Us,F',N,by rw[X,kI,bI hq],e0,b1,Iw.wider E l2 hN,Y.trans (ak.ofK E),h9,⟨λb m=>⟨(O.a b m).1,aA (O.a b m).2 E.siz⟩,λb m=>aA (O.g b m) E.gsz⟩,i0 c4 λo ho hn=>E.obj' ho hn,λx m=>⟨ae Y.siz (hN x m).1,(hN x m).2,λz=>aw.mpr (hN x m).1 (O.a x z).2⟩,hy,b6.move (E.stays (λaa aa=>av) (λaa aa=>av)) cW (CJ E hN)⟩
 have h6:Iv l.length sr:=⟨l,F₀,rfl,rfl,aB _,λaa m=>m,a1,ak.refl _ _,Ext.refl _ _,n1,g0,h8⟩
 have Z:jt (model prg W.w) A.in1 Φ lp ((model prg W.w).den lp) [] sr:=Ay S.co Iv o8 l.length sr h6
 have k4:Aw (model prg W.w) A.in1 Φ gs (s'.setGen g .running):=by
  rw[M]
  rcases hw with⟨rfl,f8⟩ | ⟨kk,ll,p,cl,rfl,hk⟩
  ·refine(?_:jt _ A.in1 Φ _ ((compStart (.GeneratorExp elt [⟨tgt,iter,ifs,0⟩] scope pos) 0 it .none genv).onRaise (leaving genv)) [] sr)
   rw[Sem.onRaise_eq_wrap]
   refine(?_:jt _ A.in1 Φ _ ((ask >>= _).wrap _ _ _ _) [] sr)
   refine bX (eO ?_)
   split
   ·exact iZ rfl Z
   ·have r5:aU (W.at (genv::k)) (A.in1.over (.compStart (.GeneratorExp elt [⟨tgt,iter,ifs,0⟩] scope pos) 0 it .none genv) []) n:=wI rm
    have stF:bC F₀ s sr:=bC.trans (s':=s') ⟨λb m=>st.a b (.tail _ (.tail _ m)),λb m=>st.d b (.tail _ (.tail _ m)),λb m=>st.g b (.tail _ m)⟩ (by
     rw[← M]
     exact(ak.gen1 (F:=⟨[],[g]⟩) (.head _)).stays (λaa aa=>av) (λb m z=>c.dis.2.2.2 (ah.mp z▸m)))
    have hs:=f8 (genv::k) _ sr _ r5 a1.go stF
    first
     | exact bX (da (bX (ct (bX (ad hs (λv s₂ c3=>by obtain⟨rfl,rfl⟩:=c3;exact iZ rfl Z) λaa aa e=>False.elim e)))))
     | (refine bX (da ?_);show jt _ A.in1 Φ _ ((standAt iter.pos >>= _).wrap _ _ _ _) [] sr;exact bX (ct (bX (ad hs (λv s₂ c3=>by obtain⟨rfl,rfl⟩:=c3;exact iZ rfl Z) λaa aa e=>False.elim e))))
  ·refine(?_:jt _ A.in1 Φ _ (kk (.send .none)) [] sr)
   rw[hk]
   exact iZ rfl Z
 have n4:∀{s₁:Shared},G (W.at (genv::k)) s₁->G (W.at k) s₁:=λh=>G.at (W:=W.at (genv::k)) h λe m=>h.frs e (.tail _ m)
 refine yZ rm.hd go.g.noLimit (by have:=rm.depth;exact ae (aX (aW _ _) 1) this) f1 f6 k4 λen s₁ k3=>?_
 cases en with
 | ret r =>
  refine Ex k3 λu0 X b5 B=>?_
  obtain rfl:=u0
  refine⟨rfl,rfl,λh' e t o9 hn he hz=>⟨X,?_,?_,q9.new (s₁:=s₁) (gs:=(s₁.setGen g .finished).gens) (ae (aH a7.symm) B.siz) hn he⟩⟩
  ·exact((n4 b5).gen (g:=g) (x:=.finished) rfl).step (tk:=s₁.toks) o9 hz
  ·refine kr.trans (B.trans ((ak.gen1 (x:=.finished) (.head _)).trans ?_))
   exact ak.ofK (aF.step (s:=s₁.setGen g .finished) (tk:=s₁.toks) o9 hz)
 | susp v gd lv kk c' p fs =>
  obtain⟨rfl,rfl,rfl,hk,T,Us,F',N,X,e0,a4,a3,B,D,f5,h0,hN,hy,h7⟩:=k3
  have kf:ak (geF a L g F₀) sr (s₁.setGen g (End.susp v false lv kk lp p []).genState):=B.trans (ak.gen1 (.head _))
  have ev:am s₁.heap (((H'++F'.a)++[L])++N)=am s₁.heap ((H'++(geF a L g F').a)++N):=cr λb=>by
   refine(?_:b∈((H'++F'.a)++[L])++N↔b∈(H'++a::L::F'.a)++N)
   rw[aj (s:=(H'++F'.a)++[L]),aj (s:=H'++a::L::F'.a)]
   refine or_congr_left ?_
   rw[aj (s:=H'++F'.a),aj (s:=H') (t:=F'.a),aj (s:=H') (t:=a::L::F'.a),ah,aC,aC]
   exact⟨λh=>h.elim (λh=>h.elim .inl λh=>.inr (.inr (.inr h))) λh=>.inl (h▸Q),λh=>h.elim (λh=>.inl (.inl h)) λh=>h.elim (λh=>.inl (.inl (h▸a5))) λh=>h.elim .inr λh=>.inl (.inr h)⟩
  have v7:am s₁.heap (((H'++F'.a)++N)++[L])=am s₁.heap ((H'++(geF a L g F').a)++N):=(cr λb=>by
   rw[aj,aj,aj (t:=N),aj (t:=[L])]
   exact⟨λh=>h.elim (λh=>h.elim (λh=>.inl (.inl h)) .inr) λh=>.inl (.inr h),λh=>h.elim (λh=>h.elim (λh=>.inl (.inl h)) .inr) λh=>.inl (.inr h)⟩:am s₁.heap (((H'++F'.a)++N)++[L])=am s₁.heap (((H'++F'.a)++[L])++N)).trans ev
  have p9:g<s₁.gens.size:=aA (by rw[b3];exact c1) B.gsz
  have n2:s'.heap.objs.size<=s₁.heap.objs.size:=by rw[← a7];exact B.siz
  refine⟨rfl,v,T,Us,F',N,rfl,X,e0,a4,(n4 a3.g).gen rfl,kr.trans kf,?_,λx m=>⟨by rw[← a7];exact(hN x m).1,(hN x m).2.1,λz=>?_⟩,?_,?_,?_⟩
  ·exact ES ⟨λb m=>(D.a b m).imp id λh=>by rw[← a7];exact h,λb m=>(D.g b m).imp id λh=>by rw[← b3];exact h⟩
  ·have hx:=(hN x m).1
   rcases aC.mp z with z | z
   ·rw[z] at hx;exact aw.mpr hx (V a a5)
   ·rcases aC.mp z with z | z
    ·rw[z] at hx;exact aw.mpr hx (V L Q)
    ·exact(hN x m).2.2 z
  ·refine(?_:(e T).p N (am s₁.heap ((H'++(geF a L g F').a)++N)) s₁.heap v)
   rw[← ev];exact hy
  ·refine bc a3.loc λm hn hl=>?_
   refine⟨h0,⟨_,wH p9,.inr ⟨kk,lv,p,_,rfl,hk⟩⟩,?_,λi y U hi hU=>?_,λy c₁ h=>⟨(c.cel y c₁ h).1,λm=>?_,a3.cells y c₁ h⟩,⟨c.dis.1,nF D a (V a a5) c.dis.2.1,nF D L (V L Q) c.dis.2.2.1,λm=>(D.g g m).elim c.dis.2.2.2 λh=>aw.mpr h (by rw[b3];exact c1)⟩,λb m=>aq _ (al _ m),⟨λb m=>?_,λb m=>?_⟩⟩
   ·refine sX ((a3.g.frs genv (.head _)).loc) λL' m' o h1 aa h3 h4 h5=>?_
    rw[S.frame] at h1;cases h1
    exact⟨m',o,h3,h4,h5⟩
   ·have hf:=(c.cap i y U hi hU).1
    refine⟨hf,?_⟩
    refine bc (hl i y U hi hU) λw sl s3=>?_
    rcases sl with⟨h,aa⟩ | ⟨aa,c₁,h1,h2⟩
    ·rw[hf] at h;cases h
    ·refine⟨c₁,w,h1,h2,?_⟩
     refine(?_:U.p (am s₁.heap ((H'++(geF a L g F').a)++N)) w)
     rw[← v7];exact s3
   ·rcases aC.mp m with e1 | m
    ·exact d8 y c₁ h (e1 ▸ .head _)
    ·rcases aC.mp m with e1 | m
     ·exact d8 y c₁ h (e1 ▸ .tail _ (.head _))
     ·exact nF D c₁ (o2 y c₁ h) (λm=>d8 y c₁ h (.tail _ (.tail _ m))) m
   ·refine(?_:W.H.objs.size<=b/\b<s₁.heap.objs.size)
    rcases aC.mp m with e1 | m
    ·rw[e1];exact⟨(go.ok a a5).1,aA (go.ok a a5).2 n2⟩
    ·rcases aC.mp m with e1 | m
     ·rw[e1];exact⟨(go.ok L Q).1,aA (go.ok L Q).2 n2⟩
     ·exact f5.a b m
   ·have s6:(s₁.setGen g (End.susp v false lv kk lp p []).genState).gens.size=s₁.gens.size:=by unfold Shared.setGen;simp
    rw[s6]
    rcases aC.mp m with e1 | m
    ·rw[e1];exact p9
    ·exact f5.g b m
  ·refine h7.move ((ak.gen1 (F:=⟨[],[g]⟩) (.head _)).stays (λaa aa=>av) (λb m z=>?_)) cW (by
    refine(?_:Vle _ (am s₁.heap _))
    rw[ev];exact Vle.refl _)
   have e1:=ah.mp z
   subst e1
   exact(D.g b m).elim c.dis.2.2.2 λh=>aw.mpr h (by rw[b3];exact c1)
theorem ET{ι:Type}{tgt':Expr}{g:Nat}{P:List Addr}(S:y8 Cg genv L)(f e:ι->Ty)(q:ι->Bool)(u:ι->Kn->Kn)(O:∀l' T,j1 (W.at l') Cg n tgt (f T) (u T))(hu:∀T (j:Nat) (U:Ty),σ[j]? = some (some U)->(u T ⟨σ,[]⟩).v[j]? = some (some U))(hh:∀T,(u T ⟨σ,[]⟩).h=[]):
  ∀(m:Nat) (l:List ι),l.length<m->(∀l' T,T∈l->ip (W.at l') Cg (u T ⟨σ,[]⟩) n ifs (q T))->(∀l' T,T∈l->q T=true->EvP (W.at l') Cg (u T ⟨σ,[]⟩) n elt (e T))->∀F₀ H s,
  y7 W n Cg σ (.GeneratorExp elt [⟨tgt,iter,ifs,0⟩] scope pos) it genv a L g P F₀ H s->It W n tgt it [] (l.map f) F₀ H s->It W (n+2) tgt' (.ref a) P ((l.filter q).map e) (geF a L g F₀) H s:=by
 intro m
 induction m with
 | zero=>intro l M;exact absurd M (mY _)
 | succ m ih =>
  intro l M Q R F₀ H s c hI
  have z:=λk A s' H' C y D sp E t=>uR (k:=k) (A:=A) (s':=s') (H':=H') S f (λx=>(e x).itm) q u O hu hh Q (λl' T i I=>(R l' T i I).evr) c hI C y D sp E t
  cases d:l.filter q with
  | nil =>
   intro k A s' H' C y D sp E t
   refine aa (gh (ad (z k A s' H' C y D sp E t) (λr s'' h=>?_) λev s'' h=>?_))
   ·obtain⟨v,T,Us,F',N,b,i,b⟩:=h
    rw[d] at i;cases i
   ·refine Ex h λb g' k' hx=>?_
    refine aa (ad (tE hx) (λb s₂ B=>?_) az)
    refine ck B λJ F=>?_
    obtain rfl:=J
    obtain rfl:=F
    exact ac ⟨rfl,g',k'⟩
  | cons T Ts =>
   intro k A s' H' C y D sp E t
   refine aa (gh (ad (z k A s' H' C y D sp E t) (λr s'' h=>?_) λev s'' h=>?_))
   ·obtain⟨v,T',Us,F',N,rfl,i,I,V,Z,h5,h6,hN,⟨rfl,Y⟩,p,X⟩:=h
    rw[d] at i
    injection i with e1 e2
    subst e1 e2
    rw[c0] at Y p X
    refine i9 p.gen λo w nm ho hc hd=>?_
    exact ac ⟨v,rfl,su ho hc (by decide +kernel) ⟨geF a L g F',Z,h5,h6,⟨p.bnd.a,p.bnd.g⟩,Y,ih Us (ae I (jv M)) (λl' T K=>Q l' T (V T K)) (λl' T K=>R l' T (V T K)) F' _ s'' p X⟩⟩
   ·rw[d] at h;cases h.1
theorem CK{ι:Type}{g:Nat}{P:List Addr}(S:y8 Cg genv L)(f:ι->Ty)(e:ι->Itm)(q:ι->Bool)(u:ι->Kn->Kn)(Z:∀l' T,j1 (W.at l') Cg n tgt (f T) (u T))(hu:∀T (j:Nat) (U:Ty),σ[j]? = some (some U)->(u T ⟨σ,[]⟩).v[j]? = some (some U))(hh:∀T,(u T ⟨σ,[]⟩).h=[]):
  ∀(m:Nat) (l:List ι),l.length<m->(∀l' T,T∈l->ip (W.at l') Cg (u T ⟨σ,[]⟩) n ifs (q T))->(∀l' T,T∈l->q T=true->EvR (W.at l') Cg (u T ⟨σ,[]⟩) n elt (e T))->∀F₀ H s,
  y7 W n Cg σ (.GeneratorExp elt [⟨tgt,iter,ifs,0⟩] scope pos) it genv a L g P F₀ H s->It W n tgt it [] (l.map f) F₀ H s->InB W ⟨P,[]⟩ s->ItN W (n+2) (.ref a) ((l.filter q).map e) ⟨P++(geF a L g F₀).a,(geF a L g F₀).g⟩ H s:=by
 intro m
 induction m with
 | zero=>intro l Y;exact absurd Y (mY _)
 | succ m ih =>
  intro l Y ht he F₀ H s c hI hP
  have J:=λk A s' H' K y i (sp:bC ⟨P,[]⟩ s s') B F=>uR (k:=k) (A:=A) (s':=s') (H':=H') S f e q u Z hu hh ht he c hI K y i sp B F
  have p:∀{s'},bC ⟨P++(geF a L g F₀).a,(geF a L g F₀).g⟩ s s'->bC (geF a L g F₀) s s'/\bC ⟨P,[]⟩ s s':=λi=>⟨⟨λb m=>i.a b (al _ m),λb m=>i.d b (al _ m),i.g⟩,⟨λb m=>i.a b (aq _ m),λb m=>i.d b (aq _ m),λr=>nM⟩⟩
  have E:r7 (.ref a) ⟨P++(geF a L g F₀).a,(geF a L g F₀).g⟩ s:=by
   refine wh c.gen λo r r w M Q r=>?_
   exact⟨a,o,rfl,al _ (.head _),w,ik (by rw[M];intro z;cases z) (λr r z=>by rw[Q] at z;cases z),.inl M⟩
  cases t:l.filter q with
  | nil =>
   refine⟨E,?_⟩
   intro k A s' H' K y i B F
   refine ad (J k A s' H' K y (p i).1 (p i).2 (λb m=>B b (al _ m)) F) (λr s'' h=>?_) λR s'' h=>?_
   ·obtain⟨v,T,Us,F',N,r,w,r⟩:=h
    rw[t] at w;cases w
   ·exact⟨h.2.1,bK h.2.2.1 (λr m=>al _ m) (λr m=>m),h.2.2.2⟩
  | cons T Ts =>
   refine⟨E,?_⟩
   intro k A s' H' K y i B F
   refine ad (J k A s' H' K y (p i).1 (p i).2 (λb m=>B b (al _ m)) F) (λr s'' h=>?_) λR s'' h=>?_
   ·obtain⟨v,T',Us,F',N,rfl,w,M,Q,h4,h5,h6,O,h7,V,h9⟩:=h
    rw[t] at w
    injection w with e1 e2
    subst e1 e2
    have D:∀b∈P,b∈H':=λb m=>B b (aq _ m)
    have I:∀b∈P,b<s'.heap.objs.size:=λb m=>(y.ok b (D b m)).2
    have C:InB W ⟨P,[]⟩ s'':=⟨λb m=>⟨(hP.a b m).1,aA (I b m) h5.siz⟩,λr=>nM⟩
    have R:∀h:Heap,am h ((H'++(geF a L g F').a)++N)=am h ((H'++(P++(geF a L g F').a))++N):=λh=>cr λb=>by
     simp only[List.mem_append]
     constructor
     ·rintro((h | h) | h)
      ·exact .inl (.inl h)
      ·exact .inl (.inr (.inr h))
      ·exact .inr h
     ·rintro((h | h | h) | h)
      ·exact .inl (.inl h)
      ·exact .inl (.inl (D b h))
      ·exact .inl (.inr h)
      ·exact .inr h
    refine⟨v,⟨P++(geF a L g F').a,(geF a L g F').g⟩,N,rfl,h4,bK h5 (λr m=>al _ m) (λr m=>m),⟨λb m=>(aj.mp m).elim (λm=>.inl (aq _ m)) λm=>(h6.a b m).imp (al _) id,h6.g⟩,⟨λb m=>(aj.mp m).elim (C.a b) (V.bnd.a b),V.bnd.g⟩,λx m=>⟨(O x m).1,(O x m).2.1,λz=>(aj.mp z).elim (λz=>aw.mpr (O x m).1 (I x z)) (O x m).2.2⟩,by rw[← R];exact h7,?_⟩
    have:=ih Us (ae M (jv Y)) (λl' T X=>ht l' T (Q T X)) (λl' T X=>he l' T (Q T X)) F' _ s'' V h9 C
    exact this.move (bC.refl _ _) (by rw[R];exact Vle.refl _)
   ·rw[t] at h;cases h.1
inductive Gu(W:Wc)(n':Nat)(tgt:Expr)(Θ:List Ty->Prop)(H:List Addr)(s:Shared)(it:Value)(s₂:Shared):Prop
 | mk (F:Fp) (P:List Addr) (Ts:List Ty) (t:Θ Ts) (g:G W s₂) (k:aF s s₂) (x:Ext s ⟨[],[]⟩ F) (b:InB W F s₂) (hP:∀p∈P,p<s.heap.objs.size) (i:It W n' tgt it P Ts F (H++F.a) s₂) (self:xX W n' it F s₂) (ob:∃a o,it = .ref a/\s₂.heap.get? a=some o/\o.cls = .type "generator" /\ a∈F.a)
def iq(W:Wc)(C:Cx)(Γ:Kn)(n:Nat)(n':Nat)(tgt:Expr)(e:Expr)(Θ:List Ty->Prop):Prop :=
 ∀A env O M s,aU W A n->Inv W C env Γ O M s->wpAny (model prg W.w) A (eval e env) (Gu W n' tgt Θ (O++M.a) s) Nev s
structure AA(C:Cx)(Γ:Kn)(scope:Scope)(Cg:Cx)(σ:List (Option Ty)):Prop where
 code:Cg.code=none
 sc:Cg.scope=scope
 cx:yM Cg
 own:Cg.own=[]
 co:scope.isCoroutine=false
 nocell:∀y∈scope.names,y.2≠.cell
 d0:scope.names.lookup (".0" : Str)=some NameKind.local
 nd:(scope.names.map (·.1)).Nodup
 free:∀x,(x,NameKind.free)∈scope.names->(∃(j:Nat) (T:Ty),C.names[j]? = some x/\Γ.v[j]? = some (some T))/\C.scope.names.lookup x≠some .local
 ty:∀(i:Nat) (x:Str) (T:Ty),Cg.names[i]? = some x->σ[i]? = some (some T)->(x,NameKind.free)∈scope.names/\∃(j:Nat),C.names[j]? = some x/\Γ.v[j]? = some (some T)
structure EU(W:Wc)(n:Nat)(Cg:Cx)(σ:List (Option Ty))(ge tgt:Expr){ι:Type}(f:ι->Ty)(l:List ι)(it:Value)(genv env:Env)(a L:Addr)(g:Nat)(P:List Addr)(F₀:Fp)(O:List Addr)(s s':Shared):Prop where
 gS:y8 Cg genv L
 gc:y7 W n Cg σ ge it genv a L g P F₀ (O++(geF a L g F₀).a) s'
 gi:It W n tgt it [] (l.map f) F₀ (O++(geF a L g F₀).a) s'
 gg:G W s'
 gk:aF s s'
 gx:Ext s ⟨[],[]⟩ (geF a L g F₀)
 gp:∀p∈P,p<s.heap.objs.size/\∃y,env.cells.lookup y=some p
 gob:∃o,s'.heap.get? a=some o/\o.cls = .type "generator"
inductive Eg{ι:Type}(W:Wc)(n:Nat)(Cg:Cx)(σ:List (Option Ty))(ge tgt:Expr)(f:ι->Ty)(Ψ:List ι->Prop)(env:Env)(H:List Addr)(s:Shared)(v:Value)(s':Shared):Prop
 | mk (l:List ι) (it:Value) (genv:Env) (a L:Addr) (g:Nat) (P:List Addr) (F₀:Fp) (e:v = .ref a) (h:Ψ l) (N:EU W n Cg σ ge tgt f l it genv env a L g P F₀ H s s')
theorem xY{ι:Type}(Ψ:List ι->Prop){c P:Addr}(f:ι->Ty)(E:AA C Γ scope Cg σ)(b1:C.code=some (.ref c))(c3:(c,P)∈W.tabs)(hit:io W C Γ n tgt iter (λTs=>∃l,Ψ l/\Ts=l.map f))(hs:∀env x,genFold iter env x=pure x){A env O M s}(rm:aU W A n)(I:Inv W C env Γ O M s):wpAny (model prg W.w) A (eval (.GeneratorExp elt [⟨tgt,iter,ifs,0⟩] scope pos) env) (Eg W n Cg σ (.GeneratorExp elt [⟨tgt,iter,ifs,0⟩] scope pos) tgt f Ψ env (O++M.a) s) Nev s:=by
 refine bc I.loc λm hn hl=>?_
 have fr:∀x,(x,NameKind.free)∈scope.names->∃c,env.cells.lookup x=some c:=λx X=>by
  refine ck (E.free x X) λl1 h3=>?_
  obtain⟨j,T,Z,h2⟩:=l1
  refine bc (hl j x T Z h2) λv sl d=>?_
  rcases sl with⟨h,d⟩ | ⟨d,c,hc,d⟩
  ·exact absurd h h3
  ·exact⟨c,hc⟩
 have hk:scope.kind = .function:=by rw[← E.sc];exact E.cx.kind
 have Q:∀x c,(x,c)∈ft env scope.names []->(x,NameKind.free)∈scope.names/\env.cells.lookup x=some c:=λx c h=>(te fr h).elim nM id
 have a6:∀x c,env.cells.lookup x=some c->c<s.heap.objs.size:=λx c h=>(I.cells x c h).elim λd hv=>hv.lt
 refine(eval_GeneratorExp1 _ _ _ _ _ _ _ E.co) ▸ ?_;refine(Ah fr) ▸ ?_
 refine aa (ad (hit A env O M s rm I) (λxv s₁ d8=>?_) az)
 refine aa (ct ?_)
 refine aa (bR (hs env xv) ?_)
 refine aa (aP (ad d8 (λit s₂ f0=>?_) az))
 obtain⟨F₀,d,⟨l,h7,rfl⟩,a2,f5,a3,U,b3,self⟩:=f0
 refine aa (wpAny_enterFrame a2.noLimit (by have:=rm.depth;exact ae (aX (aW _ _) 1) this) ?_)
 refine aa (ac ?_)
 refine aa (Az a2 (I.ok.code _ b1) c3 λcv q H z=>?_)
 refine I.ok.glob ▸ ?_;refine I.ok.bui ▸ ?_
 refine aa (CH H.kin ?_)
 have t:=f5.trans z
 have Y:∀x c,(x,c)∈ft env scope.names []->c<q.heap.objs.size:=λx c h=>aA (a6 x c (Q x c h).2) t.siz
 have nc:∀x,(x,NameKind.cell)∉scope.names:=λx h=>E.nocell _ h rfl
 refine aa (um hk Y (uD I.ok.apart (λx c h=>mem_of_lookup (Q x c h).2) (sw _ _ E.nd gb (λd d h=>by simp at h))) (λx X=>by
   rcases aC.mp X with rfl | X
   ·exact .inl E.d0
   ·cases X) (λx c h hc=>nc x (mem_of_lookup hc)) λgenv h' tk u N=>?_)
 have B:∀x,genv.cells.lookup x=(ft env scope.names []).lookup x:=λx=>by subst u;exact iW _ _ _ _ (nc x)
 have b2:genv.locals=q.heap.objs.size:=by subst u;rfl
 have l2:genv.frame=some q.heap.objs.size:=by subst u;rfl
 have f2:genv.scope=scope:=by subst u;rfl
 have d9:∀x c,genv.cells.lookup x=some c->(x,NameKind.free)∈scope.names/\env.cells.lookup x=some c:=λx c h=>Q x c (mem_of_lookup (by rw[← B];exact h))
 have b6:∀x,(x,NameKind.free)∈scope.names->genv.cells.lookup x=env.cells.lookup x:=λx X=>(B x).trans (qH fr X)
 have S:y8 Cg genv q.heap.objs.size:=⟨⟨E.cx,f2.trans E.sc.symm,by subst u;rfl,by subst u;rfl,N.apart,λx X=>(by rw[E.own] at X;cases X),λv hv=>(by rw[E.code] at hv;cases hv)⟩,E.own,b2,l2,by rw[f2];exact E.co⟩
 have h8:∀(r:Shared) (t1 t2:Tok),r.heap=h'.push { cls:=.type "generator",data:=.fields #[.int q.gens.size 0,.str "<genexpr>" t1,.str (env.qual ++ "<genexpr>") t2] }->r.gens=q.gens.push (.fresh (.compStart (.GeneratorExp elt [⟨tgt,iter,ifs,0⟩] scope pos) 0 it .none genv))->r.os=q.os ->
   Eg W n Cg σ (.GeneratorExp elt [⟨tgt,iter,ifs,0⟩] scope pos) tgt f Ψ env (O++M.a) s (.ref h'.objs.size) r:=λr t1 t2 e1 e2 e3=>by
  have a1:∀b o,q.heap.get? b=some o->r.heap.get? b=some o:=λb o J=>by rw[e1];exact aV _ (N.keep b o J)
  have f1:∀b o,h'.get? b=some o->r.heap.get? b=some o:=λb o J=>by rw[e1];exact aV _ J
  have hsz:r.heap.objs.size=h'.objs.size+1:=by rw[e1,bi]
  have hL:q.heap.objs.size<h'.objs.size:=N.siz
  have V:q.heap.objs.size<=r.heap.objs.size:=hsz▸iO (cQ hL)
  have gsz:r.gens.size=q.gens.size+1:=by rw[e2,Array.size_push]
  have e0:G W r:=H.fr (λb o d J=>a1 b o J) V (λy hy=>by
    rw[e2] at hy
    rcases Array.mem_push.mp hy with h | h
    ·exact H.bare y h
    ·rw[h];rfl) e3 (λL o m d h3 h4=>⟨o,m,a1 L o h3,h4.keeps a1,rfl⟩)
  have R:aF q r:=dp (λb o d J=>a1 b o J) (λw x d J=>by
    rw[e2,Array.getElem?_push,bj (by have:=(lE.mp J).1;exact lD this)];exact J) V (by rw[gsz];exact aW _ _)
  have kp:aF s r:=t.trans R
  have ha:r.heap.get? h'.objs.size=some { cls:=.type "generator",data:=.fields #[.int q.gens.size 0,.str "<genexpr>" t1,.str (env.qual ++ "<genexpr>") t2] }:=by rw[e1];exact bf _ rfl
  have b5:∀b∈F₀.a,s.heap.objs.size<=b:=λb m=>(a3.a b m).elim (λh=>absurd h av) id
  have D:∀b∈F₀.a,b<q.heap.objs.size:=λb m=>aA (U.a b m).2 z.siz
  have c7:∀b∈F₀.g,b<q.gens.size:=λb m=>aA (U.g b m) z.gsz
  have xF:Ext s ⟨[],[]⟩ (geF h'.objs.size q.heap.objs.size q.gens.size F₀):=⟨λb m=>.inr (by
   rcases aC.mp m with e | m
   ·rw[e];exact ae t.siz (cQ hL)
   ·rcases aC.mp m with e | m
    ·rw[e];exact t.siz
    ·exact b5 b m),λb m=>.inr (by
   rcases aC.mp m with e | m
   ·rw[e];exact t.gsz
   ·exact(a3.g b m).elim (λh=>absurd h av) id)⟩
  have bF:InB W (geF h'.objs.size q.heap.objs.size q.gens.size F₀) r:=⟨λb m=>by
   rcases aC.mp m with e | m
   ·rw[e,hsz];exact⟨ae H.siz (cQ hL),dR _⟩
   ·rcases aC.mp m with e | m
    ·rw[e,hsz];exact⟨H.siz,fQ hL⟩
    ·exact⟨(U.a b m).1,aA (D b m) V⟩,λb m=>by
   rcases aC.mp m with e | m
   ·rw[e,gsz];exact dR _
   ·rw[gsz];exact fQ (c7 b m)⟩
  have a4:bC F₀ s₂ r:=(z.stays (λd d=>av) (λd d=>av)).trans (R.stays (λd d=>av) (λd d=>av))
  have f3:∀x c₁,genv.cells.lookup x=some c₁->c₁<s.heap.objs.size:=λx c₁ h=>a6 x c₁ (d9 x c₁ h).2
  have vO:∀{F:List Addr},(∀b∈F,s.heap.objs.size<=b)->Vle (am s.heap (O++M.a)) (am r.heap ((O++M.a)++F)):=λhF a o J hn=>by
   have Z:=af J
   refine aK (kp.obj' Z hn) λm=>?_
   rcases aj.mp m with m | m
   ·exact a8 J m
   ·exact aw.mpr (hF a m) (aO Z)
  have c4:∀b∈(geF h'.objs.size q.heap.objs.size q.gens.size F₀).a,s.heap.objs.size<=b:=λb m=>(xF.a b m).elim (λh=>absurd h av) id
  refine⟨l,it,genv,h'.objs.size,q.heap.objs.size,q.gens.size,(ft env scope.names []).map (·.2),F₀,rfl,h7,S,?_,?_,e0,kp,xF,λp hp=>?_,_,ha,rfl⟩
  ·refine⟨⟨_,_,_,ha,rfl,rfl,rfl⟩,⟨_,by rw[e2];exact Array.getElem?_push_size ..,.inl ⟨rfl,λk A' s' H' k1 k3 i2=>self k A' s' H' k1 k3 (a4.trans i2)⟩⟩,?_,λi x T hi hT=>?_,λx c₁ h=>⟨?_,λm=>?_,?_⟩,⟨cE hL,λm=>Nat.lt_asymm hL (D _ m),λm=>bz _ (D _ m),λm=>bz _ (c7 _ m)⟩,λb m=>al _ m,bF⟩
   ·refine i9 N.cls λo es ep q1 q2 q3=>?_
    rw[b2] at q1
    have hn:=N.ns
    rw[b2] at hn
    exact⟨_,o,f1 _ _ q1,hn.keeps f1,q3⟩
   ·refine ck (E.ty i x T hi hT) λhf c6=>?_
    refine bc c6 λj Z h2=>?_
    have k2:Cg.scope.names.lookup x=some .free:=by
     refine bc (mj hf) λd h5 h6=>?_
     rw[E.sc,h5,jl E.nd h6 hf]
    refine bc (hl j x T Z h2) λv sl i1=>?_
    refine⟨k2,?_⟩
    rcases sl with⟨h,d⟩ | ⟨d,c₁,hc,b4⟩
    ·exact absurd h (E.free x hf).2
    ·exact⟨c₁,v,(b6 x hf).trans hc,jh kp b4,T.mono (vO c4) i1⟩
   ·have:=mem_of_lookup (by rw[← B];exact h:(ft env scope.names []).lookup x=some c₁)
    exact cj (f:=(·.2)) this
   ·exact aw.mpr (c4 c₁ m) (f3 x c₁ h)
   ·refine dK (I.cells x c₁ (d9 x c₁ h).2) λv hv=>?_
    exact⟨v,jh kp hv⟩
  ·refine b3.move a4 cW λa o J hn=>?_
   have c5:=a8 J
   have Z:=af J
   have g2:=aO Z
   refine aK (R.obj' (z.obj' Z hn) hn) λm=>?_
   rcases aj.mp m with m | m
   ·exact c5 (aq _ m)
   ·have K:a<q.heap.objs.size:=aA g2 z.siz
    rcases aC.mp m with e | m
    ·rw[e] at K;exact Nat.lt_asymm K hL
    ·rcases aC.mp m with e | m
     ·rw[e] at K;exact bz _ K
     ·exact c5 (al _ m)
  ·refine bc (a9.mp hp) λy hy k5=>?_
   obtain rfl:=k5
   exact⟨a6 y.1 y.2 (Q y.1 y.2 hy).2,y.1,(Q y.1 y.2 hy).2⟩
 refine aa (wpAny_newGen (aa (wpAny_mkText (aa (wpAny_mkText (dQ ?_ (by size_fits)))))))
 exact h8 _ _ _ rfl rfl rfl
theorem EV{ι:Type}{tgt':Expr}(Ψ:List ι->Prop){c P:Addr}(f e:ι->Ty)(q:ι->Bool)(u:ι->Kn->Kn)(w:∀l' T,j1 (W.at l') Cg n tgt (f T) (u T))(y:∀T (j:Nat) (U:Ty),σ[j]? = some (some U)->(u T ⟨σ,[]⟩).v[j]? = some (some U))(K:∀T,(u T ⟨σ,[]⟩).h=[])(D:AA C Γ scope Cg σ)(d:C.code=some (.ref c))(m:(c,P)∈W.tabs)(hit:io W C Γ n tgt iter (λTs=>∃l,Ψ l/\Ts=l.map f))(F:∀l,Ψ l->∀l' T,T∈l->ip (W.at l') Cg (u T ⟨σ,[]⟩) n ifs (q T))(r:∀l,Ψ l->∀l' T,T∈l->q T=true->EvP (W.at l') Cg (u T ⟨σ,[]⟩) n elt (e T))(hs:∀env x,genFold iter env x=pure x):iq W C Γ n (n+2) tgt' (.GeneratorExp elt [⟨tgt,iter,ifs,0⟩] scope pos) (λTs=>∃l,Ψ l/\Ts=(l.filter q).map e):=λA env O M s R I =>
 ad (xY Ψ f D d m hit hs R I) (λv i h=>by
  obtain⟨l,it,genv,a,L,g,P,F₀,rfl,b,N⟩:=h
  refine bc N.gob λo J z=>?_
  exact⟨geF a L g F₀,P,_,⟨l,b,rfl⟩,N.gg,N.gk,N.gx,N.gc.bnd,λp E=>(N.gp p E).1,ET (tgt':=tgt') N.gS f e q u w y K (l.length+1) l (dR _) (F l b) (r l b) F₀ _ i N.gc N.gi,
   λk V s' H' Q B t=>wpAny_pyIter_gen (i0 N.gc.gen λo r H=>t.a _ (.head _) o r H) ⟨rfl,rfl⟩,a,o,rfl,J,z,.head _⟩) az
noncomputable abbrev nmT:Expr:=.Name "x" ⟨0,0,0,0⟩
section
variable {P:List Addr}
theorem ra{b:Type}{m:Sem b}{Q':Unit->Shared->Prop}{R:b->Shared->Prop}(c:wpAny (model prg W.w) A (letOwnedTupleGo nmT it v) Q' Nev s)(h:∀s₂,Q' () s₂->wpAny (model prg W.w) A m R E s₂):wpAny (model prg W.w) A m R E s:=by
 refine(?_:wpAny _ A (letOwnedTupleGo nmT it v >>= λd=>m) R E s)
 exact aa (ad c (λd s₂ a=>h s₂ a) az)
structure Cur(W:Wc)(n:Nat)(it:Value)(P X:List Addr)(s₀:Shared)(F₀:Fp)(Ts:List Ty)(F:Fp)(H:List Addr)(s:Shared):Prop where
 go:GO W H s
 sub:∀a∈F.a,a∈H
 inb:InB W F s
 itr:It W n nmT it P Ts F H s
 kx:ak ⟨F₀.a++X,F₀.g⟩ s₀ s
 ext:Ext s₀ F₀ F
 dis:∀x∈X,x∈H/\x∉F.a/\x∉P
inductive Hs(W:Wc)(n:Nat)(it:Value)(P X:List Addr)(s₀:Shared)(F₀:Fp)(T:Ty)(Ts:List Ty)(H:List Addr)(s:Shared)(v:Value)(s₂:Shared):Prop
 | mk (F':Fp) (H':List Addr) (c:Cur W n it P X s₀ F₀ Ts F' H' s₂) (t:T.p (am s₂.heap H') v) (hX:∀x∈X,∀o,s.heap.get? x=some o->nt o=true->s₂.heap.get? x=some o) (vl:Vle (am s.heap H) (am s₂.heap H')) (sub:∀a∈H,a∈H')
inductive Ht(W:Wc)(X:List Addr)(s₀:Shared)(F₀:Fp)(H:List Addr)(s:Shared)(r:Option Value)(s₂:Shared):Prop
 | mk (e:r=none) (g:G W s₂) (k:ak ⟨F₀.a++X,F₀.g⟩ s₀ s₂) (hX:∀x∈X,∀o,s.heap.get? x=some o->nt o=true->s₂.heap.get? x=some o) (vl:Vle (am s.heap H) (am s₂.heap H))
theorem Cur.next(c:Cur W n it P X s₀ F₀ (T::Ts) F H s)(B:aU W A n):wpAny (model prg W.w) A (pyNext it) (λr s₁=>∃v,r=some v/\wpAny (model prg W.w) A (letOwnedTupleGo nmT it v) (λC=>Hs W n it P X s₀ F₀ T Ts H s v) Nev s₁) Nev s:=by
 refine ad (c.itr W.frs A s H B c.go (bC.refl _ _) (bC.refl _ _) c.sub (Vle.refl _)) (λr s₁ h=>?_) az
 obtain⟨v,rfl,h⟩:=h
 refine⟨v,rfl,ad h (λC s₂ k=>?_) az⟩
 obtain⟨F',j,b,d,f,y,hit⟩:=k
 have t:Ext s₀ ⟨F₀.a++X,F₀.g⟩ F:=⟨λa m=>(c.ext.a a m).imp (λh=>aq _ h) id,c.ext.g⟩
 refine⟨F',H++F'.a,⟨⟨j,λa m=>?_,c.go.top⟩,λa m=>al _ m,f,hit,c.kx.of_ext t b,c.ext.trans d c.kx.siz c.kx.gsz,λx p=>?_⟩,y,λx p o u l=>b.obj x o (c.dis x p).2.1 u l,λa o e l=>?_,λa m=>aq _ m⟩
 ·rcases aj.mp m with m | m
  ·exact⟨(c.go.ok a m).1,aA (c.go.ok a m).2 b.siz⟩
  ·exact f.a a m
 ·obtain⟨i,q,z⟩:=c.dis x p
  exact⟨aq _ i,λm=>(d.a x m).elim q λh=>aw.mpr h (c.go.ok x i).2,z⟩
 ·have i:=a8 e
  refine aK (b.obj a o (λm=>i (c.sub a m)) (af e) l) λm=>?_
  rcases aj.mp m with m | m
  ·exact i m
  ·exact(d.a a m).elim (λh=>i (c.sub a h)) λh=>aw.mpr h (aO (af e))
theorem Cur.stop(c:Cur W n it P X s₀ F₀ [] F H s)(l:aU W A n):wpAny (model prg W.w) A (pyNext it) (Ht W X s₀ F₀ H s) Nev s:=by
 refine ad (c.itr W.frs A s H l c.go (bC.refl _ _) (bC.refl _ _) c.sub (Vle.refl _)) (λr s₂ h=>?_) az
 obtain⟨rfl,d,b⟩:=h
 have k:Ext s₀ ⟨F₀.a++X,F₀.g⟩ F:=⟨λa m=>(c.ext.a a m).imp (λh=>aq _ h) id,c.ext.g⟩
 exact⟨rfl,d,c.kx.of_ext k b,λx j o i f=>b.obj x o (c.dis x j).2.1 i f,λa o e f=>aK (b.obj a o (λm=>a8 e (c.sub a m)) (af e) f) (a8 e)⟩
theorem Cur.own(c:Cur W n it P X s₀ F₀ Ts F H s)(k:ak ⟨X,[]⟩ s s')(g:G W s'):Cur W n it P X s₀ F₀ Ts F H s':=by
 have d:Vle (am s.heap H) (am s'.heap H):=λa o e f=>aK (k.obj a o (λm=>a8 e (c.dis a m).1) (af e) f) (a8 e)
 refine⟨⟨g,λa m=>⟨(c.go.ok a m).1,aA (c.go.ok a m).2 k.siz⟩,c.go.top⟩,c.sub,⟨λa m=>⟨(c.inb.a a m).1,aA (c.inb.a a m).2 k.siz⟩,λa m=>aA (c.inb.g a m) k.gsz⟩,
  c.itr.move (k.stays (λa m b=>(c.dis a b).2.1 m) (λh h=>av)) (k.stays (F:=⟨P,[]⟩) (λa m b=>(c.dis a b).2.2 m) (λh m=>absurd m av)) d,c.kx.trans (bK k (λa m=>al _ m) (λh m=>absurd m av)),c.ext,c.dis⟩
structure Src(W:Wc)(n:Nat)(it:Value)(P:List Addr)(Ts:List Ty)(F:Fp)(H:List Addr)(s:Shared):Prop where
 itr:It W n nmT it P Ts F H s
 sub:∀a∈F.a,a∈H
 inb:InB W F s
theorem Src.cur(c:Src W n it P Ts F H s)(a:GO W H s):Cur W n it P [] s F Ts F H s :=
 ⟨a,c.sub,c.inb,c.itr,ak.refl _ _,Ext.refl _ _,λb m=>absurd m av⟩
theorem uS(l:List Int):(∀z∈l,0<=z)->0<=l.sum:=by
 induction l with
 | nil =>
  intro a
  simp
 | cons z l ih =>
  intro h
  have:=ih λy m=>h y (.tail _ m)
  have:=h z (.head _)
  rw[mZ];exact Int.add_nonneg this ‹_›
theorem tF(k:ak ⟨F₀.a++[],F₀.g⟩ s s'):ak F₀ s s':=by
 have:(⟨F₀.a++[],F₀.g⟩:Fp)=F₀:=by cases F₀;simp
 rw[this] at k;exact k
theorem AB(i:aU W A (n+1)):∀(bs:List Bool) (f:Fp) (H:List Addr) (s:Shared),Cur W n it P [] s₀ F₀ (bs.map aG) f H s ->
  codeAny (model prg W.w) A (.builtin "all.loop" ⟨[it],[]⟩) (λr s'=>r = .ok (.ret (.bool (bs.all id)))/\G W s'/\ak F₀ s₀ s') s:=by
 intro bs
 induction bs with
 | nil =>
  intro f H s c
  refine cM F.entry_all_loop ?_
  refine(?_:wpAny _ A.in1 (pyNext it >>= _) _ _ s)
  refine aa (ad (c.stop i.in1) (λr s₂ h=>?_) λj j e=>False.elim e)
  obtain⟨rfl,g,k,j⟩:=h
  exact aa (da (ac ⟨rfl,g,tF k⟩))
 | cons b bs ih =>
  intro f H s c
  refine cM F.entry_all_loop ?_
  refine(?_:wpAny _ A.in1 (pyNext it >>= _) _ _ s)
  refine aa (ad (c.next i.in1) (λr s₁ h=>?_) λj j e=>False.elim e)
  obtain⟨v,rfl,h⟩:=h
  refine ra h λs₂ a=>?_
  obtain⟨F',H',c',d,j⟩:=a
  have d:v = .bool b:=d
  subst d
  show wpAny _ A.in1 (do
   let yes ← holding [Value.bool b] (truthy (.bool b))
   letGo [Value.bool b]
   if yes then again (.builtin "all.loop" ⟨[it],[]⟩) else rule "all.false-item";ret (.bool false)) _ _ _
  refine aa (aP (gW ?_))
  refine aa (kP ?_)
  cases b with
  | true=>exact ac ⟨eD F.plain_all_loop _,ih F' H' s₂ c'⟩
  | false=>exact aa (da (ac ⟨rfl,c'.go.g,tF c'.kx⟩))
theorem AC(i:aU W A (n+1)):∀(bs:List Bool) (f:Fp) (H:List Addr) (s:Shared),Cur W n it P [] s₀ F₀ (bs.map aG) f H s ->
  codeAny (model prg W.w) A (.builtin "any.loop" ⟨[it],[]⟩) (λr s'=>r = .ok (.ret (.bool (bs.any id)))/\G W s'/\ak F₀ s₀ s') s:=by
 intro bs
 induction bs with
 | nil =>
  intro f H s c
  refine cM F.entry_any_loop ?_
  refine(?_:wpAny _ A.in1 (pyNext it >>= _) _ _ s)
  refine aa (ad (c.stop i.in1) (λr s₂ h=>?_) λj j e=>False.elim e)
  obtain⟨rfl,g,k,j⟩:=h
  exact aa (da (ac ⟨rfl,g,tF k⟩))
 | cons b bs ih =>
  intro f H s c
  refine cM F.entry_any_loop ?_
  refine(?_:wpAny _ A.in1 (pyNext it >>= _) _ _ s)
  refine aa (ad (c.next i.in1) (λr s₁ h=>?_) λj j e=>False.elim e)
  obtain⟨v,rfl,h⟩:=h
  refine ra h λs₂ a=>?_
  obtain⟨F',H',c',d,j⟩:=a
  have d:v = .bool b:=d
  subst d
  show wpAny _ A.in1 (do
   let yes ← holding [Value.bool b] (truthy (.bool b))
   letGo [Value.bool b]
   if yes then(do rule "any.true-item";ret (.bool true)) else again (.builtin "any.loop" ⟨[it],[]⟩)) _ _ _
  refine aa (aP (gW ?_))
  refine aa (kP ?_)
  cases b with
  | false=>exact ac ⟨eD F.plain_any_loop _,ih F' H' s₂ c'⟩
  | true=>exact aa (da (ac ⟨rfl,c'.go.g,tF c'.kx⟩))
theorem AD{S:Addr}(I:aU W A (n+1)):∀(ks:List Int) (acc:Int) (x:Tok) (cc:Nat) (E:Fp) (H:List Addr) (s:Shared),Cur W n it P [S] s₀ F₀ (ks.map bh) E H s->(∀z∈ks,0<=z)->0<=acc->acc+ks.sum<2 ^ 60 ->
  s.heap.get? S=some { cls:=.type "list",dict:=none,data:=.seq #[.int acc x] cc,slots:=#[] } ->
  codeAny (model prg W.w) A (.builtin "sum.loop" ⟨[it,.ref S,rawInt 0,rawInt 0],[]⟩) (λr s'=>(∃t,r = .ok (.ret (.int (acc+ks.sum) t)))/\G W s'/\ak ⟨F₀.a++[S],F₀.g⟩ s₀ s') s:=by
 intro ks
 induction ks with
 | nil =>
  intro acc x cc E H s c C f j B
  refine cM F.entry_sum_loop ?_
  refine(?_:wpAny _ A.in1 (seqItems? (.ref S) >>= _) _ _ s)
  refine aa (wpAny_seqItems B rfl ?_)
  refine(?_:wpAny _ A.in1 (tryCatch (pyNext it) _ >>= _) _ _ s)
  refine aa (mV (ad (c.stop I.in1) (λr s₂ h=>?_) λL L e=>False.elim e))
  obtain⟨rfl,g,k,L⟩:=h
  refine ac ⟨⟨x,?_⟩,g,k⟩
  rw[List.sum_nil,Int.add_zero];rfl
 | cons b ks ih =>
  intro acc x cc E H s c C f j B
  refine cM F.entry_sum_loop ?_
  refine(?_:wpAny _ A.in1 (seqItems? (.ref S) >>= _) _ _ s)
  refine aa (wpAny_seqItems B rfl ?_)
  refine(?_:wpAny _ A.in1 (tryCatch (pyNext it) _ >>= _) _ _ s)
  refine aa (mV (ad (c.next I.in1) (λr s₁ h=>?_) λL L e=>False.elim e))
  obtain⟨v,rfl,h⟩:=h
  refine ra h λs₂ y=>?_
  obtain⟨F',H',c',⟨t,rfl⟩,J,L⟩:=y
  have d:=J S (.head _) _ B rfl
  rw[mZ] at j
  have p:=C b (.head _)
  have i:0<=ks.sum:=uS ks λz m=>C z (.tail _ m)
  have K:((decide (-(2 ^ 63)<=b)&&decide (b<2 ^ 63))&&(decide (-(2 ^ 63)<=acc+b)&&decide (acc+b<2 ^ 63)))=true:=by
   simp only[Bool.and_eq_true,decide_eq_true_eq]
   exact⟨⟨jb (by decide) p,sS (jb (Int.le_add_of_nonneg_right i) (Int.le_add_of_nonneg_left f)) (Int.lt_trans j (by decide))⟩,jb (by decide) (Int.add_nonneg f p),sS (Int.le_add_of_nonneg_right i) (Int.lt_trans (Int.add_assoc acc b ks.sum▸j) (by decide))⟩
  show wpAny _ A.in1 (if(_:Bool)=true then(mkInt (acc+b) >>= _) else _) _ _ _
  split
  ·refine aa (wpAny_mkInt ?_)
   refine(?_:wpAny _ A.in1 (updateSeq S (λL=>#[.int (acc+b) s₂.toks]) >>= _) _ _ _)
   refine aa ?_
   have l:({ s₂ with toks:=s₂.toks+1 }:Shared).heap.get? S=some { cls:=.type "list",dict:=none,data:=.seq #[.int acc x] cc,slots:=#[] }:=d
   refine kR l rfl (ac ⟨eD F.plain_sum_loop _,?_⟩)
   have q:=dH s₂.heap S (Obj.mapSeq λL=>#[.int (acc+b) s₂.toks])
   have D:=c'.own (s':={ s₂ with heap:=s₂.heap.update S (Obj.mapSeq λL=>#[.int (acc+b) s₂.toks]),toks:=s₂.toks+1 })
    (dp (λb o j e=>(q.2 b (λz=>j (ah.mpr z))).trans e) (λL L L e=>e) (aH q.1.symm) (aB _)) (c'.go.g.upd (c'.go.ok S (c'.dis S (.head _)).1).1 q (.inl ⟨_,d,λL L=>nD⟩))
   have:=ih (acc+b) s₂.toks _ F' H' _ D (λz m=>C z (.tail _ m)) (Int.add_nonneg f p) (Int.add_assoc .. ▸ j) (et _ d rfl)
   refine bN this λr s' h=>?_
   rw[mZ,← Int.add_assoc]
   exact h
  ·rename_i u
   exact absurd K u
end
def rc(W:Wc)(n n':Nat)(fv:Value)(Θ:List Ty->Prop)(R:Ty):Prop :=
 ∀A O s it P F Ts,aU W A n->GO W O s->Θ Ts->Src W n' it P Ts F O s->xX W n' it F s->(∃a o,it = .ref a/\s.heap.get? a=some o/\o.cls = .type "generator" /\ a∈F.a)->(∀p∈P,p<s.heap.objs.size/\p∉F.a) ->
  wpAny (model prg W.w) A (call fv [it]) (λv s'=>G W s'/\ak F s s'/\R.p (am s'.heap O) v) Nev s
theorem i3(hf:EvP W C Γ n (.Name x p) (aE fv))(z:jp W fv)(B:iq W C Γ n n' nmT e Θ)(y:rc W n n' fv Θ R)(hs:autoParam (∀env,starEach [e] env=(false,eval e env)::starEach [] env) q_R):EvP W C Γ n (.Call (.Name x p) [e] [] pos) R:=λA env O M s q I=>by
 refine(?_:wpAny _ A (do callWith pos (← eval (.Name x p) env) [] (backTo pos (starEach [e] env)) (backToKw pos (keywordEach [] env))) _ _ s)
 refine aa (ad (hf A env O M s q I) (λv s₁ d=>?_) az)
 have D:v=fv:=d.2.2
 subst D
 have i:=d.then I
 rw[hs]
 refine dO (P:=KeP W v) rfl (λh p=>p) ?_
 refine bU (ns:=[]) rfl rfl ?_
 refine(?_:wpAny _ A (spliced ((false,eval e env)::backTo pos (starEach [] env))) _ _ s₁)
 refine je (ad (B A env O M s₁ q i) (λit s₂ l=>ac (ac ?_)) az)
 obtain⟨F,P,Ts,o,b,f,g,j,w,hit,self,obj⟩:=l
 refine⟨z s₂ b,?_⟩
 have k:=i.keep f b
 have E:∀a∈F.a,s₁.heap.objs.size<=a:=λa m=>(g.a a m).elim (λh=>absurd h av) id
 have H:GO W ((O++M.a)++F.a) s₂:=⟨b,λa m=>(aj.mp m).elim (λm=>k.up a m) λm=>j.a a m,k.go.top⟩
 refine ad (y A _ s₂ it P F Ts q H o ⟨hit,λa m=>al _ m,j⟩ self obj λp u=>⟨aA (w p u) f.siz,λm=>aw.mpr (E p m) (w p u)⟩) (λr t c=>?_) az
 exact⟨c.1,d.2.1.trans (f.of_ext g c.2.1),R.mono (bG λa m=>aq _ m) c.2.2⟩
theorem AE{bs:List Bool}(c:n'<=n):rc W (n+1) n' (.builtin "all") (λTs=>Ts=bs.map aG) (aG (bs.all id)):=λA O s it P F₀ Ts e d b src self f f=>by
 subst b
 refine kS F.kind_all F.plain_all F.entry_all (F.args_all1 _) ?_
 refine aa (m:=oneArg "all" _) (ac ?_)
 refine aa (ad (self W.frs A.in1 s O (e.in1.le c) d (bC.refl _ _)) (λv s₂ a=>?_) az)
 obtain⟨rfl,rfl⟩:=a
 refine ac ⟨eD F.plain_all_loop _,bN (AB (n:=n') (e.le (aX c 1)) bs F₀ O s₂ (src.cur d)) λr s' h=>?_⟩
 obtain⟨rfl,g,k⟩:=h
 exact⟨g,k,rfl⟩
theorem AF{bs:List Bool}(c:n'<=n):rc W (n+1) n' (.builtin "any") (λTs=>Ts=bs.map aG) (aG (bs.any id)):=λA O s it P F₀ Ts e d b src self f f=>by
 subst b
 refine kS F.kind_any F.plain_any F.entry_any (F.args_any1 _) ?_
 refine aa (m:=oneArg "any" _) (ac ?_)
 refine aa (ad (self W.frs A.in1 s O (e.in1.le c) d (bC.refl _ _)) (λv s₂ a=>?_) az)
 obtain⟨rfl,rfl⟩:=a
 refine ac ⟨eD F.plain_any_loop _,bN (AC (n:=n') (e.le (aX c 1)) bs F₀ O s₂ (src.cur d)) λr s' h=>?_⟩
 obtain⟨rfl,g,k⟩:=h
 exact⟨g,k,rfl⟩
theorem Src.cur1{P:List Addr}(src:Src W n it P Ts F₀ O s)(b:GO W O s)(h:∀p∈P,p<s.heap.objs.size)(o:Obj)(tk:Nat):
  Cur W n it P [s.heap.objs.size] { s with heap:=s.heap.push o,toks:=tk } F₀ Ts F₀ (O++[s.heap.objs.size]) { s with heap:=s.heap.push o,toks:=tk }:=by
 obtain⟨g',c,k⟩:=bJ b o tk
 have i:s.heap.objs.size∉F₀.a:=λm=>bz _ (src.inb.a _ m).2
 refine⟨⟨g',λa m=>?_,b.top⟩,λa m=>aq _ (src.sub a m),⟨λa m=>⟨(src.inb.a a m).1,aA (src.inb.a a m).2 c.siz⟩,λa m=>src.inb.g a m⟩,src.itr.move (c.stays (λl l=>av) (λl l=>av)) (c.stays (λl l=>av) (λl l=>av)) (λa j e f=>aK (c.obj' (af e) f) λm=>?_),ak.refl _ _,Ext.refl _ _,λx d=>?_⟩
 ·rcases aj.mp m with m | m
  ·exact⟨(b.ok a m).1,aA (b.ok a m).2 c.siz⟩
  ·exact(ah.mp m)▸(⟨b.g.siz,by show _<(s.heap.push o).objs.size;rw[bi];exact dR _⟩)
 ·rcases aj.mp m with m | m
  ·exact a8 e m
  ·have:=aO (af e);rw[ah.mp m] at this;exact bz _ this
 ·rw[ah.mp d]
  exact⟨al _ (.head _),i,λm=>bz _ (h _ m)⟩
theorem uT{Ψ:List Int->Prop}(l:n'<=n)(e:∀zs,Ψ zs->(∀z∈zs,0<=z)/\zs.sum=z)(q:z<2 ^ 60):rc W (n+1) n' (.builtin "sum") (λTs=>∃zs,Ψ zs/\Ts=zs.map bh) (bh z):=λA O s it P F₀ Ts o i f src self r x=>by
 obtain⟨zs,hz,rfl⟩:=f
 obtain⟨j,c⟩:=e zs hz
 refine kS F.kind_sum F.plain_sum F.entry_sum (F.args_sum1 _) ?_
 refine aa (bR (show Builtin.Builtins.bindParams "sum" ["start"] 0 { }=pure [none] from rfl) ?_)
 refine aa (ad (self W.frs A.in1 s O (o.in1.le l) i (bC.refl _ _)) (λv s₂ d=>?_) az)
 obtain⟨rfl,rfl⟩:=d
 refine aa (wpAny_mkInt ?_)
 refine aa (ac ?_)
 refine aa (aa (aa (eQ (T := "int") (b:=false) (g4 _ _ _) PySem.sub_int_str ?_)))
 refine ifN rfl ?_
 refine ac (aa (aa (eQ (T := "int") (b:=false) (g4 _ _ _) sub_int_bytes ?_)))
 refine ifN rfl ?_
 refine ac (aa (aa (eQ (T := "int") (b:=false) (g4 _ _ _) sub_int_bytearray ?_)))
 refine ifN rfl ?_
 refine ac (ac ?_)
 refine aa (dQ ?_ (cL rfl))
 have w:=src.cur1 i (λp y=>(x p y).1) { cls:=.type "list",dict:=none,data:=.seq #[.int 0 s₂.toks],slots:=#[] } (s₂.toks+1)
 refine ac ⟨eD F.plain_sum_loop _,bN (AD (n:=n') (o.le (aX l 1)) zs 0 s₂.toks 0 F₀ _ _ w j (Int.le_refl _) (by rw[Int.zero_add,c];exact q) (bf _ rfl)) λr s' h=>?_⟩
 obtain⟨⟨t,rfl⟩,g,k⟩:=h
 rw[Int.zero_add,c]
 refine⟨g,?_,t,rfl⟩
 obtain⟨r,u,r⟩:=bJ i { cls:=.type "list",dict:=none,data:=.seq #[.int 0 s₂.toks],slots:=#[] } (s₂.toks+1)
 refine ak.of_ext (M':=⟨F₀.a++[s₂.heap.objs.size],F₀.g⟩) (ak.ofK u) ⟨λa m=>?_,λr=>.inl⟩ k
 rcases aj.mp m with m | m
 ·exact .inl m
 ·exact .inr (by rw[ah.mp m];exact aB _)
section
variable {P:List Addr}
theorem lh{d:Data}{led l}(h:eI led l d):nt { o with data:=d }=true:=mn (o:={ o with data:=d }) h
inductive Hu(W:Wc)(F₀:Fp)(S:Addr)(s₀:Shared)(o:Obj)(l:List Nat)(r:Result)(s':Shared):Prop
 | mk (e:r = .ok (.ret .none)) (g:G W s') (k:ak ⟨F₀.a++[S],F₀.g⟩ s₀ s') (d':Data) (h:s'.heap.get? S=some { o with data:=d' }) (hd:eI (ld W) l d')
theorem uU{S:Addr}(D:aU W A (n+1)):∀(ks l:List Nat) (d:Data) (B:Fp) (H:List Addr) (s:Shared),Cur W n it P [S] s₀ F₀ (ks.map ag) B H s->(∀k∈ks,k<4) ->
  s.heap.get? S=some { o with data:=d }->eI (ld W) l d ->
  codeAny (model prg W.w) A (.builtin "set.update.loop" ⟨[.ref S,it],[]⟩) (Hu W F₀ S s₀ o (uni l ks)) s:=by
 intro ks
 induction ks with
 | nil =>
  intro l d B H s c q u hd
  refine cM F.entry_set_update_loop ?_
  refine(?_:wpAny _ A.in1 (pyNext it >>= _) _ _ s)
  refine aa (ad (c.stop D.in1) (λr s₂ h=>?_) λr r e=>False.elim e)
  obtain⟨rfl,g,k,x,r⟩:=h
  exact ac ⟨rfl,g,k,d,x S (.head _) _ u (lh hd),by rw[pH hd.sub];exact hd⟩
 | cons j ks ih =>
  intro l d B H s c q u hd
  refine cM F.entry_set_update_loop ?_
  refine(?_:wpAny _ A.in1 (pyNext it >>= _) _ _ s)
  refine aa (ad (c.next D.in1) (λr s₁ h=>?_) λr r e=>False.elim e)
  obtain⟨v,rfl,h⟩:=h
  refine ra h λs₂ i=>?_
  obtain⟨F',H',c',⟨t,rfl⟩,x,r⟩:=i
  have a:=x S (.head _) _ u (lh hd)
  have J:=q j (.head _)
  refine(?_:wpAny _ A.in1 (holding [Value.int (j:Int) t] (setAdd S (.int (j:Int) t)) >>= _) _ _ s₂)
  refine aa (aP ?_)
  refine aP ?_
  refine aa ((intKind prg W.w).pyHash (k:=(j:Int)) (eN _ _ _ _) ?_)
  refine nI (s:={ s₂ with toks:=s₂.toks+1 }) (o:={ o with data:=d }) J hd a λb h' I f C p=>?_
  have g':G W { s₂ with heap:=h',toks:=s₂.toks+1 }:=c'.go.g.upd (c'.go.ok S (c'.dis S (.head _)).1).1 f (.inl ⟨_,a,j9 (o:={ o with data:=d }) hd⟩)
  have y:=c'.own (s':={ s₂ with heap:=h',toks:=s₂.toks+1 }) (dp (λb o E e=>(f.2 b (λz=>E (ah.mpr z))).trans e) (λr r r e=>e) (aH f.1.symm) (aB _)) g'
  refine ac ⟨eD F.plain_set_update_loop _,bN (ih (ins j l) I F' H' _ y (λk m=>q k (.tail _ m)) C p) λr s' h=>?_⟩
  rw[to] at h
  exact h
end
theorem nT{b a:Nat}:(cst [] b a led).fill=0:=by unfold cst SetTable.fill;simp
theorem AG{T:String}{Q:Bool->Shared->Prop}(a:s.TypeIs v T)(c:isSubtype (.type T) (.type "set")=pure false)(b:isSubtype (.type T) (.type "frozenset")=pure false)(h:Q false s):wpAny (model prg W.w) A (Builtin.Frozenset.isAnySet v) Q E s:=by
 refine aa (m:=isInstance v (.type "set")) (eQ a c ?_)
 refine(?_:wpAny _ A (isInstance v (.type "frozenset")) Q E s)
 exact eQ a b h
inductive Hv(W:Wc)(Ψ:List Nat->Prop)(F₀:Fp)(S:Addr)(s:Shared)(o:Obj)(l:List Nat)(s':Shared):Prop
 | mk (g:G W s') (k:ak ⟨F₀.a++[S],F₀.g⟩ s s') (ks:List Nat) (d':Data) (h:Ψ ks) (e:s'.heap.get? S=some { o with data:=d' }) (hd:eI (ld W) (uni l ks) d')
inductive Gv(W:Wc)(n:Nat)(Ψ:List Nat->Prop)(F₀:Fp)(O:List Addr)(s:Shared)(a:Addr)(it:Value)(s₂:Shared):Prop
 | mk (F:Fp) (P:List Addr) (ks:List Nat) (h:Ψ ks) (h4:∀k∈ks,k<4) (g:G W s₂) (k:ak F₀ s s₂) (x:Ext s F₀ F) (i:Src W n it P (ks.map ag) F (O++F.a) s₂) (hP:a∉P)
theorem xZ{id:String}{S:Addr}{d:Data}{T:String}{Ψ:List Nat->Prop}(L:aU W A (n+1))(u:GO W O s)(q:S∈O)(I:s.heap.get? S=some { o with data:=d })(hd:eI (ld W) l d)(E:s.TypeIs v T)(C:isSubtype (.type T) (.type "set")=pure false)(z:isSubtype (.type T) (.type "frozenset")=pure false)(K:(Value.type T==Value.type "dict")=false)(i:S∉F₀.a)(hit:wpAny (model prg W.w) A (pyIter v) (Gv W n Ψ F₀ O s S) Nev s):
  wpAny (model prg W.w) A (Builtin.Frozenset.updateFrom id S v) (λr=>Hv W Ψ F₀ S s o l) Nev s:=by
 refine aa (AG E C z ?_)
 refine aa (iP E ?_)
 rw[K];refine ifZ (by decide) ?_
 refine aa (ad hit (λit s₂ h=>?_) az)
 obtain⟨t,P,ks,y,F,j,b,c,src,D⟩:=h
 have f:s₂.heap.get? S=some { o with data:=d }:=b.obj S _ i I (lh hd)
 have p:S∉t.a:=λm=>(c.a S m).elim i λh=>aw.mpr h (u.ok S q).2
 have e:GO W (O++t.a) s₂:=⟨j,λa m=>(aj.mp m).elim (λm=>⟨(u.ok a m).1,aA (u.ok a m).2 b.siz⟩) (src.inb.a a),u.top⟩
 have B:Cur W n it P [S] s F₀ (ks.map ag) t (O++t.a) s₂:=⟨e,src.sub,src.inb,src.itr,bK b (λa m=>aq _ m) (λr m=>m),c,λx J=>by rw[ah.mp J];exact⟨aq _ q,p,D⟩⟩
 refine aa (wpAny_runValue (bN (uU L ks l d t _ s₂ B F f hd) λr s' h=>?_))
 obtain⟨rfl,g,k,H,C,z⟩:=h
 exact ac ⟨g,k,ks,H,y,C,z⟩
theorem nU{id:String}{S b:Addr}{d:Data}{B:Value}(n:GO W O s)(K:SetCls W B)(q:S∈O)(x:s.heap.get? S=some { o with data:=d })(hd:eI (ld W) l d)(f:s.heap.get? b=some ob)(hs:f4 B (ld W) l' ob)(r:S≠b):
  wpAny (model prg W.w) A (Builtin.Frozenset.updateFrom id S (.ref b)) (λI s'=>G W s'/\ak ⟨[S],[]⟩ s s'/\∃i,s'.heap.get? S=some { o with data:=i }/\eI (ld W) (uni l l') i) Nev s:=by
 refine aa (nO n.g.kin K f hs.1 ?_)
 refine aa (m:=Builtin.Frozenset.addrOf (.ref b)) (ac ?_)
 have p:=hs
 obtain⟨E,D,y,H,F,v,k,h,u⟩:=p
 refine aa (lM y u f h ?_)
 refine sF r hd x hs.2.2 f (λs' Q c C=>?_) λh' i a t j=>⟨n.g.upd (n.ok S q).1 a (.inl ⟨_,x,j9 (o:={ o with data:=d }) hd⟩),dp (λb o f e=>(a.2 b (λz=>f (ah.mpr z))).trans e) (λI I I e=>e) (aH a.1.symm) (aB _),i,t,j⟩
 exact kc y u c h C
structure rd(W:Wc)(c:Value):Prop where
 whole:∀h,W.K.In h->∃x,Looks (model prg W.w) h (typeNameWhole c) x
 cut:∀h,W.K.In h->∃x,Looks (model prg W.w) h (typeNameCut 200 c) x
 bm:(c == .type "builtin_function_or_method")=false
theorem x9:rd W (.type "set"):=⟨λh X=>⟨_,cR rfl⟩,λh X=>⟨_,cR rfl⟩,by decide⟩
theorem AH:rd W (.ref 57):=⟨λh X=>⟨"CandidateSet",cA X (by kernel_rfl)⟩,λh X=>⟨"CandidateSet",cA X (by kernel_rfl)⟩,by decide⟩
theorem ky{M:Type}{rest:List Value}{Q:Unit->Shared->Prop}(g:W.K.In s.heap)(K:SetCls W c)(N:rd W c)(e:s.heap.get? a=some o)(i:o.cls=c)(j:rest=[]∨∃v,rest=[v])(f:Q () s):
  wpAny (model prg W.w) A (checkBuiltinCall "set.__init__" ⟨.ref a::rest,[]⟩) Q E s:=by
 refine aa (lb g K e i ?_)
 refine ifN rfl ?_
 unfold Bind.checkArgs
 dsimp only
 refine aa (m:=Bind.printed "set" true _ _) (PyProof.Rows.printed_name (by decide) ?_)
 obtain⟨x,k⟩:=N.whole _ g
 have b:∀{Q:String->Shared->Prop},(∀x,Q x s)->wpAny (model prg W.w) A (Bind.printed "*" false ⟨.positional, "set", "*",.self,[⟨"iterable",.posOnly,false⟩]⟩ (some (.ref a))) Q E s:=λh=>by
  unfold Bind.printed Bind.receiverType
  refine aa (m:=(if(Manifest.Receiver.self==Manifest.Receiver.cls)=true then pure (.ref a) else typeOf (.ref a))) ?_
  exact l4 e i (aa (m:=typeNameWhole c) (k.here (ac (h _))))
 refine aa (m:=Bind.printed "*" false _ _) (b λd=>?_)
 rcases j with rfl | ⟨v,rfl⟩
 ·exact ac f
 ·exact ac f
theorem uV{d:Data}(g:W.K.In s.heap)(K:SetCls W c)(N:rd W c)(k:s.heap.get? a=some { o with data:=d })(q:o.cls=c)(hd:eI (ld W) [] d)(h:wpAny (model prg W.w) A (Builtin.Frozenset.updateFrom "set.__init__" a v) (λy s'=>Q .none s') E s):
  wpAny (model prg W.w) A (Builtin.«set.__init__» ⟨[.ref a,v],[]⟩) (λfin s'=>∃r,fin = .done (.ret r)/\Q r s') E s:=by
 refine aa (m:=noKeywords "set" _) (ac ?_)
 refine(?_:wpAny _ A (typeNameOfCut 200 (.ref a) >>= _) _ _ s)
 obtain⟨x,n⟩:=N.cut _ g
 have j:∀{Q:String->Shared->Prop},(∀x,Q x s)->wpAny (model prg W.w) A (typeNameOfCut 200 (.ref a)) Q E s:=λh=>by
  refine aa (aa (l4 k (c:=c) q ?_))
  rw[N.bm];refine ifZ (by decide) ?_
  exact ac (n.here (h _))
 refine aa (j λx=>?_)
 refine aa (m:=checkCount x 0 1 1) (bR (a:=()) (by rfl) ?_)
 refine aa (m:=Builtin.Frozenset.addrOf (.ref a)) (ac ?_)
 obtain⟨t,u,p,f,b,i,l⟩:=hd
 refine aa ?_
 refine aa (cD t l k i (ac ?_))
 rw[show((ch u [],p,cst [] f b (ld W)).2.2.fill != 0)=false by show((cst [] f b (ld W)).fill != 0)=false;rw[nT];rfl]
 refine aa (ad h (λy s' h'=>?_) λy y e=>e)
 exact ac ⟨_,rfl,h'⟩
theorem tG{as:List Value}{Q₁:Value->Shared->Prop}(a:checkBuiltinCall "set.__new__" ⟨.type "set" :: as,[]⟩=pure ())(h:Q₁ (.ref s.heap.objs.size) { s with heap:=s.heap.push (eG W) }):
  codeAny (model prg W.w) A (.call (.builtin "set.__new__") ⟨.type "set" :: as,[]⟩) (wants Q₁ E) s:=by
 refine jD ?_
 show wpAny _ A.in1 (do checkBuiltinCall "set.__new__" ⟨.type "set" :: as,[]⟩;again (.builtin "set.__new__" ⟨.type "set" :: as,[]⟩)) _ _ s
 refine aa (bR a (ac ⟨eD F.plain_set_new _,cM F.entry_set_new ?_⟩))
 unfold Builtin.«set.__new__» Builtin.Frozenset.newClass
 have b:=mU
 obtain⟨c,g,d,tk,os⟩:=s
 wp_walk
 refine eO (ac ?_)
 refine aa (lG (ac ?_))
 exact ac h
set_option maxHeartbeats 3200000 in
theorem uW{as:List Value}(j:checkTypeCall "set" ⟨as,[]⟩=pure ())(a:checkBuiltinCall "set.__new__" ⟨.type "set" :: as,[]⟩=pure ())(b:wpAny (model prg W.w) A.in1 (call (.builtin "set.__init__") (.ref s.heap.objs.size::as)) (λr s'=>r = .none/\Q (.ref s.heap.objs.size) s') E { s with heap:=s.heap.push (eG W) }):
  wpAny (model prg W.w) A (call (.type "set") as) Q E s:=by
 obtain⟨c,l,f⟩:=F.called_set.mro
 have e:=F.called_set.made
 have g:=F.called_set.sub
 refine bQ (jD ?_)
 refine(?_:wpAny _ _ (callAny (.type "set") _) _ _ _)
 refine ac ⟨m1 _ (by decide +kernel),cM F.entry_type_call ?_⟩
 repeat (any_goals (first | assumption | wp_step))
 refine bN (tG (E:=E) (Q₁:=λobj s₁=>obj = .ref s.heap.objs.size/\s₁={ s with heap:=s.heap.push (eG W) }) a ⟨rfl,rfl⟩) λr s₁ d=>?_
 rcases r with k | (v | _ | _ | _) <;> first | exact d.elim | skip
 ·exact d
 ·obtain⟨rfl,rfl⟩:=d
  have h:Shared.TypeIs { s with heap:=s.heap.push (eG W) } (.ref s.heap.objs.size) "set" := ⟨_,bf _ rfl,rfl⟩
  refine aa (eQ h mU ?_)
  refine ifN rfl ?_
  refine aa (aP (g5 (name:=Str.ofString "__init__") h F.called_set.init (ad b (λr s' h'=>?_) λm m h'=>h')))
  obtain⟨rfl,i⟩:=h'
  exact ac i
theorem r8{d:Data}(g:W.K.In s.heap)(K:SetCls W c)(N:rd W c)(b:s.heap.get? a=some { o with data:=d })(e:o.cls=c)(hd:eI (ld W) [] d)(h:wpAny (model prg W.w) A.in1 (Builtin.Frozenset.updateFrom "set.__init__" a v) (λi s'=>Q .none s') E s):wpAny (model prg W.w) A (call (.builtin "set.__init__") [.ref a,v]) Q E s:=by
 refine bQ (iN F.called_set.init.plain F.entry_set_init (ky (M:=Unit) g K N b e (.inr ⟨v,rfl⟩) (ad (uV g K N b e hd h) (λfin s' h'=>?_) λi i h'=>h')))
 obtain⟨v,rfl,f⟩:=h';exact f
theorem za{d:Data}(g:W.K.In s.heap)(K:SetCls W c)(N:rd W c)(i:s.heap.get? a=some { o with data:=d })(k:o.cls=c)(hd:eI (ld W) [] d)(h:Q .none s):
  wpAny (model prg W.w) A (call (.builtin "set.__init__") [.ref a]) Q E s:=by
 refine bQ (iN F.called_set.init.plain F.entry_set_init (ky (M:=Unit) g K N i k (.inl rfl) ?_))
 refine aa (m:=noKeywords "set" _) (ac ?_)
 refine(?_:wpAny _ A.in1 (typeNameOfCut 200 (.ref a) >>= _) _ _ s)
 obtain⟨x,n⟩:=N.cut _ g
 have j:∀{Q:String->Shared->Prop} {E:Value->Shared->Prop},(∀x,Q x s)->wpAny (model prg W.w) A.in1 (typeNameOfCut 200 (.ref a)) Q E s:=λh=>by
  refine aa (aa (l4 i (c:=c) k ?_))
  rw[N.bm];refine ifZ (by decide) ?_
  exact ac (n.here (h _))
 refine aa (j λx=>?_)
 refine aa (m:=checkCount x 0 1 0) (bR (a:=()) (by rfl) ?_)
 refine aa (m:=Builtin.Frozenset.addrOf (.ref a)) (ac ?_)
 obtain⟨q,r,p,e,b,f,l⟩:=hd
 refine aa ?_
 refine aa (cD q l i f (ac ?_))
 rw[show((ch r [],p,cst [] e b (ld W)).2.2.fill != 0)=false by show((cst [] e b (ld W)).fill != 0)=false;rw[nT];rfl]
 exact ac h
theorem tH(b:GO W O s)(o:Obj)(tk:Nat):GO W (O++[s.heap.objs.size]) { s with heap:=s.heap.push o,toks:=tk }:=by
 obtain⟨g',c,d⟩:=bJ b o tk
 refine⟨g',λa m=>?_,b.top⟩
 rcases aj.mp m with m | m
 ·exact⟨(b.ok a m).1,aA (b.ok a m).2 c.siz⟩
 ·exact(ah.mp m)▸(⟨b.g.siz,by show _<(s.heap.push o).objs.size;rw[bi];exact dR _⟩)
theorem lm(o:Obj):Vle (am h O) (am (h.push o) (O++[h.objs.size])):=λa b e a=>aK (aV _ (af e)) λm=>by
 rcases aj.mp m with m | m
 ·exact a8 e m
 ·have:=aO (af e);rw[ah.mp m] at this;exact bz _ this
theorem uX{T:String}{Ψ:List Nat->Prop}(D:aU W A (n+3))(p:GO W O s)(k:s.TypeIs v T)(C:isSubtype (.type T) (.type "set")=pure false)(t:isSubtype (.type T) (.type "frozenset")=pure false)(B:(Value.type T==Value.type "dict")=false)(E:∀a∈F₀.a,a∈O)(hit:∀s₁,G W s₁->aF s s₁->Vle (am s.heap O) (am s₁.heap (O++[s.heap.objs.size]))->GO W (O++[s.heap.objs.size]) s₁->s₁.heap.objs.size=s.heap.objs.size+1->wpAny (model prg W.w) A.in1.in1 (pyIter v) (Gv W n Ψ F₀ (O++[s.heap.objs.size]) s₁ s.heap.objs.size) Nev s₁)(q:∀s' ks d,Ψ ks->G W s'->ak F₀ s s'->s'.heap.get? s.heap.objs.size=some { eG W with data:=d }->eI (ld W) (uni [] ks) d->Q (.ref s.heap.objs.size) s'):wpAny (model prg W.w) A (call (.type "set") [v]) Q Nev s:=by
 refine uW (F.typeCall_set_1 v) (F.newCall_set_1 v) ?_
 have l:(s.heap.push (eG W)).get? s.heap.objs.size=some { eG W with data:=(eG W).data }:=bf _ rfl
 have b:=tH p (eG W) s.toks
 obtain⟨f,c,u⟩:=bJ p (eG W) s.toks
 have i:Shared.TypeIs { s with heap:=s.heap.push (eG W) } v T:=by
  obtain⟨⟩ | ⟨⟩ | a | H | H | H | H:=v <;> first | exact k | skip
  all_goals first | exact k | (obtain⟨o,e,r⟩:=k;exact⟨o,aV _ e,r⟩)
 refine r8 (s:={ s with heap:=s.heap.push (eG W) }) f.kin jQ x9 l rfl (lN W).2.2 ?_
 refine ad (xZ (n:=n) (F₀:=F₀) (D.in1.in1) b (al _ (.head _)) l (lN W).2.2 i C t B (λm=>u (E _ m)) (hit _ f c (lm _) b (by show(s.heap.push _).objs.size=_;rw[bi]))) (λH s' h=>?_) az
 obtain⟨g',x,ks,y,j,z,hd⟩:=h
 refine⟨rfl,q s' ks y j g' ?_ z hd⟩
 refine ak.of_ext (M':=⟨F₀.a++[s.heap.objs.size],F₀.g⟩) (ak.ofK c) ⟨λa m=>?_,λH=>.inl⟩ x
 rcases aj.mp m with m | m
 ·exact .inl m
 ·exact .inr (by rw[ah.mp m];exact aB _)
theorem uY:isSubtype (.type "generator") (.type "set")=pure false:=by rw[fD];kernel_rfl
theorem tI:isSubtype (.type "generator") (.type "frozenset")=pure false:=by rw[fD];kernel_rfl
theorem nV:isSubtype (.type "tuple") (.type "frozenset")=pure false:=by rw[fD];kernel_rfl
abbrev tS(W:Wc)(l:List Nat):Ty:=fy (.type "set") (ld W) l
abbrev oS(W:Wc)(l:List Nat):OTy:=nN (.type "set") (ld W) l
theorem wJ:∀V o,V L=some o->(oS W l).p V o->(tS W l).p V (.ref L):=λV o h i=>⟨L,o,rfl,h,i⟩
theorem ya{d:Data}(h:eI (ld W) l d):f4 (.type "set") (ld W) l { eG W with data:=d }:=⟨rfl,λa=>⟨rfl,rfl⟩,h⟩
theorem lR(hf:EvP W C Γ n (.Name x p) (aE (.type "set"))):jS W C Γ n (.Call (.Name x p) [] [] pos) (oS W []):=λA env O M s f I=>by
 refine(?_:wpAny _ A (do callWith pos (← eval (.Name x p) env) [] (backTo pos (starEach [] env)) (backToKw pos (keywordEach [] env))) _ _ s)
 refine aa (ad (hf A env O M s f I) (λv s₁ a=>?_) az)
 have e:v = .type "set" := a.2.2
 subst e
 have b:=a.then I
 refine dO (P:=KeP W (.type "set")) rfl (λh p=>p) ?_
 refine bU (ns:=[]) rfl rfl (ac (ac ⟨kt s₁ b.g,?_⟩))
 obtain⟨g',d,i⟩:=bJ b.go (eG W) s₁.toks
 have c:(s₁.heap.push (eG W)).get? s₁.heap.objs.size=some { eG W with data:=(eG W).data }:=bf _ rfl
 refine uW F.typeCall_set_0 F.newCall_set_0 (za (s:={ s₁ with heap:=s₁.heap.push (eG W) }) g'.kin jQ x9 c rfl (lN W).2.2 ⟨rfl,?_⟩)
 exact⟨_,_,rfl,g',a.2.1.trans d,a.2.1.siz,c,rfl,lN W⟩
theorem zb{b:String}(D:kn W n nmT T (λUs=>Us=ks.map ag))(M:∀h O v,T.p (am h O) v->∃a o,v = .ref a/\h.get? a=some o/\o.cls = .type b)(H:∀k∈ks,k<4)(N:isSubtype (.type b) (.type "set")=pure false)(J:isSubtype (.type b) (.type "frozenset")=pure false)(C:(Value.type b==Value.type "dict")=false):aM W (n+3) (.type "set") [T] [] (tS W (uni [] ks)):=λA O s vs kv z g E hK=>by
 obtain⟨v,rfl,x⟩:=E.a1
 obtain⟨a,o,rfl,L,B⟩:=M _ _ _ x
 refine uX (n:=n) (Ψ:=λj=>j=ks) (F₀:=⟨[],[]⟩) (T:=b) z g ⟨o,L,B⟩ N J C (λG m=>absurd m av) (λs₁ w y I c hz=>?_) λs' j d u g' K r t=>?_
 ·refine ad (D A.in1.in1 _ s₁ _ (z.in1.in1.le (bY n)) c (T.mono I x)) (λit s₂ i=>?_) az
  obtain⟨F,Ts,rfl,e,q,f,l,hit,G⟩:=i
  exact⟨F,[],ks,rfl,H,e,q,f,⟨hit,λa m=>al _ m,l⟩,by simp⟩
 ·subst u
  exact⟨g',K,_,_,rfl,aK r (λm=>bz _ (g.ok _ m).2),ya t⟩
theorem pL{b:String}:∀h O v,(ux b Ts).p (am h O) v->∃a o,v = .ref a/\h.get? a=some o/\o.cls = .type b:=λh O v w=>w.elim λvs w=>w.1.elim λa w=>w.elim λc w=>⟨a,_,w.1,af w.2,rfl⟩
theorem re(a:∀k∈ks,k<4):aM W (n+3) (.type "set") [bH (ks.map ag)] [] (tS W (uni [] ks)):=zb jk.its pL a F.sub_tuple_set nV (by decide)
theorem AI{Ψ:List Nat->Prop}(y:n'<=n)(e:∀ks,Ψ ks->(∀k∈ks,k<4)/\uni [] ks=l):rc W (n+3) n' (.type "set") (λTs=>∃ks,Ψ ks/\Ts=ks.map ag) (tS W l):=λA O s it P F₀ Ts w u q src self obj E=>by
 obtain⟨ks,hz,rfl⟩:=q
 obtain⟨a,o,rfl,C,D,F⟩:=obj
 refine uX (n:=n') (Ψ:=λj=>j=ks) (F₀:=F₀) (T := "generator") (w.le (aX y 3)) u ⟨o,C,D⟩ uY tI (by decide) src.sub (λs₁ h b z c x=>?_) λs' j d t g' B p r=>?_
 ·refine ad (self W.frs A.in1.in1 s₁ _ ((w.in1.in1).le (by lia)) c (b.stays (λv v=>av) (λv v=>av))) (λv s₂ i=>?_) az
  obtain⟨rfl,rfl⟩:=i
  have f:InB W F₀ s₂:=⟨λa m=>⟨(src.inb.a a m).1,aA (src.inb.a a m).2 b.siz⟩,λa m=>aA (src.inb.g a m) b.gsz⟩
  refine⟨F₀,P,ks,rfl,(e ks hz).1,h,ak.refl _ _,Ext.refl _ _,⟨src.itr.move (b.stays (λv v=>av) (λv v=>av)) (b.stays (λv v=>av) (λv v=>av)) (z.trans ?_),λa m=>al _ m,f⟩,λm=>bz _ (E _ m).1⟩
  refine bG λa m=>?_
  rcases aj.mp m with m | m
  ·exact m
  ·exact aq _ (src.sub a m)
 ·subst t
  refine⟨g',B,_,_,rfl,aK p (λm=>bz _ (u.ok _ m).2),?_⟩
  have:=ya r
  rw[(e _ hz).2] at this
  exact this
theorem tJ(i:Nat)(f:C.names[i]? = some x)(l:Γ.v[i]? = some (some T)){A env O M s}(I:Inv W C env Γ O M s):wpAny (model prg W.w) A (loadName env x) (Res W (O++M.a) s T) Nev s:=by
 obtain⟨m,j,k⟩:=I.loc
 obtain⟨v,sl,o⟩:=k i x T f l
 have nm:=I.ok.cx.nm x (be f)
 have d:Res W (O++M.a) s T v s:=⟨I.g,aF.refl s,o⟩
 rcases sl with⟨e,n⟩ | ⟨e | e,c,h,b⟩
 ·exact sU I.ok.kind (I.ok.of e) j n d
 ·exact sV I.ok.kind (I.ok.of e) h b d
 ·exact pz I.ok.kind (I.ok.of e) h b d (EC nm)
theorem AJ{op:Operator}(i:Nat)(f:EvP W C Γ n value U)(h:∀A O s a b,aU W A n->GO W O s->T.p (am s.heap O) a->U.p (am s.heap O) b->wpAny (model prg W.w) A (inplaceOp op a b) (Res W O s R) Nev s)(e:ExP W C (Γ.set i R) n b P)(d:autoParam (Γ.v[i]? = some (some T)) q_R)(c:autoParam (C.names[i]? = some x) q_R)(g:autoParam (fe C x=true) q_K):ExP W C Γ n (.AugAssign (.Name x pos') op value pos::b) P :=
 bT (EH i c g (pD i c d) f h (λA env O M s j I=>tJ i c d I) e)
theorem jT{p q:Int}(i:Nat)(k:EvP W C Γ n value (bh q))(e:ExP W C (Γ.set i (bh (p+q))) n b P)(l:autoParam (Γ.v[i]? = some (some (bh p))) q_R)(h:autoParam (C.names[i]? = some x) q_R)(m:autoParam (fe C x=true) q_K):
  ExP W C Γ n (.AugAssign (.Name x pos') .Add value pos::b) P :=
 AJ i k (λA O s a b o g f j=>by
  refine dK f λt d=>?_
  obtain rfl:=d
  refine dK j λu c=>?_
  obtain rfl:=c
  exact wpAny_iadd_int ⟨g.g.tok,aF.tok,_,rfl⟩) e l h m
theorem lS{led l}(c:s.heap.get? L=some o)(b:f4 (.type "set") led l o):∀a,Value.ref L = .ref a->∃o,s.heap.get? a=some o/\o.dict=none:=λa e=>by
 injection e with e;subst e;exact⟨o,c,(b.2.1 rfl).1⟩
theorem EW(i k:Nat)(B:EvP W C Γ n e (ag j))(N:j<4)(H:ExP W C (Γ.hset k L (oS W (ins j l))) n b P)(K:autoParam (Γ.h[k]? = some (L,oS W l)) q_R)(r:autoParam (C.names[i]? = some x) q_R)(T:autoParam (Γ.v[i]? = some (some (aE (.ref L)))) q_R)(E:autoParam (∀env,starEach [e] env=(false,eval e env)::starEach [] env) q_R)(M:autoParam (∀env,∃pl,eval (.Call (.Attribute (.Name x xp) "add" apos) [e] [] pos) env=(do
   let ov ← eval (.Name x xp) env
   standAt apos.atName
   let(f,first) ← holding [ov] (getMethod ov "add" pl)
   callWith pos f first (backTo pos (starEach [e] env)) (backToKw pos (keywordEach [] env)))) q_P)(y:autoParam (∀env,swapsWith (.Call (.Attribute (.Name x xp) "add" apos) [e] [] pos) none spos.line env=pure false) q_R):
  ExP W C Γ n (.Expr (.Call (.Attribute (.Name x xp) "add" apos) [e] [] pos) spos::b) P:=by
 refine tx (id := "set.add") (Q:=oS W l) (Q':=oS W (ins j l)) i k (ar1 B E) ?_ ?_ H K r T M y
 ·intro A s o V pl R p r U
  exact jE ⟨o,p,r.1⟩ m2 m3 F.type_set_add (lS p r) U
 ·intro A O s o vs Z g I p c u
  obtain⟨v,rfl,⟨t,rfl⟩⟩:=u.a1
  refine eB m3 ⟨o,p,c.1⟩ F.entry_set_add ?_ (F.args_set_add_2 _ _)
  refine aa (m:=Builtin.Frozenset.addrOf _ >>= λx=>pure (x,Value.int (j:Int) t)) (ac (a:=(L,Value.int (j:Int) t)) ?_)
  refine(?_:wpAny _ _ (setAdd L (.int (j:Int) t) >>= _) _ _ _)
  refine aa (aP ?_)
  refine aa ((intKind prg W.w).pyHash (k:=(j:Int)) (eN _ _ _ _) ?_)
  refine nI (s:={ s with toks:=s.toks+1 }) (o:=o) N c.2.2 p λY h' X d D q=>?_
  exact ac ⟨_,rfl,_,g.g.upd (g.ok L I).1 d (.inl ⟨_,p,j9 c.2.2⟩),dp (λb o J e=>(d.2 b (λz=>J (ah.mpr z))).trans e) (λG G G e=>e) (aH d.1.symm) (aB _),D,lh q,c.1,c.2.1,q⟩
theorem zc(K:SetCls W c)(i k:Nat)(B:EvP W C Γ n e (fy c (ld W) l'))(J:ExP W C (Γ.hset k L (oS W (uni l l'))) n b P)(M:autoParam (Γ.h[k]? = some (L,oS W l)) q_R)(u:autoParam (C.names[i]? = some x) q_R)(U:autoParam (Γ.v[i]? = some (some (aE (.ref L)))) q_R)(H:autoParam (∀env,starEach [e] env=(false,eval e env)::starEach [] env) q_R)(T:autoParam (∀env,∃pl,eval (.Call (.Attribute (.Name x xp) "update" apos) [e] [] pos) env=(do
   let ov ← eval (.Name x xp) env
   standAt apos.atName
   let(f,first) ← holding [ov] (getMethod ov "update" pl)
   callWith pos f first (backTo pos (starEach [e] env)) (backToKw pos (keywordEach [] env)))) q_P)(z:autoParam (∀env,swapsWith (.Call (.Attribute (.Name x xp) "update" apos) [e] [] pos) none spos.line env=pure false) q_R):
  ExP W C Γ n (.Expr (.Call (.Attribute (.Name x xp) "update" apos) [e] [] pos) spos::b) P:=by
 refine tx (id := "set.update") (Q:=oS W l) (Q':=oS W (uni l l')) i k (ar1 B H) ?_ ?_ J M u U T z
 ·intro A s o V pl R r u X
  exact jE ⟨o,r,u.1⟩ m2 F.slot_set_update F.type_set_update (lS r u) X
 ·intro A O s o vs Z g I r j w
  obtain⟨v,rfl,⟨a,oa,rfl,t,y⟩⟩:=w.a1
  have D:L≠a:=λe=>a8 t (e▸I)
  refine eB F.slot_set_update ⟨o,r,j.1⟩ F.entry_set_update ?_ (F.args_set_update_2 _ _)
  refine aa (m:=_) (ac (a:=(L,[Value.ref a])) ?_)
  refine aa (aa (aa (ad (nU (o:=o) (d:=o.data) g K I r j.2.2 (af t) y D) (λG s' h=>?_) az)))
  refine dn h λg' N q=>?_
  refine bc q λY E p=>?_
  exact ac (ac (ac ⟨_,rfl,_,g',N,E,lh p,j.1,j.2.1,p⟩))
theorem tK{a b:Value}{T nm id:String}{op:Operator}(f:op.info.2=nm)(g:s.TypeIs a T)(hf:fillsInplaceSlot (.type T) nm (op == .Add)=pure true)(d:PySem.Slot T (dunderI nm) id)(h:wpAny (model prg W.w) A (call (.builtin id) [a,b]) (λv s'=>v≠.notImplemented/\Q v s') E s):wpAny (model prg W.w) A (inplaceOp op a b) Q E s:=by
 refine aP ?_
 rw[f]
 refine aa (iP g ?_)
 refine aa (bR hf ?_)
 refine ifP rfl ?_
 refine aa ?_
 have sp:=@g5 (model prg W.w) A E s a T (dunderI nm) id [b] [] (λr c=>∃v,r=some v/\v≠.notImplemented/\Q v c) g d (ad h (λv s' h=>⟨v,rfl,h⟩) λk k e=>e)
 refine aa (ad sp (λr c h=>?_) λk k e=>e)
 obtain⟨v,rfl,j,i⟩:=h
 cases v <;> first | exact absurd rfl j | exact ac (aa (da (ac i)))
theorem r9:fillsInplaceSlot (.type "set") "or" false=pure true:=by
 show(do let fi ← typeLookup (.type "set") (dunderI "or");return fi.isSome && !isSeqSlot fi)=_
 rw[F.slot_set_ior.lookup];rfl
theorem AK:Operator.BitOr.info.2 = "or" := by kernel_rfl
theorem EX(K:SetCls W c)(i k:Nat)(N:EvP W C Γ n value (fy c (ld W) l'))(hr:ExP W C ⟨Γ.v.set i (some (aE (.ref L))),(Γ.hset k L (oS W (uni l l'))).h⟩ n b P)(hk:autoParam (Γ.h[k]? = some (L,oS W l)) q_R)(hi:autoParam (C.names[i]? = some x) q_R)(hv:autoParam (Γ.v[i]? = some (some (aE (.ref L)))) q_R)(X:autoParam (fe C x=true) q_K):ExP W C Γ n (.AugAssign (.Name x pos') .BitOr value pos::b) P:=bT λA env O M s rm I=>by
 refine wpAny_AugAssign_Name (ad (tJ (T:=aE (.ref L)) i hi hv I) (λa s₁ p=>ad (N A env O M s₁ rm (p.then I)) (λbv s₂ t=>?_) az) az)
 have ha:a = .ref L:=p.2.2
 subst ha
 have j:=t.then (p.then I)
 refine rU t.2.2 λa oa V D J=>?_
 obtain rfl:=V
 obtain⟨q1,S,S,S,o,ho,S,u⟩:=j.phi L _ (be hk)
 have U:L∈O++M.a:=al _ q1
 have Z:L≠a:=λe=>a8 D (e▸U)
 have hT:s₂.TypeIs (.ref L) "set" := ⟨o,ho,u.1⟩
 have body:wpAny (model prg W.w) A (call (.builtin "set.__ior__") [.ref L,.ref a]) (λv f=>v = .ref L/\∃Q,G W f/\ak ⟨[L],[]⟩ s₂ f/\f.heap.get? L=some { o with data:=Q }/\eI (ld W) (uni l l') Q) Nev s₂:=by
  refine eB F.slot_set_ior hT F.entry_set_ior ?_ (F.args_set_ior_2 _ _)
  refine(?_:wpAny _ A.in1 (Builtin.Frozenset.isAnySet (.ref a) >>= _) _ _ s₂)
  refine aa (nO j.g.kin K (af D) J.1 ?_)
  refine aa (m:=Builtin.Frozenset.addrOf (.ref L)) (ac ?_)
  refine(?_:wpAny _ A.in1 (Builtin.Frozenset.updateFrom "set.__ior__" L (.ref a) >>= _) _ _ s₂)
  refine aa (ad (nU (o:=o) (d:=o.data) j.go K U ho u.2.2 (af D) J Z) (λS f h=>?_) az)
  refine dn h λr q R=>?_
  refine bc R λQ B y=>?_
  exact ac ⟨.ref L,rfl,rfl,Q,r,q,B,y⟩
 refine tK AK hT (r9) F.slot_set_ior (ad body (λv f h=>?_) az)
 refine ck h λY E=>?_
 obtain rfl:=Y
 refine G9 E λQ r q B y=>?_
 refine ck (j.chg (Q':=oS W (uni l l')) hk q r B (lh y) ⟨u.1,u.2.1,y⟩) λkM H=>?_
 refine⟨by simp,?_⟩
 refine ad (dB (T:=aE (.ref L)) i hi (iV X) H rfl) (λS a1 z=>?_) az
 exact⟨(ak.ofK (p.2.1.trans t.2.1)).trans (kM.trans z.1),M,Ext.refl s M,.next _,hr,z.2⟩
section
variable {P:List Addr}
noncomputable abbrev eh(vs:List Value)(c:Nat):Obj:={ cls:=.type "list",dict:=none,data:=.seq vs.toArray c,slots:=#[] }
theorem Cur.upd(c:Cur W n it P X s₀ F₀ Ts F H s){S:Addr}(f:S∈X)(h:s.heap.get? S=some o)(d:∀es j,o.data≠.dict es j)(a:Heap.SameBut S s.heap h'):
  Cur W n it P X s₀ F₀ Ts F H { s with heap:=h',toks:=tk } :=
 c.own (s':={ s with heap:=h',toks:=tk }) (dp (λb o i e=>(a.2 b (λz=>i (z▸f))).trans e) (λk k k e=>e) (aH a.1.symm) (aB _)) (c.go.g.upd (c.go.ok S (c.dis S f).1).1 a (.inl ⟨_,h,d⟩))
inductive Hw(W:Wc)(F₀:Fp)(S:Addr)(s₀:Shared)(O:List Addr)(res:Value)(Ts:List Ty)(r:Result)(s':Shared):Prop
 | mk (e:r = .ok (.ret res)) (g:G W s') (k:ak ⟨F₀.a++[S],F₀.g⟩ s₀ s') (ws:List Value) (c:Nat) (h:s'.heap.get? S=some (eh ws c)) (t:ay (am s'.heap O) Ts ws)
theorem uZ{s₀:Shared}{F₀:Fp}{S:Addr}{res:Value}{O:List Addr}(B:aU W A (n+1)):∀(Ts Us:List Ty) (vs:List Value) (cc:Nat) (y:Fp) (H:List Addr) (s:Shared),Cur W n it P [S] s₀ F₀ Ts y H s->Us.length+Ts.length<=sizeLine->(∀a∈O,a∈H) ->
  s.heap.get? S=some (eh vs cc)->ay (am s.heap H) Us vs ->
  codeAny (model prg W.w) A (.builtin "list.extend.loop" ⟨[.ref S,it,res],[]⟩) (Hw W F₀ S s₀ O res (Us++Ts)) s:=by
 intro Ts
 induction Ts with
 | nil =>
  intro Us vs cc y H s c hz q t l
  refine cM F.entry_extend_loop ?_
  refine(?_:wpAny _ A.in1 (pyNext it >>= _) _ _ s)
  refine aa (ad (c.stop B.in1) (λr s₂ h=>?_) λr r e=>False.elim e)
  obtain⟨rfl,g,k,u,p⟩:=h
  refine ac ⟨rfl,g,k,vs,cc,u S (.head _) _ t rfl,?_⟩
  rw[c0]
  exact ay.mono (p.trans (bG q)) l
 | cons T Ts ih =>
  intro Us vs cc y H s c hz q t l
  refine cM F.entry_extend_loop ?_
  refine(?_:wpAny _ A.in1 (pyNext it >>= _) _ _ s)
  refine aa (ad (c.next B.in1) (λr s₁ h=>?_) λr r e=>False.elim e)
  obtain⟨v,rfl,h⟩:=h
  refine ra h λs₂ j=>?_
  obtain⟨F',H',c',D,u,p,o⟩:=j
  have b:=u S (.head _) _ t rfl
  have C:vs.length=Us.length:=ay.len l
  rw[hG] at hz
  refine(?_:wpAny _ A.in1 (updateSeq S (·.push v) >>= _) _ _ s₂)
  refine aa ?_
  have d:(s₂.heap.update S (Obj.mapSeq (·.push v))).get? S=some (eh (vs++[v]) (cc+1)):=by
   rw[et _ b rfl,Obj.mapSeq_push_plain,tz]
  have i:=dH s₂.heap S (Obj.mapSeq (·.push v))
  have x:=c'.upd (tk:=s₂.toks) (.head _) b (λr r=>nD) i
  have z:S∈H':=(c'.dis S (.head _)).1
  have f:Vle (am s₂.heap H') (am (s₂.heap.update S (Obj.mapSeq (·.push v))) H'):=cm z i
  refine kR b rfl (ac ⟨eD F.plain_extend_loop _,bN (ih (Us++[T]) (vs++[v]) (cc+1) F' H' _ x (by simp;exact iw Us.length 1 Ts.length▸hz) (λa m=>o a (q a m)) d (ay.append (ay.mono (p.trans f) l) ⟨T.mono f D,trivial⟩)) λr s' h=>?_⟩) (by rw[e7];exact ae (aH C) (ae (aW _ _) hz)) (by show(vs.toArray.push v).size<=sizeLine+1;rw[Array.size_push,e7];exact ae (aX (aH C) 1) (ae (aX (aW _ _) 1) (aX hz 1)))
  rw[iu] at h;exact h
end
section
variable {P:List Addr}
inductive Hx(W:Wc)(n:Nat)(Θ:List Ty->Prop)(F₀:Fp)(O:List Addr)(s:Shared)(a:Addr)(v:Value)(T:String)(it:Value)(s₂:Shared):Prop
 | mk (F:Fp) (P:List Addr) (Ts:List Ty) (h:Θ Ts) (hl:Ts.length<=sizeLine) (g:G W s₂) (k:ak F₀ s s₂) (x:Ext s F₀ F) (i:Src W n it P Ts F (O++F.a) s₂) (hP:a∉P) (t:s₂.TypeIs v T) (vl:Vle (am s.heap O) (am s₂.heap (O++F.a)))
theorem pe{S:Addr}{cc:Nat}{res:Value}{T:String}{R:Result->Shared->Prop}(rm:aU W A (n+1))(J:GO W O s)(H:S∈O)(hS:s.heap.get? S=some (eh [] cc))(hT:s.TypeIs v T)(h1:(Value.type T==Value.type "list")=false)(Y:(Value.type T==Value.type "tuple")=false)(L:v≠.ref S)(B:S∉F₀.a)(hit:wpAny (model prg W.w) A.in1 (pyIter v) (Hx W n Θ F₀ O s S v T) Nev s)(u:∀s₂,G W s₂->s₂.TypeIs v T->wpAny (model prg W.w) A.in1 (Builtin.List.listLengthHint v) (λr s'=>s'=s₂) Nev s₂)(hR:∀s' Ts I c',Θ Ts->G W s'->ak ⟨F₀.a++[S],F₀.g⟩ s s'->s'.heap.get? S=some (eh I c')->ay (am s'.heap O) Ts I->R (.ok (.ret res)) s'):
  wpAny (model prg W.w) A.in1 (Builtin.List.listExtendWith (.ref S) v res) (λfin s'=>match fin with | .done f=>R (.ok f) s' | .again c'=>c'.quiet=true/\codeAny (model prg W.w) A c' R s') (λe s'=>R (.error e) s') s:=by
 refine aa (iP hT ?_)
 have h0:Builtin.List.listSameRef (.ref S) v=false:=by
  cases v <;> first | rfl | skip
  rw[Builtin.List.listSameRef,ey,ne_eq]
  exact λe=>L (e▸rfl)
 refine ifN (by rw[h0,h1,Y];rfl) ?_
 refine aa (ad hit (λit s₂ h=>?_) λr r e=>False.elim e)
 obtain⟨z,P,Ts,M,hz,k,j,l,src,U,t,K⟩:=h
 refine aa (aP (ad (u s₂ k t) (λV b y=>?_) λr r e=>False.elim e))
 subst y
 have d:b.heap.get? S=some (eh [] cc):=j.obj S _ B hS rfl
 have D:S∉z.a:=λm=>(l.a S m).elim B λh=>aw.mpr h (J.ok S H).2
 have p:GO W (O++z.a) b:=⟨k,λa m=>(aj.mp m).elim (λm=>⟨(J.ok a m).1,aA (J.ok a m).2 j.siz⟩) (src.inb.a a),J.top⟩
 have E:Cur W n it P [S] s F₀ Ts z (O++z.a) b:=⟨p,src.sub,src.inb,src.itr,bK j (λa m=>aq _ m) (λr m=>m),l,λx hx=>by rw[ah.mp hx];exact⟨aq _ H,D,U⟩⟩
 have fin:∀(i:Shared) c',Cur W n it P [S] s F₀ Ts z (O++z.a) i->i.heap.get? S=some (eh [] c')->wpAny (model prg W.w) A.in1 (again (.builtin "list.extend.loop" ⟨[.ref S,it,res],[]⟩)) (λfin s'=>match fin with | .done f=>R (.ok f) s' | .again c'=>c'.quiet=true/\codeAny (model prg W.w) A c' R s') (λe s'=>R (.error e) s') i:=λi c' C N=>by
  refine ac ⟨eD F.plain_extend_loop _,bN (uZ (O:=O) rm Ts [] [] c' z _ i C (by simpa using hz) (λa m=>aq _ m) N trivial) λr s' h=>?_⟩
  obtain⟨rfl,g',Z,I,Q,hg,X⟩:=h
  exact hR s' Ts I Q M g' Z hg X
 split
 ·refine aa (da ?_)
  refine aa ?_
  refine(?_:wpAny _ A.in1 (updateSeq S (·.push .none) >>= λr=>updateSeq S (·.pop)) _ _ _)
  refine aa (kR d rfl ?_ (dT _) (cL rfl))
  have o:=et (h:=b.heap) (Obj.mapSeq (·.push Value.none)) d rfl
  have c1:=E.upd (tk:=b.toks) (.head _) d (λr r=>nD) (dH b.heap S (Obj.mapSeq (·.push Value.none)))
  have c:(b.heap.update S (Obj.mapSeq (·.push Value.none))).get? S=some (eh [Value.none] (cc+1)):=by rw[o];rfl
  refine kR (s:={ b with heap:=b.heap.update S (Obj.mapSeq (·.push Value.none)) }) c rfl ?_ (cL rfl) (dT _)
  have q:=et (h:=b.heap.update S (Obj.mapSeq (·.push Value.none))) (Obj.mapSeq (·.pop)) c rfl
  have c2:=c1.upd (tk:=b.toks) (.head _) c (λr r=>nD) (dH (b.heap.update S (Obj.mapSeq (·.push Value.none))) S (Obj.mapSeq (·.pop)))
  exact fin _ _ c2 (by rw[q];rfl)
 ·exact fin _ _ E d
end
theorem pf{acc:Array Value}{a:Nat}(h:ItemsOf (λ(i:Nat) (v:Value)=>∃t,v = .int ((a:Int)+(i:Int)*1) t) acc m):ay V ((List.range m).map λj=>ag (a+j)) acc.toList:=by
 obtain⟨hs,e⟩:=h
 have b:∀(l:List Value) (k:Nat),(∀(j:Nat) (v:Value),l[j]? = some v->∃t,v = .int ((a:Int)+((k+j:Nat):Int)*1) t)->ay V ((List.range' k l.length).map λj=>ag (a+j)) l:=by
  intro l
  induction l with
  | nil=>intro k f;exact trivial
  | cons v l ih =>
   intro k h
   refine⟨?_,ih (k+1) λj w c=>?_⟩
   ·obtain⟨t,rfl⟩:=h 0 v rfl
    exact⟨t,by congr 1;exact aY (_ + ·) (Int.mul_one _)⟩
   ·obtain⟨t,rfl⟩:=h (j+1) w c
    exact⟨t,by congr 1;exact aY (λz:Nat=>(a:Int)+(z:Int)*1) (iw k 1 j).symm⟩
 have:=b acc.toList 0 λj v d=>by rw[b9];exact e j v (by rw[← Array.getElem?_toList];exact d)
 rw[Array.length_toList,hs,← List.range_eq_range'] at this
 exact this
theorem sa{a b:Nat}(k:a<2 ^ 60)(e:b<2 ^ 20):aM W n (.type "list") [j3 a b] [] (bw (fj a b)):=λA O s vs ks p g o hK=>by
 obtain⟨v,rfl,⟨r,t,u,w,rfl,j⟩⟩:=o.a1
 have hsz:Builtin.Range.rangeSize (a:Int) (b:Int) 1=((b-a:Nat):Int):=wx
 refine cV (call_list_range p.hd (af j) (small_one oI (oF k) oI (oF e)) hsz (ae (Nat.sub_le _ _) (cQ (oA e))) λh' tk acc c i l d f=>?_)
 have g':G W { s with heap:=h',toks:=tk }:=g.g.step i f.h
 have q:aF s { s with heap:=h',toks:=tk }:=aF.step i f.h
 refine⟨g',q,acc.toList,⟨_,c,rfl,aK (by simpa using l) λm=>bz _ (g.ok _ m).2⟩,pf d⟩
theorem tL{Q:List Value->Shared->Prop}(it:Addr){T:String}{items:Array Value}(f:T = "list" ∨ T = "tuple")(c:s.heap.get? it=some o)(i:o.cls = .type T)(hd:o.data = .seq items k)(g:∀h':Heap,(∀b a,s.heap.get? b=some a->h'.get? b=some a)->s.heap.objs.size<=h'.objs.size->Q items.toList { s with heap:=h' })(hsz:items.size<=sizeLine):wpAny (model prog w) A (collect (.ref it)) Q E s :=
 cV (wpAny_collect_seq (hsz:=hsz) it f c i hd λh' d e=>g h' d e.h)
theorem rg{R:Result->Shared->Prop}(l:Addr)(o:Obj)(items:Array Value)(n:Nat)(k:o.cls = .type "list")(hd:o.data = .seq items n)(hsz:items.size<=sizeLine)(c:s.heap.get? l=some o)(h:∀h':Heap,(∀b j,s.heap.get? b=some j->h'.get? b=some j)->s.heap.objs.size<=h'.objs.size->R (.ok (.ret (.ref h'.objs.size))) { s with heap:=h'.push { cls:=.type "tuple",data:=.seq items } }):
  wpAny (model prog w) A.in1 (Builtin.«tuple.__new__» ⟨[.type "tuple",.ref l],[]⟩) (λfin s'=>match fin with | .done f=>R (.ok f) s' | .again c'=>c'.quiet=true/\codeAny (model prog w) A c' R s') (λe s'=>R (.error e) s') s:=by
 obtain⟨r,g,d,tk,os⟩:=s
 have i:=sub_tuple_self
 have a:=init_tuple_lookup
 have m:=madeHere_tuple
 have q:Shared.TypeIs ⟨r,g,d,tk,os⟩ (.ref l) "list" := ⟨o,c,k⟩
 wp_walk using wpAny_loadPart' c,iP q,tL (hsz:=hsz) l (.inl rfl) c k hd
 intro h' p hz
 refine(?_:wpAny _ _ (Builtin.Tuple.tupleExact items.toList.toArray >>= λv=>ret v) _ _ _)
 refine aa (dQ ?_ (by show items.toList.toArray.size<=sizeLine;simpa using hsz))
 refine ac ?_
 exact h h' p hz
theorem l6(hz:Ts.length<=sizeLine):aM W n (.type "tuple") [bw Ts] [] (bH Ts):=λA O s vs ks u g r hK=>by
 obtain⟨v,rfl,⟨f,⟨a,c,rfl,p⟩,d⟩⟩:=r.a1
 have t:Meets (Builtin.«tuple.__new__» ⟨[.type "tuple",.ref a],[]⟩) (λx R s=>s.heap.get? a=some { cls:=.type "list",dict:=none,data:=.seq f.toArray c,slots:=#[] }/\∀h':Heap,(∀b k,s.heap.get? b=some k->h'.get? b=some k)->s.heap.objs.size<=h'.objs.size->R (.ok (.ret (.ref h'.objs.size))) { s with heap:=h'.push { cls:=.type "tuple",data:=.seq f.toArray } }) :=
  λprog w A R s h=>rg a _ f.toArray c rfl rfl (by rw[e7,ay.len d];exact hz) h.1 h.2
 refine callType_new F.called_tuple (by decide) (F.typeCall_tuple_1 _) (F.newCall_tuple_1 _) (λobj=>F.args_object_init_2 obj _) F.entry_tuple_new t ⟨af p,λh' q i=>⟨⟨_,bf _ rfl,rfl⟩,?_⟩⟩
 have l:∀b o,s.heap.get? b=some o->(h'.push { cls:=.type "tuple",data:=.seq f.toArray }).get? b=some o:=λb o e=>aV _ (q b o e)
 have hsz:s.heap.objs.size<=(h'.push { cls:=.type "tuple",data:=.seq f.toArray }).objs.size:=ae i zP
 have g':G W { s with heap:=h'.push { cls:=.type "tuple",data:=.seq f.toArray } }:=g.g.step (tk:=s.toks) l hsz
 have j:aF s { s with heap:=h'.push { cls:=.type "tuple",data:=.seq f.toArray } }:=aF.step (tk:=s.toks) l hsz
 refine⟨g',j,f,⟨_,0,rfl,aK (bf _ rfl) λm=>?_⟩,ay.mono (j.vle0 _) d⟩
 exact aw.mpr i (g.ok _ m).2
noncomputable def tEx{ι:Type}(Ψ:ι->Prop)(f:ι->Ty):Ty:=⟨λV v=>∃i,Ψ i/\(f i).p V v,λh=>ir λi a b=>⟨i,a,(f i).mono h b⟩⟩
theorem EY{a:Type}{M:Model}{Q:a->Shared->Prop}{b:Bool}{x y:Sem a}(c:b=true)(h:wpAny M A x Q E s):wpAny M A (if b=true then x else y) Q E s:=by refine ifP c ?_;exact h
theorem Gw{d:Type}{c:Bool}{a b:Sem d}{Q:d->Shared->Prop}(h:c=false)(x:wpAny (model prg w) A b Q E s):wpAny (model prg w) A (if c=true then a else b) Q E s:=by
 subst h;exact x
theorem AL(a:s.TypeIs v "set"):wpAny (model prg W.w) A (Builtin.List.listLengthHint v) (λc s'=>s'=s) Nev s:=by
 refine aa (eM a F.slot_set_len.lookup ?_)
 have b:splitId "set.__len__" = some ("set", "__len__"):=by decide +kernel
 generalize splitId "set.__len__" = z at b
 subst b
 refine aa (m:=isInstance v (.type "set")) (eQ a mU ?_)
 refine Gw rfl ?_
 refine EY (by with_unfolding_all rfl) ?_
 exact aa (m:=typeOf v) (iP a (ac rfl))
theorem u1:aM W (n+3) (.type "list") [tS W l] [] (tEx (λr:List Nat=>r.Perm l) λr=>bw (r.map ag)):=λA O s vs ks Z g hT hK=>by
 obtain⟨v,rfl,⟨a,o,rfl,q,d⟩⟩:=hT.a1
 have hl:l.length<=4:=c9 d.2.2.sub
 refine callType_codes (Q₁:=λobj s₁=>obj = .ref s.heap.objs.size/\s₁={ s with heap:=s.heap.push (eh [] 0) }) F.called_list (F.typeCall_list_1 _) F.entry_list_init (code_list_new _ ⟨rfl,rfl⟩) λobj s₁ H=>?_
 obtain⟨rfl,rfl⟩:=H
 have c:=tH g (eh [] 0) s.toks
 obtain⟨E,L,no⟩:=bJ g (eh [] 0) s.toks
 have I:(s.heap.push (eh [] 0)).get? s.heap.objs.size=some (eh [] 0):=bf _ rfl
 have U:s.heap.objs.size≠a:=cE (aO (af q))
 refine⟨⟨_,I,rfl⟩,F.args_list_init_2 _ _,?_⟩
 show wpAny _ A.in1.in1 (do let old ← Builtin.List.listItems (.ref s.heap.objs.size);Builtin.List.listUpdate (.ref s.heap.objs.size) (λS=>#[]);letGo old.toList.reverse;Builtin.List.listExtendWith (.ref s.heap.objs.size) (.ref a) .none) _ _ _
 refine aa ?_
 refine aa (wpAny_seqItems I rfl (ac ?_))
 refine(?_:wpAny _ _ (updateSeq s.heap.objs.size (λS=>#[]) >>= λS=>letGo (#[]:Array Value).toList.reverse >>= λS=>Builtin.List.listExtendWith (.ref s.heap.objs.size) (.ref a) .none) _ _ _)
 refine aa (kR I rfl ?_ (dT _) (dT _))
 have B:=dH (s.heap.push (eh [] 0)) s.heap.objs.size (Obj.mapSeq (λS=>(#[]:Array Value)))
 have i:=et (Obj.mapSeq (λS=>(#[]:Array Value))) I rfl
 have C:s.heap.objs.size∈O++[s.heap.objs.size]:=al _ (.head _)
 have w:ak ⟨[s.heap.objs.size],[]⟩ { s with heap:=s.heap.push (eh [] 0) } { s with heap:=(s.heap.push (eh [] 0)).update s.heap.objs.size (Obj.mapSeq (λS=>(#[]:Array Value))) }:=j5 (F:=⟨[s.heap.objs.size],[]⟩) (s:={ s with heap:=s.heap.push (eh [] 0) }) B (.head _)
 have D:G W { s with heap:=(s.heap.push (eh [] 0)).update s.heap.objs.size (Obj.mapSeq (λS=>(#[]:Array Value))) }:=E.upd (s:={ s with heap:=s.heap.push (eh [] 0) }) (tk:=s.toks) (c.ok _ C).1 B (.inl ⟨_,I,λS S=>nD⟩)
 have f:GO W (O++[s.heap.objs.size]) { s with heap:=(s.heap.push (eh [] 0)).update s.heap.objs.size (Obj.mapSeq (λS=>(#[]:Array Value))) }:=⟨D,λb m=>⟨(c.ok b m).1,aA (c.ok b m).2 w.siz⟩,c.top⟩
 have Y:Vle (am s.heap O) (am ((s.heap.push (eh [] 0)).update s.heap.objs.size (Obj.mapSeq (λS=>(#[]:Array Value)))) (O++[s.heap.objs.size])):=(lm _).trans (cm C B)
 have x:aF s { s with heap:=(s.heap.push (eh [] 0)).update s.heap.objs.size (Obj.mapSeq (λS=>(#[]:Array Value))) }:=ak.of_ext (M:=⟨[],[]⟩) (M':=⟨[s.heap.objs.size],[]⟩) L ⟨λb m=>.inr (by rw[ah.mp m];exact aB _),λS m=>absurd m av⟩ w
 generalize z:({ s with heap:=(s.heap.push (eh [] 0)).update s.heap.objs.size (Obj.mapSeq (λS=>(#[]:Array Value))) }:Shared)=s₂ at *
 have y:(s.heap.push (eh [] 0)).update s.heap.objs.size (Obj.mapSeq (λS=>(#[]:Array Value)))=s₂.heap:=by rw[← z]
 rw[y] at i Y
 refine aa (kP ?_)
 have k:(tS W l).p (am s₂.heap (O++[s.heap.objs.size])) (.ref a):=(tS W l).mono Y ⟨a,o,rfl,q,d⟩
 have N:s₂.TypeIs (.ref a) "set" := ⟨o,x.obj' (af q) (mn d.2.2),d.1⟩
 refine pe (n:=n) (A:=A.in1) (T := "set") (F₀:=⟨[],[]⟩) (Θ:=λTs=>∃r:List Nat,r.Perm l/\Ts=r.map ag) (Z.in1.le oE) f C (by rw[i];rfl) N (by decide) (by decide) (λe=>by injection e with e;exact U e.symm) (by simp) ?_ (λt S h3=>AL h3) λs' Ts ws c' R g' k' hg ha=>?_
 ·refine ad ((tw (n:=n) bS).its (tgt:=nmT) A.in1.in1 _ s₂ _ (Z.in1.in1.le (bY n)) f k) (λit t h=>?_) az
  obtain⟨Fi,Ts,⟨r,P,rfl⟩,K,j,u,J,hit,S⟩:=h
  refine⟨Fi,[],_,⟨r,P,rfl⟩,?_,K,j,u,⟨hit,λb m=>al _ m,J⟩,by simp,?_,λb ob e hn=>?_⟩
  ·rw[a0,P.length_eq];exact ae hl (by decide)
  ·obtain⟨ob,e1,e2⟩:=N
   obtain⟨Q,V,X⟩:∃Q,t.heap.get? a=some Q/\Q.cls = .type "set" := ⟨o,j.obj' (x.obj' (af q) (mn d.2.2)) (mn d.2.2),d.1⟩
   exact⟨Q,V,X⟩
  ·refine aK (j.obj' (af e) hn) λm=>?_
   rcases aj.mp m with m | m
   ·exact a8 e m
   ·exact(u.a b m).elim (λh=>absurd h av) λh=>aw.mpr h (aO (af e))
 ·obtain⟨r,P,rfl⟩:=R
  refine⟨rfl,g',?_,r,P,ws,⟨_,c',rfl,aK hg (λm=>no m)⟩,ay.mono (bG λb m=>aq _ m) ha⟩
  exact ak.of_ext (M:=⟨[],[]⟩) (M':=⟨[]++[s.heap.objs.size],[]⟩) x ⟨λb m=>.inr (by have m:b∈[s.heap.objs.size]:=m;rw[ah.mp m];exact aB _),λS m=>absurd m av⟩ k'
theorem Hy:typeOf (.type "set")=pure (.type "type"):=by kernel_rfl
theorem Hz(W:Wc):findCls W.K (.type "set") (.type "type") (Str.ofString "intersection")=some (.val (.builtin "set.intersection")):=by kernel_rfl
theorem HA:handedIn (.builtin "set.intersection")=true:=by kernel_rfl
theorem AM{a:Bool}(g:GO W O s)(h:Q (.builtin "set.intersection") { s with toks:=s.toks+1 }):wpAny (model prg W.w) A (getAttr (.type "set") "intersection" a) Q E s :=
 cls_open (K:=W.K) (mc:=.type "type") (hook:=none) g.g.kin (cR (by kernel_rfl)) (cR Hy) type_tga (looks_hook g.g.kin (r:=none) (by rfl)) (by show subIn W.K _ _=_;rfl) (Hz W)
  (ac (by show wpAny _ _ (handedOut (.builtin "set.intersection")) _ _ _;rw[handedOut_of HA];exact ac h))
theorem u2(a:Value):argsOk "set.intersection" ⟨[a],[]⟩:=by unfold argsOk;kernel_rfl
theorem u4(a b:Value):argsOk "set.intersection" ⟨[a,b],[]⟩:=by unfold argsOk;kernel_rfl
theorem u7(a b c:Value):argsOk "set.intersection" ⟨[a,b,c],[]⟩:=by unfold argsOk;kernel_rfl
def rh:List (List Nat)->List Nat
 | []=>[]
 | l::ls=>ls.foldl aQ l
theorem gL.go(N:gL W s l s')(b:GO W O s):GO W O s'/\aF s s'/\s.heap.objs.size∉O:=by
 obtain⟨h',rfl⟩:=N.eq
 have z:s.heap.objs.size<=h'.objs.size:=ae (bY _) (aH N.siz.symm)
 have k:aF s { s with heap:=h' }:=aF.step (tk:=s.toks) N.keep z
 exact⟨⟨b.g.step (tk:=s.toks) N.keep z,λa m=>⟨(b.ok a m).1,aA (b.ok a m).2 k.siz⟩,b.top⟩,k,λm=>bz _ (b.ok _ m).2⟩
theorem wK(K:SetCls W c)(f:Value->Value->Sem (ForInStep Value))(hf:∀x r,f x r=(do let result ← holding [r] (do Builtin.Frozenset.intersection "frozenset.intersection" (← Builtin.Frozenset.addrOf r) x);pure (.yield result))):
  ∀(d:List (List Nat)) (vs:List Value) (l:List Nat) (a:Addr) (o:Obj) (c':Value) (s:Shared),SetCls W c'->GO W O s->(am s.heap O) a=some o->f4 c' (ld W) l o->ay (am s.heap O) (d.map λl=>fy c (ld W) l) vs->(c' = .type "set" ∨ d≠[]) ->
   wpAny (model prg W.w) A (forIn vs (Value.ref a) f) (Res W O s (tS W (d.foldl aQ l))) Nev s:=by
 intro d
 induction d with
 | nil =>
  intro vs l a o c' s u e i hs k y
  have E:=ay.nil_iff k
  subst E
  rcases y with rfl | h
  ·exact ac ⟨e.g,aF.refl s,a,o,rfl,i,hs⟩
  ·exact absurd rfl h
 | cons l' d ih =>
  intro vs l a o c' s u e i hs k y
  obtain⟨v,r,rfl,⟨b,ob,rfl,B,n⟩,z⟩:=ay.cons_iff k
  rw[mE,hf]
  refine aa (aa (aP (aa (m:=Builtin.Frozenset.addrOf (.ref a)) (ac ?_))))
  refine sG e.g.kin u K (af i) hs (af B) n λs' N=>ac ?_
  obtain⟨p,t,C⟩:=N.go e
  obtain⟨D,j,q⟩:=N.new
  refine ad (ih r (aQ l l') _ D (.type "set") s' jQ p (aK j C) q (ay.mono (t.vle0 _) z) (.inl rfl)) (λv s'' h=>?_) az
  exact⟨h.1,t.trans h.2.1,h.2.2⟩
theorem AN{b:List (List Nat)}(K:SetCls W c)(I:b≠[])(u:b.length<=3):aM W n (.builtin "set.intersection") (b.map λl=>fy c (ld W) l) [] (tS W (rh b)):=λA O s vs ks L g H hK=>by
 cases b with
 | nil=>exact absurd rfl I
 | cons l b =>
  obtain⟨v,r,rfl,⟨a,o,rfl,k,hs⟩,f⟩:=ay.cons_iff H
  have e:r.length=b.length:=by have:=ay.len f;simpa using this
  have d:argsOk "set.intersection" ⟨.ref a::r,[]⟩:=by
   rw[hG] at u
   rcases r with _ | ⟨x,_ | ⟨y,_ | ⟨z,q⟩⟩⟩
   ·exact u2 _
   ·exact u4 _ _
   ·exact u7 _ _ _
   ·exact absurd (ae (aH (aY (· + 1) e)) u) (kT.mpr (jc 4 q.length))
  have p:ks=[]:=ay.nil_iff hK
  subst p
  refine lf (nm := "intersection") (by decide +kernel) ke (by decide +kernel) (by decide +kernel) d g.g.kin K (af k) hs.1 ?_
  refine aa (m:=_) (ac (a:=(a,r)) ?_)
  cases b with
  | nil =>
   have D:=ay.nil_iff f
   subst D
   refine(?_:wpAny _ A.in1 (rule "frozenset.intersection.no-others" >>= λG=>Builtin.Frozenset.copyOf a >>= λv=>ret v) _ _ s)
   refine aa (da ?_)
   refine aa (qU g.g.kin K (af k) hs λs' N=>?_)
   obtain⟨i,F,B⟩:=N.go g
   obtain⟨C,j,t⟩:=N.new
   exact ac ⟨_,rfl,i.g,F,_,C,rfl,aK j B,t⟩
  | cons l' b =>
   obtain⟨v,w,rfl,J,E⟩:=ay.cons_iff f
   show wpAny _ A.in1 (forIn (v::w) (Value.ref a) (λo __s=>do let result ← holding [__s] (do Builtin.Frozenset.intersection "frozenset.intersection" (← Builtin.Frozenset.addrOf __s) o);pure (ForInStep.yield result)) >>= λr=>ret r) _ _ s
   refine aa (ad (wK K _ (λG G=>rfl) (l'::b) (v::w) l a o c s K g k hs f (.inr (by simp))) (λv s' h=>?_) az)
   exact ac ⟨v,rfl,h⟩
theorem AO(a:s.TypeIs v "generator"):wpAny (model prg W.w) A (Builtin.List.listLengthHint v) (λb s'=>s'=s) Nev s:=by
 refine aa (eM a F.gen_no_len ?_)
 refine(?_:wpAny _ A (specialOf v (Str.ofString "__length_hint__") >>= _) _ _ _)
 refine aa (eM a F.gen_no_hint ?_)
 exact ac rfl
theorem u8{P:List Addr}(M:n'<=n)(U:aU W A (n+1))(I:GO W O s)(src:Src W n' it P Ts F₀ O s)(self:xX W n' it F₀ s)(obj:∃a o,it = .ref a/\s.heap.get? a=some o/\o.cls = .type "generator" /\ a∈F₀.a)(hP:∀p∈P,p<s.heap.objs.size/\p∉F₀.a)(hz:Ts.length<=sizeLine):wpAny (model prg W.w) A (collect it) (λvs s'=>G W s'/\ak F₀ s s'/\ay (am s'.heap O) Ts vs) Nev s:=by
 refine uf obj λa o E N Y ha=>?_
 obtain rfl:=E
 have fin:∀s' i c',G W s'->ak ⟨F₀.a++[s.heap.objs.size],F₀.g⟩ { s with heap:=s.heap.push (eh [] 0) } s'->s'.heap.get? s.heap.objs.size=some (eh i c')->ay (am s'.heap (O++[s.heap.objs.size])) Ts i ->
   wpAny (model prg W.w) A (match Value.ref s.heap.objs.size with
    | Value.ref a=>do
     match(← load a).data with
      | Data.seq xs _=>pure xs.toList
      | _=>unsupported "internal:collect"
    | _=>unsupported "internal:collect") (λvs s'=>G W s'/\ak F₀ s s'/\ay (am s'.heap O) Ts vs) Nev s':=λs' i c' g' k q c=>by
  refine(?_:wpAny _ A (load s.heap.objs.size >>= _) _ _ s')
  refine aa (kG q (ac ⟨g',?_,?_⟩))
  ·refine dn (bJ I (eh [] 0) s.toks) λv d v=>?_
   refine ak.of_ext (M':=⟨F₀.a++[s.heap.objs.size],F₀.g⟩) (ak.ofK d) ⟨λb m=>?_,λv=>.inl⟩ k
   rcases aj.mp m with m | m
   ·exact .inl m
   ·exact .inr (by rw[ah.mp m];exact aB _)
  ·refine(?_:ay _ Ts i.toArray.toList)
   exact ay.mono (bG λb m=>aq _ m) c
 refine aa (wpAny_runValue (cM F.entry_proto_collect ?_))
 refine(?_:wpAny _ A.in1 (newList [] >>= λl=>again (.builtin "list.__iadd__" ⟨[l,.ref a],[]⟩)) _ _ s)
 refine aa (dQ ?_ (cL rfl))
 refine ac ⟨eD F.plain_list_iadd _,cM F.entry_list_iadd ?_⟩
 refine(?_:wpAny _ A.in1 (Builtin.List.listExtendWith (.ref s.heap.objs.size) (.ref a) (.ref s.heap.objs.size)) _ _ _)
 have j:=tH I (eh [] 0) s.toks
 refine dn (bJ I (eh [] 0) s.toks) λu d no=>?_
 have X:(s.heap.push (eh [] 0)).get? s.heap.objs.size=some (eh [] 0):=bf _ rfl
 have J:s.heap.objs.size≠a:=cE (aO N)
 have B:s.heap.objs.size∉F₀.a:=λm=>bz _ (src.inb.a _ m).2
 have x:Shared.TypeIs { s with heap:=s.heap.push (eh [] 0) } (.ref a) "generator" := ⟨o,aV _ N,Y⟩
 refine ad (pe (n:=n') (A:=A) (T := "generator") (F₀:=F₀) (Θ:=λUs=>Us=Ts) (res:=.ref s.heap.objs.size) (R:=λr s'=>r = .ok (.ret (.ref s.heap.objs.size))/\∃i c',G W s'/\ak ⟨F₀.a++[s.heap.objs.size],F₀.g⟩ { s with heap:=s.heap.push (eh [] 0) } s'/\s'.heap.get? s.heap.objs.size=some (eh i c')/\ay (am s'.heap (O++[s.heap.objs.size])) Ts i) (U.le (aX M 1)) j (al _ (.head _)) X x (by decide) (by decide) (λe=>by injection e with e;exact J e.symm) B ?_ (λL v h3=>AO h3) λs' Us i c' H g' k q c=>?_) (λf s' h=>?_) (λer s' h=>?_)
 ·refine ad (self W.frs A.in1 { s with heap:=s.heap.push (eh [] 0) } _ (U.in1.le M) j (d.stays (λv v=>av) (λv v=>av))) (λv s₂ y=>?_) az
  refine ck y λD C=>?_
  obtain rfl:=D
  obtain rfl:=C
  have t:InB W F₀ { s with heap:=s.heap.push (eh [] 0) }:=⟨λa m=>⟨(src.inb.a a m).1,aA (src.inb.a a m).2 d.siz⟩,λa m=>src.inb.g a m⟩
  have Q:Vle (am (s.heap.push (eh [] 0)) (O++[s.heap.objs.size])) (am (s.heap.push (eh [] 0)) ((O++[s.heap.objs.size])++F₀.a)):=bG λb m=>by
   rcases aj.mp m with m | m
   ·exact m
   ·exact aq _ (src.sub b m)
  exact⟨F₀,P,Ts,rfl,hz,u,ak.refl _ _,Ext.refl _ _,⟨src.itr.move (d.stays (λv v=>av) (λv v=>av)) (d.stays (λv v=>av) (λv v=>av)) ((lm _).trans Q),λb m=>al _ m,t⟩,λm=>bz _ (hP _ m).1,x,Q⟩
 ·subst H
  exact⟨rfl,i,c',g',k,q,c⟩
 ·cases f with
  | done f =>
   obtain⟨Z,i,c',g',k,q,c⟩:=h
   cases Z
   exact fin s' i c' g' k q c
  | again c'=>exact⟨h.1,bN h.2 λr s'' V=>by
    refine ck V λK z=>?_
    obtain rfl:=K
    refine uf z λi c' g' k q c=>?_
    exact fin s'' i c' g' k q c⟩
 ·exact absurd h.1 (by simp)
theorem CL{o e:Expr}{name:Str}{apos pos spos:Pos}{fv:Value}{Ts:List Ty}{R:Ty}{Θ:List Ty->Prop}{To:Ty}(hn:n'<=n)(ho:EvP W C Γ (n+2) o To)(Y:∀A O s v (Q:Value->Shared->Prop),GO W O s->To.p (am s.heap O) v->Q fv { s with toks:=s.toks+1 }->wpAny (model prg W.w) A (getAttr v name true) Q Nev s)(N:∀h,W.K.In h->Looks (model prg W.w) h (keeperOf fv) .machine)(hit:iq W C Γ (n+2) n' nmT e Θ)(T:∀Us,Θ Us->Us.length<=sizeLine/\aM W (n+2) fv Us [] R)(he:autoParam (∀env,eval (.Call (.Attribute o name apos) [.Starred e spos] [] pos) env=(do
   let H ← eval o env
   standAt apos.atName
   let(f,first) ← holding [H] (do pure (← getAttr H name true,[]))
   let p ← pure pos
   callWith p f first (backTo pos (starEach [.Starred e spos] env)) (backToKw pos (keywordEach [] env)))) q_R)(hs:autoParam (∀env,starEach [.Starred e spos] env=(true,eval e env)::starEach [] env) q_R):EvP W C Γ (n+2) (.Call (.Attribute o name apos) [.Starred e spos] [] pos) R:=λA env O M s F I=>by
 refine(he env) ▸ ?_
 refine aa (ad (ho A env O M s F I) (λH s₁ i=>aa (ct ?_)) az)
 have d:=i.then I
 refine aa (aP (aa (Y A _ s₁ H _ d.go i.2.2 (ac (aa (ac ?_))))))
 have j:Inv W C env Γ O M { s₁ with toks:=s₁.toks+1 }:=d.keep aF.tok d.g.tok
 rw[hs]
 show wpAny _ A (callWith pos fv [] [(true,do let v ← eval e env;standAt pos;pure v)] []) _ _ _
 refine aa (aP ?_)
 refine aa ?_
 refine aa ?_
 refine ad (hit A env O M _ F j) (λit s₂ B=>?_) az
 refine aa (ct ?_)
 refine ac ?_
 refine aa (ac ?_)
 obtain⟨Fi,P,Us,hU,l,k,q,t,hP,U,self,obj⟩:=B
 refine ck (T Us hU) λhz hc=>?_
 have x:=j.keep k l
 have fr:∀a∈Fi.a,s₁.heap.objs.size<=a:=λa m=>(q.a a m).elim (λh=>absurd h av) id
 have go:GO W ((O++M.a)++Fi.a) s₂:=⟨l,λa m=>(aj.mp m).elim (λm=>x.up a m) λm=>t.a a m,x.go.top⟩
 have z:=obj
 refine uf z λa og V a1 Z c2=>?_
 obtain rfl:=V
 have X:s₂.TypeIs (.ref a) "generator" := ⟨og,a1,Z⟩
 refine aP ?_
 refine ifP (by rfl) ?_
 refine aa (m:=evalAll _) (ac ?_)
 refine aa ?_
 refine aa ?_
 refine aa (eM X slot_gen_iter.lookup ?_)
 refine ac ?_
 refine ifZ (by decide) ?_
 refine aP ?_
 have L:∀p∈P,p<s₂.heap.objs.size/\p∉Fi.a:=λp hp=>⟨aA (hP p hp) k.siz,λm=>aw.mpr (fr p m) (hP p hp)⟩
 refine ad (u8 (n:=n+1) (iO hn) F go ⟨U,λa m=>al _ m,t⟩ self obj L hz) (λvs b y=>?_) az
 refine dn y λu E J=>?_
 refine ac ?_
 refine aa (ct ?_)
 have kk:aF s b:=i.2.1.trans ((aF.tok (s:=s₁) (tk:=s₁.toks+1)).trans (k.of_ext q E))
 have D:=I.keep kk u
 refine aa ((N _ u.kin).here ?_)
 refine(?_:wpAny _ A (operate _ (call fv ([]++vs) []) >>= λr=>holding [r] point >>= λG=>pure r) _ _ b)
 refine aa (jA ?_)
 refine ad (hc A _ b vs [] F D.go (ay.mono (bG λa m=>aq _ m) J) trivial) (λr a3 c=>?_) az
 refine aa (aP (wpAny_point (ac ?_)))
 exact⟨c.1,kk.trans c.2.1,c.2.2⟩
theorem u9{Ψ:List (List Nat)->Prop}(K:SetCls W c)(q:n'<=n)(o:EvP W C Γ (n+2) (.Name x xp) (aE (.type "set")))(hit:iq W C Γ (n+2) n' nmT e (λUs=>∃a,Ψ a/\Us=a.map λl=>fy c (ld W) l))(b:∀a,Ψ a->a≠[]/\a.length<=3/\rh a=l)(m:autoParam (∀env,eval (.Call (.Attribute (.Name x xp) "intersection" apos) [.Starred e spos] [] pos) env=(do
   let ov ← eval (.Name x xp) env
   standAt apos.atName
   let(f,first) ← holding [ov] (do pure (← getAttr ov "intersection" true,[]))
   let p ← pure pos
   callWith p f first (backTo pos (starEach [.Starred e spos] env)) (backToKw pos (keywordEach [] env)))) q_R)(hs:autoParam (∀env,starEach [.Starred e spos] env=(true,eval e env)::starEach [] env) q_R):EvP W C Γ (n+2) (.Call (.Attribute (.Name x xp) "intersection" apos) [.Starred e spos] [] pos) (tS W l) :=
 CL (fv:=.builtin "set.intersection") (Ts:=[]) q o (λA O s v Q g d k=>by
  have d:v = .type "set" := d
  subst d
  exact AM g k) (λh X=>cR rfl) hit (λUs=>ir λa i e=>by
  refine dn (b a i) λt j r=>?_
  subst e
  refine⟨by rw[a0];exact ae j (by decide),?_⟩
  rw[← r]
  exact AN K t j) m hs
theorem vc{I:Addr}{c:Nat}:xJ W n I "list_iterator" Ts (λi h=>h.IsListIter I a i) (λV=>V a=some (eh vs c)/\ay V Ts vs) :=
 ⟨λi h h'=>jK λo m g hd k=>⟨o,k o m (ik (by rw[g];simp) (by refine hd ▸ ?_;intro y y z;cases z)),g,hd⟩,λi h=>jK λo m g hd=>⟨o,m,g,_,hd⟩,λV V' q=>And.elim λa b=>⟨q _ _ a rfl,ay.mono q b⟩,λi T w l r s' H' d g' p f e=>by
  obtain⟨v,u,s⟩:=ay.get e.2 w
  exact pS f (items:=vs.toArray) ⟨_,af e.1,rfl,c,rfl⟩ (x:=v) (by simpa using u) λh' j hs=>⟨v,h',s'.toks,rfl,rfl,hs,j,s⟩,
 λi l r s' H' d g' f=>pT f ⟨rfl,rfl⟩,
 λl r s' H' d g' p f e=>pU d.hd f (items:=vs.toArray) ⟨_,af e.1,rfl,c,rfl⟩ (by rw[← ay.len e.2];simp) λh' t=>⟨rfl,h',s'.toks,rfl,t⟩⟩
inductive AP(W:Wc)(O:List Addr)(Ts:List Ty)(s:Shared)(it:Value)(s':Shared):Prop
 | mk (I a:Addr) (c:Nat) (vs:List Value) (e:it = .ref I) (g:G W s') (k:aF s s') (hI:s.heap.objs.size<=I) (ho:s'.heap.get? I=some { cls:=.type "list_iterator",dict:=none,data:=.fields #[.ref a,.int 0 0],slots:=#[] }) (hv:am s'.heap (O++[I]) a=some (eh vs c)) (ha:ay (am s'.heap (O++[I])) Ts vs)
noncomputable def ri(W:Wc)(n:Nat)(T:Ty)(Ts:List Ty):Prop:=∀A O s v,aU W A n->GO W O s->T.p (am s.heap O) v->wpAny (model prg W.w) A (pyIter v) (AP W O Ts s) Nev s
theorem wL:ri W n (bw Ts) Ts:=λA O s v i g e=>by
 obtain⟨vs,⟨b,c,rfl,a⟩,d⟩:=e
 obtain⟨g',f,h⟩:=bJ g { cls:=.type "list_iterator",dict:=none,data:=.fields #[.ref b,.int 0 0],slots:=#[] } s.toks
 exact pR (items:=vs.toArray) ⟨_,af a,rfl,c,rfl⟩ ⟨_,b,c,vs,rfl,g',f,aB _,bf _ rfl,lm _ _ _ a rfl,ay.mono (lm _) d⟩
theorem ri.its(h:ri W n T Ts):kn W n tgt T (λUs=>Us=Ts):=λA O s v x g u=>by
 refine ad (h A O s v x g u) (λit s' h'=>?_) az
 obtain⟨I,a,c,vs,rfl,g',t,q,p,y,r⟩:=h'
 have f:s'.heap.IsListIter I a 0:=⟨_,p,rfl,rfl⟩
 have i:=aO p
 refine⟨⟨[I],[]⟩,Ts,rfl,g',t,⟨λb m=>.inr (by rw[ah.mp m];exact q),λb m=>absurd m av⟩,⟨λb m=>by rw[ah.mp m];exact⟨ae g.g.siz q,i⟩,λb m=>absurd m av⟩,?_,?_⟩
 ·exact Ag vc (by decide +kernel) Ts 0 _ _ rfl (dT _) f (al _ (.head _)) ⟨y,r⟩
 ·have d:xJ W n I "list_iterator" Ts _ _:=vc (a:=a) (c:=c) (vs:=vs)
  exact λl w s'' H' j k z=>d.self 0 l w s'' H' j k (d.stay 0 _ _ f λo e nt=>z.a I (.head _) o e nt)
noncomputable def wM(Ts:List Ty):OTy:=⟨λV o=>∃a c vs,o={ cls:=.type "list_iterator",dict:=none,data:=.fields #[.ref a,.int 0 0],slots:=#[] }/\V a=some (eh vs c)/\ay V Ts vs,λh=>F9 λa c vs e x y=>⟨a,c,vs,e,h _ _ x rfl,ay.mono h y⟩⟩
theorem CM{c:Type}{M:Model}{Q:c->Shared->Prop}{a:c}(h:∀b,Q b s):wpAny M A (pure a) Q E s:=ac (h a)
theorem AQ(h:wpAny (model prg W.w) A.in1.in1 (pyIter v) (λit s₂=>∃I,it = .ref I/\Q (.ref s₂.heap.objs.size) { s₂ with heap:=s₂.heap.push { cls:=.type "enumerate",data:=.fields #[.none,.bool false,it,rawInt 0,.none,.none] } }) Nev s):wpAny (model prg W.w) A (call (.type "enumerate") [v]) Q Nev s:=by
 refine callType_codes (Q₁:=λobj s₁=>s₁.TypeIs obj "enumerate" /\ Q obj s₁) F.called_enumerate (F.typeCall_enumerate_1 _) F.entry_object_init (iN F.called_enumerate.plain F.entry_enumerate_new (bR (F.newCall_enumerate_1 v) ?_)) λobj s₁ a=>⟨a.1,F.args_object_init_2 obj _,?_⟩
 ·have k:=sub_enumerate
  obtain⟨m,g,d,tk,os⟩:=s
  generalize i:pyIter=PI at h ⊢
  unfold Builtin.«enumerate.__new__»
  refine i ▸ ?_
  have c:∀(it:Value) (s₂:Shared),(∃I,it = .ref I/\Q (.ref s₂.heap.objs.size) { s₂ with heap:=s₂.heap.push { cls:=.type "enumerate",data:=.fields #[.none,.bool false,it,rawInt 0,.none,.none] } }) ->
    wpAny (model prg W.w) A.in1.in1 (do ret (← Builtin.SmallTypes.newRecord (.type "enumerate") (Builtin.SmallTypes.ownedTupleFields++[it,rawInt 0,Value.none,Value.none])))
    (λfin s'=>match fin with
     | .done f=>wants (λobj s₁=>s₁.TypeIs obj "enumerate" /\ Q obj s₁) Nev (.ok f) s'
     | .again c'=>c'.quiet=true/\codeAny (model prg W.w) A.in1 c' (wants (λobj s₁=>s₁.TypeIs obj "enumerate" /\ Q obj s₁) Nev) s')
    (λe s'=>wants (λobj s₁=>s₁.TypeIs obj "enumerate" /\ Q obj s₁) Nev (.error e) s') s₂:=λit s₂ j=>by
   obtain⟨I,rfl,j⟩:=j
   refine aa ?_
   refine(?_:wpAny _ _ (newObj (.type "enumerate") (.fields #[.none,.bool false,.ref I,rawInt 0,.none,.none])) _ _ _)
   exact dQ (ac ⟨⟨_,bf _ rfl,rfl⟩,j⟩)
  wp_walk
  refine wpAny_stack_any λl=>CM λb=>?_
  cases b
  ·wp_walk using(ad h)
   ·exact c
   ·exact λe s h=>False.elim h
  ·wp_walk using(ad h)
   ·exact c
   ·exact λe s h=>False.elim h
 ·exact object_init_meets F.called_enumerate.init.lookup F.called_enumerate.made (by decide) prg W.w A.in1 _ s₁ ⟨a.1,rfl,a.2⟩
noncomputable def lT:Nat->List Ty->List Ty
 | _,[]=>[]
 | i,T::Ts=>bH [ag i,T]::lT (i+1) Ts
theorem vf:lT i (T::Ts)=bH [ag i,T]::lT (i+1) Ts:=rfl
structure vg(e I a:Addr)(i:Nat)(s:Shared):Prop where
 en:∃old,IsEnum s.heap e I (i:Int) old
 li:s.heap.IsListIter I a i
 ne:e≠I
theorem vg.move{e I:Addr}(c:vg e I a i s)(d:bC ⟨[e,I],[]⟩ s s'):vg e I a i s':=by
 refine dK c.en λb h=>?_
 refine fG c.li λo g f hd=>?_
 exact⟨⟨b,d.a e (.head _) _ h rfl⟩,⟨o,d.a I (.tail _ (.head _)) o g (ik (by rw[f];simp) (by refine hd ▸ ?_;intro j j z;cases z)),f,hd⟩,c.ne⟩
theorem CN{U:List Expr}{x1:Nat}{tp:Pos}{e I a:Addr}{c:Nat}{vs:List Value}{d:List Ty}:∀(Ts:List Ty) (i:Nat) (H:List Addr) (s:Shared),Ts=d.drop i->i<=d.length->vg e I a i s->e∈H->I∈H->am s.heap H a=some (eh vs c)->ay (am s.heap H) d vs ->
  It W n (.Tuple U x1 tp) (.ref e) [] (lT i Ts) ⟨[e,I],[]⟩ H s:=by
 intro Ts
 induction Ts with
 | nil =>
  intro i H s hd hi hc he hI hl ha l A s' H' rm g st S J vl
  have f:=hc.move st
  refine dK f.en λb4 hE=>?_
  have w:=vl _ _ hl rfl
  have:i=d.length:=jy hi (by have:=aY List.length hd;rw[List.length_drop,kH] at this;exact Nat.le_of_sub_eq_zero this.symm)
  subst this
  refine cV (wpAny_pyNext_enum_end rm.hd hE f.li (items:=vs.toArray) ⟨_,af w,rfl,c,rfl⟩ (by rw[← ay.len ha];simp) λh' D gr=>⟨rfl,?_,?_⟩)
  ·refine g.g.fr (λb o p e=>D b o (λz=>aw.mpr (g.ok I (J I (.tail _ (.head _)))).1 (z▸p)) e) gr.h g.g.bare rfl (λL o m S C N=>⟨o,m,D L o (λz=>?_) C,?_,rfl⟩)
   ·subst z
    refine fG f.li λoI k S u=>?_
    rw[k] at C;cases C;obtain⟨es,M,q⟩:=jg N k;rw[u] at q;cases q
   ·refine i9 N λR es M Z t r=>?_
    refine⟨R,es,M,D L R (λz=>?_) Z,t,r⟩
    subst z
    refine fG f.li λoI k S u=>?_
    rw[k] at Z;cases Z;rw[u] at t;cases t
  ·exact dp (λb o p e=>D b o (λz=>p (z ▸ .tail _ (.head _))) e) (λS S S e=>e) gr.h (aB _)
 | cons T Ts ih =>
  intro i H s hd hi hc he hI hl ha l A s' H' rm g st S J vl
  have f:=hc.move st
  refine dK f.en λb4 hE=>?_
  have w:=vl _ _ hl rfl
  have X:=ay.mono vl ha
  have y:=J e (.head _)
  have E:=J I (.tail _ (.head _))
  have D:d[i]? = some T:=by
   have:=aY List.head? hd
   simpa[List.head?_drop] using this.symm
  have t:Ts=d.drop (i+1):=by
   have:=aY List.tail hd
   simpa[List.tail_drop] using this
  refine bc (ay.get X D) λv hv ht=>?_
  refine wpAny_pyNext_enum_item (items:=vs.toArray) hE f.li ⟨_,af w,rfl,c,rfl⟩ (x:=v) (by simpa using hv) f.ne λh' b2 a2 c2 hz hk=>?_
  refine⟨_,rfl,wpAny_letOwnedTupleGo_enum (s:={ s' with heap:=h',toks:=s'.toks+1 }) b2 λj P B=>?_⟩
  have a7:s'.heap.objs.size≠e:=cE (g.ok e y).2
  have k2:∀b o,b≠e->b≠I->s'.heap.get? b=some o->j.get? b=some o:=λb o h1 h2 q=>(B.2 b h1).trans (hk b o h1 h2 q)
  have K:j.objs.size=s'.heap.objs.size+1:=by rw[B.1];exact hz
  have V:j.get? s'.heap.objs.size=some { cls:=.type "tuple",dict:=none,data:=.seq [.int (i:Int) s'.toks,v].toArray 0,slots:=#[] }:=(B.2 _ a7).trans c2
  have Y:∀{b o},(b=e∨b=I)->s'.heap.get? b=some o->∀es M,o.data≠.dict es M:=λp e1 es M z=>by
   rcases p with rfl | rfl
   ·rw[hE] at e1;cases e1;cases z
   ·refine fG f.li λoI k S u=>?_
    rw[k] at e1;cases e1;rw[u] at z;cases z
  have a1:G (W.at l) { s' with heap:=j,toks:=s'.toks+1 }:=by
   refine g.g.fr (λb o p q=>k2 b o (λz=>aw.mpr (g.ok e y).1 (z▸p)) (λz=>aw.mpr (g.ok I E).1 (z▸p)) q) (by show _<=j.objs.size;rw[K];exact bY _) g.g.bare rfl (λL o m S C N=>?_)
   refine yK (jg N C) λes M Q=>?_
   have n1:L≠e:=λz=>Y (.inl z) C _ _ Q
   have n2:L≠I:=λz=>Y (.inr z) C _ _ Q
   refine⟨o,m,k2 L o n1 n2 C,?_,rfl⟩
   refine FY N λR b3 c1 Z r=>?_
   exact⟨R,b3,c1,k2 L R n1 n2 Z,r⟩
  have kx:ak ⟨[e,I],[]⟩ s' { s' with heap:=j,toks:=s'.toks+1 }:=dp (λb o p q=>k2 b o (λz=>p (z ▸ .head _)) (λz=>p (z ▸ .tail _ (.head _))) q) (λS S S q=>q) (by show _<=j.objs.size;rw[K];exact bY _) (aB _)
  have O:∀b∈H'++(⟨[e,I],[]⟩:Fp).a,b∈H':=λb m=>(aj.mp m).elim id λm=>J b m
  have F:Vle (am s'.heap H') (am j (H'++(⟨[e,I],[]⟩:Fp).a)):=λb o q hn=>aK (k2 b o (λz=>a8 q (z▸y)) (λz=>a8 q (z▸E)) (af q)) λm=>a8 q (O b m)
  refine⟨⟨[e,I],[]⟩,a1,kx,Ext.refl _ _,⟨λb m=>⟨(g.ok b (J b m)).1,by show b<j.objs.size;rw[K];exact fQ (g.ok b (J b m)).2⟩,λS m=>absurd m av⟩,?_,?_⟩
  ·refine⟨_,⟨_,0,rfl,aK V λm=>bz _ (g.ok _ (O _ m)).2⟩,⟨s'.toks,rfl⟩,T.mono F ht,trivial⟩
  ·refine ih (i+1) (H'++(⟨[e,I],[]⟩:Fp).a) { s' with heap:=j,toks:=s'.toks+1 } t (by have:=(b8.mp D).1;exact this) ⟨⟨v,?_⟩,?_,f.ne⟩ (aq _ y) (aq _ E) (F _ _ w rfl) (ay.mono F X)
   ·have:(((i+1:Nat)):Int)=(i:Int)+1:=rfl
    rw[this];exact P
   ·refine bc a2 λoI k r=>?_
    exact⟨oI,(B.2 I (gY f.ne)).trans k,r⟩
inductive Gx(W:Wc)(O:List Addr)(Ts:List Ty)(s:Shared)(v:Value)(s':Shared):Prop
 | mk (E I a:Addr) (c:Nat) (vs:List Value) (e:v = .ref E) (g:G W s') (k:aF s s') (hE:s.heap.objs.size<=E) (hI:s.heap.objs.size<=I) (h:vg E I a 0 s') (hv:am s'.heap (O++[E,I]) a=some (eh vs c)) (ht:ay (am s'.heap (O++[E,I])) Ts vs)
theorem AR{F:List Expr}{x1:Nat}{tp:Pos}(hf:EvP W C Γ (n+2) (.Name x p) (aE (.type "enumerate")))(he:EvP W C Γ (n+2) e T)(Q:ri W n T Ts)(hs:autoParam (∀env,starEach [e] env=(false,eval e env)::starEach [] env) q_R):io W C Γ (n+2) (.Tuple F x1 tp) (.Call (.Name x p) [e] [] pos) (λUs=>Us=lT 0 Ts):=λA env O M s X I=>by
 have U:wpAny (model prg W.w) A (eval (.Call (.Name x p) [e] [] pos) env) (Gx W (O++M.a) Ts s) Nev s:=by
  refine(?_:wpAny _ A (do callWith pos (← eval (.Name x p) env) [] (backTo pos (starEach [e] env)) (backToKw pos (keywordEach [] env))) _ _ s)
  refine aa (ad (hf A env O M s X I) (λv s₁ i=>?_) az)
  have V:v = .type "enumerate" := i.2.2
  subst V
  have k:=i.then I
  refine ck (ar1 he hs A env O M s₁ pos X k) λa1 a3=>?_
  refine dO (P:=KeP W (.type "enumerate")) (by rw[a1,dP];rfl) (λh p=>p) ?_
  refine bU (ns:=[]) a1 rfl (ad a3 (λvs s₂ d=>ac ⟨kt s₂ d.1,?_⟩) az)
  have t:=k.keep d.2.1 d.1
  obtain⟨v,rfl,V⟩:=d.2.2.a1
  refine AQ (ad (Q A.in1.in1 _ s₂ v X.in1.in1 t.go V) (λit f B=>?_) az)
  obtain⟨j,a,c,ws,rfl,J,r,N,L,Y,R⟩:=B
  have H:=t.keep r J
  refine dn (bJ H.go { cls:=.type "enumerate",data:=.fields #[.none,.bool false,.ref j,rawInt 0,.none,.none] } f.toks) λy K a2=>?_
  have Z:=i.2.1.trans (d.2.1.trans r)
  have D:=aO L
  have vl:Vle (am f.heap ((O++M.a)++[j])) (am (f.heap.push { cls:=.type "enumerate",data:=.fields #[.none,.bool false,.ref j,rawInt 0,.none,.none] }) ((O++M.a)++[f.heap.objs.size,j])):=λb o q hn=>aK (aV _ (af q)) λm=>by
   rcases aj.mp m with m | m
   ·exact a8 q (aq _ m)
   ·rcases aC.mp m with m | m
    ·have:=aO (af q);rw[m] at this;exact bz _ this
    ·exact a8 q (al _ m)
  exact⟨j,rfl,f.heap.objs.size,j,a,c,ws,rfl,y,Z.trans K,Z.siz,ae (i.2.1.trans d.2.1).siz N,⟨⟨.none,bf _ rfl⟩,⟨_,aV _ L,rfl,rfl⟩,cE D⟩,vl _ _ Y rfl,ay.mono vl R⟩
 refine ad U (λv s' h=>?_) az
 obtain⟨E,j,a,c,vs,rfl,g',k',hE,N,cc,Q,R⟩:=h
 refine dK cc.en λb2 u=>?_
 refine wpAny_pyIter_enum u ?_
 have b:InB W ⟨[E,j],[]⟩ s':=⟨λb m=>by
  rcases aC.mp m with m | m
  ·rw[m];exact⟨ae I.g.siz hE,aO u⟩
  ·rw[ah.mp m]
   refine bc cc.li λo L l=>?_
   exact⟨ae I.g.siz N,aO L⟩,λl m=>absurd m av⟩
 refine⟨⟨[E,j],[]⟩,_,rfl,g',k',⟨λb m=>.inr (by
  rcases aC.mp m with m | m
  ·rw[m];exact hE
  ·rw[ah.mp m];exact N),λl m=>absurd m av⟩,b,CN Ts 0 _ _ rfl (dT _) cc (al _ (.head _)) (al _ (.tail _ (.head _))) Q R,λl A' s'' H' c2 b3 st=>?_⟩
 refine dK ((cc.move st).en) λa7 z=>?_
 exact wpAny_pyIter_enum z ⟨rfl,rfl⟩
abbrev Gy(W:Wc)(O:List Addr)(s:Shared)(Q:OTy):Value->Shared->Prop:=Gq W O Q s
def lU(W:Wc)(n:Nat)(f:Value)(Ts:List Ty)(Q:OTy):Prop:=∀A O s vs,aU W A n->GO W O s->ay (am s.heap O) Ts vs->wpAny (model prg W.w) A (call f vs) (Gy W O s Q) Nev s
theorem wN{Q:OTy}(h:jS W C Γ n e Q)(p:∀L,P (.ret ⟨Γ.v,Γ.h++[(L,Q)]⟩ (aE (.ref L)))):ExP W C Γ n (.Return (some e) pos::b) P:=bT λA env O M s q I =>
 jY (ad (h A env O M s q I) (λv s₁ f=>by
  obtain⟨L,o,rfl,g,k,i,l,j,r⟩:=f
  have d:=I.give k g i l j r
  have c:Ext s M ⟨M.a++[L],M.g⟩:=⟨λa m=>(aj.mp m).imp id λm=>by rw[ah.mp m];exact i,λt=>.inl⟩
  exact⟨ak.ofK k,_,c,.ret _ _,p L,d,rfl⟩) az)
abbrev EZ(Q:OTy):ja->Prop:=λo=>match o with | .ret Γ' T=>∃L,T.le (aE (.ref L))/\(L,Q)∈Γ'.h | _=>False
theorem E0{Q:OTy}(ns:List Str)(hf:pp W.K a=some fd)(l:rW W.K C a ns=true)(hs:fd.scope=C.scope)(p:fd.body = .stmts body)(u:∀V vs,ay V Ts vs->∃binds,peek W.K ⟨prg,W.w.params⟩ (bindArgs fd ⟨vs,[]⟩)=some binds/\binds.map (·.1)=ns/\dL V binds C.names Γ.v)(f:Γ.h=[])(d:∀env,im a fd env->ExP (W.at (env::W.frs)) C Γ n body (EZ Q)):lU W (n+1) (.ref a) Ts Q:=λA O s vs M g I=>by
 have D:=gt hf l hs p
 obtain⟨binds,e,en,B⟩:=u _ vs I
 obtain⟨o,E,hd⟩:=D.here
 have t:∀x c,(x,c)∉fd.closure:=D.nc
 refine bQ (bN (iA (L:=⟨[],[]⟩) (O:=O) (Γ:=Γ) (Q:=λv s'=>Gy W O s Q v s') (QE:=Nev) M g.g E hd (dC D.code g.g.kin) e (D.ok binds en) (λx c m=>absurd m (t x c)) (by rw[D.clo];exact List.Pairwise.nil) (λx c m=>absurd m (t x c)) (λx F=>g.ok x (by simpa using F)) (λb=>nM) ?_ ?_ ?_ ?_ d ?_ ?_) λr s' h=>?_)
 ·rw[c0];exact B
 ·exact f▸(λb b=>nM)
 ·exact f▸(gb)
 ·exact f▸(λb b=>nM)
 ·intro v s' M' Γ' T k x g' j b h
  rcases h with⟨⟨L,q,y⟩,z⟩ | ⟨i,rfl⟩ | ⟨i,rfl⟩
  ·have H:v = .ref L:=q _ _ z
   obtain⟨q1,J,q2,q3,q4⟩:=j L Q y
   exact⟨L,J,H,g',k,(x.a L q1).elim (λh=>absurd h av) id,q2,q3,Q.mono (bG λb m=>(aj.mp m).elim (λm=>aq _ m) λm=>al _ (by rw[ah.mp m];exact q1)) q4⟩
  ·exact i.elim
  ·exact(i.elim id id).elim
 ·exact λb b b b b b b b b b b b i b=>i.elim
 ·exact h
theorem CO(hf:EvP W C Γ (n+1) (.Name x p) (aE (.builtin "iter")))(D:EvP W C Γ (n+1) e T)(F:ri W n T Ts)(hs:autoParam (∀env,starEach [e] env=(false,eval e env)::starEach [] env) q_R):jS W C Γ (n+1) (.Call (.Name x p) [e] [] pos) (wM Ts):=λA env O M s o I=>by
 refine(?_:wpAny _ A (do callWith pos (← eval (.Name x p) env) [] (backTo pos (starEach [e] env)) (backToKw pos (keywordEach [] env))) _ _ s)
 refine aa (ad (hf A env O M s o I) (λv s₁ d=>?_) az)
 have l:v = .builtin "iter" := d.2.2
 subst l
 have f:=d.then I
 obtain⟨t,z⟩:=ar1 D hs A env O M s₁ pos o f
 refine dO (P:=KeP W (.builtin "iter")) (by rw[t,dP];rfl) (λh p=>p) ?_
 refine bU (ns:=[]) t rfl (ad z (λvs s₂ b=>ac ⟨kb s₂ b.1,?_⟩) az)
 have k:=f.keep b.2.1 b.1
 obtain⟨v,rfl,l⟩:=b.2.2.a1
 refine kS (by decide +kernel) (by decide +kernel) kdk_entry_iter (kdk_args_iter _) ?_
 refine aa (m:=someArgs "iter" 1 2 _) (bR (a:=[v]) rfl ?_)
 refine aa (ad (F A.in1 _ s₂ v o.in1 k.go l) (λit r i=>?_) az)
 obtain⟨y,a,c,w,rfl,j,g,E,B,q,u⟩:=i
 exact ac ⟨y,_,rfl,j,d.2.1.trans (b.2.1.trans g),ae (d.2.1.trans b.2.1).siz E,B,rfl,a,c,w,rfl,q,u⟩
theorem wO{f:Addr}(hs:findIn W.K (.ref D) "__iter__" = some (some (.ref f)))(hf:isFn W.K (.ref f)=true)(z:lU W n (.ref f) [de D fs] (wM Ts)):ri W n (de D fs) Ts:=λA O s v E g r=>by
 have l:=r
 obtain⟨dx,od,⟨x,ox,rfl,a,k⟩,b,m,d,c⟩:=l
 have j:∀L m,Fr (hK W) L s.heap m->wpAny (model prg W.w) A (pyIter (.ref x)) (AP W O Ts s) Nev s:=by
  intro L m F
  refine owit_iter (K:=W.K) (C:=D) (x:=x) (L:=L) (f:=f) (h₀:=hK W) (m:=m) (ox:=ox) (od:=some od) F (qF g.g) (gu (af a) k (af b)) hs hf ?_
  refine ad (z A O s [.ref x] E g ⟨r,trivial⟩) (λw s' h=>?_) az
  obtain⟨I,o,rfl,g',t,B,q,H,y,c',vs,rfl,p,i⟩:=h
  have u:s'.TypeIs (.ref I) "list_iterator" := ⟨_,q,rfl⟩
  refine eM u slot_listiter_next.lookup ?_
  exact⟨I,y,c',vs,rfl,g',t,B,q,p,i⟩
 exact fE (qG g) λL e=>fE e λm F=>j L m F
def Eh(T:Ty)(L:Addr)(Q:OTy):Prop:=∀V V' v o,V' L=some o->Q.p V' o->(∀a o,a≠L->V' a=some o->V a=some o)->T.p V' v->T.p V v
theorem zd{Tf:Ty}{Q:OTy}(i j:Nat)(w:∀V o,V L=some o->Q.p V o->Tf.p V (.ref L))(c:Eh T L Q)(h:EvP W C ⟨Γ.v.set j (some Tf),Γ.h.eraseIdx i⟩ n e T)(l:autoParam (Γ.h[i]? = some (L,Q)) q_R)(u:autoParam (Γ.v[j]? = some (some (aE (.ref L)))) q_R):EvP W C Γ n e T:=λA env O M s z I=>by
 have y:=I.freeze l u w
 obtain⟨E,B,x,g,o,t,r,D⟩:=I.phi L Q (be l)
 refine ad (h A env O _ s z y) (λv s' h'=>?_) az
 obtain⟨g',f,q⟩:=h'
 have nL:L∉O++M.a.filter (λb=>decide (b≠L)):=λm=>(aj.mp m).elim g λm=>(aR.mp m).2 rfl
 have d:∀a,a∈O++M.a.filter (λb=>decide (b≠L))->a∈O++M.a:=λa m=>(aj.mp m).elim (λm=>aq _ m) λm=>al _ (aR.mp m).1
 refine⟨g',f,c (am s'.heap (O++M.a)) (am s'.heap (O++M.a.filter (λb=>decide (b≠L)))) v o (aK (f.obj' t r) nL) (Q.mono ((bG d).trans (f.vle0 _)) D) (λa oa k e=>aK (af e) λm=>a8 e ?_) q⟩
 rcases aj.mp m with m | m
 ·exact aq _ m
 ·exact al _ (aR.mpr ⟨m,k⟩)
theorem sI{Tf:Ty}{Q:OTy}(i j:Nat)(b:∀V o,V L=some o->Q.p V o->Tf.p V (.ref L))(h:TsP W C ⟨Γ.v.set j (some Tf),Γ.h.eraseIdx i⟩ n e q)(c:autoParam (Γ.h[i]? = some (L,Q)) q_R)(a:autoParam (Γ.v[j]? = some (some (aE (.ref L)))) q_R):TsP W C Γ n e q:=λA env O M s d I =>
 h A env O _ s d (I.freeze c a b)
theorem ze{Q:OTy}(j:∀V o,Q.p V o->o.cls≠.type "tuple"):Eh (bH (ks.map ag)) L Q:=λV V' v o f m i l=>by
 obtain⟨vs,⟨a,c,rfl,d⟩,b⟩:=l
 have g:a≠L:=λe=>by
  subst e
  rw[d] at f
  cases f
  exact j _ _ m rfl
 refine⟨vs,⟨a,c,rfl,i a _ g d⟩,?_⟩
 clear f d
 induction ks generalizing vs with
 | nil=>rw[ay.nil_iff b];exact trivial
 | cons k ks ih =>
  obtain⟨w,r,rfl,⟨t,rfl⟩,h⟩:=ay.cons_iff b
  exact⟨⟨t,rfl⟩,ih r h⟩
theorem vh{o:Expr}{id:String}{To:Ty}(j:EvP W C Γ n o To)(e:∀A O s v (pl:Sem Bool) (Q:Value×List Value->Shared->Prop),GO W O s->To.p (am s.heap O) v->Q (.builtin id,[v]) s->wpAny (model prg W.w) A (getMethod v name pl) Q Nev s)(i:dJ W C Γ n es Ts)(l:aM W n (.builtin id) (To::Ts) [] R)(k:autoParam (∀env,∃pl,eval (.Call (.Attribute o name apos) es [] pos) env=(do
   let d ← eval o env
   standAt apos.atName
   let(f,first) ← holding [d] (getMethod d name pl)
   callWith pos f first (backTo pos (starEach es env)) (backToKw pos (keywordEach [] env)))) q_P):EvP W C Γ n (.Call (.Attribute o name apos) es [] pos) R:=λA env O M s h I=>by
 obtain⟨pl,g⟩:=k env
 refine g3 (ad (j A env O M s h I) (λd s₁ a=>?_) az) g
 have c:=a.then I
 refine e A _ s₁ d pl _ c.go a.2.2 ?_
 exact ad (mf (T:=dk) (first:=[d]) (Fs:=[To]) kb i au l h c ⟨a.2.2,trivial⟩) (λm m b=>⟨b.1,a.2.1.trans b.2.1,b.2.2⟩) az
theorem AS(K:SetCls W c):aM W n (.builtin "set.union") [tS W l,fy c (ld W) l'] [] (tS W (uni l l')):=λA O s vs ks Y g D hK=>by
 obtain⟨v,w,rfl,⟨a,o,rfl,t,hs⟩,⟨b,ob,rfl,u,j⟩⟩:=D.a2
 have I:ks=[]:=ay.nil_iff hK
 subst I
 have D:s.TypeIs (.ref a) "set" := ⟨o,af t,hs.1⟩
 refine eB F.slot_set_union D pr ?_ (F.args_set_union_2 _ _)
 refine aa (m:=_) (ac (a:=(a,[Value.ref b])) ?_)
 refine aa (qU g.g.kin jQ (af t) hs λs' N=>?_)
 obtain⟨e,z,Q⟩:=N.go g
 obtain⟨r,i,f⟩:=N.new
 refine aa (aP ?_)
 simp only[List.forIn_cons,List.forIn_nil]
 have E:s'.heap.get? b=some ob:=z.obj' (af u) (mn j.2.2)
 have fin:∀(s'':Shared) q,G W s''->aF s s''->s''.heap.get? s.heap.objs.size=some q->f4 (.type "set") (ld W) (uni l l') q->Res W O s (tS W (uni l l')) (.ref s.heap.objs.size) s'':=λs'' q M X P T=>⟨M,X,_,q,rfl,aK P Q,T⟩
 by_cases k:b=a
 ·subst k
  have C:ob=o:=by have:=af u;rw[af t] at this;exact(fU this).symm
  subst C
  have U:=uN hs.2.2 j.2.2
  subst U
  have H:(Value.ref b != Value.ref b)=false:=g9 _
  refine aa ?_
  refine aa ?_
  rw[H];refine ifZ (by decide) ?_
  refine ac (ac (ac (ac ⟨_,rfl,fin s' r e.g z i ?_⟩)))
  have:uni l l=l:=(aY (λp=>(List.range 4).filter p) (funext λx=>Bool.or_self _)).trans (cO hs.2.2.sub)
  rw[this];exact f
 ·have H:(Value.ref b != Value.ref a)=true:=by simp[bne,k]
  refine aa ?_
  refine aa ?_
  refine H ▸ ?_;refine(bI rfl) ▸ ?_
  refine aa (m:=Builtin.Frozenset.addrOf (.ref s.heap.objs.size)) (ac ?_)
  have L:s.heap.objs.size≠b:=cE (aO (af u))
  have B:GO W (O++[s.heap.objs.size]) s':=⟨e.g,λx m=>(aj.mp m).elim (λm=>e.ok x m) λm=>by rw[ah.mp m];exact⟨g.g.siz,aO i⟩,e.top⟩
  refine aa (ad (nU (o:=r) (d:=r.data) B K (al _ (.head _)) i f.2.2 E j L) (λA s'' h=>?_) az)
  obtain⟨J,y,R,V,hd⟩:=h
  refine ac (ac (ac (ac ⟨_,rfl,fin s'' { r with data:=R } J ?_ V ⟨f.1,f.2.1,hd⟩⟩)))
  exact z.of_ext (M':=⟨[s.heap.objs.size],[]⟩) ⟨λx m=>.inr (by rw[ah.mp m];exact aB _),λA m=>absurd m av⟩ y
theorem AT{o:Expr}(K:SetCls W c)(k:EvP W C Γ n o (tS W l))(b:EvP W C Γ n e (fy c (ld W) l'))(d:autoParam (∀env,starEach [e] env=(false,eval e env)::starEach [] env) q_R)(m:autoParam (∀env,∃pl,eval (.Call (.Attribute o "union" apos) [e] [] pos) env=(do
   let ov ← eval o env
   standAt apos.atName
   let(f,first) ← holding [ov] (getMethod ov "union" pl)
   callWith pos f first (backTo pos (starEach [e] env)) (backToKw pos (keywordEach [] env)))) q_P):EvP W C Γ n (.Call (.Attribute o "union" apos) [e] [] pos) (tS W (uni l l')) :=
 vh (id := "set.union") k (λA O s v pl Q g p j=>by
  obtain⟨a,ob,rfl,h,i⟩:=p
  exact jE ⟨ob,af h,i.1⟩ m2 F.slot_set_union F.type_set_union (lS (af h) i) j) (ar1 b d) (AS K) m
noncomputable def pv(k:Option Value):List (Str×Value):=match k with | none=>[] | some v=>[(Str.ofString "num_cand",v)]
noncomputable abbrev kz(led:Bool)(dx:Addr):Obj:={ cls:=.ref 57,dict:=some dx,data:=.set #[] 0 (.fresh 0 0 led),slots:=#[] }
section
open Builtin Builtin.ObjectAttr Builtin.Getset_descriptor
variable {R:Result->Shared->Prop} {g:Array GenState} {d:Drawn} {t:Nat}
theorem AU{k:Option Value}(X:W.K.In h):Looks (model prg W.w) h (checkBuiltinCall "set.__new__" ⟨[.ref 57,v],pv k⟩) ():=by
 cases k with
 | none=>exact cA X (by kernel_rfl)
 | some w=>exact cA X (by kernel_rfl)
theorem CP(X:W.K.In h):Looks (model prg W.w) h (Bind.madeBy (.ref 57)) (some "set.__new__"):=cA X (by kernel_rfl)
theorem AV(X:W.K.In h):Looks (model prg W.w) h (mroOf (.ref 57)) [.ref 57,.type "set",.type "object"]:=cA X (by kernel_rfl)
theorem CQ(X:W.K.In h):Looks (model prg W.w) h (isType (.ref 57)) true:=cA X (by kernel_rfl)
theorem E1(X:W.K.In h):Looks (model prg W.w) h (isSubtype (.ref 57) (.type "set")) true:=cA X (by kernel_rfl)
theorem yb(X:W.K.In h):Looks (model prg W.w) h (isSubtype (.ref 57) (.ref 57)) true:=cA X (by kernel_rfl)
theorem CR(X:W.K.In h):Looks (model prg W.w) h (specialOf (.ref 57) "__call__") (some (.builtin "type.__call__")):=cA X (by kernel_rfl)
theorem E2(X:W.K.In h):Looks (model prg W.w) h (isInstance (.ref 57) (.type "type")) true:=cA X (by kernel_rfl)
theorem E3(X:W.K.In h):Looks (model prg W.w) h (classHasDel 57) false:=cA X (by kernel_rfl)
theorem E4{k:Option Value}(X:W.K.In h)(c:R (.ok (.ret (.ref (h.objs.size+1)))) ⟨(h.push emptyDict).push (kz (ld W) h.objs.size),g,d,t,os⟩):
  codeAny (model prg W.w) A (.call (.builtin "set.__new__") ⟨[.ref 57,v],pv k⟩) R ⟨h,g,d,t,os⟩:=by
 refine jD ?_
 show wpAny _ A.in1 (do checkBuiltinCall "set.__new__" ⟨[.ref 57,v],pv k⟩;again (.builtin "set.__new__" ⟨[.ref 57,v],pv k⟩)) _ _ _
 refine aa ((AU X).here (s:=⟨h,g,d,t,os⟩) (ac ⟨eD PySem.F.plain_set_new _,cM PySem.F.entry_set_new ?_⟩))
 refine aa ?_
 refine aa ((CQ X).here (s:=⟨h,g,d,t,os⟩) ?_)
 refine aa ((E1 X).here (s:=⟨h,g,d,t,os⟩) ?_)
 refine ac (aa ?_)
 refine(?_:wpAny _ _ (newSet (.ref 57)) _ _ _)
 refine aa (aa (eO (ac ?_)))
 refine(?_:wpAny _ _ ((alloc emptyDict >>= λx=>newObj (.ref 57) (.set #[] 0 (.fresh 0 0 (ld W))) (some x))) _ _ _)
 refine aa (lG ?_)
 refine(?_:wpAny _ _ (newObjAsIs (.ref 57) (.set #[] 0 (.fresh 0 0 (ld W))) (some h.objs.size)) _ _ _)
 refine aa (lG ?_)
 have b:W.K.In ((h.push emptyDict).push (kz (ld W) h.objs.size)):=λa o e=>aV _ (aV _ (X a o e))
 refine aa ((E3 b).here ?_)
 refine ac (ac ?_)
 refine(?_:R _ _)
 rw[bi]
 exact c
theorem CS{k:Option Value}{c:Addr}(X:W.K.In h)(q:findIn W.K (.ref 57) "__init__" = some (some (.ref c)))(hf:typeIn W.K (.ref c)=some (.type "function"))(D:codeAny (model prg W.w) (A.under (.builtin "type.__call__" ⟨[.ref 57,v],pv k⟩)) (.call (.ref c) ⟨[.ref (h.objs.size+1),v],pv k⟩) (InitBack (h.objs.size+1) R) ⟨(h.push emptyDict).push (kz (ld W) h.objs.size),g,d,t,os⟩):
  codeAny (model prg W.w) A (.call (.ref 57) ⟨[v],pv k⟩) R ⟨h,g,d,t,os⟩:=by
 have i:=CR (W:=W) X
 have p:=CP (W:=W) X
 have self:=yb (W:=W) X
 have m:=E2 (W:=W) X
 have H:=AV (W:=W) X
 obtain⟨f,u,n⟩:∃f,h.get? 57=some f/\(match f.data with | .cls _=>true | _=>false)=true:=by
  have:(W.K.lookup 57).any (λo=>match o.data with | .cls _=>true | _=>false)=true:=by kernel_rfl
  obtain⟨f,y,x⟩:=cB this
  exact⟨f,X _ _ y,x⟩
 obtain⟨s,B,od,C⟩:=f
 cases od <;> first | (cases n;done) | skip
 rename_i L
 have j:([.ref 57,.type "set",.type "object"]:List Value).isEmpty=false:=rfl
 refine jD ?_
 refine(?_:wpAny _ _ (callAny (.ref 57) _) _ _ _)
 refine nd_load u ?_
 refine(?_:wpAny _ _ (callAny.viaDunder (.ref 57) _) _ _ _)
 refine aa (i.at ?_)
 dsimp only
 refine aa (ac (aa (ac ?_)))
 refine ac (a:=Fin.again (.call (.builtin "type.__call__") ⟨[.ref 57,v],pv k⟩)) (And.intro rfl ?_)
 refine codeAny_call_builtin_at (m1 _ (by decide +kernel)) entry_typeCall (check_slot tc_kind tc_split m (tc_args _ _ _) ?_)
 repeat (first | rw[j,Bool.false_eq_true,if_false] | with_reducible refine bQ ?_ | lk)
 refine E4 X ?_
 have l:∀b o,h.get? b=some o->((h.push emptyDict).push (kz (ld W) h.objs.size)).get? b=some o:=λb o e=>aV _ (aV _ e)
 have E:((h.push emptyDict).push (kz (ld W) h.objs.size)).get? (h.objs.size+1)=some (kz (ld W) h.objs.size):=by
  have:=bf (h.push emptyDict) (o:=kz (ld W) h.objs.size) rfl
  rwa [bi] at this
 have J:=self.keeps l
 have I:Looks (model prg W.w) ((h.push emptyDict).push (kz (ld W) h.objs.size)) (typeLookup (.ref 57) "__init__") (some (.ref c)):=(fB X q).keeps l
 have F:=(bind_fn (M:=model prg W.w) X (.ref (h.objs.size+1)) hf).keeps l
 repeat (first | with_reducible refine bQ ?_ | lk)
 refine bN D λr s' z=>?_
 rcases r with e | (v | _ | _ | _) <;> first | exact z | exact z.elim | skip
 obtain⟨rfl,z⟩:=z
 exact ac (ac z)
end
theorem l7:PySem.Slot "wrapper_descriptor" "__get__" "wrapper_descriptor.__get__" := .of (owner := "wrapper_descriptor") (n := "__get__") (by kernel_rfl) (by decide +kernel) (by decide +kernel) (by decide +kernel)
 (.inl (by decide +kernel)) (by kernel_rfl)
theorem rj:entryFor table "wrapper_descriptor.__get__" = some Builtin.«wrapper_descriptor.__get__»:=entryFor_of_tree (by kernel_rfl)
theorem sd(a b c:Value):argsOk "wrapper_descriptor.__get__" ⟨[a,b,c],[]⟩:=by unfold argsOk;kernel_rfl
theorem sJ:typeOf (.builtin "set.__init__")=pure (.type "wrapper_descriptor"):=by show builtinType _=_;rw[builtinType_eq_fast];kernel_rfl
noncomputable abbrev kA(x:Addr):Obj:={ cls:=.type "method-wrapper",dict:=none,data:=.fields #[.builtin "set.__init__",.ref x],slots:=#[] }
noncomputable abbrev tM(x:Addr):Obj:={ cls:=.type "super",dict:=none,data:=.fields #[.ref 57,.ref x,.ref 57],slots:=#[] }
section
variable {g:Array GenState} {d:Drawn} {t:Nat}
theorem E5{x:Addr}(X:W.K.In h)(b:h.get? x=some o)(c:o.cls = .ref 57)(e:Q (.ref h.objs.size) ⟨h.push (kA x),g,d,t,os⟩):
  wpAny (model prg W.w) A (call (.builtin "wrapper_descriptor.__get__") [.builtin "set.__init__",.ref x,.ref 57]) Q E ⟨h,g,d,t,os⟩:=by
 refine eB l7 (s:=⟨h,g,d,t,os⟩) sJ rj ?_ (sd _ _ _)
 refine aa (m:=_) (bR (a:=(Value.builtin "set.__init__",some (Value.ref x),some (Value.ref 57))) (by with_unfolding_all rfl) ?_)
 refine aa ?_
 refine aa ?_
 refine bR (a:=(Str.ofString "__init__",Value.type "set")) (by kernel_rfl) ?_
 refine(?_:wpAny _ A.in1 (isInstance (.ref x) (.type "set") >>= _) _ _ _)
 refine aa (lb X ka b c ?_)
 refine ac ?_
 refine aa ?_
 refine dQ ?_ (cL rfl)
 exact ac ⟨_,rfl,e⟩
theorem zf(X:W.K.In h):Looks (model prg W.w) h (opaqueClassAbove (.ref 57)) none:=cA X (by kernel_rfl)
theorem vi:typeLookup (.type "wrapper_descriptor") "__get__" = pure (some (.builtin "wrapper_descriptor.__get__")):=l7.lookup
theorem zh{nm:Str}{k x:Addr}{tk:Tok}{Q:Fin->Shared->Prop}(X:W.K.In h)(a:h.get? k=some (tM x))(s:h.get? x=some o)(u:o.cls = .ref 57)(i:x≠57)(n:(nm==("__class__" : Str))=false)(hf:alongIn W.K nm [.type "set",.type "object"]=some (some (.builtin "set.__init__")))(q:Q (.done (.ret (.ref h.objs.size))) ⟨h.push (kA x),g,d,t,os⟩):wpAny (model prg W.w) A (Builtin.«super.__getattribute__» ⟨[.ref k,.str nm tk],[]⟩) Q E ⟨h,g,d,t,os⟩:=by
 have b:(Value.ref x==Value.ref 57)=false:=ey.mpr λe=>i (Value.ref.inj e)
 have f:=zf (W:=W) X
 have p:=AV (W:=W) X
 have v:(([.ref 57,.type "set",.type "object"]:List Value).dropWhile (· != .ref 57)).drop 1=[.type "set",.type "object"]:=by decide +kernel
 have c:(tM x).data = .fields #[.ref 57,.ref x,.ref 57]:=rfl
 have r:(#[.ref 57,.ref x,.ref 57]:Array Value)[0]? = some (.ref 57):=rfl
 have m:(#[.ref 57,.ref x,.ref 57]:Array Value)[1]? = some (.ref x):=rfl
 have l:(#[.ref 57,.ref x,.ref 57]:Array Value)[2]? = some (.ref 57):=rfl
 have j:=sJ
 have y:=vi
 repeat (first
  | (with_reducible refine eW a c r ?_) | (with_reducible refine eW a c m ?_) | (with_reducible refine eW a c l ?_)
  | (with_reducible refine ks_wpAny_notOpaque f ?_)
  | (with_reducible refine Looks.at p ?_;rw[v])
  | (refine ks_forIn_along X (λz z=>rfl) rfl ?_ hf)
  | (with_reducible refine bR j ?_)
  | (with_reducible refine E5 X s u ?_)
  | (with_reducible refine⟨_,rfl,?_⟩)
  | (with_reducible refine ifN n ?_) | (with_reducible refine ifN b ?_) | (with_reducible refine ifN ((Bool.or_false _).trans b) ?_) | rw[bj (ne_true_of_eq_false b)]
  | wp_step
  | dsimp only)
 all_goals exact q
theorem zi{nm:Str}{a x:Addr}{pl:Sem Bool}{Q:Value×List Value->Shared->Prop}(X:W.K.In h)(b:h.get? a=some (tM x))(l:h.get? x=some o)(n:o.cls = .ref 57)(f:x≠57)(i:(nm==("__class__" : Str))=false)(hf:alongIn W.K nm [.type "set",.type "object"]=some (some (.builtin "set.__init__")))(j:Q (.ref h.objs.size,[]) ⟨h.push (kA x),g,d,t+1,os⟩):wpAny (model prg W.w) A (getMethod (.ref a) nm pl) Q E ⟨h,g,d,t,os⟩:=by
 have c:=PySem.F.ks_slot_super_ga.lookup
 have e:∀k,(⟨h,g,d,k,os⟩:Shared).TypeIs (.ref a) "super" := λp=>⟨_,b,rfl⟩
 refine aa (eM (e _) c ?_)
 refine(?_:wpAny _ _ (if(Manifest.canonical "super.__getattribute__" != "object.__getattribute__")=true then _ else _) _ _ _)
 refine aa (aa (wpAny_mkText (aP (aa (iP (e _) (aa (bR c ?_)))))))
 refine(?_:wpAny _ _ (getAttrByItsOwn (.ref a) (.str nm t) (.type "super") (.builtin "super.__getattribute__") true false) _ _ _)
 refine aa (bR (show(if onTheHeap (.type "super") then typeLookup (.type "super") "__getattr__" else pure none)=pure none from rfl) ?_)
 refine aa (gh (aP ?_))
 refine(?_:wpAny _ _ (bindSpecial (.builtin "super.__getattribute__") (.ref a) >>= _) _ _ _)
 refine aa (bR (PySem.F.ks_slot_super_ga.bind _) ?_)
 refine ad (Q:=λv s'=>v = .ref h.objs.size/\s'=⟨h.push (kA x),g,d,t+1,os⟩) (E:=λp p=>False)
  (eB PySem.F.ks_slot_super_ga (e _) PySem.F.ks_entry_super_ga (zh X b l n f i hf ⟨_,rfl,rfl,rfl⟩) (PySem.F.ks_gaArgs_super _ _)) (λv s' m=>?_) λp p z=>z.elim
 obtain⟨rfl,rfl⟩:=m
 exact ac (ac j)
theorem AW{c x:Addr}{pl:Sem Bool}{Q:Value×List Value->Shared->Prop}(X:W.K.In h)(b:h.get? c=some (tM x))(e:h.get? x=some o)(f:o.cls = .ref 57)(a:x≠57)(i:Q (.ref h.objs.size,[]) ⟨h.push (kA x),g,d,t+1,os⟩):wpAny (model prg W.w) A (getMethod (.ref c) (Str.ofString "__init__") pl) Q E ⟨h,g,d,t,os⟩ :=
 zi X b e f a (by decide +kernel) (by kernel_rfl) i
theorem wP{Q:Unit->Shared->Prop}(j:W.K.In s.heap)(N:rd W c)(e:s.heap.get? a=some o)(i:o.cls=c)(g:Q () s):
  wpAny (model prg W.w) A (Bind.checkArgs "set.__init__" ⟨.positional, "set", "*",.self,[⟨"iterable",.posOnly,false⟩]⟩ ⟨[.ref a,v],[]⟩) Q E s:=by
 unfold Bind.checkArgs
 refine aa (m:=Bind.printed "set" true _ _) (PyProof.Rows.printed_name (by decide) ?_)
 obtain⟨x,f⟩:=N.whole _ j
 have b:∀{Q:String->Shared->Prop},(∀x,Q x s)->wpAny (model prg W.w) A (Bind.printed "*" false ⟨.positional, "set", "*",.self,[⟨"iterable",.posOnly,false⟩]⟩ (some (.ref a))) Q E s:=λh=>by
  unfold Bind.printed Bind.receiverType
  refine aa (m:=(if(Manifest.Receiver.self==Manifest.Receiver.cls)=true then pure (.ref a) else typeOf (.ref a))) ?_
  exact l4 e i (aa (m:=typeNameWhole c) (f.here (ac (h _))))
 refine aa (m:=Bind.printed "*" false _ _) (b λd=>?_)
 exact ac g
theorem CT{b x:Addr}{dd:Data}(X:W.K.In s.heap)(g:s.heap.get? b=some (kA x))(a:s.heap.get? x=some { o with data:=dd })(e:o.cls = .ref 57)(hd:eI (ld W) [] dd)(h:wpAny (model prg W.w) A.in1 (Builtin.Frozenset.updateFrom "set.__init__" x v) (λi s'=>Q .none s') E s):wpAny (model prg W.w) A (call (.ref b) [v]) Q E s:=by
 refine bQ (jD ?_)
 refine(?_:wpAny _ A.in1 (callAny (.ref b) _) _ _ _)
 refine aa (kG g ?_)
 refine(?_:wpAny _ A.in1 (checkBoundCall "set.__init__" ⟨[.ref x,v],[]⟩ >>= λi=>again (.builtin "set.__init__" ⟨[.ref x,v],[]⟩)) _ _ _)
 refine aa ?_
 unfold checkBoundCall
 have d:=sig_set_init
 have c:=kind_set_init
 generalize Manifest.signature? "set.__init__" = x at d ⊢
 generalize builtinKind "set.__init__" = y at c ⊢
 subst d c
 refine wP X AH a e ?_
 refine ac ⟨eD PySem.F.called_set.init.plain _,cM PySem.F.entry_set_init ?_⟩
 refine ad (uV X ka AH a e hd h) (λfin s' h'=>?_) λi i z=>z
 obtain⟨r,rfl,f⟩:=h'
 exact f
end
def nW(W:Wc)(n:Nat)(T:Ty)(ks:List Nat):Prop:=∀(A:Around) (O:List Addr) (s:Shared) (v:Value) (S:Addr) (o:Obj) (d:Data) (l:List Nat) (id:String),aU W A n->GO W O s->S∈O->s.heap.get? S=some { o with data:=d }->eI (ld W) l d->T.p (am s.heap O) v ->
 wpAny (model prg W.w) A (Builtin.Frozenset.updateFrom id S v) (λb s'=>G W s'/\ak ⟨[S],[]⟩ s s'/\∃a,s'.heap.get? S=some { o with data:=a }/\eI (ld W) (uni l ks) a) Nev s
theorem vj{b:String}(C:kn W n nmT T (λUs=>Us=ks.map ag))(L:∀h O v,T.p (am h O) v->∃a o,v = .ref a/\h.get? a=some o/\o.cls = .type b)(D:∀k∈ks,k<4)(M:isSubtype (.type b) (.type "set")=pure false)(E:isSubtype (.type b) (.type "frozenset")=pure false)(B:(Value.type b==Value.type "dict")=false):nW W (n+1) T ks:=λA O s v S o d l id x w t I hd u=>by
 refine rU (L _ _ _ u) λa oa r J z=>?_
 obtain rfl:=r
 refine ad (xZ (n:=n) (F₀:=⟨[],[]⟩) (Ψ:=λg=>g=ks) x w t I hd ⟨oa,J,z⟩ M E B (by simp) ?_) (λG s' h=>?_) az
 ·refine ad (C A O s _ (x.le (bY n)) w u) (λit s₂ f=>?_) az
  obtain⟨F,Ts,rfl,c,j,e,i,hit,G⟩:=f
  exact⟨F,[],ks,rfl,D,c,j,e,⟨hit,λa m=>al _ m,i⟩,by simp⟩
 ·obtain⟨g',H,g,y,rfl,K,q⟩:=h
  exact⟨g',H,y,K,q⟩
theorem wQ(a:∀k∈ks,k<4):nW W (n+1) (bw (ks.map ag)) ks:=vj gy.its pL a F.sub_list_set F.sub_list_frozenset (by decide)
theorem zj(a:∀k∈ks,k<4):nW W (n+1) (bH (ks.map ag)) ks:=vj jk.its pL a F.sub_tuple_set nV (by decide)
theorem zk(K:SetCls W c):nW W n (fy c (ld W) l') l':=λA O s v S o d l id k j a h hd i=>by
 refine rU i λb ob f g hs=>?_
 obtain rfl:=f
 exact nU j K a h hd (af g) hs λe=>a8 g (e▸a)
theorem wR{x:Addr}{ar:Arg}{vs:Array Value}{R:Str}{tf:Tok}{a:Str}{p0 p1 ap cp:Pos}{of oc c6:Obj}{f cc:Addr}{d0:Data}(rm:aU W A (n+1))(I:Inv W C env Γ O M s)(Y:nW W n T ks)(f0:C.scope.names.lookup (Str.ofString "super")=some .globalImplicit)(c5:C.scope.names.lookup (Str.ofString "__class__")=some .free)(h4:env.func=some f)(hf:W.K.lookup f=some of)(h8:of.data = .func fd)(hp:(fd.params.posonlyargs++fd.params.args).head? = some ar)(i2:env.code = .ref cc)(h9:W.K.lookup cc=some oc)(f5:oc.data = .fields vs)(f3:vs[2]? = some (.str R tf))(V:((prg.main.file:Str)==R)=true)(b5:(prg.main.scope.names.lookup (Str.ofString "super")).isSome=false)(Z:env.cells.lookup (Str.ofString "__class__")=some 25)(f6:W.K.lookup 25=some c6)(c2:c6.data = .cell (some (.ref 57)))(i j k:Nat)(hi:C.names[i]? = some ar.arg)(d9:Γ.v[i]? = some (some (aE (.ref x))))(hj:C.names[j]? = some a)(b1:Γ.v[j]? = some (some T))(hk:Γ.h[k]? = some (x,nN (.ref 57) (ld W) []))(c7:x≠57)(h5:nsIn W.K mainGlobals (Str.ofString "super")=some none)(g1:swapsWith (.Call (.Attribute (.Call (.Name (Str.ofString "super") p0) [] [] p1) (Str.ofString "__init__") ap) [.Name a cp] [] pos) none sp.line env=pure false)(h6:∃pl:Sem Bool,eval (.Call (.Attribute (.Call (.Name (Str.ofString "super") p0) [] [] p1) (Str.ofString "__init__") ap) [.Name a cp] [] pos) env=(do
   let ov ← attributeBase (.Call (.Name (Str.ofString "super") p0) [] [] p1) (Str.ofString "__init__") env (eval (.Call (.Name (Str.ofString "super") p0) [] [] p1) env)
   standAt ap.atName
   let(f,first) ← holding [ov] (getMethod ov (Str.ofString "__init__") pl)
   callWith pos f first (backTo pos (starEach [.Name a cp] env)) []))(h3:∀env,starEach [.Name a cp] env=(false,eval (.Name a cp) env)::starEach [] env)(Q:Flow->Shared->Prop)(hQ:∀s',ak M s s'->Inv W C env (Γ.hset k x (nN (.ref 57) (ld W) (uni [] ks))) O M s'->Q .next s'):
  _root_.PySem.wpAt (model prg W.w) A (.func body env) (exec (.Expr (.Call (.Attribute (.Call (.Name (Str.ofString "super") p0) [] [] p1) (Str.ofString "__init__") ap) [.Name a cp] [] pos) sp) env) Q Nev s:=by
 refine ks_wpAt_Expr_any ?_ (mo I.ok.kind) g1
 refine dK h6 λpl k0=>?_
 refine ks_wpAt_MethodCall (pl:=pl) ?_ k0
 have X:=I.g.kin
 refine ks_wpAt_super_base (I.ok.of f0) (I.ok.of c5) (by decide +kernel) h4 (X _ _ hf) h8 hp i2 (X _ _ h9) f5 f3 V b5 ?_
 refine ks_loadName_global I.ok.kind (I.ok.of f0) (pB (env:=env) (by rw[I.ok.glob];exact I.g.glob) (mg_none_of I.g.kin I.g.glob h5) (by rw[I.ok.bui];exact I.g.bui) ((I.g.boot _ (by decide +kernel)).trans (by decide +kernel)) ⟨rfl,?_⟩)
 refine pz I.ok.kind (I.ok.of c5) Z ⟨_,X _ _ f6,c2⟩ ?_ (by decide +kernel)
 refine ad (tJ (T:=aE (.ref x)) i hi d9 I) (λsv s₁ p=>?_) λS S e=>False.elim e
 have g0:sv = .ref x:=p.2.2
 subst g0
 have l:=p.then I
 have L:=l.g.kin
 obtain⟨q1,S,S,S,ox,c4,l1,U⟩:=l.phi x _ (be hk)
 obtain⟨oD,hD,n2,e3⟩:∃oD,s₁.heap.get? 57=some oD/\∃cd,oD.data = .cls cd:=by
  have:(W.K.lookup 57).any (λo=>match o.data with | .cls _=>true | _=>false)=true:=by kernel_rfl
  refine bc (cB this) λoD h1 h2=>?_
  refine⟨oD,L _ _ h1,?_⟩
  generalize oD.data=d at h2
  cases d <;> first | exact⟨_,rfl⟩ | cases h2
 obtain⟨hh,gg,dd,tk,os⟩:=s₁
 refine ks_wpAny_isType_cls hD e3 ⟨rfl,?_⟩
 have h7:∀c,ox.data≠.cls c:=λc e=>by
  obtain⟨S,τ,ep,l2,f8,h0,S⟩:=U.2.2
  rw[h0] at e;cases e
 refine ks_wpAny_call_super (prog:=prg) (w:=W.w) (D:=57) (x:=x) (C:=57) hD e3 c4 U.1 h7 (yb L) λh' e1 k'=>?_
 have z':hh.objs.size<=h'.objs.size:=cQ (aO e1)
 have J:G W ⟨h',gg,dd,tk,os⟩:=l.g.step (s:=⟨hh,gg,dd,tk,os⟩) (tk:=tk) k' z'
 have z:aF ⟨hh,gg,dd,tk,os⟩ ⟨h',gg,dd,tk,os⟩:=aF.step (s:=⟨hh,gg,dd,tk,os⟩) (tk:=tk) k' z'
 have F:=l.keep z J
 refine AW (W:=W) J.kin e1 (k' _ _ c4) U.1 c7 ?_
 refine dn (bJ F.go (kA x) (tk+1)) λe4 y S=>?_
 have N:=F.keep y e4
 have e2:(h'.push (kA x)).get? h'.objs.size=some (kA x):=bf _ rfl
 have m:∀s':Shared,s'.heap.get? h'.objs.size=some (kA x)->∃k,(k=Keeper.frame∨k=Keeper.machine∨k=Keeper.boundFrame)/\Looks (model prg W.w) s'.heap (keeperOf (.ref h'.objs.size)) k:=λs' e=>⟨.machine,.inr (.inl rfl),by
  exact(Looks.ld (part:=none) e).andThen .now⟩
 have a4:dJ W C Γ (n+1) [.Name a cp] [T]:=ar1 (nm j hj b1) h3
 refine ck (a4 A env O M ⟨h'.push (kA x),gg,dd,tk+1,os⟩ pos rm N) λa1 a3=>?_
 refine dO (P:=λhp=>hp.get? h'.objs.size=some (kA x)) rfl (λhp e=>m ⟨hp,gg,dd,tk,os⟩ e) ?_
 refine bU (ns:=[]) a1 rfl (ad a3 (λn0 a6 B=>ac ⟨B.2.1.obj' e2 rfl,?_⟩) λS S e=>False.elim e)
 refine dn B λH b a7=>?_
 have u:=N.keep b H
 obtain⟨v,rfl,hv⟩:=a7.a1
 obtain⟨q1,S,S,S,q,E,S,t⟩:=u.phi x _ (be hk)
 have r:eI (ld W) [] q.data:=t.2.2
 refine CT (o:=q) (dd:=q.data) H.kin (b.obj' e2 rfl) E t.1 r ?_
 refine ad (Y A.in1 _ a6 v x q q.data [] "set.__init__" rm.in1 u.go (al _ q1) E r hv) (λS e0 c3=>?_) λS S e=>False.elim e
 refine dn c3 λd8 b6 c1=>?_
 refine bc c1 λd' hg hd=>?_
 refine ck (u.chg (Q':=nN (.ref 57) (ld W) (uni [] ks)) hk b6 d8 hg (lh hd) ⟨t.1,(λe=>nomatch e),hd⟩) λkM b4=>?_
 exact hQ e0 ((ak.ofK (p.2.1.trans (z.trans (y.trans b)))).trans kM) b4
noncomputable def AX(C:Cx)(a:List Bool)(scope:Scope)(Cg:Cx)(b:List Bool):Bool :=
 Ab Cg && !scope.isCoroutine&&scope.names.all (λp=>p.2 != .cell)&&scope.names.lookup (Str.ofString ".0")==some .local&&decide (scope.names.map (·.1)).Nodup &&
 scope.names.all (λp=>p.2 != .free||(C.scope.names.lookup p.1 != some .local&&(List.range C.names.length).any λj=>C.names[j]? == some p.1&&a[j]? == some true)) &&
 (Cg.names.zip b).all (λp=>!p.2||scope.names.contains (p.1,.free))
noncomputable abbrev cG(scope:Scope)(ns:List Str):Cx:=⟨scope,ns,[],none⟩
theorem AY{ns:List Str}(h:AX C (Γ.v.map Option.isSome) scope (cG scope ns) (σ.map Option.isSome)=true)(n:pq C Γ.v ns σ):AA C Γ scope (cG scope ns) σ:=by
 unfold AX at h
 refine ck (bP.mp h) λh k=>?_
 refine ck (bP.mp h) λh f=>?_
 refine ck (bP.mp h) λh l=>?_
 refine ck (bP.mp h) λh d=>?_
 refine ck (bP.mp h) λh c=>?_
 refine ck (bP.mp h) λg e=>?_
 refine⟨rfl,rfl,xH g,rfl,by simpa using e,λp m=>kJ.mp (bd.mp c p m),aL.mp d,ci l,λx j=>xK f j,λi x T a b=>?_⟩
 rcases jX.mp (bd.mp k _ (xM a b)) with h | h
 ·cases h
 ·exact⟨ba.mp h,n.at a b⟩
theorem wS{ι:Type}(ns:List Str)(σ:List (Option Ty)){tgt':Expr}(Ψ:List ι->Prop){c P:Addr}(f e:ι->Ty)(q:ι->Bool)(u:ι->Kn->Kn)(a:C.code=some (.ref c))(b:(c,P)∈W.tabs)(hit:io W C Γ n tgt iter (λTs=>∃l,Ψ l/\Ts=l.map f))(d:∀l' T,j1 (W.at l') (cG scope ns) n tgt (f T) (u T))(i:∀T (j:Nat) (U:Ty),σ[j]? = some (some U)->(u T ⟨σ,[]⟩).v[j]? = some (some U))(o:∀l,Ψ l->∀l' T,T∈l->ip (W.at l') (cG scope ns) (u T ⟨σ,[]⟩) n ifs (q T))(g:∀l,Ψ l->∀l' T,T∈l->q T=true->EvP (W.at l') (cG scope ns) (u T ⟨σ,[]⟩) n elt (e T))(k:pq C Γ.v ns σ)(p:autoParam (AX C (Γ.v.map Option.isSome) scope (cG scope ns) (σ.map Option.isSome)=true) q_K)(m:autoParam (∀T,(u T ⟨σ,[]⟩).h=[]) q_R)(hs:autoParam (∀env x,genFold iter env x=pure x) q_R):
  iq W C Γ n (n+2) tgt' (.GeneratorExp elt [⟨tgt,iter,ifs,0⟩] scope pos) (λTs=>∃l,Ψ l/\Ts=(l.filter q).map e) :=
 EV Ψ f e q u d i m (AY p k) a b hit o g hs
theorem iq.eq(h:iq W C Γ n n' tgt e Θ)(q:∀Ts,Θ Ts->Θ' Ts):iq W C Γ n n' tgt e Θ':=λA env O M s d I=>ad (h A env O M s d I) (λf f a=>a.rec λF P Ts t g k x b c i z o=>⟨F,P,Ts,q _ t,g,k,x,b,c,i,z,o⟩) az
theorem iq.le(h:iq W C Γ m n' tgt e Θ)(b:m<=n):iq W C Γ n n' tgt e Θ:=λA env O M s a=>h A env O M s (a.le b)
noncomputable abbrev cCs:Cx:=⟨(fM 2 0).2.2,[S "self",S "candidates",S "num_cand",S "cand"],[S "num_cand"],some (.ref 38)⟩
noncomputable abbrev rk:FuncData:=fn (fM 2 0) (S "__init__") (S "CandidateSet.__init__") 3 [((S "__class__"),25)] (.ref 31) .none .none (.str (S "abcvoting.misc") 194) none (.ref 38) (.ref 32) 0
structure gP(W:Wc)(n:Nat)(T:Ty)(ks:List Nat):Prop where
 fill:∀l,nW (W.at l) n T ks
 len:∀l,aM (W.at l) n (.builtin "len") [T] [] (ag (uni [] ks).length)
 its:∀l tgt,kn (W.at l) n tgt T (λUs=>∃r:List Nat,r.Perm ks/\Us=r.map ag)
 lt:∀k∈ks,k<4
theorem mq(a:∀k∈ks,k<4)(c:(uni [] ks).length=ks.length)(hz:ks.length<100):gP W (n+1) (bw (ks.map ag)) ks :=
 ⟨λl=>wQ a,λl=>by have:=ed (W:=W.at l) (n:=n+1) (T := "list") (Ts:=ks.map ag) (.inl rfl) (by rw[a0];exact oA ‹_›);rw[a0,← c] at this;exact this,λl tgt A O s v f g h=>ad (gy.its A O s v f g h) (λj j d=>d.rec λF Ts e g k x b i z=>⟨F,Ts,⟨ks,iM _,e⟩,g,k,x,b,i,z⟩) az,a⟩
theorem zl(a:∀k∈ks,k<4)(c:(uni [] ks).length=ks.length)(hz:ks.length<100):gP W (n+1) (bH (ks.map ag)) ks :=
 ⟨λl=>zj a,λl=>by have:=ed (W:=W.at l) (n:=n+1) (T := "tuple") (Ts:=ks.map ag) (.inr rfl) (by rw[a0];exact oA ‹_›);rw[a0,← c] at this;exact this,λl tgt A O s v f g h=>ad (jk.its A O s v f g h) (λj j d=>d.rec λF Ts e g k x b i z=>⟨F,Ts,⟨ks,iM _,e⟩,g,k,x,b,i,z⟩) az,a⟩
theorem cu:jM W "len" (.builtin "len"):=⟨by kernel_rfl,by decide +kernel,by decide +kernel⟩
noncomputable abbrev cLc:Cx:=⟨(fT 38).2.2,[S "some",S "other"],[S "other"],none⟩
theorem iE{a b:List Nat}(hz:a.length<=sizeLine)(e:a.length<2 ^ 62):aM W (n+1) (.ref 651) [aD a,aD b] [] (ag ((a.filter λc=>b.contains c).length)):=by
 refine rX (fT 38) cLc [] λg=>?_
 refine bB (T:=ag ((a.filter λc=>b.contains c).length)) ?_ (Ty.le_refl _)
 refine EvP.eq (ao (bl cu) kb (ar1 ?_) au (ed (Ts:=(a.filterMap λk=>if b.contains k then some (ag k) else none)) (.inl rfl) ?_)) ?_
 ·refine lc [S "c",S "other"] [] [none,some (aD b)] a ag (λk=>if b.contains k then some (ag k) else none) (λk Γ=>Γ.set 0 (ag k)) (dE (nm 0)) hz (λg=>aZ 0) (λg=>bx rfl) ?_ ?_ ⟨⟨1,rfl,rfl⟩,trivial⟩
  ·intro k g
   refine iX (TsP.eq (cp (nm 0) (nm 1) Ec) ?_)
   cases b.contains k <;> rfl
  ·intro k g U d
   have:U=ag k:=by
    cases f:b.contains k with
    | true=>rw[f] at d;exact(fU d).symm
    | false=>rw[f] at d;cases d
   subst this
   exact nm 0
 ·exact bp (pV _ _) e
 ·rw[ee (λk=>b.contains k) ag a,a0]
noncomputable abbrev cH(l:List (List Nat)):Ty:=bw (l.map aD)
noncomputable def bZ(b:List Nat):List (List Nat):=b.foldl (λa c=>a++a.map (· ++ [c])) [[]]
theorem vk(l:List Nat)(c:Nat):bZ (l++[c])=bZ l++(bZ l).map (· ++ [c]):=by simp[bZ,List.foldl_append]
theorem rl(l:List Nat):∀(f:List (List Nat)),(l.foldl (λa c=>a++a.map (· ++ [c])) f).length=f.length*2 ^ l.length:=by
 induction l with
 | nil =>
  intro f
  simp
 | cons c l ih =>
  intro f
  rw[iQ,ih,dU,a0,hG,Nat.pow_succ,← Nat.mul_assoc,Nat.mul_right_comm]
  congr 1;exact(Nat.mul_two _).symm
theorem rn(l:List Nat):(bZ l).length=2 ^ l.length:=by rw[bZ,rl];simp
theorem rp(l:List Nat):∀(f:List (List Nat)) (k:Nat),(∀x∈f,x.length<=k)->∀x∈l.foldl (λa c=>a++a.map (· ++ [c])) f,x.length<=k+l.length:=by
 induction l with
 | nil =>
  intro f k h x d
  exact h x d
 | cons c l ih =>
  intro f k h x d
  have:=ih _ (k+1) (λy b=>by
   rcases aj.mp b with b | b
   ·exact iO (h y b)
   ·obtain⟨z,hz,rfl⟩:=a9.mp b
    rw[dU];exact Nat.succ_le_succ (h z hz)) x d
  rw[hG];exact iw k 1 l.length▸this
theorem wT{x:List Nat}(h:x∈bZ l):x.length<=l.length:=by
 have:=rp l [[]] 0 (λy a=>by rw[ah.mp a];exact aB _) x h
 exact ae this (aH (b9 _))
noncomputable abbrev cLw:Cx:=⟨(fT 37).2.2,[S "rows",S "found",S "c"],[S "c"],none⟩
theorem rq(g:m<=8):aM W (n+1) (.ref 646) [j3 0 m] [] (cH (bZ (List.range m))):=by
 refine s5 (fT 37) cLw [none,none] λp=>?_
 refine bo (T:=cH [[]]) 1 (eZ (ar1 (eZ dl))) ?_
 refine Co (List.range m) (λj=>ag (0+j)) (λj Γ=>Γ.set 2 (ag (0+j))) (λUs=>⟨[some (j3 0 m),some (cH (bZ ((List.range m).take (m-Us.length)))),none],[]⟩) ?_ (di (nm 0) (by decide) (bp g (by decide))).itp (λp=>aZ 2) ?_ ?_
 ·rw[dc,m5];rfl
 ·intro a T Us f
  have c:m=a.length+(Us.length+1):=by have:=aY List.length f;simpa using this
  have o:(List.range m).take (m-(T::Us).length)=a:=by rw[f,c];simp
  have k:(List.range m).take (m-Us.length)=a++[T]:=by
   have:m-Us.length=a.length+1:=Nat.sub_eq_of_eq_add (c.trans (iw a.length 1 Us.length).symm)
   rw[f,this]
   have:a++T::Us=(a++[T])++Us:=by simp
   rw[this,List.take_append_of_le_length (by simp)]
   exact qe (by simp)
  refine o ▸ ?_;refine k ▸ ?_
  have d:a.length<=8:=ae (aW _ _) (ae (aH c.symm) g)
  have b:(bZ a).length<=256:=by rw[rn];exact Nat.pow_le_pow_right (by decide) d
  refine bo (T:=cH (bZ (a++[T]))) 1 (EvP.eq (gI (nm 1) (lc [S "some",S "c"] [] [none,some (ag (0+T))] (bZ a) aD (λx=>some (aD (x++[T]))) (λx Γ=>Γ.set 0 (aD x)) (dE (nm 1)) (ae b (by decide +kernel)) (λp=>aZ 0) (λp=>bx rfl) (λx p=>fa) ?_ ⟨⟨2,rfl,rfl⟩,trivial⟩) ?_) ?_) (j6 (Γ':=⟨[some (j3 0 m),some (cH (bZ (a++[T]))),none],[]⟩) rfl rfl (aN rfl))
  ·intro x h U i
   cases i
   have e:x.length<=8:=ae (wT h) d
   exact EvP.eq (gI (nm 0) (eZ (ar1 (nm 1))) (by rw[a0];exact ae (aX e 1) (by decide +kernel))) (by simp[aD])
  ·rw[a0]
   exact ae (Nat.add_le_add b (ae (pV _ _) b)) (by decide +kernel)
  ·rw[vk,cH,bW,cP]
   congr 2
   induction bZ a with
   | nil=>rfl
   | cons y l ih=>rw[List.filterMap_cons,cz,ih];rfl
 ·rw[kH,Nat.sub_zero,qe (by simp)]
  exact bB (nm 1) (Ty.le_refl _)
theorem Gz:jM W "all" (.builtin "all"):=⟨by kernel_rfl,by decide +kernel,by decide +kernel⟩
theorem GA:jM W "any" (.builtin "any"):=⟨by kernel_rfl,by decide +kernel,by decide +kernel⟩
def E6(ks:List Nat)(U:Ty):Prop:=U=cJ∨∃c:Nat,U=ag c/\∀k∈ks,k<c
theorem gQ{a:Type}(l:List a):l.filter (λb=>true)=l:=qf.mpr λb b=>rfl
theorem iF{b a:Type}{f:b->a}{c:a}{l:List b}:(∀k∈l,f k=c)->l.map f=List.replicate l.length c:=by
 induction l with
 | nil =>
  intro e
  exact rfl
 | cons k l ih =>
  intro h
  rw[cz,h k dS,ih λk d=>h k (bt _ d)];rfl
theorem kn.le(h:kn W m tgt T Θ)(f:m<=n):kn W n tgt T Θ:=λA O s v q g k =>
 ad (h A O s v (q.le f) g k) (λit s₂ p=>p.rec λF Ts a b c d e i r=>⟨F,Ts,a,b,c,d,e,i.le f,λl o s' H' j=>r l o s' H' (j.le f)⟩) az
theorem CU{x:Addr}(i:gP W n T ks)(s:E6 ks U)(a:(38,34)∈W.tabs):
  ExP W cCs ⟨[some (aE (.ref x)),some T,some U,none],[(x,nN (.ref 57) (ld W) (uni [] ks))]⟩ (n+3) (fM 2 0).2.1.tail (λo=>match o with | .next Γ'=>Γ'.h[0]? = some (x,nN (.ref 57) (ld W) (uni [] ks)) | _=>False):=by
 have m:∀V o,V x=some o->(nN (.ref 57) (ld W) (uni [] ks)).p V o->(fy (.ref 57) (ld W) (uni [] ks)).p V (.ref x):=λV o h q=>⟨x,o,rfl,h,q⟩
 refine dD (TsP.eq (sI (Tf:=fy (.ref 57) (ld W) (uni [] ks)) 0 0 m (cp (ao (bl cu) kb (ar1 (nm 1)) au ((i.len _).le (aW _ _))) (ao (bl cu) kb (ar1 (nm 0)) au (bD bM)) Gb)) (by simp)) ?_
 refine fW (ι:=Nat) (λr=>r.Perm ks) ag (λk Γ=>Γ.set 3 (ag k)) (λz z Γ=>∃w,Γ=⟨[some (aE (.ref x)),some T,some U,w],[(x,nN (.ref 57) (ld W) (uni [] ks))]⟩) (eV (nm 1) ((i.its _ _).le (aW _ _))).itp (λk=>aZ 3) (λz z=>⟨_,rfl⟩) ?_ ?_ (λz z=>rfl)
 ·rintro l u y k Us e Γ ⟨w,rfl⟩
  exact dD (mh (jO (ao (bl gz) kb (ar2 (nm 3) (bl Ai)) au qB))) (aN ⟨_,rfl⟩)
 ·rintro l u Γ ⟨w,rfl⟩
  refine j6 (Γ':=⟨[some (aE (.ref x)),some T,some U,none],[(x,nN (.ref 57) (ld W) (uni [] ks))]⟩) rfl rfl ?_
  have b:rc W (n+3) (n+2) (.builtin "all") _ (aG ((ks.map λz=>true).all id)):=AE (aB _)
  refine dD (TsP.eq (mh (jO (i3 (bl Gz) kb (iq.le (iq.eq (wS (ι:=Nat) (P:=34) (c:=38) [S "cand"] [none] (λr:List Nat=>r.Perm ks) ag (λk=>aG (decide (0<=(k:Int)))) (λz=>true) (λk Γ=>Γ.set 0 (ag k)) rfl a (eV (nm 1) (i.its _ _)) (λl' k=>aZ 0) (λk=>bx rfl) (λz z z z z=>fa) (λz z z k z z=>cpv (nm 0) aJ k6) trivial) ?_) (aW _ _)) b))) (by simp)) ?_
  ·rintro Ts ⟨r,g,rfl⟩
   rw[gQ,cP,iF (f:=λk:Nat=>aG (decide (0<=(k:Int)))) (c:=aG true) (λk z=>by simp),iF (f:=aG∘λz=>true) (c:=aG true) (λz z=>rfl),g.length_eq]
  rcases s with rfl | ⟨c,rfl,t⟩
  ·exact dD (TsP.eq (gq (cN (c:=true) false (cp (nm 2) eX (qt (q:=true) λV v h=>by rw[show v = .none from h];rfl)) λh=>nomatch h)) rfl) (aN rfl)
  have d:rc W (n+3) (n+2) (.builtin "any") _ (aG ((ks.map λz=>false).any id)):=AF (aB _)
  refine dD (TsP.eq (gq (cN true (cp (nm 2) eX (qt (q:=false) λV v h=>by obtain⟨z,rfl⟩:=h;rfl)) λz=>cN (c:=true) false (TsP.eq (jO (i3 (bl GA) kb (iq.le (iq.eq (wS (ι:=Nat) (P:=34) (c:=38) [S "cand",S "num_cand"] [none,some (ag c)] (λr:List Nat=>r.Perm ks) ag (λk=>aG (decide ((c:Int)<=(k:Int)))) (λz=>true) (λk Γ=>Γ.set 0 (ag k)) rfl a (eV (nm 1) (i.its _ _)) (λl' k=>aZ 0) (λk=>bx rfl) (λz z z z z=>fa) (λz z z k z z=>cpv (nm 0) (nm 1) k6) (by exact⟨⟨2,rfl,rfl⟩,trivial⟩)) ?_) (aW _ _)) d)) (by simp)) λh=>nomatch h)) rfl) (aN rfl)
  ·rintro Ts ⟨r,g,rfl⟩
   rw[gQ,cP,iF (f:=λk:Nat=>aG (decide ((c:Int)<=(k:Int)))) (c:=aG false) (λk j=>aY aG (eR (by have:=t k (g.mem_iff.mp j);exact Int.not_le.mpr (bV.mpr this)))),iF (f:=aG∘λz=>false) (c:=aG false) (λz z=>rfl),g.length_eq]
theorem nW.le(h:nW W m T ks)(b:m<=n):nW W n T ks:=λA O s v S o d l id a=>h A O s v S o d l id (a.le b)
theorem yc:pp W.K 39=some rk:=by kernel_rfl
theorem yd:∃o,W.K.lookup 25=some o/\o.data = .cell (some (.ref 57)):=⟨_,(Option.some_get (x:=W.K.lookup 25) (by kernel_rfl)).symm,by kernel_rfl⟩
theorem CV:∃o vs a c,W.K.lookup 38=some o/\o.data = .fields vs/\vs[2]? = some (.str a c)/\((prg.main.file:Str)==a)=true:=by
 have:((W.K.lookup 38).any λo=>(z9 o.data).any λvs=>(vs[2]? : Option Value).any λv=>(z8 v).any λf=>(prg.main.file:Str)==f)=true:=by kernel_rfl
 refine bc (cB this) λo d h=>?_
 refine bc (cB h) λvs e h=>?_
 refine bc (cB h) λv g h=>?_
 refine bc (cB h) λf hf h=>?_
 refine dK (ur hf) λc b=>?_
 obtain rfl:=b
 exact⟨o,vs,f,c,d,ut e,g,h⟩
theorem GB{a b:Value}:wn cCs rk (fM 2 0).2.1 [(S "self",a),(S "candidates",b),(S "num_cand",c)]:=by
 have e:([(S "self",a),(S "candidates",b),(S "num_cand",c)]:List (Str×Value)).map (·.1)=[S "self",S "candidates",S "num_cand"]:=rfl
 have f:([S "self",S "candidates",S "num_cand"].all λx=>cCs.scope.names.lookup x==some .local||cCs.scope.names.lookup x==some .cell)=true:=by kernel_rfl
 have g:(cCs.own.all λx=>cCs.scope.names.lookup x==some .cell)=true:=by kernel_rfl
 refine⟨xH (by kernel_rfl),rfl,by kernel_rfl,by kernel_rfl,rfl,λv h=>?_,rfl,rfl,?_,λx d=>?_,λx d=>?_⟩
 ·cases h;rfl
 ·rw[e];decide +kernel
 ·have:=bd.mp f x.1 (e▸cj d)
  simpa using this
 ·have:=bd.mp g x d
  simpa using this
theorem CW{x:Addr}(i:gP W n T ks)(q:E6 ks U)(c:(38,34)∈W.tabs)(a:im 39 rk env)(b:x≠57)(j:aU W A (n+3))(I:Inv W cCs env ⟨[some (aE (.ref x)),some T,some U,none],[(x,nN (.ref 57) (ld W) [])]⟩ O M s):
  _root_.PySem.wpAt (model prg W.w) A (.func (fM 2 0).2.1 env) (execs (fM 2 0).2.1 env) (nu W cCs env O M s (λo=>match o with | .next Γ'=>Γ'.h[0]? = some (x,nN (.ref 57) (ld W) (uni [] ks)) | _=>False))
   (gn W cCs env O M s (λo=>match o with | .next Γ'=>Γ'.h[0]? = some (x,nN (.ref 57) (ld W) (uni [] ks)) | _=>False)) s:=by
 refine bc (yd (W:=W)) λB d g=>?_
 refine Hc (CV (W:=W)) λz vs l C t u r m=>?_
 refine bc (Ac (yc (W:=W))) λy v p=>?_
 refine ks_wpAt_execs_cons (rest:=(fM 2 0).2.1.tail) ?_
 refine ks_wpAt_mono (wR (d0:=.fields #[]) (n:=n+2) (fd:=rk) (f:=39) (cc:=38) (x:=x) (ks:=ks) (T:=T) (W:=W) j I ((i.fill _).le (aW _ _)) (by kernel_rfl) (by kernel_rfl) a.func v p rfl a.code t u r m (by kernel_rfl) (a.clo _ _ (by kernel_rfl) (by decide +kernel)) d g 0 1 0 rfl rfl rfl rfl rfl b (by kernel_rfl) ?_ ?_ ?_ _ ?_) (λy y h=>h) λy y e=>False.elim e
 ·rfl
 ·exact⟨_,rfl⟩
 ·exact λy=>rfl
 ·intro s' k J
  refine iI ?_
  exact ad (CU i q c A env O M s' j J) (λy y h=>h.trans k (Ext.refl _ _)) λy y h=>h.trans k (Ext.refl _ _)
theorem CX:findIn W.K (.ref 57) "__init__" = some (some (.ref 39)):=by kernel_rfl
theorem AZ:typeIn W.K (.ref 39)=some (.type "function"):=by kernel_rfl
theorem CY:s4 W.K rk.code rk.qualname=true:=by kernel_rfl
theorem zm(dx:Addr):f4 (.ref 57) (ld W) [] (kz (ld W) dx):=⟨rfl,(λe=>nomatch e),by decide,λa=>0,0,7,0,rfl,.inl rfl⟩
theorem ye{kv:Option Value}{w:Value}(E:gP W n T ks)(hU:E6 ks U)(u:(38,34)∈W.tabs)(hb:∀x,peek W.K ⟨prg,W.w.params⟩ (bindArgs rk ⟨[x,v],pv kv⟩)=some [(S "self",x),(S "candidates",v),(S "num_cand",w)])(Z:aU W A (n+5))(g:GO W O s)(hv:T.p (am s.heap O) v)(hw:U.p (am s.heap O) w):wpAny (model prg W.w) A (call (.ref 57) [v] (pv kv)) (Res W O s (fy (.ref 57) (ld W) (uni [] ks))) Nev s:=by
 obtain⟨d,D,B,tk,os⟩:=s
 refine bQ (CS g.g.kin CX AZ ?_)
 generalize f:(⟨(d.push emptyDict).push (kz (ld W) d.objs.size),D,B,tk,os⟩:Shared)=s₁
 have N:∀b o,d.get? b=some o->s₁.heap.get? b=some o:=λb o e=>by subst f;exact aV _ (aV _ e)
 have X:s₁.heap.objs.size=d.objs.size+2:=by subst f;show((d.push emptyDict).push _).objs.size=_;rw[bi,bi]
 have ex:s₁={ (⟨d,D,B,tk,os⟩:Shared) with heap:=s₁.heap,toks:=tk }:=by subst f;rfl
 have i:G W s₁:=by rw[ex];exact g.g.step N (by rw[X];exact aW _ _)
 have y:aF ⟨d,D,B,tk,os⟩ s₁:=by rw[ex];exact aF.step N (by rw[X];exact aW _ _)
 have hx:s₁.heap.get? (d.objs.size+1)=some (kz (ld W) d.objs.size):=by
  subst f
  have:=bf (d.push emptyDict) (o:=kz (ld W) d.objs.size) rfl
  rwa [bi] at this
 have nx:d.objs.size+1∉O:=λm=>bz _ (jd (g.ok _ m).2)
 have vl:Vle (am d O) (am s₁.heap (O++[d.objs.size+1])):=λa o e c=>by
  have F:=af e
  refine aK (N _ _ F) λm=>?_
  rcases aj.mp m with m | m
  ·exact a8 e m
  ·rw[ah] at m;subst m;have h2:d.objs.size+1<d.objs.size:=aO F;exact absurd h2 (aw.mpr (bY _))
 have hsz:=g.g.siz
 obtain⟨oc,t,J⟩:=yd (W:=W)
 obtain⟨o9,h9,d9⟩:=Ac (yc (W:=W))
 have j:∀x c,(x,c)∈rk.closure->x=S "__class__" /\ c=25:=λx c m=>by
  have m:=ah.mp m
  cases m;exact⟨rfl,rfl⟩
 have R:57<d.objs.size:=by
  have:(W.K.lookup 57).any (λaa=>true)=true:=by kernel_rfl
  obtain⟨o,F,aa⟩:=cB this
  exact aO (h:=d) (g.g.kin _ _ F)
 have V:25<d.objs.size:=aO (h:=d) (g.g.kin _ _ t)
 refine bN (sn (C:=cCs) (fd:=rk) (L:=⟨[d.objs.size+1],[]⟩) (O:=O) (QE:=Nev) (Γ:=⟨[some (aE (.ref (d.objs.size+1))),some T,some U,none],[(d.objs.size+1,nN (.ref 57) (ld W) [])]⟩) (Q:=λv s'=>v = .none/\Res W O ⟨d,D,B,tk,os⟩ (fy (.ref 57) (ld W) (uni [] ks)) (.ref (d.objs.size+1)) s')
  (P:=λo=>match o with | .next Γ'=>Γ'.h[0]? = some (d.objs.size+1,nN (.ref 57) (ld W) (uni [] ks)) | _=>False) (n:=n+3) (Z.make _ _ _) i h9 d9 (dC CY i.kin) (hb _) GB ?_ ?_ ?_ ?_ (λaa=>nM) ?_ ?_ ?_ ?_ ?_ ?_ ?_) λr s' h=>?_
 ·exact λx c m=>by obtain⟨rfl,rfl⟩:=j x c m;exact⟨_,_,i.kin _ _ t,J⟩
 ·exact List.pairwise_singleton _ _
 ·intro x c m
  obtain⟨rfl,rfl⟩:=j x c m
  decide +kernel
 ·intro a m
  rw[X]
  rcases aj.mp m with m | m
  ·exact⟨(g.ok a m).1,aA (g.ok a m).2 (aW _ _)⟩
  ·have m:a=d.objs.size+1:=ah.mp m
   subst m;exact⟨iO hsz,dR _⟩
 ·exact⟨⟨_,rfl,rfl⟩,⟨_,rfl,T.mono vl hv⟩,⟨_,rfl,U.mono vl hw⟩,trivial⟩
 ·intro a P m
  have m:=ah.mp m
  cases m
  exact⟨ah.mpr rfl,nx,_,hx,rfl,zm _⟩
 ·simp
 ·intro a P m x m'
  have m:=ah.mp m
  cases m
  exact cE (fQ V) (j _ _ m').2
 ·intro env Y A O M s Z I
  exact CW (W:=W.at (env::W.frs)) ⟨λl=>E.fill l,λl=>E.len l,λl=>E.its l,E.lt⟩ hU u Y (cE (fQ R)) Z I
 ·intro v s' M' Γ' T k x g' H aa z
  rcases z with⟨q,a7⟩ | ⟨q,rfl⟩ | ⟨q,rfl⟩
  ·exact q.elim
  ·obtain⟨q1,od,q2,q3,q4⟩:=H _ _ (be q)
   refine⟨rfl,g',y.of_ext ⟨λb m=>.inr (by have m:b=d.objs.size+1:=ah.mp m;subst m;exact bY _),λaa m=>absurd m av⟩ k,_,od,rfl,aK q2 nx,q4⟩
  ·exact q.elim (λh=>h.elim) (λh=>h.elim)
 ·exact λaa aa aa aa aa aa aa aa aa aa aa aa q aa=>q.elim
 ·rcases r with er | (v | _ | _ | _) <;> first | exact h.elim | exact h
theorem A3(x v:Value):peek W.K ⟨prg,W.w.params⟩ (bindArgs rk ⟨[x,v],pv none⟩)=some [(S "self",x),(S "candidates",v),(S "num_cand",.none)]:=by kernel_rfl
theorem A4(x v w:Value):peek W.K ⟨prg,W.w.params⟩ (bindArgs rk ⟨[x,v],pv (some w)⟩)=some [(S "self",x),(S "candidates",v),(S "num_cand",w)]:=by kernel_rfl
theorem A5(c:gP W n T ks)(a:(38,34)∈W.tabs):aM W (n+5) (.ref 57) [T] [] (fy (.ref 57) (ld W) (uni [] ks)):=λA O s vs kv d g e hK=>by
 obtain⟨v,rfl,b⟩:=e.a1
 have f:=ay.nil_iff hK
 subst f
 exact ye (kv:=none) c (.inl rfl) a (λx=>A3 x v) d g b rfl
theorem wU{c:Nat}(e:gP W n T ks)(f:∀k∈ks,k<c)(a:(38,34)∈W.tabs):aM W (n+5) (.ref 57) [T] [(S "num_cand",ag c)] (fy (.ref 57) (ld W) (uni [] ks)):=λA O s vs kv h g b hK=>by
 obtain⟨v,rfl,d⟩:=b.a1
 obtain⟨w,rfl,i⟩:=hK.a1
 exact ye (kv:=some w) e (.inr ⟨c,rfl,f⟩) a (λx=>A4 x v w) h g d i
theorem SetOps.at{l:List Env}(K:SetOps W c):SetOps (W.at l) c:=⟨⟨K.sub⟩,K.find⟩
theorem zn(K:SetOps W c)(b:∀k∈l,k<4)(a:uni [] l=l):gP W n (fy c (ld W) l) l :=
 ⟨λl'=>zk K.at.toSetCls,λl'=>by rw[a];exact bD (W:=W.at l') K.at,λl' tgt=>(tw (W:=W.at l') K.at).its,b⟩
noncomputable abbrev cVo:Cx:=⟨(fM 33 0).2.2,[S "self",S "approved",S "weight",S "num_cand"],[],none⟩
noncomputable abbrev HB:FuncData:=fn (fM 33 0) (S "__init__") (S "Voter.__init__") 3 [] (.ref 602) .none .none (.str (S "abcvoting.preferences") 840) none (.ref 608) .none 0
theorem dh:fc W "CandidateSet" 57:=by kernel_rfl
noncomputable abbrev b0(W:Wc)(l:List Nat):Ty:=de 627 [(S "approved",fy (.ref 57) (ld W) l),(S "weight",ag 1)]
theorem E7:gH (fy c led l):=λa a=>F8 λa a e a=>by subst e;rfl
theorem gP.at{l:List Env}(h:gP W n T ks):gP (W.at l) n T ks:=⟨λl=>h.fill l,λl=>h.len l,λl=>h.its l,h.lt⟩
theorem wV{c:Nat}(b:gP W n T ks)(d:∀k∈ks,k<c)(a:(38,34)∈W.tabs):
  ExP W cVo ⟨[some (gG 627 dx),some T,some (ag 1),some (ag c)],[(dx,dY [])]⟩ (n+5) (fM 33 0).2.1 (λo=>match o with | .next Γ'=>Γ'.h[0]? = some (dx,dY [(S "approved",fy (.ref 57) (ld W) (uni [] ks)),(S "weight",ag 1)]) | .ret Γ' T=>T.le cJ/\Γ'.h[0]? = some (dx,dY [(S "approved",fy (.ref 57) (ld W) (uni [] ks)),(S "weight",ag 1)]) | _=>False):=by
 refine sq (fs:=[]) 0 (ao (gl _ dh) kf (ar1 (nm 1)) (eA (nm 3) au) (wU b d a)) E7 (nm 0) ?_
 refine sq (fs:=[(S "approved",_)]) 0 (nm 2) js (nm 0) ?_
 exact dD (TsP.eq (cp (EJ 0 (nm 0) (bt _ dS)) aJ uh) (by decide)) (aN rfl)
theorem A6{c:Nat}(g:gP W n T ks)(h:∀k∈ks,k<c)(a:(38,34)∈W.tabs):aM W (n+7) (.ref 627) [T] [(S "num_cand",ag c)] (b0 W (uni [] ks)) :=
 oq (fI:=609) (fd:=HB) (σ:=λdx=>[some (gG 627 dx),some T,some (ag 1),some (ag c)]) [S "self",S "approved",S "weight",S "num_cand"] (by kernel_rfl) (by kernel_rfl) (by kernel_rfl) (by kernel_rfl) (by kernel_rfl) (by kernel_rfl) (by rfl)
  (λV x vs ks i j=>by
   obtain⟨f,rfl,b⟩:=i.a1
   obtain⟨d,rfl,l⟩:=j.a1
   exact⟨[(S "self",x),(S "approved",f),(S "weight",.int 1 1016),(S "num_cand",d)],by kernel_rfl,rfl,λdx e=>⟨⟨_,rfl,e⟩,⟨_,rfl,b⟩,⟨_,rfl,⟨_,rfl⟩⟩,⟨_,rfl,l⟩,trivial⟩⟩)
  (λdx env m=>wV (W:=W.at (env::W.frs)) g.at h a)
inductive A7(W:Wc)(L:Addr)(Q':OTy)(R:Ty)(H:List Addr)(s:Shared)(v:Value)(s':Shared):Prop
 | mk (o':Obj) (g:G W s') (k:ak ⟨[L],[]⟩ s s') (ho:s'.heap.get? L=some o') (hn:nt o'=true) (q:Q'.p (am s'.heap H) o') (r:R.p (am s'.heap H) v)
def yf(W:Wc)(n:Nat)(f:Value)(Ts:List Ty)(L:Addr)(Q Q':OTy)(R:Ty):Prop:=∀A O s o vs,aU W A n->GO W O s->L∈O->s.heap.get? L=some o->nt o=true->Q.p (am s.heap O) o->ay (am s.heap O) Ts vs ->
 wpAny (model prg W.w) A (call f vs) (A7 W L Q' R O s) Nev s
theorem yg{Q:OTy}(ns:List Str)(hf:pp W.K a=some fd)(l:rW W.K C a ns=true)(hs:fd.scope=C.scope)(t:fd.body = .stmts body)(I:∀V vs,ay V Ts vs->∃binds,peek W.K ⟨prg,W.w.params⟩ (bindArgs fd ⟨vs,[]⟩)=some binds/\binds.map (·.1)=ns/\dL V binds C.names σ)(f:∀env,im a fd env->ExP (W.at (env::W.frs)) C ⟨σ,[(L,Q)]⟩ n body (λo=>match o with | .next Γ'=>Γ'.h[0]? = some (L,Q') | .ret Γ' T=>T.le cJ/\Γ'.h[0]? = some (L,Q') | _=>False)):yf W (n+1) (.ref a) Ts L Q Q' cJ:=λA O s d vs rm g u H R M Y=>by
 have D:=gt hf l hs t
 obtain⟨binds,e,en,B⟩:=I _ vs Y
 obtain⟨o,U,hd⟩:=D.here
 have q:∀x c,(x,c)∉fd.closure:=D.nc
 have E:∀b,b∈O.filter (λb=>decide (b≠L))++[L]↔b∈O:=λb=>by
  rw[aj,aR,ah]
  exact⟨λh=>h.elim (·.1) λe=>e▸u,λh=>if e:b=L then .inr e else .inl ⟨h,e⟩⟩
 have F:∀h:Heap,am h (O.filter (λb=>decide (b≠L))++[L])=am h O:=λh=>cr E
 refine bQ (bN (iA (L:=⟨[L],[]⟩) (O:=O.filter (λb=>decide (b≠L))) (Γ:=⟨σ,[(L,Q)]⟩) (Q:=A7 W L Q' cJ O s) (QE:=Nev) rm g.g U hd (dC D.code g.g.kin) e (D.ok binds en) (λx c m=>absurd m (q x c)) (by rw[D.clo];exact List.Pairwise.nil) (λx c m=>absurd m (q x c)) (λx X=>g.ok x ((E x).mp X)) (λA=>nM) ?_ ?_ ?_ ?_ f ?_ ?_) λr s' h=>?_)
 ·refine(?_:dL (am s.heap (O.filter (λb=>decide (b≠L))++[L])) binds C.names σ)
  rw[F];exact B
 ·intro a P m
  have m:=ah.mp m
  cases m
  refine⟨ah.mpr rfl,λm=>(aR.mp m).2 rfl,d,H,R,?_⟩
  refine(?_:Q.p (am s.heap (O.filter (λb=>decide (b≠L))++[L])) d)
  rw[F];exact M
 ·simp
 ·exact λA A A x=>q x _
 ·intro v s' M' Γ' T k x g' j A h
  have fin:Γ'.h[0]? = some (L,Q')->v = .none->A7 W L Q' cJ O s v s':=λZ z=>by
   obtain⟨q1,o',q2,q3,q4⟩:=j _ _ (be Z)
   exact⟨o',g',k,q2,q3,Q'.mono (bG λb m=>if e:b=L then al _ (e▸q1) else aq _ (aR.mpr ⟨m,e⟩)) q4,z⟩
  rcases h with⟨⟨y,J⟩,N⟩ | ⟨i,rfl⟩ | ⟨i,rfl⟩
  ·exact fin J (y _ _ N)
  ·exact fin i rfl
  ·exact(i.elim id id).elim
 ·exact λA A A A A A A A A A A A i A=>i.elim
 ·rcases r with er | (v | _ | _ | _) <;> first | exact h.elim | exact h
theorem A8{o:Expr}{id:String}{Q:OTy}(k:Nat)(ho:EvP W C Γ n o (aE (.ref L)))(Z:dJ W C Γ n es Ts)(E:∀(A:Around) (s:Shared) (o:Obj) (V:fH) (pl:Sem Bool) (R:Value×List Value->Shared->Prop),s.heap.get? L=some o->Q.p V o->R (.builtin id,[.ref L]) s->wpAny (model prg W.w) A (getMethod (.ref L) name pl) R Nev s)(hc:∀A O s o vs,aU W A n->GO W O s->L∈O->s.heap.get? L=some o->Q.p (am s.heap O) o->ay (am s.heap O) Ts vs ->
   wpAny (model prg W.w) A (call (.builtin id) (.ref L::vs)) (λG s'=>Gr W L Q' O s s') Nev s)(Y:ExP W C (Γ.hset k L Q') n b P)(F:autoParam (Γ.h[k]? = some (L,Q)) q_R)(he:autoParam (∀env,∃pl,eval (.Call (.Attribute o name apos) es [] pos) env=(do
   let ov ← eval o env
   standAt apos.atName
   let(f,first) ← holding [ov] (getMethod ov name pl)
   callWith pos f first (backTo pos (starEach es env)) (backToKw pos (keywordEach [] env)))) q_P)(H:autoParam (∀env,swapsWith (.Call (.Attribute o name apos) es [] pos) none spos.line env=pure false) q_R):ExP W C Γ n (.Expr (.Call (.Attribute o name apos) es [] pos) spos::b) P :=
 bT λA env O M s N I=>by
  obtain⟨pl,J⟩:=he env
  refine jC ?_ (mo I.ok.kind) (H env)
  refine g3 (ad (ho A env O M s N I) (λv s₁ c=>?_) az) J
  have e:=c.then I
  have K:v = .ref L:=c.2.2
  subst K
  obtain⟨G,G,G,G,B,l,G,j⟩:=e.phi L Q (be F)
  refine ad (E A s₁ B _ pl (λU s₂=>U=(.builtin id,[.ref L])/\s₁=s₂) l j ⟨rfl,rfl⟩) (λU D h'=>?_) az
  obtain⟨rfl,rfl⟩:=h'
  obtain⟨X,a3⟩:=Z A env O M s₁ pos N e
  refine dO (P:=KeP W (.builtin id)) ?_ (λh p=>p) ?_
  ·rw[X,dP];rfl
  ·refine bU (ns:=[]) X rfl (ad a3 (λvs s₂ a=>ac ⟨⟨.machine,.inr (.inl rfl),cR rfl⟩,?_⟩) az)
   have d:=e.keep a.2.1 a.1
   obtain⟨q1,G,G,G,t,g,G,i⟩:=d.phi L Q (be F)
   refine ad (hc A _ s₂ t vs N d.go (al _ q1) g i a.2.2) (λG T y=>?_) az
   obtain⟨o',z,x,r,q,m⟩:=y
   obtain⟨kM,u⟩:=d.chg F x z r q m
   exact⟨(ak.ofK (c.2.1.trans a.2.1)).trans kM,M,Ext.refl s M,.next _,Y,u⟩
theorem wW{o:Expr}(k:Nat)(a:EvP W C Γ n o (aE (.ref L)))(p:EvP W C Γ n e T)(x:ExP W C (Γ.hset k L (cq (Ts++[T]))) n b P)(hz:Ts.length<=sizeLine)(D:autoParam (Γ.h[k]? = some (L,cq Ts)) q_R)(t:autoParam (∀env,starEach [e] env=(false,eval e env)::starEach [] env) q_R)(E:autoParam (∀env,∃pl,eval (.Call (.Attribute o "append" apos) [e] [] pos) env=(do
   let ov ← eval o env
   standAt apos.atName
   let(f,first) ← holding [ov] (getMethod ov "append" pl)
   callWith pos f first (backTo pos (starEach [e] env)) (backToKw pos (keywordEach [] env)))) q_P)(m:autoParam (∀env,swapsWith (.Call (.Attribute o "append" apos) [e] [] pos) none spos.line env=pure false) q_R):
  ExP W C Γ n (.Expr (.Call (.Attribute o "append" apos) [e] [] pos) spos::b) P:=by
 refine A8 (id := "list.append") (Q:=cq Ts) (Q':=cq (Ts++[T])) k a (ar1 p t) ?_ ?_ x D E m
 ·intro A s o V pl R a w F
  obtain⟨vs,⟨c,rfl⟩,G⟩:=w
  exact getMethod_list_append a rfl rfl F
 ·intro A O s o vs I g u a w j
  obtain⟨B,⟨c,rfl⟩,i⟩:=w
  obtain⟨v,r,rfl,q,l⟩:=ay.cons_iff j
  rw[ay.nil_iff l]
  refine pW ⟨c,a⟩ (λh' H hs=>?_) (by rw[e7,ay.len i];exact hz)
  obtain⟨c',d⟩:=H
  rw[tz] at d
  refine⟨_,g.g.upd (g.ok L u).1 hs (.inl ⟨_,a,λG G=>nD⟩),dp (λb o y e=>(hs.2 b (λz=>y (ah.mpr z))).trans e) (λG G G e=>e) (aH hs.1.symm) (aB _),d,rfl,B++[v],⟨_,rfl⟩,?_⟩
  exact ay.mono (cm u hs) (ay.append i ⟨q,trivial⟩)
theorem vm{o:Expr}{f:Addr}{Q:OTy}(k:Nat)(ho:EvP W C Γ n o (de D fs))(ha:dJ W C Γ n es Ts)(hc:yf W n (.ref f) (de D fs::Ts) L Q Q' R)(hr:ExP W C (Γ.hset k L Q') n b P)(hk:autoParam (Γ.h[k]? = some (L,Q)) q_R)(T:autoParam (tc W.K D name f=true) q_K)(J:autoParam ((fs.map (·.1)).contains name=false) q_R)(Y:autoParam (keepIn W.K (.ref f)=true) q_K)(he:autoParam (∀env,∃pl,eval (.Call (.Attribute o name apos) es [] pos) env=(do
   let ov ← eval o env
   standAt apos.atName
   let(f,first) ← holding [ov] (getMethod ov name pl)
   callWith pos f first (backTo pos (starEach es env)) (backToKw pos (keywordEach [] env)))) q_P)(U:autoParam (∀env,swapsWith (.Call (.Attribute o name apos) es [] pos) none spos.line env=pure false) q_R):ExP W C Γ n (.Expr (.Call (.Attribute o name apos) es [] pos) spos::b) P :=
 bT λA env O M s X I=>by
  obtain⟨pl,V⟩:=he env
  refine jC ?_ (mo I.ok.kind) (U env)
  refine g3 (ad (ho A env O M s X I) (λv s₁ i=>?_) az) V
  have l:=i.then I
  have r:=i.2.2
  obtain⟨dx,od,⟨x,ox,rfl,a,hs⟩,b,m,d,c⟩:=r
  refine uC l.g (af a) hs (af b) d (c.no _ λT=>by rw[ba.mpr T] at J;cases J) T ?_
  obtain⟨a1,a3⟩:=ha A env O M s₁ pos X l
  refine dO (P:=KeP W (.ref f)) ?_ (λh p=>p) ?_
  ·rw[a1,dP];rfl
  ·refine bU (ns:=[]) a1 rfl (ad a3 (λvs s₂ e=>ac ⟨(kf Y) s₂ e.1,?_⟩) az)
   have j:=l.keep e.2.1 e.1
   obtain⟨q1,v,v,v,B,q,t,u⟩:=j.phi L Q (be hk)
   refine ad (hc A _ s₂ B (.ref x::vs) X j.go (al _ q1) q t u ⟨(de D fs).mono (e.2.1.vle0 _) i.2.2,e.2.2⟩) (λv Z H=>?_) az
   obtain⟨o',N,F,z,y,w,v⟩:=H
   obtain⟨kM,E⟩:=j.chg hk F N z y w
   exact⟨(ak.ofK (i.2.1.trans e.2.1)).trans kM,M,Ext.refl s M,.next _,hr,E⟩
noncomputable abbrev Ei(W:Wc)(n:Nat)(a:Addr)(Ts:List Ty)(R:Ty):Prop:=uu W n a Ts [] R
noncomputable def A9(K:Frag)(D:Addr)(x:Str)(p fget:Addr):Bool:=plainGet K D x&&(clsIn K D).isSome&&findIn K (.ref D) x==some (some (.ref p))&&specialIn K (.ref p) "__get__" == some (some (.builtin "property.__get__"))&&takesIn K (.ref p)==some true&&(recIn K p "property").bind List.head? == some (.ref fget)
theorem lV{p fget:Addr}(h:EvP W C Γ (n+1) e (de D fs))(q:A9 W.K D f p fget=true)(F:Ei W n fget [de D fs] R)(J:gH R)(U:∀env,eval (.Attribute e f pos) env=(do
   let o ← eval e env
   standAt pos.atName
   let r ← holding [o] (getAttr o f true)
   letTemporaryGo e o r
   pure r)):EvP W C Γ (n+1) (.Attribute e f pos) R:=λA env O M s y I=>by
 refine mG (ad (h A env O M s y I) (λv s₁ j=>?_) az) (U env)
 have i:=j.then I
 have V:=j.2.2
 obtain⟨dx,od,⟨x,ox,rfl,a,hs⟩,b,m,d,c⟩:=V
 simp only[A9,Bool.and_eq_true,beq_iff_eq] at q
 obtain⟨⟨⟨⟨⟨u,P⟩,H⟩,z⟩,B⟩,E⟩:=q
 obtain⟨N,L,t⟩:=Option.bind_eq_some_iff.mp E
 cases N with
 | nil=>cases t
 | cons w rest =>
  cases t
  refine get_bind (K:=W.K) i.g.kin (gu (af a) hs (af b)) (iJ u).1 (findObj_data P H z B) (iJ u).2 (bQ (prop_get (s:={ s₁ with toks:=s₁.toks+1 }) i.g.kin L ?_))
  have k:GO W (O++M.a) { s₁ with toks:=s₁.toks+1 }:=⟨(dW (O:=O) (T:=dk) (v:=.none) i.go.g trivial).1,i.go.ok,i.go.top⟩
  refine bN (F A.in1 _ _ [.ref x] [] y.in1 k ⟨j.2.2,trivial⟩ trivial) λr s' h'=>?_
  obtain⟨v,rfl,g',Q,l⟩:=h'
  refine(?_:wpAny _ _ (handedOut v) _ _ _)
  exact(handedOut_of (J _ _ l))▸(ac ⟨g',j.2.1.trans ((aF.tok (s:=s₁) (tk:=s₁.toks+1)).trans Q),l⟩)
theorem rt(l:isNotIn W.K "list" D=true):aM W n (.builtin "isinstance") [bw Ts,aE (.ref D)] [] (aG false):=λA O s vs ks q g m hK=>by
 obtain⟨v,r,rfl,f,k⟩:=ay.cons_iff m
 obtain⟨a,o,rfl,i,j⟩:=pL _ _ _ f
 obtain⟨v,r,rfl,d,c⟩:=ay.cons_iff k
 have d:v = .ref D:=d
 subst d
 have b:=ay.nil_iff c
 subst b
 have p:=ay.nil_iff hK
 subst p
 exact isn_call (P:=λh=>∃o,h.get? a=some o/\o.cls = .type "list") g.g.kin (λM=>j▸(Looks.ld (part:=none) i).andThen .now) l (by intro e;cases e) ⟨o,i,j⟩ list_cls (dW g.g rfl)
abbrev vn(j:Nat)(nm a:String)(code:Addr):FuncData:=fn (fM 32 j) (S nm) (S a) 3 [] .none .none .none (.str (S "abcvoting.preferences") 840) none (.ref code) .none 0
abbrev pg(m:Nat)(X V:Ty):List (Str×Ty):=[(S "candidates",aD (List.range m)),(S "cand_names",X),(S "_voters",V)]
abbrev kB(m:Nat)(X V:Ty):Ty:=de 590 (pg m X V)
abbrev cP1:Cx:=⟨(fM 32 1).2.2,[S "self"],[],none⟩
theorem oU{X V:Ty}(a:m<100):Ei W (n+1) 474 [kB m X V] (ag m) :=
 Eb (fM 32 1) cP1 [] (λenv =>
  bB (EvP.eq (ao (bl cu) kb (ar1 (dq (nm 0) dS (by kernel_rfl) (λb=>rfl))) au (ed (.inl rfl) (by simp;exact oA ‹_›))) (by simp)) (Ty.le_refl _))
theorem yh:fc W "Voter" 627:=by kernel_rfl
abbrev cP4:Cx:=⟨(fM 32 4).2.2,[S "self",S "voter",S "_voter"],[],none⟩
theorem zo{X V:Ty}(e:m<=4)(d:∀k∈ks,k<m)(b:uni [] ks=ks)(hz:ks.length<100)(a:(38,34)∈W.tabs):aM W (n+9) (.ref 496) [kB m X V,aD ks] [] (b0 W ks) :=
 rX (n:=n+8) (fM 32 4) cP4 [none] (λenv=>by
  refine s8 (jO (ao (bl gz) kb (ar2 (nm 1) (gl _ yh)) au (rt (by kernel_rfl)))) ?_
  have c:=A6 (W:=W.at (env::W.frs)) (n:=n+1) (mq (n:=n) (λk h=>aA (d k h) e) (by rw[b]) hz) d a
  rw[b] at c
  refine bo 2 (ao (gl _ yh) kf (ar1 (nm 1)) (eA (lV (p:=475) (fget:=474) (nm 0) (by kernel_rfl) ((oU (n:=n+6) (oB ‹_›))) js (λf=>rfl)) au) c) ?_
  exact aN (bB (nm 2) (Ty.le_refl _)))
theorem kn.eq(h:kn W n tgt T Θ)(q:∀Ts,Θ Ts->Θ' Ts):kn W n tgt T Θ':=λA O s v d g a=>ad (h A O s v d g a) (λf f c=>c.rec λF Ts e g k x b i z=>⟨F,Ts,q _ e,g,k,x,b,i,z⟩) az
abbrev cP5:Cx:=⟨(fM 32 5).2.2,[S "self",S "voter"],[],none⟩
abbrev cP6:Cx:=⟨(fM 32 6).2.2,[S "self",S "voters",S "voter"],[],none⟩
theorem E8{X:Ty}(d:m<=4)(f:∀k∈ks,k<m)(b:uni [] ks=ks)(hz:ks.length<100)(c:Ts.length<100)(a:(38,34)∈W.tabs):
  yf W (n+10) (.ref 503) [kB m X (aE (.ref L)),aD ks] L (cq Ts) (cq (Ts++[b0 W ks])) cJ :=
 yg (n:=n+9) (C:=cP5) (σ:=[some (kB m X (aE (.ref L))),some (aD ks)]) (fd:=vn 5 "add_voter" "Profile.add_voter" 502) [S "self",S "voter"] (by kernel_rfl) (by kernel_rfl) (by kernel_rfl) (by rfl) (λV' vs e=>by
  obtain⟨v,g,rfl,h,h'⟩:=e.a2
  exact⟨[(S "self",v),(S "voter",g)],by kernel_rfl,rfl,⟨_,rfl,h⟩,⟨_,rfl,h'⟩,trivial⟩) (λenv i =>
  wW (L:=L) (Ts:=Ts) (T:=b0 W ks) 0 (dq (nm 0) (bt _ (bt _ dS)) (by kernel_rfl) (λi=>rfl))
   (e5 (nm 0) (by kernel_rfl) rfl (by kernel_rfl) (ar1 (nm 1)) au (zo (W:=W.at (env::W.frs)) d f b hz a)) (aN rfl) (ae (cQ c) (by decide)))
theorem CZ{X:Ty}(i:m<=4)(p:∀ks∈bs,(∀k∈ks,k<m)/\uni [] ks=ks/\ks.length<100)(hz:bs.length<100)(g:(38,34)∈W.tabs):
  yf W (n+11) (.ref 510) [kB m X (aE (.ref L)),cH bs] L (cq []) (cq (bs.map (b0 W))) cJ :=
 yg (n:=n+10) (C:=cP6) (σ:=[some (kB m X (aE (.ref L))),some (cH bs),none]) (fd:=vn 6 "add_voters" "Profile.add_voters" 509) [S "self",S "voters"] (by kernel_rfl) (by kernel_rfl) (by kernel_rfl) (by rfl) (λV' vs o=>by
  obtain⟨v,t,rfl,h,h'⟩:=o.a2
  exact⟨[(S "self",v),(S "voters",t)],by kernel_rfl,rfl,⟨_,rfl,h⟩,⟨_,rfl,h'⟩,trivial⟩) (λenv u=>by
  refine fW (ι:=List Nat) (λl=>l=bs) aD (λk Γ=>Γ.set 2 (aD k)) (λu Us Γ=>∃w a,bs=a++Us/\Γ=⟨[some (kB m X (aE (.ref L))),some (cH bs),w],[(L,cq (a.map (b0 W)))]⟩) (eV (nm 1) (gy.its.eq λTs e=>⟨bs,rfl,e⟩)).itp (λk=>aZ 2) (λu e=>⟨_,[],e▸rfl,rfl⟩) ?_ ?_ (λu u=>rfl)
  ·rintro l rfl j k Us e Γ ⟨w,a,b,rfl⟩
   have c:k∈l:=fR e
   obtain⟨s,r,q⟩:=p k c
   have d:a.length<100:=by have:=aY List.length b;simp at this;exact ae (aX (aW _ _) 1) (ae (aX (aH this.symm) 1) hz)
   refine vm (f:=503) (Q:=cq (a.map (b0 W))) (Q':=cq (a.map (b0 W)++[b0 W k])) 0 (nm 0) (ar1 (nm 2)) (E8 (W:=W.at (env::W.frs)) i s r q (by simpa using d) g) (aN ?_)
   exact⟨_,a++[k],dA b,by rw[bW];rfl⟩
  ·rintro l rfl Γ ⟨w,a,b,rfl⟩
   have b:l=a:=by simpa using b
   exact aN (by subst b;rfl))
theorem Ej:jM W "str" (.type "str"):=⟨by kernel_rfl,by decide +kernel,by decide +kernel⟩
theorem wX:jM W "list" (.type "list"):=⟨by kernel_rfl,by decide +kernel,by decide +kernel⟩
theorem wY(a:k<1000):aM W n (.type "str") [ag k] [] dk:=λA O s vs ks d g b hK=>by
 obtain⟨v,rfl,⟨t,rfl⟩⟩:=b.a1
 have c:=ay.nil_iff hK
 subst c
 refine str_of_int_fit (N:=1000) ?_ (by decide) λe=>?_
 ·rw[bj (iR.mpr (Int.natCast_nonneg k))];exact bV.mpr a
 ·exact dW g.g trivial
theorem zp{Q:OTy}(k:Nat)(Y:jS W C Γ n value Q)(X:∀L,EvP W C ⟨Γ.v,Γ.h++[(L,Q)]⟩ n e (gG D dx))(R:∀L,ExP W C ((⟨Γ.v,Γ.h++[(L,Q)]⟩:Kn).hset k dx (dY (fs++[(f,aE (.ref L))]))) n b P)(H:autoParam (Γ.h[k]? = some (dx,dY fs)) q_R)(hf:autoParam ((fs.map (·.1)).contains f=false) q_R)(hz:autoParam (Nat.ble fs.length 100=true) q_R)(V:autoParam (uA W.K D f=true) q_K)(hs:autoParam (∀env,swapsWith value (some (.Attribute e f pos')) pos.line env=pure false) q_R):
  ExP W C Γ n (.Assign [.Attribute e f pos'] value pos::b) P:=bT λA env O M s N I=>by
 refine mI (ad (Y A env O M s N I) (λv s₁ q=>?_) az) (hs env)
 obtain⟨L,o,rfl,g,J,F,E,T,hp⟩:=q
 have p:=I.give J g F E T hp
 have l:Ext s M ⟨M.a++[L],M.g⟩:=⟨λa m=>(aj.mp m).imp id λm=>by rw[ah.mp m];exact F,λG=>.inl⟩
 refine ad (X L A env O _ s₁ N p) (λov s₂ j=>?_) az
 have i:=j.then p
 obtain⟨x,ox,rfl,a,hs⟩:=j.2.2
 have y:(Γ.h++[(L,Q)])[k]? = some (dx,dY fs):=by
  obtain⟨hl,e⟩:=b8.mp H
  exact(qg hl)▸(H)
 obtain⟨q1,q2,q3,G,od,q4,q5,m,d,c⟩:=i.phi dx _ (be y)
 refine uB i.g (af a) hs q4 d V (fs:=fs.map (·.1)) c.no (by have:=cL hz;simpa using this) λh' t B z u tk=>?_
 have r:=i.mut y u (tk:=tk) B z.nt (P':=dY (fs++[(f,aE (.ref L))])) ⟨_,z,?_⟩ (z.2.elim λes w=>w.elim λZ w=>.inr ⟨od,t,_,q4,B,⟨t,es,Z,B,w.1,w.2.1,w.2.2.2⟩,z.1.trans d.1.symm⟩)
 ·exact⟨((ak.ofK J:ak M s s₁).of_ext l ((ak.ofK j.2.1).trans r.1)),_,l,.next _,R L,r.2⟩
 ·have U:Vle (am s₂.heap (O++(M.a++[L]))) (am h' (O++(M.a++[L]))):=cm (al _ q1) u
  exact pb (c.mono U) hf (qC (am h' []) _ rfl) rfl
abbrev cP0:Cx:=⟨(fM 32 0).2.2,[S "self",S "num_cand",S "cand_names",S "cand"],[S "cand_names"],none⟩
abbrev HC:FuncData:=fn (fM 32 0) (S "__init__") (S "Profile.__init__") 3 [] (.ref 462) .none .none (.str (S "abcvoting.preferences") 840) none (.ref 466) .none 0
theorem d7:jM W "range" (.type "range"):=⟨by kernel_rfl,by decide +kernel,by decide +kernel⟩
theorem Ba(m:Nat):bw (fj 0 m)=aD (List.range m):=by simp[fj,aD]
abbrev tNm(m:Nat):Ty:=bw ((List.range m).filterMap λa=>some dk)
theorem zq(e:0<m)(b:m<=4):
  ExP W cP0 ⟨[some (gG 590 dx),some (ag m),some cJ,none],[(dx,dY [])]⟩ (n+5) (fM 32 0).2.1 (λo=>match o with | .next Γ'=>∃L,Γ'.h[0]? = some (dx,dY (pg m (tNm m) (aE (.ref L))))/\Γ'.h[1]? = some (L,cq []) | _=>False):=by
 refine dD (TsP.eq (cp (nm 1) aJ uh) (by simp;exact cE e)) ?_
 refine sq (T:=aD (List.range m)) (fs:=[]) 0 (EvP.eq (ao (bl wX) kt (ar1 (ao (bl d7) kt (ar1 (nm 1)) au eF)) au (sa (by decide) (oB ‹_›))) (Ba m)) wo (nm 0) ?_
 refine sq (fs:=[(S "candidates",_)]) 0 (lc (ι:=Nat) [S "cand"] [] [none] (List.range m) (λj=>ag (0+j)) (λi=>some dk) (λj Γ=>Γ.set 0 (ag (0+j))) (di (ao (bl d7) kt (ar1 (nm 1)) au eF) (by decide) (oB ‹_›)) (by simp[sizeLine];exact oC b) (λi=>aZ 0) (λi=>bx rfl) (λi i=>fa) ?_ trivial) wo (nm 0) ?_
 ·intro j c U d
  cases d
  exact ao (bl Ej) kt (ar1 (nm 0)) au (wY (by have:=aI.mp c;exact ae (aX (aH (b9 _)) 1) (ae this (oC b))))
 refine zp (fs:=[(S "candidates",_),(S "cand_names",_)]) (Q:=cq []) 0 (pK dl) (λL=>nm 0) (λL=>?_)
 refine dD (sZ (by intro i i;rfl) (nm 2) λA O s v f g a=>?_) (aN ⟨L,rfl,rfl⟩)
 have a:v = .none:=a
 subst a
 exact truthy_none ⟨rfl,g.g,aF.refl s⟩
inductive MkV(W:Wc)(O:List Addr)(s:Shared)(Tf:Addr->Ty)(Q:OTy)(v:Value)(s':Shared):Prop
 | mk (L:Addr) (o:Obj) (g:G W s') (k:aF s s') (hL:s.heap.objs.size<=L) (ho:s'.heap.get? L=some o) (hn:nt o=true) (q:Q.p (am s'.heap (O++[L])) o) (t:(Tf L).p (am s'.heap (O++[L])) v)
def wZ(W:Wc)(n:Nat)(f:Value)(Ts:List Ty)(Tf:Addr->Ty)(Q:OTy):Prop:=∀A O s vs,aU W A n->GO W O s->ay (am s.heap O) Ts vs->wpAny (model prg W.w) A (call f vs) (MkV W O s Tf Q) Nev s
theorem C0{fI:Addr}{fs:Addr->List (Str×Ty)}{Q:OTy}{σ:Addr->List (Option Ty)}(ns:List Str)(hm:makesIn W.K D=true)(hi:findIn W.K (.ref D) "__init__" = some (some (.ref fI)))(ht:typeIn W.K (.ref fI)=some (.type "function"))(hf:pp W.K fI=some fd)(Z:rW W.K C fI ns=true)(hs:fd.scope=C.scope)(X:fd.body = .stmts body)(hb:∀V x vs,ay V Ts vs->∃binds,peek W.K ⟨prg,W.w.params⟩ (bindArgs fd ⟨x::vs,[]⟩)=some binds/\binds.map (·.1)=ns/\∀dx,(gG D dx).p V x->dL V binds C.names (σ dx))(hQ:∀V o m,Q.p V o->¬fV o m)(q:∀dx env,im fI fd env->ExP (W.at (env::W.frs)) C ⟨σ dx,[(dx,dY [])]⟩ n body (λo=>match o with | .next Γ'=>∃L,Γ'.h[0]? = some (dx,dY (fs L))/\Γ'.h[1]? = some (L,Q) | _=>False)):
  wZ W (n+2) (.ref D) Ts (λL=>de D (fs L)) Q:=λA O s vs rm g hT=>by
 obtain⟨d,z,F,tk,os⟩:=s
 refine bQ (make_core (makes_of g.g.kin hm) (fB g.g.kin hi) (λself=>bind_fn g.g.kin self ht) (.inl rfl) ?_)
 generalize i:(⟨(d.push emptyDict).push (instObj D d.objs.size),z,F,tk,os⟩:Shared)=s₁
 have R:∀b o,d.get? b=some o->s₁.heap.get? b=some o:=λb o e=>by subst i;exact aV _ (aV _ e)
 have I:s₁.heap.objs.size=d.objs.size+2:=by subst i;show((d.push emptyDict).push _).objs.size=_;rw[bi,bi]
 have ex:s₁={ (⟨d,z,F,tk,os⟩:Shared) with heap:=s₁.heap,toks:=tk }:=by subst i;rfl
 have j:G W s₁:=by rw[ex];exact g.g.step R (by rw[I];exact aW _ _)
 have H:aF ⟨d,z,F,tk,os⟩ s₁:=by rw[ex];exact aF.step R (by rw[I];exact aW _ _)
 have hx:s₁.heap.get? (d.objs.size+1)=some (instObj D d.objs.size):=by
  subst i
  have:=bf (d.push emptyDict) (o:=instObj D d.objs.size) rfl
  rwa [bi] at this
 have hd:s₁.heap.get? d.objs.size=some emptyDict:=by subst i;exact aV _ (bf _ rfl)
 have nx:d.objs.size+1∉O:=λm=>bz _ (jd (g.ok _ m).2)
 have nd:d.objs.size∉O:=λm=>bz _ (g.ok _ m).2
 have vl:Vle (am d O) (am s₁.heap (O++[d.objs.size])):=λa o e c=>by
  have h1:=af e
  refine aK (R _ _ h1) λm=>?_
  rcases aj.mp m with m | m
  ·exact a8 e m
  ·rw[ah] at m;subst m;exact absurd (aO h1) (bz _)
 have l:(gG D d.objs.size).p (am s₁.heap (O++[d.objs.size])) (.ref (d.objs.size+1)) :=
  ⟨_,_,rfl,aK hx (λm=>(aj.mp m).elim nx λm=>by simp at m),rfl,rfl,rfl⟩
 refine fG (hb (am s₁.heap (O++[d.objs.size])) (.ref (d.objs.size+1)) vs (ay.mono vl hT)) λbinds e en B=>?_
 have y:=gt hf Z hs X
 refine bc y.here λo ho M=>?_
 have N:∀x c,(x,c)∉fd.closure:=y.nc
 refine bN (iA (L:=⟨[d.objs.size],[]⟩) (O:=O) (QE:=Nev) (Γ:=⟨σ d.objs.size,[(d.objs.size,dY [])]⟩) (Q:=λv s'=>v = .none/\MkV W O ⟨d,z,F,tk,os⟩ (λL=>de D (fs L)) Q (.ref (d.objs.size+1)) s') (rm.make _ _ _) j ho M (dC y.code j.kin) e (y.ok binds en) (λx c m=>absurd m (N x c)) (by rw[y.clo];exact List.Pairwise.nil) (λx c m=>absurd m (N x c)) (λa m=>?_) (λf=>nM) (B _ l) ?_ ?_ (λa P m x=>N x a) (q _) ?_ ?_) λr s' h=>?_
 ·rw[I]
  rcases aj.mp m with m | m
  ·exact⟨(g.ok a m).1,aA (g.ok a m).2 (aW _ _)⟩
  ·have m:a=d.objs.size:=ah.mp m
   subst m;exact⟨g.g.siz,mJ (by decide)⟩
 ·intro a P m
  have m:=ah.mp m
  cases m
  exact⟨ah.mpr rfl,nd,_,hd,rfl,_,qD,⟨λf T m=>absurd m av,λf f=>rfl⟩⟩
 ·simp
 ·intro v s' M' Γ' T k x g' u f E
  rcases E with⟨t,c5⟩ | ⟨t,rfl⟩ | ⟨t,rfl⟩
  ·exact t.elim
  ·refine bc t λL J U=>?_
   obtain⟨q1,od,q2,q3,m,dm,fm⟩:=u _ _ (be J)
   obtain⟨r1,oL,r2,r3,r4⟩:=u _ _ (be U)
   have Y:L≠d.objs.size:=λe=>by
    subst e
    rw[q2] at r2;cases r2
    exact hQ _ _ _ r4 dm
   have hL:d.objs.size+2<=L:=by
    rcases x.a L r1 with h | h
    ·exact absurd (ah.mp h) Y
    ·rw[I] at h;exact h
   have a1:=k.obj _ _ (by show d.objs.size+1∉[d.objs.size];simp) hx (ik (by simp))
   have kk:aF ⟨d,z,F,tk,os⟩ s':=H.of_ext ⟨λb m=>.inr (by have m:b=d.objs.size:=ah.mp m;subst m;exact aB _),λf m=>absurd m av⟩ k
   have nL:∀{a:Addr},a∉O->a<d.objs.size+2->a∉O++[L]:=λh h' m=>(aj.mp m).elim h λm=>by rw[ah.mp m] at h';exact aw.mpr hL h'
   have vd:Vle (am s'.heap (O++M'.a)) (am s'.heap (O++[L])):=bG λa m=>(aj.mp m).elim (λm=>aq _ m) λm=>al _ (by rw[ah.mp m];exact r1)
   exact⟨rfl,L,oL,g',kk,ae (aW _ 2) hL,r2,r3,Q.mono vd r4,d.objs.size,od,⟨_,_,rfl,aK a1 (nL nx (dR _)),rfl,rfl,rfl⟩,aK q2 (nL nd (mJ (by decide))),m,dm,fm.mono vd⟩
  ·exact t.elim (λh=>h.elim) (λh=>h.elim)
 ·exact λf f f f f f f f f f f f t f=>t.elim
 ·rcases r with er | (v | _ | _ | _) <;> first | exact h.elim | exact h
theorem GC{u cp:Pos}{f:Addr}{Tf:Addr->Ty}{Q:OTy}(i:Nat)(hf:EvP W C Γ n (.Name y u) (aE (.ref f)))(B:keepIn W.K (.ref f)=true)(N:dJ W C Γ n es Ts)(hc:wZ W n (.ref f) Ts Tf Q)(J:∀L,ExP W C ⟨Γ.v.set i (some (Tf L)),Γ.h++[(L,Q)]⟩ n b P)(Y:autoParam (C.names[i]? = some x) q_R)(V:autoParam (fe C x=true) q_K)(hs:autoParam (∀env,swapsWith (.Call (.Name y u) es [] cp) (some (.Name x pos')) pos.line env=pure false) q_R):ExP W C Γ n (.Assign [.Name x pos'] (.Call (.Name y u) es [] cp) pos::b) P :=
 bT λA env O M s z I=>mA (Q:=λf s'=>nu W C env O M s (uj W C n b P) f s') (by
  refine(?_:wpAny _ A (do callWith cp (← eval (.Name y u) env) [] (backTo cp (starEach es env)) (backToKw cp (keywordEach [] env))) _ _ s)
  refine aa (ad (hf A env O M s z I) (λv s₁ d=>?_) az)
  have w:v = .ref f:=d.2.2
  subst w
  have q:=d.then I
  refine ck (N A env O M s₁ cp z q) λH X=>?_
  refine dO (P:=KeP W (.ref f)) (by rw[H,dP];rfl) (λh p=>p) ?_
  refine bU (ns:=[]) H rfl (ad X (λvs s₂ c=>ac ⟨(kf B) s₂ c.1,?_⟩) az)
  have l:=q.keep c.2.1 c.1
  refine ad (hc A _ s₂ vs z l.go c.2.2) (λv F t=>?_) az
  obtain⟨L,o,g,k,D,Z,U,hp,w⟩:=t
  have r:=l.give k g D Z U hp
  have R:=d.2.1.trans (c.2.1.trans k)
  have e:Ext s M ⟨M.a++[L],M.g⟩:=⟨λa m=>(aj.mp m).imp id λm=>by rw[ah.mp m];exact ae (d.2.1.trans c.2.1).siz D,λG=>.inl⟩
  refine ad (dB (T:=Tf L) i Y (iV V) r (by rw[← iu];exact w)) (λG E j=>?_) az
  exact⟨(ak.ofK R).of_ext e j.1,_,e,.next _,J L,j.2⟩) (hs env)
theorem Inv.freezeT{Q:OTy}{n:Ty}(I:Inv W C env Γ O M s)(J:Γ.h[i]? = some (L,Q))(F:Γ.v[j]? = some (some T))(hT:∀V o v,V L=some o->Q.p V o->T.p V v->n.p V v):
  Inv W C env ⟨Γ.v.set j (some n),Γ.h.eraseIdx i⟩ O ⟨M.a.filter (λb=>decide (b≠L)),M.g⟩ s:=by
 obtain⟨ha,E,B,D,o,ho,hn,hp⟩:=I.phi L Q (be J)
 have k:∀a,a∈O++M.a.filter (λb=>decide (b≠L))->a∈O++M.a:=λa m=>(aj.mp m).elim (λm=>aq _ m) λm=>al _ (aR.mp m).1
 have r:Vle (am s.heap (O++M.a)) (am s.heap (O++M.a.filter (λb=>decide (b≠L)))):=bG k
 have nL:L∉O++M.a.filter (λb=>decide (b≠L)):=λm=>(aj.mp m).elim D λm=>(aR.mp m).2 rfl
 refine bc I.loc λm A N=>?_
 refine⟨I.g,I.ok,aR.mpr ⟨I.own,λe=>E e.symm⟩,λx c h h'=>aR.mpr ⟨I.cel x c h h',λe=>B x (e▸h)⟩,λa m=>I.up a (k a m),I.upg,⟨m,A,λq x U t K=>?_⟩,I.cells,λa R H=>?_,?_,I.top⟩
 ·by_cases l:j=q
  ·subst l
   have u:j<Γ.v.length:=by have:=(b8.mp F).1;exact this
   have d:(Γ.v.set j (some n))[j]? = some (some U):=K
   rw[ix u] at d
   cases d
   refine bc (N j x _ t F) λv sl z=>?_
   exact⟨_,sl,hT _ o _ (aK ho nL) (Q.mono r hp) (T.mono r z)⟩
  ·have d:(Γ.v.set j (some n))[q]? = some (some U):=K
   rw[fP l] at d
   refine bc (N q x U t d) λv sl z=>?_
   exact⟨v,sl,U.mono r z⟩
 ·have w:=List.mem_of_mem_eraseIdx H
  obtain⟨h1,h2,h3,h0,o',X,Y,Z⟩:=I.phi a R w
  have f:a≠L:=λe=>by
   subst e
   refine bc (List.mem_eraseIdx_iff_getElem?.mp H) λq t y=>?_
   obtain⟨lq,eq⟩:=b8.mp y
   obtain⟨li,P⟩:=b8.mp J
   have:(Γ.h.map (·.1))[q]'(by simpa using lq)=(Γ.h.map (·.1))[i]'(by simpa using li):=by simp[eq,P]
   exact t ((mz I.nod).mp this)
  exact⟨aR.mpr ⟨h1,f⟩,h2,h3,h0,o',X,Y,R.mono r Z⟩
 ·exact List.Sublist.nodup (List.Sublist.map _ (List.eraseIdx_sublist _ _)) I.nod
theorem w0(i j:Nat){Q:OTy}{q:Ty}(w:∀V o v,V L=some o->Q.p V o->T.p V v->q.p V v)(h:ExP W C ⟨Γ.v.set j (some q),Γ.h.eraseIdx i⟩ n b P)(u:autoParam (Γ.h[i]? = some (L,Q)) q_R)(t:autoParam (Γ.v[j]? = some (some T)) q_R):ExP W C Γ n b P:=λA env O M s B I=>by
 have l:∀a∈(⟨M.a.filter (λb=>decide (b≠L)),M.g⟩:Fp).a,a∈M.a:=λa m=>(aR.mp m).1
 refine ad (h A env O _ s B (I.freezeT u t w)) (λf s' h'=>?_) λe s' h'=>?_
 ·obtain⟨k,M',x,o,p,r⟩:=h'
  exact⟨bK k l (λe m=>m),M',⟨λa m=>(x.a a m).imp (l a) id,x.g⟩,o,p,r⟩
 ·obtain⟨k,M',X,x,f,d,Γ',c,p,y,tr,z⟩:=h'
  exact⟨bK k l (λe m=>m),M',X,⟨λa m=>(x.a a m).imp (l a) id,x.g⟩,f,d,Γ',c,p,y,tr,z⟩
theorem w1(i:0<m)(b:m<=4):wZ W (n+7) (.ref 590) [ag m] (λL=>kB m (tNm m) (aE (.ref L))) (cq []) :=
 C0 (C:=cP0) (fI:=467) (fd:=HC) (σ:=λdx=>[some (gG 590 dx),some (ag m),some cJ,none]) (fs:=λL=>pg m (tNm m) (aE (.ref L))) [S "self",S "num_cand",S "cand_names"] (by kernel_rfl) (by kernel_rfl) (by kernel_rfl) (by kernel_rfl) (by kernel_rfl) (by kernel_rfl) (by rfl)
  (λV x vs d=>by
   obtain⟨h,rfl,f⟩:=d.a1
   exact⟨[(S "self",x),(S "num_cand",h),(S "cand_names",.none)],by kernel_rfl,rfl,λdx g=>⟨⟨_,rfl,g⟩,⟨_,rfl,f⟩,⟨_,rfl,rfl⟩,trivial⟩⟩)
  (λV o m w a=>by obtain⟨vs,⟨c,e⟩,k⟩:=w;obtain⟨k,es,j,q,k⟩:=a;subst e;cases q)
  (λdx env k=>zq (W:=W.at (env::W.frs)) i b)
theorem vo{X:Ty}:∀V o v,V L=some o->(cq Ts).p V o->(kB m X (aE (.ref L))).p V v->(kB m X (bw Ts)).p V v:=λV o v i k w=>by
 obtain⟨dx,od,a,b,l,d,c⟩:=w
 refine⟨dx,od,a,b,l,d,⟨λf T g=>?_,λy j=>c.no y j⟩⟩
 simp only[pg,List.mem_cons,List.mem_nil_iff,or_false] at g
 rcases g with h | h | h
 ·cases h;exact c.has _ _ (by simp[pg])
 ·cases h;exact c.has _ _ (by simp[pg])
 ·cases h
  obtain⟨u,q,n,e⟩:=c.has (S "_voters") (aE (.ref L)) (by simp[pg])
  have e:u = .ref L:=e
  subst e
  exact⟨_,q,n,lO _ _ i k⟩
theorem Ek:jM W "sum" (.builtin "sum"):=⟨by kernel_rfl,by decide +kernel,by decide +kernel⟩
theorem vp:∀k:Nat,(List.replicate k (1:Int)).sum=k:=by
 intro k
 induction k with
 | zero=>rfl
 | succ k ih=>rw[List.replicate_succ,mZ,ih];exact Int.add_comm 1 _
theorem tN:jM W "iter" (.builtin "iter"):=⟨by kernel_rfl,by decide +kernel,by decide +kernel⟩
abbrev tPf(W:Wc)(m:Nat)(bs:List (List Nat)):Ty:=kB m (tNm m) (bw (bs.map (b0 W)))
theorem lX{X V:Ty}:(S "_voters",V)∈pg m X V:=bt _ (bt _ dS)
theorem zr{nm b:String}{code:Addr}{xs:List Str}{r:List (Option Ty)}(c:∀v,peek W.K ⟨prg,W.w.params⟩ (bindArgs (vn j nm b code) ⟨[v],[]⟩)=some [(S "self",v)])(d:dL V [] xs r)(h:ay V [T] vs)(a:∀v,dL V [(S "self",v)] xs r):
  ∃binds,peek W.K ⟨prg,W.w.params⟩ (bindArgs (vn j nm b code) ⟨vs,[]⟩)=some binds/\binds.map (·.1)=[S "self"]/\dL V binds (S "self" :: xs) (some T::r):=by
 obtain⟨v,rfl,e⟩:=h.a1
 exact⟨_,c v,rfl,⟨_,rfl,h.1⟩,a v⟩
abbrev cP7:Cx:=⟨(fM 32 7).2.2,[S "self"],[],some (.ref 516)⟩
theorem gA(hz:bs.length<100)(a:(516,512)∈W.tabs):aM W (n+4) (.ref 517) [tPf W m bs] [] (ag bs.length) :=
 s5 (n:=n+3) (fM 32 7) cP7 [] (λenv=>by
  refine bB (i3 (bl Ek) kb (iq.le (iq.eq (wS (ι:=List Nat) (P:=512) (c:=516) [S "voter"] [none] (λl=>l=bs) (b0 W) (λb=>ag 1) (λb=>true) (λk Γ=>Γ.set 0 (b0 W k)) rfl a (eV (dq (nm 0) lX (by kernel_rfl) (λb=>rfl)) (gy.its.eq λTs e=>⟨bs,rfl,e⟩)) (λl' k=>aZ 0) (λk=>bx rfl) (λb b b b b=>fa) (λb b b k b b=>dq (nm 0) (bt _ dS) (by kernel_rfl) (λb=>rfl)) trivial) ?_) (aW _ _)) (uT (n':=n+2) (Ψ:=λzs=>zs=List.replicate bs.length 1) (z:=(bs.length:Int)) (aB _) ?_ (oF hz))) (Ty.le_refl _)
  ·rintro Ts ⟨l,rfl,rfl⟩
   refine⟨_,rfl,?_⟩
   rw[gQ,iF (c:=ag 1) (λb b=>rfl),List.map_replicate];rfl
  ·rintro zs rfl
   refine⟨λz hz=>List.eq_of_mem_replicate hz▸by decide,?_⟩
   exact vp _)
theorem vq{f:Addr}(H:EvP W C Γ (n+1) value (de D fs))(B:EvP W C Γ (n+1) slice U)(E:aM W n (.ref f) [de D fs,U] [] R)(hs:autoParam (findIn W.K (.ref D) "__getitem__" = some (some (.ref f))) q_K)(hf:autoParam (fnIn W.K f=true) q_K)(u:autoParam (isFn W.K (.ref f)=true) q_K)(hsl:autoParam (∀o i,subscripted slice true o i=runValue (.builtin "lifetime.subscript" ⟨[o,i],[]⟩)) q_R):EvP W C Γ (n+1) (.Subscript value slice pos) R:=λA env O M s y I=>by
 refine aa (ad (H A env O M s y I) (λo s₁ j=>aa (aP (ad (B A env O M s₁ y (j.then I)) (λi s₂ h=>aa (ct ?_)) az))) az)
 have l:=h.then (j.then I)
 have p:=(de D fs).mono (h.2.1.vle0 _) j.2.2
 have q:=p
 obtain⟨dx,od,⟨x,ox,rfl,a,v⟩,b,m,d,c⟩:=q
 have t:∀L m,Fr (hK W) L s₂.heap m->wpAny (model prg W.w) A (subscriptTail value slice (.ref x) i) (Res W (O++M.a) s R) Nev s₂:=λL m F=>by
  refine sub_K (K:=W.K) (C:=D) (x:=x) (L:=L) (f:=f) (h₀:=hK W) (m:=m) (ox:=ox) (od:=some od) F (qF l.g) (gu (af a) v (af b)) hs hf u ?_ (hsl _ _)
  exact ad (E A.in1 _ s₂ [.ref x,i] [] y.in1 l.go ⟨p,h.2.2,trivial⟩ trivial) (λr z k=>⟨k.1,j.2.1.trans (h.2.1.trans k.2.1),k.2.2⟩) az
 exact fE (qG l.go) λL e=>fE e λm F=>t L m F
abbrev HD:Cx:=⟨(fM 32 11).2.2,[S "self"],[],none⟩
theorem C1:lU W (n+2) (.ref 545) [tPf W m bs] (wM (bs.map (b0 W))) :=
 E0 (n:=n+1) (C:=HD) (Γ:=⟨[some (tPf W m bs)],[]⟩) (fd:=vn 11 "__iter__" "Profile.__iter__" 544) [S "self"] (by kernel_rfl) (by kernel_rfl) (by kernel_rfl) (by rfl) (λV' vs a=>zr (λv=>by kernel_rfl) trivial a λb=>trivial) rfl (λenv b =>
  wN (CO (n:=n) (bl tN) (dq (nm 0) lX (by kernel_rfl) (λb=>rfl)) wL) (λL=>⟨L,Ty.le_refl _,by simp⟩))
theorem ru:ri W (n+2) (tPf W m bs) (bs.map (b0 W)):=wO (f:=545) (by kernel_rfl) (by kernel_rfl) C1
abbrev HE:Cx:=⟨(fM 32 12).2.2,[S "self",S "i"],[],none⟩
theorem w2(a:bs[i]? = some ks)(hz:i<100):aM W (n+1) (.ref 552) [tPf W m bs,ag i] [] (b0 W ks) :=
 rX (n:=n) (fM 32 12) HE [] (λenv =>
  bB (dZ (k:=i) (.inl rfl) (dq (nm 0) lX (by kernel_rfl) (λb=>rfl)) (nm 1) (by rw[dw,a];rfl) (oA ‹_›)) (Ty.le_refl _))
theorem nY(c:EvP W C Γ (n+2) value (tPf W m bs))(b:EvP W C Γ (n+2) slice (ag i))(a:bs[i]? = some ks)(hz:i<100)(hsl:autoParam (∀o i,subscripted slice true o i=runValue (.builtin "lifetime.subscript" ⟨[o,i],[]⟩)) q_R):EvP W C Γ (n+2) (.Subscript value slice pos) (b0 W ks):=vq (f:=552) c b (w2 a hz) (hsl:=hsl)
theorem ln:jM W "set" (.type "set"):=⟨by kernel_rfl,by decide +kernel,by decide +kernel⟩
def cI(bs:List (List Nat)):List Nat:=bs.foldl uni []
theorem lr(bs:List (List Nat))(k:List Nat):cI (bs++[k])=uni (cI bs) k:=by simp[cI,List.foldl_append]
abbrev cP2:Cx:=⟨(fM 32 2).2.2,[S "self",S "_approved_candidates",S "voter"],[],none⟩
theorem ph:aM W (n+4) (.ref 482) [tPf W m bs] [] (tS W (cI bs)) :=
 s5 (n:=n+3) (fM 32 2) cP2 [none,none] (λenv=>by
  refine kg (Q:=oS W []) 1 (lR (bl ln)) λL=>?_
  refine fW (ι:=List Nat) (λl=>l=bs) (b0 W) (λk Γ=>Γ.set 2 (b0 W k)) (λf Us Γ=>∃w a,bs=a++Us/\Γ=⟨[some (tPf W m bs),some (aE (.ref L)),w],[(L,oS W (cI a))]⟩) (eV (dq (nm 0) lX (by kernel_rfl) (λf=>rfl)) (gy.its.eq λTs e=>⟨bs,rfl,e⟩)).itp (λk=>aZ 2) (λf e=>⟨_,[],e▸rfl,rfl⟩) ?_ ?_ (λf f=>rfl)
  ·rintro l rfl d k Us e Γ ⟨w,a,b,rfl⟩
   refine zc (c:=.ref 57) (l:=cI a) (l':=k) ka 1 0 (dq (nm 2) dS (by kernel_rfl) (λf=>rfl)) (aN ⟨_,a++[k],dA b,by rw[lr];rfl⟩)
  ·rintro l rfl Γ ⟨w,a,b,rfl⟩
   have b:l=a:=by simpa using b
   subst b
   exact f7 (T:=tS W (cI l)) 0 1 wJ (bB (nm 1) (Ty.le_refl _)))
theorem i4:EvP W C Γ n (.Dict [] [] pos) dk:=λA env O M s b I=>by
 obtain⟨g',k,a⟩:=bJ I.go { cls:=.type "dict",data:=.dict #[] } s.toks
 exact wpAny_Dict_empty ⟨g',k,trivial⟩
def tO(W:Wc)(C:Cx)(Γ:Kn)(n:Nat)(b:List (Option Expr))(a:List Expr):Prop:=∀A env O M s pos,aU W A n->Inv W C env Γ O M s ->
 wpAny (model prg W.w) A (evalPairs (pairTrees b a env pos)) (λvs s'=>G W s'/\aF s s'/\∃kvs,Carries (strKind prg W.w) vs kvs) Nev s
theorem gR:tO W C Γ n [] []:=λA env O M s pos a I=>pairTrees_nil_walk ⟨I.g,aF.refl s,[],trivial⟩
theorem b7{u:Pos}{v:Expr}{ks:List (Option Expr)}{vs:List Expr}(h:EvP W C Γ n v T)(o:tO W C Γ n ks vs):tO W C Γ n (some (.Constant (.str x) k u)::ks) (v::vs):=λA env O M s pos l I=>by
 refine pairTrees_cons_walk (ad (fu A env O M s l I) (λkv s₁ a=>?_) az)
 have b:=a.then I
 refine ad (h A env O M s₁ l b) (λp s₂ c=>?_) az
 have e:=c.then b
 refine ad (o A env O M s₂ pos l e) (λr m g=>?_) az
 refine dn g λd f i=>?_
 refine dK i λkvs q=>?_
 refine dK a.2.2 λt j=>?_
 obtain rfl:=j
 exact⟨d,a.2.1.trans (c.2.1.trans f),(x,p)::kvs,by show Value.isStrOf x (.str x t)=true;simp[Value.isStrOf],rfl,q⟩
theorem i5{c:List (Option Expr)}{d:List Expr}(h:tO W C Γ n c d)(l:autoParam (c.all (·.isSome)=true) q_R)(D:autoParam (c.length=d.length) q_R)(u:autoParam (c.isEmpty=false) q_R)(r:autoParam (Nat.ble c.length 15=true) q_R):EvP W C Γ n (.Dict c d pos) dk:=λA env O M s J I=>by
 refine dn (bJ I.go { cls:=.type "dict",data:=.dict #[] } s.toks) λg' k K=>?_
 have H:=I.keep k g'
 refine wpAny_Dict_walk (knd:=strKind prg W.w) l D (by intro e;rw[e] at u;cases u) (cL r) (ad (h A env O M _ pos J H) (λvs s₁ q=>?_) az)
 refine dn q λp f t=>?_
 refine dK t λkvs y=>?_
 have hd:(s.heap.push { cls:=.type "dict",data:=.dict #[] }).get? s.heap.objs.size=some { cls:=.type "dict",data:=.dict #[] }:=bf _ rfl
 have i:=f.obj' hd rfl
 refine⟨kvs,y,?_,λh' P j=>?_⟩
 ·exact⟨_,#[],0,i,⟨rfl,rfl,rfl⟩,rfl,λa F=>by simp at F,Pairs.nil,gb⟩
 ·refine⟨p.upd0 I.g.siz j λw=>?_,(k.trans f).of_ext ⟨λa m=>.inr (by rw[ah.mp m];exact aB _),λa m=>absurd m av⟩ (dp (M:=⟨[s.heap.objs.size],[]⟩) (λb o x e=>(j.2 b (λz=>x (ah.mpr z))).trans e) (λa a a e=>e) (aH j.1.symm) (aB _)),trivial⟩
  refine bc w λe m E=>?_
  refine wh ((I.g.frs e m).loc) λL N o v Q B a=>?_
  rw[E] at v;cases v
  exact absurd (aO B) (bz _)
def tP(bs:List (List Nat))(a l2:List Nat):Bool:=bs.all (λk=>decide ((aQ k l2).length<=(aQ k a).length))&&bs.any (λk=>decide ((aQ k l2).length<(aQ k a).length))
abbrev cDo:Cx:=⟨(fT 13).2.2,[S "profile",S "committee1",S "committee2",S "voter"],[],none⟩
abbrev tC(W:Wc)(l:List Nat):Ty:=fy (.ref 57) (ld W) l
theorem vr(h:EvP W C Γ (n+2) e (tPf W m bs)):io W C Γ (n+2) tgt e (λTs=>∃l,l=bs/\Ts=l.map (b0 W)):=eV h (ru.its.eq λTs e=>⟨bs,rfl,e⟩)
theorem ie{k:List Nat}(h:EvP W C Γ n e (b0 W k))(a:autoParam (∀env,eval (.Attribute e (S "approved") pos) env=(do
   let o ← eval e env
   standAt pos.atName
   let r ← holding [o] (getAttr o (S "approved") true)
   letTemporaryGo e o r
   pure r)) q_R):EvP W C Γ n (.Attribute e (S "approved") pos) (tC W k):=dq h dS (by kernel_rfl) a
theorem vt(r:∀k∈ks,k<4)(q:(uni [] ks).length=ks.length)(hz:ks.length<100)(s:∀k∈l2,k<4)(p:uni [] l2=l2)(g:(38,34)∈W.tabs):
  aM W (n+7) (.ref 198) [tPf W m bs,bH (ks.map ag),tC W l2] [] (aG (tP bs (uni [] ks) l2)) :=
 s7 (n:=n+6) (fT 13) cDo [none] (λenv=>by
  have o:=A5 (W:=W.at (env::W.frs)) (n:=n+1) (zl (n:=n) r q hz) g
  have i:=A5 (W:=W.at (env::W.frs)) (n:=n+1) (zn bM s p) g
  rw[p] at i
  refine bo 1 (ao (gl _ dh) kf (ar1 (nm 1)) au o) ?_
  refine bo 2 (ao (gl _ dh) kf (ar1 (nm 2)) au i) ?_
  refine fW (ι:=List Nat) (λl=>l=bs) (b0 W) (λk Γ=>Γ.set 3 (b0 W k)) (λt Us Γ=>∃w a,bs=a++Us/\(a.all λk=>decide ((aQ k l2).length<=(aQ k (uni [] ks)).length))=true/\Γ=⟨[some (tPf W m bs),some (tC W (uni [] ks)),some (tC W l2),w],[]⟩) (vr (nm 0)).itp (λk=>aZ 3) (λt e=>⟨_,[],e▸rfl,rfl,rfl⟩) ?_ ?_ (λt t=>rfl)
  ·rintro l rfl j k Us e Γ ⟨w,a,d,b,rfl⟩
   have c:k∈l:=fR e
   by_cases h:(aQ k (uni [] ks)).length<(aQ k l2).length
   ·refine fw (TsP.eq (cp (ao (bl cu) kb (ar1 (gO bM bM fY (ie (nm 3)) (nm 1))) au (bD bS)) (ao (bl cu) kb (ar1 (gO bM bM fY (ie (nm 3)) (nm 2))) au (bD bS)) ia) (c8 (bV.mpr h))) (bB bO ?_)
    have hd:tP l (uni [] ks) l2=false:=by
     have:(l.all λk=>decide ((aQ k l2).length<=(aQ k (uni [] ks)).length))=false:=List.all_eq_false.mpr ⟨k,c,by simp;exact h⟩
     rw[tP,this];rfl
    exact hd▸(Ty.le_refl _)
   ·refine dD (TsP.eq (cp (ao (bl cu) kb (ar1 (gO bM bM fY (ie (nm 3)) (nm 1))) au (bD bS)) (ao (bl cu) kb (ar1 (gO bM bM fY (ie (nm 3)) (nm 2))) au (bD bS)) ia) (eR (λz=>h (bV.mp z)))) (aN ⟨_,a++[k],dA d,?_,rfl⟩)
    rw[List.all_append,b];simp;exact aw.mp h
  ·rintro l rfl Γ ⟨w,a,d,b,rfl⟩
   have d:l=a:=by simpa using d
   subst d
   refine j6 (Γ':=⟨[some (tPf W m l),some (tC W (uni [] ks)),some (tC W l2),none],[]⟩) rfl rfl ?_
   refine fW (ι:=List Nat) (λl'=>l'=l) (b0 W) (λk Γ=>Γ.set 3 (b0 W k)) (λt Us Γ=>∃w a,l=a++Us/\(a.any λk=>decide ((aQ k l2).length<(aQ k (uni [] ks)).length))=false/\Γ=⟨[some (tPf W m l),some (tC W (uni [] ks)),some (tC W l2),w],[]⟩) (vr (nm 0)).itp (λk=>aZ 3) (λt e=>⟨_,[],e▸rfl,rfl,rfl⟩) ?_ ?_ (λt t=>rfl)
   ·rintro l' rfl j k Us e Γ ⟨w,a,d,f,rfl⟩
    have c:k∈l':=fR e
    by_cases h:(aQ k l2).length<(aQ k (uni [] ks)).length
    ·refine fw (TsP.eq (cp (ao (bl cu) kb (ar1 (gO bM bM fY (ie (nm 3)) (nm 1))) au (bD bS)) (ao (bl cu) kb (ar1 (gO bM bM fY (ie (nm 3)) (nm 2))) au (bD bS)) qq) (c8 (bV.mpr h))) (bB bO ?_)
     have hd:tP l' (uni [] ks) l2=true:=by
      have:(l'.any λk=>decide ((aQ k l2).length<(aQ k (uni [] ks)).length))=true:=cn.mpr ⟨k,c,by simp;exact h⟩
      rw[tP,this,b];rfl
     exact hd▸(Ty.le_refl _)
    ·refine dD (TsP.eq (cp (ao (bl cu) kb (ar1 (gO bM bM fY (ie (nm 3)) (nm 1))) au (bD bS)) (ao (bl cu) kb (ar1 (gO bM bM fY (ie (nm 3)) (nm 2))) au (bD bS)) qq) (eR (λz=>h (bV.mp z)))) (aN ⟨_,a++[k],dA d,?_,rfl⟩)
     rw[kU,f];simp;exact aw.mp h
   ·rintro l' rfl Γ ⟨w,a,d,f,rfl⟩
    have d:l'=a:=by simpa using d
    subst d
    refine bB bO ?_
    have hd:tP l' (uni [] ks) l2=false:=by rw[tP,f,e8]
    rw[hd];exact Ty.le_refl _)
noncomputable def cT:Nat->List (List Nat)->List (Nat×List Nat)
 | _,[]=>[]
 | i,k::ks=>(i,k)::cT (i+1) ks
theorem kh{k:List Nat}{ks:List (List Nat)}:cT i (k::ks)=(i,k)::cT (i+1) ks:=rfl
noncomputable abbrev tEn(W:Wc)(p:Nat×List Nat):Ty:=bH [ag p.1,b0 W p.2]
theorem Bb(bs:List (List Nat)):∀(i:Nat),lT i (bs.map (b0 W))=(cT i bs).map (tEn W):=by
 induction bs with
 | nil =>
  intro a
  exact rfl
 | cons k ks ih =>
  intro i
  rw[cz,vf,ih,kh];rfl
theorem i6(bs:List (List Nat)):∀(i:Nat),∀p∈cT i bs,p.1<i+bs.length:=by
 induction bs with
 | nil =>
  intro a p h
  cases h
 | cons k ks ih =>
  intro i p h
  rcases aC.mp h with rfl | h
  ·simp
  ·have:=ih (i+1) p h;simp only[List.length_cons];exact iw i 1 ks.length▸this
theorem zt(bs:List (List Nat)):∀(i:Nat),(cT i bs).map (·.2)=bs:=by
 induction bs with
 | nil =>
  intro a
  exact rfl
 | cons k ks ih =>
  intro i
  rw[kh,cz,ih]
theorem E9:jM W "enumerate" (.type "enumerate"):=⟨by kernel_rfl,by decide +kernel,by decide +kernel⟩
theorem oX{a:List Expr}{j:Nat}{tp:Pos}(c:C.scope.names.lookup (S "enumerate")=some .globalImplicit)(h:EvP W C Γ (n+4) e (tPf W m bs))(hs:autoParam (∀env,starEach [e] env=(false,eval e env)::starEach [] env) q_R):
  io W C Γ (n+4) (.Tuple a j tp) (.Call (.Name (S "enumerate") p) [e] [] pos) (λTs=>∃l,l=cT 0 bs/\Ts=l.map (tEn W)):=λA env O M s f I =>
 ad (AR (n:=n+2) (bl E9 c) h ru hs A env O M s f I) (λo o h=>ad h (λo o d=>d.rec λF Ts e g k x b i z=>⟨F,Ts,⟨_,rfl,e.trans (Bb bs 0)⟩,g,k,x,b,i,z⟩) az) az
noncomputable def ig(c:Nat)(l2 k:List Nat):Bool:=k.contains c&&(aQ k l2).length==0
noncomputable def jrB(m:Nat)(bs:List (List Nat))(l2:List Nat)(p q:Nat):Bool:=(List.range m).all λc=>!decide (((p*1:Nat):Int)<=(((bs.filter (ig c l2)).length*q:Nat):Int))
noncomputable abbrev cJr:Cx:=⟨(fT 21).2.2,[S "profile",S "committee",S "quota",S "cand",S "group",S "group_weight",S "vi",S "voter",S "detailed_information"],[],none⟩
noncomputable abbrev fPr(j:Nat)(nm:String)(code:Addr)(a:Value):FuncData:=fn (fT j) (S nm) (S nm) 3 [] a .none .none (.str (S "abcvoting.properties") 648) none (.ref code) .none 0
noncomputable abbrev jrK(W:Wc)(m:Nat)(bs:List (List Nat))(l2:List Nat)(p q:Nat)(r:List (Option Ty))(h:List (Addr×OTy)):Kn:=⟨[some (tPf W m bs),some (tC W l2),some (tFr p q)]++r,h⟩
inductive JrO(W:Wc)(m:Nat)(bs:List (List Nat))(l2:List Nat)(p q:Nat)(Us:List Nat)(Γ:Kn):Prop
 | mk (w3 w4 w5 w6 w7 w8:Option Ty) (Rd:List Nat) (e:List.range m=Rd++Us) (h:(Rd.all λc=>!decide (((p*1:Nat):Int)<=(((bs.filter (ig c l2)).length*q:Nat):Int)))=true) (g:Γ=jrK W m bs l2 p q [w3,w4,w5,w6,w7,w8] [])
inductive JrI(W:Wc)(m:Nat)(bs:List (List Nat))(l2:List Nat)(p q c:Nat)(L:Addr)(Us:List (Nat×List Nat))(Γ:Kn):Prop
 | mk (w6 w7:Option Ty) (g:List Nat) (Rd:List (Nat×List Nat)) (e:cT 0 bs=Rd++Us) (h:Γ=jrK W m bs l2 p q [some (ag c),some (aE (.ref L)),some (bh (((Rd.map (·.2)).filter (ig c l2)).length:Nat)),w6,w7,none] [(L,oS W g)])
theorem C2{p q:Nat}(x:bs.length<=4)(z:p<1000):ExP W cJr (jrK W m bs l2 p q [none,none,none,none,none,none] []) (n+6) (fT 21).2.1 (jr (bH [aG (jrB m bs l2 p q),dk])):=by
 refine fW (ι:=Nat) (λl=>l=List.range m) ag (λk Γ=>Γ.set 3 (ag k)) (λF=>JrO W m bs l2 p q) (eV (dq (nm 0) dS (by kernel_rfl) (λF=>rfl)) (gy.its.eq λTs e=>⟨_,rfl,e⟩)).itp (λk=>aZ 3) (λF e=>⟨_,_,_,_,_,_,[],e▸rfl,rfl,rfl⟩) ?_ ?_ (λF F=>rfl)
 ·rintro l rfl A c Us e Γ ⟨C,B,D,r,w,E,v,i,d,rfl⟩
  refine j6 (Γ':=jrK W m bs l2 p q [some (ag c),none,none,none,none,none] []) rfl rfl ?_
  refine kg (Q:=oS W []) 4 (lR (bl ln)) λL=>?_
  refine bo (T:=bh 0) 5 aJ ?_
  refine fW (ι:=Nat×List Nat) (λl=>l=cT 0 bs) (tEn W) (λk Γ=>(Γ.set 6 (ag k.1)).set 7 (b0 W k.2)) (λF=>JrI W m bs l2 p q c L) (oX (n:=n+2) (by kernel_rfl) (nm 0)).itp (λk=>k9 6 7) (λF e=>⟨_,_,_,[],e▸rfl,rfl⟩) ?_ ?_ (λF F=>rfl)
  ·rintro l rfl s k o y Γ ⟨r,w,g,a,b,rfl⟩
   have u:k.1<4:=by have:=i6 bs 0 k (fR b);exact ae this (ae (aH (b9 _)) x)
   have hz:(((aQ k.2 l2).length:Int)==0)=((aQ k.2 l2).length==0):=by
    rw[dy,aL,aL];exact mO (n:=0)
   by_cases h:ig c l2 k.2=true
   ·refine fw (TsP.eq (gq (cN (k.2.contains c) (cp (nm 3) (ie (nm 7)) (nQ bM)) λF=>cN (((aQ k.2 l2).length:Int)==0) (cp (ao (bl cu) kb (ar1 (gO bM bM fY (ie (nm 7)) (nm 1))) au (bD bS)) aJ sm) λF=>ji)) (by rw[hz,cy];exact h)) ?_
    refine EW 4 0 (nm 6) u (jT (q:=((1:Nat):Int)) 5 (dq (nm 7) (bt _ dS) (by kernel_rfl) (λF=>rfl)) (aN (aN ⟨some (ag k.1),some (b0 W k.2),ins k.1 g,a++[k],dA b,?_⟩)))
    have t:((((a++[k]).map (·.2)).filter (ig c l2)).length:Int)=(((a.map (·.2)).filter (ig c l2)).length:Nat)+((1:Nat):Int):=by
     rw[bW,m6,dU,cz,m7,List.filter_cons_of_pos h];rfl
    rw[t];rfl
   ·refine dD (TsP.eq (gq (cN (k.2.contains c) (cp (nm 3) (ie (nm 7)) (nQ bM)) λF=>cN (((aQ k.2 l2).length:Int)==0) (cp (ao (bl cu) kb (ar1 (gO bM bM fY (ie (nm 7)) (nm 1))) au (bD bS)) aJ sm) λF=>ji)) (by rw[hz,cy];exact Bool.eq_false_iff.mpr h)) (aN ⟨some (ag k.1),some (b0 W k.2),g,a++[k],dA b,?_⟩)
    have t:(((a++[k]).map (·.2)).filter (ig c l2)).length=((a.map (·.2)).filter (ig c l2)).length:=by
     rw[bW,m6,dU,cz,m7,List.filter_cons_of_neg h];rfl
    rw[t];rfl
  ·rintro l rfl Γ ⟨r,w,g,a,b,rfl⟩
   refine f7 (T:=tS W g) 0 4 wJ ?_
   have b:cT 0 bs=a:=by simpa using b
   have j:a.map (·.2)=bs:=by rw[← b,zt]
   rw[j]
   have f:(bs.filter (ig c l2)).length<1000:=by have:=gj (ig c l2) bs;exact ae (aX this 1) (oB x)
   by_cases h:((p*1:Nat):Int)<=(((bs.filter (ig c l2)).length*q:Nat):Int)
   ·refine fw (TsP.eq (cp (nm 5) (nm 2) (qP z f oJ)) (c8 h)) ?_
    refine bo (T:=dk) 8 (i5 (b7 (nm 4) (b7 (nm 3) gR))) (bB (cg (ar2 bO (nm 8))) ?_)
    have hd:jrB m bs l2 p q=false:=List.all_eq_false.mpr ⟨c,fR e,by rw[c8 h];decide⟩
    exact hd▸(Ty.le_refl _)
   ·refine dD (TsP.eq (cp (nm 5) (nm 2) (qP z f oJ)) (eR h)) (aN ⟨_,_,_,_,_,_,v++[c],dA i,?_,rfl⟩)
    rw[List.all_append,d,List.all_cons,List.all_nil,eR h];rfl
 ·rintro l rfl Γ ⟨C,B,D,r,w,E,v,i,d,rfl⟩
  have i:List.range m=v:=by simpa using i
  refine bo (T:=dk) 8 i4 (bB (cg (ar2 bO (nm 8))) ?_)
  rw[jrB,i,d];exact Ty.le_refl _
theorem GD{p q:Nat}(c:bs.length<=4)(g:p<1000):aM W (n+7) (.ref 392) [tPf W m bs,tC W l2] [(S "quota",tFr p q)] (bH [aG (jrB m bs l2 p q),dk]) :=
 (uw (Ps:=[tPf W m bs,tC W l2,tFr p q]) (n:=n+6) (fT 21) cJr [none,none,none,none,none,none] (λV vs ks a b=>by
  obtain⟨u,v,rfl,f,e⟩:=a.a2
  obtain⟨w,rfl,d⟩:=b.a1
  exact⟨[u,v,w],⟨f,e,d,trivial⟩,by kernel_rfl⟩) (λenv=>C2 (W:=W.at (env::W.frs)) c g) (by kernel_rfl)).call
abbrev quP(N k:Nat):Nat:=jP N 1 k 1
abbrev quQ(N k:Nat):Nat:=iC N 1 k 1
theorem GE:fc W "_check_JR" 392:=by kernel_rfl
theorem nZ(b:k≠0)(c:N<1000)(a:k<1000):aM W (n+3) (.ref 349) [ag N,ag k] [] (tFr (quP N k) (quQ N k)) :=
 Aj (n:=n+1) (λl=>j7) (λl=>j7) (by decide) b c a (by decide) (by decide)
abbrev cCJ:Cx:=⟨(fT 20).2.2,[S "profile",S "committee",S "quota",S "standard_quota",S "result",S "detailed_information"],[],none⟩
structure Case(m:Nat)(bs:List (List Nat))(ks:List Nat):Prop where
 m0:0<m
 m4:m<=4
 b4:bs.length<=4
 bu:∀k∈bs,(∀c∈k,c<m)/\uni [] k=k/\k.length<100
 km:∀k∈ks,k<m
 ku:uni [] ks=ks
 k0:ks.length≠0
 k4:ks.length<=4
theorem Fb(a:N<1000):quP N k<1000:=bp (Nat.div_le_self _ _) (bp (aH (Nat.mul_one _)) a)
theorem w9(c:Case m bs ks)(g:(38,34)∈W.tabs)(f:(516,512)∈W.tabs):aM W (n+8) (.ref 385) [tPf W m bs,aD ks] [] (aG (jrB m bs ks (quP bs.length ks.length) (quQ bs.length ks.length))) :=
 (uw (Ps:=[tPf W m bs,aD ks,cJ]) (n:=n+7) (fT 20) cCJ [none,none,none] (λV vs ks a b=>by
  obtain⟨u,v,rfl,g,f⟩:=a.a2
  exact⟨[u,v,.none],⟨g,f,rfl,trivial⟩,by kernel_rfl⟩) (λenv=>by
  have hz:bs.length<100:=bp c.b4 (by decide)
  have e:ks.length<100:=bp c.k4 (by decide)
  have d:=wU (W:=W.at (env::W.frs)) (n:=n+2) (mq (n:=n+1) (λk h=>aA (c.km k h) c.m4) (by rw[c.ku]) e) c.km g
  rw[c.ku] at d
  refine fw (cp (nm 2) eX (fh (q:=true) λV v h=>by rw[show v = .none from h];rfl)) ?_
  refine bo (T:=aG true) 3 bO ?_
  refine bo (T:=tFr (quP bs.length ks.length) (quQ bs.length ks.length)) 2 (ao (gl _ eL) kf (ar2 (e5 (nm 0) (by kernel_rfl) rfl (by kernel_rfl) dl au (gA (n:=n+3) hz f)) (EvP.eq (ao (bl cu) kb (ar1 (nm 1)) au (ed (.inl rfl) (by simp;exact oA ‹_›))) (by simp))) au (nZ (n:=n+4) c.k0 (oC hz) (oC e))) ?_
  refine aN ?_
  refine bo (T:=tC W ks) 1 (ao (gl _ dh) kf (ar1 (nm 1)) (eA (lV (p:=475) (fget:=474) (nm 0) (by kernel_rfl) (oU (n:=n+5) (by have:=c.m4;exact oB this)) js (λi=>rfl)) au) d) ?_
  refine nA 4 5 (ao (gl _ GE) kf (ar2 (nm 0) (nm 1)) (eA (nm 2) au) (GD c.b4 (Fb (oA ‹_›)))) ?_
  exact bB (nm 4) (Ty.le_refl _)) (by kernel_rfl)).call
noncomputable def rv(m d:Nat):List Nat:=(List.range m).filter λc=>d / 2 ^ c % 2==1
noncomputable abbrev cLb:Cx:=⟨(fT 36).2.2,[S "draws",S "m",S "number",S "c"],[S "m"],none⟩
theorem HF:∀j,j<4->([bh 1,bh 2,bh 4,bh 8,bh 16,bh 32]:List Ty)[0+j]? = some (ag (2 ^ j)):=λj h=>by rcases lt4 j h with rfl | rfl | rfl | rfl <;> rfl
theorem C3(g:m<=4)(hd:∀d∈ds,d<2 ^ 29)(hz:ds.length<=4):ExP W cLb ⟨[some (aD ds),some (ag m),none,none],[]⟩ n (fT 36).2.1 (jr (cH (ds.map (rv m)))):=by
 refine bB (T:=cH (ds.map (rv m))) ?_ (Ty.le_refl _)
 refine EvP.eq (lc (ι:=Nat) [S "number",S "m"] [S "number"] [none,some (ag m)] ds ag (λd=>some (aD (rv m d))) (λd Γ=>Γ.set 0 (ag d)) (dE (nm 0)) (by simp[sizeLine];exact oC hz) (λl=>aZ 0) (λl=>bx rfl) (λl l=>fa) ?_ ⟨⟨1,rfl,rfl⟩,trivial⟩) (by simp[cH,List.map_map,Function.comp_def])
 intro d h U c
 cases c
 refine EvP.eq (lc (ι:=Nat) [S "c",S "number"] [] [none,some (ag d)] (List.range m) (λj=>ag (0+j)) (λj=>if(d / 2 ^ j % 2==1)=true then some (ag j) else none) (λj Γ=>Γ.set 0 (ag (0+j))) (di (ao (bl d7) kt (ar1 (nm 1)) au eF) (by decide) (oB ‹_›)) (by simp[sizeLine];exact oC g) (λl=>aZ 0) (λl=>bx rfl) ?_ ?_ ⟨⟨0,rfl,rfl⟩,trivial⟩) ?_
 ·intro j f
  have a:j<4:=by have:=aI.mp f;exact ae this g
  have i:2 ^ j<2 ^ 30:=Nat.pow_lt_pow_right (by decide) (oC a)
  refine iX (TsP.eq (cp (iB (b:=2) (jj (nm 1) (dZ (k:=0+j) (.inr rfl) (cg (eY (by intro l;rfl) aJ (eY (by intro l;rfl) aJ (eY (by intro l;rfl) aJ (eY (by intro l;rfl) aJ (eY (by intro l;rfl) aJ (ar1 aJ))))))) (nm 0) (HF j a) (ae (aX (aH (b9 _)) 1) (oC a))) (Nat.pos_iff_ne_zero.mp (Nat.pow_pos (by decide))) i) aJ (by decide)) aJ sm) ?_)
  have e:(((d / 2 ^ j % 2:Nat):Int)==1)=(d / 2 ^ j % 2==1):=by rw[dy,aL,aL];exact mO (n:=1)
  rw[e];cases(d / 2 ^ j % 2==1) <;> rfl
 ·intro j f U c
  have:U=ag (0+j):=by
   rw[b9]
   split at c
   ·exact(fU c).symm
   ·cases c
  subst this
  exact nm 0
 ·rw[ee (λj=>d / 2 ^ j % 2==1) ag (List.range m)];rfl
theorem vu(a:m<=4)(hd:∀d∈ds,d<2 ^ 29)(hz:ds.length<=4):aM W (n+1) (.ref 641) [aD ds,ag m] [] (cH (ds.map (rv m))) :=
 rX (fT 36) cLb [none,none] λenv=>C3 (W:=W.at (env::W.frs)) a hd hz
theorem GF:jM W "abs" (.builtin "abs"):=⟨by kernel_rfl,by decide +kernel,by decide +kernel⟩
theorem Fd:aM W n (.builtin "abs") [bh z] [] (ag z.natAbs):=λA O s vs ks c g a hK=>by
 obtain⟨v,rfl,⟨t,rfl⟩⟩:=a.a1
 have b:=ay.nil_iff hK
 subst b
 refine call_abs_int λu tk=>?_
 have e:(if z<0 then -z else z)=(z.natAbs:Int):=by
  split
  ·rename_i h;exact(Int.ofNat_natAbs_of_nonpos (Int.le_of_lt h)).symm
  ·rename_i h;exact(Int.natAbs_of_nonneg (iR.mp h)).symm
 exact e▸(dW g.g ⟨_,rfl⟩)
noncomputable def eo(xs:List Int):List Nat:=xs.map Int.natAbs++[5]
noncomputable def tQ(a:List Nat)(k:Nat):Nat:=a.getD (k % a.length) 0 / (1+k / a.length) % 1000003+11*k
noncomputable abbrev cLd:Cx:=⟨(fT 35).2.2,[S "script",S "many",S "rows",S "number",S "k"],[S "rows"],none⟩
noncomputable def tR(V:fH)(Ts:List (Option Ty))(sl:Array (Option Value)):Prop:=∀(i:Nat) (T:Ty),Ts[i]? = some (some T)->∃v,(sl[i]?).join=some v/\handedIn v=true/\T.p V v
inductive Fe(D:Addr)(Ts:List (Option Ty))(V:fH)(o:Obj):Prop
 | mk (c:o.cls = .ref D) (d:∃dx od,o.dict=some dx/\V dx=some od/\nt od=true) (p:o.data = .plain) (s:tR V Ts o.slots)
noncomputable def cX(D:Addr)(Ts:List (Option Ty)):OTy:=⟨Fe D Ts,λh k=>by
 obtain⟨a,⟨dx,od,f,g,b⟩,c,d⟩:=k
 refine⟨a,⟨dx,od,f,h _ _ g b,b⟩,c,λi T e=>?_⟩
 obtain⟨v,p,q,r⟩:=d i T e
 exact⟨v,p,q,T.mono h r⟩⟩
theorem yi{b c:Type}{x:Option b}{a:b}{f:b->Option c}(h:x=some a):x.bind f=f a:=by rw[h];rfl
theorem se{K:Frag}{C:Addr}{od:Option Obj}{a g:Value}(b:(clsIn K C).isSome=true)(c:findIn K (.ref C) name=some (some a))(d:specialIn K a "__get__" = some (some g))(e:takesIn K a=some true):findObj K C od name=some (.bind g a):=by
 obtain⟨f,b⟩:=mM.mp b
 exact(yi b).trans ((yi c).trans ((yi d).trans (yi e)))
noncomputable def Bc(K:Frag)(D:Addr)(x:Str)(i:Nat):Bool:=plainGet K D x&&(clsIn K D).isSome&&((findIn K (.ref D) x).any λv=>v.any λv=>(xG v).any λp=>specialIn K (.ref p) "__get__" == some (some (.builtin "member_descriptor.__get__"))&&takesIn K (.ref p)==some true&&slotIn K p D==some i)
theorem fq{x:Addr}{Ts:List (Option Ty)}(k i:Nat)(h:EvP W C Γ n e (aE (.ref x)))(Q:Ts[i]? = some (some T))(R:autoParam (Γ.h[k]? = some (x,cX D Ts)) q_R)(j:autoParam (Bc W.K D f i=true) q_K)(N:autoParam (∀env,eval (.Attribute e f pos) env=(do
   let o ← eval e env
   standAt pos.atName
   let r ← holding [o] (getAttr o f true)
   letTemporaryGo e o r
   pure r)) q_R):EvP W C Γ n (.Attribute e f pos) T:=λA env O M s X I=>by
 refine mG (ad (h A env O M s X I) (λv s₁ c=>?_) az) (N env)
 have b:=c.then I
 have l:v = .ref x:=c.2.2
 subst l
 obtain⟨G,G,G,G,ox,d,G,U,⟨dx,od,hd,w,G⟩,q,hsl⟩:=b.phi x _ (be R)
 obtain⟨u,P,m,H⟩:=hsl i T Q
 unfold Bc at j
 rw[bg,bg] at j
 obtain⟨⟨z,J⟩,V⟩:=j
 obtain⟨p,t,⟨E,F⟩,L⟩:∃p,findIn W.K (.ref D) f=some (some (.ref p))/\(specialIn W.K (.ref p) "__get__" = some (some (.builtin "member_descriptor.__get__"))/\takesIn W.K (.ref p)=some true)/\slotIn W.K p D=some i:=by
  obtain⟨a,B,h⟩:=cB V
  obtain⟨v,l,h⟩:=cB h
  obtain⟨p,t,h⟩:=cB h
  rw[bg,bg,aL,aL,aL] at h
  exact⟨p,by rw[B,l,qz t],h⟩
 have y:InstAt s₁.heap x ox D (some od):=⟨d,U,by unfold notCls;rw[q],by rw[hd];exact af w⟩
 refine get_bind (K:=W.K) b.g.kin y (iJ z).1 (se J t E F) (iJ z).2 (bQ (slot_get (s:={ s₁ with toks:=s₁.toks+1 }) b.g.kin y L P ?_))
 refine(?_:wpAny _ _ (handedOut u) _ _ _)
 exact(handedOut_of m)▸(ac ⟨(dW (O:=O) (T:=dk) (v:=.none) b.go.g trivial).1,c.2.1.trans (aF.tok (s:=s₁) (tk:=s₁.toks+1)),H⟩)
section
open Builtin Builtin.ObjectAttr Builtin.Getset_descriptor
variable {R:Result->Shared->Prop} {x p:Addr}
noncomputable abbrev tT(o:Obj)(i:Nat)(v:Value):Obj:={ o with slots:=(o.slots++Array.replicate (i+1-o.slots.size) none).setIfInBounds i (some v) }
theorem vy(X:W.K.In s.heap){od:Option Obj}(I:InstAt s.heap x ox D od)(u:slotIn W.K p D=some i)(j:i<1000)(hf:ox.data = .plain)(h:∀h',Heap.SameBut x s.heap h'->h'.get? x=some (tT ox i v)->R (.ok (.ret .none)) { s with heap:=h' }):
  codeAny (model prg W.w) A (.call (.builtin "member_descriptor.__set__") ⟨[.ref p,.ref x,v],[]⟩) R s:=by
 refine He (slot_of X u) λn k owner a m d sl r b q o l c=>?_
 obtain rfl:=c
 obtain⟨f,g,z,t,os⟩:=s
 have names:Looks (model prg W.w) f (Slots.slotNamesOf (.ref D)) r.slotNames:=(looks_clsIn X q).andThen .now
 have C:Looks (model prg W.w) f (descrItself (.ref p)) [.ref p]:=((Looks.ld (part:=none) b).andThen .now).andThen (cR (by kernel_rfl))
 have mro:=looks_mroIn (M:=model prg W.w) X o
 have y:=I.type (M:=model prg W.w)
 have e:=I.at_
 have B:=looks_field (M:=model prg W.w) b 0 (v:=.str n k) rfl
 have p1:=looks_field (M:=model prg W.w) b 1 (v:=owner) rfl
 have p3:=looks_field (M:=model prg W.w) b 3 (v:=.builtin "proto.slot#set") rfl
 have p4:=looks_field (M:=model prg W.w) b 4 (v:=.int a m) rfl
 refine iN KF.slot_mset.plain KF.entry_mset (KF.slot_mset.check _ _ _ _ _ _ _ _ ⟨_,b,rfl⟩ (KF.args_mset _ _ _) ?_)
 repeat lk
 refine⟨m1 _ (by decide +kernel),cM KF.entry_slotset ?_⟩
 repeat lk
 refine ifZ l ?_
 refine ac (aa ?_)
 unfold setSlotAt
 refine ifZ (by rw[iK];exact kT.mpr (oC j)) ?_
 refine wpAny_updatePart e (ac (h _ (dH _ _ _) ?_))
 exact et _ e (by unfold Obj.isFreed;rw[hf])
end
noncomputable def jU(K:Frag)(D:Addr)(x:Str)(i:Nat):Bool:=findIn K (.ref D) "__setattr__" == some (some (.builtin "object.__setattr__"))&&plainOver K D&&((takerIn K D x).any λv=>v.any λv=>(xG v).any λp=>typeIn K (.ref p)==some (.type "member_descriptor")&&slotIn K p D==some i&&decide (i<1000))
theorem rx{K:Frag}(h:jU K D f i=true):∃p,findIn K (.ref D) "__setattr__" = some (some (.builtin "object.__setattr__"))/\plainOver K D=true/\takerIn K D f=some (some (.ref p))/\typeIn K (.ref p)=some (.type "member_descriptor")/\slotIn K p D=some i/\i<1000:=by
 unfold jU at h
 rw[bg,bg,aL] at h
 refine bc (cB h.2) λa b k=>?_
 refine bc (cB k) λv c k=>?_
 refine bc (cB k) λp d k=>?_
 rw[bg,bg,aL,aL,bq] at k
 exact⟨p,h.1.1,h.1.2,by rw[b,c,qz d],k.1.1,k.1.2,k.2⟩
theorem vz{sl:Array (Option Value)}:(((sl++Array.replicate (i+1-sl.size) none).setIfInBounds i (some v))[i]?).join=some v:=by
 have hs:i<(sl++Array.replicate (i+1-sl.size) none).size:=by rw[Array.size_append,Array.size_replicate];exact Nat.sub_le_iff_le_add'.mp (aB _)
 rw[Array.getElem?_setIfInBounds_self_of_lt hs];rfl
theorem sK{sl:Array (Option Value)}(a:j≠i)(h:(sl[j]?).join=some u):(((sl++Array.replicate (i+1-sl.size) none).setIfInBounds i (some v))[j]?).join=some u:=by
 rw[Array.getElem?_setIfInBounds_ne (λe=>a e.symm)]
 have hs:j<sl.size:=by
  cases e:sl[j]? with
  | none=>rw[e] at h;cases h
  | some _=>exact(lE.mp e).1
 exact(Array.getElem?_append_left hs)▸(h)
theorem tU{x:Addr}{Ts:List (Option Ty)}(k i:Nat)(rm:aU W A n)(I:Inv W C env Γ O M s)(hv:wpAny (model prg W.w) A (eval value env) (Res W (O++M.a) s T) Nev s)(hh:gH T)(he:EvP W C Γ n e (aE (.ref x)))(R:Γ.h[k]? = some (x,cX D Ts))(ho:jU W.K D f i=true)(hs:swapsWith value (some (.Attribute e f pos')) pos.line env=pure false):
  wpAny (model prg W.w) A (exec (.Assign [.Attribute e f pos'] value pos) env) (λZ s'=>Z = .next/\ak M s s'/\Inv W C env (Γ.hset k x (cX D (Ts.set i (some T)))) O M s') Nev s:=by
 refine mI (ad hv (λv s₁ d=>ad (he A env O M s₁ rm (d.then I)) (λov s₂ l=>?_) az) az) hs
 have c:=l.then (d.then I)
 have Q:ov = .ref x:=l.2.2
 subst Q
 obtain⟨q1,p,p,p,ox,r,a4,V,⟨dx,od,hd,F,B⟩,m,hsl⟩:=c.phi x _ (be R)
 refine FX (rx ho) λp h1 h2 hp X h5 h6=>?_
 have J:InstAt s₂.heap x ox D (some od):=⟨r,V,by unfold notCls;rw[m],by rw[hd];exact af F⟩
 refine set_plain c.g.kin J h1 (osa_descr (s:={ s₂ with toks:=s₂.toks+1 }) KF.slot_mset c.g.kin J h2 hp X (vy (s:={ s₂ with toks:=s₂.toks+1 }) c.g.kin J h5 h6 m λh' q L=>?_))
 have g':G W { s₂ with heap:=h',toks:=s₂.toks+1 }:=c.g.upd (c.up x (al _ q1)).1 q (.inl ⟨_,r,λp p z=>by rw[m] at z;cases z⟩)
 have kx:ak ⟨[x],[]⟩ s₂ { s₂ with heap:=h',toks:=s₂.toks+1 }:=dp (λb o Y e=>(q.2 b (λz=>Y (ah.mpr z))).trans e) (λp p p e=>e) (aH q.1.symm) (aB _)
 have H:Vle (am s₂.heap (O++M.a)) (am h' (O++M.a)):=cm (al _ q1) q
 have t:tR (am h' (O++M.a)) (Ts.set i (some T)) (tT ox i v).slots:=λj U E=>by
  by_cases N:j=i
  ·subst N
   have P:j<Ts.length:=by have:=(b8.mp E).1;simpa using this
   rw[ix P] at E
   cases E
   exact⟨v,vz,hh _ _ d.2.2,T.mono H (T.mono (l.2.1.vle0 _) d.2.2)⟩
  ·rw[fP (λe=>N e.symm)] at E
   refine fG (hsl j U E) λu a1 a2 a3=>?_
   exact⟨u,sK N a1,a2,U.mono H a3⟩
 refine ck (c.chg (Q':=cX D (Ts.set i (some T))) R kx g' L (kZ m) ⟨V,⟨dx,od,hd,H _ _ F B,B⟩,m,t⟩) λkM y=>?_
 exact⟨rfl,(ak.ofK (d.2.1.trans l.2.1)).trans kM,y⟩
theorem gZ{x:Addr}{Ts:List (Option Ty)}(k i:Nat)(m:EvP W C Γ n value T)(o:gH T)(l:EvP W C Γ n e (aE (.ref x)))(d:ExP W C (Γ.hset k x (cX D (Ts.set i (some T)))) n b P)(g:autoParam (Γ.h[k]? = some (x,cX D Ts)) q_R)(j:autoParam (jU W.K D f i=true) q_K)(hs:autoParam (∀env,swapsWith value (some (.Attribute e f pos')) pos.line env=pure false) q_R):
  ExP W C Γ n (.Assign [.Attribute e f pos'] value pos::b) P:=bT λA env O M s c I =>
 ad (tU k i c I (m A env O M s c I) o l g j (hs env)) (λf s'=>xz λe p a=>by subst e;exact⟨p,M,Ext.refl s M,.next _,d,a⟩) az
theorem yj:jM W "tuple" (.type "tuple"):=⟨by kernel_rfl,by decide +kernel,by decide +kernel⟩
noncomputable def aS(l idx:List Nat):List Nat:=idx.map λi=>l.getD i 0
noncomputable abbrev cPi:Cx:=⟨(fT 9).2.2,[S "pool",S "indices",S "r",S "result",S "i"],[],none⟩
noncomputable abbrev kPi(l idx:List Nat)(r:List (Option Ty))(h:List (Addr×OTy)):Kn:=⟨[some (bH (l.map ag)),some (aD idx),some (ag idx.length)]++r,h⟩
theorem C4(f:∀i∈idx,i<l.length)(hz:idx.length<=8)(h:l.length<=8):ExP W cPi (kPi l idx [none,none] []) (n+2) (fT 9).2.1 (jr (bH ((aS l idx).map ag))):=by
 refine kg (Q:=cq []) 3 (pK dl) λL=>?_
 refine bo (T:=ag 0) 4 aJ ?_
 refine nB (ι:={ k:Nat // k<=idx.length }) (λx=>kPi l idx [some (aE (.ref L)),some (ag x.1)] [(L,cq (((aS l idx).take x.1).map ag))]) (λx=>idx.length-x.1) (λx=>decide ((x.1:Int)<(idx.length:Int))) ⟨0,dT _⟩ rfl (λx=>cp (nm 4) (nm 2) ia) (λx c=>?_) (λx c=>?_)
 ·obtain⟨k,b⟩:=x
  have a:k<idx.length:=by have:=ci c;dsimp only at this;exact bV.mp this
  have j:idx[k]∈idx:=kW a
  have d:=f _ j
  have r:(idx.map ag)[k]? = some (ag idx[k]):=by refine(dw) ▸ ?_;refine(dz a) ▸ ?_;rfl
  have m:(l.map ag)[idx[k]]? = some (ag (l.getD idx[k] 0)):=by rw[dw,eS,dz d];rfl
  have g:((aS l idx).take (k+1)).map ag=((aS l idx).take k).map ag++[ag (l.getD idx[k] 0)]:=by
   have o:k<(aS l idx).length:=by simpa[aS] using a
   refine(List.take_succ_eq_append_getElem o) ▸ ?_;refine bW ▸ ?_
   simp[aS]
  refine oO (T:=ag (l.getD idx[k] 0)) (Ts:=((aS l idx).take k).map ag) 3 0 (dZ (k:=idx[k]) (.inr rfl) (nm 0) (dZ (k:=k) (.inl rfl) (nm 1) (nm 4) r (ae a (oC hz))) m (ae d (oC h))) ?_ rfl (qh (by simp[sizeLine];exact ae (Nat.min_le_left _ _) (ae b (oC hz))))
  refine jT (p:=(k:Int)) (q:=1) 4 aJ (aN ⟨⟨k+1,a⟩,by show idx.length-(k+1)<idx.length-k;exact Nat.sub_succ_lt_self _ _ a,?_⟩)
  refine(?_:(⟨_,_⟩:Kn)=kPi l idx [some (aE (.ref L)),some (ag (k+1))] [(L,cq (((aS l idx).take (k+1)).map ag))])
  rw[g];rfl
 ·obtain⟨k,b⟩:=x
  have a:k=idx.length:=by have:=iS c;dsimp only at this;exact jy b (mN λz=>this (bV.mpr z))
  subst a
  have e:(aS l idx).take idx.length=aS l idx:=qe (by simp[aS])
  refine f7 (T:=bw (((aS l idx).take idx.length).map ag)) 0 3 lO ?_
  rw[e]
  exact bB (ao (bl yj) kt (ar1 (nm 3)) au (l6 (by simp[aS,sizeLine];exact oC hz))) (Ty.le_refl _)
theorem zu(a:∀i∈idx,i<l.length)(hz:idx.length<=8)(b:l.length<=8):aM W (n+3) (.ref 143) [bH (l.map ag),aD idx,ag idx.length] [] (bH ((aS l idx).map ag)) :=
 s7 (n:=n+2) (fT 9) cPi [none,none] (λenv=>C4 (W:=W.at (env::W.frs)) a hz b)
theorem Bd:jM W "type" (.type "type"):=⟨by kernel_rfl,by decide +kernel,by decide +kernel⟩
theorem vA:aM W n (.type "type") [bh z] [] (aE (.type "int")):=λA O s vs ks c g a hK=>by
 obtain⟨v,rfl,⟨t,rfl⟩⟩:=a.a1
 have b:=ay.nil_iff hK
 subst b
 exact call_type_of (Tx := "int") rfl (by decide +kernel) ⟨g.g,aF.refl s,rfl⟩
theorem xb{T:String}:iz W n .Is (aE (.type T)) (aE (.type T)) true:=λA O s x y c g a b=>by
 have a:x = .type T:=a
 have b:y = .type T:=b
 subst a b
 exact wpAny_is_self (by rfl) ⟨g.g,aF.refl s,rfl⟩
theorem Ff{b c:Expr}{rest:List Expr}(h:EvP W C Γ n b (aG true)):EvP W C Γ n (.BoolOp .Or (b::c::rest) pos) (aG true):=λA env O M s e I =>
 BoolOp_or (ad (h A env O M s e I) (λv s₁ a=>by
  have d:v = .bool true:=a.2.2
  subst d
  exact gW (a)) az)
abbrev cIi:Cx:=⟨(fT 5).2.2,[S "x",S "t"],[],none⟩
theorem zv:aM W (n+1) (.ref 75) [bh z] [] (aG true) :=
 s5 (fT 5) cIi [none] λenv =>
  bo 1 (ao (bl Bd) kt (ar1 (nm 0)) au vA) (bB (Ff (cpv (nm 1) (bl Ai) xb)) (Ty.le_refl _))
abbrev cWh:Cx:=⟨(fT 6).2.2,[S "x",S "top",S "what"],[],none⟩
theorem Be:fc W "_is_int" 75:=by kernel_rfl
theorem Bf{x a:Int}(d:x<=a)(b:0<=x):aM W (n+2) (.ref 82) [bh x,bh a,T] [] cJ :=
 s7 (n:=n+1) (fT 6) cWh [] (λenv=>by
  refine dD (mh (jO (ao (gl _ Be) kf (ar1 (nm 0)) au zv))) ?_
  refine dD (TsP.eq (gq (xE (c:=false) false (TsP.eq (cp (nm 0) (nm 1) qq) (eR (iR.mpr d))) λe=>xE (c:=false) false (TsP.eq (cp (nm 0) (tj aJ) ia) (eR (iR.mpr (jb (by decide) b)))) λe=>EI)) rfl) (aN (Ty.le_refl _)))
theorem C5(h:EvP W C Γ n e T)(d:ExP W C Γ n b P)(c:autoParam (∀env,swapsWith e none pos.line env=pure false) q_R):ExP W C Γ n (.Expr e pos::b) P :=
 bT λA env O M s f I=>jC (ad (h A env O M s f I) (λv s₁ a=>⟨ak.ofK a.2.1,M,Ext.refl s M,.next _,d,a.then I⟩) az) (mo I.ok.kind) (c env)
theorem vB{x:Addr}{Ts:List (Option Ty)}{Q:OTy}(k i:Nat)(hv:jS W C Γ n value Q)(he:∀L,EvP W C ⟨Γ.v,Γ.h++[(L,Q)]⟩ n e (aE (.ref x)))(hr:∀L,ExP W C ((⟨Γ.v,Γ.h++[(L,Q)]⟩:Kn).hset k x (cX D (Ts.set i (some (aE (.ref L)))))) n b P)(hk:autoParam (Γ.h[k]? = some (x,cX D Ts)) q_R)(ho:autoParam (jU W.K D f i=true) q_K)(hs:autoParam (∀env,swapsWith value (some (.Attribute e f pos')) pos.line env=pure false) q_R):
  ExP W C Γ n (.Assign [.Attribute e f pos'] value pos::b) P:=bT λA env O M s rm I=>by
 refine mI (ad (hv A env O M s rm I) (λv s₁ B=>?_) az) (hs env)
 obtain⟨L,o,rfl,g,kp,hL,Y,hn,hp⟩:=B
 have r:=I.give kp g hL Y hn hp
 have t:Ext s M ⟨M.a++[L],M.g⟩:=⟨λa m=>(aj.mp m).imp id λm=>by rw[ah.mp m];exact hL,λp=>.inl⟩
 refine ad (he L A env O _ s₁ rm r) (λov s₂ l=>?_) az
 have c:=l.then r
 have a4:ov = .ref x:=l.2.2
 subst a4
 have y:(Γ.h++[(L,Q)])[k]? = some (x,cX D Ts):=by
  obtain⟨hl,e⟩:=b8.mp hk
  exact(qg hl)▸(hk)
 obtain⟨q1,p,p,p,ox,F,c5,hc,⟨dx,od,hd,E,w⟩,d,hsl⟩:=c.phi x _ (be y)
 refine FX (rx ho) λp h1 h2 X h4 h5 h6=>?_
 have R:InstAt s₂.heap x ox D (some od):=⟨F,hc,by unfold notCls;rw[d],by rw[hd];exact af E⟩
 refine set_plain c.g.kin R h1 (osa_descr (s:={ s₂ with toks:=s₂.toks+1 }) KF.slot_mset c.g.kin R h2 X h4 (vy (s:={ s₂ with toks:=s₂.toks+1 }) c.g.kin R h5 h6 d λh' q Z=>?_))
 have g':G W { s₂ with heap:=h',toks:=s₂.toks+1 }:=c.g.upd (c.up x (al _ q1)).1 q (.inl ⟨_,F,λp p z=>by rw[d] at z;cases z⟩)
 have kx:ak ⟨[x],[]⟩ s₂ { s₂ with heap:=h',toks:=s₂.toks+1 }:=dp (λb o hb e=>(q.2 b (λz=>hb (ah.mpr z))).trans e) (λp p p e=>e) (aH q.1.symm) (aB _)
 have vl:Vle (am s₂.heap (O++(M.a++[L]))) (am h' (O++(M.a++[L]))):=cm (al _ q1) q
 have H:tR (am h' (O++(M.a++[L]))) (Ts.set i (some (aE (.ref L)))) (tT ox i (.ref L)).slots:=λj U N=>by
  by_cases T:j=i
  ·subst T
   have V:j<Ts.length:=by have:=(b8.mp N).1;simpa using this
   rw[ix V] at N
   cases N
   exact⟨.ref L,vz,qC (am h' []) _ rfl,rfl⟩
  ·rw[fP (λe=>T e.symm)] at N
   refine fG (hsl j U N) λu a1 a2 a3=>?_
   exact⟨u,sK T a1,a2,U.mono vl a3⟩
 refine ck (c.chg (Q':=cX D (Ts.set i (some (aE (.ref L))))) y kx g' Z (kZ d) ⟨hc,⟨dx,od,hd,vl _ _ E w,w⟩,d,H⟩) λkM J=>?_
 exact⟨(ak.ofK kp:ak M s s₁).of_ext t ((ak.ofK l.2.1).trans kM),_,t,.next _,hr L,J⟩
theorem sf{a b:Nat}(k:a<2 ^ 60)(e:b<2 ^ 20):lU W n (.type "list") [j3 a b] (cq (fj a b)):=λA O s vs o g m=>by
 obtain⟨v,rfl,⟨q,t,u,w,rfl,j⟩⟩:=m.a1
 have hsz:Builtin.Range.rangeSize (a:Int) (b:Int) 1=((b-a:Nat):Int):=wx
 refine cV (call_list_range o.hd (af j) (small_one oI (oF k) oI (oF e)) hsz (ae (Nat.sub_le _ _) (cQ (oA e))) λh' tk acc c i l d f=>?_)
 have g':G W { s with heap:=h',toks:=tk }:=g.g.step i f.h
 have p:aF s { s with heap:=h',toks:=tk }:=aF.step i f.h
 exact⟨s.heap.objs.size,_,rfl,g',p,aB _,by simpa using l,rfl,acc.toList,⟨c,by simp⟩,pf d⟩
theorem yk{Q:OTy}(hf:EvP W C Γ n (.Name x p) (aE fv))(k:jp W fv)(q:dJ W C Γ n es Ts)(w:lU W n fv Ts Q):jS W C Γ n (.Call (.Name x p) es [] pos) Q:=λA env O M s j I=>by
 refine(?_:wpAny _ A (do callWith pos (← eval (.Name x p) env) [] (backTo pos (starEach es env)) (backToKw pos (keywordEach [] env))) _ _ s)
 refine aa (ad (hf A env O M s j I) (λv s₁ b=>?_) az)
 have u:v=fv:=b.2.2
 subst u
 have c:=b.then I
 obtain⟨m,B⟩:=q A env O M s₁ pos j c
 refine dO (P:=KeP W v) (by rw[m,dP];rfl) (λh p=>p) ?_
 refine bU (ns:=[]) m rfl (ad B (λvs s₂ a=>ac ⟨k s₂ a.1,?_⟩) az)
 have d:=c.keep a.2.1 a.1
 refine ad (w A _ s₂ vs j d.go a.2.2) (λv l i=>?_) az
 obtain⟨L,o,e,f,g,r,t,y,z⟩:=i
 exact⟨L,o,e,f,b.2.1.trans (a.2.1.trans g),ae (b.2.1.trans a.2.1).siz r,t,y,z⟩
theorem C6:fc W "_whole" 82:=by kernel_rfl
abbrev cCo:Cx:=⟨(fM 10 1).2.2,[S "self",S "iterable",S "r",S "pool"],[],none⟩
abbrev coT(first:Bool)(L:Addr)(l:List Nat)(r:Nat)(a:Bool):List (Option Ty):=[some (aG first),some (aE (.ref L)),some (bH (l.map ag)),some (bh (r:Int)),some (aG a)]
theorem C7{x:Addr}{r:Nat}(a:l.length<=8)(b:r<=8):ExP W cCo ⟨[some (aE (.ref x)),some (aD l),some (ag r),none],[(x,cX 176 [none,none,none,none,none])]⟩ (n+2) (fM 10 1).2.1
  (λo=>match o with | .next Γ'=>∃L,Γ'.h[0]? = some (x,cX 176 (coT true L l r (decide (l.length<r))))/\Γ'.h[1]? = some (L,cq ((List.range r).map ag)) | _=>False):=by
 refine C5 (ao (gl _ C6) kf (ar3 (nm 2) aJ fu) au (Bf (Int.le_of_lt (oG b)) oI)) ?_
 refine bo 3 (ao (bl yj) kt (ar1 (nm 1)) au (l6 (by simp[sizeLine];exact oC a))) ?_
 refine dD (TsP.eq (cp (nm 2) aJ ia) (eR (iR.mpr oI))) ?_
 refine gZ 0 2 (nm 3) wo (nm 0) ?_
 refine vB (Q:=cq (fj 0 r)) 0 1 (yk (bl wX) kt (ar1 (ao (bl d7) kt (ar1 (nm 2)) au eF)) (sf (by decide) (oB b))) (λL=>nm 0) λL=>?_
 refine gZ (T:=bh (r:Int)) 0 3 (EvP.eq (sY (nm 2) (aJ (i:=0))) (by simp)) js (nm 0) ?_
 refine gZ (T:=aG true) 0 0 bO pF (nm 0) ?_
 refine gZ (T:=aG (decide (l.length<r))) 0 4 (EvP.eq (cpv (nm 2) (ao (bl cu) kb (ar1 (nm 3)) au (ed (.inr rfl) (by simp;exact oB a))) qq) (by simp)) pF (nm 0) (aN ⟨L,rfl,?_⟩)
 refine(?_:some (L,cq (fj 0 r))=_)
 rw[show fj 0 r=(List.range r).map ag by simp[fj]]
theorem xc:ExcNewFacts "Exception" "Exception.__new__" := PySem.F.excCall_Exception.toExcNewFacts
theorem yl:isSubtype (.type "StopIteration") (.type "BaseException")=pure true:=by rw[fD];kernel_rfl
theorem Fg:isSubtype (.type "StopIteration") (.type "Exception")=pure true:=by rw[fD];kernel_rfl
theorem GG:isSubtype (.type "StopIteration") (.type "AttributeError")=pure false:=by rw[fD];kernel_rfl
theorem GH:isSubtype (.type "StopIteration") (.type "NameError")=pure false:=by rw[fD];kernel_rfl
theorem C8:Bind.madeHere "BaseException.__new__" (.type "StopIteration")=pure ():=by kernel_rfl
theorem zx:Bind.madeBy (.type "StopIteration")=pure (some "Exception.__new__"):=by kernel_rfl
theorem Bg:checkBuiltinCall "Exception.__new__" ⟨[.type "StopIteration"],[]⟩=pure ():=by kernel_rfl
theorem ym:PySem.Slot "StopIteration" "__init__" "StopIteration.__init__" := .of (owner := "StopIteration") (n := "__init__") (by kernel_rfl) (by decide +kernel) (by decide +kernel) (by decide +kernel)
  (by first | exact .inl (by decide +kernel) | exact .inr (by decide +kernel)) (by kernel_rfl)
theorem Bh:entryFor table "StopIteration.__init__" = some Builtin.«StopIteration.__init__»:=entryFor_of_fast (by kernel_rfl)
theorem Bi:entryFor table "BaseException.__init__" = some Builtin.«BaseException.__init__»:=entryFor_of_fast (by kernel_rfl)
theorem Fh:mroOf (.type "StopIteration")=pure [.type "StopIteration",.type "Exception",.type "BaseException",.type "object"]:=by rw[mroOf_type];kernel_rfl
theorem Fj:(((Manifest.find? "StopIteration").bind (·.mro.findSome? λ(t:String)=>(Manifest.find? t).bind λb=>if b.noNew then some true else if b.attrs.any (·.1 == "__new__") then some false else none)).getD false)=false:=by kernel_rfl
theorem GI:checkTypeCall "StopIteration" ⟨[],[]⟩=pure ():=by kernel_rfl
theorem Bj{M:Model}{self:Value}{Q:Unit->Shared->Prop}(b:s.TypeIs self "StopIteration")(c:Q () s):wpAny M A (checkBuiltinCall "StopIteration.__init__" ⟨[self],[]⟩) Q E s:=by
 refine aa (eQ b oQ ?_)
 refine ifN rfl ?_
 unfold Bind.checkArgs
 refine aa (m:=Bind.printed "*" true _ _) (printed_star (self:=self) rfl b λa=>?_)
 refine aa (m:=Bind.printed "StopIteration" false _ _) (printed_name (by decide) ?_)
 refine(?_:wpAny M A (Sem.onRaise (Bind.check _ a "StopIteration" _ []) _) Q E s)
 exact ac c
theorem zy(h:Q (.ref (s.heap.objs.size+1)) { s with heap:=(s.heap.push { cls:=.type "tuple",data:=.seq #[] }).push { cls:=.type "StopIteration",data:=.fields #[.ref s.heap.objs.size,.none,.none,.none,.bool false,.none] } }):
  wpAny (model prog w) A (call (.builtin "Exception.__new__") [.type "StopIteration"]) Q E s:=by
 refine call_builtin_at (by decide +kernel) xc.entry Bg ?_
 refine _root_.PyProof.Rows.wpAt_bind (wpAt_owner rfl xc.ends (wpAt_of_any ?_))
 refine aa (m:=isType _) (bR (a:=true) rfl ?_)
 refine ifN rfl ?_
 refine xc.owner ▸ ?_
 refine aa (bR Fg ?_)
 refine ifN rfl ?_
 refine aa (bR C8 ?_)
 refine aa (bR (a:=0) ?own ?_)
 case own =>
  refine(?_:(do
   if ← isSubtype (.type "StopIteration") (.type "AttributeError") then return 2
   if ← isSubtype (.type "StopIteration") (.type "NameError") then return 1
   return 0:Sem Nat)=pure 0)
  rw[GG,GH];rfl
 refine aa (dQ (aa (dQ (ac ⟨_,rfl,?_⟩) (cL rfl))) (cL rfl))
 rw[bi]
 exact h
theorem tV{M:Model}{e:Addr}{vs:Array Value}{Q:Unit->Shared->Prop}(a:s.heap.get? e=some o)(hd:o.data = .fields vs)(b:i<vs.size)(h:∀h',Heap.SameBut e s.heap h'->h'.get? e=some { o with data:=.fields (vs.setIfInBounds i v) }->Q () { s with heap:=h' }):wpAny M A (setField (.ref e) i v) Q E s:=by
 refine jZ a hd b (h _ (dH _ _ _) ?_)
 rw[et _ a (Obj.isFreed_of_fields (Obj.data_mapFields hd _))]
 obtain⟨c,d,f,sl⟩:=o
 subst hd
 rfl
theorem Bk{e t:Addr}{Q:Fin->Shared->Prop}(n:s.heap.get? e=some (q8 t))(h:∀h' m,(∀b o,b≠e->s.heap.get? b=some o->h'.get? b=some o)->h'.get? e=some (q8 m)->s.heap.objs.size<=h'.objs.size->Q (.done (.ret .none)) { s with heap:=h' }):
  wpAny (model prog w) A (Builtin.«StopIteration.__init__» ⟨[.ref e],[]⟩) Q E s:=by
 unfold Builtin.«StopIteration.__init__»
 refine aa (wpAny_runValue (cM Bi ?_))
 unfold Builtin.«BaseException.__init__»
 dsimp only
 have f:=aV (h:=s.heap) { cls:=.type "tuple",data:=.seq [].toArray } n
 refine aa (dQ (aa (aa (eW f rfl (i:=0) rfl (aa (tV f rfl (Nat.zero_lt_succ _) λu g c=>?_))))) (by size_fits))
 refine kP (ac ?_)
 refine aa (aa (eW c rfl (i:=5) rfl (aa (tV c rfl (by simp) λr d k=>?_))))
 refine ac (aa (tV k rfl (by simp) λp a l=>ac (h p s.heap.objs.size (λb o j q=>?_) l ?_)))
 ·exact(a.2 b j).trans ((d.2 b j).trans ((g.2 b j).trans (aV _ q)))
 ·rw[a.1,d.1,g.1,bi];exact bY _
theorem C9(h:∀h' e t,(∀b o,s.heap.get? b=some o->h'.get? b=some o)->s.heap.objs.size<=e->h'.get? e=some (q8 t)->s.heap.objs.size<=h'.objs.size->Q (.ref e) { s with heap:=h' }):
  wpAny (model prog w) A (call (.type "StopIteration") []) Q E s:=by
 refine bQ (jD ?_)
 refine(?_:wpAny _ _ (callAny (.type "StopIteration") ⟨[],[]⟩) _ _ s)
 refine ac ⟨m1 _ (by decide +kernel),cM entry_type_call ?_⟩
 unfold Builtin.«type.__call__»
 dsimp only
 refine ifZ (by decide) ?_;refine ifZ (by rw[Fj];exact eC) ?_
 refine aa (bR GI (aa (bR Fh ?_)))
 refine aa (bR zx ?_)
 refine aa (ac (aa (aP (zy ?_))))
 have a:=bf (s.heap.push { cls:=.type "tuple",data:=.seq #[] }) (o:=q8 s.heap.objs.size) rfl
 rw[bi] at a
 refine aa (eQ (T := "StopIteration") ⟨_,a,rfl⟩ oQ ?_)
 refine ifN rfl ?_
 refine aa (aP (g5 (name:=Str.ofString "__init__") (T := "StopIteration") ⟨_,a,rfl⟩ ym
  (bQ (iN ym.plain Bh (Bj ⟨_,a,rfl⟩ (Bk a λh' f d g hz=>?_))))))
 dsimp only
 refine ac (h h' _ f (λb o c=>d b o (lD (fQ (aO c))) (aV _ (aV _ c))) (bY _) g ?_)
 exact ae (ae zP zP) hz
theorem yn:(Value.type ((Manifest.find? "StopIteration").elim "type" (·.metatype))==Value.type "type")=true:=by kernel_rfl
theorem Bl{k:Value}{b:Int}{tk:Tok}{Q:Fin->Shared->Prop}(d:k = .int b tk)(e:Q (.done (.ret (.bool true))) s):
  wpAny (model prog w) A (Builtin.«issubclass.nested» ⟨[.type "StopIteration",.type "StopIteration",k],[]⟩) Q E s:=by
 subst d
 have c:=yn
 have a:=oQ
 repeat (any_goals (first | assumption | (refine ifP c ?_) | (rw[a]) | wp_step))
theorem Da:Meets (Builtin.«issubclass» ⟨[.type "StopIteration",.type "StopIteration"],[]⟩) (λa R s=>R (.ok (.ret (.bool true))) s) :=
 λa a a a a hs=>issubclass_outer (Bl rfl hs)
theorem Bm{d:Pos}{Q:Flow->Shared->Prop}(l:A.handled=none)(k:wpAny (model prog w) A (eval (.Name x d) env) (λv s₁=>v = .type "StopIteration" /\
   ∀h' e t,(∀b o,s₁.heap.get? b=some o->h'.get? b=some o)->s₁.heap.objs.size<=e->h'.get? e=some (q8 t)->s₁.heap.objs.size<=h'.objs.size->E (.ref e) { s₁ with heap:=h' }) E s):
  wpAny (model prog w) A (exec (.Raise (some (.Name x d)) none pos) env) Q E s:=by
 show wpAny (model prog w) A (do standAt pos;raiseStmt env (some (do let v ← eval (.Name x d) env;standAt pos;pure v)) none) Q E s
 refine aa (ct ?_)
 unfold raiseStmt
 refine aa (aa (ad k (λv s₁ a=>aa (ct (ac ?_))) λn n e=>e))
 obtain⟨rfl,h⟩:=a
 refine aa (ac ?_)
 refine aa (aP ?_)
 refine aa (aa (ac ?_))
 refine ifY rfl ?_
 refine ac ?_
 refine ifY rfl ?_
 refine aa (C9 λh' e t g f c hz=>?_)
 have j:({ s₁ with heap:=h' }:Shared).TypeIs (.ref e) "StopIteration" := ⟨_,c,rfl⟩
 refine aa (eQ j yl ?_)
 refine ifN rfl ?_
 refine ac ?_
 refine aa (m:=isType (.type "StopIteration")) (ac ?_)
 refine ifY rfl ?_
 refine aa (aP ?_)
 unfold raisedFor
 refine ifN rfl ?_
 refine aa ?_
 (refine iP j ?_)
 refine aa (call_issubclass Da ?_)
 (refine aa (gW ?_))
 refine ifY rfl ?_
 refine ac ?_
 refine aa (aa (eW (i:=1) (x:=Value.none) c rfl rfl ?_))
 refine ac (aa (mX ?_))
 rw[l]
 first
  | exact kQ (h h' e t g f c hz)
  | exact aa (ac (kQ (h h' e t g f c hz)))
theorem gn.made{e:Addr}{vs:Array Value}(l:P (.exc Γ cls))(c:aF s s₁)(I:Inv W C env Γ O M s₁)(i:∀b o,s₁.heap.get? b=some o->h'.get? b=some o)(d:s₁.heap.objs.size<=e)(hz:s₁.heap.objs.size<=h'.objs.size)(f:h'.get? e=some o)(k:o.cls = .type cls)(hd:o.data = .fields vs)(hs:1<vs.size)(n:vs[1]? = some .none):gn W C env O M s P (.ref e) { s₁ with heap:=h' }:=by
 have g':G W { s₁ with heap:=h' }:=I.g.step (tk:=s₁.toks) i hz
 have j:aF s₁ { s₁ with heap:=h' }:=aF.step (tk:=s₁.toks) i hz
 have h:e<h'.objs.size:=aO f
 refine⟨ak.ofK (c.trans j),M,[e],Ext.refl _ _,λa m=>?_,λa m z=>?_,Γ,cls,l,I.wider j g' λa m=>?_,false,λa m=>?_,e,o,vs,rfl,.head _,f,k,hd,hs,.inl ⟨n,rfl⟩⟩
 ·exact(ah.mp m)▸(ae c.siz d)
 ·rw[ah.mp m] at z;exact aw.mpr d (I.up e (al _ z)).2
 ·exact(ah.mp m)▸(⟨d,h⟩)
 ·exact(ah.mp m)▸(⟨o,vs,f,hd⟩)
theorem lu{c:Pos}(i:EvP W C Γ n (.Name x c) (aE (.type "StopIteration")))(j:P (.exc Γ "StopIteration")):ExP W C Γ n (.Raise (some (.Name x c)) none pos::b) P:=bT λA env O M s d I =>
 Bm d.hd (ad (i A env O M s d I) (λv s₁ a=>⟨a.2.2,λh' e t g f h hz=>gn.made (P:=uj W C n b P) j a.2.1 (a.then I) g f hz h rfl rfl (by simp) rfl⟩) az)
structure HG(W:Wc)(O:List Addr)(s:Shared)(h:List (Addr×OTy))(M:List Addr)(s':Shared):Prop where
 g:G W s'
 k:aF s s'
 m:∀a∈M,s.heap.objs.size<=a/\a<s'.heap.objs.size
 o:∀a P,(a,P)∈h->a∈M/\jL (am s'.heap (O++M)) s'.heap P a
inductive SlV(W:Wc)(O:List Addr)(Ps:Addr->Kn->Prop)(s:Shared)(v:Value)(s':Shared):Prop
 | mk (x:Addr) (Γ':Kn) (M:List Addr) (e:v = .ref x) (p:Ps x Γ') (o:HG W O s Γ'.h M s')
inductive Bn(W:Wc)(O:List Addr)(x:Addr)(Ps:Addr->Kn->Prop)(s:Shared)(r:Result)(s':Shared):Prop
 | mk (e:r = .ok (.ret .none)) (Γ':Kn) (M:List Addr) (p:Ps x Γ') (g:G W s') (k:ak ⟨[x],[]⟩ s s') (hM:∀a∈M,(a=x∨s.heap.objs.size<=a)/\a<s'.heap.objs.size) (ho:∀a P,(a,P)∈Γ'.h->a∈M/\jL (am s'.heap (O++M)) s'.heap P a)
theorem vC{fI:Addr}{Ps:Addr->Kn->Prop}(L:makesIn W.K D=true)(z:findIn W.K (.ref D) "__init__" = some (some (.ref fI)))(N:typeIn W.K (.ref fI)=some (.type "function"))(V:aU W A (n+2))(g:GO W O s)(l:∀F s₁ x ox,aU W F (n+1)->GO W (O++[x]) s₁->x∉O->aF s s₁->Vle (am s.heap O) (am s₁.heap (O++[x]))->s₁.heap.get? x=some ox->nt ox=true->(cX D (List.replicate k none)).p (am s₁.heap (O++[x])) ox->codeAny (model prg W.w) F (.call (.ref fI) ⟨.ref x::vs,[]⟩) (Bn W O x Ps s₁) s₁):
  wpAny (model prg W.w) A (call (.ref D) vs) (SlV W O Ps s) Nev s:=by
 obtain⟨f,B,v,tk,os⟩:=s
 refine bQ (make_core (makes_of g.g.kin L) (fB g.g.kin z) (λself=>bind_fn g.g.kin self N) (.inl rfl) ?_)
 generalize d:(⟨(f.push emptyDict).push (instObj D f.objs.size),B,v,tk,os⟩:Shared)=s₁
 have y:∀b o,f.get? b=some o->s₁.heap.get? b=some o:=λb o e=>by subst d;exact aV _ (aV _ e)
 have u:s₁.heap.objs.size=f.objs.size+2:=by subst d;show((f.push emptyDict).push _).objs.size=_;rw[bi,bi]
 have C:s₁={ (⟨f,B,v,tk,os⟩:Shared) with heap:=s₁.heap,toks:=tk }:=by subst d;rfl
 have t:G W s₁:=by rw[C];exact g.g.step y (by rw[u];exact aW _ _)
 have j:aF ⟨f,B,v,tk,os⟩ s₁:=by rw[C];exact aF.step y (by rw[u];exact aW _ _)
 have R:s₁.heap.get? (f.objs.size+1)=some (instObj D f.objs.size):=by
  subst d
  have:=bf (f.push emptyDict) (o:=instObj D f.objs.size) rfl
  rwa [bi] at this
 have hd:s₁.heap.get? f.objs.size=some emptyDict:=by subst d;exact aV _ (bf _ rfl)
 have I:f.objs.size+1∉O:=λm=>bz _ (jd (g.ok _ m).2)
 have J:f.objs.size∉O:=λm=>bz _ (g.ok _ m).2
 have P:Vle (am f O) (am s₁.heap (O++[f.objs.size+1])):=λa o e c=>by
  have H:=af e
  refine aK (y _ _ H) λm=>?_
  rcases aj.mp m with m | m
  ·exact a8 e m
  ·rw[ah] at m;subst m;exact absurd (aO H) (aw.mpr (bY _))
 have q:GO W (O++[f.objs.size+1]) s₁:=⟨t,λa m=>by
  rw[u]
  rcases aj.mp m with m | m
  ·exact⟨(g.ok a m).1,aA (g.ok a m).2 (aW _ _)⟩
  ·have m:a=f.objs.size+1:=ah.mp m
   subst m;exact⟨iO g.g.siz,dR _⟩,g.top⟩
 refine bN (l _ s₁ (f.objs.size+1) _ (V.make _ _ _) q I j P R rfl ⟨rfl,⟨_,_,rfl,aK hd (λm=>?_),rfl⟩,rfl,λi T z=>?_⟩) λr s' h=>?_
 ·exact(aj.mp m).elim J λm=>by simp at m
 ·have:=be z
  rw[List.mem_replicate] at this;cases this.2
 ·obtain⟨rfl,Γ',M,X,g',U,E,Q⟩:=h
  refine⟨rfl,_,Γ',M,rfl,X,g',j.of_ext ⟨λb m=>.inr (by have m:b=f.objs.size+1:=ah.mp m;subst m;exact bY _),λi m=>absurd m av⟩ U,λa m=>⟨?_,(E a m).2⟩,Q⟩
  rcases(E a m).1 with h | h
  ·exact h▸(bY _)
  ·rw[u] at h;exact ae (aW _ _) h
theorem Db{fI:Addr}{σ:Addr->List (Option Ty)}{Ps:Addr->Kn->Prop}(ns:List Str)(I:makesIn W.K D=true)(Y:findIn W.K (.ref D) "__init__" = some (some (.ref fI)))(M:typeIn W.K (.ref fI)=some (.type "function"))(hf:pp W.K fI=some fd)(p:rW W.K C fI ns=true)(hs:fd.scope=C.scope)(y:fd.body = .stmts body)(F:∀V x vs,ay V Ts vs->∃binds,peek W.K ⟨prg,W.w.params⟩ (bindArgs fd ⟨.ref x::vs,[]⟩)=some binds/\binds.map (·.1)=ns/\dL V binds C.names (σ x))(f:∀x env,im fI fd env->ExP (W.at (env::W.frs)) C ⟨σ x,[(x,cX D (List.replicate k none))]⟩ n body (λo=>match o with | .next Γ'=>Ps x Γ' | _=>False))(rm:aU W A (n+2))(g:GO W O s)(hT:ay (am s.heap O) Ts vs):
  wpAny (model prg W.w) A (call (.ref D) vs) (SlV W O Ps s) Nev s :=
 vC I Y M rm g λA' s₁ x ox z b H E R hx N d=>by
  obtain⟨binds,e,en,B⟩:=F (am s₁.heap (O++[x])) x vs (ay.mono R hT)
  have i:=gt hf p hs y
  obtain⟨o,Z,q⟩:=i.here
  have t:∀x c,(x,c)∉fd.closure:=i.nc
  refine bN (iA (L:=⟨[x],[]⟩) (O:=O) (QE:=Nev) (Γ:=⟨σ x,[(x,cX D (List.replicate k none))]⟩) (Q:=λv s'=>Bn W O x Ps s₁ (.ok (.ret v)) s') z b.g Z q (dC i.code b.g.kin) e (i.ok binds en) (λx c m=>absurd m (t x c)) (by rw[i.clo];exact List.Pairwise.nil) (λx c m=>absurd m (t x c)) b.ok (λG=>nM) B (λa P m=>?_) (by simp) (λa P m x=>t x a) (f _) ?_ ?_) λr s' h=>?_
  ·have m:=ah.mp m
   cases m
   exact⟨ah.mpr rfl,H,_,hx,N,d⟩
  ·intro v s' M' Γ' T kx U g' l u j
   rcases j with⟨d,J⟩ | ⟨d,rfl⟩ | ⟨d,rfl⟩
   ·exact d.elim
   ·exact⟨rfl,Γ',M'.a,d,g',kx,λa m=>⟨(U.a a m).imp ah.mp id,(u a m).2⟩,l⟩
   ·exact(d.elim id id).elim
  ·intro ev s' M' X Γ' cls G G G G G G d G
   exact d.elim
  ·rcases r with er | (v | _ | _ | _) <;> first | exact h.elim | exact h
theorem zz{p q:Int}(i:Nat)(h:EvP W C Γ n value (bh q))(c:ExP W C (Γ.set i (bh (p-q))) n b P)(j:autoParam (Γ.v[i]? = some (some (bh p))) q_R)(e:autoParam (C.names[i]? = some x) q_R)(k:autoParam (fe C x=true) q_K):
  ExP W C Γ n (.AugAssign (.Name x pos') .Sub value pos::b) P :=
 AJ i h (λA O s a b l g d f=>by
  obtain⟨t,rfl⟩:=d
  obtain⟨u,rfl⟩:=f
  exact isub_int ⟨g.g.tok,aF.tok,_,rfl⟩) c j e k
theorem xd{idx:Expr}{p q:Nat}(i k:Nat)(J:EvP W C Γ n idx (ag j))(V:EvP W C Γ n value (bh q))(hU:Ts[j]? = some (ag p))(K:j<2 ^ 60)(hr:ExP W C (Γ.hset k L (cq (Ts.set j (ag (p+q))))) n b P)(hk:autoParam (Γ.h[k]? = some (L,cq Ts)) q_R)(hi:autoParam (C.names[i]? = some x) q_R)(hv:autoParam (Γ.v[i]? = some (some (aE (.ref L)))) q_R)(hs:autoParam (∀H X w,augStore idx H X w=(do holding [w,H,X] (setItem H X w);release [w,H,X] [];pure .next)) q_R):ExP W C Γ n (.AugAssign (.Subscript (.Name x xp) idx sp) .Add value pos::b) P :=
 bT λA env O M s rm I=>by
  refine wpAny_AugAssign_SubscriptAny (ad (nm (T:=aE (.ref L)) i hi hv A env O M s rm I) (λH s₁ e=>ad (J A env O M s₁ rm (e.then I)) (λX s₂ o=>?_) az) az) hs
  have m:=o.then (e.then I)
  have ho:H = .ref L:=e.2.2
  subst ho
  obtain⟨t,rfl⟩:=o.2.2
  obtain⟨q1,S,S,S,a4,E,S,vs,⟨c,rfl⟩,y⟩:=m.phi L _ (be hk)
  obtain⟨u,hu,t',rfl⟩:=ay.get y hU
  have a2:j<vs.length:=(b8.mp hu).1
  refine pY (items:=vs.toArray) ⟨_,E,rfl,c,rfl⟩ oI (oF K) (by simpa using hu) ?_
  refine ad (V A env O M s₂ rm m) (λv d f=>?_) az
  obtain⟨u',rfl⟩:=f.2.2
  refine wpAny_iadd_int ?_
  have D:=f.then m
  have Q:G W { d with toks:=d.toks+1 }:=D.g.tok
  have B:=D.keep (aF.tok (s:=d) (tk:=d.toks+1)) Q
  obtain⟨q1,S,S,S,a5,r,S,F,⟨c',rfl⟩,l⟩:=B.phi L _ (be hk)
  have Y:j<F.length:=by rw[ay.len l,← ay.len y];exact a2
  refine lg r K (Y) λh' c' R Z=>?_
  have hO:L∈O++M.a:=al _ q1
  rw[show ∀z,F.toArray.setIfInBounds j z=(F.set j z).toArray by simp] at R
  obtain⟨kM,N⟩:=B.mut (P':=cq (Ts.set j (ag (p+q)))) (tk:=d.toks+1) hk Z R rfl ⟨_,⟨c',rfl⟩,ay.upd (U:=ag (p+q)) ⟨_,by rw[mK]⟩ j (ay.mono (cm hO Z) l)⟩ (.inl ⟨_,r,λS S=>nD⟩)
  exact⟨(ak.ofK (e.2.1.trans (o.2.1.trans (f.2.1.trans aF.tok)))).trans kM,M,Ext.refl s M,.next _,hr,N⟩
noncomputable def ki(N r:Nat)(idx:List Nat):Nat->Nat
 | 0=>0
 | k+1=>if idx.getD k 0+r=k+N then ki N r idx k else k+1
noncomputable def gT(idx:List Nat)(i:Nat):Nat->List Nat
 | 0=>idx.set i (idx.getD i 0+1)
 | t+1=>(gT idx i t).set (i+1+t) ((gT idx i t).getD (i+t) 0+1)
theorem pi{r:Nat}:ki N r idx (k+1)=if idx.getD k 0+r=k+N then ki N r idx k else k+1:=rfl
theorem vD{t:Nat}:gT idx i (t+1)=(gT idx i t).set (i+1+t) ((gT idx i t).getD (i+t) 0+1):=rfl
theorem ry(idx:List Nat)(i:Nat):∀t,(gT idx i t).length=idx.length:=by
 intro t
 induction t with
 | zero=>exact eE
 | succ t ih=>rw[vD,eE,ih]
noncomputable def n5(N r:Nat)(idx:List Nat):Option (List Nat):=if ki N r idx r=0 then none else some (gT idx (ki N r idx r-1) (r-ki N r idx r))
noncomputable def gC(N r:Nat)(first a:Bool)(idx:List Nat):Option (List Nat):=if a then none else if first then some idx else n5 N r idx
noncomputable abbrev cCn:Cx:=⟨(fM 10 3).2.2,[S "self",S "pool",S "indices",S "n",S "r",S "i",S "j"],[],none⟩
theorem rz:jM W "StopIteration" (.type "StopIteration"):=⟨by kernel_rfl,by decide +kernel,by decide +kernel⟩
theorem Bo:fc W "_picked" 143:=by kernel_rfl
noncomputable abbrev coH(x L:Addr)(first:Bool)(l:List Nat)(r:Nat)(a:Bool)(idx:List Nat):List (Addr×OTy):=[(x,cX 176 (coT first L l r a)),(L,cq (idx.map ag))]
noncomputable def El(x L:Addr)(l:List Nat)(r:Nat)(idx:List Nat)(res:Option (List Nat)):ja->Prop:=λo=>match o,res with
 | .ret Γ' T,some idx'=>T.le (bH ((aS l idx').map ag))/\Γ'.h=coH x L false l r false idx'
 | .exc Γ' c,none=>c = "StopIteration" /\ ∃f,Γ'.h=coH x L f l r true idx
 | _,_=>False
theorem xe(h:j<idx.length):(idx.map ag)[j]? = some (ag (idx.getD j 0)):=by
 rw[dw,eS,dz h];rfl
theorem yo{v:Nat}:(idx.map ag).set j (ag v)=(idx.set j v).map ag:=by rw[mH]
theorem Bp{x:Addr}{r:Nat}{j e f g:Option Ty}(b:idx.length=r)(hz:l.length<=4)(a:r<=l.length)(d:∀i∈idx,i<l.length):
  ExP W cCn ⟨[j,some (bH (l.map ag)),some (aE (.ref L)),e,some (bh (r:Int)),f,g],coH x L false l r false idx⟩ (n+3) ((fM 10 3).2.1.drop 6) (λo=>match o with | .ret Γ' T=>T.le (bH ((aS l idx).map ag))/\Γ'.h=coH x L false l r false idx | _=>False):=by
 subst b
 refine bB (T:=bH ((aS l idx).map ag)) (zd (Tf:=aD idx) 1 2 lO (ze λV o h=>?_) (ao (gl _ Bo) kf (ar3 (nm 1) (nm 2) (nm 4)) au (zu d (ae a (oC hz)) (oC hz)))) ⟨Ty.le_refl _,rfl⟩
 obtain⟨vs,⟨c,rfl⟩,k⟩:=h
 simp
theorem zI{k:Nat}:((k+1:Nat):Int)-1=(k:Int):=Int.add_sub_cancel k 1
theorem zJ{k:Nat}:((1+k:Nat):Int)-1=(k:Int):=by rw[fO];exact zI
theorem zA{k:Nat}(h:1<=k):(k:Int)-1=((k-1:Nat):Int):=(Int.ofNat_sub h).symm
theorem zB{k:Nat}(h:(0:Int)<=(k:Int)-1):1<=k:=cY.mp (Int.le_of_sub_nonneg h)
theorem zC{g k n r:Nat}:(g:Int)=(k:Int)+n-r↔g+r=k+n:=⟨λh=>((mO (m:=k+n) (n:=g+r)).mp (Int.sub_eq_iff_eq_add.mp h.symm)).symm,λh=>(Int.sub_eq_iff_eq_add.mpr (aY Int.ofNat h.symm)).symm⟩
theorem zD{k t:Nat}:((k+1+t:Nat):Int)-1=((k+t:Nat):Int):=by rw[iw];exact zI
theorem Dc{x:Addr}{r:Nat}{first a:Bool}(w:idx.length=r)(hz:l.length<=4)(b:a=false->r<=l.length)(s:∀f,gC l.length r first a idx=some f->∀i∈f,i<l.length):
  ExP W cCn ⟨[some (aE (.ref x)),none,none,none,none,none,none],coH x L first l r a idx⟩ (n+3) (fM 10 3).2.1 (El x L l r idx (gC l.length r first a idx)):=by
 cases a with
 | true=>exact fw (jO (fq 0 4 (nm 0) rfl)) (lu (bl rz) ⟨rfl,first,rfl⟩)
 | false =>
  have b:=b rfl
  refine dD (jO (fq 0 4 (nm 0) rfl)) ?_
  refine bo (T:=bH (l.map ag)) 1 (fq 0 2 (nm 0) rfl) ?_
  refine bo (T:=aE (.ref L)) 2 (fq 0 1 (nm 0) rfl) ?_
  refine bo (T:=ag l.length) 3 (EvP.eq (ao (bl cu) kb (ar1 (nm 1)) au (ed (.inr rfl) (by simp;exact oB ‹_›))) (by simp)) ?_
  refine bo (T:=bh (r:Int)) 4 (fq 0 3 (nm 0) rfl) ?_
  cases first with
  | true =>
   refine fw (jO (fq 0 0 (nm 0) rfl)) (gZ (T:=aG false) 0 0 bO pF (nm 0) (aN ?_))
   refine lH (Bp (x:=x) (idx:=idx) w hz b (s idx rfl)) λo A=>?_
   cases o <;> first | exact A | exact A.elim
  | false =>
   refine s8 (jO (fq 0 0 (nm 0) rfl)) ?_
   refine bo (T:=bh ((r:Int)-1)) 5 (md (nm 4) aJ) ?_
   have I:gC l.length r false false idx=n5 l.length r idx:=rfl
   rw[I] at s ⊢
   let J:Int->List Nat->Option Ty->Kn:=λi idx u=>⟨[some (aE (.ref x)),some (bH (l.map ag)),some (aE (.ref L)),some (ag l.length),some (bh (r:Int)),some (bh i),u],coH x L false l r false idx⟩
   refine nB (ι:={ k:Nat // k<=r/\ki l.length r idx k=ki l.length r idx r }) (λk=>J ((k.1:Int)-1) idx none) (λk=>k.1) (λk=>decide ((0:Int)<=(k.1:Int)-1)&&(((idx.getD (k.1-1) 0:Nat):Int)==((k.1:Int)-1)+(l.length:Int)-(r:Int))) ⟨r,aB _,rfl⟩ rfl (λk=>?_) (λk c=>?_) (λk c=>?_)
   ·obtain⟨k,c,G⟩:=k
    refine TsP.eq (gq (cN (decide ((0:Int)<=(k:Int)-1)) (cp (nm 5) aJ k6) λv=>cN (((idx.getD (k-1) 0:Nat):Int)==((k:Int)-1)+(l.length:Int)-(r:Int)) (cp (qY (j:=k-1) 2 1 (EvP.eq (nm (T:=bh ((k:Int)-1)) 5) ?_) (xe ?_) ?_) (md (sY (nm 5) (nm 3)) (nm 4)) sm) λG=>ji)) (by rw[cy])
    ·rw[zA (zB (ci v))]
    ·exact aA (Nat.sub_lt (zB (ci v)) gm) (ae c (aH w.symm))
    ·exact bp (Nat.sub_le _ _) (oB (ae c (ae b hz)))
   ·obtain⟨k,m,B⟩:=k
    rw[bg,bq,aL] at c
    obtain⟨E,K⟩:=c
    obtain⟨k,rfl⟩:∃q,k=q+1:=⟨k-1,(Nat.sub_add_cancel (zB E)).symm⟩
    rw[zI] at K
    refine zz (p:=((k+1:Nat):Int)-1) (q:=1) 5 aJ (aN ⟨⟨k,by exact cQ ‹_›,?_⟩,dR _,?_⟩)
    ·rw[← B,pi,bI (zC.mp K:idx.getD k 0+r=k+l.length)]
    ·refine(?_:(⟨_,_⟩:Kn)=J _ _ _)
     rw[zI];rfl
   ·obtain⟨k,m,B⟩:=k
    have F:ki l.length r idx k=k:=by
     cases k with
     | zero=>rfl
     | succ k =>
      rw[pi,bj]
      intro h
      rw[Nat.add_sub_cancel,Bool.and_eq_false_iff,decide_eq_false_iff_not,ey] at c
      rcases c with c | c
      ·exact c (by rw[zI];exact oI)
      ·exact c (by rw[zI];exact zC.mpr h)
    rw[F] at B
    by_cases v:k=0
    ·subst v
     refine fw (TsP.eq (cp (nm 5) aJ ia) rfl) (gZ (T:=aG true) 0 4 bO pF (nm 0) (lu (bl rz) ?_))
     have:n5 l.length r idx=none:=bI B.symm
     rw[this]
     exact⟨rfl,false,rfl⟩
    ·obtain⟨k,rfl⟩:=Nat.exists_eq_succ_of_ne_zero v
     have D:n5 l.length r idx=some (gT idx k (r-(k+1))):=by rw[n5,← B,bj v] <;> rfl
     rw[D] at s ⊢
     have s:=s _ rfl
     have g:r<2 ^ 60:=oB (ae b hz)
     refine dD (TsP.eq (cp (nm 5) aJ ia) (eR (by rw[zI];exact iR.mpr oI))) ?_
     refine j6 (Γ':=J (k:Int) idx none) (by rw[zI];rfl) rfl ?_
     refine xd (j:=k) 2 1 (nm 5) (aJ (i:=((1:Nat):Int))) (xe (idx:=idx) (m8 m w.symm)) (dI m g) ?_
     refine bo (T:=bh ((k:Int)+1)) 6 (sY (nm 5) aJ) ?_
     rw[yo]
     refine nB (ι:={ t:Nat // t<=r-(k+1) }) (λt=>J (k:Int) (gT idx k t.1) (some (ag (k+1+t.1)))) (λt=>r-(k+1)-t.1) (λt=>decide (((k+1+t.1:Nat):Int)<(r:Int))) ⟨0,dT _⟩ rfl (λt=>cp (nm 6) (nm 4) ia) (λt H=>?_) (λt H=>?_)
     ·obtain⟨t,y⟩:=t
      have d:k+1+t<r:=bV.mp (ci H)
      have C:k+t<r:=jd (iw k 1 t▸d:k+t+1<r)
      have e:=((ry idx k t).trans w).symm
      refine qZ (Ts:=(gT idx k t).map ag) (U:=ag ((gT idx k t).getD (k+t) 0+1)) (j:=k+1+t) 2 1 (EvP.eq (sY (qY (j:=k+t) 2 1 (EvP.eq (md (nm 6) aJ) (aY bh zD)) (xe (idx:=gT idx k t) (m8 C e)) (dI C g)) (aJ (i:=1))) (by rfl)) (nm 6) (by rw[a0];exact m8 d e) (dI d g) ?_
      rw[yo]
      have E:t+1<=r-(k+1):=Nat.le_sub_of_add_le (by rw[fO];exact d)
      exact jT (p:=((k+1+t:Nat):Int)) (q:=1) 6 aJ (aN ⟨⟨t+1,E⟩,Nat.sub_succ_lt_self _ _ E,rfl⟩)
     ·obtain⟨t,y⟩:=t
      have:t=r-(k+1):=jy y (Nat.sub_le_of_le_add (by rw[fO];exact mN λz=>iS H (bV.mpr z)))
      subst this
      refine aN ?_
      refine lH (Bp (x:=x) (idx:=gT idx k (r-(k+1))) (by rw[ry];exact w) hz b s) λo A=>?_
      cases o <;> first | exact A | exact A.elim
structure Bq(W:Wc)(O:List Addr)(s:Shared)(hs hs':List (Addr×OTy))(M:List Addr)(s':Shared):Prop where
 g:G W s'
 k:ak ⟨hs.map (·.1),[]⟩ s s'
 x:∀a∈M,a∈hs.map (·.1)∨s.heap.objs.size<=a
 b:∀a∈M,W.H.objs.size<=a/\a<s'.heap.objs.size
 o:∀a P,(a,P)∈hs'->a∈M/\jL (am s'.heap (O++M)) s'.heap P a
inductive Em(W:Wc)(O:List Addr)(s:Shared)(hs:List (Addr×OTy))(P:ja->Prop)(v:Value)(s':Shared):Prop
 | mk (Γ':Kn) (M:List Addr) (r:Bq W O s hs Γ'.h M s') (h:P (.next Γ')/\v = .none∨∃T,P (.ret Γ' T)/\T.p (am s'.heap (O++M)) v)
inductive En(W:Wc)(O:List Addr)(s:Shared)(hs:List (Addr×OTy))(P:ja->Prop)(e:Value)(s':Shared):Prop
 | mk (Γ':Kn) (M X:List Addr) (cls:String) (p:P (.exc Γ' cls)) (r:Bq W O s hs Γ'.h M s') (b:∀a∈X,s.heap.objs.size<=a/\a<s'.heap.objs.size) (x:fJ s'.heap X cls true e)
theorem Br{hs:List (Addr×OTy)}(ns:List Str)(hf:pp W.K a=some fd)(Z:rW W.K C a ns=true)(Y:fd.scope=C.scope)(U:fd.body = .stmts body)(hb:∀V vs,ay V Ts vs->∃binds,peek W.K ⟨prg,W.w.params⟩ (bindArgs fd ⟨vs,[]⟩)=some binds/\binds.map (·.1)=ns/\dL V binds C.names σ)(hP:∀Γ',(∃T,P (.ret Γ' T))∨(∃c,P (.exc Γ' c))∨P (.next Γ')->∀b∈hs.map (·.1),b∈Γ'.h.map (·.1))(u:∀Γ',¬P (.cont Γ')/\¬P (.brk Γ'))(q:∀env,im a fd env->ExP (W.at (env::W.frs)) C ⟨σ,hs⟩ n body P)(rm:aU W A (n+1))(g:GO W O s)(ho:∀a P,(a,P)∈hs->a∈O/\jL (am s.heap O) s.heap P a)(N:(hs.map (·.1)).Nodup)(hT:ay (am s.heap O) Ts vs):
  wpAny (model prg W.w) A (call (.ref a) vs) (Em W O s hs P)
   (En W O s hs P) s:=by
 have D:=gt hf Z Y U
 obtain⟨binds,e,en,B⟩:=hb _ vs hT
 obtain⟨o,a2,hd⟩:=D.here
 have J:∀x c,(x,c)∉fd.closure:=D.nc
 let O':=O.filter λb=>decide (b∉hs.map (·.1))
 have t:∀b,b∈O'↔b∈O/\b∉hs.map (·.1):=λb=>by show b∈List.filter _ _↔_;rw[bk,qb]
 have y:∀b∈hs.map (·.1),b∈O:=λb m=>by obtain⟨p,i,rfl⟩:=a9.mp m;exact(ho p.1 p.2 i).1
 have E:∀{M:List Addr},(∀b∈hs.map (·.1),b∈M)->∀b,b∈O'++M↔b∈O++M:=λhM b=>by
  rw[aj,aj,t]
  exact⟨λh=>h.imp (·.1) id,λh=>h.elim (λh=>if e:b∈hs.map (·.1) then .inr (hM b e) else .inl ⟨h,e⟩) .inr⟩
 have F:∀h:Heap,am h (O'++hs.map (·.1))=am h O:=λh=>cr λb=>by
  rw[E λS m=>m,aj];exact⟨λh=>h.elim id (y b),.inl⟩
 have l:∀{M:Fp} {Γ':Kn} {s':Shared},(∀b∈hs.map (·.1),b∈Γ'.h.map (·.1))->(∀a P,(a,P)∈Γ'.h->a∈M.a/\jL (am s'.heap (O'++M.a)) s'.heap P a)->ak ⟨hs.map (·.1),[]⟩ s s'->Ext s ⟨hs.map (·.1),[]⟩ M->G W s'->(∀x∈M.a,W.H.objs.size<=x/\x<s'.heap.objs.size)->Bq W O s hs Γ'.h M.a s'/\∀h,am h (O'++M.a)=am h (O++M.a):=fun {M Γ' s'} a1 d k x g' j=>by
  have I:∀h,am h (O'++M.a)=am h (O++M.a):=λh=>cr (E λb m=>by
   obtain⟨p,i,rfl⟩:=a9.mp (a1 b m)
   exact(d p.1 p.2 i).1)
  refine⟨⟨g',k,x.a,j,λa P m=>?_⟩,I⟩
  rw[← I];exact d a P m
 refine bQ (bN (iA (L:=⟨hs.map (·.1),[]⟩) (O:=O') (Γ:=⟨σ,hs⟩) (Q:=Em W O s hs P)
  (QE:=En W O s hs P) rm g.g a2 hd (dC D.code g.g.kin) e (D.ok binds en) (λx c m=>absurd m (J x c)) (by rw[D.clo];exact List.Pairwise.nil) (λx c m=>absurd m (J x c)) (λx R=>?_) (λS=>nM) ?_ (λa P m=>?_) N (λS S S x=>J x _) q ?_ ?_) λr s' h=>?_)
 ·rcases aj.mp R with h | h
  ·exact g.ok x ((t x).mp h).1
  ·exact g.ok x (y x h)
 ·refine(?_:dL (am s.heap (O'++hs.map (·.1))) binds C.names σ)
  rw[F];exact B
 ·obtain⟨h1,h2⟩:=ho a P m
  refine⟨cj (f:=(·.1)) m,λz=>((t a).mp z).2 (cj (f:=(·.1)) m),?_⟩
  refine(?_:jL (am s.heap (O'++hs.map (·.1))) _ P _)
  rw[F];exact h2
 ·intro v s' M' Γ' T k x g' d j h
  rcases h with⟨i,ht⟩ | ⟨i,rfl⟩ | ⟨i,rfl⟩
  ·obtain⟨r,I⟩:=l (hP Γ' (.inl ⟨T,i⟩)) d k x g' j
   exact⟨Γ',M'.a,r,.inr ⟨T,i,by rw[← I];exact ht⟩⟩
  ·exact⟨Γ',M'.a,(l (hP Γ' (.inr (.inr i))) d k x g' j).1,.inl ⟨i,rfl⟩⟩
  ·exact(i.elim (u Γ').1 (u Γ').2).elim
 ·intro ev s' M' X Γ' cls k x hX g' d j i R
  exact⟨Γ',M'.a,X,cls,i,(l (hP Γ' (.inr (.inl ⟨cls,i⟩))) (λa P m=>Ga (d a P m) λh1 S h3=>⟨h1,h3⟩) k x g' j).1,λa m=>⟨(hX a m).1,(hX a m).2.2⟩,R⟩
 ·rcases r with er | (v | _ | _ | _) <;> first | exact h.elim | exact h
noncomputable def tW(N r:Nat):Bool->Bool->List Nat->List (List Nat)->Prop
 | f,st,idx,[]=>gC N r f st idx=none
 | f,st,idx,c::cs=>gC N r f st idx=some c/\tW N r false false c cs
structure sg(W:Wc)(x L:Addr)(f:Bool)(l:List Nat)(r:Nat)(st:Bool)(idx:List Nat)(M H:List Addr)(s:Shared):Prop where
 hx:x∈M
 hL:L∈M
 sub:∀a∈M,a∈H
 inb:InB W ⟨M,[]⟩ s
 o:∀a P,(a,P)∈coH x L f l r st idx->jL (am s.heap H) s.heap P a
theorem sg.ne{x:Addr}{f g:Bool}{r:Nat}{M:List Addr}(c:sg W x L f l r g idx M H s):x≠L:=λe=>by
 obtain⟨o,b,i,d,i⟩:=c.o x _ (.head _)
 obtain⟨h,a,i,vs,⟨k,rfl⟩,i⟩:=c.o L _ (.tail _ (.head _))
 rw[e,a] at b;cases b;cases d
theorem Bs:findIn W.K (.ref 176) "__next__" = some (some (.ref 172)):=by kernel_rfl
theorem GJ:typeIn W.K (.ref 172)=some (.type "function"):=by kernel_rfl
theorem Fk{x:Addr}{r:Nat}(hz:l.length<=4):∀(cs:List (List Nat)) (f j:Bool) (idx:List Nat) (M H:List Addr) (s:Shared),tW l.length r f j idx cs->idx.length=r->(∀c∈cs,c.length=r/\∀i∈c,i<l.length)->(j=false->r<=l.length)->sg W x L f l r j idx M H s ->
  ItN W (n+4) (.ref x) (cs.map λc=>(bH ((aS l c).map ag)).itm) ⟨M,[]⟩ H s:=by
 intro cs
 induction cs with
 | nil | cons c cs ih =>
  intro f j idx M H s d y u B p
  refine⟨?_,λk A s' H' rm J E t vl=>?_⟩
  ·obtain⟨ox,h1,h2,h3,G⟩:=p.o x _ (.head _)
   exact⟨x,ox,rfl,p.hx,h1,h2,.inr h3⟩
  have obj:∀a P,(a,P)∈coH x L f l r j idx->a∈H'/\jL (am s'.heap H') s'.heap P a:=λa P m=>by
   obtain⟨o,ho,Y,q⟩:=p.o a P m
   have Q:a∈M:=by
    rcases aC.mp m with e | m
    ·cases e;exact p.hx
    ·rcases aC.mp m with e | m
     ·cases e;exact p.hL
     ·cases m
   exact⟨t a Q,o,E.a a Q o ho Y,Y,P.mono vl q⟩
  obtain⟨G,ox,F,G,I,⟨dx,od,hd,O,G⟩,K,G⟩:=obj x _ (.head _)
  have IA:InstAt s'.heap x ox 176 (some od):=⟨F,I,by unfold notCls;rw[K],by rw[hd];exact af O⟩
  have w:∀b∈((coH x L f l r j idx).map (·.1)),b∈M:=λb m=>by
   rcases aC.mp m with e | m
   ·rw[e];exact p.hx
   ·rw[ah.mp m];exact p.hL
  have z:=Br (W:=W.at k) (n:=n+3) (C:=cCn) (Ts:=[aE (.ref x)]) (hs:=coH x L f l r j idx) (σ:=[some (aE (.ref x)),none,none,none,none,none,none]) (P:=El x L l r idx (gC l.length r f j idx)) (fd:=fn (fM 10 3) (S "__next__") (S "combinations.__next__") 3 [] .none .none .none (.str (S "itertools") 254) none (.ref 171) .none 0) [S "self"] (a:=172) (by kernel_rfl) (by kernel_rfl) (by kernel_rfl) (by rfl)
   (λV vs h=>by
    obtain⟨v,rfl,D⟩:=h.a1
    exact⟨[(S "self",v)],by kernel_rfl,rfl,⟨v,rfl,D⟩,trivial⟩)
   (λΓ' h b m=>by
    have:Γ'.h.map (·.1)=[x,L]:=by
     rcases h with⟨T,h⟩ | ⟨c,h⟩ | h
     ·cases e:gC l.length r f j idx with
      | none=>rw[e] at h;exact h.elim
      | some i=>rw[e] at h;rw[h.2];rfl
     ·cases e:gC l.length r f j idx with
      | none=>rw[e] at h;obtain⟨G,f',h⟩:=h;rw[h];rfl
      | some i=>rw[e] at h;exact h.elim
     ·exact h.elim
    rw[this];exact m)
   (λΓ'=>⟨λh=>h.elim,λh=>h.elim⟩)
   (λenv G=>Dc (W:=(W.at k).at (env::(W.at k).frs)) y hz B λZ h=>by
    first
    | (rw[show gC l.length r f j idx=none from d] at h;cases h)
    | (rw[d.1] at h;cases h;exact(u _ (.head _)).2))
   rm J obj (by simp;exact p.ne) (show ay _ [aE (.ref x)] [Value.ref x] from⟨rfl,trivial⟩)
  refine special_fn J.g.kin IA Bs GJ (ad z (λv s'' h=>?_) λe s'' h=>?_)
  ·obtain⟨Γ',M',R,h | ⟨T,q,ht⟩⟩:=h
   ·exact h.1.elim
   ·first
    | (rw[show gC l.length r f j idx=none from d] at q;exact q.elim)
    | (
      rw[d.1] at q
      obtain⟨N,hh⟩:=q
      have D:∀h,am h (H'++M')=am h ((H'++(M++M'))++[]):=λh=>cr λb=>by
       simp only[List.mem_append,List.append_nil]
       exact⟨λh=>h.imp id .inr,λh=>h.elim .inl λh=>h.elim (λh=>.inl (t b h)) .inr⟩
      have U:InB W ⟨M++M',[]⟩ s'':=⟨λb m=>(aj.mp m).elim (λm=>⟨(p.inb.a b m).1,aA (J.ok b (t b m)).2 R.k.siz⟩) (R.b b),λG=>nM⟩
      have hm:∀a P,(a,P)∈coH x L false l r false c->a∈M'/\jL (am s''.heap ((H'++(M++M'))++[])) s''.heap P a:=λa P m=>by
       have:=R.o a P (hh▸m)
       rwa [D] at this
      refine⟨v,⟨M++M',[]⟩,[],rfl,R.g,bK R.k w (λG=>nM),⟨λb m=>(aj.mp m).elim .inl λm=>(R.x b m).imp (w b) id,λG=>nM⟩,U,(λG=>nM),⟨rfl,?_⟩,?_⟩
      ·rw[← D];exact N _ _ ht
      ·refine ih false false c (M++M') _ s'' d.2 (u _ (.head _)).1 (λc' m=>u c' (.tail _ m)) (λG=>?_) ⟨aq _ p.hx,aq _ p.hL,λb m=>aq _ (al _ m),U,λa P m=>(hm a P m).2⟩
       cases j with
       | false=>exact B rfl
       | true=>exact(nomatch d.1))
  ·obtain⟨Γ',M',X,cls,q,R,hX,hx⟩:=h
   first
    | (rw[d.1] at q;exact q.elim)
    | (
     rw[show gC l.length r f j idx=none from d] at q
     obtain⟨rfl,G⟩:=q
     exact⟨R.g,bK R.k w (λG=>nM),X,true,hX,hx⟩)
noncomputable def yq(N r:Nat):Nat->Bool->Bool->List Nat->List (List Nat)
 | 0,_,_,_=>[]
 | k+1,f,st,idx=>match gC N r f st idx with
  | none=>[]
  | some c=>c::yq N r k false false c
noncomputable def du(N r:Nat):List (List Nat):=yq N r 7 true (decide (N<r)) (List.range r)
noncomputable def tX(N r:Nat):Bool->Bool->List Nat->List (List Nat)->Bool
 | f,st,idx,[]=>gC N r f st idx==none
 | f,st,idx,c::cs=>gC N r f st idx==some c&&tX N r false false c cs
theorem zE{r:Nat}{cs:List (List Nat)}:∀{f a:Bool} {idx:List Nat},tX N r f a idx cs=true->tW N r f a idx cs:=by
 induction cs with
 | nil =>
  intro b b b h
  exact aL.mp h
 | cons _ _ ih =>
  intro b b b h
  exact let h:=bP.mp h;⟨aL.mp h.1,ih h.2⟩
theorem zF:((List.range 5).all λN=>(List.range 5).all λr=>tX N r true (decide (N<r)) (List.range r) (du N r)&&(du N r).all λc=>c.length==r&&c.all λi=>decide (i<N))=true:=by decide +kernel
theorem n6{r:Nat}(g:N<=4)(a:r<=4):tW N r true (decide (N<r)) (List.range r) (du N r)/\∀c∈du N r,c.length=r/\∀i∈c,i<N:=by
 have h:=bd.mp (bd.mp zF N (aI.mpr (jF g))) r (aI.mpr (jF a))
 refine ck (bP.mp h) λf e=>?_
 refine⟨zE f,λc m=>?_⟩
 refine ck (bP.mp (bd.mp e c m)) λb d=>?_
 exact⟨aL.mp b,λi m=>ci (bd.mp d i m)⟩
theorem mr{A env O M s}(hf:EvP W C Γ n (.Name x p) (aE fv))(f:jp W fv)(j:dJ W C Γ n es Ts)(i:aU W A n)(I:Inv W C env Γ O M s)(l:∀s₁ vs,aF s s₁->G W s₁->ay (am s₁.heap (O++M.a)) Ts vs->wpAny (model prg W.w) A (call fv vs) Q E s₁):wpAny (model prg W.w) A (eval (.Call (.Name x p) es [] pos) env) Q E s:=by
 refine(?_:wpAny _ A (do callWith pos (← eval (.Name x p) env) [] (backTo pos (starEach es env)) (backToKw pos (keywordEach [] env))) _ _ s)
 refine aa (ad (hf A env O M s i I) (λv s₁ c=>?_) λh h e=>False.elim e)
 have k:v=fv:=c.2.2
 subst k
 have d:=c.then I
 obtain⟨g,m⟩:=j A env O M s₁ pos i d
 refine dO (P:=KeP W v) (by rw[g,dP];rfl) (λh p=>p) ?_
 refine bU (ns:=[]) g rfl (ad m (λvs s₂ b=>ac ⟨f s₂ b.1,?_⟩) λh h e=>False.elim e)
 exact l s₂ vs (c.2.1.trans b.2.1) b.1 b.2.2
theorem vE{R:List Addr->Shared->Value->Shared->Prop}(hf:EvP W C Γ n (.Name x p) (aE fv))(b:jp W fv)(d:dJ W C Γ n es Ts)(e:∀A O s vs,aU W A n->GO W O s->ay (am s.heap O) Ts vs->wpAny (model prg W.w) A (call fv vs) (R O s) Nev s){A env O M s}(c:aU W A n)(I:Inv W C env Γ O M s):
  wpAny (model prg W.w) A (eval (.Call (.Name x p) es [] pos) env) (λv s'=>∃s₁,aF s s₁/\R (O++M.a) s₁ v s') Nev s :=
 mr hf b d c I λs₁ vs k g f=>ad (e A _ s₁ vs c (I.keep k g).go f) (λv s' h=>⟨s₁,k,h⟩) az
noncomputable def sL(l:List Nat)(r:Nat):Itm:=⟨λN V h v=>∃x L,v = .ref x/\x∈N/\L∈N/\∀a P,(a,P)∈coH x L true l r (decide (l.length<r)) (List.range r)->jL V h P a,
 λi f=>F5 λx L e d b g=>⟨x,L,e,d,b,λa P m=>(g a P m).rec λo k c j=>⟨o,f a (by
  rcases aC.mp m with e | m
  ·cases e;exact d
  ·rw[ah] at m;cases m;exact b) o k c,c,P.mono i j⟩⟩⟩
theorem yr{r:Nat}(hz:l.length<=4)(f:r<=4):∀A O s vs,aU W A (n+4)->GO W O s->ay (am s.heap O) [aD l,ag r] vs ->
  wpAny (model prg W.w) A (call (.ref 176) vs) (Ef W O (sL l r) s) Nev s:=λA O s vs z g u =>
 ad (Db (n:=n+2) (C:=cCo) (D:=176) (fI:=158) (k:=5) (σ:=λx=>[some (aE (.ref x)),some (aD l),some (ag r),none]) (Ts:=[aD l,ag r]) (fd:=fn (fM 10 1) (S "__init__") (S "combinations.__init__") 3 [] .none .none .none (.str (S "itertools") 254) none (.ref 157) .none 0)
  (Ps:=λx Γ'=>∃L,Γ'.h[0]? = some (x,cX 176 (coT true L l r (decide (l.length<r))))/\Γ'.h[1]? = some (L,cq ((List.range r).map ag))) [S "self",S "iterable",S "r"] (by kernel_rfl) (by kernel_rfl) (by kernel_rfl) (by kernel_rfl) (by kernel_rfl) (by kernel_rfl) (by rfl)
  (λV x vs j=>by
   obtain⟨t,i,rfl,q,B⟩:=j.a2
   exact⟨[(S "self",.ref x),(S "iterable",t),(S "r",i)],by kernel_rfl,rfl,⟨_,rfl,rfl⟩,⟨_,rfl,q⟩,⟨_,rfl,B⟩,trivial⟩)
  (λx env v=>lH (C7 (W:=W.at (env::W.frs)) (x:=x) (oC ‹_›) (oC f)) λo b=>by cases o <;> first | exact b | exact b.elim) z g u)
 (λv s' w=>by
  obtain⟨x,Γ',M,e,⟨L,c,d⟩,g',p,y,b⟩:=w
  exact⟨M,g',p,y,x,L,e,(b _ _ (be c)).1,(b _ _ (be d)).1,λa P m=>(b a P (by
   rcases aC.mp m with e | m
   ·cases e;exact be c
   ·rw[ah] at m;cases m;exact be d)).2⟩) az
theorem vF{r:Nat}(hz:l.length<=4)(e:r<=4){N:List Addr}(k:∀a∈N,W.H.objs.size<=a/\a<s.heap.objs.size)(hs:∀a∈N,a∈H)(h:(sL l r).p N (am s.heap H) s.heap v):
  ∃x L,v = .ref x/\x∈N/\sg W x L true l r (decide (l.length<r)) (List.range r) N H s/\ItN W (n+4) v ((du l.length r).map λc=>(bH ((aS l c).map ag)).itm) ⟨N,[]⟩ H s:=by
 refine uf h λx L b d g f=>?_
 obtain rfl:=b
 have c:sg W x L true l r (decide (l.length<r)) (List.range r) N H s:=⟨d,g,hs,⟨k,λm=>nM⟩,f⟩
 refine ck (n6 hz e) λj i=>?_
 exact⟨x,L,rfl,d,c,Fk hz _ _ _ _ _ _ _ j (by simp) i (λh=>by have:=iS h;exact aw.mp this) c⟩
noncomputable abbrev cCi:Cx:=⟨(fM 10 2).2.2,[S "self"],[],none⟩
theorem yt:aM W (n+1) (.ref 165) [aE v] [] (aE v) :=
 s5 (fM 10 2) cCi [] λenv=>bB (nm 0) (Ty.le_refl _)
theorem vG:findIn W.K (.ref 176) "__iter__" = some (some (.ref 165)):=by kernel_rfl
theorem vH:findIn W.K (.ref 176) "__next__" = some (some (.ref 172)):=by kernel_rfl
theorem Bt:isFn W.K (.ref 165)=true:=by kernel_rfl
theorem xf{z:Str}{r:Nat}(hz:l.length<=4)(U:r<=4)(hf:EvP W C Γ (n+4) (.Name y p) (aE (.ref 176)))(ha:dJ W C Γ (n+4) es [aD l,ag r]):
  ItP W C Γ (n+4) (.Name z px) (.Call (.Name y p) es [] pos) (λTs=>Ts=(du l.length r).map λc=>bH ((aS l c).map ag)):=λA env O M s X I=>by
 refine ad (vE hf kf ha (yr hz U) X I) (λv s₂ h=>?_) az
 obtain⟨s₁,d,N,i,k,R,Z⟩:=h
 have J:∀a∈N,W.H.objs.size<=a/\a<s₂.heap.objs.size:=λa m=>⟨ae (ae I.g.siz d.siz) (R a m).1,(R a m).2⟩
 refine uf (vF (n:=n) hz U J (λa m=>al _ m) Z) λx L T hx c hI=>?_
 obtain rfl:=T
 have V:GO W ((O++M.a)++N) s₂:=⟨i,λa m=>(aj.mp m).elim (λm=>⟨(I.go.ok a m).1,aA (I.go.ok a m).2 (d.trans k).siz⟩) (J a),I.go.top⟩
 obtain⟨ox,B,v,D,⟨dx,od,hd,E,v⟩,t,v⟩:=c.o x _ (.head _)
 have Y:InstAt s₂.heap x ox 176 (some od):=⟨B,D,by unfold notCls;rw[t],by refine hd ▸ ?_;exact af E⟩
 have Q:∀L m,Fr (hK W) L s₂.heap m->wpAny (model prg W.w) A (pyIter (.ref x)) (ItR W (n+4) (.Name z px) (λTs=>Ts=(du l.length r).map λc=>bH ((aS l c).map ag)) (O++M.a) s) Nev s₂:=λL m F=>by
  refine owit_iter (K:=W.K) (C:=176) (x:=x) (L:=L) (f:=165) (h₀:=hK W) (m:=m) (ox:=ox) (od:=some od) F (qF i) Y vG Bt ?_
  refine ad (yt (n:=n+3) A _ s₂ [.ref x] [] X V ⟨rfl,trivial⟩ trivial) (λw u h=>?_) az
  refine dn h λj b P=>?_
  obtain rfl:=P
  have q:InstAt u.heap x ox 176 (some od):=⟨b.obj' B (kZ t),D,by unfold notCls;rw[t],by rw[hd];exact b.obj' (af E) (by assumption)⟩
  refine aa (q.type.here ((fB j.kin vH).here ?_))
  refine⟨⟨N,[]⟩,_,rfl,j,(d.trans k).trans b,⟨λa m=>.inr (ae d.siz (R a m).1),λv=>nM⟩,⟨λa m=>⟨(J a m).1,aA (J a m).2 b.siz⟩,λv=>nM⟩,ItN.toIt (λv v v v h=>ac h) ?_⟩
  exact cP▸(hI.move (b.stays (λv v=>av) (λv v=>av)) (b.vle0 _))
 exact fE (qG V) λL e=>fE e λm F=>Q L m F
noncomputable def n7:List (Addr×Addr):=[(38,34),(516,512),(405,401),(412,408),(427,423),(440,438),(453,451),(190,186)]
noncomputable def jV(W:Wc):Prop:=∀p∈n7,p∈W.tabs
noncomputable abbrev Eo(N k:Nat):Prop:=(quQ N k≠0/\quP N k≠0/\quQ N k<10/\quP N k<10/\iC N 1 (quP N k) (quQ N k)≠0/\iC N 1 (quP N k) (quQ N k)<1000/\jP N 1 (quP N k) (quQ N k) / iC N 1 (quP N k) (quQ N k)=k) /\
  (∀e≤3,iC (quP N k*e) 1 (quQ N k*1) 1≠0/\jP (quP N k*e) 1 (quQ N k*1) 1<100/\iC (quP N k*e) 1 (quQ N k*1) 1<100/\iC (jP (quP N k*e) 1 (quQ N k*1) 1) (iC (quP N k*e) 1 (quQ N k*1) 1) 1 1≠0/\iC (jP (quP N k*e) 1 (quQ N k*1) 1) (iC (quP N k*e) 1 (quQ N k*1) 1) 1 1<1000 /\
   -((-((jP (jP (quP N k*e) 1 (quQ N k*1) 1) (iC (quP N k*e) 1 (quQ N k*1) 1) 1 1:Nat):Int)).fdiv (iC (jP (quP N k*e) 1 (quQ N k*1) 1) (iC (quP N k*e) 1 (quQ N k*1) 1) 1 1:Nat))=(((e*N+k-1) / k:Nat):Int) /\
   ∀w≤4,decide (((jP (quP N k*e) 1 (quQ N k*1) 1*1:Nat):Int)<=((w*iC (quP N k*e) 1 (quQ N k*1) 1:Nat):Int))=decide (e*N<=w*k)) /\
  ∀w≤4,decide (((quP N k*1:Nat):Int)<=((w*quQ N k:Nat):Int))=decide (N<=w*k)
set_option synthInstance.maxHeartbeats 400000 in
set_option synthInstance.maxSize 4000 in
theorem Dd:∀N<4,∀k<4,0<N->0<k->Eo N k:=by decide +kernel
theorem rA(b:0<N/\N<=3)(a:0<k/\k<=3):Eo N k:=Dd N (jF b.2) k (jF a.2) b.1 a.1
noncomputable abbrev tQu(N k:Nat):Ty:=tFr (quP N k) (quQ N k)
noncomputable abbrev tEq(N k e:Nat):Ty:=tFr (jP (quP N k*e) 1 (quQ N k*1) 1) (iC (quP N k*e) 1 (quQ N k*1) 1)
theorem vI{p1 p2 p3:Pos}{b a:Expr}(e:0<N/\N<=3)(j:0<k/\k<=3)(q:C.scope.names.lookup (S "Fraction")=some .globalImplicit)(g:dJ W C Γ (n+4) [b,a] [ag N,tQu N k])(p:autoParam (∀env,∃pl,eval (.Call (.Attribute (.Call (.Name (S "Fraction") p1) [b,a] [] p2) (S "floor") p3) [] [] p4) env=(do
   let ov ← eval (.Call (.Name (S "Fraction") p1) [b,a] [] p2) env
   standAt p3.atName
   let(f,first) ← holding [ov] (getMethod ov (S "floor") pl)
   callWith p4 f first (backTo p4 (starEach [] env)) (backToKw p4 (keywordEach [] env)))) q_P):
  EvP W C Γ (n+4) (.Call (.Attribute (.Call (.Name (S "Fraction") p1) [b,a] [] p2) (S "floor") p3) [] [] p4) (ag k):=by
 refine ck (rA e j) λc l=>?_
 obtain⟨u,m,s,h,i,o,t⟩:=c
 have r:aM W (n+4) (.ref 349) [ag N,tQu N k] [] (tFr (jP N 1 (quP N k) (quQ N k)) (iC N 1 (quP N k) (quQ N k))):=Aj (n:=n+2) (λl=>j7) (λl=>xP) (by decide) m (oB e.2) (oC h) (by decide) (oC s)
 have d:aM W (n+4) (.ref 241) [tFr (jP N 1 (quP N k) (quQ N k)) (iC N 1 (quP N k) (quQ N k))] [] (ag (jP N 1 (quP N k) (quQ N k) / iC N 1 (quP N k) (quQ N k))):=Ak (n:=n+3) i (oC o)
 rw[t] at d
 exact e5 (f:=241) (ao (gl _ eL q (by kernel_rfl)) kf g au r) (by kernel_rfl) rfl (by kernel_rfl) dl au d p
theorem Ep{p1 p2 p3:Pos}{b a:Expr}{e:Nat}(q:0<N/\N<=3)(m:0<k/\k<=3)(c:e<=3)(u:C.scope.names.lookup (S "Fraction")=some .globalImplicit)(y:EvP W C Γ (n+7) b (ag e))(o:EvP W C Γ (n+7) a (tQu N k))(t:autoParam (∀env,∃pl,eval (.Call (.Attribute (.Call (.Name (S "Fraction") p1) [.BinOp b .Mult a p5] [] p2) (S "ceil") p3) [] [] p4) env=(do
   let ov ← eval (.Call (.Name (S "Fraction") p1) [.BinOp b .Mult a p5] [] p2) env
   standAt p3.atName
   let(f,first) ← holding [ov] (getMethod ov (S "ceil") pl)
   callWith p4 f first (backTo p4 (starEach [] env)) (backToKw p4 (keywordEach [] env)))) q_P)(hs:autoParam (∀env,starEach [.BinOp b .Mult a p5] env=(false,eval (.BinOp b .Mult a p5) env)::starEach [] env) q_R):
  EvP W C Γ (n+7) (.Call (.Attribute (.Call (.Name (S "Fraction") p1) [.BinOp b .Mult a p5] [] p2) (S "ceil") p3) [] [] p4) (ag ((e*N+k-1) / k)):=by
 refine dn (rA q m) λd r l=>?_
 obtain⟨v,H,s,z,A,B,F⟩:=d
 refine Ey (r e c) λi D x b4 E j l=>?_
 have g:quP N k*e<1000:=bp (Nat.mul_le_mul (cQ z) c) (by decide)
 have w:aM W (n+7) (.ref 349) [tEq N k e] [] _:=Go (n:=n+5) (λl=>xP) (λl=>j7) i (oA ‹_›) (oC x)
 have h:aM W (n+7) (.ref 248) _ [] _:=Ct (n:=n+6) (p:=jP (jP (quP N k*e) 1 (quQ N k*1) 1) (iC (quP N k*e) 1 (quQ N k*1) 1) 1 1) b4 (oA ‹_›)
 rw[j] at h
 exact e5 (f:=248) (ao (gl _ eL u (by kernel_rfl)) kf (ar1 (qO y o v g (oA ‹_›) (oC s) oJ) hs) au w) (by kernel_rfl) rfl (by kernel_rfl) dl au h t
theorem Bu{e w:Nat}(f:0<N/\N<=3)(d:0<k/\k<=3)(a:e<=3)(b:w<=4)(c:2<=n):iz W n .GtE (ag w) (tEq N k e) (decide (e*N<=w*k)):=by
 refine dn (rA f d) λj g j=>?_
 refine Ey (g e a) λj o m b4 i l h=>?_
 exact(h w b)▸(qP (oA ‹_›) (oB b) c)
theorem Fl{e w:Nat}(f:0<N/\N<=3)(d:0<k/\k<=3)(a:e<=3)(b:w<=4)(c:2<=n):iz W n .LtE (tEq N k e) (ag w) (decide (e*N<=w*k)):=by
 refine dn (rA f d) λj g j=>?_
 refine Ey (g e a) λj o m b4 i l h=>?_
 exact(h w b)▸(yU (oA ‹_›) (oB b) c)
theorem Bv{l:Expr}{e:Nat}(h:0<N/\N<=3)(g:0<k/\k<=3)(a:e<=3)(i:EvP W C Γ n l (ag e))(c:EvP W C Γ n r (tQu N k))(f:7<=n):EvP W C Γ n (.BinOp l .Mult r pos) (tEq N k e):=by
 refine ck (rA h g) λb t=>?_
 obtain⟨d,s,j,m,o,p,q⟩:=b
 exact qO i c d (bp (Nat.mul_le_mul (cQ m) a) (by decide)) (oA ‹_›) (oC j) f
theorem dF(a:TsP W C Γ n test q)(d:q=true->ExP W C Γ n body (uj W C n b P))(c:q=false->ExP W C Γ n b P):ExP W C Γ n (.If test body [] pos::b) P:=by
 cases q with
 | true=>exact fw a (d rfl)
 | false=>exact dD a (c rfl)
theorem ItP.eq(h:ItP W C Γ n tgt e Θ)(q:∀Ts,Θ Ts->Θ' Ts):ItP W C Γ n tgt e Θ':=λA env O M s c I =>
 ad (h A env O M s c I) (λd d h=>ad h (λd d a=>a.rec λF Ts e g k x b i=>⟨F,Ts,q Ts e,g,k,x,b,i⟩) az) az
theorem rB{ι:Type}(l:List ι)(f:ι->Ty)(u:ι->Kn->Kn)(a:ι->Bool)(K:List ι->Kn->Prop)(R:Ty)(hit:ItP W C Γ n tgt iter (λTs=>Ts=l.map f))(k:∀x,j1 W C n tgt (f x) (u x))(v:K [] Γ)(p:∀c x Us,l=c++x::Us->∀Γ,K c Γ->ExP W C (u x Γ) n body (λo=>match o with | .next Γ'=>a x=false/\K (c++[x]) Γ' | .cont Γ'=>a x=false/\K (c++[x]) Γ' | .ret _ T=>a x=true/\T.le R | _=>False))(t:l.any a=true->∀Γ' T,T.le R->P (.ret Γ' T))(r:l.any a=false->∀Γ,K l Γ->ExP W C Γ n b P)(hs:autoParam (∀env x,foldedSetIterable iter env x=pure x) q_R):ExP W C Γ n (.For tgt iter body [] pos::b) P :=
 fW (λl'=>l'=l) f u (λw Us Γ=>∃c,l=c++Us/\c.any a=false/\K c Γ) (hit.eq λTs e=>⟨l,rfl,e⟩) k (λw e=>⟨[],e▸rfl,rfl,v⟩) (λl' e q x Us i Γ=>jK λc d j hK=>by
  have s:x∈l:=fR d
  refine lH (p c x Us d Γ hK) λo g=>?_
  have m:∀Γ',a x=false/\K (c++[x]) Γ'->∃c,l=c++Us/\c.any a=false/\K c Γ':=λΓ' h=>⟨c++[x],by rw[d,iu];rfl,by rw[kU,j];simp[h.1],h.2⟩
  cases o with
  | next Γ'=>exact m Γ' g
  | cont Γ'=>exact m Γ' g
  | ret Γ' T=>exact t (cn.mpr ⟨x,s,g.1⟩) Γ' T g.2
  | _=>exact g.elim) (λl' e Γ=>jK λc i j hK=>by rw[c0] at i;exact r (i▸j) Γ (i▸hK)) hs
theorem f9{ι:Type}(l:List ι)(f:ι->Ty)(u:ι->Kn->Kn)(a:ι->Bool)(K:Kn->Prop)(R:Ty){tgt iter:Expr}{body:List Stmt}{pos:Pos}(hit:ItP W C Γ n tgt iter (λTs=>Ts=l.map f))(c:∀x,j1 W C n tgt (f x) (u x))(i:K Γ)(d:∀x∈l,∀Γ,K Γ->ExP W C (u x Γ) n body (λo=>match o with | .next Γ'=>a x=false/\K Γ' | .cont Γ'=>a x=false/\K Γ' | .ret _ T=>a x=true/\T.le R | _=>False))(h:l.any a=true->∀Γ' T,T.le R->P (.ret Γ' T))(g:l.any a=false->∀Γ,K Γ->ExP W C Γ n b P)(hs:autoParam (∀env x,foldedSetIterable iter env x=pure x) q_R):ExP W C Γ n (.For tgt iter body [] pos::b) P :=
 rB l f u a (λj=>K) R hit c i (λj x Us e Γ hK=>d x (fR e) Γ hK) h g hs
theorem rC{r:Nat}{c:List Nat}(d:N<=4)(b:r<=4)(h:c∈du N r):aS (List.range N) c=c/\uni [] c=c/\c.length=r/\∀i∈c,i<N:=by
 have a:((List.range 5).all λN=>(List.range 5).all λr=>(du N r).all λc=>aS (List.range N) c==c&&uni [] c==c)=true:=by decide +kernel
 have h':=bd.mp (bd.mp (bd.mp a N (aI.mpr (oB ‹_›))) r (aI.mpr (aX b 1))) c h
 rw[bg,aL,aL] at h'
 exact⟨h'.1,h'.2,(n6 d b).2 c h⟩
def ms(bs:List (List Nat))(l2 c:List Nat):Bool:=tP bs c l2
theorem gD:fc W "combinations" 176:=by kernel_rfl
theorem xg:fc W "dominate" 198:=by kernel_rfl
abbrev cPa:Cx:=⟨(fT 22).2.2,[S "profile",S "committee",S "other_committee",S "detailed_information"],[],none⟩
theorem Fn(c:Case m bs ks)(j:jV W):aM W (n+9) (.ref 399) [tPf W m bs,tC W ks] [] (bH [aG (!(du m ks.length).any (ms bs ks)),dk]) :=
 rX (n:=n+8) (fT 22) cPa [none,none] (λenv=>by
  refine f9 (ι:=List Nat) (du m ks.length) (λc=>bH ((aS (List.range m) c).map ag)) (λc Γ=>Γ.set 2 (bH ((aS (List.range m) c).map ag))) (ms bs ks) (λΓ=>∃w,Γ=⟨[some (tPf W m bs),some (tC W ks),w,none],[]⟩) (bH [aG false,dk])
   ((xf (n:=n+4) (l:=List.range m) (r:=ks.length) (by simp;exact c.m4) c.k4 (gl _ gD) (ar2 (dq (nm 0) dS (by kernel_rfl) (λq=>rfl)) (ao (bl cu) kb (ar1 (nm 1)) au (bD bM)))).eq λTs e=>by rw[e,dc]) (λc=>aZ 2) ⟨_,rfl⟩ ?_ ?_ ?_
  ·rintro g b Γ ⟨w,rfl⟩
   obtain⟨p,d,o,f⟩:=rC c.m4 c.k4 b
   have hd:=vt (W:=W.at (env::W.frs)) (n:=n+1) (m:=m) (bs:=bs) (ks:=g) (l2:=ks) (λk h=>aA (f k h) c.m4) (by rw[d]) (by rw[o];exact bp c.k4 (by decide)) (λk h=>aA (c.km k h) c.m4) c.ku (j _ (.head _))
   rw[d] at hd
   rw[p]
   exact dF (jO (ao (gl _ xg) kf (ar3 (nm 0) (nm 2) (nm 1)) au hd)) (λa=>bo (T:=dk) 3 (i5 (b7 (nm 2) gR)) (bB (cg (ar2 bO (nm 3))) ⟨a,Ty.le_refl _⟩)) λa=>aN ⟨a,_,rfl⟩
  ·intro h Γ' T i
   exact h▸(i)
  ·rintro h Γ ⟨w,rfl⟩
   exact h▸(bo (T:=dk) 3 i4 (bB (cg (ar2 bO (nm 3))) (Ty.le_refl _))))
structure cU(m:Nat)(bs:List (List Nat))(ks:List Nat):Prop extends Case m bs ks where
 N:0<bs.length/\bs.length<=3
 k:0<ks.length/\ks.length<=3
noncomputable def ii(l2:List Nat)(e:Nat)(a:List (Nat×List Nat)):List Nat:=(a.filter λp=>decide ((aQ p.2 l2).length<e)).map (·.1)
noncomputable def low(bs:List (List Nat))(l2:List Nat)(e:Nat):List Nat:=ii l2 e (cT 0 bs)
noncomputable def gsz(N k e:Nat):Nat:=(e*N+k-1) / k
noncomputable def lx(bs:List (List Nat))(g:List Nat):List Nat:=rh (g.map λv=>bs.getD v [])
noncomputable def i7(bs:List (List Nat))(l2:List Nat)(e:Nat):Bool:=decide (gsz bs.length l2.length e<=(low bs l2 e).length)&&(du (low bs l2 e).length (gsz bs.length l2.length e)).any λc=>decide (e<=(lx bs (aS (low bs l2 e) c)).length)
theorem iG(bs:List (List Nat)):∀(i:Nat),(cT i bs).length=bs.length:=by
 induction bs with
 | nil =>
  intro a
  exact rfl
 | cons _ ks ih =>
  intro i
  rw[kh,hG,ih,hG]
theorem yu{e:Nat}:(low bs l2 e).length<=bs.length:=by
 rw[low,ii,a0,← iG bs 0];exact gj _ _
theorem Bw{e:Nat}:∀v∈low bs l2 e,v<bs.length:=λv a=>by
 obtain⟨p,b,rfl⟩:=a9.mp a
 have:=i6 bs 0 p (bk.mp b).1
 exact ae this (aH (b9 _))
theorem rD{c:List Nat}(h:∀i∈c,i<l.length):∀v∈aS l c,v∈l:=λv b=>by
 obtain⟨i,a,rfl⟩:=a9.mp b
 refine(eS) ▸ ?_;refine(dz (h i a)) ▸ ?_;exact kW _
theorem kj{e:Nat}{a:List (Nat×List Nat)}{p:Nat×List Nat}:ii l2 e (a++[p])=if(aQ p.2 l2).length<e then ii l2 e a++[p.1] else ii l2 e a:=by
 rw[ii,m6,bW]
 split
 ·rename_i h;rw[show[p].filter (λp=>decide ((aQ p.2 l2).length<e))=[p] from List.filter_cons_of_pos (c8 h)];rfl
 ·rename_i h;rw[show[p].filter (λp=>decide ((aQ p.2 l2).length<e))=[] from List.filter_cons_of_neg (by simpa using h)];exact c0 _
theorem mu{v:Str}{b:Expr}{a p1 p2 p3:Pos}{k:List Nat}(K:SetOps W c)(A:qX W (.ref 57) c)(e:C.scope.names.lookup (S "len")=some .globalImplicit)(f:EvP W C Γ n (.Name v a) (b0 W k))(d:EvP W C Γ n b (fy c (ld W) l2)):
  EvP W C Γ n (.Call (.Name (S "len") p1) [.BinOp (.Attribute (.Name v a) (S "approved") p2) .BitAnd b p3] [] p4) (ag (aQ k l2).length) :=
 ao (bl cu e (by kernel_rfl)) kb (ar1 (gO bM K A (ie f) d) (λg=>rfl)) au (bD bS)
noncomputable abbrev cEj:Cx:=⟨(fT 23).2.2,[S "profile",S "committee",S "quota",S "ell_upper_bound",S "ell",S "voters_less_than_ell_approved_candidates",S "voters_less_than_ell_approved_candidates_weight",S "min_group_size",S "i",S "voter",S "combination",S "cut",S "detailed_information"],[S "profile"],some (.ref 405)⟩
noncomputable abbrev ejK(W:Wc)(m:Nat)(bs:List (List Nat))(ks:List Nat)(r:List (Option Ty))(h:List (Addr×OTy)):Kn:=⟨[some (tPf W m bs),some (tC W ks),some (tQu bs.length ks.length),some (ag ks.length)]++r,h⟩
theorem De(c:cU m bs ks)(K:jV W):ExP W cEj ⟨[some (tPf W m bs),some (tC W ks),some (tQu bs.length ks.length),none,none,none,none,none,none,none,none,none,none],[]⟩ (n+11) (fT 23).2.1
  (jr (bH [aG (!(List.range ks.length).any λj=>i7 bs ks (1+j)),dk])):=by
 have r:bs.length<100:=bp c.N.2 (by decide)
 refine bo (T:=ag ks.length) 3 (vI (n:=n+7) c.N c.k (by kernel_rfl) (ar2 (e5 (nm 0) (by kernel_rfl) rfl (by kernel_rfl) dl au (gA (n:=n+7) r (K _ (.tail _ (.head _))))) (nm 2))) ?_
 refine f9 (ι:=Nat) (List.range ks.length) (λj=>ag (1+j)) (λj Γ=>Γ.set 4 (ag (1+j))) (λj=>i7 bs ks (1+j)) (λΓ=>Sub Γ (ejK W m bs ks [none,none,none,none,none,none,none,none,none] [])) (bH [aG false,dk])
  ((di (a:=1) (b:=ks.length+1) (ao (bl d7) kt (ar2 aJ (eK (b:=1) (nm 3) aJ)) au iD) (by decide) (by have:=c.k.2;exact oC (aX this 2))).itp) (λj=>aZ 4) ⟨rfl,rfl⟩ ?_ ?_ ?_
 ·intro j D Γ hs
  have D:=aI.mp D
  have y:1+j<=3:=by have:=c.k.2;exact oN D this
  refine cF (hs.set 4 _) ?_
  refine kg (Q:=cq []) 5 (pK dl) λL=>?_
  refine bo (T:=bh ((([]:List Nat).length:Nat):Int)) 6 aJ ?_
  refine bo (T:=ag (gsz bs.length ks.length (1+j))) 7 (Ep (n:=n+4) c.N c.k y (by kernel_rfl) (nm 4) (nm 2)) ?_
  refine fW (ι:=Nat×List Nat) (λl=>l=cT 0 bs) (tEn W) (λk Γ=>(Γ.set 8 (ag k.1)).set 9 (b0 W k.2)) (λG Us Γ=>∃E,cT 0 bs=E++Us/\Sub Γ (ejK W m bs ks [some (ag (1+j)),some (aE (.ref L)),some (bh (((ii ks (1+j) E).length:Nat):Int)),some (ag (gsz bs.length ks.length (1+j))),none,none,none,none,none] [(L,cq ((ii ks (1+j) E).map ag))])) (oX (n:=n+7) (by kernel_rfl) (nm 0)).itp (λk=>k9 8 9) (λG e=>⟨[],e▸rfl,rfl,rfl⟩) ?_ ?_ (λG G=>rfl)
  ·rintro l rfl A k w H Γ ⟨d,f,hs⟩
   refine cF ((hs.set 8 _).set 9 _) ?_
   refine dF (cp (mu bM fY (by kernel_rfl) (nm 9) (nm 1)) (nm 4) ia) (λh=>?_) λh=>aN ⟨d++[k],dA f,?_⟩
   ·have h:(aQ k.2 ks).length<1+j:=by have:=ci h;exact bV.mp this
    have hz:(ii ks (1+j) d).length<=3:=by
     have O:(ii ks (1+j) d).length<=d.length:=by rw[ii,a0];exact gj _ _
     have J:d.length<=(cT 0 bs).length:=by rw[f,dU];exact aW _ _
     rw[iG] at J
     have:=c.N.2;exact ae O (ae J this)
    refine oO (T:=ag k.1) 5 0 (nm 8) (jT (q:=((1:Nat):Int)) 6 (dq (nm 9) (bt _ dS) (by kernel_rfl) (λG=>rfl)) (aN (aN ⟨d++[k],dA f,?_⟩))) rfl (qh (by rw[a0];exact ae hz (by decide)))
    rw[kj,bI h,bW,dU,mK];exact⟨rfl,rfl⟩
   ·have h:¬(aQ k.2 ks).length<1+j:=by have:=iS h;exact aw.mpr (aw.mp λz=>this (bV.mpr z))
    rw[kj,bj h];exact⟨rfl,rfl⟩
  ·rintro l rfl Γ ⟨d,f,hs⟩
   refine cF hs ?_
   have f:cT 0 bs=d:=by simpa using f
   subst f
   have i:(low bs ks (1+j)).length<=3:=ae yu c.N.2
   refine f7 (T:=aD (low bs ks (1+j))) 0 5 lO ?_
   refine dF (cp (nm 6) (nm 7) ia) (λh=>?_) λh=>?_
   ·have h:(low bs ks (1+j)).length<gsz bs.length ks.length (1+j):=by have:=ci h;rw[← low] at this;exact bV.mp this
    exact bT (pE ⟨by rw[i7,eR (kT.mpr h),m9],rfl,rfl⟩)
   ·have h:gsz bs.length ks.length (1+j)<=(low bs ks (1+j)).length:=by have:=iS h;rw[← low] at this;exact aw.mp λz=>this (bV.mpr z)
    have u:0<gsz bs.length ks.length (1+j):=by
     have:=c.N.1;have:=c.k.1
     refine Nat.div_pos ?_ c.k.1
     have:bs.length<=(1+j)*bs.length:=Nat.le_mul_of_pos_left _ (hW _ gm)
     exact ng (qi (jG (hW _ gm) c.N.1))
    have p:i7 bs ks (1+j)=(du (low bs ks (1+j)).length (gsz bs.length ks.length (1+j))).any λc=>decide (1+j<=(lx bs (aS (low bs ks (1+j)) c)).length):=by rw[i7,c8 h,kX]
    refine f9 (ι:=List Nat) (du (low bs ks (1+j)).length (gsz bs.length ks.length (1+j))) (λg=>bH ((aS (low bs ks (1+j)) g).map ag)) (λg Γ=>Γ.set 10 (bH ((aS (low bs ks (1+j)) g).map ag))) (λg=>decide (1+j<=(lx bs (aS (low bs ks (1+j)) g)).length))
     (λΓ=>Sub Γ (ejK W m bs ks [some (ag (1+j)),some (aD (low bs ks (1+j))),some (bh (((low bs ks (1+j)).length:Nat):Int)),some (ag (gsz bs.length ks.length (1+j))),none,none,none,none,none] [])) (bH [aG false,dk])
     (xf (n:=n+7) (oC ‹_›) (ae h (oC i)) (gl _ gD) (ar2 (nm 5) (nm 7))) (λG=>aZ 10) ⟨rfl,rfl⟩ ?_ ?_ ?_
    ·intro g M Γ hs
     refine cF (hs.set 10 _) ?_
     obtain⟨x,F⟩:=(n6 (ae i (by decide)) (ae h (ae i (by decide)))).2 g M
     have B:∀v∈aS (low bs ks (1+j)) g,v<bs.length:=λv s=>Bw v (rD F v s)
     have o:(aS (low bs ks (1+j)) g).length=gsz bs.length ks.length (1+j):=by rw[aS,a0,x]
     refine bo (T:=tS W (lx bs (aS (low bs ks (1+j)) g))) 11 (u9 (n:=n+9) (n':=n+9) (c:=.ref 57) (Ψ:=λI=>I=(aS (low bs ks (1+j)) g).map λv=>bs.getD v []) ka (aB _) (bl ln) (iq.le (iq.eq (wS (n:=n+7) (ι:=Nat) (P:=401) (c:=405) [S "vi",S "profile"] [none,some (tPf W m bs)] (λl=>l=aS (low bs ks (1+j)) g) ag (λv=>tC W (bs.getD v [])) (λG=>true) (λv Γ=>Γ.set 0 (ag v)) rfl (K _ (by decide)) (eV (nm 10) (jk.its.eq λTs e=>⟨_,rfl,e⟩)) (λl' k=>aZ 0) (λk=>bx rfl) (λG G G G G=>fa) ?_ ⟨⟨0,rfl,rfl⟩,trivial⟩) ?_) (aW (n+7) 4)) ?_) ?_
     ·rintro l rfl l' v s G
      have s:=B v s
      exact ie (nY (n:=n+5) (nm 1) (nm 0) (by refine(eS) ▸ ?_;refine(dz s) ▸ ?_;rfl) (oA (aA s c.N.2)))
     ·rintro Ts ⟨l,rfl,rfl⟩
      exact⟨_,rfl,by rw[gQ,cP];rfl⟩
     ·rintro I rfl
      exact⟨λe=>by rw[List.map_eq_nil_iff] at e;rw[e] at o;simp at o;exact aw.mpr (aH o.symm) u,by rw[a0,o];exact ae h i,rfl⟩
     ·exact dF (TsP.eq (cp (ao (bl cu) kb (ar1 (nm 11)) au (bD bS)) (nm 4) k6) (by rw[fF];exact cY)) (λt=>bo (T:=dk) 12 (i5 (b7 (nm 5) (b7 (nm 4) (b7 (nm 11) gR)))) (bB (cg (ar2 bO (nm 12))) ⟨t,Ty.le_refl _⟩)) λt=>aN ⟨t,rfl,rfl⟩
    ·exact λh Γ' T C=>⟨p.trans h,C⟩
    ·intro h Γ hs
     exact cF hs (aN ⟨p.trans h,rfl,rfl⟩)
 ·intro h Γ' T C
  exact h▸(C)
 ·intro h Γ hs
  refine cF hs ?_
  exact h▸(bo (T:=dk) 12 i4 (bB (cg (ar2 bO (nm 12))) (Ty.le_refl _)))
theorem Fo(c:cU m bs ks)(a:jV W):aM W (n+12) (.ref 406) [tPf W m bs,tC W ks,tQu bs.length ks.length] [] (bH [aG (!(List.range ks.length).any λj=>i7 bs ks (1+j)),dk]) :=
 s7 (fT 23) cEj [none,none,none,none,none,none,none,none,none,none] λenv=>De (W:=W.at (env::W.frs)) c a
def kl(bs:List (List Nat))(l2:List Nat)(e:Nat)(g:List Nat):Bool:=decide (e<=(lx bs g).length)&&decide ((aQ (cI (g.map λv=>bs.getD v [])) l2).length<e)
def i8(bs:List (List Nat))(l2:List Nat)(e:Nat):Bool:=decide (gsz bs.length l2.length e<=(low bs l2 e).length)&&(du (low bs l2 e).length (gsz bs.length l2.length e)).any λc=>kl bs l2 e (aS (low bs l2 e) c)
abbrev cPj:Cx:=⟨(fT 24).2.2,[S "profile",S "committee",S "quota",S "ell_upper_bound",S "ell",S "voters_less_than_ell_approved_candidates",S "voters_less_than_ell_approved_candidates_weight",S "min_group_size",S "vi",S "voter",S "group",S "cut",S "approved_cands_union",S "j",S "detailed_information"],[S "profile"],some (.ref 412)⟩
theorem Df(c:cU m bs ks)(O:jV W):ExP W cPj ⟨[some (tPf W m bs),some (tC W ks),some (tQu bs.length ks.length),none,none,none,none,none,none,none,none,none,none,none,none],[]⟩ (n+11) (fT 24).2.1
  (jr (bH [aG (!(List.range ks.length).any λj=>i8 bs ks (1+j)),dk])):=by
 have w:bs.length<100:=bp c.N.2 (by decide)
 refine bo (T:=ag ks.length) 3 (vI (n:=n+7) c.N c.k (by kernel_rfl) (ar2 (e5 (nm 0) (by kernel_rfl) rfl (by kernel_rfl) dl au (gA (n:=n+7) w (O _ (.tail _ (.head _))))) (nm 2))) ?_
 refine f9 (ι:=Nat) (List.range ks.length) (λj=>ag (1+j)) (λj Γ=>Γ.set 4 (ag (1+j))) (λj=>i8 bs ks (1+j)) (λΓ=>Sub Γ (ejK W m bs ks [none,none,none,none,none,none,none,none,none,none,none] [])) (bH [aG false,dk])
  ((di (a:=1) (b:=ks.length+1) (ao (bl d7) kt (ar2 aJ (eK (b:=1) (nm 3) aJ)) au iD) (by decide) (by have:=c.k.2;exact oC (aX this 2))).itp) (λj=>aZ 4) ⟨rfl,rfl⟩ ?_ ?_ ?_
 ·intro j H Γ hs
  have H:=aI.mp H
  have E:1+j<=3:=by have:=c.k.2;exact oN H this
  refine cF (hs.set 4 _) ?_
  refine kg (Q:=cq []) 5 (pK dl) λL=>?_
  refine bo (T:=bh ((([]:List Nat).length:Nat):Int)) 6 aJ ?_
  refine bo (T:=ag (gsz bs.length ks.length (1+j))) 7 (Ep (n:=n+4) c.N c.k E (by kernel_rfl) (nm 4) (nm 2)) ?_
  refine fW (ι:=Nat×List Nat) (λl=>l=cT 0 bs) (tEn W) (λk Γ=>(Γ.set 8 (ag k.1)).set 9 (b0 W k.2)) (λG Us Γ=>∃i,cT 0 bs=i++Us/\Sub Γ (ejK W m bs ks [some (ag (1+j)),some (aE (.ref L)),some (bh (((ii ks (1+j) i).length:Nat):Int)),some (ag (gsz bs.length ks.length (1+j))),none,none,none,none,none,none,none] [(L,cq ((ii ks (1+j) i).map ag))])) (oX (n:=n+7) (by kernel_rfl) (nm 0)).itp (λk=>k9 8 9) (λG e=>⟨[],e▸rfl,rfl,rfl⟩) ?_ ?_ (λG G=>rfl)
  ·rintro l rfl u k C x Γ ⟨f,d,hs⟩
   refine cF ((hs.set 8 _).set 9 _) ?_
   refine dF (cp (mu bM fY (by kernel_rfl) (nm 9) (nm 1)) (nm 4) ia) (λh=>?_) λh=>aN ⟨f++[k],dA d,?_⟩
   ·have h:(aQ k.2 ks).length<1+j:=by have:=ci h;exact bV.mp this
    have hz:(ii ks (1+j) f).length<=3:=by
     have U:(ii ks (1+j) f).length<=f.length:=by rw[ii,a0];exact gj _ _
     have M:f.length<=(cT 0 bs).length:=by rw[d,dU];exact aW _ _
     rw[iG] at M
     have:=c.N.2;exact ae U (ae M this)
    refine oO (T:=ag k.1) 5 0 (nm 8) (jT (q:=((1:Nat):Int)) 6 (dq (nm 9) (bt _ dS) (by kernel_rfl) (λG=>rfl)) (aN (aN ⟨f++[k],dA d,?_⟩))) rfl (qh (by rw[a0];exact ae hz (by decide)))
    rw[kj,bI h,bW,dU,mK];exact⟨rfl,rfl⟩
   ·have h:¬(aQ k.2 ks).length<1+j:=by have:=iS h;exact aw.mpr (aw.mp λz=>this (bV.mpr z))
    rw[kj,bj h];exact⟨rfl,rfl⟩
  ·rintro l rfl Γ ⟨f,d,hs⟩
   refine cF hs ?_
   have d:cT 0 bs=f:=by simpa using d
   subst d
   have p:(low bs ks (1+j)).length<=3:=ae yu c.N.2
   refine f7 (T:=aD (low bs ks (1+j))) 0 5 lO ?_
   refine dF (cp (nm 6) (nm 7) ia) (λh=>?_) λh=>?_
   ·have h:(low bs ks (1+j)).length<gsz bs.length ks.length (1+j):=by have:=ci h;rw[← low] at this;exact bV.mp this
    exact bT (pE ⟨by rw[i8,eR (kT.mpr h),m9],rfl,rfl⟩)
   ·have h:gsz bs.length ks.length (1+j)<=(low bs ks (1+j)).length:=by have:=iS h;rw[← low] at this;exact aw.mp λz=>this (bV.mpr z)
    have B:0<gsz bs.length ks.length (1+j):=by
     have:=c.N.1;have:=c.k.1
     refine Nat.div_pos ?_ c.k.1
     have:bs.length<=(1+j)*bs.length:=Nat.le_mul_of_pos_left _ (hW _ gm)
     exact ng (qi (jG (hW _ gm) c.N.1))
    have t:i8 bs ks (1+j)=(du (low bs ks (1+j)).length (gsz bs.length ks.length (1+j))).any λc=>kl bs ks (1+j) (aS (low bs ks (1+j)) c):=by rw[i8,c8 h,kX]
    refine f9 (ι:=List Nat) (du (low bs ks (1+j)).length (gsz bs.length ks.length (1+j))) (λg=>bH ((aS (low bs ks (1+j)) g).map ag)) (λg Γ=>Γ.set 10 (bH ((aS (low bs ks (1+j)) g).map ag))) (λg=>kl bs ks (1+j) (aS (low bs ks (1+j)) g))
     (λΓ=>Sub Γ (ejK W m bs ks [some (ag (1+j)),some (aD (low bs ks (1+j))),some (bh (((low bs ks (1+j)).length:Nat):Int)),some (ag (gsz bs.length ks.length (1+j))),none,none,none,none,none,none,none] [])) (bH [aG false,dk])
     (xf (n:=n+7) (oC ‹_›) (ae h (oC p)) (gl _ gD) (ar2 (nm 5) (nm 7))) (λG=>aZ 10) ⟨rfl,rfl⟩ ?_ ?_ ?_
    ·intro g R Γ hs
     refine cF (hs.set 10 _) ?_
     obtain⟨D,J⟩:=(n6 (ae p (by decide)) (ae h (ae p (by decide)))).2 g R
     have y:∀v∈aS (low bs ks (1+j)) g,v<bs.length:=λv r=>Bw v (rD J v r)
     have s:(aS (low bs ks (1+j)) g).length=gsz bs.length ks.length (1+j):=by rw[aS,a0,D]
     refine bo (T:=tS W (lx bs (aS (low bs ks (1+j)) g))) 11 (u9 (n:=n+9) (n':=n+9) (c:=.ref 57) (Ψ:=λK=>K=(aS (low bs ks (1+j)) g).map λv=>bs.getD v []) ka (aB _) (bl ln) (iq.le (iq.eq (wS (n:=n+7) (ι:=Nat) (P:=408) (c:=412) [S "j",S "profile"] [none,some (tPf W m bs)] (λl=>l=aS (low bs ks (1+j)) g) ag (λv=>tC W (bs.getD v [])) (λG=>true) (λv Γ=>Γ.set 0 (ag v)) rfl (O _ (by decide)) (eV (nm 10) (jk.its.eq λTs e=>⟨_,rfl,e⟩)) (λl' k=>aZ 0) (λk=>bx rfl) (λG G G G G=>fa) ?_ ⟨⟨0,rfl,rfl⟩,trivial⟩) ?_) (aW (n+7) 4)) ?_) ?_
     ·rintro l rfl l' v r G
      have r:=y v r
      exact ie (nY (n:=n+5) (nm 1) (nm 0) (by refine(eS) ▸ ?_;refine(dz r) ▸ ?_;rfl) (oA (aA r c.N.2)))
     ·rintro Ts ⟨l,rfl,rfl⟩
      exact⟨_,rfl,by rw[gQ,cP];rfl⟩
     ·rintro K rfl
      exact⟨λe=>by rw[List.map_eq_nil_iff] at e;rw[e] at s;simp at s;exact aw.mpr (aH s.symm) B,by rw[a0,s];exact ae h p,rfl⟩
     ·refine dF (TsP.eq (q:=decide (1+j<=(lx bs (aS (low bs ks (1+j)) g)).length)) (cp (ao (bl cu) kb (ar1 (nm 11)) au (bD bS)) (nm 4) k6) (by rw[fF];exact cY)) (λI=>?_) λI=>aN ⟨by rw[kl,I,m9],rfl,rfl⟩
      refine bo (T:=tS W (cI ([]:List (List Nat)))) 12 ((lR (bl ln)).evp λV L o h X=>wJ V o h X) ?_
      refine fW (ι:=Nat) (λl=>l=aS (low bs ks (1+j)) g) ag (λv Γ=>Γ.set 13 (ag v)) (λG Us Γ=>∃i,aS (low bs ks (1+j)) g=i++Us/\Sub Γ (ejK W m bs ks [some (ag (1+j)),some (aD (low bs ks (1+j))),some (bh (((low bs ks (1+j)).length:Nat):Int)),some (ag (gsz bs.length ks.length (1+j))),none,none,some (bH ((aS (low bs ks (1+j)) g).map ag)),some (tS W (lx bs (aS (low bs ks (1+j)) g))),some (tS W (cI (i.map λv=>bs.getD v []))),none,none] []))
       (eV (nm 10) (jk.its.eq λTs e=>⟨_,rfl,e⟩)).itp (λk=>aZ 13) (λG e=>⟨[],e▸rfl,rfl,rfl⟩) ?_ ?_ (λG G=>rfl)
      ·rintro l rfl u v Us x Γ ⟨i,d,hs⟩
       refine cF (hs.set 13 _) ?_
       have r:=y v (fR d)
       refine bo (T:=tS W (uni (cI (i.map λv=>bs.getD v [])) (bs.getD v []))) 12 (AT ka (nm 12) (ie (nY (n:=n+9) (nm 0) (nm 13) (by rw[eS,dz r];rfl) (ae r (oC c.b4))))) (aN ⟨i++[v],dA d,?_⟩)
       rw[bW,cz,m7,lr];exact⟨rfl,rfl⟩
      ·rintro l rfl Γ ⟨i,d,hs⟩
       refine cF hs ?_
       have d:aS (low bs ks (1+j)) g=i:=by simpa using d
       exact d▸(dF (TsP.eq (q:=decide ((aQ (cI ((aS (low bs ks (1+j)) g).map λv=>bs.getD v [])) ks).length<1+j)) (cp (ao (bl cu) kb (ar1 (gO bS bM ER (nm 12) (nm 1))) au (bD bS)) (nm 4) ia) (by rw[fF];exact cY)) (λA=>bo (T:=dk) 14 (i5 (b7 (nm 5) (b7 (nm 4) (b7 (nm 11) gR)))) (bB (cg (ar2 bO (nm 14))) ⟨by rw[kl,I,A];rfl,Ty.le_refl _⟩)) λA=>aN (aN ⟨by rw[kl,A,e8],rfl,rfl⟩))
    ·exact λh Γ' T F=>⟨t.trans h,F⟩
    ·intro h Γ hs
     exact cF hs (aN ⟨t.trans h,rfl,rfl⟩)
 ·intro h Γ' T F
  exact h▸(F)
 ·intro h Γ hs
  refine cF hs ?_
  exact h▸(bo (T:=dk) 14 i4 (bB (cg (ar2 bO (nm 14))) (Ty.le_refl _)))
theorem Fq(c:cU m bs ks)(a:jV W):aM W (n+12) (.ref 413) [tPf W m bs,tC W ks,tQu bs.length ks.length] [] (bH [aG (!(List.range ks.length).any λj=>i8 bs ks (1+j)),dk]) :=
 s7 (fT 24) cPj [none,none,none,none,none,none,none,none,none,none,none,none] λenv=>Df (W:=W.at (env::W.frs)) c a
noncomputable def fS(W:Wc)(o:Obj)(kvs:List (Int×Value)):Prop:=o.ExactDict/\∃es a,o.data = .dict es a/\PySem.KeysOf (intKind prg W.w) es/\Pairs (intKind prg W.w) es.toList kvs/\(kvs.map (·.1)).Nodup
theorem fS.at(x:fS W o kvs)(b:h.get? a=some o):h.DictOf (intKind prg W.w) a kvs:=x.2.elim λes w=>w.elim λc r=>⟨o,es,c,b,x.1,r⟩
theorem fS.of(x:h.DictOf (intKind prg W.w) a kvs):∃o,h.get? a=some o/\fS W o kvs:=F7 x λo es c b e r=>⟨o,b,e,es,c,r⟩
theorem fS.nt(x:fS W o kvs):nt o=true:=x.2.elim λa w=>w.elim λa w=>xC w.1 x.1.1
noncomputable abbrev n8(kts:List (Nat×Ty)):List Int:=kts.map λp=>(p.1:Int)
noncomputable def kC(W:Wc)(kts:List (Nat×Ty)):OTy:=⟨λV o=>∃kvs,fS W o kvs/\kvs.map (·.1)=n8 kts/\ay V (kts.map (·.2)) (kvs.map (·.2)),fun {V V' o} h=>jK λkvs a b c=>⟨kvs,a,b,ay.mono (Ts:=kts.map (·.2)) (vs:=kvs.map (·.2)) h c⟩⟩
noncomputable def rE(W:Wc)(kts:List (Nat×Ty)):Ty:=⟨λV v=>∃a o,v = .ref a/\V a=some o/\(kC W kts).p V o,λh=>zZ λa o e x y=>⟨a,o,e,h _ _ x (xA y λb p b=>p.nt),(kC W kts).mono h y⟩⟩
theorem n9{kts:List (Nat×Ty)}:∀{kvs:List (Int×Value)},kvs.map (·.1)=n8 kts->ay V (kts.map (·.2)) (kvs.map (·.2))->kts.lookup k=some T->∃v,valueAt kvs (k:Int)=some v/\T.p V v:=by
 induction kts with
 | nil=>exact λn n h=>nS h
 | cons p kts ih =>
  obtain⟨j,U⟩:=p
  intro kvs e a h
  cases kvs with
  | nil=>cases e
  | cons q kvs =>
  obtain⟨i,w⟩:=q
  refine ck (g6 e) λc f=>?_
  have c:i=(j:Int):=c
  subst c
  rw[iy] at h
  by_cases d:k=j
  ·subst d
   rw[jz] at h
   cases h
   exact⟨w,aY (Option.map Prod.snd) (List.find?_cons_of_pos (p:=λkv:Int×Value=>decide (kv.1=(k:Int))) (a:=((k:Int),w)) (l:=kvs) (c8 rfl)),a.1⟩
  ·rw[ey.mpr d] at h
   refine bc (ih f a.2 h) λv m g=>?_
   exact⟨v,Eq.trans (b:=valueAt kvs k) (aY (Option.map Prod.snd) (List.find?_cons_of_neg (p:=λkv:Int×Value=>decide (kv.1=(k:Int))) (a:=((j:Int),w)) (l:=kvs) λe=>d (mS (ci e)).symm)) m,g⟩
theorem vJ{kts:List (Nat×Ty)}(e:kvs.map (·.1)=n8 kts)(h:kts.lookup k=none):valueAt kvs (k:Int)=none:=by
 rw[valueAt,Option.map_eq_none_iff,List.find?_eq_none]
 intro p c a
 have a:p.1=(k:Int):=by simpa using a
 have:(k:Int)∈n8 kts:=by rw[← e,← a];exact cj (f:=(·.1)) c
 refine bc (a9.mp this) λq d b=>?_
 rw[List.lookup_eq_none_iff] at h
 exact absurd (mS b).symm (kJ.mp (h q d))
theorem Dg:jS W C Γ n (.Dict [] [] pos) (kC W []):=λA env O M s d I=>by
 refine dn (bJ I.go { cls:=.type "dict",data:=.dict #[] } s.toks) λg' k c=>?_
 refine bc (fS.of (W:=W) (Heap.DictOf.new (knd:=intKind prg W.w) s.heap)) λo b a=>?_
 exact wpAny_Dict_empty ⟨s.heap.objs.size,o,rfl,g',k,aB _,b,a.nt,[],a,rfl,trivial⟩
theorem Bx{kts:List (Nat×Ty)}:∀V o,V L=some o->(kC W kts).p V o->(rE W kts).p V (.ref L):=λV o h p=>⟨L,o,rfl,h,p⟩
theorem Dh(P:Params):(KK P).lookup 1=some (o1 P):=by kernel_rfl
theorem Di(P:Params):∃x t v h r a,(o1 P).data = .dict (⟨h,.str x t,v⟩::r).toArray a:=⟨_,_,_,_,_,_,rfl⟩
theorem vK(g:G W s)(f:s.heap.get? a=some o)(i:fS W o kvs):(a==sysModules)=false:=by
 refine ey.mpr λe=>?_
 have d:s.heap.get? 1=some (o1 W.w.params):=g.kin 1 _ (Dh _)
 rw[show a=1 from e,d] at f
 cases f
 refine Hd (Di W.w.params) λx t v h r k hd=>?_
 obtain⟨l,es,j,b,l,c,l⟩:=i
 rw[hd] at b
 injection b with e1 _
 subst e1
 cases c with
 | cons d _ _=>cases d
theorem Dj{kts:List (Nat×Ty)}(r:∀X,kts.lookup k=some X->X.le U)(l:kts.lookup k=none->T.le U):aM W n (.builtin "dict.get") [rE W kts,ag k,T] [] U:=λA O s vs ks u g i hK=>by
 obtain⟨v,w,x,rfl,⟨a,o,rfl,d,kvs,f,c,h⟩,⟨t,rfl⟩,m⟩:=i.a3
 have p:=ay.nil_iff hK
 subst p
 have b:=f.at (af d)
 refine call_meetsIn PySem.F.slot_dict_get b.typeIs PySem.F.entry_dict_get (PySem.F.args_dict_get_3 _ _ _) (meets_dict_get_default (intKind prg W.w) a (eN _ _ _ _) ?_ x) ⟨_,b.mapOf,?_⟩
 ·exact vK g.g (af d) f
 ·refine⟨g.g.tok,aF.tok,?_⟩
  cases e:kts.lookup k with
  | some X =>
   obtain⟨v,j,q⟩:=n9 c h e
   exact j▸(r X e _ _ q)
  | none=>rw[vJ c e];exact l e _ _ m
theorem vL{kts:List (Nat×Ty)}(r:EvP W C Γ n value (rE W kts))(j:EvP W C Γ n slice (ag k))(q:kts.lookup k=some U)(hs:autoParam (∀o i,subscripted slice false o i=operate [o,i] (getItem o i)) q_R):EvP W C Γ n (.Subscript value slice pos) U:=λA env O M s h I=>by
 refine aa (ad (r A env O M s h I) (λo s₁ c=>aa (aP (ad (j A env O M s₁ h (c.then I)) (λi s₂ b=>aa (ct ?_)) az))) az)
 refine dK b.2.2 λt f=>?_
 obtain rfl:=f
 refine rU ((rE W kts).mono (b.2.1.vle0 _) c.2.2) λa ob e l d=>?_
 obtain rfl:=e
 refine fG d λkvs x w m=>?_
 refine bc (n9 w m q) λu p v=>?_
 have g:=x.at (af l)
 refine aa ?_
 refine aa (eM (name:=Str.ofString "__getitem__") g.typeIs slot_dict_getitem.lookup (ac ?_))
 rw[hs]
 refine aa (jA (wpAny_getItem_of (eN _ _ _ _) g.mapOf p (aa (mP (ac ?_)))))
 exact⟨b.1.tok,c.2.1.trans (b.2.1.trans aF.tok),v⟩
theorem tY{d:Addr}{k:Int}{t:Tok}{c:Value}(z:s.heap.DictOf (intKind prg W.w) d kvs)(J:∀v,valueAt kvs k=some v->Q v { s with toks:=s.toks+1 })(I:valueAt kvs k=none->∀h',h'.DictOf (intKind prg W.w) d (kvs++[(k,c)])->Heap.SameBut d s.heap h'->Q c { s with heap:=h',toks:=s.toks+1 })(hsz:kvs.length<=sizeLine):
  wpAny (model prg W.w) A (dictSetDefault d (.int k t) c) Q E s:=by
 have f:(intKind prg W.w).is k (.int k t)=true:=eN _ _ _ _
 refine Hb z λo es D m F hd y p H=>?_
 have q:es.size<=sizeLine:=by have C:=p.length;have B:es.toList.length=es.size:=(by simp);exact ae (aH B.symm) (ae (aH C) hsz)
 unfold dictSetDefault
 try with_reducible refine aP ?_
 refine aa ((intKind prg W.w).pyHash f ?_)
 refine aa (wpAny_dictFind_of (s:={ s with toks:=s.toks+1 }) f m hd y ?_)
 have hf:findBy (intKind prg W.w).is es k=valueAt kvs k:=by
  rw[← p.find k];obtain⟨l⟩:=es;simp[findBy]
 cases n:es.findIdx? λe=>(intKind prg W.w).is k e.key with
 | some i =>
  have g:valueAt kvs k=(es[i]?).map (·.val):=by rw[← hf,findBy_of_findIdx?,n]
  refine aa (wpAny_dictEntries (s:={ s with toks:=s.toks+1 }) m hd ?_)
  have r:i<es.size:=(Array.findIdx?_eq_some_iff_findIdx_eq.mp n).1
  rw[mB r] at g ⊢
  exact aa (da (ac (J _ g)))
 | none =>
  have g:valueAt kvs k=none:=by rw[← hf,findBy_of_findIdx?,n]
  have h:(es.findIdx? λe=>(intKind prg W.w).is k e.key)=kvs.findIdx? λkv=>decide (kv.1=k):=by
   rw[← p.findIdx k];obtain⟨l⟩:=es;simp
  have j:k∉kvs.map (·.1):=not_mem_of_findIdx_none (h▸n)
  refine aa (da (aa (wpAny_updateDictKeys (hz:=q) (hf:=by exact aH (Array.size_push _)) (s:={ s with toks:=s.toks+1 }) m hd (ac (I g _ ⟨_,_,D+1,et _ m (Obj.isFreed_of_dict (Obj.data_mapDictKeys hd _)),
   F.mapDictKeys _,Obj.data_mapDictKeys hd _,y.push f _,?_,?_⟩ (dH ..))))))
  ·have:=p.append f ((intKind prg W.w).hash k) c
   obtain⟨l⟩:=es
   simpa using this
  ·rw[bW,List.nodup_append]
   refine⟨H,by simp,λa u b x e=>?_⟩
   rw[cz,m7,ah] at x
   rw[e,x] at u;exact j u
inductive HH(N:Nat)(Q:OTy)(V:fH)(v:Value):Prop
 | mk (L:Addr) (o:Obj) (e:v = .ref L) (n:N<=L) (x:V L=some o) (y:nt o=true) (z:Q.p V o)
noncomputable def Ft(N:Nat)(Q:OTy):Ty:=⟨HH N Q,λh k=>by
 obtain⟨L,o,e,n,x,y,z⟩:=k
 exact⟨L,o,e,n,h _ _ x y,y,Q.mono h z⟩⟩
theorem G.base(g:G (W.from N) s)(h:W.base<=s.heap.objs.size):G W s:=⟨g.old,g.siz,g.bare,g.os,g.kin0,g.kin,g.glob0,g.glob,g.bui0,g.bui,g.boot,g.sta0,g.sta,g.lim,g.tab0,g.tab,g.frs,h⟩
theorem Inv.from(I:Inv W C env Γ O M s):Inv (W.from s.heap.objs.size) C env Γ O M s:=⟨I.g.from (aB _),I.ok,I.own,I.cel,I.up,I.upg,I.loc,I.cells,I.phi,I.nod,I.top⟩
theorem By{Q:OTy}(h:jS (W.from N) C Γ n e Q):EvP (W.from N) C Γ n e (Ft N Q):=λA env O M s i I=>ad (h A env O M s i I) (λv s' f=>f.rec λL o e g k b d c j =>
 ⟨g,k,L,o,e,ae I.g.bas b,aK d λm=>aw.mpr b (I.up L m).2,c,Q.mono (bG λa m=>aq _ m) j⟩) az
theorem Bz{q:Nat}{pl:Sem Bool}(Z:aU W A n)(I:Inv W C env Γ O M s)(H:Γ.h[q]? = some (L,oS W l))(V:EvP W C Γ n e (ag j))(X:j<4)(N:∀env,starEach [e] env=(false,eval e env)::starEach [] env):
  wpAny (model prg W.w) A (getMethod (.ref L) "add" pl) (λR s₁=>wpAny (model prg W.w) A (callWith p R.1 R.2 (backTo p (starEach [e] env)) (backToKw p (keywordEach [] env))) (λG s'=>ak M s s'/\Inv W C env (Γ.hset q L (oS W (ins j l))) O M s') Nev s₁) Nev s:=by
 obtain⟨G,G,G,G,E,r,G,i⟩:=I.phi L _ (be H)
 refine jE ⟨E,r,i.1⟩ m2 m3 F.type_set_add (lS r i) ?_
 refine ck (ar1 V N A env O M s p Z I) λQ U=>?_
 refine dO (P:=KeP W (.builtin "set.add")) (by rw[Q,dP];rfl) (λh p=>p) ?_
 refine bU (ns:=[]) Q rfl (ad U (λvs s₂ d=>ac ⟨⟨.machine,.inr (.inl rfl),cR rfl⟩,?_⟩) az)
 have c:=I.keep d.2.1 d.1
 obtain⟨v,rfl,t,rfl⟩:=d.2.2.a1
 obtain⟨q1,G,G,G,o,J,G,f⟩:=c.phi L _ (be H)
 refine eB m3 ⟨o,J,f.1⟩ F.entry_set_add ?_ (F.args_set_add_2 _ _)
 refine aa (m:=Builtin.Frozenset.addrOf _ >>= λx=>pure (x,Value.int (j:Int) t)) (ac (a:=(L,Value.int (j:Int) t)) ?_)
 refine(?_:wpAny _ _ (setAdd L (.int (j:Int) t) >>= _) _ _ _)
 refine aa (aP ?_)
 refine aa ((intKind prg W.w).pyHash (k:=(j:Int)) (eN _ _ _ _) ?_)
 refine nI (s:={ s₂ with toks:=s₂.toks+1 }) (o:=o) X f.2.2 J λbb h' d' u K y=>?_
 have D:ak ⟨[L],[]⟩ s₂ { s₂ with heap:=h',toks:=s₂.toks+1 }:=dp (λb o T e=>(u.2 b (λz=>T (ah.mpr z))).trans e) (λG G G e=>e) (aH u.1.symm) (aB _)
 refine ck (c.chg (Q':=oS W (ins j l)) H D (c.g.upd (c.up L (al _ q1)).1 u (.inl ⟨_,J,j9 f.2.2⟩)) K (lh y) ⟨f.1,f.2.1,y⟩) λY B=>?_
 exact ac ⟨_,rfl,(ak.ofK d.2.1).trans Y,B⟩
theorem Fu{X H Y p0 p1 p2:Pos}{Z ev:Expr}{kts:List (Nat×Ty)}{u v:Nat}(i k:Nat)(hk:Γ.h[k]? = some (D,kC W kts))(hi:C.names[i]? = some x)(hv:Γ.v[i]? = some (some (aE (.ref D))))(hz:kts.length<=100)(hu:∀N,EvP (W.from N) C Γ n Z (ag u))(f0:∀N,EvP (W.from N) C Γ n (.Name y X) (aE (.type "set")))(a7:∀h,EvP W C ⟨Γ.v,h⟩ n ev (ag v))(e3:v<4)(h1:∀T,kts.lookup u=some T->∃L q l,T=aE (.ref L)/\Γ.h[q]? = some (L,oS W l)/\ExP W C (Γ.hset q L (oS W (ins v l))) n b P)(h2:kts.lookup u=none->∀L,ExP W C ⟨Γ.v,(Γ.h.set k (D,kC W (kts++[(u,aE (.ref L))])))++[(L,oS W (ins v []))]⟩ n b P)(f8:autoParam (∀env,starEach [ev] env=(false,eval ev env)::starEach [] env) q_R)(h9:autoParam (∀env,starEach [Z,.Call (.Name y X) [] [] p0] env=(false,eval Z env)::starEach [.Call (.Name y X) [] [] p0] env) q_R)(h4:autoParam (∀env,∃pl,eval (.Call (.Attribute (.Name x xp) "setdefault" H) [Z,.Call (.Name y X) [] [] p0] [] p1) env=(do
   let ov ← eval (.Name x xp) env
   standAt H.atName
   let(f,first) ← holding [ov] (getMethod ov "setdefault" pl)
   callWith p1 f first (backTo p1 (starEach [Z,.Call (.Name y X) [] [] p0] env)) (backToKw p1 (keywordEach [] env)))) q_P)(h3:autoParam (∀env,∃pl,eval (.Call (.Attribute (.Call (.Attribute (.Name x xp) "setdefault" H) [Z,.Call (.Name y X) [] [] p0] [] p1) "add" Y) [ev] [] p2) env=(do
   let ov ← eval (.Call (.Attribute (.Name x xp) "setdefault" H) [Z,.Call (.Name y X) [] [] p0] [] p1) env
   standAt Y.atName
   let(f,first) ← holding [ov] (getMethod ov "add" pl)
   callWith p2 f first (backTo p2 (starEach [ev] env)) (backToKw p2 (keywordEach [] env)))) q_P)(i2:autoParam (∀env,swapsWith (.Call (.Attribute (.Call (.Attribute (.Name x xp) "setdefault" H) [Z,.Call (.Name y X) [] [] p0] [] p1) "add" Y) [ev] [] p2) none spos.line env=pure false) q_R):
  ExP W C Γ n (.Expr (.Call (.Attribute (.Call (.Attribute (.Name x xp) "setdefault" H) [Z,.Call (.Name y X) [] [] p0] [] p1) "add" Y) [ev] [] p2) spos::b) P :=
 bT λA env O M s rm I=>by
  refine dK (h3 env) λs6 c3=>?_
  refine dK (h4 env) λp6 e0=>?_
  refine jC ?_ (mo I.ok.kind) (i2 env)
  refine g3 ?_ c3
  refine xB λQ' E' hQ hE=>?_
  refine g3 (ad (nm (T:=aE (.ref D)) i hi hv A env O M s rm I) (λdv s₁ B=>?_) az) e0
  have d:=B.then I
  have hd:dv = .ref D:=B.2.2
  subst hd
  obtain⟨ab,ab,ab,ab,n2,b3,ab,g0,b2,ab⟩:=d.phi D _ (be hk)
  have U:=b2.at b3
  refine jE U.typeIs F.plainAttrs_dict F.slot_dict_setdefault F.type_dict_setdefault U.mapOf.noDict ?_
  have IB:=d.from
  have k1:aU (W.from s₁.heap.objs.size) A n:=⟨rm.hd,rm.fr,rm.depth,rm.units⟩
  refine ck (eY h9 (hu _) (ar1 (By (lR (f0 _))) (λab=>rfl)) A env O M s₁ p1 k1 IB) λa1 a3=>?_
  refine dO (P:=KeP W (.builtin "dict.setdefault")) (by rw[a1,dP];rfl) (λh p=>p) ?_
  refine bU (ns:=[]) a1 rfl (ad a3 (λvs s₂ c5=>ac ⟨⟨.machine,.inr (.inl rfl),cR rfl⟩,?_⟩) az)
  refine dn c5 λgB E h0=>?_
  have c:G W s₂:=G.base gB (ae d.g.bas E.siz)
  have V:=d.keep E c
  obtain⟨uv,sv,rfl,⟨t,rfl⟩,S,p9,rfl,hN,hS,k2,k3⟩:=h0.a2
  have IG:=d.give (Q:=oS W []) (L:=S) E c hN (af hS) k2 k3
  have d8:=(b8.mp hk).1
  have f2:(Γ.h++[(S,oS W [])])[k]? = some (D,kC W kts):=by rw[qg d8];exact hk
  have q1:=(V.phi D _ (be hk)).mem
  obtain⟨q2,ab,ab,ab,k4,r,ab,kvs,hp,K,J⟩:=IG.phi D _ (be f2)
  have hm:=hp.at r
  have d9:kvs.length=kts.length:=by have:=aY List.length K;simpa using this
  refine bQ (iN F.slot_dict_setdefault.plain F.entry_dict_setdefault (F.slot_dict_setdefault.check _ _ _ _ _ _ _ _ hm.typeIs (F.args_dict_setdefault_3 _ _ _) ?_))
  refine aa ?_
  refine aa (wpAny_notOrdered_dict hm.typeIs ?_)
  refine(?_:wpAny _ _ (pure (D,Value.int (u:Int) t,some (Value.ref S))) _ _ s₂)
  refine ac ?_
  refine(?_:wpAny _ _ (if(D==sysModules)=true then _ else(dictSetDefault D (.int (u:Int) t) (.ref S) >>= _)) _ _ s₂)
  refine ifZ (by rw[vK c r hp];exact eC) ?_
  have e4:G W { s₂ with toks:=s₂.toks+1 }:=c.tok
  have kp:aF s s₂:=B.2.1.trans E
  refine aa (tY hm (λw hw=>?_) (λhw h' h6 a4=>?_) (by rw[d9];exact ae hz (by decide)))
  ·have c7:Inv W C env Γ O M { s₂ with toks:=s₂.toks+1 }:=V.keep aF.tok e4
   cases hT:kts.lookup u with
   | none=>rw[vJ K hT] at hw;cases hw
   | some T =>
    refine i9 (h1 T hT) λL q l k0 hq hr=>?_
    obtain rfl:=k0
    refine bc (n9 K J hT) λw' e1 e2=>?_
    rw[e1] at hw
    cases hw
    have e2:w = .ref L:=e2
    subst e2
    refine ac (hQ _ _ ?_)
    refine ad (Bz rm c7 hq (a7 _) e3 f8) (λfx c2 R=>ad R (λab c6 j=>?_) az) az
    exact⟨(ak.ofK (kp.trans aF.tok)).trans j.1,M,Ext.refl s M,.next _,hr,j.2⟩
  ·cases hT:kts.lookup u with
   | some T=>obtain⟨w',e1,ab⟩:=n9 K J hT;rw[hw] at e1;cases e1
   | none =>
    refine bc (fS.of h6) λo' h8 c4=>?_
    have gN:G W { s₂ with heap:=h',toks:=s₂.toks+1 }:=c.upd0 (V.up D (al _ q1)).1 a4 λw=>by
     refine bc w λe me hf=>?_
     refine sX ((c.frs e me).loc) λL' m' oL f1 ab f3 ab f5=>?_
     rw[hf] at f1;cases f1
     rw[r] at f3;cases f3
     rw[hp.1.1] at f5;injection f5 with f6;exact absurd f6 (by decide)
    have kD:ak ⟨[D],[]⟩ s₂ { s₂ with heap:=h',toks:=s₂.toks+1 }:=dp (λb o hb e=>(a4.2 b (λz=>hb (ah.mpr z))).trans e) (λab ab ab e=>e) (aH a4.1.symm) (aB _)
    obtain⟨kM,b1⟩:=IG.chg (Q':=kC W (kts++[(u,aE (.ref S))])) f2 kD gN h8 c4.nt ⟨_,c4,by rw[bW,K,n8,n8,bW];rfl,by rw[bW,bW];exact ay.append (ay.mono (cm (al _ q2) a4) J) ⟨rfl,trivial⟩⟩
    rw[Kn.hset,List.set_append_left _ _ d8] at b1
    refine ac (hQ _ _ ?_)
    refine ad (Bz (q:=Γ.h.length) rm b1 (by show(Γ.h.set k _++[(S,oS W [])])[Γ.h.length]? = some (S,oS W []);rw[List.getElem?_append_right (by rw[eE];exact aB _),eE,m5];rfl) (a7 _) e3 f8) (λfx c2 R=>ad R (λab c6 j=>?_) az) az
    have a6:Ext s M ⟨M.a++[S],M.g⟩:=⟨λa m=>(aj.mp m).imp id λm=>by rw[ah.mp m];exact ae B.2.1.siz hN,λab=>.inl⟩
    refine⟨(ak.ofK kp:ak M s s₂).of_ext a6 (kM.trans j.1),_,a6,.next _,h2 hT S,?_⟩
    have:=j.2
    rw[Kn.hset,List.set_append_right _ _ (by simp)] at this
    rw[eE,m5] at this
    exact this
theorem Inv.drop{Q:OTy}(I:Inv W C env Γ O M s)(N:(L,Q)∈Γ.h)(X:∀(q:Nat) (U:Ty),Γ'.v[q]? = some (some U)->∃i:Ty,Γ.v[q]? = some (some i)/\∀V o v,V L=some o->Q.p V o->i.p V v->U.p V v)(Y:∀a R,(a,R)∈Γ'.h->∃j:OTy,(a,j)∈Γ.h/\a≠L/\∀V o d,V L=some o->Q.p V o->j.p V d->R.p V d)(l:(Γ'.h.map (·.1)).Nodup):
  Inv W C env Γ' O ⟨M.a.filter (λb=>decide (b≠L)),M.g⟩ s:=by
 obtain⟨Z,z,u,w,o,D,hn,B⟩:=I.phi L Q N
 have f:∀a,a∈O++M.a.filter (λb=>decide (b≠L))->a∈O++M.a:=λa m=>(aj.mp m).elim (λm=>aq _ m) λm=>al _ (aR.mp m).1
 have k:Vle (am s.heap (O++M.a)) (am s.heap (O++M.a.filter (λb=>decide (b≠L)))):=bG f
 have nL:L∉O++M.a.filter (λb=>decide (b≠L)):=λm=>(aj.mp m).elim w λm=>(aR.mp m).2 rfl
 refine bc I.loc λm t n=>?_
 refine⟨I.g,I.ok,aR.mpr ⟨I.own,λe=>z e.symm⟩,λx c h h'=>aR.mpr ⟨I.cel x c h h',λe=>u x (e▸h)⟩,λa m=>I.up a (f a m),I.upg,⟨m,t,λq x U P T=>?_⟩,I.cells,λa R J=>?_,l,I.top⟩
 ·refine bc (X q U T) λi y r=>?_
  refine bc (n q x i P y) λv sl K=>?_
  exact⟨v,sl,r _ o v (aK D nL) (Q.mono k B) (i.mono k K)⟩
 ·refine fG (Y a R J) λj y r E=>?_
  obtain⟨p1,p2,p3,F,A,p4,p5,H⟩:=I.phi a j y
  exact⟨aR.mpr ⟨p1,r⟩,p2,p3,F,A,p4,p5,E _ o A (aK D nL) (Q.mono k B) (j.mono k H)⟩
theorem Dk{Q:OTy}(t:(L,Q)∈Γ.h)(w:∀(q:Nat) (U:Ty),Γ'.v[q]? = some (some U)->∃j:Ty,Γ.v[q]? = some (some j)/\∀V o v,V L=some o->Q.p V o->j.p V v->U.p V v)(y:(Γ.h.map (·.1)).Nodup->(∀a R,(a,R)∈Γ'.h->∃l:OTy,(a,l)∈Γ.h/\a≠L/\∀V o d,V L=some o->Q.p V o->l.p V d->R.p V d)/\(Γ'.h.map (·.1)).Nodup)(h:ExP W C Γ' n b P):ExP W C Γ n b P:=λA env O M s E I=>by
 have i:∀a∈(⟨M.a.filter (λb=>decide (b≠L)),M.g⟩:Fp).a,a∈M.a:=λa m=>(aR.mp m).1
 refine ck (y I.nod) λD u=>?_
 refine ad (h A env O _ s E (I.drop t w D u)) (λf s' h'=>?_) λe s' h'=>?_
 ·obtain⟨k,M',x,o,p,r⟩:=h'
  exact⟨bK k i (λe m=>m),M',⟨λa m=>(x.a a m).imp (i a) id,x.g⟩,o,p,r⟩
 ·obtain⟨k,M',X,x,f,d,Γ',c,p,B,tr,z⟩:=h'
  exact⟨bK k i (λe m=>m),M',X,⟨λa m=>(x.a a m).imp (i a) id,x.g⟩,f,d,Γ',c,p,B,tr,z⟩
noncomputable abbrev Tri:=Nat×Addr×List Nat
noncomputable abbrev trK(a:List Tri):List (Nat×Ty):=a.map λt=>(t.1,aE (.ref t.2.1))
noncomputable abbrev trS(W:Wc)(a:List Tri):List (Addr×OTy):=a.map λt=>(t.2.1,oS W t.2.2)
noncomputable abbrev trL(a:List Tri):List (Nat×List Nat):=a.map λt=>(t.1,t.2.2)
noncomputable abbrev frK(W:Wc)(a:List (Nat×List Nat)):List (Nat×Ty):=a.map λp=>(p.1,tS W p.2)
theorem Dl{Us:List Ty}(h:∀v,T.p V v->U.p V v):∀{vs:List Value},ay V (Ts++T::Us) vs->ay V (Ts++U::Us) vs:=by
 induction Ts with
 | nil=>intro vs a;obtain⟨v,r,rfl,t,b⟩:=ay.cons_iff a;exact⟨h v t,b⟩
 | cons X Ts ih=>intro vs a;obtain⟨v,r,rfl,t,b⟩:=ay.cons_iff a;exact⟨t,ih b⟩
theorem Dm{v:List (Option Ty)}(c:List Tri):∀(g:List (Nat×List Nat)),ExP W C ⟨v,[(D,kC W (frK W (g++trL c)))]⟩ n b P->ExP W C ⟨v,(D,kC W (frK W g++trK c))::trS W c⟩ n b P:=by
 induction c with
 | nil =>
  intro g h
  simpa using h
 | cons y_ c ih =>
  intro g h
  obtain⟨u,L,l⟩:=y_
  refine Dk (Γ':=⟨v,(D,kC W (frK W (g++[(u,l)])++trK c))::trS W c⟩) (L:=L) (Q:=oS W l) (.tail _ (.head _)) (λq U x=>⟨U,x,λa a a a a h=>h⟩) (λr=>?_) (ih (g++[(u,l)]) (by simpa using h))
  simp only[List.map_cons,List.nodup_cons,List.mem_cons,not_or] at r
  refine dn r λi s B=>?_
  obtain⟨A,n2⟩:=i
  refine⟨λa R m=>?_,by simp only[List.map_cons,List.nodup_cons];exact⟨n2,B⟩⟩
  rcases aC.mp m with e | m
  ·cases e
   refine⟨_,.head _,A,λV o d t w=>jK λkvs p z y=>⟨kvs,p,?_,?_⟩⟩
   ·rw[z];simp[n8]
   ·have j:ay V ((frK W g).map (·.2)++aE (.ref L)::(trK c).map (·.2)) (kvs.map (·.2)):=by simpa using y
    have:=Dl (U:=tS W l) (λv k=>by have k:v = .ref L:=k;subst k;exact wJ V o t w) j
    simpa using this
  ·exact⟨R,.tail _ (.tail _ m),λe=>s (e▸cj (f:=(·.1)) m),λa a a a a h=>h⟩
theorem Fv{u:Nat}{a:List Tri}:(trK a).lookup u=some T->∃q L l,a[q]? = some (u,L,l)/\T=aE (.ref L)/\(trL a).lookup u=some l/\∀l',trK (a.set q (u,L,l'))=trK a/\∀e,(trL (a.set q (u,L,l'))).lookup e=if e=u then some l' else(trL a).lookup e:=by
 induction a with
 | nil =>
  intro h
  cases h
 | cons y_ a ih =>
  obtain⟨k,L,l⟩:=y_
  intro h
  simp only[trK,List.map_cons,List.lookup_cons] at h
  by_cases d:u=k
  ·subst d
   rw[jz] at h
   cases h
   refine⟨0,L,l,rfl,rfl,by simp[trL,List.lookup_cons],λl'=>⟨rfl,λe=>?_⟩⟩
   simp only[trL,List.set_cons_zero,List.map_cons,List.lookup_cons]
   by_cases g:e=u
   ·subst g;simp
   ·rw[ey.mpr g,bj g]
  ·rw[ey.mpr d] at h
   refine wh (ih h) λq f b n j m i=>?_
   refine⟨q+1,f,b,n,j,by simp only[trL,List.map_cons,List.lookup_cons,beq_eq_false_iff_ne.mpr d];exact m,λl'=>⟨?_,λe=>?_⟩⟩
   ·refine(?_:(k,aE (.ref L))::trK (a.set q (u,f,l'))=_)
    rw[(i l').1];rfl
   ·refine(?_:((k,l)::trL (a.set q (u,f,l'))).lookup e=_)
    simp only[List.lookup_cons,(i l').2 e,trL,List.map_cons]
    by_cases c:e=k
    ·subst c
     simp only[beq_self_eq_true];rw[bj λz=>d z.symm]
    ·rw[ey.mpr c]
theorem vM{u:Nat}{b:List Tri}(h:(trK b).lookup u=none):(trL b).lookup u=none:=by
 rw[List.lookup_eq_none_iff] at h ⊢
 intro p c
 refine bc (a9.mp c) λt d a=>?_
 obtain rfl:=a
 exact h (t.1,aE (.ref t.2.1)) (cj (f:=λt:Tri=>(t.1,aE (.ref t.2.1))) d)
theorem vN{b:Type}{l:List (Nat×b)}{u:Nat}{x:b}(h:l.lookup u=none)(e:Nat):(l++[(u,x)]).lookup e=if e=u then some x else l.lookup e:=by
 rw[List.lookup_append]
 by_cases a:e=u
 ·subst a;refine h ▸ ?_;refine(bI rfl) ▸ ?_;simp[List.lookup_cons]
 ·rw[bj a];cases l.lookup e <;> simp[List.lookup_cons,beq_eq_false_iff_ne.mpr a]
theorem sM{a:List (Nat×List Nat)}{e:Nat}:(frK W a).lookup e=(a.lookup e).map (tS W):=by
 induction a with
 | nil=>rfl
 | cons p a ih =>
  obtain⟨k,l⟩:=p
  simp only[frK,List.map_cons,List.lookup_cons]
  cases(e==k) <;> first | rfl | exact ih
noncomputable def oY(c:Nat)(l2:List Nat)(a:List (Nat×List Nat))(e:Nat):List Nat:=a.foldl (λl p=>if p.2.contains c&&decide ((aQ p.2 l2).length=e) then ins p.1 l else l) []
noncomputable def gOf(c:Nat)(bs:List (List Nat))(l2:List Nat):Nat->List Nat
 | 0=>[]
 | j+1=>uni (gOf c bs l2 j) (oY c l2 (cT 0 bs) j)
noncomputable def gE(bs:List (List Nat))(l2:List Nat)(c:Nat):Bool:=!l2.contains c&&(List.range l2.length).any λj=>decide ((1+j)*bs.length<=(gOf c bs l2 (j+1)).length*l2.length)
theorem Fw{v:Nat}(h:v∈ins k l):v=k∨v∈l:=by
 have:=(bk.mp h).2
 simpa using this
theorem BA{v:Nat}{r:List Nat}(h:v∈uni l r):v∈l∨v∈r:=by
 have:=(bk.mp h).2
 simpa using this
theorem sN{c:Nat}{a:List (Nat×List Nat)}{p:Nat×List Nat}{e:Nat}:oY c l2 (a++[p]) e=if p.2.contains c&&decide ((aQ p.2 l2).length=e) then ins p.1 (oY c l2 a e) else oY c l2 a e:=by rw[oY,List.foldl_append];rfl
theorem Dn{c:Nat}{e:Nat}(b:List (Nat×List Nat)):∀(l:List Nat),(∀p∈b,p.1<N)->(∀v∈l,v<N)->∀v∈b.foldl (λl p=>if p.2.contains c&&decide ((aQ p.2 l2).length=e) then ins p.1 l else l) l,v<N:=by
 induction b with
 | nil=>exact λl g h v a=>h v a
 | cons p b ih =>
  intro l d h v a
  refine ih _ (λq f=>d q (.tail _ f)) (λv a=>?_) v a
  dsimp only at a
  split at a
  ·rcases Fw a with e | a
   ·exact e▸(d p (.head _))
   ·exact h v a
  ·exact h v a
theorem Fx{c:Nat}:∀(j v:Nat),v∈gOf c bs l2 j->v<bs.length:=by
 intro j
 induction j with
 | zero=>exact λb h=>nM h
 | succ j ih=>exact λv h=>(BA h).elim (ih v) (Dn _ [] (λp a=>by have:=i6 bs 0 p a;exact ae this (aH (b9 _))) (λb=>nM) v)
theorem Do{c:Nat}:∀j,gOf c bs l2 j∈br
 | 0=>.head _
 | j+1=>lL _ _
theorem tZ{p1 p2 p3 s t q p:Pos}{c P:Addr}{z:Nat}{Ψ:List Nat->Prop}(e:C.scope.names.lookup (S "sum")=some .globalImplicit)(a:C.code=some (.ref c))(f:(c,P)∈W.tabs)(hit:io W C Γ (n+7) (.Name (S "vi") q) (.Name y p) (λUs=>∃r,Ψ r/\Us=r.map ag))(b:∀r,Ψ r->r.length=z/\∀v∈r,v<bs.length)(h:bs.length<=3)(hz:z<=4)(u:pq C Γ.v [S "vi",S "profile"] [none,some (tPf W m bs)])(w:AX C (Γ.v.map Option.isSome) scope (cG scope [S "vi",S "profile"]) [false,true]=true)(o:fe (cG scope [S "vi",S "profile"]) (S "vi")=true):
  EvP W C Γ (n+10) (.Call (.Name (S "sum") p1) [.GeneratorExp (.Attribute (.Subscript (.Name (S "profile") p2) (.Name (S "vi") p3) p4) (S "weight") p5) [⟨.Name (S "vi") q,.Name y p,[],0⟩] scope s] [] t) (ag z):=by
 refine i3 (bl Ek e (by kernel_rfl)) kb (iq.le (iq.eq (wS (n:=n+7) (ι:=Nat) (P:=P) (c:=c) [S "vi",S "profile"] [none,some (tPf W m bs)] Ψ ag (λx=>ag 1) (λx=>true) (λv Γ=>Γ.set 0 (ag v)) a f hit (λl' k=>aZ 0 rfl o) (λk=>bx rfl) (λx x x x x=>fa) ?_ u w) ?_) oE) (uT (n':=n+9) (Ψ:=λzs=>zs=List.replicate z 1) (z:=(z:Int)) (aB _) ?_ (oG hz))
 ·intro l i l' v g x
  have g:=(b l i).2 v g
  exact dq (nY (n:=n+5) (ks:=bs.getD v []) (nm 1) (nm 0) (by refine(eS) ▸ ?_;refine(dz g) ▸ ?_;rfl) (ae g (oC h))) (bt _ dS) (by kernel_rfl) (λx=>rfl)
 ·intro Ts d
  refine bc d λl i j=>?_
  obtain rfl:=j
  refine⟨_,rfl,?_⟩
  rw[gQ,iF (c:=ag 1) (λx x=>rfl),(b l i).1,List.map_replicate];rfl
 ·rintro zs rfl
  exact⟨λz hz=>List.eq_of_mem_replicate hz▸by decide,vp _⟩
noncomputable abbrev cEp:Cx:=⟨(fT 26).2.2,[S "profile",S "committee",S "quota",S "cand",S "supporters_by_utility",S "vi",S "voter",S "utility",S "ell_upper_bound",S "group",S "ell",S "detailed_information"],[S "profile"],some (.ref 427)⟩
noncomputable abbrev epK(W:Wc)(m:Nat)(bs:List (List Nat))(ks:List Nat)(r:List (Option Ty))(h:List (Addr×OTy)):Kn:=⟨[some (tPf W m bs),some (tC W ks),some (tQu bs.length ks.length)]++r,h⟩
theorem Dp(c:cU m bs ks)(Y:jV W):ExP W cEp (epK W m bs ks [none,none,none,none,none,none,none,none,none] []) (n+11) (fT 26).2.1
  (jr (bH [aG (!(List.range m).any (gE bs ks)),dk])):=by
 have C:bs.length<100:=bp c.N.2 (by decide)
 refine f9 (ι:=Nat) (List.range m) ag (λx Γ=>Γ.set 3 (ag x)) (gE bs ks) (λΓ=>Sub Γ (epK W m bs ks [none,none,none,none,none,none,none,none,none] [])) (bH [aG false,dk])
  (eV (dq (nm 0) dS (by kernel_rfl) (λA=>rfl)) gy.its).itp (λA=>aZ 3) ⟨rfl,rfl⟩ ?_ ?_ ?_
 ·intro x hx Γ hs
  refine cF (hs.set 3 _) ?_
  refine dF (cp (nm 3) (nm 1) (nQ bM)) (λh=>bT (pE ⟨by rw[gE,h];rfl,rfl,rfl⟩)) λa1=>?_
  have B:gE bs ks x=(List.range ks.length).any λj=>decide ((1+j)*bs.length<=(gOf x bs ks (j+1)).length*ks.length):=by rw[gE,a1];rfl
  refine kg (Q:=kC W []) 4 Dg λD=>?_
  refine fW (ι:=Nat×List Nat) (λl=>l=cT 0 bs) (tEn W) (λk Γ=>(Γ.set 5 (ag k.1)).set 6 (b0 W k.2)) (λA Us Γ=>∃f i,cT 0 bs=i++Us/\f.length<=i.length/\(∀e,((trL f).lookup e).getD []=oY x ks i e)/\Sub Γ (epK W m bs ks [some (ag x),some (aE (.ref D)),none,none,none,none,none,none,none] ((D,kC W (trK f))::trS W f))) (oX (n:=n+7) (by kernel_rfl) (nm 0)).itp (λk=>k9 5 6) (λA e=>⟨[],[],e▸rfl,aB _,λA=>rfl,rfl,rfl⟩) ?_ ?_ (λA A=>rfl)
  ·intro l U a7 k a4 b5 Γ M
   obtain rfl:=U
   refine uf M λf i d p y hs=>?_
   refine cF ((hs.set 5 _).set 6 _) ?_
   have b2:k.1<4:=by have:=i6 bs 0 k (by rw[d];simp);have:=c.N.2;exact ae ‹_› (ae (aH (b9 _)) (oC this))
   have hz:f.length<=100:=by
    have h2:i.length<=(cT 0 bs).length:=by rw[d,dU];exact aW _ _
    rw[iG] at h2
    exact ae p (ae h2 (oC c.N.2))
   refine dF (cp (nm 3) (ie (nm 6)) (nQ bM)) (λh=>?_) λh=>aN ⟨f,i++[k],by rw[d];simp,by rw[List.length_append];exact iO p,λe=>by rw[sN,h,m9];exact y e,rfl,rfl⟩
   refine bo (T:=ag (aQ k.2 ks).length) 7 (mu bM fY (by kernel_rfl) (nm 6) (nm 1)) ?_
   have hs:∀e,oY x ks (i++[k]) e=if e=(aQ k.2 ks).length then ins k.1 (oY x ks i e) else oY x ks i e:=λe=>by
    rw[sN,h,kX]
    by_cases w:e=(aQ k.2 ks).length
    ·rw[bI (c8 w.symm),bI w]
    ·rw[bj (by simpa using λz=>w z.symm),bj w]
   refine Fu (D:=D) (kts:=trK f) (u:=(aQ k.2 ks).length) (v:=k.1) 4 0 rfl rfl rfl (by simpa using hz) (λN=>nm 7) (λN=>bl ln) (λh=>nm 5) b2 (λT Y=>?_) (λhn L=>?_)
   ·refine wh (Fv Y) λq L l Z a5 h3 h4=>?_
    obtain rfl:=a5
    refine⟨L,q+1,l,rfl,by show(trS W f)[q]? = _;refine(dw) ▸ ?_;refine Z ▸ ?_;rfl,aN (aN ⟨f.set q ((aQ k.2 ks).length,L,ins k.1 l),i++[k],by rw[d];simp,by rw[List.length_set,List.length_append];exact iO p,λe=>?_,rfl,?_⟩)⟩
    ·rw[(h4 _).2,hs]
     split
     ·rename_i w;rw[w,← y,h3];rfl
     ·exact y e
    ·refine(?_:(D,kC W (trK (f.set q ((aQ k.2 ks).length,L,ins k.1 l))))::trS W (f.set q ((aQ k.2 ks).length,L,ins k.1 l))=(D,kC W (trK f))::(trS W f).set q (L,oS W (ins k.1 l)))
     rw[(h4 _).1,trS,trS,mH]
   ·refine aN (aN ⟨f++[((aQ k.2 ks).length,L,ins k.1 [])],i++[k],by rw[d];simp,by simp;exact p,λe=>?_,rfl,?_⟩)
    ·rw[show trL (f++[((aQ k.2 ks).length,L,ins k.1 [])])=trL f++[((aQ k.2 ks).length,ins k.1 [])] by simp[trL],vN (vM hn),hs]
     split
     ·rename_i w;rw[← y,w,vM hn];rfl
     ·exact y e
    ·refine(?_:(D,kC W (trK (f++[((aQ k.2 ks).length,L,ins k.1 [])])))::trS W (f++[((aQ k.2 ks).length,L,ins k.1 [])])=(D,kC W (trK f++[((aQ k.2 ks).length,aE (.ref L))]))::(trS W f++[(L,oS W (ins k.1 []))]))
     rw[trK,bW,trS,bW];rfl
  ·intro l E Γ R
   obtain rfl:=E
   refine uf R λf i d p y hs=>?_
   refine cF hs ?_
   have d:cT 0 bs=i:=by simpa using d
   subst d
   refine bo (T:=ag ks.length) 8 (vI (n:=n+7) c.N c.k (by kernel_rfl) (ar2 (e5 (nm 0) (by kernel_rfl) rfl (by kernel_rfl) dl au (gA (n:=n+7) C (Y _ (.tail _ (.head _))))) (nm 2))) ?_
   refine Dm f [] ?_
   refine f7 (T:=rE W (frK W (trL f))) 0 4 Bx ?_
   refine kg (Q:=oS W []) 9 (lR (bl ln)) λL=>?_
   refine rB (ι:=Nat) (List.range ks.length) (λj=>ag (1+j)) (λj Γ=>Γ.set 10 (ag (1+j))) (λj=>decide ((1+j)*bs.length<=(gOf x bs ks (j+1)).length*ks.length)) (λi Γ=>Sub Γ (epK W m bs ks [some (ag x),some (rE W (frK W (trL f))),none,none,none,some (ag ks.length),some (aE (.ref L)),none,none] [(L,oS W (gOf x bs ks i.length))])) (bH [aG false,dk])
    ((di (a:=1) (b:=ks.length+1) (ao (bl d7) kt (ar2 aJ (eK (b:=1) (nm 8) aJ)) au iD) (by decide) (by have:=c.k.2;exact oC (aX this 2))).itp) (λj=>aZ 10) ⟨rfl,rfl⟩ ?_ ?_ ?_
   ·intro i j Us e Γ hs
    refine cF (hs.set 10 _) ?_
    have H:j=i.length:=by
     have Z:(List.range ks.length)[i.length]? = some j:=by rw[e,List.getElem?_append_right (aB _),m5];rfl
     rw[List.getElem?_range (by have:=aY List.length e;rw[dc,dU] at this;exact m8 (mJ (Nat.succ_pos _)) this.symm)] at Z
     exact(fU Z).symm
    have hj:j<ks.length:=aI.mp (fR e)
    rw[← H]
    refine EX (l':=oY x ks (cT 0 bs) j) jQ 9 0 (vh (id := "dict.get") (To:=rE W (frK W (trL f))) (nm 4) (λA O s v pl Q g hv hq=>?_) (ar2 (EvP.eq (T:=bh (((1+j:Nat):Int)-1)) (md (nm 10) aJ) (by rw[zJ])) ((lR (bl ln)).evp λV L o h hp=>wJ V o h hp)) (Dj (λX J=>?_) λh0=>?_)) ?_
    ·refine rU hv λa o a3 K I=>?_
     obtain rfl:=a3
     refine bc I λkvs hp A=>?_
     have hm:=hp.at (af K)
     exact jE hm.typeIs F.plainAttrs_dict F.slot_dict_get F.type_dict_get hm.mapOf.noDict hq
    ·have:=y j
     rw[sM] at J
     cases p:(trL f).lookup j with
     | none=>rw[p] at J;cases J
     | some l=>rw[p] at J this;cases J;rw[← this];exact Ty.le_refl _
    ·have:=y j
     rw[sM] at h0
     cases p:(trL f).lookup j with
     | some l=>rw[p] at h0;cases h0
     | none=>rw[p] at this;rw[← this];exact Ty.le_refl _
    ·have t:(gOf x bs ks (j+1)).length<=4:=c9 (Do _)
     refine dF (sI (Tf:=tS W (gOf x bs ks (j+1))) 0 9 wJ (cp (tZ (n:=n+1) (Ψ:=λr=>r.Perm (gOf x bs ks (j+1))) (z:=(gOf x bs ks (j+1)).length) (c:=427) (P:=423) (by kernel_rfl) rfl (Y _ (by decide)) (xV bS (nm 9)) (λr hr=>⟨hr.length_eq,λv hv=>Fx _ v (hr.mem_iff.mp hv)⟩) c.N.2 t ⟨⟨0,rfl,rfl⟩,trivial⟩ (by kernel_rfl) (by kernel_rfl)) (Bv c.N c.k (oN hj c.k.2) (nm 10) (nm 2) oJ) (Bu c.N c.k (oN hj c.k.2) t oJ))) (λhb=>?_) λhb=>aN ⟨hb,rfl,by show[(L,oS W (gOf x bs ks (i++[j]).length))]=_;rw[dU,← H];rfl⟩
     exact bo (T:=dk) 11 (i5 (b7 (nm 9) (b7 (nm 3) (b7 (nm 10) gR)))) (bB (cg (ar2 bO (nm 11))) ⟨hb,Ty.le_refl _⟩)
   ·exact λh Γ' T K=>⟨B.trans h,K⟩
   ·intro h Γ hs
    exact cF hs (f7 (T:=tS W _) 0 9 wJ (aN ⟨B.trans h,rfl,rfl⟩))
 ·intro h Γ' T K
  exact h▸(K)
 ·intro h Γ hs
  refine cF hs ?_
  exact h▸(bo (T:=dk) 11 i4 (bB (cg (ar2 bO (nm 11))) (Ty.le_refl _)))
theorem GK(c:cU m bs ks)(a:jV W):aM W (n+12) (.ref 428) [tPf W m bs,tC W ks,tQu bs.length ks.length] [] (bH [aG (!(List.range m).any (gE bs ks)),dk]) :=
 s7 (fT 26) cEp [none,none,none,none,none,none,none,none,none] λenv=>Dp (W:=W.at (env::W.frs)) c a
theorem zG(d:wpAny (model prg W.w) A.in1 (specialOf it (Str.ofString "__next__")) (λr s'=>r.isNone=false/\s'=s) E s)(h:wpAny (model prg W.w) A.in1 (lQ it) (λr s'=>∃v,r=some v/\Q v s') E s):wpAny (model prg W.w) A (call (.builtin "next") [it]) Q E s:=by
 refine call_function_entry (by decide +kernel) (by decide +kernel) kdk_entry_next (kdk_args_next _) ?_
 refine aa (m:=someArgs "next" 1 2 _) (bR (a:=[it]) (by first | rfl | kernel_rfl!) ?_)
 refine aa (ad d (λr s' b=>?_) λj j e=>e)
 refine ck b λg f=>?_
 obtain rfl:=f
 refine ifZ (by rw[g];exact eC) ?_
 refine aa (ad h (λr s'' b=>?_) λj j e=>e)
 refine bc b λv c i=>?_
 obtain rfl:=c
 exact ac ⟨v,rfl,i⟩
theorem rF{e:Value}{k:Stmt}{i:List Stmt}{Q:Flow->Shared->Prop}{T:String}(O:aU W A n)(y:nr C env)(g:G W s)(F:∃e l,W.frs=e::l/\e.frame=env.frame)(I:∀a∈X,W.H.objs.size<=a/\a<s.heap.objs.size)(J:fJ s.heap X cls tr e)(M:C.scope.names.lookup x=some .globalImplicit)(z:nsIn W.K mainGlobals x=some none/\bootBuiltins x=some (.type T)/\x ≠ "__name__")(hd:qp x=true)(v:isSubtype (.type T) (.type "BaseException")=pure true)(B:isSubtype (.type ((Manifest.find? T).elim "type" λx=>x.metatype)) (.type "tuple")=pure false)(u:isSubtype (.type cls) (.type T)=pure true)(h:∀s' X',fK W X X' s s'->fJ s'.heap X' cls true e->wpAny (model prg W.w) (A.mark (some e)) (execs (k::i) env) Q (notedBy (model prg W.w) (A.mark (some e)) env (cameBackBy (model prg W.w) A env E)) s'):
  wpAny (model prg W.w) A (noteFrame e env) (λP s₂=>wpAny (model prg W.w) A (setFlight e none) (λP f=>wpAny (model prg W.w) A (handleBy e env [.ExceptHandler (some (.Name x p)) none (k::i) pos]) Q E f) E s₂) E s:=by
 refine oo O g F I J λs₁ t d q=>?_
 refine ib d.g d.b q λs₂ c j=>?_
 refine sX j.exc λP o vs D P N L P=>?_
 obtain rfl:=D
 refine wpAny_handleBy_builtin (b:=true) v B u ?_
 refine pA y.kind (y.of M) (pB (by rw[y.glob];exact c.g.glob) (mg_none_of c.g.kin c.g.glob z.1) (by rw[y.bui];exact c.g.bui) ((c.g.boot x z.2.2).trans z.2.1) ⟨rfl,⟨o,N,L⟩,?_⟩) (wk hd)
 refine(?_:wpAny _ _ (setFlight _ none) _ _ s₂)
 exact ib c.g c.b j λf r m=>h f t ((d.trans c).trans r) m
inductive GL(W:Wc)(n:Nat)(it:Value)(I:Itm)(Is:List Itm)(F:Fp)(O:List Addr)(s:Shared)(got:Option Value)(s':Shared):Prop
 | mk (v:Value) (F':Fp) (N:List Addr) (e:got=some v) (g:G W s') (k:ak F s s') (x:Ext s F F') (b:InB W F' s') (hN:∀a∈N,s.heap.objs.size<=a/\a<s'.heap.objs.size/\a∉F'.a) (p:I.p N (am s'.heap ((O++F'.a)++N)) s'.heap v) (i:ItN W n it Is F' ((O++F'.a)++N) s')
def jm(W:Wc)(n:Nat)(it:Value):List Itm->Fp->List Addr->Shared->Option Value->Shared->Prop
 | [],F,O,s,got,s'=>got=none/\G W s'/\ak F s s'
 | I::Is,F,O,s,got,s'=>GL W n it I Is F O s got s'
theorem jm.from(k:aF s s₁)(f:∀a∈O,a∈O')(h:jm W n it Is F O' s₁ got s'):jm W n it Is F O s got s':=by
 cases Is with
 | nil=>exact⟨h.1,h.2.1,(ak.ofK k).trans h.2.2⟩
 | cons I Is =>
  obtain⟨v,F',N,e,g,i,x,b,d,l,j⟩:=h
  have c:Vle (am s'.heap ((O'++F'.a)++N)) (am s'.heap ((O++F'.a)++N)):=bG λa m=>by
   simp only[List.mem_append] at m ⊢
   exact m.imp (λm=>m.imp (f a) id) id
  exact⟨v,F',N,e,g,(ak.ofK k).trans i,(Ext.refl s F).trans x k.siz k.gsz,b,λa m=>⟨ae k.siz (d a m).1,(d a m).2⟩,I.mono c (λo o o h o=>h) l,j.move (bC.refl _ _) c⟩
theorem jm.at(h:jm (W.at (env::W.frs)) n it Is F O s got s'):jm W n it Is F O s got s':=by
 cases Is with
 | nil=>exact⟨h.1,h.2.1.back,h.2.2⟩
 | cons I Is =>
  obtain⟨v,F',N,e,g,k,x,b,c,f,d⟩:=h
  exact⟨v,F',N,e,g.back,k,x,⟨b.a,b.g⟩,c,f,d.at (k:=W.frs)⟩
theorem Fy:jM W "next" (.builtin "next"):=⟨by kernel_rfl,by decide +kernel,by decide +kernel⟩
theorem zH:∃v,findIn W.K (.type "generator") (Str.ofString "__next__")=some (some v):=⟨.builtin "generator.__next__",by kernel_rfl⟩
theorem zK:findIn W.K (.ref 176) (Str.ofString "__next__")=some (some (.ref 172)):=by kernel_rfl
theorem r7.next(h:r7 it F s)(g:G W s):wpAny (model prg W.w) A (specialOf it (Str.ofString "__next__")) (λr s'=>r.isNone=false/\s'=s) E s:=by
 obtain⟨a,o,rfl,e,c,e,b⟩:=h
 rcases b with b | b
 ·obtain⟨v,d⟩:=zH (W:=W)
  exact aa (l4 c b ((fB g.kin d).here ⟨rfl,rfl⟩))
 ·exact aa (l4 c b ((fB g.kin zK).here ⟨rfl,rfl⟩))
noncomputable abbrev HI(vs:List Value)(c:Nat):Obj:={ cls:=.type "tuple",dict:=none,data:=.seq vs.toArray c,slots:=#[] }
noncomputable abbrev cPu:Cx:=⟨(fT 7).2.2,[S "it"],[],none⟩
noncomputable abbrev Fz:FuncData:=fn (fT 7) (S "_pull") (S "_pull") 3 [] .none .none .none (.str (S "itertools") 254) none (.ref 88) .none 0
theorem yv:isSubtype (.type "StopIteration") (.type "BaseException")=pure true:=yl
theorem BB:isSubtype (.type ((Manifest.find? "StopIteration").elim "type" λx=>x.metatype)) (.type "tuple")=pure false:=by
 have:(Value.type ((Manifest.find? "StopIteration").elim "type" λx=>x.metatype)) = .type "type" := aL.mp yn
 rw[this,fD];kernel_rfl
theorem jm.gw(h:jm W n it Is F O s got s'):G W s'/\ak F s s':=by
 cases Is with
 | nil=>exact h.2
 | cons I Is=>obtain⟨v,F',N,e,g,k,a⟩:=h;exact⟨g,k⟩
inductive t0(W:Wc)(n:Nat)(it:Value)(Is:List Itm)(F:Fp)(O:List Addr)(s:Shared)(r:Value)(s':Shared):Prop
 | mk (got:Option Value) (a:Addr) (c:Nat) (s₂:Shared) (p:jm W n it Is F O s got s₂) (k:aF s₂ s') (g:G W s') (e:r = .ref a) (h:s'.heap.get? a=some (HI [.bool got.isSome,got.getD .none] c)) (hs:s₂.heap.objs.size<=a)
theorem jm.tup{Is:List Itm}{F:Fp}{O:List Addr}{s s₂:Shared}{got:Option Value}{env:Env}(c:jm (W.at (env::W.frs)) n it Is F O s got s₂):
  t0 W n it Is F O s (.ref s₂.heap.objs.size) { s₂ with heap:=s₂.heap.push { cls:=.type "tuple",data:=.seq [Value.bool got.isSome,got.getD .none].toArray } }:=by
 refine⟨got,s₂.heap.objs.size,0,s₂,c.at,?_,?_,rfl,bf _ rfl,aB _⟩
 ·exact aF.step (s:=s₂) (tk:=s₂.toks) (λb o e=>aV _ e) (by rw[bi];exact bY _)
 ·exact G.back (env:=env) (c.gw.1.step (tk:=s₂.toks) (λb o e=>aV _ e) (by rw[bi];exact bY _))
theorem Dq(Z:ItN W n it Is F O s)(hF:∀a∈F.a,a∈O)(rm:aU W A (n+2))(Y:GO W O s):
  wpAny (model prg W.w) A (call (.ref 89) [it]) (t0 W n it Is F O s) Nev s:=by
 have D:l0 W.K cPu 89 Fz (fT 7).2.1 [S "it"]:=gt (by kernel_rfl) (by kernel_rfl) (by kernel_rfl) (by rfl)
 obtain⟨o,ho,hd⟩:=D.here
 have nc:∀x c,(x,c)∉Fz.closure:=D.nc
 refine bQ (bN (nw (n:=n+1) (C:=cPu) (Γ:=⟨[some (aE it)],[]⟩) (fd:=Fz) (body:=(fT 7).2.1) (binds:=[(S "it",it)]) (O:=O) (L:=⟨[],[]⟩) (R:=λr s'=>match r with | .ok (.ret v)=>t0 W n it Is F O s v s' | _=>False)
  rm Y.g ho hd (dC D.code Y.g.kin) (by kernel_rfl) (D.ok _ rfl) (λx c m=>absurd m (nc x c)) (List.Pairwise.nil) (λx c m=>absurd m (nc x c)) (λx m=>Y.ok x (by simpa using m)) (λG=>nM) ⟨⟨_,rfl,rfl⟩,trivial⟩ (λG G=>nM) gb (λG G=>nM) λenv G M s₁ t Q P G G I=>iI ?_) λr s' h=>?_)
 ·refine xB λQ' E' hQ hE=>?_
  refine bE (jH (bE (jY (wpAny_Tuple (je (ac (je ?_)))))))
  refine mr (n:=n+1) (W:=W.at (env::W.frs)) (C:=cPu) (O:=O) (M:=M) (bl Fy) kb (ar1 (nm 0)) t I λs₂ vs z j ht=>?_
  obtain⟨v,rfl,V⟩:=ht.a1
  have V:v=it:=V
  subst V
  have b:aF s s₂:=Q.trans z
  have st:bC F s s₂:=b.stays (λG G=>av) (λG G=>av)
  have vl:Vle (am s.heap O) (am s₂.heap (O++M.a)):=by
   have:=(ak.ofK b:ak ⟨[],[]⟩ s s₂).vle (M':=⟨M.a,M.g⟩) (O:=O) P
   simpa using this
  have i:=(I.keep z j).go
  refine zG ((Z.ok.stay st).next j) ?_
  cases Is with
  | nil =>
   have l:=Z.2 (env::W.frs) (A.deeper env).in1 s₂ (O++M.a) t.in1 i st (λa m=>aq _ (hF a m)) vl
   refine ad l (λG G h=>h.elim) λe u h=>?_
   obtain⟨q,p,X,tr,B,hx⟩:=h
   refine rF (W:=W.at (env::W.frs)) (X:=X) t I.ok q I.top (λa m=>⟨ae j.siz (B a m).1,(B a m).2⟩) hx (by kernel_rfl) rz (by kernel_rfl) yv BB oQ λE X' d T=>?_
   refine bE (jY (wpAny_Tuple (je (ac (je (ac (spliced_nil ⟨by decide,hQ _ _ ?_⟩)))))))
   have c:jm (W.at (env::W.frs)) n v [] F O s none E:=⟨rfl,d.g,((ak.ofK b:ak F s s₂).trans p).of_ext (M':=⟨F.a++X,F.g⟩) ⟨λa m=>(aj.mp m).imp id λm=>ae b.siz (B a m).1,λG=>.inl⟩ (bK d.k (λa m=>al _ m) λG=>nM)⟩
   exact c.tup
  | cons H Is =>
   have l:=Z.2 (env::W.frs) (A.deeper env).in1 s₂ (O++M.a) t.in1 i st (λa m=>aq _ (hF a m)) vl
   refine ad l (λr u h=>?_) λG G e=>False.elim e
   obtain⟨w,F',N,rfl,q,p,J,y,hN,hp,U⟩:=h
   refine⟨w,rfl,spliced_nil ⟨by show 2<=sizeLine;decide,hQ _ _ ?_⟩⟩
   have c:jm (W.at (env::W.frs)) n v (H::Is) F O s (some w) u:=jm.from (O':=O++M.a) b (λa m=>aq _ m) ⟨w,F',N,rfl,q,p,J,⟨y.a,y.g⟩,hN,hp,U.at (k:=env::W.frs)⟩
   exact c.tup
 ·cases r with
  | error _=>exact h.elim
  | ok f=>cases f with
   | ret v=>exact h
   | _=>exact h.elim
noncomputable def xh:Ty:=⟨λb v=>∃a,v = .ref a,λb h=>h⟩
theorem Dr:gH xh:=λV v=>D8 λa e=>by subst e;exact qC V _ rfl
theorem oZ(h:wpAny (model prg W.w) A.in1 (pyIter v) Q E s):wpAny (model prg W.w) A (call (.builtin "iter") [v]) Q E s:=by
 refine kS (by decide +kernel) (by decide +kernel) kdk_entry_iter (kdk_args_iter _) ?_
 refine aa (m:=someArgs "iter" 1 2 _) (bR (a:=[v]) rfl ?_)
 exact aa (ad h (λit c b=>ac b) λd d e=>e)
theorem vP:aM W (n+1) (.builtin "iter") [bH []] [] xh:=λA O s vs ks k g b c=>by
 obtain⟨v,rfl,f⟩:=b.a1
 have e:=ay.nil_iff c
 subst e
 refine oZ (ad (jk (Ts:=[]) A.in1 O s v k.in1 g f) (λit s₂ j=>j.rec λo tk a Ts m l p i h p p p p=>?_) az)
 obtain⟨g',d,p⟩:=bJ g o tk
 subst h
 exact⟨g',d,_,i⟩
noncomputable abbrev cCh:Cx:=⟨(fM 8 1).2.2,[S "self",S "iterables"],[],none⟩
noncomputable abbrev chT(act src:Ty):List (Option Ty):=[some act,some src]
noncomputable abbrev Ds:FuncData:=fn (fM 8 1) (S "__init__") (S "chain.__init__") 3 [] .none .none .none (.str (S "itertools") 254) none (.ref 103) .none 0
theorem Dt(x:Addr):bindArgs Ds ⟨[.ref x],[]⟩=(newTuple [] >>= λt=>pure [(S "self",.ref x),(S "iterables",t)]):=by kernel_rfl
theorem FA:l0 W.K cCh 104 Ds (fM 8 1).2.1 [S "self",S "iterables"]:=gt (by kernel_rfl) (by kernel_rfl) (by kernel_rfl) (by rfl)
theorem zL:lU W (n+5) (.ref 132) [] (cX 132 (chT cJ xh)):=λA O s vs rm g ht=>by
 refine ad (vC (n:=n+3) (D:=132) (fI:=104) (k:=2) (Ps:=λx Γ'=>Γ'.h[0]? = some (x,cX 132 (chT cJ xh))) (by kernel_rfl) (by kernel_rfl) (by kernel_rfl) rm g λA' s₁ x ox K d nx Z vl hx Y E=>?_) (λv s' w=>?_) az
 ·have e:=ay.nil_iff ht
  subst e
  have D:=FA (W:=W)
  obtain⟨o,U,hd⟩:=D.here
  have V:∀x c,(x,c)∉Ds.closure:=D.nc
  have F:wn cCh Ds (fM 8 1).2.1 [(S "self",.ref x),(S "iterables",.ref s₁.heap.objs.size)]:=D.ok _ rfl
  refine codeAny_call_function (by have:=K.depth;exact ae (aX (aW _ _) 1) this) (d.g.kin 104 o U) hd F.co F.gen F.body (dC D.code d.g.kin) ?_
  rw[Dt]
  refine aa (wpAny_newTuple (ac ?_))
  generalize j:({ s₁ with heap:=s₁.heap.push { cls:=.type "tuple",data:=.seq ([]:List Value).toArray } }:Shared)=s₂
  have i:aF s₁ s₂:=by subst j;exact aF.step (s:=s₁) (tk:=s₁.toks) (λb o e=>aV _ e) (by rw[bi];exact bY _)
  have J:G W s₂:=by subst j;exact d.g.step (tk:=s₁.toks) (λb o e=>aV _ e) (by rw[bi];exact bY _)
  have y:s₂.heap.get? s₁.heap.objs.size=some { cls:=.type "tuple",data:=.seq ([]:List Value).toArray }:=by subst j;exact bf _ rfl
  have z:s₁.heap.objs.size∉O++[x]:=λm=>bz _ (d.ok _ m).2
  refine uo (W:=W) (n:=n+3) (C:=cCh) (Γ:=⟨[some (aE (.ref x)),some (bH [])],[(x,cX 132 (List.replicate 2 none))]⟩) (O:=O) (L:=⟨[x],[]⟩) (R:=λr s'=>Bn W O x (λx Γ'=>Γ'.h[0]? = some (x,cX 132 (chT cJ xh))) s₁ r s') K J U hd F (λx c m=>absurd m (V x c)) (List.Pairwise.nil) (λx c m=>absurd m (V x c)) (λa m=>⟨(d.ok a m).1,aA (d.ok a m).2 i.siz⟩) (λb=>nM) ⟨⟨_,rfl,rfl⟩,⟨_,rfl,?_⟩,trivial⟩ (λa P m=>?_) (by simp) (λa P m x=>V x a) λenv b M l B q u b b I=>iI ?_
  ·exact⟨[],⟨_,_,rfl,aK y z⟩,trivial⟩
  ·have m:=ah.mp m
   cases m
   exact⟨ah.mpr rfl,nx,ox,i.obj' hx Y,Y,OTy.mono _ (i.vle0 _) E⟩
  ·have body:ExP (W.at (env::W.frs)) cCh ⟨[some (aE (.ref x)),some (bH [])],[(x,cX 132 (List.replicate 2 none))]⟩ (n+3) (fM 8 1).2.1 (λo=>match o with | .next Γ'=>Γ'.h[0]? = some (x,cX 132 (chT cJ xh)) | _=>False):=by
    refine gZ (T:=xh) 0 1 (ao (bl tN) kb (ar1 (nm 1)) au vP) Dr (nm 0) ?_
    exact gZ (T:=cJ) 0 0 eX s9 (nm 0) (aN rfl)
   refine ad (body _ env O M l B I) (λf H h=>?_) λe H h=>?_
   ·obtain⟨Q,M',N,oc,E,hf⟩:=h
    cases f <;> cases oc <;> first | exact hf.elim | exact E.elim | skip
    refine⟨rfl,_,M'.a,E,hf.g.back,?_,λa m=>⟨?_,(hf.up a (al _ m)).2⟩,λa P m=>?_⟩
    ·exact(ak.ofK i).trans ((ak.ofK q:ak ⟨[x],[]⟩ s₂ l).of_ext u Q)
    ·rcases N.a a m with m | m
     ·exact(u.a a m).imp ah.mp (ae i.siz)
     ·exact .inr (ae (i.trans q).siz m)
    ·obtain⟨q1,b,b,b,o,h,t,p⟩:=hf.phi a P m
     exact⟨q1,o,h,t,p⟩
   ·obtain⟨b,b,b,b,b,b,b,b,E,b⟩:=h
    exact E.elim
 ·obtain⟨x,Γ',M,e,h0,g',k',hM,U⟩:=w
  obtain⟨X,o,h1,h2,h3⟩:=U _ _ (be h0)
  exact⟨x,o,e,g',k',(hM x X).1,h1,h2,OTy.mono _ (bG λa m=>(aj.mp m).elim (aq _) λm=>al _ (by rw[ah.mp m];exact X)) h3⟩
abbrev cFr:Cx:=⟨(fM 8 2).2.2,[S "cls",S "iterable",S "source",S "self"],[],none⟩
abbrev FB:FuncData:=fn (fM 8 2) (S "from_iterable") (S "chain.from_iterable") 3 [] .none .none .none (.str (S "itertools") 254) (some 114) (.ref 110) .none 0
theorem FC:l0 W.K cFr 111 FB (fM 8 2).2.1 [S "cls",S "iterable"]:=gt (by kernel_rfl) (by kernel_rfl) (by kernel_rfl) (by rfl)
inductive GM(W:Wc)(a:Addr)(O:List Addr)(s:Shared)(v:Value)(s':Shared):Prop
 | mk (x:Addr) (o:Obj) (e:v = .ref x) (g:G W s') (k:aF s s') (hs:s.heap.objs.size<=x) (h:s'.heap.get? x=some o) (n:nt o=true) (p:(cX 132 (chT cJ (aE (.ref a)))).p (am s'.heap (O++[x])) o)
theorem Du{g:Nat}(rm:aU W A (n+6))(P:GO W O s)(Y:s.heap.IsGen a g):
  codeAny (model prg W.w) A (.call (.ref 111) ⟨[.ref 132,.ref a],[]⟩) (λr s'=>match r with | .ok (.ret v)=>GM W a O s v s' | _=>False) s:=by
 have D:=FC (W:=W)
 obtain⟨o,X,hd⟩:=D.here
 have Q:∀x c,(x,c)∉FB.closure:=D.nc
 refine nw (n:=n+5) (C:=cFr) (Γ:=⟨[some (aE (.ref 132)),some (aE (.ref a)),none,none],[]⟩) (fd:=FB) (body:=(fM 8 2).2.1) (binds:=[(S "cls",.ref 132),(S "iterable",.ref a)]) (O:=O) (L:=⟨[],[]⟩)
  rm P.g X hd (dC D.code P.g.kin) (by kernel_rfl) (D.ok _ rfl) (λx c m=>absurd m (Q x c)) (List.Pairwise.nil) (λx c m=>absurd m (Q x c)) (λx m=>P.ok x (by simpa using m)) (λb=>nM) ⟨⟨_,rfl,rfl⟩,⟨_,rfl,rfl⟩,trivial⟩ (λb b=>nM) gb (λb b=>nM) λenv b M s₁ B j k b b I=>iI ?_
 refine bE (mA (mr (n:=n+5) (W:=W.at (env::W.frs)) (C:=cFr) (O:=O) (M:=M) (bl tN) kb (ar1 (nm 1)) B I λs₂ vs d t y=>?_) (by rfl))
 obtain⟨v,rfl,N⟩:=y.a1
 have N:v = .ref a:=N
 subst N
 have z:=I.keep d t
 refine oZ (wpAny_pyIter_gen (i0 Y λo e nt=>aF.obj' (j.trans d:aF s s₂) e nt) ?_)
 refine ad (dB (W:=W.at (env::W.frs)) (C:=cFr) (T:=aE (.ref a)) 2 (by rfl) (iV (by kernel_rfl)) z rfl) (λb q=>And.elim λl u=>?_) λb b e=>False.elim e
 have body:ExP (W.at (env::W.frs)) cFr ⟨[some (aE (.ref 132)),some (aE (.ref a)),some (aE (.ref a)),none],[]⟩ (n+5) ((fM 8 2).2.1.drop 1) (λo=>match o with | .ret Γ' T=>∃x,T=aE (.ref x)/\Γ'.h=[(x,cX 132 (chT cJ (aE (.ref a))))] | _=>False):=by
  refine kg 3 (yk (nm 0) kf dl zL) λx=>?_
  refine gZ (T:=aE (.ref a)) 0 1 (nm 2) (λV v h=>by subst h;exact qC V _ rfl) (nm 3) ?_
  exact bB (nm 3) ⟨x,rfl,rfl⟩
 refine ad (body _ env O M q B u) (λf i h=>?_) λe i h=>?_
 ·obtain⟨F,M',E,R,p,hf⟩:=h
  cases f <;> cases R <;> first | exact hf.elim | exact p.elim | skip
  obtain⟨J,y⟩:=hf
  obtain⟨x,rfl,Z⟩:=p
  have y:_=Value.ref x:=y
  have km:aF s i:=by
   have:ak ⟨[],[]⟩ s i:=((ak.ofK j:ak ⟨[],[]⟩ s s₁).of_ext k ((ak.ofK d).trans (l.trans F)))
   exact this
  obtain⟨q1,b,b,b,ox,K,U,p⟩:=J.phi x _ (by rw[Z];exact .head _)
  have H:s.heap.objs.size<=x:=by
   rcases E.a x q1 with m | m
   ·exact(k.a x m).elim (λm=>absurd m av) id
   ·exact ae (ae (j.trans d).siz l.siz) m
  exact⟨x,ox,y,J.g.back,km,H,K,U,OTy.mono _ (bG λb m=>(aj.mp m).elim (aq _) λm=>al _ (by rw[ah.mp m];exact q1)) p⟩
 ·obtain⟨b,b,b,b,b,b,b,b,p,b⟩:=h
  exact p.elim
structure Rsc(W:Wc)(n:Nat)(it:Value)(Is:List Itm)(F:Fp)(O:List Addr)(M:Fp)(s:Shared):Prop where
 sub:∀a∈F.a,a∈O
 dis:∀a∈F.a,a∉M.a
 dig:∀g∈F.g,g∉M.g
 inb:InB W F s
 itn:ItN W n it Is F (O++M.a) s
theorem Rsc.step(R:Rsc W n it Is F O M s)(k:ak M s s')(x:Ext s M M'):Rsc W n it Is F O M' s' :=
 ⟨R.sub,λa m z=>(x.a a z).elim (R.dis a m) λh=>aw.mpr h (R.inb.a a m).2,λg m z=>(x.g g z).elim (R.dig g m) λh=>aw.mpr h (R.inb.g g m),
  ⟨λa m=>⟨(R.inb.a a m).1,aA (R.inb.a a m).2 k.siz⟩,λg m=>aA (R.inb.g g m) k.gsz⟩,R.itn.move (k.stays R.dis R.dig) (k.vle x)⟩
theorem BC{b:Fp}{M:List Addr}(k:ak b s s')(i:∀a∈b.a,a∈O)(f:∀a∈X,a∈O∨s.heap.objs.size<=a):Vle (am s.heap (O++M)) (am s'.heap ((O++X)++M)):=λa o e g=>by
 have d:=af e
 have c:=a8 e
 simp only[List.mem_append,not_or] at c
 refine aK (k.obj a o (λz=>c.1 (i a z)) d g) λz=>?_
 simp only[List.mem_append] at z
 rcases z with(z | z) | z
 ·exact c.1 z
 ·exact(f a z).elim c.1 λh=>aw.mpr h (aO d)
 ·exact c.2 z
theorem Rsc.other{b:Fp}(R:Rsc W n it Is F O M s)(k:ak b s s')(f:∀a∈b.a,a∈O)(c:∀a∈X,a∈O∨s.heap.objs.size<=a)(e:∀a∈F.a,a∉b.a)(d:∀g∈F.g,g∉b.g):Rsc W n it Is F (O++X) M s' :=
 ⟨λa m=>aq _ (R.sub a m),R.dis,R.dig,⟨λa m=>⟨(R.inb.a a m).1,aA (R.inb.a a m).2 k.siz⟩,λg m=>aA (R.inb.g g m) k.gsz⟩,R.itn.move (k.stays e d) (BC k f c)⟩
theorem Inv.pulled(I:Inv W C env Γ O M s)(k:ak F s s')(g:G W s')(e:∀a∈F.a,a∈O)(i:∀a∈F.a,a∉M.a)(l:∀y c,env.cells.lookup y=some c->c∉F.a)(j:∀a∈X,a∈O∨s.heap.objs.size<=a)(f:∀a∈X,W.H.objs.size<=a/\a<s'.heap.objs.size):Inv W C env Γ (O++X) M s':=by
 have d:Inv W C env Γ (O++F.a) M s:=I.perm λa=>⟨λh=>aq _ h,λh=>(aj.mp h).elim id (e a)⟩
 have b:=d.lent (F':=⟨F.a++X.filter (λa=>decide (s.heap.objs.size<=a)),[]⟩) k g ⟨λa h=>(aj.mp h).imp id λh=>by simpa using(bk.mp h).2,λm=>nM⟩ ⟨λa h=>?_,λm=>nM⟩ i l
 ·refine b.perm λa=>?_
  simp only[List.mem_append,List.mem_filter,decide_eq_true_eq]
  constructor
  ·rintro(h | h | h)
   ·exact .inl h
   ·exact .inl (e a h)
   ·exact .inr h.1
  ·rintro(h | h)
   ·exact .inl h
   ·exact(j a h).imp id λh'=>.inr ⟨h,h'⟩
 ·rcases aj.mp h with h | h
  ·exact⟨(I.up a (aq _ (e a h))).1,aA (I.up a (aq _ (e a h))).2 k.siz⟩
  ·exact f a (bk.mp h).1
inductive Dv(W:Wc)(m:Nat)(it:Value)(F:Fp)(O:List Addr)(M:Fp)(s:Shared)(X:List Addr)(got:Option Value)(s':Shared)(I:Itm)(Is:List Itm):Prop
 | mk (v:Value) (F':Fp) (N:List Addr) (e:got=some v) (hX:X=F'.a++N) (x:Ext s F F') (hN:∀a∈N,s.heap.objs.size<=a/\a<s'.heap.objs.size/\a∉F'.a) (hp:I.p N (am s'.heap ((O++X)++M.a)) s'.heap v) (R:Rsc W m it Is F' (O++X) M s')
def rG(W:Wc)(m:Nat)(it:Value)(F:Fp)(O:List Addr)(M:Fp)(s:Shared)(X:List Addr)(got:Option Value)(s':Shared):List Itm->Prop
 | []=>got=none/\X=[]
 | I::Is=>Dv W m it F O M s X got s' I Is
inductive GN(W:Wc)(C:Cx)(env:Env)(m:Nat)(it:Value)(Is:List Itm)(F:Fp)(O:List Addr)(M:Fp)(s:Shared)(Γ:Option Value->Kn)(f:Flow)(s':Shared):Prop
 | mk (e:f = .next) (got:Option Value) (X:List Addr) (s₂:Shared) (k:ak F s s₂) (k':ak M s₂ s') (hX:∀a∈X,a∈O∨s.heap.objs.size<=a) (I:Inv W C env (Γ got) (O++X) M s') (p:rG W m it F O M s X got s' Is)
inductive GP(W:Wc)(m:Nat)(it:Value)(Is:List Itm)(F:Fp)(O:List Addr)(M:Fp)(s s₂:Shared)(got:Option Value)(s₃:Shared):Prop
 | mk (X:List Addr) (hX:∀a∈X,a∈O∨s.heap.objs.size<=a) (hb:∀a∈X,W.H.objs.size<=a/\a<s₂.heap.objs.size) (ha:∀a∈X,a∉M.a) (p:rG W m it F O M s X got s₃ Is)
theorem rG.keep(h:rG W m it F O M s X got s' Is)(k:ak M s' s'')(g:∀a∈X,a∉M.a):rG W m it F O M s X got s'' Is:=by
 cases Is with
 | nil=>exact h
 | cons I Is =>
  obtain⟨v,F',N,e,rfl,x,b,f,R⟩:=h
  exact⟨v,F',N,e,rfl,x,λa m=>⟨(b a m).1,aA (b a m).2.1 k.siz,(b a m).2.2⟩,I.mono (k.vle (Ext.refl _ _)) (λa m o d c=>k.obj a o (g a (al _ m)) d c) f,R.step k (Ext.refl _ _)⟩
theorem BD:fc W "_pull" 89:=by kernel_rfl
theorem yw{tp Z cp:Pos}(i j:Nat)(hi:C.names[i]? = some x)(hj:C.names[j]? = some y)(a5:fe C x=true)(a2:fe C y=true)(hf:EvP W C Γ n (.Name (S "_pull") Z) (aE (.ref 89)))(he:dJ W C Γ n [e] [aE it])(rm:aU W A n)(I:Inv W C env Γ O M s)(R:Rsc W m it Is F O M s)(hm:m+2<=n)(hc:∀y c,env.cells.lookup y=some c->c∉F.a)(hs:swapsWithSole [.Tuple [.Name x px,.Name y py] k tp] (.Call (.Name (S "_pull") Z) [e] [] cp) pos.line env=pure false)(hw:swappedStores [.Tuple [.Name x px,.Name y py] k tp] (.Call (.Name (S "_pull") Z) [e] [] cp) env=pure none):
  wpAny (model prg W.w) A (exec (.Assign [.Tuple [.Name x px,.Name y py] k tp] (.Call (.Name (S "_pull") Z) [e] [] cp) pos) env) (GN W C env m it Is F O M s λgot=>(Γ.set i (aE (.bool got.isSome))).set j (aE (got.getD .none))) Nev s:=by
 refine wpAny_Assign_stores (mr (n:=n) hf kf he rm I λs₁ vs d Q ht=>?_) hs hw
 obtain⟨v,rfl,hv⟩:=ht.a1
 have hv:v=it:=hv
 subst hv
 have V:=I.keep d Q
 have Y:=R.step (ak.ofK d) (Ext.refl _ _)
 refine ad (Dq (n:=m) Y.itn (λa m=>aq _ (R.sub a m)) (rm.le hm) V.go) (λr q h=>?_) az
 obtain⟨got,a,c,s₂,u,f,L,rfl,ha,hsz⟩:=h
 obtain⟨b3,B⟩:=u.gw
 have kF:ak F s q:=(ak.ofK d).trans (B.trans (ak.ofK f))
 have l:=f.siz
 obtain⟨X,hX,D,a7,a3⟩:GP W m v Is F O M s s₂ got q:=by
  cases Is with
  | nil=>exact⟨[],(λr=>nM),(λr=>nM),(λr=>nM),u.1,rfl⟩
  | cons I₀ Is =>
   obtain⟨w,F',N,rfl,r,r,J,t,E,hp,hI⟩:=u
   have p:Ext s F F':=(Ext.refl s F).trans J d.siz d.gsz
   have K:∀h:Heap,am h (((O++M.a)++F'.a)++N)=am h ((O++(F'.a++N))++M.a):=λh=>cr λb=>by
    simp only[List.mem_append]
    constructor
    ·rintro(((h | h) | h) | h)
     ·exact .inl (.inl h)
     ·exact .inr h
     ·exact .inl (.inr (.inl h))
     ·exact .inl (.inr (.inr h))
    ·rintro((h | (h | h)) | h)
     ·exact .inl (.inl (.inl h))
     ·exact .inl (.inr h)
     ·exact .inr h
     ·exact .inl (.inl (.inr h))
   have nM:∀a∈F'.a,a∉M.a:=λa m z=>(p.a a m).elim (λm=>R.dis a m z) λh=>aw.mpr h (I.up a (al _ z)).2
   refine⟨F'.a++N,λa m=>?_,λa m=>?_,λa m=>?_,w,F',N,rfl,rfl,p,λa m=>⟨ae d.siz (E a m).1,aA (E a m).2.1 l,(E a m).2.2⟩,?_,⟨λa m=>al _ (aq _ m),nM,λg m z=>?_,⟨λa m=>⟨(t.a a m).1,aA (t.a a m).2 l⟩,λg m=>aA (t.g g m) f.gsz⟩,?_⟩⟩
   ·rcases aj.mp m with m | m
    ·exact(p.a a m).imp (R.sub a) id
    ·exact .inr (ae d.siz (E a m).1)
   ·rcases aj.mp m with m | m
    ·exact t.a a m
    ·exact⟨ae (ae I.g.siz d.siz) (E a m).1,(E a m).2.1⟩
   ·rcases aj.mp m with m | m
    ·exact nM a m
    ·exact λz=>aw.mpr (ae d.siz (E a m).1) (I.up a (al _ z)).2
   ·exact I₀.mono (K s₂.heap▸f.vle0 _) (λa r o ho hn=>f.obj' ho hn) hp
   ·exact(p.g g m).elim (λm=>R.dig g m z) λh=>aw.mpr h (I.upg g z)
   ·exact hI.move (f.stays (λr r=>av) (λr r=>av)) (K s₂.heap▸f.vle0 _)
 have H:Inv W C env Γ (O++X) M q:=I.pulled kF L R.sub R.dis hc hX λa m=>⟨(D a m).1,aA (D a m).2 l⟩
 have na:a∉(O++X)++M.a:=λm=>by
  have P:∀b∈O++M.a,b<s₂.heap.objs.size:=λb m=>aA (I.up b m).2 (ae d.siz B.siz)
  simp only[List.mem_append] at m
  rcases m with(m | m) | m
  ·exact aw.mpr hsz (P a (aq _ m))
  ·exact aw.mpr hsz (D a m).2
  ·exact aw.mpr hsz (P a (al _ m))
 refine ad (k9 (px:=px) (py:=py) (tp:=tp) (k:=k) (T:=aE (.bool got.isSome)) (U:=aE (got.getD .none)) i j hi hj a5 a2 Γ A env (O++X) M q (.ref a) rm H ⟨_,⟨a,c,rfl,aK ha na⟩,rfl,rfl,trivial⟩) (λr b1 h=>?_) az
 exact⟨rfl,got,X,q,kF,h.1,hX,h.2,a3.keep h.1 a7⟩
theorem Dw(p:EvP W C Γ n value (bw [U]))(m:EvP W C Γ n slice (bh (-1)))(hs:autoParam (∀o i,subscripted slice false o i=operate [o,i] (getItem o i)) q_R):EvP W C Γ n (.Subscript value slice pos) U:=λA env O M s k I=>by
 refine aa (ad (p A env O M s k I) (λo s₁ d=>aa (aP (ad (m A env O M s₁ k (d.then I)) (λi s₂ b=>aa (ct ?_)) az))) az)
 have f:=(bw [U]).mono (b.2.1.vle0 _) d.2.2
 obtain⟨t,rfl⟩:=b.2.2
 obtain⟨vs,⟨a,c,rfl,j⟩,g⟩:=f
 obtain⟨u,rfl,l⟩:=g.a1
 have v:s₂.TypeIs (.ref a) "list" := ⟨_,af j,rfl⟩
 have q:wpAny (model prg W.w) A (getItem (.ref a) (.int (-1) t)) (λr e=>r=u/\e=s₂) Nev s₂ :=
  wpAny_getItem_list_neg (items:=#[u]) ⟨_,af j,rfl,c,rfl⟩ (by decide) (by show -((1:Nat):Int)<=-1;decide) (by decide) (by rfl) ⟨rfl,rfl⟩
 refine aa ?_
 refine aa (eM v pX.lookup (ac ?_))
 rw[hs]
 refine aa (jA (ad q (λr e h=>aa (mP (ac ?_))) az))
 obtain⟨rfl,rfl⟩:=h
 exact⟨b.1,d.2.1.trans b.2.1,l⟩
theorem Dx(i:Nat)(f:C.names[i]? = some x)(k:Γ.v[i]? = some (some T)){A env O M s}(I:Inv W C env Γ O M s):wpAny (model prg W.w) A (loadName env x) (λv s'=>s'=s/\T.p (am s.heap (O++M.a)) v) Nev s:=by
 obtain⟨m,h,j⟩:=I.loc
 obtain⟨v,sl,e⟩:=j i x T f k
 have nm:=I.ok.cx.nm x (be f)
 rcases sl with⟨d,l⟩ | ⟨d | d,c,g,b⟩
 ·exact sU I.ok.kind (I.ok.of d) h l ⟨rfl,e⟩
 ·exact sV I.ok.kind (I.ok.of d) g b ⟨rfl,e⟩
 ·exact pz I.ok.kind (I.ok.of d) g b ⟨rfl,e⟩ (EC nm)
theorem BE{d cp j:Pos}{e:Sem Value}(i:Nat)(n:C.names[i]? = some x)(t:Γ.v[i]? = some (some (bw [U])))(r:C.scope.names.lookup (S "len")=some .globalImplicit)(I:Inv W C env Γ O M s)(q:autoParam (behindInMarks .Eq (.Constant (.int 1) k j)=false) q_W)(hs:autoParam (starEach [Expr.Name x d] env=(false,eval (.Name x d) env)::starEach [] env) q_R):
  wpAny (model prg W.w) A (isTrue (.Compare (.Call (.Name (S "len") p) [.Name x d] [] cp) [.Eq] [.Constant (.int 1) k j] pos) env e) (λb s'=>b=true/\∃tk,s'={ s with toks:=tk }) Nev s:=by
 refine sW ?_ q
 refine(?_:wpAny _ A (do callWith cp (← eval (.Name (S "len") p) env) [] (backTo cp (starEach [.Name x d] env)) (backToKw cp (keywordEach [] env))) _ _ s)
 refine aa (pA I.ok.kind (I.ok.of r) (pB (by rw[I.ok.glob];exact I.g.glob) (mg_none_of I.g.kin I.g.glob cu.1) (by rw[I.ok.bui];exact I.g.bui) ((I.g.boot _ (cu (W:=W)).2.2).trans (cu (W:=W)).2.1) ?_) (by decide +kernel))
 refine dO (P:=KeP W (.builtin "len")) rfl (λh p=>p) ?_
 refine bU (ns:=[]) rfl rfl ?_
 refine(?_:wpAny _ A (spliced ((false,eval (.Name x d) env)::backTo cp (starEach [] env))) _ _ s)
 refine je (wpAny_Name (ad (Dx i n t I) (λv s₁ l=>ac (ac ?_)) az) (wk (I.ok.cx.nm x (be n))))
 obtain⟨rfl,m⟩:=l
 obtain⟨vs,⟨a,c,rfl,o⟩,f⟩:=m
 obtain⟨u,rfl,m⟩:=f.a1
 refine⟨kb _ I.g,call_len_list (items:=#[u]) ⟨_,af o,rfl,c,rfl⟩ (by show((1:Nat):Int)<2 ^ 63;decide) ?_⟩
 refine wpAny_Constant_int (eq_int (gW ⟨by rfl,_,rfl⟩))
theorem BF{H cp y:Pos}{g:Sem Value}(hf:EvP W C Γ n (.Name (S "type") H) (aE (.type "type")))(U:dJ W C Γ n [e] [aE it])(X:EvP W C Γ n (.Name (S "chain") y) (aE (.ref 132)))(J:aU W A n)(I:Inv W C env Γ O M s)(B:r7 it F s)(L:autoParam (behindInMarks .Is (.Name (S "chain") y)=false) q_W):
  wpAny (model prg W.w) A (isTrue (.Compare (.Call (.Name (S "type") H) [e] [] cp) [.Is] [.Name (S "chain") y] pos) env g) (λb s'=>b=false/\G W s'/\aF s s') Nev s:=by
 refine sW (mr hf kt U J I λs₁ vs f p N=>?_) L
 obtain⟨v,rfl,E⟩:=N.a1
 have E:v=it:=E
 subst E
 obtain⟨a,o,rfl,m,T,hn,D⟩:=B.stay (f.stays (λaa aa=>av) (λaa aa=>av))
 have r:=I.keep f p
 have j:∀c:Value,o.cls=c->(c == .type "builtin_function_or_method")=false->(∀s₂,G W s₂->∀(Q:Value->Shared->Prop),Q (.bool false) s₂->wpAny (model prg W.w) A (compareOp .Is c (.ref 132)) Q Nev s₂)->wpAny (model prg W.w) A (call (.type "type") [.ref a]) (λx s₁=>wpAny (model prg W.w) A (eval (.Name (S "chain") y) env) (λb s₂=>wpAny (model prg W.w) A (compareOp .Is x b) (λc i=>wpAny (model prg W.w) A (truthy c) (λb s'=>b=false/\G W s'/\aF s s') Nev i) Nev s₂) Nev s₁) Nev s₁:=λc P h1 R=>by
  subst P
  obtain⟨hh,gg,dr,tk,os⟩:=s₁
  refine call_type_obj T h1 (ad (X A env O M _ J r) (λb s₂ u=>?_) az)
  obtain⟨d,t,z⟩:=u
  have z:b = .ref 132:=z
  subst z
  exact R _ d _ (gW ⟨rfl,d,f.trans t⟩)
 rcases D with h | h
 ·exact j _ h (by decide) λs₂ aa Q q=>wpAny_is_other (by rfl) (by simp) q
 ·refine j _ h (by rfl) λs₂ d Q q=>?_
  have l:(W.K.lookup 176).any (λo=>o.cls == .type "type")=true:=by kernel_rfl
  have k:(W.K.lookup 132).any (λo=>o.cls == .type "type")=true:=by kernel_rfl
  obtain⟨o1,Y,Z⟩:=cB l
  obtain⟨o2,V,c2⟩:=cB k
  exact wpAny_is_ref_other (by decide) (d.kin _ _ Y) (d.kin _ _ V) (by rw[aL.mp Z];decide) q
noncomputable def zM:Option Addr->Ty | none=>cJ | some a=>aE (.ref a)
noncomputable abbrev Er(l:List Nat)(cs:List (List Nat)):List Itm:=cs.map λc=>(bH ((aS l c).map ag)).itm
noncomputable abbrev F2(Fs Fa:Fp):Fp:=⟨Fs.a++Fa.a,Fs.g++Fa.g⟩
structure ChB(W:Wc)(C:Cx)(env:Env)(F₀:Fp)(O₀:List Addr)(s₀:Shared)(Γ:Kn)(T:Fp)(O:List Addr)(M:Fp)(s:Shared):Prop where
 k:ak F₀ s₀ s
 e:Ext s₀ F₀ (F2 M T)
 o1:∀a∈O₀,a∈O
 o2:∀a∈O,a∈O₀∨s₀.heap.objs.size<=a
 I:Inv W C env Γ O M s
section
variable {T:Fp}
theorem ChB.upd(B:ChB W C env F₀ O₀ s₀ Γ T O M s)(k:ak M s s')(x:Ext s M M')(I:Inv W C env Γ' O M' s'):ChB W C env F₀ O₀ s₀ Γ' T O M' s' :=
 ⟨B.k.of_ext B.e (bK k (λa m=>aq _ m) λa m=>aq _ m),
  ⟨λa m=>(aj.mp m).elim (λm=>(x.a a m).elim (λm=>B.e.a a (aq _ m)) λh=>.inr (ae B.k.siz h)) λm=>B.e.a a (al _ m),
  λa m=>(aj.mp m).elim (λm=>(x.g a m).elim (λm=>B.e.g a (aq _ m)) λh=>.inr (ae B.k.gsz h)) λm=>B.e.g a (al _ m)⟩,B.o1,B.o2,I⟩
theorem ChB.pull{d:Fp}(B:ChB W C env F₀ O₀ s₀ Γ T O M s)(k:ak F s s₂)(l:∀a∈F.a,a∈T.a)(j:∀a∈F.g,a∈T.g)(i:ak M s₂ s')(f:∀a∈X,a∈O∨s.heap.objs.size<=a)(c:Ext s T d)(I:Inv W C env Γ' (O++X) M s'):ChB W C env F₀ O₀ s₀ Γ' d (O++X) M s':=by
 have b:ak F₀ s₀ s₂:=B.k.of_ext B.e (bK k (λa m=>al _ (l a m)) λa m=>al _ (j a m))
 refine⟨b.of_ext B.e (bK i (λa m=>aq _ m) λa m=>aq _ m),⟨λa m=>?_,λa m=>?_⟩,λa m=>aq _ (B.o1 a m),λa m=>?_,I⟩
 ·rcases aj.mp m with m | m
  ·exact B.e.a a (aq _ m)
  ·exact(c.a a m).elim (λm=>B.e.a a (al _ m)) λh=>.inr (ae B.k.siz h)
 ·rcases aj.mp m with m | m
  ·exact B.e.g a (aq _ m)
  ·exact(c.g a m).elim (λm=>B.e.g a (al _ m)) λh=>.inr (ae B.k.gsz h)
 ·rcases aj.mp m with m | m
  ·exact B.o2 a m
  ·exact(f a m).elim (B.o2 a) λh=>.inr (ae B.k.siz h)
structure ChS(W:Wc)(C:Cx)(env:Env)(m:Nat)(l:List Nat)(src:Addr)(F₀:Fp)(O₀:List Addr)(s₀:Shared)(Γ:Kn)(act:Option Addr)(rs:List Nat)(cs:List (List Nat))(Fs Fa:Fp)(O:List Addr)(M:Fp)(s:Shared):Prop where
 B:ChB W C env F₀ O₀ s₀ Γ (F2 Fs Fa) O M s
 R:Rsc W m (.ref src) (rs.map (sL l)) Fs O M s
 A:∀a,act=some a->Rsc W m (.ref a) (Er l cs) Fa O M s
 dj:∀a∈Fs.a,a∉Fa.a
 dg:∀a∈Fs.g,a∉Fa.g
 n0:act=none->cs=[]/\Fa=⟨[],[]⟩
 rb:∀r∈rs,r<=4
theorem ChS.upd(Z:ChS W C env m l src F₀ O₀ s₀ Γ act rs cs Fs Fa O M s)(k:ak M s s')(x:Ext s M M')(I:Inv W C env Γ' O M' s'):ChS W C env m l src F₀ O₀ s₀ Γ' act rs cs Fs Fa O M' s' :=
 ⟨Z.B.upd k x I,Z.R.step k x,λa e=>(Z.A a e).step k x,Z.dj,Z.dg,Z.n0,Z.rb⟩
theorem ChS.st{a:Stmt}{Q:Flow->Shared->Prop}(Z:ChS W C env m l src F₀ O₀ s₀ Γ act rs cs Fs Fa O M s)(c:aU W A n)(h:StP W C Γ n a (λo=>o = .next Γ'))(b:∀M' s',ChS W C env m l src F₀ O₀ s₀ Γ' act rs cs Fs Fa O M' s'->Q .next s'):wpAny (model prg W.w) A (exec a env) Q E s :=
 ad (h A env O M s c Z.B.I) (λf s' h=>by
  obtain⟨k,M',x,o,rfl,hf⟩:=h
  cases f <;> first | exact hf.elim | exact b M' s' (Z.upd k x hf)) λe s' h=>by
  obtain⟨e,e,e,e,e,e,e,e,d,e⟩:=h
  cases d
theorem ChS.pullA{tp q cp:Pos}{Q:Flow->Shared->Prop}(Z:ChS W C env m l src F₀ O₀ s₀ Γ (some a) rs cs Fs Fa O M s)(rm:aU W A n)(Y:m+2<=n)(d:env.cells=[])(hi:C.names[i]? = some x)(hj:C.names[j]? = some y)(H:fe C x=true)(u:fe C y=true)(hf:EvP W C Γ n (.Name (S "_pull") q) (aE (.ref 89)))(he:dJ W C Γ n [e] [aE (.ref a)])(hs:swapsWithSole [.Tuple [.Name x px,.Name y py] k tp] (.Call (.Name (S "_pull") q) [e] [] cp) pos.line env=pure false)(V:swappedStores [.Tuple [.Name x px,.Name y py] k tp] (.Call (.Name (S "_pull") q) [e] [] cp) env=pure none)(h0:cs=[]->∀O' M' s',ChS W C env m l src F₀ O₀ s₀ ((Γ.set i (aE (.bool false))).set j (aE .none)) none rs [] Fs ⟨[],[]⟩ O' M' s'->Q .next s')(h1:∀c o,cs=c::o->∀v K O' M' s',ChS W C env m l src F₀ O₀ s₀ ((Γ.set i (aE (.bool true))).set j (aE v)) (some a) rs o Fs K O' M' s'->(bH ((aS l c).map ag)).p (am s'.heap (O'++M'.a)) v->Q .next s'):
  wpAny (model prg W.w) A (exec (.Assign [.Tuple [.Name x px,.Name y py] k tp] (.Call (.Name (S "_pull") q) [e] [] cp) pos) env) Q E s:=by
 have P:=Z.A a rfl
 refine ad (yw i j hi hj H u hf he rm Z.B.I P Y (λy c h=>by rw[d] at h;cases h) hs V) (λf s' h=>?_) az
 obtain⟨rfl,got,X,s₂,t,J,D,U,T⟩:=h
 have L:Rsc W m (.ref src) (rs.map (sL l)) Fs (O++X) M s':=(Z.R.other t P.sub D Z.dj Z.dg).step J (Ext.refl _ _)
 cases cs with
 | nil =>
  obtain⟨rfl,rfl⟩:=T
  exact h0 rfl _ M s' ⟨Z.B.pull t (λa m=>al _ m) (λa m=>al _ m) J D ⟨λa m=>.inl (by simpa using Or.inl m),λa m=>.inl (by simpa using Or.inl m)⟩ U,L,(λa=>nS),(λf f=>nM),(λf f=>nM),λf=>⟨rfl,rfl⟩,Z.rb⟩
 | cons c cs =>
  obtain⟨v,F',N,rfl,a1,r,hN,F,R'⟩:=T
  obtain⟨rfl,F⟩:=F
  exact h1 c cs rfl v F' _ M s' ⟨Z.B.pull t (λa m=>al _ m) (λa m=>al _ m) J D ⟨λa m=>(aj.mp m).elim (λm=>.inl (aq _ m)) λm=>(r.a a m).imp (al _) id,λa m=>(aj.mp m).elim (λm=>.inl (aq _ m)) λm=>(r.g a m).imp (al _) id⟩ U,L,(λb e=>by cases e;exact R'),λb m z=>(r.a b z).elim (Z.dj b m) λh=>aw.mpr h (Z.R.inb.a b m).2,λb m z=>(r.g b z).elim (Z.dg b m) λh=>aw.mpr h (Z.R.inb.g b m),(λe=>nomatch e),Z.rb⟩ F
theorem ChS.pullS{tp u cp:Pos}{Q:Flow->Shared->Prop}(Z:ChS W C env (m+4) l src F₀ O₀ s₀ Γ none rs cs Fs Fa O M s)(hl:l.length<=4)(rm:aU W A n)(hm:m+6<=n)(d:env.cells=[])(hi:C.names[i]? = some x)(hj:C.names[j]? = some y)(K:fe C x=true)(F:fe C y=true)(hf:EvP W C Γ n (.Name (S "_pull") u) (aE (.ref 89)))(he:dJ W C Γ n [e] [aE (.ref src)])(hs:swapsWithSole [.Tuple [.Name x px,.Name y py] k tp] (.Call (.Name (S "_pull") u) [e] [] cp) pos.line env=pure false)(hw:swappedStores [.Tuple [.Name x px,.Name y py] k tp] (.Call (.Name (S "_pull") u) [e] [] cp) env=pure none)(h0:rs=[]->∀O' M' s',ChB W C env F₀ O₀ s₀ ((Γ.set i (aE (.bool false))).set j (aE .none)) Fs O' M' s'->Q .next s')(h1:∀r q,rs=r::q->∀o D p O' M' s',ChS W C env (m+4) l src F₀ O₀ s₀ ((Γ.set i (aE (.bool true))).set j (aE (.ref o))) (some o) q (du l.length r) D p O' M' s'->(∃L,sg W o L true l r (decide (l.length<r)) (List.range r) p.a (O'++M'.a) s')->Q .next s'):
  wpAny (model prg W.w) A (exec (.Assign [.Tuple [.Name x px,.Name y py] k tp] (.Call (.Name (S "_pull") u) [e] [] cp) pos) env) Q E s:=by
 obtain⟨rfl,rfl⟩:=Z.n0 rfl
 refine ad (yw i j hi hj K F hf he rm Z.B.I Z.R hm (λy c h=>by rw[d] at h;cases h) hs hw) (λf s' h=>?_) az
 obtain⟨rfl,got,X,s₂,Y,kM,U,I',pa⟩:=h
 cases rs with
 | nil =>
  obtain⟨rfl,rfl⟩:=pa
  exact h0 rfl _ M s' (Z.B.pull Y (λa m=>aq _ m) (λa m=>aq _ m) kM U ⟨λa m=>.inl (aq _ m),λa m=>.inl (aq _ m)⟩ I')
 | cons r rs =>
  obtain⟨v,F',N,rfl,J,T,t,hp,R'⟩:=pa
  have hr:r<=4:=Z.rb r (.head _)
  have V:∀a∈N,W.H.objs.size<=a/\a<s'.heap.objs.size:=λa m=>⟨ae Z.B.I.g.siz (t a m).1,(t a m).2.1⟩
  have P:∀a∈N,a∈O++X:=λa m=>al _ (by rw[J];exact al _ m)
  obtain⟨o,L,rfl,hx,ca,hI⟩:=vF (n:=m) hl hr V (λa m=>aq _ (P a m)) hp
  refine h1 r rs rfl o F' ⟨N,[]⟩ _ M s' ⟨Z.B.pull Y (λa m=>aq _ m) (λa m=>aq _ m) kM U ⟨λa m=>(aj.mp m).elim (λm=>(T.a a m).imp (aq _) id) λm=>.inr (t a m).1,λa m=>(aj.mp m).elim (λm=>(T.g a m).imp (aq _) id) nM⟩ I',R',(λb e=>?_),λb m z=>(t b z).2.2 m,(λf f=>nM),(λe=>nomatch e),λr m=>Z.rb r (.tail _ m)⟩ ⟨L,ca⟩
  cases e
  exact⟨P,λa m z=>aw.mpr (t a m).1 (Z.B.I.up a (al _ z)).2,(λf=>nM),⟨V,λf=>nM⟩,hI⟩
end
section
variable {T:Fp}
theorem Inv.sub(I:Inv W C env Γ O M s)(c:ti Γ.v Γ'.v)(a:Γ'.h=Γ.h):Inv W C env Γ' O M s:=by
 obtain⟨m,f,d⟩:=I.loc
 exact⟨I.g,I.ok,I.own,I.cel,I.up,I.upg,⟨m,f,λi x T b e=>d i x T b (c.at i T e)⟩,I.cells,by refine a ▸ ?_;exact I.phi,by rw[a];exact I.nod,I.top⟩
theorem ChS.weak(Z:ChS W C env m l src F₀ O₀ s₀ Γ act rs cs Fs Fa O M s)(a:ti Γ.v Γ'.v)(b:Γ'.h=Γ.h):ChS W C env m l src F₀ O₀ s₀ Γ' act rs cs Fs Fa O M s :=
 ⟨⟨Z.B.k,Z.B.e,Z.B.o1,Z.B.o2,Z.B.I.sub a b⟩,Z.R,Z.A,Z.dj,Z.dg,Z.n0,Z.rb⟩
theorem ChS.keep(Z:ChS W C env m l src F₀ O₀ s₀ Γ act rs cs Fs Fa O M s)(k:aF s s')(g:G W s'):ChS W C env m l src F₀ O₀ s₀ Γ act rs cs Fs Fa O M s':=Z.upd (ak.ofK k) (Ext.refl _ _) (Z.B.I.keep k g)
theorem ChS.if_{a:List Stmt}{Q:Flow->Shared->Prop}{b:Bool}(Z:ChS W C env m l src F₀ O₀ s₀ Γ act rs cs Fs Fa O M s)(d:aU W A n)(c:TsP W C Γ n test b)(h:∀s',aF s s'->ChS W C env m l src F₀ O₀ s₀ Γ act rs cs Fs Fa O M s'->wpAny (model prg W.w) A (execs (if b then body else a) env) Q E s'):wpAny (model prg W.w) A (exec (.If test body a pos) env) Q E s :=
 wpAny_If (ad (c A env O M s d Z.B.I) (λr s₁=>xz λe g k=>by subst e;have:=h s₁ k (Z.keep k g);cases r <;> exact this) az)
structure Fly(W:Wc)(F₀:Fp)(s₀:Shared)(e:Value)(s:Shared):Prop where
 g:G W s
 k:ak F₀ s₀ s
 x:∃X,(∀a∈X,s₀.heap.objs.size<=a/\W.H.objs.size<=a/\a<s.heap.objs.size)/\fJ s.heap X "StopIteration" true e
theorem Fly.step{e:Value}(k:ak F₀ s₀ s)(d:∀a∈X,s₀.heap.objs.size<=a)(c:fK W X X' s s')(f:fJ s'.heap X' "StopIteration" true e):Fly W F₀ s₀ e s' :=
 ⟨c.g,k.of_ext (M':=⟨F₀.a++X,F₀.g⟩) ⟨λa m=>(aj.mp m).imp id (d a),λi=>.inl⟩ (bK c.k (λa m=>al _ m) λi=>nM),
  X',λa m=>⟨(c.x a m).elim (d a) λh=>ae k.siz h,c.b a m⟩,f⟩
theorem Fly.note{e:Value}{Q:Unit->Shared->Prop}(f:Fly W F₀ s₀ e s)(c:A.frames=some W.frs)(b:∃e l,W.frs=e::l/\e.frame=env.frame)(h:∀s',Fly W F₀ s₀ e s'->Q () s'):wpAny (model prg W.w) A (noteFrame e env) Q E s:=by
 obtain⟨g,k,X,i,j⟩:=f
 exact qw c g b (λa m=>(i a m).2) j λs' X' n d=>h s' (Fly.step k (λa m=>(i a m).1) n d)
theorem Fly.flight{e:Value}{i:Option Addr}{Q:Unit->Shared->Prop}(f:Fly W F₀ s₀ e s)(h:∀s',Fly W F₀ s₀ e s'->Q () s'):wpAny (model prg W.w) A (setFlight e i) Q E s:=by
 obtain⟨g,k,X,c,d⟩:=f
 exact ib g (λa m=>(c a m).2) d λs' j b=>h s' (Fly.step k (λa m=>(c a m).1) j b)
theorem Fly.back{e:Value}(f:Fly W F₀ s₀ e s)(h:∀s',Fly W F₀ s₀ e s'->E e s'):cameBackBy (model prg W.w) A env E e s:=by
 obtain⟨X,j,d⟩:=f.x
 obtain⟨b,o,vs,rfl,j,c,j,hd,j,a⟩:=d.exc
 rcases a with⟨j,a⟩ | ⟨T,i,g,a,j⟩
 ·cases a
 refine(?_:wpAny _ A (do
  if(← field (.ref b) 1) == .none then unsupported "frame.own-activation:exception-without-traceback"
  setFlight (.ref b) env.frame) _ _ s)
 exact aa (eW c hd a (f.flight h))
theorem Fly.again{e:Value}{Q:Flow->Shared->Prop}(f:Fly W F₀ s₀ e s)(h:∀s',Fly W F₀ s₀ e s'->E e s'):wpAny (model prg W.w) (A.mark (some e)) (exec (.Raise none none pos) env) Q E s:=by
 obtain⟨X,k,g⟩:=f.x
 obtain⟨b,o,vs,rfl,k,c,k,hd,k,a⟩:=g.exc
 rcases a with⟨k,a⟩ | ⟨T,j,i,a,k⟩
 ·cases a
 show wpAny _ _ (do standAt pos;raiseStmt env none none) Q E s
 refine aa (ct ?_)
 unfold raiseStmt
 refine aa (mX ?_)
 refine(?_:wpAny _ _ (do
  rule "raise.bare"
  if(← field (.ref b) 1) == .none then unsupported "raise.bare:exception-without-traceback"
  setFlight (.ref b) env.frame
  throw (.ref b)) Q E s)
 refine aa (da (aa (eW c hd a ?_)))
 exact aa (f.flight λs' d=>kQ (h s' d))
theorem zN{x:Addr}{f z:Bool}{r:Nat}{N:List Addr}(c:sg W x L f l r z idx N H s)(y:aU W A (n+1))(t:GO W H' s):wpAny (model prg W.w) A (pyIter (.ref x)) (λv s'=>v = .ref x/\G W s'/\aF s s') Nev s:=by
 obtain⟨ox,k,D,p,⟨dx,od,hd,q,D⟩,d,D⟩:=c.o x _ (.head _)
 have B:InstAt s.heap x ox 176 (some od):=⟨k,p,by unfold notCls;rw[d],by rw[hd];exact af q⟩
 have u:∀L m,Fr (hK W) L s.heap m->wpAny (model prg W.w) A (pyIter (.ref x)) (λv s'=>v = .ref x/\G W s'/\aF s s') Nev s:=λL m F=>by
  refine owit_iter (K:=W.K) (C:=176) (x:=x) (L:=L) (f:=165) (h₀:=hK W) (m:=m) (ox:=ox) (od:=some od) F (qF t.g) B vG Bt ?_
  refine ad (yt (n:=n) A _ s [.ref x] [] y t ⟨rfl,trivial⟩ trivial) (λw j h=>?_) az
  obtain⟨b,a,rfl⟩:=h
  have i:InstAt j.heap x ox 176 (some od):=⟨a.obj' k (kZ d),p,by unfold notCls;rw[d],by rw[hd];exact a.obj' (af q) (by assumption)⟩
  exact aa (i.type.here ((fB b.kin vH).here ⟨rfl,b,a⟩))
 exact fE (qG t) λL e=>fE e λm F=>u L m F
theorem sg.keep{x:Addr}{f d:Bool}{r:Nat}{N:List Addr}(c:sg W x L f l r d idx N H s)(k:aF s s'):sg W x L f l r d idx N H s' :=
 ⟨c.hx,c.hL,c.sub,⟨λa m=>⟨(c.inb.a a m).1,aA (c.inb.a a m).2 k.siz⟩,λh=>nM⟩,λa P m=>(c.o a P m).rec λo g b e=>⟨o,k.obj' g b,b,P.mono (k.vle0 _) e⟩⟩
end
abbrev cNx:Cx:=⟨(fM 8 4).2.2,[S "self",S "path",S "top",S "more",S "iterable",S "active",S "item"],[],none⟩
abbrev nxB:List Stmt:=(stF (nth (fM 8 4).2.1 1)).2.1
abbrev chH(x src:Addr)(T:Ty):List (Addr×OTy):=[(x,cX 132 (chT T (aE (.ref src))))]
abbrev Γt(x src:Addr)(T:Ty)(a:Option Ty):Kn:=⟨[some (aE (.ref x)),some (bw [aE (.ref x)]),a,none,none,none,none],chH x src T⟩
section
variable {x:Addr} {Q:Flow->Shared->Prop}
theorem yx:fc W "chain" 132:=by kernel_rfl
theorem yy(Z:ChS W cNx env (m+4) l src F₀ O₀ s₀ (Γt x src (aE (.ref a)) (some (aE (.ref x)))) (some a) rs cs Fs Fa O M s)(r:aU W A n)(U:m+6<=n)(D:env.cells=[])(J:∀c o,cs=c::o->∀v u O' M' s' Γ',ChS W cNx env (m+4) l src F₀ O₀ s₀ Γ' (some a) rs o Fs u O' M' s'->Γ'.h=chH x src (aE (.ref a))->(bH ((aS l c).map ag)).p (am s'.heap (O'++M'.a)) v->Q (.ret v) s')(t:cs=[]->∀O' M' s',ChS W cNx env (m+4) l src F₀ O₀ s₀ (Γt x src cJ none) none rs [] Fs ⟨[],[]⟩ O' M' s'->Q .next s'):wpAny (model prg W.w) A (execs (nxB.drop 2) env) Q E s:=by
 refine bE (Z.st r (lI 5 (T:=aE (.ref a)) (by rfl) (by kernel_rfl) (by intro f;rfl) (fq (Ts:=chT (aE (.ref a)) (aE (.ref src))) 0 0 (nm 2) (by rfl)) rfl) λR s₁ k=>?_)
 refine bE (wpAny_If (ad (BF (bl Bd) (ar1 (nm 5)) (gl _ yx) r k.B.I (k.A a rfl).itn.ok) (λb s₂ h=>?_) az))
 obtain⟨rfl,F,L⟩:=h
 have H:=k.keep L F
 refine cZ ?_
 refine bE (H.pullA r U D (i:=3) (j:=6) (by rfl) (by rfl) (by kernel_rfl) (by kernel_rfl) (gl _ BD) (ar1 (nm 5)) (by rfl) rfl (λe O' M' s' P=>?_) λc o e v u O' M' s' P V=>?_)
 ·refine bE (P.if_ r (b:=false) (jO (nm 3)) λz f d=>cZ ?_)
  refine bE (ad (tU (T:=cJ) 0 0 r d.B.I (eX _ _ _ _ _ r d.B.I) s9 (nm 2) (by rfl) (by kernel_rfl) (by rfl)) (λf q h=>?_) az)
  obtain⟨rfl,g,y⟩:=h
  exact cZ (t e _ _ _ ((d.upd g (Ext.refl _ _) y).weak (by exact rfl) rfl))
 ·refine bE (P.if_ r (b:=true) (jO (nm 3)) λz K d=>?_)
  refine bE (jY (ad (pD (T:=aE v) 6 (by rfl) (by rfl) A env _ _ _ r d.B.I) (λw q h=>?_) az))
  obtain⟨C,g,N⟩:=h
  have N:w=v:=N
  subst N
  exact J c o e w u O' M' q _ (d.keep g C) rfl (Ty.mono _ ((K.trans g).vle0 _) V)
end
section
variable {x:Addr} {Q:Flow->Shared->Prop}
theorem Fly.toks{e:Value}(f:Fly W F₀ s₀ e s):Fly W F₀ s₀ e { s with toks:=tk }:=⟨f.g.tok,f.k.trans (ak.ofK aF.tok),f.x⟩
theorem Dy(hl:l.length<=4)(Z:ChS W cNx env (m+4) l src F₀ O₀ s₀ (Γt x src (zM act) (some (aE (.ref x)))) act rs cs Fs Fa O M s)(u:aU W A n)(hm:m+6<=n)(N:env.cells=[])(a4:∀c J d,cs++rs.flatMap (du l.length)=c::(J++d.flatMap (du l.length))->∀a v Y a2 O' M' s' Γ',ChS W cNx env (m+4) l src F₀ O₀ s₀ Γ' (some a) d J Y a2 O' M' s'->Γ'.h=chH x src (aE (.ref a))->(bH ((aS l c).map ag)).p (am s'.heap (O'++M'.a)) v->Q (.ret v) s')(P:∀d Y O' M' s',d.length<rs.length+(if act.isSome then 1 else 0)->cs++rs.flatMap (du l.length)=d.flatMap (du l.length)->ChS W cNx env (m+4) l src F₀ O₀ s₀ (Γt x src cJ none) none d [] Y ⟨[],[]⟩ O' M' s'->Q .next s')(b5:cs++rs.flatMap (du l.length)=[]->∀e s',Fly W F₀ s₀ e s'->E e s'):wpAny (model prg W.w) A (execs (nxB.drop 1) env) Q E s:=by
 cases act with
 | some a =>
  refine bE (jH ?_)
  refine bE (Z.if_ u (b:=false) (cp (fq (Ts:=chT (aE (.ref a)) (aE (.ref src))) (T:=aE (.ref src)) 0 1 (nm 2) (by rfl)) eX (fh λV v h=>by subst h;rfl)) λs₁ r R=>cZ ?_)
  refine bE (R.if_ u (b:=false) (cp (fq (Ts:=chT (aE (.ref a)) (aE (.ref src))) (T:=aE (.ref a)) 0 0 (nm 2) (by rfl)) eX (fh λV v h=>by subst h;rfl)) λs₂ r K=>cZ (cZ (cZ ?_)))
  refine yy K u hm N (λc J e v a2 O' M' s' Γ' U hh ht=>?_) λe O' M' s' U=>?_
  ·subst e;exact a4 c J rs rfl a v _ _ _ _ _ _ U hh ht
  ·subst e;exact P rs _ _ _ _ (by simp) rfl U
 | none =>
  obtain⟨rfl,rfl⟩:=Z.n0 rfl
  refine bE (jH ?_)
  refine bE (Z.if_ u (b:=false) (cp (fq (Ts:=chT cJ (aE (.ref src))) (T:=aE (.ref src)) 0 1 (nm 2) (by rfl)) eX (fh λV v h=>by subst h;rfl)) λs₁ r R=>cZ ?_)
  refine bE (R.if_ u (b:=true) (cp (fq (Ts:=chT cJ (aE (.ref src))) (T:=cJ) 0 0 (nm 2) (by rfl)) eX (fh λV v h=>by subst h;rfl)) λs₂ r K=>?_)
  refine xB λh1 g2 c4 b1=>?_
  refine bE (jH (bE (K.pullS hl u hm N (i:=3) (j:=4) (by rfl) (by rfl) (by kernel_rfl) (by kernel_rfl) (gl _ BD) (ar1 (fq (Ts:=chT cJ (aE (.ref src))) (T:=aE (.ref src)) 0 1 (nm 2) (by rfl))) (by rfl) rfl (λe O' M' s' B'=>?_) λr d e xa Y a2 O' M' s' U e1=>?_)))
  ·refine cZ (cZ ?_)
   subst e
   refine bE (wpAny_If (ad (mh (jO (nm (T:=aG false) 3)) A env O' M' s' u B'.I) (λb a3 h=>?_) λr r e=>False.elim e))
   obtain⟨rfl,c6,F⟩:=h
   have D:=B'.upd (ak.ofK F) (Ext.refl _ _) (B'.I.keep F c6)
   let Pr:ja->Prop:=λo=>match o with | .exc Γ' c=>c = "StopIteration" /\ Γ'.v[1]? = some (some (bw [aE (.ref x)])) | _=>False
   refine ad ((?raise:ExP W cNx (((Γt x src cJ (some (aE (.ref x)))).set 3 (aE (.bool false))).set 4 (aE .none)) n _ Pr) A env O' M' a3 u D.I) (λf y h=>?_) λe y h=>?_
   case raise=>exact gZ (T:=cJ) 0 1 eX s9 (nm 2) (lu (bl rz) (by exact⟨rfl,rfl⟩))
   ·obtain⟨r,r,r,oc,hp,hf⟩:=h
    cases oc <;> first | exact hp.elim | (cases f <;> exact hf.elim)
   ·obtain⟨q,g0,X,h0,d9,f0,f5,cls,⟨rfl,f1⟩,t,tr,hx⟩:=h
    have c3:ak F₀ s₀ y:=D.k.of_ext D.e (bK q (λa m=>aq _ m) λa m=>aq _ m)
    have f2:∀a∈X,W.H.objs.size<=a/\a<y.heap.objs.size:=λa m=>t.up a (aq _ (al _ m))
    have c7:∀a∈X,s₀.heap.objs.size<=a:=λa m=>ae D.k.siz (d9 a m)
    refine b1 _ _ ?_
    refine rF (W:=W) (X:=X) u t.ok t.g t.top f2 hx (by kernel_rfl) rz (by kernel_rfl) yv BB oQ λa5 X' st a6=>?_
    have z:=t.xstep st f0 hx.flds
    have e0:Fly W F₀ s₀ e a5:=Fly.step c3 c7 st a6
    refine bE (wpAny_If (ad (BE 1 (by rfl) f1 (by kernel_rfl) z) (λb g1 h=>?_) λr r e=>False.elim e))
    obtain⟨rfl,tk,rfl⟩:=h
    refine bE (e0.toks.again λf6 b6=>?_)
    refine b6.note (env:=env) u.fr z.top λh2 b3=>b3.back λc2 b2=>b5 rfl e c2 b2
  ·subst e
   obtain⟨L,ca⟩:=e1
   refine cZ (cZ ?_)
   refine bE (U.if_ u (b:=false) (mh (jO (nm (T:=aG true) 3))) λa3 F C=>cZ ?_)
   have e4:gH (aE (.ref xa)):=λV v h=>by subst h;exact qC V _ rfl
   refine bE (jH (bE (ad (tU (T:=aE (.ref xa)) 0 0 u C.B.I (mr (bl tN) kb (ar1 (nm (T:=aE (.ref xa)) 4)) u C.B.I λy vs q c1 ht=>?_) e4 (nm 2) (by rfl) (by kernel_rfl) (by rfl)) (λf a5 h=>?_) λr r e=>False.elim e)))
   ·obtain⟨v,rfl,hv⟩:=ht.a1
    have hv:v = .ref xa:=hv
    subst hv
    exact oZ (ad (zN (ca.keep (F.trans q)) (u.le (by omega:m+6<=n)).in1 (C.B.I.keep q c1).go) (λv s'=>xz λe g k=>⟨g,q.trans k,e⟩) λr r e=>False.elim e)
   ·obtain⟨rfl,b4,z⟩:=h
    refine cZ (cZ (cZ (c4 _ _ (cZ (cZ ?_)))))
    refine yy (a:=xa) ((C.upd b4 (Ext.refl _ _) z).weak (by exact rfl) rfl) u hm N (λc J e v a2 O' M' s' Γ' U hh ht=>?_) λe O' M' s' U=>?_
    ·exact a4 c J d (by rw[List.nil_append,List.flatMap_cons,e];rfl) xa v _ _ _ _ _ _ U hh ht
    ·exact P d _ _ _ _ (by simp) (by rw[List.nil_append,List.flatMap_cons,e];rfl) U
end
noncomputable abbrev FD:FuncData:=fn (fM 8 4) (S "__next__") (S "chain.__next__") 3 [] .none .none .none (.str (S "itertools") 254) none (.ref 127) .none 0
noncomputable abbrev chF(x:Addr)(Fs Fa:Fp):Fp:=⟨x::(Fs.a++Fa.a),Fs.g++Fa.g⟩
structure oe(W:Wc)(m:Nat)(x src:Addr)(l:List Nat)(act:Option Addr)(rs:List Nat)(cs:List (List Nat))(Fs Fa:Fp)(H:List Addr)(s:Shared):Prop where
 hx:x∈H
 xs:x∉Fs.a
 xa:x∉Fa.a
 o:jL (am s.heap H) s.heap (cX 132 (chT (zM act) (aE (.ref src)))) x
 ss:∀a∈Fs.a,a∈H
 as:∀a∈Fa.a,a∈H
 sb:InB W Fs s
 ab:InB W Fa s
 si:ItN W m (.ref src) (rs.map (sL l)) Fs H s
 ai:∀a,act=some a->ItN W m (.ref a) (Er l cs) Fa H s
 dj:∀a∈Fs.a,a∉Fa.a
 dg:∀a∈Fs.g,a∉Fa.g
 n0:act=none->cs=[]/\Fa=⟨[],[]⟩
 rb:∀r∈rs,r<=4
noncomputable abbrev rH(l:List Nat)(rs:List Nat)(cs:List (List Nat)):List (List Nat):=cs++rs.flatMap (du l.length)
inductive ChV(W:Wc)(m:Nat)(x src:Addr)(l:List Nat)(F₀:Fp)(H:List Addr)(s:Shared)(out:List (List Nat))(v:Value)(s':Shared):Prop
 | mk (c:List Nat) (act:Option Addr) (rs:List Nat) (cs:List (List Nat)) (Fs Fa:Fp) (e:out=c::rH l rs cs) (g:G W s') (k:ak F₀ s s') (hx:Ext s F₀ (chF x Fs Fa)) (hb:InB W (chF x Fs Fa) s') (ht:(bH ((aS l c).map ag)).p (am s'.heap (H++(chF x Fs Fa).a)) v) (hc:oe W m x src l act rs cs Fs Fa (H++(chF x Fs Fa).a) s')
noncomputable def BG(W:Wc)(m:Nat)(x src:Addr)(l:List Nat)(F₀:Fp)(H:List Addr)(s:Shared)(a:List (List Nat))(r:Result)(s':Shared):Prop:=match r with
 | .ok (.ret v)=>ChV W m x src l F₀ H s a v s'
 | .ok _=>False
 | .error e=>a=[]/\G W s'/\ak F₀ s s'/\q9 s e s'
inductive ChI(W:Wc)(env:Env)(m:Nat)(x src:Addr)(l:List Nat)(F₀:Fp)(O₀:List Addr)(s₀:Shared)(out:List (List Nat))(k:Nat)(s':Shared):Prop
 | mk (act:Option Addr) (rs:List Nat) (cs:List (List Nat)) (Fs Fa:Fp) (O:List Addr) (M:Fp) (hk:k=rs.length+(if act.isSome then 1 else 0)) (ho:out=rH l rs cs) (Z:ChS W cNx env m l src F₀ O₀ s₀ (Γt x src (zM act) none) act rs cs Fs Fa O M s')
section
variable {x:Addr}
theorem FE:l0 W.K cNx 128 FD (fM 8 4).2.1 [S "self"]:=gt (by kernel_rfl) (by kernel_rfl) (by kernel_rfl) (by rfl)
theorem zO:((fM 8 4).2.2.names.all λx=>x.2 != .cell)=true:=by kernel_rfl
theorem Dz(hl:l.length<=4)(c:oe W (m+4) x src l act rs cs Fs Fa H s)(rm:aU W A (m+7))(go:GO W H s):
  codeAny (model prg W.w) A (.call (.ref 128) ⟨[.ref x],[]⟩) (BG W (m+4) x src l (chF x Fs Fa) H s (rH l rs cs)) s:=by
 have D:=FE (W:=W)
 obtain⟨o,ho,hd⟩:=D.here
 have nc:∀x c,(x,c)∉FD.closure:=D.nc
 obtain⟨N,i,hv⟩:∃N:List Addr,(∀a,a∈N↔a∈H/\a≠x)/\am s.heap (N++[x])=am s.heap H:=by
  have i:∀a,a∈H.filter (λb=>decide (b≠x))↔a∈H/\a≠x:=λa=>aR
  refine⟨_,i,cr λa=>?_⟩
  rw[aj,i,ah]
  constructor
  ·rintro(h | h)
   ·exact h.1
   ·exact h▸c.hx
  ·intro h
   by_cases e:a=x
   ·exact .inr e
   ·exact .inl ⟨h,e⟩
 obtain⟨ox,f5,f2,f0⟩:=c.o
 refine nw (n:=m+6) (C:=cNx) (Γ:=⟨[some (aE (.ref x)),none,none,none,none,none,none],chH x src (zM act)⟩) (fd:=FD) (body:=(fM 8 4).2.1) (binds:=[(S "self",.ref x)]) (O:=N) (L:=⟨[x],[]⟩)
  rm go.g ho hd (dC D.code go.g.kin) (by kernel_rfl) (D.ok _ rfl) (λx c m=>absurd m (nc x c)) (List.Pairwise.nil) (λx c m=>absurd m (nc x c)) (λa m=>go.ok a ((aj.mp m).elim (λm=>((i a).mp m).1) λm=>by rw[ah.mp m];exact c.hx)) (λG=>nM) ⟨⟨_,rfl,rfl⟩,trivial⟩ (λa P m=>?_) (by simp[chH]) (λa P m x=>nc x a) λenv f6 M s₁ u p c7 k1 hg I=>iI ?_
 ·have b4:=ah.mp m
  cases b4
  exact⟨.head _,λz=>((i _).mp z).2 rfl,ox,f5,f2,by rw[hv];exact f0⟩
 have c6:env.cells=[]:=by
  cases hc:env.cells with
  | nil=>rfl
  | cons y r =>
   obtain⟨y,c⟩:=y
   have:=f6.cel y c (by rw[hc];simp[List.lookup])
   rcases this with h | h
   ·exact absurd h (nc y c)
   ·have:=bd.mp zO _ h
    exact absurd this (by simp)
 have hM:∀a∈M.a,a=x∨s.heap.objs.size<=a:=λa m=>(c7.a a m).imp ah.mp id
 have vl:Vle (am s.heap H) (am s₁.heap (N++M.a)):=λa o e hn=>by
  have h1:=af e
  refine aK (p.obj' h1 hn) λz=>?_
  rcases aj.mp z with z | z
  ·exact a8 e ((i a).mp z).1
  ·rcases hM a z with h | h
   ·exact a8 e (h▸c.hx)
   ·exact aw.mpr h (aO h1)
 have b5:∀{it:Value} {Is:List Itm} {F:Fp},ItN W (m+4) it Is F H s->(∀a∈F.a,a∈H)->x∉F.a->InB W F s->Rsc (W.at (env::W.frs)) (m+4) it Is F N M s₁:=λhi hs hx j =>
  ⟨λa m=>(i a).mpr ⟨hs a m,λe=>hx (e▸m)⟩,λa m z=>(hM a z).elim (λe=>hx (e▸m)) λh=>aw.mpr h (j.a a m).2,λg m z=>(by rw[hg] at z;cases z),
   ⟨λa m=>⟨(j.a a m).1,aA (j.a a m).2 p.siz⟩,λg m=>aA (j.g g m) p.gsz⟩,(hi.at (k:=env::W.frs)).move (p.stays (λG G=>av) (λG G=>av)) vl⟩
 have d8:ChS (W.at (env::W.frs)) cNx env (m+4) l src (chF x Fs Fa) N s ⟨[some (aE (.ref x)),none,none,none,none,none,none],chH x src (zM act)⟩ act rs cs Fs Fa N M s₁ :=
  ⟨⟨ak.ofK p,⟨λa m=>(aj.mp m).elim (λm=>(hM a m).imp (λ(e:a=x)=>aC.mpr (.inl e)) id) λm=>.inl (.tail _ m),λg m=>(aj.mp m).elim (λm=>(by rw[hg] at m;cases m)) .inl⟩,λG m=>m,λG m=>.inl m,I⟩,
   b5 c.si c.ss c.xs c.sb,λa e=>b5 (c.ai a e) c.as c.xa c.ab,c.dj,c.dg,c.n0,c.rb⟩
 refine bE (d8.st u (lI 1 (T:=bw [aE (.ref x)]) (by rfl) (by kernel_rfl) (by intro G;rfl) (eZ (ar1 (nm 0))) rfl) λh3 s₂ b2=>?_)
 refine bE (wpAny_While (codeAny_whileLoop (ChI (W.at (env::W.frs)) env (m+4) x src l (chF x Fs Fa) N s (rH l rs cs)) ?_ _ ⟨act,rs,cs,Fs,Fa,_,_,rfl,rfl,b2⟩))
 rintro k a3 ⟨d9,i2,h9,l1,m0,O',M',rfl,E,Z⟩
 refine ad ((jO (bO (b:=true)):TsP (W.at (env::W.frs)) cNx (Γt x src (zM d9) none) (m+6) _ true) (A.deeper env) env O' M' a3 u Z.B.I) (λb g1 h=>?_) λG G e=>False.elim e
 obtain⟨rfl,c5,c3⟩:=h
 refine bE ((Z.keep c3 c5).st u (lI 2 (T:=aE (.ref x)) (by rfl) (by kernel_rfl) (by intro G;rfl) (Dw (nm 1) (tj aJ)) rfl) λh5 h6 J=>?_)
 refine Dy (W:=W.at (env::W.frs)) (n:=m+6) hl J u (aB _) c6 (λc' e0 t e a v q Q U V s'' Γ' d hh ht=>?_) (λt q U V s'' f1 e d=>?_) λe ev s'' f=>?_
 ·obtain⟨K,G,G,G,f3,b6,a6,a7⟩:=d.B.I.phi x _ (by rw[hh];exact .head _)
  have RA:=d.A a rfl
  have e4:∀b,b∈H++(chF x q Q).a->b∈U++V.a:=λb j=>by
   rcases aj.mp j with j | j
   ·by_cases e:b=x
    ·exact al _ (e▸K)
    ·exact aq _ (d.B.o1 b ((i b).mpr ⟨j,e⟩))
   ·rcases aC.mp j with e | j
    ·exact al _ (e▸K)
    ·exact aq _ ((aj.mp j).elim (d.R.sub b) (RA.sub b))
  have vd:=bG (h:=s''.heap) e4
  refine⟨c',some a,t,e0,q,Q,E.trans e,d.B.I.g.back,d.B.k,⟨λb j=>?_,λg a2=>d.B.e.g g (al _ a2)⟩,⟨λb j=>?_,λg a2=>(aj.mp a2).elim (d.R.inb.g g) (RA.inb.g g)⟩,Ty.mono _ vd ht,?_⟩
  ·rcases aC.mp j with e | j
   ·exact .inl (e ▸ .head _)
   ·exact d.B.e.a b (al _ j)
  ·rcases aC.mp j with e | j
   ·exact e▸(d.B.I.up x (al _ K))
   ·exact(aj.mp j).elim (d.R.inb.a b) (RA.inb.a b)
  ·refine⟨aq _ c.hx,λz=>d.R.dis x z K,λz=>RA.dis x z K,⟨f3,b6,a6,OTy.mono _ vd a7⟩,λb j=>al _ (.tail _ (aq _ j)),λb j=>al _ (.tail _ (al _ j)),⟨d.R.inb.a,d.R.inb.g⟩,⟨RA.inb.a,RA.inb.g⟩,?_,λb e=>?_,d.dj,d.dg,(λe=>nomatch e),d.rb⟩
   ·exact(d.R.itn.at (k:=W.frs)).move (bC.refl _ _) vd
   ·cases e;exact(RA.itn.at (k:=W.frs)).move (bC.refl _ _) vd
 ·exact⟨t.length,f1,none,t,[],q,_,U,V,rfl,E.trans e,d⟩
 ·refine f.note (env:=env) u.fr J.B.I.top λh0 b1=>b1.back λg2 c4=>?_
  obtain⟨c2,a4,X,hX,hx⟩:=c4
  refine qx (W:=W.at (env::W.frs)) u c2 J.B.I.top (λa m=>(hX a m).2) hx λh8 X' st Y=>?_
  obtain⟨b3,a5,X',c1,Y⟩:=Fly.step a4 (λa m=>(hX a m).1) st Y
  exact⟨E.trans e,b3.back,a5,X',true,λa m=>⟨(c1 a m).1,(c1 a m).2.2⟩,Y⟩
end
section
variable {x:Addr}
theorem oe.at{k:List Env}(c:oe W m x src l act rs cs Fs Fa H s):oe (W.at k) m x src l act rs cs Fs Fa H s :=
 ⟨c.hx,c.xs,c.xa,c.o,c.ss,c.as,⟨c.sb.a,c.sb.g⟩,⟨c.ab.a,c.ab.g⟩,c.si.at,λa e=>(c.ai a e).at,c.dj,c.dg,c.n0,c.rb⟩
theorem InB.stay(b:InB W F s)(e:bC F s s')(f:GO W H' s')(c:∀a∈F.a,a∈H'):InB W F s' :=
 ⟨λa m=>f.ok a (c a m),λg m=>by
  obtain⟨x,d⟩:∃x,s.gens[g]? = some x:=⟨_,mB (b.g g m)⟩
  exact(lE.mp (e.g g m x d)).1⟩
theorem bC.sub(c:bC F s s')(h:∀a∈F'.a,a∈F.a)(e:∀a∈F'.g,a∈F.g):bC F' s s':=⟨λb m=>c.a b (h b m),λb m=>c.d b (h b m),λb m=>c.g b (e b m)⟩
theorem oe.move(c:oe W m x src l act rs cs Fs Fa H s)(h:bC (chF x Fs Fa) s s')(i:GO W H' s')(b:∀a∈(chF x Fs Fa).a,a∈H')(g:Vle (am s.heap H) (am s'.heap H')):oe W m x src l act rs cs Fs Fa H' s':=by
 obtain⟨o,p,k,n⟩:=c.o
 have j:∀a∈Fs.a,a∈H':=λa m=>b a (.tail _ (aq _ m))
 have as:∀a∈Fa.a,a∈H':=λa m=>b a (.tail _ (al _ m))
 have d:bC Fs s s':=h.sub (λa m=>.tail _ (aq _ m)) λa m=>aq _ m
 have f:bC Fa s s':=h.sub (λa m=>.tail _ (al _ m)) λa m=>al _ m
 exact⟨b x (.head _),c.xs,c.xa,⟨o,h.a x (.head _) o p k,k,OTy.mono _ g n⟩,j,as,c.sb.stay d i j,c.ab.stay f i as,c.si.move d g,λa e=>(c.ai a e).move f g,c.dj,c.dg,c.n0,c.rb⟩
theorem BH:findIn W.K (.ref 132) "__next__" = some (some (.ref 128)):=by kernel_rfl
theorem GQ:typeIn W.K (.ref 128)=some (.type "function"):=by kernel_rfl
theorem BI:findIn W.K (.ref 132) "__iter__" = some (some (.ref 121)):=by kernel_rfl
theorem FF:isFn W.K (.ref 121)=true:=by kernel_rfl
theorem oe.inst(c:oe W m x src l act rs cs Fs Fa H s):∃ox od,InstAt s.heap x ox 132 (some od)/\nt ox=true/\nt od=true/\ox.data = .plain/\ox.cls = .ref 132/\∃dx,ox.dict=some dx/\s.heap.get? dx=some od:=by
 obtain⟨ox,f,g,b,⟨dx,od,hd,d,e⟩,a,h⟩:=c.o
 exact⟨ox,od,⟨f,b,by unfold notCls;rw[a],by rw[hd];exact af d⟩,g,e,a,b,dx,hd,af d⟩
theorem BJ(d:l.length<=4)(c:oe W (m+4) x src l act rs cs Fs Fa H s)(i:aU W A (m+7))(a:GO W H s){Q:Option Value->Shared->Prop}(b:∀v s',BG W (m+4) x src l (chF x Fs Fa) H s (rH l rs cs) (.ok (.ret v)) s'->Q (some v) s')(k:∀e s',BG W (m+4) x src l (chF x Fs Fa) H s (rH l rs cs) (.error e) s'->E e s'):wpAny (model prg W.w) A (lQ (.ref x)) Q E s:=by
 refine jJ c.inst λox od j n=>?_
 refine special_fn a.g.kin j BH GQ (bQ (bN (Dz d c i a) λr s' h=>?_))
 cases r with
 | error e=>exact k e s' h
 | ok f=>cases f with
  | ret v=>exact b v s' h
  | _=>exact h.elim
theorem GR(E:l.length<=4)(p:∀A s v Q,Q () s->wpAny (model prg W.w) A (letOwnedTupleGo tgt (.ref x) v) Q Nev s):∀(d:List (List Nat)) (act:Option Addr) (rs:List Nat) (cs:List (List Nat)) (Fs Fa:Fp) (H:List Addr) (s:Shared),rH l rs cs=d->oe W (m+4) x src l act rs cs Fs Fa H s ->
  It W (m+7) tgt (.ref x) [] (d.map λc=>bH ((aS l c).map ag)) (chF x Fs Fa) H s:=by
 intro d
 induction d with
 | nil =>
  intro act rs cs Fs Fa H s e c k A s' H' C j D G f t
  refine aa (gh (BJ (W:=W.at k) E (c.at.move D j f t) C j (λv s'' h=>?_) λL s'' h=>?_))
  ·obtain⟨c',G,G,G,G,G,h,G⟩:=h
   rw[e] at h;cases h
  ·refine Ex h λG g B J=>?_
   refine aa (ad (tE J) (λb s₂ o=>?_) az)
   refine ck o λy u=>?_
   obtain rfl:=y
   obtain rfl:=u
   exact ac ⟨rfl,g,B⟩
 | cons c₀ d ih =>
  intro act rs cs Fs Fa H s e c k A s' H' C j D G f t
  refine aa (gh (BJ (W:=W.at k) E (c.at.move D j f t) C j (λv s'' h=>?_) λL s'' h=>?_))
  ·obtain⟨c',i,r,z,n,q,h,g,B,I,b,F,K⟩:=h
   rw[e] at h
   injection h with e1 e2
   subst e1
   exact ac ⟨v,rfl,p _ _ _ _ ⟨chF x n q,g,B,I,⟨b.a,b.g⟩,F,ih i r z n q _ s'' e2.symm (K.at (k:=W.frs))⟩⟩
  ·refine ck h λh G=>?_
   rw[e] at h;cases h
abbrev cIc:Cx:=⟨(fM 8 3).2.2,[S "self"],[],none⟩
theorem DA:aM W (n+1) (.ref 121) [aE v] [] (aE v) :=
 s5 (fM 8 3) cIc [] λenv=>bB (nm 0) (Ty.le_refl _)
theorem BK:findIn W.K (.ref 132) "__next__" = some (some (.ref 128)):=by kernel_rfl
theorem zQ(c:oe W m x src l act rs cs Fs Fa H s)(B:aU W A (n+1))(t:GO W H' s):wpAny (model prg W.w) A (pyIter (.ref x)) (λv s'=>v = .ref x/\G W s'/\aF s s') Nev s:=by
 refine Ha c.inst λox od z o r u q j=>?_
 refine bc j λdx hd y=>?_
 have p:∀L m,Fr (hK W) L s.heap m->wpAny (model prg W.w) A (pyIter (.ref x)) (λv s'=>v = .ref x/\G W s'/\aF s s') Nev s:=λL m F=>by
  refine owit_iter (K:=W.K) (C:=132) (x:=x) (L:=L) (f:=121) (h₀:=hK W) (m:=m) (ox:=ox) (od:=some od) F (qF t.g) z BI FF ?_
  refine ad (DA (n:=n) A _ s [.ref x] [] B t ⟨rfl,trivial⟩ trivial) (λw i h=>?_) az
  refine dn h λb a k=>?_
  obtain rfl:=k
  have d:InstAt i.heap x ox 132 (some od):=⟨a.obj' z.at_ o,q,by unfold notCls;rw[u],by rw[hd];exact a.obj' y r⟩
  exact aa (d.type.here ((fB b.kin BK).here ⟨rfl,b,a⟩))
 exact fE (qG t) λL e=>fE e λm F=>p L m F
end
abbrev cPs:Cx:=⟨(fT 12).2.2,[S "iterable",S "max_size",S "s"],[S "s"],some (.ref 190)⟩
abbrev FG:FuncData:=fn (fT 12) (S "powerset") (S "powerset") 3 [] (.ref 184) .none .none (.str (S "abcvoting.misc") 433) none (.ref 190) .none 0
theorem GS{a:Stmt}{Q:Flow->Shared->Prop}(I:Inv W C env Γ O M s)(c:aU W A n)(h:StP W C Γ n a (λo=>o = .next Γ'))(b:∀M' s',ak M s s'->Ext s M M'->Inv W C env Γ' O M' s'->Q .next s'):wpAny (model prg W.w) A (exec a env) Q E s :=
 ad (h A env O M s c I) (λf s' h=>by
  obtain⟨k,M',x,o,rfl,hf⟩:=h
  cases f <;> first | exact hf.elim | exact b M' s' k x hf) λe s' h=>by
  obtain⟨e,e,e,e,e,e,e,e,d,e⟩:=h
  cases d
theorem FH:l0 W.K cPs 191 FG (fT 12).2.1 [S "iterable",S "max_size"]:=gt (by kernel_rfl) (by kernel_rfl) (by kernel_rfl) (by rfl)
theorem BL:((fT 12).2.2.names.all λx=>x.2 != .cell||x.1==S "s")=true:=by kernel_rfl
def DB:Scope:=⟨.function,[(S ".0",.local),(S "r",.local),(S "s",.free),(S "combinations",.globalImplicit)],true,false,[]⟩
theorem FI{pl:Sem Bool}{Q:Value×List Value->Shared->Prop}(g:G W s)(h:∀h' tk,h'=s.heap.push (methodObj (.ref 111) (.ref 132))->Q (.ref s.heap.objs.size,[]) { s with heap:=h',toks:=tk }):wpAny (model prg W.w) A (getMethod (.ref 132) (S "from_iterable") pl) Q E s:=by
 refine method_cls g.kin (by kernel_rfl) (cls_bind (K:=W.K) (mc:=.type "type") (g:=.builtin "classmethod.__get__") (a:=.ref 113) (obj:=.none) (tp:=.ref 132) g.kin (by kernel_rfl) (by kernel_rfl) ?_)
 refine bQ (cm_get (K:=W.K) (p:=113) (f:=.ref 111) (rest:=[.bool false]) (s:={ s with toks:=s.toks+1 }) g.kin (by kernel_rfl) ?_)
 exact handed_on (by rfl) (h _ _ rfl)
inductive GT(W:Wc)(m:Nat)(l:List Nat)(k:Nat)(O:List Addr)(s:Shared)(v:Value)(s':Shared):Prop
 | mk (l':List Nat) (x src:Addr) (Fs:Fp) (hl:l'.Perm l) (e:v = .ref x) (g:G W s') (kp:aF s s') (hx:Ext s ⟨[],[]⟩ (chF x Fs ⟨[],[]⟩)) (hb:InB W (chF x Fs ⟨[],[]⟩) s') (hc:oe W m x src l' none (List.range (k+1)) [] Fs ⟨[],[]⟩ (O++(chF x Fs ⟨[],[]⟩).a) s')
theorem DC{w:Value}(hl:l.length<=4)(hk:k<=4)(b5:(190,186)∈W.tabs)(rm:aU W A (j+8))(go:GO W O s)(hv:(tS W l).p (am s.heap O) v)(hw:(ag k).p (am s.heap O) w):
  codeAny (model prg W.w) A (.call (.ref 191) ⟨[v],[(S "max_size",w)]⟩) (λr s'=>match r with | .ok (.ret v)=>GT W (j+6) l k O s v s' | _=>False) s:=by
 have D:=FH (W:=W)
 obtain⟨o,ho,hd⟩:=D.here
 have nc:∀x c,(x,c)∉FG.closure:=D.nc
 refine nw (n:=j+7) (C:=cPs) (Γ:=⟨[some (tS W l),some (ag k),none],[]⟩) (fd:=FG) (body:=(fT 12).2.1) (binds:=[(S "iterable",v),(S "max_size",w)]) (O:=O) (L:=⟨[],[]⟩)
  rm go.g ho hd (dC D.code go.g.kin) (by kernel_rfl) (D.ok _ rfl) (λx c m=>absurd m (nc x c)) (List.Pairwise.nil) (λx c m=>absurd m (nc x c)) (λx m=>go.ok x (by simpa using m)) (λV=>nM) ⟨⟨_,rfl,by simpa using hv⟩,⟨_,rfl,hw⟩,trivial⟩ (λV V=>nM) gb (λV V=>nM) λenv f5 M s₁ a1 t a6 V V I=>iI ?_
 refine xB λQ' E' hQ hE=>?_
 refine bE (mA (ad ((ao (bl wX) kt (ar1 (nm 0)) au u1:EvP (W.at (env::W.frs)) cPs ⟨[some (tS W l),some (ag k),none],[]⟩ (j+7) _ _) (A.deeper env) env O M s₁ a1 I) (λh4 s₂ h=>?_) λV V e=>False.elim e) (by rfl))
 obtain⟨c6,B,l',Z,ht⟩:=h
 refine ad (dB (W:=W.at (env::W.frs)) (C:=cPs) (T:=bw (l'.map ag)) 2 (by rfl) (iV (by kernel_rfl)) (I.keep B c6) ht) (λV g0=>And.elim λJ d9=>?_) λV V e=>False.elim e
 refine bE (GS (W:=W.at (env::W.frs)) d9 a1 (z4 false (cp (nm 1) eX (fh λV v h=>by obtain⟨V,rfl⟩:=h;rfl)) (λe=>nomatch e) λV=>aN rfl) λF a4 a2 c4 a5=>?_)
 refine bE (jY (g3 (ad ((gl _ yx:EvP (W.at (env::W.frs)) cPs _ (j+7) _ _) (A.deeper env) env O F a4 a1 a5) (λov z h=>?_) λV V e=>False.elim e)))
 obtain⟨a3,H,b1⟩:=h
 have b1:ov = .ref 132:=b1
 subst b1
 have c3:=a5.keep H a3
 refine FI (W:=W.at (env::W.frs)) a3 λh' tk b4=>?_
 generalize E:({ z with heap:=h',toks:=tk }:Shared)=s₆
 have R:aF z s₆:=by subst E b4;exact aF.step (s:=z) (tk:=tk) (λb o e=>aV _ e) (by rw[bi];exact bY _)
 have d8:G (W.at (env::W.frs)) s₆:=by subst E b4;exact a3.step (tk:=tk) (λb o e=>aV _ e) (by rw[bi];exact bY _)
 have hp:s₆.heap.get? z.heap.objs.size=some (methodObj (.ref 111) (.ref 132)):=by subst E b4;exact bf _ rfl
 have d:=c3.keep R d8
 refine dO (P:=MethP W.K z.heap.objs.size 111 (.ref 132)) rfl (λh q=>keeps_M (by kernel_rfl) h q) ?_
 refine bU (ns:=[]) rfl rfl ?_
 have hB:=AY (C:=cPs) (Γ:=⟨[some (tS W l),some (ag k),some (bw (l'.map ag))],[]⟩) (ns:=[S "r",S "s"]) (σ:=[none,some (aD l')]) (scope:=DB) (by kernel_rfl) ⟨⟨2,rfl,rfl⟩,trivial⟩
 refine je (ad (xY (W:=W.at (env::W.frs)) (n:=j+4) (λq=>q=List.range (k+1)) (λr=>ag (0+r)) hB rfl b5 ((di (a:=0) (b:=k+1) (ao (bl d7) kt (ar1 (eK (b:=1) (nm 1) aJ)) au eF) (by decide) (oM ‹_›)).eq λTs e=>⟨_,rfl,e⟩) (λV V=>rfl) (a1.le oE) d) (λg2 X h=>ac (ac ?_)) λV V e=>False.elim e)
 obtain⟨q,it,genv,a,L,g,P,F₀,rfl,rfl,N⟩:=h
 have f2:l'.length<=4:=by rw[Z.length_eq];exact hl
 have b6:s.heap.objs.size<=a4.heap.objs.size:=ae (ae t.siz (ae B.siz J.siz)) a2.siz
 have Y:s.heap.objs.size<=s₆.heap.objs.size:=ae b6 (H.trans R).siz
 have c7:s.gens.size<=s₆.gens.size:=ae (ae (ae t.gsz (ae B.gsz J.gsz)) a2.gsz) (H.trans R).gsz
 have i:=N.gk.siz
 have b2:∀b∈F.a,s.heap.objs.size<=b:=λb m=>(c4.a b m).elim (λm=>(a6.a b m).elim nM id) λh=>ae (ae t.siz (ae B.siz J.siz)) h
 have U:∀b∈P,b∈F.a:=λb m=>by
  obtain⟨V,y,hy⟩:=N.gp b m
  refine d.cel y b hy ?_
  rcases f5.cel y b hy with h | h
  ·exact absurd h (nc y b)
  ·have:=bd.mp BL _ h
   simp at this
   exact this▸(.head _)
 have hF:∀b∈(geF a L g F₀).a,s₆.heap.objs.size<=b/\b<X.heap.objs.size:=λb m=>⟨(N.gx.a b m).elim nM id,(N.gc.bnd.a b m).2⟩
 have hI:=CK (W:=W.at (env::W.frs)) N.gS (λr=>ag (0+r)) (λr=>sL l' r) (λV=>true) (λr Γ=>Γ.set 0 (ag (0+r))) (λf1 r=>aZ 0) (λr=>bx rfl) (λr=>rfl) _ (List.range (k+1)) (dR _) (λV V V=>fa) (λf1 r hr V A env O M s rm I=>by
   refine ad (vE (gl _ gD) kf (ar2 (nm 1) (EvP.eq (nm (T:=ag (0+r)) 0) (by rw[b9]))) (yr f2 (by have:=aI.mp hr;exact ae (jv this) hk)) rm I) (λv s' h=>?_) az
   obtain⟨s₁,t,N,g,k,hN,hp⟩:=h
   exact⟨N,g,t.trans k,λa m=>⟨ae t.siz (hN a m).1,(hN a m).2⟩,hp⟩) F₀ _ X N.gc N.gi ⟨λb m=>⟨(d.up b (al _ (U b m))).1,aA (N.gp b m).1 i⟩,λV=>nM⟩
 have b3:GO (W.at (env::W.frs)) ((O++F.a)++(geF a L g F₀).a) X:=⟨N.gg,λb m=>(aj.mp m).elim (λm=>⟨(d.up b m).1,aA (d.up b m).2 i⟩) (N.gc.bnd.a b),d.go.top⟩
 refine⟨⟨N.gk.obj' hp rfl,N.gg.kin⟩,bQ (method_call (N.gk.obj' hp rfl) (bN (Du (W:=W.at (env::W.frs)) (n:=j+1) a1 b3 N.gc.gen) λr a7 h=>?_))⟩
 cases r with
 | error e=>exact h.elim
 | ok f=>cases f with
  | ret v =>
   obtain⟨x,ox,rfl,c2,u,hx,c5,f6,f0⟩:=h
   have Q:=u.siz
   have f3:x<a7.heap.objs.size:=aO c5
   refine hQ _ _ ⟨l',x,a,⟨P++(geF a L g F₀).a,(geF a L g F₀).g⟩,Z,rfl,c2.back,?_,⟨λb m=>.inr ?_,λb m=>.inr ?_⟩,⟨λb m=>?_,λb m=>?_⟩,?_⟩
   ·have:ak ⟨[],[]⟩ s a7:=(t:ak ⟨[],[]⟩ s s₁).of_ext a6 ((ak.ofK B).trans (J.trans (a2.trans (ak.ofK ((H.trans R).trans (N.gk.trans u))))))
    exact this
   ·rcases aC.mp m with e | m
    ·exact e▸(ae (ae Y i) hx)
    ·rw[c0] at m
     exact(aj.mp m).elim (λm=>b2 b (U b m)) λm=>ae Y (hF b m).1
   ·have m:b∈(geF a L g F₀).g:=by simpa using m
    exact ae c7 ((N.gx.g b m).elim nM id)
   ·rcases aC.mp m with e | m
    ·exact e▸(⟨ae go.g.siz (ae (ae Y i) hx),f3⟩)
    ·rw[c0] at m
     exact(aj.mp m).elim (λm=>⟨(d.up b (al _ (U b m))).1,aA (N.gp b m).1 (ae i Q)⟩) λm=>⟨(N.gc.bnd.a b m).1,aA (hF b m).2 Q⟩
   ·have m:b∈(geF a L g F₀).g:=by simpa using m
    exact aA (N.gc.bnd.g b m) u.gsz
   ·have nx:∀b∈P++(geF a L g F₀).a,b≠x:=λb m e=>by
     subst e
     exact(aj.mp m).elim (λm=>aw.mpr (ae i hx) (N.gp b m).1) λm=>aw.mpr hx (hF b m).2
    refine⟨al _ (.head _),λm=>nx x m rfl,nM,⟨ox,c5,f6,OTy.mono _ (bG λb m=>?_) f0⟩,λb m=>al _ (.tail _ (aq _ m)),(λV=>nM),⟨λb m=>?_,λb m=>aA (N.gc.bnd.g b m) u.gsz⟩,⟨(λV=>nM),λV=>nM⟩,?_,(λa=>nS),(λV V=>nM),(λV V=>nM),λV=>⟨rfl,rfl⟩,λr m=>by have:=aI.mp m;exact ae (jv this) hk⟩
    ·rcases aj.mp m with m | m
     ·exact aq _ (aq _ (aq _ m))
     ·rcases aC.mp m with e | m
      ·exact e▸(al _ (.head _))
      ·rw[c0] at m
       exact aq _ ((aj.mp m).elim (λm=>aq _ (al _ (U b m))) λm=>al _ m)
    ·exact(aj.mp m).elim (λm=>⟨(d.up b (al _ (U b m))).1,aA (N.gp b m).1 (ae i Q)⟩) λm=>⟨(N.gc.bnd.a b m).1,aA (hF b m).2 Q⟩
    ·rw[show(List.range (k+1)).filter (λV=>true)=List.range (k+1) by simp] at hI
     refine ItN.move (hI.at (k:=W.frs)) (u.stays (λV V=>av) (λV V=>av)) λb o e hn=>?_
     have h1:=af e
     refine aK (u.obj' h1 hn) λm=>?_
     have h2:=a8 e
     simp only[List.mem_append,not_or] at h2
     rcases aj.mp m with m | m
     ·exact h2.1.1 m
     ·rcases aC.mp m with e | m
      ·exact aw.mpr hx (e▸aO h1)
      ·rw[c0] at m
       exact(aj.mp m).elim (λm=>h2.1.2 (U b m)) h2.2
  | _=>exact h.elim
theorem yz{ks:List Keyword}{A env O M s}(hf:EvP W C Γ n (.Name x p) (aE fv))(k:jp W fv)(m:dJ W C Γ n es Ts)(i:ui W C Γ n ks Ks)(j:aU W A n)(I:Inv W C env Γ O M s)(t:∀s₁ vs kv,aF s s₁->G W s₁->ay (am s₁.heap (O++M.a)) Ts vs->ay (am s₁.heap (O++M.a)) (Ks.map (·.2)) kv->wpAny (model prg W.w) A (call fv vs ((Ks.map (·.1)).zip kv)) Q E s₁):wpAny (model prg W.w) A (eval (.Call (.Name x p) es ks pos) env) Q E s:=by
 refine(?_:wpAny _ A (do callWith pos (← eval (.Name x p) env) [] (backTo pos (starEach es env)) (backToKw pos (keywordEach ks env))) _ _ s)
 refine aa (ad (hf A env O M s j I) (λv s₁ f=>?_) λh h e=>False.elim e)
 have q:v=fv:=f.2.2
 subst q
 have c:=f.then I
 obtain⟨l,u⟩:=m A env O M s₁ pos j c
 refine dO (P:=KeP W v) ?_ (λh p=>p) ?_
 ·rw[l,dP]
  rw[gX]
  intro x o
  have:x.1∈(backToKw pos (keywordEach ks env)).map (·.1):=cj o
  rw[(i A env O M s₁ pos j c).1] at this
  obtain⟨y,h,r⟩:=a9.mp this
  rw[← r];simp
 ·refine bU (ns:=Ks.map (·.1)) l (by rw[(i A env O M s₁ pos j c).1,cP];rfl) (ad u (λvs s₂ d=>?_) λh h e=>False.elim e)
  refine ad (i A env O M s₂ pos j (c.keep d.2.1 d.1)).2 (λkv g b=>⟨k g b.1,?_⟩) λh h e=>False.elim e
  exact t g vs kv (f.2.1.trans (d.2.1.trans b.2.1)) b.1 (ay.mono (b.2.1.vle0 _) d.2.2) b.2.2
theorem rI:fc W "powerset" 191:=by kernel_rfl
def ju(l:List Nat)(k:Nat):List (List Nat):=((List.range (k+1)).flatMap (du l.length)).map (aS l)
theorem BM{z:Str}{V:Keyword}(T:l.length<=4)(hk:k<=4)(H:(190,186)∈W.tabs)(hf:EvP W C Γ (j+9) (.Name (S "powerset") p) (aE (.ref 191)))(X:dJ W C Γ (j+9) [e] [tS W l])(Q:ui W C Γ (j+9) [V] [(S "max_size",ag k)]):
  ItP W C Γ (j+9) (.Name z px) (.Call (.Name (S "powerset") p) [e] [V] pos) (λTs=>∃q,(∃l',l'.Perm l/\q=ju l' k)/\Ts=q.map λt=>bH (t.map ag)):=λA env O M s R I=>by
 refine yz hf kf X Q R I λs₁ vs kv o L Z N=>?_
 obtain⟨v,rfl,hv⟩:=Z.a1
 obtain⟨w,rfl,Y⟩:=N.a1
 have u:=I.keep o L
 refine bQ (bN (DC (W:=W) (j:=j) T hk H (R.le oE) u.go hv Y) λr s₂ h=>?_)
 cases r with
 | error e=>exact h.elim
 | ok f=>cases f with
  | ret v =>
   obtain⟨l',x,src,Fs,U,rfl,J,E,B,i,c⟩:=h
   have P:l'.length<=4:=by rw[U.length_eq];exact T
   have d:GO W ((O++M.a)++(chF x Fs ⟨[],[]⟩).a) s₂:=⟨J,λa m=>(aj.mp m).elim (λm=>⟨(u.up a m).1,aA (u.up a m).2 E.siz⟩) (i.a a),I.go.top⟩
   refine ad (zQ (n:=j) c (R.le oE) d) (λit y h=>?_) az
   obtain⟨rfl,D,b⟩:=h
   have F:GO W ((O++M.a)++(chF x Fs ⟨[],[]⟩).a) y:=⟨D,λa m=>⟨(d.ok a m).1,aA (d.ok a m).2 b.siz⟩,I.go.top⟩
   have K:=c.move (b.stays (λA A=>av) (λA A=>av)) F (λa m=>al _ m) (b.vle0 _)
   refine⟨chF x Fs ⟨[],[]⟩,_,⟨_,⟨l',U,rfl⟩,rfl⟩,D,(o.trans E).trans b,⟨λa m=>.inr (ae o.siz ((B.a a m).elim nM id)),λa m=>.inr (ae o.gsz ((B.g a m).elim nM id))⟩,⟨λa m=>⟨(i.a a m).1,aA (i.a a m).2 b.siz⟩,λa m=>aA (i.g a m) b.gsz⟩,?_⟩
   have:=(GR (m:=j+2) (tgt:=.Name z px) P (λA A A A h=>ac h) _ none (List.range (k+1)) [] Fs ⟨[],[]⟩ _ y rfl K)
   rw[ju,cP]
   exact this
  | _=>exact h.elim
noncomputable def eb(l:List Nat)(k:Nat):List (List Nat):=br.filter λs=>s.all (λv=>l.contains v)&&decide (s.length<=k)
noncomputable def xi:Nat->List (List Nat)
 | 0=>[[]]
 | n+1=>(xi n).flatMap λt=>[0::t,1::t,2::t,3::t]
theorem xj(l:List Nat)(h:∀v∈l,v<4):l∈xi l.length:=by
 induction l with
 | nil=>exact .head _
 | cons v l ih=>exact pZ.mpr ⟨l,ih λw m=>h w (.tail _ m),cj (f:=(· :: l)) (aI.mpr (h v (.head _)))⟩
theorem BN:((List.range 5).all λn=>(xi n).all λl=>!decide l.Nodup||(List.range 5).all λk=>((ju l k).all λt=>(eb l k).contains (uni [] t))&&((eb l k).all λs=>((ju l k).map (uni [])).contains s)&&(ju l k).all λt=>decide (t.length<=k)&&t.all λv=>decide (v<4))=true:=by decide +kernel
theorem t3(e:∀v∈l,v<4)(i:l.Nodup)(n:l.length<=4)(j:k<=4):(∀t∈ju l k,uni [] t∈eb l k/\t.length<=k/\∀v∈t,v<4)/\∀s∈eb l k,∃t∈ju l k,uni [] t=s:=by
 have h:=bd.mp BN l.length (aI.mpr (oB ‹_›))
 have h:=bd.mp h l (xj l e)
 rw[c8 i,nh,dP] at h
 have h:=bd.mp h k (aI.mpr (oB ‹_›))
 obtain⟨h,a⟩:=bP.mp h
 obtain⟨c,b⟩:=bP.mp h
 refine⟨λt m=>?_,λs m=>a9.mp (ba.mp (bd.mp b s m))⟩
 obtain⟨d,f⟩:=bP.mp (bd.mp a t m)
 exact⟨ba.mp (bd.mp c t m),ci d,λv g=>ci (bd.mp f v g)⟩
theorem t4(p:l'.Perm l)(k:Nat):eb l' k=eb l k:=by
 unfold eb
 congr 1
 funext s
 congr 1
 congr 1
 funext v
 rw[dy,ba,ba]
 exact p.mem_iff
theorem sO{a:List Nat->Bool}(hs:l∈br)(p:l'.Perm l)(c:k<=4):(ju l' k).any (λt=>a (uni [] t))=(eb l k).any a:=by
 obtain⟨f,d⟩:=t3 (λv m=>j8 hs v (p.mem_iff.mp m)) (p.nodup_iff.mpr (wy hs)) (by rw[p.length_eq];exact c9 hs) c
 rw[dy,cn,cn,← t4 p k]
 constructor
 ·rintro⟨t,m,b⟩;exact⟨_,(f t m).1,b⟩
 ·rintro⟨s,m,b⟩
  obtain⟨t,e,rfl⟩:=d s m
  exact⟨t,e,b⟩
theorem dG:cI bs∈br:=by
 rcases List.eq_nil_or_concat bs with rfl | ⟨bs,k,rfl⟩
 ·exact .head _
 ·rw[List.concat_eq_append,lr];exact lL _ _
theorem jn{s:List Nat}(h:s∈eb l k):s∈br/\s.length<=k:=by
 obtain⟨b,a⟩:=bk.mp h
 rw[bg,bq] at a
 exact⟨b,a.2⟩
theorem rJ{ι:Type}(Ψ:List ι->Prop)(q:Bool)(f:ι->Ty)(u:ι->Kn->Kn)(a:ι->Bool)(K:Kn->Prop)(R:Ty)(hit:ItP W C Γ n tgt iter (λTs=>∃l,Ψ l/\Ts=l.map f))(k:∀x,j1 W C n tgt (f x) (u x))(y:K Γ)(m:∀l,Ψ l->l.any a=q)(p:∀l,Ψ l->∀x∈l,∀Γ,K Γ->ExP W C (u x Γ) n body (λo=>match o with | .next Γ'=>a x=false/\K Γ' | .cont Γ'=>a x=false/\K Γ' | .ret _ T=>a x=true/\T.le R | _=>False))(v:q=true->∀Γ' T,T.le R->P (.ret Γ' T))(s:q=false->∀Γ,K Γ->ExP W C Γ n b P)(hs:autoParam (∀env x,foldedSetIterable iter env x=pure x) q_R):ExP W C Γ n (.For tgt iter body [] pos::b) P:=by
 refine fW Ψ f u (λl Us Γ=>K Γ/\∃h,l=h++Us/\h.any a=false) hit k (λl z=>⟨y,[],rfl,rfl⟩) (λl j h x Us e Γ w=>?_) (λl j Γ w=>?_) hs
 ·obtain⟨hK,g,r,i⟩:=w
  have t:g=h:=List.append_cancel_right (r.symm.trans e)
  subst t
  refine lH (p l j x (fR e) Γ hK) λo d=>?_
  cases o with
  | next Γ'=>exact⟨d.2,g++[x],dA e,by rw[kU,i];simp[d.1]⟩
  | cont Γ'=>exact⟨d.2,g++[x],dA e,by rw[kU,i];simp[d.1]⟩
  | ret Γ' T=>exact v (by rw[← m l j,e,kU,pC,d.1];simp) Γ' T d.2
  | brk Γ'=>exact d.elim
  | exc Γ' c=>exact d.elim
 ·obtain⟨hK,h,e,i⟩:=w
  refine s ?_ Γ hK
  rw[← m l j,e,c0];exact i
theorem DD(h:EvP W C Γ n e (bw Ts))(hz:Ts.length<2 ^ 62)(j:autoParam (∀env b,isTrue e env b=(do let v ← b;standAt e.pos;holding [v] (truthy v))) q_R):TsP W C Γ n e (!Ts.isEmpty) :=
 sZ j h λA O s v l g k=>by
  obtain⟨vs,⟨a,c,rfl,i⟩,f⟩:=k
  have d:=ay.len f
  refine wpAny_truthy_list (items:=vs.toArray) ⟨_,af i,rfl,c,rfl⟩ (by rw[e7,d];exact oF ‹_›) ⟨?_,(g.g.tok:G W _),aF.tok⟩
  cases vs <;> cases Ts <;> first | rfl | cases d
def fz(bs:List (List Nat))(ks t:List Nat):List Nat:=((cT 0 bs).filter λp=>decide ((aQ p.2 ks).length<(aQ p.2 t).length)).map (·.1)
def jo(bs:List (List Nat))(ks t:List Nat):Bool:=!(fz bs ks t).isEmpty&&decide (t.length*bs.length<=(fz bs ks t).length*ks.length)
def vQ(bs:List (List Nat))(ks:List Nat):Bool:=!(eb (cI bs) ks.length).any (jo bs ks)
theorem zR:(∀v∈fz bs ks t,v<bs.length)/\(fz bs ks t).length<=bs.length:=⟨λv a=>by
  obtain⟨p,b,rfl⟩:=a9.mp a
  have:=i6 bs 0 p (bk.mp b).1
  exact ae this (aH (b9 _)),by rw[fz,a0,← iG bs 0];exact gj _ _⟩
abbrev cCr:Cx:=⟨(fT 30).2.2,[S "profile",S "committee",S "quota",S "max_num_of_candidates",S "cands",S "set_of_voters",S "detailed_information"],[S "profile",S "committee",S "cands"],some (.ref 453)⟩
abbrev crK(W:Wc)(m:Nat)(bs:List (List Nat))(ks:List Nat)(r:List (Option Ty)):Kn:=⟨[some (tPf W m bs),some (tC W ks),some (tQu bs.length ks.length)]++r,[]⟩
theorem DE(c:cU m bs ks)(w:jV W):ExP W cCr (crK W m bs ks [none,none,none,none]) (n+11) (fT 30).2.1 (jr (bH [aG (vQ bs ks),dk])):=by
 have d:bs.length<100:=bp c.N.2 (by decide)
 have o:=c.k.2
 refine bo (T:=ag ks.length) 3 (vI (n:=n+7) c.N c.k (by kernel_rfl) (ar2 (e5 (nm 0) (by kernel_rfl) rfl (by kernel_rfl) dl au (gA (n:=n+7) d (w _ (.tail _ (.head _))))) (nm 2))) ?_
 refine rJ (ι:=List Nat) (λq=>∃l',l'.Perm (cI bs)/\q=ju l' ks.length) ((eb (cI bs) ks.length).any (jo bs ks)) (λt=>bH (t.map ag)) (λt Γ=>Γ.set 4 (bH (t.map ag))) (λt=>jo bs ks (uni [] t)) (λΓ=>Sub Γ (crK W m bs ks [some (ag ks.length),none,none,none])) (bH [aG false,dk])
  (BM (j:=n+2) (c9 dG) (oC ‹_›) (w _ (by decide)) (gl _ rI) (ar1 (e5 (nm 0) (by kernel_rfl) rfl (by kernel_rfl) dl au (ph (n:=n+7)))) (eA (nm 3) au)) (λt=>aZ 4) ⟨rfl,rfl⟩ ?_ ?_ ?_ ?_
 ·rintro q ⟨l',f,rfl⟩;exact sO dG f (oC ‹_›)
 ·rintro q ⟨l',f,rfl⟩ t D Γ a
  refine cF (a.set 4 _) ?_
  obtain⟨x,C,i⟩:=(t3 (λv m=>j8 dG v (f.mem_iff.mp m)) (f.nodup_iff.mpr (wy dG)) (by rw[f.length_eq];exact c9 dG) (by exact oC ‹_› : ks.length<=4)).1 t D
  have B:=jn x
  have u:=zR (bs:=bs) (ks:=ks) (t:=uni [] t)
  have A:=c.N.2
  refine bo (T:=tS W (uni [] t)) 4 (ao (bl ln) kt (ar1 (nm 4)) au (re (n:=n+8) i)) ?_
  refine sC (ι:=Nat×List Nat) [S "vi",S "voter",S "cands",S "committee"] [] [none,none,some (tS W (uni [] t)),some (tC W ks)] 5 (cT 0 bs) (tEn W) (λp=>if decide ((aQ p.2 ks).length<(aQ p.2 (uni [] t)).length)=true then some (ag p.1) else none) (λk Γ=>(Γ.set 0 (ag k.1)).set 1 (b0 W k.2)) ((oX (n:=n+7) (m:=m) (bs:=bs) (by kernel_rfl) (nm 0)).eq λTs h=>by obtain⟨l,e,h⟩:=h;rw[h,e]) (by rw[iG];simp[sizeLine];exact oC ‹_›) (λk=>k9 0 1) (λk=>qM rfl rfl) (λp f=>?_) (λp f U s=>?_) ⟨⟨4,rfl,rfl⟩,⟨1,rfl,rfl⟩,trivial⟩ ?_
  ·refine iX (TsP.eq (cp (mu bS Aq (by kernel_rfl) (nm 1) (nm 2)) (mu bM fY (by kernel_rfl) (nm 1) (nm 3)) qq) ?_)
   by_cases h:(aQ p.2 ks).length<(aQ p.2 (uni [] t)).length
   ·rw[bI (c8 h),c8 (bV.mpr h)];rfl
   ·rw[bj (by simpa using h),eR (λz=>h (bV.mp z))];rfl
  ·split at s
   ·cases s;exact nm 0
   ·cases s
  ·rw[ee]
   have F:((List.filter (λp=>decide ((aQ p.2 ks).length<(aQ p.2 (uni [] t)).length)) (cT 0 bs)).map λk=>ag k.1)=(fz bs ks (uni [] t)).map ag:=by rw[fz,cP];rfl
   rw[F]
   have hz:(uni [] t).length<=3:=by have:=B.2;exact ae B.2 o
   have y:(fz bs ks (uni [] t)).length<=4:=by have:=u.2;exact ae u.2 (oC A)
   refine dF (mh (DD (nm 5) (by rw[a0];exact oB ‹_›))) (λh=>bT (pE ⟨?_,rfl,rfl⟩)) λh=>?_
   ·rw[jo,show(fz bs ks (uni [] t)).isEmpty=true by simpa using h];rfl
   ·have b:jo bs ks (uni [] t)=decide ((uni [] t).length*bs.length<=(fz bs ks (uni [] t)).length*ks.length):=by rw[jo,show(fz bs ks (uni [] t)).isEmpty=false by simpa using h];rfl
    refine dF (cp (Bv (e:=(uni [] t).length) c.N c.k hz (ao (bl cu) kb (ar1 (nm 4)) au (bD bS)) (nm 2) oJ) (tZ (n:=n+1) (m:=m) (bs:=bs) (Ψ:=λr=>r=fz bs ks (uni [] t)) (z:=(fz bs ks (uni [] t)).length) (c:=453) (P:=451) (by kernel_rfl) rfl (w _ (by decide)) (eV (nm 5) (gy.its.eq λTs e=>⟨_,rfl,e⟩)) (λr e=>by subst e;exact⟨rfl,u.1⟩) A y ⟨⟨0,rfl,rfl⟩,trivial⟩ (by kernel_rfl) (by kernel_rfl)) (Fl c.N c.k hz y oJ)) (λg=>?_) λg=>aN ⟨b.trans g,rfl,rfl⟩
    exact bo (T:=dk) 6 (i5 (b7 (nm 5) (b7 (nm 4) gR))) (bB (cg (ar2 bO (nm 6))) ⟨b.trans g,Ty.le_refl _⟩)
 ·intro h Γ' T E
  rw[vQ,h];exact E
 ·intro h Γ a
  refine cF a ?_
  rw[vQ,h]
  exact bo (T:=dk) 6 i4 (bB (cg (ar2 bO (nm 6))) (Ty.le_refl _))
theorem DF(c:cU m bs ks)(a:jV W):aM W (n+12) (.ref 454) [tPf W m bs,tC W ks,tQu bs.length ks.length] [] (bH [aG (vQ bs ks),dk]) :=
 s7 (fT 30) cCr [none,none,none,none] λenv=>DE (W:=W.at (env::W.frs)) c a
noncomputable def t5(W:Wc){ι:Type}(kt:ι->Nat×Ty):uF ι where
 p:=λb V o=>(kC W (b.map kt)).p V o
 mono:=λh q=>OTy.mono _ h q
 nt:=λq=>by obtain⟨kvs,a,c⟩:=q;exact a.nt
 nf:=λq=>by obtain⟨kvs,a,c⟩:=q;exact⟨_,a.1.1,by decide⟩
theorem BO{ι:Type}{kx X:Expr}{kt:ι->Nat×Ty}{C:List ι}{T:ι}(hz:C.length<=sizeLine)(hn:(kt T).1∉C.map λx=>(kt x).1)(hk:EvP W C' Γ' n kx (ag (kt T).1))(hv:EvP W C' Γ' n X (kt T).2){A env O M s D o}(rm:aU W A n)(I:Inv W C' env Γ' O M s)(V:D∈O)(ho:s.heap.get? D=some o)(R:(t5 W kt).p C (am s.heap (O++M.a)) o):
  wpAny (model prg W.w) A (do let kv ← eval kx env;let H ← holding [kv] (eval X env);standAt sp;holding [kv,H] (dictSet D kv H)) (λq s'=>Emt W D ((t5 W kt).p (C++[T])) (O++M.a) s s') Nev s:=by
 refine fG R λkvs j h l=>?_
 refine aa (ad (hk A env O M s rm I) (λkv s₁ g=>aa (aP (ad (hv A env O M s₁ rm (g.then I)) (λH s₂ F=>aa (ct (aP ?_))) az))) az)
 refine dn g λa3 B u=>?_
 refine dK u λt L=>?_
 obtain rfl:=L
 refine dn F λf E hy=>?_
 have k:=B.trans E
 have c:s₂.heap.get? D=some o:=aF.obj' (k:aF s s₂) ho j.nt
 have r:kvs.length=C.length:=by have:=aY List.length h;simpa using this
 have i:valueAt kvs (((kt T).1:Nat):Int)=none:=by
  cases P:valueAt kvs (((kt T).1:Nat):Int) with
  | none=>rfl
  | some v =>
   exfalso
   have:(valueAt kvs (((kt T).1:Nat):Int)).isSome=true:=by rw[P];rfl
   rw[valueAt_isSome_eq_any,cn] at this
   refine bc this λp R he=>?_
   have m:p.1∈kvs.map (·.1):=cj R
   rw[h] at m
   refine bc (a9.mp m) λq hq J=>?_
   refine bc (a9.mp hq) λx hx K=>?_
   obtain rfl:=K
   exact hn (a9.mpr ⟨x,hx,mS (J.trans (ci he))⟩)
 refine wpAny_dictSet_pairs (knd:=intKind prg W.w) (k:=(((kt T).1:Nat):Int)) (eN _ _ _ _) (j.at c) (λh' m d=>?_) (ae (aH r) hz)
 rw[stored_absent i] at m
 refine bc (fS.of m) λo' U Q=>?_
 have N:=(I.up D (aq _ V)).1
 have gN:G W { s₂ with heap:=h',toks:=s₂.toks+1 }:=f.upd0 N d λw=>by
  refine bc w λe me hf=>?_
  refine sX ((f.frs e me).loc) λL' m' oL Y q f3 q Z=>?_
  rw[hf] at Y;cases Y
  rw[c] at f3;cases f3
  rw[j.1.1] at Z;injection Z with f6;exact absurd f6 (by decide)
 have kD:ak ⟨[D],[]⟩ s₂ { s₂ with heap:=h',toks:=s₂.toks+1 }:=dp (λb o hb e=>(d.2 b (λz=>hb (ah.mpr z))).trans e) (λq q q e=>e) (aH d.1.symm) (aB _)
 have y:Vle (am s₂.heap (O++M.a)) (am h' (O++M.a)):=cm (aq _ V) d
 refine⟨o',gN,(ak.ofK k:ak ⟨[D],[]⟩ s s₂).trans kD,U,_,Q,?_,?_⟩
 ·rw[bW,h,n8,n8,bW,bW];rfl
 ·rw[bW,bW,bW]
  exact ay.append (ay.mono y (ay.mono (k.vle0 _) l)) ⟨Ty.mono _ y hy,trivial⟩
theorem DG(h:Q (.ref s.heap.objs.size) { s with heap:=s.heap.push { cls:=.type "dict",data:=.dict #[] },toks:=s.toks }):wpAny (model prg W.w) A newDict Q Nev s:=dQ h
theorem HJ{ι:Type}(kt:ι->Nat×Ty)(V:fH):(t5 W kt).p [] V { cls:=.type "dict",data:=.dict #[] }:=by
 refine bc (fS.of (W:=W) (Heap.DictOf.new (knd:=intKind prg W.w) ⟨#[],{}⟩)) λo a b=>?_
 have e:o={ cls:=.type "dict",data:=.dict #[] }:=by
  have:=a.symm.trans (bf _ rfl);injection this
 subst e
 exact⟨[],b,rfl,trivial⟩
theorem Es{ι:Type}(ns a:List Str)(σ':List (Option Ty)){i d:Expr}(j:Nat)(l:List ι)(f:ι->Ty)(kt:ι->Nat×Ty)(u:ι->Kn->Kn)(hit:io W C Γ n tgt iter (λTs=>Ts=l.map f))(hz:l.length<=100)(c:(l.map λx=>(kt x).1).Nodup)(F:∀T,j1 W (cC scope C ns a) n tgt (f T) (u T))(N:∀T (j:Nat) (U:Ty),σ'[j]? = some (some U)->(u T ⟨σ',[]⟩).v[j]? = some (some U))(hk:∀T∈l,EvP W (cC scope C ns a) (u T ⟨σ',[]⟩) n i (ag (kt T).1))(hv:∀T∈l,EvP W (cC scope C ns a) (u T ⟨σ',[]⟩) n d (kt T).2)(m:pq C Γ.v ns σ')(K:ExP W C (Γ.set j (rE W (l.map kt))) n b P)(hh:autoParam (∀T,(u T ⟨σ',[]⟩).h=[]) q_R)(H:autoParam (uK C (Γ.v.map Option.isSome) scope (cC scope C ns a) (σ'.map Option.isSome)=true) q_K)(R:autoParam (C.names[j]? = some y) q_R)(w:autoParam (fe C y=true) q_K)(z:autoParam (∀env:Env,swapsWith (.DictComp i d [⟨tgt,iter,[],0⟩] scope pos) (some (.Name y py)) spos.line { env with scope:=C.scope }=pure true) q_R)(hs:autoParam (∀env y,foldedSetIterable iter env y=pure y) q_R):
  ExP W C Γ n (.Assign [.Name y py] (.DictComp i d [⟨tgt,iter,[],0⟩] scope pos) spos::b) P:=bT λA env O M s q I=>by
 rw[exec_Assign_Name_used _ _ _ _ (by refine I.ok.eq ▸ ?_;exact z env)]
 refine aa (ct (aa ?_))
 refine(?_:wpAny _ A (do let _ ← comprehension (.DictComp i d [⟨tgt,iter,[],0⟩] scope pos) scope env _ newDict false (eval iter env) (some (assign (.Name y py) env))) _ _ s)
 refine aa (ad (ou yT l f (λG=>true) u hh F N hit (lK H rfl rfl m).1 (lK H rfl rfl m).2 _ rfl _ DG (t5 W kt) (HJ kt) (λG G G G h=>nomatch h) (λG G=>fa) (λX T Us e G A env O M s D o q I hD B Y=>?_) q I (use:=some (assign (.Name y py) env)) (Q:=λG s'=>nu W C env O M s (uj W C n b P) .next s') (hs env) λD L s' o g k B m Z t E r=>?_)
  (λG s' hq=>ac (ac hq)) az)
 ·have J:T∈l:=fR e
  refine BO (n:=n) ?_ ?_ (hk T J) (hv T J) q I hD B Y
  ·have:=aY List.length e;rw[dU] at this;have:X.length<=100:=ae (aW _ _) (ae (aH this.symm) hz)
   exact ae this (by decide)
  ·rw[e,bW,cz,List.nodup_append] at c
   exact λh=>c.2.2 _ h _ (.head _) rfl
 ·exact qL (λV D o h p=>Bx V o h p) j R w K q I g k B m Z t E r
def zS(bs:List (List Nat))(q:List Nat->Bool):List Nat:=uni [] (((cT 0 bs).filter λp=>q p.2).map (·.1))
def leV(bs:List (List Nat))(ks:List Nat)(e:Nat):List Nat:=zS bs λv=>decide ((aQ v ks).length<=e)
def geV(bs:List (List Nat))(t:List Nat)(e:Nat):List Nat:=zS bs λv=>decide (e<=(aQ v t).length)
def t6(bs:List (List Nat))(ks t:List Nat)(j:Nat):List Nat:=aQ (geV bs t (1+j)) (leV bs ks j)
def rK(bs:List (List Nat))(ks t:List Nat):Bool:=(List.range t.length).any λj=>decide (t.length*bs.length<=(t6 bs ks t j).length*ks.length)
def vR(bs:List (List Nat))(ks:List Nat):Bool:=!(eb (cI bs) ks.length).any (rK bs ks)
theorem DH{q:List Nat->Bool}:∀v∈zS bs q,v<bs.length:=λv a=>by
 rcases BA a with h | h
 ·cases h
 ·obtain⟨p,b,rfl⟩:=a9.mp h
  have:=i6 bs 0 p (bk.mp b).1
  exact ae this (aH (b9 _))
theorem DI:∀v∈t6 bs ks t j,v<bs.length:=λv a=>by
 have:=(bk.mp a).2
 simp only[Bool.and_eq_true,List.contains_iff_mem] at this
 exact DH v this.1
theorem oh{b:Type}(g:Nat->b):∀(N i:Nat),i<N->((List.range N).map λe=>(e,g e)).lookup i=some (g i):=λN i h=>by
 have a:∀(l:List Nat),i∈l->(l.map λe=>(e,g e)).lookup i=some (g i):=by
  intro l
  induction l with
  | nil=>intro h;cases h
  | cons x l ih =>
   intro h
   rw[cz,iy]
   by_cases e:i=x
   ·subst e;simp
   ·exact(show(i==x)=false by simpa using e)▸(ih ((aC.mp h).resolve_left e))
 exact a _ (aI.mpr h)
theorem yA{ns:List Str}{p1 p2 p3 x y u E:Pos}{c P:Addr}(q:List Nat->Bool)(t:bs.length<=4)(g:C.scope.names.lookup (S "set")=some .globalImplicit)(j:C.scope.names.lookup (S "enumerate")=some .globalImplicit)(b:C.code=some (.ref c))(d:(c,P)∈W.tabs)(A:EvP W C Γ (n+4) e (tPf W m bs))(s:ns[0]? = some (S "vi"))(F:ns[1]? = some (S "voter"))(i:fe (cG scope ns) (S "vi")=true)(o:fe (cG scope ns) (S "voter")=true)(a:σ[0]? = some none)(f:σ[1]? = some none)(z:∀l' p,p∈cT 0 bs->TsP (W.at l') (cG scope ns) (((⟨σ,[]⟩:Kn).set 0 (ag p.1)).set 1 (b0 W p.2)) (n+4) test (q p.2))(D:pq C Γ.v ns σ)(w:AX C (Γ.v.map Option.isSome) scope (cG scope ns) (σ.map Option.isSome)=true)(hs:autoParam (∀env,starEach [e] env=(false,eval e env)::starEach [] env) q_R):
  EvP W C Γ (n+9) (.Call (.Name (S "set") p1) [.GeneratorExp (.Name (S "vi") p2) [⟨.Tuple [.Name (S "vi") p3,.Name (S "voter") p4] k p5,.Call (.Name (S "enumerate") x) [e] [] y,[test],0⟩] scope u] [] E) (tS W (zS bs q)):=by
 refine i3 (bl ln g (by kernel_rfl)) kt (iq.le (iq.eq (wS (n:=n+4) (ι:=Nat×List Nat) (P:=P) (c:=c) ns σ (λl=>l=cT 0 bs) (tEn W) (λp=>ag p.1) (λp=>q p.2) (λp Γ=>(Γ.set 0 (ag p.1)).set 1 (b0 W p.2)) b d (oX j A hs) (λl' p=>k9 0 1 s F i o) (λp=>qM a f) (λl r l' p h=>iX (z l' p (r▸h))) ?_ D w) ?_) oE) (AI (n:=n+6) (n':=n+6) (Ψ:=λks=>ks=((cT 0 bs).filter λp=>q p.2).map (·.1)) (aB _) ?_)
 ·intro l r l' p h G
  refine pD 0 s ?_
  have:0<σ.length:=(b8.mp a).1
  refine(?_:((σ.set 0 (some (ag p.1))).set 1 (some (b0 W p.2)))[0]? = _)
  rw[fP (by decide),ix this]
 ·rintro Ts ⟨l,rfl,rfl⟩
  exact⟨_,rfl,by rw[cP];rfl⟩
 ·rintro l rfl
  refine⟨λv B=>?_,rfl⟩
  obtain⟨p,h,rfl⟩:=a9.mp B
  have:=i6 bs 0 p (bk.mp h).1
  exact ae this (ae (aH (b9 _)) t)
abbrev cFj:Cx:=⟨(fT 28).2.2,[S "profile",S "committee",S "quota",S "set_upper_bound",S "committee_utility_at_most",S "T_utility_at_least",S "beta",S "cohesive_group",S "detailed_information",S "T"],[S "profile",S "committee",S "T"],some (.ref 440)⟩
abbrev fjK(W:Wc)(m:Nat)(bs:List (List Nat))(ks:List Nat)(r:List (Option Ty)):Kn:=⟨[some (tPf W m bs),some (tC W ks),some (tQu bs.length ks.length)]++r,[]⟩
abbrev GU(W:Wc)(bs:List (List Nat))(ks:List Nat):List (Nat×Ty):=(List.range (ks.length+1)).map λe=>(e,tS W (leV bs ks e))
abbrev HK(W:Wc)(bs:List (List Nat))(t:List Nat):List (Nat×Ty):=(List.range (t.length+1)).map λe=>(e,tS W (geV bs t e))
theorem DJ(c:cU m bs ks)(o:jV W):ExP W cFj (fjK W m bs ks [none,none,none,none,none,none,none]) (n+11) (fT 28).2.1 (jr (bH [aG (vR bs ks),dk])):=by
 have i:bs.length<100:=bp c.N.2 (by decide)
 have g:=c.k.2
 have x:=c.N.2
 refine bo (T:=ag ks.length) 3 (vI (n:=n+7) c.N c.k (by kernel_rfl) (ar2 (e5 (nm 0) (by kernel_rfl) rfl (by kernel_rfl) dl au (gA (n:=n+7) i (o _ (.tail _ (.head _))))) (nm 2))) ?_
 refine Es (ι:=Nat) [S "utility",S "committee",S "profile"] [S "utility"] [none,some (tC W ks),some (tPf W m bs)] 4 (List.range (ks.length+1)) (λe=>ag (0+e)) (λe=>(e,tS W (leV bs ks e))) (λe Γ=>Γ.set 0 (ag (0+e))) (di (a:=0) (b:=ks.length+1) (ao (bl d7) kt (ar1 (eK (b:=1) (nm 3) aJ)) au eF) (by decide) (oC (aX g 2))) (by simp;exact oC g) (by simpa using List.nodup_range) (λe=>aZ 0) (λe=>bx rfl) (λe G=>EvP.eq (nm 0) (by rw[Nat.zero_add])) (λe G=>?_) ⟨⟨1,rfl,rfl⟩,⟨0,rfl,rfl⟩,trivial⟩ ?_
 ·refine yA (n:=n+2) (m:=m) (bs:=bs) (ns:=[S "vi",S "voter",S "committee",S "utility"]) (σ:=[none,none,some (tC W ks),some (ag (0+e))]) (c:=440) (P:=438) _ (oC x) (by kernel_rfl) (by kernel_rfl) rfl (o _ (by decide)) (nm 2) rfl rfl (by kernel_rfl) (by kernel_rfl) rfl rfl (λl' p l=>?_) ⟨⟨1,rfl,rfl⟩,⟨0,rfl,rfl⟩,trivial⟩ (by kernel_rfl)
  exact TsP.eq (cp (mu bM fY (by kernel_rfl) (nm 1) (nm 2)) (nm 3) uh) (by rw[fF,b9];exact cY)
 refine rJ (ι:=List Nat) (λq=>∃l',l'.Perm (cI bs)/\q=ju l' ks.length) ((eb (cI bs) ks.length).any (rK bs ks)) (λt=>bH (t.map ag)) (λt Γ=>Γ.set 9 (bH (t.map ag))) (λt=>rK bs ks (uni [] t)) (λΓ=>Sub Γ (fjK W m bs ks [some (ag ks.length),some (rE W (GU W bs ks)),none,none,none,none,none])) (bH [aG false,dk])
  (BM (j:=n+2) (c9 dG) (oC g) (o _ (by decide)) (gl _ rI) (ar1 (e5 (nm 0) (by kernel_rfl) rfl (by kernel_rfl) dl au (ph (n:=n+7)))) (eA (nm 3) au)) (λt=>aZ 9) ⟨rfl,rfl⟩ ?_ ?_ ?_ ?_
 ·rintro q ⟨l',l,rfl⟩;exact sO dG l (oC g)
 ·rintro q ⟨l',l,rfl⟩ t F Γ f
  refine cF (f.set 9 _) ?_
  obtain⟨B,E,y⟩:=(t3 (λv m=>j8 dG v (l.mem_iff.mp m)) (l.nodup_iff.mpr (wy dG)) (by rw[l.length_eq];exact c9 dG) ((oC g):ks.length<=4)).1 t F
  have s:=jn B
  have hz:(uni [] t).length<=3:=by have:=s.2;exact ae s.2 g
  refine bo (T:=tS W (uni [] t)) 9 (ao (bl ln) kt (ar1 (nm 9)) au (re (n:=n+8) y)) ?_
  generalize uni [] t=T at s hz
  refine Es (ι:=Nat) [S "utility",S "T",S "profile"] [S "utility"] [none,some (tS W T),some (tPf W m bs)] 5 (List.range (T.length+1)) (λe=>ag (0+e)) (λe=>(e,tS W (geV bs T e))) (λe Γ=>Γ.set 0 (ag (0+e))) (di (a:=0) (b:=T.length+1) (ao (bl d7) kt (ar1 (eK (b:=1) (ao (bl cu) kb (ar1 (nm 9)) au (bD bS)) aJ)) au eF) (by decide) (oC (aX hz 2))) (by simp;exact oC hz) (by simpa using List.nodup_range) (λe=>aZ 0) (λe=>bx rfl) (λe G=>EvP.eq (nm 0) (by rw[Nat.zero_add])) (λe G=>?_) ⟨⟨9,rfl,rfl⟩,⟨0,rfl,rfl⟩,trivial⟩ ?_
  ·refine yA (n:=n+2) (m:=m) (bs:=bs) (ns:=[S "vi",S "voter",S "T",S "utility"]) (σ:=[none,none,some (tS W T),some (ag (0+e))]) (c:=440) (P:=438) _ (oC x) (by kernel_rfl) (by kernel_rfl) rfl (o _ (by decide)) (nm 2) rfl rfl (by kernel_rfl) (by kernel_rfl) rfl rfl (λl' p l=>?_) ⟨⟨1,rfl,rfl⟩,⟨0,rfl,rfl⟩,trivial⟩ (by kernel_rfl)
   exact TsP.eq (cp (mu bS Aq (by kernel_rfl) (nm 1) (nm 2)) (nm 3) k6) (by rw[fF,b9];exact cY)
  refine f9 (ι:=Nat) (List.range T.length) (λj=>ag (1+j)) (λj Γ=>Γ.set 6 (ag (1+j))) (λj=>decide (T.length*bs.length<=(t6 bs ks T j).length*ks.length)) (λΓ=>Sub Γ (fjK W m bs ks [some (ag ks.length),some (rE W (GU W bs ks)),some (rE W (HK W bs T)),none,none,none,some (tS W T)])) (bH [aG false,dk])
   ((di (a:=1) (b:=T.length+1) (ao (bl d7) kt (ar2 aJ (eK (b:=1) (ao (bl cu) kb (ar1 (nm 9)) au (bD bS)) aJ)) au iD) (by decide) (oC (aX hz 2))).itp) (λj=>aZ 6) ⟨rfl,rfl⟩ ?_ (λh Γ' U A=>⟨h,A⟩) ?_
  ·intro j u Γ d
   refine cF (d.set 6 _) ?_
   have u:=aI.mp u
   have D:(t6 bs ks T j).length<=4:=c9 (gK _ _)
   refine bo (T:=tS W (t6 bs ks T j)) 7 (gO bS bS EQ (vL (nm 5) (nm 6) (oh (λe=>tS W (geV bs T e)) (T.length+1) (1+j) (fO 1 j▸Nat.add_lt_add_right u 1))) (vL (nm 4) (EvP.eq (U:=ag j) (md (nm 6) aJ) (by rw[zJ])) (oh (λe=>tS W (leV bs ks e)) (ks.length+1) j (fQ (aA u s.2))))) ?_
   refine dF (cp (tZ (n:=n+1) (m:=m) (bs:=bs) (Ψ:=λr=>r.Perm (t6 bs ks T j)) (z:=(t6 bs ks T j).length) (c:=440) (P:=438) (by kernel_rfl) rfl (o _ (by decide)) (xV bS (nm 7)) (λr C=>⟨C.length_eq,λv H=>DI v (C.mem_iff.mp H)⟩) x D ⟨⟨0,rfl,rfl⟩,trivial⟩ (by kernel_rfl) (by kernel_rfl)) (Bv (e:=T.length) c.N c.k hz (ao (bl cu) kb (ar1 (nm 9)) au (bD bS)) (nm 2) oJ) (Bu c.N c.k hz D oJ)) (λw=>?_) λw=>aN ⟨w,rfl,rfl⟩
   exact bo (T:=dk) 8 (i5 (b7 (ao (bl cu) kb (ar1 (nm 9)) au (bD bS)) (b7 (nm 6) (b7 (nm 9) (b7 (nm 7) gR))))) (bB (cg (ar2 bO (nm 8))) ⟨w,Ty.le_refl _⟩)
  ·intro h Γ d
   exact cF d (aN ⟨h,rfl,rfl⟩)
 ·intro h Γ' T A
  rw[vR,h];exact A
 ·intro h Γ f
  refine cF f ?_
  rw[vR,h]
  exact bo (T:=dk) 8 i4 (bB (cg (ar2 bO (nm 8))) (Ty.le_refl _))
theorem FJ(c:cU m bs ks)(a:jV W):aM W (n+12) (.ref 441) [tPf W m bs,tC W ks,tQu bs.length ks.length] [] (bH [aG (vR bs ks),dk]) :=
 s7 (fT 28) cFj [none,none,none,none,none,none,none] λenv=>DJ (W:=W.at (env::W.frs)) c a
theorem o0:iz W n .Eq (ma x) (ma y) (x==y):=λA O s u v c g a b=>by obtain⟨c,rfl⟩:=a;obtain⟨c,rfl⟩:=b;exact eq_str ⟨g.g,aF.refl s,rfl⟩
theorem pM(c:Case m bs ks)(a:(38,34)∈W.tabs):aM W (n+7) (.ref 57) [aD ks] [(S "num_cand",ag m)] (tC W ks):=by
 have:=wU (W:=W) (n:=n+2) (mq (n:=n+1) (λk h=>aA (c.km k h) c.m4) (by rw[c.ku]) (bp c.k4 (by decide))) c.km a
 rw[c.ku] at this
 exact this
abbrev cK(i:Nat):Cx:=⟨(fT i).2.2,[S "profile",S "committee",S "quota",S "algorithm",S "standard_quota",S "result",S "detailed_information"],[],none⟩
theorem gEJ:fc W "_check_EJR_brute_force" 406:=by kernel_rfl
theorem gPJ:fc W "_check_PJR_brute_force" 413:=by kernel_rfl
theorem gFJ:fc W "_check_FJR_brute_force" 441:=by kernel_rfl
theorem gCR:fc W "_check_core_brute_force" 454:=by kernel_rfl
abbrev BP:List (Str×Ty):=[(S "algorithm",ma (S "brute-force"))]
theorem DK(x:Arguments×List Stmt×Scope)(c:∀env,ExP (W.at (env::W.frs)) C ⟨[some T,some U,some cJ,some (ma (S "brute-force")),none,none,none],[]⟩ n x.2.1 (jr R))(d:∀v w z,FnQ W C a x.2.1 4 ⟨[v,w],[(S "algorithm",z)]⟩ [v,w,.none,z])(e:(decide C.names.Nodup&&decide (4<=C.names.length))=true):aM W (n+1) (.ref a) [T,U] BP R :=
 (uw (Ps:=[T,U,cJ,ma (S "brute-force")]) x C [none,none,none] (λV vs ks a b=>by
  obtain⟨u,v,rfl,h,g⟩:=a.a2
  obtain⟨w,rfl,f⟩:=b.a1
  exact⟨[u,v,.none,w],⟨h,g,rfl,f,trivial⟩,d u v w⟩) c (bP.mpr ⟨e,rfl⟩)).call
theorem ck4(c:cU m bs ks)(a:jV W):aM W (n+13) (.ref 369) [tPf W m bs,aD ks] BP (aG (!(List.range ks.length).any λj=>i7 bs ks (1+j))) /\
  aM W (n+13) (.ref 377) [tPf W m bs,aD ks] BP (aG (!(List.range ks.length).any λj=>i8 bs ks (1+j))) /\
  aM W (n+13) (.ref 436) [tPf W m bs,aD ks] BP (aG (vR bs ks))/\aM W (n+13) (.ref 449) [tPf W m bs,aD ks] BP (aG (vQ bs ks)):=by
 have hz:bs.length<100:=bp c.N.2 (by decide)
 have b:ks.length<100:=bp c.k.2 (by decide)
 refine⟨DK (n:=n+12) (C:=cK 18) (fT 18) (λenv=>?_) (λd d d=>by kernel_rfl) (by kernel_rfl),DK (n:=n+12) (C:=cK 19) (fT 19) (λenv=>?_) (λd d d=>by kernel_rfl) (by kernel_rfl),
  DK (n:=n+12) (C:=cK 27) (fT 27) (λenv=>?_) (λd d d=>by kernel_rfl) (by kernel_rfl),DK (n:=n+12) (C:=cK 29) (fT 29) (λenv=>?_) (λd d d=>by kernel_rfl) (by kernel_rfl)⟩
 all_goals
  refine fw (cp (nm 2) eX (fh (q:=true) λV v h=>by rw[show v = .none from h];rfl)) ?_
  refine bo (T:=aG true) 4 bO ?_
  refine bo (T:=tQu bs.length ks.length) 2 (ao (gl _ eL) kf (ar2 (e5 (nm 0) (by kernel_rfl) rfl (by kernel_rfl) dl au (gA (n:=n+8) hz (a _ (by decide)))) (EvP.eq (ao (bl cu) kb (ar1 (nm 1)) au (ed (.inl rfl) (by simp;exact oA ‹_›))) (by simp))) au (nZ (n:=n+9) c.k0 (oC hz) (oC b))) ?_
  refine aN ?_
  refine bo (T:=tC W ks) 1 (ao (gl _ dh) kf (ar1 (nm 1)) (eA (lV (p:=475) (fget:=474) (nm 0) (by kernel_rfl) (oU (n:=n+10) (by have:=c.m4;exact oB this)) js (λd=>rfl)) au) (pM (W:=W.at (env::W.frs)) (n:=n+5) c.toCase (a _ (by decide)))) ?_
  refine dD (TsP.eq (cp (nm 3) fu o0) (by decide +kernel)) ?_
  refine fw (TsP.eq (cp (nm 3) fu o0) (by decide +kernel)) ?_
  refine nA (U:=dk) 5 6 ?_ (aN (bB (nm 5) (Ty.le_refl _)))
 ·exact ao (gl _ gEJ) kf (ar3 (nm 0) (nm 1) (nm 2)) au (Fo (W:=W.at (_::W.frs)) (n:=n) c a)
 ·exact ao (gl _ gPJ) kf (ar3 (nm 0) (nm 1) (nm 2)) au (Fq (W:=W.at (_::W.frs)) (n:=n) c a)
 ·exact ao (gl _ gFJ) kf (ar3 (nm 0) (nm 1) (nm 2)) au (FJ (W:=W.at (_::W.frs)) (n:=n) c a)
 ·exact ao (gl _ gCR) kf (ar3 (nm 0) (nm 1) (nm 2)) au (DF (W:=W.at (_::W.frs)) (n:=n) c a)
abbrev cEP:Cx:=⟨(fT 25).2.2,[S "profile",S "committee",S "quota",S "standard_quota",S "result",S "detailed_information"],[],none⟩
theorem gEP:fc W "_check_EJR_plus" 428:=by kernel_rfl
theorem HL(c:cU m bs ks)(d:jV W):aM W (n+13) (.ref 421) [tPf W m bs,aD ks] [] (aG (!(List.range m).any (gE bs ks))) :=
 (uw (Ps:=[tPf W m bs,aD ks,cJ]) (n:=n+12) (fT 25) cEP [none,none,none] (λV vs ks a b=>by
  obtain⟨u,v,rfl,g,f⟩:=a.a2
  exact⟨[u,v,.none],⟨g,f,rfl,trivial⟩,by kernel_rfl⟩) (λenv=>by
  have hz:bs.length<100:=bp c.N.2 (by decide)
  have e:ks.length<100:=bp c.k.2 (by decide)
  refine fw (cp (nm 2) eX (fh (q:=true) λV v h=>by rw[show v = .none from h];rfl)) ?_
  refine bo (T:=aG true) 3 bO ?_
  refine bo (T:=tQu bs.length ks.length) 2 (ao (gl _ eL) kf (ar2 (e5 (nm 0) (by kernel_rfl) rfl (by kernel_rfl) dl au (gA (n:=n+8) hz (d _ (by decide)))) (EvP.eq (ao (bl cu) kb (ar1 (nm 1)) au (ed (.inl rfl) (by simp;exact oA ‹_›))) (by simp))) au (nZ (n:=n+9) c.k0 (oC hz) (oC e))) ?_
  refine aN ?_
  refine bo (T:=tC W ks) 1 (ao (gl _ dh) kf (ar1 (nm 1)) (eA (lV (p:=475) (fget:=474) (nm 0) (by kernel_rfl) (oU (n:=n+10) (by have:=c.m4;exact oB this)) js (λi=>rfl)) au) (pM (W:=W.at (env::W.frs)) (n:=n+5) c.toCase (d _ (by decide)))) ?_
  refine nA 4 5 (ao (gl _ gEP) kf (ar3 (nm 0) (nm 1) (nm 2)) au (GK (W:=W.at (env::W.frs)) (n:=n) c d)) ?_
  exact bB (nm 4) (Ty.le_refl _)) (by kernel_rfl)).call
abbrev cPA:Cx:=⟨(fT 17).2.2,[S "profile",S "committee",S "algorithm",S "result",S "detailed_information"],[],none⟩
theorem gPA:fc W "_check_pareto_optimality_brute_force" 399:=by kernel_rfl
theorem HM(c:cU m bs ks)(d:jV W):aM W (n+13) (.ref 361) [tPf W m bs,aD ks] [(S "algorithm",ma (S "brute-force"))] (aG (!(du m ks.length).any (ms bs ks))) :=
 (uw (Ps:=[tPf W m bs,aD ks,ma (S "brute-force")]) (n:=n+12) (fT 17) cPA [none,none] (λV vs ks a b=>by
  obtain⟨u,v,rfl,g,f⟩:=a.a2
  obtain⟨w,rfl,e⟩:=b.a1
  exact⟨[u,v,w],⟨g,f,e,trivial⟩,by kernel_rfl⟩) (λenv=>by
  refine bo (T:=tC W ks) 1 (ao (gl _ dh) kf (ar1 (nm 1)) (eA (lV (p:=475) (fget:=474) (nm 0) (by kernel_rfl) (oU (n:=n+10) (by have:=c.m4;exact oB this)) js (λh=>rfl)) au) (pM (W:=W.at (env::W.frs)) (n:=n+5) c.toCase (d _ (by decide)))) ?_
  refine dD (TsP.eq (cp (nm 2) fu o0) (by decide +kernel)) ?_
  refine fw (TsP.eq (cp (nm 2) fu o0) (by decide +kernel)) ?_
  refine nA 3 4 (ao (gl _ gPA) kf (ar2 (nm 0) (nm 1)) au (Fn (W:=W.at (env::W.frs)) (n:=n+3) c.toCase d)) (aN ?_)
  exact bB (nm 3) (Ty.le_refl _)) (by kernel_rfl)).call
theorem Et:jM W "NotImplementedError" (.type "NotImplementedError"):=⟨by kernel_rfl,by decide +kernel,by decide +kernel⟩
theorem yB{l:Expr}(d:EvP W C Γ n l (ma x))(a:EvP W C Γ n r (ma y))(hz:x.length+y.length<=sizeLine):EvP W C Γ n (.BinOp l .Add r pos) (ma (x++y)) :=
 il d a λA O s u v e g b c=>by
  obtain⟨e,rfl⟩:=b;obtain⟨e,rfl⟩:=c
  exact add_str (λe tk=>dW g.g ⟨_,rfl⟩) hz
theorem xk:aM W n (.type "str") [ma x] [] (ma x):=λA O s vs ks c g a hK=>by
 obtain⟨v,rfl,t,rfl⟩:=a.a1
 have b:=ay.nil_iff hK
 subst b
 exact PySem.P.str_of_str ⟨g.g,aF.refl s,_,rfl⟩
theorem t7{l i:Pos}(q:EvP W C Γ n (.Name (S "NotImplementedError") l) (aE (.type "NotImplementedError")))(p:dJ W C Γ n [e] [T])(u:P (.exc Γ "NotImplementedError")):ExP W C Γ n (.Raise (some (.Call (.Name (S "NotImplementedError") l) [e] [] i)) none pos::b) P:=bT λA env O M s o I=>by
 refine wpAny_Raise_made PySem.F.excRaise_NotImplementedError o.hd (mr q kt p o I λs₁ vs a f r=>?_)
 obtain⟨v,rfl,y⟩:=r.a1
 have g:=I.keep a f
 refine cV ?_
 obtain⟨w,x,d,tk,os⟩:=s₁
 refine wpAny_call_exc PySem.F.excCall_NotImplementedError (λh' e k m=>?_) (by show 1<=sizeLine;decide)
 obtain⟨t,c,y,y⟩:=k.there
 have j:w.objs.size<=e:=mN λh=>by have:=m.n e h k.new;rw[c] at this;cases this
 exact⟨e,t,rfl,c,gn.made (P:=uj W C n b P) u a g k.keeps j m.h c rfl rfl (by simp) rfl⟩
theorem GV(c:cU m bs ks)(i:jV W){w:Value}(E:aU W A (n+13))(d:GO W O s)(B:(tPf W m bs).p (am s.heap O) u)(j:(aD ks).p (am s.heap O) v)(z:(ma (S "by hand")).p (am s.heap O) w):
  wpAny (model prg W.w) A (call (.ref 436) [u,v] [(S "algorithm",w)]) (λI I=>False) (λe s'=>G W s'/\aF s s'/\∃X,(∀a∈X,s.heap.objs.size<=a/\W.H.objs.size<=a/\a<s'.heap.objs.size)/\fJ s'.heap X "NotImplementedError" true e) s:=by
 have D:l0 W.K (cK 27) 436 (fPr 27 "check_FJR" 435 (.ref 429)) (fT 27).2.1 [S "profile",S "committee",S "quota",S "algorithm"]:=gt (by kernel_rfl) (by kernel_rfl) (by kernel_rfl) (by rfl)
 obtain⟨o,t,hd⟩:=D.here
 have f:∀x c,(x,c)∉(fPr 27 "check_FJR" 435 (.ref 429)).closure:=D.nc
 refine bQ (bN (iA (n:=n+12) (C:=(cK 27)) (Γ:=⟨[some (tPf W m bs),some (aD ks),some cJ,some (ma (S "by hand")),none,none,none],[]⟩) (fd:=fPr 27 "check_FJR" 435 (.ref 429)) (body:=(fT 27).2.1) (binds:=[(S "profile",u),(S "committee",v),(S "quota",.none),(S "algorithm",w)]) (O:=O) (L:=⟨[],[]⟩) (P:=λo=>match o with | .exc _ c=>c = "NotImplementedError" | _=>False)
  (Q:=λI I=>False) (QE:=λe s'=>G W s'/\aF s s'/\∃X,(∀a∈X,s.heap.objs.size<=a/\W.H.objs.size<=a/\a<s'.heap.objs.size)/\fJ s'.heap X "NotImplementedError" true e)
  E d.g t hd (dC D.code d.g.kin) (by kernel_rfl) (D.ok _ rfl) (λx c m=>absurd m (f x c)) (List.Pairwise.nil) (λx c m=>absurd m (f x c)) (λx m=>d.ok x (by simpa using m)) (λI=>nM) ⟨⟨_,rfl,by simpa using B⟩,⟨_,rfl,by simpa using j⟩,⟨_,rfl,rfl⟩,⟨_,rfl,z⟩,trivial⟩ (λI I=>nM) gb (λI I=>nM) (λenv I=>?_) (λv s' M' Γ' T I I I I I h=>?_) (λI s' M' X Γ' cls k I l g I I F y=>?_)) λr s' h=>?_)
 ·have hz:bs.length<100:=bp c.N.2 (by decide)
  have b:ks.length<100:=bp c.k.2 (by decide)
  refine fw (cp (nm 2) eX (fh (q:=true) λV v h=>by rw[show v = .none from h];rfl)) ?_
  refine bo (T:=aG true) 4 bO ?_
  refine bo (T:=tQu bs.length ks.length) 2 (ao (gl _ eL) kf (ar2 (e5 (nm 0) (by kernel_rfl) rfl (by kernel_rfl) dl au (gA (n:=n+8) hz (i _ (by decide)))) (EvP.eq (ao (bl cu) kb (ar1 (nm 1)) au (ed (.inl rfl) (by simp;exact oA ‹_›))) (by simp))) au (nZ (n:=n+9) c.k0 (oC hz) (oC b))) ?_
  refine aN ?_
  refine bo (T:=tC W ks) 1 (ao (gl _ dh) kf (ar1 (nm 1)) (eA (lV (p:=475) (fget:=474) (nm 0) (by kernel_rfl) (oU (n:=n+10) (by have:=c.m4;exact oB this)) js (λI=>rfl)) au) (pM (W:=W.at (env::W.frs)) (n:=n+5) c.toCase (i _ (by decide)))) ?_
  refine dD (TsP.eq (cp (nm 3) fu o0) (by decide +kernel)) ?_
  refine s8 (TsP.eq (cp (nm 3) fu o0) (by decide +kernel)) ?_
  exact t7 (bl Et) (ar1 (yB (yB fu (ao (bl Ej) kt (ar1 (nm 3)) au xk) (by decide +kernel)) fu (by decide +kernel))) (by exact rfl)
 ·rcases h with h | h | h
  ·exact h.1.elim
  ·exact h.1.elim
  ·exact(h.1.elim id id).elim
 ·subst F
  exact⟨g,k,X,l,y⟩
 ·rcases r with e | (v | _ | _ | _) <;> first | exact h.elim | exact h
abbrev cRf:Cx:=⟨(fT 40).2.2,[S "profile",S "committee"],[],none⟩
theorem GW:fc W "check_FJR" 436:=by kernel_rfl
theorem DL:isSubtype (.type "NotImplementedError") (.type "NotImplementedError")=pure true:=by rw[fD];kernel_rfl
theorem DM(c:cU m bs ks)(K:jV W):ExP W cRf ⟨[some (tPf W m bs),some (aD ks)],[]⟩ (n+13) (fT 40).2.1 (jr (aG true)):=λA env O M s D I=>by
 refine bE (jH (bE (jC (yz (gl _ GW) kf (ar2 (nm 0) (nm 1)) (eA fu au) D I λs₁ vs kv d r H y=>?_) (mo I.ok.kind) (by rfl))))
 obtain⟨u,v,rfl,N,J⟩:=H.a2
 obtain⟨w,rfl,L⟩:=y.a1
 have i:=I.keep d r
 refine ad (GV c K D i.go N J L) (λe e h=>h.elim) λe s₂ h=>?_
 obtain⟨o,j,X,p,E⟩:=h
 have f:=i.wider j o (λa m=>⟨(p a m).1,(p a m).2.2⟩)
 refine rF (T := "NotImplementedError") (X:=X) D f.ok o f.top (λa m=>(p a m).2) E (by kernel_rfl) Et (by kernel_rfl) PySem.F.isExc_NotImplementedError PySem.F.notTuple_NotImplementedError DL λl X' t B=>?_
 have q:=f.xstep t (λa m z=>aw.mpr (p a m).1 (i.up a (al _ z)).2) E.flds
 refine bE (jY (ac ?_))
 have k:ak ⟨[],[]⟩ s l:=(d.trans j:ak ⟨[],[]⟩ s s₂).of_ext (M':=⟨X,[]⟩) ⟨λa m=>.inr (ae d.siz (p a m).1),λe=>nM⟩ t.k
 have C:InB W ⟨X',[]⟩ l:=⟨t.b,λe=>nM⟩
 exact⟨ak.ofK k,⟨M.a++X',M.g++[]⟩,⟨λa m=>(aj.mp m).imp id λm=>(t.x a m).elim (λm=>ae d.siz (p a m).1) λh=>ae (d.trans j).siz h,λa m=>.inl (by simpa using m)⟩,.ret _ (aG true),Ty.le_refl _,q.take C,rfl⟩
theorem xl(c:cU m bs ks)(a:jV W):aM W (n+14) (.ref 663) [tPf W m bs,aD ks] [] (aG true) :=
 rX (n:=n+13) (fT 40) cRf [] (λenv=>DM (W:=W.at (env::W.frs)) c a)
theorem rL{zs:List Int}:∀{vs:List Value},ay V (zs.map bh) vs->∃xs:List (Int×Tok),vs=xs.map (λp=>.int p.1 p.2)/\xs.map (·.1)=zs:=by
 induction zs with
 | nil =>
  intro vs h
  exact⟨[],ay.nil_iff h,rfl⟩
 | cons z zs ih =>
  intro vs h
  obtain⟨v,r,rfl,⟨t,rfl⟩,a⟩:=ay.cons_iff h
  obtain⟨xs,rfl,e⟩:=ih a
  exact⟨(z,t)::xs,rfl,by rw[cz,e]⟩
theorem BQ{xs:List (Int×Tok)}(h:i<xs.length):numAt xs.toArray i=(xs[i]'h).1:=by
 unfold numAt
 simp[List.getElem?_eq_getElem h]
theorem yC{xs:List (Int×Tok)}(h:i<xs.length):numAt xs.toArray i∈xs.map (·.1):=by
 rw[BQ h];exact cj (kW _)
theorem pN{xs:List (Int×Tok)}(h:z∈xs.map (·.1)):∃i,i<xs.length/\numAt xs.toArray i=z:=by
 obtain⟨p,b,rfl⟩:=a9.mp h
 obtain⟨i,a,e⟩:=List.getElem_of_mem b
 exact⟨i,a,by rw[BQ a,e]⟩
theorem BR{zs:List Int}{M:Int}(m:M∈zs)(j:∀a∈zs,a<=M):aM W n (.builtin "max") [bw (zs.map bh)] [] (bh M):=λA O s vs ks z g w hK=>by
 obtain⟨v,rfl,B,⟨a,c,rfl,o⟩,d⟩:=w.a1
 have x:=ay.nil_iff hK
 subst x
 obtain⟨xs,rfl,rfl⟩:=rL d
 have b:0<xs.length:=by
  obtain⟨i,f,A⟩:=pN m;exact bp (dT _) f
 refine cV (max_intList (xs:=xs.toArray) z.hd ⟨_,af o,rfl,c,by simp[intItems]⟩ (by simpa using b) λv h' tk u k l=>?_)
 obtain⟨t,rfl⟩:=intItems_at u
 refine⟨g.g.step k l.h,aF.step k l.h,t,?_⟩
 obtain⟨p,r⟩:=argBest_gt (numAt xs.toArray) (xs.toArray.size-1)
 obtain⟨i,f,e⟩:=pN m
 have y:=r i (ng f)
 have q:=j _ (yC (bp p (Nat.sub_one_lt (cE b))))
 rw[Int.le_antisymm q (e▸y)]
theorem BS{zs:List Int}{M:Int}(m:M∈zs)(j:∀a∈zs,M<=a):aM W n (.builtin "min") [bw (zs.map bh)] [] (bh M):=λA O s vs ks z g w hK=>by
 obtain⟨v,rfl,B,⟨a,c,rfl,o⟩,d⟩:=w.a1
 have x:=ay.nil_iff hK
 subst x
 obtain⟨xs,rfl,rfl⟩:=rL d
 have b:0<xs.length:=by
  obtain⟨i,f,A⟩:=pN m;exact bp (dT _) f
 refine cV (min_intList (xs:=xs.toArray) z.hd ⟨_,af o,rfl,c,by simp[intItems]⟩ (by simpa using b) λv h' tk u k l=>?_)
 obtain⟨t,rfl⟩:=intItems_at u
 refine⟨g.g.step k l.h,aF.step k l.h,t,?_⟩
 obtain⟨p,r⟩:=argBest_lt (numAt xs.toArray) (xs.toArray.size-1)
 obtain⟨i,f,e⟩:=pN m
 have y:=r i (ng f)
 have q:=j _ (yC (bp p (Nat.sub_one_lt (cE b))))
 rw[Int.le_antisymm (e▸y) q]
theorem DN{x y:Int}:aM W n (.builtin "min") [bh x,bh y] [] (bh (min x y)):=λA O s vs ks e g c hK=>by
 obtain⟨u,v,rfl,⟨t,rfl⟩,f,rfl⟩:=c.a2
 have d:=ay.nil_iff hK
 subst d
 refine cV (min_two_ints e.hd λh' tk a b=>⟨g.g.step a b.h,aF.step a b.h,?_⟩)
 by_cases h:y<x
 ·rw[bI h,Int.min_eq_right (Int.le_of_lt h)];exact⟨_,rfl⟩
 ·rw[bj h,Int.min_eq_left (iR.mp h)];exact⟨_,rfl⟩
theorem vS:iz W n .Eq (bw Ts) (bw []) Ts.isEmpty:=λA O s x y p g m l=>by
 obtain⟨vs,⟨a,c,rfl,i⟩,f⟩:=m
 obtain⟨q,⟨r,c',rfl,h⟩,d⟩:=l
 have e:=ay.nil_iff d
 subst e
 have b:=ay.len f
 have k:A.units<cLine:=by have:=p.units;exact ae (aX (aW _ _) 1) this
 cases vs with
 | nil =>
  cases Ts with
  | nil=>exact PySem.SeqAt.eq_listAt (e:=λj=>true) ⟨_,af i,rfl,c,rfl⟩ ⟨_,af h,rfl,c',rfl⟩ rfl k (λj o=>absurd o (by simp)) ⟨g.g,aF.refl s,rfl⟩
  | cons=>cases b
 | cons v vs =>
  cases Ts with
  | nil=>cases b
  | cons=>exact PySem.SeqAt.eq_list_lengthsAt ⟨_,af i,rfl,c,rfl⟩ ⟨_,af h,rfl,c',rfl⟩ (by simp) k ⟨g.g,aF.refl s,rfl⟩
theorem pj{zs:List Bool}:∀{vs:List Value},ay V (zs.map aG) vs->vs=zs.map .bool:=by
 induction zs with
 | nil =>
  intro vs h
  exact ay.nil_iff h
 | cons z zs ih =>
  intro vs h
  obtain⟨v,r,rfl,a,b⟩:=ay.cons_iff h
  have a:v = .bool z:=a
  refine a ▸ ?_;refine(ih b) ▸ ?_;rfl
theorem DO{xs b:List Bool}(m:xs.length=b.length):iz W n .Eq (bw (xs.map aG)) (bw (b.map aG)) (xs==b):=λA O s x y z g t p=>by
 obtain⟨vs,⟨a,c,rfl,o⟩,f⟩:=t
 obtain⟨B,⟨C,c',rfl,l⟩,d⟩:=p
 have v:=pj f
 have u:=pj d
 subst v u
 have r:A.units<cLine:=by have:=z.units;exact ae (aX (aW _ _) 1) this
 refine PySem.SeqAt.eq_listAt (items:=(xs.map Value.bool).toArray) (items2:=(b.map Value.bool).toArray) (e:=λj=>xs[j]? == b[j]?) ⟨_,af o,rfl,c,rfl⟩ ⟨_,af l,rfl,c',rfl⟩ (by simp[m]) r (λj w q=>?_) ?_
 ·have q1:j<xs.length:=by simpa using w
  have q2:j<b.length:=by simpa using q
  have:=PySem.SeqAt.EqAt.bool_bool (A:=A.in1) (s:=s) xs[j] b[j]
  simpa[q1,q2] using this
 ·rw[show((List.range (xs.map Value.bool).toArray.size).all λj=>xs[j]? == b[j]?)=(xs==b) from ?_]
  ·exact⟨g.g,aF.refl s,rfl⟩
  ·rw[dy,bd,aL]
   constructor
   ·intro h
    refine List.ext_getElem? λi=>?_
    by_cases k:i<xs.length
    ·exact aL.mp (h i (aI.mpr (by simpa using k)))
    ·rw[mW (aw.mp k),mW (ae (aH m.symm) (aw.mp k))]
   ·rintro rfl i D
    exact aL.mpr rfl
noncomputable def bal(bs:List (List Nat))(v:Nat):List Nat:=bs.getD v []
noncomputable def bA(some a:List Nat):Nat:=(some.filter λc=>a.contains c).length
noncomputable def fA(l:List Nat):Nat:=l.foldl max 0
noncomputable def bn(bs:List (List Nat))(ks g:List Nat):List Nat:=g.map λv=>bA (bal bs v) ks
noncomputable def cf(bs:List (List Nat))(ks g:List Nat):List Nat:=ks.filter λc=>!(g.filter λv=>(bal bs v).contains c).isEmpty
noncomputable def aT(m:Nat)(bs:List (List Nat))(g:List Nat):List Nat:=(List.range m).filter λc=>(g.filter λv=>!(bal bs v).contains c).isEmpty
noncomputable def t8(bs:List (List Nat))(m:Nat)(ks g:List Nat)(d:List Bool)(a:Nat):List Bool :=
 if decide (a*bs.length<=g.length*ks.length) then
  let d:=if decide (a<=(aT m bs g).length)&&decide (fA (bn bs ks g)<a) then(d.set 2 false).set 0 ((d.set 2 false).getD 0 false&&decide (1<a)) else d
  let d:=if decide (a<=(aT m bs g).length)&&decide ((cf bs ks g).length<a) then d.set 1 false else d
  if !((aT m bs g).filter λc=>!ks.contains c).isEmpty&&decide (fA (bn bs ks g)<a) then d.set 3 false else d
 else d
noncomputable def t9(bs:List (List Nat))(ks g:List Nat)(d:List Bool)(t:List Nat):List Bool :=
 if decide (t.length*bs.length<=g.length*ks.length) then
  let d:=if g.all λv=>decide (fA (bn bs ks g)<bA t (bal bs v)) then d.set 4 false else d
  if(g.filter λv=>decide (bA t (bal bs v)<=bA (bal bs v) ks)).isEmpty then d.set 5 false else d
 else d
noncomputable def vT(bs:List (List Nat))(ks:List Nat)(d:List Bool)(t:List Nat):List Bool :=
 if(bs.all λb=>decide (bA b ks<=bA t b))&&(bs.any λb=>decide (bA b ks<bA t b)) then d.set 6 false else d
noncomputable def xm(bs:List (List Nat))(m:Nat)(ks:List Nat)(d:List Bool)(g:List Nat):List Bool :=
 ((bZ (List.range m)).drop 1).foldl (t9 bs ks g) (((List.range ks.length).map (1 + ·)).foldl (t8 bs m ks g) d)
noncomputable def rM(bs:List (List Nat))(m:Nat)(ks:List Nat):List Bool :=
 ((bZ (List.range m)).filter λt=>decide (t.length=ks.length)).foldl (vT bs ks) (((bZ (List.range bs.length)).drop 1).foldl (xm bs m ks) (List.replicate 7 true))
theorem vU{a:Nat}:(t8 bs m ks g d a).length=d.length:=by
 unfold t8
 dsimp only
 repeat' split
 all_goals first | rfl | repeat rw[eE]
theorem vV:(t9 bs ks g d t).length=d.length:=by
 unfold t9
 dsimp only
 repeat' split
 all_goals first | rfl | repeat rw[eE]
theorem BT:(vT bs ks d t).length=d.length:=by
 unfold vT
 split
 ·exact eE ..
 ·rfl
abbrev cDu:Cx:=⟨(fT 39).2.2,[S "ballots",S "m",S "committee",S "k",S "n",S "due",S "sets",S "group",S "seats",S "union",S "shared",S "most",S "some",S "least",S "gains"],[S "ballots",S "committee",S "k",S "group",S "some"],none⟩
abbrev duK(bs:List (List Nat))(m:Nat)(ks:List Nat)(L:Addr)(d:List Bool)(r:List (Option Ty)):Kn:=⟨[some (cH bs),some (ag m),some (aD ks),some (ag ks.length),some (ag bs.length),some (aE (.ref L)),some (cH (bZ (List.range m)))]++r,[(L,cq (d.map aG))]⟩
theorem vW:fc W "_law_within" 646:=by kernel_rfl
theorem BU(c:m<=4)(a:bs.length<=3)(b:ks.length<=3)(h:∀L,ExP W cDu (duK bs m ks L (List.replicate 7 true) [none,none,none,none,none,none,none,none]) (n+20) ((fT 39).2.1.drop 3) P):ExP W cDu ⟨[some (cH bs),some (ag m),some (aD ks),none,none,none,none,none,none,none,none,none,none,none,none],[]⟩ (n+20) (fT 39).2.1 P:=by
 refine nA (T:=ag ks.length) (U:=ag bs.length) 3 4 (cg (ar2 (EvP.eq (ao (bl cu) kb (ar1 (nm 2)) au (ed (.inl rfl) (by simp;exact oB ‹_›))) (by simp)) (EvP.eq (ao (bl cu) kb (ar1 (nm 0)) au (ed (.inl rfl) (by simp;exact oB a))) (by simp)))) ?_
 refine kg (Q:=cq (List.replicate 7 (aG true))) 5 (CF (k:=7) bO aJ (by decide)) λL=>?_
 refine bo (T:=cH (bZ (List.range m))) 6 (ao (gl _ vW) kf (ar1 (ao (bl d7) kt (ar1 (nm 1)) au eF)) au (rq (n:=n+19) (oC ‹_›))) ?_
 exact h L
theorem vY:iz W n .NotEq (bw Ts) (bw []) (!Ts.isEmpty):=λA O s x y p g m l=>by
 obtain⟨vs,⟨a,c,rfl,i⟩,f⟩:=m
 obtain⟨q,⟨r,c',rfl,h⟩,d⟩:=l
 have e:=ay.nil_iff d
 subst e
 have b:=ay.len f
 have k:A.units<cLine:=by have:=p.units;exact ae (aX (aW _ _) 1) this
 cases vs with
 | nil =>
  cases Ts with
  | nil=>exact PySem.SeqAt.RcNeAt.lists (e:=λj=>true) ⟨_,af i,rfl,c,rfl⟩ ⟨_,af h,rfl,c',rfl⟩ rfl k (λj o=>absurd o (by simp)) prg W.w _ _ ⟨g.g,aF.refl s,rfl⟩
  | cons=>cases b
 | cons v vs =>
  cases Ts with
  | nil=>cases b
  | cons=>exact PySem.SeqAt.RcNeAt.lists_lengths ⟨_,af i,rfl,c,rfl⟩ ⟨_,af h,rfl,c',rfl⟩ (by simp) k prg W.w _ _ ⟨g.g,aF.refl s,rfl⟩
abbrev grB:List Stmt:=(stF (nth (fT 39).2.1 3)).2.1
theorem jW:fc W "_law_count" 651:=by kernel_rfl
theorem o4{v:Nat}(h:v<bs.length):(bs.map aD)[v]? = some (aD (bal bs v)):=by
 rw[dw,dz h,bal,eS,dz h];rfl
theorem BV{r:List (Option Ty)}(x:m<=4)(u:bs.length<=3)(t:ks.length<=3)(p:∀v∈g,v<bs.length)(o:g.length<=3)(s:∀v,(bal bs v).length<=4)(h:ExP W cDu (duK bs m ks L d [some (aD g),some (aD (bn bs ks g)),some (aD (cf bs ks g)),some (aD (aT m bs g)),none,none,none,none]) (n+20) (grB.drop 3) P):ExP W cDu (duK bs m ks L d [some (aD g),none,none,none,none,none,none,none]) (n+20) grB P:=by
 have f:∀k:Nat,k<=4->k<=sizeLine/\k<2 ^ 62:=λk t=>⟨ae t (by decide),bp t (by decide)⟩
 refine sC (ι:=Nat) [S "v",S "ballots",S "committee"] [] [none,some (cH bs),some (aD ks)] 8 g ag (λv=>some (ag (bA (bal bs v) ks))) (λv Γ=>Γ.set 0 (ag v)) (dE (nm 7)) (by have:=(f g.length (oC o)).1;exact this) (λv=>aZ 0) (λv=>bx rfl) (λv j=>fa) (λv j U l=>?_) ⟨⟨0,rfl,rfl⟩,⟨2,rfl,rfl⟩,trivial⟩ ?_
 ·cases l
  exact ao (gl _ jW) kf (ar2 (dZ (.inl rfl) (nm 1) (nm 0) (o4 (p v j)) (by have:=p v j;exact ae this (oC u))) (nm 2)) au (iE (n:=n+19) (f _ (s v)).1 (f _ (s v)).2)
 rw[show(g.filterMap λv=>some (ag (bA (bal bs v) ks)))=(bn bs ks g).map ag by rw[bn,cP,ni];rfl]
 have i:∀(c:Nat) (q:Nat->Bool) (v:Nat) (U:Ty),(if q v=true then some (ag v) else none)=some U->U=ag v:=λc q v U h=>by
  split at h
  ·cases h;rfl
  ·cases h
 have e:∀(q:Bool) (X:Ty),(if q=true then some X else none).isSome=q:=λq X=>by cases q <;> rfl
 refine sC (ι:=Nat) [S "c",S "ballots",S "group"] [S "c"] [none,some (cH bs),some (aD g)] 9 ks ag (λc=>if(!(g.filter λv=>(bal bs v).contains c).isEmpty)=true then some (ag c) else none) (λc Γ=>Γ.set 0 (ag c)) (dE (nm 2)) (f ks.length (oC t)).1 (λc=>aZ 0) (λc=>bx rfl) (λc w=>?_) (λc w U l=>?_) ⟨⟨0,rfl,rfl⟩,⟨7,rfl,rfl⟩,trivial⟩ ?_
 ·refine iX (TsP.eq (cp (lc (ι:=Nat) [S "v",S "ballots",S "c"] [] [none,some (cH bs),some (ag c)] g ag (λv=>if(bal bs v).contains c=true then some (ag v) else none) (λv Γ=>Γ.set 0 (ag v)) (dE (nm 2)) (f g.length (oC o)).1 (λv=>aZ 0) (λv=>bx rfl) (λv j=>iX (TsP.eq (cp (nm 2) (dZ (.inl rfl) (nm 1) (nm 0) (o4 (p v j)) (by have:=p v j;exact ae this (oC u))) Ec) (e _ _).symm)) (λv j U l=>by rw[i c (λv=>(bal bs v).contains c) v U l];exact nm 0) ⟨⟨1,rfl,rfl⟩,⟨0,rfl,rfl⟩,trivial⟩) (eZ dl) vY) ?_)
  rw[e,ee,nj]
 ·exact(i c (λc=>!(g.filter λv=>(bal bs v).contains c).isEmpty) c U l)▸(nm 0)
 rw[ee]
 refine sC (ι:=Nat) [S "c",S "ballots",S "group"] [S "c"] [none,some (cH bs),some (aD g)] 10 (List.range m) (λc=>ag (0+c)) (λc=>if(g.filter λv=>!(bal bs v).contains c).isEmpty=true then some (ag c) else none) (λc Γ=>Γ.set 0 (ag (0+c))) (di (a:=0) (b:=m) (ao (bl d7) kt (ar1 (nm 1)) au eF) (by decide) (oB x)) (by rw[dc];exact(f m x).1) (λc=>aZ 0) (λc=>bx rfl) (λc w=>?_) (λc w U l=>?_) ⟨⟨0,rfl,rfl⟩,⟨7,rfl,rfl⟩,trivial⟩ ?_
 ·refine iX (TsP.eq (cp (lc (ι:=Nat) [S "v",S "ballots",S "c"] [] [none,some (cH bs),some (ag (0+c))] g ag (λv=>if(!(bal bs v).contains (0+c))=true then some (ag v) else none) (λv Γ=>Γ.set 0 (ag v)) (dE (nm 2)) (f g.length (oC o)).1 (λv=>aZ 0) (λv=>bx rfl) (λv j=>iX (TsP.eq (cp (nm 2) (dZ (.inl rfl) (nm 1) (nm 0) (o4 (p v j)) (by have:=p v j;exact ae this (oC u))) uJ) (e _ _).symm)) (λv j U l=>by rw[i c (λv=>!(bal bs v).contains (0+c)) v U l];exact nm 0) ⟨⟨1,rfl,rfl⟩,⟨0,rfl,rfl⟩,trivial⟩) (eZ dl) vS) ?_)
  rw[e,ee,nj,b9]
 ·exact(i c (λc=>(g.filter λv=>!(bal bs v).contains c).isEmpty) c U l)▸(EvP.eq (nm 0) (by rw[b9]))
 rw[ee]
 exact h
theorem DP(l:List Nat):∀(a:Nat),(∀x∈l,x<=l.foldl max a)/\a<=l.foldl max a/\(l.foldl max a=a∨l.foldl max a∈l):=by
 induction l with
 | nil =>
  intro a
  exact⟨λg=>nM,aB _,.inl rfl⟩
 | cons x l ih =>
  intro a
  obtain⟨f,d,b⟩:=ih (max a x)
  refine⟨λy c=>?_,ae (Nat.le_max_left _ _) d,?_⟩
  ·rcases aC.mp c with e | c
   ·rw[e];exact ae (Nat.le_max_right _ _) d
   ·exact f y c
  ·refine(?_:l.foldl max (max a x)=a∨l.foldl max (max a x)∈x::l)
   rcases b with b | b
   ·rw[b]
    rcases Nat.le_total a x with h | h
    ·rw[Nat.max_eq_right h];exact .inr (.head _)
    ·rw[Nat.max_eq_left h];exact .inl rfl
   ·exact .inr (.tail _ b)
theorem vZ(h:l≠[]):fA l∈l/\∀x∈l,x<=fA l:=by
 obtain⟨b,c,a⟩:=DP l 0
 refine⟨?_,b⟩
 rcases a with a | a
 ·cases l with
  | nil=>exact absurd rfl h
  | cons x l =>
   have:=b x (.head _)
   have e:x=0:=kK.mp (a▸this)
   show(x::l).foldl max 0∈_
   rw[a,e];exact .head _
 ·exact a
theorem ua(h:l≠[]):aM W n (.builtin "max") [aD l] [] (ag (fA l)):=by
 obtain⟨d,c⟩:=vZ h
 have:=BR (W:=W) (n:=n) (zs:=l.map λ(x:Nat)=>(x:Int)) (M:=(fA l:Nat)) (cj d) (λa b=>by
  obtain⟨x,e,rfl⟩:=a9.mp b
  have:=c x e;exact cY.mpr this)
 rw[cP] at this
 exact this
theorem yD:jM W "max" (.builtin "max"):=⟨by kernel_rfl,by decide +kernel,by decide +kernel⟩
abbrev Eu:List Stmt:=(stF (nth grB 3)).2.1
abbrev rN:List Stmt:=(stF (nth Eu 0)).2.1
theorem HN:(d.map aG).set i (aG q)=(d.set i q).map aG:=by rw[mH]
theorem mw{R:List (Option Ty)}{idx:Expr}(j:Nat)(f:j<7)(hd:d.length=7)(c:EvP W cDu (duK bs m ks L d R) n value (aG q))(a:EvP W cDu (duK bs m ks L d R) n idx (ag j))(e:ExP W cDu (duK bs m ks L (d.set j q) R) n b P)(hs:autoParam (∀env,swapsWith value (some (.Subscript (.Name (S "due") xp) idx sp)) pos.line env=pure false) q_R):ExP W cDu (duK bs m ks L d R) n (.Assign [.Subscript (.Name (S "due") xp) idx sp] value pos::b) P:=by
 refine qZ (Ts:=d.map aG) (L:=L) 5 0 c a (by rw[a0,hd];exact f) (oA ‹_›) ?_ (hs:=hs)
 exact HN▸(e)
abbrev moK(bs:List (List Nat))(m:Nat)(ks g:List Nat)(L:Addr)(e:Nat)(r:List (Option Ty))(d:List Bool):Kn:=duK bs m ks L d ([some (aD g),some (aD (bn bs ks g)),some (aD (cf bs ks g)),some (aD (aT m bs g)),some (ag e)]++r)
abbrev sP(bs:List (List Nat))(m:Nat)(ks g:List Nat)(e:Nat)(d:List Bool):List Bool:=if decide (e<=(aT m bs g).length)&&decide (fA (bn bs ks g)<e) then(d.set 2 false).set 0 ((d.set 2 false).getD 0 false&&decide (1<e)) else d
abbrev v0(bs:List (List Nat))(m:Nat)(ks g:List Nat)(e:Nat)(d:List Bool):List Bool:=if decide (e<=(aT m bs g).length)&&decide ((cf bs ks g).length<e) then d.set 1 false else d
abbrev BW(bs:List (List Nat))(m:Nat)(ks g:List Nat)(e:Nat)(d:List Bool):List Bool:=if !((aT m bs g).filter λc=>!ks.contains c).isEmpty&&decide (fA (bn bs ks g)<e) then d.set 3 false else d
theorem hz4(l:List Nat)(h:l.length<=4):(l.map ag).length<2 ^ 62:=by rw[a0];exact oB ‹_›
theorem BX(a:m<=4):(aT m bs g).length<=4:=by
 have:=gj (λc=>(g.filter λv=>!(bal bs v).contains c).isEmpty) (List.range m);rw[dc] at this;exact ae this a
theorem xn(h:j<d.length):(d.map aG)[j]? = some (aG (d.getD j false)):=by
 rw[dw,eS,dz h];rfl
theorem HO{e:Nat}{r:List (Option Ty)}(hd:d.length=7)(i:m<=4)(a:0<g.length)(c:ExP W cDu (moK bs m ks g L e r (sP bs m ks g e d)) (n+20) (rN.drop 1) P):ExP W cDu (moK bs m ks g L e r d) (n+20) rN P:=by
 have f:bn bs ks g≠[]:=λh=>by have:=aY List.length h;rw[bn,a0] at this;rw[this] at a;exact absurd a (by decide)
 refine dF (q:=decide (e<=(aT m bs g).length)&&(decide (fA (bn bs ks g)<e)&&true)) (gq (cN (decide (e<=(aT m bs g).length)) (TsP.eq (cp (EvP.eq (U:=ag (aT m bs g).length) (ao (bl cu) kb (ar1 (nm 10)) au (ed (.inl rfl) (hz4 _ (BX i)))) (by simp)) (nm 11) k6) (by rw[decide_eq_decide];exact cY)) λk=>cN (decide (fA (bn bs ks g)<e)) (TsP.eq (cp (ao (bl yD) kb (ar1 (nm 8)) au (ua f)) (nm 11) ia) (by rw[fF];exact bV)) λk=>ji)) (λb=>?_) λb=>?_
 ·rw[cy] at b
  refine mw 2 (by decide) hd bO aJ ?_
  refine mw 0 (by decide) (by rw[eE];exact hd) (q:=(d.set 2 false).getD 0 false&&decide (1<e)) (xW (qY (j:=0) 5 0 aJ (xn (by rw[eE,hd];decide)) (by decide)) λk=>EvP.eq (cpv (nm 11) aJ qq) (by congr 1;rw[fF];exact cY)) aJ ?_
  refine aN ?_
  refine(?_:ExP W cDu (moK bs m ks g L e r ((d.set 2 false).set 0 _)) (n+20) (rN.drop 1) P)
  rw[sP,b] at c
  exact c
 ·rw[cy] at b
  rw[sP,b] at c
  exact c
theorem HP{e:Nat}{r:List (Option Ty)}(hd:d.length=7)(f:m<=4)(h:ks.length<=3)(b:ExP W cDu (moK bs m ks g L e r (v0 bs m ks g e d)) (n+20) (rN.drop 2) P):ExP W cDu (moK bs m ks g L e r d) (n+20) (rN.drop 1) P:=by
 have c:(cf bs ks g).length<=4:=ae (gj _ _) (ae h (by decide))
 refine dF (q:=decide (e<=(aT m bs g).length)&&(decide ((cf bs ks g).length<e)&&true)) (gq (cN (decide (e<=(aT m bs g).length)) (TsP.eq (cp (EvP.eq (U:=ag (aT m bs g).length) (ao (bl cu) kb (ar1 (nm 10)) au (ed (.inl rfl) (hz4 _ (BX f)))) (by simp)) (nm 11) k6) (by rw[decide_eq_decide];exact cY)) λi=>cN (decide ((cf bs ks g).length<e)) (TsP.eq (cp (EvP.eq (U:=ag (cf bs ks g).length) (ao (bl cu) kb (ar1 (nm 9)) au (ed (.inl rfl) (hz4 _ c))) (by simp)) (nm 11) ia) (by rw[decide_eq_decide];exact bV)) λi=>ji)) (λa=>?_) λa=>?_
 ·rw[cy] at a
  refine mw 1 (by decide) hd bO aJ ?_
  refine aN ?_
  refine(?_:ExP W cDu (moK bs m ks g L e r (d.set 1 false)) (n+20) (rN.drop 2) P)
  rw[v0,a] at b
  exact b
 ·rw[cy] at a
  rw[v0,a] at b
  exact b
theorem HQ{e:Nat}{r:List (Option Ty)}(hd:d.length=7)(l:m<=4)(b:0<g.length)(j:P (.next (moK bs m ks g L e r (BW bs m ks g e d)))):ExP W cDu (moK bs m ks g L e r d) (n+20) (rN.drop 2) P:=by
 have k:bn bs ks g≠[]:=λh=>by have:=aY List.length h;rw[bn,a0] at this;rw[this] at b;exact absurd b (by decide)
 have f:∀(q:Nat->Bool) (v:Nat) (U:Ty),(if q v=true then some (ag v) else none)=some U->U=ag v:=λq v U h=>by
  split at h
  ·cases h;rfl
  ·cases h
 have a:∀(q:Bool) (X:Ty),(if q=true then some X else none).isSome=q:=λq X=>by cases q <;> rfl
 refine dF (q:=!((aT m bs g).filter λc=>!ks.contains c).isEmpty&&(decide (fA (bn bs ks g)<e)&&true)) (gq (cN (!((aT m bs g).filter λc=>!ks.contains c).isEmpty) (TsP.eq (cp (lc (ι:=Nat) [S "c",S "committee"] [] [none,some (aD ks)] (aT m bs g) ag (λv=>if(!ks.contains v)=true then some (ag v) else none) (λv Γ=>Γ.set 0 (ag v)) (dE (nm 10)) (by have:=BX (bs:=bs) (g:=g) l;simp[sizeLine];exact oC this) (λv=>aZ 0) (λv=>bx rfl) (λv p=>iX (TsP.eq (cp (nm 0) (nm 1) uJ) (a _ _).symm)) (λv p U o=>by rw[f (λv=>!ks.contains v) v U o];exact nm 0) ⟨⟨2,rfl,rfl⟩,trivial⟩) (eZ dl) vY) (by rw[ee,nj])) λs=>cN (decide (fA (bn bs ks g)<e)) (TsP.eq (cp (ao (bl yD) kb (ar1 (nm 8)) au (ua k)) (nm 11) ia) (by rw[fF];exact cY)) λs=>ji)) (λi=>?_) λi=>?_
 ·rw[cy] at i
  refine mw 3 (by decide) hd bO aJ ?_
  rw[BW,i] at j
  exact aN (aN j)
 ·rw[cy] at i
  rw[BW,i] at j
  exact aN j
theorem DQ{e:Nat}{r:List (Option Ty)}(hd:d.length=7)(f:m<=4)(l:bs.length<=3)(i:ks.length<=3)(a:0<g.length/\g.length<=3)(j:e<=3)(b:P (.next (moK bs m ks g L e r (t8 bs m ks g d e)))):ExP W cDu (moK bs m ks g L e r d) (n+20) Eu P:=by
 refine dF (TsP.eq (q:=decide (e*bs.length<=g.length*ks.length)) (cp (gv (EvP.eq (U:=ag g.length) (ao (bl cu) kb (ar1 (nm 7)) au (ed (.inl rfl) (hz4 g (oC ‹_/\_›.2)))) (by simp)) (nm 3) (oB a.2)) (gv (nm 11) (nm 4) (oB j)) k6) (by rw[decide_eq_decide];exact cY)) (λh=>?_) λh=>aN ?_
 ·have c:(sP bs m ks g e d).length=7:=by
   unfold sP
   split
   ·rw[eE,eE];exact hd
   ·exact hd
  have k:(v0 bs m ks g e (sP bs m ks g e d)).length=7:=by
   unfold v0
   split
   ·rw[eE];exact c
   ·exact c
  refine HO hd f a.1 (HP c f i (HQ k f a.1 ?_))
  rw[t8,h] at b
  exact aN b
 ·rw[t8,h] at b;exact b
theorem BY:jM W "min" (.builtin "min"):=⟨by kernel_rfl,by decide +kernel,by decide +kernel⟩
theorem BZ{i:Type}{d:i->i->Prop}(j:∀a,d a a)(f:∀a b,d a b∨d b a)(tr:∀{a b c},d a b->d b c->d a c){l:List i}:l≠[]->∃M∈l,∀x∈l,d M x:=by
 induction l with
 | nil=>exact λh=>absurd rfl h
 | cons x l ih =>
  intro n
  by_cases e:l=[]
  ·subst e;exact⟨x,.head _,λy k=>by rw[ah.mp k];exact j x⟩
  ·obtain⟨M,m,h⟩:=ih e
   rcases f x M with g | g
   ·refine⟨x,.head _,λz hz=>?_⟩
    rcases aC.mp hz with rfl | hz
    ·exact j _
    ·exact tr g (h z hz)
   ·refine⟨M,.tail _ m,λz hz=>?_⟩
    rcases aC.mp hz with rfl | hz
    ·exact g
    ·exact h z hz
theorem DR{l:List Nat}:l≠[]->∃M∈l,∀x∈l,M<=x:=BZ aB Nat.le_total ae
theorem DS{M:Nat}(d:M∈l)(h:∀x∈l,M<=x):aM W n (.builtin "min") [aD l] [] (ag M):=by
 have:=BS (W:=W) (n:=n) (zs:=l.map λ(x:Nat)=>(x:Int)) (M:=(M:Nat)) (cj d) (λa b=>by
  obtain⟨x,c,rfl⟩:=a9.mp b
  have:=h x c;exact cY.mpr this)
 rw[cP] at this
 exact this
abbrev Ev:List Stmt:=(stF (nth grB 4)).2.1
abbrev B0:List Stmt:=(stF (nth Ev 0)).2.1
abbrev soK(bs:List (List Nat))(m:Nat)(ks g:List Nat)(L:Addr)(t:List Nat)(u w z:Option Ty)(d:List Bool):Kn:=duK bs m ks L d [some (aD g),some (aD (bn bs ks g)),some (aD (cf bs ks g)),some (aD (aT m bs g)),u,some (aD t),w,z]
abbrev v3(bs:List (List Nat))(ks g t:List Nat)(d:List Bool):List Bool:=if g.all λv=>decide (fA (bn bs ks g)<bA t (bal bs v)) then d.set 4 false else d
abbrev B1(bs:List (List Nat))(ks g t:List Nat)(d:List Bool):List Bool:=if(g.filter λv=>decide (bA t (bal bs v)<=bA (bal bs v) ks)).isEmpty then d.set 5 false else d
theorem HR{u w z:Option Ty}(hd:d.length=7)(a:0<g.length/\g.length<=3)(r:∀v∈g,v<bs.length)(y:bs.length<=3)(l:t.length<=4)(j:∀w,ExP W cDu (soK bs m ks g L t u w z (v3 bs ks g t d)) (n+20) (B0.drop 2) P):ExP W cDu (soK bs m ks g L t u w z d) (n+20) B0 P:=by
 have b:∀k:Nat,k<=4->k<=sizeLine/\k<2 ^ 62:=λk o=>⟨ae o (by decide),bp o (by decide)⟩
 have e:bn bs ks g≠[]:=λh=>by have:=aY List.length h;rw[bn,a0] at this;rw[this] at a;exact absurd a.1 (by decide)
 have f:(g.map λv=>bA t (bal bs v))≠[]:=λh=>by have:=aY List.length h;rw[a0] at this;rw[this] at a;exact absurd a.1 (by decide)
 obtain⟨M,s,x⟩:=DR f
 refine bo (T:=ag M) 13 (ao (bl BY) kb (ar1 (EvP.eq (U:=aD (g.map λv=>bA t (bal bs v))) (lc (ι:=Nat) [S "v",S "ballots",S "some"] [] [none,some (cH bs),some (aD t)] g ag (λv=>some (ag (bA t (bal bs v)))) (λv Γ=>Γ.set 0 (ag v)) (dE (nm 7)) (b g.length (oC ‹_/\_›.2)).1 (λv=>aZ 0) (λv=>bx rfl) (λv c=>fa) (λv c U A=>by
  cases A
  exact ao (gl _ jW) kf (ar2 (nm 2) (dZ (.inl rfl) (nm 1) (nm 0) (o4 (r v c)) (by have:=r v c;exact ae this (oC y)))) au (iE (n:=n+19) (b _ l).1 (b _ l).2)) ⟨⟨0,rfl,rfl⟩,⟨12,rfl,rfl⟩,trivial⟩) (by rw[aD,cP,ni];rfl))) au (DS s x)) ?_
 have p:(g.all λv=>decide (fA (bn bs ks g)<bA t (bal bs v)))=decide (fA (bn bs ks g)<M):=by
  rw[dy,bd,bq]
  constructor
  ·intro h
   obtain⟨v,c,rfl⟩:=a9.mp s
   exact ci (h v c)
  ·exact λh v c=>c8 (aA h (x _ (cj c)))
 refine dF (TsP.eq (q:=decide (fA (bn bs ks g)<M)) (cp (ao (bl yD) kb (ar1 (nm 8)) au (ua e)) (nm 13) ia) (by rw[fF];exact bV)) (λi=>?_) λi=>?_
 ·refine mw 4 (by decide) hd bO aJ ?_
  have:=j (some (ag M))
  rw[v3,p,i] at this
  exact aN this
 ·have:=j (some (ag M))
  rw[v3,p,i] at this
  exact this
theorem HS{u w z:Option Ty}(hd:d.length=7)(s:0<g.length/\g.length<=3)(j:∀v∈g,v<bs.length)(o:bs.length<=3)(p:t.length<=4)(c:∀v,(bal bs v).length<=4)(i:P (.next (soK bs m ks g L t u w z (B1 bs ks g t d)))):ExP W cDu (soK bs m ks g L t u w z d) (n+20) (B0.drop 2) P:=by
 have a:∀k:Nat,k<=4->k<=sizeLine/\k<2 ^ 62:=λk r=>⟨ae r (by decide),bp r (by decide)⟩
 have e:∀(q:Nat->Bool) (v:Nat) (U:Ty),(if q v=true then some (ag v) else none)=some U->U=ag v:=λq v U h=>by
  split at h
  ·cases h;rfl
  ·cases h
 have b:∀(q:Bool) (X:Ty),(if q=true then some X else none).isSome=q:=λq X=>by cases q <;> rfl
 refine dF (q:=(g.filter λv=>decide (bA t (bal bs v)<=bA (bal bs v) ks)).isEmpty) (TsP.eq (cp (lc (ι:=Nat) [S "v",S "ballots",S "committee",S "some"] [] [none,some (cH bs),some (aD ks),some (aD t)] g ag (λv=>if decide (bA t (bal bs v)<=bA (bal bs v) ks)=true then some (ag v) else none) (λv Γ=>Γ.set 0 (ag v)) (dE (nm 7)) (a g.length (oC ‹_/\_›.2)).1 (λv=>aZ 0) (λv=>bx rfl) (λv f=>iX (TsP.eq (cp (ao (gl _ jW) kf (ar2 (nm 3) (dZ (.inl rfl) (nm 1) (nm 0) (o4 (j v f)) (by have:=j v f;exact ae this (oC o)))) au (iE (n:=n+19) (a _ p).1 (a _ p).2)) (ao (gl _ jW) kf (ar2 (dZ (.inl rfl) (nm 1) (nm 0) (o4 (j v f)) (by have:=j v f;exact ae this (oC o))) (nm 2)) au (iE (n:=n+19) (a _ (c v)).1 (a _ (c v)).2)) uh) (by rw[b,fF];exact cY))) (λv f U x=>by rw[e (λv=>decide (bA t (bal bs v)<=bA (bal bs v) ks)) v U x];exact nm 0) ⟨⟨0,rfl,rfl⟩,⟨2,rfl,rfl⟩,⟨12,rfl,rfl⟩,trivial⟩) (eZ dl) vS) (by rw[ee,nj])) (λl=>?_) λl=>?_
 ·refine mw 5 (by decide) hd bO aJ ?_
  rw[B1,l] at i
  exact aN (aN i)
 ·rw[B1,l] at i
  exact aN i
theorem DT{u w z:Option Ty}(hd:d.length=7)(f:bs.length<=3)(k:ks.length<=3)(a:0<g.length/\g.length<=3)(i:∀v∈g,v<bs.length)(b:t.length<=4)(c:∀v,(bal bs v).length<=4)(e:∀w,P (.next (soK bs m ks g L t u w z (t9 bs ks g d t)))):ExP W cDu (soK bs m ks g L t u w z d) (n+20) Ev P:=by
 refine dF (TsP.eq (q:=decide (t.length*bs.length<=g.length*ks.length)) (cp (gv (EvP.eq (U:=ag g.length) (ao (bl cu) kb (ar1 (nm 7)) au (ed (.inl rfl) (hz4 g (oC ‹_/\_›.2)))) (by simp)) (nm 3) (oB a.2)) (gv (EvP.eq (U:=ag t.length) (ao (bl cu) kb (ar1 (nm 12)) au (ed (.inl rfl) (hz4 t b))) (by simp)) (nm 4) (oB b)) k6) (by rw[decide_eq_decide];exact cY)) (λh=>?_) λh=>aN ?_
 ·have j:(v3 bs ks g t d).length=7:=by rw[v3];split <;> simp[hd]
  refine HR hd a i f b λw=>HS j a i f b c ?_
  have:=e w
  rw[t9,h] at this
  exact aN this
 ·have:=e w
  rw[t9,h] at this;exact this
theorem v4(l:List Nat):∀(f:List (List Nat)) (x:List Nat),x∈l.foldl (λd c=>d++d.map (· ++ [c])) f↔∃a∈f,∃b,b.Sublist l/\x=a++b:=by
 induction l with
 | nil =>
  intro f x
  constructor
  ·exact λh=>⟨x,h,[],.slnil,(c0 x).symm⟩
  ·rintro⟨a,e,b,g,rfl⟩
   cases g
   rw[c0];exact e
 | cons c l ih =>
  intro f x
  rw[iQ,ih]
  constructor
  ·rintro⟨a,e,b,g,rfl⟩
   rcases aj.mp e with e | e
   ·exact⟨a,e,b,g.cons c,rfl⟩
   ·obtain⟨j,i,rfl⟩:=a9.mp e
    exact⟨j,i,c::b,g.cons_cons c,by rw[iu];rfl⟩
  ·rintro⟨a,e,b,g,rfl⟩
   cases g with
   | cons _ h=>exact⟨a,aj.mpr (.inl e),b,h,rfl⟩
   | cons_cons _ h=>exact⟨a++[c],aj.mpr (.inr (a9.mpr ⟨a,e,rfl⟩)),_,h,by rw[iu];rfl⟩
theorem gU{x:List Nat}:x∈bZ l↔x.Sublist l:=by
 unfold bZ
 rw[v4]
 constructor
 ·rintro⟨a,c,b,d,rfl⟩
  rw[ah] at c
  subst c;exact d
 ·exact λh=>⟨[],.head _,x,h,rfl⟩
theorem v5(l:List Nat):∀(t:List (List Nat)),[]∉t->∃d,l.foldl (λb c=>b++b.map (· ++ [c])) ([]::t)=[]::d/\[]∉d:=by
 induction l with
 | nil =>
  intro t h
  exact⟨t,rfl,h⟩
 | cons c l ih =>
  intro t h
  exact ih (t++([]::t).map (· ++ [c])) λm=>by
   rcases aj.mp m with m | m
   ·exact h m
   ·obtain⟨a,f,e⟩:=a9.mp m
    exact List.append_ne_nil_of_right_ne_nil a (sT c []) e
theorem ij{x:List Nat}:x∈(bZ l).drop 1↔x.Sublist l/\x≠[]:=by
 have h:=gU (l:=l) (x:=x)
 obtain⟨a,e,c⟩:=v5 l [] nM
 have e:bZ l=[]::a:=e
 rw[e] at h ⊢
 refine(?_:x∈a↔_)
 constructor
 ·exact λm=>⟨h.mp (.tail _ m),λe=>c (e▸m)⟩
 ·rintro⟨hs,b⟩
  rcases aC.mp (h.mpr hs) with e | m
  ·exact absurd e b
  ·exact m
theorem ly{q:List Nat->Bool}:((bZ l).drop 1).any q=true↔∃g,g.Sublist l/\g≠[]/\q g=true:=by
 rw[cn]
 exact⟨ir λg m h=>⟨g,(ij.mp m).1,(ij.mp m).2,h⟩,jK λg b a h=>⟨g,ij.mpr ⟨b,a⟩,h⟩⟩
theorem FK{q:Nat->Bool}:((List.range k).map (1 + ·)).any q=true↔∃j,j<k/\q (1+j)=true:=by
 rw[cn]
 constructor
 ·rintro⟨e,m,h⟩
  obtain⟨j,a,rfl⟩:=a9.mp m
  exact⟨j,aI.mp a,h⟩
 ·rintro⟨j,a,h⟩
  exact⟨1+j,a9.mpr ⟨j,aI.mpr a,rfl⟩,h⟩
noncomputable def of7(a:Nat->Bool):List Bool:=[a 0,a 1,a 2,a 3,a 4,a 5,a 6]
theorem gV{a b:Nat->Bool}(h:∀i,i<7->a i=b i):of7 a=of7 b:=by
 unfold of7
 rw[h 0 (by decide),h 1 (by decide),h 2 (by decide),h 3 (by decide),h 4 (by decide),h 5 (by decide),h 6 (by decide)]
theorem yE{ι:Type}{b:List Bool->ι->List Bool}{p:Nat->ι->Bool}(hs:∀a x,b (of7 a) x=of7 λi=>a i && !p i x)(xs:List ι):∀(a:Nat->Bool),xs.foldl b (of7 a)=of7 λi=>a i && !xs.any (p i):=by
 induction xs with
 | nil =>
  intro a
  exact gV λi c=>by rw[List.any_nil];cases a i <;> rfl
 | cons x xs ih =>
  intro a
  rw[iQ,hs,ih]
  exact gV λi c=>by rw[pC];cases a i <;> cases p i x <;> rfl
noncomputable def p1(bs:List (List Nat))(m:Nat)(ks g:List Nat)(i e:Nat):Bool:=decide (e*bs.length<=g.length*ks.length)&&match i with
 | 0=>decide (e<=(aT m bs g).length)&&decide (fA (bn bs ks g)<e) && !decide (1<e)
 | 1=>decide (e<=(aT m bs g).length)&&decide ((cf bs ks g).length<e)
 | 2=>decide (e<=(aT m bs g).length)&&decide (fA (bn bs ks g)<e)
 | 3=>!((aT m bs g).filter λc=>!ks.contains c).isEmpty&&decide (fA (bn bs ks g)<e)
 | _=>false
noncomputable def p2(bs:List (List Nat))(ks g:List Nat)(i:Nat)(t:List Nat):Bool:=decide (t.length*bs.length<=g.length*ks.length)&&match i with
 | 4=>g.all λv=>decide (fA (bn bs ks g)<bA t (bal bs v))
 | 5=>(g.filter λv=>decide (bA t (bal bs v)<=bA (bal bs v) ks)).isEmpty
 | _=>false
noncomputable def p3(bs:List (List Nat))(ks:List Nat)(i:Nat)(t:List Nat):Bool:=match i with
 | 6=>(bs.all λb=>decide (bA b ks<=bA t b))&&(bs.any λb=>decide (bA b ks<bA t b))
 | _=>false
theorem qA{x y:Bool}{P Q:Prop}(a:x=true↔P)(b:y=true↔Q):(x&&y)=true↔P/\Q:=bP.trans (and_congr a b)
theorem qN{x:Bool}:(!x)=true↔x=false:=Iff.of_eq (gf x)
theorem qE{p:Prop}[Decidable p]:decide p=true↔p:=qb
theorem q0:p1 bs m ks g 0 k=true↔k*bs.length<=g.length*ks.length/\(k<=(aT m bs g).length/\fA (bn bs ks g)<k)/\¬1<k:=qA qE (qA (qA qE qE) (qN.trans decide_eq_false_iff_not))
theorem q1:p1 bs m ks g 1 k=true↔k*bs.length<=g.length*ks.length/\k<=(aT m bs g).length/\(cf bs ks g).length<k:=qA qE (qA qE qE)
theorem q2:p1 bs m ks g 2 k=true↔k*bs.length<=g.length*ks.length/\k<=(aT m bs g).length/\fA (bn bs ks g)<k:=qA qE (qA qE qE)
theorem q3:p1 bs m ks g 3 k=true↔k*bs.length<=g.length*ks.length/\((aT m bs g).filter λc=>!ks.contains c).isEmpty=false/\fA (bn bs ks g)<k:=qA qE (qA qN qE)
theorem q4:p2 bs ks g 4 t=true↔t.length*bs.length<=g.length*ks.length/\∀v∈g,fA (bn bs ks g)<bA t (bal bs v):=qA qE (bd.trans (eT λa=>eT λa=>qE))
theorem q5:p2 bs ks g 5 t=true↔t.length*bs.length<=g.length*ks.length/\∀v∈g,bA (bal bs v) ks<bA t (bal bs v):=qA qE (e6.trans (jI.trans (eT λa=>eT λa=>(not_congr qE).trans kT)))
theorem q6:p3 bs ks 6 t=true↔(∀b∈bs,bA b ks<=bA t b)/\∃b∈bs,bA b ks<bA t b:=qA (bd.trans (eT λa=>eT λa=>qE)) (cn.trans (iT λa=>db λa=>qE))
theorem B2{a:Nat->Bool}(b:j<7):(if q then(of7 a).set j false else of7 a)=of7 λi=>a i && !(q&&i==j):=by
 cases q with
 | false=>exact gV λi c=>(cy (a i)).symm
 | true =>
  have e:(of7 a).set j false=of7 λi=>if i=j then false else a i:=by
   rcases j with _ | _ | _ | _ | _ | _ | _ | j <;> first | rfl | exact absurd b (aw.mpr (jc 7 j))
  refine e.trans (gV λi c=>?_)
  by_cases h:i=j
  ·rw[bI h,h,jz];exact(e8 (a j)).symm
  ·rw[bj h,ey.mpr h];exact(cy (a i)).symm
theorem HT{a:Nat->Bool}{r:Bool}:(if q then((of7 a).set 2 false).set 0 (((of7 a).set 2 false).getD 0 false&&r) else of7 a)=of7 λi=>a i && !(q&&(i==2||i==0 && !r)):=by
 cases q with
 | false=>exact gV λi c=>(cy (a i)).symm
 | true =>
  have e:((of7 a).set 2 false).set 0 (((of7 a).set 2 false).getD 0 false&&r)=of7 λi=>if i=2 then false else if i=0 then a 0&&r else a i:=rfl
  refine e.trans (gV λi c=>?_)
  by_cases h:i=2
  ·rw[bI h,h];exact(e8 (a 2)).symm
  ·rw[bj h,ey.mpr h]
   by_cases b:i=0
   ·rw[bI b,b];cases r <;> rfl
   ·rw[bj b,ey.mpr b];exact(cy (a i)).symm
theorem FL(a:Nat->Bool)(e:Nat):t8 bs m ks g (of7 a) e=of7 λi=>a i && !p1 bs m ks g i e:=by
 unfold t8
 cases h:decide (e*bs.length<=g.length*ks.length) with
 | false=>exact gV λi d=>by unfold p1;rw[h];exact(cy (a i)).symm
 | true =>
  rw[bI rfl]
  dsimp only
  rw[HT,B2 (by decide),B2 (by decide)]
  refine gV λi b=>?_
  unfold p1
  rw[h]
  generalize decide (e<=(aT m bs g).length)=q1
  generalize decide (fA (bn bs ks g)<e)=q2
  generalize decide ((cf bs ks g).length<e)=q3
  generalize((aT m bs g).filter λc=>!ks.contains c).isEmpty=q4
  generalize decide (1<e)=q5
  generalize a i=x
  revert x q1 q2 q3 q4 q5
  revert i
  decide +kernel
theorem FM(a:Nat->Bool)(t:List Nat):t9 bs ks g (of7 a) t=of7 λi=>a i && !p2 bs ks g i t:=by
 unfold t9
 cases h:decide (t.length*bs.length<=g.length*ks.length) with
 | false=>exact gV λi c=>by unfold p2;rw[h];exact(cy (a i)).symm
 | true =>
  rw[bI rfl]
  rw[B2 (by decide),B2 (by decide)]
  refine gV λi b=>?_
  unfold p2
  rw[h]
  generalize(g.all λv=>decide (fA (bn bs ks g)<bA t (bal bs v)))=q1
  generalize(g.filter λv=>decide (bA t (bal bs v)<=bA (bal bs v) ks)).isEmpty=q2
  generalize a i=x
  revert x q1 q2
  revert i
  decide +kernel
theorem FN(a:Nat->Bool)(t:List Nat):vT bs ks (of7 a) t=of7 λi=>a i && !p3 bs ks i t:=by
 unfold vT
 rw[B2 (by decide)]
 refine gV λi c=>?_
 unfold p3
 generalize((bs.all λb=>decide (bA b ks<=bA t b))&&(bs.any λb=>decide (bA b ks<bA t b)))=q1
 generalize a i=x
 revert x q1
 revert i
 decide +kernel
noncomputable def pG(bs:List (List Nat))(m:Nat)(ks:List Nat)(i:Nat)(g:List Nat):Bool:=((List.range ks.length).map (1 + ·)).any (p1 bs m ks g i)||((bZ (List.range m)).drop 1).any (p2 bs ks g i)
theorem FO(a:Nat->Bool)(g:List Nat):xm bs m ks (of7 a) g=of7 λi=>a i && !pG bs m ks i g:=by
 unfold xm
 rw[yE FL,yE FM]
 refine gV λi b=>?_
 unfold pG
 rw[Bool.not_or,Bool.and_assoc]
noncomputable def eJ(bs:List (List Nat))(m:Nat)(ks:List Nat)(i:Nat):Bool:=!((bZ (List.range bs.length)).drop 1).any (pG bs m ks i) && !((bZ (List.range m)).filter λt=>decide (t.length=ks.length)).any (p3 bs ks i)
theorem yF:rM bs m ks=of7 (eJ bs m ks):=by
 unfold rM
 rw[show List.replicate 7 true=of7 λa=>true from rfl,yE FO,yE FN]
 exact gV λi a=>by rw[kX];rfl
theorem pk(a:i<4):eJ bs m ks i=false↔∃g,g.Sublist (List.range bs.length)/\g≠[]/\∃j,j<ks.length/\p1 bs m ks g i (1+j)=true:=by
 have c:∀g,((bZ (List.range m)).drop 1).any (p2 bs ks g i)=false:=λg=>gX.mpr λt d=>by
  have:p2 bs ks g i t=(decide (t.length*bs.length<=g.length*ks.length)&&false):=by rcases i with _ | _ | _ | _ | i <;> first | rfl | exact absurd a (aw.mpr (jc 4 _))
  rw[this,e8];exact eC
 have b:((bZ (List.range m)).filter λt=>decide (t.length=ks.length)).any (p3 bs ks i)=false:=gX.mpr λt d=>by
  have:p3 bs ks i t=(false):=by rcases i with _ | _ | _ | _ | i <;> first | rfl | exact absurd a (aw.mpr (jc 4 _))
  rw[this];exact eC
 unfold eJ
 rw[b,Bool.not_false,cy,hY,ly]
 refine iT λg=>db λd=>db λd=>?_
 unfold pG
 rw[c,Bool.or_false,FK]
theorem v6(a:i=4∨i=5):eJ bs m ks i=false↔∃g,g.Sublist (List.range bs.length)/\g≠[]/\∃t,t.Sublist (List.range m)/\t≠[]/\p2 bs ks g i t=true:=by
 have c:∀g,((List.range ks.length).map (1 + ·)).any (p1 bs m ks g i)=false:=λg=>gX.mpr λt d=>by
  rcases a with rfl | rfl <;> exact λh=>eC ((e8 _).symm.trans h)
 have b:((bZ (List.range m)).filter λt=>decide (t.length=ks.length)).any (p3 bs ks i)=false:=gX.mpr λt d=>by
  rcases a with rfl | rfl <;> exact eC
 unfold eJ
 rw[b,Bool.not_false,cy,hY,ly]
 refine iT λg=>db λd=>db λd=>?_
 unfold pG
 rw[c,dP,ly]
theorem GX:eJ bs m ks 6=false↔∃t,t.Sublist (List.range m)/\t.length=ks.length/\p3 bs ks 6 t=true:=by
 have d:∀g,pG bs m ks 6 g=false:=λg=>by
  unfold pG
  rw[Bool.or_eq_false_iff]
  exact⟨gX.mpr λe e h=>eC ((e8 _).symm.trans h),gX.mpr λe e h=>eC ((e8 _).symm.trans h)⟩
 have c:((bZ (List.range bs.length)).drop 1).any (pG bs m ks 6)=false:=gX.mpr λg e=>by rw[d];exact eC
 unfold eJ
 rw[c,Bool.not_false,kX,hY,cn]
 constructor
 ·rintro⟨t,m,h⟩
  obtain⟨b,a⟩:=bk.mp m
  exact⟨t,gU.mp b,ci a,h⟩
 ·rintro⟨t,b,a,h⟩
  exact⟨t,bk.mpr ⟨gU.mpr b,c8 a⟩,h⟩
theorem pO{ι j:Type}(l:List ι)(f:ι->Ty)(u:ι->Kn->Kn)(d:j->ι->j)(a:j)(K:j->Kn->Prop)(hit:ItP W C Γ n tgt iter (λTs=>Ts=l.map f))(k:∀x,j1 W C n tgt (f x) (u x))(s:K a Γ)(p:∀x∈l,∀a Γ,K a Γ->ExP W C (u x Γ) n body (λo=>match o with | .next Γ'=>K (d a x) Γ' | _=>False))(r:∀Γ,K (l.foldl d a) Γ->ExP W C Γ n b P)(hs:autoParam (∀env x,foldedSetIterable iter env x=pure x) q_R):ExP W C Γ n (.For tgt iter body [] pos::b) P :=
 fW (λl'=>l'=l) f u (λt Us Γ=>∃h,l=h++Us/\K (h.foldl d a) Γ) (hit.eq λTs e=>⟨l,rfl,e⟩) k (λt e=>⟨[],e▸rfl,s⟩) (λl' e q x Us m Γ=>ir λh i hK=>by
  refine lH (p x (fR i) _ Γ hK) λo g=>?_
  cases o with
  | next Γ'=>exact⟨h++[x],dA i,by rw[List.foldl_append];exact g⟩
  | cont Γ'=>exact g.elim
  | ret Γ' T=>exact g.elim
  | brk Γ'=>exact g.elim
  | exc Γ' c=>exact g.elim) (λl' e Γ=>ir λh m hK=>r Γ (by rw[m,c0];exact hK)) hs
theorem Ew(h:k<=16):Nat.ble k sizeLine=true:=Nat.ble_eq.mpr (ae h (by decide))
theorem rO(h:l.length<=4):(bZ l).length<=16:=by rw[rn];exact Nat.pow_le_pow_right (n:=2) (by decide) h
theorem FP(hd:d.length=7)(f:m<=4)(l:bs.length<=3)(i:ks.length<=3)(p:∀v∈g,v<bs.length)(c:0<g.length/\g.length<=3)(e:∀v,(bal bs v).length<=4)(q:∀u w x,P (.next (duK bs m ks L (xm bs m ks d g) [some (aD g),some (aD (bn bs ks g)),some (aD (cf bs ks g)),some (aD (aT m bs g)),u,w,x,none]))):ExP W cDu (duK bs m ks L d [some (aD g),none,none,none,none,none,none,none]) (n+20) grB P:=by
 refine BV (r:=[]) f l i p c.2 e ?_
 refine pO (List.range ks.length) (λj=>ag (1+j)) (λj Γ=>Γ.set 11 (ag (1+j))) (λd j=>t8 bs m ks g d (1+j)) d (λd Γ=>d.length=7/\∃u,Γ=duK bs m ks L d [some (aD g),some (aD (bn bs ks g)),some (aD (cf bs ks g)),some (aD (aT m bs g)),u,none,none,none]) ((di (a:=1) (b:=ks.length+1) (ao (bl d7) kt (ar2 aJ (eK (b:=1) (nm 3) aJ)) au iD) (by decide) (oM ‹_›)).itp) (λj=>aZ 11) ⟨hd,_,rfl⟩ ?_ ?_
 ·rintro j o d Γ ⟨hd,u,rfl⟩
  have o:=aI.mp o
  exact DQ hd f l i c (oN o i) ⟨by rw[vU,hd],_,rfl⟩
 ·rintro Γ ⟨hd,u,rfl⟩
  rw[← List.foldl_map] at hd ⊢
  refine pO ((bZ (List.range m)).drop 1) aD (λt Γ=>Γ.set 12 (aD t)) (t9 bs ks g) _ (λd Γ=>d.length=7/\∃w x,Γ=duK bs m ks L d [some (aD g),some (aD (bn bs ks g)),some (aD (cf bs ks g)),some (aD (aT m bs g)),u,w,x,none]) ((dE (EvP.eq (CD (k:=1) (nm 6) aJ (Ew (by rw[a0];exact rO (by rw[dc];exact f)))) (by rw[← List.map_drop]))).itp) (λt=>aZ 12) ⟨hd,_,_,rfl⟩ ?_ ?_
  ·rintro t h d Γ ⟨hd,w,x,rfl⟩
   have h:=(ij.mp h).1.length_le
   rw[dc] at h
   exact DT hd l i c p (ae h f) e λw=>⟨by rw[vV,hd],_,_,rfl⟩
  ·rintro Γ ⟨hd,w,x,rfl⟩
   exact aN (q _ _ _)
theorem wa{l:List Int}:l≠[]->∃M∈l,∀x∈l,M<=x:=BZ Int.le_refl Int.le_total jb
theorem B3{l:List Int}(h:l≠[]):∃M∈l,∀x∈l,x<=M:=by
 obtain⟨M,d,h⟩:=wa (l:=l.map λx=>-x) (λe=>h (List.map_eq_nil_iff.mp e))
 obtain⟨a,b,rfl⟩:=a9.mp d
 refine⟨a,b,λx c=>?_⟩
 have:=h _ (cj c)
 exact Int.le_of_neg_le_neg this
abbrev GY:List Stmt:=(stF (nth (fT 39).2.1 4)).2.1
theorem DU{A z D x E y B:Option Ty}(hd:d.length=7)(a:0<bs.length/\bs.length<=3)(r:t.length<=4)(f:∀b∈bs,b.length<=4)(l:∀w,P (.next (duK bs m ks L (vT bs ks d t) [none,none,none,none,none,some (aD t),none,w]))):ExP W cDu (duK bs m ks L d [A,z,D,x,E,some (aD t),y,B]) (n+20) GY P:=by
 have c:∀k:Nat,k<=4->k<=sizeLine/\k<2 ^ 62:=λk s=>⟨ae s (by decide),bp s (by decide)⟩
 refine j6 (Γ':=duK bs m ks L d [none,none,none,none,none,some (aD t),none,none]) rfl rfl ?_
 refine sC (ι:=List Nat) [S "one",S "committee",S "some"] [] [none,some (aD ks),some (aD t)] 14 bs aD (λb=>some (bh ((bA t b:Int)-(bA b ks:Int)))) (λb Γ=>Γ.set 0 (aD b)) (dE (nm 0)) (c bs.length (oC ‹_/\_›.2)).1 (λv=>aZ 0) (λv=>bx rfl) (λv F=>fa) (λb a U C=>by
  cases C
  exact md (ao (gl _ jW) kf (ar2 (nm 2) (nm 0)) au (iE (n:=n+19) (c _ r).1 (c _ r).2)) (ao (gl _ jW) kf (ar2 (nm 0) (nm 1)) au (iE (n:=n+19) (c _ (f b a)).1 (c _ (f b a)).2))) ⟨⟨2,rfl,rfl⟩,⟨12,rfl,rfl⟩,trivial⟩ ?_
 have e:(bs.filterMap λb=>some (bh ((bA t b:Int)-(bA b ks:Int))))=(bs.map λb=>((bA t b:Int)-(bA b ks:Int))).map bh:=by rw[cP,ni];rfl
 rw[e]
 have i:(bs.map λb=>((bA t b:Int)-(bA b ks:Int)))≠[]:=λh=>by have:=aY List.length h;rw[a0] at this;rw[this] at a;exact absurd a.1 (by decide)
 obtain⟨M,u,g⟩:=wa i
 obtain⟨X,p,j⟩:=B3 i
 have q1:decide (0<=M)=bs.all λb=>decide (bA b ks<=bA t b):=by
  rw[dy,bd,bq]
  constructor
  ·intro h b a
   have:=g _ (cj a)
   exact c8 (cY.mp (Int.le_of_sub_nonneg (jb h this)))
  ·intro h
   obtain⟨b,a,rfl⟩:=a9.mp u
   have:=ci (h b a)
   exact Int.sub_nonneg_of_le (cY.mpr this)
 have q2:decide (0<X)=bs.any λb=>decide (bA b ks<bA t b):=by
  rw[dy,cn,bq]
  constructor
  ·intro h
   obtain⟨b,a,rfl⟩:=a9.mp p
   exact⟨b,a,c8 (bV.mp (Int.lt_of_sub_pos h))⟩
  ·rintro⟨b,a,h⟩
   have:=j _ (cj a)
   have:=ci h
   exact wg (Int.sub_pos_of_lt (bV.mpr this)) ‹_›
 refine dF (q:=decide (0<=M)&&(decide (0<X)&&true)) (gq (cN (decide (0<=M)) (cp (ao (bl BY) kb (ar1 (nm 14)) au (BS u g)) aJ k6) λv=>cN (decide (0<X)) (cp (ao (bl yD) kb (ar1 (nm 14)) au (BR p j)) aJ qq) λv=>ji)) (λo=>?_) λo=>?_
 all_goals
  rw[cy,q1,q2] at o
  unfold vT at l
  rw[o] at l
 ·refine mw 6 (by decide) hd bO aJ ?_
  exact aN (aN (l _))
 ·exact aN (l _)
theorem wb{ι:Type}{f:List Bool->ι->List Bool}(h:∀d x,(f d x).length=d.length)(l:List ι):∀(d:List Bool),(l.foldl f d).length=d.length:=by
 induction l with
 | nil =>
  intro a
  exact rfl
 | cons x l ih =>
  intro d
  rw[iQ,ih,h]
theorem B4:(xm bs m ks d g).length=d.length:=by
 unfold xm
 rw[wb λd x=>vV,wb λd x=>vU]
theorem zT(E:EvP W C Γ n value (bw Ts))(h:EvP W C Γ n e (ag k))(hz:Nat.ble Ts.length sizeLine=true):EvP W C Γ n (.Subscript value (.Slice (some e) none none p) pos) (bw (Ts.drop k)):=λA env O M s B I=>by
 refine aa (ad (E A env O M s B I) (λo s₁ g=>aa (aP (wpAny_Slice ?_))) az)
 have x:=g.then I
 refine ad (nR h B x) (λl s₂ f=>ad (sH f.2.1) (λu b d=>?_) az) az
 refine ac ?_
 have q:=g.2.1.trans (f.2.2.trans d.2.2)
 have m:=I.keep q d.2.1
 obtain⟨vs,⟨a,c,rfl,y⟩,j⟩:=(bw Ts).mono ((f.2.2.trans d.2.2).vle0 _) g.2.2
 obtain⟨w,i,z⟩:=bJ m.go { cls:=.type "slice",data:=.fields #[l,u,.none] } b.toks
 have v:=m.keep i w
 have t:(b.heap.push { cls:=.type "slice",data:=.fields #[l,u,.none] }).IsList a vs.toArray:=⟨_,aV _ (af y),rfl,c,rfl⟩
 have D:Shared.TypeIs { b with heap:=b.heap.push { cls:=.type "slice",data:=.fields #[l,u,.none] } } (.ref a) "list" := ⟨_,aV _ (af y),rfl⟩
 refine aa (ct (aa ?_))
 refine aa (eM D list_getitem_lookup ?_)
 refine ac (aa (jA (wpAny_getItem_list_slice t (Heap.IsSliceOf.new ..) f.1 d.1 .none (by simp) (wpAny_bind (wpAny_letTemporaryGo (wpAny_pure ?_))) (by rw[List.size_toArray,ay.len j];exact cL hz))))
 rw[slicePick_from']
 have r:=ny (T := "list") v.go b.toks (ay.drop k (ay.mono (i.vle0 _) j))
 exact⟨r.1,q.trans (i.trans r.2.1),r.2.2⟩
theorem FQ(h:∀b∈bs,b.length<=4)(v:Nat):(bal bs v).length<=4:=by
 unfold bal
 rw[eS]
 rcases Nat.lt_or_ge v bs.length with a | a
 ·exact(dz a)▸(h _ (kW a))
 ·exact(mW a)▸(dT _)
theorem FR(j:m<=4)(h:0<bs.length/\bs.length<=3)(o:ks.length<=3)(i:∀b∈bs,b.length<=4):aM W (n+21) (.ref 656) [cH bs,ag m,aD ks] [] (bw ((rM bs m ks).map aG)) :=
 s7 (n:=n+20) (fT 39) cDu [none,none,none,none,none,none,none,none,none,none,none,none] (λenv=>by
  refine BU (W:=W.at (env::W.frs)) j h.2 o λL=>?_
  refine pO ((bZ (List.range bs.length)).drop 1) aD (λg Γ=>Γ.set 7 (aD g)) (xm bs m ks) (List.replicate 7 true) (λd Γ=>d.length=7/\Sub Γ (duK bs m ks L d [none,none,none,none,none,none,none,none])) ((dE (EvP.eq (zT (k:=1) (ao (gl _ vW) kf (ar1 (ao (bl d7) kt (ar1 (nm 4)) au eF)) au (rq (n:=n+19) (oC ‹_/\_›.2))) aJ (Ew (by rw[a0];exact rO (by rw[dc];exact oC h.2)))) (by rw[← List.map_drop]))).itp) (λt=>aZ 7) ⟨rfl,rfl,rfl⟩ ?_ ?_
  ·rintro g q d Γ ⟨hd,a⟩
   obtain⟨hs,s⟩:=ij.mp q
   have p:=hs.length_le
   rw[dc] at p
   refine cF (a.set 7 _) ?_
   exact FP hd j h.2 o (λv r=>aI.mp (hs.subset r)) ⟨List.length_pos_iff.mpr s,ae p h.2⟩ (FQ i) λu w x=>⟨by rw[B4,hd],rfl,rfl⟩
  ·rintro Γ ⟨hd,a⟩
   refine cF a ?_
   refine pO ((bZ (List.range m)).filter λt=>decide (t.length=ks.length)) aD (λt Γ=>Γ.set 12 (aD t)) (vT bs ks) _ (λd Γ=>d.length=7/\Sub Γ (duK bs m ks L d [none,none,none,none,none,none,none,none])) ((dE (EvP.eq (lc (ι:=List Nat) [S "some",S "k"] [] [none,some (ag ks.length)] (bZ (List.range m)) aD (λt=>if decide (t.length=ks.length)=true then some (aD t) else none) (λt Γ=>Γ.set 0 (aD t)) (dE (nm 6)) (ae (rO (by rw[dc];exact j)) (by decide)) (λv=>aZ 0) (λv=>bx rfl) (λt f=>iX (TsP.eq (cp (EvP.eq (U:=ag t.length) (ao (bl cu) kb (ar1 (nm 0)) au (ed (.inl rfl) (hz4 t (by have:=(gU.mp f).length_le;rw[dc] at this;exact ae this j)))) (by simp)) (nm 1) sm) (by rw[Bool.eq_iff_iff,beq_iff_eq,Int.ofNat_inj];by_cases e:t.length=ks.length <;> simp[e]))) (λt f U l=>by
     split at l
     ·cases l;exact nm 0
     ·cases l) ⟨⟨3,rfl,rfl⟩,trivial⟩) (by rw[ee (λt=>decide (t.length=ks.length)) aD]))).itp) (λt=>aZ 12) ⟨hd,rfl,rfl⟩ ?_ ?_
   ·rintro t f d Γ ⟨hd,c⟩
    refine cF (c.set 12 _) ?_
    have f:=(gU.mp (bk.mp f).1).length_le
    rw[dc] at f
    exact DU hd h (ae f j) i λw=>⟨by rw[BT,hd],rfl,rfl⟩
   ·rintro Γ ⟨hd,c⟩
    refine cF c ?_
    exact f7 0 5 lO (bB (nm 5) (Ty.le_refl _)))
inductive HU(Ts:List Ty)(V:fH)(v:Value):Prop
 | mk (a:Addr) (o:Obj) (vs:List Value) (c:Nat) (e:v = .ref a) (x:V a=some o) (y:o.cls = .type "list") (z:o.data = .seq (List.toArray vs) c) (t:ay V Ts vs)
noncomputable def wc(Ts:List Ty):Ty:=⟨HU Ts,λh k=>by
 obtain⟨a,o,vs,c,e,x,y,z,t⟩:=k
 exact⟨a,o,vs,c,e,h a o x (ik (by rw[y];simp) (by rw[z];intro b b q;cases q)),y,z,ay.mono h t⟩⟩
theorem DV:ww W n (wc Ts) (λUs=>Us=Ts):=λA O s v L g J=>by
 obtain⟨B,ob,vs,c,rfl,m,d,e,E⟩:=J
 have t:nt ob=true:=ik (by rw[d];simp) (by rw[e];intro A A q;cases q)
 refine pR (items:=vs.toArray) ⟨_,af m,d,c,e⟩ ⟨_,s.toks, "list_iterator",Ts,λi h=>h.IsListIter s.heap.objs.size B i,λV=>V B=some ob/\ay V Ts vs,rfl,rfl,rfl,
  ⟨_,bf _ rfl,rfl,rfl⟩,⟨m,E⟩,by decide +kernel,⟨λi h h'=>jK λo w r hd k=>⟨o,k o w (ik (by rw[r];simp) (by rw[hd];intro A A z;cases z)),r,hd⟩,λi h=>jK λo w r hd=>⟨o,w,r,_,hd⟩,λV V' C=>And.elim λa b=>⟨C _ _ a t,ay.mono C b⟩,λi T K l D s' H' f g' y p j=>?_,λi l D s' H' f g' p=>?_,λl D s' H' f g' y p j=>?_⟩⟩
 ·obtain⟨v,I,F⟩:=ay.get j.2 K
  exact pS p (items:=vs.toArray) ⟨_,af j.1,d,c,e⟩ (x:=v) (by simpa using I) λh' u hs=>⟨v,h',s'.toks,rfl,rfl,hs,u,F⟩
 ·exact pT p ⟨rfl,rfl⟩
 ·exact pU f.hd p (items:=vs.toArray) ⟨_,af j.1,d,c,e⟩ (by rw[← ay.len j.2];simp) λh' H=>⟨rfl,h',s'.toks,rfl,H⟩
theorem DW(h:EvP W C Γ n e (wc Ts)):io W C Γ n tgt e (λUs=>Us=Ts):=eV h DV.its
theorem DX{c:Nat}(i:xs.length<=63)(l:c<=8):ExP W cLd ⟨[some (wc (xs.map bh)),some (ag c),none,none,none],[]⟩ n (fT 35).2.1 (jr (aD ((List.range c).map (tQ (eo xs))))):=by
 have d:(eo xs).length=xs.length+1:=by simp[eo]
 refine bo (T:=aD (eo xs)) 2 (EvP.eq (gI (lc (ι:=Int) [S "number"] [] [none] xs bh (λz=>some (ag z.natAbs)) (λz Γ=>Γ.set 0 (bh z)) (DW (nm 0)) (by simp[sizeLine];exact oC i) (λp=>aZ 0) (λp=>bx rfl) (λp p=>fa) ?_ trivial) (eZ (Ts:=[ag 5]) (ar1 aJ)) (by simp[sizeLine];exact oC i)) (by simp[eo,aD,Function.comp_def])) ?_
 ·intro z hz U e
  cases e
  exact ao (bl GF) kb (ar1 (nm 0)) au Fd
 refine bB (T:=aD ((List.range c).map (tQ (eo xs)))) (EvP.eq (lc (ι:=Nat) [S "k",S "rows"] [] [none,some (aD (eo xs))] (List.range c) (λj=>ag (0+j)) (λj=>some (ag (tQ (eo xs) j))) (λj Γ=>Γ.set 0 (ag (0+j))) (di (ao (bl d7) kt (ar1 (nm 1)) au eF) (by decide) (oB l)) (by simp[sizeLine];exact oC l) (λp=>aZ 0) (λp=>bx rfl) (λp p=>fa) ?_ ⟨⟨2,rfl,rfl⟩,trivial⟩) (by simp[aD,Function.comp_def])) (Ty.le_refl _)
 intro j o U e
 cases e
 have h:j<8:=by have:=aI.mp o;exact ae this l
 have m:(eo xs).length≠0:=by rw[d];exact cE oJ
 have g:(eo xs).length<2 ^ 30:=by rw[d];exact oC (aX i 2)
 have f:j % (eo xs).length<(eo xs).length:=iL _ (mR m)
 have e:((eo xs).map ag)[(0+j) % (eo xs).length]? = some (ag ((eo xs).getD (j % (eo xs).length) 0)):=by
  rw[b9,dw,eS,dz f];rfl
 have hd:(0+j) / (eo xs).length<8:=bp (Nat.div_le_self _ _) (ae (aX (aH (b9 _)) 1) h)
 refine EvP.eq (eK (iB (b:=1000003) (jj (dZ (k:=(0+j) % (eo xs).length) (.inl rfl) (nm 1) (iB (nm 0) (EvP.eq (ao (bl cu) kb (ar1 (nm 1)) au (ed (.inl rfl) (by rw[a0,d];exact ae (aX (aH d.symm) 1) (oC g)))) (by rw[a0])) m) e (by rw[b9];exact dI f (dI g (by decide)))) (eK (a:=1) aJ (jj (nm 0) (EvP.eq (ao (bl cu) kb (ar1 (nm 1)) au (ed (.inl rfl) (by rw[a0,d];exact ae (aX (aH d.symm) 1) (oC g)))) (by rw[a0])) m g)) (cE (aA Nat.one_pos (aW 1 _))) (aA (Nat.add_lt_add_left hd 1) (by decide))) aJ (by decide)) (gv (a:=11) aJ (nm 0) (by decide))) ?_
 rw[tQ,b9]
theorem xo{a:Nat}(c:xs.length<=63)(b:a<=8):aM W (n+1) (.ref 636) [wc (xs.map bh),ag a] [] (aD ((List.range a).map (tQ (eo xs)))) :=
 rX (fT 35) cLd [none,none,none] λenv=>DX (W:=W.at (env::W.frs)) c b
theorem oi{k:List Nat}(h:uni [] k=k):k∈br:=by have:=lL [] k;rwa [h] at this
theorem sh{q:Nat->Bool}(a:m<=4)(h:∀c,q c=true->c<m):(List.range 4).filter q=(List.range m).filter q:=by
 have e:(List.range 4)=List.range m++(List.range (4-m)).map (m + ·):=by
  exact(by decide:∀m,m<5->List.range 4=List.range m++(List.range (4-m)).map (m + ·)) m (jF a)
 rw[e,m6]
 have:((List.range (4-m)).map (m + ·)).filter q=[]:=jI.mpr λc b d=>by
  obtain⟨j,f,rfl⟩:=a9.mp b
  have:=h _ d
  exact aw.mpr (aW _ _) this
 rw[this,c0]
theorem sQ(h:t∈br)(a:m<=4)(d:∀c∈t,c<m):t.Sublist (List.range m):=by
 rw[← cO h,sh a λc b=>d c (ba.mp b)]
 exact eU
theorem eH(d:m<=4)(a:t.Sublist (List.range m)):t∈br/\∀c∈t,c<m:=by
 refine⟨?_,λc e=>aI.mp (a.subset e)⟩
 have b:t.Sublist (List.range 4):=a.trans (List.range_sublist.mpr d)
 have:∀s∈bZ (List.range 4),s∈br:=by decide
 exact this t (gU.mpr b)
theorem fL{q:Nat->Bool}(h:g.Sublist (List.range N))(a:∀v∈g,q v=true):g.Sublist ((List.range N).filter q):=by
 have:=h.filter q
 rwa [qf.mpr a] at this
theorem cw{k:List Nat}(h:k∈br):(aQ k l).length=bA k l:=by
 unfold aQ bA
 conv=>rhs;rw[← cO h,qj]
 simp only[Bool.and_comm]
theorem lz{k:List Nat}(h:k∈br)(h':l∈br):bA k l=bA l k:=by rw[← cw h,qT,cw h']
theorem ga{k:List Nat}{c:Nat}(h:k∈br):c∈aQ k l↔c∈k/\c∈l:=by
 unfold aQ
 rw[bk,aI,bg,ba,ba]
 exact⟨λh=>h.2,λh'=>⟨j8 h c h'.1,h'⟩⟩
theorem wd{k:List Nat}(h:∀c∈k,c∈l->c∈l'):bA k l<=bA k l':=by
 unfold bA
 rw[← hZ,← hZ]
 exact nk λc a h'=>by rw[ba] at h' ⊢;exact h c a h'
theorem sR(bs:List (List Nat)):∀(i:Nat),cT i bs=(List.range bs.length).map λv=>(i+v,bal bs v):=by
 induction bs with
 | nil =>
  intro i
  exact rfl
 | cons b bs ih =>
  intro i
  rw[kh,ih,hG,List.range_succ_eq_map,cz,cP]
  refine aY (List.cons _) (List.map_congr_left λv a=>?_)
  refine(?_:(i+1+v,bal bs v)=(i+(v+1),bal (b::bs) (v+1)))
  rw[iw];rfl
theorem o5(q:List Nat->Bool):((cT 0 bs).filter λp=>q p.2).map (·.1)=(List.range bs.length).filter λv=>q (bal bs v):=by
 rw[sR,List.filter_map,cP]
 have:((λp:Nat×List Nat=>p.1)∘λv=>(0+v,bal bs v))=id:=funext λv=>b9 v
 rw[this,List.map_id];rfl
theorem FS(bs:List (List Nat)):(List.range bs.length).map (bal bs)=bs:=by
 induction bs with
 | nil =>
  exact rfl
 | cons b bs ih =>
  rw[hG,List.range_succ_eq_map,cz,cP]
  exact aY (List.cons b) (ih)
theorem zU{q:List Nat->Bool}:(bs.filter q).length=((List.range bs.length).filter λv=>q (bal bs v)).length:=by
 conv=>lhs;rw[← FS bs,List.filter_map,a0]
 rfl
theorem ub{v:Nat}(h:v<bs.length):bal bs v∈bs:=by
 unfold bal
 rw[eS,dz h];exact kW h
theorem DY{e:Nat}(h:l≠[]):fA l<e↔∀x∈l,x<e:=by
 obtain⟨c,b⟩:=vZ h
 exact⟨λa x d=>bp (b x d) a,λa=>a _ c⟩
theorem fb{e:Nat}(h:g≠[]):fA (bn bs ks g)<e↔∀v∈g,bA (bal bs v) ks<e:=by
 unfold bn
 rw[DY (λe=>h (List.map_eq_nil_iff.mp e))]
 exact⟨λb v a=>b _ (cj a),λb x c=>by obtain⟨v,a,rfl⟩:=a9.mp c;exact b v a⟩
theorem fZ{c:Nat}:c∈aT m bs g↔c<m/\∀v∈g,c∈bal bs v:=by
 unfold aT
 rw[bk,aI,e6,jI]
 refine db λa=>eT λv=>eT λa=>?_
 rw[gf,qk,ba]
theorem pn{g':List Nat}(h:∀v∈g',v∈g):(aT m bs g).length<=(aT m bs g').length:=by
 unfold aT
 rw[← hZ,← hZ]
 refine nk λc b h'=>?_
 rw[e6,jI] at h' ⊢
 exact λv a=>h' v (h v a)
theorem o6{c:Nat}:c∈cf bs ks g↔c∈ks/\∃v∈g,c∈bal bs v:=by
 unfold cf
 rw[bk]
 refine db λf=>?_
 rw[gf,← g7,e6]
 constructor
 ·intro h
  obtain⟨v,d⟩:=kY _ h
  obtain⟨b,a⟩:=bk.mp d
  exact⟨v,b,ba.mp a⟩
 ·rintro⟨v,b,a⟩ e
  have:v∈g.filter λv=>(bal bs v).contains c:=bk.mpr ⟨b,ba.mpr a⟩
  rw[e] at this;cases this
theorem xq{g':List Nat}(h:∀v∈g',v∈g):(cf bs ks g').length<=(cf bs ks g).length:=by
 unfold cf
 rw[← hZ,← hZ]
 refine nk λc b h'=>?_
 rw[gf,← g7,e6,jI] at h' ⊢
 exact λe=>h' λv a=>e v (h v a)
theorem DZ{a b:List Nat}(d:a∈br)(e:b∈br)(h:∀c,c∈a↔c∈b):a=b:=by
 refine cO d ▸ ?_;refine cO e ▸ ?_
 refine fC λc f=>?_
 rw[dy,ba,ba];exact h c
theorem oj{c:Nat}:c∈uni l l'↔c<4/\(c∈l∨c∈l'):=by
 unfold uni
 rw[bk,aI,kN,ba,ba]
theorem we{c:Nat}(bs:List (List Nat)):∀(a:List Nat),(∀c∈a,c<4)->(c∈bs.foldl uni a↔c∈a∨c<4/\∃b∈bs,c∈b):=by
 induction bs with
 | nil =>
  intro a f
  exact⟨.inl,λh=>h.elim id λw=>w.2.elim λf w=>nM w.1⟩
 | cons b bs ih =>
  intro a h
  rw[iQ,ih _ λc m=>(oj.mp m).1,oj]
  constructor
  ·rintro(⟨d,h | h⟩ | ⟨d,e,m,h⟩)
   ·exact .inl h
   ·exact .inr ⟨d,b,.head _,h⟩
   ·exact .inr ⟨d,e,.tail _ m,h⟩
  ·rintro(h' | ⟨d,e,m,h'⟩)
   ·exact .inl ⟨h c h',.inl h'⟩
   ·rcases aC.mp m with rfl | m
    ·exact .inl ⟨d,.inr h'⟩
    ·exact .inr ⟨d,e,m,h'⟩
theorem mx{c:Nat}:c∈cI bs↔c<4/\∃b∈bs,c∈b:=by
 unfold cI
 rw[we bs [] λa=>nM]
 exact⟨λh=>h.elim nM id,.inr⟩
theorem FT(p:Nat->Bool):∀a:List (List Nat),a.foldl aQ ((List.range 4).filter p)=(List.range 4).filter λc=>p c&&a.all λl=>l.contains c:=by
 intro a
 induction a generalizing p with
 | nil =>
  refine fC λc d=>?_
  rw[List.all_nil,cy]
 | cons l a ih =>
  have:aQ ((List.range 4).filter p) l=(List.range 4).filter λc=>p c&&l.contains c:=by
   refine fC λc b=>?_
   congr 1
   rw[dy,ba,bk]
   exact⟨λh=>h.2,λh=>⟨b,h⟩⟩
  rw[iQ,this,ih]
  refine fC λc d=>?_
  rw[List.all_cons,Bool.and_assoc]
theorem Case.bal(c:Case m bs ks){v:Nat}(h:v<bs.length):bal bs v∈br/\∀x∈bal bs v,x<m:=⟨oi (c.bu _ (ub h)).2.1,(c.bu _ (ub h)).1⟩
theorem Case.sub(c:Case m bs ks):ks∈br:=oi c.ku
theorem uc(c:Case m bs ks)(h:g≠[])(f:∀v∈g,v<bs.length):lx bs g=aT m bs g:=by
 refine DZ ?_ (eH c.m4 eU).1 λx=>?_
 all_goals
  rcases g with _ | ⟨v,g⟩
  ·exact absurd rfl h
  have e:lx bs (v::g)=(g.map (Mine.bal bs)).foldl aQ (Mine.bal bs v):=rfl
  rw[e,← cO (c.bal (f v (.head _))).1,FT]
 ·exact gJ _
 ·rw[bk,aI,fZ,bg,ba,bd]
  constructor
  ·rintro⟨j,d,b⟩
   refine⟨(c.bal (f v (.head _))).2 x d,λw a=>?_⟩
   rcases aC.mp a with rfl | a
   ·exact d
   ·exact ba.mp (b _ (cj a))
  ·rintro⟨d,b⟩
   refine⟨aA d c.m4,b v (.head _),λl i=>?_⟩
   obtain⟨w,a,rfl⟩:=a9.mp i
   exact ba.mpr (b w (.tail _ a))
theorem B5(c:Case m bs ks)(d:∀v∈g,v<bs.length):aQ (cI (g.map λv=>bs.getD v [])) ks=cf bs ks g:=by
 have hs:cf bs ks g∈br:=by
  unfold cf
  conv=>arg 2;rw[← cO c.sub,qj]
  exact gJ _
 refine DZ (gK _ _) hs λx=>?_
 rw[ga dG,o6,mx]
 constructor
 ·rintro⟨⟨f,b,m,h⟩,a⟩
  obtain⟨v,d,rfl⟩:=a9.mp m
  exact⟨a,v,d,h⟩
 ·rintro⟨a,v,e,h⟩
  exact⟨⟨aA ((c.bal (d v e)).2 x h) c.m4,_,cj e,h⟩,a⟩
theorem xr(c:Case m bs ks){e:Nat}:low bs ks e=(List.range bs.length).filter λv=>decide (bA (bal bs v) ks<e):=by
 unfold low ii
 exact(o5 λk=>decide ((aQ k ks).length<e))▸(fC λv a=>by rw[cw (c.bal (aI.mp a)).1])
theorem yG(c:Case m bs ks):fz bs ks t=(List.range bs.length).filter λv=>decide (bA (bal bs v) ks<bA (bal bs v) t):=by
 unfold fz
 exact(o5 λk=>decide ((aQ k ks).length<(aQ k t).length))▸(fC λv a=>by rw[cw (c.bal (aI.mp a)).1,cw (c.bal (aI.mp a)).1])
theorem B6(c:Case m bs ks):t6 bs ks t j=(List.range bs.length).filter λv=>decide (1+j<=bA (bal bs v) t)&&decide (bA (bal bs v) ks<=j):=by
 refine DZ (gK _ _) (eH c.b4 eU).1 λv=>?_
 have hs:∀q,zS bs q=uni [] ((List.range bs.length).filter λv=>q (bal bs v)):=λq=>by unfold zS;rw[o5]
 have d:v<bs.length->v<4:=λh=>aA h c.b4
 unfold t6 geV leV
 rw[hs,hs,ga (lL _ _),oj,oj,bk,bk,bk,aI,bg,bq,bq,bq,bq]
 constructor
 ·rintro⟨⟨e,a⟩,e,b⟩
  have a:=a.resolve_left nM
  have b:=b.resolve_left nM
  rw[cw (c.bal a.1).1] at a
  rw[cw (c.bal b.1).1] at b
  exact⟨a.1,a.2,b.2⟩
 ·rintro⟨h,a,b⟩
  rw[← cw (c.bal h).1] at a b
  exact⟨⟨d h,.inr ⟨h,a⟩⟩,d h,.inr ⟨h,b⟩⟩
theorem HV{hit:Nat×List Nat->Bool}{v:Nat}(b:List (Nat×List Nat)):∀(l:List Nat),(∀x∈l,x<4)->(v∈b.foldl (λl p=>if hit p then ins p.1 l else l) l↔v∈l∨v<4/\∃p∈b,hit p=true/\p.1=v):=by
 induction b with
 | nil =>
  intro l f
  exact⟨.inl,λh=>h.elim id λw=>w.2.elim λf w=>nM w.1⟩
 | cons p b ih =>
  intro l e
  rw[iQ]
  by_cases c:hit p=true
  ·have d:∀x,x∈ins p.1 l↔x<4/\(x=p.1∨x∈l):=λx=>by
    unfold ins
    rw[bk,aI,kN,aL,ba]
   rw[bI c,ih _ λx m=>((d x).mp m).1,d]
   constructor
   ·rintro(⟨a,h | h⟩ | ⟨a,q,m,h⟩)
    ·exact .inr ⟨a,p,.head _,c,h.symm⟩
    ·exact .inl h
    ·exact .inr ⟨a,q,.tail _ m,h⟩
   ·rintro(h | ⟨a,q,m,h⟩)
    ·exact .inl ⟨e v h,.inr h⟩
    ·rcases aC.mp m with rfl | m
     ·exact .inl ⟨a,.inl h.2.symm⟩
     ·exact .inr ⟨a,q,m,h⟩
  ·rw[bj c,ih l e]
   refine or_congr_right (db λf=>⟨λw=>w.imp λq w=>⟨.tail _ w.1,w.2⟩,λw=>?_⟩)
   obtain⟨q,m,h⟩:=w
   rcases aC.mp m with rfl | m
   ·exact absurd h.1 c
   ·exact⟨q,m,h⟩
theorem B7(c:Case m bs ks){x v:Nat}:v∈oY x ks (cT 0 bs) i↔v<bs.length/\x∈bal bs v/\bA (bal bs v) ks=i:=by
 unfold oY
 rw[HV (hit:=λp=>p.2.contains x&&decide ((aQ p.2 ks).length=i)) _ [] (λf=>nM),sR]
 constructor
 ·rintro(m | ⟨f,p,m,h,rfl⟩)
  ·exact nomatch m
  ·obtain⟨w,a,rfl⟩:=a9.mp m
   have a:=aI.mp a
   rw[bg,ba,bq,cw (c.bal a).1] at h
   refine(?_:0+w<_/\_)
   rw[b9];exact⟨a,h⟩
 ·rintro⟨b,e,d⟩
  refine .inr ⟨aA b c.b4,(0+v,bal bs v),a9.mpr ⟨v,aI.mpr b,rfl⟩,?_,b9 v⟩
  rw[bg,ba,bq,cw (c.bal b).1]
  exact⟨e,d⟩
theorem D0(c:Case m bs ks){x v:Nat}:∀j,v∈gOf x bs ks j↔v<bs.length/\x∈bal bs v/\bA (bal bs v) ks<j:=by
 intro j
 induction j with
 | zero=>exact⟨nM,λh=>absurd h.2.2 (mY _)⟩
 | succ j ih =>
  refine(?_:v∈uni (gOf x bs ks j) (oY x ks (cT 0 bs) j)↔_)
  rw[oj,ih,B7 c]
  constructor
  ·rintro⟨e,h | h⟩
   ·exact⟨h.1,h.2.1,fQ h.2.2⟩
   ·exact⟨h.1,h.2.1,aX (aH h.2.2) 1⟩
  ·rintro⟨a,b,d⟩
   refine⟨aA a c.b4,?_⟩
   rcases Nat.lt_or_ge (bA (bal bs v) ks) j with h | h
   ·exact .inl ⟨a,b,h⟩
   ·exact .inr ⟨a,b,jy (iU d) h⟩
theorem B8(c:Case m bs ks){x:Nat}:gOf x bs ks (j+1)=(List.range bs.length).filter λv=>(bal bs v).contains x&&decide (bA (bal bs v) ks<j+1):=by
 refine DZ (lL _ _) (eH c.b4 eU).1 λv=>?_
 rw[D0 c,bk,aI,bg,ba,bq]
theorem xu:(br.all λl=>(List.range 5).all λr=>((du l.length r).all λi=>(aS l i).isSublist l&&(aS l i).length==r)&&br.all λs=>!(s.isSublist l&&s.length==r)||((du l.length r).map (aS l)).contains s)=true:=by decide +kernel
theorem lY{s:List Nat}{r:Nat}(b:l∈br)(a:r<=4):(∃i∈du l.length r,aS l i=s)↔s.Sublist l/\s.length=r:=by
 have h:=bd.mp (bd.mp xu l b) r (aI.mpr (jF a))
 obtain⟨f,d⟩:=bP.mp h
 constructor
 ·rintro⟨i,m,rfl⟩
  have:=bd.mp f i m
  rw[bg,List.isSublist_iff_sublist,aL] at this
  exact this
 ·rintro⟨hs,g⟩
  have c:s∈br:=by
   have a:l.Sublist (List.range 4):=sQ b (aB 4) (j8 b)
   exact(eH (aB 4) (hs.trans a)).1
  have:=bd.mp d s c
  rw[List.isSublist_iff_sublist.mpr hs,aL.mpr g,cy,nh,dP,ba] at this
  obtain⟨i,m,e⟩:=a9.mp this
  exact⟨i,m,e⟩
theorem my{a b:Bool}(h:a=false↔b=false):a=b:=by cases a <;> cases b <;> simp_all
theorem GZ{a b:List Nat}(d:a∈br)(e:b∈br)(h:∀c∈a,c∈b):a.length<=b.length:=by
 rw[← cO d,← cO e,← hZ,← hZ]
 exact nk λc f h'=>ba.mpr (h c (ba.mp h'))
theorem pP{e x:Nat}(a:0<k):gsz N k e<=x↔e*N<=x*k:=by
 unfold gsz
 rw[← Nat.lt_succ_iff,Nat.div_lt_iff_lt_mul a,Nat.succ_mul]
 exact⟨λh=>Nat.le_of_add_le_add_right (Nat.le_of_pred_lt h),λh=>aA (Nat.sub_one_lt (cE (aA a (jc _ _)))) (aX h k)⟩
theorem ud{a:Nat}(b:0<a)(h:a<=g.length*k):g≠[]:=λe=>by
 rw[e,kH,Nat.zero_mul] at h
 exact aw.mpr h b
theorem FU{x:Nat}(b:0<N/\N<=3)(a:0<k/\k<=3):quP N k*1<=x*quQ N k↔N<=x*k:=by
 have h:((List.range 4).all λN=>(List.range 4).all λk=>N==0||k==0||quP N k*k==N*quQ N k&&decide (0<quQ N k))=true:=by decide +kernel
 have h:=bd.mp (bd.mp h N (aI.mpr (aX b.2 1))) k (aI.mpr (aX a.2 1))
 rw[kN,kN,bg,aL,aL,aL,bq] at h
 have h:=h.resolve_left (λz=>z.elim (cE b.1) (cE a.1))
 rw[Nat.mul_one,← Nat.mul_le_mul_right_iff a.1,h.1,Nat.mul_right_comm,Nat.mul_le_mul_right_iff h.2]
theorem rP(h:g.Sublist (List.range N)):∀v∈g,v<N:=λv a=>aI.mp (h.subset a)
theorem d0(c:cU m bs ks):eJ bs m ks 0=jrB m bs ks (quP bs.length ks.length) (quQ bs.length ks.length):=my (by
 rw[pk (by decide),jrB,List.all_eq_false]
 have t:∀x:Nat,(¬(!decide (((quP bs.length ks.length*1:Nat):Int)<=(((bs.filter (ig x ks)).length*quQ bs.length ks.length:Nat):Int)))=true)↔bs.length<=((List.range bs.length).filter λv=>ig x ks (bal bs v)).length*ks.length:=λx=>by
  rw[gf,qk,bq,cY,FU c.N c.k,zU]
 simp only[t]
 constructor
 ·intro b
  refine fG b λg hs l e=>?_
  refine bc e λj u h=>?_
  refine dn (q0.mp h) λo n r=>?_
  obtain⟨d,p⟩:=n
  have s:j=0:=kK.mp (Nat.le_of_add_le_add_left (aw.mp r:1+j<=1+0))
  subst s
  refine dK (List.exists_mem_of_length_pos (aA (Nat.lt_add_one 0) d)) λx f=>?_
  rw[fZ] at f
  rw[fb l] at p
  refine⟨x,aI.mpr f.1,?_⟩
  have:=(fL (q:=λv=>ig x ks (bal bs v)) hs λv a=>?_).length_le
  ·have:=g8 ks.length this
   exact ae (aH (Nat.one_mul _).symm) (ae o this)
  ·unfold ig
   rw[bg,ba,aL,cw (c.bal (rP hs v a)).1]
   have:=p v a
   exact⟨f.2 v a,kK.mp (iU this)⟩
 ·intro i
  refine bc i λx f h=>?_
  have l:=ud c.N.1 h
  refine⟨_,eU,l,0,c.k.1,?_⟩
  refine q0.mpr ?_
  have a:∀v∈(List.range bs.length).filter λv=>ig x ks (bal bs v),x∈bal bs v/\bA (bal bs v) ks=0:=λv a=>by
   refine ck (bk.mp a) λo d=>?_
   unfold ig at d
   rw[bg,ba,aL,cw (c.bal (aI.mp o)).1] at d
   exact d
  refine⟨ae (aH (Nat.one_mul _)) h,⟨?_,?_⟩,aw.mpr (by decide)⟩
  ·exact List.length_pos_of_mem (fZ.mpr ⟨aI.mp f,λv h=>(a v h).1⟩)
  ·rw[fb l]
   exact λv h=>by rw[(a v h).2];exact hW _ gm)
theorem yH(c:cU m bs ks){e:Nat}(q:0<e)(p:e<=ks.length){H:List Nat->Bool}(B:∀g g',(∀v∈g',v∈g)->g'≠[]->(∀v∈g,v<bs.length)->H g=true->H g'=true):
  (decide (gsz bs.length ks.length e<=(low bs ks e).length)&&(du (low bs ks e).length (gsz bs.length ks.length e)).any λi=>H (aS (low bs ks e) i))=true↔∃g,g.Sublist (List.range bs.length)/\g≠[]/\e*bs.length<=g.length*ks.length/\(∀v∈g,bA (bal bs v) ks<e)/\H g=true:=by
 have x:(low bs ks e).Sublist (List.range bs.length):=by rw[xr c.toCase];exact eU
 have b:=(eH c.b4 x).1
 have hz:gsz bs.length ks.length e<=4:=by
  rw[pP c.k.1]
  have:=Nat.mul_le_mul p (ae c.N.2 (by decide:3<=4))
  rwa [Nat.mul_comm 4]
 rw[bg,bq,cn]
 constructor
 ·intro d
  refine ck d λu l=>?_
  refine bc l λi o h=>?_
  refine ck ((lY b hz).mp ⟨i,o,rfl⟩) λn A=>?_
  have r:=(pP c.k.1).mp (aH A.symm)
  refine⟨_,n.trans x,ud (jG q c.N.1) r,r,λv f=>?_,h⟩
  have:=n.subset f
  rw[xr c.toCase] at this
  exact ci (bk.mp this).2
 ·intro j
  refine FW j λg hs C u n h=>?_
  have hsl:g.Sublist (low bs ks e):=by rw[xr c.toCase];exact fL hs λv f=>c8 (n v f)
  have a:=(pP c.k.1).mpr u
  refine⟨ae a hsl.length_le,?_⟩
  obtain⟨i,o,z⟩:=(lY (s:=g.take (gsz bs.length ks.length e)) b hz).mpr ⟨(List.take_sublist _ _).trans hsl,by rw[jw];exact nl a⟩
  refine⟨i,o,?_⟩
  rw[z]
  refine B g _ (λv f=>mF f) (λy=>?_) (rP hs) h
  have t:=aY List.length y
  rw[jw,kH] at t
  have w:=(pP (N:=bs.length) (e:=e) c.k.1).mp (aB (gsz bs.length ks.length e))
  rw[(nl a).symm.trans t,Nat.zero_mul] at w
  have:=jG q c.N.1
  exact aw.mpr w this
theorem rQ(c:Case m bs ks){v:Nat}(b:v∈g)(h:v<bs.length):bA (bal bs v) ks<=(cf bs ks g).length:=by
 rw[← cw (c.bal h).1]
 have hs:cf bs ks g∈br:=by
  unfold cf
  conv=>arg 2;rw[← cO c.sub,qj]
  exact gJ _
 refine GZ (gK _ _) hs λx a=>?_
 rw[ga (c.bal h).1] at a
 exact o6.mpr ⟨a.2,v,b,a.1⟩
theorem yI{q:Nat->Bool}:(!(List.range k).any λj=>q (1+j))=false↔∃j,j<k/\q (1+j)=true:=by
 rw[hY,cn]
 exact iT λj=>and_congr_left λa=>aI
theorem d2(c:cU m bs ks):eJ bs m ks 2 = !(List.range ks.length).any λj=>i7 bs ks (1+j):=my (by
 rw[pk (by decide),yI]
 have h:∀j,j<ks.length->(i7 bs ks (1+j)=true↔∃g,g.Sublist (List.range bs.length)/\g≠[]/\p1 bs m ks g 2 (1+j)=true):=λj b=>by
  unfold i7
  rw[yH c (hW _ gm) (oN b (aB _)) (H:=λg=>decide (1+j<=(lx bs g).length)) λg g' d f a o=>by
   have n:g≠[]:=λe=>by
    rcases g' with _ | ⟨v,_⟩
    ·exact f rfl
    ·have:=d v (.head _)
     rw[e] at this;cases this
   rw[bq] at o ⊢
   rw[uc c.toCase n a] at o
   rw[uc c.toCase f λv p=>a v (d v p)]
   exact ae o (pn d)]
  refine iT λg=>db λhs=>db λn=>?_
  rw[q2,bq,fb n,uc c.toCase n (rP hs)]
  exact db λq=>And.comm
 constructor
 ·intro i
  refine fG i λg d f l=>?_
  refine bc l λj b a=>?_
  exact⟨j,b,(h j b).mpr ⟨g,d,f,a⟩⟩
 ·intro k
  refine bc k λj b a=>?_
  refine fG ((h j b).mp a) λg d f a=>?_
  exact⟨g,d,f,j,b,a⟩)
theorem d1(c:cU m bs ks):eJ bs m ks 1 = !(List.range ks.length).any λj=>i8 bs ks (1+j):=my (by
 rw[pk (by decide),yI]
 have h:∀j,j<ks.length->(i8 bs ks (1+j)=true↔∃g,g.Sublist (List.range bs.length)/\g≠[]/\p1 bs m ks g 1 (1+j)=true):=λj d=>by
  have q:∀g,g≠[]->(∀v∈g,v<bs.length)->(kl bs ks (1+j) g=true↔1+j<=(aT m bs g).length/\(cf bs ks g).length<1+j):=λg n f=>by
   unfold kl
   rw[bg,bq,bq,uc c.toCase n f,B5 c.toCase f]
  unfold i8
  rw[yH c (hW _ gm) (oN d (aB _)) (H:=kl bs ks (1+j)) λg g' b i a p=>by
   have n:g≠[]:=λe=>by
    rcases g' with _ | ⟨v,_⟩
    ·exact i rfl
    ·have:=b v (.head _)
     rw[e] at this;cases this
   rw[q g n a] at p
   rw[q g' i λv f=>a v (b v f)]
   exact⟨ae p.1 (pn b),bp (xq b) p.2⟩]
  refine iT λg=>db λhs=>db λn=>?_
  rw[q1,q g n (rP hs)]
  refine db λr=>⟨λh=>h.2,λh=>⟨λv f=>?_,h⟩⟩
  exact bp (rQ c.toCase f (rP hs v f)) h.2
 constructor
 ·intro l
  refine fG l λg b i o=>?_
  refine bc o λj d a=>?_
  exact⟨j,d,(h j d).mpr ⟨g,b,i,a⟩⟩
 ·intro k
  refine bc k λj d a=>?_
  refine fG ((h j d).mp a) λg b i a=>?_
  exact⟨g,b,i,j,d,a⟩)
theorem d3(c:cU m bs ks):eJ bs m ks 3 = !(List.range m).any (gE bs ks):=my (by
 rw[pk (by decide),hY,cn]
 constructor
 ·intro i
  refine fG i λg hs k e=>?_
  refine bc e λj n h=>?_
  refine dn (q3.mp h) λq o p=>?_
  rw[fb k] at p
  rw[← g7,e6] at o
  refine dK (kY _ o) λx b=>?_
  refine ck (bk.mp b) λb l=>?_
  rw[fZ] at b
  refine⟨x,aI.mpr b.1,?_⟩
  unfold gE
  rw[bg,cn]
  refine⟨l,j,aI.mpr n,?_⟩
  rw[bq,B8 c.toCase]
  refine ae q (g8 _ (fL hs λv d=>?_).length_le)
  rw[bg,ba,bq]
  have:=p v d
  exact⟨b.2 v d,fO 1 j▸this⟩
 ·intro a
  refine bc a λx b h=>?_
  unfold gE at h
  rw[bg,cn] at h
  refine ck h λl f=>?_
  refine bc f λj n h=>?_
  rw[bq,B8 c.toCase] at h
  have k:=ud (jG (hW _ gm) c.N.1) h
  refine⟨_,eU,k,j,aI.mp n,?_⟩
  have d:∀v∈(List.range bs.length).filter λv=>(bal bs v).contains x&&decide (bA (bal bs v) ks<j+1),x∈bal bs v/\bA (bal bs v) ks<j+1:=λv d=>by
   have:=(bk.mp d).2
   rwa [bg,ba,bq] at this
  refine q3.mpr ⟨h,?_,?_⟩
  ·rw[← g7,e6]
   exact List.ne_nil_of_mem (bk.mpr ⟨fZ.mpr ⟨aI.mp b,λv h=>(d v h).1⟩,l⟩)
  ·rw[fb k]
   exact λv h=>by have:=(d v h).2;exact fO 1 j▸this)
theorem po:t∈eb l k↔t∈br/\(∀x∈t,x∈l)/\t.length<=k:=by
 unfold eb
 rw[bk,bg,bd,bq]
 refine db λa=>and_congr_left λa=>eT λx=>eT λa=>ba
theorem rR(c:Case m bs ks)(h:t∈eb (cI bs) ks.length):t.Sublist (List.range m):=by
 refine dn (po.mp h) λg f i=>?_
 refine sQ g c.m4 λx d=>?_
 refine ck (mx.mp (f x d)) λi a=>?_
 refine bc a λb e d=>?_
 exact(c.bu b e).1 x d
theorem yJ(c:cU m bs ks)(l:t.Sublist (List.range m))(hs:g.Sublist (List.range bs.length))(h:t.length*bs.length<=g.length*ks.length):
  aQ t (cI bs)∈eb (cI bs) ks.length/\(aQ t (cI bs)).length<=t.length/\∀v,v<bs.length->bA t (bal bs v)=bA (bal bs v) (aQ t (cI bs)):=by
 have a:=(eH c.m4 l).1
 have j:(aQ t (cI bs)).length<=t.length:=by rw[cw a];exact gj _ _
 refine⟨po.mpr ⟨gK _ _,λx d=>((ga a).mp d).2,?_⟩,j,λv k=>?_⟩
 ·have i:=hs.length_le
  rw[dc] at i
  have e:=ae h (g8 ks.length i)
  rw[Nat.mul_comm bs.length] at e
  exact ae j (Nat.le_of_mul_le_mul_right e c.N.1)
 ·have f:=c.bal k
  rw[lz a f.1]
  refine jy (wd λx d b=>?_) (wd λx d b=>((ga a).mp b).1)
  exact(ga a).mpr ⟨b,mx.mpr ⟨aA (f.2 x d) c.m4,_,ub k,d⟩⟩
theorem FV{a b:List Nat}:bA a b<=a.length:=gj _ _
theorem d4(c:cU m bs ks):eJ bs m ks 4=vR bs ks:=my (by
 rw[v6 (.inl rfl),vR,hY,cn]
 constructor
 ·intro f
  refine fG f λg hs k l=>?_
  refine fG l λt p z h=>?_
  refine ck (q4.mp h) λd b=>?_
  refine dn (yJ c p hs d) λq u x=>?_
  refine⟨_,q,?_⟩
  unfold rK
  rw[cn]
  refine dK (kY _ k) λw o=>?_
  have s:∀v∈g,fA (bn bs ks g)<bA (bal bs v) (aQ t (cI bs)):=λv a=>by
   have:=b v a
   rwa [x v (rP hs v a)] at this
  refine⟨fA (bn bs ks g),aI.mpr ?_,?_⟩
  ·have:=s w o
   rw[lz (c.bal (rP hs w o)).1 (gK _ _)] at this
   exact aA this FV
  ·rw[bq,B6 c.toCase]
   refine ae (g8 _ u) (ae d (g8 _ (fL hs λv a=>?_).length_le))
   rw[bg,bq,bq]
   have:=s v a
   have y:=(fb (bs:=bs) (ks:=ks) (e:=fA (bn bs ks g)+1) k).mp (Nat.lt_add_one _) v a
   exact⟨oN this (aB _),jv y⟩
 ·intro n
  refine bc n λt p h=>?_
  unfold rK at h
  rw[cn] at h
  refine bc h λj i h=>?_
  rw[bq,B6 c.toCase] at h
  have i:=aI.mp i
  have k:=ud (jG (bp (dT _) i) c.N.1) h
  refine⟨_,eU,k,t,rR c.toCase p,λe=>(by rw[e] at i;cases i),?_⟩
  have a:∀v∈(List.range bs.length).filter λv=>decide (1+j<=bA (bal bs v) t)&&decide (bA (bal bs v) ks<=j),v<bs.length/\1+j<=bA (bal bs v) t/\bA (bal bs v) ks<=j:=λv a=>by
   refine ck (bk.mp a) λd b=>?_
   rw[bg,bq,bq] at b
   exact⟨aI.mp d,b⟩
  refine q4.mpr ⟨h,λv r=>?_⟩
  rw[fb k]
  intro w o
  have d:=(a w o).2.2
  refine dn (a v r) λb q A=>?_
  rw[lz (c.bal b).1 (jn p).1] at q
  exact bp d (aA (qi Nat.one_pos) q))
theorem d5(c:cU m bs ks):eJ bs m ks 5=vQ bs ks:=my (by
 rw[v6 (.inr rfl),vQ,hY,cn]
 constructor
 ·intro f
  refine fG f λg hs j d=>?_
  refine fG d λt i s h=>?_
  refine ck (q5.mp h) λk l=>?_
  refine dn (yJ c i hs k) λr o q=>?_
  refine⟨_,r,?_⟩
  unfold jo
  have n:g.length<=(fz bs ks (aQ t (cI bs))).length:=by
   rw[yG c.toCase]
   refine(fL hs λv a=>?_).length_le
   rw[bq,← q v (rP hs v a)]
   exact l v a
  rw[bg,gf,← g7,e6,bq]
  refine⟨λe=>?_,ae (g8 _ o) (ae k (g8 _ n))⟩
  rw[e] at n
  exact j (mT.mp (kK.mp n))
 ·intro b
  refine bc b λt i h=>?_
  unfold jo at h
  rw[bg,gf,← g7,e6,bq,yG c.toCase] at h
  refine ck h λj h=>?_
  have a:∀v∈(List.range bs.length).filter λv=>decide (bA (bal bs v) ks<bA (bal bs v) t),bA (bal bs v) ks<bA t (bal bs v):=λv a=>by
   refine ck (bk.mp a) λk l=>?_
   rw[lz (jn i).1 (c.bal (aI.mp k)).1]
   exact ci l
  refine⟨_,eU,j,t,rR c.toCase i,λe=>?_,q5.mpr ⟨h,a⟩⟩
  refine dK (kY _ j) λw p=>?_
  have:=a w p
  rw[e] at this
  exact absurd this (mY _))
theorem d6(c:cU m bs ks):eJ bs m ks 6 = !(du m ks.length).any (ms bs ks):=my (by
 rw[GX,hY,cn]
 have n:List.range m∈br:=(eH c.m4 (List.Sublist.refl _)).1
 have o:∀t:List Nat,t∈br->(p3 bs ks 6 t=true↔ms bs ks t=true):=λt q=>by
  have e:∀b∈bs,(aQ b ks).length=bA b ks/\(aQ b t).length=bA t b:=λb a=>by
   have d:=oi (c.bu b a).2.1
   exact⟨cw d,by rw[cw d,lz d q]⟩
  refine q6.trans (Iff.symm ?_)
  unfold ms tP
  exact qA (bd.trans (eT λb=>eT λa=>by rw[qE,(e b a).1,(e b a).2])) (cn.trans (iT λb=>db λa=>by rw[qE,(e b a).1,(e b a).2]))
 constructor
 ·intro k
  refine fG k λt g l p=>?_
  refine bc ((lY n c.k4).mpr ⟨g,l⟩) λi f e=>?_
  rw[dc] at f
  refine⟨i,f,?_⟩
  rw[(rC c.m4 c.k4 f).1] at e
  rw[e]
  exact(o t (eH c.m4 g).1).mp p
 ·intro j
  refine bc j λi f h=>?_
  have e:=(rC c.m4 c.k4 f).1
  obtain⟨g,l⟩:=(lY (s:=i) n c.k4).mp ⟨i,by rw[dc];exact f,e⟩
  exact⟨i,g,l,(o i (eH c.m4 g).1).mpr h⟩)
theorem i45(c:cU m bs ks)(h:eJ bs m ks 4=false):eJ bs m ks 5=false:=by
 rw[v6 (.inl rfl)] at h
 rw[v6 (.inr rfl)]
 refine fG h λg hs d a=>?_
 refine fG a λt f i h=>?_
 refine⟨g,hs,d,t,f,i,?_⟩
 have h:=q4.mp h
 refine q5.mpr ⟨h.1,λv b=>bp ?_ (h.2 v b)⟩
 exact iU ((fb (bs:=bs) (ks:=ks) (e:=fA (bn bs ks g)+1) d).mp (Nat.lt_add_one _) v b)
theorem i24(c:cU m bs ks)(h:eJ bs m ks 2=false):eJ bs m ks 4=false:=by
 rw[pk (by decide)] at h
 rw[v6 (.inl rfl)]
 refine fG h λg hs k a=>?_
 refine bc a λj o h=>?_
 refine dn (q2.mp h) λi f d=>?_
 have b:((aT m bs g).take (1+j)).length=1+j:=by rw[jw];exact nl f
 refine⟨g,hs,k,(aT m bs g).take (1+j),(List.take_sublist _ _).trans eU,λe=>Nat.succ_ne_zero j (((aY List.length e).symm.trans b).trans (fO 1 j)).symm,?_⟩
 refine q4.mpr ?_
 rw[b]
 refine⟨i,λv l=>?_⟩
 have:bA ((aT m bs g).take (1+j)) (bal bs v)=1+j:=by
  unfold bA
  rw[qf.mpr λx n=>ba.mpr ((fZ.mp (mF n)).2 v l),b]
 rw[this]
 exact d
theorem i23(c:cU m bs ks)(h:eJ bs m ks 2=false):eJ bs m ks 3=false:=by
 rw[pk (by decide)] at h ⊢
 refine fG h λg hs e a=>?_
 refine bc a λj r h=>?_
 refine⟨g,hs,e,j,r,?_⟩
 refine dn (q2.mp h) λs o f=>?_
 refine q3.mpr ⟨s,?_,f⟩
 rw[fb e] at f
 rw[← g7,e6,jI]
 intro n
 refine dK (kY _ e) λv d=>?_
 have k:=c.bal (rP hs v d)
 have:=GZ (eH c.m4 (eU (p:=λc=>(g.filter λv=>!(bal bs v).contains c).isEmpty))).1 (gK (bal bs v) ks) λx b=>by
  have b:x∈aT m bs g:=b
  have i:=n x b
  rw[gf,qk,ba] at i
  exact(ga k.1).mpr ⟨(fZ.mp b).2 v d,i⟩
 rw[cw k.1] at this
 have l:=f v d
 have q:(aT m bs g).length<=bA (bal bs v) ks:=this
 exact aw.mpr (ae o q) l
theorem i12(c:cU m bs ks)(h:eJ bs m ks 1=false):eJ bs m ks 2=false:=by
 rw[pk (by decide)] at h ⊢
 refine fG h λg hs d a=>?_
 refine bc a λj e h=>?_
 refine⟨g,hs,d,j,e,?_⟩
 have h:=q1.mp h
 refine q2.mpr ?_
 rw[fb d]
 exact⟨h.1,h.2.1,λv b=>bp (rQ c.toCase b (rP hs v b)) h.2.2⟩
theorem i01(c:cU m bs ks)(h:eJ bs m ks 0=false):eJ bs m ks 1=false:=by
 rw[pk (by decide)] at h ⊢
 refine fG h λg hs n b=>?_
 refine bc b λj s h=>?_
 refine⟨g,hs,n,j,s,?_⟩
 refine dn (q0.mp h) λt f p=>?_
 obtain⟨r,o⟩:=f
 refine q1.mpr ⟨t,r,?_⟩
 rw[fb n] at o
 rcases Nat.eq_zero_or_pos (cf bs ks g).length with e | u
 ·exact ae (aX (aH e) 1) (aW _ _)
 ·refine dK (List.exists_mem_of_length_pos u) λx d=>?_
  refine ck (o6.mp d) λq a=>?_
  refine bc a λv l d=>?_
  have k:=o v l
  have i:=c.bal (rP hs v l)
  rw[← cw i.1] at k
  have:=List.length_pos_of_mem ((ga i.1).mpr ⟨d,q⟩)
  exact absurd (bp this k) p
abbrev fN(m:Nat)(bs:List (List Nat))(ks:List Nat):List Bool:=[jrB m bs ks (quP bs.length ks.length) (quQ bs.length ks.length),!(List.range ks.length).any λj=>i8 bs ks (1+j),!(List.range ks.length).any λj=>i7 bs ks (1+j),!(List.range m).any (gE bs ks),vR bs ks,vQ bs ks,!(du m ks.length).any (ms bs ks)]
theorem rS(c:cU m bs ks):fN m bs ks=rM bs m ks:=by
 rw[yF,of7,d0 c,d1 c,d2 c,d3 c,d4 c,d5 c,d6 c]
noncomputable abbrev l8(first a:Nat):List Nat:=(List.range a).map (first + ·)
noncomputable abbrev lB(m:Nat)(ds:List Nat):List (List Nat):=ds.map (rv m)
theorem D1{first a:Nat}(h:first+a<=4):l8 first a∈br:=by
 have e:((List.range 5).all λs=>(List.range 5).all λf=>!decide (f+s<=4)||br.contains (l8 f s))=true:=by decide +kernel
 have e:=bd.mp (bd.mp e a (aI.mpr (ae (aX (jc _ _) 1) (aX h 1)))) first (aI.mpr (ae (aX (aW _ _) 1) (aX h 1)))
 rw[c8 h,nh,dP,ba] at e
 exact e
theorem B9{a first:Nat}(e:2<=m/\m<=4)(hs:1<=a/\a<=3)(hf:first+a<=m)(hd:1<=ds.length/\ds.length<=3):cU m (lB m ds) (l8 first a):=by
 have f:∀k∈lB m ds,k∈br/\∀c∈k,c<m:=λk b=>by
  obtain⟨d,l,rfl⟩:=a9.mp b
  exact eH e.2 eU
 have g:(lB m ds).length=ds.length:=a0 _
 have l2:(l8 first a).length=a:=by rw[a0,dc]
 have i:=D1 (ae hf e.2)
 exact { m0:=ae (by decide) e.1,m4:=e.2,b4:=ae (aH g) (oC hd.2),bu:=λk b=>⟨(f k b).2,pI (f k b).1,bp (c9 (f k b).1) (by decide)⟩,km:=λk b=>(by obtain⟨j,h,rfl⟩:=a9.mp b;exact aA (Nat.add_lt_add_left (aI.mp h) first) hf),ku:=pI i,k0:=cE (ae hs.1 (aH l2.symm)),k4:=ae (aH l2) (oC hs.2),N:=⟨ae hd.1 (aH g.symm),ae (aH g) hd.2⟩,k:=⟨ae hs.1 (aH l2.symm),ae (aH l2) hs.2⟩ }
noncomputable abbrev ue:Cx:=⟨(fT 41).2.2,[S "script",S "draws",S "m",S "size",S "first",S "committee",S "ballots",S "profile",S "due",S "told",S "better",S "other"],[],none⟩
noncomputable abbrev wf:List Stmt:=(fT 41).2.1
theorem D2:fc W "_law_draws" 636:=by kernel_rfl
theorem zV:fc W "_law_ballots" 641:=by kernel_rfl
theorem zW:fc W "Profile" 590:=by kernel_rfl
theorem G0:fc W "_law_due" 656:=by kernel_rfl
theorem zX:fc W "_law_refused" 663:=by kernel_rfl
noncomputable abbrev lwK(xs:List Int)(ds:List Nat)(r:List (Option Ty))(h:List (Addr×OTy)):Kn:=⟨[some (wc (xs.map bh)),some (aD ds)]++r,h⟩
theorem HW:min (m:Int) 3=((min m 3:Nat):Int):=by
 rcases Nat.le_total m 3 with h | h
 ·rw[nl h];exact Int.min_eq_left (cY.mpr h)
 ·rw[Nat.min_eq_right h];exact Int.min_eq_right (cY.mpr h)
theorem HX{xs:List Int}{d0 d1 d2 d3 d4 m d first:Nat}(o:xs.length<=63)(h:(List.range 5).map (tQ (eo xs))=[d0,d1,d2,d3,d4])(l:m=2+d0 % 3)(hs:d=1+d1 % min m 3)(hf:first=d1 / 3 % (m-d+1))(g:2<=m/\m<=4)(f:1<=d/\d<=3/\d<=m)(k:ExP W ue (lwK xs [d0,d1,d2,d3,d4] [some (ag m),some (ag d),some (ag first),some (aD (l8 first d)),none,none,none,none,none,none] []) (n+22) (wf.drop 5) P):
  ExP W ue ⟨[some (wc (xs.map bh)),none,none,none,none,none,none,none,none,none,none,none],[]⟩ (n+22) wf P:=by
 refine bo (T:=aD [d0,d1,d2,d3,d4]) 1 (EvP.eq (ao (gl _ D2) kf (ar2 (nm 0) (EvP.eq (U:=ag 5) aJ rfl)) au (xo (n:=n+21) o (by decide))) (by rw[h])) ?_
 refine bo (T:=ag m) 2 (EvP.eq (eK (a:=2) (b:=d0 % 3) aJ (iB (b:=3) (dZ (.inl rfl) (nm 1) (EvP.eq (U:=ag 0) aJ rfl) rfl (by decide)) aJ (by decide))) (by rw[l])) ?_
 refine bo (T:=ag d) 3 (EvP.eq (eK (a:=1) (b:=d1 % min m 3) aJ (iB (b:=min m 3) (dZ (.inl rfl) (nm 1) (EvP.eq (U:=ag 1) aJ rfl) rfl (by decide)) (EvP.eq (ao (bl BY) kb (ar2 (nm 2) aJ) au DN) (aY bh HW)) (cE (Nat.lt_min.mpr ⟨aA (by decide) g.1,by decide⟩)))) (by rw[hs])) ?_
 refine bo (T:=ag first) 4 (EvP.eq (iB (a:=d1 / 3) (b:=m-d+1) (jj (b:=3) (dZ (.inl rfl) (nm 1) (EvP.eq (U:=ag 1) aJ rfl) rfl (by decide)) aJ (by decide) (by decide)) (eK (b:=1) (EvP.eq (md (nm 2) (nm 3)) (aY bh (Int.ofNat_sub f.2.2).symm)) aJ) (cE oJ)) (by rw[hf])) ?_
 have i:first<=4:=hf▸ae (iU (iL _ oJ)) (ae (Nat.sub_le _ _) g.2)
 refine sC (ι:=Nat) [S "c"] [] [none] 5 (List.range d) (λj=>ag (first+j)) (λj=>some (ag (first+j))) (λj Γ=>Γ.set 0 (ag (first+j))) ((di (a:=first) (b:=first+d) (ao (bl d7) kt (ar2 (nm 4) (eK (nm 4) (nm 3))) au iD) (oB ‹_›) (bp (Nat.add_le_add i f.2.1) (by decide))).eq λTs e=>?_) (by rw[dc];exact ae f.2.1 (by decide)) (λc=>aZ 0) (λc=>bx rfl) (λc q=>fa) (λc q U p=>?_) trivial ?_
 ·rw[e,fj,Nat.add_sub_cancel_left]
 ·cases p;exact nm 0
 rw[ni,show(List.range d).map (λj=>ag (first+j))=(l8 first d).map ag by rw[cP];rfl]
 exact k
theorem HY{xs:List Int}{d0 d1 d2 d3 d4 m e first:Nat}(h:2<=m/\m<=4)(f:d2<2 ^ 29/\d3<2 ^ 29/\d4<2 ^ 29)(i:d0<2 ^ 29)(c:cU m (lB m ([d2,d3,d4].take (1+d0 / 3 % 3))) (l8 first e))(j:(38,34)∈W.tabs)(g:ExP W ue (lwK xs [d0,d1,d2,d3,d4] [some (ag m),some (ag e),some (ag first),some (aD (l8 first e)),some (cH (lB m ([d2,d3,d4].take (1+d0 / 3 % 3)))),some (tPf W m (lB m ([d2,d3,d4].take (1+d0 / 3 % 3)))),none,none,none,none] []) (n+22) (wf.drop 8) P):
  ExP W ue (lwK xs [d0,d1,d2,d3,d4] [some (ag m),some (ag e),some (ag first),some (aD (l8 first e)),none,none,none,none,none,none] []) (n+22) (wf.drop 5) P:=by
 refine bo (T:=cH (lB m ([d2,d3,d4].take (1+d0 / 3 % 3)))) 6 (ao (gl _ zV) kf (ar2 (EvP.eq (U:=aD ([d2,d3,d4].take (1+d0 / 3 % 3))) (CE (k:=2) (q:=3+d0 / 3 % 3) (nm 1) (EvP.eq (U:=ag 2) aJ rfl) (eK (a:=3) (b:=d0 / 3 % 3) (EvP.eq (U:=ag 3) aJ rfl) (iB (a:=d0 / 3) (b:=3) (jj (a:=d0) (b:=3) (dZ (.inl rfl) (nm 1) (EvP.eq (U:=ag 0) aJ rfl) rfl (by decide)) (EvP.eq (U:=ag 3) aJ rfl) (by decide) (by decide)) (EvP.eq (U:=ag 3) aJ rfl) (by decide))) (ae (by decide) (aW _ _)) (by exact iH (iU (iL (d0 / 3) (y:=3) (by decide))) 3)) ?_) (nm 2)) au (vu (n:=n+21) h.2 ?_ ?_)) ?_
 ·rw[show 3+d0 / 3 % 3-2=1+d0 / 3 % 3 from(aY (· - 2) (Nat.add_assoc 2 1 _)).trans (Nat.add_sub_cancel_left ..),aD,List.map_take];rfl
 ·intro d hd
  have:=mF hd
  simp only[List.mem_cons,List.mem_nil_iff,or_false] at this
  rcases this with rfl | rfl | rfl
  ·exact f.1
  ·exact f.2.1
  ·exact f.2.2
 ·exact jw▸(ae (ql _ _) (cL rfl))
 refine GC (Tf:=λL=>kB m (tNm m) (aE (.ref L))) (Q:=cq []) 7 (gl _ zW) (by kernel_rfl) (ar1 (nm 2)) (w1 (n:=n+15) c.m0 c.m4) λL=>?_
 refine vm 0 (nm 7) (ar1 (nm 6)) (CZ (n:=n+11) c.m4 c.bu (bp c.b4 (by decide)) j) ?_
 exact w0 0 7 vo g
theorem xw(c:cU m bs ks):([(5,4),(4,2),(3,2),(2,1),(1,0)]:List (Nat×Nat)).any (λp=>(fN m bs ks).getD p.1 false && !(fN m bs ks).getD p.2 false)=false:=by
 have e:fN m bs ks=of7 (eJ bs m ks):=(rS c).trans yF
 have h:∀i j,(eJ bs m ks j=false->eJ bs m ks i=false)->(eJ bs m ks i && !eJ bs m ks j)=false:=λi j h=>by
  cases a:eJ bs m ks j
  ·rw[h a];rfl
  ·rw[nh,e8]
 refine e ▸ ?_
 refine(?_:(((eJ bs m ks 5 && !eJ bs m ks 4)||((eJ bs m ks 4 && !eJ bs m ks 2)||((eJ bs m ks 3 && !eJ bs m ks 2)||((eJ bs m ks 2 && !eJ bs m ks 1)||((eJ bs m ks 1 && !eJ bs m ks 0)||false))))))=false)
 rw[h 5 4 (i45 c),h 4 2 (i24 c),h 3 2 (i23 c),h 2 1 (i12 c),h 1 0 (i01 c)]
 rfl
theorem G1:fc W "check_JR" 385:=by kernel_rfl
theorem G2:fc W "check_PJR" 377:=by kernel_rfl
theorem G3:fc W "check_EJR" 369:=by kernel_rfl
theorem G4:fc W "check_EJR_plus" 421:=by kernel_rfl
theorem G5:fc W "check_FJR" 436:=by kernel_rfl
theorem G6:fc W "check_core" 449:=by kernel_rfl
theorem G7:fc W "check_pareto_optimality" 361:=by kernel_rfl
theorem lC{r:List Expr}(env:Env):starEach (.Tuple es k pos::r) env=(false,eval (.Tuple es k pos) env)::starEach r env:=rfl
theorem rT{a b:Nat}{c d:Nat}{p1 p2:Pos}:EvP W C Γ n (.Tuple [.Constant (.int a) c p1,.Constant (.int b) d p2] k pos) (bH [ag a,ag b]):=cg (ar2 aJ aJ)
theorem D3{d o f i g:List Expr}{k l m b k4 e:Nat}{pos p1 p2 p3 p4 p5:Pos}{T1 h c j a:Ty}(s:EvP W C Γ n (.Tuple d l p1) T1)(t:EvP W C Γ n (.Tuple o m p2) h)(r:EvP W C Γ n (.Tuple f b p3) c)(p:EvP W C Γ n (.Tuple i k4 p4) j)(q:EvP W C Γ n (.Tuple g e p5) a):
  EvP W C Γ n (.Tuple [.Tuple d l p1,.Tuple o m p2,.Tuple f b p3,.Tuple i k4 p4,.Tuple g e p5] k pos) (bH [T1,h,c,j,a]) :=
 cg (eY lC s (eY lC t (eY lC r (eY lC p (eY lC q dl)))))
theorem HZ{xs:List Int}{ds:List Nat}{m a first:Nat}{bs:List (List Nat)}{ks:List Nat}(c:cU m bs ks)(e:jV W):
  ExP W ue (lwK xs ds [some (ag m),some (ag a),some (ag first),some (aD ks),some (cH bs),some (tPf W m bs),some (bw ((rM bs m ks).map aG)),some (bw ((fN m bs ks).map aG)),none,none] []) (n+22) (wf.drop 13) (jr (aG true)):=by
 refine @f9 _ (n+22) W ue _ _ (Nat×Nat) [(5,4),(4,2),(3,2),(2,1),(1,0)] (λp=>bH [ag p.1,ag p.2]) (λp Γ=>(Γ.set 10 (ag p.1)).set 11 (ag p.2)) (λp=>(fN m bs ks).getD p.1 false && !(fN m bs ks).getD p.2 false) (λΓ=>∃u v,Γ=lwK xs ds [some (ag m),some (ag a),some (ag first),some (aD ks),some (cH bs),some (tPf W m bs),some (bw ((rM bs m ks).map aG)),some (bw ((fN m bs ks).map aG)),u,v] []) (aG false) _ _ _ _
  (@io.itp _ _ _ _ _ _ _ (@Cp _ _ _ _ _ _ _ (@D3 _ _ _ _ _ _ _ _ _ _ _ _ _ _ _ _ _ _ _ _ _ _ _ _ _ _ rT rT rT rT rT))) (λp=>k9 10 11) ⟨_,_,rfl⟩ ?_ ?_ ?_ (λf f=>rfl)
 ·rintro p d Γ ⟨u,v,rfl⟩
  have b:p.1<7/\p.2<7:=by
   simp only[List.mem_cons,List.mem_nil_iff,or_false] at d
   rcases d with rfl | rfl | rfl | rfl | rfl <;> decide
  refine dF (q:=(fN m bs ks).getD p.1 false&&(!(fN m bs ks).getD p.2 false&&true)) (gq (cN _ (jO (dZ (.inl rfl) (nm 9) (nm 10) (xn b.1) (oA ‹_/\_›.1))) λf=>cN _ (mh (jO (dZ (.inl rfl) (nm 9) (nm 11) (xn b.2) (oC b.2)))) λf=>ji)) (λh=>?_) λh=>?_
  all_goals rw[cy] at h
  ·exact bB bO ⟨h,Ty.le_refl _⟩
  ·exact aN ⟨h,_,_,rfl⟩
 ·intro h
  rw[xw c] at h
  cases h
 ·rintro f Γ ⟨u,v,rfl⟩
  refine bB (T:=aG true) (EvP.eq (xW (cpv (nm 9) (nm 8) (DO (by rw[rS c]))) λf=>ao (gl _ zX) kf (ar2 (nm 7) (nm 5)) au (xl (n:=n+8) c e)) ?_) (Ty.le_refl _)
  rw[rS c,jz];rfl
theorem H0{xs:List Int}{ds:List Nat}{m d first:Nat}{bs:List (List Nat)}{ks:List Nat}(c:cU m bs ks)(a:jV W):
  ExP W ue (lwK xs ds [some (ag m),some (ag d),some (ag first),some (aD ks),some (cH bs),some (tPf W m bs),none,none,none,none] []) (n+22) (wf.drop 8) (jr (aG true)):=by
 have e:∀b∈bs,b.length<=4:=λb f=>c9 (oi (c.bu b f).2.1)
 refine bo (T:=bw ((rM bs m ks).map aG)) 8 (ao (gl _ G0) kf (ar3 (nm 6) (nm 2) (nm 5)) au (FR (n:=n+1) c.m4 c.N c.k.2 e)) ?_
 refine bo (T:=bw (((fN m bs ks).take 2).map aG)) 9 (eZ (Ts:=((fN m bs ks).take 2).map aG) (ar2 (ao (gl _ G1) kf (ar2 (nm 7) (nm 5)) au (w9 (n:=n+14) c.toCase (a _ (by decide)) (a _ (by decide)))) (ao (gl _ G2) kf (ar2 (nm 7) (nm 5)) (eA fu au) (ck4 (n:=n+9) c a).2.1))) ?_
 refine bo (T:=bw (((fN m bs ks).take 4).map aG)) 9 (EvP.eq (gI (Ts:=((fN m bs ks).take 2).map aG) (Us:=(((fN m bs ks).drop 2).take 2).map aG) (nm 9) (eZ (ar2 (ao (gl _ G3) kf (ar2 (nm 7) (nm 5)) (eA fu au) (ck4 (n:=n+9) c a).1) (ao (gl _ G4) kf (ar2 (nm 7) (nm 5)) au (HL (n:=n+9) c a)))) (cL rfl)) rfl) ?_
 refine bo (T:=bw (((fN m bs ks).take 6).map aG)) 9 (EvP.eq (gI (Ts:=((fN m bs ks).take 4).map aG) (Us:=(((fN m bs ks).drop 4).take 2).map aG) (nm 9) (eZ (ar2 (ao (gl _ G5) kf (ar2 (nm 7) (nm 5)) (eA fu au) (ck4 (n:=n+9) c a).2.2.1) (ao (gl _ G6) kf (ar2 (nm 7) (nm 5)) (eA fu au) (ck4 (n:=n+9) c a).2.2.2))) (cL rfl)) rfl) ?_
 refine bo (T:=bw ((fN m bs ks).map aG)) 9 (EvP.eq (gI (Ts:=((fN m bs ks).take 6).map aG) (Us:=((fN m bs ks).drop 6).map aG) (nm 9) (eZ (ar1 (ao (gl _ G7) kf (ar2 (nm 7) (nm 5)) (eA fu au) (HM (n:=n+9) c a)))) (cL rfl)) rfl) ?_
 exact @HZ n W xs ds m d first bs ks c a
theorem D4(a:List Nat)(b:k<5):tQ a k<2 ^ 29:=by
 unfold tQ
 have:a.getD (k % a.length) 0 / (1+k / a.length) % 1000003<1000003:=iL _ (by decide)
 exact aA (Nat.add_lt_add_of_lt_of_le this (pw 11 (cQ b))) (by decide)
theorem Ca{vs:List Value}{ns:List Int}(h:IntsAre vs ns):ay V (ns.map bh) vs:=by
 induction h with
 | nil=>trivial
 | cons n t h ih=>exact⟨⟨t,rfl⟩,ih⟩
theorem G8(P:Params):(KK P).In (hpF P):=Frag.in_of (as:=(KK P).map (·.1)) rfl (by kernel_rfl)
theorem D5(P:Params):n7.map (λp=>(hpF P).tab0At p.1)=n7.map λp=>some p.2:=by kernel_rfl
theorem zY(P:Params):(n7.all λp=>((KK P).lookup p.2).isNone)=true:=by kernel_rfl
theorem Cb:(n7.all λp=>n7.all λq=>p.2 != q.2||p.1==q.1)=true:=by decide +kernel
theorem D6{ns:List Int}(g:ns.length<=63)(j:jV W):ExP W ue ⟨[some (wc (ns.map bh)),none,none,none,none,none,none,none,none,none,none,none],[]⟩ 22 wf (jr (aG true)):=by
 have d:∀a b:Nat,0<b->a % b<b:=λa b h=>iL _ h
 generalize hd:tQ (eo ns)=dr
 have f:∀k,k<5->dr k<2 ^ 29:=λk l=>hd▸D4 _ l
 have q:=d (dr 0) 3 (by decide)
 have e:2<=2+dr 0 % 3/\2+dr 0 % 3<=4:=⟨aW _ _,iH (iU q) 2⟩
 generalize o:2+dr 0 % 3=m at e
 have i:=d (dr 1) (min m 3) (Nat.lt_min.mpr ⟨aA (by decide) e.1,by decide⟩)
 have hs:1<=1+dr 1 % min m 3/\1+dr 1 % min m 3<=3/\1+dr 1 % min m 3<=m:=⟨aW _ _,fO .. ▸ ae i (ql _ _),fO .. ▸ ae i (Nat.min_le_left _ _)⟩
 generalize es:1+dr 1 % min m 3=size at hs
 have p:=d (dr 1 / 3) (m-size+1) oJ
 have hf:dr 1 / 3 % (m-size+1)+size<=m:=Nat.add_le_of_le_sub hs.2.2 (iU p)
 generalize n:dr 1 / 3 % (m-size+1)=first at hf
 have r:=d (dr 0 / 3) 3 (by decide)
 have c:cU m (lB m ([dr 2,dr 3,dr 4].take (1+dr 0 / 3 % 3))) (l8 first size):=B9 e ⟨hs.1,hs.2.1⟩ hf (by
  rw[jw]
  exact⟨Nat.le_min.mpr ⟨aW _ _,jc 1 2⟩,ql _ _⟩)
 exact @HX 0 W _ ns (dr 0) (dr 1) (dr 2) (dr 3) (dr 4) m size first g (by rw[hd];rfl) o.symm es.symm n.symm e hs
  (@HY 0 W _ ns (dr 0) (dr 1) (dr 2) (dr 3) (dr 4) m size first e ⟨f 2 (by decide),f 3 (by decide),f 4 (by decide)⟩ (f 0 (by decide)) c (j _ (by decide)) (@H0 0 W ns [dr 0,dr 1,dr 2,dr 3,dr 4] m size first _ _ c j))
theorem Cc(w:World)(s₁:Shared)(l:Addr)(vs:List Value)(ns:List Int)(y s:Str->Option Value)(Y:∀b o,(hpF w.params).get? b=some o->s₁.heap.get? b=some o)(n:s₁.gens = #[])(C:s₁.heap.Ns mainGlobals y)(B:s₁.heap.Ns builtinsNs s)(f:∀x:Str,x ≠ "__name__" -> s x=bootBuiltins x)(j:s₁.heap.NoLimit)(N:s₁.heap.IsList l vs.toArray)(I:IntsAre vs ns)(A:ns.length<=63):
  wpAny (model prg w) callerA (call (.ref 668) [.ref l]) (λv s'=>v = .bool true/\OldK s₁.heap s'.heap/\s'.os=s₁.os/\AllBare s'.gens) (λa a=>False) s₁:=by
 obtain⟨mc,E,t⟩:=j
 have d:(KK w.params).In s₁.heap:=(G8 w.params).keeps Y
 have q:∀c P,(c,P)∈n7->s₁.heap.IsCode c P #[]/\s₁.heap.TableAt c P #[]:=λc P m=>by
  obtain⟨z,u⟩:=Heap.tab0At_spec (oz (D5 w.params) (c,P) m)
  exact⟨z.keeps Y,u.keeps Y⟩
 have g:G ⟨w,s₁.heap,s₁.os,n7,y,s,mc,[],0⟩ s₁:=⟨OldK.refl _,aB _,AllBare.of_eq n,rfl,d,d,C,C,B,B,f,E,E,t,λc P m=>by
  obtain⟨⟨o,a,e,a⟩,K⟩:=(q c P m).2
  refine⟨aO e,aO K,Option.isNone_iff_eq_none.mp (bd.mp (zY w.params) (c,P) m),⟨_,(q c P m).2⟩,λc' H=>?_⟩
  have:=bd.mp (bd.mp Cb (c,P) m) (c',P) H
  simp only[bne_self_eq_false,Bool.false_or,beq_iff_eq] at this
  exact this.symm,λc P m=>⟨_,(q c P m).1,(q c P m).2⟩,λe=>nM,dT _⟩
 have R:aU ⟨w,s₁.heap,s₁.os,n7,y,s,mc,[],0⟩ callerA (22+1):=⟨rfl,rfl,by decide,by decide⟩
 have D:l0 (KK w.params) ue 668 (fn (fT 41) (S "law") (S "law") 3 [] .none .none .none (.str (S "law_ba0005_01") 1052) none (.ref 667) .none 0) wf [S "script"]:=gt (by kernel_rfl) (by kernel_rfl) (by kernel_rfl) (by rfl)
 obtain⟨o,J,hd⟩:=D.here
 refine bQ (bN (iA (L:=⟨[],[]⟩) (O:=[]) (Γ:=⟨[some (wc (ns.map bh)),none,none,none,none,none,none,none,none,none,none,none],[]⟩) (binds:=[(S "script",.ref l)]) (P:=jr (aG true)) (QE:=Nev) (Q:=λv s'=>v = .bool true/\OldK s₁.heap s'.heap/\s'.os=s₁.os/\AllBare s'.gens) R g J hd (dC D.code d) (by kernel_rfl) (D.ok _ rfl) (λx c=>nM) List.Pairwise.nil (λx c=>nM) (λx=>nM) (λx=>nM) ?_ (λa P=>nM) gb (λa P=>nM) (λenv a=>D6 A λp m=>m) ?_ ?_) λr s' h=>?_)
 ·obtain⟨ob,z,u,k,M⟩:=N
  exact⟨⟨_,rfl,l,ob,vs,k,rfl,aK z (by simp),u,M,Ca I⟩,un rfl⟩
 ·intro v s' M' Γ' T k x g' a a h
  refine⟨?_,g'.old,g'.os,g'.bare⟩
  rcases h with⟨i,F⟩ | ⟨i,rfl⟩ | ⟨i,rfl⟩
  ·exact i _ _ F
  ·exact i (am s'.heap []) _ rfl
  ·exact(i.elim id id) (am s'.heap []) _ rfl
 ·exact λa a a a a a a a a a a a i a=>i.elim
 ·exact h
theorem walkM:D7:=λw s₁ l vs ns g e Y b i f a c j h d=>Cc w s₁ l vs ns g e Y b i f a c j h d
end
end Mine
theorem PySem.Challenge.cw_ba0005_01_holds : PySem.Challenge.rw_ba0005_01.Holds :=
 Mine.hd Mine.walkM
