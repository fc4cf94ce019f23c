import PyProof.Rows.All
import Wide.All
import OpenK.AllK
import Wide.FinOn
import PySem.Challenge.RW_ik0145_01
set_option bootstrap.genMatcherCode false
set_option genSizeOf false
set_option linter.all false
set_option tactic.hygienic false
set_option maxRecDepth 100000
noncomputable section
universe u
namespace Mine
open PySem PySem.Calls PyProof.Rows PySem.W PySem.SeqAt
abbrev an:=@wpAny_bind
abbrev a7:=@Option.some.inj
abbrev aS:=@wpAny_pure
abbrev cw:=@List.mem_cons_self
abbrev bW:=@List.length_map
abbrev eG:=@Option.map_eq_some_iff
abbrev dZ:=@List.mem_cons_of_mem
abbrev fY:=@List.getElem?_eq_some_iff
abbrev bZ:=@Nat.le_trans
abbrev gp:=@Heap.get?_push_of_some
abbrev b4:=@List.length_append
abbrev dz:=@List.getElem?_eq_getElem
abbrev ck:=@Bool.false_ne_true
abbrev cY:=@List.mem_append_right
abbrev dI:=@Option.bind_eq_some_iff
abbrev aA:=@Or.elim
abbrev db:=@List.mem_of_getElem?
abbrev b9:=@List.mem_append
abbrev au:=@if_neg
abbrev cc:=@List.append_nil
abbrev dm:=@Heap.get?_push_size
abbrev dy:=@Nat.lt_of_le_of_lt
abbrev dw:=@List.mem_singleton
abbrev cz:=@List.map_append
abbrev bI:=@Nat.le_refl
abbrev bw:=@wpAny_mono
abbrev aB:=@if_pos
abbrev dT:=@beq_self_eq_true
abbrev cX:=@wpAny_holding
abbrev cW:=@List.mem_cons
abbrev cV:=@List.map_cons
abbrev gw:=@List.length_filter_le
abbrev eH:=@List.all_eq_true
abbrev fh:=@List.size_toArray
abbrev gu:=@List.mem_append_left
abbrev eR:=@List.length_cons
abbrev gZ:=@Heap.get?_update_self
abbrev bH:=@congrArg
abbrev gF:=@Heap.SameBut.update
abbrev gY:=@beq_eq_false_iff_ne
abbrev iM:=@builtinLookup_eq_fast
abbrev c9:=@Nat.zero_le
abbrev cO:=@beq_iff_eq
abbrev gt:=@List.lookup_cons
abbrev du:=@sizeLine_eq
abbrev eQ:=@wpAny_standAt
abbrev eA:=@List.mem_map
abbrev gE:=@List.mem_range
abbrev jy:=@of_decide_eq_true
abbrev iL:=@Nat.le_add_right
abbrev fL:=@Nat.le_of_lt
abbrev fK:=@Heap.lt_size
abbrev iK:=@typeLookup_type
abbrev jP:=@List.filter_cons
abbrev kb:=@List.foldl_append
abbrev rA:=@List.getElem?_append_right
abbrev jx:=@List.nodup_nil
abbrev kY:=@List.take_add_one
abbrev jO:=@isSubtype_type
abbrev pn:=@Bool.and_eq_true_iff
abbrev iJ:=@codeAny_mono
abbrev iI:=@List.map_map
abbrev m5:=@Option.toList_some
abbrev rz:=@List.getElem?_eq_none
abbrev rt:=@List.contains_iff_mem
abbrev m4:=@List.flatMap_cons
abbrev m3:=@Bool.not_eq_true'
abbrev kX:=@decide_eq_true
abbrev pj:=@Int.natCast_nonneg
abbrev mZ:=@wpAny_items_cons
abbrev mY:=@Option.bind_some
abbrev mX:=@List.isEmpty_iff
abbrev rp:=@List.mem_map_of_mem
abbrev pi:=@List.getElem?_map
abbrev vM:=@Option.isSome_iff_exists
abbrev ka:=@Nat.le_of_eq
abbrev ph:=@List.take_length
abbrev jw:=@wpAny_call
abbrev kW:=@Nat.ne_of_lt
abbrev mW:=@Heap.size_push
abbrev rn:=@wpAny_newObj_type
abbrev tf:=@List.length_reverse
abbrev pg:=@decide_eq_false
abbrev pf:=@List.nodup_cons
abbrev pe:=@List.mem_filter
abbrev zc:=@List.mem_of_find?_eq_some
abbrev rj:=@wpAny_execs_cons
abbrev rh:=@Nat.le_of_not_lt
abbrev kU:=@wpAny_of_eq
abbrev vL:=@Nat.add_le_add_right
abbrev j9:=@Nat.not_lt
abbrev rc:=@wpAny_items_nil
abbrev q8:=@Nat.not_lt_zero
abbrev qZ:=@List.foldl_cons
abbrev vK:=@PySem.find?_eq_fast
abbrev vJ:=@Option.some_ne_none
abbrev vI:=@List.map_congr_left
abbrev gr:=@dif_neg
abbrev zb:=@Int.fmod_nonneg_of_pos
abbrev pd:=@List.sum_cons
abbrev lU:=@List.getElem_mem
abbrev nq:=@Nat.lt_of_lt_of_le
abbrev tE:=@Option.isNone_iff_eq_none
abbrev lT:=@codeAny_builtin
abbrev jG:=@Int.ofNat_lt
abbrev nl:=@decide_eq_true_eq
abbrev nk:=@List.reverse_cons
abbrev nj:=@List.length_range
abbrev pT:=@Around.under_plainId
abbrev pS:=@List.getElem_of_mem
abbrev pQ:=@Bool.or_eq_true_iff
abbrev nh:=@entryFor_of_tree
abbrev ng:=@Nat.succ_ne_zero
abbrev iR:=@typeIs_str
abbrev pP:=@wpAny_Constant_str
abbrev pO:=@Obj.data_mapFields
abbrev pN:=@Code.quiet_builtin
abbrev tD:=@Heap.get?_update_other
abbrev nf:=@codeAny_of_tree
abbrev na:=@Option.map_some
abbrev lS:=@Looks.of_pure
abbrev lR:=@List.any_cons
@[elab_as_elim] theorem RW{α:Sort u}{a b:α}(h:a=b){P:α→Prop}(k:P b):P a:=h▸k
@[elab_as_elim] theorem RS{α:Sort u}{a b:α}(h:a=b){P:α→Prop}(k:P a):P b:=h▸k
theorem EM(p:Prop){G:Prop}(k:p→G)(n:¬p→G):G:=(Classical.em p).elim k n
theorem aJ{α:Type}{a:α}{P:Prop}(h:none=some a):P:=Option.noConfusion rfl (heq_of_eq h)
theorem py{α:Type}{a:α}{P:Prop}(h:some a=none):P:=Option.noConfusion rfl (heq_of_eq h)
theorem c0{P:Prop}(h:false=true):P:=Bool.noConfusion h
theorem tt{P:Prop}(h:true=false):P:=Bool.noConfusion h
section
variable{G:Prop}
theorem az{p q:Prop}(h:p∧q)(z:p→q→G):G:=z h.1 h.2
theorem gq{p q r:Prop}(h:p∧q∧r)(z:p→q→r→G):G:=z h.1 h.2.1 h.2.2
theorem cE{p q r:Prop}(h:p)(i:q)(j:r):p∧q∧r:=⟨h,i,j⟩
theorem kT{p q r s:Prop}(h:p∧q∧r∧s)(z:p→q→r→s→G):G:=z h.1 h.2.1 h.2.2.1 h.2.2.2
theorem qU{p q r s:Prop}(h:p)(i:q)(j:r)(k:s):p∧q∧r∧s:=⟨h,i,j,k⟩
theorem Nx{p q r s t:Prop}(h:p∧q∧r∧s∧t)(z:p→q→r→s→t→G):G:=z h.1 h.2.1 h.2.2.1 h.2.2.2.1 h.2.2.2.2
theorem Nv{p q r s t:Prop}(h:p)(i:q)(j:r)(k:s)(l:t):p∧q∧r∧s∧t:=⟨h,i,j,k,l⟩
theorem SF{p q r s t P:Prop}(h:p∧q∧r∧s∧t∧P)(z:p→q→r→s→t→P→G):G:=z h.1 h.2.1 h.2.2.1 h.2.2.2.1 h.2.2.2.2.1 h.2.2.2.2.2
theorem SE{p q r s t P:Prop}(h:p)(i:q)(j:r)(k:s)(l:t)(m:P):p∧q∧r∧s∧t∧P:=⟨h,i,j,k,l,m⟩
theorem Xe{p q r s t P Q:Prop}(h:p∧q∧r∧s∧t∧P∧Q)(z:p→q→r→s→t→P→Q→G):G:=z h.1 h.2.1 h.2.2.1 h.2.2.2.1 h.2.2.2.2.1 h.2.2.2.2.2.1 h.2.2.2.2.2.2
theorem W3{p q r s t P Q:Prop}(h:p)(i:q)(j:r)(k:s)(l:t)(m:P)(n:Q):p∧q∧r∧s∧t∧P∧Q:=⟨h,i,j,k,l,m,n⟩
theorem Xd{p q r s t P Q R S:Prop}(h:p∧q∧r∧s∧t∧P∧Q∧R∧S)(z:p→q→r→s→t→P→Q→R→S→G):G:=z h.1 h.2.1 h.2.2.1 h.2.2.2.1 h.2.2.2.2.1 h.2.2.2.2.2.1 h.2.2.2.2.2.2.1 h.2.2.2.2.2.2.2.1 h.2.2.2.2.2.2.2.2
theorem W2{p q r s t P Q R S:Prop}(h:p)(i:q)(j:r)(k:s)(l:t)(m:P)(n:Q)(o:R)(g:S):p∧q∧r∧s∧t∧P∧Q∧R∧S:=⟨h,i,j,k,l,m,n,o,g⟩
theorem bf{p:A→Prop}(h:∃a,p a)(z:∀a,p a→G):G:=h.elim fun a h=>z a h
theorem aq{p q:A→Prop}(h:∃a,p a∧q a)(z:∀a,p a→q a→G):G:=h.elim fun a h=>z a h.1 h.2
theorem aK{p q:A→Prop}(a:A)(h:p a)(i:q a):∃a,p a∧q a:=⟨a,h,i⟩
theorem kS{p q r:A→Prop}(h:∃a,p a∧q a∧r a)(z:∀a,p a→q a→r a→G):G:=h.elim fun a h=>z a h.1 h.2.1 h.2.2
theorem lL{p q r:A→Prop}(a:A)(h:p a)(i:q a)(j:r a):∃a,p a∧q a∧r a:=⟨a,h,i,j⟩
theorem o9{p q r s:A→Prop}(h:∃a,p a∧q a∧r a∧s a)(z:∀a,p a→q a→r a→s a→G):G:=h.elim fun a h=>z a h.1 h.2.1 h.2.2.1 h.2.2.2
theorem SD{p q r s:A→Prop}(a:A)(h:p a)(i:q a)(j:r a)(k:s a):∃a,p a∧q a∧r a∧s a:=⟨a,h,i,j,k⟩
theorem Xc{p q r s t:A→Prop}(h:∃a,p a∧q a∧r a∧s a∧t a)(z:∀a,p a→q a→r a→s a→t a→G):G:=h.elim fun a h=>z a h.1 h.2.1 h.2.2.1 h.2.2.2.1 h.2.2.2.2
theorem UR{p q r s t P:A→Prop}(h:∃a,p a∧q a∧r a∧s a∧t a∧P a)(z:∀a,p a→q a→r a→s a→t a→P a→G):G:=h.elim fun a h=>z a h.1 h.2.1 h.2.2.1 h.2.2.2.1 h.2.2.2.2.1 h.2.2.2.2.2
theorem W1{p q r s t P:A→Prop}(a:A)(h:p a)(i:q a)(j:r a)(k:s a)(l:t a)(m:P a):∃a,p a∧q a∧r a∧s a∧t a∧P a:=⟨a,h,i,j,k,l,m⟩
theorem vG{p:A→B→Prop}(h:∃a b,p a b)(z:∀a b,p a b→G):G:=h.elim fun a h=>h.elim fun b h=>z a b h
theorem s7{p:A→B→Prop}(a:A)(b:B)(h:p a b):∃a b,p a b:=⟨a,b,h⟩
theorem fJ{p q:A→B→Prop}(h:∃a b,p a b∧q a b)(z:∀a b,p a b→q a b→G):G:=h.elim fun a h=>h.elim fun b h=>z a b h.1 h.2
theorem pK{p q:A→B→Prop}(a:A)(b:B)(h:p a b)(i:q a b):∃a b,p a b∧q a b:=⟨a,b,h,i⟩
theorem ez{p q r:A→B→Prop}(h:∃a b,p a b∧q a b∧r a b)(z:∀a b,p a b→q a b→r a b→G):G:=h.elim fun a h=>h.elim fun b h=>z a b h.1 h.2.1 h.2.2
theorem jN{p q r:A→B→Prop}(a:A)(b:B)(h:p a b)(i:q a b)(j:r a b):∃a b,p a b∧q a b∧r a b:=⟨a,b,h,i,j⟩
theorem xz{p q r s:A→B→Prop}(h:∃a b,p a b∧q a b∧r a b∧s a b)(z:∀a b,p a b→q a b→r a b→s a b→G):G:=h.elim fun a h=>h.elim fun b h=>z a b h.1 h.2.1 h.2.2.1 h.2.2.2
theorem AK{p q r s:A→B→Prop}(a:A)(b:B)(h:p a b)(i:q a b)(j:r a b)(k:s a b):∃a b,p a b∧q a b∧r a b∧s a b:=⟨a,b,h,i,j,k⟩
theorem EL{p q r s t:A→B→Prop}(h:∃a b,p a b∧q a b∧r a b∧s a b∧t a b)(z:∀a b,p a b→q a b→r a b→s a b→t a b→G):G:=h.elim fun a h=>h.elim fun b h=>z a b h.1 h.2.1 h.2.2.1 h.2.2.2.1 h.2.2.2.2
theorem IM{p q r s t:A→B→Prop}(a:A)(b:B)(h:p a b)(i:q a b)(j:r a b)(k:s a b)(l:t a b):∃a b,p a b∧q a b∧r a b∧s a b∧t a b:=⟨a,b,h,i,j,k,l⟩
theorem Xb{p q r s t P:A→B→Prop}(h:∃a b,p a b∧q a b∧r a b∧s a b∧t a b∧P a b)(z:∀a b,p a b→q a b→r a b→s a b→t a b→P a b→G):G:=h.elim fun a h=>h.elim fun b h=>z a b h.1 h.2.1 h.2.2.1 h.2.2.2.1 h.2.2.2.2.1 h.2.2.2.2.2
theorem RU{p q r s t P:A→B→Prop}(a:A)(b:B)(h:p a b)(i:q a b)(j:r a b)(k:s a b)(l:t a b)(m:P a b):∃a b,p a b∧q a b∧r a b∧s a b∧t a b∧P a b:=⟨a,b,h,i,j,k,l,m⟩
theorem UQ{p q r s t P Q:A→B→Prop}(h:∃a b,p a b∧q a b∧r a b∧s a b∧t a b∧P a b∧Q a b)(z:∀a b,p a b→q a b→r a b→s a b→t a b→P a b→Q a b→G):G:=h.elim fun a h=>h.elim fun b h=>z a b h.1 h.2.1 h.2.2.1 h.2.2.2.1 h.2.2.2.2.1 h.2.2.2.2.2.1 h.2.2.2.2.2.2
theorem W0{p q r s t P Q R:A→B→Prop}(a:A)(b:B)(h:p a b)(i:q a b)(j:r a b)(k:s a b)(l:t a b)(m:P a b)(n:Q a b)(o:R a b):∃a b,p a b∧q a b∧r a b∧s a b∧t a b∧P a b∧Q a b∧R a b:=⟨a,b,h,i,j,k,l,m,n,o⟩
theorem N1{p q r s t P Q R S:A→B→Prop}(h:∃a b,p a b∧q a b∧r a b∧s a b∧t a b∧P a b∧Q a b∧R a b∧S a b)(z:∀a b,p a b→q a b→r a b→s a b→t a b→P a b→Q a b→R a b→S a b→G):G:=h.elim fun a h=>h.elim fun b h=>z a b h.1 h.2.1 h.2.2.1 h.2.2.2.1 h.2.2.2.2.1 h.2.2.2.2.2.1 h.2.2.2.2.2.2.1 h.2.2.2.2.2.2.2.1 h.2.2.2.2.2.2.2.2
theorem RT{p q r s t P Q R S:A→B→Prop}(a:A)(b:B)(h:p a b)(i:q a b)(j:r a b)(k:s a b)(l:t a b)(m:P a b)(n:Q a b)(o:R a b)(g:S a b):∃a b,p a b∧q a b∧r a b∧s a b∧t a b∧P a b∧Q a b∧R a b∧S a b:=⟨a,b,h,i,j,k,l,m,n,o,g⟩
theorem UI{p:A→B→C→Prop}(a:A)(b:B)(c:C)(h:p a b c):∃a b c,p a b c:=⟨a,b,c,h⟩
theorem AL{p q:A→B→C→Prop}(h:∃a b c,p a b c∧q a b c)(z:∀a b c,p a b c→q a b c→G):G:=h.elim fun a h=>h.elim fun b h=>h.elim fun c h=>z a b c h.1 h.2
theorem WZ{p q:A→B→C→Prop}(a:A)(b:B)(c:C)(h:p a b c)(i:q a b c):∃a b c,p a b c∧q a b c:=⟨a,b,c,h,i⟩
theorem mU{p q r:A→B→C→Prop}(h:∃a b c,p a b c∧q a b c∧r a b c)(z:∀a b c,p a b c→q a b c→r a b c→G):G:=h.elim fun a h=>h.elim fun b h=>h.elim fun c h=>z a b c h.1 h.2.1 h.2.2
theorem AJ{p q r:A→B→C→Prop}(a:A)(b:B)(c:C)(h:p a b c)(i:q a b c)(j:r a b c):∃a b c,p a b c∧q a b c∧r a b c:=⟨a,b,c,h,i,j⟩
theorem vF{p q r s:A→B→C→Prop}(h:∃a b c,p a b c∧q a b c∧r a b c∧s a b c)(z:∀a b c,p a b c→q a b c→r a b c→s a b c→G):G:=h.elim fun a h=>h.elim fun b h=>h.elim fun c h=>z a b c h.1 h.2.1 h.2.2.1 h.2.2.2
theorem JA{p q r s:A→B→C→Prop}(a:A)(b:B)(c:C)(h:p a b c)(i:q a b c)(j:r a b c)(k:s a b c):∃a b c,p a b c∧q a b c∧r a b c∧s a b c:=⟨a,b,c,h,i,j,k⟩
theorem Nw{p q r s t:A→B→C→Prop}(h:∃a b c,p a b c∧q a b c∧r a b c∧s a b c∧t a b c)(z:∀a b c,p a b c→q a b c→r a b c→s a b c→t a b c→G):G:=h.elim fun a h=>h.elim fun b h=>h.elim fun c h=>z a b c h.1 h.2.1 h.2.2.1 h.2.2.2.1 h.2.2.2.2
theorem E1{p q r s t:A→B→C→Prop}(a:A)(b:B)(c:C)(h:p a b c)(i:q a b c)(j:r a b c)(k:s a b c)(l:t a b c):∃a b c,p a b c∧q a b c∧r a b c∧s a b c∧t a b c:=⟨a,b,c,h,i,j,k,l⟩
theorem Xa{p q:A→B→C→D→Prop}(h:∃a b c d,p a b c d∧q a b c d)(z:∀a b c d,p a b c d→q a b c d→G):G:=h.elim fun a h=>h.elim fun b h=>h.elim fun c h=>h.elim fun d h=>z a b c d h.1 h.2
theorem UH{p q:A→B→C→D→Prop}(a:A)(b:B)(c:C)(d:D)(h:p a b c d)(i:q a b c d):∃a b c d,p a b c d∧q a b c d:=⟨a,b,c,d,h,i⟩
theorem AZ{p q r:A→B→C→D→Prop}(h:∃a b c d,p a b c d∧q a b c d∧r a b c d)(z:∀a b c d,p a b c d→q a b c d→r a b c d→G):G:=h.elim fun a h=>h.elim fun b h=>h.elim fun c h=>h.elim fun d h=>z a b c d h.1 h.2.1 h.2.2
theorem UG{p q r:A→B→C→D→Prop}(a:A)(b:B)(c:C)(d:D)(h:p a b c d)(i:q a b c d)(j:r a b c d):∃a b c d,p a b c d∧q a b c d∧r a b c d:=⟨a,b,c,d,h,i,j⟩
theorem UP{p q r s:A→B→C→D→Prop}(h:∃a b c d,p a b c d∧q a b c d∧r a b c d∧s a b c d)(z:∀a b c d,p a b c d→q a b c d→r a b c d→s a b c d→G):G:=h.elim fun a h=>h.elim fun b h=>h.elim fun c h=>h.elim fun d h=>z a b c d h.1 h.2.1 h.2.2.1 h.2.2.2
theorem UF{p q r s:A→B→C→D→Prop}(a:A)(b:B)(c:C)(d:D)(h:p a b c d)(i:q a b c d)(j:r a b c d)(k:s a b c d):∃a b c d,p a b c d∧q a b c d∧r a b c d∧s a b c d:=⟨a,b,c,d,h,i,j,k⟩
theorem W9{p q r s t:A→B→C→D→Prop}(h:∃a b c d,p a b c d∧q a b c d∧r a b c d∧s a b c d∧t a b c d)(z:∀a b c d,p a b c d→q a b c d→r a b c d→s a b c d→t a b c d→G):G:=h.elim fun a h=>h.elim fun b h=>h.elim fun c h=>h.elim fun d h=>z a b c d h.1 h.2.1 h.2.2.1 h.2.2.2.1 h.2.2.2.2
theorem NZ{p q r s t P:A→B→C→D→Prop}(h:∃a b c d,p a b c d∧q a b c d∧r a b c d∧s a b c d∧t a b c d∧P a b c d)(z:∀a b c d,p a b c d→q a b c d→r a b c d→s a b c d→t a b c d→P a b c d→G):G:=h.elim fun a h=>h.elim fun b h=>h.elim fun c h=>h.elim fun d h=>z a b c d h.1 h.2.1 h.2.2.1 h.2.2.2.1 h.2.2.2.2.1 h.2.2.2.2.2
theorem UE{p q r s t P:A→B→C→D→Prop}(a:A)(b:B)(c:C)(d:D)(h:p a b c d)(i:q a b c d)(j:r a b c d)(k:s a b c d)(l:t a b c d)(m:P a b c d):∃a b c d,p a b c d∧q a b c d∧r a b c d∧s a b c d∧t a b c d∧P a b c d:=⟨a,b,c,d,h,i,j,k,l,m⟩
theorem UO{p:A→B→C→D→H→Prop}(h:∃a b c d e,p a b c d e)(z:∀a b c d e,p a b c d e→G):G:=h.elim fun a h=>h.elim fun b h=>h.elim fun c h=>h.elim fun d h=>h.elim fun e h=>z a b c d e h
theorem WY{p q r s t P Q:A→B→C→D→H→Prop}(a:A)(b:B)(c:C)(d:D)(e:H)(h:p a b c d e)(i:q a b c d e)(j:r a b c d e)(k:s a b c d e)(l:t a b c d e)(m:P a b c d e)(n:Q a b c d e):∃a b c d e,p a b c d e∧q a b c d e∧r a b c d e∧s a b c d e∧t a b c d e∧P a b c d e∧Q a b c d e:=⟨a,b,c,d,e,h,i,j,k,l,m,n⟩
theorem UN{p:A→B→C→D→H→J→Prop}(h:∃a b c d e f,p a b c d e f)(z:∀a b c d e f,p a b c d e f→G):G:=h.elim fun a h=>h.elim fun b h=>h.elim fun c h=>h.elim fun d h=>h.elim fun e h=>h.elim fun f h=>z a b c d e f h
theorem WX{p:A→B→C→D→H→J→Prop}(a:A)(b:B)(c:C)(d:D)(e:H)(f:J)(h:p a b c d e f):∃a b c d e f,p a b c d e f:=⟨a,b,c,d,e,f,h⟩
theorem W8{p q:A→B→C→D→H→J→Prop}(h:∃a b c d e f,p a b c d e f∧q a b c d e f)(z:∀a b c d e f,p a b c d e f→q a b c d e f→G):G:=h.elim fun a h=>h.elim fun b h=>h.elim fun c h=>h.elim fun d h=>h.elim fun e h=>h.elim fun f h=>z a b c d e f h.1 h.2
theorem UM{p q r s t:A→B→C→D→H→J→Prop}(h:∃a b c d e f,p a b c d e f∧q a b c d e f∧r a b c d e f∧s a b c d e f∧t a b c d e f)(z:∀a b c d e f,p a b c d e f→q a b c d e f→r a b c d e f→s a b c d e f→t a b c d e f→G):G:=h.elim fun a h=>h.elim fun b h=>h.elim fun c h=>h.elim fun d h=>h.elim fun e h=>h.elim fun f h=>z a b c d e f h.1 h.2.1 h.2.2.1 h.2.2.2.1 h.2.2.2.2
theorem UD{p q r s t:A→B→C→D→H→J→Prop}(a:A)(b:B)(c:C)(d:D)(e:H)(f:J)(h:p a b c d e f)(i:q a b c d e f)(j:r a b c d e f)(k:s a b c d e f)(l:t a b c d e f):∃a b c d e f,p a b c d e f∧q a b c d e f∧r a b c d e f∧s a b c d e f∧t a b c d e f:=⟨a,b,c,d,e,f,h,i,j,k,l⟩
theorem W7{p q r s t:A→B→C→D→H→J→X→Prop}(h:∃a b c d e f x,p a b c d e f x∧q a b c d e f x∧r a b c d e f x∧s a b c d e f x∧t a b c d e f x)(z:∀a b c d e f x,p a b c d e f x→q a b c d e f x→r a b c d e f x→s a b c d e f x→t a b c d e f x→G):G:=h.elim fun a h=>h.elim fun b h=>h.elim fun c h=>h.elim fun d h=>h.elim fun e h=>h.elim fun f h=>h.elim fun x h=>z a b c d e f x h.1 h.2.1 h.2.2.1 h.2.2.2.1 h.2.2.2.2
theorem W6{p q:A→B→C→D→H→J→X→Y→Prop}(h:∃a b c d e f x y,p a b c d e f x y∧q a b c d e f x y)(z:∀a b c d e f x y,p a b c d e f x y→q a b c d e f x y→G):G:=h.elim fun a h=>h.elim fun b h=>h.elim fun c h=>h.elim fun d h=>h.elim fun e h=>h.elim fun f h=>h.elim fun x h=>h.elim fun y h=>z a b c d e f x y h.1 h.2
theorem UL{p q r s t:A→B→C→D→H→J→X→Y→Prop}(h:∃a b c d e f x y,p a b c d e f x y∧q a b c d e f x y∧r a b c d e f x y∧s a b c d e f x y∧t a b c d e f x y)(z:∀a b c d e f x y,p a b c d e f x y→q a b c d e f x y→r a b c d e f x y→s a b c d e f x y→t a b c d e f x y→G):G:=h.elim fun a h=>h.elim fun b h=>h.elim fun c h=>h.elim fun d h=>h.elim fun e h=>h.elim fun f h=>h.elim fun x h=>h.elim fun y h=>z a b c d e f x y h.1 h.2.1 h.2.2.1 h.2.2.2.1 h.2.2.2.2
theorem WW{p q r s t P Q R:A→B→C→D→H→J→X→Y→Prop}(a:A)(b:B)(c:C)(d:D)(e:H)(f:J)(x:X)(y:Y)(h:p a b c d e f x y)(i:q a b c d e f x y)(j:r a b c d e f x y)(k:s a b c d e f x y)(l:t a b c d e f x y)(m:P a b c d e f x y)(n:Q a b c d e f x y)(o:R a b c d e f x y):∃a b c d e f x y,p a b c d e f x y∧q a b c d e f x y∧r a b c d e f x y∧s a b c d e f x y∧t a b c d e f x y∧P a b c d e f x y∧Q a b c d e f x y∧R a b c d e f x y:=⟨a,b,c,d,e,f,x,y,h,i,j,k,l,m,n,o⟩
theorem W5{p q r:A→B→C→D→H→J→X→Y→Z→Prop}(h:∃a b c d e f x y u,p a b c d e f x y u∧q a b c d e f x y u∧r a b c d e f x y u)(z:∀a b c d e f x y u,p a b c d e f x y u→q a b c d e f x y u→r a b c d e f x y u→G):G:=h.elim fun a h=>h.elim fun b h=>h.elim fun c h=>h.elim fun d h=>h.elim fun e h=>h.elim fun f h=>h.elim fun x h=>h.elim fun y h=>h.elim fun u h=>z a b c d e f x y u h.1 h.2.1 h.2.2
theorem TM{p q r s t P Q:A→B→C→D→H→J→X→Y→Z→U→Prop}(h:∃a b c d e f x y u v,p a b c d e f x y u v∧q a b c d e f x y u v∧r a b c d e f x y u v∧s a b c d e f x y u v∧t a b c d e f x y u v∧P a b c d e f x y u v∧Q a b c d e f x y u v)(z:∀a b c d e f x y u v,p a b c d e f x y u v→q a b c d e f x y u v→r a b c d e f x y u v→s a b c d e f x y u v→t a b c d e f x y u v→P a b c d e f x y u v→Q a b c d e f x y u v→G):G:=h.elim fun a h=>h.elim fun b h=>h.elim fun c h=>h.elim fun d h=>h.elim fun e h=>h.elim fun f h=>h.elim fun x h=>h.elim fun y h=>h.elim fun u h=>h.elim fun v h=>z a b c d e f x y u v h.1 h.2.1 h.2.2.1 h.2.2.2.1 h.2.2.2.2.1 h.2.2.2.2.2.1 h.2.2.2.2.2.2
theorem TL{p q r s t P Q R:A→B→C→D→H→J→X→Y→Z→U→Prop}(h:∃a b c d e f x y u v,p a b c d e f x y u v∧q a b c d e f x y u v∧r a b c d e f x y u v∧s a b c d e f x y u v∧t a b c d e f x y u v∧P a b c d e f x y u v∧Q a b c d e f x y u v∧R a b c d e f x y u v)(z:∀a b c d e f x y u v,p a b c d e f x y u v→q a b c d e f x y u v→r a b c d e f x y u v→s a b c d e f x y u v→t a b c d e f x y u v→P a b c d e f x y u v→Q a b c d e f x y u v→R a b c d e f x y u v→G):G:=h.elim fun a h=>h.elim fun b h=>h.elim fun c h=>h.elim fun d h=>h.elim fun e h=>h.elim fun f h=>h.elim fun x h=>h.elim fun y h=>h.elim fun u h=>h.elim fun v h=>z a b c d e f x y u v h.1 h.2.1 h.2.2.1 h.2.2.2.1 h.2.2.2.2.1 h.2.2.2.2.2.1 h.2.2.2.2.2.2.1 h.2.2.2.2.2.2.2
end
section
abbrev Tx:=List Nat
noncomputable def tx(s:String):Tx:=(Str.ofString s).cps.toList
section
variable{β:Sort u}{P:Expr→Prop}{e:Expr}{d:Prop}
noncomputable def eName(e:Expr)(k:Str→Pos→β)(d:β):β:=if h:e.ctorIdx=23 then Expr.Name.elim (motive_1:=fun _=>β) e h k else d
theorem Hx(h:eName e k d)(f:∀x p,k x p→P (.Name x p))(g:d→P e):P e:=by
 refine EM (e.ctorIdx=23) (fun q=>?_) fun q=>?_
 ·exact Expr.Name.elim (motive_1:=fun e=>eName e k d→P e) e q (fun x p h=>f x p h) h
 ·exact g ((gr q).mp h)
noncomputable def ny(e:Expr)(k:Expr→Str→Pos→β)(d:β):β:=if h:e.ctorIdx=20 then Expr.Attribute.elim (motive_1:=fun _=>β) e h k else d
theorem Hz(h:ny e k d)(f:∀o n p,k o n p→P (.Attribute o n p))(g:d→P e):P e:=by
 refine EM (e.ctorIdx=20) (fun q=>?_) fun q=>?_
 ·exact Expr.Attribute.elim (motive_1:=fun e=>ny e k d→P e) e q (fun o n p h=>f o n p h) h
 ·exact g ((gr q).mp h)
noncomputable def A9(e:Expr)(k:Expr→Expr→Pos→β)(d:β):β:=if h:e.ctorIdx=21 then Expr.Subscript.elim (motive_1:=fun _=>β) e h k else d
theorem Ms(h:A9 e k d)(f:∀o i p,k o i p→P (.Subscript o i p))(g:d→P e):P e:=by
 refine EM (e.ctorIdx=21) (fun q=>?_) fun q=>?_
 ·exact Expr.Subscript.elim (motive_1:=fun e=>A9 e k d→P e) e q (fun o i p h=>f o i p h) h
 ·exact g ((gr q).mp h)
noncomputable def OU(e:Expr)(k:List Expr→Nat→Pos→β)(d:β):β:=if h:e.ctorIdx=25 then Expr.Tuple.elim (motive_1:=fun _=>β) e h k else d
noncomputable def tL(e:Expr)(k:Expr→List Expr→List Keyword→Pos→β)(d:β):β:=if h:e.ctorIdx=16 then Expr.Call.elim (motive_1:=fun _=>β) e h k else d
theorem Hy(h:tL e k d)(f:∀c a b p,k c a b p→P (.Call c a b p))(g:d→P e):P e:=by
 refine EM (e.ctorIdx=16) (fun q=>?_) fun q=>?_
 ·exact Expr.Call.elim (motive_1:=fun e=>tL e k d→P e) e q (fun c a b p h=>f c a b p h) h
 ·exact g ((gr q).mp h)
noncomputable def Mt(e:Expr)(k:Option Expr→Option Expr→Option Expr→Pos→β)(d:β):β:=if h:e.ctorIdx=26 then Expr.Slice.elim (motive_1:=fun _=>β) e h k else d
noncomputable def QO(e:Expr)(k:Expr→Pos→β)(d:β):β:=if h:e.ctorIdx=22 then Expr.Starred.elim (motive_1:=fun _=>β) e h k else d
end
inductive V where
 |none
 |bool (b:Bool)
 |int (i:Int)
 |str (s:Tx)
 |seq (k:Bool) (vs:List V)
 |mj (a b:Int)
 |ref (i:Nat)
 |view (i:Nat)
 |con (v:Value)
 deriving Inhabited
inductive O where
 |list (vs:List V)
 |dict (es:List (Tx×V)) (ep:Option Nat)
 |attrs (es:List (Tx×V))
 |inst (C:Addr) (d:Nat)
 |slots (C:Addr) (d:Nat) (vs:List (Option V))
 |set (xs:List Tx)
 |AW
 |iter (l:Nat) (k:Nat)
 |wrap (id:String) (self:Nat)
 |dead
 deriving Inhabited
section
theorem tR{α:Type}{o:Option α}{p:α→Bool}{P:Prop}(h:o.any p=true)(f:∀a,o=some a→p a=true→P):P:=by
 induction o using Option.casesOn with
 |none=>exact absurd h ck
 |some a=>exact f a rfl h
variable{β:Sort u}{φ:β→Prop}{d:β}
noncomputable def qW(e:Value)(k:Addr→β)(d:β):β:=if h:e.ctorIdx=10 then Value.ref.elim (motive:=fun _=>β) e h k else d
theorem vY{P:Value→Prop}{k:Addr→β}(h:φ (qW e k d))(f:∀a,φ (k a)→P (.ref a))(g:φ d→P e):P e:=by
 refine EM (e.ctorIdx=10) (fun q=>?_) fun q=>?_
 ·exact Value.ref.elim (motive:=fun e=>φ (qW e k d)→P e) e q (fun a h=>f a h) h
 ·exact g (Eq.mp (bH φ (gr q)) h)
noncomputable def vInt(e:Value)(k:Int→PySem.Tok→β)(d:β):β:=if h:e.ctorIdx=4 then Value.int.elim (motive:=fun _=>β) e h k else d
theorem Kx{P:Value→Prop}{k:Int→PySem.Tok→β}(h:φ (vInt e k d))(f:∀i t,φ (k i t)→P (.int i t))(g:φ d→P e):P e:=by
 refine EM (e.ctorIdx=4) (fun q=>?_) fun q=>?_
 ·exact Value.int.elim (motive:=fun e=>φ (vInt e k d)→P e) e q (fun i t h=>f i t h) h
 ·exact g (Eq.mp (bH φ (gr q)) h)
noncomputable def vStr(e:Value)(k:Str→PySem.Tok→β)(d:β):β:=if h:e.ctorIdx=6 then Value.str.elim (motive:=fun _=>β) e h k else d
theorem BG{P:Value→Prop}{k:Str→PySem.Tok→β}(h:φ (vStr e k d))(f:∀s t,φ (k s t)→P (.str s t))(g:φ d→P e):P e:=by
 refine EM (e.ctorIdx=6) (fun q=>?_) fun q=>?_
 ·exact Value.str.elim (motive:=fun e=>φ (vStr e k d)→P e) e q (fun s t h=>f s t h) h
 ·exact g (Eq.mp (bH φ (gr q)) h)
noncomputable def tz(e:Value)(k:String→β)(d:β):β:=if h:e.ctorIdx=8 then Value.type.elim (motive:=fun _=>β) e h k else d
theorem FK{P:Value→Prop}{k:String→β}(h:φ (tz e k d))(f:∀s,φ (k s)→P (.type s))(g:φ d→P e):P e:=by
 refine EM (e.ctorIdx=8) (fun q=>?_) fun q=>?_
 ·exact Value.type.elim (motive:=fun e=>φ (tz e k d)→P e) e q (fun s h=>f s h) h
 ·exact g (Eq.mp (bH φ (gr q)) h)
noncomputable def JG(e:Value)(k:String→β)(d:β):β:=if h:e.ctorIdx=9 then Value.builtin.elim (motive:=fun _=>β) e h k else d
theorem Ky{P:Value→Prop}{k:String→β}(h:φ (JG e k d))(f:∀s,φ (k s)→P (.builtin s))(g:φ d→P e):P e:=by
 refine EM (e.ctorIdx=9) (fun q=>?_) fun q=>?_
 ·exact Value.builtin.elim (motive:=fun e=>φ (JG e k d)→P e) e q (fun s h=>f s h) h
 ·exact g (Eq.mp (bH φ (gr q)) h)
noncomputable def sC(e:Data)(k:Array Value→β)(d:β):β:=if h:e.ctorIdx=9 then Data.fields.elim (motive:=fun _=>β) e h k else d
theorem Ao{P:Data→Prop}{k:Array Value→β}(h:φ (sC e k d))(f:∀vs,φ (k vs)→P (.fields vs))(g:φ d→P e):P e:=by
 refine EM (e.ctorIdx=9) (fun q=>?_) fun q=>?_
 ·exact Data.fields.elim (motive:=fun e=>φ (sC e k d)→P e) e q (fun vs h=>f vs h) h
 ·exact g (Eq.mp (bH φ (gr q)) h)
noncomputable def Kl(e:Data)(k:Array Value→Nat→β)(d:β):β:=if h:e.ctorIdx=2 then Data.seq.elim (motive:=fun _=>β) e h k else d
theorem Mz{P:Data→Prop}{k:Array Value→Nat→β}(h:φ (Kl e k d))(f:∀vs n,φ (k vs n)→P (.seq vs n))(g:φ d→P e):P e:=by
 refine EM (e.ctorIdx=2) (fun q=>?_) fun q=>?_
 ·exact Data.seq.elim (motive:=fun e=>φ (Kl e k d)→P e) e q (fun vs n h=>f vs n h) h
 ·exact g (Eq.mp (bH φ (gr q)) h)
noncomputable def tM(e:Data)(k:FuncData→β)(d:β):β:=if h:e.ctorIdx=7 then Data.func.elim (motive:=fun _=>β) e h k else d
theorem HI{P:Data→Prop}{k:FuncData→β}(h:φ (tM e k d))(f:∀x,φ (k x)→P (.func x))(g:φ d→P e):P e:=by
 refine EM (e.ctorIdx=7) (fun q=>?_) fun q=>?_
 ·exact Data.func.elim (motive:=fun e=>φ (tM e k d)→P e) e q (fun x h=>f x h) h
 ·exact g (Eq.mp (bH φ (gr q)) h)
def JF(e:V)(k:Value→β)(d:β):β:=if h:e.ctorIdx=8 then V.con.elim (motive_1:=fun _=>β) e h k else d
theorem Kw{P:V→Prop}{k:Value→β}(h:φ (JF e k d))(f:∀v,φ (k v)→P (.con v))(g:φ d→P e):P e:=by
 refine EM (e.ctorIdx=8) (fun q=>?_) fun q=>?_
 ·exact V.con.elim (motive_1:=fun e=>φ (JF e k d)→P e) e q (fun v h=>f v h) h
 ·exact g (Eq.mp (bH φ (gr q)) h)
def JD(e:V)(k:Nat→β)(d:β):β:=if h:e.ctorIdx=6 then V.ref.elim (motive_1:=fun _=>β) e h k else d
theorem Ku{P:V→Prop}{k:Nat→β}(h:φ (JD e k d))(f:∀i,φ (k i)→P (.ref i))(g:φ d→P e):P e:=by
 refine EM (e.ctorIdx=6) (fun q=>?_) fun q=>?_
 ·exact V.ref.elim (motive_1:=fun e=>φ (JD e k d)→P e) e q (fun i h=>f i h) h
 ·exact g (Eq.mp (bH φ (gr q)) h)
def JE(e:V)(k:Int→β)(d:β):β:=if h:e.ctorIdx=2 then V.int.elim (motive_1:=fun _=>β) e h k else d
theorem Kv{P:V→Prop}{k:Int→β}(h:φ (JE e k d))(f:∀i,φ (k i)→P (.int i))(g:φ d→P e):P e:=by
 refine EM (e.ctorIdx=2) (fun q=>?_) fun q=>?_
 ·exact V.int.elim (motive_1:=fun e=>φ (JE e k d)→P e) e q (fun i h=>f i h) h
 ·exact g (Eq.mp (bH φ (gr q)) h)
def JC(e:V)(k:Tx→β)(d:β):β:=if h:e.ctorIdx=3 then V.str.elim (motive_1:=fun _=>β) e h k else d
theorem Kt{P:V→Prop}{k:Tx→β}(h:φ (JC e k d))(f:∀s,φ (k s)→P (.str s))(g:φ d→P e):P e:=by
 refine EM (e.ctorIdx=3) (fun q=>?_) fun q=>?_
 ·exact V.str.elim (motive_1:=fun e=>φ (JC e k d)→P e) e q (fun s h=>f s h) h
 ·exact g (Eq.mp (bH φ (gr q)) h)
def Bj(e:V)(k:Bool→β)(d:β):β:=if h:e.ctorIdx=1 then V.bool.elim (motive_1:=fun _=>β) e h k else d
theorem FJ{P:V→Prop}{k:Bool→β}(h:φ (Bj e k d))(f:∀b,φ (k b)→P (.bool b))(g:φ d→P e):P e:=by
 refine EM (e.ctorIdx=1) (fun q=>?_) fun q=>?_
 ·exact V.bool.elim (motive_1:=fun e=>φ (Bj e k d)→P e) e q (fun b h=>f b h) h
 ·exact g (Eq.mp (bH φ (gr q)) h)
def Bi(e:V)(k d:β):β:=if h:e.ctorIdx=0 then V.none.elim (motive_1:=fun _=>β) e h k else d
theorem FI{P:V→Prop}(h:φ (Bi e k d))(f:φ k→P .none)(g:φ d→P e):P e:=by
 refine EM (e.ctorIdx=0) (fun q=>?_) fun q=>?_
 ·exact V.none.elim (motive_1:=fun e=>φ (Bi e k d)→P e) e q f h
 ·exact g (Eq.mp (bH φ (gr q)) h)
end
noncomputable def ax:Nat:=16777216
structure St where
 vs:List (Str×V)
 os:List O
inductive Rs where
 |ok (v:V)
 |exc (c:Value)
inductive Fl where
 |next|brk|cont
 |ret (v:V)
 |exc (c:Value)
structure Cx where
 names:List (Str×NameKind)
 d:Nat
abbrev VP:=Option (V×Option Nat)
def am{α:Type}(o:Option α)(k:α→Prop):Prop:=match o with
 |some a=>k a
 |none=>False
theorem aE{α:Type}{o:Option α}{k:α→Prop}{P:Prop}(h:am o k)(f:∀a,o=some a→k a→P):P:=by
 induction o using Option.casesOn with
 |none=>exact h.elim
 |some a=>exact f a rfl h
def af(p:Prop)[Decidable p](k:Prop):Prop:=if p then k else False
theorem ae[Decidable p](h:af p k):p∧k:=by
 unfold af at h;refine EM p (fun c=>?_) fun c=>?_
 ·rw[if_pos c] at h;exact⟨c,h⟩
 ·rw[if_neg c] at h;exact h.elim
theorem aC[Decidable p](h:p)(q:k):af p k:=by unfold af;exact RW (aB h) q
abbrev bO:=List V→List (Str×V)→List O→(Rs→List O→Prop)→Prop
abbrev eI:=Addr→Option (Nat×bO)
structure bT where
 ev:Cx→Expr→St→(V→St→Prop)→Prop
 tr:Cx→Expr→St→(Bool→St→Prop)→Prop
 ex:Cx→List Stmt→St→(Fl→St→Prop)→Prop
 call:Nat→V→List V→List (Str×V)→List O→(Rs→List O→Prop)→Prop
 wh:Cx→Expr→List Stmt→List Stmt→St→(Fl→St→Prop)→Prop
 fo:Cx→Expr→List Stmt→V→Nat×Nat→Nat→St→(Fl→St→Prop)→Prop
 co:Cx→Option Expr→Expr→Expr→List Expr→V→Nat×Nat→Nat→St→List (V×V)→(List (V×V)→St→Prop)→Prop
 dr:Nat→Nat→Nat→List O→(List V→List O→Prop)→Prop
 sm:eI
noncomputable def N5:List Stmt:=PySem.Challenge.pw_ik0145_01.main.body
structure FD where
 params:Arguments
 body:List Stmt
 scope:Scope
noncomputable def fdOf(s:Stmt):Option FD:=if h:s.ctorIdx=0 then Stmt.FunctionDef.elim (motive_2:=fun _=>Option FD) s h fun _ a b _ _ _ s _ _ _=>some ⟨a,b,s⟩ else none
def ce(i:Nat):Option FD:=(N5[i]?).bind fdOf
def bg(i j:Nat):Option FD:=(N5[i]?).bind fun s=>if h:s.ctorIdx=2 then Stmt.ClassDef.elim (motive_2:=fun _=>Option FD) s h fun _ _ _ b _ _ _ _ _ _ _=>(b[j]?).bind fdOf else none
def pW:List (Addr×Option FD):=[
 (59,bg 6 1),(96,bg 8 0),(103,bg 8 1),(110,bg 8 2),(115,bg 8 3),(122,bg 8 4),(129,bg 8 5),(143,bg 8 7),(150,bg 8 8),
 (181,ce 12),(188,ce 14),(207,ce 18),
 (511,bg 24 1),(518,bg 24 2),(525,bg 24 3),(539,bg 24 5),(687,bg 24 25),(695,bg 24 26),
 (800,bg 34 0),(807,bg 34 1),(837,bg 34 5),(844,bg 34 6),(866,bg 34 9),(873,bg 34 10),
 (888,ce 35),(895,ce 36),(903,ce 39),(908,ce 41),(913,ce 42),(920,ce 43),(927,ce 44),(932,ce 45),(937,ce 46),(942,ce 47),(947,ce 48)]
def fnAt(a:Addr):Option FD:=(pW.lookup a).join
noncomputable def HH:List (Addr×List V):=[(96,[.none]),(511,[.str [],.str [10]]),(687,[.int (-1)]),(695,[.int (-1)]),(800,[.none,.none,.bool false,.bool false]),(888,[.bool false,.bool true])]
def dfltAt(a:Addr):List V:=(HH.lookup a).getD []
def gj:List (Addr×Tx×Addr):=[
 (63,tx "__init__",59),
 (160,tx "__init__",96),(160,tx "_get_nodeinfo",103),(160,tx "add",110),(160,tx "prepare",115),(160,tx "get_ready",122),(160,tx "is_active",129),(160,tx "done",143),(160,tx "_find_cycle",150),
 (741,tx "__init__",511),(741,tx "_StringIO__translated",518),(741,tx "_StringIO__check",525),(741,tx "_StringIO__line",539),(741,tx "read",687),(741,tx "readline",695),
 (876,tx "__init__",800),(876,tx "get_token",837),(876,tx "read_token",844),(876,tx "__iter__",866),(876,tx "__next__",873)]
def cR(C:Addr)(n:Tx):Option Addr:=(gj.find? fun x=>x.1==C&&x.2.1==n).map (·.2.2)
def nG(C:Addr)(n:Tx):Option Addr:=if C==876&&n==tx "punctuation_chars" then some 807 else none
def mB:List (Tx×Nat×Addr):=[(tx "node",0,64),(tx "npredecessors",1,65),(tx "successors",2,66)]
def fG(C:Addr)(n:Tx):Option Nat:=if(C==63)=true then(mB.lookup n).map (·.1) else none
def gk(C:Addr):List Tx:=
 if C==160 then["_node2info","_ready_nodes","_npassedout","_nfinished"].map tx
 else if C==741 then["_StringIO__newline","_StringIO__buf","_StringIO__pos"].map tx
 else if C==876 then["instream","infile","posix","eof","commenters","wordchars","whitespace","whitespace_split","quotes","escape","escapedquotes","state","pushback","lineno","debug","token","filestack","source","_punctuation_chars","_pushback_chars"].map tx
 else[]
noncomputable def yJ:List (Str×V):=
 ([(Str.ofString "deque",V.con (.type "collections.deque")),(Str.ofString "_NODE_OUT",V.int (-1)),(Str.ofString "_NODE_DONE",V.int (-2)),(Str.ofString "_NodeInfo",V.con (.ref 63)),(Str.ofString "CycleError",V.con (.ref 78)),(Str.ofString "TopologicalSorter",V.con (.ref 160))]:List (Str×V))++
 ([(Str.ofString "twin_re_1_fnmatch",V.con (.ref 169)),(Str.ofString "escape",V.con (.ref 181)),(Str.ofString "_translate",V.con (.ref 188)),(Str.ofString "_index",V.con (.ref 207)),(Str.ofString "BytesIO",V.con (.ref 494)),(Str.ofString "StringIO",V.con (.ref 741))]:List (Str×V))++
 ([(Str.ofString "shlex",V.con (.ref 876)),(Str.ofString "split",V.con (.ref 888)),(Str.ofString "join_shlex",V.con (.ref 895)),(Str.ofString "_find_unsafe",V.con (.ref 896)),(Str.ofString "quote",V.con (.ref 903)),(Str.ofString "_special_chars_map",V.con (.ref 171)),(Str.ofString "_law_pattern",V.con (.ref 908))]:List (Str×V))++
 ([(Str.ofString "_law_step",V.con (.ref 913)),(Str.ofString "_law_meant",V.con (.ref 920)),(Str.ofString "_law_taken",V.con (.ref 927)),(Str.ofString "_law_read",V.con (.ref 932)),(Str.ofString "_law_run",V.con (.ref 937)),(Str.ofString "_law_due",V.con (.ref 942))]:List (Str×V))++
 ([(Str.ofString "law",V.con (.ref 947)),(Str.ofString "len",V.con (.builtin "len")),(Str.ofString "isinstance",V.con (.builtin "isinstance")),(Str.ofString "iter",V.con (.builtin "iter")),(Str.ofString "range",V.con (.type "range")),(Str.ofString "list",V.con (.type "list"))]:List (Str×V))++
 ([(Str.ofString "tuple",V.con (.type "tuple")),(Str.ofString "set",V.con (.type "set")),(Str.ofString "bool",V.con (.type "bool")),(Str.ofString "int",V.con (.type "int")),(Str.ofString "type",V.con (.type "type")),(Str.ofString "str",V.con (.type "str")),(Str.ofString "object",V.con (.type "object"))]:List (Str×V))++
 ([(Str.ofString "StopIteration",V.con (.type "StopIteration"))]:List (Str×V))
noncomputable def Qt(p:Pos):Bool:=[(15,26),(46,28),(95,16),(96,18),(135,10),(966,97),(994,61),(959,47)].contains (p.line,p.col)
noncomputable def V.text?:V→Option Tx
 |.str s=>some s
 |_=>Option.none
noncomputable def V.int?:V→Option Int
 |.int i=>some i
 |_=>Option.none
noncomputable def V.bool?:V→Option Bool
 |.bool b=>some b
 |_=>Option.none
noncomputable def V.xJ:V→Option (List V)
 |.seq k xs=>if k then Option.none else some xs
 |_=>Option.none
noncomputable def V.Rg:V→Option String
 |.con v=>(match v with|.type s=>some s|_=>Option.none)
 |_=>Option.none
noncomputable def V.isNone:V→Bool
 |.none=>true
 |_=>false
noncomputable def gz(os:List O):V→Option Bool
 |.none=>some false
 |.bool b=>some b
 |.int i=>some (i != 0)
 |.str s=>some !s.isEmpty
 |.seq _ vs=>some !vs.isEmpty
 |.ref i=>match os[i]? with
  |some (.list vs)=>some !vs.isEmpty
  |some .AW=>some false
  |_=>Option.none
 |_=>Option.none
noncomputable def bL{α:Type}:List (Option α)→Option (List α)
 |[]=>some []
 |x::xs=>do
  let x ←x;let xs ←bL xs
  some (x::xs)
def RL(a b:V):Option Bool:=match a with
 |.none=>(match b with|.none=>some true|.str _=>some false|_=>none)
 |.bool x=>b.bool?.map fun y=>x==y
 |.int x=>b.int?.map fun y=>x==y
 |.str x=>(match b with|.none=>some false|.str y=>some (x==y)|_=>none)
 |_=>none
noncomputable def qT:Nat→V→V→Option Bool
 |0=>RL
 |n+1=>fun a b=>match a with
  |.seq k xs=>if k then none else b.xJ.bind fun ys=>if xs.length==ys.length then(bL (List.zipWith (qT n) xs ys)).map (·.all id) else some false
  |_=>RL a b
def NQ(a b:V):Option Bool:=qT 8 a b
def Sd(os:List O)(a b:V):Option Bool:=match b with
 |.none=>some a.isNone
 |.ref j=>(match a with
  |.ref i=>if i==j then some true else match os[i]? with
   |some (.attrs _)=>Option.none
   |some _=>some false
   |Option.none=>Option.none
  |.str _=>some false
  |_=>Option.none)
 |.str _=>(match a with|.ref _=>some false|_=>Option.none)
 |.con _=>b.Rg.bind fun y=>a.Rg.map fun x=>x==y
 |_=>Option.none
def Fd(os:List O)(x:V):V→Option Bool
 |.str y=>x.text?.bind fun x=>(match x with
  |[c]=>some (y.contains c)
  |_=>Option.none)
 |.seq _ ys=>(bL (ys.map fun y=>qT 8 y x)).map (·.any id)
 |.ref i=>match os[i]? with
  |some (.dict es _)=>x.text?.map fun x=>es.any fun e=>e.1==x
  |some (.set xs)=>x.text?.map fun x=>xs.any fun e=>e==x
  |_=>Option.none
 |_=>Option.none
def ltV(f:Int→Int→Bool)(a b:V):Option Bool:=a.int?.bind fun x=>b.int?.map fun y=>f x y
def bR(op:CmpOp)(a b:V)(os:List O):Option Bool:=match op with
 |.Eq=>NQ a b
 |.NotEq=>(NQ a b).map (!·)
 |.Is=>Sd os a b
 |.IsNot=>(Sd os a b).map (!·)
 |.In=>Fd os a b
 |.NotIn=>(Fd os a b).map (!·)
 |.Lt=>ltV (fun x y=>decide (x<y)) a b
 |.LtE=>ltV (fun x y=>decide (x≤y)) a b
 |.Gt=>ltV (fun x y=>decide (y<x)) a b
 |.GtE=>ltV (fun x y=>decide (y≤x)) a b
def intOp(f:Int→Int→Option Int)(a b:V):VP:=a.int?.bind fun x=>b.int?.bind fun y=>(f x y).map fun z=>(.int z,none)
def Fw(a b:V):VP:=match a with
 |.int x=>b.int?.map fun y=>(.int (x+y),none)
 |.str x=>b.text?.map fun y=>(.str (x++y),some (x++y).length)
 |.seq k x=>if k then none else b.xJ.map fun y=>(.seq false (x++y),some (x++y).length)
 |_=>none
def Ba(op:Operator)(a b:V):VP:=match op with
 |.Add=>Fw a b
 |.Sub=>intOp (fun x y=>some (x-y)) a b
 |.FloorDiv=>intOp (fun x y=>if 0<y∧y<1000000000 then some (Int.fdiv x y) else none) a b
 |.Mod=>intOp (fun x y=>if 0<y∧y<1000000000 then some (Int.fmod x y) else none) a b
 |.Pow=>intOp (fun x y=>if x=9∧0≤y∧y<4 then some (x^y.toNat) else none) a b
 |_=>none
def Fe:Option Nat→Prop
 |some n=>n≤ax
 |none=>True
def pr(o:Option Nat)(k:Prop):Prop:=match o with
 |some n=>n≤ax∧k
 |none=>k
theorem rY(h:pr o k):Fe o∧k:=by
 induction o using Option.casesOn with
 |some n=>exact h
 |none=>exact⟨trivial,h⟩
noncomputable def fS(i:Int)(n:Nat):Option Nat:=
 if 0≤i then(if i<(n:Int) then some i.toNat else none) else(if 0≤i+n then some (i+n).toNat else none)
def II(vs:List V)(i:V):Option V:=i.int?.bind fun i=>(fS i vs.length).bind fun k=>vs[k]?
def bn(os:List O)(o i:V):Option V:=match o with
 |.seq _ vs=>II vs i
 |.str s=>i.int?.bind fun i=>(fS i s.length).bind fun k=>(s[k]?).map fun c=>.str [c]
 |.ref r=>(match os[r]? with
  |some (.list vs)=>II vs i
  |some (.dict es _)=>i.text?.bind fun x=>(es.find? fun e=>e.1==x).map (·.2)
  |_=>none)
 |_=>none
noncomputable def cutAt(n:Nat)(dflt:Nat):V→Option Nat
 |.none=>some dflt
 |.int i=>some (max 0 (min (if i<0 then i+n else i) (n:Int))).toNat
 |_=>none
def vW{α:Type}(s:List α)(l u:V):Option (List α):=do
 let a ←cutAt s.length 0 l;let b ←cutAt s.length s.length u
 some ((s.drop a).take (b-a))
def ek(os:List O)(o l u:V):Option V:=match o with
 |.str s=>(vW s l u).map V.str
 |.seq k s=>if k then none else(vW s l u).map (V.seq false)
 |.ref r=>match os[r]? with
  |some (.list s)=>(vW s l u).map (V.seq false)
  |_=>none
 |_=>none
noncomputable def dJ(es:List (Tx×V))(x:Tx)(v:V):List (Tx×V):=match es with
 |[]=>[(x,v)]
 |e::r=>if e.1==x then(x,v)::r else e::dJ r x v
noncomputable def bX(x:Str)(v:V):List (Str×V)→List (Str×V)
 |[]=>[(x,v)]
 |e::r=>if e.1==x then(x,v)::r else e::bX x v r
noncomputable def listAt(os:List O)(l:Nat):Option (List V):=match os[l]? with
 |some (.list vs)=>some vs
 |_=>none
noncomputable def dictAt(os:List O)(l:Nat):Option (List (Tx×V)×Option Nat):=match os[l]? with
 |some (.dict es ep)=>some (es,ep)
 |_=>none
noncomputable def setAt(os:List O)(l:Nat):Option (List Tx):=match os[l]? with
 |some (.set xs)=>some xs
 |_=>none
def Qx:Option (Tx×V)→Option (Option V)
 |some e=>if e.1.length≤ax then some (some (.str e.1)) else none
 |Option.none=>some Option.none
noncomputable def tw(n:Nat×Nat)(d:List (Tx×V)×Option Nat)(x:Option (Option V)):Option (Option V):=if d.1.length==n.1&&d.2.map (·+1)==some n.2 then x else none
def itemAt(os:List O)(bj:V)(n:Nat×Nat)(k:Nat):Option (Option V):=match bj with
 |.seq _ vs=>some vs[k]?
 |.mj a b=>some (if a+(k:Int)<b then some (.int (a+(k:Int))) else none)
 |.ref i=>(match listAt os i with
  |some vs=>if n.2==0 then some vs[k]? else none
  |none=>(dictAt os i).bind fun d=>tw n d (Qx d.1[k]?))
 |.view i=>(dictAt os i).bind fun d=>tw n d (some ((d.1[k]?).map fun e=>e.2))
 |_=>none
def ze(os:List O)(i:Nat):Nat×Nat:=match dictAt os i with
 |some d=>(d.1.length,d.2.getD 0+1)
 |none=>(0,0)
def dD(os:List O)(bj:V):Nat×Nat:=match bj with
 |.ref i=>ze os i
 |.view i=>ze os i
 |_=>(0,0)
noncomputable def OC(os:List O):V→Option Nat
 |.str s=>some s.length
 |.seq _ s=>some s.length
 |.ref i=>match os[i]? with
  |some (.list s)=>some s.length
  |_=>Option.none
 |_=>Option.none
def ef(v:V)(k:Tx→Prop):Prop:=match v with
 |.str s=>k s
 |_=>False
def jv(v:V)(k:Nat→Prop):Prop:=match v with
 |.ref i=>k i
 |_=>False
def d8(args:List V)(k:V→List V→Prop):Prop:=match args with
 |v::r=>k v r
 |[]=>False
def gy(args:List V)(k:Prop):Prop:=match args with
 |[]=>k
 |_::_=>False
def A2(x:Tx)(k:Nat→Prop):Prop:=match x with
 |[c]=>k c
 |_=>False
abbrev cr:=List V→List O→(V→List O→Prop)→Prop
def OD:cr:=fun args os K=>d8 args fun v r=>gy r (am (OC os v) fun n=>K (.int n) os)
def yD:cr:=fun args os K=>d8 args fun a r=>d8 r fun b r=>gy r (ef a fun _=>af (b.Rg =some "str") (K (.bool true) os))
def I8:cr:=fun args os K=>d8 args fun v r=>gy r (jv v fun l=>am (listAt os l) fun _=>K (.ref os.length) (os++[.iter l 0]))
def gl(l:Nat)(x:V)(os:List O)(K:V→List O→Prop):Prop:=am (listAt os l) fun vs=>vs.length<ax∧K .none (os.set l (.list (vs++[x])))
def yY:cr:=fun args os K=>d8 args fun v r=>d8 r fun x r=>gy r (jv v fun l=>gl l x os K)
def Oo:cr:=fun args os K=>d8 args fun v r=>gy r (jv v fun l=>am (listAt os l) fun vs=>am vs.getLast? fun x=>K x (os.set l (.list vs.dropLast)))
def CB:cr:=fun args os K=>d8 args fun v r=>gy r (jv v fun l=>am (listAt os l) fun _=>K .none (os.set l (.list [])))
def OQ:cr:=fun args os K=>d8 args fun v r=>d8 r fun x r=>gy r (jv v fun l=>am (dictAt os l) fun d=>ef x fun x=>K (((d.1.find? fun e=>e.1==x).map (·.2)).getD .none) os)
def x2:cr:=fun args os K=>d8 args fun v r=>gy r (jv v fun l=>am (dictAt os l) fun _=>K (.view l) os)
def yc:cr:=fun args os K=>d8 args fun v r=>d8 r fun x r=>gy r (jv v fun l=>am (setAt os l) fun xs=>ef x fun x=>if xs.any (·==x)=true then K .none os else xs.length<5∧K .none (os.set l (.set (xs++[x]))))
def Je:cr:=fun args os K=>d8 args fun s r=>d8 r fun x r=>d8 r fun a r=>d8 r fun b r=>gy r (ef s fun s=>ef x fun x=>A2 x fun c=>am a.int? fun a=>am b.int? fun b=>(s.contains c=false∧0≤a∧0≤b)∧K (.int (-1)) os)
def ue:cr:=fun args os K=>d8 args fun s r=>d8 r fun x r=>d8 r fun y r=>gy r (ef s fun s=>ef x fun x=>A2 x fun c=>ef y fun _=>s.contains c=false∧K (.str s) os)
def Bv:cr:=fun args os K=>d8 args fun s r=>d8 r fun v r=>gy r (ef s fun s=>af (s=[])<|am v.xJ fun vs=>am (bL (vs.map V.text?)) fun l=>l.flatten.length≤ax∧K (.str l.flatten) os)
noncomputable def yj:List (String×cr):=[("len",OD),("isinstance",yD),("iter",I8),("list.append",yY),("list.pop",Oo),("list.clear",CB),("dict.get",OQ),("dict.values",x2),("set.add",yc),("str.find",Je),("str.replace",ue),("str.join",Bv)]
def BC(id:String):cr:=fun args os K=>am (yj.lookup id) fun f=>f args os K
def kF:List ((Nat×Tx)×String):=[((1,tx "append"),"list.append"),((1,tx "pop"),"list.pop"),((1,tx "clear"),"list.clear"),((2,tx "get"),"dict.get"),((2,tx "values"),"dict.values"),((3,tx "add"),"set.add"),((4,tx "find"),"str.find"),((4,tx "replace"),"str.replace"),((4,tx "join"),"str.join")]
def Ol(a b:Int)(os:List O)(K:V→List O→Prop):Prop:=((0≤a∧a≤16777216)∧(-16777216≤b∧b<16777216))∧K (.mj a b) os
noncomputable def cB(a b:Int):List V:=(List.range (b-a).toNat).map fun(k:Nat)=>.int (a+(k:Int))
def BR:cr:=fun args os K=>d8 args fun a r=>am a.int? fun a=>match r with
 |[]=>Ol 0 a os K
 |b::r=>gy r (am b.int? fun b=>Ol a b os K)
def BJ:cr:=fun args os K=>d8 args fun v r=>gy r (jv v fun l=>am (listAt os l) fun vs=>K (.seq true vs) os)
def Oj:cr:=fun args os K=>gy args (K (.ref os.length) (os++[.set []]))
def Ct:cr:=fun args os K=>gy args (K (.ref os.length) (os++[.AW]))
def Jl:cr:=fun args os K=>d8 args fun v r=>gy r (am (gz os v) fun b=>K (.bool b) os)
noncomputable def SG:V→Option String
 |.int _=>some "int"
 |.str _=>some "str"
 |_=>none
def IR:cr:=fun args os K=>d8 args fun v r=>gy r (am (SG v) fun T=>K (.con (.type T)) os)
def OI:cr:=fun args os K=>d8 args fun v r=>gy r (am v.int? fun i=>K (.int i) os)
noncomputable def BI:List (String×cr):=[("range",BR),("tuple",BJ),("set",Oj),("collections.deque",Ct),("bool",Jl),("type",IR),("int",OI)]
def Jk(T:String):cr:=fun args os K=>am (BI.lookup T) fun f=>f args os K
noncomputable def bK(fd:FD):List Str:=(fd.params.posonlyargs++fd.params.args).map (·.arg)
noncomputable def Bn(ps:List Str)(args:List V)(kws:List (Str×V))(ds:List V)(n:Str):Option V:=((ps.zip args++kws).lookup n).or (((ps.drop (ps.length-ds.length)).zip ds).lookup n)
noncomputable def sd(p:Arguments)(ps:List Str)(ds args:List V)(kws:List (Str×V)):Bool:=p.kwonlyargs.isEmpty&&p.kwarg.isNone&&decide ((kws.map (·.1)).Nodup)&&decide (ds.length≤ps.length)&&(p.vararg.isSome||decide (args.length≤ps.length))&&
 (kws.all fun k=>(p.args.map (·.arg)).contains k.1&&((ps.zip args).lookup k.1).isNone)&&((ps.take (ps.length-ds.length)).all fun m=>((ps.zip args++kws).lookup m).isSome)
noncomputable def Bo(n:Nat)(args:List V):Option Arg→List (Str×V)
 |some v=>[(v.arg,.seq true (args.drop n))]
 |none=>[]
def pZ(a:Addr)(fd:FD)(args:List V)(kws:List (Str×V)):Option (List (Str×V)):=
 if sd fd.params (bK fd) (dfltAt a) args kws=true then(bL ((bK fd).map (Bn (bK fd) args kws (dfltAt a)))).map fun vs=>(bK fd).zip vs++Bo (bK fd).length args fd.params.vararg else none
section
def E9{α:Type}(l:List α)(k:α→Prop):Prop:=match l with
 |[a]=>k a
 |_=>False
def JS{α:Type}(l:List α)(k:α→α→Prop):Prop:=match l with
 |[a,b]=>k a b
 |_=>False
def B2{α:Type}(l:List α)(k:α→List α→Prop):Prop:=match l with
 |a::r=>k a r
 |_=>False
def Oq(s:ExceptHandler)(k:Option Expr→Option Str→List Stmt→Prop):Prop:=match s with
 |.ExceptHandler a b c _=>k a b c
def Br(s:Stmt)(k:List Expr→Expr→Prop):Prop:=if h:s.ctorIdx=5 then Stmt.Assign.elim (motive_2:=fun _=>Prop) s h fun a b _=>k a b else False
def Bq(s:Stmt)(k:Prop):Prop:=if h:s.ctorIdx=26 then Stmt.Break.elim (motive_2:=fun _=>Prop) s h fun _=>k else False
def lg(e:Expr)(k:Str→Prop):Prop:=eName e (fun x _=>k x) False
def nJ(e:Expr)(k:Expr→List Expr→List Keyword→Pos→Prop):Prop:=tL e k False
def rV(e:Expr)(k:Expr→Str→Pos→Prop):Prop:=ny e k False
def I1(e:Expr)(k:Expr→Expr→Prop):Prop:=A9 e (fun o i _=>k o i) False
def Bp(e:Expr)(k:Arguments→Scope→Prop):Prop:=if h:e.ctorIdx=4 then Expr.Lambda.elim (motive_1:=fun _=>Prop) e h fun a _ c _=>k a c else False
def km{α:Type}(l:List α)(k:Prop):Prop:=match l with
 |[]=>k
 |_=>False
def BZ{α:Type}(l:Option α)(k:Prop):Prop:=match l with
 |none=>k
 |_=>False
def BY{α:Type}(l:Option α)(k:α→Prop):Prop:=match l with
 |some a=>k a
 |_=>False
@[elab_as_elim] theorem gi{α:Type}{M:List α→Prop}{l:List α}{k:Prop}(h:km l k)(f:k→M []):M l:=by
 induction l using List.casesOn with
 |nil=>exact f h
 |cons=>exact h.elim
@[elab_as_elim] theorem Do{α:Type}{M:List α→Prop}{l:List α}{k}(h:B2 l k)(f:∀a r,k a r→M (a::r)):M l:=by
 induction l using List.casesOn with
 |nil=>exact h.elim
 |cons a r=>exact f a r h
@[elab_as_elim] theorem wb{α:Type}{M:List α→Prop}{l:List α}{k}(h:E9 l k)(f:∀a,k a→M [a]):M l:=by
 induction l using List.casesOn with
 |nil=>exact h.elim
 |cons a r=>
  induction r using List.casesOn with
  |nil=>exact f a h
  |cons=>exact h.elim
@[elab_as_elim] theorem B1{α:Type}{M:List α→Prop}{l:List α}{k}(h:JS l k)(f:∀a b,k a b→M [a,b]):M l:=by
 induction l using List.casesOn with
 |nil=>exact h.elim
 |cons a r=>
  induction r using List.casesOn with
  |nil=>exact h.elim
  |cons b r=>
   induction r using List.casesOn with
   |nil=>exact f a b h
   |cons=>exact h.elim
@[elab_as_elim] theorem Dn{α:Type}{M:Option α→Prop}{l:Option α}{k:Prop}(h:BZ l k)(f:k→M none):M l:=by
 induction l using Option.casesOn with
 |none=>exact f h
 |some=>exact h.elim
@[elab_as_elim] theorem Dm{α:Type}{M:Option α→Prop}{l:Option α}{k}(h:BY l k)(f:∀a,k a→M (some a)):M l:=by
 induction l using Option.casesOn with
 |none=>exact h.elim
 |some a=>exact f a h
@[elab_as_elim] theorem Lj{M:ExceptHandler→Prop}{k}(h:Oq s k)(f:∀a b c p,k a b c→M (.ExceptHandler a b c p)):M s:=by
 induction s using ExceptHandler.casesOn with
 |ExceptHandler a b c p=>exact f a b c p h
@[elab_as_elim] theorem GA{M:Stmt→Prop}{k}(h:Br s k)(f:∀a b p,k a b→M (.Assign a b p)):M s:=by
 refine EM (s.ctorIdx=5) (fun q=>?_) fun q=>?_
 ·exact Stmt.Assign.elim (motive_2:=fun s=>Br s k→M s) s q (fun a b p h=>f a b p h) h
 ·exact((gr q).mp h).elim
@[elab_as_elim] theorem Gz{M:Stmt→Prop}{k}(h:Bq s k)(f:∀p,k→M (.Break p)):M s:=by
 refine EM (s.ctorIdx=26) (fun q=>?_) fun q=>?_
 ·exact Stmt.Break.elim (motive_2:=fun s=>Bq s k→M s) s q (fun p h=>f p h) h
 ·exact((gr q).mp h).elim
@[elab_as_elim] theorem i7{M:Expr→Prop}{k}(h:lg s k)(f:∀x p,k x→M (.Name x p)):M s:=Hx h f False.elim
@[elab_as_elim] theorem n4{M:Expr→Prop}{k}(h:nJ s k)(f:∀g a b p,k g a b p→M (.Call g a b p)):M s:=Hy h f False.elim
@[elab_as_elim] theorem uj{M:Expr→Prop}{k}(h:rV s k)(f:∀o m p,k o m p→M (.Attribute o m p)):M s:=Hz h f False.elim
@[elab_as_elim] theorem Gx{M:Expr→Prop}{k}(h:I1 s k)(f:∀o i p,k o i→M (.Subscript o i p)):M s:=Ms h f False.elim
@[elab_as_elim] theorem Gy{M:Expr→Prop}{k}(h:Bp s k)(f:∀a b c p,k a c→M (.Lambda a b c p)):M s:=by
 refine EM (s.ctorIdx=4) (fun q=>?_) fun q=>?_
 ·exact Expr.Lambda.elim (motive_1:=fun s=>Bp s k→M s) s q (fun a b c p h=>f a b c p h) h
 ·exact((gr q).mp h).elim
end
end
section
def cS(C:Cx)(x:Str)(st:St):Option V:=
 match C.names.lookup x with
 |some .globalImplicit=>yJ.lookup x
 |some .local=>st.vs.lookup x
 |some .cell=>st.vs.lookup x
 |some .free=>st.vs.lookup x
 |_=>none
def Cv:Const→Option V
 |.none=>some .none
 |.bool b=>some (.bool b)
 |.int i=>some (.int i)
 |.str s=>if s.cps.toList.length≤ax then some (.str s.cps.toList) else none
 |_=>none
noncomputable def isStarred(e:Expr):Bool:=e.ctorIdx==22
def v6(e:Expr):Expr:=QO e (fun e _=>e) e
noncomputable def gO(e:Expr):Bool:=e.ctorIdx==26
def JP(v:V)(k:List V→Prop):Prop:=match v with
 |.seq _ vs=>k vs
 |_=>False
theorem kt{k:Tx→Prop}{P:V→Prop}(h:ef v k)(f:∀s,k s→P (.str s)):P v:=by
 induction v using V.casesOn<;>first|exact f _ h|exact h.elim
theorem rP{k}{P:V→Prop}(h:JP v k)(f:∀b vs,k vs→P (.seq b vs)):P v:=by
 induction v using V.casesOn<;>first|exact f _ _ h|exact h.elim
theorem rS{k:Nat→Prop}{P:V→Prop}(h:jv v k)(f:∀i,k i→P (.ref i)):P v:=by
 induction v using V.casesOn<;>first|exact f _ h|exact h.elim
def ib:List Addr:=[63,160,741,876]++pW.map (·.1)
def nN(os:List O)(v:V):Bool:=JF v (fun c=>qW c (fun a=>ib.contains a) true)<|JD v (fun i=>(os[i]?).any fun o=>o.ctorIdx==8) false
noncomputable def callArgs(e:Expr):List Expr:=if h:e.ctorIdx=16 then Expr.Call.elim (motive_1:=fun _=>List Expr) e h fun _ as _ _=>as else[]
def iZ(e:Expr):Bool:=e.ctorIdx==16&&(callArgs e).isEmpty
def hX(args:List Expr)(kws:List Keyword):Bool:=(kws.all fun k=>k.arg.isSome)&&(!args.any isStarred||kws.isEmpty)&&(match args with
 |e::_::_=>!isStarred e
 |_=>true)
section
variable(F:bT)(C:Cx)
def zl:List Expr→St→(List V→St→Prop)→Prop
 |[],st,Q=>Q [] st
 |e::r,st,Q=>af (isStarred e=false)<|F.ev C e st fun v st=>zl r st fun vs st=>Q (v::vs) st
def M0(b:Bool)(v:V)(k:List V→Prop):Prop:=match b with
 |true=>JP v k
 |false=>k [v]
def iy:List Expr→St→(List V→St→Prop)→Prop
 |[],st,Q=>Q [] st
 |e::r,st,Q=>F.ev C (v6 e) st fun v st=>M0 (isStarred e) v fun us=>iy r st fun vs st=>Q (us++vs) st
def th:List Keyword→St→(List (Str×V)→St→Prop)→Prop
 |[],st,Q=>Q [] st
 |⟨a,e,_⟩::r,st,Q=>am a fun n=>F.ev C e st fun v st=>th r st fun vs st=>Q ((n,v)::vs) st
noncomputable def iQ:BoolOp→Bool
 |.And=>false
 |.Or=>true
def xU(op:BoolOp):List Expr→St→(V→St→Prop)→Prop
 |[],_,_=>False
 |e::r,st,Q=>F.ev C e st fun v st=>match r with
  |[]=>Q v st
  |_::_=>am (gz st.os v) fun t=>if t=iQ op then Q v st else xU op r st Q
def dA(op:BoolOp):List Expr→St→(Bool→St→Prop)→Prop
 |[],st,Q=>Q (!iQ op) st
 |e::r,st,Q=>F.tr C e st fun t st=>if t=iQ op then Q (iQ op) st else dA op r st Q
noncomputable def xI(e:Expr):Expr:=if h:e.ctorIdx=17 then Expr.FormattedValue.elim (motive_1:=fun _=>Expr) e h fun v c f _=>if c=-1∧f.isNone=true then v else e else e
def v9:List Expr→Tx→St→(Tx→St→Prop)→Prop
 |[],ai,st,Q=>Q ai st
 |e::r,ai,st,Q=>F.ev C (xI e) st fun v st=>ef v fun s=>(ai++s).length≤ax∧v9 r (ai++s) st Q
def zd:Option Expr→St→(V→St→Prop)→Prop
 |none,st,Q=>Q .none st
 |some e,st,Q=>F.ev C e st Q
end
noncomputable def fieldOf(es:List (Tx×V))(n:Tx):Option V:=(es.find? fun e=>e.1==n).map (·.2)
def iA(K:V→List O→Prop)(r:Rs)(os:List O):Prop:=match r with
 |.ok v=>K v os
 |.exc _=>False
noncomputable def kB(os:List O)(d:Nat):Option (List (Tx×V)):=match os[d]? with
 |some (.attrs es)=>some es
 |_=>none
def Hu(os:List O)(d:Nat)(n:Tx):Option V:=(kB os d).bind fun es=>fieldOf es n
def kq(F:bT)(d:Nat)(o:V)(n:Tx)(os:List O)(K:V→List O→Prop):Prop:=jv o fun i=>am os[i]? fun ob=>match ob with
 |.inst Cl dd=>(match nG Cl n with
  |some g=>F.call d (.con (.ref g)) [.ref i] [] os (iA K)
  |none=>af ((gk Cl).contains n=true)<|am (Hu os dd n) fun v=>K v os)
 |.slots Cl _ vs=>am (fG Cl n) fun k=>am (vs[k]?).join fun v=>K v os
 |.list _=>af (n=tx "append")<|K (.ref os.length) (os++[.wrap "list.append" i])
 |.iter _ _=>af (n=tx "__next__")<|K (.ref os.length) (os++[.wrap "list_iterator.__next__" i])
 |_=>False
def i0(o:V)(n:Tx)(v:V)(os:List O)(K:List O→Prop):Prop:=jv o fun i=>am os[i]? fun ob=>match ob with
 |.inst Cl d=>af (nG Cl n=none)<|am (kB os d) fun es=>af ((gk Cl).contains n=true∧es.length<ax)<|K (os.set d (.attrs (dJ es n v)))
 |.slots Cl d vs=>am (fG Cl n) fun k=>af (k<vs.length)<|K (os.set i (.slots Cl d (vs.set k (some v))))
 |_=>False
noncomputable def EY(es:List (Tx×V))(x:Tx)(ep:Option Nat):Option Nat:=if es.any fun e=>e.1==x then ep else ep.map (·+1)
def gM(o i v:V)(os:List O)(K:List O→Prop):Prop:=jv o fun r=>ef i fun x=>am (dictAt os r) fun d=>d.1.length<ax∧K (os.set r (.dict (dJ d.1 x v) (EY d.1 x d.2)))
inductive MK where
 |own (f:Addr)
 |prim (k:Nat) (id:String)
noncomputable def fI:List Addr:=[160,741,876]
noncomputable def dE(os:List O)(r:V):Option Nat:=match r with
 |.ref i=>match os[i]? with
  |some (.list _)=>some 1
  |some (.dict _ _)=>some 2
  |some (.set _)=>some 3
  |_=>none
 |.str _=>some 4
 |_=>none
noncomputable def i3(os:List O)(i:Nat):Option (Addr×Nat):=match os[i]? with
 |some (.inst Cl d)=>some (Cl,d)
 |_=>none
def SY(os:List O)(x:Addr×Nat)(n:Tx):Option MK:=(cR x.1 n).bind fun f=>(kB os x.2).bind fun es=>if(fieldOf es n).isNone&&fI.contains x.1 then some (.own f) else none
def rT(os:List O)(r:V)(n:Tx):Option MK:=(dE os r).bind fun k=>(kF.lookup (k,n)).map fun id=>.prim k id
def nt(os:List O)(r:V)(n:Tx):Option MK:=match r with
 |.ref i=>(match i3 os i with
  |some x=>SY os x n
  |none=>rT os (.ref i) n)
 |r=>rT os r n
def Bs(F:bT)(d:Nat)(k:MK)(r:V)(args:List V)(kws:List (Str×V))(os:List O)(K:Rs→List O→Prop):Prop:=match k with
 |.own f=>F.call d (.con (.ref f)) (r::args) kws os K
 |.prim k id=>af (dE os r=some k)<|BC id (r::args) os fun v os=>K (.ok v) os
def lx(k:MK)(args:List Expr)(kws:List Keyword):Bool:=match k with
 |.own _=>true
 |.prim _ _=>kws.isEmpty&&!args.any isStarred
def eq(s:Tx):Bool:=s==tx "*"||s==tx "#"||s==tx "!a#"
noncomputable def xK(ps:Arguments)(sc:Scope):Bool:=ps.defaults.isEmpty&&ps.kw_defaults.isEmpty&&sc.names.all fun x=>x.2 != .free
noncomputable def uz(l:List Expr):Bool:=match l with
 |e::_=>e.ctorIdx==4
 |_=>false
noncomputable def xL:Option V→Bool
 |some (.con (.ref a))=>a==169
 |_=>false
noncomputable def subAt(C:Cx):Bool:=(C.names.lookup (Str.ofString ".0")).isNone&&C.names.lookup (Str.ofString "QUESTION_MARK")==some .local
def gS(F:bT)(C:Cx)(o:Expr)(m:Str)(ap:Pos)(args:List Expr)(kws:List Keyword)(pos:Pos)(st:St)(Q:V→St→Prop):Prop:=
 if uz args=true then lg o fun x=>JS args fun l e=>Bp l fun ps sc=>km kws<|af ((xK ps sc=true∧isStarred e=false)∧xL (cS C x st)=true∧m.cps.toList=tx "sub"∧ap.endLine=pos.line∧subAt C=true)<|F.ev C e st fun v st=>ef v fun s=>eq s=true∧Q (.str s) st
 else af (iZ o=false∧hX args kws=true∧(ap.endLine==pos.line)=true∧args.length+kws.length<29)<|F.ev C o st fun r st=>am (nt st.os r m.cps.toList) fun k=>
  af (lx k args kws=true)<|iy F C args st fun vs st=>th F C kws st fun ks st=>Bs F C.d k r vs ks st.os (iA fun v os=>Q v ⟨st.vs,os⟩)
def qK(F:bT)(C:Cx)(x:Str)(np:Pos)(args:List Expr)(kws:List Keyword)(st:St)(Q:V→St→Prop):Prop:=af (hX args kws=true)<|F.ev C (.Name x np) st fun r st=>
 iy F C args st fun vs st=>th F C kws st fun ks st=>af (nN st.os r=true)<|F.call C.d r vs ks st.os (iA fun v os=>Q v ⟨st.vs,os⟩)
noncomputable def fA(C:Cx)(x:Str):Bool:=match C.names.lookup x with
 |some .local=>true
 |some .cell=>true
 |_=>false
def kJ(F:bT)(C:Cx)(t:Expr)(v:V)(st:St)(Q:St→Prop):Prop:=
 eName t (fun x _=>af (fA C x=true)<|Q ⟨bX x v st.vs,st.os⟩)<|
 ny t (fun o n _=>F.ev C o st fun ov st=>i0 ov n.cps.toList v st.os fun os=>Q ⟨st.vs,os⟩)<|
 A9 t (fun o i _=>F.ev C o st fun ov st=>F.ev C i st fun iv st=>gM ov iv v st.os fun os=>Q ⟨st.vs,os⟩) False
def gQ(F:bT)(C:Cx):List Expr→List V→St→(St→Prop)→Prop
 |[],_,st,Q=>Q st
 |t::ts,vs,st,Q=>match vs with
  |v::vs=>kJ F C t v st fun st=>gQ F C ts vs st Q
  |[]=>False
def aI(F:bT)(C:Cx)(t:Expr)(v:V)(st:St)(Q:St→Prop):Prop:=OU t (fun ts _ _=>JP v fun vs=>af (ts.length=vs.length∧C.d≠0∧ts.any isStarred=false)<|gQ F C ts vs st Q) (kJ F C t v st Q)
def se(p:Pos)(vs:List V)(st:St)(Q:V→St→Prop):Prop:=af (vs.length≤ax)<|if Qt p=true then Q (.ref st.os.length) ⟨st.vs,st.os++[.list vs]⟩ else Q (.seq false vs) st
noncomputable def lh(C:Cx)(st:St)(n:Str):Option V:=if C.names.lookup n=some .cell∨C.names.lookup n=some .free then st.vs.lookup n else none
noncomputable def eu(C:Cx)(st:St):List (Str×NameKind)→Option (List (Str×V))
 |[]=>some []
 |(n,k)::r=>if k==.free then(lh C st n).bind fun v=>(eu C st r).map fun l=>(n,v)::l else eu C st r
noncomputable def nO(e:Expr):Bool:=e.ctorIdx==7
def wv(sc:Scope)(it:Expr)(a:Int):Bool:=sc.kind==.function&&!nO it&&a==0&&decide ((sc.names.map (·.1)).Nodup)&&(sc.names.lookup (Str.ofString ".0")).isSome&&sc.names.all fun x=>!(x.1==Str.ofString "__debug__")&&!(x.1==Str.ofString "__classdict__")
noncomputable def sD(C:Cx)(n:Str):Bool:=match C.names.lookup n with
 |some .cell=>true
 |some .free=>true
 |_=>false
def MI(C:Cx)(sc:Scope):Bool:=sc.names.all fun x=>x.2 != .free||sD C x.1
def xS(F:bT)(C:Cx)(ke:Option Expr)(elt:Expr)(g:Comprehension)(sc:Scope)(st:St)(k:List (V×V)→St→Prop):Prop:=match g with
 |⟨t,it,ifs,a⟩=>af (wv sc it a=true∧MI C sc=true)<|F.ev C it st fun bj st=>af ((itemAt st.os bj (dD st.os bj) 0).isSome=true)<|am (eu C st sc.names) fun cs=>F.co ⟨sc.names,C.d⟩ ke elt t ifs bj (dD st.os bj) 0 ⟨cs,st.os⟩ [] fun ai st'=>k ai ⟨st.vs,st'.os⟩
def rH(ai:List (V×V)):Option (List (Tx×V)):=ai.foldlM (fun es kv=>kv.1.text?.map fun x=>dJ es x kv.2) []
def Fk(ke:Option Expr)(pos:Pos)(ai:List (V×V))(st:St)(Q:V→St→Prop):Prop:=match ke with
 |none=>se pos (ai.map (·.2)) st Q
 |some _=>am (rH ai) fun es=>ai.length≤ax∧Q (.ref st.os.length) ⟨st.vs,st.os++[.dict es none]⟩
def ba(F:bT)(C:Cx)(ke:Option Expr)(elt:Expr)(st:St)(ai:List (V×V))(k:St→List (V×V)→Prop):Prop:=zd F C ke st fun kv st=>F.ev C elt st fun x st=>af ((ke.isNone||kv.text?.isSome)=true)<|ai.length<ax∧k st (ai++[(kv,x)])
def Uz(F:bT)(C:Cx)(ke:Option Expr)(elt t:Expr)(ifs:List Expr)(bj:V)(n:Nat×Nat)(k:Nat)(st:St)(ai:List (V×V))(Q:List (V×V)→St→Prop):Prop:=af (C.d≠0)<|am (itemAt st.os bj n k) fun r=>match r with
 |none=>Q ai st
 |some v=>aI F C t v st fun st=>dA F C .And ifs st fun ok st=>match ok with
  |true=>ba F C ke elt st ai fun st ai=>F.co C ke elt t ifs bj n (k+1) st ai Q
  |false=>F.co C ke elt t ifs bj n (k+1) st ai Q
def og(F:bT)(C:Cx)(l:Expr)(ops:List CmpOp)(rs:List Expr)(st:St)(k:Bool→St→Prop):Prop:=match ops,rs with
 |[op],[r]=>af (behindInMarks op r=false)<|F.ev C l st fun a st=>F.ev C r st fun b st=>am (bR op a b st.os) fun c=>k c st
 |_,_=>False
def ua(F:bT)(C:Cx)(o:Expr)(l u p:Option Expr)(st:St)(Q:V→St→Prop):Prop:=af (p.isNone=true)<|F.ev C o st fun r st=>zd F C l st fun a st=>zd F C u st fun b st=>am (ek st.os r a b) fun v=>Q v st
def mH(F:bT)(C:Cx)(o i:Expr)(st:St)(Q:V→St→Prop):Prop:=F.ev C o st fun r st=>F.ev C i st fun k st=>am (bn st.os r k) fun v=>Q v st
def wF(F:bT)(C:Cx)(o i:Expr)(st:St)(Q:V→St→Prop):Prop:=Mt i (fun l u p _=>ua F C o l u p st Q) (mH F C o i st Q)
def Av(F:bT)(C:Cx)(f:Expr)(args:List Expr)(kws:List Keyword)(pos:Pos)(st:St)(Q:V→St→Prop):Prop:=eName f (fun x np=>qK F C x np args kws st Q)<|ny f (fun o m ap=>gS F C o m ap args kws pos st Q) False
def B5(F:bT)(C:Cx)(t e:Expr)(st:St)(Q:V→St→Prop):Prop:=eName t (fun x _=>F.ev C e st fun v st=>af (fA C x=true)<|Q v ⟨bX x v st.vs,st.os⟩) False
def unaryW(F:bT)(C:Cx)(op:UnaryOp)(e:Expr)(st:St)(Q:V→St→Prop):Prop:=match op with
 |.USub=>F.ev C e st fun v st=>am v.int? fun i=>Q (.int (-i)) st
 |.Not=>F.ev C e st fun v st=>am (gz st.os v) fun t=>Q (.bool !t) st
 |_=>False
def Fi(F:bT)(C:Cx)(ke:Option Expr)(elt:Expr)(gens:List Comprehension)(sc:Scope)(pos:Pos)(st:St)(Q:V→St→Prop):Prop:=match gens with
 |[g]=>xS F C ke elt g sc st fun ai st=>Fk ke pos ai st Q
 |_=>False
def yC(F:bT)(C:Cx)(ps:List Expr)(st:St)(Q:V→St→Prop):Prop:=match ps with
 |[]=>False
 |[e]=>F.ev C e st Q
 |ps=>v9 F C ps [] st fun s st=>Q (.str s) st
def Jx(F:bT)(C:Cx)(e:Expr)(st:St)(Q:V→St→Prop):Prop:=match e with
 |.Constant c _ _=>am (Cv c) fun v=>Q v st
 |.Name x _=>am (cS C x st) fun v=>Q v st
 |.BoolOp op es _=>xU F C op es st Q
 |.NamedExpr t e _=>B5 F C t e st Q
 |.BinOp l op r _=>F.ev C l st fun a st=>F.ev C r st fun b st=>am (Ba op a b) fun z=>pr z.2 (Q z.1 st)
 |.UnaryOp op e _=>unaryW F C op e st Q
 |.IfExp t a b _=>F.tr C t st fun c st=>if c=true then F.ev C a st Q else F.ev C b st Q
 |.List es pos=>zl F C es st fun vs st=>se pos vs st Q
 |.Tuple es _ _=>zl F C es st fun vs st=>af (vs.length≤ax)<|Q (.seq true vs) st
 |.Dict ks vs _=>af (ks.isEmpty=true∧vs.isEmpty=true)<|Q (.ref st.os.length) ⟨st.vs,st.os++[.dict [] (some 0)]⟩
 |.Compare l ops rs _=>og F C l ops rs st fun c st=>Q (.bool c) st
 |.Call f args kws pos=>Av F C f args kws pos st Q
 |.Attribute o m _=>af (iZ o=false)<|F.ev C o st fun r st=>kq F C.d r m.cps.toList st.os fun v os=>Q v ⟨st.vs,os⟩
 |.Subscript o i _=>wF F C o i st Q
 |.JoinedStr ps _=>yC F C ps st Q
 |.ListComp elt gens sc pos=>Fi F C none elt gens sc pos st Q
 |.DictComp ke elt gens sc pos=>Fi F C (some ke) elt gens sc pos st Q
 |_=>False
def JH(F:bT)(C:Cx)(e:Expr)(st:St)(Q:Bool→St→Prop):Prop:=F.ev C e st fun v st=>am (gz st.os v) fun t=>Q t st
def S4(F:bT)(C:Cx)(op:UnaryOp)(x e:Expr)(st:St)(Q:Bool→St→Prop):Prop:=match op with
 |.Not=>F.tr C x st fun t st=>Q (!t) st
 |_=>JH F C e st Q
def TO(F:bT)(C:Cx)(e:Expr)(st:St)(Q:Bool→St→Prop):Prop:=match e with
 |.UnaryOp op x _=>S4 F C op x e st Q
 |.BoolOp op es _=>dA F C op es st Q
 |.IfExp _ _ _ _=>False
 |.Compare l ops rs _=>og F C l ops rs st Q
 |e=>JH F C e st Q
def bJ(k:St→Prop)(Q:Fl→St→Prop)(f:Fl)(st:St):Prop:=match f with
 |.next=>k st
 |.cont=>k st
 |.brk=>Q .next st
 |.ret v=>Q (.ret v) st
 |.exc _=>False
def wd(Q:Fl→St→Prop)(f:Fl)(st:St):Prop:=match f with
 |.exc _=>False
 |f=>Q f st
def Ut(F:bT)(C:Cx)(t:Expr)(body:List Stmt)(bj:V)(n:Nat×Nat)(k:Nat)(st:St)(Q:Fl→St→Prop):Prop:=af (C.d≠0)<|am (itemAt st.os bj n k) fun r=>match r with
 |none=>Q .next st
 |some v=>aI F C t v st fun st=>F.ex C body st (bJ (fun st=>F.fo C t body bj n (k+1) st Q) Q)
def AF(F:bT)(C:Cx)(t:Expr)(body orelse:List Stmt)(st:St)(Q:Fl→St→Prop):Prop:=F.tr C t st fun c st=>if c=true then F.ex C body st (bJ (fun st=>F.wh C t body orelse st Q) Q) else F.ex C orelse st (wd Q)
noncomputable def delD(es:List (Tx×V))(x:Tx):Option (List (Tx×V)):=if es.any (fun e=>e.1==x) then some (es.filter fun e=>!(e.1==x)) else none
def DX(o i:V)(os:List O)(K:List O→Prop):Prop:=jv o fun r=>ef i fun x=>am (dictAt os r) fun d=>am (delD d.1 x) fun es=>K (os.set r (.dict es none))
def yR(F:bT)(C:Cx)(ts:List Expr)(st:St)(Q:Fl→St→Prop):Prop:=match ts with
 |[t]=>A9 t (fun o i _=>F.ev C o st fun r st=>F.ev C i st fun k st=>DX r k st.os fun os=>Q .next ⟨st.vs,os⟩) False
 |_=>False
noncomputable def wi(c:Value):Bool:=c==.type "StopIteration"
noncomputable def QA(c:Value):Bool:=c==.ref 78
def Jf(c:Value):Bool:=wi c||QA c
noncomputable def tO:Option V→Option Value
 |some (.con c)=>some c
 |_=>none
def BS(F:bT)(C:Cx)(e:Expr)(st:St)(Q:Fl→St→Prop):Prop:=
 eName e (fun x _=>af (tO (cS C x st)=some (.type "StopIteration"))<|Q (.exc (.type "StopIteration")) st)<|
 tL e (fun g args kws _=>eName g (fun x _=>af (tO (cS C x st)=some (.ref 78)∧kws.isEmpty=true∧args.any isStarred=false∧hX args []=true)<|iy F C args st fun vs st=>af (vs.length≤ax)<|Q (.exc (.ref 78)) st) False) False
def nC(os:List O)(v:V)(K:Nat→Nat→Nat→Prop):Prop:=jv v fun w=>am os[w]? fun ob=>match ob with
 |.wrap id t=>af (id="list_iterator.__next__")<|am os[t]? fun ob=>(match ob with
  |.iter l j=>K t l j
  |_=>False)
 |_=>False
def mK(F:bT)(C:Cx)(cx:Str)(hb:List Stmt)(c:Value)(st:St)(Q:Fl→St→Prop):Prop:=af (Jf c=true∧tO (cS C cx st)=some c)<|F.ex ⟨C.names,0⟩ hb st (wd Q)
def Qq(F:bT)(C:Cx)(x cx:Str)(o i:Expr)(hb:List Stmt)(st:St)(Q:Fl→St→Prop):Prop:=af (gO i=false)<|mH F C o i st fun v st=>nC st.os v fun t l j=>am (listAt st.os l) fun vs=>match vs[j]? with
 |some v=>af (fA C x=true)<|Q .brk ⟨bX x v st.vs,st.os.set t (.iter l (j+1))⟩
 |none=>mK F C cx hb (.type "StopIteration") ⟨st.vs,st.os.set t .dead⟩ Q
def wx(F:bT)(C:Cx)(cx:Str)(hb:List Stmt)(Q:Fl→St→Prop)(f:Fl)(st:St):Prop:=match f with
 |.exc c=>mK F C cx hb c st Q
 |f=>Q f st
noncomputable def I0:List Stmt→Bool
 |[_]=>true
 |_=>false
def N2(F:bT)(C:Cx)(body:List Stmt)(hs:List ExceptHandler)(os fs:List Stmt)(st:St)(Q:Fl→St→Prop):Prop:=km os<|km fs<|E9 hs fun hd=>Oq hd fun ty nm hb=>BY ty fun te=>lg te fun cx=>BZ nm<|B2 hb fun b₀ hb=>af (C.d≠0∧C.names.lookup (Str.ofString ".0")=none)<|
 if I0 body=true then F.ex C body st (wx F C cx (b₀::hb) Q)
 else JS body fun a b=>Br a fun ts e=>E9 ts fun t=>lg t fun x=>nJ e fun g as ks _=>I1 g fun o i=>km as<|km ks<|Bq b<|Qq F C x cx o i (b₀::hb) st Q
noncomputable def fH(e:Expr):Bool:=Nat.ble 8 e.ctorIdx&&Nat.ble e.ctorIdx 10
def Bd(op:Operator)(a b:V):VP:=match op with
 |.Add=>(match a with
  |.int x=>b.int?.map fun y=>(.int (x+y),none)
  |.str x=>b.text?.map fun y=>(.str (x++y),some (x++y).length)
  |_=>none)
 |.Sub=>(match a with
  |.int x=>b.int?.map fun y=>(.int (x-y),none)
  |_=>none)
 |_=>none
def OW(F:bT)(C:Cx)(t:Expr)(op:Operator)(e:Expr)(st:St)(Q:Fl→St→Prop):Prop:=ny t (fun o n _=>F.ev C o st fun r st=>kq F C.d r n.cps.toList st.os fun old os=>F.ev C e ⟨st.vs,os⟩ fun v st=>am (Bd op old v) fun z=>pr z.2 (i0 r n.cps.toList z.1 st.os fun os=>Q .next ⟨st.vs,os⟩)) False
def rU(e:Expr):Bool:=OU e (fun vs _ _=>!(vs.all (constantsAlone 8))||vs.all (foldedForSure 8)) true
noncomputable def y9(t:Expr):Bool:=t.ctorIdx==23||t.ctorIdx==21
def nA(t e:Expr):Bool:=y9 t||t.ctorIdx==20||(t.ctorIdx==25&&rU e)
def qN(F:bT)(C:Cx)(ts:List Expr)(e:Expr)(st:St)(Q:Fl→St→Prop):Prop:=match ts with
 |[t]=>af (nA t e=true)<|F.ev C e st fun v st=>aI F C t v st fun st=>Q .next st
 |[t,u]=>af ((y9 t&&y9 u)=true)<|F.ev C e st fun v st=>aI F C t v st fun st=>aI F C u v st fun st=>Q .next st
 |_=>False
def yE(e:Expr):Bool:=tL e (fun f a k _=>ny f (fun _ m _=>a.isEmpty&&k.isEmpty&&m==Str.ofString "prepare") false) false
noncomputable def Fj:Rs→Fl
 |.ok _=>.next
 |.exc c=>.exc c
def tK(F:bT)(C:Cx)(e:Expr)(st:St)(Q:Fl→St→Prop):Prop:=
 if yE e=true then nJ e fun f as ks pos=>rV f fun o m ap=>km as<|km ks<|af (iZ o=false∧(ap.endLine==pos.line)=true)<|F.ev C o st fun r st=>am (nt st.os r m.cps.toList) fun k=>Bs F C.d k r [] [] st.os fun rs os=>Q (Fj rs) ⟨st.vs,os⟩
 else af (fH e=false)<|F.ev C e st fun _ st=>Q .next st
def tj(F:bT)(C:Cx)(s:Stmt)(st:St)(Q:Fl→St→Prop):Prop:=match s with
 |.Expr e _=>tK F C e st Q
 |.Pass _=>Q .next st
 |.Break _=>Q .brk st
 |.Continue _=>Q .cont st
 |.Return e _=>zd F C e st fun v st=>Q (.ret v) st
 |.Assign ts e _=>qN F C ts e st Q
 |.AugAssign t op e _=>OW F C t op e st Q
 |.If t b o _=>F.tr C t st fun c st=>if c=true then F.ex C b st Q else F.ex C o st Q
 |.While t b o _=>F.wh C t b o st Q
 |.For t it b o _=>af (o.isEmpty=true∧nO it=false)<|F.ev C it st fun bj st=>af ((itemAt st.os bj (dD st.os bj) 0).isSome=true)<|F.fo C t b bj (dD st.os bj) 0 st Q
 |.Delete ts _=>yR F C ts st Q
 |.Assert t _ _=>F.tr C t st fun c st=>af (c=true)<|Q .next st
 |.Raise e c _=>af (c.isNone=true∧C.d≠0)<|am e fun e=>BS F C e st Q
 |.Try body hs os fs _=>N2 F C body hs os fs st Q
 |_=>False
def bD(k:St→Prop)(Q:Fl→St→Prop)(f:Fl)(st:St):Prop:=match f with
 |.next=>k st
 |f=>Q f st
def AU(F:bT)(C:Cx):List Stmt→St→(Fl→St→Prop)→Prop
 |[],st,Q=>Q .next st
 |s::r,st,Q=>tj F C s st (bD (fun st=>AU F C r st Q) Q)
def initK(i:Nat)(K:Rs→List O→Prop)(r:Rs)(os:List O):Prop:=match r with
 |.ok v=>af (v.isNone=true)<|K (.ok (.ref i)) os
 |.exc _=>False
def tI(F:bT)(d i:Nat)(Cl:Addr)(args:List V)(kws:List (Str×V))(os:List O)(K:Rs→List O→Prop):Prop:=match d with
 |0=>False
 |d+1=>am (cR Cl (tx "__init__")) fun f=>F.call d (.con (.ref f)) (.ref i::args) kws os (initK i K)
def Bt(F:bT)(d:Nat)(a:Addr)(args:List V)(kws:List (Str×V))(os:List O)(K:Rs→List O→Prop):Prop:=
 if a=63 then tI F d (os.length+1) 63 args kws (os++[.attrs [],.slots 63 os.length [none,none,none]]) K
 else if a=160∨a=876 then tI F d (os.length+1) a args kws (os++[.attrs [],.inst a os.length]) K
 else af (a=741∧kws.isEmpty=true∧args.length<29∧2≤d)<|tI F d (os.length+1) 741 args [] (os++[.attrs [],.inst 741 os.length]) K
def aN(K:Rs→List O→Prop)(f:Fl)(st:St):Prop:=match f with
 |.next=>K (.ok .none) st.os
 |.ret v=>K (.ok v) st.os
 |.exc c=>K (.exc c) st.os
 |_=>False
def Uu(F:bT)(d:Nat)(fd:FD)(a:Addr)(args:List V)(kws:List (Str×V))(os:List O)(K:Rs→List O→Prop):Prop:=match d with
 |0=>False
 |d+1=>am (pZ a fd args kws) fun bs=>if fd.params.vararg.isSome=true then args.length≤ax∧F.ex ⟨fd.scope.names,d⟩ fd.body ⟨bs,os⟩ (aN K) else F.ex ⟨fd.scope.names,d⟩ fd.body ⟨bs,os⟩ (aN K)
def oj(F:bT)(d:Nat)(a:Addr)(args:List V)(kws:List (Str×V))(os:List O)(K:Rs→List O→Prop):Prop:=match F.sm a with
 |some p=>af (p.1≤d)<|p.2 args kws os K
 |none=>(match fnAt a with
  |some fd=>Uu F d fd a args kws os K
  |none=>Bt F d a args kws os K)
def Qo(i:Nat)(K:List O→Prop)(r:Rs)(os:List O):Prop:=match r with
 |.ok v=>jv v fun j=>af (j=i) (K os)
 |.exc _=>False
def ut(F:bT)(d i:Nat)(os:List O)(K:Rs→List O→Prop):Prop:=match d with
 |0=>False
 |d+1=>am (i3 os i) fun x=>am (cR x.1 (tx "__iter__")) fun g=>F.call d (.con (.ref g)) [.ref i] [] os (Qo i fun os=>af ((i3 os i).map (·.1)=some 876)<|F.dr d i 0 os fun l os=>K (.ok (.seq false l)) os)
def I6(F:bT)(d:Nat)(args:List V)(os:List O)(K:Rs→List O→Prop):Prop:=match args with
 |[v]=>(match v with
  |.ref i=>ut F d i os K
  |.mj a b=>af (d≠0)<|K (.ok (.seq false (cB a b))) os
  |_=>False)
 |_=>False
def li(i:Nat)(args:List V)(os:List O)(K:Rs→List O→Prop):Prop:=am os[i]? fun ob=>match ob with
 |.wrap id l=>af (id="list.append")<|d8 args fun x r=>gy r (gl l x os fun v os=>K (.ok v) os)
 |_=>False
def Tu(F:bT)(d:Nat)(c:Value)(args:List V)(kws:List (Str×V))(os:List O)(K:Rs→List O→Prop):Prop:=match c with
 |.ref a=>oj F d a args kws os K
 |.builtin id=>af (kws.isEmpty=true)<|BC id args os fun v os=>K (.ok v) os
 |.type T=>af (kws.isEmpty=true)<|if T="list" then I6 F d args os K else Jk T args os fun v os=>K (.ok v) os
 |_=>False
def xT(F:bT)(d:Nat)(f:V)(args:List V)(kws:List (Str×V))(os:List O)(K:Rs→List O→Prop):Prop:=match f with
 |.con c=>Tu F d c args kws os K
 |.ref i=>af (kws.isEmpty=true)<|li i args os K
 |_=>False
def Sy(k:V→List O→Prop)(K:List V→List O→Prop)(r:Rs)(os:List O):Prop:=match r with
 |.ok x=>k x os
 |.exc c=>af (wi c=true)<|K [] os
def RM(F:bT)(d i n:Nat)(os:List O)(K:List V→List O→Prop):Prop:=am (i3 os i) fun x=>am (cR x.1 (tx "__next__")) fun g=>F.call d (.con (.ref g)) [.ref i] [] os (Sy (fun x os=>n<ax∧F.dr d i (n+1) os fun l os=>K (x::l) os) K)
noncomputable def kl(F:bT):bT:=⟨Jx F,TO F,AU F,xT F,AF F,Ut F,Uz F,RM F,F.sm⟩
end
noncomputable def en(P:Params)(n:String)(t:Tok)(v:Value):DictEntry:=⟨PyData.keyHash P (Str.ofString n),.str (Str.ofString n) t,v⟩
noncomputable def lY(d:Option FD)(name qual:Str)(dflt pm code:Value):FuncData:=
 match d with
 |some fd=>{name,qualname:=qual,params:=fd.params,body:=.stmts fd.body,scope:=fd.scope,globals:=3,closure:=[],defaults:=dflt,kwdefaults:=.none,pyModule:=pm,code,builtins:=0}
 |none=>default
def eD(s:String)(n:Tok):Value:=.str (Str.ofString s) n
def T2(P:Params)(l:List (String×Tok×Value))(n:Nat):Data:=.dict (l.map fun e=>en P e.1 e.2.1 e.2.2).toArray n
def IB(P:Params)(l:List (String×Tok×Value))(n:Nat):Obj:=⟨.type "dict",none,T2 P l n,#[]⟩
def ED(n:String)(bs mro:List Value)(ns:Addr)(hd:Bool)(sl:List Str)(sub:List Value)(x:Option Value)(t u:Tok)(y:Value)(b:Bool):Obj:=
 ⟨.type "type",none,.cls {name:=Str.ofString n,bases:=bs,mro:=mro,ns:=ns,qualname:=Str.ofString n,hasDict:=hd,slotNames:=sl,subclasses:=sub,abstract:=false,collection:=none,hasDel:=false},[x,none,some (eD n t),some (eD n u),some y,some (.bool b)].toArray⟩
def Sb(n q:String)(t:Tok)(l a k f:Int)(r:Addr)(b:Bool)(u:Tok):Obj:=
 ⟨.type "code",none,.fields ([eD n t,eD q (t+1),eD "/claim/cut.py" (t+2),.int l 0,.int a 0,.int k 0,.int 0 0,.int f 0,.ref r,.bool true,.int 318 0,.ref (r+1),.none]++(match b with
  |true=>[.ref (r+2),.ref (r+3),.ref (r+4)]
  |false=>[.none,.none,.ref (r+2)])++[.int u 0,.int l 0,eD "/claim/cut.py" (u+1)]).toArray,#[]⟩
def rE:Value:=eD "cpy313.graphlib" 331
def S7:Value:=eD "re" 551
def S6:Value:=eD "cpy313.fnmatch" 706
def rD:Value:=eD "io" 767
def rC:Value:=eD "cpy313.shlex" 1483
def rB:Value:=eD "law_ik0145_01" 1651
def iH(n q:String)(t:Tok)(l a k f:Int)(r:Addr)(b:Bool)(u:Tok)(fd:Option FD)(d m:Value)(X:Frag):Frag:=
 let c:=match b with
  |true=>r+5
  |false=>r+3
 (c,Sb n q t l a k f r b u)::(c+1,⟨.type "function",none,.func (lY fd (Str.ofString n) (Str.ofString q) d m (.ref c)),#[]⟩)::X
noncomputable def o2(P:Params):Obj:=⟨.none,none,T2 P [("im\x70ort.loaded._sre",183,(.bool true)),("class._frozen_importlib.BuiltinImporter",185,(.ref 14)),("watched.im\x70ort",206,(.ref 18)),("class._frozen_importlib.ModuleSpec",216,(.ref 22)),("sys.modules.booked-epoch",245,(.int 4 0)),("im\x70ort.later-laid._sre",270,(.bool true)),("watched.library",272,(.ref 27)),("watched.library-objects",0,(eD "\x0c\x1e" 0)),("watched.library-deep._sre",273,(eD "\x04\x00\x00\x0b\x04\x00\x00\x0b\x04\x00\x00\x03\x04\x00\x00\x0b\x08\x04dict\x02" 0)),("im\x70ort.loaded._collections",280,(.bool true)),("sys.modules.landed._collections",294,(.bool true)),("im\x70ort.later-laid._collections",309,(.bool true)),("watched.library-deep._collections",311,(eD "\x04\x00\x00\x1d\x04\x00\x00\x1d\x04\x00\x00\x03\x04\x00\x00\x1d\x08\x04dict\x02" 0)),("type.__subclasses__.OSError.0",803,(.int 217 0)),("type.__subclasses__.OSError.n",804,(.int 1 0))] 15,#[]⟩
noncomputable def o3(P:Params):Obj:=IB P [("__name__",165,(eD "law_ik0145_01" 1651)),("__doc__",166,.none),("__package__",167,.none),("__loader__",168,(.builtin "__main__.__loader__#opaque")),("__spec__",169,.none),("__annotations__",170,(.ref 6)),("__builtins__",171,(.ref 4)),("__file__",173,(eD "/claim/cut.py" 172)),("__cached__",174,.none),("_sre",275,(.ref 12)),("deque",317,(.type "collections.deque")),("_wall",330,(.ref 44)),("_NODE_OUT",335,(.int (-1) 334)),("_NODE_DONE",338,(.int (-2) 337)),("_NodeInfo",375,(.ref 63)),("CycleError",393,(.ref 78)),("TopologicalSorter",512,(.ref 160)),("twin_re_1_fnmatch",550,(.ref 169)),("_special_chars_map",698,(.ref 171)),("escape",705,(.ref 181)),("_translate",726,(.ref 188)),("twin_re_1_shlex",766,(.ref 193)),("_whence",776,(.ref 200)),("_index",784,(.ref 207)),("UnsupportedOperation",806,(.ref 217)),("IOBase",838,(.ref 237)),("BufferedIOBase",856,(.ref 252)),("TextIOBase",874,(.ref 264)),("BytesIO",1136,(.ref 494)),("StringIO",1423,(.ref 741)),("_kind",1434,(.ref 750)),("_fspath",1443,(.ref 757)),("_check_arg_types",1453,(.ref 764)),("isabs",1460,(.ref 771)),("join",1471,(.ref 895)),("join_path",1472,(.ref 778)),("dirname",1482,(.ref 785)),("shlex",1623,(.ref 876)),("split",1633,(.ref 888)),("join_shlex",1641,(.ref 895)),("_find_unsafe",1643,(.ref 896)),("quote",1650,(.ref 903)),("_law_pattern",1658,(.ref 908)),("_law_step",1664,(.ref 913)),("_law_meant",1676,(.ref 920)),("_law_taken",1687,(.ref 927)),("_law_read",1693,(.ref 932)),("_law_run",1699,(.ref 937)),("_law_due",1705,(.ref 942)),("law",1711,(.ref 947))] 50
noncomputable def o4(P:Params):Obj:=⟨.type "module",some 0,.plain,#[]⟩
noncomputable def TY(P:Params):Obj:=IB P [("__module__",383,(eD "cpy313.graphlib" 331)),("__firstlineno__",387,(.int 16 386)),("__static_attributes__",388,(.ref 76)),("__weakref__",390,(.ref 79)),("__doc__",391,.none)] 3
noncomputable def TX(P:Params):Obj:=ED "CycleError" [(.type "ValueError")] [(.ref 78),(.type "ValueError"),(.type "Exception"),(.type "BaseException"),(.type "object")] 77 true [] [] (some (.ref 69)) 376 384 (.builtin "ValueError.__new__") true
noncomputable def OA(P:Params):Obj:=⟨.type "tuple",none,.seq ([14,14,4,1,1,9,0,64,0,1342177280,0,0,0,0,0,17,0,13,11,9,0,64,0,1342177280,0,0,0,0,0,17,1,1].map fun i=>Value.int i 0).toArray 0,#[]⟩
noncomputable def Oz(P:Params):Obj:=⟨.type "re.Pattern",none,.fields [(eD "([&~|])" 514),(.int 32 549),(.int 1 0),.none,.none,(.ref 168),(.int 0 0)].toArray,#[]⟩
noncomputable def JX(P:Params):Obj:=⟨.type "dict",none,.dict [(⟨40,(.int 40 554),(eD "\\(" 558)⟩:DictEntry),(⟨41,(.int 41 560),(eD "\\)" 564)⟩:DictEntry),(⟨91,(.int 91 566),(eD "\\[" 570)⟩:DictEntry),(⟨93,(.int 93 572),(eD "\\]" 576)⟩:DictEntry),(⟨123,(.int 123 578),(eD "\\{" 582)⟩:DictEntry),(⟨125,(.int 125 584),(eD "\\}" 588)⟩:DictEntry),(⟨63,(.int 63 590),(eD "\\?" 594)⟩:DictEntry),(⟨42,(.int 42 596),(eD "\\*" 600)⟩:DictEntry),(⟨43,(.int 43 602),(eD "\\+" 606)⟩:DictEntry),(⟨45,(.int 45 608),(eD "\\-" 612)⟩:DictEntry),(⟨124,(.int 124 614),(eD "\\|" 618)⟩:DictEntry),(⟨94,(.int 94 620),(eD "\\^" 624)⟩:DictEntry),(⟨36,(.int 36 626),(eD "\\$" 630)⟩:DictEntry),(⟨92,(.int 92 632),(eD "\\\\" 636)⟩:DictEntry),(⟨46,(.int 46 638),(eD "\\." 642)⟩:DictEntry),(⟨38,(.int 38 644),(eD "\\&" 648)⟩:DictEntry),(⟨126,(.int 126 650),(eD "\\~" 654)⟩:DictEntry),(⟨35,(.int 35 656),(eD "\\#" 660)⟩:DictEntry),(⟨32,(.int 32 662),(eD "\\ " 666)⟩:DictEntry),(⟨9,(.int 9 668),(eD "\\\t" 672)⟩:DictEntry),(⟨10,(.int 10 674),(eD "\\\n" 678)⟩:DictEntry),(⟨13,(.int 13 680),(eD "\\\x0d" 684)⟩:DictEntry),(⟨11,(.int 11 686),(eD "\\\x0b" 690)⟩:DictEntry),(⟨12,(.int 12 692),(eD "\\\x0c" 696)⟩:DictEntry)].toArray 24,#[]⟩
noncomputable def Oy(P:Params):Obj:=⟨.type "tuple",none,.seq ([14,17,4,1,1,21,9,0,604043296,1,0,0,0,0,0,8,4,0,13,14,21,9,0,604043296,1,0,0,0,0,0,8,4,0,1].map fun i=>Value.int i 0).toArray 0,#[]⟩
noncomputable def Ox(P:Params):Obj:=⟨.type "re.Pattern",none,.fields [(eD "[^\\w@%+=:,./-]" 728),(.int 256 765),(.int 0 0),.none,.none,(.ref 192),(.int 0 0)].toArray,#[]⟩
noncomputable def Ow(P:Params):Obj:=ED "IOBase" [(.type "object")] [(.ref 237),(.type "object")] 236 true [] [(.ref 252),(.ref 264)] none 807 815 .none true
noncomputable def Ov(P:Params):Obj:=ED "TextIOBase" [(.ref 237)] [(.ref 264),(.ref 237),(.type "object")] 263 true [] [(.ref 741)] (some (.ref 255)) 857 865 .none true
noncomputable def Ou(P:Params):Obj:=ED "BytesIO" [(.ref 252)] [(.ref 494),(.ref 252),(.ref 237),(.type "object")] 493 true [] [] (some (.ref 267)) 875 883 .none true
noncomputable def Fb(P:Params):Obj:=ED "StringIO" [(.ref 264)] [(.ref 741),(.ref 264),(.ref 237),(.type "object")] 740 true [] [] (some (.ref 497)) 1137 1145 .none true
noncomputable def Ot(P:Params):Obj:=⟨.type "builtin_function_or_method",none,.fields [(.builtin "re.Pattern.search"),(.ref 193)].toArray,#[]⟩
noncomputable def JW(P:Params):Obj:=Sb "_translate" "_translate" 708 134 3 0 3 182 true 724
def JV(P:Params):Obj:=⟨.type "function",none,.func (lY (bg 20 1) "__new__" "IOBase.__new__" .none rD (.ref 233)),#[]⟩
noncomputable def JU(P:Params):Obj:=Sb "join" "join" 1634 923 1 0 3 889 true 1638
def S3(P:Params):Obj:=⟨.type "function",none,.func (lY (ce 48) "law" "law" .none rB (.ref 946)),#[]⟩
def bF(P:Params):Frag:=[
 (2,o2 P),
 (3,o3 P),
 (4,o4 P),
 (62,IB P [("__module__",346,(eD "cpy313.graphlib" 331)),("__firstlineno__",350,(.int 9 349)),("__slots__",354,(.ref 52)),("__init__",362,(.ref 59)),("__static_attributes__",366,(.ref 60)),("node",368,(.ref 64)),("npredecessors",370,(.ref 65)),("successors",372,(.ref 66)),("__doc__",373,.none)] 5),
 (63,ED "_NodeInfo" [(.type "object")] [(.ref 63),(.type "object")] 62 false [Str.ofString "node",Str.ofString "npredecessors",Str.ofString "successors"] [] none 339 347 (.builtin "object.__new__") false),
 (64,⟨.type "member_descriptor",none,.fields [(eD "node" 367),(.ref 63),(.builtin "proto.slot"),(.builtin "proto.slot#set"),(.int 2 0)].toArray,#[]⟩),
 (65,⟨.type "member_descriptor",none,.fields [(eD "npredecessors" 369),(.ref 63),(.builtin "proto.slot"),(.builtin "proto.slot#set"),(.int 1 0)].toArray,#[]⟩),
 (66,⟨.type "member_descriptor",none,.fields [(eD "successors" 371),(.ref 63),(.builtin "proto.slot"),(.builtin "proto.slot#set"),(.int 0 0)].toArray,#[]⟩),
 (77,TY P),
 (78,TX P),
 (89,⟨.type "tuple",none,.seq [.none].toArray 0,#[]⟩),
 (159,IB P [("__module__",401,(eD "cpy313.graphlib" 331)),("__firstlineno__",405,(.int 18 404)),("__init__",415,(.ref 96)),("_get_nodeinfo",424,(.ref 103)),("add",436,(.ref 110)),("prepare",442,(.ref 115)),("get_ready",452,(.ref 122)),("is_active",459,(.ref 129)),("__bool__",466,(.ref 136)),("done",480,(.ref 143)),("_find_cycle",493,(.ref 150)),("static_order",500,(.ref 157)),("__static_attributes__",505,(.ref 158)),("__dict__",507,(.ref 161)),("__weakref__",509,(.ref 162)),("__doc__",510,.none)] 4),
 (160,ED "TopologicalSorter" [(.type "object")] [(.ref 160),(.type "object")] 159 true [] [] none 394 402 (.builtin "object.__new__") true),
 (168,OA P),
 (169,Oz P),
 (171,JX P),
 (192,Oy P),
 (193,Ox P),
 (236,IB P [("__module__",814,(eD "io" 819)),("__firstlineno__",818,(.int 212 817)),("__new__",829,(.ref 238)),("__static_attributes__",830,(.ref 235)),("__dict__",833,(.ref 239)),("__weakref__",835,(.ref 240)),("__doc__",836,.none)] 4),
 (237,Ow P),
 (238,⟨.type "staticmethod",none,.fields [(.ref 234)].toArray,#[]⟩),
 (263,IB P [("__module__",864,(eD "io" 869)),("__firstlineno__",868,(.int 221 867)),("__static_attributes__",871,(.ref 262)),("__doc__",872,.none)] 2),
 (264,Ov P),
 (494,Ou P),
 (504,⟨.type "tuple",none,.seq [(eD "" 1151),(eD "\n" 1152)].toArray 0,#[]⟩),
 (680,⟨.type "tuple",none,.seq [(.int (-1) 1344)].toArray 0,#[]⟩),
 (688,⟨.type "tuple",none,.seq [(.int (-1) 1356)].toArray 0,#[]⟩),
 (740,IB P [("__module__",1144,(eD "_io" 1149)),("__firstlineno__",1148,(.int 393 1147)),("__init__",1161,(.ref 511)),("_StringIO__translated",1170,(.ref 518)),("_StringIO__check",1177,(.ref 525)),("_StringIO__check_dot",1184,(.ref 532)),("_StringIO__line",1199,(.ref 539)),("closed",1207,(.ref 547)),("line_buffering",1215,(.ref 555)),("newlines",1223,(.ref 563)),("encoding",1231,(.ref 571)),("errors",1239,(.ref 579)),("close",1246,(.ref 586)),("__enter__",1253,(.ref 593)),("__exit__",1261,(.ref 600)),("readable",1268,(.ref 607)),("writable",1275,(.ref 614)),("seekable",1282,(.ref 621)),("isatty",1289,(.ref 628)),("flush",1296,(.ref 635)),("fileno",1303,(.ref 642)),("detach",1310,(.ref 649)),("getvalue",1317,(.ref 656)),("tell",1324,(.ref 663)),("seek",1334,(.ref 671)),("truncate",1342,(.ref 679)),("read",1354,(.ref 687)),("readline",1364,(.ref 695)),("readlines",1374,(.ref 703)),("__iter__",1381,(.ref 710)),("__next__",1389,(.ref 717)),("write",1401,(.ref 724)),("writelines",1409,(.ref 731)),("__repr__",1416,(.ref 738)),("__static_attributes__",1420,(.ref 739)),("__doc__",1421,.none)] 2),
 (741,Fb P),
 (793,⟨.type "tuple",none,.seq [.none,.none,(.bool false),(.bool false)].toArray 0,#[]⟩),
 (808,⟨.type "property",none,.fields [(.ref 807),.none,.none,.none,(eD "punctuation_chars" 1516),(.bool false)].toArray,#[]⟩),
 (875,IB P [("__module__",1492,(eD "cpy313.shlex" 1483)),("__firstlineno__",1496,(.int 663 1495)),("__init__",1508,(.ref 800)),("punctuation_chars",1516,(.ref 808)),("push_token",1524,(.ref 815)),("push_source",1533,(.ref 823)),("pop_source",1540,(.ref 830)),("get_token",1552,(.ref 837)),("read_token",1563,(.ref 844)),("sourcehook",1571,(.ref 851)),("error_leader",1580,(.ref 859)),("__iter__",1587,(.ref 866)),("__next__",1595,(.ref 873)),("__static_attributes__",1616,(.ref 874)),("__dict__",1618,(.ref 877)),("__weakref__",1620,(.ref 878)),("__doc__",1621,.none)] 4),
 (876,ED "shlex" [(.type "object")] [(.ref 876),(.type "object")] 875 true [] [] none 1485 1493 (.builtin "object.__new__") true),
 (881,⟨.type "tuple",none,.seq [(.bool false),(.bool true)].toArray 0,#[]⟩),
 (896,Ot P)]++(iH "__init__" "_NodeInfo.__init__" 355 12 2 0 3 53 true 360 (bg 6 1) .none rE<|
 iH "__init__" "TopologicalSorter.__init__" 406 20 2 0 3 90 true 413 (bg 8 0) (.ref 89) rE<|
 iH "_get_nodeinfo" "TopologicalSorter._get_nodeinfo" 416 29 2 0 3 97 true 422 (bg 8 1) .none rE<|
 iH "add" "TopologicalSorter.add" 425 34 2 0 7 104 true 434 (bg 8 2) .none rE<|
 iH "prepare" "TopologicalSorter.prepare" 437 43 1 0 3 111 false 440 (bg 8 3) .none rE<|
 iH "get_ready" "TopologicalSorter.get_ready" 443 51 1 0 3 116 true 450 (bg 8 4) .none rE<|
 iH "is_active" "TopologicalSorter.is_active" 453 62 1 0 3 123 true 457 (bg 8 5) .none rE<|
 iH "done" "TopologicalSorter.done" 467 70 1 0 7 137 true 478 (bg 8 7) .none rE<|
 iH "_find_cycle" "TopologicalSorter._find_cycle" 481 93 1 0 3 144 true 491 (bg 8 8) .none rE<|
 iH "escape" "escape" 699 127 1 0 3 175 true 703 (ce 12) .none S7<|
 iH "_translate" "_translate" 708 134 3 0 3 182 true 724 (ce 14) .none S6<|
 iH "_index" "_index" 777 203 2 0 3 201 true 782 (ce 18) .none rD<|
 iH "__new__" "IOBase.__new__" 821 215 1 1 15 228 true 827 (bg 20 1) .none rD<|
 iH "__init__" "StringIO.__init__" 1153 396 3 0 3 505 true 1159 (bg 24 1) (.ref 504) rD<|
 iH "__translated" "StringIO.__translated" 1162 409 2 0 3 512 true 1168 (bg 24 2) .none rD<|
 iH "__check" "StringIO.__check" 1171 417 1 0 3 519 true 1175 (bg 24 3) .none rD<|
 iH "__line" "StringIO.__line" 1185 425 2 0 3 533 true 1197 (bg 24 5) .none rD<|
 iH "read" "StringIO.read" 1345 539 2 2 3 681 true 1352 (bg 24 25) (.ref 680) rD<|
 iH "readline" "StringIO.readline" 1357 553 2 2 3 689 true 1362 (bg 24 26) (.ref 688) rD<|
 iH "__init__" "shlex.__init__" 1497 665 5 0 3 794 true 1506 (bg 34 0) (.ref 793) rC<|
 iH "punctuation_chars" "shlex.punctuation_chars" 1509 706 1 0 3 801 true 1513 (bg 34 1) .none rC<|
 iH "get_token" "shlex.get_token" 1541 733 1 0 3 831 true 1550 (bg 34 5) .none rC<|
 iH "read_token" "shlex.read_token" 1553 760 1 0 3 838 true 1561 (bg 34 6) .none rC<|
 iH "__iter__" "shlex.__iter__" 1581 907 1 0 3 860 true 1585 (bg 34 9) .none rC<|
 iH "__next__" "shlex.__next__" 1588 910 1 0 3 867 true 1593 (bg 34 10) .none rC<|
 iH "split" "split" 1624 915 3 0 3 882 true 1631 (ce 35) (.ref 881) rC<|
 iH "join" "join" 1634 923 1 0 3 889 true 1638 (ce 36) .none rC<|
 iH "quote" "quote" 1644 927 1 0 3 897 true 1648 (ce 39) .none rC<|
 iH "_law_pattern" "_law_pattern" 1653 934 1 0 3 904 false 1656 (ce 41) .none rB<|
 iH "_law_step" "_law_step" 1659 938 4 0 3 909 false 1662 (ce 42) .none rB<|
 iH "_law_meant" "_law_meant" 1665 940 2 0 3 914 true 1674 (ce 43) .none rB<|
 iH "_law_taken" "_law_taken" 1677 946 3 0 3 921 true 1685 (ce 44) .none rB<|
 iH "_law_read" "_law_read" 1688 958 4 0 3 928 false 1691 (ce 45) .none rB<|
 iH "_law_run" "_law_run" 1694 965 2 0 3 933 false 1697 (ce 46) .none rB<|
 iH "_law_due" "_law_due" 1700 982 2 0 3 938 false 1703 (ce 47) .none rB<|
 iH "law" "law" 1706 993 1 0 3 943 false 1709 (ce 48) .none rB<|[])
noncomputable abbrev PW:Program:=PySem.Challenge.pw_ik0145_01
noncomputable def N0:Nat:=948
noncomputable def ar(x:Tx):Str:=⟨x.toArray⟩
theorem ia(h:ar x=ar y):x=y:=by
 unfold ar at h;injection h with h
 exact Array.toList_inj.mpr h|>fun e=>by simpa using e
theorem bh(x:Tx):(ar x).length=x.length:=by simp[ar,Str.length]
noncomputable def b0(k:Bool)(ws:List Value)(n:Nat):Obj:={cls:=.type (if k then "tuple" else "list"),data:=.seq ws.toArray n}
def gc(v:Value):Bool:=qW v (fun a=>decide (a<N0))<|JG v (fun i=>(withoutEnding? i "#data").isNone)<|tz v (fun _=>true) false
structure Rh where
 l:List Addr
 z:List Addr
noncomputable def Rh.all(ρ:Rh):List Addr:=ρ.l++ρ.z
noncomputable def Rh.add(ρ:Rh)(a:Addr):Rh:=⟨ρ.l++[a],ρ.z⟩
def Rh.le(ρ ρ':Rh):Prop:=ρ.l<+:ρ'.l∧ρ'.z=ρ.z
inductive VR(h:Heap)(ρ:Rh):V→Value→Prop
 |none:VR h ρ .none .none
 |bool b:VR h ρ (.bool b) (.bool b)
 |int (i t):VR h ρ (.int i) (.int i t)
 |str (s t):s.length≤ax→VR h ρ (.str s) (.str (ar s) t)
 |con v:gc v=true→VR h ρ (.con v) v
 |ref {i:Nat} {a}:ρ.l[i]? =some a→VR h ρ (.ref i) (.ref a)
 |view {i:Nat} {a d}:ρ.l[i]? =some a→N0≤d→d∉ρ.all→h.get? d=some {cls:=.type "dict_values",data:=.fields #[.ref a]}→VR h ρ (.view i) (.ref d)
 |mj {a b r t u v}:N0≤r→r∉ρ.all→IsRange h r a b 1 t u v→(0≤a∧a≤16777216)→(-16777216≤b∧b<16777216)→VR h ρ (.mj a b) (.ref r)
 |seq {k} {vs:List V} {ws:List Value} {a n}:a∉ρ.all→h.get? a=some (b0 k ws n)→ws.length≤ax→vs.length=ws.length→
   (∀(i:Nat) v x,vs[i]? =some v→ws[i]? =some x→VR h ρ v x)→VR h ρ (.seq k vs) (.ref a)
def aM(h:Heap)(ρ:Rh)(vs:List V)(ws:List Value):Prop:=vs.length=ws.length∧∀(i:Nat) v x,vs[i]? =some v→ws[i]? =some x→VR h ρ v x
noncomputable def JT(s:String):Bool:=s=="traceback"||s=="StopIteration"||s=="frame"||(s=="list_iterator"||s=="tuple_iterator"||s=="range_iterator"||s=="dict_keyiterator"||s=="dict_valueiterator")
def dK(c:Value):Bool:=tz c JT (c.ctorIdx==0||c.ctorIdx==10)
def Gv(env:Env)(a:Addr):Prop:=(∃n,env.cells.lookup n=some a)∧env.locals<a
def Mu(ρ:Rh)(env:Env)(a:Addr):Prop:=a∈ρ.l∨a=env.locals∨Gv env a∨a=183∨a=890
def Nt(ρ:Rh)(a:Addr):Prop:=a∈ρ.l∨a=183∨a=890
def aU(mu:Addr→Prop)(h h':Heap):Prop:=∀a o,h.get? a=some o→¬mu a→
 (o.cls≠.type "frame"→h'.get? a=some o)∧(o.cls=.type "frame"→∃sl,h'.get? a=some ⟨o.cls,o.dict,o.data,sl⟩)
theorem aU.refl(mu:Addr→Prop)(h:Heap):aU mu h h:=fun _ o e _=>⟨fun _=>e,fun _=>⟨o.slots,e⟩⟩
theorem aU.trans(a:aU mu h h')(b:aU Rr h' y3)(s:∀x o,h.get? x=some o→Rr x→mu x):aU mu h y3:=by
 intro x o e hm;have RA:¬Rr x:=fun q=>hm (s x o e q);refine az (a x o e hm) fun a1 a2=>?_;constructor
 ·intro hc
  exact(b x o (a1 hc) RA).1 hc
 ·intro hc
  exact bf (a2 hc) fun sl e'=>bf ((b x _ e' RA).2 hc) fun TP WL=>⟨TP,WL⟩
theorem aU.get(k:aU mu h h')(e:h.get? a=some o)(hm:¬mu a)(hc:o.cls≠.type "frame"):h'.get? a=some o:=(k a o e hm).1 hc
theorem aU.data(k:aU mu h h')(e:h.get? a=some o)(hm:¬mu a):∃o',h'.get? a=some o'∧o'.data=o.data∧o'.cls=o.cls∧o'.dict=o.dict:=by
 refine EM (o.cls=.type "frame") (fun hc=>?_) fun hc=>?_
 ·exact bf ((k a o e hm).2 hc) fun sl e'=>(SD _ e' rfl rfl rfl)
 ·exact SD o ((k a o e hm).1 hc) rfl rfl rfl
theorem aU.cC(s:Heap.SameBut b h h')(hb:mu b):aU mu h h':=by
 intro a o e hm;have:a≠b:=fun q=>hm (q▸hb);have e':h'.get? a=some o:=(s.2 a this).trans e;exact⟨fun _=>e',fun _=>⟨o.slots,e'⟩⟩
theorem aU.of_keeps(k:∀b o,h.get? b=some o→h'.get? b=some o):aU mu h h':=
 fun a o e _=>⟨fun _=>k a o e,fun _=>⟨o.slots,k a o e⟩⟩
theorem aU.push(h:Heap)(o:Obj):aU mu h (h.push o):=aU.of_keeps fun _ _ e=>gp o e
theorem aU.mono(k:aU mu h h')(s:∀a o,h.get? a=some o→mu a→Rr a):aU Rr h h':=fun a o e hm=>k a o e fun q=>hm (s a o e q)
theorem aU.ns(k:aU mu h h'){m}(n:h.Ns a m)(hm:¬mu a):h'.Ns a m:=by
 exact mU n fun o es ep e d r=>kS (k.data e hm) fun o' e' d' _=>(AJ o' es ep e' (d'.trans d) r)
theorem aU.cell(k:aU mu h h'){v}(n:h.IsCell a v)(hm:¬mu a):h'.IsCell a v:=by
 exact aq n fun o e d=>kS (k.data e hm) fun o' e' d' _=>(aK o' e' (d'.trans d))
def cQ(o:Obj):Bool:=!(o.data.ctorIdx==3||o.data.ctorIdx==6)&&!dK o.cls
def fF(mu:Addr→Prop)(ρ:Rh)(h:Heap):Prop:=∀a o,h.get? a=some o→mu a→a∈ρ.all∨cQ o=false
def lK(ρ ρ':Rh)(h:Heap):Prop:=∀a o,h.get? a=some o→a∈ρ'.all→a∈ρ.all
theorem u4(h:cQ o=true):o.cls≠.type "frame":=by
 intro e;unfold cQ at h;rw[e,Bool.and_eq_true] at h;exact absurd h.2 (by decide)
theorem lw(k:aU mu h h')(hf:fF mu ρ h)(hn:lK ρ ρ' h)(e:h.get? a=some o)(h1:a∉ρ.all)(h2:cQ o=true):h'.get? a=some o∧a∉ρ'.all:=by
 refine⟨k.get e (fun q=>?_) (u4 h2),fun q=>h1 (hn a o e q)⟩;refine aA (hf a o e q) (fun q=>?_) fun q=>?_
 ·exact h1 q
 ·rw[h2] at q;exact tt q
theorem kM(vs:Array Value)(h:dK (.type s)=false):cQ {cls:=.type s,data:=.fields vs}=true:=by
 refine(?_:(true&&!dK (.type s))=true);exact RW h rfl
theorem GD(k:Bool):dK (.type (if k then "tuple" else "list"))=false:=by induction k using Bool.casesOn<;>decide
theorem zH(k:Bool)(ws:List Value)(n:Nat):cQ (b0 k ws n)=true:=by
 refine(?_:(true&&!dK (.type (if k then "tuple" else "list")))=true)
 exact RW (GD _) rfl
theorem VR.keep(k:aU mu h h')(hf:fF mu ρ h)
  (hρ:∀(i:Nat) a,ρ.l[i]? =some a→ρ'.l[i]? =some a) (hn:lK ρ ρ' h) (r:VR h ρ v x):VR h' ρ' v x:=by
 induction r with
 |none=>exact .none
 |bool b=>exact .bool b
 |int i t=>exact .int i t
 |str s t l=>exact .str s t l
 |con v e=>exact .con v e
 |ref e=>exact .ref (hρ _ _ e)
 |view e1 e2 e3 e4=>
  exact az (lw k hf hn e4 e3 (kM _ (by decide))) fun g1 g2=>.view (hρ _ _ e1) e2 g2 g1
 |mj e1 e2 e3 e4 e5=>
  exact az (lw k hf hn e3 e2 (kM _ (by decide))) fun g1 g2=>.mj e1 g2 g1 e4 e5
 |seq e2 e3 e4 e5 _ ih=>
  exact az (lw k hf hn e3 e2 (zH _ _ _)) fun g1 g2=>.seq g2 g1 e4 e5 ih
theorem aM.keep(k:aU mu h h')(hf:fF mu ρ h)
  (hρ:∀(i:Nat) a,ρ.l[i]? =some a→ρ'.l[i]? =some a) (hn:lK ρ ρ' h) (r:aM h ρ vs xs):aM h' ρ' vs xs:=
 ⟨r.1,fun i v x e1 e2=>(r.2 i v x e1 e2).keep k hf hρ hn⟩
theorem aM.nil:aM h ρ [] []:=⟨rfl,fun i v x e _=>by simp at e⟩
theorem aM.cons(a:VR h ρ v x)(b:aM h ρ vs xs):aM h ρ (v::vs) (x::xs):=by
 refine⟨by simp[b.1],fun i u y e1 e2=>?_⟩
 induction i using Nat.casesAuxOn with
 |zero=>simp at e1 e2;subst e1 e2;exact a
 |succ i=>simp at e1 e2;exact b.2 i u y e1 e2
theorem aM.append(a:aM h ρ vs xs)(b:aM h ρ us ys):aM h ρ (vs++us) (xs++ys):=by
 refine⟨by simp[a.1,b.1],fun i u y e1 e2=>?_⟩
 refine EM (i<vs.length) (fun hi=>?_) fun hi=>?_
 ·rw[List.getElem?_append_left hi] at e1
  rw[List.getElem?_append_left (a.1▸hi)] at e2;exact a.2 i u y e1 e2
 ·have hi:vs.length≤i:=rh hi
  rw[List.getElem?_append_right hi] at e1;rw[List.getElem?_append_right (a.1▸hi),←a.1] at e2;exact b.2 _ u y e1 e2
noncomputable def jD(id:String)(a:Addr):Obj:={cls:=.type (if id=="list.append" then "builtin_function_or_method" else "method-wrapper"),data:=.fields #[.builtin id,.ref a]}
noncomputable def nw(l:Addr)(k:Nat):Obj:={cls:=.type "list_iterator",data:=.fields #[.ref l,.int k 0]}
inductive AR(h:Heap)(ρ:Rh):List (Tx×V)→List DictEntry→Prop
 |nil:AR h ρ [] []
 |cons {e:Tx×V} {de:DictEntry} {es:List (Tx×V)} {d6:List DictEntry} {t:Tok}:de.key=.str (ar e.1) t→VR h ρ e.2 de.val→AR h ρ es d6→AR h ρ (e::es) (de::d6)
def OR(w:World)(h:Heap)(ρ:Rh):O→Addr→Prop
 |.list vs,a=>∃ws n,h.get? a=some (b0 false ws n)∧ws.length≤ax∧aM h ρ vs ws
 |.dict es ep,a=>∃(bM:List (Str×Value)) (e:Nat),h.DictAt (strKind PW w) a bM e∧(∀n,ep=some n→e=n)∧bM.length≤ax∧bM.map (·.1)=es.map (fun e=>ar e.1)∧aM h ρ (es.map (·.2)) (bM.map (·.2))
 |.attrs es,a=>∃d6 n,h.get? a=some (dictOf d6 n)∧d6.length≤ax∧AR h ρ es d6
 |.inst C d,a=>∃dx sl,ρ.l[d]? =some dx∧h.get? a=some ⟨.ref C,some dx,.plain,sl⟩
 |.slots C d vs,a=>∃dx,∃sl:Array (Option Value),ρ.l[d]? =some dx∧h.get? a=some ⟨.ref C,some dx,.plain,sl⟩∧sl.size≤3∧∀k:Nat,k<3→match(vs[k]?).join with
   |some v=>∃x,(sl[k]?).join=some x∧VR h ρ v x
   |none=>(sl[k]?).join=none
 |.set xs,a=>h.SetOf (strKind PW w) a (fun k=>xs.any fun x=>ar x==k) xs.length∧xs.length<6
 |.AW,a=>h.get? a=some {cls:=.type "collections.deque",data:=.fields #[.none,rawInt 0]}
 |.iter l k,a=>∃al,ρ.l[l]? =some al∧h.get? a=some (nw al k)
 |.dead,a=>∃vs,h.get? a=some {cls:=.type "list_iterator",data:=.fields vs}
 |.wrap id s,a=>∃b,ρ.l[s]? =some b∧h.get? a=some (jD id b)
structure bU(w:World)(h:Heap):Prop where
 X:(bF w.params).In h
 b:∃mb,h.Ns builtinsNs mb∧∀x:Str,x≠"__name__"→mb x=bootBuiltins x
 lim:h.NoLimit
 tab:∀a,a=183∨a=890→∃ps,h.get? a=some {cls:=.none,data:=.fields ps}∧TriplesOk ps.toList
structure SR(w:World)(ρ:Rh)(os:List O)(h:Heap):Prop where
 aL:bU w h
 len:ρ.l.length=os.length
 nodup:ρ.l.Nodup
 high:∀a∈ρ.l,N0≤a
 vr:∀a∈ρ.z,∃o,h.get? a=some o
 rep:∀(i:Nat) (a:Addr) o,ρ.l[i]? =some a→os[i]? =some o→OR w h ρ o a
def pk{α:Type}(K:Frag)(S:Setting)(t:Sem α):Sem α:=t.rec (motive:=fun _=>Sem α) .pure .raise .unsupported .finish (fun _ _ i=>i ()) (fun p k _=>.at p k) (fun a p k i=>(K.lookup a).elim (.load a p k) i)
 (fun a p f k _=>.update a p f k) (fun o _ i=>.alloc o i) (fun a k _=>.loadIfAlive a k) (fun _ _ i=>i ()) (fun a k _=>.register a k) (fun _ i=>.fresh i) (fun _ i=>i S) (fun s n k _=>.choose s n k) (fun r l k _=>.os r l k)
 (fun c h g l k _=>.call c h g l k) (fun b k _=>.handled b k) (fun c k _=>.newGen c k) (fun g k _=>.genState g k) (fun g r l k _=>.resume g r l k) (fun v g l k _=>.yield v g l k) (fun k _=>.stack k) (fun c k _=>.fork c k) (fun k _=>.thread k) (fun a t b l k _=>.await a t b l k)
theorem Pk{α:Type}{K:Frag}{Γ:Ctx}{Q:α→Pos→Shared→Prop}{E:Value→Pos→Shared→Prop}(t:Sem α):∀{p:Pos} {s:Shared},K.In s.heap→Sem.wp M Γ (pk K ⟨M.prog,M.w.params⟩ t) Q E p s→Sem.wp M Γ t Q E p s:=by
 induction t with
 |rule _ k ih=>exact fun x h=>ih () x h
 |point _ k ih=>exact fun x h=>ih () x h
 |ask k ih=>exact fun x h=>ih _ x h
 |load a p k ih=>
  intro p s x h
  replace h:Sem.wp M Γ ((K.lookup a).elim (.load a _ k) fun o=>pk K ⟨M.prog,M.w.params⟩ (k o)) Q E p s:=h
  cases e:K.lookup a with
  |none=>rw[e] at h;exact h
  |some o=>rw[e] at h;exact(aK o (x _ _ e) (ih o x h))
 |alloc o k ih=>exact fun x h=>ih _ (x.keeps fun _ _ e=>gp _ e) h
 |fresh k ih=>exact fun x h=>ih _ x h
 |_=>exact fun _ h=>h
theorem Lf{α:Type}{K:Frag}{Q:α→Shared→Prop}{E:Value→Shared→Prop}{t:Sem α}{φ:Prop}(x:K.In s.heap)(h:φ)(e:∀Γ p,φ=Sem.wp M Γ (pk K ⟨M.prog,M.w.params⟩ t) (fun a _ s'=>Q a s') (fun e _ s'=>E e s') p s):wpAny M A t Q E s:=fun Γ p _=>Pk t x ((e Γ p).mp h)
section
noncomputable def l5(names:List (Str×NameKind)):Option Addr:=if names.lookup (Str.ofString "QUESTION_MARK")==some .local then some 187 else if names.lookup (Str.ofString "split_command")==some .local then some 894 else none
structure zo(C:Cx)(env:Env):Prop where
 kind:env.scope.kind=.function
 glob:env.globals=mainGlobals
 blt:env.builtins=builtinsNs
 loc:∀x,C.names.lookup x=some .local→env.kindOf x=some .local
 IH:∀x,C.names.lookup x=some .cell→env.kindOf x=some .cell∧∃c,env.cells.lookup x=some c∧env.locals<c
 NP:∀x,C.names.lookup x=some .free→(env.kindOf x=some .free∨env.kindOf x=some .cell)∧(x==("__classdict__":Str))=false
 Us:∀x,C.names.lookup x=some .free→∃c,env.cells.lookup x=some c
 Uo:∀x,C.names.lookup x=some .globalImplicit→env.kindOf x=some .globalImplicit
 RN:∀x k,C.names.lookup x=some k→(x==("__debug__":Str))=false
 Ur:C.names.lookup (Str.ofString ".0")=none→env.frame=some env.locals
 old:∀L,env.frame=some L→L≤env.locals
 Nr:C.names.lookup (Str.ofString ".0")=none→∀c,l5 C.names=some c→env.code=.ref c
 apart:∀x y c,env.cells.lookup x=some c→env.cells.lookup y=some c→env.locals<c→x=y
structure ER(ρ:Rh)(vs:List (Str×V))(env:Env)(h:Heap):Prop where
 high:N0≤env.locals
 out:env.locals∉ρ.all
 ns:∃m,h.Ns env.locals m∧∀x v,vs.lookup x=some v→env.kindOf x=some .local→∃y,m x=some y∧VR h ρ v y
 cls:∃o,h.get? env.locals=some o∧o.cls=.type (if env.frame=some env.locals then "frame" else "dict")
 cells:∀x c,env.cells.lookup x=some c→N0≤c∧c∉ρ.all∧c≠env.locals∧∃v,h.IsCell c v
 bound:∀x v,vs.lookup x=some v→(env.kindOf x=some .cell∨env.kindOf x=some .free)→∃c y,env.cells.lookup x=some c∧h.IsCell c (some y)∧VR h ρ v y
structure Rm(A:Around)(d:Nat):Prop where
 hd:d≠0→A.handled=none
 depth:A.depth+2*d+2<recursionLimit
 units:A.units+20*d+100<cLine
def Fz(ρ:Rh)(h h':Heap):Prop:=∀a o,h.get? a=some o→a∈ρ.z→a∉ρ.l→o.cls=.type "frame"→h'.get? a=some o
theorem Fz.trans(f:Fz ρ h h₁)(g:Fz ρ₁ h₁ h₂)(p:Rh.le ρ ρ₁)(hf:∀a∈ρ₁.l,a∉ρ.l→h.get? a=none):Fz ρ h h₂:=fun a o e hz hl hc=>
 g a o (f a o e hz hl hc) (p.2.symm▸hz) (fun m=>nomatch (hf a m hl).symm.trans e) hc
structure dB(w:World)(ρ:Rh)(env:Env)(s:Shared)(st':St)(ρ':Rh)(s':Shared):Prop where
 pre:Rh.le ρ ρ'
 sr:SR w ρ' st'.os s'.heap
 er:ER ρ' st'.vs env s'.heap
 keep:aU (Mu ρ env) s.heap s'.heap
 os:s'.os=s.os
 gens:AllBare s.gens→AllBare s'.gens
 fresh:∀a∈ρ'.l,a∉ρ.l→s.heap.get? a=none
 alive:∀a o,s.heap.get? a=some o→∃o',s'.heap.get? a=some o'
 fz:Fz ρ s.heap s'.heap
theorem Rh.le_refl(ρ):Rh.le ρ ρ:=⟨List.prefix_rfl,rfl⟩
theorem Rh.le_trans(h:Rh.le a b)(h':Rh.le b c):Rh.le a c:=⟨h.1.trans h'.1,h'.2.trans h.2⟩
theorem Rh.hV(ρ)(a):Rh.le ρ (ρ.add a):=⟨List.prefix_append _ _,rfl⟩
theorem Rh.dh{ρ:Rh}{a:Addr}(h:a∈ρ.l):a∈ρ.all:=gu _ h
theorem cg{ρ ρ':Rh}(p:Rh.le ρ ρ'){i:Nat}{a:Addr}(e:ρ.l[i]? =some a):ρ'.l[i]? =some a:=by
 refine bf p.1 fun t q=>?_;have hi:i<ρ.l.length:=(fY.mp e).1
 (refine RS q<|RW (List.getElem?_append_left hi) ?_);exact e
theorem we{ρ ρ':Rh}{h:Heap}(p:Rh.le ρ ρ')(hf:∀a∈ρ'.l,a∉ρ.l→h.get? a=none):lK ρ ρ' h:=fun a o e m=>by
 refine aA (b9.mp m) (fun m=>?_) fun m=>?_
 ·refine Classical.byContradiction fun q=>?_
  have:=hf a m fun z=>q (Rh.dh z);rw[e] at this;exact py this
 ·exact cY _ (p.2▸m)
theorem jY(h:o.cls=.none):cQ o=false:=by
 unfold cQ;exact RW h<|Bool.and_false _
theorem jZ{es ep}(h:o.data=.dict es ep):cQ o=false:=by
 unfold cQ;exact RW h rfl
theorem ot{v}(h:o.data=.cell v):cQ o=false:=by
 unfold cQ;exact RW h rfl
theorem Ht{w:World}{ρ:Rh}{vs:List (Str×V)}{env:Env}{h:Heap}(S:bU w h)(R:ER ρ vs env h):fF (Mu ρ env) ρ h:=by
 intro a o e m;refine aA m (fun m=>?_) fun qP=>aA qP (fun m=>?_) fun yZ=>aA yZ (fun m=>?_) fun m=>?_
 ·exact .inl (Rh.dh m)
 ·subst m
  refine aq R.ns fun _ aa _=>mU aa fun o' es ep e' d _=>?_;rw[e] at e';cases a7 e';exact .inr (jZ d)
 ·refine az m fun aa _=>bf aa fun n hn=>kT (R.cells n a hn) fun _ _ _ aa=>fJ aa fun v o' e' c=>?_
  rw[e] at e';cases a7 e';exact .inr (ot c)
 ·refine aq (S.tab a m) fun ps e' _=>?_
  rw[e] at e';cases a7 e';exact .inr (jY rfl)
section
variable{w:World}{ρ ρ₁ ρ₂:Rh}{env:Env}{s s₁ s₂:Shared}{st cu j6:St}
theorem dB.new(a:dB w ρ env s cu ρ₁ s₁):lK ρ ρ₁ s.heap:=we a.pre a.fresh
theorem dB.trans(a:dB w ρ env s cu ρ₁ s₁)(b:dB w ρ₁ env s₁ j6 ρ₂ s₂):dB w ρ env s j6 ρ₂ s₂ where
 pre:=Rh.le_trans a.pre b.pre
 sr:=b.sr
 er:=b.er
 keep:=a.keep.trans b.keep fun x o e m=>by
  refine aA m (fun m=>?_) fun m=>?_
  ·refine .inl (Classical.byContradiction fun q=>?_)
   have:=a.fresh x m q;rw[e] at this;exact py this
  ·exact .inr m
 os:=b.os.trans a.os
 gens:=fun g=>b.gens (a.gens g)
 fresh:=fun x m q=>by
  refine EM (x∈ρ₁.l) (fun hx=>?_) fun hx=>?_
  ·exact a.fresh x hx q
  ·have:=b.fresh x m hx
   cases e:s.heap.get? x with
   |none=>rfl
   |some o=>refine bf (a.alive x o e) fun o' e'=>?_;rw[this] at e';exact aJ e'
 alive:=fun x o e=>by
  exact bf (a.alive x o e) fun o' e'=>b.alive x o' e'
 fz:=a.fz.trans b.fz a.pre a.fresh
theorem dB.refl(S:SR w ρ st.os s.heap)(R:ER ρ st.vs env s.heap):dB w ρ env s st ρ s where
 pre:=Rh.le_refl ρ
 sr:=S
 er:=R
 keep:=aU.refl _ _
 os:=rfl
 gens:=id
 fresh:=fun _ m q=>absurd m q
 alive:=fun _ o e=>⟨o,e⟩
 fz:=fun _ _ e _ _ _=>e
theorem VR.post{v}{x}(r:VR s.heap ρ v x)(S:bU w s.heap)(R:ER ρ st.vs env s.heap)(a:dB w ρ env s cu ρ₁ s₁):VR s₁.heap ρ₁ v x:=
 r.keep a.keep (Ht S R) (fun _ _ e=>cg a.pre e) a.new
end
abbrev cq:Value→Shared→Prop:=fun _ _=>False
end
section
noncomputable def n6:Value→Bool
 |.type s=>s=="frame"
 |_=>false
theorem oU(h:n6 v=false):v≠.type "frame":=by
 rintro rfl;simp[n6] at h
def Qw(P:Params):Bool:=(bF P).all fun p=>decide (p.1<N0)&&(p.1 != 183)&&(p.1 != 890)&&!n6 p.2.cls
theorem LB(P):Qw P=true:=by kernel_rfl
theorem fV{α β:Type}[BEq β][LawfulBEq β]:∀{K:List (β×α)} {a:β} {o:α},K.lookup a=some o→(a,o)∈K
 |[],_,_,e=>aJ e
 |(b,x)::K,a,o,e=>by
  simp only[List.lookup] at e;split at e
  ·rename_i q;cases a7 e;exact RW (cO.mp q) cw
  ·exact dZ _ (fV e)
theorem wg(e:(bF P).lookup a=some o):a<N0∧a≠183∧a≠890∧o.cls≠.type "frame":=by
 have h:=eH.mp (LB P) _ (fV e);simp only[Bool.and_eq_true,decide_eq_true_eq,bne_iff_ne,ne_eq,Bool.not_eq_true'] at h;exact qU h.1.1.1 h.1.1.2 h.1.2 (oU h.2)
def WU(mu:Addr→Prop):Prop:=∀a,mu a→a<N0→a=183∨a=890
theorem bU.keep(S:bU w h)(k:aU mu h h')(lo:WU mu)
  (ht:∀a,a=183∨a=890→∃ps,h'.get? a=some {cls:=.none,data:=.fields ps}∧TriplesOk ps.toList):bU w h' where
 X:=fun a o e=>by
  exact kT (wg e) fun h1 h2 h3 h4=>k.get (S.X a o e) (fun m=>by refine aA (lo a m h1) (fun q=>?_) fun q=>?_<;>contradiction) h4
 b:=by
  exact aq S.b fun mb n r=>(aK mb (k.ns n (fun m=>by refine aA (lo _ m (by decide)) (fun q=>?_) fun q=>?_<;>simp[builtinsNs] at q)) r)
 lim:=by
  exact aq S.lim fun mc n r=>(aK mc (k.ns n (fun m=>by refine aA (lo _ m (by decide)) (fun q=>?_) fun q=>?_<;>simp[cStatics] at q)) r)
 tab:=ht
theorem LC(P):(bF P).lookup 947=some (S3 P):=by kernel_rfl
theorem bU.big(S:bU w h):N0≤h.objs.size:=fK (S.X 947 _ (LC _))
theorem bU.iw(S:bU w h)(k:aU mu h h')(lo:∀a,mu a→N0≤a):bU w h':=
 S.keep k (fun a m l=>absurd (lo a m) (Nat.not_le_of_lt l)) fun a q=>by
  refine aq (S.tab a q) fun ps e tr=>?_;exact aK ps (k.get e (fun m=>by have:=lo a m;rcases q with rfl|rfl<;>simp[N0] at this) (by simp)) tr
def Out(a:Addr):Prop:=(∀P:Params,a∉(bF P).map (·.1))∧a≠builtinsNs∧a≠cStatics∧a≠183∧a≠890
theorem DD(P Q):(bF P).map (·.1)=(bF Q).map (·.1):=by kernel_rfl
theorem j3{α:Type}:∀{K:List (Addr×α)} {a:Addr},a∈K.map (·.1)→∃o,K.lookup a=some o
 |[],_,m=>by cases m
 |(b,x)::K,a,m=>by
  refine EM (a=b) (fun q=>?_) fun q=>?_
  ·subst q;exact⟨x,by simp[List.lookup]⟩
  ·rw[List.map_cons,List.mem_cons] at m
   exact bf (j3 (m.resolve_left q)) fun o e=>⟨o,by exact RW gt<|RW (gY.mpr q) e⟩
theorem Out.high(h:N0≤a):Out a:=by
 refine Nv (fun P m=>?_) ?_ ?_ ?_ ?_
 ·exact bf (j3 m) fun o e=>absurd (wg e).1 (j9.mpr h)
 all_goals(rintro rfl;exact absurd h (by decide))
theorem Out.new(S:bU w h)(e:h.get? a=none):Out a:=by
 refine Nv (fun P m=>?_) ?_ ?_ ?_ ?_
 ·rw[DD P w.params] at m
  refine bf (j3 m) fun o q=>?_;rw[S.X a o q] at e;exact py e
 ·rintro rfl
  refine aq S.b fun _ aa _=>AL aa fun _ _ _ q _=>?_;rw[e] at q;exact aJ q
 ·rintro rfl
  refine aq S.lim fun _ aa _=>AL aa fun _ _ _ q _=>?_;rw[e] at q;exact aJ q
 ·rintro rfl
  refine aq (S.tab 183 (.inl rfl)) fun _ q _=>?_;rw[e] at q;exact aJ q
 ·rintro rfl
  refine aq (S.tab 890 (.inr rfl)) fun _ q _=>?_;rw[e] at q;exact aJ q
theorem bU.G9(S:bU w h)(k:aU mu h h')(lo:∀a,mu a→Out a):bU w h' where
 X:=fun a o e=>k.get (S.X a o e) (fun m=>(lo a m).1 w.params (rp (f:=(·.1)) (fV e))) (wg e).2.2.2
 b:=by
  exact aq S.b fun mb n r=>(aK mb (k.ns n (fun m=>(lo _ m).2.1 rfl)) r)
 lim:=by
  exact aq S.lim fun mc n r=>(aK mc (k.ns n (fun m=>(lo _ m).2.2.1 rfl)) r)
 tab:=fun a q=>by
  refine aq (S.tab a q) fun ps e tr=>(aK ps (k.get e (fun m=>?_) (by simp)) tr)
  rcases q with rfl|rfl
  ·exact(lo _ m).2.2.2.1 rfl
  ·exact(lo _ m).2.2.2.2 rfl
theorem r6(p:Rh.le ρ ρ'):∀(i:Nat) a,ρ.l[i]? =some a→ρ'.l[i]? =some a:=fun _ _ e=>cg p e
theorem AR.eX(k:aU mu h h')(hf:fF mu ρ h)(hρ:∀(i:Nat) a,ρ.l[i]? =some a→ρ'.l[i]? =some a)(hn:lK ρ ρ' h)(r:AR h ρ es d6):AR h' ρ' es d6:=by
 induction r with
 |nil=>exact .nil
 |cons q1 q2 _ ih=>exact .cons q1 (q2.keep k hf hρ hn) ih
theorem OR.eX(k:aU mu h h')(hf:fF mu ρ h)(hρ:∀(i:Nat) a,ρ.l[i]? =some a→ρ'.l[i]? =some a)(hn:lK ρ ρ' h)(hm:¬mu a)
  (r:OR w h ρ o a):OR w h' ρ' o a:=by
 induction o using O.casesOn with
 |list vs=>
  exact ez r fun ws n e l v=>(jN ws n (k.get e hm (by simp[b0])) l (v.keep k hf hρ hn))
 |dict es ep=>
  refine EL r fun bM e0 aa q0 l e1 v=>ez aa fun o EX e x r=>?_;exact IM bM e0 (jN o EX (k.get e hm (by rw[x.1];simp)) x r) q0 l e1 (v.keep k hf hρ hn)
 |attrs es=>
  exact ez r fun d6 n e l q=>(jN d6 n (k.get e hm (by simp)) l (q.eX k hf hρ hn))
 |inst C d=>
  exact fJ r fun dx sl e1 e2=>(pK dx sl (hρ _ _ e1) (k.get e2 hm (by simp)))
 |slots C d vs=>
  refine xz r fun dx sl e0 e l q=>(AK dx sl (hρ _ _ e0) (k.get e hm (by simp)) l (fun i hi=>?_))
  have:=q i hi;cases hv:(vs[i]?).join with
  |none=>rw[hv] at this;exact this
  |some v=>
   rw[hv] at this;exact aq this fun x e r=>(aK x e (r.keep k hf hρ hn))
 |set xs=>
  refine az r fun aa l=>AZ aa fun o es ep t ho hx r=>?_;exact⟨(UG o es ep t (k.get ho hm (by rw[hx.1];simp)) hx r),l⟩
 |AW=>exact k.get r hm (by simp)
 |iter l j=>
  exact aq r fun al e q=>(aK al (hρ _ _ e) (k.get q hm (by simp[nw])))
 |dead=>
  exact bf r fun vs q=>⟨vs,k.get q hm (by simp)⟩
 |wrap id s=>
  refine aq r fun b e q=>(aK b (hρ _ _ e) (k.get q hm ?_));unfold jD;split<;>simp
theorem OR.there(r:OR w h ρ o a):∃x,h.get? a=some x:=by
 induction o using O.casesOn with
 |list vs=>refine fJ r fun _ _ q _=>?_;exact⟨_,q⟩
 |dict es ep=>refine fJ r fun _ _ aa _=>fJ aa fun _ _ q _=>?_;exact⟨_,q⟩
 |attrs es=>refine fJ r fun _ _ q _=>?_;exact⟨_,q⟩
 |inst C d=>refine fJ r fun _ _ _ q=>?_;exact⟨_,q⟩
 |slots C d vs=>refine ez r fun _ _ _ q _=>?_;exact⟨_,q⟩
 |set xs=>refine az r fun aa _=>Xa aa fun _ _ _ _ q _=>?_;exact⟨_,q⟩
 |AW=>exact⟨_,r⟩
 |iter l j=>refine aq r fun _ _ q=>?_;exact⟨_,q⟩
 |dead=>refine bf r fun _ q=>?_;exact⟨_,q⟩
 |wrap id b=>refine aq r fun _ _ q=>?_;exact⟨_,q⟩
theorem SR.there{w:World}{ρ:Rh}{os:List O}{h:Heap}(S:SR w ρ os h){a:Addr}(m:a∈ρ.all):∃x,h.get? a=some x:=by
 refine aA (b9.mp m) (fun m=>?_) fun m=>?_
 ·refine bf (pS m) fun i aa=>bf aa fun hi e=>?_
  have h2:i<os.length:=S.len▸hi;exact(S.rep i _ _ (by(refine RW (dz hi)<|RW e rfl)) (dz h2)).there
 ·exact S.vr a m
theorem bC(h:Heap):h.get? h.objs.size=none:=by
 cases q:h.get? h.objs.size with
 |none=>rfl
 |some o'=>exact absurd (fK q) (Nat.lt_irrefl _)
theorem SR.fresh{w:World}{ρ:Rh}{os:List O}{h:Heap}(S:SR w ρ os h){a:Addr}(e:h.get? a=none):a∉ρ.all:=fun m=>by
 refine bf (S.there m) fun x q=>?_;rw[e] at q;exact aJ q
theorem SR.eX{w:World}{mu:Addr→Prop}{h h':Heap}{ρ ρ':Rh}{os cn:List O}(S:SR w ρ os h)(k:aU mu h h')(hf:fF mu ρ h)(hρ:∀(i:Nat) a,ρ.l[i]? =some a→ρ'.l[i]? =some a)(hn:lK ρ ρ' h)
  (ha:∀a∈ρ'.z,∃o',h'.get? a=some o')
  (st:bU w h') (hl:ρ'.l.length=cn.length) (hd:ρ'.l.Nodup) (hh:∀a∈ρ'.l,N0≤a)
  (hr:∀(i:Nat) a o,ρ'.l[i]? =some a→cn[i]? =some o→(ρ.l[i]? =some a∧os[i]? =some o∧¬mu a)∨OR w h' ρ' o a):SR w ρ' cn h' where
 aL:=st
 len:=hl
 nodup:=hd
 high:=hh
 vr:=ha
 rep:=fun i a o e1 e2=>by
  refine aA (hr i a o e1 e2) (fun aa=>gq aa fun q1 q2 q3=>?_) fun q=>?_
  ·exact(S.rep i a o q1 q2).eX k hf hρ hn q3
  ·exact q
theorem SR.keep{w:World}{mu:Addr→Prop}{h h':Heap}{ρ ρ':Rh}{os cn:List O}(S:SR w ρ os h)(k:aU mu h h')(hf:fF mu ρ h)(hp:Rh.le ρ ρ')(hn:lK ρ ρ' h)
  (ha:∀a o,h.get? a=some o→∃o',h'.get? a=some o')
  (st:bU w h') (hl:ρ'.l.length=cn.length) (hd:ρ'.l.Nodup) (hh:∀a∈ρ'.l,N0≤a)
  (hr:∀(i:Nat) a o,ρ'.l[i]? =some a→cn[i]? =some o→(ρ.l[i]? =some a∧os[i]? =some o∧¬mu a)∨OR w h' ρ' o a):SR w ρ' cn h':=
 S.eX k hf (r6 hp) hn (fun a m=>by
  rw[hp.2] at m;exact bf (S.vr a m) fun o e=>ha a o e) st hl hd hh hr
theorem ER.eX(R:ER ρ vs env h)(k:aU mu h h')(hf:fF mu ρ h)(hρ:∀(i:Nat) a,ρ.l[i]? =some a→ρ'.l[i]? =some a)(hn:lK ρ ρ' h)
  (hl:¬mu env.locals) (hc:∀x c,env.cells.lookup x=some c→¬mu c):ER ρ' vs env h':=by
 refine⟨R.high,fun q=>?_,?_,?_,fun x c m=>?_,fun x v e q=>?_⟩
 ·exact aq R.cls fun o e _=>R.out (hn _ _ e q)
 ·refine aq R.ns fun m n q=>(aK m (k.ns n hl) (fun x v e1 e2=>?_))
  exact aq (q x v e1 e2) fun y e3 r=>(aK y e3 (r.keep k hf hρ hn))
 ·exact aq R.cls fun o e c=>o9 (k.data e hl) fun o' e' _ c' _=>(aK o' e' (c'.trans c))
 ·exact kT (R.cells x c m) fun h1 h2 h3 aa=>fJ aa fun v o e d=>⟨h1,fun q=>h2 (hn _ _ e q),h3,v,k.cell (aK o e d) (hc x c m)⟩
 ·refine ez (R.bound x v e q) fun c y e1 e2 r=>(jN c y e1 (k.cell e2 ?_) (r.keep k hf hρ hn))
  exact hc x c e1
theorem ER.keep(R:ER ρ vs env h)(k:aU mu h h')(hf:fF mu ρ h)(hp:Rh.le ρ ρ')(hn:lK ρ ρ' h)
  (hl:¬mu env.locals) (hc:∀x c,env.cells.lookup x=some c→¬mu c):ER ρ' vs env h':=R.eX k hf (r6 hp) hn hl hc
section
variable{w:World}{ρ:Rh}{env:Env}{s:Shared}{st:St}
theorem bG(hk:∀b o,h.get? b=some o→h'.get? b=some o):aU (fun _=>False) h h':=aU.of_keeps hk
theorem bQ:fF (fun _=>False) ρ h:=fun _ _ _ m=>m.elim
theorem aO:lK ρ ρ h:=fun _ _ _ m=>m
theorem SR.grow{os:List O}{h h':Heap}(S:SR w ρ os h)(hk:∀b o,h.get? b=some o→h'.get? b=some o):SR w ρ os h':=
 S.keep (bG hk) bQ (Rh.le_refl ρ) aO (fun a o e=>⟨o,hk a o e⟩) (S.aL.iw (bG hk) fun _ m=>m.elim) S.len S.nodup S.high fun _ _ _ e1 e2=>.inl (cE e1 e2 id)
theorem VR.grow(r:VR h ρ v x)(hk:∀b o,h.get? b=some o→h'.get? b=some o):VR h' ρ v x:=
 r.keep (bG hk) bQ (fun _ _ e=>e) aO
theorem dB.grow(S:SR w ρ st.os s.heap)(R:ER ρ st.vs env s.heap)(hk:∀b o,s.heap.get? b=some o→h'.get? b=some o)(t)(e1:st'.os=st.os)(e2:st'.vs=st.vs):
  dB w ρ env s st' ρ {s with heap:=h',toks:=t}:=by
 refine⟨Rh.le_refl ρ,by refine RW e1 ?_;exact S.grow hk,by exact RW e2<|R.keep (bG hk) bQ (Rh.le_refl ρ) aO id (fun _ _ _=>id),(bG hk).mono (fun _ _ _ m=>m.elim),rfl,id,fun a m q=>absurd m q,fun a o' e=>⟨o',hk _ _ e⟩,fun _ _ e _ _ _=>hk _ _ e⟩
theorem yt(e:h.get? a=none):lK ρ (ρ.add a) h:=fun b o e' m=>by
 refine aA (b9.mp m) (fun m=>?_) fun m=>?_
 ·refine aA (b9.mp m) (fun m=>?_) fun m=>?_
  ·exact Rh.dh m
  ·rw[List.mem_singleton.mp m,e] at e';exact aJ e'
 ·exact cY _ m
theorem SR.added{os:List O}{h h':Heap}{a:Addr}(S:SR w ρ os h)(hk:∀b o,h.get? b=some o→h'.get? b=some o)(NJ:h.get? a=none)(hN:N0≤a){x:O}(r:OR w h' (ρ.add a) x a):SR w (ρ.add a) (os++[x]) h':=by
 have m7:a∉ρ.l:=fun m=>S.fresh NJ (Rh.dh m);refine S.keep (bG hk) bQ (Rh.hV _ _) (yt NJ) (fun a o e=>⟨o,hk a o e⟩) (S.aL.iw (bG hk) (fun _ m=>m.elim)) (by simp[Rh.add,S.len]) ?_ ?_ fun i b o' q1 q2=>?_
 ·refine(?_:(ρ.l++[a]).Nodup)
  rw[List.nodup_append];exact cE S.nodup (by simp) (fun b m c m'=>by refine RW (dw.mp m') ?_;rintro rfl;exact m7 m)
 ·intro b m
  refine aA (b9.mp m) (fun m=>?_) fun m=>?_
  ·exact S.high b m
  ·exact RW (dw.mp m) hN
 ·have q1:(ρ.l++[a])[i]? =some b:=q1
  refine EM (i<ρ.l.length) (fun hi=>?_) fun hi=>?_
  ·rw[List.getElem?_append_left hi] at q1
   rw[List.getElem?_append_left (S.len▸hi)] at q2;exact .inl (cE q1 q2 id)
  ·have AS:i=ρ.l.length:=by
    have:=(fY.mp q1).1;simp at this;lia
   subst AS;rw[List.getElem?_append_right (Nat.le_refl _)] at q1;rw[List.getElem?_append_right (by exact RW S.len<|Nat.le_refl _)] at q2
   simp at q1;rw[S.len] at q2;simp at q2;subst q1 q2;exact .inr r
end
end
section
theorem bc:ax=16777216:=rfl
theorem SR.at{w:World}{ρ:Rh}{os:List O}{h:Heap}(S:SR w ρ os h){i:Nat}{a:Addr}{o:O}(e1:ρ.l[i]? =some a)(e2:os[i]? =some o):OR w h ρ o a:=S.rep i a o e1 e2
theorem SR.num{w:World}{ρ:Rh}{os:List O}{h:Heap}(S:SR w ρ os h){i:Nat}{a:Addr}(e1:ρ.l[i]? =some a):∃o,os[i]? =some o:=by
 have:i<os.length:=S.len▸(fY.mp e1).1;exact⟨_,dz this⟩
theorem SR.same{w:World}{ρ:Rh}{os:List O}{h:Heap}(S:SR w ρ os h){i j:Nat}{a b:Addr}(e1:ρ.l[i]? =some a)(e2:ρ.l[j]? =some b):a=b↔i=j:=by
 constructor
 ·intro e
  subst e;refine bf (fY.mp e1) fun hi x=>?_;refine bf (fY.mp e2) fun hj y=>?_;exact(List.getElem_inj S.nodup).mp (x.trans y.symm)
 ·intro e;subst e;rw[e1] at e2;cases a7 e2;rfl
theorem eN{α:Type}:∀{xs:List (Option α)} {ys:List α},bL xs=some ys→ys.length=xs.length
 |[],_,e=>by cases a7 e;rfl
 |x::xs,ys,e=>by
  simp only[bL] at e
  induction x using Option.casesOn with
  |none=>exact aJ e
  |some x=>
   cases q:bL xs with
   |none=>rw[q] at e;exact aJ e
   |some zs=>rw[q] at e;cases a7 e;simp[eN q]
theorem j0{α:Type}:∀{xs:List (Option α)} {ys:List α},bL xs=some ys→∀(i:Nat) x,xs[i]? =some x→x=ys[i]?
 |[],_,e,i,x,h=>by simp at h
 |x::xs,ys,e,i,y,h=>by
  simp only[bL] at e
  induction x using Option.casesOn with
  |none=>exact aJ e
  |some x=>
   cases q:bL xs with
   |none=>rw[q] at e;exact aJ e
   |some zs=>
    rw[q] at e;cases a7 e
    induction i using Nat.casesAuxOn with
    |zero=>simp at h;simp[h]
    |succ i=>simp at h;simpa using j0 q i y h
theorem cb{v:V}{i:Int}(h:v.int? =some i):v=.int i:=by induction v using V.casesOn<;>first|(cases h;done)|(cases a7 h;rfl)
theorem c8{v:V}{x:Tx}(h:v.text? =some x):v=.str x:=by induction v using V.casesOn<;>first|(cases h;done)|(cases a7 h;rfl)
theorem oM{v:V}{b:Bool}(h:v.bool? =some b):v=.bool b:=by induction v using V.casesOn<;>first|(cases h;done)|(cases a7 h;rfl)
theorem ij{v:V}{xs:List V}(h:v.xJ =some xs):v=.seq false xs:=by
 induction v using V.casesOn with
 |seq k ys=>
  induction k using Bool.casesOn with
  |true=>exact aJ h
  |false=>cases a7 h;rfl
 |_=>exact aJ h
theorem nS{v:V}{T:String}(h:v.Rg =some T):v=.con (.type T):=by
 induction v using V.casesOn with
 |con c=>induction c using Value.casesOn<;>first|(cases h;done)|(cases a7 h;rfl)
 |_=>exact aJ h
theorem mE(p q):(ar p==ar q)=(p==q):=by
 refine EM (p=q) (fun h=>?_) fun h=>?_
 ·subst h;simp
 ·have h':ar p≠ar q:=fun e=>h (ia e)
  refine RW (gY.mpr h)<|RW (gY.mpr h') rfl
theorem C8(h:b0 k ws n=b0 k zs m):ws=zs:=by
 unfold b0 at h;injection h with _ _ h
 injection h with h
 exact List.toArray_inj h
section
variable{h:Heap}{ρ:Rh}{x:Value}{P:Value→Prop}
def VK(h:Heap)(ρ:Rh)(P:Value→Prop)(v:V):Prop:=V.casesOn v (P .none) (fun b=>P (.bool b)) (fun i=>∀t,P (.int i t)) (fun p=>∀t,p.length≤ax→P (.str (ar p) t))
 (fun b vs=>∀a ws n,a∉ρ.all→h.get? a=some (b0 b ws n)→ws.length≤ax→aM h ρ vs ws→P (.ref a))
 (fun a b=>∀d t u v,N0≤d→d∉ρ.all→IsRange h d a b 1 t u v→(0≤a∧a≤16777216)→(-16777216≤b∧b<16777216)→P (.ref d)) (fun i=>∀a,ρ.l[i]? =some a→P (.ref a))
 (fun i=>∀a d,ρ.l[i]? =some a→N0≤d→d∉ρ.all→h.get? d=some {cls:=.type "dict_values",data:=.fields #[.ref a]}→P (.ref d)) fun v=>gc v=true→P v
theorem VR.E(r:VR h ρ v x):VK h ρ P v→P x:=by
 induction r using VR.casesOn with
 |none=>exact id
 |bool=>exact id
 |int=>exact fun k=>k _
 |str _ _ h1=>exact fun k=>k _ h1
 |con _ h1=>exact fun k=>k h1
 |ref h1=>exact fun k=>k _ h1
 |view h1 h2 h3 h4=>exact fun k=>k _ _ h1 h2 h3 h4
 |mj h1 h2 h3 h4 h5=>exact fun k=>k _ _ _ _ h1 h2 h3 h4 h5
 |seq h2 h3 h4 h5 h6=>exact fun k=>k _ _ _ h2 h3 h4 ⟨h5,h6⟩
theorem VR.lV(r:VR h ρ .none x)(k:P .none):P x:=r.E k
theorem VR.tP(r:VR h ρ (.bool b) x)(k:P (.bool b)):P x:=r.E k
theorem VR.gx(r:VR h ρ (.int i) x)(k:∀t,P (.int i t)):P x:=r.E k
theorem VR.dS(r:VR h ρ (.str p) x)(k:∀t,p.length≤ax→P (.str (ar p) t)):P x:=r.E k
theorem VR.rI(r:VR h ρ (.con v) x)(k:gc v=true→P v):P x:=r.E k
theorem VR.gX(r:VR h ρ (.ref i) x)(k:∀a,ρ.l[i]? =some a→P (.ref a)):P x:=r.E k
theorem VR.qY(r:VR h ρ (.seq b vs) x)(k:∀a ws n,a∉ρ.all→h.get? a=some (b0 b ws n)→ws.length≤ax→aM h ρ vs ws→P (.ref a)):P x:=r.E k
theorem VR.Om(r:VR h ρ (.mj a b) x)(k:∀d t u v,N0≤d→d∉ρ.all→IsRange h d a b 1 t u v→(0≤a∧a≤16777216)→(-16777216≤b∧b<16777216)→P (.ref d)):P x:=r.E k
theorem VR.O4(r:VR h ρ (.view i) x)(k:∀a d,ρ.l[i]? =some a→N0≤d→d∉ρ.all→h.get? d=some {cls:=.type "dict_values",data:=.fields #[.ref a]}→P (.ref d)):P x:=r.E k
theorem aM.vN{P:List Value→Prop}(r:aM h ρ [] xs)(k:P []):P xs:=by
 induction xs using List.casesOn with
 |nil=>exact k
 |cons _ _=>cases r.1
theorem aM.pX{P:List Value→Prop}(r:aM h ρ (v::vs) xs)(k:∀y ys,VR h ρ v y→aM h ρ vs ys→P (y::ys)):P xs:=by
 induction xs using List.casesOn with
 |nil=>cases r.1
 |cons y ys=>exact k y ys (r.2 0 _ _ rfl rfl) ⟨Nat.succ.inj r.1,fun i a b e1 e2=>r.2 (i+1) a b e1 e2⟩
end
def Iu(ρ:Rh)(h:Heap)(L:Addr):Prop:=L∉ρ.all∧N0≤L∧∃o,h.get? L=some o∧o.cls=.type "frame"∧∃es ep,o.data=.dict es ep
def cL(ρ:Rh)(h:Heap)(l:List Env):Prop:=∀e∈l,e.scope.kind≠.module∧∃L,e.frame=some L∧Iu ρ h L
def Fr(A:Around)(ρ:Rh)(h:Heap):Prop:=∃l,A.frames=some l∧cL ρ h l
theorem Fr.to(f:Fr A ρ h)(k:∀L o,h.get? L=some o→L∉ρ.all→N0≤L→o.cls=.type "frame"→(∃es ep,o.data=.dict es ep)→L∉ρ'.all∧∃o',h'.get? L=some o'∧o'.cls=.type "frame"∧∃es ep,o'.data=.dict es ep):Fr A ρ' h':=by
 refine aq f fun l e x=>(aK l e (fun z hz=>?_));exact az (x z hz) fun q aa=>o9 aa fun L q2 h1 h2 aP=>kS aP fun o h3 h4 d=>az (k L o h3 h1 h2 h4 d) fun k1 k2=>⟨q,L,q2,k1,h2,k2⟩
def gK(c:Value)(h₀:Heap)(ρ:Rh)(h:Heap)(e:Value):Prop:=
 ∃a vs,e=.ref a∧Out a∧a∉ρ.all∧h₀.get? a=none∧1<vs.size∧dK c=true∧c≠.type "frame"∧(∃o,h.get? a=some o∧o.cls=c∧o.data=.fields vs)∧
  (vs[1]? =some .none∨∃tb y0,vs[1]? =some (.ref tb)∧Out tb∧tb∉ρ.all∧h₀.get? tb=none∧tb≠a∧3<y0.size∧∃o,h.get? tb=some o∧o.cls=.type "traceback"∧o.data=.fields y0)
theorem gK.tG(x:gK c h₀ ρ h e)(k:∀a o,h₁.get? a=some o→∃o',h₀.get? a=some o'):gK c h₁ ρ h e:=by
 have no:∀{a},h₀.get? a=none→h₁.get? a=none:=fun{a} e=>by
  cases q:h₁.get? a with
  |none=>rfl
  |some o=>refine bf (k a o q) fun o' q'=>?_;rw[e] at q';exact aJ q'
 refine N1 x fun a vs g1 g2 g3 g4 g5 g6 g7 g8 g9=>(RT a vs g1 g2 g3 (no g4) g5 g6 g7 g8 ?_);refine aA g9 (fun g9=>?_) fun aP=>EL aP fun tb y0 k1 k2 k3 k4 k5=>?_
 ·exact .inl g9
 ·exact .inr (IM tb y0 k1 k2 k3 (no k4) k5)
def W4(h:Heap)(ρ:Rh):Fl→Flow→Prop
 |.next,.next=>True
 |.brk,.brk=>True
 |.cont,.cont=>True
 |.ret v,.ret x=>VR h ρ v x
 |_,_=>False
structure aQ(w:World)(ρ:Rh)(s:Shared)(cn:List O)(ρ':Rh)(s':Shared):Prop where
 pre:Rh.le ρ ρ'
 sr:SR w ρ' cn s'.heap
 keep:aU (Nt ρ) s.heap s'.heap
 os:s'.os=s.os
 gens:AllBare s.gens→AllBare s'.gens
 fresh:∀a∈ρ'.l,a∉ρ.l→s.heap.get? a=none
 alive:∀a o,s.heap.get? a=some o→∃o',s'.heap.get? a=some o'
 fz:Fz ρ s.heap s'.heap
section
variable{w:World}{A:Around}{env:Env}{st st':St}{s s' s₁ s₂:Shared}{ρ ρ' ρ₁ ρ₂:Rh}{os cn Vo R3:List O}
theorem so(h1:N0≤a)(h2:a∉ρ.all):¬Nt ρ a:=fun q=>by
 refine aA q (fun q=>?_) fun qP=>aA qP (fun q=>?_) fun q=>?_
 ·exact h2 (Rh.dh q)
 ·subst q;simp[N0] at h1
 ·subst q;simp[N0] at h1
theorem By(S:bU w s.heap):fF (Nt ρ) ρ s.heap:=fun a o e m=>by
 refine aA m (fun m=>?_) fun m=>?_
 ·exact .inl (Rh.dh m)
 ·refine aq (S.tab a m) fun ps q _=>?_
  rw[e] at q;cases a7 q;exact .inr (jY rfl)
theorem aQ.new(P:aQ w ρ s cn ρ' s'):lK ρ ρ' s.heap:=we P.pre P.fresh
theorem aQ.post(P:aQ w ρ s cn ρ' s')(S:bU w s.heap)(R:ER ρ st.vs env s.heap):dB w ρ env s ⟨st.vs,cn⟩ ρ' s' where
 pre:=P.pre
 sr:=P.sr
 er:=R.keep P.keep (By S) P.pre P.new (so R.high R.out) fun x c m=>so (R.cells x c m).1 (R.cells x c m).2.1
 keep:=P.keep.mono fun a o _ m=>by
  refine aA m (fun m=>?_) fun qP=>aA qP (fun m=>?_) fun m=>?_
  ·exact .inl m
  ·exact .inr (.inr (.inr (.inl m)))
  ·exact .inr (.inr (.inr (.inr m)))
 os:=P.os
 gens:=P.gens
 fresh:=P.fresh
 alive:=P.alive
 fz:=P.fz
theorem aQ.trans(a:aQ w ρ s Vo ρ₁ s₁)(b:aQ w ρ₁ s₁ R3 ρ₂ s₂):aQ w ρ s R3 ρ₂ s₂ where
 pre:=Rh.le_trans a.pre b.pre
 sr:=b.sr
 keep:=a.keep.trans b.keep fun x o e m=>by
  refine aA m (fun m=>?_) fun m=>?_
  ·refine .inl (Classical.byContradiction fun q=>?_)
   have:=a.fresh x m q;rw[e] at this;exact py this
  ·exact .inr m
 os:=b.os.trans a.os
 gens:=fun g=>b.gens (a.gens g)
 fresh:=fun x m q=>by
  refine EM (x∈ρ₁.l) (fun hx=>?_) fun hx=>?_
  ·exact a.fresh x hx q
  ·have:=b.fresh x m hx
   cases e:s.heap.get? x with
   |none=>rfl
   |some o=>refine bf (a.alive x o e) fun o' e'=>?_;rw[this] at e';exact aJ e'
 alive:=fun x o e=>by
  exact bf (a.alive x o e) fun o' e'=>b.alive x o' e'
 fz:=a.fz.trans b.fz a.pre a.fresh
theorem aQ.grow(S:SR w ρ os s.heap)(hk:∀b o,s.heap.get? b=some o→h'.get? b=some o)(t):aQ w ρ s os ρ {s with heap:=h',toks:=t}:=
 ⟨Rh.le_refl ρ,S.grow hk,(bG hk).mono (fun _ _ _ m=>m.elim),rfl,id,fun a m q=>absurd m q,fun a o' e=>⟨o',hk _ _ e⟩,fun _ _ e _ _ _=>hk _ _ e⟩
theorem aQ.tok(S:SR w ρ os s.heap)(t):aQ w ρ s os ρ {s with toks:=t}:=aQ.grow S (fun _ _ e=>e) t
theorem aQ.added(S:SR w ρ os s.heap)(hk:∀b o,s.heap.get? b=some o→h'.get? b=some o)(NJ:s.heap.get? a=none)(hN:N0≤a)(t)
  (r:OR w h' (ρ.add a) x a):aQ w ρ s (os++[x]) (ρ.add a) {s with heap:=h',toks:=t}:=by
 refine⟨Rh.hV _ _,S.added hk NJ hN r,(bG hk).mono (fun _ _ _ m=>m.elim),rfl,id,fun b m q=>?_,fun b o' e=>⟨o',hk _ _ e⟩,fun _ _ e _ _ _=>hk _ _ e⟩;refine aA (b9.mp m) (fun m=>?_) fun m=>?_
 ·exact absurd m q
 ·exact RW (dw.mp m) NJ
theorem aQ.add(S:SR w ρ os s.heap)(o)(t)(r:OR w (s.heap.push o) (ρ.add s.heap.objs.size) x s.heap.objs.size):
  aQ w ρ s (os++[x]) (ρ.add s.heap.objs.size) {s with heap:=s.heap.push o,toks:=t}:=
 aQ.added S (fun _ _ e=>gp _ e) (bC _) S.aL.big t r
theorem kC(S:SR w ρ os s.heap)(a):(ρ.add a).l[os.length]? =some a:=by
 refine(?_:(ρ.l++[a])[os.length]? =_)
 (refine RW S.len.symm<|RW (rA (bI _)) ?_);simp
theorem aQ.put(S:SR w ρ os s.heap){i:Nat}{a:Addr}(hi:ρ.l[i]? =some a){h':Heap}(sb:Heap.SameBut a s.heap h')(t){x:O}(r:OR w h' ρ x a):aQ w ρ s (os.set i x) ρ {s with heap:=h',toks:=t}:=by
 have ha:a∈ρ.l:=db hi;have k:aU (fun b=>b=a) s.heap h':=aU.cC sb rfl;have hf:fF (fun b=>b=a) ρ s.heap:=fun b o _ m=>by subst m;exact .inl (Rh.dh ha)
 have IF:∀b o,s.heap.get? b=some o→∃o',h'.get? b=some o':=fun b o' e=>by
  refine EM (b=a) (fun hb=>?_) fun hb=>?_
  ·subst hb;exact r.there
  ·exact⟨o',(sb.2 b hb).trans e⟩
 refine⟨Rh.le_refl ρ,?_,k.mono (fun b _ _ m=>by subst m;exact .inl ha),rfl,id,fun a m q=>absurd m q,IF,fun b o e _ hl _=>(sb.2 b fun q=>hl (q▸ha)).trans e⟩
 refine S.keep k hf (Rh.le_refl ρ) aO IF (S.aL.iw k fun b m=>by subst m;exact S.high _ ha) (RW List.length_set S.len) S.nodup S.high fun j b o e1 e2=>?_
 refine EM (j=i) (fun hj=>?_) fun hj=>?_
 ·subst hj
  rw[hi] at e1;cases a7 e1;have hl:j<os.length:=S.len▸(fY.mp hi).1;rw[List.getElem?_set_self hl] at e2;cases a7 e2;exact .inr r
 ·rw[List.getElem?_set_ne (Ne.symm hj)] at e2
  refine .inl (cE e1 e2 (fun q=>hj ?_));subst q;exact(S.same e1 hi).mp rfl
end
structure mo(A:Around)(d:Nat):Prop where
 hd:d≠0→A.handled=none
 depth:A.depth+2*d+2<recursionLimit
 units:A.units+20*d+90<cLine
theorem Rm.c(r:Rm A d):mo A d:=⟨r.hd,r.depth,by have:=r.units;lia⟩
theorem Rm.in1(r:Rm A d):mo A.in1 d:=⟨r.hd,r.depth,by have:=r.units;refine RW (Around.in1_units _) ?_;lia⟩
structure Gr where
 w:World
 A:Around
 C:Cx
 env:Env
 s₀:Shared
 ρ₀:Rh
structure UJ(g:Gr):Prop where
 rm:Rm g.A g.C.d
 cx:zo g.C g.env
 top:g.env.frame=some g.env.locals→∃l,g.A.frames=some (g.env::l)
structure aV(g:Gr)(st:St)(s:Shared)(ρ:Rh):Prop where
 ok:UJ g
 fr:Fr g.A ρ s.heap
 P:dB g.w g.ρ₀ g.env g.s₀ st ρ s
theorem aV.S{g}{st}{s}{ρ}(N:aV g st s ρ):SR g.w ρ st.os s.heap:=N.P.sr
theorem aV.R{g}{st}{s}{ρ}(N:aV g st s ρ):ER ρ st.vs g.env s.heap:=N.P.er
def jS(o:Obj):Bool:=!(o.data.ctorIdx==3||o.data.ctorIdx==6)&&tz o.cls (fun s=>!(s=="frame")) (!(o.cls.ctorIdx==0))
theorem jb(h:jS o=true):o.cls≠.type "frame":=by
 intro e;unfold jS at h;rw[e,Bool.and_eq_true] at h;exact absurd h.2 (by decide)
structure Up(s:Shared)(ρ:Rh)(s':Shared)(ρ':Rh):Prop where
 v:∀{v x},VR s.heap ρ v x→VR s'.heap ρ' v x
 l:∀{i:Nat} {a},ρ.l[i]? =some a→ρ'.l[i]? =some a
 pl:∀{a o},s.heap.get? a=some o→a∉ρ.all→jS o=true→s'.heap.get? a=some o∧a∉ρ'.all
 al:∀{a o},s.heap.get? a=some o→∃o',s'.heap.get? a=some o'
 pz:∀{a o},s.heap.get? a=some o→a∈ρ.z→a∉ρ.l→N0≤a→o.cls≠.type "frame"→s'.heap.get? a=some o∧a∈ρ'.z∧a∉ρ'.l
theorem Up.refl(s:Shared)(ρ:Rh):Up s ρ s ρ:=⟨id,id,fun e h _=>⟨e,h⟩,fun e=>⟨_,e⟩,fun e h1 h2 _ _=>(cE e h1 h2)⟩
theorem Up.trans(a:Up s ρ s' ρ')(b:Up s' ρ' vB ρ''):Up s ρ vB ρ'':=
 ⟨fun r=>b.v (a.v r),fun e=>b.l (a.l e),fun e h1 h2=>b.pl (a.pl e h1 h2).1 (a.pl e h1 h2).2 h2,fun e=>(a.al e).elim fun _ e=>b.al e,fun e h1 h2 h3 h4=>have z:=a.pz e h1 h2 h3 h4;b.pz z.1 z.2.1 z.2.2 h3 h4⟩
theorem Up.vs{s s'}{ρ ρ'}(u:Up s ρ s' ρ'){vs}{xs}(r:aM s.heap ρ vs xs):aM s'.heap ρ' vs xs:=⟨r.1,fun i v x e1 e2=>u.v (r.2 i v x e1 e2)⟩
section
variable{g:Gr}{st st':St}{s s':Shared}{ρ ρ':Rh}
theorem aV.step(N:aV g st s ρ)(P:dB g.w ρ g.env s st' ρ' s'):aV g st' s' ρ'∧Up s ρ s' ρ':=by
 refine⟨⟨N.ok,N.fr.to fun L o h1 h2 h3 h4 ⟨es,ep,h5⟩=>⟨fun m=>h2 (P.new L o h1 m),?_⟩,N.P.trans P⟩,fun r=>r.post N.S.aL N.R P,fun e=>cg P.pre e,fun{a o} e h1 h2=>⟨?_,fun m=>h1 (P.new a o e m)⟩,fun e=>P.alive _ _ e,fun{a o} e h1 h2 h3 h4=>(cE (P.keep.get e (fun q=>?_) h4) (by rw[P.pre.2];exact h1) (fun m=>by have:=P.fresh a m h2;rw[e] at this;exact py this))⟩
 ·refine EM (Mu ρ g.env L) (fun q=>?_) fun q=>?_
  ·refine aA q (fun q=>?_) fun qP=>aA qP (fun q=>?_) fun yZ=>aA yZ (fun q=>?_) fun q=>?_
   ·exact absurd (Rh.dh q) h2
   ·refine aq N.R.cls fun o1 e1 c1=>?_
    rw[←q,h1] at e1;cases a7 e1;refine aq P.er.cls fun o2 e2 c2=>aq P.er.ns fun _ aa _=>mU aa fun o3 EX sZ e3 d3 _=>?_;rw[←q] at e2 e3;rw[e2] at e3;cases a7 e3;exact⟨o2,e2,c2.trans (c1.symm.trans h4),_,_,d3⟩
   ·refine az q fun aa _=>bf aa fun n hn=>kT (N.R.cells n L hn) fun _ _ _ aa=>fJ aa fun v o' q1 q2=>?_
    rw[h1] at q1;cases a7 q1;rw[h5] at q2;cases q2
   ·refine aq (N.S.aL.tab L q) fun ps q _=>?_
    rw[h1] at q;cases a7 q;cases h5
  ·exact o9 (P.keep.data h1 q) fun o' q1 q2 q3 _=>⟨o',q1,q3.trans h4,es,ep,q2.trans h5⟩
 ·refine P.keep.get e (fun q=>?_) (jb h2)
  unfold jS at h2;refine aA q (fun q=>?_) fun qP=>aA qP (fun q=>?_) fun yZ=>aA yZ (fun q=>?_) fun q=>?_
  ·exact h1 (Rh.dh q)
  ·refine aq N.R.ns fun _ aa _=>mU aa fun o3 EX sZ e3 d3 _=>?_
   rw[←q,e] at e3;cases a7 e3;rw[d3] at h2;exact c0 h2
  ·refine az q fun aa _=>bf aa fun n hn=>kT (N.R.cells n a hn) fun _ _ _ aa=>fJ aa fun v o' q1 q2=>?_
   rw[e] at q1;cases a7 q1;rw[q2] at h2;exact c0 h2
  ·refine aq (N.S.aL.tab a q) fun ps q _=>?_
   rw[e] at q;cases a7 q;exact c0 h2
 ·refine aA q (fun q=>?_) fun qP=>aA qP (fun q=>?_) fun yZ=>aA yZ (fun q=>?_) fun q=>?_
  ·exact h2 q
  ·exact N.R.out (q▸cY _ h1)
  ·exact az q fun aa _=>bf aa fun n hn=>(N.R.cells n a hn).2.1 (cY _ h1)
  ·refine aA q (fun q=>?_) fun q=>?_<;>(subst q;exact absurd h3 (by decide))
end
end
section
open SeqAt
def UK(A:Around)(s:Shared)(x y:Value)(r:Bool):Prop:=SeqAt.EqAt A s x y r∧SeqAt.RcAt A s x y r∧SeqAt.RcNeAt A s x y (!r)
section
variable{s:Shared}{ρ:Rh}{A:Around}{a b:V}{x y:Value}{r:Bool}
theorem Cm(e:RL a b=some r)(ra:VR s.heap ρ a x)(rb:VR s.heap ρ b y):UK A s x y r:=by
 induction a using V.casesOn with
 |none=>
  apply ra.lV
  induction b using V.casesOn with
  |none=>cases a7 e;apply rb.lV;exact(cE (EqAt.same _) RcAt.none_none RcNeAt.none_none)
  |str q=>cases a7 e;apply rb.dS;intro _ _;exact(cE (EqAt.none_str _ _) (RcAt.none_str _ _) (RcNeAt.none_str _ _))
  |_=>exact aJ e
 |bool p=>
  refine aq (eG.mp e) fun q h aa=>?_;subst aa;cases oM h;apply ra.tP;apply rb.tP;exact cE (EqAt.bool_bool _ _) (RcAt.bool_bool _ _) (RcNeAt.bool_bool _ _)
 |int p=>
  refine aq (eG.mp e) fun q h aa=>?_;subst aa;cases cb h;apply ra.gx;intro _;apply rb.gx;intro _;exact cE (EqAt.int_int _ _ _ _) (RcAt.int_int _ _ _ _) (RcNeAt.int_int _ _ _ _)
 |str p=>
  apply ra.dS;intro _ _
  induction b using V.casesOn with
  |none=>cases a7 e;apply rb.lV;exact(cE (EqAt.str_none _ _) (RcAt.str_none _ _) (RcNeAt.str_none _ _))
  |str q=>
   cases a7 e;refine RS (mE _ _) ?_;apply rb.dS;intro _ _;exact(cE (EqAt.str_str _ _ _ _) (RcAt.str_str _ _ _ _) (RcNeAt.str_str _ _ _ _))
  |_=>exact aJ e
 |_=>exact aJ e
theorem VR.E8(r:VR h ρ (.str p) x):∃t,x=.str (ar p) t:=by apply r.dS;intro t _;exact⟨t,rfl⟩
theorem VR.I2(r:VR h ρ .none x):x=.none:=by apply r.lV;rfl
theorem VR.Jm{b:Bool}(r:VR h ρ (.bool b) x):x=.bool b:=by apply r.tP;rfl
theorem VR.OJ(r:VR h ρ (.int i) x):∃t,x=.int i t:=by apply r.gx;intro t;exact⟨t,rfl⟩
theorem uG(e:RL a b=some r)(ra:VR s.heap ρ a x)(rb:VR s.heap ρ b x):r=true:=by
 induction a using V.casesOn with
 |none=>
  induction b using V.casesOn with
  |none=>cases a7 e;rfl
  |str q=>
   refine bf rb.E8 fun t q=>?_;rw[ra.I2] at q;cases q
  |_=>exact aJ e
 |bool p=>
  refine aq (eG.mp e) fun q h aa=>?_;subst aa;cases oM h;have z:=ra.Jm.symm.trans rb.Jm;cases z;simp
 |int p=>
  refine aq (eG.mp e) fun q h aa=>?_;subst aa;cases cb h;refine bf ra.OJ fun t e1=>bf rb.OJ fun u e2=>?_;cases e1.symm.trans e2;simp
 |str p=>
  refine bf ra.E8 fun t e1=>?_
  induction b using V.casesOn with
  |none=>rw[rb.I2] at e1;cases e1
  |str q=>
   cases a7 e;refine bf rb.E8 fun u e2=>?_;injection e1.symm.trans e2 with VZ Xr
   refine RW (ia VZ) ?_;simp
  |_=>exact aJ e
 |_=>exact aJ e
theorem VR.dP(r:VR h ρ (.seq k vs) x):∃a ws n,x=.ref a∧h.get? a=some (b0 k ws n)∧ws.length≤ax∧aM h ρ vs ws:=by
 apply r.qY;intro a ws n _ h3 h4 h5;exact(JA a ws n rfl h3 h4 h5)
theorem qB(e:(if vs.length==us.length then(bL (List.zipWith (qT n) vs us)).map (·.all id) else some false)=some r):
  (vs.length≠us.length∧r=false)∨(vs.length=us.length∧∃rs:List Bool,rs.length=vs.length∧r=rs.all id∧∀(j:Nat) (h1:j<vs.length) (h2:j<us.length) (h3:j<rs.length),qT n vs[j] us[j]=some rs[j]):=by
 refine EM (vs.length=us.length) (fun hl=>?_) fun hl=>?_
 ·rw[if_pos (by simpa using hl)] at e
  refine aq (eG.mp e) fun rs q aa=>?_;subst aa;have IC:=eN q;rw[List.length_zipWith] at IC;refine .inr ⟨hl,rs,by lia,rfl,fun j h1 h2 h3=>?_⟩
  have h7:=j0 q j (qT n vs[j] us[j]) (by(refine RW List.getElem?_zipWith ?_);simp[h1,h2])
  rw[List.getElem?_eq_getElem h3] at h7;exact h7
 ·rw[if_neg (by simpa using hl)] at e
  cases a7 e;exact .inl ⟨hl,rfl⟩
theorem DU:∀(n:Nat) (a b:V) (x:Value) (r:Bool),VR s.heap ρ a x→VR s.heap ρ b x→qT n a b=some r→r=true:=by
 intro n
 induction n with
 |zero=>intro a b x r ra rb e;exact uG e ra rb
 |succ n ih=>
  intro a b x r ra rb e
  induction a using V.casesOn with
  |seq k vs=>
   induction k using Bool.casesOn with
   |true=>exact aJ e
   |false=>
    refine aq (dI.mp e) fun us hu e=>?_;cases ij hu;refine vF ra.dP fun ad ws n1 aa h1 h2 h3=>?_;subst aa;refine vF rb.dP fun bd zs n2 hx g1 g2 g3=>?_;cases hx;rw[h1] at g1;cases C8 (a7 g1);rcases qB e with⟨c1,_⟩|⟨c1,rs,c2,rfl,c3⟩
    ·exact absurd (h3.1.trans g3.1.symm) c1
    ·rw[List.all_eq_true]
     intro t ht;refine bf (pS ht) fun i aa=>bf aa fun hi aP=>?_;subst aP;have hw:i<ws.length:=by have:=h3.1;exact(this▸c2▸hi)
     exact ih _ _ ws[i] _ (h3.2 i _ _ (dz ((c2▸hi))) (dz hw)) (g3.2 i _ _ (dz ((c1▸c2▸hi))) (dz hw)) (c3 i ((c2▸hi)) ((c1▸c2▸hi)) hi)
  |_=>refine uG ?_ ra rb;exact e
theorem wn:∀(n:Nat) (a b:V) (x y:Value) (r:Bool) (A:Around),qT n a b=some r→VR s.heap ρ a x→VR s.heap ρ b y→A.units+n<cLine→UK A s x y r:=by
 intro n
 induction n with
 |zero=>intro a b x y r A e ra rb _;exact Cm e ra rb
 |succ n ih=>
  intro a b x y r A e ra rb hu
  induction a using V.casesOn with
  |seq k vs=>
   induction k using Bool.casesOn with
   |true=>exact aJ e
   |false=>
    have QD:x=y→r=true:=fun q=>by subst q;exact DU (n+1) _ _ _ r ra rb e
    refine aq (dI.mp e) fun us VQ e=>?_;cases ij VQ;refine vF ra.dP fun ad ws n1 aa h1 h2 h3=>?_;subst aa;refine vF rb.dP fun bd zs n2 aa g1 g2 g3=>?_;subst aa;have hl:s.heap.IsList ad ws.toArray:=⟨_,h1,rfl,_,rfl⟩;have hb:s.heap.IsList bd zs.toArray:=⟨_,g1,rfl,_,rfl⟩;have two:RcAt A s (.ref ad) (.ref bd) r∧RcNeAt A s (.ref ad) (.ref bd) (!r):=by
     rcases qB e with⟨c1,rfl⟩|⟨c1,rs,c2,rfl,c3⟩
     ·have c:(ws.toArray.size != zs.toArray.size)=true:=by
       have:=h3.1;have:=g3.1
       (rewrite [bne_iff_ne];refine RW fh<|RW fh ?_);lia
      exact⟨RcAt.lists_lengths hl hb c ((dy (iL _ _) hu)),RcNeAt.lists_lengths hl hb c ((dy (iL _ _) hu))⟩
     ·have c:ws.toArray.size=zs.toArray.size:=by
       have:=h3.1;have:=g3.1;refine RW fh<|RW fh ?_;lia
      have k8:(List.range ws.toArray.size).all (fun i=>rs[i]?.getD true)=rs.all id:=by
       rw[Bool.eq_iff_iff,List.all_eq_true,List.all_eq_true];constructor
       ·intro h t ht
        refine bf (pS ht) fun i aa=>bf aa fun hi aP=>?_;subst aP;have:=h i (gE.mpr (by((refine RW fh ?_);rewrite [←h3.1]);exact(c2▸hi)))
        rw[List.getElem?_eq_getElem hi] at this;exact this
       ·intro h i hi
        have hi:=gE.mp hi;rw[List.size_toArray,←h3.1] at hi;refine RW (dz ((c2▸hi))) ?_;exact h _ (lU _)
      have each:∀j (h1:j<ws.toArray.size) (h2:j<zs.toArray.size),EqAt A.in1 s ws.toArray[j] zs.toArray[j] (rs[j]?.getD true):=fun j j1 j2=>by
       rw[List.size_toArray] at j1 j2;have q1:j<vs.length:=by rw[h3.1];exact j1
       have q2:j<us.length:=by rw[g3.1];exact j2
       refine RW (dz ((c2▸q1):j<rs.length)) ?_;exact(ih _ _ _ _ _ A.in1 (c3 j q1 q2 ((c2▸q1))) (h3.2 j _ _ (dz q1) (dz j1)) (g3.2 j _ _ (dz q2) (dz j2)) (by refine RW (Around.in1_units _) ?_;lia)).1
      exact RS k8 ⟨RcAt.lists hl hb c ((dy (iL _ _) hu)) each,RcNeAt.lists hl hb c ((dy (iL _ _) hu)) each⟩
    refine⟨?_,two⟩;refine EM (ad=bd) (fun EW=>?_) fun EW=>?_
    ·subst EW
     exact RW (QD rfl)<|EqAt.same _
    ·exact EqAt.of_refs EW two.1
  |_=>refine Cm ?_ ra rb;exact e
end
end
section
noncomputable abbrev dq:String:="collections.deque"
theorem qG:typeLookup (.type dq) "__bool__"=pure none:=by refine RW (iK _ _)<|RW iM ?_;kernel_rfl
theorem r9:Slot dq "__len__" "collections.deque.__len__":=
 .of (owner:=dq) (n:="__len__") (by refine RW (iK _ _)<|RW iM ?_;kernel_rfl) (by decide+kernel) (by decide+kernel) (by decide+kernel)
  (by first|exact .inl (by(refine RW vK ?_);kernel_rfl)|exact .inr (by rw[Manifest.find?_eq_fast];kernel_rfl)) (by refine RW (jO _ _) ?_;kernel_rfl)
theorem HE:Slot dq "__init__" "collections.deque.__init__":=
 .of (owner:=dq) (n:="__init__") (by refine RW (iK _ _)<|RW iM ?_;kernel_rfl) (by decide+kernel) (by decide+kernel) (by decide+kernel)
  (by first|exact .inl (by(refine RW vK ?_);kernel_rfl)|exact .inr (by rw[Manifest.find?_eq_fast];kernel_rfl)) (by refine RW (jO _ _) ?_;kernel_rfl)
theorem sT:entryFor table "collections.deque.__len__"=some Builtin.«collections.deque.__len__»:=nh (by kernel_rfl)
theorem pI:entryFor table "collections.deque.__init__"=some Builtin.«collections.deque.__init__»:=nh (by kernel_rfl)
theorem sS:entryFor table "collections.deque.__new__"=some Builtin.«collections.deque.__new__»:=nh (by kernel_rfl)
theorem Cs:mroOf (.type dq)=pure [.type dq,.type "object"]:=by refine RW (mroOf_type _) ?_;kernel_rfl
theorem pG:typeLookup (.type dq) "__new__"=pure (some (.builtin "collections.deque.__new__")):=by refine RW (iK _ _)<|RW iM ?_;kernel_rfl
theorem Am:TypeCalled dq "collections.deque.__new__" "collections.deque.__init__":=
 ⟨by decide+kernel,by(refine RW vK ?_);decide+kernel,(s7 _ _ Cs),madeBy_type Cs pG (by decide+kernel),by decide+kernel,by refine RW (jO _ _) ?_;kernel_rfl,HE⟩
theorem vi:checkTypeCall dq ⟨[],[]⟩=pure ():=by kernel_rfl
theorem xa:checkBuiltinCall "collections.deque.__new__" ⟨[.type dq],[]⟩=pure ():=by
 unfold checkBuiltinCall;refine RW builtinKind_eq_fast ?_;kernel_rfl
theorem Mx:isSubtype (.type dq) (.type dq)=pure true:=by refine RW (jO _ _) ?_;kernel_rfl
theorem qF:Manifest.owners.lookup (String.ofList (['e','u','q','e','d','.','s','n','o','i','t','c','e','l','l','o','c']:List Char).reverse)=some Manifest.sig_collections_deque:=by kernel_rfl
theorem vj(a):argsOk "collections.deque.__len__" ⟨[a],[]⟩:=by
 unfold argsOk;(refine RW (signature?_of (id:="collections.deque.__len__") (n:=['_','_','n','e','l','_','_']) (o:=['e','u','q','e','d','.','s','n','o','i','t','c','e','l','l','o','c']) (by kernel_rfl) qF) ?_);kernel_rfl
theorem sU(a):argsOk "collections.deque.__init__" ⟨[a],[]⟩:=by
 unfold argsOk;(refine RW (signature?_of (id:="collections.deque.__init__") (n:=['_','_','t','i','n','i','_','_']) (o:=['e','u','q','e','d','.','s','n','o','i','t','c','e','l','l','o','c']) (by kernel_rfl) qF) ?_);kernel_rfl
theorem Al:typeHasDict (.type dq)=false:=by
 refine(?_:(Manifest.find? dq).elim false (·.hasDict)=false)
 (refine RW vK ?_);kernel_rfl
def AV:Obj:={cls:=.type dq,data:=.fields #[.none,rawInt 0]}
section
variable{prog:Program}{w:World}{A:Around}{E:Value→Shared→Prop}{s:Shared}
theorem sR:Meets (Builtin.«collections.deque.__new__» ⟨[.type dq],[]⟩) (fun _ R s=>R (.ok (.ret (.ref s.heap.objs.size))) {s with heap:=s.heap.push AV}):=by
 refine Meets.of_wp fun prog w A R s h=>?_;unfold Builtin.«collections.deque.__new__» Builtin.Deque.newArgs Builtin.Deque.new;have vP:=Mx;have hd:=Al;obtain⟨hp,g,d,tk,os⟩:=s;dsimp only
 wp_walk
 refine kU (show isSubtype (.type dq) (.type Builtin.Deque.ty)=pure true from vP)<|aS<|an<|RW (au (show¬(#[]:Array Value).size>sizeLine from q8 _)) ?_;simp only[hd,Bool.false_eq_true,if_false];refine an (aS ?_);simp only[newObj];refine an (wpAny_alloc (aS ?_));exact aS (aK _ rfl h)
theorem pH(a):Meets (Builtin.«collections.deque.__init__» ⟨[.ref a],[]⟩) (fun _ R s=>s.heap.get? a=some AV∧∀h',h'.get? a=some AV→Heap.SameBut a s.heap h'→R (.ok (.ret .none)) {s with heap:=h'}):=by
 refine Meets.of_wp fun prog w A R s h=>az h fun ha h=>?_;unfold Builtin.«collections.deque.__init__»;dsimp only[List.length_nil,List.take_zero];refine RW (au (by decide)) ?_
 simp only[List.zipIdx_nil,List.forIn_nil,List.lookup_nil];refine an (aS (an (aS (an (aS ?_)))));refine an (wpAny_setField ha (vs:=#[.none,rawInt 0]) rfl (by decide) ?_)
 have e1:=gZ (Obj.mapFields (·.setIfInBounds 0 Value.none)) ha rfl;have e2:Obj.mapFields (·.setIfInBounds 0 Value.none) AV=AV:=rfl;rw[e2] at e1;unfold Builtin.Deque.clear Builtin.Deque.items;refine an (an (an (wpAny_fieldsOf e1 rfl ?_)));exact aS<|RW (au (by decide))<|aS (aS (aK _ rfl (h _ e1 (gF ..))))
theorem xe(h:∀h',h'.get? s.heap.objs.size=some AV→(∀b o,s.heap.get? b=some o→h'.get? b=some o)→Q (.ref s.heap.objs.size) {s with heap:=h'}):
  wpAny (model prog w) A (call (.type dq) []) Q E s:=by
 refine callType_meets (Q₁:=fun obj s₁=>obj=.ref s.heap.objs.size∧s₁={s with heap:=s.heap.push AV}) Am vi xa sS pI sR ⟨rfl,rfl⟩ ?_
 rintro obj s₁ ⟨rfl,rfl⟩;have hS:(s.heap.push AV).get? s.heap.objs.size=some AV:=dm _ rfl;refine⟨(aK _ hS rfl),sU _,_,pH _,hS,fun h' e sb=>⟨rfl,h h' e fun b o eb=>?_⟩⟩;exact(sb.2 b (kW (fK eb))).trans (gp _ eb)
theorem zX{Q:Value→Shared→Prop}(ha:s.heap.get? a=some AV)(h:Q (.int 0 (s.toks+1)) {s with toks:=s.toks+1+1}):
  wpAny (model prog w) A (Builtin.«len» ⟨[.ref a],[]⟩) (fun fin s'=>∃r,fin=.done (.ret r)∧Q r s') E s:=by
 have hT:s.TypeIs (.ref a) dq:=(aK _ ha rfl);unfold Builtin.«len»;refine an (m:=oneArg "len" _) (aS ?_);refine an (m:=callSpecial? (.ref a) "__len__") (wpAny_callSpecial?_slot (name:=Str.ofString "__len__") hT r9
  (wpAny_call_entry r9 hT sT ?_ (vj _)))
 ·refine(?_:wpAny _ _ (do retInt (←Builtin.Deque.size (.ref a))) _ _ s)
  unfold Builtin.Deque.size;refine an (an (wpAny_fieldsOf ha rfl ?_));refine aS (an (wpAny_mkInt (aS (aK _ rfl ?_))));refine an (cX (aS ?_));refine an (wpAny_letGo ?_);exact an (wpAny_mkInt (aS (aK _ rfl h)))
theorem sG{Q:Bool→Shared→Prop}(ha:s.heap.get? a=some AV)(h:Q false {s with toks:=s.toks+1+1}):wpAny (model prog w) A (truthy (.ref a)) Q E s:=by
 have hT:s.TypeIs (.ref a) dq:=(aK _ ha rfl);have key:wpAny (model prog w) A (runValue (.builtin "len" ⟨[.ref a],[]⟩)) (fun r s'=>r=.int 0 (s.toks+1)∧Q false s') E s:=by
  refine wpAny_runValue (lT entry_len ?_);exact RW (pT plain_len _)<|bw (zX (Q:=fun r s'=>r=.int 0 (s.toks+1)∧Q false s') ha ⟨rfl,h⟩)
   (fun fin s' h'=>by(refine aq h' fun r aa hq=>?_;clear h';subst aa);exact hq) fun _ _ e=>e
 unfold truthy
 first
  |refine an (wpAny_callSpecial?_none (name:=Str.ofString "__bool__") hT qG ?_)
  |refine an (aS (an (wpAny_callSpecial?_none (name:=Str.ofString "__bool__") hT qG ?_)))
 first
  |refine an (wpAny_specialOf (name:=Str.ofString "__len__") hT r9.lookup ?_)
  |refine an (aS (an (wpAny_specialOf (name:=Str.ofString "__len__") hT r9.lookup ?_)))
 first
  |exact an (bw key (fun r s' h'=>by(refine az h' fun aa hq=>?_;clear h';subst aa);exact aS hq) fun _ _ e=>e)
  |exact an (aS (an (bw key (fun r s' h'=>by obtain⟨rfl,hq⟩:=h';exact aS hq) fun _ _ e=>e)))
end
end
section
section
variable{w:World}{A:Around}{E:Value→Shared→Prop}{s:Shared}{ρ:Rh}{os:List O}
theorem i4(S:SR w ρ os s.heap)(r:VR s.heap ρ v x)(e:gz os v=some b)(h:∀t,Q b {s with toks:=t}):
  wpAny (model prog w') A (truthy x) Q E s:=by
 have lst:∀{k:Bool} {vs:List V} {ws:List Value} {a:Addr} {n:Nat},s.heap.get? a=some (b0 k ws n)→ws.length≤ax→aM s.heap ρ vs ws→some (!vs.isEmpty)=some b→wpAny (model prog w') A (truthy (.ref a)) Q E s:=by
  intro k vs ws a n h3 h4 h5 e;have hb:(!ws.toArray.isEmpty)=b:=by
   refine RS (a7 e) ?_;have:=h5.1
   induction ws using List.casesOn<;>induction vs using List.casesOn<;>first|rfl|cases this
  have hl:ws.toArray.size≤16777216:=RW fh h4
  induction k using Bool.casesOn with
  |false=>exact wpAny_truthy_list (items:=ws.toArray) ⟨_,h3,rfl,_,rfl⟩ (by lia) (RW hb<|h _)
  |true=>exact ktl_truthy (items:=ws.toArray) h3 (by lia) (RW hb<|h _)
 induction v using V.casesOn with
 |none=>cases a7 e;apply r.lV;exact truthy_none (h s.toks)
 |bool c=>cases a7 e;apply r.tP;exact wpAny_truthy_bool (h s.toks)
 |int i=>cases a7 e;apply r.gx;intro t;exact truthy_int (h s.toks)
 |str p=>
  apply r.dS;intro t l;have hl:=bh p;refine P.truthy_str (by refine RW hl ?_;rw[bc] at l;lia) ?_
  have:(((ar p).length:Int) != 0)=b:=by
   ((refine RW hl ?_);rewrite [←Option.some.inj e]);induction p using List.casesOn<;>rfl
  exact RW this<|h _
 |seq k vs=>apply r.qY;intro a ws n _ h3 h4 h5;exact lst h3 h4 h5 e
 |ref i=>
  apply r.gX;intro a hi;refine bf (S.num hi) fun o ho=>?_
  replace e:(match os[i]? with
   |some (.list vs)=>some !vs.isEmpty
   |some .AW=>some false
   |_=>none)=some b:=e
  rw[ho] at e;have R:=S.at hi ho
  induction o using O.casesOn with
  |list vs=>
   exact ez R fun ws n h3 h4 h5=>lst h3 h4 h5 e
  |AW=>cases a7 e;exact sG R (h _)
  |_=>exact aJ e
 |_=>exact aJ e
theorem z8(e:bL (ys.map fun y=>qT 8 y v)=some rs)(ra:VR s.heap ρ v x)(rb:VR s.heap ρ (.seq k ys) y)(hu:A.units+9<cLine):
  ∃a items,∃f:Value→Bool,y=.ref a∧(k=false→s.heap.IsList a items)∧(k=true→s.heap.IsTuple a items)∧(∀z,z∈items→EqAt A.in1 s z x (f z))∧items.any f=rs.any id:=by
 cases rb with
 |@seq _ _ ws a n h2 h3 h4 h5 h6=>
  have hl:=eN e;rw[List.length_map] at hl;have he:∀(i:Nat) (hi:i<ws.length),EqAt A.in1 s ws[i] x (rs[i]'((hl▸h5▸hi))):=fun i hi=>by
   have hv:i<ys.length:=(h5▸hi);have h7:=j0 e i (qT 8 ys[i] v) (by(refine RW pi ?_);simp[hv])
   rw[List.getElem?_eq_getElem ((hl▸hv):i<rs.length)] at h7;exact(wn 8 _ _ _ _ _ _ h7 (h6 i _ _ (dz hv) (dz hi)) ra (RW (Around.in1_units _) hu)).1
  classical
  refine E1 a ws.toArray (fun z=>decide (∃(i:Nat) (hi:i<ws.length),ws[i]=z∧rs[i]'((hl▸h5▸hi))=true)) rfl ?_ ?_ ?_ ?_
  ·rintro rfl;exact⟨_,h3,rfl,_,rfl⟩
  ·rintro rfl;exact⟨_,h3,rfl,_,rfl⟩
  ·intro z hz
   have VF:z∈ws:=by simpa using hz
   refine bf (pS VF) fun i aa=>bf aa fun hi aP=>?_;subst aP;refine EM (∃(j:Nat) (hj:j<ws.length),ws[j]=ws[i]∧rs[j]'((hl▸h5▸hj))=true) (fun q=>?_) fun q=>?_
   ·have:=q
    show EqAt _ _ _ _ (decide _)
    refine RW (kX this)<|bf q fun j aa=>aq aa fun hj q1 q2=>?_;have:=he j hj;rw[q2,q1] at this;exact this
   ·show EqAt _ _ _ _ (decide _)
    refine RW (pg q) ?_;have h8:rs[i]'((hl▸h5▸hi))=false:=by
     cases q9:rs[i]'((hl▸h5▸hi)) with
     |false=>rfl
     |true=>exact absurd ⟨i,hi,rfl,q9⟩ q
    have:=he i hi;rw[h8] at this;exact this
  ·rw[Bool.eq_iff_iff]
   simp only[List.any_toArray,List.any_eq_true,decide_eq_true_eq,id];constructor
   ·rintro⟨z,hz,i,hi,h1,h2⟩
    exact aK _ (lU _) h2
   ·rintro⟨t,ht,rfl⟩
    exact bf (pS ht) fun i aa=>bf aa fun hi VT=>⟨ws[i]'((h5▸hl▸hi)),lU _,i,by exact(h5▸hl▸hi),rfl,VT⟩
theorem gm{bM:List (Str×Value)}{es:List (Tx×V)}(hk:bM.map (·.1)=es.map (fun e=>ar e.1))(x):(valueAt bM (ar x)).isSome=es.any (fun e=>e.1==x):=by
 unfold valueAt;refine RW Option.isSome_map ?_
 induction bM generalizing es with
 |nil=>induction es using List.casesOn with
  |nil=>rfl
  |cons e es=>cases hk
 |cons kv bM ih=>induction es using List.casesOn with
  |nil=>cases hk
  |cons e es=>
   simp only[List.map_cons,List.cons.injEq] at hk;refine RW List.find?_cons<|RW lR<|RS (ih hk.2)<|RW hk.1 ?_;refine EM (e.1=x) (fun q=>?_) fun q=>?_
   ·subst q;simp
   ·have:ar e.1≠ar x:=fun z=>q (ia z)
    simp[q,this]
theorem ku{w:World}{ρ:Rh}{os:List O}{h:Heap}(S:SR w ρ os h){i:Nat}{a:Addr}(e:ρ.l[i]? =some a):(a==sysModules)=false:=by
 have:N0≤a:=S.high _ (db e);rw[beq_eq_false_iff_ne];rintro rfl;simp[N0,sysModules] at this
theorem kk(k)(t:Tok):(PySem.strKind PW w).is (ar k) (.str (ar k) t)=true:=by simp[PySem.strKind,Value.isStrOf]
theorem B7{a b:V}{x y:Value}{r:Bool}(S:SR w ρ os s.heap)(ra:VR s.heap ρ a x)(rb:VR s.heap ρ b y)(hu:A.units+9<cLine)(e:Fd os a b=some r){Q:Value→Shared→Prop}:
  ((∀t,Q (.bool r) {s with toks:=t})→wpAny (model PW w) A (compareOp .In x y) Q E s)∧((∀t,Q (.bool (!r)) {s with toks:=t})→wpAny (model PW w) A (compareOp .NotIn x y) Q E s):=by
 induction b using V.casesOn with
 |str q=>
  refine aq (dI.mp e) fun z hz e=>?_;cases c8 hz
  match z,e with
  |[c],e=>
   cases a7 e;apply ra.dS;intro t l;apply rb.dS;intro u l'
   ·have hm:(!(Builtin.Str.occurrences (ar q) (ar [c]) 0 (ar q).length 1).isEmpty)=q.contains c:=by
     have:=StrLaws.found_one (ar q) c;refine RW (show(ar [c])=⟨#[c]⟩ from rfl)<|RW this ?_;refine RW (List.contains_eq_mem _ _) ?_;exact decide_eq_decide.mpr (by simp[ar])
    exact⟨fun h=>P.in_str (RW hm<|h s.toks),fun h=>P.notIn_str (RW hm<|h s.toks)⟩
  |[],e=>exact aJ e
  |_::_::_,e=>exact aJ e
 |seq k ys=>
  refine aq (eG.mp e) fun rs q aa=>?_;subst aa;refine Nw (z8 (A:=A) q ra rb hu) fun ad items f aa h1 h2 h3 h4=>?_;subst aa
  induction k using Bool.casesOn with
  |false=>exact⟨fun h=>in_listAt f (h1 rfl) h3 (RW h4<|h s.toks),fun h=>notIn_listAt f (h1 rfl) h3 (RW h4<|h s.toks)⟩
  |true=>exact⟨fun h=>in_tupleAt f (h2 rfl) h3 (RW h4<|h s.toks),fun h=>notIn_tupleAt f (h2 rfl) h3 (RW h4<|h s.toks)⟩
 |ref i=>
  apply rb.gX;intro ad hi;refine bf (S.num hi) fun o ho=>?_;have e:(match some o with
   |some (.dict es _)=>a.text?.map fun x=>es.any fun e=>e.1==x
   |some (.set xs)=>a.text?.map fun x=>xs.any fun e=>e==x
   |_=>Option.none)=some r:=RS ho e
  have R:=S.at hi ho
  induction o using O.casesOn with
  |dict es ep=>
   refine aq (eG.mp e) fun p hp aa=>?_;subst aa;cases c8 hp;apply ra.dS;intro t l;refine EL R fun bM e0 Ss _ hl hk hv=>?_;have hd:=Ss.dictOf;exact⟨fun h=>wpAny_in_of (knd:=PySem.strKind PW w) (k:=ar p) (f:=valueAt bM) (kk p t) (ku S hi) hd.mapOf (RW (gm hk _)<|h _),
    fun h=>wpAny_notIn_of (knd:=PySem.strKind PW w) (k:=ar p) (f:=valueAt bM) (kk p t) (ku S hi) hd.mapOf (RW (gm hk _)<|h _)⟩
  |set xs=>
   refine aq (eG.mp e) fun p hp hr=>?_;cases c8 hp;apply ra.dS;intro t l;have hS:(xs.any fun x=>ar x==ar p)=r:=by
    refine RS hr ?_
    congr 1
    funext x
    exact mE x p
   subst hS;exact⟨fun h=>wpAny_inSet_of (knd:=PySem.strKind PW w) (k:=ar p) (kk p t) rfl R.1 (h _),fun h=>wpAny_notInSet_of (knd:=PySem.strKind PW w) (k:=ar p) (kk p t) rfl R.1 (h _)⟩
  |_=>exact aJ e
 |_=>exact aJ e
theorem oB(S:SR w ρ os s.heap){i:Nat}{a:Addr}(hi:ρ.l[i]? =some a):∃o,s.heap.get? a=some o∧((∃es,os[i]? =some (.attrs es))∨o.cls≠.type "tuple"):=by
 refine bf (S.num hi) fun o ho=>?_;have R:=S.at hi ho
 induction o using O.casesOn with
 |list vs=>refine fJ R fun _ _ e _=>?_;exact(aK _ e (.inr (by simp[b0])))
 |dict es ep=>refine fJ R fun _ _ aa _=>ez aa fun o _ e x _=>?_;exact(aK _ e (.inr (by rw[x.1];simp)))
 |attrs es=>refine fJ R fun _ _ e _=>?_;exact(aK _ e (.inl ⟨_,ho⟩))
 |inst C d=>refine fJ R fun _ _ _ e=>?_;exact(aK _ e (.inr (by simp)))
 |slots C d vs=>refine ez R fun _ _ _ e _=>?_;exact(aK _ e (.inr (by simp)))
 |set xs=>refine az R fun aa _=>AZ aa fun o _ _ _ e x _=>?_;exact(aK _ e (.inr (by rw[x.1];simp)))
 |AW=>exact(aK _ R (.inr (by simp)))
 |iter l k=>refine aq R fun _ _ e=>?_;exact(aK _ e (.inr (by simp[nw])))
 |dead=>refine bf R fun _ e=>?_;exact(aK _ e (.inr (by simp)))
 |wrap id b=>refine aq R fun _ _ e=>?_;exact(aK _ e (.inr (by unfold jD;split<;>simp)))
theorem Ee(h:gc v=true):(v==Value.none)=false:=by
 revert h
 induction v using Value.casesOn<;>first|exact fun _=>rfl|exact fun h=>absurd h ck
theorem z6(ra:VR s.heap ρ a x):(x==Value.none)=a.isNone:=by
 induction ra using VR.casesOn with
 |con _ hv=>exact Ee hv
 |_=>rfl
theorem I9{a b:V}{x y:Value}{r:Bool}(S:SR w ρ os s.heap)(ra:VR s.heap ρ a x)(rb:VR s.heap ρ b y)(e:Sd os a b=some r){Q:Value→Shared→Prop}:
  (Q (.bool r) s→wpAny (model PW w) A (compareOp .Is x y) Q E s)∧(Q (.bool (!r)) s→wpAny (model PW w) A (compareOp .IsNot x y) Q E s):=by
 induction b using V.casesOn with
 |none=>
  apply rb.lV;cases a7 e;exact RS (z6 ra) ⟨fun h=>is_none h,fun h=>isNot_none h⟩
 |ref j=>
  apply rb.gX;intro ad hj
  induction a using V.casesOn with
  |str p=>
   cases a7 e;apply ra.dS;intro _ _;exact⟨fun h=>wpAny_is_plain rfl h,fun h=>wpAny_isNot_plain rfl h⟩
  |ref i=>
   apply ra.gX;intro bd hi
   replace e:(if i==j then some true else match os[i]? with
    |some (.attrs _)=>none
    |some _=>some false
    |none=>none)=some r:=e
   refine EM (i=j) (fun q=>?_) fun q=>?_
   ·subst q
    rw[if_pos (by simp)] at e
    cases a7 e;rw[hi] at hj;cases a7 hj;exact⟨fun h=>wpAny_is_ref_self h,fun h=>wpAny_isNot_ref_self h⟩
   ·rw[if_neg (by simpa using q)] at e
    refine aq (oB S hi) fun o1 e1 c1=>aq (oB S hj) fun o2 e2 _=>?_;have c1:o1.cls≠.type "tuple":=by
     refine aA c1 (fun aa=>bf aa fun es c1=>?_) fun c1=>?_
     ·rw[c1] at e;exact aJ e
     ·exact c1
    have hr:r=false:=by
     refine bf (S.num hi) fun o ho=>?_;rw[ho] at e
     induction o using O.casesOn<;>first|(cases e;done)|exact(a7 e).symm
    subst hr;have o7:bd≠ad:=fun z=>q ((S.same hi hj).mp z);exact⟨fun h=>wpAny_is_ref_other o7 e1 e2 c1 h,fun h=>wpAny_isNot_ref_other o7 e1 e2 c1 h⟩
  |_=>exact aJ e
 |str q=>
  apply rb.dS;intro u l
  induction a using V.casesOn with
  |ref i=>
   cases a7 e;apply ra.gX;intro bd hi;exact⟨fun h=>wpAny_is_plain rfl h,fun h=>wpAny_isNot_plain rfl h⟩
  |_=>exact aJ e
 |con v=>
  refine aq (dI.mp e) fun q hq e=>?_;refine aq (eG.mp e) fun p hp aa=>?_;subst aa;cases nS hq;cases nS hp;apply rb.rI;intro hv;apply ra.rI;intro hu;have hb:(Value.type p==Value.type q)=(p==q):=by
   refine EM (p=q) (fun z=>?_) fun z=>?_
   ·subst z;simp
   ·((refine RW (gY.mpr z) ?_);rewrite [beq_eq_false_iff_ne.mpr (fun y=>z (by injection y))];rfl)
  exact⟨fun h=>wpAny_is_plain rfl (RW hb h),fun h=>wpAny_isNot_plain rfl (RW hb h)⟩
 |_=>exact aJ e
theorem kG(e:ltV f a b=some r)(ra:VR s.heap ρ a x)(rb:VR s.heap ρ b y):∃i t j u,x=.int i t∧y=.int j u∧r=f i j:=by
 refine aq (dI.mp e) fun i h1 e=>?_;refine aq (eG.mp e) fun j h2 aa=>?_;subst aa;cases cb h1;cases cb h2;apply ra.gx;intro t;apply rb.gx;intro u;exact UG _ _ _ _ rfl rfl rfl
theorem CA(S:SR w ρ os s.heap)(ra:VR s.heap ρ a x)(rb:VR s.heap ρ b y)(hu:A.units+9<cLine)(e:bR op a b os=some r)
  (h:∀t,Q (.bool r) {s with toks:=t}):wpAny (model PW w) A (compareOp op x y) Q E s:=by
 induction op using CmpOp.casesOn with
 |Eq=>exact cmp_ofEq ((wn 8 _ _ _ _ _ A e ra rb ((dy (Nat.le_succ _) hu))).2.1 _ _ _ _ (h s.toks))
 |NotEq=>
  refine aq (eG.mp e) fun c q aa=>?_;subst aa;exact cmp_ofNotEq ((wn 8 _ _ _ _ _ A q ra rb ((dy (Nat.le_succ _) hu))).2.2 _ _ _ _ (h s.toks))
 |Is=>exact(I9 S ra rb e).1 (h s.toks)
 |IsNot=>
  refine aq (eG.mp e) fun c q aa=>?_;subst aa;exact(I9 S ra rb q).2 (h s.toks)
 |In=>exact(B7 S ra rb hu e).1 h
 |NotIn=>
  refine aq (eG.mp e) fun c q aa=>?_;subst aa;exact(B7 S ra rb hu q).2 h
 |Lt=>(refine AZ (kG e ra rb) fun _ _ _ _ aa aP cN=>?_;subst aa;subst aP;subst cN);exact lt_int (h s.toks)
 |LtE=>(refine AZ (kG e ra rb) fun _ _ _ _ aa aP cN=>?_;subst aa;subst aP;subst cN);exact le_int (h s.toks)
 |Gt=>(refine AZ (kG e ra rb) fun _ _ _ _ aa aP cN=>?_;subst aa;subst aP;subst cN);exact gt_int (h s.toks)
 |GtE=>(refine AZ (kG e ra rb) fun _ _ _ _ aa aP cN=>?_;subst aa;subst aP;subst cN);exact ge_int (h s.toks)
end
end
section
theorem vf(e:intOp f a b=some z):∃i j k,a=.int i∧b=.int j∧f i j=some k∧z=(.int k,none):=by
 exact aq (dI.mp e) fun i h1 e=>aq (dI.mp e) fun j h2 e=>aq (eG.mp e) fun k h3 e=>(JA i j k (cb h1) (cb h2) h3 e.symm)
theorem DK:(Builtin.Int.intBits 9:Int)≤64:=by decide+kernel
theorem xr{α:Type}{c:Prop}[Decidable c]{x y:α}(e:(if c then some x else none)=some y):c∧x=y:=by
 refine EM c (fun h=>?_) fun h=>?_
 ·rw[if_pos h] at e;exact⟨h,a7 e⟩
 ·rw[if_neg h] at e;exact aJ e
theorem cD(p q):ar p++ar q=ar (p++q):=by
 refine(?_:Str.mk ((ar p).cps++(ar q).cps)=ar (p++q));simp[ar]
def Grows(s:Shared)(ρ:Rh)(v:V)(Q:Value→Shared→Prop):Prop:=∀z h' t,(∀b o,s.heap.get? b=some o→h'.get? b=some o)→VR h' ρ v z→Q z {s with heap:=h',toks:=t}
theorem Grows.tok(g:Grows s ρ v Q)(t:Nat)(r:VR s.heap ρ v z):Q z {s with toks:=t}:=g z s.heap t (fun _ _ e=>e) r
section
variable{w:World}{A:Around}{s:Shared}{ρ:Rh}{os:List O}{Q:Value→Shared→Prop}{E:Value→Shared→Prop}
theorem dL(S:SR w ρ os s.heap):s.heap.objs.size∉ρ.all:=S.fresh (bC _)
theorem Gf(S:SR w ρ os s.heap)(h:aM s.heap ρ vs ws)(hl:ws.length≤ax):VR (s.heap.push (b0 k ws 0)) ρ (.seq k vs) (.ref s.heap.objs.size):=
 .seq (dL S) (dm _ (by induction k using Bool.casesOn<;>rfl)) hl h.1 fun i v x q1 q2=>(h.2 i v x q1 q2).grow fun _ _ e=>gp _ e
theorem Grows.seq(g:Grows s ρ (.seq k vs) Q)(S:SR w ρ os s.heap)(h:aM s.heap ρ vs ws)(hl:ws.length≤ax)(t:Nat):Q (.ref s.heap.objs.size) {s with heap:=s.heap.push (b0 k ws 0),toks:=t}:=
 g _ _ t (fun _ _ e=>gp _ e) (Gf S h hl)
theorem M3(S:SR w ρ os s.heap)(ra:VR s.heap ρ a x)(rb:VR s.heap ρ b y)(e:Fw a b=some z)(hz:Fe z.2)(g:Grows s ρ z.1 Q):wpAny (model PW w) A (binaryOp .Add x y) Q E s:=by
 induction a using V.casesOn with
 |int i=>
  refine aq (eG.mp e) fun j hj e=>?_;cases cb hj;cases a7 e;apply ra.gx;intro t;apply rb.gx;intro u;exact add_int (g.tok _ (.int _ _))
 |str p=>
  refine aq (eG.mp e) fun q hq e=>?_;cases c8 hq;cases a7 e;apply ra.dS;intro t l;apply rb.dS;intro u l';refine PyProof.Rows.add_str (fun t' tk=>?_) ?_
  ·exact RW (cD _ _)<|g.tok _ (.str _ _ hz)
  ·refine RW (bh _)<|RW (bh _)<|RW du ?_
   have:(p++q).length≤ax:=hz;rw[List.length_append,bc] at this;exact this
 |seq k p=>
  induction k using Bool.casesOn with
  |true=>exact aJ e
  |false=>
  refine aq (eG.mp e) fun q hq e=>?_;cases ij hq;cases a7 e;refine vF ra.dP fun a ws n aa h1 h2 h3=>?_;subst aa;refine vF rb.dP fun b zs m aa g1 g2 g3=>?_;subst aa;have a9:(ws++zs).length≤ax:=by rw[←(h3.append g3).1];exact hz
  refine P.add_list (items:=ws.toArray) (items2:=zs.toArray) h1 g1 ?_ (by simp only[List.size_toArray];refine RW du ?_;rw[bc,List.length_append] at a9;exact a9)
  have he:ws.toArray++zs.toArray=(ws++zs).toArray:=by simp
  exact RW he<|g.seq S (h3.append g3) a9 s.toks
 |_=>exact aJ e
theorem ML(S:SR w ρ os s.heap)(ra:VR s.heap ρ a x)(rb:VR s.heap ρ b y)(e:Ba op a b=some z)(hz:Fe z.2)(g:Grows s ρ z.1 Q):wpAny (model PW w) A (binaryOp op x y) Q E s:=by
 have two:∀{f:Int→Int→Option Int},intOp f a b=some z→(∀i j k t u,f i j=some k→z.1=.int k→wpAny (model PW w) A (binaryOp op (.int i t) (.int j u)) Q E s)→wpAny (model PW w) A (binaryOp op x y) Q E s:=by
  intro f e k;refine vF (vf e) fun i j n aa aP h hz=>?_;subst aa;subst aP;apply ra.gx;intro t;apply rb.gx;intro u;exact k i j n t u h (by(refine RW hz rfl))
 have fin:∀{k:Int} {t u:Nat},z.1=.int k→Q (.int k t) {s with toks:=u}:=fun{k t u} q=>g.tok u (RW q<|.int k t)
 induction op using Operator.casesOn with
 |Add=>exact M3 S ra rb e hz g
 |Sub=>
  refine two e fun i j k t u h q=>?_;cases a7 h;exact sub_int (fin q)
 |FloorDiv=>
  refine two e fun i j k t u h q=>?_;refine az (xr h) fun h aa=>?_;subst aa;exact floordiv_int (by lia) (fin q) (Or.inl (PyProof.noPylong_small (by lia)))
 |Mod=>
  refine two e fun i j k t u h q=>?_;refine az (xr h) fun h aa=>?_;subst aa;exact mod_int (by lia) (fin q)
 |Pow=>
  refine two e fun i j k t u h q=>?_;refine az (xr h) fun aa cN=>gq aa fun aP h1 h2=>?_;subst aP;subst cN;refine pow_int h1 ?_ (fin q);have:=DK;have h3:(Builtin.Int.intBits 9:Int)*j≤64*4:=Int.mul_le_mul this (by lia:j≤(4:Int)) h1 (by decide)
  lia
 |_=>exact aJ e
theorem Ed{k pos}(e:Cv c=some v)(g:Grows s ρ v Q):wpAny (model PW w) A (eval (.Constant c k pos) env) Q E s:=by
 induction c using Const.casesOn with
 |none=>cases a7 e;exact wpAny_Constant_none (g.tok _ .none)
 |bool b=>cases a7 e;exact wpAny_Constant_bool (g.tok _ (.bool _))
 |int i=>cases a7 e;exact wpAny_Constant_int (g.tok _ (.int _ _))
 |str x=>
  refine az (xr e) fun hx aa=>?_;subst aa;have:ar x.cps.toList=x:=by simp[ar]
  refine pP (g.tok _ ?_);have h:=VR.str (h:=s.heap) (ρ:=ρ) x.cps.toList s.toks hx;rw[this] at h;exact h
 |_=>exact aJ e
end
def BB(a b:Value):Bool:=decide (a=b)&&gc b
theorem uM(h:BB a b=true):a=b∧gc b=true:=⟨jy (pn.mp h).1,(pn.mp h).2⟩
def zh(P:Params):List DictEntry:=match(o3 P).data with
 |.dict es _=>es.toList
 |_=>[]
def hW(P:Params)(x:Str):Option Value:=((zh P).find? fun e=>e.key.isStr x).map (·.val)
def LL(P:Params):Bool:=yJ.all fun p=>match p.2 with
 |.con c=>(match hW P p.1 with
  |some d=>BB d c
  |none=>(match bootBuiltins p.1 with
   |some d=>BB d c
   |none=>false)&&!(p.1==Str.ofString "__name__"))
 |.int i=>(match hW P p.1 with
  |some (.int j _)=>i==j
  |_=>false)
 |_=>false
theorem Hg(P):LL P=true:=by kernel_rfl
def LM(P:Params):Bool:=(zh P).all fun e=>match e.key with
 |.str _ _=>true
 |_=>false
theorem Hk(P):LM P=true:=by kernel_rfl
theorem S5(P):(bF P).lookup 3=some (o3 P):=by kernel_rfl
noncomputable def sB(o:Obj):Bool:=match o.data with
 |.dict _ _=>true
 |_=>false
theorem GF(P:Params):sB (o3 P)=true:=by kernel_rfl
set_option tactic.hygienic true in
theorem HF(h:sB o=true):∃es n,o.data=.dict es n:=by
 unfold sB at h;split at h
 ·rename_i es n e;exact(s7 es n e)
 ·exact c0 h
theorem GG(P:Params):∃n,(o3 P).data=.dict (zh P).toArray n:=by
 refine vG (HF (GF P)) fun es n e=>⟨n,?_⟩;have:zh P=es.toList:=by unfold zh;(refine RW e rfl)
 refine RW this<|RW e rfl
theorem mM(S:bU w h):h.Ns mainGlobals (hW w.params):=by
 refine bf (GG w.params) fun n e=>(JA (o3 w.params) (zh w.params).toArray n (S.X 3 _ (S5 _)) e ?_ ?_)
 ·intro en he
  have hk:=eH.mp (Hk w.params) en (by simpa using he)
  cases hq:en.key<;>rw[hq] at hk<;>first|exact(s7 _ _ rfl)|exact c0 hk
 ·intro x
  simp[nsFind,findBy,hW]
theorem vb{α:Type}{K:List (Str×α)}{a:Str}{o:α}(e:K.lookup a=some o):(a,o)∈K:=mem_of_lookup e
section
variable{w:World}{A:Around}{s:Shared}{ρ:Rh}{env:Env}{st:St}
set_option tactic.hygienic true in
theorem hY{pos}(hC:zo C env)(S:SR w ρ st.os s.heap)(R:ER ρ st.vs env s.heap)(e:cS C x st=some v)(hQ:∀y,VR s.heap ρ v y→Q y s):
  wpAny (model PW w) A (eval (.Name x pos) env) Q E s:=by
 unfold cS at e;cases q:C.names.lookup x with
 |none=>rw[q] at e;exact aJ e
 |some k=>
  rw[q] at e;refine wpAny_Name ?_ (hC.RN x k q);cases k<;>simp only[reduceCtorEq] at e
  ·
   exact aq R.ns fun m n r=>aq (r x v e (hC.loc x q)) fun y e1 r1=>wpAny_loadName_local hC.kind (hC.loc x q) n e1 (hQ _ r1)
  ·
   exact ez (R.bound x v e (.inl (hC.IH x q).1)) fun c y e1 e2 r1=>wpAny_loadName_cell hC.kind (hC.IH x q).1 e1 e2 (hQ _ r1)
  ·
   refine az (hC.NP x q) fun hk hn=>aA hk (fun hk=>?_) fun hk=>?_
   ·exact ez (R.bound x v e (.inr hk)) fun c y e1 e2 r1=>wpAny_loadName_free hC.kind hk e1 e2 (hQ _ r1) hn
   ·exact ez (R.bound x v e (.inl hk)) fun c y e1 e2 r1=>wpAny_loadName_cell hC.kind hk e1 e2 (hQ _ r1)
  ·
   refine RW (loadName_read hC.kind (hC.Uo x q)) ?_;have hg:=mM S.aL;have hx:=eH.mp (Hg w.params) _ (vb e);dsimp only at hx
   induction v using V.casesOn<;>simp only[Bool.false_eq_true] at hx
   ·rename_i i
    cases q1:hW w.params x with
    |none=>rw[q1] at hx;exact c0 hx
    |some d=>
     rw[q1] at hx
     induction d using Value.casesOn<;>simp only[Bool.false_eq_true,beq_iff_eq] at hx
     subst hx;exact loadGlobal_global (by exact RW hC.glob hg) q1 (hQ _ (.int _ _))
   ·rename_i c
    cases q1:hW w.params x with
    |some d=>
     rw[q1] at hx;refine az (uM hx) fun aa hc=>?_;subst aa;exact loadGlobal_global (by exact RW hC.glob hg) q1 (hQ _ (.con _ hc))
    |none=>
     rw[q1] at hx;simp only[Bool.and_eq_true,Bool.not_eq_true',beq_eq_false_iff_ne,ne_eq] at hx;refine az hx fun hx hn=>?_;cases q2:bootBuiltins x with
     |none=>rw[q2] at hx;exact c0 hx
     |some d=>
      rw[q2] at hx;refine az (uM hx) fun aa hc=>?_;subst aa;exact aq S.aL.b fun mb nb rb=>loadGlobal_builtin (by exact RW hC.glob hg) q1 (by exact RW hC.blt nb) (by exact RW (rb x hn) q2) (hQ _ (.con _ hc))
end
end
section
theorem u0(n:Str)(h:Int)(k v:Value)(o:Obj):(o.putName n h k v).cls=o.cls:=by
 refine RW Obj.putName_eq ?_;unfold Obj.putNameByArray;split
 ·split<;>rfl
 ·rfl
theorem KA{h:Heap}{a:Addr}{f:Obj→Obj}{o x:Obj}(ho:h.get? a=some o)(e:(h.update a f).get? a=some x):x=f o:=by
 refine az (Heap.get?_some_iff.mp e) fun e1 _=>?_;refine az (Heap.get?_some_iff.mp ho) fun e2 _=>?_;have e3:(h.update a f).objs[a]? =(h.objs[a]?).map f:=by
  cases h;simp only[Heap.update,Array.getElem?_modify,if_true]
 rw[e3,e2] at e1;exact(a7 e1).symm
section
variable{M:Model}{A:Around}{E:Value→Shared→Prop}{s:Shared}
theorem Kz
  (H:Sem.wp M Γ (if b=true then unsupported w>>=k else updatePart a part f) Q E' p s) (h:Q () p {s with heap:=s.heap.update a f}→Q' () p {s with heap:=s.heap.update a f}):Sem.wp M Γ (if b=true then unsupported w>>=k else updatePart a part f) Q' E' p s:=by
 induction b using Bool.casesOn with
 |true=>exact H.elim
 |false=>exact And.intro H.1 (h H.2)
theorem qn{m}(hn:s.heap.Ns a m)
  (h:∀h',h'.Ns a (fun x=>if x=name then some v else m x)→Heap.SameBut a s.heap h'→(∀o,s.heap.get? a=some o→∃o',h'.get? a=some o'∧o'.cls=o.cls)→Q () {s with heap:=h',toks:=s.toks+1}):
  wpAny M A (nsSet a name v) Q E s:=fun Γ p _=>by
 refine vF hn fun o es ep ho hd _ _=>?_;obtain⟨c,d,da,sl⟩:=o;cases(show da=_ from hd);refine aq (Sem.wp_nsSet M Γ (fun e _ s'=>E e s') p s hn name v (fun _ _ s'=>s'.heap.Ns a (fun x=>if x=name then some v else m x)) (fun h' n' _=>n')) fun o1 h1 H=>Exists.intro o1 (And.intro h1 ?_)
 cases a7 (ho.symm.trans h1);exact Kz H fun n=>h _ n (gF ..) fun o' e=>a7 (ho.symm.trans e)▸AL n fun x _ _ ex _=>aK x ex (KA ho ex▸u0 ..)
end
theorem cM(x y)(v):∀vs:List (Str×V),(bX x v vs).lookup y=if y=x then some v else vs.lookup y
 |[]=>by
  simp only[bX,List.lookup_cons,List.lookup_nil];refine EM (y=x) (fun h=>?_) fun h=>?_
  ·subst h;simp
  ·refine RW (gY.mpr h)<|RW (au h) rfl
 |(k,u)::r=>by
  simp only[bX];refine EM (k=x) (fun hk=>?_) fun hk=>?_
  ·subst hk
   simp only[beq_self_eq_true,if_true,List.lookup_cons];refine EM (y=k) (fun h=>?_) fun h=>?_
   ·subst h;simp
   ·refine RW (gY.mpr h)<|RW (au h) rfl
  ·refine RW (au (by simpa using hk))<|RW gt<|RW gt<|RW (cM x y v r)<|EM (y=k) (fun h=>?_) fun h=>?_
   ·subst h;simp[hk]
   ·refine RW (gY.mpr h) rfl
section
variable{w:World}{A:Around}{s:Shared}{ρ:Rh}{env:Env}{st:St}
theorem dB.one(S:SR w ρ st.os s.heap)(ha:a∉ρ.all)(hN:N0≤a)(jC:∀o,s.heap.get? a=some o→cQ o=false)(V6:Mu ρ env a)
 (sb:Heap.SameBut a s.heap h') (IF:∃o,h'.get? a=some o) (t) (e1:st'.os=st.os)
  (R':∀(k:aU (fun b=>b=a) s.heap h') (hf:fF (fun b=>b=a) ρ s.heap),ER ρ st'.vs env h'):dB w ρ env s st' ρ {s with heap:=h',toks:=t}:=by
 have k:aU (fun b=>b=a) s.heap h':=aU.cC sb rfl;have hf:fF (fun b=>b=a) ρ s.heap:=fun b o e m=>by
  subst m;exact .inr (jC o e)
 have al:∀b o,s.heap.get? b=some o→∃o',h'.get? b=some o':=fun b o' e=>by
  refine EM (b=a) (fun hb=>?_) fun hb=>?_
  ·subst hb;exact IF
  ·exact⟨o',(sb.2 b hb).trans e⟩
 refine⟨Rh.le_refl ρ,?_,R' k hf,k.mono (fun b _ _ m=>by subst m;exact V6),rfl,id,fun a m q=>absurd m q,al,fun b o e hz _ _=>(sb.2 b fun q=>ha (q▸cY _ hz)).trans e⟩
 refine RW e1 ?_;exact S.keep k hf (Rh.le_refl ρ) aO al (S.aL.iw k (fun b m=>by subst m;exact hN)) S.len S.nodup S.high fun i b o q1 q2=>.inl (cE q1 q2 (fun q=>ha (Rh.dh (q▸db q1))))
theorem C1(hC:zo C env)(S:SR w ρ st.os s.heap)(R:ER ρ st.vs env s.heap)(hx:fA C x=true)(r:VR s.heap ρ v y)
 (e1:st'.os=st.os) (e2:st'.vs=bX x v st.vs):
  wpAny (model PW w) A (storeName env x y) (fun _ s'=>dB w ρ env s st' ρ s') E s:=by
 unfold fA at hx;cases q:C.names.lookup x with
 |none=>rw[q] at hx;exact c0 hx
 |some k=>
  rw[q] at hx;have hn:lK ρ ρ s.heap:=aO;cases k<;>simp only[Bool.false_eq_true] at hx
  ·
   have hl:=hC.loc x q;refine aq R.ns fun m n rr=>?_;have jC:∀o,s.heap.get? env.locals=some o→cQ o=false:=fun o e=>by
    refine mU n fun o' es ep e' c _=>?_;rw[e] at e';cases a7 e';exact jZ c
   rw[storeName_local hl (RW hC.kind rfl)];refine qn n fun h' n' sb y2=>?_;have IF:∃o,h'.get? env.locals=some o:=let⟨o,_,_,e,_⟩:=n';⟨o,e⟩;refine dB.one S R.out R.high jC (.inr (.inl rfl)) sb IF _ e1 fun k hf=>RW e2 ⟨R.high,R.out,(aK _ n' (fun z u h1 h2=>?_)),?_,fun z c hm=>?_,fun z u h1 h2=>?_⟩
   ·rw[cM] at h1
    refine EM (z=x) (fun hz=>?_) fun hz=>?_
    ·subst hz
     rw[if_pos rfl] at h1;cases a7 h1;exact aK y (aB rfl) (r.keep k hf (fun _ _ e=>e) hn)
    ·rw[if_neg hz] at h1
     exact aq (rr z u h1 h2) fun y' h3 h4=>(aK y' (RW (au hz) h3) (h4.keep k hf (fun _ _ e=>e) hn))
   ·exact aq R.cls fun o e c=>aq (y2 o e) fun o' e' c'=>(aK o' e' (c'.trans c))
   ·exact kT (R.cells z c hm) fun g1 g2 g3 aa=>bf aa fun v' g4=>⟨g1,g2,g3,v',g4.sameBut sb g3⟩
   ·have hz:z≠x:=fun e=>by
     subst e;rw[hl] at h2;refine aA h2 (fun h2=>?_) fun h2=>?_<;>cases a7 h2
    rw[cM,if_neg hz] at h1;refine ez (R.bound z u h1 h2) fun c y' g1 g2 g3=>?_;have:=(R.cells z c g1).2.2.1;exact jN c y' g1 (g2.sameBut sb this) (g3.keep k hf (fun _ _ e=>e) hn)
  ·
   refine az (hC.IH x q) fun hl aa=>aq aa fun c hc jL=>kT (R.cells x c hc) fun g1 g2 g3 aa=>fJ aa fun v' o g4 g6=>wpAny_storeName_cell hC.kind hl hc (aK o g4 g6) fun h' y2 sb=>?_;have IF:∃o,h'.get? c=some o:=let⟨o,e,_⟩:=y2;⟨o,e⟩;refine dB.one (t:=s.toks) S g2 g1 (fun o' e=>by rw[g4] at e;cases a7 e;exact ot g6) (.inr (.inr (.inl ⟨⟨x,hc⟩,jL⟩))) sb IF e1 fun k hf=>?_
   refine RW e2 ⟨R.high,R.out,?_,?_,fun z c' hm=>?_,fun z u h1 h2=>?_⟩
   ·refine aq R.ns fun m n rr=>(aK m (n.sameBut sb g3.symm) (fun z u h1 h2=>?_))
    have hz:z≠x:=fun e=>by subst e;rw[hl] at h2;cases a7 h2
    rw[cM,if_neg hz] at h1;exact aq (rr z u h1 h2) fun y' h3 h4=>(aK y' h3 (h4.keep k hf (fun _ _ e=>e) hn))
   ·exact aq R.cls fun o e q=>(aK o ((sb.2 _ g3.symm).trans e) q)
   ·refine EM (c'=c) (fun NO=>?_) fun NO=>?_
    ·subst NO
     exact⟨g1,g2,g3,_,y2⟩
    ·exact kT (R.cells z c' hm) fun k1 k2 k3 aa=>bf aa fun v2 k4=>⟨k1,k2,k3,v2,k4.sameBut sb NO⟩
   ·rw[cM] at h1
    refine EM (z=x) (fun hz=>?_) fun hz=>?_
    ·subst hz
     rw[if_pos rfl] at h1;cases a7 h1;exact jN c y hc y2 (r.keep k hf (fun _ _ e=>e) hn)
    ·rw[if_neg hz] at h1
     refine ez (R.bound z u h1 h2) fun c2 y' k1 k2 k3=>?_;have:c2≠c:=fun e=>by
      subst e;exact hz (hC.apart z x c2 k1 hc jL)
     exact jN c2 y' k1 (k2.sameBut sb this) (k3.keep k hf (fun _ _ e=>e) hn)
end
end
section
theorem gD(h:wpAny M A t Q cq s)(hQ:∀a s,Q a s→Q' a s):wpAny M A t Q' E s:=bw h hQ fun _ _ z=>z.elim
inductive ey(g:Gr)(Q:V→St→Prop)(s:Shared)(ρ:Rh)(x:Value)(s':Shared):Prop
 |mk (v st' ρ') (hQ:Q v st') (N:aV g st' s' ρ') (U:Up s ρ s' ρ') (r:VR s'.heap ρ' v x):ey g Q s ρ x s'
inductive AH(g:Gr)(Q:Bool→St→Prop)(s:Shared)(ρ:Rh)(b:Bool)(s':Shared):Prop
 |mk (st' ρ') (hQ:Q b st') (N:aV g st' s' ρ') (U:Up s ρ s' ρ'):AH g Q s ρ b s'
inductive kQ(g:Gr)(Q:St→Prop)(s:Shared)(ρ:Rh)(s':Shared):Prop
 |mk (st' ρ') (hQ:Q st') (N:aV g st' s' ρ') (U:Up s ρ s' ρ'):kQ g Q s ρ s'
inductive EI(g:Gr)(Q:List V→St→Prop)(s:Shared)(ρ:Rh)(xs:List Value)(s':Shared):Prop
 |mk (vs st' ρ') (hQ:Q vs st') (N:aV g st' s' ρ') (U:Up s ρ s' ρ') (r:aM s'.heap ρ' vs xs):EI g Q s ρ xs s'
inductive kR(g:Gr)(Q:Fl→St→Prop)(s:Shared)(ρ:Rh)(fl:Flow)(s':Shared):Prop
 |mk (f st' ρ') (hQ:Q f st') (N:aV g st' s' ρ') (U:Up s ρ s' ρ') (r:W4 s'.heap ρ' f fl):kR g Q s ρ fl s'
inductive mT(g:Gr)(Q:Fl→St→Prop)(s:Shared)(ρ:Rh)(e:Value)(s':Shared):Prop
 |mk (c st' ρ') (hQ:Q (.exc c) st') (N:aV g st' s' ρ') (U:Up s ρ s' ρ') (X:gK c s.heap ρ' s'.heap e):mT g Q s ρ e s'
abbrev Gr.m(g:Gr):Model:=model PW g.w
def fg(F:bT):Prop:=∀{g e st Q s ρ},F.ev g.C e st Q→aV g st s ρ→wpAny g.m g.A (eval e g.env) (ey g Q s ρ) cq s
def xw(F:bT):Prop:=∀{g e st Q s ρ},F.tr g.C e st Q→aV g st s ρ→wpAny g.m g.A (isTrue e g.env (eval e g.env)) (AH g Q s ρ) cq s
def EJ(F:bT):Prop:=∀{g ss st Q s ρ},F.ex g.C ss st Q→aV g st s ρ→wpAny g.m g.A (execs ss g.env) (kR g Q s ρ) (mT g Q s ρ) s
def xy(h:Heap)(ρ:Rh)(ks:List (Str×V))(xs:List (Str×Value)):Prop:=xs.map (·.1)=ks.map (·.1)∧aM h ρ (ks.map (·.2)) (xs.map (·.2))
def eE(w:World)(ρ:Rh)(s:Shared)(K:Rs→List O→Prop):Result→Shared→Prop:=fun z s'=>match z with
 |.ok (.ret x)=>∃v cn ρ',K (.ok v) cn∧aQ w ρ s cn ρ' s'∧VR s'.heap ρ' v x
 |.ok _=>False
 |.error e=>∃c cn ρ',K (.exc c) cn∧aQ w ρ s cn ρ' s'∧gK c s.heap ρ' s'.heap e
def wA(w:World)(A:Around)(f:V)(fv:Value)(xs:List Value)(ks:List (Str×Value))(R:Result→Shared→Prop)(s:Shared):Prop:=match f with
 |.con (.ref _)=>codeAny (model PW w) A (.call fv ⟨xs,ks⟩) R s
 |_=>wpAny (model PW w) A (call fv xs ks) (fun x s'=>R (.ok (.ret x)) s') (fun e s'=>R (.error e) s') s
def cJ(F:bT):Prop:=∀{w d f args kws os K A s ρ fv xs ks},F.call d f args kws os K→mo A d→SR w ρ os s.heap→Fr A ρ s.heap→VR s.heap ρ f fv→aM s.heap ρ args xs→xy s.heap ρ kws ks→wA w A f fv xs ks (eE w ρ s K) s
section
variable{F:bT}{g:Gr}{s:Shared}{ρ:Rh}{st:St}{E:Value→Shared→Prop}
theorem fg.go(he:fg F)(h:F.ev g.C e st Q)(N:aV g st s ρ)(k:∀x s' ρ' v st',Q v st'→aV g st' s' ρ'→Up s ρ s' ρ'→VR s'.heap ρ' v x→R x s'):wpAny g.m g.A (eval e g.env) R E s:=
 gD (he h N) fun x s' z=>by cases z with|mk v st' ρ' hQ N U r=>exact k x s' ρ' v st' hQ N U r
theorem xw.go(ht:xw F)(h:F.tr g.C e st Q)(N:aV g st s ρ)(k:∀b s' ρ' st',Q b st'→aV g st' s' ρ'→Up s ρ s' ρ'→R b s'):wpAny g.m g.A (isTrue e g.env (eval e g.env)) R E s:=
 gD (ht h N) fun b s' z=>by cases z with|mk st' ρ' hQ N U=>exact k b s' ρ' st' hQ N U
theorem ey.up(z:ey g Q s₁ ρ₁ x s')(U:Up s ρ s₁ ρ₁)(k:∀v st,Q v st→Q' v st):ey g Q' s ρ x s':=by
 cases z with|mk v st' ρ' hQ N U' r=>exact .mk v st' ρ' (k _ _ hQ) N (U.trans U') r
theorem AH.up(z:AH g Q s₁ ρ₁ b s')(U:Up s ρ s₁ ρ₁):AH g Q s ρ b s':=by
 cases z with|mk st' ρ' hQ N U'=>exact .mk st' ρ' hQ N (U.trans U')
theorem aV.grow(N:aV g st s ρ)(hk:∀b o,s.heap.get? b=some o→h'.get? b=some o)(t):aV g st {s with heap:=h',toks:=t} ρ∧Up s ρ {s with heap:=h',toks:=t} ρ:=N.step (dB.grow N.S N.R hk t rfl rfl)
theorem aV.tok(N:aV g st s ρ)(t):aV g st {s with toks:=t} ρ∧Up s ρ {s with toks:=t} ρ:=N.grow (fun _ _ e=>e) t
theorem aV.call(N:aV g st s ρ)(P:aQ g.w ρ s cn ρ' s'):aV g ⟨st.vs,cn⟩ s' ρ'∧Up s ρ s' ρ':=N.step (P.post N.S.aL N.R)
theorem aV.add(N:aV g st s ρ)(o)(t)(r:OR g.w (s.heap.push o) (ρ.add s.heap.objs.size) x s.heap.objs.size):aV g ⟨st.vs,st.os++[x]⟩ {s with heap:=s.heap.push o,toks:=t} (ρ.add s.heap.objs.size)∧Up s ρ {s with heap:=s.heap.push o,toks:=t} (ρ.add s.heap.objs.size):=N.call (aQ.add N.S o t r)
theorem aV.u9(N:aV g st s ρ):g.A.units+9<cLine:=by have:=N.ok.rm.units;lia
theorem ey.grows(N:aV g st s ρ)(U:Up s₀ ρ₀ s ρ)(hQ:Q v st):Grows s ρ v (ey g Q s₀ ρ₀):=fun _ _ t hk r=>
 have z:=N.grow hk t
 .mk _ _ _ hQ z.1 (U.trans z.2) r
theorem ey.tok(N:aV g st s ρ)(U:Up s₀ ρ₀ s ρ)(hQ:Q v st)(t)(r:VR s.heap ρ v x):ey g Q s₀ ρ₀ x {s with toks:=t}:=(ey.grows N U hQ).tok t r
theorem yV(he:fg F)(op:BoolOp)(pos:Pos):∀(es:List Expr) {st:St} {s:Shared} {ρ:Rh} {Q:V→St→Prop},xU F g.C op es st Q→aV g st s ρ→wpAny g.m g.A (eval (.BoolOp op es pos) g.env) (ey g Q s ρ) cq s
 |[],_,_,_,_,h,_=>h.elim
 |[e],st,s,ρ,Q,h,N=>by
  have z:=he h N;cases op<;>exact z
 |e::e2::r,st,s,ρ,Q,h,N=>by
  have ih:=fun{st:St} {s:Shared} {ρ:Rh} {Q:V→St→Prop}=>yV he op pos (e2::r) (st:=st) (s:=s) (ρ:=ρ) (Q:=Q);have step:∀x s₁ ρ₁ v cu,am (gz cu.os v) (fun t=>if t=iQ op then Q v cu else xU F g.C op (e2::r) cu Q)→aV g cu s₁ ρ₁→Up s ρ s₁ ρ₁→VR s₁.heap ρ₁ v x→
    ∃t,gz cu.os v=some t∧((t=iQ op→∀u,ey g Q s ρ x {s₁ with toks:=u})∧(t≠iQ op→∀u,wpAny g.m g.A (eval (.BoolOp op (e2::r) pos) g.env) (ey g Q s ρ) cq {s₁ with toks:=u})):=by
   intro x s₁ ρ₁ v cu h N₁ U₁ r₁;refine aE h fun t ht h=>(lL t ht (fun e u=>?_) (fun e u=>?_))
   ·rw[if_pos e] at h;exact ey.tok N₁ U₁ h u r₁
   ·rw[if_neg e] at h
    have z:=N₁.tok u;exact gD (ih h z.1) fun _ _ q=>q.up (U₁.trans z.2) fun _ _ q=>q
  cases op with
  |And=>
   refine BoolOp_and (he.go h N fun x s₁ ρ₁ v cu h N₁ U₁ r₁=>?_);refine kS (step x s₁ ρ₁ v cu h N₁ U₁ r₁) fun t ht a b=>i4 N₁.S r₁ ht fun u=>?_
   induction t using Bool.casesOn with
   |false=>exact RW (au (by decide))<|a rfl u
   |true=>refine RW (aB rfl) ?_;exact b (by decide) u
  |Or=>
   refine BoolOp_or (he.go h N fun x s₁ ρ₁ v cu h N₁ U₁ r₁=>?_);refine kS (step x s₁ ρ₁ v cu h N₁ U₁ r₁) fun t ht a b=>i4 N₁.S r₁ ht fun u=>?_
   induction t using Bool.casesOn with
   |true=>exact RW (aB rfl)<|a rfl u
   |false=>refine RW (au (by decide)) ?_;exact b (by decide) u
theorem CE(ht:xw F)(op:BoolOp):∀(es:List Expr) {st:St} {s:Shared} {ρ:Rh} {Q:Bool→St→Prop},dA F g.C op es st Q→aV g st s ρ→wpAny g.m g.A (allTrue op es g.env) (AH g Q s ρ) cq s
 |[],st,s,ρ,Q,h,N=>by
  cases op
  ·exact wpAny_allTrue_And_nil (.mk _ _ h N (Up.refl _ _))
  ·exact wpAny_allTrue_Or_nil (.mk _ _ h N (Up.refl _ _))
 |e::r,st,s,ρ,Q,h,N=>by
  have k:∀t s₁ ρ₁ cu,(if t=iQ op then Q (iQ op) cu else dA F g.C op r cu Q)→aV g cu s₁ ρ₁→Up s ρ s₁ ρ₁→(t=iQ op→AH g Q s ρ t s₁)∧(t≠iQ op→wpAny g.m g.A (allTrue op r g.env) (AH g Q s ρ) cq s₁):=fun t s₁ ρ₁ cu h N₁ U₁=>
   ⟨fun e=>.mk _ _ (by rw[if_pos e] at h;exact RW e h) N₁ U₁,fun e=>gD (CE ht op r (by rw[if_neg e] at h;exact h) N₁) fun _ _ q=>q.up U₁⟩
  cases op with
  |And=>
   refine wpAny_allTrue_And_cons (ht.go h N fun t s₁ ρ₁ cu h N₁ U₁=>?_)
   induction t using Bool.casesOn with
   |true=>exact(k _ _ _ _ h N₁ U₁).2 (by decide)
   |false=>exact(k _ _ _ _ h N₁ U₁).1 rfl
  |Or=>
   refine wpAny_allTrue_Or_cons (ht.go h N fun t s₁ ρ₁ cu h N₁ U₁=>?_)
   induction t using Bool.casesOn with
   |false=>exact(k _ _ _ _ h N₁ U₁).2 (by decide)
   |true=>exact(k _ _ _ _ h N₁ U₁).1 rfl
theorem EB(he:fg F)(h:Jx F g.C (.BinOp l op r pos) st Q)(N:aV g st s ρ):wpAny g.m g.A (eval (.BinOp l op r pos) g.env) (ey g Q s ρ) cq s:=
 wpAny_BinOp (he.go h N fun _ _ _ _ _ h N₁ U₁ r₁=>he.go h N₁ fun _ _ _ _ _ h N₂ U₂ r₂=>aE h fun _ hz h=>ML N₂.S (U₂.v r₁) r₂ hz (rY h).1 (ey.grows N₂ (U₁.trans U₂) (rY h).2))
theorem oP(he:fg F)(h:og F g.C l ops rs st Q)(N:aV g st s ρ):wpAny g.m g.A (eval (.Compare l ops rs pos) g.env) (ey g (fun v st=>∃c,v=.bool c∧Q c st) s ρ) cq s∧wpAny g.m g.A (isTrue (.Compare l ops rs pos) g.env (eval (.Compare l ops rs pos) g.env)) (AH g Q s ρ) cq s:=by
 match ops,rs,h with
 |[op],[r],h=>
  exact⟨wpAny_Compare1 (he.go (ae h).2 N fun _ _ _ _ _ h N₁ U₁ r₁=>he.go h N₁ fun _ _ _ _ _ h N₂ U₂ r₂=>aE h fun c hc h=>CA N₂.S (U₂.v r₁) r₂ N₂.u9 hc fun t=>ey.tok N₂ (U₁.trans U₂) ⟨c,rfl,h⟩ t (.bool c)) (ae h).1,
   wpAny_isTrue_Compare1 (he.go (ae h).2 N fun _ _ _ _ _ h N₁ U₁ r₁=>he.go h N₁ fun _ _ _ _ _ h N₂ U₂ r₂=>aE h fun c hc h=>CA N₂.S (U₂.v r₁) r₂ N₂.u9 hc fun t=>wpAny_truthy_bool (.mk _ _ h (N₂.tok t).1 ((U₁.trans U₂).trans (N₂.tok t).2))) (ae h).1⟩
 |[],_,h=>exact h.elim
 |[_],[],h=>exact h.elim
 |[_],_::_::_,h=>exact h.elim
 |_::_::_,_,h=>exact h.elim
theorem Eu(he:fg F)(h:unaryW F g.C op e st Q)(N:aV g st s ρ):wpAny g.m g.A (eval (.UnaryOp op e pos) g.env) (ey g Q s ρ) cq s:=by
 induction op using UnaryOp.casesOn with
 |USub=>
  refine wpAny_UnaryOp (he.go h N fun x s₁ ρ₁ v cu h N₁ U₁ r₁=>aE h fun i hi h=>?_);cases cb hi;apply r₁.gx;intro t;exact PyProof.Rows.neg_int (ey.tok N₁ U₁ h _ (.int _ _))
 |Not=>exact wpAny_UnaryOp (he.go h N fun x s₁ ρ₁ v cu h N₁ U₁ r₁=>aE h fun t ht h=>not_value (i4 N₁.S r₁ ht fun u=>ey.tok N₁ U₁ h u (.bool _)))
 |_=>exact h.elim
theorem Ez(he:fg F)(ht:xw F)(h:Jx F g.C (.IfExp t a b pos) st Q)(N:aV g st s ρ):wpAny g.m g.A (eval (.IfExp t a b pos) g.env) (ey g Q s ρ) cq s:=by
 refine wpAny_IfExp (ht.go h N fun c s₁ ρ₁ cu h N₁ U₁=>?_)
 induction c using Bool.casesOn with
 |true=>rw[if_pos rfl] at h;exact gD (he h N₁) fun _ _ q=>q.up U₁ fun _ _ q=>q
 |false=>rw[if_neg Bool.false_ne_true] at h;exact gD (he h N₁) fun _ _ q=>q.up U₁ fun _ _ q=>q
theorem nT(N:aV g st s ρ)(hx:fA g.C x=true)(r:VR s.heap ρ v y)(k:∀s',aV g ⟨bX x v st.vs,st.os⟩ s' ρ→Up s ρ s' ρ→R () s'):wpAny g.m g.A (storeName g.env x y) R E s:=
 gD (C1 (st':=⟨bX x v st.vs,st.os⟩) N.ok.cx N.S N.R hx r rfl rfl) fun _ s' P=>k s' (N.step P).1 (N.step P).2
theorem Ey(he:fg F)(h:B5 F g.C t e st Q)(N:aV g st s ρ):wpAny g.m g.A (eval (.NamedExpr t e pos) g.env) (ey g Q s ρ) cq s:=by
 induction t using Expr.casesOn with
 |Name x np=>
  refine wpAny_NamedExpr (he.go h N fun y s₁ ρ₁ v cu h N₁ U₁ r₁=>?_);rw[arm_assign_Name];have h:=ae h;exact an (eQ (wpAny_bindName (nT N₁ h.1 r₁ fun s₂ N₂ U₂=>.mk _ _ _ h.2 N₂ (U₁.trans U₂) (U₂.v r₁))))
 |_=>exact h.elim
theorem aD(h:isStarred e=false)(r)(env):starEach (e::r) env=(false,eval e env)::starEach r env:=by
 revert h
 induction e using Expr.casesOn<;>first|exact fun _=>rfl|exact fun h=>absurd h.symm ck
theorem wl(he:fg F)(pos:Pos):∀(es:List Expr) {st:St} {s:Shared} {ρ:Rh} {Q:List V→St→Prop},zl F g.C es st Q→aV g st s ρ→wpAny g.m g.A (spliced (backTo pos (starEach es g.env))) (EI g Q s ρ) cq s
 |[],st,s,ρ,Q,h,N=>rc (.mk _ _ _ h N (Up.refl _ _) aM.nil)
 |e::r,st,s,ρ,Q,h,N=>mZ (he.go (ae h).2 N fun x s₁ ρ₁ v cu h N₁ U₁ r₁=>gD (wl he pos r h N₁) fun xs s₂ z=>by
   cases z with|mk vs j6 ρ₂ hQ N₂ U₂ r₂=>exact .mk _ _ _ hQ N₂ (U₁.trans U₂) (aM.cons (U₂.v r₁) r₂)) (aD (ae h).1 _ _)
theorem EI.go(h:wpAny M A t (EI g Q s ρ) cq s)(k:∀xs s' ρ' vs st',Q vs st'→aV g st' s' ρ'→Up s ρ s' ρ'→aM s'.heap ρ' vs xs→R xs s'):wpAny M A t R E s:=
 gD h fun x s' z=>by cases z with|mk v st' ρ' hQ N U r=>exact k x s' ρ' v st' hQ N U r
theorem Ep(N:aV g st s ρ)(U:Up s₀ ρ₀ s ρ)(r:aM s.heap ρ vs ws)(h:se pos vs st Q)(t):ey g Q s₀ ρ₀ (.ref s.heap.objs.size) {s with heap:=s.heap.push (b0 false ws 0),toks:=t}:=by
 refine az (ae h) fun h1 h2=>?_;have hl:ws.length≤ax:=r.1▸h1;split at h2
 ·have z:=N.add (b0 false ws 0) t (x:=.list vs) (jN ws 0 (dm _ rfl) hl (r.keep (mu:=fun _=>False) (aU.push _ _) bQ (r6 (Rh.hV _ _)) (yt (bC _))))
  exact .mk _ _ _ h2 z.1 (U.trans z.2) (.ref (kC N.S _))
 ·exact(ey.grows N U h2).seq N.S r hl t
theorem It(he:fg F)(h:zl F g.C es st fun vs st=>se pos vs st Q)(N:aV g st s ρ):wpAny g.m g.A (eval (.List es pos) g.env) (ey g Q s ρ) cq s:=
 wpAny_List (EI.go (wl he pos es h N) fun xs s₁ ρ₁ vs cu h N₁ U₁ r₁=>⟨by((refine RW du ?_);rewrite [←r₁.1]);exact(ae h).1,Ep N₁ U₁ r₁ h s₁.toks⟩)
theorem Ev(he:fg F)(h:zl F g.C es st fun vs st=>af (vs.length≤ax) (Q (.seq true vs) st))(N:aV g st s ρ):wpAny g.m g.A (eval (.Tuple es k pos) g.env) (ey g Q s ρ) cq s:=
 wpAny_Tuple (EI.go (wl he pos es h N) fun xs s₁ ρ₁ vs cu h N₁ U₁ r₁=>have h:=ae h
  ⟨by((refine RW du ?_);rewrite [←r₁.1]);exact h.1,(ey.grows N₁ U₁ h.2).seq N₁.S r₁ (r₁.1▸h.1) s₁.toks⟩)
theorem Ds(he:e=none∨e=some 0)(hg:h.get? a=some {cls:=.type "dict",data:=.dict #[]}):OR w h ρ (.dict [] e) a:=
 (IM [] 0 (RU _ _ hg (cE rfl rfl rfl) rfl (fun e he=>absurd he (by simp)) (.nil) jx) (fun n q=>by rcases he with rfl|rfl<;>cases q;rfl) (c9 _) rfl aM.nil)
theorem Iw(h:Jx F g.C (.Dict ks vs pos) st Q)(N:aV g st s ρ):wpAny g.m g.A (eval (.Dict ks vs pos) g.env) (ey g Q s ρ) cq s:=by
 refine az (ae h) fun aa h=>az aa fun h1 h2=>?_;cases mX.mp h1;cases mX.mp h2;have z:=N.add {cls:=.type "dict",data:=.dict #[]} s.toks (x:=.dict [] (some 0)) (Ds (.inr rfl) (dm _ rfl));exact wpAny_Dict_empty (.mk _ _ _ h z.1 z.2 (.ref (kC N.S _)))
end
end
section
theorem im(h:fS i n=some k):-(n:Int)≤i∧i<n∧k=(if 0≤i then i.toNat else(i+n).toNat):=by
 unfold fS at h;split at h
 ·rename_i q;(refine az (xr h) fun h1 aa=>?_;subst aa);exact(cE (by lia) h1 (aB q).symm)
 ·rename_i q;(refine az (xr h) fun h1 aa=>?_;subst aa);exact(cE (by lia) (by lia) (au q).symm)
theorem qv(h:fS i n=some k):seqIndex? i n=some k:=by
 unfold fS at h;unfold seqIndex?;refine EM (0≤i) (fun q=>?_) fun q=>?_
 ·rw[if_pos q] at h
  refine az (xr h) fun h1 aa=>?_;subst aa;refine RW (au (by lia:¬i<0)) ?_
  simp[q,h1]
 ·rw[if_neg q] at h
  refine az (xr h) fun h1 aa=>?_;subst aa;refine RW (aB (by lia:i<0)) ?_
  have:i+(n:Int)<n:=by lia
  simp[h1,this]
theorem ja:∀{bM:List (Str×Value)} {es:List (Tx×V)} (_:bM.map (·.1)=es.map (fun e=>ar e.1)) (_:aM h ρ (es.map (·.2)) (bM.map (·.2))) {x:Tx} {v:V},
  (es.find? fun e=>e.1==x).map (·.2)=some v→∃y,valueAt bM (ar x)=some y∧VR h ρ v y
 |_,[],_,_,_,_,e=>aJ e
 |[],_::_,hk,_,_,_,_=>by cases hk
 |kv::bM,e::es,hk,hv,x,v,q=>by
  refine az (List.cons.inj hk) fun Nn ml=>?_;have VO:aM h ρ (es.map (·.2)) (bM.map (·.2)):=⟨Nat.succ.inj hv.1,fun i a b e1 e2=>hv.2 (i+1) a b e1 e2⟩;rw[List.find?_cons] at q;unfold valueAt;refine RW List.find?_cons<|RW (show kv.1=ar e.1 from Nn) ?_;refine EM (e.1=x) (fun c=>?_) fun c=>?_
  ·subst c
   rw[beq_self_eq_true] at q;cases a7 q;exact RW (kX rfl) (aK _ rfl (hv.2 0 _ _ rfl rfl))
  ·rw[beq_eq_false_iff_ne.mpr c] at q
   rw[decide_eq_false fun z=>c (ia z)];exact ja ml VO q
section
variable{w:World}{A:Around}{E:Value→Shared→Prop}{s:Shared}{ρ:Rh}{os:List O}{Q:Value→Shared→Prop}
theorem uS(e:II vs i=some v):∃j k,i=.int j∧fS j vs.length=some k∧vs[k]? =some v:=by
 exact aq (dI.mp e) fun j h1 e=>aq (dI.mp e) fun k h2 e=>(jN j k (cb h1) h2 e)
theorem aM.at{h:Heap}{vs:List V}{ws:List Value}{k:Nat}{v:V}(r:aM h ρ vs ws)(e:vs[k]? =some v):∃x,ws[k]? =some x∧VR h ρ v x:=by
 have hk:=(fY.mp e).1;have o8:k<ws.length:=r.1▸hk;exact aK (ws[k]) (dz o8) (r.2 k _ _ e (dz o8))
theorem ji{T id:String}(hT:s.TypeIs o T)
  (hl:typeLookup (.type T) "__getitem__"=pure (some (.builtin id))) (h:wpAny (model PW w) A (getItem o i) Q E s)
  (hs:subscripted slice false o i=operate ops (getItem o i)):
  wpAny (model PW w) A (subscriptTail value slice o i) Q E s:=by
 unfold subscriptTail;refine an<|RW (getitemInPython_of_ne hT.not_modules)<|an (wpAny_specialOf hT hl ?_);have fin:wpAny (model PW w) A (subscripted slice false o i) (fun r s₃=>wpAny (model PW w) A (letTemporaryGo value o r>>=fun _=>pure r) Q E s₃) E s:=by
  exact RW hs<|wpAny_operating (bw h (fun r s₃ h₃=>an (wpAny_letTemporaryGo (aS h₃))) fun _ _ x=>x)
 first
  |exact aS (an fin)
  |exact an (aS (an fin))
  |exact an fin
theorem qa
  (h:wpAny (model PW w) A (eval value env) (fun o s₁=>wpAny (model PW w) A (eval slice env) (fun i s₂=>wpAny (model PW w) A (subscriptTail value slice o i) Q E s₂) E s₁) E s):
  wpAny (model PW w) A (eval (.Subscript value slice pos) env) Q E s:=by
 rw[arm_eval_Subscript];exact an (bw h (fun o s₁ h₁=>an (cX (bw h₁ (fun i s₂ h₂=>an (eQ h₂)) fun _ _ x=>x))) fun _ _ x=>x)
theorem gn(h:gO slice=false)(o i):subscripted slice false o i=operate [o,i] (getItem o i):=by
 revert h
 induction slice using Expr.casesOn<;>first|exact fun _=>rfl|exact fun h=>absurd h.symm ck
theorem list_item{a:Addr}{vs:List V}{ws:List Value}{n:Nat}{i v:V}{iv:Value}{value slice:Expr}(h1:s.heap.get? a=some (b0 false ws n))(h2:ws.length≤ax)(h3:aM s.heap ρ vs ws)(ri:VR s.heap ρ i iv)(e:II vs i=some v)(hs:gO slice=false)
  (g:Grows s ρ v Q):wpAny (model PW w) A (subscriptTail value slice (.ref a) iv) Q E s:=by
 refine ez (uS e) fun j k aa hk hv=>?_;subst aa;refine aq (h3.at hv) fun x hx rx=>?_;apply ri.gx;intro t;have hl:s.heap.IsList a ws.toArray:=⟨_,h1,rfl,_,rfl⟩;rw[bc] at h2;have h5:=h3.1;refine gq (im hk) fun h6 h7 hk=>ji (aK _ h1 rfl) F.slot_list_getitem.lookup ?_ (gn hs _ _);refine EM (0≤j) (fun q=>?_) fun q=>?_
 ·rw[if_pos q] at hk
  exact wpAny_getItem_list hl q (by lia) (by refine RS hk ?_;simpa using hx) (g.tok s.toks rx)
 ·rw[if_neg q] at hk
  exact wpAny_getItem_list_neg hl (by lia) (by refine RW fh ?_;lia) (by lia) (by refine RW fh<|RS h5<|RS hk ?_;simpa using hx) (g.tok s.toks rx)
theorem Hb{o i v:V}{ov iv:Value}{value slice:Expr}(hs:gO slice=false)(S:SR w ρ os s.heap)(ro:VR s.heap ρ o ov)(ri:VR s.heap ρ i iv)(e:bn os o i=some v)(g:Grows s ρ v Q):wpAny (model PW w) A (subscriptTail value slice ov iv) Q E s:=by
 have hp:=fun o i=>gn hs o i
 induction o using V.casesOn with
 |seq k vs=>
  apply ro.qY;intro a ws n _ h1 h2 h3
  induction k using Bool.casesOn with
  |false=>exact list_item h1 h2 h3 ri e hs g
  |true=>
   refine ez (uS e) fun j k aa hk hv=>?_;subst aa;refine aq (h3.at hv) fun x hx rx=>?_;apply ri.gx;intro t;refine gq (im hk) fun b1 b2 _=>?_;rw[bc,←h3.1] at h2;exact ji (aK _ h1 rfl) F.slot_tuple_getitem.lookup (P.getItem_tuple (items:=ws.toArray) h1 (by lia) (by lia) (by((refine RW fh ?_);rewrite [←h3.1]);exact qv hk) (by simpa using hx) (g.tok s.toks rx)) (hp _ _)
 |str p=>
  refine aq (dI.mp e) fun j hj e=>?_;cases cb hj;refine aq (dI.mp e) fun k hk e=>?_;refine aq (eG.mp e) fun c hc aa=>?_;subst aa;apply ri.gx;intro t;apply ro.dS;intro u l;refine gq (im hk) fun b1 b2 _=>?_;rw[bc] at l;refine ji (iR _ _ _) F.slot_str_getitem.lookup (P.getItem_str (c:=c) (by simp;lia) ?_ (g.tok (s.toks+1) (VR.str [c] s.toks (by simp[bc])))) (hp _ _)
  refine RW (bh _)<|RW (qv hk) ?_;simpa[ar] using hc
 |ref r=>
  apply ro.gX;intro a hr;refine bf (S.num hr) fun o ho=>?_;have R:=S.at hr ho;unfold bn at e;dsimp only at e;rw[ho] at e
  induction o using O.casesOn with
  |list vs=>
   exact ez R fun ws n h1 h2 h3=>list_item h1 h2 h3 ri e hs g
  |dict es ep=>
   refine aq (dI.mp e) fun x hx e=>?_;cases c8 hx;apply ri.dS;intro t l;refine EL R fun bM e0 Ss _ hl hk hv=>?_;have hd:=Ss.dictOf;exact aq (ja hk hv e) fun y hy ry=>ji hd.mapOf.typeIs slot_dict_getitem.lookup (wpAny_getItem_of (knd:=PySem.strKind PW w) (k:=ar x) (kk x t) hd.mapOf hy (g.tok _ ry)) (hp _ _)
  |_=>exact aJ e
 |_=>exact aJ e
end
section
variable{F:bT}{g:Gr}{s:Shared}{ρ:Rh}{st:St}
theorem CF(he:fg F)(hi:gO i=false)(h:mH F g.C o i st Q)(N:aV g st s ρ):wpAny g.m g.A (eval (.Subscript o i pos) g.env) (ey g Q s ρ) cq s:=
 qa (he.go h N fun _ _ _ _ _ h N₁ U₁ r₁=>he.go h N₁ fun _ _ _ _ _ h N₂ U₂ r₂=>aE h fun _ hz h=>Hb hi N₂.S (U₂.v r₁) r₂ hz (ey.grows N₂ (U₁.trans U₂) h))
end
noncomputable def eJ:V→Option Int
 |.int i=>some i
 |_=>none
theorem kA(n d m:Nat):cutAt n d (.int m)=some (min m n):=by
 refine(?_:some (max 0 (min (if(m:Int)<0 then(m:Int)+n else m) (n:Int))).toNat=_)
 refine RW (au (Int.not_lt.mpr (pj m)))<|aA (Nat.le_total m n) (fun c=>?_) fun c=>?_
 ·refine RW (Int.min_eq_left (Int.ofNat_le.mpr c))<|RW (Nat.min_eq_left c)<|RW (Int.max_eq_right (pj _))<|RW (Int.toNat_natCast _) rfl
 ·refine RW (Int.min_eq_right (Int.ofNat_le.mpr c))<|RW (Nat.min_eq_right c)<|RW (Int.max_eq_right (pj _))<|RW (Int.toNat_natCast _) rfl
theorem mP(hd:d≤n)(h:cutAt n d v=some k):k≤n∧((match eJ v with
   |none=>(d:Int)
   |some i=>max 0 (min (if i<0 then i+n else i) (n:Int))):Int)=(k:Int):=by
 induction v using V.casesOn with
 |none=>cases a7 h;exact⟨hd,rfl⟩
 |int i=>exact a7 h▸⟨Int.toNat_le.mpr (Int.max_le.mpr ⟨pj _,Int.min_le_right _ _⟩),(Int.toNat_of_nonneg (Int.le_max_left _ _)).symm⟩
 |_=>exact aJ h
theorem oK(h1:cutAt n 0 l=some a)(h2:cutAt n n u=some b):sliceBounds (eJ l) (eJ u) none n=((a:Int),(b:Int),1):=by
 refine RS (mP (c9 n) h1).2<|RS (mP (bI n) h2).2 ?_;cases eJ l<;>cases eJ u<;>rfl
theorem kI(r:VR h ρ v x)(c:cutAt n d v=some k):IsPart x (eJ v)∧∃q:Option (Int×Tok),x=partValue q∧q.map (·.1)=eJ v:=by
 induction v using V.casesOn with
 |none=>apply r.lV;exact⟨.none,none,rfl,rfl⟩
 |int i=>apply r.gx;intro t;exact⟨.int _ _,some (_,_),rfl,rfl⟩
 |_=>exact aJ c
theorem oL(h:vW s l u=some r):∃a b,cutAt s.length 0 l=some a∧cutAt s.length s.length u=some b∧r=(s.drop a).take (b-a):=by
 exact aq (dI.mp h) fun a h1 h=>aq (dI.mp h) fun b h2 h=>(jN a b h1 h2 (a7 h).symm)
theorem aM.cut(r:aM h ρ vs ws)(a n):aM h ρ ((vs.drop a).take n) ((ws.drop a).take n):=by
 refine⟨by simp[r.1],fun i v x e1 e2=>?_⟩
 rw[List.getElem?_take] at e1 e2;split at e1
 ·rename_i hi
  rw[if_pos hi,List.getElem?_drop] at e2;rw[List.getElem?_drop] at e1;exact r.2 _ _ _ e1 e2
 ·exact aJ e1
section
variable{w:World}{A:Around}{E:Value→Shared→Prop}{s:Shared}{ρ:Rh}{os:List O}{Q:Value→Shared→Prop}
theorem ur{a b v:V}{av bv:Value}{value:Expr}{l u:Option Expr}{pos:Pos}{sl ad:Addr}{vs:List V}{ws:List Value}{n:Nat}(S:SR w ρ os s.heap)(ra:VR s.heap ρ a av)(rb:VR s.heap ρ b bv)(hs:s.heap.IsSliceOf sl av bv .none)
  (h1:s.heap.get? ad=some (b0 false ws n)) (h2:ws.length≤ax) (h3:aM s.heap ρ vs ws) (h4:(vW vs a b).map (V.seq false)=some v) (g:Grows s ρ v Q):wpAny (model PW w) A (subscriptTail value (.Slice l u none pos) (.ref ad) (.ref sl)) Q E s:=by
 refine aq (eG.mp h4) fun r h5 aa=>?_;subst aa;refine ez (oL h5) fun i j c1 c2 aa=>?_;subst aa;refine ji (ops:=[.ref sl,.ref ad]) (aK _ h1 rfl) F.slot_list_getitem.lookup (wpAny_getItem_list_slice (items:=ws.toArray) ⟨_,h1,rfl,_,rfl⟩ hs (kI ra c1).1 (kI rb c2).1 .none (by simp) ?_ (RW fh<|RW du h2)) rfl
 rw[kmk_pick_nat ws.toArray (by((refine RW List.size_toArray ?_);rewrite [←h3.1]);exact oK c1 c2)]
 exact g.seq S (h3.cut i (j-i)) (by simp only[List.length_take,List.length_drop];lia) _
theorem MA(S:SR w ρ os s.heap)(ro:VR s.heap ρ o ov)(ra:VR s.heap ρ a av)(rb:VR s.heap ρ b bv)
  (hs:s.heap.IsSliceOf sl av bv .none) (e:ek os o a b=some v) (g:Grows s ρ v Q):wpAny (model PW w) A (subscriptTail value (.Slice l u none pos) ov (.ref sl)) Q E s:=by
 induction o using V.casesOn with
 |str p=>
  refine aq (eG.mp e) fun r h5 aa=>?_;subst aa;refine ez (oL h5) fun i j c1 c2 aa=>?_;subst aa;apply ro.dS;intro t l;refine aq (kI ra c1).2 fun q1 aa e1=>?_;subst aa;refine aq (kI rb c2).2 fun q2 aa e2=>?_;subst aa;have A5:slicePicked (ar p) q1 q2 none=(List.range (j-i)).map (i+·):=by
   unfold slicePicked;refine RW e1<|RW e2<|RW (bh _) ?_;refine(?_:sliceRange (sliceBounds (eJ a) (eJ b) none p.length).1 (sliceBounds (eJ a) (eJ b) none p.length).2.1 (sliceBounds (eJ a) (eJ b) none p.length).2.2=_);exact RW (oK c1 c2)<|sliceRange_one _ _
  have QE:((List.range (j-i)).map (i+·)).filterMap ((ar p).cps[·]?)=(p.drop i).take (j-i):=by
   rw[pick_run];simp[ar]
  refine ji (ops:=[.ref sl,.str (ar p) t]) (iR _ _ _) F.slot_str_getitem.lookup (wpAny_getItem_str_slice (l:=q1) (u:=q2) (st:=none) hs rfl ?_) rfl;unfold sliceMade;refine RW A5<|RW QE ?_;have hle:((p.drop i).take (j-i)).length≤ax:=by simp only[List.length_take,List.length_drop];lia
  split
  ·rename_i a9
   rw[Bool.and_eq_true,beq_iff_eq,beq_iff_eq] at a9;have a9:=a9.2;rw[List.length_map,List.length_range,bh] at a9;have hj:=(mP (bI _) c2).1;have hi:=(mP (c9 _) c1).1;cases(by lia:i=0)
   rw[List.drop_zero,List.take_of_length_le ((Nat.le_of_eq a9.symm))] at g;exact g.tok s.toks (.str _ _ l)
  ·exact⟨by refine(?_:(ar _).length≤_);exact RW (bh _)<|RW du<|hle,g.tok _ (.str _ _ hle)⟩
 |seq k vs=>
  induction k using Bool.casesOn with
  |true=>exact aJ e
  |false=>
   apply ro.qY;intro ad ws n _ h1 h2 h3;exact ur S ra rb hs h1 h2 h3 e g
 |ref r=>
  apply ro.gX;intro ad hr;refine bf (S.num hr) fun o ho=>?_;have R':=S.at hr ho;unfold ek at e;dsimp only at e;rw[ho] at e
  induction o using O.casesOn with
  |list vs=>
   exact ez R' fun ws n h1 h2 h3=>ur S ra rb hs h1 h2 h3 e g
  |_=>exact aJ e
 |_=>exact aJ e
end
section
variable{F:bT}{g:Gr}{s:Shared}{ρ:Rh}{st:St}
theorem yr(he:fg F)(h:zd F g.C e st Q)(N:aV g st s ρ)(k:∀x s' ρ' v st',Q v st'→aV g st' s' ρ'→Up s ρ s' ρ'→VR s'.heap ρ' v x→R x s'):wpAny g.m g.A (evalPart e g.env) R E s:=by
 induction e using Option.casesOn with
 |none=>exact aS (k _ _ _ _ _ h N (Up.refl _ _) .none)
 |some e=>exact he.go h N k
theorem Ew(he:fg F)(h:ua F g.C o l u t st Q)(N:aV g st s ρ):wpAny g.m g.A (eval (.Subscript o (.Slice l u t p) pos) g.env) (ey g Q s ρ) cq s:=by
 refine az (ae h) fun h1 h=>?_;cases tE.mp h1;refine qa (he.go h N fun x s₁ ρ₁ v cu h N₁ U₁ r₁=>wpAny_Slice (yr he h N₁ fun y s₂ ρ₂ a j6 h N₂ U₂ r₂=>yr he h N₂ fun z s₃ ρ₃ b Nz h N₃ U₃ r₃=>?_));refine RW (evalPart_none _) ?_;have N₄:=N₃.grow (fun _ _ e=>gp ({cls:=.type "slice",data:=.fields #[y,z,.none]}:Obj) e) s₃.toks;exact aS (aE h fun v hv h=>MA N₄.1.S (N₄.2.v (U₃.v (U₂.v r₁))) (N₄.2.v (U₃.v r₂)) (N₄.2.v r₃) (lL _ (dm _ rfl) rfl rfl) hv (ey.grows N₄.1 (((U₁.trans U₂).trans U₃).trans N₄.2) h))
theorem QN{motive:Expr→Prop}(a:∀e p,motive (.FormattedValue e (-1) none p)):(xI e=e→motive e)→motive e:=by
 induction e using Expr.casesOn with
 |FormattedValue v c f p=>
  intro b;refine EM (c=-1∧f.isNone=true) (fun h=>?_) fun h=>?_
  ·exact RW h.1<|RW (tE.mp h.2)<|a v p
  ·exact b (au h)
 |_=>exact fun b=>b rfl
set_option tactic.hygienic true in
theorem uh(he:fg F){Q:Tx→St→Prop}{R:Str→Shared→Prop}(k:∀x s' ρ' st',Q x st'→aV g st' s' ρ'→Up s₀ ρ₀ s' ρ'→x.length≤ax→R (ar x) s'):∀(es:List Expr) (ai:Tx) {st:St} {s:Shared} {ρ:Rh},v9 F g.C es ai st Q→aV g st s ρ→Up s₀ ρ₀ s ρ→ai.length≤ax→Joins g.m g.A cq (evalEach es g.env) (ar ai) R s
 |[],ai,st,s,ρ,h,N,U,l=>k _ _ _ _ h N U l
 |e::r,ai,st,s,ρ,h,N,U,l=>by
  have key:wpAny g.m g.A (eval (xI e) g.env) (fun v s₁=>∃x t,v=.str x t∧(ar ai++x).length≤sizeLine∧x.length≤sizeLine∧∀tk:Nat,Joins g.m g.A cq (evalEach r g.env) (ar ai++x) R {s₁ with toks:=tk}) cq s:=by
   refine he.go h N fun v s₁ ρ₁ u cu h N₁ U₁ r₁=>?_;revert r₁;apply kt h;intro x h r₁;apply r₁.dS;intro t l';have hl:(ar ai++ar x).length≤sizeLine:=RW (cD _ _)<|RW (bh _)<|RW du h.1;refine AK (ar x) t rfl hl (RW (bh _)<|RW du l') (fun tk=>?_);have z:=N₁.tok tk;exact RW (cD _ _)<|uh he k r (ai++x) h.2 z.1 (U.trans (U₁.trans z.2)) h.1
  revert key;refine QN (motive:=fun e=>wpAny g.m g.A (eval (xI e) g.env) (fun v s₁=>∃x t,v=.str x t∧(ar ai++x).length≤sizeLine∧x.length≤sizeLine∧∀tk:Nat,Joins g.m g.A cq (evalEach r g.env) (ar ai++x) R {s₁ with toks:=tk}) cq s→Joins g.m g.A cq (evalEach (e::r) g.env) (ar ai) R s) (fun e' p key=>?_) fun hp key=>?_
  ·refine wpAny_FormattedValue_plain (gD key fun v s₁ ⟨x,t,hv,hl,hx,hj⟩=>?_)
   subst hv;exact wpAny_formatField_str (jN _ t rfl hl (hj s₁.toks)) (jN _ _ rfl hl (hj _)) hx
  ·rw[hp] at key
   exact gD key fun v s₁ ⟨x,t,hv,hl,hx,hj⟩=>(jN x t hv hl (hj s₁.toks))
end
end
section
open PySem.Builtin PySem.Builtin.ObjectAttr PySem.Builtin.Getset_descriptor
def Jh(P:Params)(C:Addr):Bool:=
 plainGet (bF P) C ""&&hasDictIn (bF P) C&&plainOver (bF P) C&&(findIn (bF P) (.ref C) "__setattr__"==some (some (.builtin "object.__setattr__")))&&
 (gk C).all fun n=>(findIn (bF P) (.ref C) (ar n)==some none)
theorem ME(P):(fI.all (Jh P))=true:=by kernel_rfl
theorem yw(P):(gj.all fun x=>plainGet (bF P) x.1 ""&&(findIn (bF P) (.ref x.1) (ar x.2.1)==some (some (.ref x.2.2)))&&(typeIn (bF P) (.ref x.2.2)==some (.type "function")))=true:=by kernel_rfl
theorem lC(r:VR h ρ v x):handedIn x=true:=by
 induction r using VR.casesOn with
 |con v e=>revert e;induction v using Value.casesOn<;>first|exact fun _=>rfl|exact fun h=>h
 |_=>rfl
theorem jK(h:(gk C).contains n=true):C∈fI:=by
 unfold gk at h;split at h
 ·rename_i q;rw[beq_iff_eq] at q;subst q;decide
 ·split at h
  ·rename_i q;rw[beq_iff_eq] at q;subst q;decide
  ·split at h
   ·rename_i q;rw[beq_iff_eq] at q;subst q;decide
   ·exact c0 h
structure EA(P:Params)(C:Addr):Prop where
 get:plainGet (bF P) C ""=true
 dict:hasDictIn (bF P) C=true
 over:plainOver (bF P) C=true
 set:findIn (bF P) (.ref C) "__setattr__"=some (some (.builtin "object.__setattr__"))
 attr:∀n,(gk C).contains n=true→findIn (bF P) (.ref C) (ar n)=some none
theorem lD(P)(h:C∈fI):EA P C:=by
 have:=eH.mp (ME P) C h;unfold Jh at this;simp only[Bool.and_eq_true,beq_iff_eq,List.all_eq_true] at this;exact az this fun aa h5=>az aa fun aP h4=>az aP fun cN h3=>az cN fun h1 h2=>⟨h1,h2,h3,h4,fun n hn=>h5 n (by simpa using hn)⟩
section
variable{w:World}{A:Around}{E:Value→Shared→Prop}{s:Shared}{ρ:Rh}{os:List O}
theorem uy{de:DictEntry}{k:Tx}{t:Tok}(h:de.key=.str (ar k) t)(n):de.key.isStr (ar n)=(k==n):=by
 exact RW h<|mE k n
theorem AR.find{d6:List DictEntry}(r:AR h ρ es d6)(n):
  (fieldOf es n=none∧d6.find? (·.key.isStr (ar n))=none)∨∃v de,fieldOf es n=some v∧d6.find? (·.key.isStr (ar n))=some de∧VR h ρ v de.val:=by
 induction r with
 |nil=>exact .inl ⟨rfl,rfl⟩
 |@cons e de es d6 t h1 h2 _ ih=>
  simp only[fieldOf,List.find?_cons,uy h1] at ih ⊢;refine EM (e.1=n) (fun c=>?_) fun c=>?_
  ·subst c
   simp only[beq_self_eq_true,Option.map_some];exact .inr (jN _ _ rfl rfl h2)
  ·exact RW (gY.mpr c) ih
theorem AR.noRef(r:AR h ρ es d6):d6.any (·.refKey)=false:=by
 induction r with
 |nil=>rfl
 |cons h1 _ _ ih=>refine RW lR<|RW ih ?_;simp[DictEntry.refKey,h1]
theorem AR.length(r:AR h ρ es d6):d6.length=es.length:=by
 induction r with
 |nil=>rfl
 |cons _ _ _ ih=>simp[ih]
theorem AR.put{d6:List DictEntry}(r:AR h ρ es d6){n:Tx}(hv:VR h ρ v x)(Rx)(t:Tok):AR h ρ (dJ es n v) (putL (ar n) Rx (.str (ar n) t) x d6):=by
 induction r with
 |nil=>exact .cons rfl hv .nil
 |@cons e de es d6 t' h1 h2 h3 ih=>
  simp only[dJ,putL,uy h1];refine EM (e.1=n) (fun c=>?_) fun c=>?_
  ·subst c
   simp only[beq_self_eq_true,if_true];exact .cons h1 hv h3
  ·exact RW (au (by simpa using c))<|RW (au (by simpa using c))<|.cons h1 h2 ih
theorem AR.look(r:AR h ρ es d6)(n):
  (fieldOf es n=none∧lookIn (ar n) (dictOf d6 ep)=some none)∨∃v x,fieldOf es n=some v∧lookIn (ar n) (dictOf d6 ep)=some (some x)∧VR h ρ v x:=by
 have e:lookIn (ar n) (dictOf d6 ep)=match d6.find? (·.key.isStr (ar n)) with
   |some e=>some (some e.val)
   |none=>if d6.any (·.refKey) then none else some none:=rfl
 refine RW e<|RW r.noRef<|aA (r.find n) (fun aa=>az aa fun q1 q2=>?_) fun aP=>ez aP fun v de q1 q2 q3=>?_
 ·exact RW q2<|.inl ⟨q1,rfl⟩
 ·exact RW q2<|.inr (jN v _ q1 rfl q3)
theorem mI(S:SR w ρ os s.heap){i d:Nat}{C:Addr}{a:Addr}{es:List (Tx×V)}(hi:ρ.l[i]? =some a)(ho:os[i]? =some (.inst C d))(hd:os[d]? =some (.attrs es)):
  ∃ox d6 ep dx,W.InstAt s.heap a ox C (some (dictOf d6 ep))∧ox.dict=some dx∧ρ.l[d]? =some dx∧s.heap.get? dx=some (dictOf d6 ep)∧d6.length≤ax∧AR s.heap ρ es d6:=by
 exact fJ (S.at hi ho) fun dx sl h1 h2=>ez (S.at h1 hd) fun d6 ep g1 g2 g3=>(UE _ d6 ep dx ⟨h2,rfl,rfl,g1⟩ rfl h1 g1 g2 g3)
theorem LP{i d:Nat}{C a:Addr}{es:List (Tx×V)}{n:Tx}{v:V}{expr:Bool}{Q:Value→Shared→Prop}(S:SR w ρ os s.heap)(hi:ρ.l[i]? =some a)(ho:os[i]? =some (.inst C d))(hd:os[d]? =some (.attrs es))
  (hn:(gk C).contains n=true) (hv:fieldOf es n=some v) (g:Grows s ρ v Q):wpAny (model PW w) A (getAttr (.ref a) (ar n) expr) Q E s:=by
 refine NZ (mI S hi ho hd) fun ox d6 ep dx I h1 h2 h3 h4 h5=>?_;have C0:=lD w.params (jK hn);refine aA (h5.look (ep:=ep) n) (fun aa=>az aa fun q _=>?_) fun aP=>ez aP fun v' y q1 q2 q3=>?_
 ·rw[q] at hv;exact aJ hv
 ·rw[q1] at hv;cases a7 hv
  refine get_value S.aL.X I (plainGet_of C0.get).1 ?_ (lC q3) (g.tok _ q3);refine aq (any_some C0.dict) fun cd hc Uj=>?_;unfold findObj;refine RW hc<|RW (mY _ _)<|RW (C0.attr n hn)<|RW (mY _ _) ?_;simp only[Option.bind_some];unfold W.ownOf;refine RW Uj<|RW (aB rfl) ?_;dsimp only;refine RW q2 ?_;rfl
theorem Gw{K:Frag}{R:Result→Shared→Prop}{d6:List DictEntry}{name:Str}{tk:Tok}(X:K.In s.heap)
  (I:W.InstAt s.heap x ox C (some (dictOf d6 ep))) (hd:ox.dict=some dx) (hp:plainOver K C=true) (ht:takerIn K C name=some none) (hh:(clsIn K C).any (·.hasDict)=true) (D:s.heap.get? dx=some (dictOf d6 ep))
  (hr:d6.any (·.refKey)=false) (hz:(putL name (PyData.keyHash w.params name) (.str name s.toks) v d6).length≤ax)
  (h:∀h',h'.get? dx=some (dictOf (putL name (PyData.keyHash w.params name) (.str name s.toks) v d6) (putN name d6 ep))→Heap.SameBut dx s.heap h'→R (.ok (.ret .none)) {s with heap:=h',toks:=s.toks+1}):
  codeAny (model PW w) A (.call (.builtin "object.__setattr__") ⟨[.ref x,.str name tk,v],[]⟩) R s:=by
 refine osa_open X I hp ht fun b=>aq (any_some hh) fun cd hc vu=>?_;obtain⟨hx,jC,hn,-⟩:=I;obtain⟨oc,Xm,Xn,Xl⟩:=ox;dsimp only at jC hd;subst jC hd;refine an (aS (an (an (wpAny_loadPart hx (an ((looks_clsIn X hc).here ?_))))));refine RW vu<|aS (a:=some dx) (an (aS (an ?_)));unfold nsSet;refine an (an (wpAny_askSetting (aS (an (wpAny_mkText (an (wpAny_loadPart D ?_)))))));dsimp only;have c:(!d6.toArray.any (·.key.isStr name)&&d6.toArray.any (·.refKey))=false:=by
  refine RW List.any_toArray<|RW List.any_toArray<|RW hr<|RW (Bool.and_false _) rfl
 refine RW (aRefKeyMayBeTheName_at _ _)<|RW c<|wpAny_updatePart D ?_;have e:=putName_dict name (PyData.keyHash w.params name) (.str name s.toks) v d6 ep;have D':=gZ (Obj.putName name (PyData.keyHash w.params name) (.str name s.toks) v) D (RW e rfl);rw[e] at D';refine an (wpAny_lookBehind D' (pastItsLine_dict (by refine RW fh<|RW du ?_;rw[bc] at hz;exact(Nat.le_succ_of_le hz))) ?_)
 exact aS (h _ D' (gF ..))
theorem uf(name)(Rx)(key v):∀es:List DictEntry,(putL name Rx key v es).length≤es.length+1
 |[]=>bI _
 |e::r=>by
  unfold putL;split
  ·simp
  ·have:=uf name Rx key v r
   simp;exact this
theorem KI{i d:Nat}{C a:Addr}{es:List (Tx×V)}{n:Tx}{v:V}{x:Value}(S:SR w ρ os s.heap)(hi:ρ.l[i]? =some a)(ho:os[i]? =some (.inst C d))(hd:os[d]? =some (.attrs es))
  (hn:(gk C).contains n=true) (hl:es.length<ax) (hv:VR s.heap ρ v x):wpAny (model PW w) A (setAttr (.ref a) (ar n) x) (fun _ s'=>aQ w ρ s (os.set d (.attrs (dJ es n v))) ρ s') E s:=by
 refine NZ (mI S hi ho hd) fun ox d6 ep dx I h1 h2 h3 h4 h5=>?_;have C0:=lD w.params (jK hn);refine set_plain S.aL.X I C0.set ?_;have ht:takerIn (bF w.params) C (ar n)=some none:=by unfold takerIn;exact RW (C0.attr n hn) rfl
 have a9:(putL (ar n) (PyData.keyHash w.params (ar n)) (.str (ar n) (s.toks+1)) x d6).length≤ax:=by
  have:=uf (ar n) (PyData.keyHash w.params (ar n)) (.str (ar n) (s.toks+1)) x d6;rw[h5.length] at this;lia
 refine Gw (s:={s with toks:=s.toks+1}) S.aL.X I h1 C0.over ht C0.dict h3 h5.noRef a9 fun h' g sb=>?_
 have hk:aU (fun b=>b=dx) s.heap h':=aU.cC sb rfl;have hf:fF (fun b=>b=dx) ρ s.heap:=fun b o _ m=>by subst m;exact .inl (Rh.dh (db h2))
 exact aQ.put S h2 sb _ (jN _ _ g a9 ((h5.eX hk hf (fun _ _ e=>e) aO).put (hv.keep hk hf (fun _ _ e=>e) aO) _ _))
theorem zR{i d:Nat}{C a f:Addr}{es:List (Tx×V)}{n:Tx}{pl:Sem Bool}{Q:Value×List Value→Shared→Prop}(S:SR w ρ os s.heap)(hi:ρ.l[i]? =some a)(ho:os[i]? =some (.inst C d))(hd:os[d]? =some (.attrs es))
  (hm:cR C n=some f) (hn:(fieldOf es n).isNone=true) (h:Q (.ref f,[.ref a]) s):wpAny (model PW w) A (getMethod (.ref a) (ar n) pl) Q E s:=by
 refine NZ (mI S hi ho hd) fun ox d6 ep dx I h1 h2 h3 h4 h5=>?_;refine aq (eG.mp hm) fun e he aa=>?_;subst aa;have hc:=List.find?_some he;simp only[Bool.and_eq_true,beq_iff_eq] at hc;refine az hc fun aa aP=>?_;clear hc;subst aa;subst aP;have F0:=eH.mp (yw w.params) e (zc he);simp only[Bool.and_eq_true,beq_iff_eq] at F0;refine az F0 fun aa F3=>az aa fun F1 F2=>az (plainGet_of F1) fun g1 g2=>method_fn S.aL.X I g1 g2 F2 F3 ?_ h;refine(?_:(lookIn _ _).map _=_);refine aA (h5.look (ep:=ep) e.2.1) (fun aa=>az aa fun q1 q2=>?_) fun aP=>ez aP fun v' y q1 q2 q3=>?_
 ·exact RW q2 rfl
 ·rw[q1] at hn;exact c0 hn
end
theorem Ga(P):(mB.all fun x=>(fG 63 x.1==some x.2.1)&&(findIn (bF P) (.ref 63) (ar x.1)==some (some (.ref x.2.2)))&&(slotIn (bF P) x.2.2 63==some x.2.1)&&
  (specialIn (bF P) (.ref x.2.2) "__get__"==some (some (.builtin "member_descriptor.__get__")))&&(takesIn (bF P) (.ref x.2.2)==some true)&&(typeIn (bF P) (.ref x.2.2)==some (.type "member_descriptor")))=true:=by kernel_rfl
def Ji(P:Params):Bool:=plainGet (bF P) 63 ""&&plainOver (bF P) 63&&(findIn (bF P) (.ref 63) "__setattr__"==some (some (.builtin "object.__setattr__")))&&isClsIn (bF P) 63
theorem Eh(P):Ji P=true:=by kernel_rfl
theorem oq(h:fG C n=some k):C=63∧∃p,(n,k,p)∈mB:=by
 unfold fG at h;refine EM ((C==63)=true) (fun c=>?_) fun c=>?_
 ·rw[if_pos c] at h
  refine aq (eG.mp h) fun x hx aa=>?_;subst aa;exact⟨cO.mp c,x.2,fV hx⟩
 ·rw[if_neg c] at h;exact aJ h
theorem yb(h:fG C n=some k):k<3:=by
 refine az (oq h) fun _ aa=>bf aa fun p hp=>?_;simp[mB] at hp;lia
section
variable{w:World}{A:Around}{E:Value→Shared→Prop}{s:Shared}{ρ:Rh}{os:List O}
theorem jI{K:Frag}{od:Option Obj}{name:Str}(hc:(clsIn K C).isSome=true)(ha:findIn K (.ref C) name=some (some a))(hg:specialIn K a "__get__"=some (some g))(ht:takesIn K a=some true):findObj K C od name=some (.bind g a):=by
 refine bf (vM.mp hc) fun cd hc=>?_;unfold findObj;refine RW hc<|RW (mY _ _)<|RW ha<|RW (mY _ _) ?_;simp[hg,ht]
structure Az(P:Params)(n:Tx)(k:Nat)(p:Addr):Prop where
 find:findIn (bF P) (.ref 63) (ar n)=some (some (.ref p))
 slot:slotIn (bF P) p 63=some k
 get:specialIn (bF P) (.ref p) "__get__"=some (some (.builtin "member_descriptor.__get__"))
 takes:takesIn (bF P) (.ref p)=some true
 type:typeIn (bF P) (.ref p)=some (.type "member_descriptor")
 c1:plainGet (bF P) 63 ""=true
 c2:plainOver (bF P) 63=true
 c3:findIn (bF P) (.ref 63) "__setattr__"=some (some (.builtin "object.__setattr__"))
 c4:(clsIn (bF P) 63).isSome=true
theorem oo(P)(h:fG C n=some k):C=63∧∃p,Az P n k p:=by
 refine az (oq h) fun aa aP=>bf aP fun p hp=>?_;subst aa;have F0:=eH.mp (Ga P) _ hp;have C0:=Eh P;unfold Ji at C0;simp only[Bool.and_eq_true,beq_iff_eq] at F0 C0;exact⟨rfl,p,F0.1.1.1.1.2,F0.1.1.1.2,F0.1.1.2,F0.1.2,F0.2,C0.1.1.1,C0.1.1.2,C0.1.2,C0.2⟩
theorem uW{i k d:Nat}{C a:Addr}{vs:List (Option V)}{n:Tx}{v:V}{expr:Bool}{Q:Value→Shared→Prop}(S:SR w ρ os s.heap)(hi:ρ.l[i]? =some a)(ho:os[i]? =some (.slots C d vs))
  (hk:fG C n=some k) (hv:(vs[k]?).join=some v) (g:Grows s ρ v Q):wpAny (model PW w) A (getAttr (.ref a) (ar n) expr) Q E s:=by
 refine xz (S.at hi ho) fun dx sl e0 e1 jp e2=>bf (S.there (Rh.dh (db e0))) fun od NS=>?_;refine az (oo w.params hk) fun aa aP=>bf aP fun p F=>?_;subst aa;have I:W.InstAt s.heap a ⟨.ref 63,some dx,.plain,sl⟩ 63 (some od):=⟨e1,rfl,rfl,NS⟩;have:=e2 k (yb hk);rw[hv] at this;exact aq this fun x q1 q2=>get_bind S.aL.X I (plainGet_of F.c1).1 (jI F.c4 F.find F.get F.takes) (plainGet_of F.c1).2 (jw (slot_get (s:={s with toks:=s.toks+1}) S.aL.X I F.slot q1 (handed_on (lC q2) (g.tok _ q2))))
theorem GL{K:Frag}{R:Result→Shared→Prop}{od:Option Obj}(X:K.In s.heap)(I:W.InstAt s.heap x ox C od)
  (hp:slotIn K p C=some i) (hi:i<1000)
  (e:{ox with slots:=(ox.slots++Array.replicate (i+1-ox.slots.size) none).setIfInBounds i (some v)}=TS) (hf:TS.isFreed=false)
  (h:∀h',h'.get? x=some TS→Heap.SameBut x s.heap h'→R (.ok (.ret .none)) {s with heap:=h'}):
  codeAny (model PW w) A (.call (.builtin "member_descriptor.__set__") ⟨[.ref p,.ref x,v],[]⟩) R s:=by
 refine UL (slot_of X hp) fun n tn owner behind tb d sl cd ho hc hm hb aa=>?_;subst aa;obtain⟨hh,g,dr,t,os⟩:=s;have L0:=I.type (M:=model PW w);have L1:=looks_mroIn (M:=model PW w) X hm;have L2:Looks (model PW w) hh (Slots.slotNamesOf (.ref C)) cd.slotNames:=(looks_clsIn X hc).andThen .now;have hx:=I.at_;dsimp only at ho hx L0 L1;have f0:=looks_field (M:=model PW w) ho 0 (v:=.str n tn) rfl;have f1:=looks_field (M:=model PW w) ho 1 (v:=owner) rfl;have f3:=looks_field (M:=model PW w) ho 3 (v:=.builtin "proto.slot#set") rfl;have f4:=looks_field (M:=model PW w) ho 4 (v:=.int behind tb) rfl;refine codeAny_call_builtin KF.slot_mset.plain KF.entry_mset (KF.slot_mset.check _ _ _ _ _ _ _ _ (aK _ ho rfl) (KF.args_mset _ _ _) ?_);unfold Builtin.«member_descriptor.__set__» Builtin.Getset_descriptor.descrSet Builtin.Getset_descriptor.descrStoreThrough Builtin.Getset_descriptor.descrCheckInstance Builtin.Getset_descriptor.descrNameAndClass isInstance;have f5:Looks (model PW w) hh (Builtin.Getset_descriptor.descrItself (.ref p)) [.ref p]:=((Looks.ld (part:=none) ho).andThen .now).andThen (lS (by kernel_rfl))
 repeat lk
 refine⟨pN _ (by decide+kernel),lT KF.entry_slotset ?_⟩
 unfold Builtin.«proto.slot#set» Slots.target
 repeat lk
 refine RW (au hb)<|aS (an ?_);unfold setSlotAt;dsimp only;refine RW (au (by refine RW du ?_;lia)) ?_
 refine wpAny_updatePart hx (aS (h _ ?_ (gF ..)));refine RS e ?_;exact gZ _ hx (by rw[←e] at hf;exact hf)
theorem Gu(sl:Array (Option Value))(n j:Nat):((sl++Array.replicate n none)[j]?).join=(sl[j]?).join:=by
 refine EM (j<sl.size) (fun RE=>?_) fun RE=>?_
 ·refine RW (Array.getElem?_append_left RE) rfl
 ·refine RW (Array.getElem?_append_right ((rh RE)))<|RW (Array.getElem?_eq_none (xs:=sl) ((rh RE)))<|RW Array.getElem?_replicate ?_
  split<;>rfl
theorem uU(S:SR w ρ os s.heap)(hi:ρ.l[i]? =some a)(ho:os[i]? =some (.slots C d vs))
  (hk:fG C n=some k) (hl:k<vs.length) (hv:VR s.heap ρ v x):wpAny (model PW w) A (setAttr (.ref a) (ar n) x) (fun _ s'=>aQ w ρ s (os.set i (.slots C d (vs.set k (some v)))) ρ s') E s:=by
 refine xz (S.at hi ho) fun dx sl g0 g1 jp g2=>bf (S.there (Rh.dh (db g0))) fun od NS=>?_;have NM:=yb hk;refine az (oo w.params hk) fun aa aP=>bf aP fun p F=>?_;subst aa;have I:W.InstAt s.heap a ⟨.ref 63,some dx,.plain,sl⟩ 63 (some od):=⟨g1,rfl,rfl,NS⟩;have ht:takerIn (bF w.params) 63 (ar n)=some (some (.ref p)):=by unfold takerIn;refine RW F.find<|RW (mY _ _) ?_;dsimp only;exact RW F.takes rfl
 refine set_plain S.aL.X I F.c3 (osa_descr (s:={s with toks:=s.toks+1}) KF.slot_mset S.aL.X I F.c2 ht F.type (GL (s:={s with toks:=s.toks+1}) S.aL.X I F.slot ((nq NM (by decide))) rfl rfl fun h' q sb=>?_))
 have o8:aU (fun b=>b=a) s.heap h':=aU.cC sb rfl;have hf:fF (fun b=>b=a) ρ s.heap:=fun b o _ m=>by subst m;exact .inl (Rh.dh (db hi))
 refine aQ.put S hi sb _ (AK dx _ g0 q ?_ (fun j hj=>?_))
 ·refine RW Array.size_setIfInBounds<|RW Array.size_append<|RW Array.size_replicate (?_:sl.size+(_-sl.size)≤3);lia
 ·have RG:=g2 j hj
  refine EM (j=k) (fun c=>?_) fun c=>?_
  ·subst c
   refine RW (List.getElem?_set_self hl) ?_;refine aK x ?_ (hv.keep o8 hf (fun _ _ e=>e) aO);refine RW (Array.getElem?_setIfInBounds_self_of_lt (by refine RW Array.size_append<|RW Array.size_replicate (?_:_<sl.size+(_-sl.size));lia)) ?_
   rfl
  ·rw[List.getElem?_set_ne (fun z=>c z.symm),Array.getElem?_setIfInBounds_ne (fun z=>c z.symm),Gu]
   cases Ua:(vs[j]?).join with
   |none=>rw[Ua] at RG;exact RG
   |some u=>
    rw[Ua] at RG;exact aq RG fun y q1 q2=>(aK y q1 (q2.keep o8 hf (fun _ _ e=>e) aO))
end
end
section
theorem G7(k:Bool):(if k then "tuple" else "list")="list"∨(if k then "tuple" else "list")="tuple":=by induction k using Bool.casesOn<;>decide
theorem ya(r:VR s.heap ρ (.seq k us) x)
  (h:∀ws h',(∀b o,s.heap.get? b=some o→h'.get? b=some o)→aM h' ρ us ws→Q ws {s with heap:=h'}):StarOf (model PW w) A E x Q s:=by
 apply r.qY;intro a ws n _ h1 h2 h3;have hT:s.TypeIs (.ref a) (if k then "tuple" else "list"):=(aK _ h1 rfl)
 have z:wpAny (model PW w) A (collect (.ref a)) Q E s:=by
  refine wpAny_collect_seq (items:=ws.toArray) a (G7 k) h1 rfl rfl (fun h' hk=>?_) (RW fh<|RW du h2);exact h _ _ hk (h3.keep (bG hk) bQ (fun _ _ e=>e) aO)
 unfold StarOf notIterableAtAll
 induction k using Bool.casesOn
 ·exact an (wpAny_specialOf hT PySem.F.slot_list_iter.lookup (aS ⟨rfl,z⟩))
 ·exact an (wpAny_specialOf hT PySem.F.slot_tuple_iter.lookup (aS ⟨rfl,z⟩))
theorem jW(h:isStarred e=true):∃p,e=.Starred (v6 e) p:=by
 revert h
 induction e using Expr.casesOn<;>first|exact fun h=>absurd h ck|exact fun _=>⟨_,rfl⟩
theorem zt(h:isStarred e=false):v6 e=e:=by
 revert h
 induction e using Expr.casesOn<;>first|exact fun _=>rfl|exact fun h=>absurd h.symm ck
inductive UC(g:Gr)(ns:List Str)(Q:List (Str×V)→St→Prop)(s:Shared)(ρ:Rh)(xs:List Value)(s':Shared):Prop
 |mk (ks st' ρ') (hQ:Q ks st') (N:aV g st' s' ρ') (U:Up s ρ s' ρ') (r:aM s'.heap ρ' (ks.map (·.2)) xs) (n:ks.map (·.1)=ns):UC g ns Q s ρ xs s'
section
variable{F:bT}{g:Gr}
theorem yX(he:fg F)(pos):∀(es:List Expr) {st:St} {s:Shared} {ρ:Rh} {Q:List V→St→Prop},iy F g.C es st Q→aV g st s ρ→wpAny g.m g.A (spliced (backTo pos (starEach es g.env))) (EI g Q s ρ) cq s
 |[],_,_,_,_,h,N=>rc (.mk _ _ _ h N (Up.refl _ _) aM.nil)
 |e::r,st,s,ρ,Q,h,N=>by
  have rest:∀{us ws s₁ ρ₁ cu},iy F g.C r cu (fun vs st=>Q (us++vs) st)→aV g cu s₁ ρ₁→Up s ρ s₁ ρ₁→aM s₁.heap ρ₁ us ws→wpAny g.m g.A (spliced (backTo pos (starEach r g.env))) (fun xs=>EI g Q s ρ (ws++xs)) cq s₁:=fun h N₁ U₁ r₁=>
   EI.go (yX he pos r h N₁) fun xs s₂ ρ₂ vs j6 hQ N₂ U₂ r₂=>.mk _ _ _ hQ N₂ (U₁.trans U₂) ((U₂.vs r₁).append r₂)
  revert h;cases hs:isStarred e with
  |true=>
   intro h;refine bf (jW hs) fun p hp=>?_;unfold iy at h;rw[hs] at h;refine RW hp<|items_star (he.go h N fun x s₁ ρ₁ v cu h N₁ U₁ r₁=>?_);revert r₁;apply rP h;intro k us h r₁;exact ya r₁ fun ws h' hk rs=>have z:=N₁.grow hk s₁.toks;rest h z.1 (U₁.trans z.2) rs
  |false=>
   intro h;unfold iy at h;rw[hs,zt hs] at h;exact mZ (he.go h N fun x s₁ ρ₁ v cu h N₁ U₁ r₁=>rest h N₁ U₁ (aM.cons r₁ aM.nil)) (aD hs _ _)
theorem B9(he:fg F)(pos):∀(ks:List Keyword) {st:St} {s:Shared} {ρ:Rh} {Q:List (Str×V)→St→Prop},th F g.C ks st Q→aV g st s ρ→wpAny g.m g.A (evalAll ((backToKw pos (keywordEach ks g.env)).map (·.2))) (UC g (ks.filterMap (·.arg)) Q s ρ) cq s
 |[],_,_,_,_,h,N=>wpAny_evalAll_nil (.mk _ _ _ h N (Up.refl _ _) aM.nil rfl)
 |⟨none,_,_⟩::_,_,_,_,_,h,_=>h.elim
 |⟨some n,e,_⟩::r,st,s,ρ,Q,h,N=>wpAny_evalAll_cons (an (he.go h N fun x s₁ ρ₁ v cu h N₁ U₁ r₁=>an (eQ (aS (gD (B9 he pos r h N₁) fun xs s₂ z=>by
   cases z with|mk ks j6 ρ₂ hQ N₂ U₂ r₂ n=>exact .mk _ _ _ hQ N₂ (U₁.trans U₂) (aM.cons (U₂.v r₁) r₂) (bH (_::·) n))))))
theorem oz:∀(ks:List Keyword) (env:Env) (pos:Pos),(ks.all fun k=>k.arg.isSome)=true→(backToKw pos (keywordEach ks env)).all (·.1.isSome)=true∧(backToKw pos (keywordEach ks env)).filterMap (·.1)=ks.filterMap (·.arg)
 |[],_,_,_=>⟨rfl,rfl⟩
 |⟨none,_,_⟩::_,_,_,h=>c0 h
 |⟨some n,_,_⟩::r,env,pos,h=>
  have z:=oz r env pos h
  ⟨z.1,bH (n::·) z.2⟩
theorem eL(pos)(env):∀es:List Expr,(backTo pos (starEach es env)).any (·.1)=es.any isStarred
 |[]=>rfl
 |e::r=>by
  refine RW lR<|RS (eL pos env r) ?_;cases hs:isStarred e with
  |true=>refine bf (jW hs) fun p hp=>?_;exact RW hp rfl
  |false=>exact RW (aD hs _ _) rfl
structure M9(g:Gr)(kws:List Keyword)(s:Shared)(ρ:Rh)(vs:List V)(ks:List (Str×V))(a:Args)(st':St)(s':Shared)(ρ':Rh):Prop where
 N:aV g st' s' ρ'
 U:Up s ρ s' ρ'
 r:aM s'.heap ρ' vs a.pos
 k:xy s'.heap ρ' ks a.kw
 n:a.kw.map (·.1)=kws.filterMap (·.arg)
theorem fc(he:fg F){args:List Expr}{kws:List Keyword}{st:St}{s:Shared}{ρ:Rh}{Q:List V→List (Str×V)→St→Prop}(jq:hX args kws=true)(h:iy F g.C args st fun vs st=>th F g.C kws st fun ks st=>Q vs ks st)(N:aV g st s ρ)
  {pos:Pos} {f:Value} {E:Value→Shared→Prop} {R:Args→Shared→Prop} (k:∀a s' ρ' vs ks st',Q vs ks st'→M9 g kws s ρ vs ks a st' s' ρ'→R a s'):
  wpAny g.m g.A (evalArgs f true (backTo pos (starEach args g.env)) (backToKw pos (keywordEach kws g.env))) R E s:=by
 unfold hX at jq;rw[Bool.and_eq_true,Bool.and_eq_true] at jq;refine az (oz kws g.env pos jq.1.1) fun k1 k2=>?_;have fin:∀{vs xs s₁ ρ₁ cu},th F g.C kws cu (fun ks st=>Q vs ks st)→aV g cu s₁ ρ₁→Up s ρ s₁ ρ₁→aM s₁.heap ρ₁ vs xs→
   wpAny g.m g.A (evalAll ((backToKw pos (keywordEach kws g.env)).map (·.2))) (fun ys s₂=>R ⟨xs,((backToKw pos (keywordEach kws g.env)).filterMap (·.1)).zip ys⟩ s₂) E s₁:=fun h N₁ U₁ r₁=>gD (B9 he pos kws h N₁) fun ys s₂ z=>by
  cases z with
  |mk ks j6 ρ₂ hQ N₂ U₂ r₂ n=>
   have a9:(kws.filterMap (·.arg)).length=ys.length:=by((refine RS n ?_);rewrite [←r₂.1];(refine RW (bW _)<|RW (bW _) rfl))
   have hn:(((backToKw pos (keywordEach kws g.env)).filterMap (·.1)).zip ys).map (·.1)=kws.filterMap (·.arg):=RW k2<|List.map_fst_zip (ka a9);refine k _ _ ρ₂ _ ks j6 hQ ⟨N₂,U₁.trans U₂,U₂.vs r₁,⟨hn.trans n.symm,?_⟩,hn⟩
   ·exact RW k2<|RW (List.map_snd_zip (ka a9.symm)) r₂
 match args,jq,h with
 |[],_,h=>exact evalArgs_kw_nil k1 (fin h N (Up.refl _ _) aM.nil)
 |e::r,jq,h=>
  cases hs:isStarred e with
  |false=>
   have body:wpAny g.m g.A (spliced (backTo pos (starEach (e::r) g.env))) _ E s:=EI.go (yX he pos _ h N) fun xs s₁ ρ₁ vs cu h N₁ U₁ r₁=>fin h N₁ U₁ r₁;rw[aD hs] at body ⊢;exact evalArgs_kw k1 body
  |true=>
   refine bf (jW hs) fun p hp=>?_
   induction r using List.casesOn with
   |cons e2 r2=>
    have z:(!isStarred e)=true:=jq.2;rw[hs] at z;exact c0 z
   |nil=>
    have hk:kws=[]:=by
     have:=jq.1.2;rw[List.any_cons,hs] at this;simpa using this
    subst hk;unfold iy at h;rw[hs] at h;refine RW hp<|ks_lone (he.go h N fun x s₁ ρ₁ v cu h N₁ U₁ r₁=>?_);revert r₁;apply rP h;intro b us h r₁;refine ya r₁ fun ws h' hk rs=>?_;have z:=N₁.grow hk s₁.toks;exact k _ _ ρ₁ us [] cu (RS (cc us) h) ⟨z.1,U₁.trans z.2,rs,⟨rfl,aM.nil⟩,rfl⟩
end
end
section
theorem DH(P):(ib.all fun a=>keepIn (bF P) (.ref a))=true:=by kernel_rfl
theorem cj
  (h:wpAny M A (evalArgs f true args keywords) (fun a s₁=>(∃k,Looks M s₁.heap (keeperOf f) k)∧wpAny M A (call f (first++a.pos) a.kw) Q E s₁) E s):wpAny M A (callWith pos f first args keywords) Q E s:=by
 unfold callWith;refine an (cX (bw h (fun a s₁ h₁=>an (eQ ?_)) fun _ _ x=>x));refine az h₁ fun aa h₁=>bf aa fun k L=>?_;have tail:∀{t:Sem Value},wpAny M A t Q E s₁→wpAny M A (t>>=fun r=>holding [r] point>>=fun _=>pure r) Q E s₁:=
  fun ht=>an (bw ht (fun r s₂ hr=>an (cX (wpAny_point (aS hr)))) fun _ _ x=>x)
 have marked (mk:Value):wpAny M A (callMarked mk f (first++a.pos) a.kw) Q E s₁:=by unfold callMarked;exact Calls.wpAny_keep h₁
 cases jq:(args.any (·.1)||keywords.any (·.1.isNone))
 all_goals
  refine an (L.here ?_);cases k<;>dsimp only<;>first
   |exact tail h₁
   |exact tail (marked _)
   |exact tail (wpAny_operating h₁)
   |(split<;>first|exact tail h₁|exact tail (marked _))
theorem lB{M:Model}{w:World}{s:Shared}{ρ:Rh}{os:List O}{r:V}{f:Value}(S:SR w ρ os s.heap)(rf:VR s.heap ρ r f)(h:nN os r=true):∃k,Looks M s.heap (keeperOf f) k:=by
 revert rf;refine Kw (φ:=(·=true)) (P:=fun r=>VR s.heap ρ r f→∃k,Looks M s.heap (keeperOf f) k) h (fun v h rf=>?_) fun h=>Ku (φ:=(·=true)) (P:=fun r=>VR s.heap ρ r f→∃k,Looks M s.heap (keeperOf f) k) h (fun i h rf=>?_) fun h=>absurd h ck
 ·apply rf.rI;intro hv
  revert h;refine vY (φ:=(·=true)) (P:=fun v=>qW v (fun a=>ib.contains a) true=true→∃k,Looks M s.heap (keeperOf v) k) hv (fun a _ h=>?_) fun hv=>Ky (φ:=(·=true)) (P:=fun v=>qW v (fun a=>ib.contains a) true=true→∃k,Looks M s.heap (keeperOf v) k) hv (fun _ _ _=>⟨.machine,lS rfl⟩) fun hv=>FK (φ:=(·=true)) (P:=fun v=>qW v (fun a=>ib.contains a) true=true→∃k,Looks M s.heap (keeperOf v) k) hv (fun _ _ _=>⟨.machine,lS rfl⟩) fun h=>absurd h ck;exact aq (looks_keep (M:=M) (eH.mp (DH w.params) a (rt.mp h)) S.aL.X) fun k _ L=>⟨k,L⟩
 ·apply rf.gX;intro a hi
  refine tR h fun o ho h=>?_
  induction o using O.casesOn with
  |wrap id self=>
   refine aq (S.at hi ho) fun b e1 e2=>?_;unfold jD at e2;cases q:id=="list.append"<;>rw[q] at e2<;>exact⟨.machine,(Looks.ld (part:=none) e2).andThen .now⟩
  |_=>exact absurd h ck
inductive AY(g:Gr)(K:Rs→St→Prop)(s:Shared)(ρ:Rh)(e:Value)(s':Shared):Prop
 |mk (c st' ρ') (hK:K (.exc c) st') (N:aV g st' s' ρ') (U:Up s ρ s' ρ') (X:gK c s.heap ρ' s'.heap e):AY g K s ρ e s'
def R5(Q:V→St→Prop):Rs→St→Prop:=fun r st=>iA (fun v _=>Q v st) r []
section
variable{F:bT}{g:Gr}{s s₀:Shared}{ρ ρ₀:Rh}{st:St}
theorem ended(N:aV g st s ρ)(U:Up s₀ ρ₀ s ρ){K:Rs→St→Prop}(h:eE g.w ρ s (fun r os=>K r ⟨st.vs,os⟩) z s'):match z with
  |.ok (.ret x)=>ey g (fun v=>K (.ok v)) s₀ ρ₀ x s'
  |.ok _=>False
  |.error e=>AY g K s₀ ρ₀ e s':=by
 rcases z with e|(_|_|_|x)
 ·refine mU h fun c cn ρ' hK P X=>?_
  have z:=N.call P;exact .mk c _ ρ' hK z.1 (U.trans z.2) (X.tG fun _ _ e=>U.al e)
 ·exact h
 ·exact h
 ·exact h
 ·refine mU h fun v cn ρ' hK P r=>?_
  have z:=N.call P;exact .mk v _ ρ' hK z.1 (U.trans z.2) r
theorem cJ.code(hc:cJ F)(N:aV g st s ρ)(U:Up s₀ ρ₀ s ρ){K:Rs→St→Prop}(h:F.call g.C.d (.con (.ref a)) args kws st.os fun r os=>K r ⟨st.vs,os⟩)
  (hf:gc (.ref a)=true) (ra:aM s.heap ρ args xs) (rk:xy s.heap ρ kws ks):wpAny g.m g.A (call (.ref a) xs ks) (ey g (fun v=>K (.ok v)) s₀ ρ₀) (AY g K s₀ ρ₀) s:=
 jw (iJ (hc h N.ok.rm.c N.S N.fr (.con _ hf) ra rk) fun z s' q=>by
  have y:=ended N U q;rcases z with e|(_|_|_|x)<;>exact y)
theorem cJ.go(hc:cJ F)(N:aV g st s ρ)(U:Up s₀ ρ₀ s ρ){K:Rs→St→Prop}(h:F.call g.C.d f args kws st.os fun r os=>K r ⟨st.vs,os⟩)
  (rf:VR s.heap ρ f fv) (ra:aM s.heap ρ args xs) (rk:xy s.heap ρ kws ks):wpAny g.m g.A (call fv xs ks) (ey g (fun v=>K (.ok v)) s₀ ρ₀) (AY g K s₀ ρ₀) s:=by
 have z:=hc h N.ok.rm.c N.S N.fr rf ra rk;unfold wA at z;split at z
 ·revert z
  apply rf.rI;intro hf z;exact cJ.code hc N U h hf ra rk
 ·exact bw z (fun x s' q=>ended N U q) fun e s' q=>ended N U q
theorem sk(h:wpAny g.m g.A t P (AY g (R5 Q) s₀ ρ₀) s):wpAny g.m g.A t P E s:=
 bw h (fun _ _ q=>q) fun _ _ q=>by cases q with|mk _ _ _ hK=>exact hK.elim
theorem Ix(he:fg F)(hc:cJ F)(h:qK F g.C x np args kws st Q)(N:aV g st s ρ):wpAny g.m g.A (eval (.Call (.Name x np) args kws pos) g.env) (ey g Q s ρ) cq s:=by
 rw[arm_eval_Call_Name'];refine an (he.go (ae h).2 N fun f s₁ ρ₁ v cu h' N₁ U₁ r₁=>cj (fc he (ae h).1 h' N₁ fun a s₂ ρ₂ vs ks j6 h N₂=>⟨lB N₂.N.S (N₂.U.v r₁) (ae h).1,?_⟩));exact sk (Q:=Q) (hc.go N₂.N (U₁.trans N₂.U) (K:=R5 Q) (ae h).2 (N₂.U.v r₁) N₂.r N₂.k)
end
theorem Ax(n)(env)(t:Sem Value):attributeBase (.Call f (a::r) ks p) n env t=t:=by
 induction f using Expr.casesOn<;>exact rfl
set_option tactic.hygienic true in
theorem dt(h:iZ o=false)(n)(env)(t:Sem Value):attributeBase o n env t=t:=by
 revert h
 induction o using Expr.casesOn with
 |Call f as ks p=>exact List.casesOn (motive:=fun as=>iZ (.Call f as ks p)=false→attributeBase (.Call f as ks p) n env t=t) as (fun h=>absurd h.symm ck) fun a r _=>Ax n env t
 |_=>exact fun _=>rfl
theorem wC(hs:iZ o=false)(hl:(ap.endLine==pos.line)=true)
  (h:wpAny (model PW w) A (eval o env) (fun ov s₁=>∀pl,wpAny (model PW w) A (calleeOf pl o env ov m) (fun fx s₂=>wpAny (model PW w) A (callWith pos fx.1 fx.2 (backTo pos (starEach args env)) (backToKw pos (keywordEach kws env))) Q E s₂) E s₁) E s):
  wpAny (model PW w) A (eval (.Call (.Attribute o m ap) args kws pos) env) Q E s:=by
 rw[arm_eval_Call,dt hs];refine an (bw h (fun ov s₁ h₁=>an (eQ ?_)) fun _ _ z=>z);unfold methodCall;refine an (cX (bw (h₁ _) (fun fx s₂ h₂=>?_) fun _ _ z=>z));have:∀b,methodCallPos b o env ap pos=pure pos:=fun b=>by
  unfold methodCallPos;refine RW hl ?_;simp
 exact RW (this _)<|an (aS h₂)
theorem Aw(P):(gj.all fun x=>!(fI.contains x.1)||((specialIn (bF P) (.ref x.2.2) "__get__"==some (some (.builtin "function.__get__")))&&(takesIn (bF P) (.ref x.2.2)==some false)&&!(copiedNames.contains (ar x.2.1))))=true:=by kernel_rfl
section
variable{w:World}{A:Around}{E:Value→Shared→Prop}{s:Shared}{ρ:Rh}{os:List O}
theorem El{i d:Nat}{C a f:Addr}{es:List (Tx×V)}{n:Tx}{Q:Value→Shared→Prop}(S:SR w ρ os s.heap)(hi:ρ.l[i]? =some a)(ho:os[i]? =some (.inst C d))(hd:os[d]? =some (.attrs es))
  (hm:cR C n=some f) (hC:C∈fI) (hn:(fieldOf es n).isNone=true) (h:∀t,Q (.ref s.heap.objs.size) {s with heap:=s.heap.push (methodObj (.ref f) (.ref a)),toks:=t}):wpAny (model PW w) A (getAttr (.ref a) (ar n) true) Q E s:=by
 refine NZ (mI S hi ho hd) fun ox d6 ep dx I h1 h2 h3 h4 h5=>?_;refine aq (eG.mp hm) fun e he aa=>?_;subst aa;have hc:=List.find?_some he;simp only[Bool.and_eq_true,beq_iff_eq] at hc;refine az hc fun aa aP=>?_;clear hc;subst aa;subst aP;have pv:=zc he;have F0:=eH.mp (yw w.params) e pv;simp only[Bool.and_eq_true,beq_iff_eq] at F0;refine az F0 fun aa F3=>az aa fun F1 F2=>?_;have B0:=eH.mp (Aw w.params) e pv;have NO:fI.contains e.1=true:=by simpa using hC
 simp only[NO,Bool.not_true,Bool.false_or,Bool.and_eq_true,beq_iff_eq,Bool.not_eq_true'] at B0;refine az B0 fun aa b3=>az aa fun b1 b2=>az (plainGet_of F1) fun g1 g2=>?_;have C0:=lD w.params hC;have hl:lookIn (ar e.2.1) (dictOf d6 ep)=some none:=by
  refine aA (h5.look (ep:=ep) e.2.1) (fun aa=>az aa fun q1 q2=>?_) fun aP=>ez aP fun v' y q1 q2 q3=>?_
  ·exact q2
  ·rw[q1] at hn;exact c0 hn
 have hf:findObj (bF w.params) e.1 (some (dictOf d6 ep)) (ar e.2.1)=some (.bind (.builtin "function.__get__") (.ref e.2.2)):=by
  refine aq (any_some C0.dict) fun cd y2 vu=>?_;unfold findObj;have ho:W.ownOf cd (some (dictOf d6 ep)) (ar e.2.1)=some none:=by unfold W.ownOf;exact RW (aB vu) hl
  refine RW y2<|RW (mY _ _)<|RW F2<|RW (mY _ _) ?_;simp only[b1,b2,Option.bind_some,ho,b3,Bool.false_and,Bool.false_eq_true,if_false]
 exact get_bind S.aL.X I g1 hf g2 (jw (fn_get (s:={s with toks:=s.toks+1}) S.aL.X F3 (handed_on rfl (h _))))
end
theorem pE:(gj.all fun x=>ib.contains x.2.2)=true:=by decide+kernel
theorem zS(h:cR C n=some f):ib.contains f=true:=by
 refine aq (eG.mp h) fun e he aa=>?_;subst aa;exact eH.mp pE e (zc he)
theorem sM:(gj.all fun x=>decide (x.2.2<N0))=true:=by decide+kernel
theorem un(h:cR C n=some f):gc (.ref f)=true:=by
 refine aq (eG.mp h) fun e he aa=>?_;subst aa;exact eH.mp sM e (zc he)
theorem LR(P):(gj.all fun x=>fnIn (bF P) x.2.2)=true:=by kernel_rfl
theorem GR(P)(h:cR C n=some f):fnIn (bF P) f=true:=by
 refine aq (eG.mp h) fun e he aa=>?_;subst aa;exact eH.mp (LR P) e (zc he)
section
variable{F:bT}{g:Gr}{s s₀:Shared}{ρ ρ₀:Rh}{st:St}
theorem z7(he:fg F)(hc:cJ F){pos:Pos}{m:Str}{o:Expr}{args:List Expr}{kws:List Keyword}{K:Rs→St→Prop}{i d:Nat}{Cl f a:Addr}{es:List (Tx×V)}{Uv:Bool}
  (jq:hX args kws=true) (h:iy F g.C args st fun vs st=>th F g.C kws st fun ks st=>F.call g.C.d (.con (.ref f)) (.ref i::vs) ks st.os fun r os=>K r ⟨st.vs,os⟩)
  (hm:cR Cl m.cps.toList=some f) (hI:st.os[i]? =some (.inst Cl d)) (hD:st.os[d]? =some (.attrs es)) (hn:(fieldOf es m.cps.toList).isNone=true) (Wv:Cl∈fI) (N:aV g st s ρ) (U:Up s₀ ρ₀ s ρ) (hi:ρ.l[i]? =some a):
   wpAny g.m g.A (calleeOf Uv o g.env (.ref a) m) (fun fx s₂=>wpAny g.m g.A (callWith pos fx.1 fx.2 (backTo pos (starEach args g.env)) (backToKw pos (keywordEach kws g.env))) (ey g (fun v=>K (.ok v)) s₀ ρ₀) (AY g K s₀ ρ₀) s₂) (AY g K s₀ ρ₀) s:=by
 have Ub:ar m.cps.toList=m:=by simp[ar]
 have hf:=un hm;unfold calleeOf
 induction Uv using Bool.casesOn with
 |true=>
  refine RW (aB rfl)<|RS Ub<|zR N.S hi hI hD hm hn (cj (fc he jq h N fun b s₂ ρ₂ vs ks j6 h N₂=>⟨lB N₂.N.S (.con (.ref f) hf) (zS hm),?_⟩));exact hc.code N₂.N (U.trans N₂.U) h hf (aM.cons (.ref (N₂.U.l hi)) N₂.r) N₂.k
 |false=>
  refine RW (au (by decide))<|RS Ub<|an (El N.S hi hI hD hm Wv hn fun t=>aS ?_)
  have z:=N.grow (fun _ _ e=>gp (methodObj (.ref f) (.ref a)) e) t;refine cj (fc he jq h z.1 fun b s₂ ρ₂ vs ks j6 h N₂=>?_);refine az (N₂.U.pl (dm _ rfl:(s.heap.push (methodObj (.ref f) (.ref a))).get? s.heap.objs.size=some (methodObj (.ref f) (.ref a))) (dL N.S) (by rfl)) fun e2 _=>?_
  refine aq (keeps_M (M:=g.m) (GR g.w.params hm) s₂.heap ⟨e2,N₂.N.S.aL.X⟩) fun k _ L=>⟨⟨k,L⟩,jw (method_call e2 (iJ (hc h N₂.N.ok.rm.c N₂.N.S N₂.N.fr (.con _ hf) (aM.cons (.ref (N₂.U.l (z.2.l hi))) N₂.r) N₂.k) fun z' s' q=>?_))⟩;have y:=ended N₂.N ((U.trans z.2).trans N₂.U) q;rcases z' with e|(_|_|_|x)<;>exact y
end
end
section
noncomputable def fill:List (Str×Value)→List (Str×Value)→List (Str×Value)
 |slots,[]=>slots
 |slots,(n,d)::r=>if(slots.lookup n).isNone then fill (slots++[(n,d)]) r else fill slots r
theorem ii(n)(b):∀(a:List (Str×Value)),(a++b).lookup n=(a.lookup n).or (b.lookup n)
 |[]=>rfl
 |(k,v)::a=>by
  refine RW List.cons_append<|RW gt<|RW gt<|RW (ii n b a) ?_;cases n==k<;>rfl
theorem me(n):∀(l slots:List (Str×Value)),(fill slots l).lookup n=(slots.lookup n).or (l.lookup n)
 |[],slots=>by(rewrite [fill];(refine RW List.lookup_nil<|RW Option.or_none rfl))
 |(k,d)::r,slots=>by
  have key:∀sl:List (Str×Value),(n=k→sl.lookup n=(slots.lookup n).or (some d))→(n≠k→sl.lookup n=slots.lookup n)→(fill sl r).lookup n=(slots.lookup n).or (((k,d)::r).lookup n):=fun sl h1 h2=>by
   refine RW (me n r _)<|RW gt<|EM (n=k) (fun c=>?_) fun c=>?_
   ·exact RW (h1 c)<|RW c<|RW (dT _)<|RW Option.or_assoc rfl
   ·refine RW (h2 c)<|RW (gY.mpr c) rfl
  unfold fill;cases q:slots.lookup k with
  |none=>
   refine key _ (fun e=>?_) fun e=>?_
   ·(rewrite [ii];(refine RW gt<|RW e<|RW (dT _) rfl))
   ·(rewrite [ii];(refine RW gt<|RW (gY.mpr e)<|RW List.lookup_nil<|RW Option.or_none rfl))
  |some v=>exact key _ (fun e=>RW e<|RW q rfl) fun _=>rfl
section
variable{M:Model}{A:Around}{E:Value→Shared→Prop}{s:Shared}
theorem BE[Decidable c](h:c)(k:wpAny M A x Q E s):wpAny M A (if c then x else y) Q E s:=RW (aB h) k
theorem lb[Decidable c](h:¬c)(k:wpAny M A y Q E s):wpAny M A (if c then x else y) Q E s:=RW (au h) k
theorem je{α:Type}:∀{l:List (Str×α)},n∉l.map (·.1)→l.lookup n=none
 |[],_=>rfl
 |(k,v)::r,h=>by
  have hk:n≠k:=fun e=>h (RW e cw);exact RW gt<|RW (gY.mpr hk)<|je fun m=>h (dZ _ m)
noncomputable def b5(p:Arguments):List Str:=p.posonlyargs.map (·.arg)++p.args.map (·.arg)
def Kk(p:Arguments)(xs:List Value)(b:List (Str×Value))(Q:List (Str×Value)→Shared→Prop)(s:Shared):Prop:=match p.vararg,p.kwarg with
 |none,none=>Q b s
 |some a,k=>(xs.drop (b5 p).length).length≤sizeLine∧(match k with
  |none=>Q (b++[(a.arg,.ref s.heap.objs.size)]) {s with heap:=s.heap.push {cls:=.type "tuple",data:=.seq (xs.drop (b5 p).length).toArray}}
  |some k=>∀d h',(∀b o,s.heap.get? b=some o→h'.get? b=some o)→Q (b++[(a.arg,.ref s.heap.objs.size)]++[(k.arg,.ref d)]) {s with heap:=h'})
 |none,some _=>False
theorem mi(hp:fd.params=p)(hk:p.kwonlyargs=[])(Wt:(its.getD #[]).toList=ds)
  (oY:∀k∈ks,(p.args.map (·.arg)).contains k.1=true∧((b5 p).zip xs).lookup k.1=none) (j7:(ks.map (·.1)).Nodup)
  (hd:∀s':Shared,s'.heap=s.heap→wpAny M A (seqItems? fd.defaults) (fun r vB=>r=its∧vB=s') E s')
  (hg:p.vararg.isSome=true∨xs.length≤(b5 p).length) (Wu:ds.length≤(b5 p).length) (QF:∀n∈(b5 p).take ((b5 p).length-ds.length),(((b5 p).zip xs++ks).lookup n).isSome=true)
  (h:Kk p xs ((b5 p).filterMap fun n=>((fill ((b5 p).zip xs++ks) (((b5 p).drop ((b5 p).length-ds.length)).zip ds)).lookup n).map (n,·)) Q s):wpAny M A (bindArgs fd ⟨xs,ks⟩) Q E s:=by
 cases hp;refine an ?_;refine wpAny_forIn_list _ (fun rest b s'=>s'=s∧∃pre,ks=pre++rest∧b=((b5 fd.params).zip xs++pre,[])) _ ?_ ?_ ks _ ⟨rfl,[],rfl,by refine RW (cc _) ?_;rfl⟩
 ·rintro k rest b s' ⟨rfl,pre,e1,rfl⟩
  have h0:=oY k (RW e1<|cY _ cw);have h4:k.1∉pre.map (·.1):=fun q=>by
   rw[e1,List.map_append,List.map_cons,List.nodup_append] at j7;exact j7.2.2 k.1 q k.1 cw rfl
  have h5:¬(((b5 fd.params).zip xs++pre).lookup k.1).isSome=true:=by
   (rewrite [ii];refine RW h0.2<|RW (je h4) ?_)
   decide
  exact BE (RW h0.1 rfl) (lb h5 (aS ⟨rfl,pre++[k],by((refine RW e1 ?_);rewrite [List.append_assoc]);rfl,by rw[List.append_assoc]⟩))
 ·rintro b s' ⟨rfl,pre,e1,rfl⟩
  rw[List.append_nil] at e1;cases e1;refine an (bw (hd s' rfl) (fun r vB hr=>?_) fun _ _ z=>z);cases hr.1;cases hr.2;cases Wt;have c1:¬((decide (xs.length>(b5 fd.params).length)&&fd.params.vararg.isNone)=true):=fun q=>by
   rw[Bool.and_eq_true,decide_eq_true_eq] at q;refine aA hg (fun hg=>?_) fun hg=>?_
   ·rw[Option.isNone_iff_eq_none.mp q.2] at hg;exact c0 hg
   ·exact absurd q.1 (j9.mpr hg)
  have d0:(its.getD #[]).toList.drop ((its.getD #[]).toList.length-(b5 fd.params).length)=(its.getD #[]).toList:=RW (Nat.sub_eq_zero_of_le Wu) rfl;have c2:¬((!(List.filter (fun n=>(List.lookup n ((b5 fd.params).zip xs++ks)).isNone) (List.take ((b5 fd.params).length-((its.getD #[]).toList.drop ((its.getD #[]).toList.length-(b5 fd.params).length)).length) (b5 fd.params))).isEmpty)=true):=by
   refine RW d0 ?_;intro q;rw[List.filter_eq_nil_iff.mpr fun n hn hc=>by
    have:=QF n hn;cases q:((b5 fd.params).zip xs++ks).lookup n with
    |none=>rw[q] at this;exact c0 this
    |some v=>rw[q] at hc;exact c0 hc] at q
   exact c0 q
  refine lb c1 (lb c2 (an ?_));have d1:∀sl,fill sl (((b5 fd.params).drop ((b5 fd.params).length-((its.getD #[]).toList.drop ((its.getD #[]).toList.length-(b5 fd.params).length)).length)).zip ((its.getD #[]).toList.drop ((its.getD #[]).toList.length-(b5 fd.params).length)))=fill sl (((b5 fd.params).drop ((b5 fd.params).length-(its.getD #[]).toList.length)).zip (its.getD #[]).toList):=fun sl=>by(refine RW d0 rfl)
  refine wpAny_forIn_list _ (fun rest b s₂=>s₂=s'∧fill b rest=fill ((b5 fd.params).zip xs++ks) (((b5 fd.params).drop ((b5 fd.params).length-(its.getD #[]).toList.length)).zip (its.getD #[]).toList)) _ ?_ ?_ _ _ ⟨rfl,d1 _⟩
  ·intro x rest b s₂ hx
   have e1:(if(b.lookup x.1).isNone then fill (b++[(x.1,x.2)]) rest else fill b rest)=_:=hx.2
   refine EM ((b.lookup x.1).isNone=true) (fun q=>?_) fun q=>?_
   ·rw[if_pos q] at e1
    exact BE q (aS ⟨hx.1,e1⟩)
   ·rw[if_neg q] at e1
    exact lb q (aS ⟨hx.1,e1⟩)
  ·intro b s₂ hx
   cases hx.1;cases(show b=_ from hx.2);refine RW hk<|an (aS (lb ck ?_));have e2:∀l:List Str,l++List.map (fun x:Arg=>x.arg) []=l:=fun l=>cc l;refine RW (e2 _) ?_;unfold Kk at h;cases q:fd.params.vararg with
   |none=>
    rw[q] at h;cases q2:fd.params.kwarg with
    |none=>rw[q2] at h;exact aS h
    |some k=>rw[q2] at h;exact h.elim
   |some a=>
    rw[q] at h;refine an (wpAny_newTuple ?_ h.1);cases q2:fd.params.kwarg with
    |none=>rw[q2] at h;exact aS h.2
    |some k=>
     rw[q2] at h;exact lb (q8 _) (an (wpAny_alloc (an (aS (aS (h.2 _ _ fun b o e=>gp _ (gp _ e)))))))
end
end
def sa(P:Params)(code:Value)(qual:Str):Bool:=qW code (fun c=>((bF P).lookup c).any fun o=>sC o.data (fun vs=>(vs[1]?).any fun v=>vStr v (fun q _=>q==qual) false) false) false
def IQ(x:Value)(v:V):Bool:=vInt x (fun i _=>JE v (fun j=>i==j) false)<|vStr x (fun s _=>JC v (fun p=>s==ar p&&decide (p.length≤ax)) false)<|Bi v (decide (x=.none))<|Bj v (fun b=>decide (x=.bool b)) false
def wu(P:Params)(d:Value)(ds:List V):Bool:=qW d (fun T=>((bF P).lookup T).any fun o=>Kl o.data (fun its _=>its.toList.length==ds.length&&(its.toList.zip ds).all fun p=>IQ p.1 p.2) false) (decide (d=.none)&&ds.isEmpty)
def ie(fd:FD):List Str:=bK fd++fd.params.vararg.toList.map (·.arg)
def mC(fd:FD):Bool:=fd.scope.kind==.function&&!fd.scope.isGenerator&&!fd.scope.isCoroutine&&
 (fd.scope.names.all fun p=>p.2 != .free&&!(p.1==("__debug__":Str)))&&decide ((ie fd).Nodup)&&((ie fd).all fun n=>fd.scope.names.lookup n==some .local||fd.scope.names.lookup n==some .cell)
structure TJ(P:Params)(a:Addr)(fd:FD)(name qual:Str)(dflt pm code:Value):Prop where
 obj:∃o,(bF P).lookup a=some o∧o.data=.func (lY (some fd) name qual dflt pm code)
 Nr:sa P code qual=true
 dflt:wu P dflt (dfltAt a)=true
 scope:mC fd=true
 qm:∀c,l5 fd.scope.names=some c→code=.ref c
def IG(P:Params)(a:Addr):FuncData:=match(bF P).lookup a with
 |some o=>tM o.data (fun f=>f) default
 |none=>default
def Pg(P:Params)(x:Addr×Option FD):Bool:=match x.2 with
 |some fd=>((bF P).lookup x.1).any fun o=>tM o.data (fun f=>sa P f.code f.qualname&&wu P f.defaults (dfltAt x.1)&&mC fd&&(l5 fd.scope.names).all fun c=>decide (f.code=.ref c)) false
 |none=>true
theorem Gl(P):pW.all (Pg P)=true:=by kernel_rfl
theorem Gm(P):(pW.map fun x=>IG P x.1)=pW.map fun x=>lY x.2 (IG P x.1).name (IG P x.1).qualname (IG P x.1).defaults (IG P x.1).pyModule (IG P x.1).code:=by kernel_rfl
def HasFn(P:Params)(a:Addr)(fd:FD):Prop:=∃name qual dflt pm code,TJ P a fd name qual dflt pm code
theorem yM(P)(h:fnAt a=some fd):HasFn P a fd:=by
 unfold fnAt at h;cases q:pW.lookup a with
 |none=>rw[q] at h;exact aJ h
 |some X=>
  rw[q] at h;cases(show X=some fd from h);have hm:=fV q;have h1:=eH.mp (Gl P) _ hm;have h2:=List.map_inj_left.mp (Gm P) _ hm;refine tR h1 fun o e h1=>HI (φ:=(·=true)) (P:=fun d=>o.data=d→HasFn P a fd) h1 (fun f h1 ed=>?_) (fun h=>absurd h ck) rfl;have hf:IG P a=f:=by
   unfold IG;refine RW e ?_;refine(?_:tM o.data _ _=f);exact RW ed rfl
  dsimp only at h2;rw[hf] at h2;rw[Bool.and_eq_true,Bool.and_eq_true,Bool.and_eq_true] at h1;refine⟨_,_,_,_,_,(aK o e (ed.trans (bH Data.func h2))),h1.1.1.1,h1.1.1.2,h1.1.2,fun c z=>?_⟩;have h3:=h1.2;rw[z] at h3;exact jy h3
set_option tactic.hygienic true in
theorem oh{w:World}{h:Heap}(S:bU w h){code:Value}{qual:Str}(e:sa w.params code qual=true):h.CodeRec code qual:=
 vY (φ:=(·=true)) (P:=fun code=>h.CodeRec code qual) e (fun c e=>tR e fun o ho e=>Ao (φ:=(·=true)) (P:=fun d=>o.data=d→h.CodeRec (.ref c) qual) e (fun vs e hd=>tR e fun v hv e=>BG (φ:=(·=true)) (P:=fun v=>vs[1]? =some v→h.CodeRec (.ref c) qual) e (fun s t e hv=>(UF c _ vs t rfl (S.X _ _ ho) hd (cO.mp e▸hv))) (fun h=>absurd h ck) hv) (fun h=>absurd h ck) rfl) fun h=>absurd h ck
theorem CJ(e:IQ x v=true):VR h ρ v x:=
 Kx (φ:=(·=true)) (P:=fun x=>VR h ρ v x) e (fun i t e=>Kv (φ:=(·=true)) (P:=fun v=>VR h ρ v (.int i t)) e (fun j e=>cO.mp e▸.int _ _) fun h=>absurd h ck) fun e=>
 BG (φ:=(·=true)) (P:=fun x=>VR h ρ v x) e (fun s t e=>Kt (φ:=(·=true)) (P:=fun v=>VR h ρ v (.str s t)) e (fun p e=>cO.mp (pn.mp e).1▸.str _ _ (jy (pn.mp e).2)) fun h=>absurd h ck) fun e=>
 FI (φ:=(·=true)) (P:=fun v=>VR h ρ v x) e (fun e=>jy e▸.none) fun e=>FJ (φ:=(·=true)) (P:=fun v=>VR h ρ v x) e (fun b e=>jy e▸.bool b) fun h=>absurd h ck
set_option tactic.hygienic true in
theorem yQ(S:bU w h)(e:wu w.params d ds=true):
  ∃its:Option (Array Value),(∀{M:Model} {A:Around} {E:Value→Shared→Prop} (s':Shared),s'.heap=h→wpAny M A (seqItems? d) (fun r vB=>r=its∧vB=s') E s')∧aM h ρ ds (its.getD #[]).toList:=by
 refine vY (φ:=(·=true)) (P:=fun d=>∃its:Option (Array Value),(∀{M:Model} {A:Around} {E:Value→Shared→Prop} (s':Shared),s'.heap=h→wpAny M A (seqItems? d) (fun r vB=>r=its∧vB=s') E s')∧aM h ρ ds (its.getD #[]).toList) e (fun T e=>?_) fun e=>?_
 ·refine tR e fun o ho e=>?_
  obtain⟨cl,di,da,sl⟩:=o;revert ho;refine Mz (φ:=(·=true)) (P:=fun da=>(bF w.params).lookup T=some ⟨cl,di,da,sl⟩→_) e (fun its n e ho=>?_) fun h=>absurd h ck;rw[Bool.and_eq_true,beq_iff_eq] at e;refine az e fun e1 e2=>⟨some its,fun s' hs=>?_,e1.symm,fun i v x h1 h2=>?_⟩
  ·have:=S.X _ _ ho
   rw[←hs] at this;exact wpAny_seqItems this rfl ⟨rfl,rfl⟩
  ·have h3:(x,v)∈its.toList.zip ds:=db (List.getElem?_zip_eq_some.mpr ⟨h2,h1⟩)
   exact CJ (eH.mp e2 _ h3)
 ·rw[Bool.and_eq_true,decide_eq_true_eq] at e
  (have aF:=e;clear e;refine az aF fun aa e=>?_;clear aF;subst aa)
  refine aK none (fun s' _=>?_) ?_
  ·refine(?_:wpAny _ _ (do notAStandIn .none;pure none) _ _ _)
   exact aS ⟨rfl,rfl⟩
  ·rw[List.isEmpty_iff.mp e];exact aM.nil
theorem fm(n):∀(names:List (Str×NameKind)) (k:Nat) (ai:List (Str×Addr)),(ai.lookup n).isSome=true→((cellsFrom k names ai).lookup n).isSome=true
 |[],_,_,h=>h
 |(name,kind)::r,k,ai,h=>by
  unfold cellsFrom;split
  ·refine fm n r _ _<|RW gt ?_
   cases n==name<;>simp[h]
  ·exact fm n r _ _ h
theorem eP(n):∀(names:List (Str×NameKind)) (k:Nat) (ai:List (Str×Addr)),names.lookup n=some .cell→((cellsFrom k names ai).lookup n).isSome=true
 |[],_,_,h=>aJ h
 |(name,kind)::r,k,ai,h=>by
  rw[List.lookup_cons] at h;unfold cellsFrom;refine EM (n=name) (fun c=>?_) fun c=>?_
  ·subst c
   simp only[beq_self_eq_true,Option.some.injEq] at h;subst h;refine(?_:((cellsFrom (k+1) r ((n,k)::ai)).lookup n).isSome=true);exact fm n r _ _ (by simp[List.lookup_cons])
  ·rw[beq_eq_false_iff_ne.mpr c] at h
   split<;>exact eP n r _ _ h
theorem qL(kO:Str→Option NameKind)(x):∀(b:List (Str×Value)) (m:Str→Option Value),x∉b.map (·.1)→bindL kO b m x=m x
 |[],_,_=>rfl
 |(n,v)::r,m,h=>by
  simp only[List.map_cons,List.mem_cons,not_or] at h;unfold bindL;refine RW (qL kO x r _ h.2) ?_;split
  ·exact au h.1
  ·rfl
theorem om(kO:Str→Option NameKind)(x)(y)(hk:kO x=some .local):∀(b:List (Str×Value)) (m:Str→Option Value),(b.map (·.1)).Nodup→(x,y)∈b→bindL kO b m x=some y
 |[],_,_,h=>by cases h
 |(n,v)::r,m,hn,h=>by
  rw[List.map_cons,List.nodup_cons] at hn;unfold bindL;refine aA (cW.mp h) (fun e=>?_) fun h=>?_
  ·cases e
   exact RW (qL kO x r _ hn.1)<|RW (aB hk)<|aB rfl
  ·exact om kO x y hk r _ hn.2 h
theorem qM(kO:Str→Option NameKind)(x):∀(b:List (Str×Value)) (m:Str→Option Value),x∉b.map (·.1)→bindC kO b m x=m x
 |[],_,_=>rfl
 |(n,v)::r,m,h=>by
  simp only[List.map_cons,List.mem_cons,not_or] at h;unfold bindC;refine RW (qM kO x r _ h.2) ?_;split
  ·rfl
  ·exact au h.1
theorem uR(kO:Str→Option NameKind)(x)(y)(hk:kO x≠some .local):∀(b:List (Str×Value)) (m:Str→Option Value),(b.map (·.1)).Nodup→(x,y)∈b→bindC kO b m x=some y
 |[],_,_,h=>by cases h
 |(n,v)::r,m,hn,h=>by
  rw[List.map_cons,List.nodup_cons] at hn;unfold bindC;refine aA (cW.mp h) (fun e=>?_) fun h=>?_
  ·cases e
   exact RW (qM kO x r _ hn.1)<|RW (au hk)<|aB rfl
  ·exact uR kO x y hk r _ hn.2 h
def NR(h:Heap)(ρ:Rh)(l:List (Str×V))(l':List (Str×Value)):Prop:=l'.map (·.1)=l.map (·.1)∧aM h ρ (l.map (·.2)) (l'.map (·.2))
theorem NR.lookup(n:Str):∀{l:List (Str×V)} {l':List (Str×Value)},NR h ρ l l'→(l.lookup n=none∧l'.lookup n=none)∨∃v y,l.lookup n=some v∧l'.lookup n=some y∧VR h ρ v y
 |[],[],_=>.inl ⟨rfl,rfl⟩
 |[],_::_,r=>by cases r.1
 |_::_,[],r=>by cases r.1
 |(a,v)::l,(b,y)::l',r=>by
  refine gq r fun r1 r2 r3=>?_;simp only[List.map_cons,List.cons.injEq] at r1
  (have aF:=r1;clear r1;refine az aF fun aa r1=>?_;clear aF;subst aa)
  simp only[List.lookup_cons];cases n==b with
  |true=>exact .inr (jN v y rfl rfl (r3 0 _ _ rfl rfl))
  |false=>exact NR.lookup n ⟨r1,by simpa using r2,fun i a b e1 e2=>r3 (i+1) a b (by simpa using e1) (by simpa using e2)⟩
theorem NR.zip:∀(ns:List Str) {vs:List V} {xs:List Value},aM h ρ vs xs→NR h ρ (ns.zip vs) (ns.zip xs)
 |[],_,_,_=>⟨rfl,aM.nil⟩
 |n::ns,[],[],_=>⟨rfl,aM.nil⟩
 |n::ns,[],_::_,r=>by cases r.1
 |n::ns,_::_,[],r=>by cases r.1
 |n::ns,v::vs,x::xs,r=>by
  refine az r fun r1 r2=>?_;have ih:=NR.zip ns (vs:=vs) (xs:=xs) ⟨by simpa using r1,fun i a b e1 e2=>r2 (i+1) a b (by simpa using e1) (by simpa using e2)⟩
  refine⟨?_,?_⟩
  ·exact bH (n::·) ih.1
  ·exact aM.cons (r2 0 _ _ rfl rfl) ih.2
theorem NR.append(a:NR h ρ l l')(b:NR h ρ k k'):NR h ρ (l++k) (l'++k'):=
 ⟨by((refine RW cz<|RW cz ?_);rewrite [a.1];rewrite [b.1];rfl),by exact RW cz<|RW cz<|a.2.append b.2⟩
theorem NR.nil:NR h ρ [] []:=⟨rfl,aM.nil⟩
theorem NR.cons(a:VR h ρ v x)(b:NR h ρ l l'):NR h ρ ((n,v)::l) ((n,x)::l'):=
 ⟨by simp[b.1],aM.cons a b.2⟩
section
theorem NR.grow(r:NR h ρ l l')(hk:∀b o,h.get? b=some o→h'.get? b=some o):NR h' ρ l l':=
 ⟨r.1,r.2.1,fun i v x e1 e2=>(r.2.2 i v x e1 e2).grow hk⟩
theorem ma(e:bL (x::xs)=some ys):∃y zs,x=some y∧bL xs=some zs∧ys=y::zs:=by
 exact aq (dI.mp e) fun y h1 e=>aq (dI.mp e) fun zs h2 e=>(jN y zs h1 h2 (a7 e).symm)
theorem NR.uk{f:Str→Option V}{g:Str→Option Value}(hx:∀n v,f n=some v→∃y,g n=some y∧VR h ρ v y):∀(ns:List Str) {vs:List V},bL (ns.map f)=some vs→NR h ρ (ns.zip vs) (ns.filterMap fun n=>(g n).map (n,·))
 |[],_,_=>NR.nil
 |n::ns,vs,e=>by
  refine ez (ma e) fun v us e1 e2 aa=>?_;subst aa;refine aq (hx n v e1) fun y e3 r=>?_
  ((refine RW List.zip_cons_cons ?_);rewrite [List.filterMap_cons_some (by exact RW e3 rfl)])
  exact NR.cons r (NR.uk hx ns e2)
theorem oN(e:pZ a fd args kws=some bs):sd fd.params (bK fd) (dfltAt a) args kws=true∧∃vs,bL ((bK fd).map (Bn (bK fd) args kws (dfltAt a)))=some vs∧bs=(bK fd).zip vs++Bo (bK fd).length args fd.params.vararg:=by
 unfold pZ at e;refine EM (sd fd.params (bK fd) (dfltAt a) args kws=true) (fun c=>?_) fun c=>?_
 ·rw[if_pos c] at e
  exact aq (eG.mp e) fun vs h1 h2=>⟨c,vs,h1,h2.symm⟩
 ·rw[if_neg c] at e;exact aJ e
theorem vn(e:pZ a fd args kws=some bs):bs.map (·.1)=ie fd:=by
 refine az (oN e) fun _ aa=>aq aa fun vs h aP=>?_;subst aP
 (with_reducible refine RW cz<|RW (List.map_fst_zip (by(with_reducible refine RW (eN h)<|RW (bW _) ?_);exact bI _)) ?_)
 unfold ie
 induction fd.params.vararg using Option.casesOn<;>rfl
section
variable{M:Model}{A:Around}{E:Value→Shared→Prop}{s:Shared}
theorem uQ{Q:List (Str×Value)→Shared→Prop}
  (e:pZ a fd args kws=some bs) (hf:fM.params=fd.params) (hN:s.heap.get? s.heap.objs.size=none→N0≤s.heap.objs.size∧s.heap.objs.size∉ρ.all) (ra:aM s.heap ρ args xs) (rk:xy s.heap ρ kws ks) (rd:aM s.heap ρ (dfltAt a) (its.getD #[]).toList)
  (hd:∀s':Shared,s'.heap=s.heap→wpAny M A (seqItems? fM.defaults) (fun r vB=>r=its∧vB=s') E s')
  (hl:fd.params.vararg.isSome=true→args.length≤ax)
  (hQ:∀b h',(∀z o,s.heap.get? z=some o→h'.get? z=some o)→NR h' ρ bs b→Q b {s with heap:=h'}):wpAny M A (bindArgs fM ⟨xs,ks⟩) Q E s:=by
 refine az (oN e) fun c aa=>aq aa fun vs h1 aP=>?_;subst aP;unfold sd at c;rw[Bool.and_eq_true,Bool.and_eq_true,Bool.and_eq_true,Bool.and_eq_true,Bool.and_eq_true,Bool.and_eq_true] at c;refine az c fun aa k7=>az aa fun aP k6=>az aP fun cN k5=>az cN fun jo k4=>az jo fun Ny k3=>az Ny fun k1 k2=>?_;have y1:b5 fd.params=bK fd:=cz.symm;have dl:=rd.1;have G:NR s.heap ρ ((bK fd).zip args++kws) ((bK fd).zip xs++ks):=(NR.zip _ ra).append ⟨rk.1,rk.2⟩;have D:NR s.heap ρ (((bK fd).drop ((bK fd).length-(dfltAt a).length)).zip (dfltAt a)) (((bK fd).drop ((bK fd).length-(dfltAt a).length)).zip (its.getD #[]).toList):=NR.zip _ rd;have main:=NR.uk (g:=fun n=>(fill ((bK fd).zip xs++ks) (((bK fd).drop ((bK fd).length-(its.getD #[]).toList.length)).zip (its.getD #[]).toList)).lookup n) (fun n v hv=>by
  (rewrite [me];refine RS dl ?_)
  unfold Bn at hv;refine aA (G.lookup n) (fun aa=>az aa fun g1 g2=>?_) fun aP=>ez aP fun v' y g1 g2 g3=>?_
  ·rw[g1] at hv
   refine RW g2<|aA (D.lookup n) (fun aa=>az aa fun d1 d2=>?_) fun aP=>ez aP fun v' y d1 d2 d3=>?_
   ·rw[d1] at hv;exact aJ hv
   ·rw[d1] at hv;cases a7 hv;exact(aK y d2 d3)
  ·rw[g1] at hv;cases a7 hv;exact RW g2 (aK y rfl g3)) (bK fd) h1
 refine mi (its:=its) hf (mX.mp k1) rfl (fun k hk=>?_) (by rw[rk.1];exact jy k3) hd ?_ (RW y1<|RS dl<|jy k4) (fun n hn=>?_) ?_
 ·have o8:k.1∈kws.map (·.1):=by rw[←rk.1];exact rp hk
  refine aq (eA.mp o8) fun k0 h0 e0=>?_;have h2:=eH.mp k6 k0 h0;rw[Bool.and_eq_true,e0] at h2;refine⟨h2.1,?_⟩;refine RW y1<|aA ((NR.zip (bK fd) ra).lookup k.1) (fun aa=>az aa fun _ g2=>?_) fun aP=>ez aP fun v y g1 _ _=>?_
  ·exact g2
  ·have h3:=h2.2;rw[g1] at h3;exact c0 h3
 ·((refine RW y1 ?_);rewrite [←ra.1])
  refine aA (pQ.mp k5) (fun q=>?_) fun q=>?_
  ·exact .inl q
  ·exact .inr (jy q)
 ·rw[y1,←dl] at hn
  have h2:=eH.mp k7 n hn;refine RW y1<|aA (G.lookup n) (fun aa=>az aa fun g1 _=>?_) fun aP=>ez aP fun v y _ g2 _=>?_
  ·rw[g1] at h2;exact c0 h2
  ·exact RW g2 rfl
 ·unfold Kk
  refine RW y1<|RW (tE.mp k2) ?_;cases q:fd.params.vararg with
  |none=>exact hQ _ s.heap (fun _ _ e=>e) (by((refine RW q ?_);rewrite [Bo];refine RW (cc _) ?_);exact main)
  |some v=>
   have hL:args.length≤ax:=hl (RW q rfl);refine⟨by((refine RW List.length_drop<|RW du ?_);rewrite [←ra.1]);rw[bc] at hL;exact(bZ (Nat.sub_le _ _) hL),?_⟩
   have hk:∀z o,s.heap.get? z=some o→(s.heap.push (b0 true (xs.drop (bK fd).length) 0)).get? z=some o:=fun z o e=>gp _ e;have r2:=ra.cut (bK fd).length xs.length;rw[List.take_of_length_le (by((refine RW List.length_drop ?_);rewrite [ra.1]);exact Nat.sub_le ..),List.take_of_length_le (RW List.length_drop<|Nat.sub_le ..)] at r2
   refine az (hN (bC _)) fun n1 n2=>hQ _ _ hk ((main.grow hk).append ?_);refine RW q ?_;have r3:=r2.keep (bG hk) bQ (fun _ _ e=>e) aO;exact NR.cons (.seq n2 (dm _ rfl) (by((refine RW List.length_drop ?_);rewrite [←ra.1]);exact bZ (Nat.sub_le ..) hL) r3.1 r3.2) NR.nil
end
end
section
def IL(s₀:Shared)(env:Env)(m cm:Str→Option Value)(s:Shared):Prop:=InCallC s₀ env.locals m env.cells cm s∧∃o,s.heap.get? env.locals=some o∧o.cls=.type "frame"
section
variable{M:Model}{A:Around}{E:Value→Shared→Prop}{s₀ s:Shared}{m cm:Str→Option Value}{env:Env}
theorem zz(x:IL s₀ env m cm s)(hk:env.scope.kind=.function)(hl:env.kindOf n=some .local)
  (h:∀s',IL s₀ env (fun y=>if y=n then some v else m y) cm s'→Q () s'):wpAny M A (storeName env n v) Q E s:=by
 refine az x fun x aa=>aq aa fun o eo co=>?_;rw[storeName_local hl (RW hk rfl)];refine qn x.toInCall.ns fun h' n' sb hc=>h _ ⟨⟨⟨?_,n',fun b o e=>?_,x.toInCall.fresh⟩,fun k c o8=>?_,x.apart,x.above⟩,?_⟩
 ·refine vG x.toInCall.same fun h₁ tk aa=>?_;subst aa
  exact s7 h' _ rfl
 ·exact sb.extBut b o (kW (nq (fK e) x.toInCall.fresh)) (x.toInCall.keep b o e)
 ·exact(x.cell k c o8).sameBut sb (Nat.ne_of_gt (x.above k c (mem_of_lookup o8)))
 ·exact aq (hc o eo) fun o' e' c'=>(aK o' e' (c'.trans co))
theorem C3(x:IL s₀ env m cm s)(hk:env.scope.kind=.function)(hl:env.kindOf n=some .cell)
  (hc:env.cells.lookup n=some c) (h:∀s',IL s₀ env m (fun y=>if y=n then some v else cm y) s'→Q () s'):wpAny M A (storeName env n v) Q E s:=by
 refine az x fun x aa=>aq aa fun o eo co=>?_;have Sv:=x.above n c (mem_of_lookup hc);refine wpAny_storeName_cell hk hl hc (x.cell n c hc) fun h' y2 sb=>h _ ⟨⟨⟨?_,x.toInCall.ns.sameBut sb (kW Sv),fun b o e=>?_,x.toInCall.fresh⟩,fun k c' o8=>?_,x.apart,x.above⟩,o,(sb.2 _ (kW Sv)).trans eo,co⟩
 ·refine vG x.toInCall.same fun h₁ tk aa=>?_;subst aa
  exact s7 h' _ rfl
 ·exact sb.extBut b o (kW (Nat.lt_trans (nq (fK e) x.toInCall.fresh) Sv)) (x.toInCall.keep b o e)
 ·refine EM (k=n) (fun RC=>?_) fun RC=>?_
  ·subst RC
   rw[hc] at o8;cases a7 o8;simpa using y2
  ·exact RW (au RC)<|(x.cell k c' o8).sameBut sb fun e=>RC (name_of_addr x.apart (mem_of_lookup o8) (e▸mem_of_lookup hc))
theorem BD(f:Str×Value→PUnit→Sem (ForInStep PUnit))(hf:∀n v u,f (n,v) u=(do storeName env n v;pure (.yield ⟨⟩)))(hk:env.scope.kind=.function):
  ∀(binds:List (Str×Value)) (m cm:Str→Option Value) (s:Shared) (Q:PUnit→Shared→Prop),IL s₀ env m cm s→
   (∀x∈binds,env.kindOf x.1=some .local∨(env.kindOf x.1=some .cell∧(env.cells.lookup x.1).isSome=true))→
   (∀s',IL s₀ env (bindL env.kindOf binds m) (bindC env.kindOf binds cm) s'→Q ⟨⟩ s')→wpAny M A (forIn binds ⟨⟩ f) Q E s
 |[],m,cm,s,Q,x,_,h=>RW List.forIn_nil<|aS (h s x)
 |(n,v)::r,m,cm,s,Q,x,fC,h=>by
  rw[List.forIn_cons,hf];have hr:∀y∈r,env.kindOf y.1=some .local∨(env.kindOf y.1=some .cell∧(env.cells.lookup y.1).isSome=true):=fun y hy=>fC y (dZ _ hy);refine aA (fC (n,v) cw) (fun hl=>?_) fun aP=>az aP fun hl hc=>?_
  ·refine an (an (zz x hk hl fun s' x'=>aS (BD f hf hk r _ _ s' Q x' hr fun vB RX=>h vB ?_)))
   unfold bindL bindC;exact RW (aB hl)<|RW (aB hl) RX
  ·refine bf (vM.mp hc) fun c hc=>?_
   have ET:¬env.kindOf n=some .local:=by refine RW hl ?_;decide
   refine an (an (C3 x hk hl hc fun s' x'=>aS (BD f hf hk r _ _ s' Q x' hr fun vB RX=>h vB ?_)));unfold bindL bindC;exact RW (au ET)<|RW (au ET) RX
theorem sq{scope}{globals}{binds}{qual}{func}{code}{builtins}{Q}
  (hk:scope.kind=.function)
  (fC:∀x∈binds,scope.names.lookup x.1=some .local∨(scope.names.lookup x.1=some .cell∧((cellsFrom (s.heap.objs.size+1) scope.names []).lookup x.1).isSome=true))
  (hQ:∀env,env=newEnv scope s.heap.objs.size globals (cellsFrom (s.heap.objs.size+1) scope.names []) qual func code none builtins→
   ∀s',IL s env (bindL env.kindOf binds fun _=>none) (bindC env.kindOf binds fun _=>none) s'→Q env s'):
  wpAny M A (newFunctionEnv scope globals [] binds qual func code none builtins) Q E s:=by
 simp only[newFunctionEnv,Option.isSome_none,Bool.false_eq_true,if_false];refine an (wpAny_alloc ?_);refine an (wpAny_layCells _ (fun name kind cells=>by cases NL:kind==NameKind.cell<;>simp[NL]) _ _ _ _ ?_)
 have ok:=cellsFrom_ok scope.names (s.heap.push {cls:=.type "frame",data:=.dict #[]}) (s.heap.objs.size+1) [] ⟨fun _ _ hm=>(nomatch hm),List.Pairwise.nil⟩ (RW (mW _ _)<|bI _);rw[Heap.size_push] at ok;refine RW (show({s with heap:=s.heap.push {cls:=.type "frame",data:=.dict #[]}}:Shared).heap.objs.size=s.heap.objs.size+1 from mW ..)<|an (BD (s₀:=s) (env:=newEnv scope s.heap.objs.size globals (cellsFrom (s.heap.objs.size+1) scope.names []) qual func code none builtins)
  _ (fun _ _ _=>rfl) hk binds (fun _=>none) (fun _=>none) _ _
  ⟨⟨⟨(s7 _ _ rfl),(Heap.Ns.new s.heap (.type "frame")).keeps (pushCells_keeps _ _),fun b o e=>pushCells_keeps _ _ b o (gp _ e),bI _⟩,
   fun n c hc=>(ok.empty n c (mem_of_lookup hc)).1,ok.apart,fun n c hm=>(ok.empty n c hm).2⟩,_,pushCells_keeps _ _ _ _ (dm _ rfl),rfl⟩
  fC fun s' x=>aS (hQ _ rfl s' x))
end
theorem cL.grow(x:cL ρ h l)(hk:∀b o,h.get? b=some o→h'.get? b=some o):cL ρ h' l:=fun e he=>by
 exact az (x e he) fun h1 aa=>o9 aa fun L h2 h3 WH aP=>aq aP fun o h4 h5=>⟨h1,L,h2,h3,WH,o,hk _ _ h4,h5⟩
structure wz(fd:FD):Prop where
 kind:fd.scope.kind=.function
 gen:fd.scope.isGenerator=false
 co:fd.scope.isCoroutine=false
 names:∀p∈fd.scope.names,p.2≠.free∧(p.1==("__debug__":Str))=false
 nodup:(ie fd).Nodup
 par:∀n∈ie fd,fd.scope.names.lookup n=some .local∨fd.scope.names.lookup n=some .cell
theorem lr(h:mC fd=true):wz fd:=by
 unfold mC at h;rw[Bool.and_eq_true,Bool.and_eq_true,Bool.and_eq_true,Bool.and_eq_true,Bool.and_eq_true] at h;refine az h fun aa h6=>az aa fun aP h5=>az aP fun cN h4=>az cN fun jo h3=>az jo fun h1 h2=>⟨cO.mp h1,Eq.mp (m3 _) h2,Eq.mp (m3 _) h3,fun p hp=>?_,jy h5,fun n hn=>?_⟩
 ·have:=pn.mp (eH.mp h4 p hp)
  exact⟨bne_iff_ne.mp this.1,Eq.mp (m3 _) this.2⟩
 ·exact(pQ.mp (eH.mp h6 n hn)).imp cO.mp cO.mp
theorem zD(r:mo A (d+1))(env):Rm (A.deeper env) d where
 hd:=fun _=>r.hd (ng d)
 depth:=by have:=r.depth;refine(?_:A.depth+1+2*d+2<_);lia
 units:=by have:=r.units;refine(?_:A.units+3+20*d+100<_);lia
theorem NR.get(r:NR h ρ l l')(e:l.lookup n=some v):∃y,l'.lookup n=some y∧VR h ρ v y:=by
 refine aA (r.lookup n) (fun aa=>az aa fun q _=>?_) fun aP=>ez aP fun v' y q1 q2 q3=>?_
 ·rw[q] at e;exact aJ e
 ·rw[q1] at e;cases a7 e;exact(aK y q2 q3)
noncomputable def Gr.at(w:World)(A:Around)(C:Cx)(env:Env)(s:Shared)(ρ:Rh):Gr:=⟨w,A,C,env,s,ρ⟩
theorem aV.start{w:World}{A:Around}{C:Cx}{env:Env}{s:Shared}{ρ:Rh}{st:St}(ok:UJ (Gr.at w A C env s ρ))(fr:Fr A ρ s.heap)(S:SR w ρ st.os s.heap)(R:ER ρ st.vs env s.heap):aV (Gr.at w A C env s ρ) st s ρ:=
 ⟨ok,fr,dB.grow S R (fun _ _ e=>e) s.toks rfl rfl⟩
section
variable{w:World}
theorem yk{A}{d}{fd}{fM}{a}{bs}{b}{os}{s₁ s₂}{ρ}(hr:mo A (d+1))(S:SR w ρ os s₁.heap)(hf:Fr A ρ s₁.heap)
  (H:wz fd) (NG:fM.scope=fd.scope) (hg:fM.globals=mainGlobals) (hb:fM.builtins=builtinsNs) (hp:∀n v,bs.lookup n=some v→∃y,b.lookup n=some y∧VR s₁.heap ρ v y) (j7:(b.map (·.1)).Nodup) (J4:∀c,l5 fd.scope.names=some c→fM.code=.ref c) {env} (he:env=callEnvC fM s₁.heap.objs.size a)
  (xF:IL s₁ env (bindL env.kindOf b fun _=>none) (bindC env.kindOf b fun _=>none) s₂):
  aV (Gr.at w (A.deeper env) ⟨fd.scope.names,d⟩ env s₂ ρ) ⟨bs,os⟩ s₂ ρ:=by
 refine az xF fun x aa=>aq aa fun oF eF cF=>?_;have hk:=x.toInCall.keep;have hL:env.locals=s₁.heap.objs.size:=RW he rfl;have hF:env.frame=some env.locals:=RW he rfl;have hS:env.scope=fd.scope:=RW he NG;have fC:∀n,env.kindOf n=fd.scope.names.lookup n:=fun n=>RS hS rfl;have fresh:∀c,s₁.heap.objs.size≤c→c∉ρ.all:=fun c hc=>S.fresh (by
  cases q:s₁.heap.get? c with
  |none=>rfl
  |some o=>exact absurd (fK q) (j9.mpr hc))
 have EW:∀n c,env.cells.lookup n=some c→env.locals<c:=fun n c e=>x.above n c (mem_of_lookup e);have Jb:∀n,fd.scope.names.lookup n=some .cell→∃c,env.cells.lookup n=some c∧env.locals<c:=fun n hn=>by
  have:(env.cells.lookup n).isSome=true:=by refine RW he ?_;exact eP n fM.scope.names _ _ (RW NG hn)
  exact bf (vM.mp this) fun c hc=>(aK c hc (EW n c hc))
 have wc:∀{n:Str} {P:Prop},fd.scope.names.lookup n=some .free→P:=fun hn=>absurd rfl (H.names _ (mem_of_lookup hn)).1;have cx:zo ⟨fd.scope.names,d⟩ env:=⟨by refine RW hS ?_;exact H.kind,by refine RW he ?_;exact hg,by refine RW he ?_;exact hb,fun n hn=>(fC n).trans hn,fun n hn=>⟨(fC n).trans hn,Jb n hn⟩,fun n hn=>wc hn,fun n hn=>wc hn,fun n hn=>(fC n).trans hn,fun n k hn=>(H.names _ (mem_of_lookup hn)).2,fun _=>hF,fun L h=>by rw[hF] at h;cases a7 h;exact bI _,fun _ c h=>RW he<|J4 c h,fun n m c h1 h2 _=>name_of_addr x.apart (mem_of_lookup h1) (mem_of_lookup h2)⟩
 refine aV.start ⟨zD hr _,cx,fun _=>?_⟩ ?_ (S.grow hk) ⟨by refine RW hL ?_;exact S.aL.big,by refine RW hL ?_;exact fresh _ (bI _),(aK _ x.toInCall.ns (fun n v e1 e2=>?_)),(aK oF eF (RW cF<|bH Value.type (aB hF).symm)),fun n c hc=>?_,fun n v e1 e2=>?_⟩
 ·refine aq hf fun l e _=>?_
  exact⟨l,by refine(?_:A.frames.map _=_);refine RW e ?_;rfl⟩
 ·refine aq hf fun l e hf=>?_
  refine(aK (env::l) (by refine(?_:A.frames.map _=_);exact RW e rfl) (fun z hz=>?_))
  rcases cW.mp hz with rfl|hz
  ·refine mU x.toInCall.ns fun o es ep q1 q2 _=>?_
   rw[eF] at q1;cases a7 q1;exact⟨by refine RW hS<|RW H.kind ?_;decide,_,hF,by refine RW hL ?_;exact fresh _ (bI _),by exact RW hL<|S.aL.big,oF,eF,cF,es,ep,q2⟩
  ·exact hf.grow hk z hz
 ·exact aq (hp n v e1) fun y q2 q3=>(aK y (om _ n y e2 b _ j7 (mem_of_lookup q2)) (q3.grow hk))
 ·have h1:env.locals<c:=EW n c hc
  rw[hL] at h1;exact⟨bZ S.aL.big (fL h1),fresh c (fL h1),fun q=>Nat.lt_irrefl _ (Nat.lt_of_lt_of_eq h1 (q.trans hL)),_,x.cell n c hc⟩
 ·refine aq (hp n v e1) fun y q2 q3=>?_
  rw[fC] at e2;have hn:fd.scope.names.lookup n=some .cell:=e2.elim id wc;refine aq (Jb n hn) fun c hc _=>(jN c y hc ?_ (q3.grow hk));have:=x.cell n c hc;rw[uR _ n y (by refine RW (fC _)<|RW hn ?_;decide) b _ j7 (mem_of_lookup q2)] at this
  exact this
end
end
section
theorem kD:aU (fun x=>x=a) h (h.update a f):=aU.cC (gF ..) rfl
theorem lm{h:Heap}{a:Addr}{f:Obj→Obj}{o:Obj}(e:(h.update a f).get? a=some o):∀x o,h.get? x=some o→∃o',(h.update a f).get? x=some o':=fun x o' e'=>by
 refine EM (x=a) (fun q=>?_) fun q=>?_
 ·subst q;exact⟨_,e⟩
 ·exact⟨o',(tD _ _ (Ne.symm q)).trans e'⟩
section
variable{M:Model}{A:Around}{E:Value→Shared→Prop}{s:Shared}{ρ:Rh}
theorem oG:∀{l:List Env},cL ρ h l→h.FunFrames {objs:=#[]} l
 |[],_=>trivial
 |e::l,F=>by
  refine az (F e cw) fun h1 aa=>o9 aa fun L h2 _ _ aP=>kS aP fun o h3 _ cN=>vG cN fun es ep h4=>?_;exact cE h1 (AK L o h2 rfl h3 (fun vs q=>by rw[h4] at q;cases q)) (oG fun x hx=>F x (dZ _ hx))
theorem w7(F:cL ρ h l)(hb:b∈l.filterMap (·.frame)):∃o,h.get? b=some o∧o.cls=.type "frame":=by
 refine aq (List.mem_filterMap.mp hb) fun e he hf=>az (F e he) fun _ aa=>o9 aa fun L h2 _ _ aP=>kS aP fun o h3 h4 _=>?_;rw[hf] at h2;cases a7 h2;exact aK o h3 h4
theorem wH(F:cL ρ h l)(x:Heap.SlotsOnly (l.filterMap (·.frame)) h h'):aU (fun _=>False) h h':=fun a o e _=>by
 constructor
 ·intro hc
  refine(x.2.1 a fun hm=>?_).trans e;refine aq (w7 F hm) fun o' e' c'=>?_;rw[e] at e';cases a7 e';exact hc c'
 ·intro _
  exact x.2.2 a o e
theorem C4(F:cL ρ h l)(x:Heap.SlotsOnly (l.filterMap (·.frame)) h h'):Fz ρ h h':=fun a o e hz _ _=>(x.2.1 a fun hm=>by
 refine aq (List.mem_filterMap.mp hm) fun e he hf=>az (F e he) fun _ aa=>kS aa fun L h2 h3 _=>?_;rw[hf] at h2;cases a7 h2;exact h3 (cY _ hz)).trans e
theorem r7(hx:Heap.ExtBut a h h')(ea:h.get? a=some oa)(hc:oa.cls≠.type "frame"):Fz ρ h h':=fun b o e _ _ c=>hx b o (fun q=>by rw[q,ea] at e;cases a7 e;exact hc c) e
theorem uH{env:Env}{outer:List Env}{L a:Addr}{oe:Obj}{vs:Array Value}{head:Value}{b:Bool}{Q:Unit→Shared→Prop}(AT:A.frames=some (env::outer))(F:cL ρ s.heap (env::outer))(hf:env.frame=some L)
  (he:s.heap.get? a=some oe) (hc:oe.cls≠.type "frame") (hd:oe.data=.fields vs) (jp:1<vs.size)
  (h:∀h' ts,aU (fun x=>x=a) s.heap h'→Fz ρ s.heap h'→(∀x o,s.heap.get? x=some o→∃o',h'.get? x=some o')→h'.get? a=some (oe.mapFields (·.setIfInBounds 1 (.ref s.heap.objs.size)))→
   h'.get? s.heap.objs.size=some {cls:=.type "traceback",data:=.fields ts}→3<ts.size→Q () {s with heap:=h'}):
  wpAny M A (do let x ←frameOf env;let pl ←entryPlaceOf L b;let y ←EntryCells.newEntry head x .none (rawInt L) .none pl;setField (.ref a) 1 y) Q E s:=by
 refine an (wpAny_frameOf_fun AT (oG F) hf fun h₁ AP=>?_);have k₁:=wH F AP;refine an (wpAny_entryPlaceOf fun pl Sj=>?_);unfold EntryCells.newEntry newFields;refine an (rn ?_ (Sj.sizeOk5 _ _ _ _ _));have Uh:h₁.get? a=some oe:=k₁.get he id hc;have NN:=gp (h:=h₁) {cls:=.type "traceback",dict:=none,data:=.fields ([head,.ref L,.none,rawInt L,.none]++(if pl.isEmpty then List.replicate 6 Value.none else pl)).toArray} Uh
 refine wpAny_setField NN hd jp ?_;have Ug:=gZ (Obj.mapFields (·.setIfInBounds 1 (Value.ref h₁.objs.size))) NN (Obj.isFreed_of_fields (pO hd _));have hT:h₁.objs.size≠a:=Nat.ne_of_gt (fK Uh);have k₂:aU (fun x=>x=a) s.heap (h₁.push {cls:=.type "traceback",dict:=none,data:=.fields ([head,.ref L,.none,rawInt L,.none]++(if pl.isEmpty then List.replicate 6 Value.none else pl)).toArray}):=
  (k₁.mono (fun _ _ _ q=>q.elim)).trans (aU.push (mu:=fun _=>False) _ _) fun _ _ _ q=>q.elim
 refine h _ _ (k₂.trans kD fun _ _ _ q=>q) (fun b o e hz hl c=>r7 (ρ:=ρ) (gF ..).extBut NN hc b o (gp _ (C4 F AP b o e hz hl c)) hz hl c) (fun x o e=>?_) (by rw[←AP.1];exact Ug) (by rw[←AP.1];exact(tD _ _ (Ne.symm hT)).trans (dm h₁ rfl)) ?_
 ·exact bf (AP.2.2 x o e) fun sl e'=>lm Ug x _ (gp _ e')
 ·simp only[List.size_toArray,List.length_append,List.length_cons,List.length_nil];lia
theorem qz{a tb:Addr}{oe Nh:Obj}{vs y0:Array Value}{Q:Unit→Shared→Prop}(he:s.heap.get? a=some oe)(hd:oe.data=.fields vs)(h1:vs[1]? =some (.ref tb))(o7:tb≠a)
  (ht:s.heap.get? tb=some Nh) (Ui:Nh.data=.fields y0) (jp:3<y0.size)
  (h:∀h',aU (fun x=>x=tb) s.heap h'→Heap.ExtBut tb s.heap h'→(∀x o,s.heap.get? x=some o→∃o',h'.get? x=some o')→h'.get? a=some oe→h'.get? tb=some (Nh.mapFields (·.setIfInBounds 3 .none))→Q () {s with heap:=h'}):
  wpAny M A (setFlight (.ref a) none) Q E s:=by
 have e:=gZ (Obj.mapFields (·.setIfInBounds 3 Value.none)) ht (Obj.isFreed_of_fields (pO Ui _));exact wpAny_setFlight_none he hd h1 ht Ui jp (h _ kD (gF ..).extBut (lm e) ((tD _ _ o7).trans he) e)
end
def Nu(h₀:Heap)(ρ:Rh)(h:Heap)(x:Addr):Prop:=h₀.get? x=none∧x∉ρ.all∧Out x∧∀o,h.get? x=some o→cQ o=false∧∃vs,o.data=.fields vs
section
variable{w:World}{A:Around}{C:Cx}{env OT:Env}{st:St}{s s₀:Shared}{ρ ρ₀:Rh}{E:Value→Shared→Prop}
theorem dB.exc(P:dB w ρ₀ OT s₀ st ρ s)(k:aU (Nu s₀.heap ρ s.heap) s.heap h')(z:Fz ρ s.heap h')(al:∀x o,s.heap.get? x=some o→∃o',h'.get? x=some o'):dB w ρ₀ OT s₀ st ρ {s with heap:=h'} where
 pre:=P.pre
 sr:=P.sr.keep k (fun a o e m=>.inr (m.2.2.2 o e).1) (Rh.le_refl ρ) aO al (P.sr.aL.G9 k fun a m=>m.2.2.1) P.sr.len P.sr.nodup P.sr.high fun i a o e1 e2=>.inl (cE e1 e2 (fun m=>m.2.1 (Rh.dh (db e1))))
 er:=P.er.keep k (fun a o e m=>.inr (m.2.2.2 o e).1) (Rh.le_refl ρ) aO (fun m=>by
   refine aq P.er.ns fun _ aa _=>mU aa fun o _ _ e d _=>az (m.2.2.2 o e) fun _ aa=>bf aa fun vs d'=>?_;rw[d] at d';cases d') fun x c hc m=>by
   refine kT (P.er.cells x c hc) fun _ _ _ aa=>fJ aa fun v o e d=>az (m.2.2.2 o e) fun _ aa=>bf aa fun vs d'=>?_;rw[d] at d';cases d'
 keep:=P.keep.trans k fun x o e m=>by rw[m.1] at e;exact aJ e
 os:=P.os
 gens:=P.gens
 fresh:=P.fresh
 alive:=fun x o e=>by
  exact bf (P.alive x o e) fun o' e'=>al x o' e'
 fz:=P.fz.trans z P.pre P.fresh
theorem vh(F:cL ρ h l)(k:aU mu h h')(hm:∀x o,h.get? x=some o→mu x→o.cls≠.type "frame"):cL ρ h' l:=fun e he=>by
 exact az (F e he) fun h1 aa=>o9 aa fun L h2 h3 h4 aP=>kS aP fun o h5 h6 cN=>vG cN fun es ep h7=>o9 (k.data h5 fun q=>hm L o h5 q h6) fun o' g1 g2 g3 _=>⟨h1,L,h2,h3,h4,o',g1,g3.trans h6,es,ep,g2.trans h7⟩
theorem jn(h:dK o.cls=true):cQ o=false:=by
 unfold cQ;refine RW h ?_;simp
theorem oy{c e}{g}(P:aV g st s ρ)(hf:g.env.frame=some g.env.locals){h₀}(X:gK c h₀ ρ s.heap e)(al:∀x o,h₀.get? x=some o→∃o',s.heap.get? x=some o'){Q}
  (h:∀h',aU (Nu h₀ ρ s.heap) s.heap h'→Fz ρ s.heap h'→(∀x o,s.heap.get? x=some o→∃o',h'.get? x=some o')→gK c h₀ ρ h' e→Q () {s with heap:=h'}):wpAny g.m g.A (leaving g.env e) Q E s:=by
 refine N1 X fun a vs aa g2 g3 g4 g5 g6 g7 aP g9=>kS aP fun oe he hc hd=>?_;clear X;subst aa;subst hc;refine aq P.fr fun l hl F=>bf (P.ok.top hf) fun l₀ V9=>?_;obtain rfl:l=g.env::l₀:=a7 (hl.symm.trans V9);have T0:∀o,s.heap.get? a=some o→Nu h₀ ρ s.heap a:=fun o eo=>(qU g4 g3 g2 (fun o' e'=>by rw[he] at e';cases a7 e';exact⟨jn g6,vs,hd⟩))
 unfold leaving noteFrame;simp only[hf];have fin:∀(h':Heap) (vs':Array Value) (tb:Addr) (ts:Array Value),aU (Nu h₀ ρ s.heap) s.heap h'→Fz ρ s.heap h'→(∀x o,s.heap.get? x=some o→∃o',h'.get? x=some o')→
   (∃o,h'.get? a=some o∧o.cls=oe.cls∧o.data=.fields vs')→1<vs'.size→vs'[1]? =some (.ref tb)→Out tb→tb∉ρ.all→h₀.get? tb=none→tb≠a→3<ts.size→(∃o,h'.get? tb=some o∧o.cls=.type "traceback"∧o.data=.fields ts)→
   (s.heap.get? tb=none∨Nu h₀ ρ s.heap tb)→wpAny g.m g.A (setFlight (.ref a) none) Q E {s with heap:=h'}:=by
  intro h' vs' tb ts k kz NU ⟨o1,q1,q2,q3⟩ z1 z2 t1 t2 t3 t4 t5 ⟨o2,p1,p2,p3⟩ V1;refine qz q1 q3 z2 t4 p1 p3 t5 fun y3 Vx Ta TF e1 e2=>h y3 (k.trans Vx fun x o e q=>?_) (fun b o e hz hl c=>r7 (ρ:=ρ) Ta p1 (by refine RW p2 ?_;simp) b o (kz b o e hz hl c) hz hl c) (fun x o e=>?_) ?_
  ·subst q
   refine aA V1 (fun q=>?_) fun q=>?_
   ·rw[e] at q;exact py q
   ·exact q
  ·exact bf (NU x o e) fun o' e'=>TF x o' e'
  ·refine RT a vs' rfl g2 g3 g4 z1 g6 g7 (lL o1 e1 q2 q3) (.inr ⟨tb,_,z2,t1,t2,t3,t4,?_,_,e2,(Obj.cls_mapFields _ _).trans p2,pO p3 _⟩)
   simpa using t5
 refine aA g9 (fun g9=>?_) fun aP=>UQ aP fun tb y0 t1 t2 t3 t4 t5 t6 JB=>kS JB fun Nh u1 u2 u3=>?_
 ·refine an (an (wpAny_field he hd g9 ?_))
  refine RW (au (by decide))<|uH hl F hf he g7 hd g5 fun h' ts k kz NU e1 e2 e3=>?_
  have nx:=bC s.heap;refine fin h' _ s.heap.objs.size ts (k.mono fun x o e q=>by subst q;exact T0 o e) kz NU (lL _ e1 (Obj.cls_mapFields _ _) (pO hd _)) (by simpa using g5) (by simp[g5]) (Out.high P.S.aL.big) (P.S.fresh nx) ?_ (Ne.symm (kW (fK he))) e3 (lL _ e2 rfl rfl) (.inl nx)
  cases q:h₀.get? s.heap.objs.size with
  |none=>rfl
  |some o=>refine bf (al _ o q) fun o' q'=>?_;rw[nx] at q';exact aJ q'
 ·have TZ:Nu h₀ ρ s.heap tb:=(qU t4 t3 t2 (fun o' e'=>by rw[u1] at e';cases a7 e';exact⟨jn (by refine RW u2 ?_;decide),y0,u3⟩))
  refine an (an (wpAny_field he hd t1 ?_));refine RW (aB (by simp)) ?_
  obtain⟨v3,VN⟩:∃v,y0[3]? =some v:=⟨_,Array.getElem?_eq_getElem t6⟩;refine an (wpAny_field u1 u3 VN ?_);split
  ·exact aS<|fin s.heap vs tb y0 (aU.refl _ _) (fun _ _ e _ _ _=>e) (fun x o e=>⟨o,e⟩) (lL oe he rfl hd) g5 t1 t2 t3 t4 t5 t6 (lL Nh u1 u2 u3) (.inr TZ)
  ·have eT:=gZ (Obj.mapFields (·.setIfInBounds 3 Value.none)) u1 (Obj.isFreed_of_fields (pO u3 _))
   refine an (wpAny_setField u1 u3 t6 ?_);have ea:(s.heap.update tb (Obj.mapFields (·.setIfInBounds 3 Value.none))).get? a=some oe:=(tD _ _ t5).trans he;have F':cL ρ (s.heap.update tb (Obj.mapFields (·.setIfInBounds 3 Value.none))) (g.env::l₀):=vh F kD fun x o e q=>by
    subst q;rw[u1] at e;cases a7 e;refine RW u2 ?_;simp
   refine uH (s:={s with heap:=s.heap.update tb (Obj.mapFields (·.setIfInBounds 3 Value.none))}) hl F' hf ea g7 hd g5 fun h' ts k kz NU e1 e2 e3=>?_
   have jp:(s.heap.update tb (Obj.mapFields (·.setIfInBounds 3 Value.none))).objs.size=s.heap.objs.size:=(gF ..).1;have nx:=bC s.heap;dsimp only at e1 e2;rw[jp] at e1 e2;refine fin h' _ s.heap.objs.size ts ((kD.mono fun x o e q=>by subst q;exact TZ).trans k fun x o e q=>by subst q;exact T0 o e) (fun b o e hz hl c=>kz b o (r7 (ρ:=ρ) (gF ..).extBut u1 (by refine RW u2 ?_;simp) b o e hz hl c) hz hl c) (fun x o e=>?_) (lL _ e1 (Obj.cls_mapFields _ _) (pO hd _)) (by simpa using g5) (by simp[g5]) (Out.high P.S.aL.big) (P.S.fresh nx) ?_ (Ne.symm (kW (fK he))) e3 (lL _ e2 rfl rfl) (.inl nx)
   ·exact bf (lm eT x o e) fun o' e'=>NU x o' e'
   ·cases q:h₀.get? s.heap.objs.size with
    |none=>rfl
    |some o=>refine bf (al _ o q) fun o' q'=>?_;rw[nx] at q';exact aJ q'
end
end
theorem Ih{w:World}{ρ ρ':Rh}{env:Env}{s s₁ s₂ s':Shared}{m cm:Str→Option Value}{st:St}(hk:∀z o,s.heap.get? z=some o→s₁.heap.get? z=some o)(e₁:∃h₁,s₁={s with heap:=h₁})(x:InCallC s₁ env.locals m env.cells cm s₂)(hL:env.locals=s₁.heap.objs.size)
  (P:dB w ρ env s₂ st ρ' s'):aQ w ρ s st.os ρ' s':=by
 refine bf e₁ fun h₁ aa=>?_;clear e₁;subst aa;refine vG x.toInCall.same fun h₂ tk e₂=>?_;have up:∀z o,s.heap.get? z=some o→s₂.heap.get? z=some o:=fun z o e=>x.toInCall.keep z o (hk z o e);have old:∀{z o},h₁.objs.size≤z→s.heap.get? z=some o→False:=fun hz e=>absurd (fK (hk _ _ e)) (j9.mpr hz);refine⟨P.pre,P.sr,fun z o e hm=>P.keep z o (up z o e) fun m=>?_,by(refine RW P.os<|RW e₂ rfl),fun g=>P.gens (RW e₂ g),fun z m q=>?_,fun z o e=>P.alive z o (up z o e),fun z o e=>P.fz z o (up z o e)⟩
 ·refine aA m (fun m=>?_) fun qP=>aA qP (fun m=>?_) fun yZ=>aA yZ (fun m=>?_) fun m=>?_
  ·exact hm (.inl m)
  ·exact old (ka (m.trans hL).symm) e
  ·exact old (bZ (ka hL.symm) (fL m.2)) e
  ·exact hm (.inr m)
 ·cases q2:s.heap.get? z with
  |none=>rfl
  |some o=>have:=P.fresh z m q;rw[up z o q2] at this;exact py this
theorem DR{F:bT}(hx:EJ F){w:World}{A:Around}{a:Addr}{fd:FD}{d:Nat}{args:List V}{kws:List (Str×V)}{os:List O}{K:Rs→List O→Prop}{s:Shared}{ρ:Rh}{xs:List Value}{ks:List (Str×Value)}(vD:fnAt a=some fd)(h:Uu F d fd a args kws os K)
  (hR:mo A d) (S:SR w ρ os s.heap) (hF:Fr A ρ s.heap) (ra:aM s.heap ρ args xs) (rk:xy s.heap ρ kws ks):codeAny (model PW w) A (.call (.ref a) ⟨xs,ks⟩) (eE w ρ s K) s:=by
 induction d using Nat.casesAuxOn with
 |zero=>exact h.elim
 |succ d=>
 refine aE h fun bs hb h=>?_;have h:(fd.params.vararg.isSome=true→args.length≤ax)∧F.ex ⟨fd.scope.names,d⟩ fd.body ⟨bs,os⟩ (aN K):=by
  refine EM (fd.params.vararg.isSome=true) (fun c=>?_) fun c=>?_
  ·rw[if_pos c] at h;exact⟨fun _=>h.1,h.2⟩
  ·rw[if_neg c] at h;exact⟨fun q=>absurd q c,h⟩
 refine UO (yM w.params vD) fun name qual dflt pm code H0=>aq H0.obj fun o ho Ju=>?_;have H:=lr H0.scope;refine aq (yQ (ρ:=ρ) S.aL H0.dflt) fun its hd rd=>?_;refine codeAny_call_function (by have:=hR.depth;lia) (S.aL.X _ _ ho) Ju H.co H.gen rfl (oh S.aL H0.Nr) ?_
 refine uQ (a:=a) (fd:=fd) (ρ:=ρ) hb rfl (fun e=>⟨S.aL.big,S.fresh e⟩) ra rk rd (fun s' NH=>hd s' NH) h.1 fun b h' hk Np=>?_;have Cb:=vn hb;refine sq H.kind (fun x VH=>?_) fun env he s₂ x=>?_
 ·have hm:x.1∈ie fd:=by
   ((refine RS Cb ?_);rewrite [←Np.1]);exact rp VH
  exact(H.par _ hm).imp id fun h=>⟨h,eP _ _ _ _ h⟩
 ·have WC:Fr A ρ h':=by
   exact aq hF fun l e z=>(aK l e (z.grow hk))
  have hL:env.locals=h'.objs.size:=RW he rfl;have N:=yk (s₁:={s with heap:=h'}) (fM:=lY (some fd) name qual dflt pm code) hR (S.grow hk) WC H rfl rfl rfl (fun n v e=>Np.get e) (by(rewrite [Np.1];refine RW Cb ?_);exact H.nodup) H0.qm he x
  have back:=fun{st ρ' s'} (P:dB w ρ env s₂ st ρ' s')=>Ih hk ⟨h',rfl⟩ x.1 hL P;refine⟨(S.grow hk).aL.lim.keeps x.1.toInCall.keep,codeAny_func (bw (hx h.2 N) (fun fl s' z=>?_) fun e s' z=>?_)⟩
  ·cases z with
   |mk f st' ρ' hQ N' U' r=>
    induction f using Fl.casesOn<;>induction fl using Flow.casesOn<;>first|exact hQ.elim|exact r.elim|exact(AJ _ _ ρ' hQ (back N'.P) (.none))|exact(AJ _ _ ρ' hQ (back N'.P) r)
  ·cases z with
   |mk c st' ρ' hQ N' U' X=>
    have hf:env.frame=some env.locals:=RW he rfl;exact oy N' hf X N'.P.alive fun y3 k kz al hex=>(AJ c _ ρ' hQ (back (N'.P.exc k kz al)) (hex.tG fun z o e=>⟨o,x.1.toInCall.keep z o (hk z o e)⟩))
section
theorem B8:typeLookup (.type "method_descriptor") "__get__"=pure (some (.builtin "method_descriptor.__get__")):=by refine RW (iK _ _)<|RW iM ?_;kernel_rfl
theorem Lv:typeLookup (.type "method_descriptor") "__set__"=pure none:=by refine RW (iK _ _)<|RW iM ?_;kernel_rfl
theorem Lw:typeLookup (.type "method_descriptor") "__delete__"=pure none:=by refine RW (iK _ _)<|RW iM ?_;kernel_rfl
theorem BF:typeLookup (.type "wrapper_descriptor") "__get__"=pure (some (.builtin "wrapper_descriptor.__get__")):=by refine RW (iK _ _)<|RW iM ?_;kernel_rfl
theorem Kr:typeLookup (.type "wrapper_descriptor") "__set__"=pure none:=by refine RW (iK _ _)<|RW iM ?_;kernel_rfl
theorem Ks:typeLookup (.type "wrapper_descriptor") "__delete__"=pure none:=by refine RW (iK _ _)<|RW iM ?_;kernel_rfl
theorem G0:typeLookup (.type "list_iterator") "__next__"=pure (some (.builtin "list_iterator.__next__")):=by refine RW (iK _ _)<|RW iM ?_;kernel_rfl
theorem kN:typeOf (.builtin "list_iterator.__next__")=pure (.type "wrapper_descriptor"):=by refine(?_:builtinType _=_);refine RW builtinType_eq_fast ?_;kernel_rfl
section
variable{prog:Program}{w:World}{A:Around}{E:Value→Shared→Prop}{s:Shared}
theorem w9{T D:String}{name:Str}{id gid:String}(ha:s.heap.get? a=some o)(hc:o.cls=.type T)(hd:o.dict=none)(vQ:(∃xs n,o.data=.seq xs n)∨∃vs,o.data=.fields vs)
  (h1:typeLookup (.type T) name=pure (some (.builtin id))) (h2:typeOf (.builtin id)=pure (.type D)) (h3:typeLookup (.type D) "__get__"=pure (some (.builtin gid)))
  (h4:typeLookup (.type D) "__set__"=pure none) (h5:typeLookup (.type D) "__delete__"=pure none)
  (hn:Unit→(["__module__","__name__","__qualname__","__doc__","__annotations__"]:List Str).contains name=false)
  {Q:Builtin.ObjectAttr.Found→Shared→Prop} (h:Q (.bind (.builtin gid) (.builtin id)) s):wpAny (model prog w) A (Builtin.ObjectAttr.find (.ref a) (.type T) name) Q E s:=by
 obtain⟨cl,WM,dat,sl⟩:=o;simp only at hc hd vQ;subst hc hd;unfold Builtin.ObjectAttr.find
 repeat(any_goals(first|assumption|wp_step))
 rcases vQ with⟨xs,n,rfl⟩|⟨vs,rfl⟩
 all_goals
  dsimp only
  repeat(any_goals(first|assumption|wp_step))
  simp only[hn (),Bool.false_eq_true,if_false]
  repeat(any_goals(first|assumption|wp_step))
theorem qx{T D:String}{name:Str}{id gid:String}(ha:s.heap.get? a=some o)(hc:o.cls=.type T)(hd:o.dict=none)(vQ:(∃xs n,o.data=.seq xs n)∨∃vs,o.data=.fields vs)
  (h1:typeLookup (.type T) name=pure (some (.builtin id))) (h2:typeOf (.builtin id)=pure (.type D)) (h3:typeLookup (.type D) "__get__"=pure (some (.builtin gid)))
  (h4:typeLookup (.type D) "__set__"=pure none) (h5:typeLookup (.type D) "__delete__"=pure none)
  (hn:Unit→(["__module__","__name__","__qualname__","__doc__","__annotations__"]:List Str).contains name=false)
  {J6:String} (g1:Slot T "__getattribute__" J6) (g2:entryFor table J6=some Builtin.«object.__getattribute__») (g3:∀x y,argsOk J6 ⟨[x,y],[]⟩)
  {Q:Value→Shared→Prop} (hg:∀t A',codeAny (model prog w) A' (.call (.builtin gid) ⟨[.builtin id,.ref a,.type T],[]⟩) (fun r s'=>∃v,r=.ok (.ret v)∧handedIn v=true∧Q v s') {s with toks:=t}):wpAny (model prog w) A (getAttr (.ref a) name true) Q E s:=by
 have f4:=g1.bind (.ref a);have f5:=g1.lookup;have hT:∀Ri,({s with toks:=Ri}:Shared).TypeIs (.ref a) T:=fun _=>(aK _ ha hc)
 have body:∀(tk Ri:Nat) (E':Value→Shared→Prop) (A':Around),
   wpAny (model prog w) A' (Builtin.«object.__getattribute__» ⟨[.ref a,.str name Ri],[]⟩) (fun fin s'=>∃r,fin=.done (.ret r)∧handedIn r=true∧Q r s') E' {s with toks:=tk}:=by
  intro tk Ri E' A';unfold Builtin.«object.__getattribute__»;have Xu:=hT tk
  repeat(any_goals(first|assumption|((with_reducible refine(?_:wpAny _ _ (Builtin.ObjectAttr.find _ _ _) _ _ _));refine w9 (s:={s with toks:=tk}) ha hc hd vQ h1 h2 h3 h4 h5 hn ?_)|wp_step))
  refine iJ (hg tk A') fun r s' z=>?_
  (have aF:=z;clear z;refine kS aF fun v aa z1 z2=>?_;clear aF;subst aa)
  exact aS (lL v rfl z1 z2)
 obtain⟨cl,WM,dat,sl⟩:=o;simp only at hc hd vQ;subst hc hd;unfold getAttr getAttrBy
 repeat(any_goals(first|assumption|exact hT _|wp_step))
 refine iJ (codeAny_call_builtin (R:=fun r s'=>∃v,r=.ok (.ret v)∧handedIn v=true∧Q v s') g1.plain g2 (g1.check _ _ _ _ _ _ _ _ (hT _) (g3 _ _) (bw (body _ _ (fun _ _=>False) _) (fun fin s' z=>?_) fun _ _ z=>z.elim))) fun r s' z=>?_
 ·(have aF:=z;clear z;refine aq aF fun v aa z=>?_;clear aF;subst aa)
  exact aK v rfl z
 ·(have aF:=z;clear z;refine kS aF fun v aa z1 z2=>?_;clear aF;subst aa)
  refine(?_:wpAny _ _ (handedOut v) _ _ _);exact RW (handedOut_of z1)<|aS z2
end
theorem l9:Slot "method_descriptor" "__get__" "method_descriptor.__get__":=
 .of (owner:="method_descriptor") (n:="__get__") B8 (by decide+kernel) (by decide+kernel) (by decide+kernel)
  (by first|exact .inl (by(refine RW vK ?_);kernel_rfl)|exact .inr (by rw[PySem.find?_eq_fast];kernel_rfl)) (by refine RW (jO _ _) ?_;kernel_rfl)
theorem l8:Slot "wrapper_descriptor" "__get__" "wrapper_descriptor.__get__":=
 .of (owner:="wrapper_descriptor") (n:="__get__") BF (by decide+kernel) (by decide+kernel) (by decide+kernel)
  (by first|exact .inl (by(refine RW vK ?_);kernel_rfl)|exact .inr (by rw[PySem.find?_eq_fast];kernel_rfl)) (by refine RW (jO _ _) ?_;kernel_rfl)
theorem sQ:entryFor table "method_descriptor.__get__"=some Builtin.«method_descriptor.__get__»:=nh (by kernel_rfl)
theorem sO:entryFor table "wrapper_descriptor.__get__"=some Builtin.«wrapper_descriptor.__get__»:=nh (by kernel_rfl)
theorem Dk:Manifest.owners.lookup (String.ofList (['r','o','t','p','i','r','c','s','e','d','_','d','o','h','t','e','m']:List Char).reverse)=some Manifest.sig_method_descriptor:=by kernel_rfl
theorem vp(a b c):argsOk "method_descriptor.__get__" ⟨[a,b,c],[]⟩:=by
 unfold argsOk;(refine RW (signature?_of (id:="method_descriptor.__get__") (n:=['_','_','t','e','g','_','_']) (o:=['r','o','t','p','i','r','c','s','e','d','_','d','o','h','t','e','m']) (by kernel_rfl) Dk) ?_);kernel_rfl
theorem Dj:Manifest.owners.lookup (String.ofList (['r','o','t','p','i','r','c','s','e','d','_','r','e','p','p','a','r','w']:List Char).reverse)=some Manifest.sig_wrapper_descriptor:=by kernel_rfl
theorem vo(a b c):argsOk "wrapper_descriptor.__get__" ⟨[a,b,c],[]⟩:=by
 unfold argsOk;(refine RW (signature?_of (id:="wrapper_descriptor.__get__") (n:=['_','_','t','e','g','_','_']) (o:=['r','o','t','p','i','r','c','s','e','d','_','r','e','p','p','a','r','w']) (by kernel_rfl) Dj) ?_);kernel_rfl
section
variable{prog:Program}{w:World}{A:Around}{E:Value→Shared→Prop}{s:Shared}
theorem xb:".".intercalate ("list.append".cutAt '.').dropLast="list":=by decide+kernel
theorem DZ:".".intercalate ("list_iterator.__next__".cutAt '.').dropLast="list_iterator":=by decide+kernel
theorem CY:isSubtype (.type "list") (.type "list")=pure true:=by refine RW (jO _ _) ?_;kernel_rfl
theorem sI:isSubtype (.type "list_iterator") (.type "list_iterator")=pure true:=by refine RW (jO _ _) ?_;kernel_rfl
theorem GS{Q:Value→Shared→Prop}(hT:s.TypeIs (.ref a) "list")
  (h:Q (.ref s.heap.objs.size) {s with heap:=s.heap.push {cls:=.type "builtin_function_or_method",data:=.fields #[.builtin "list.append",.ref a]}}):
  wpAny (model prog w) A (Builtin.«method_descriptor.__get__» ⟨[.builtin "list.append",.ref a,.type "list"],[]⟩) (fun fin s'=>∃r,fin=.done (.ret r)∧Q r s') E s:=by
 unfold Builtin.«method_descriptor.__get__»
 repeat(any_goals(first|assumption|wp_step))
 refine RW xb<|kU CY (aS ?_);unfold newFields;exact an (rn (aS (aK _ rfl h)))
theorem FH{Q:Value→Shared→Prop}(hT:s.TypeIs (.ref a) "list_iterator")
  (h:Q (.ref s.heap.objs.size) {s with heap:=s.heap.push {cls:=.type "method-wrapper",data:=.fields #[.builtin "list_iterator.__next__",.ref a]}}):
  wpAny (model prog w) A (Builtin.«wrapper_descriptor.__get__» ⟨[.builtin "list_iterator.__next__",.ref a,.type "list_iterator"],[]⟩) (fun fin s'=>∃r,fin=.done (.ret r)∧Q r s') E s:=by
 unfold Builtin.«wrapper_descriptor.__get__»
 repeat(any_goals(first|assumption|wp_step))
 refine RW DZ<|kU sI (aS ?_);unfold newFields;exact an (rn (aS (aK _ rfl h)))
end
section
variable{prog:Program}{w:World}{A:Around}{E:Value→Shared→Prop}{s:Shared}
theorem kK{id T}(h:typeOf (.builtin id)=pure (.type T))(s:Shared):s.TypeIs (.builtin id) T:=h
theorem get_append{a}{ws:List Value}{n}{Q:Value→Shared→Prop}(ha:s.heap.get? a=some {cls:=.type "list",data:=.seq ws.toArray n})
  (h:∀t,Q (.ref s.heap.objs.size) {s with heap:=s.heap.push {cls:=.type "builtin_function_or_method",data:=.fields #[.builtin "list.append",.ref a]},toks:=t}):wpAny (model prog w) A (getAttr (.ref a) "append" true) Q E s:=by
 refine qx ha rfl rfl (.inl (s7 _ _ rfl)) F.slot_list_append.lookup F.type_list_append B8 Lv Lw (fun _=>by decide+kernel) F.slot_list_getattribute am_entry_list_getattribute (fun _ _=>F.args_list_getattribute_2 _ _) fun t A'=>?_
 refine codeAny_call_builtin (R:=fun r s'=>∃v,r=.ok (.ret v)∧handedIn v=true∧Q v s') l9.plain sQ (l9.check _ _ _ _ _ _ _ _ (kK F.type_list_append _) (vp _ _ _) (bw (GS (E:=fun _ _=>False) (Q:=fun v s'=>handedIn v=true∧Q v s') (aK _ ha rfl) ⟨rfl,h t⟩) (fun fin s' z=>?_) fun _ _ z=>z.elim))
 (have aF:=z;clear z;refine aq aF fun v aa z=>?_;clear aF;subst aa)
 exact aK v rfl z
theorem jh:Slot "list_iterator" "__getattribute__" "object.__getattribute__":=
 .of (owner:="object") (n:="__getattribute__") (by refine RW (iK _ _)<|RW iM ?_;kernel_rfl) (by decide+kernel) (by decide+kernel) (by decide+kernel)
  (by first|exact .inl (by(refine RW vK ?_);kernel_rfl)|exact .inr (by rw[PySem.find?_eq_fast];kernel_rfl)) (by refine RW (jO _ _) ?_;kernel_rfl)
theorem DP{Q}(ha:s.heap.get? a=some o)(hc:o.cls=.type "list_iterator")(hd:o.dict=none)(vQ:o.data=.fields vs)
  (h:∀t,Q (.ref s.heap.objs.size) {s with heap:=s.heap.push {cls:=.type "method-wrapper",data:=.fields #[.builtin "list_iterator.__next__",.ref a]},toks:=t}):wpAny (model prog w) A (getAttr (.ref a) "__next__" true) Q E s:=by
 refine qx ha hc hd (.inr ⟨_,vQ⟩) G0 kN BF Kr Ks (fun _=>by decide+kernel) jh F.entry_object_getattribute F.args_object_getattribute_2 fun t A'=>?_
 refine codeAny_call_builtin (R:=fun r s'=>∃v,r=.ok (.ret v)∧handedIn v=true∧Q v s') l8.plain sO (l8.check _ _ _ _ _ _ _ _ (kK kN _) (vo _ _ _) (bw (FH (E:=fun _ _=>False) (Q:=fun v s'=>handedIn v=true∧Q v s') (aK _ ha hc) ⟨rfl,h t⟩) (fun fin s' z=>?_) fun _ _ z=>z.elim))
 (have aF:=z;clear z;refine aq aF fun v aa z=>?_;clear aF;subst aa)
 exact aK v rfl z
end
end
section
theorem hZ(m):ar m.cps.toList=m:=by simp[ar]
theorem I4(s:String):ar (tx s)=Str.ofString s:=by simp[ar,tx]
theorem zp{w:World}{A:Around}{E:Value→Shared→Prop}{s:Shared}{ρ:Rh}{os:List O}{i:Nat}{a:Addr}{Q:Value→Shared→Prop}{vs:List V}(S:SR w ρ os s.heap)(hi:ρ.l[i]? =some a)(ho:os[i]? =some (.list vs))
  (hQ:∀t,Q (.ref s.heap.objs.size) {s with heap:=s.heap.push (jD "list.append" a),toks:=t}):wpAny (model PW w) A (getAttr (.ref a) (ar (tx "append")) true) Q E s:=by
 exact fJ (S.at hi ho) fun ws n h1 _=>RW (I4 _)<|get_append h1 hQ
theorem zq{w:World}{A:Around}{E:Value→Shared→Prop}{s:Shared}{ρ:Rh}{os:List O}{i l k:Nat}{a:Addr}{Q:Value→Shared→Prop}(S:SR w ρ os s.heap)(hi:ρ.l[i]? =some a)(ho:os[i]? =some (.iter l k))
  (hQ:∀t,Q (.ref s.heap.objs.size) {s with heap:=s.heap.push (jD "list_iterator.__next__" a),toks:=t}):wpAny (model PW w) A (getAttr (.ref a) (ar (tx "__next__")) true) Q E s:=by
 exact aq (S.at hi ho) fun al _ q=>RW (I4 _)<|DP q rfl rfl rfl hQ
theorem lG{os:List O}{l:Nat}{es:List (Tx×V)}(e:kB os l=some es):os[l]? =some (.attrs es):=by
 unfold kB at e;cases q:os[l]? with
 |none=>rw[q] at e;exact aJ e
 |some o=>rw[q] at e;revert e;induction o using O.casesOn<;>first|exact fun e=>absurd e.symm (vJ _)|exact fun e=>bH some (by cases a7 e;rfl)
theorem kH{os:List O}{l:Nat}{x:Addr×Nat}(e:i3 os l=some x):os[l]? =some (.inst x.1 x.2):=by
 unfold i3 at e;cases q:os[l]? with
 |none=>rw[q] at e;exact aJ e
 |some o=>rw[q] at e;revert e;induction o using O.casesOn<;>first|exact fun e=>absurd e.symm (vJ _)|exact fun e=>bH some (by cases a7 e;rfl)
theorem Go(P):(findIn (bF P) (.ref 876) (ar (tx "punctuation_chars"))==some (some (.ref 808))&&specialIn (bF P) (.ref 808) "__get__"==some (some (.builtin "property.__get__"))&&takesIn (bF P) (.ref 808)==some true&&plainGet (bF P) 876 ""&&isClsIn (bF P) 876)=true:=by kernel_rfl
theorem Dg(P):∃rest,recIn (bF P) 808 "property"=some (.ref 807::rest):=⟨((recIn (bF P) 808 "property").getD []).tail,by kernel_rfl⟩
theorem sK(h:nG C n=some g):C=876∧n=tx "punctuation_chars"∧g=807:=by
 unfold nG at h;refine EM ((C==876&&n==tx "punctuation_chars")=true) (fun q=>?_) fun q=>?_
 ·rw[if_pos q] at h
  rw[Bool.and_eq_true] at q;exact cE (cO.mp q.1) (cO.mp q.2) (a7 h).symm
 ·rw[if_neg q] at h;exact aJ h
section
variable{F:bT}{g:Gr}{s s₀:Shared}{ρ ρ₀:Rh}{st:St}
theorem yW(hc:cJ F){o:V}{n:Tx}{Q:V→St→Prop}{x:Value}(N:aV g st s ρ)(U:Up s₀ ρ₀ s ρ)(h:kq F g.C.d o n st.os fun v os=>Q v ⟨st.vs,os⟩)(r:VR s.heap ρ o x){E:Value→Shared→Prop}:wpAny g.m g.A (getAttr x (ar n) true) (ey g Q s₀ ρ₀) E s:=by
 revert r;apply rS h;intro i h r;apply r.gX;intro a hr;refine aE h fun ob hi h=>?_
 induction ob using O.casesOn with
 |inst Cl d=>
  cases hg:nG Cl n with
  |none=>
   dsimp only at h;rw[hg] at h;exact az (ae h) fun h h2=>aE h2 fun v hv h'=>aq (dI.mp hv) fun es hd hv=>LP N.S hr hi (lG hd) h hv (ey.grows N U h')
  |some gf=>
   dsimp only at h;rw[hg] at h;refine gq (sK hg) fun aa aP cN=>?_;subst aa;subst aP;subst cN;refine fJ (N.S.at hr hi) fun dx sl e1 e2=>?_;have k:=Go g.w.params;rw[Bool.and_eq_true,Bool.and_eq_true,Bool.and_eq_true,Bool.and_eq_true] at k;refine az k fun aa k6=>az aa fun aP k5=>az aP fun cN k3=>az cN fun k1 k2=>bf (Dg g.w.params) fun rest k4=>bf (N.S.there (Rh.dh (db e1))) fun od NS=>?_;have I:W.InstAt s.heap a ⟨.ref 876,some dx,.plain,sl⟩ 876 (some od):=⟨e2,rfl,rfl,NS⟩;have z:=N.tok (s.toks+1);refine get_bind N.S.aL.X I (plainGet_of k5).1 (jI k6 (cO.mp k1) (cO.mp k2) (cO.mp k3)) (plainGet_of k5).2 (jw (prop_get (s:={s with toks:=s.toks+1}) N.S.aL.X k4 ?_))
   refine iJ (hc h N.ok.rm.in1 z.1.S z.1.fr (.con _ rfl) (aM.cons (.ref hr) aM.nil) ⟨rfl,aM.nil⟩) fun z' s₃ hz=>?_;rcases z' with e|(_|_|_|y)
   ·refine AL hz fun c cn ρ' hK _=>?_;exact hK.elim
   ·exact hz.elim
   ·exact hz.elim
   ·exact hz.elim
   ·refine mU hz fun v cn ρ' hK P r'=>?_
    have z2:=z.1.call P;exact handed_on (lC r') (.mk v _ ρ' hK z2.1 (U.trans (z.2.trans z2.2)) r')
 |slots Cl d vs=>exact aE h fun k hk h=>aE h fun v hv h=>uW N.S hr hi hk hv (ey.grows N U h)
 |list vs=>
  refine az (ae h) fun aa h'=>?_;subst aa;refine zp N.S hr hi fun t=>?_;have z:=N.add (jD "list.append" a) t (x:=.wrap "list.append" i) (aK a (cg (Rh.hV _ _) hr) (dm _ rfl));exact .mk _ _ _ h' z.1 (U.trans z.2) (.ref (kC N.S _))
 |iter l k=>
  refine az (ae h) fun aa h'=>?_;subst aa;refine zq N.S hr hi fun t=>?_;have z:=N.add (jD "list_iterator.__next__" a) t (x:=.wrap "list_iterator.__next__" i) (aK a (cg (Rh.hV _ _) hr) (dm _ rfl));exact .mk _ _ _ h' z.1 (U.trans z.2) (.ref (kC N.S _))
 |_=>exact h.elim
theorem Iy(he:fg F)(hc:cJ F)(hs:iZ o=false)(h:F.ev g.C o st fun r st=>kq F g.C.d r m.cps.toList st.os fun v os=>Q v ⟨st.vs,os⟩)(N:aV g st s ρ):wpAny g.m g.A (eval (.Attribute o m pos) g.env) (ey g Q s ρ) cq s:=by
 rw[arm_eval_Attribute,dt hs];refine an (he.go h N fun x s₁ ρ₁ v cu h N₁ U₁ r₁=>an (eQ (an (cX ?_))));have z:=yW (E:=cq) hc N₁ U₁ h r₁;rw[hZ] at z;exact gD z fun y s₂ q=>an (wpAny_letTemporaryGo (aS q))
theorem kL{o v:V}{n:Tx}{Q:St→Prop}{x y:Value}{E:Value→Shared→Prop}(N:aV g st s ρ)(U:Up s₀ ρ₀ s ρ)(h:i0 o n v st.os fun os=>Q ⟨st.vs,os⟩)(r:VR s.heap ρ o x)(ry:VR s.heap ρ v y):wpAny g.m g.A (setAttr x (ar n) y) (fun _=>kQ g Q s₀ ρ₀) E s:=by
 have fin:∀{cn},Q ⟨st.vs,cn⟩→wpAny g.m g.A (setAttr x (ar n) y) (fun _ s'=>aQ g.w ρ s cn ρ s') cq s→wpAny g.m g.A (setAttr x (ar n) y) (fun _=>kQ g Q s₀ ρ₀) E s:=fun hq h=>gD h fun _ s' P=>
  have z:=N.call P
  .mk _ _ hq z.1 (U.trans z.2)
 revert r fin;apply rS h;intro i h r;apply r.gX;intro a hr fin;refine aE h fun ob hi h=>?_
 induction ob using O.casesOn with
 |inst Cl d=>
  exact aE (ae h).2 fun es hd h=>have h:=ae h;fin h.2 (KI N.S hr hi (lG hd) h.1.1 h.1.2 ry)
 |slots Cl d vs=>exact aE h fun k hk h=>have h:=ae h;fin h.2 (uU N.S hr hi hk h.1 ry)
 |_=>exact h.elim
theorem AB(he:fg F)(h:yC F g.C es st Q)(N:aV g st s ρ):wpAny g.m g.A (eval (.JoinedStr es pos) g.env) (ey g Q s ρ) cq s:=by
 match es,h with
 |[],h=>exact h.elim
 |[e],h=>exact wpAny_JoinedStr_one (he h N)
 |e1::e2::r,h=>
  exact wpAny_JoinedStr (uh he (fun x s' ρ' st' hQ N' U' l=>⟨by exact RW (bh _)<|RW du<|l,ey.tok N' U' hQ _ (.str _ _ l)⟩) _ [] h N (Up.refl _ _) (c9 _))
def OZ(F:bT):Prop:=∀{g t st Q s ρ},tj F g.C t st Q→aV g st s ρ→wpAny g.m g.A (exec t g.env) (kR g Q s ρ) (mT g Q s ρ) s
theorem kR.up(z:kR g Q s₁ ρ₁ f s')(U:Up s ρ s₁ ρ₁)(k:∀f st,Q f st→Q' f st):kR g Q' s ρ f s':=by
 cases z with|mk f st' ρ' hQ N U' r=>exact .mk f st' ρ' (k _ _ hQ) N (U.trans U') r
theorem mT.up(z:mT g Q s₁ ρ₁ e s')(U:Up s ρ s₁ ρ₁)(k:∀c st,Q (.exc c) st→Q' (.exc c) st):mT g Q' s ρ e s':=by
 cases z with|mk c st' ρ' hQ N U' X=>exact .mk c st' ρ' (k _ _ hQ) N (U.trans U') (X.tG fun _ _ e=>U.al e)
theorem Bz(h:wpAny g.m g.A t (kR g Q s₁ ρ₁) (mT g Q s₁ ρ₁) s₁)(U:Up s ρ s₁ ρ₁):wpAny g.m g.A t (kR g Q s ρ) (mT g Q s ρ) s₁:=bw h (fun _ _ z=>z.up U fun _ _ q=>q) fun _ _ z=>z.up U fun _ _ q=>q
theorem AA(he:fg F)(h:zd F g.C e st fun v st=>Q (.ret v) st)(N:aV g st s ρ):wpAny g.m g.A (exec (.Return e pos) g.env) (kR g Q s ρ) (mT g Q s ρ) s:=by
 induction e using Option.casesOn with
 |none=>exact wpAny_Return_none (.mk (.ret .none) _ _ h N (Up.refl _ _) .none)
 |some e=>exact wpAny_Return_some (he.go h N fun x s₁ ρ₁ v cu hQ N₁ U₁ r₁=>.mk (.ret v) _ _ hQ N₁ U₁ r₁)
theorem Rc(ht:xw F)(hx:EJ F)(h:F.tr g.C t st fun c st=>if c=true then F.ex g.C b st Q else F.ex g.C o st Q)(N:aV g st s ρ):wpAny g.m g.A (exec (.If t b o pos) g.env) (kR g Q s ρ) (mT g Q s ρ) s:=by
 refine wpAny_If (ht.go h N fun c s₁ ρ₁ cu h N₁ U₁=>?_)
 induction c using Bool.casesOn with
 |true=>rw[if_pos rfl] at h;exact Bz (hx h N₁) U₁
 |false=>rw[if_neg Bool.false_ne_true] at h;exact Bz (hx h N₁) U₁
theorem AE(ht:xw F)(h:F.tr g.C t st fun c st=>af (c=true) (Q .next st))(N:aV g st s ρ):wpAny g.m g.A (exec (.Assert t m pos) g.env) (kR g Q s ρ) (mT g Q s ρ) s:=
 wpAny_Assert_holds (ht.go h N fun c s₁ ρ₁ cu h N₁ U₁=>⟨(ae h).1,.mk .next _ _ (ae h).2 N₁ U₁ trivial⟩)
theorem uE(h1:OZ F):∀(ss:List Stmt) {st:St} {s:Shared} {ρ:Rh} {Q:Fl→St→Prop},AU F g.C ss st Q→aV g st s ρ→wpAny g.m g.A (execs ss g.env) (kR g Q s ρ) (mT g Q s ρ) s
 |[],_,_,_,_,h,N=>wpAny_execs_nil (.mk .next _ _ h N (Up.refl _ _) trivial)
 |t::r,st,s,ρ,Q,h,N=>rj (bw (h1 h N) (fun fl s₁ z=>by
   cases z with
   |mk f cu ρ₁ h N₁ U₁ r₁=>induction f using Fl.casesOn<;>induction fl using Flow.casesOn<;>first|exact r₁.elim|exact Bz (uE h1 r h N₁) U₁|exact .mk _ _ _ h N₁ U₁ r₁) fun e s₁ z=>z.up (Up.refl _ _) fun _ _ q=>q)
end
end
section
theorem any_keys:∀{bM:List (Str×Value)} {es:List (Tx×V)},bM.map (·.1)=es.map (fun e=>ar e.1)→bM.any (fun kv=>decide (kv.1=ar n))=es.any (fun e=>e.1==n)
 |[],[],_=>rfl
 |[],_::_,hk=>by cases hk
 |_::_,[],hk=>by cases hk
 |kv::bM,e::es,hk=>by
  refine az (List.cons.inj hk) fun h1 h2=>RW lR<|RW lR<|RW (any_keys h2)<|RW (show kv.1=ar e.1 from h1) ?_
  congr 1
  refine EM (e.1=n) (fun c=>?_) fun c=>?_
  ·refine RW c<|RW (kX rfl)<|RW (dT _) rfl
  ·((refine RW (gY.mpr c) ?_);rewrite [decide_eq_false fun z=>c (ia z)];rfl)
theorem yh:∀{es:List (Tx×V)},es.any (fun e=>e.1==n)=true→(dJ es n v).map (·.1)=es.map (·.1)
 |[],h=>by exact c0 h
 |e::es,h=>by
  unfold dJ;refine EM (e.1=n) (fun c=>?_) fun c=>?_
  ·refine RW (aB (by exact RW c<|dT n))<|RW cV<|RW cV<|RW c rfl
  ·have c:=gY.mpr c
   ((refine RW (au (by exact RW c ck))<|RW cV ?_);rewrite [yh (es:=es) (by rw[List.any_cons,c] at h;exact h)]);rfl
theorem qk(h:es.any (fun e=>e.1==n)=true):(dJ es n v).map (fun e=>ar e.1)=es.map (fun e=>ar e.1):=by
 have:=bH (List.map ar) (yh (v:=v) h);rwa[iI,iI] at this
theorem n0:∀{es:List (Tx×V)},es.any (fun e=>e.1==n)=false→dJ es n v=es++[(n,v)]
 |[],_=>rfl
 |e::es,h=>by
  rw[List.any_cons,Bool.or_eq_false_iff] at h;unfold dJ
  (refine RW (au (by exact RW h.1 ck))<|RW (n0 h.2) ?_);rfl
theorem aM.BH(r:aM h ρ (v::vs) (x::xs)):VR h ρ v x∧aM h ρ vs xs:=
 ⟨r.2 0 _ _ rfl rfl,Nat.succ.inj r.1,fun i a b e1 e2=>r.2 (i+1) a b e1 e2⟩
theorem jV(hv:VR h ρ v y):∀{bM:List (Str×Value)} {es:List (Tx×V)},bM.map (·.1)=es.map (fun e=>ar e.1)→(bM.map (·.1)).Nodup→aM h ρ (es.map (·.2)) (bM.map (·.2))→es.any (fun e=>e.1==n)=true→
  aM h ρ ((dJ es n v).map (·.2)) ((bM.map fun kv=>if kv.1=ar n then(kv.1,y) else kv).map (·.2))
 |_,[],_,_,_,q=>c0 q
 |[],_::_,hk,_,_,_=>by cases hk
 |kv::bM,e::es,hk,hn,r,q=>by
  refine az (List.cons.inj hk) fun h1 h2=>?_;have h1:kv.1=ar e.1:=h1;rw[List.map_cons,List.nodup_cons] at hn;refine az (aM.BH r) fun r1 r2=>?_;unfold dJ
  (with_reducible refine RW cV ?_)
  refine EM (e.1=n) (fun c=>?_) fun c=>?_
  ·(with_reducible refine RW (aB (by(with_reducible refine RW c ?_);exact dT n))<|RW (aB (by(with_reducible refine RW h1<|RW c rfl))) ?_)
   have:(bM.map fun kv=>if kv.1=ar n then(kv.1,y) else kv)=bM:=by
    conv=>rhs;rw[←List.map_id bM]
    apply vI;intro q hq;exact au fun z=>hn.1 (by(with_reducible refine RW h1<|RW c<|RS z ?_);exact rp hq)
   (with_reducible refine RW this ?_);exact aM.cons hv r2
  ·have c':=gY.mpr c
   ((with_reducible refine RW (au (by(with_reducible refine RW c' ?_);exact ck)) ?_);rewrite [if_neg fun z=>c (ia (h1.symm.trans z))])
   exact aM.cons r1 (jV hv h2 hn.2 r2 (by rw[List.any_cons,c'] at q;exact q))
theorem uq(n:Str)(y:Value)(bM:List (Str×Value)):(bM.map fun kv=>if kv.1=n then(kv.1,y) else kv).map (·.1)=bM.map (·.1):=by
 refine RW iI ?_;apply vI;intro kv _;dsimp;split<;>rfl
section
variable{prog:Program}{w:World}{K:Type}[DecidableEq K]{knd:KeyKind prog w K}{A:Around}{E:Value→Shared→Prop}{s:Shared}{d:Addr}{bM:List (K×Value)}{ep:Nat}{k:K}{key v:Value}
theorem oJ(zg:knd.is k key=true)(hm:s.heap.DictAt knd d bM ep)
  (hQ:∀h',h'.DictAt knd d (stored bM k v) (if bM.any (fun kv=>decide (kv.1=k)) then ep else ep+1)→Heap.SameBut d s.heap h'→Q () {s with heap:=h',toks:=s.toks+1}) (jp:bM.length≤sizeLine):
  wpAny (model prog w) A (dictSet d key v) Q E s:=by
 refine Xb hm fun o es ho hc hd hk hp hn=>?_;have a9:es.size=bM.length:=by refine RS hp.length ?_;simp
 have A5:(es.findIdx? fun e=>knd.is k e.key)=bM.findIdx? fun kv=>decide (kv.1=k):=by
  have:=hp.findIdx k;obtain⟨l⟩:=es;simpa using this
 unfold dictSet;refine cX (an (knd.pyHash zg ?_));unfold dictSetHashed;refine cX (an (wpAny_dictFind_of (s:={s with toks:=s.toks+1}) zg ho hd hk ?_))
 have sb:∀f,Heap.SameBut d s.heap (s.heap.update d f):=fun f=>gF ..;refine aA (Option.eq_none_or_eq_some (es.findIdx? fun e=>knd.is k e.key)) (fun hi=>?_) fun aP=>bf aP fun i hi=>?_<;>(refine RW hi ?_)<;>rw[hi] at A5
 ·have m7:=not_mem_of_findIdx_none A5.symm
  have kZ:¬(bM.any fun kv=>decide (kv.1=k))=true:=fun q=>by
   exact aq (List.any_eq_true.mp q) fun kv RB he=>m7 (eA.mpr (aK kv RB (jy he)))
  have e1:stored bM k v=bM++[(k,v)]:=by unfold stored;(refine RW (au kZ) rfl)
  refine an (wpAny_rule (wpAny_updateDictKeys (hz:=(a9▸jp)) (s:={s with toks:=s.toks+1}) ho hd (hQ _ ?_ (sb _))))
  refine RW (au kZ)<|RW e1 (RU _ _ (gZ _ ho (Obj.isFreed_of_dict (Obj.data_mapDictKeys hd _))) (hc.mapDictKeys _) (Obj.data_mapDictKeys hd _) (hk.push zg _) ?_ ?_)
  ·have:=hp.append zg (knd.hash k) v
   obtain⟨l⟩:=es;simpa using this
  ·((refine RW cz ?_);rewrite [List.nodup_append])
   exact cE hn (by simp) (fun a ha b hb e=>m7 (by have hb:=dw.mp hb;rw[e,hb] at ha;exact ha))
 ·have kZ:=any_of_findIdx_some A5.symm
  have e1:stored bM k v=bM.map fun kv=>if kv.1=k then(kv.1,v) else kv:=by unfold stored;(refine RW (aB kZ) rfl)
  refine an (wpAny_rule (an (wpAny_updateDict (s:={s with toks:=s.toks+1}) ho hd (wpAny_point (hQ _ ?_ (sb _))))))
  refine RW (aB kZ)<|RW e1 (RU _ _ (gZ _ ho (Obj.isFreed_of_dict (Obj.data_mapDict hd _))) (hc.mapDict _) (Obj.data_mapDict hd _) (hk.modify _ _) ?_ ?_)
  ·have hl:(es.toList.findIdx? fun e=>knd.is k e.key)=some i:=by refine RS hi ?_;obtain⟨l⟩:=es;simp
   have:=hp.modify hn hl v;obtain⟨l⟩:=es;simpa using this
  ·rw[keys_map_store];exact hn
theorem wK(zg:knd.is k key=true)(hm:s.heap.DictAt knd d bM ep)
  (hQ:∀h',h'.DictAt knd d (stored bM k v) (if bM.any (fun kv=>decide (kv.1=k)) then ep else ep+1)→Heap.SameBut d s.heap h'→Q () {s with heap:=h',toks:=s.toks+1}) (jp:bM.length≤sizeLine):
  wpAny (model prog w) A (setItem (.ref d) key v) Q E s:=by
 have hT:=hm.dictOf.typeIs;unfold setItem;refine cX (an (wpAny_sequenceKey hT (by decide) ?_))
 refine an (wpAny_callSpecial?_slot (name:=Str.ofString "__setitem__") hT slot_dict_setitem (wpAny_call_entry slot_dict_setitem hT entry_dict_setitem ?_ (args_dict_setitem _ _ _)));refine(?_:wpAny _ _ (Builtin.Dict.notOrdered "__setitem__" ⟨[.ref d,key,v],[]⟩>>=_) _ _ s);refine an (wpAny_notOrdered_dict hT ?_);refine(?_:wpAny _ _ (dictSet d key v>>=_) _ _ s);exact an (oJ zg hm (fun h' RA NH=>aS (aK (.none) rfl (aS (hQ h' RA NH)))) jp)
end
section
variable{w:World}{A:Around}{E:Value→Shared→Prop}{s:Shared}{ρ:Rh}{os:List O}
theorem HA(S:SR w ρ os s.heap)(hi:ρ.l[i]? =some a)(ho:os[i]? =some (.dict es ep))(hl:es.length<ax)(hv:VR s.heap ρ v y):
  wpAny (model PW w) A (setItem (.ref a) (.str (ar n) t) y) (fun _ s'=>aQ w ρ s (os.set i (.dict (dJ es n v) (EY es n ep))) ρ s') E s:=by
 refine EL (S.at hi ho) fun bM e0 hd RH a9 hk xt=>?_;have Wf:bM.length=es.length:=by have:=bH List.length hk;rwa[bW,bW] at this
 refine wK (knd:=PySem.strKind PW w) (k:=ar n) (by simp[PySem.strKind,Value.isStrOf]) hd (fun h' vu sb=>?_) (by refine RW du ?_;rw[bc] at a9;exact a9)
 have ID:aU (fun b=>b=a) s.heap h':=aU.cC sb rfl;have hf:fF (fun b=>b=a) ρ s.heap:=fun b o _ m=>by subst m;exact .inl (Rh.dh (db hi))
 have kp:=fun{vs:List V} {xs:List Value} (r:aM s.heap ρ vs xs)=>r.keep ID hf (fun _ _ e=>e) aO;have kZ:=any_keys (n:=n) hk;rw[kZ] at vu;unfold stored at vu;rw[kZ] at vu;refine aQ.put S hi sb _ ?_;unfold EY;cases q:es.any (fun e=>e.1==n) with
 |true=>
  rw[q,if_pos rfl,if_pos rfl] at vu;exact IM _ _ vu (fun z hz=>RH z hz) (RW (bW _) a9) (by(rewrite [uq];(refine RW hk<|RW (qk q) rfl))) (kp (jV hv hk hd.nodup xt q))
 |false=>
  rw[q,if_neg Bool.false_ne_true,if_neg Bool.false_ne_true] at vu;refine RW (n0 q) (IM _ _ vu (fun z hz=>?_) (RW b4<|RW Wf hl) (RW cz<|RW cz<|RW hk rfl) (RW cz<|RW cz<|kp (xt.append (aM.cons hv aM.nil))));refine aq (eG.mp hz) fun m hm aa=>?_;subst aa;refine RW (RH m hm) rfl
end
theorem isNone_none{v:V}(h:v.isNone=true):v=.none:=by induction v using V.casesOn<;>first|rfl|exact c0 h
noncomputable def mF:List (Addr×Addr):=[(63,59),(160,96),(876,800)]
theorem Dx(P):(mF.all fun x=>makesIn (bF P) x.1&&(findIn (bF P) (.ref x.1) "__init__"==some (some (.ref x.2)))&&(typeIn (bF P) (.ref x.2)==some (.type "function")))=true:=by kernel_rfl
theorem mo.le(r:mo A d)(h:k≤d):mo A k:=⟨fun q=>r.hd (by lia),by have:=r.depth;lia,by have:=r.units;lia⟩
theorem mo.made(r:mo A (d+1)):mo (A.under (.builtin "type.__call__" ⟨.ref C::rest,kw⟩)) d:=
 ⟨fun _=>r.hd (ng d),by have:=r.depth;refine(?_:A.depth+1+2*d+2<_);lia,by have:=r.units;refine(?_:A.units+1+20*d+90<_);lia⟩
section
variable{w:World}{s s':Shared}{ρ ρ₂ ρ':Rh}
theorem aQ.grown(P:aQ w ρ₂ {s with heap:=h₂} cn ρ' s')(hk:∀b o,s.heap.get? b=some o→h₂.get? b=some o)(hp:Rh.le ρ ρ₂)(hf:∀a∈ρ₂.l,a∉ρ.l→s.heap.get? a=none):aQ w ρ s cn ρ' s' where
 pre:=Rh.le_trans hp P.pre
 sr:=P.sr
 keep:=(bG hk|>.mono (fun _ _ _ m=>m.elim)).trans P.keep fun x o e m=>by
  refine aA m (fun m=>?_) fun m=>?_
  ·refine .inl (Classical.byContradiction fun q=>?_)
   have:=hf x m q;rw[e] at this;exact py this
  ·exact .inr m
 os:=P.os
 gens:=P.gens
 fresh:=fun x m q=>by
  refine EM (x∈ρ₂.l) (fun hx=>?_) fun hx=>?_
  ·exact hf x hx q
  ·have q:h₂.get? x=none:=P.fresh x m hx
   cases e:s.heap.get? x with
   |none=>rfl
   |some o=>rw[hk x o e] at q;exact py q
 alive:=fun x o e=>P.alive x o (hk x o e)
 fz:=fun a o e hz hl hc=>P.fz a o (hk a o e) (hp.2.symm▸hz) (fun m=>nomatch (hf a m hl).symm.trans e) hc
theorem yL(F:Fr A ρ h)(hk:∀b o,h.get? b=some o→h'.get? b=some o)(hn:lK ρ ρ₂ h):Fr A ρ₂ h':=by
 refine aq F fun l e x=>(aK l e (fun z hz=>?_));exact az (x z hz) fun k aa=>o9 aa fun L q f1 f2 aP=>aq aP fun o f3 f4=>⟨k,L,q,fun m=>f1 (hn L o f3 m),f2,o,hk _ _ f3,f4⟩
theorem aM.grow(r:aM h ρ vs xs)(hk:∀b o,h.get? b=some o→h'.get? b=some o)(hp:Rh.le ρ ρ₂)(hn:lK ρ ρ₂ h):aM h' ρ₂ vs xs:=
 r.keep (mu:=fun _=>False) (bG hk) bQ (r6 hp) hn
end
section
variable{w:World}{F:bT}
theorem FM{h:Heap}{ρ:Rh}{os:List O}(S:SR w ρ os h){Cl:Addr}{x:O}(hx:x=.inst Cl os.length∨x=.slots Cl os.length [none,none,none]):
  SR w ((ρ.add h.objs.size).add (h.objs.size+1)) (os++[.attrs [],x]) ((h.push emptyDict).push (instObj Cl h.objs.size))∧((ρ.add h.objs.size).add (h.objs.size+1)).l[os.length+1]? =some (h.objs.size+1):=by
 have hk:∀b o,h.get? b=some o→(h.push emptyDict).get? b=some o:=fun b o e=>gp _ e;have ml:∀b o,(h.push emptyDict).get? b=some o→((h.push emptyDict).push (instObj Cl h.objs.size)).get? b=some o:=fun b o e=>gp _ e;have e1:(h.push emptyDict).get? h.objs.size=some emptyDict:=dm _ rfl;have S1:SR w (ρ.add h.objs.size) (os++[.attrs []]) (h.push emptyDict):=S.added hk (bC _) S.aL.big (jN [] 0 e1 (c9 _) (.nil));have jp:(h.push emptyDict).objs.size=h.objs.size+1:=mW ..;have e2:((h.push emptyDict).push (instObj Cl h.objs.size)).get? (h.objs.size+1)=some (instObj Cl h.objs.size):=by exact RS jp<|dm _ rfl
 have hd:(ρ.add h.objs.size).l[os.length]? =some h.objs.size:=by
  refine(?_:(ρ.l++[h.objs.size])[os.length]? =_)
  (refine RW S.len.symm<|RW (rA (bI _)) ?_);simp
 have hd2:((ρ.add h.objs.size).add (h.objs.size+1)).l[os.length]? =some h.objs.size:=cg (Rh.hV _ _) hd;rw[show os++[O.attrs [],x]=os++[O.attrs []]++[x] from(List.append_assoc os [O.attrs []] [x]).symm];refine⟨S1.added ml (by exact RS jp<|bC _) (by exact RS jp S1.aL.big) ?_,?_⟩
 ·rcases hx with rfl|rfl
  ·exact pK h.objs.size #[] hd2 e2
  ·refine AK h.objs.size #[] hd2 e2 (c9 _) (fun k NM=>?_)
   have:(([none,none,none]:List (Option V))[k]?).join=none:=by
    match k,NM with
    |0,_=>rfl
    |1,_=>rfl
    |2,_=>rfl
   exact RW this rfl
 ·refine(?_:(ρ.l++[h.objs.size]++[h.objs.size+1])[os.length+1]? =_)
  (refine RW S.len.symm<|RW (rA (by simp)) ?_);simp
theorem yF(hc:cJ F){A A':Around}{d:Nat}{Cl f:Addr}{x:O}{args:List V}{kws:List (Str×V)}{os:List O}{K:Rs→List O→Prop}{s:Shared}{ρ:Rh}{xs:List Value}{ks:List (Str×Value)}{h₁:Heap}{t:Nat}(hx:x=.inst Cl os.length∨x=.slots Cl os.length [none,none,none])(hf:gc (.ref f)=true)
  (h:F.call d (.con (.ref f)) (.ref (os.length+1)::args) kws (os++[.attrs [],x]) (initK (os.length+1) K)) (hR:mo A' d) (AT:A'.frames=A.frames) (S:SR w ρ os s.heap) (hF:Fr A ρ s.heap) (ra:aM s.heap ρ args xs) (rk:xy s.heap ρ kws ks)
  (k:∀b o,s.heap.get? b=some o→h₁.get? b=some o) {R:Result→Shared→Prop} (RI:∀z s',eE w ρ s K z s'→R z s'):
  codeAny (model PW w) A' (.call (.ref f) ⟨.ref (h₁.objs.size+1)::xs,ks⟩) (InitBack (h₁.objs.size+1) R) {s with heap:=(h₁.push emptyDict).push (instObj Cl h₁.objs.size),toks:=t}:=by
 have hk:∀b o,s.heap.get? b=some o→((h₁.push emptyDict).push (instObj Cl h₁.objs.size)).get? b=some o:=fun b o e=>gp _ (gp _ (k b o e));refine az (FM (S.grow k) hx) fun S2 hi=>?_;have no:∀{x},h₁.objs.size≤x→s.heap.get? x=none:=fun{x} hx=>by
  cases q:s.heap.get? x with
  |none=>rfl
  |some o=>exact absurd (fK (k x o q)) (j9.mpr hx)
 have Cd:∀a∈((ρ.add h₁.objs.size).add (h₁.objs.size+1)).l,a∉ρ.l→s.heap.get? a=none:=fun a m q=>by
  refine aA (b9.mp m) (fun m=>?_) fun m=>?_
  ·refine aA (b9.mp m) (fun m=>?_) fun m=>?_
   ·exact absurd m q
   ·exact RW (dw.mp m)<|no (bI _)
  ·exact RW (dw.mp m)<|no (Nat.le_succ _)
 have Nk:Rh.le ρ ((ρ.add h₁.objs.size).add (h₁.objs.size+1)):=Rh.le_trans (Rh.hV _ _) (Rh.hV _ _);have hn:lK ρ ((ρ.add h₁.objs.size).add (h₁.objs.size+1)) s.heap:=we Nk Cd;refine iJ (hc h hR S2 ?_ (.con _ hf) (aM.cons (.ref hi) (ra.grow hk Nk hn)) ⟨rk.1,rk.2.grow hk Nk hn⟩) fun z s' hz=>?_
 ·exact aq (yL hF hk hn) fun l e z=>(aK l (AT.trans e) z)
 ·rcases z with e|(_|_|_|y)
  ·refine AL hz fun c cn ρ' hK _=>?_;exact hK.elim
  ·exact hz.elim
  ·exact hz.elim
  ·exact hz.elim
  ·refine mU hz fun v cn ρ' hK P' rv=>az (ae hK) fun hv hK=>?_
   cases isNone_none hv;apply rv.lV;have PG:=aQ.grown (s:={s with toks:=t}) P' hk Nk Cd
   exact⟨rfl,RI _ _ (AJ _ cn ρ' hK ⟨PG.pre,PG.sr,PG.keep,PG.os,PG.gens,PG.fresh,PG.alive,PG.fz⟩ (.ref (cg P'.pre hi)))⟩
theorem sz(hc:cJ F){A:Around}{d:Nat}{Cl:Addr}{x:O}{args:List V}{kws:List (Str×V)}{os:List O}{K:Rs→List O→Prop}{s:Shared}{ρ:Rh}{xs:List Value}{ks:List (Str×Value)}(hx:x=.inst Cl os.length∨x=.slots Cl os.length [none,none,none])
  (ht:∀f,cR Cl (tx "__init__")=some f→(Cl,f)∈mF) (h:tI F d (os.length+1) Cl args kws (os++[.attrs [],x]) K) (hR:mo A d) (S:SR w ρ os s.heap) (hF:Fr A ρ s.heap) (ra:aM s.heap ρ args xs) (rk:xy s.heap ρ kws ks):
  codeAny (model PW w) A (.call (.ref Cl) ⟨xs,ks⟩) (eE w ρ s K) s:=by
 induction d using Nat.casesAuxOn with
 |zero=>exact h.elim
 |succ d=>
 refine aE h fun f hf h=>?_;have T:=eH.mp (Dx w.params) _ (ht f hf);rw[Bool.and_eq_true,Bool.and_eq_true] at T;obtain⟨hh,g,dr,t,TV⟩:=s;exact make_core (makes_of S.aL.X T.1.1) (looks_findIn S.aL.X (cO.mp T.1.2)) (fun self=>bind_fn S.aL.X self (cO.mp T.2)) (.inl rfl) (yF hc hx (un hf) h hR.made rfl S hF ra rk (fun _ _ e=>e) fun _ _ z=>z)
end
end
section
theorem OF(P):readsIn (bF P) 741 (.type "type")=true∧findCls (bF P) (.ref 741) (.type "type") "__new__"=some (.get (.builtin "staticmethod.__get__") (.ref 238) .none (.ref 741))∧recIn (bF P) 238 "staticmethod"=some [.ref 234]∧
  specialIn (bF P) (.ref 741) "__call__"=some (some (.builtin "type.__call__"))∧instIn (bF P) (.ref 741) (.type "type")=some true∧mroIn (bF P) 741 (.ref 741)=some true∧mroIn (bF P) 741 (.type "object")=some true∧
  findIn (bF P) (.ref 741) "__init__"=some (some (.ref 511))∧typeIn (bF P) (.ref 511)=some (.type "function"):=(W2 (by kernel_rfl) (by kernel_rfl) (by kernel_rfl) (by kernel_rfl) (by kernel_rfl) (by kernel_rfl) (by kernel_rfl) (by kernel_rfl) (by kernel_rfl))
theorem Qy(P):findCls (bF P) (.type "object") (.type "type") "__new__"=some (.val (.builtin "object.__new__")):=by kernel_rfl
theorem Bu(P):(bF P).lookup 741=some (Fb P)∧(bF P).lookup 264=some (Ov P)∧(bF P).lookup 237=some (Ow P)∧(bF P).lookup 494=some (Ou P)∧(bF P).lookup 234=some (JV P):=(Nv (by kernel_rfl) (by kernel_rfl) (by kernel_rfl) (by kernel_rfl) (by kernel_rfl))
def dN:FD:=(bg 20 1).getD ⟨{posonlyargs:=[],args:=[],vararg:=none,kwonlyargs:=[],kw_defaults:=[],kwarg:=none,defaults:=[]},[],{kind:=.module,names:=[],isGenerator:=false,isCoroutine:=false,more:=[]}⟩
theorem TB:∃p1 p2 p3 p4 p5 p6 p7 p8 p9 Ng Jt EC NC b,dN.body=[.If (.BoolOp .And [.Compare (.Name "cls" p1) [.IsNot] [.Name "BytesIO" p2] p3,.Compare (.Name "cls" p4) [.IsNot] [.Name "StringIO" p5] p6] p7) b [] p8,
  .Return (some (.Call (.Attribute (.Name "object" p9) "__new__" Ng) [.Name "cls" Jt] [] EC)) NC]∧(Ng.endLine==EC.line)=true:=⟨_,_,_,_,_,_,_,_,_,_,_,_,_,_,rfl,rfl⟩
theorem ub:dN.scope.kind=.function∧dN.scope.isGenerator=false∧dN.scope.isCoroutine=false∧(dN.scope.names.all fun p=>p.2 != .free&&!(p.1==("__debug__":Str)))=true∧
  dN.scope.names.lookup (Str.ofString "cls")=some .local∧dN.scope.names.lookup (Str.ofString "args")=some .local∧dN.scope.names.lookup (Str.ofString "kwargs")=some .local:=(W3 rfl rfl rfl (by kernel_rfl) (by kernel_rfl) (by kernel_rfl) (by kernel_rfl))
section
variable{w:World}{h:Heap}
theorem Dt{R:Result→Shared→Prop}{g:Array GenState}{d:Drawn}{os:OsState}(X:(bF w.params).In h)
  (hq:R (.ok (.ret (.ref (h.objs.size+1)))) ⟨(h.push emptyDict).push (instObj 741 h.objs.size),g,d,t,os⟩):
  codeAny (model PW w) A (.call (.builtin "object.__new__") ⟨[.ref 741],[]⟩) R ⟨h,g,d,t,os⟩:=by
 refine codeAny_call_builtin_code (pN _ PySem.F.objNew.quiet) (Looks.here (Looks.of_peek (r:=()) X (by kernel_rfl)) ?_)
 rw[←Heap.size_push h emptyDict] at hq;exact lT PySem.F.objNew.entry (Lf X hq fun Γ p=>by kernel_rfl)
end
end
section
theorem SW:∃a v k,dN.params={posonlyargs:=[a],args:=[],vararg:=some v,kwonlyargs:=[],kw_defaults:=[],kwarg:=some k,defaults:=[]}∧a.arg=Str.ofString "cls"∧v.arg=Str.ofString "args"∧k.arg=Str.ofString "kwargs":=(JA _ _ _ rfl rfl rfl rfl)
section
variable{w:World}{A:Around}{E:Value→Shared→Prop}{s:Shared}
theorem Ig(hp:fd.params=dN.params)(hd:fd.defaults=.none)(hl:xs.length≤ax)
  (h:∀T D h',(∀b o,s.heap.get? b=some o→h'.get? b=some o)→Q [(Str.ofString "cls",x),(Str.ofString "args",T),(Str.ofString "kwargs",D)] {s with heap:=h'}):wpAny M A (bindArgs fd ⟨x::xs,[]⟩) Q E s:=by
 refine vF SW fun a v k e e1 e2 e3=>mi (ds:=[]) (its:=none) (hp.trans e) rfl rfl (fun _ h=>nomatch h) .nil (fun s' _=>?_) (.inl rfl) (c9 _) (fun n hn=>?_) ⟨by exact RW du<|hl,fun d h' hk=>?_⟩
 ·exact RW hd<|aS (M:=M) (a:=(none:Option (Array Value))) ⟨rfl,rfl⟩
 ·have hn:n∈[a.arg]:=hn
  refine RW (dw.mp hn) ?_;refine(?_:(List.lookup a.arg [(a.arg,x)]).isSome=true);exact RW gt<|RW (dT _) rfl
 ·have f1:(List.filterMap (fun n=>Option.map (fun x=>(n,x)) (List.lookup n [(a.arg,x)])) [a.arg])=[(a.arg,x)]:=by
   rw[List.filterMap_cons_some (by exact RW List.lookup_cons<|RW (beq_self_eq_true _) rfl)];rfl
  refine(?_:Q (List.filterMap (fun n=>Option.map (fun x=>(n,x)) (List.lookup n [(a.arg,x)])) [a.arg]++_++_) _);exact RW f1<|RW e1<|RW e2<|RW e3<|h _ _ _ hk
theorem Cw(r:VR h ρ (.con v) y):y=v:=by apply r.rI;intro _;rfl
theorem l6:typeOf (.type "object")=pure (.type "type"):=by rfl
theorem uT:Manifest.isStub "object"=false:=by decide+kernel
theorem tY:(findIn [] (.type "type") "__getattribute__")=some (some (.builtin "type.__getattribute__")):=by decide+kernel
theorem oE(X:(bF w.params).In s.heap)(expr)(h:Q (.builtin "object.__new__") {s with toks:=s.toks+1}):wpAny (model PW w) A (getAttr (.type "object") "__new__" expr) Q E s:=by
 have L0:Looks (model PW w) s.heap (typeOf (.type "object")) (.type "type"):=lS l6;have LO:Looks (model PW w) s.heap (opaqueClassAbove (.type "object")) none:=lS (by unfold opaqueClassAbove;dsimp only;exact RW uT rfl)
 have hg:findIn (bF w.params) (.type "type") "__getattribute__"=some (some (.builtin "type.__getattribute__")):=tY;refine cls_open X LO L0 hg (looks_hook X (r:=none) (by rfl)) (by refine(?_:subIn _ _ _=_);rfl) (Qy w.params) ?_
 exact aS<|handed_on (by decide+kernel) h
theorem u8(X:(bF w.params).In s.heap)(h:Q (.builtin "object.__new__",[]) {s with toks:=s.toks+1}):wpAny (model PW w) A (getMethod (.type "object") "__new__" pl) Q E s:=by
 have L0:Looks (model PW w) s.heap (typeOf (.type "object")) (.type "type"):=lS l6;have hg:findIn (bF w.params) (.type "type") "__getattribute__"=some (some (.builtin "type.__getattribute__")):=tY;unfold getMethod specialOf;refine an (an (L0.here ((looks_findIn X hg).here ?_)));dsimp only;exact RW (aB canon_tga)<|an (bw (oE (Q:=fun v=>Q (v,[])) X false h) (fun _ _ z=>aS z) fun _ _ z=>z)
theorem K2{C:Cx}{env:Env}{st:St}{ρ:Rh}(cx:zo C env)(S:SR w ρ st.os s.heap)(R:ER ρ st.vs env s.heap)(hC:C.names=dN.scope.names)(Tp:st.vs.lookup (Str.ofString "cls")=some (.con (.ref 741))):
  wpAny (model PW w) A (execs dN.body env) (fun f s'=>f=.ret (.ref (s.heap.objs.size+1))∧∃t,s'={s with heap:=(s.heap.push emptyDict).push (instObj 741 s.heap.objs.size),toks:=t}) E s:=by
 obtain⟨p1,p2,p3,p4,p5,p6,p7,p8,p9,Ng,Jt,EC,NC,b,e,hl⟩:=TB;refine RW e ?_;have n1:cS C (Str.ofString "cls") st=some (.con (.ref 741)):=by
  unfold cS;exact RW hC<|RW ub.2.2.2.2.1 Tp
 have g1:cS C (Str.ofString "BytesIO") st=some (.con (.ref 494)):=by
  unfold cS;refine RW hC ?_;kernel_rfl
 have g2:cS C (Str.ofString "StringIO") st=some (.con (.ref 741)):=by
  unfold cS;refine RW hC ?_;kernel_rfl
 have g3:cS C (Str.ofString "object") st=some (.con (.type "object")):=by
  unfold cS;refine RW hC ?_;kernel_rfl
 have nm:∀{x:Str} {v:Value} {pos:Pos} {t:Nat} {Q:Value→Shared→Prop} {E':Value→Shared→Prop},cS C x st=some (.con v)→Q v {s with toks:=t}→wpAny (model PW w) A (eval (.Name x pos) env) Q E' {s with toks:=t}:=by
  intro x v pos t Q E' hx hq;exact hY (s:={s with toks:=t}) cx S R hx fun y r=>RW (Cw r) hq
 refine Nx (Bu w.params) fun k1 _ _ k4 _=>?_;have X:=S.aL.X;refine rj (wpAny_If ?_);refine wpAny_isTrue_BoolOp (wpAny_allTrue_And_cons (wpAny_isTrue_Compare1 (nm (t:=s.toks) n1 (nm (t:=s.toks) g1 ?_)) rfl));refine wpAny_isNot_ref_other (by decide) (X _ _ k1) (X _ _ k4) (by unfold Fb ED;simp) (wpAny_truthy_bool ?_)
 refine wpAny_allTrue_And_cons (wpAny_isTrue_Compare1 (nm (t:=s.toks) n1 (nm (t:=s.toks) g2 ?_)) rfl);refine wpAny_isNot_ref_self (wpAny_truthy_bool ?_);refine wpAny_execs_nil<|rj (wpAny_Return_some ?_);have fin:∀(t:Nat) (f:List Value),f=[]→wpAny (model PW w) A (callWith EC (.builtin "object.__new__") f (backTo EC (starEach [.Name (Str.ofString "cls") Jt] env)) (backToKw EC (keywordEach [] env)))
   (fun a s'=>Flow.ret a=.ret (.ref (s.heap.objs.size+1))∧∃t,s'={s with heap:=(s.heap.push emptyDict).push (instObj 741 s.heap.objs.size),toks:=t}) E {s with toks:=t}:=by
  rintro t _ rfl;refine cj (evalArgs_kw rfl ?_);refine(?_:wpAny _ _ (spliced (backTo EC (starEach [.Name (Str.ofString "cls") Jt] env))) _ _ _);refine mZ (nm n1 (rc (wpAny_evalAll_nil ?_))) (aD rfl _ _);refine⟨⟨.machine,lS rfl⟩,jw (Dt (R:=fun r s'=>match r with
   |.ok (.ret a)=>Flow.ret a=.ret (.ref (s.heap.objs.size+1))∧∃t,s'={s with heap:=(s.heap.push emptyDict).push (instObj 741 s.heap.objs.size),toks:=t}
   |.ok _=>False
   |.error e=>E e s') X ⟨rfl,t,rfl⟩)⟩
 refine wC (by rfl) hl<|nm (t:=s.toks) g3 ?_
 intro pl;unfold calleeOf
 induction pl using Bool.casesOn with
 |true=>
  exact RW (aB rfl)<|u8 X (fin _ _ rfl)
 |false=>
  exact RW (au (by decide))<|an (oE X true (aS (fin _ _ rfl)))
theorem H6{d:Nat}{os:List O}{ρ:Rh}{xs:List Value}{R:Result→Shared→Prop}(hR:mo A (d+1))(S:SR w ρ os s.heap)(hF:Fr A ρ s.heap)(hl:xs.length≤ax)
  (h:∀(h₁:Heap) (t:Nat),(∀b o,s.heap.get? b=some o→h₁.get? b=some o)→R (.ok (.ret (.ref (h₁.objs.size+1)))) {s with heap:=(h₁.push emptyDict).push (instObj 741 h₁.objs.size),toks:=t}):
  codeAny (model PW w) A (.call (.ref 234) ⟨.ref 741::xs,[]⟩) R s:=by
 refine Nx (Bu w.params) fun _ _ _ _ k5=>?_;have jq:=S.aL.X _ _ k5;refine Xe ub fun q1 q2 q3 q4 q5 q6 q7=>?_;have lW:sa w.params (.ref 233) (Str.ofString "IOBase.__new__")=true:=by kernel_rfl
 have Ju:(JV w.params).data=.func (lY (some dN) (Str.ofString "__new__") (Str.ofString "IOBase.__new__") .none (.str (Str.ofString "io") 767) (.ref 233)):=rfl
 generalize vD:lY (some dN) (Str.ofString "__new__") (Str.ofString "IOBase.__new__") .none (.str (Str.ofString "io") 767) (.ref 233)=fM at Ju
 have e1:fM.scope=dN.scope:=RS vD rfl;have e2:fM.params=dN.params:=RS vD rfl;have e3:fM.body=.stmts dN.body:=RS vD rfl;have e4:fM.defaults=.none:=RS vD rfl;have e5:fM.globals=3:=RS vD rfl;have e6:fM.builtins=0:=RS vD rfl;have e7:fM.closure=[]:=RS vD rfl;have e8:fM.code=.ref 233:=RS vD rfl;have e9:fM.qualname=Str.ofString "IOBase.__new__":=RS vD rfl;refine codeAny_call_function (o:=JV w.params) (fd:=fM) (by have:=hR.depth;lia) jq Ju (RW e1 q3) (RW e1 q2) e3 (RW e8<|RW e9<|oh S.aL lW) ?_
 refine Ig e2 e4 hl fun T D h' o8=>RW e7<|sq (RW e1 q1) (fun x hx=>?_) fun env he s₂ xF=>?_
 ·refine RW e1 ?_
  simp only[List.mem_cons,List.not_mem_nil,or_false] at hx;rcases hx with rfl|rfl|rfl
  ·exact .inl q5
  ·exact .inl q6
  ·exact .inl q7
 ·have Xt:∀b o,s.heap.get? b=some o→h'.get? b=some o:=o8
  have H:wz dN:=lr (by kernel_rfl)
  have P:=yk (s₁:={s with heap:=h'}) (d:=d) (fd:=dN) (fM:=fM) (a:=234) (bs:=[(Str.ofString "cls",.con (.ref 741))]) (os:=os) hR (S.grow o8) (yL hF o8 aO) H e1 e5 e6 (b:=[(Str.ofString "cls",.ref 741),(Str.ofString "args",T),(Str.ofString "kwargs",D)]) (fun n v e=>by
    refine EM (n=Str.ofString "cls") (fun c=>?_) fun c=>?_
    ·subst c
     rw[List.lookup_cons,beq_self_eq_true] at e;cases a7 e;exact aK (.ref 741) (by(refine RW gt<|RW (dT _) rfl)) (.con _ rfl)
    ·rw[List.lookup_cons,beq_eq_false_iff_ne.mpr c] at e;exact aJ e) (by refine(?_:([Str.ofString "cls",Str.ofString "args",Str.ofString "kwargs"]:List Str).Nodup);decide+kernel) (fun c q=>by
    have:l5 dN.scope.names=none:=by kernel_rfl
    rw[this] at q;exact aJ q) he xF
  refine az xF fun x aa=>aq aa fun oF eF cF=>⟨(S.grow o8).aL.lim.keeps x.toInCall.keep,codeAny_func ?_⟩;refine vG x.toInCall.same fun h₂ tk e₂=>bw (K2 P.ok.cx P.S P.R rfl (by(refine RW gt<|RW (dT _) rfl)) (E:=fun _ _=>False)) (fun fl s' hz=>?_) fun _ _ z=>z.elim
  refine az hz fun aa aP=>bf aP fun t cN=>?_;clear hz;subst aa;subst cN;have:=h s₂.heap t fun b o e=>x.toInCall.keep b o (o8 b o e);rw[e₂] at this ⊢;exact this
theorem Lm(X:(bF w.params).In s.heap)(h:∀t,Q (.ref 234) {s with toks:=t}):wpAny (model PW w) A (getAttr (.ref 741) "__new__" expr) Q E s:=by
 refine kT (OF w.params) fun k1 k2 k3 _=>cls_bind X k1 k2 (jw ?_);exact sm_get (s:={s with toks:=s.toks+1}) X k3 (handed_on rfl (h _))
theorem GU{rest:List Value}{R:Result→Shared→Prop}{h:Heap}{g:Array GenState}{d:Drawn}{t:Nat}{os:OsState}{D:Nat}{R4:List O}{ρ:Rh}(hR:mo A (D+1+1))(S:SR w ρ R4 h)(hF:Fr A ρ h)(hl:rest.length≤ax)
  (hq:∀(h₁:Heap) (t:Nat),(∀b o,h.get? b=some o→h₁.get? b=some o)→codeAny (model PW w) (A.under (.builtin "type.__call__" ⟨.ref 741::rest,[]⟩)) (.call (.ref 511) ⟨.ref (h₁.objs.size+1)::rest,[]⟩) (InitBack (h₁.objs.size+1) R) ⟨(h₁.push emptyDict).push (instObj 741 h₁.objs.size),g,d,t,os⟩):
  codeAny (model PW w) A (.call (.ref 741) ⟨rest,[]⟩) R ⟨h,g,d,t,os⟩:=by
 have X:=S.aL.X;refine Xd (OF w.params) fun _ _ _ c1 c2 c3 c4 c5 c6=>az (Bu w.params) fun k1 _=>?_;have hC:h.get? 741=some _:=X _ _ k1;have call:Looks (model PW w) h (specialOf (.ref 741) "__call__") (some (.builtin "type.__call__")):=looks_specialIn X c1;have typ:Looks (model PW w) h (isInstance (.ref 741) (.type "type")) true:=looks_instIn X c2;have made:Looks (model PW w) h (Bind.madeBy (.ref 741)) none:=.of_peek X (by kernel_rfl)
 unfold Fb ED at hC;refine nf ?_;refine(?_:wpAny _ _ (callAny (.ref 741) _) _ _ _);refine nd_load hC ?_;refine(?_:wpAny _ _ (callAny.viaDunder (.ref 741) _) _ _ _);unfold callAny.viaDunder;refine an (call.at ?_);dsimp only;refine RW (tc_bind _)<|an (aS (an (aS ?_)));refine aS (a:=Fin.again (.call (.builtin "type.__call__") ⟨.ref 741::rest,[]⟩)) (And.intro rfl ?_);refine codeAny_call_builtin_at (pN _ (by decide+kernel)) entry_typeCall (check_slot tc_kind tc_split typ (tc_args _ _ _) ?_)
 unfold Builtin.«type.__call__»;have hm:Looks (model PW w) h (mroOf (.ref 741)) [.ref 741,.ref 264,.ref 237,.type "object"]:=((Looks.ld (part:=none) hC).andThen .now).andThen .now
 repeat(first|(with_reducible refine Lm X fun _=>?_)|(with_reducible refine jw ?_)|lk)
 refine H6 (s:=⟨h,g,d,_,os⟩) (d:=D) (os:=R4) hR.made S hF hl fun h₁ t' k=>?_;have hk:∀b o,h.get? b=some o→((h₁.push emptyDict).push (instObj 741 h₁.objs.size)).get? b=some o:=fun b o e=>gp _ (gp _ (k b o e));have hx:((h₁.push emptyDict).push (instObj 741 h₁.objs.size)).get? (h₁.objs.size+1)=some (instObj 741 h₁.objs.size):=by heap_get
 have t1:Looks (model PW w) ((h₁.push emptyDict).push (instObj 741 h₁.objs.size)) (typeOf (.ref (h₁.objs.size+1))) (.ref 741):=(Looks.ld hx).andThen .now;have s1:Looks (model PW w) ((h₁.push emptyDict).push (instObj 741 h₁.objs.size)) (isSubtype (.ref 741) (.ref 741)) true:=(looks_mroIn X c3).keeps hk;have i1:=(looks_findIn (M:=model PW w) X c5).keeps hk;have b1:=(bind_fn (M:=model PW w) X (.ref (h₁.objs.size+1)) c6).keeps hk;dsimp only;unfold isInstance callSpecial? specialOf
 repeat(first|with_reducible refine jw ?_|lk)
 refine iJ (hq h₁ _ k) fun r s' z=>?_;rcases r with e|(v|_|_|_)<;>first|exact z|exact z.elim|skip
 (have aF:=z;clear z;refine az aF fun aa z=>?_;clear aF;subst aa)
 exact aS (aS z)
theorem wV{F:bT}(hc:cJ F){d:Nat}{args:List V}{os:List O}{K:Rs→List O→Prop}{s:Shared}{ρ:Rh}{xs:List Value}{ks:List (Str×Value)}(h:tI F d (os.length+1) 741 args [] (os++[.attrs [],.inst 741 os.length]) K)(Wa:args.length≤ax)(hd2:2≤d)
  (hR:mo A d) (S:SR w ρ os s.heap) (hF:Fr A ρ s.heap) (ra:aM s.heap ρ args xs) (rk:xy s.heap ρ [] ks):codeAny (model PW w) A (.call (.ref 741) ⟨xs,ks⟩) (eE w ρ s K) s:=by
 obtain⟨D,rfl⟩:∃D,d=D+1+1:=⟨d-2,by lia⟩
 have h:am (cR 741 (tx "__init__")) fun f=>F.call (D+1) (.con (.ref f)) (.ref (os.length+1)::args) [] (os++[.attrs [],.inst 741 os.length]) (initK (os.length+1) K):=h;refine aE h fun f hf h=>?_;cases a7 (hf.symm.trans (show cR 741 (tx "__init__")=some 511 by decide+kernel))
 induction ks using List.casesOn with
 |cons _ _=>cases rk.1
 |nil=>
  obtain⟨hh,g,dr,t,TV⟩:=s;exact GU (R4:=os) hR S hF (by rw[←ra.1];exact Wa) fun h₁ t' k=>yF (s:=⟨hh,g,dr,t,TV⟩) hc (.inl rfl) rfl h hR.made rfl S hF ra rk k fun _ _ z=>z
end
end
section
section
variable{h:Heap}{ρ:Rh}{args:List V}{v:V}{xs:List Value}{x:Value}
theorem eB{k:V→List V→Prop}{P:List Value→Prop}(q:d8 args k)(r:aM h ρ args xs)(f:∀v vs y ys,k v vs→VR h ρ v y→aM h ρ vs ys→P (y::ys)):P xs:=by
 induction args using List.casesOn with
 |nil=>exact q.elim
 |cons v vs=>apply r.pX;intro y ys a b;exact f v vs y ys q a b
theorem gG{P:List Value→Prop}(q:gy args k)(r:aM h ρ args xs)(f:k→P []):P xs:=by
 induction args using List.casesOn with
 |nil=>apply r.vN;exact f q
 |cons v vs=>exact q.elim
theorem kj{k:Tx→Prop}{P:Value→Prop}(q:ef v k)(r:VR h ρ v x)(f:∀p t,k p→p.length≤ax→P (.str (ar p) t)):P x:=by
 induction v using V.casesOn with
 |str p=>apply r.dS;intro t l;exact f p t q l
 |_=>exact q.elim
theorem jF{k:Nat→Prop}{P:Value→Prop}(q:jv v k)(r:VR h ρ v x)(f:∀i a,k i→ρ.l[i]? =some a→P (.ref a)):P x:=by
 induction v using V.casesOn with
 |ref i=>apply r.gX;intro a e;exact f i a q e
 |_=>exact q.elim
theorem tH{k:Int→Prop}{P:Value→Prop}(q:am v.int? k)(r:VR h ρ v x)(f:∀i t,k i→P (.int i t)):P x:=by
 induction v using V.casesOn with
 |int i=>apply r.gx;intro t;exact f i t q
 |_=>exact q.elim
theorem JR{k:Nat→Prop}{P:Tx→Prop}(q:A2 p k)(f:∀c,k c→P [c]):P p:=by
 match p,q with
 |[c],q=>exact f c q
theorem dF{os:List O}{l:Nat}{vs:List V}(e:listAt os l=some vs):os[l]? =some (.list vs):=by
 unfold listAt at e;cases q:os[l]? with
 |none=>rw[q] at e;exact aJ e
 |some o=>rw[q] at e;revert e;induction o using O.casesOn<;>first|exact fun e=>absurd e.symm (vJ _)|exact fun e=>bH some (by cases a7 e;rfl)
theorem i8{os:List O}{l:Nat}{d:List (Tx×V)×Option Nat}(e:dictAt os l=some d):os[l]? =some (.dict d.1 d.2):=by
 unfold dictAt at e;cases q:os[l]? with
 |none=>rw[q] at e;exact aJ e
 |some o=>rw[q] at e;revert e;induction o using O.casesOn<;>first|exact fun e=>absurd e.symm (vJ _)|exact fun e=>bH some (by cases a7 e;rfl)
theorem Ge{os:List O}{l:Nat}{vs:List Tx}(e:setAt os l=some vs):os[l]? =some (.set vs):=by
 unfold setAt at e;cases q:os[l]? with
 |none=>rw[q] at e;exact aJ e
 |some o=>rw[q] at e;revert e;induction o using O.casesOn<;>first|exact fun e=>absurd e.symm (vJ _)|exact fun e=>bH some (by cases a7 e;rfl)
end
inductive bz(w:World)(ρ:Rh)(s:Shared)(K:V→List O→Prop)(x:Value)(s':Shared):Prop
 |mk (v cn ρ') (hK:K v cn) (P:aQ w ρ s cn ρ' s') (r:VR s'.heap ρ' v x):bz w ρ s K x s'
def b6(fv:Value)(f:cr):Prop:=∀{w A E s ρ os args xs K},f args os K→SR w ρ os s.heap→aM s.heap ρ args xs→wpAny (model PW w) A (call fv xs) (bz w ρ s K) E s
section
variable{w:World}{s:Shared}{ρ:Rh}{os:List O}{K:V→List O→Prop}
theorem bz.tok(S:SR w ρ os s.heap)(hK:K v os)(t)(r:VR s.heap ρ v x):bz w ρ s K x {s with toks:=t}:=.mk v os ρ hK (aQ.tok S t) r
theorem bz.grow(S:SR w ρ os s.heap)(hk:∀b o,s.heap.get? b=some o→h'.get? b=some o)(hK:K v os)(t)(r:VR h' ρ v x):bz w ρ s K x {s with heap:=h',toks:=t}:=.mk v os ρ hK (aQ.grow S hk t) r
theorem bz.new(S:SR w ρ os s.heap)(hk:∀b o,s.heap.get? b=some o→h'.get? b=some o)(hK:K (.ref os.length) (os++[x]))(t)(r:OR w h' (ρ.add s.heap.objs.size) x s.heap.objs.size):bz w ρ s K (.ref s.heap.objs.size) {s with heap:=h',toks:=t}:=
 .mk _ _ _ hK (aQ.added S hk (bC _) S.aL.big t r) (.ref (kC S _))
theorem mG(S:SR w ρ os s.heap)(hi:ρ.l[i]? =some a)(sb:Heap.SameBut a s.heap h')
  (g:h'.get? a=some (b0 false zs k)) (r:aM s.heap ρ us zs) (hl:zs.length≤ax) (t) (hK:K v (os.set i (.list us))) (rx:VR s.heap ρ v x):bz w ρ s K x {s with heap:=h',toks:=t}:=by
 have ID:aU (fun b=>b=a) s.heap h':=aU.cC sb rfl;have hf:fF (fun b=>b=a) ρ s.heap:=fun b o _ m=>by subst m;exact .inl (Rh.dh (db hi))
 exact .mk _ _ _ hK (aQ.put S hi sb t (jN zs k g hl (r.keep ID hf (fun _ _ e=>e) aO))) (rx.keep ID hf (fun _ _ e=>e) aO)
end
theorem G2:b6 (.builtin "len") OD:=by
 intro w A E s ρ os args xs K h S r;apply eB h r;intro v vs y ys h rv r;apply gG h r;intro h;refine aE h fun n hn h=>?_;have BX:∀{a:Addr} {ws:List Value} {m:Nat},s.heap.get? a=some (b0 false ws m)→ws.length≤ax→n=ws.length→wpAny (model PW w) A (call (.builtin "len") [.ref a]) (bz w ρ s K) E s:=fun{a ws m} h1 h2 e=>by
  rw[bc] at h2;refine call_len_list (items:=ws.toArray) ⟨_,h1,rfl,_,rfl⟩ (by refine RW fh ?_;lia) (bz.tok S h _ ?_)
  exact RW fh<|RW e<|.int _ _
 induction v using V.casesOn with
 |str p=>
  cases a7 hn;apply rv.dS;intro t l;refine P.len_str (by refine RW (bh _) ?_;rw[bc] at l;lia) (bz.tok S h _ ?_)
  exact RW (bh _)<|.int _ _
 |seq k us=>
  cases a7 hn;apply rv.qY;intro a ws m _ h1 h2 h3
  induction k using Bool.casesOn with
  |false=>exact BX h1 h2 h3.1
  |true=>
   rw[bc] at h2;refine call_function_entry kind_len plain_len entry_len (args_len1 _) (bw (ktl_len (Q:=bz w ρ s K) (items:=ws.toArray) h1 (by refine RW fh ?_;lia) (bz.tok S h _ ?_)) (fun _ _ z=>z) fun _ _ z=>z)
   ((refine RW fh ?_);rewrite [←h3.1]);exact .int _ _
 |ref i=>
  apply rv.gX;intro a hi;refine bf (S.num hi) fun o ho=>?_;unfold OC at hn;dsimp only at hn;rw[ho] at hn
  induction o using O.casesOn with
  |list us=>
   cases a7 hn;exact ez (S.at hi ho) fun ws m h1 h2 h3=>BX h1 h2 h3.1
  |_=>exact aJ hn
 |_=>exact aJ hn
theorem wY:b6 (.builtin "isinstance") yD:=by
 intro w A E s ρ os args xs K h S r;apply eB h r;intro a as y ys h ra r;apply eB h r;intro b bs z zs h rb r;apply gG h r;intro h;apply kj h ra;intro p t h l;have h:=ae h;cases nS h.1;apply rb.rI;intro _;exact IsiPair.str_str (bz.tok S h.2 s.toks (.bool _))
theorem DJ:b6 (.builtin "iter") I8:=by
 intro w A E s ρ os args xs K h S r;apply eB h r;intro v vs y ys h rv r;apply gG h r;intro h;apply jF h rv;intro i a h hi;refine aE h fun us ho h=>ez (S.at hi (dF ho)) fun ws m h1 h2 h3=>call_function_entry (by decide+kernel) (by decide+kernel) kdk_entry_iter (kdk_args_iter _) ?_
 unfold Builtin.«iter»;refine an (m:=someArgs "iter" 1 2 _) (kU (a:=[Value.ref a]) (by first|rfl|kernel_rfl!) ?_)
 refine(?_:wpAny _ _ (pyIter (.ref a)>>=_) _ _ _);refine an (wpAny_pyIter_list (items:=ws.toArray) ⟨_,h1,rfl,_,rfl⟩ (aS (aK _ rfl ?_)));exact bz.new S (fun _ _ e=>gp _ e) h s.toks (aK a (cg (Rh.hV _ _) hi) (dm _ rfl))
theorem xk:b6 (.builtin "list.append") yY:=by
 intro w A E s ρ os args xs K h S r;apply eB h r;intro v vs y ys h rv r;apply eB h r;intro u us z zs h ru r;apply gG h r;intro h;apply jF h rv;intro i a h hi;refine aE h fun vs ho h=>ez (S.at hi (dF ho)) fun ws n h1 h2 h3=>?_;have hl:=h.1;rw[bc,h3.1] at hl;refine call_meets F.slot_list_append (aK _ h1 rfl) F.entry_list_append (F.args_list_append_2 _ _) (list_append a ws.toArray n z (RW fh<|RW du (fL hl))) ⟨h1,?_⟩;refine mG (zs:=ws++[z]) (k:=n+1) S hi (gF ..) ?_ (h3.append (aM.cons ru aM.nil)) (RW b4<|RW bc hl) s.toks h.2 .none
 (refine RW (gZ (Obj.mapSeq fun xs=>xs.push z) h1 rfl) ?_);simp[b0,Obj.mapSeq]
theorem Ar:b6 (.builtin "list.clear") CB:=by
 intro w A E s ρ os args xs K h S r;apply eB h r;intro v vs y ys h rv r;apply gG h r;intro h;apply jF h rv;intro i a h hi;refine aE h fun vs ho h=>ez (S.at hi (dF ho)) fun ws n h1 h2 h3=>call_meets F.slot_list_clear (aK _ h1 rfl) F.entry_list_clear (F.args_list_clear_1 _) (AutoSeq1.list_clear_list_0 a ws.toArray n (RW fh<|RW du h2)) ⟨h1,?_⟩;obtain⟨k,hk⟩:∃k,Obj.mapSeq (fun _=>#[]) (b0 false ws n)=b0 false [] k:=⟨_,rfl⟩;exact mG (zs:=[]) (k:=k) S hi (gF ..) (by(refine RW (gZ _ h1 rfl)<|RW hk rfl)) aM.nil (c9 _) s.toks h .none
theorem aM.init(r:aM h ρ vs ws):aM h ρ vs.dropLast ws.dropLast:=by
 ((refine RW List.dropLast_eq_take<|RW List.dropLast_eq_take ?_);rewrite [←r.1])
 exact r.cut 0 _
theorem Gq:b6 (.builtin "list.pop") Oo:=by
 intro w A E s ρ os args xs K h S r;apply eB h r;intro v vs y ys h rv r;apply gG h r;intro h;apply jF h rv;intro i a h hi;refine aE h fun vs ho h=>aE h fun x hx h=>ez (S.at hi (dF ho)) fun ws n h1 h2 h3=>?_;rw[List.getLast?_eq_getElem?] at hx;refine aq (h3.at hx) fun y hy ry=>?_;rw[h3.1] at hy;exact Copied.pop_at (its:=ws.toArray) (y:=y) h1 (by simpa using hy) (fun h' sb g=>mG (zs:=ws.dropLast) (k:=n+1) S hi sb (by refine RW g ?_;simp[b0]) h3.init (RW List.length_dropLast<|bZ (Nat.sub_le ..) h2) s.toks h ry) (RW fh<|RW du h2)
theorem Hl:b6 (.builtin "dict.get") OQ:=by
 intro w A E s ρ os args xs K h S r;apply eB h r;intro v vs y ys h rv r;apply eB h r;intro u us z zs h ru r;apply gG h r;intro h;apply jF h rv;intro i a h hi;refine aE h fun d ho h=>?_;apply kj h ru;intro x t h l;refine EL (S.at hi (i8 ho)) fun bM e0 hd _ hl hk hv=>?_;have hd:=hd.dictOf;refine call_meetsIn F.slot_dict_get hd.typeIs F.entry_dict_get (F.args_dict_get_2 _ _) (meets_dict_get (PySem.strKind PW w) a (kk x t) (ku S hi)) (aK _ hd.mapOf (bz.tok S h _ ?_));have kZ:=gm hk x;cases hf:(d.1.find? fun e=>e.1==x).map (·.2) with
 |some v=>
  exact aq (ja hk hv hf) fun y hy ry=>RW hy ry
 |none=>
  rw[Option.map_eq_none_iff,List.find?_eq_none] at hf;cases hq:valueAt bM (ar x) with
  |none=>exact .none
  |some y=>
   rw[hq] at kZ;exact aq (List.any_eq_true.mp kZ.symm) fun e he hx=>absurd hx (hf e he)
theorem wE:b6 (.builtin "dict.values") x2:=by
 intro w A E s ρ os args xs K h S r;apply eB h r;intro v vs y ys h rv r;apply gG h r;intro h;apply jF h rv;intro i a h hi;refine aE h fun d ho h=>EL (S.at hi (i8 ho)) fun bM e0 hd _ hl hk hv=>?_;have hd:=hd.dictOf;exact call_meetsIn F.slot_dict_values hd.typeIs F.entry_dict_values (F.args_dict_values_1 _) (meets_dict_values (PySem.strKind PW w) a (ku S hi)) ⟨⟨bM,hd⟩,bz.grow S (fun _ _ e=>gp _ e) h s.toks (.view hi S.aL.big (dL S) (dm _ rfl))⟩
theorem C7(k):((xs.any fun y=>ar y==k)||decide (k=ar x))=(xs++[x]).any fun y=>ar y==k:=by
 refine RW List.any_append<|RW lR<|RW List.any_nil<|RW (Bool.or_false _) ?_
 congr 1
 refine EM (k=ar x) (fun e=>?_) fun e=>?_
 ·refine RW (kX e)<|RW (cO.mpr e.symm) rfl
 ·((refine RW (pg e) ?_);rewrite [beq_eq_false_iff_ne.mpr fun z=>e z.symm];rfl)
theorem Gc{xs:List Tx}{x:Tx}:(xs.any fun y=>ar y==ar x)=xs.any (·==x):=bH xs.any (funext fun y=>mE y x)
theorem wL:b6 (.builtin "set.add") yc:=by
 intro w A E s ρ os args xs K h S r;apply eB h r;intro v vs y ys h rv r;apply eB h r;intro u us z zs h ru r;apply gG h r;intro h;apply jF h rv;intro i a h hi;refine aE h fun xs ho h=>?_;apply kj h ru;intro x t h l;have ho:=Ge ho;refine az (S.at hi ho) fun hS hl=>?_;refine call_set_add (k:=ar x) (kk x t) rfl hS (by unfold scanBound;exact(dy hl (by decide))) fun h' sb Ul=>?_
 have hx:=Gc (xs:=xs) (x:=x);cases c:xs.any (·==x) with
 |true=>
  rw[c,if_pos rfl] at h;rw[c] at hx;refine bf (fY.mp ho) fun h1 h2=>?_;refine .mk _ _ ρ h ?_ .none;have P:=aQ.put S hi sb (s.toks+1) (x:=.set xs) ⟨PyProof.Rows.SetOf_congr Ul (fun k=>?_) (by(refine RW (aB hx) rfl)),hl⟩
  ·rwa[show os.set i (.set xs)=os by exact RS h2<|List.set_getElem_self h1] at P
  ·refine EM (k=ar x) (fun e=>?_) fun e=>?_
   ·refine RW e<|RW hx<|RW (Bool.true_or _) rfl
   ·refine RW (pg e)<|RW (Bool.or_false _) rfl
 |false=>
  rw[c,if_neg Bool.false_ne_true] at h;rw[c] at hx;exact .mk _ _ _ h.2 (aQ.put S hi sb _ (x:=.set (xs++[x])) ⟨PyProof.Rows.SetOf_congr Ul (fun k=>C7 k) (by(refine RW (au (by exact RW hx ck))<|RW b4 ?_);rfl),by refine RW b4 ?_;have:=h.1;refine(?_:_+1<6);exact(Nat.succ_lt_succ h.1)⟩) .none
theorem occ_none(hc:x.contains c=false):Builtin.Str.occurrences (ar x) ⟨#[c]⟩ 0 (ar x).length ((ar x).length+1)=[]:=by
 refine bf (StrLaws.occ_chain (ar x) ⟨#[c]⟩ ((ar x).length+1)) fun f h=>?_;cases ho:Builtin.Str.occurrences (ar x) ⟨#[c]⟩ 0 (ar x).length ((ar x).length+1) with
 |nil=>rfl
 |cons i r=>
  rw[ho] at h;have hm:=(StrLaws.subAt_one (ar x) c i).mp h.2.1;have oY:c∈(ar x).cps.toList:=db hm;have:c∈x:=by simpa[ar] using oY
  rw[List.contains_iff_mem.mpr this] at hc;exact tt hc
theorem Dp(hc:x.contains c=false)(lo hi)(hh:hi≤(ar x).length):Builtin.Str.occurrences (ar x) ⟨#[c]⟩ lo hi 1=[]:=by
 rw[StrLaws.occ_eq];rewrite [(StrLaws.occ_none (ar x) ⟨#[c]⟩ hi (List.range' lo (hi+1-lo)) lo (fun i hi=>(List.mem_range'_1.mp hi).1)).mpr fun i _ q=>?_]
 ·rfl
 have hm:=(StrLaws.subAt_one (ar x) c i).mp ⟨bZ q.1 hh,q.2⟩;have oY:c∈(ar x).cps.toList:=db hm;have:c∈x:=by simpa[ar] using oY
 rw[List.contains_iff_mem.mpr this] at hc;exact tt hc
theorem DS:b6 (.builtin "str.find") Je:=by
 intro w A E s ρ os args xs K h S r;apply eB h r;intro v1 vs y ys h r1 r;apply eB h r;intro v2 vs y ys h r2 r;apply eB h r;intro v3 vs y ys h r3 r;apply eB h r;intro v4 vs y ys h r4 r;apply gG h r;intro h;apply kj h r1;intro x t h l1;revert r2;apply kt h;intro z h r2;revert r2;apply JR h;intro c h r2;apply r2.dS;intro u l2;apply tH h r3;intro a t3 h;apply tH h r4;intro b t4 h;refine az h fun aa h=>gq aa fun hc ha hb=>call_gives F.slot_str_find (iR _ _ _) F.entry_str_find (F.args_str_find_4 _ _ _ _) (m:=.int (-1)) ?_ (bz.tok S h _ (.int _ _));refine(?_:Gives (match Builtin.Str.occurrences (ar x) ⟨#[c]⟩ (max 0 (if a<0 then a+(ar x).length else a)).toNat (min (max 0 (if b<0 then b+(ar x).length else b)).toNat (ar x).length) 1 with|k::_=>retInt k|[]=>(do rule "str.find.not-found";retInt (-1))) _)
 exact RW (Dp hc _ _ (Nat.min_le_right _ _))<|.rule (.of_eq rfl)
theorem uZ:b6 (.builtin "str.replace") ue:=by
 intro w A E s ρ os args xs K h S r;apply eB h r;intro v1 vs y ys h r1 r;apply eB h r;intro v2 vs y ys h r2 r;apply eB h r;intro v3 vs y ys h r3 r;apply gG h r;intro h;apply kj h r1;intro x t h l1;revert r2;apply kt h;intro z h r2;revert r2;apply JR h;intro c h r2;apply r2.dS;intro u l2;apply kj h r3;intro y' v h l3;have he:Builtin.Str.occurrences (ar x) (ar [c]) 0 (ar x).length ((ar x).length+1)=[]:=occ_none h.1;refine call_gives F.slot_str_replace (iR _ _ _) F.entry_str_replace (F.args_str_replace_3 _ _ _) (gives_str_replace (ar x) (ar [c]) (ar y') t u v fun z=>?_) ?_
 ·rw[he] at z;exact tt z
 ·exact RW he<|bz.tok S h.2 s.toks (.str _ _ l1)
theorem x9:∀{vs:List V} {ws:List Value} {l:List Tx},aM h ρ vs ws→bL (vs.map V.text?)=some l→∃lt:List (Str×Tok),ws=strValues lt∧lt.map (·.1)=l.map ar
 |[],ws,l,r,e=>by cases a7 e;apply r.vN;exact(aK [] rfl rfl)
 |v::vs,ws,l,r,e=>by
  refine ez (ma e) fun a r' h1 h2 aa=>?_;subst aa;cases c8 h1;apply r.pX;intro x ws r1 r2;refine aq (x9 r2 h2) fun lt aa h3=>?_;subst aa;apply r1.dS;intro t _;exact aK ((ar a,t)::lt) rfl (bH (ar a::·) h3)
theorem qq:∀l:List Tx,Str.join (ar []) (l.map ar)=ar l.flatten
 |[]=>rfl
 |[a]=>by simp[Str.join]
 |a::b::l=>by
  have ih:=qq (b::l);rw[List.map_cons] at ih;refine RW cV<|RW cV ?_;refine(?_:(ar a++ar []++Str.join (ar []) (ar b::l.map ar):Str)=_);refine RW ih ?_;refine(?_:(⟨(⟨a⟩:Array Nat)++⟨[]⟩++⟨(b::l).flatten⟩⟩:Str)=⟨⟨(a::b::l).flatten⟩⟩);simp
theorem ux:b6 (.builtin "str.join") Bv:=by
 intro w A E s ρ os args xs K h S r;apply eB h r;intro v1 vs y ys h r1 r;apply eB h r;intro v2 vs y ys h r2 r;apply gG h r;intro h;apply kj h r1;intro x t h l1;refine az (ae h) fun aa h=>?_;subst aa;refine aE h fun us hu h'=>aE h' fun l hl WJ=>?_;cases ij hu;have hF:=WJ;apply r2.qY;intro a ws n _ h1 h2 h3;refine aq (x9 h3 hl) fun lt aa jL=>?_;subst aa;refine SC.join (texts:=l.map ar) ⟨_,h1,rfl,_,rfl⟩ jL ?_ fun t' k=>bz.tok S hF.2 k ?_
 ·unfold JoinOk
  refine RW (StrLaws.joinTotal _ _) ?_;have e:((l.map ar).map (·.length)).sum=l.flatten.length:=by
   exact RW List.length_flatten<|RW iI<|bH List.sum (vI fun a _=>bh a)
  have:(ar []).length=0:=rfl;refine RW e<|RW this<|RW (Nat.mul_zero _)<|RW (Nat.add_zero _)<|RW (m3 _) ?_;unfold Builtin.Str.tooLong sizeLine;have:=hF.1;rw[bc] at this;exact pg (by lia)
 ·have:Txt.join (ar []) (l.map ar)=ar l.flatten:=by
   unfold Txt.join;refine RW (StrLaws.glued_eq_join _ _)<|RW (qq _) rfl
  exact RW this<|.str _ _ hF.1
end
section
theorem ye{h:Heap}{w:World}{ρ:Rh}{os:List O}(S:SR w ρ os h){a b:Int}{t u c:Tok}(ha:0≤a∧a≤16777216)(hb:-16777216≤b∧b<16777216):VR (h.push {cls:=.type "range",data:=.fields #[.int a t,.int b u,.int 1 c]}) ρ (.mj a b) (.ref h.objs.size):=
 .mj S.aL.big (S.fresh (bC _)) (IsRange.new h a b 1 t u c) ha hb
theorem zG:b6 (.type "range") BR:=by
 intro w A E s ρ os args xs K h S r;apply eB h r;intro v vs y ys h rv r;apply tH h rv;intro a t h
 induction vs using List.casesOn with
 |nil=>
  apply r.vN;exact call_range_1 (bz.grow S (fun _ _ e=>gp _ e) h.2 _ (ye S h.1.1 h.1.2))
 |cons u us=>
  apply r.pX;intro z zs ru r;apply gG h r;intro h;apply tH h ru;intro b t' h;exact call_range_2 (bz.grow S (fun _ _ e=>gp _ e) h.2 _ (ye S h.1.1 h.1.2))
theorem nY:Builtin.Range.rangeSize a b 1=((b-a).toNat:Int):=by
 unfold Builtin.Range.rangeSize;refine RW (aB (by decide))<|EM (a<b) (fun c=>?_) fun c=>?_
 ·refine RW (aB c)<|RW (Int.ediv_one _)<|RW (Int.sub_add_cancel _ _)<|RW (Int.toNat_of_nonneg (Int.sub_nonneg_of_le (Int.le_of_lt c))) rfl
 ·exact RW (au c)<|RW (Int.toNat_of_nonpos (Int.sub_nonpos_of_le (Int.not_lt.mp c))) rfl
theorem qg(h1:0≤a)(h2:a≤16777216)(h3:-16777216≤b)(h5:b<16777216):Builtin.Range.small a b 1=true:=by
 have bd:∀x:Int,-16777216≤x→x≤16777216→Builtin.Range.rangeFitsLong x=true:=fun x p q=>pn.mpr ⟨kX (Int.le_trans (by decide) p),kX (Int.lt_of_le_of_lt q (by decide))⟩
 unfold Builtin.Range.small
 ((with_reducible refine RW nY<|RW (aB (by decide))<|RW (bd a (Int.le_trans (by decide) h1) h2)<|RW (bd b h3 (Int.le_of_lt h5))<|RW (bd 1 (by decide) (by decide))<|RW (bd _ (Int.le_trans (by decide) (pj _)) (Int.ofNat_le.mpr (Int.toNat_le.mpr (Int.le_trans (Int.sub_le_self b h1) (Int.le_of_lt h5))))) ?_);rewrite [show b+(1-1)=b from Int.add_zero b];(with_reducible refine RW (bd b h3 (Int.le_of_lt h5))<|RW (Bool.or_true _) ?_));rfl
theorem sN{w:World}{A:Around}{E:Value→Shared→Prop}{s:Shared}{ρ:Rh}{os:List O}{a b:Int}{x:Value}{K:V→List O→Prop}(hh:A.handled=none)(S:SR w ρ os s.heap)(r:VR s.heap ρ (.mj a b) x)(hK:K (.seq false (cB a b)) os):
  wpAny (model PW w) A (call (.type "list") [x]) (bz w ρ s K) E s:=by
 apply r.Om;intro d t u v h1 h2 h3 h4 h5;refine call_list_range (n:=(b-a).toNat) hh h3 (qg h4.1 h4.2 h5.1 h5.2) nY (by lia) fun h' tk ai c' hk hS ca=>bz.grow S hk hK tk ?_
 have e:ai.toList.length=(b-a).toNat:=RW Array.length_toList ca.1;refine .seq (n:=c') (ws:=ai.toList) (dL S) (by refine RW hS ?_;simp[b0]) (by refine RW e<|RW bc ?_;lia) (by(rewrite [cB];(refine RW (bW _)<|RW nj<|RW e rfl))) ?_
 intro i v x e1 e2;refine bf (ca.2 i x (by simpa using e2)) fun t aa=>?_;subst aa
 unfold cB at e1;rw[List.getElem?_map] at e1;refine aq (eG.mp e1) fun k Nn aa=>?_;subst aa;refine bf (fY.mp Nn) fun jL ml=>?_;rw[List.getElem_range] at ml;subst ml;exact RW (Int.mul_one _)<|.int _ _
theorem zu:b6 (.type "tuple") BJ:=by
 intro w A E s ρ os args xs K h S r;apply eB h r;intro v vs y ys h rv r;apply gG h r;intro h;apply jF h rv;intro i a h hi;refine aE h fun vs ho h=>ez (S.at hi (dF ho)) fun ws m h1 h2 h3=>call_tuple_list (items:=ws.toArray) ⟨_,h1,rfl,_,rfl⟩ (fun h' hk=>?_) (RW fh<|RW du h2);have ml:∀b o,s.heap.get? b=some o→(h'.push {cls:=.type "tuple",data:=.seq ws.toArray}).get? b=some o:=fun b o e=>gp _ (hk b o e);have S1:=S.grow hk;have r3:=h3.keep (bG ml) bQ (fun _ _ e=>e) aO;exact bz.grow S ml h s.toks (.seq (n:=0) (dL (s:={s with heap:=h'}) S1) (dm _ rfl) h2 r3.1 r3.2)
theorem Gd:b6 (.type "set") Oj:=by
 intro w A E s ρ os args xs K h S r;apply gG h r;intro h;refine call_set_0 fun led=>bz.new S (fun _ _ e=>gp _ e) h s.toks ⟨?_,by decide⟩
 exact PyProof.Rows.SetOf_congr ((PyProof.Rows.setObjOf_fresh (knd:=PySem.strKind PW w) led).setOf (dm _ rfl) (by unfold scanBound;exact(Nat.zero_lt_succ _))) (fun _=>rfl) rfl
theorem An:b6 (.type "collections.deque") Ct:=by
 intro w A E s ρ os args xs K h S r;apply gG h r;intro h;exact xe fun h' e hk=>bz.new S hk h s.toks e
theorem CL:b6 (.type "type") IR:=by
 intro w A E s ρ os args xs K h S r;apply eB h r;intro v vs y ys h rv r;apply gG h r;intro h
 induction v using V.casesOn with
 |int i=>apply rv.gx;intro t;exact call_type_of (typeIs_int _ _ _) (by decide) (bz.tok S h s.toks (.con _ rfl))
 |str p=>apply rv.dS;intro t l;exact call_type_of (iR _ _ _) (by decide) (bz.tok S h s.toks (.con _ rfl))
 |_=>exact h.elim
theorem Hc:b6 (.type "int") OI:=by
 intro w A E s ρ os args xs K h S r;apply eB h r;intro v vs y ys h rv r;apply gG h r;intro h;apply tH h rv;intro i t h;exact call_int_int (bz.tok S h s.toks (.int _ _))
theorem xh(x)(b):Meets (Builtin.«bool.__new__» ⟨[.type "bool",x],[]⟩) (fun _ R s=>(∀(prog:Program) (w:World) (A:Around) (Q:Bool→Shared→Prop) (E:Value→Shared→Prop),(∀t,Q b {s with toks:=t})→wpAny (model prog w) A (truthy x) Q E s)∧∀t,R (.ok (.ret (.bool b))) {s with toks:=t}):=
 Meets.of_wp fun prog w A R s hs=>by
  refine az hs fun ht hs=>?_;obtain⟨hp,g,d,tk,os⟩:=s;have f1:=F.conv_sub_bool
  repeat(any_goals(first|assumption|refine ht _ _ _ _ _ fun t=>?_|wp_step))
  all_goals first|exact(aK _ rfl (hs _))|skip
theorem Em:b6 (.type "bool") Jl:=by
 intro w A E s ρ os args xs K h S r;apply eB h r;intro v vs y ys h rv r;apply gG h r;intro h;exact aE h fun b hb h=>call_bool_1 (xh y b) ⟨fun prog w' A Q E hQ=>i4 S rv hb hQ,fun t=>⟨rfl,bz.tok S h t (.bool _)⟩⟩
def gR(mk:String→Value):List (String×cr)→Prop
 |[]=>True
 |x::r=>b6 (mk x.1) x.2∧gR mk r
theorem gR.get{mk:String→Value}{id:String}{f:cr}:∀{l:List (String×cr)},gR mk l→l.lookup id=some f→b6 (mk id) f
 |[],_,e=>aJ e
 |(n,g)::r,h,e=>by
  rw[List.lookup_cons] at e;refine EM (id=n) (fun c=>?_) fun c=>?_
  ·rw[c,beq_self_eq_true] at e
   cases a7 e;exact RW c h.1
  ·rw[beq_eq_false_iff_ne.mpr c] at e
   exact gR.get h.2 e
theorem Dh:gR .builtin yj:=⟨G2,wY,DJ,xk,Gq,Ar,Hl,wE,wL,DS,uZ,ux,trivial⟩
theorem FL:gR .type BI:=⟨zG,zu,Gd,An,Em,CL,Hc,trivial⟩
theorem uO(id:String):b6 (.builtin id) (BC id):=fun h S r=>aE h fun f hf h=>Dh.get hf h S r
theorem Ek(T:String):b6 (.type T) (Jk T):=fun h S r=>aE h fun f hf h=>FL.get hf h S r
noncomputable def pU:Nat→String
 |1=>"list"
 |2=>"dict"
 |3=>"set"
 |_=>"str"
structure qO(n:Nat)(nm:Str)(id:String):Prop where
 slot:Slot (pU n) nm id
 typ:typeOf (.builtin id)=pure (.type "method_descriptor")
theorem wS(n):PlainAttrs (pU n):=by
 unfold pU;split
 ·exact F.plainAttrs_list
 ·exact F.plainAttrs_dict
 ·exact F.plainAttrs_set
 ·exact F.plainAttrs_str
def i9:List ((Nat×Tx)×String)→Prop
 |[]=>True
 |x::r=>qO x.1.1 (ar x.1.2) x.2∧i9 r
theorem i9.get{n:Tx}{id:String}:∀{l:List ((Nat×Tx)×String)},i9 l→l.lookup (k,n)=some id→qO k (ar n) id
 |[],_,e=>aJ e
 |(p,g)::r,h,e=>by
  rw[List.lookup_cons] at e;refine EM ((k,n)=p) (fun c=>?_) fun c=>?_
  ·rw[c,beq_self_eq_true] at e
   cases c;cases a7 e;exact h.1
  ·rw[beq_eq_false_iff_ne.mpr c] at e
   exact i9.get h.2 e
theorem DE:i9 kF:=⟨⟨F.slot_list_append,F.type_list_append⟩,⟨F.slot_list_pop,F.type_list_pop⟩,⟨F.slot_list_clear,F.type_list_clear⟩,⟨F.slot_dict_get,F.type_dict_get⟩,⟨F.slot_dict_values,F.type_dict_values⟩,⟨F.slot_set_add,F.type_set_add⟩,⟨F.slot_str_find,F.type_str_find⟩,⟨F.slot_str_replace,F.type_str_replace⟩,⟨F.slot_str_join,F.type_str_join⟩,trivial⟩
theorem DF{w:World}{s:Shared}{ρ:Rh}{os:List O}{r:V}{k:Nat}{x:Value}(S:SR w ρ os s.heap)(h:dE os r=some k)(rv:VR s.heap ρ r x):s.TypeIs x (pU k)∧∀a,x=.ref a→∃o,s.heap.get? a=some o∧o.dict=none:=by
 induction r using V.casesOn with
 |str p=>cases a7 h;apply rv.dS;intro t l;exact⟨iR _ _ _,fun a e=>nomatch e⟩
 |ref i=>
  apply rv.gX;intro a hi;refine bf (S.num hi) fun o ho=>?_;unfold dE at h;dsimp only at h;rw[ho] at h;have R:=S.at hi ho;have fin:∀{o:Obj},s.heap.get? a=some o→o.cls=.type (pU k)→o.dict=none→s.TypeIs (.ref a) (pU k)∧∀b,Value.ref a=.ref b→∃o,s.heap.get? b=some o∧o.dict=none:=fun h1 h2 h3=>⟨(aK _ h1 h2),fun b e=>by cases e;exact(aK _ h1 h3)⟩
  induction o using O.casesOn with
  |list vs=>cases a7 h;refine fJ R fun ws n h1 _=>?_;exact fin h1 rfl rfl
  |dict es ep=>cases a7 h;refine fJ R fun bM e aa _=>ez aa fun o es h1 h2 _=>?_;exact fin h1 h2.1 h2.2.1
  |set xs=>cases a7 h;refine az R fun aa _=>AZ aa fun o _ _ _ h1 h2 _=>?_;exact fin h1 h2.1 h2.2.1
  |_=>exact aJ h
 |_=>exact aJ h
section
variable{prog:Program}{w:World}{A:Around}{E:Value→Shared→Prop}{s:Shared}
theorem oT:isSubtype (.type "list") (.type "module")=pure false:=by refine RW (jO _ _) ?_;kernel_rfl
theorem vq:builtinKind "list.append"=some .method:=by refine RW builtinKind_eq_fast ?_;kernel_rfl
theorem xj:∃sig,Manifest.signature? "list.append"=some sig∧∀a y,Bind.checkArgs "list.append" {sig with full:=s!"{Bind.lastOf "list"}.{Bind.lastOf "list.append"}"} ⟨[.ref a,y],[]⟩=pure ():=
 (aK _ (signature?_of (id:="list.append") (n:=['d','n','e','p','p','a']) (o:=['t','s','i','l']) (by kernel_rfl) F.owner_list) (fun _ _=>by kernel_rfl))
theorem vm(ha:s.heap.get? a=some {cls:=.type "list",data:=.seq xs n})(h:Q () s):wpAny (model prog w) A (checkBoundCall "list.append" ⟨[.ref a,y],[]⟩) Q E s:=by
 refine aq xj fun sig hs hc=>?_;have hT:s.TypeIs (.ref a) "list":=(aK _ ha rfl);unfold checkBoundCall;refine RW hs<|RW vq ?_;dsimp only;refine RW (au (by decide))<|an (wpAny_isInstance hT oT ?_)
 refine RW (au (by decide+kernel))<|an ?_
 unfold isType;refine an (wpAny_load ha ?_);refine aS ?_;dsimp only;refine an (wpAny_typeOf hT ?_);dsimp only;refine kU (hc a y) h
theorem xf(hp:s.heap.get? p=some (jD "list.append" a))(ha:s.heap.get? a=some {cls:=.type "list",data:=.seq xs n})(jp:xs.size≤sizeLine)
  (h:Q .none {s with heap:=s.heap.update a (Obj.mapSeq fun zs=>zs.push y)}):wpAny (model prog w) A (call (.ref p) [y]) Q E s:=by
 have hp:s.heap.get? p=some {cls:=.type "builtin_function_or_method",data:=.fields #[.builtin "list.append",.ref a]}:=hp;refine jw (nf ?_);refine(?_:wpAny _ _ (callAny (.ref p) _) _ _ _);refine nd_load hp<|nd_bind (aS ?_);dsimp only;refine RW (aB (by decide)) ?_
 simp only[List.getElem?_toArray,List.getElem?_cons_zero,List.getElem?_cons_succ];refine RW (aB (by decide))<|an (vm ha ?_)
 refine aS ⟨pN _ (by decide+kernel),lT F.entry_list_append ?_⟩
 exact RW (pT F.slot_list_append.plain _)<|bw (list_append a xs n y jp _ _ _ (wants Q E) _ ⟨ha,h⟩) (fun _ _ z=>z) fun _ _ z=>z
end
end
section
def Entry(a:Addr)(k:Nat)(f:bO):Prop:=∀{w A args kws os K s ρ xs ks},f args kws os K→mo A k→SR w ρ os s.heap→Fr A ρ s.heap→aM s.heap ρ args xs→xy s.heap ρ kws ks→codeAny (model PW w) A (.call (.ref a) ⟨xs,ks⟩) (eE w ρ s K) s
def bt(sm:eI):Prop:=∀{a k f},sm a=some (k,f)→Entry a k f
def OY(F:bT):Prop:=∀{w A d i os K s ρ x E},ut F d i os K→mo A d→SR w ρ os s.heap→Fr A ρ s.heap→VR s.heap ρ (.ref i) x→wpAny (model PW w) A (call (.type "list") [x]) (bz w ρ s fun v os=>K (.ok v) os) E s
theorem xy.none(r:xy h ρ [] ks):ks=[]:=List.map_eq_nil_iff.mp r.1
theorem bz.call{K:Rs→List O→Prop}(z:bz w ρ s (fun v os=>K (.ok v) os) x s'):eE w ρ s K (.ok (.ret x)) s':=by
 cases z with|mk v cn ρ' hK P r=>exact(AJ v cn ρ' hK P r)
section
variable{F:bT}{w:World}{A:Around}{d:Nat}{args:List V}{kws:List (Str×V)}{os:List O}{K:Rs→List O→Prop}{s:Shared}{ρ:Rh}{xs:List Value}{ks:List (Str×Value)}
theorem xg(hx:EJ F)(hc:cJ F)(hs:bt F.sm)(h:oj F d a args kws os K)(hR:mo A d)(S:SR w ρ os s.heap)(hF:Fr A ρ s.heap)(ra:aM s.heap ρ args xs)(rk:xy s.heap ρ kws ks):
  codeAny (model PW w) A (.call (.ref a) ⟨xs,ks⟩) (eE w ρ s K) s:=by
 unfold oj at h;cases Se:F.sm a with
 |some p=>
  rw[Se] at h;exact hs Se (ae h).2 (hR.le (ae h).1) S hF ra rk
 |none=>
  rw[Se] at h;cases vD:fnAt a with
  |some fd=>rw[vD] at h;exact DR hx vD h hR S hF ra rk
  |none=>
   rw[vD] at h;have h:Bt F d a args kws os K:=h;have tab:∀{C f},(C,f)∈mF→cR C (tx "__init__")=some f→∀g,cR C (tx "__init__")=some g→(C,g)∈mF:=fun m e g q=>by cases a7 (e.symm.trans q);exact m
   unfold Bt at h;refine EM (a=63) (fun c=>?_) fun c=>?_
   ·rw[if_pos c] at h
    subst c;exact sz hc (.inr rfl) (tab (f:=59) (by decide) (by decide+kernel)) h hR S hF ra rk
   ·rw[if_neg c] at h
    refine EM (a=160∨a=876) (fun c=>?_) fun c=>?_
    ·rw[if_pos c] at h
     rcases c with rfl|rfl
     ·exact sz hc (.inl rfl) (tab (f:=96) (by decide) (by decide+kernel)) h hR S hF ra rk
     ·exact sz hc (.inl rfl) (tab (f:=800) (by decide) (by decide+kernel)) h hR S hF ra rk
    ·rw[if_neg c] at h
     have z:=ae h;clear h;refine az z fun aa h3=>kT aa fun aP hk h1 h2=>?_;clear z;subst aP;cases mX.mp hk;exact wV hc h3 (bZ (fL h1) (by decide)) h2 hR S hF ra rk
theorem At(hx:EJ F)(hc:cJ F)(hs:bt F.sm)(hl:OY F)(hG:G.call=xT F):cJ G:=by
 intro w d f args kws os K A s ρ fv xs ks h hR S hF rf ra rk;rw[hG] at h
 induction f using V.casesOn with
 |con c=>
  apply rf.rI;intro hv
  induction c using Value.casesOn with
  |ref a=>exact xg hx hc hs h hR S hF ra rk
  |builtin id=>
   have hk:=(ae h).1
   replace h:=(ae h).2
   cases mX.mp hk;cases rk.none;exact bw (uO id (E:=fun _ _=>False) h S ra) (fun _ _ z=>z.call) fun _ _ z=>z.elim
  |type T=>
   have hk:=(ae h).1
   replace h:=(ae h).2
   cases mX.mp hk;cases rk.none;refine EM (T="list") (fun c=>?_) fun c=>?_
   ·rw[if_pos c] at h
    subst c;unfold I6 at h
    match args,h,ra with
    |[v],h,ra=>
     apply ra.pX;intro y ys rv r;apply r.vN
     induction v using V.casesOn with
     |ref i=>exact bw (hl (E:=fun _ _=>False) h hR S hF rv) (fun _ _ z=>z.call) fun _ _ z=>z.elim
     |mj a b=>exact bw (sN (E:=fun _ _=>False) (K:=fun v os=>K (.ok v) os) (hR.hd (ae h).1) S rv (ae h).2) (fun _ _ z=>z.call) fun _ _ z=>z.elim
     |_=>exact h.elim
   ·rw[if_neg c] at h
    exact bw (Ek T (E:=fun _ _=>False) h S ra) (fun _ _ z=>z.call) fun _ _ z=>z.elim
  |_=>exact h.elim
 |ref i=>
  have hk:=(ae h).1
  replace h:=(ae h).2
  cases mX.mp hk;cases rk.none;refine aE h fun ob ho h=>?_
  induction ob using O.casesOn with
  |wrap id l=>
   refine az (ae h) fun aa h=>?_;subst aa;apply rf.gX;intro p hi;apply eB h ra;intro x us z zs h rx r;apply gG h r;intro h;refine aE h fun vs xt h=>aq (S.at hi ho) fun b e1 e2=>ez (S.at e1 (dF xt)) fun ws n h1 h2 h3=>?_;have a9:=h.1;rw[bc,h3.1] at a9;refine xf e2 h1 (RW fh<|RW du (fL a9)) (bz.call (mG (K:=fun v os=>K (.ok v) os) (zs:=ws++[z]) (k:=n+1) S e1 (gF ..) ?_ (h3.append (aM.cons rx aM.nil)) (RW b4<|RW bc a9) s.toks h.2 .none))
   (refine RW (gZ (Obj.mapSeq fun xs=>xs.push z) h1 rfl) ?_);simp[b0,Obj.mapSeq]
  |_=>exact h.elim
 |_=>exact h.elim
end
end
section
theorem ow:∀{args:List Expr} (pos:Pos) (env:Env),args.any isStarred=false→(backTo pos (starEach args env)).all (!·.1)=true
 |[],_,_,_=>rfl
 |e::r,pos,env,h=>by
  rw[List.any_cons,Bool.or_eq_false_iff] at h;refine RW (aD h.1 _ _) ?_;refine(?_:(true&&_)=true);exact RW (Bool.true_and _)<|ow pos env h.2
theorem dR(hs:iZ o=false)(hl:(ap.endLine==pos.line)=true)
  (h:wpAny (model PW w) A (eval o env) (fun ov s₁=>wpAny (model PW w) A (calleeOf (methodCallForm (args.length+kws.length) (backTo pos (starEach args env)) (backToKw pos (keywordEach kws env))) o env ov m) (fun fx s₂=>wpAny (model PW w) A (callWith pos fx.1 fx.2 (backTo pos (starEach args env)) (backToKw pos (keywordEach kws env))) Q E s₂) E s₁) E s):
  wpAny (model PW w) A (eval (.Call (.Attribute o m ap) args kws pos) env) Q E s:=by
 rw[arm_eval_Call,dt hs];refine an (bw h (fun ov s₁ h₁=>an (eQ ?_)) fun _ _ z=>z);unfold methodCall;refine an (cX (bw h₁ (fun fx s₂ h₂=>?_) fun _ _ z=>z));have:∀b,methodCallPos b o env ap pos=pure pos:=fun b=>by
  unfold methodCallPos;refine RW hl ?_;simp
 exact RW (this _)<|an (aS h₂)
theorem gT(xO:args.any isStarred=false)(a9:args.length+0<29):methodCallForm (args.length+([]:List Keyword).length) (backTo pos (starEach args env)) (backToKw pos (keywordEach [] env))=true:=by
 unfold methodCallForm;refine RW (ow pos env xO) ?_;have:backToKw pos (keywordEach [] env)=[]:=rfl;refine RW this ?_;simp;exact nq a9 (by decide)
theorem zI{os:List O}{r:V}{n:Tx}{f:Addr}(h:nt os r n=some (.own f)):∃i d Cl es,r=.ref i∧os[i]? =some (.inst Cl d)∧cR Cl n=some f∧os[d]? =some (.attrs es)∧(fieldOf es n).isNone=true∧Cl∈fI:=by
 have no:∀{r},rT os r n≠some (.own f):=fun q=>by
  refine aq (dI.mp q) fun k _ q=>aq (eG.mp q) fun id _ q=>?_;cases q
 induction r using V.casesOn with
 |ref i=>
  unfold nt at h;dsimp only at h;cases q:i3 os i with
  |none=>rw[q] at h;exact absurd h no
  |some x=>
   rw[q] at h;refine aq (dI.mp h) fun f' hf h=>aq (dI.mp h) fun es hd h=>az (xr h) fun c e=>?_;cases e;rw[Bool.and_eq_true] at c;exact UE i x.2 x.1 es rfl (kH q) hf (lG hd) c.1 (rt.mp c.2)
 |_=>exact absurd h no
theorem wR{os:List O}{r:V}{n:Tx}{k:Nat}{id:String}(h:nt os r n=some (.prim k id)):dE os r=some k∧kF.lookup (k,n)=some id:=by
 have go:∀{r},rT os r n=some (.prim k id)→dE os r=some k∧kF.lookup (k,n)=some id:=fun q=>by
  refine aq (dI.mp q) fun k' h1 q=>aq (eG.mp q) fun Xp h2 q=>?_;cases q;exact⟨h1,h2⟩
 induction r using V.casesOn with
 |ref i=>
  unfold nt at h;dsimp only at h;cases q:i3 os i with
  |none=>rw[q] at h;exact go h
  |some x=>
   rw[q] at h;exact aq (dI.mp h) fun f' hf h=>aq (dI.mp h) fun es hd h=>nomatch (xr h).2
 |_=>exact go h
section
variable{F:bT}{g:Gr}{s s₀:Shared}{ρ ρ₀:Rh}{st:St}
theorem uo(he:fg F)(hc:cJ F){pos:Pos}{m:Str}{o:Expr}{args:List Expr}{kws:List Keyword}{K:Rs→St→Prop}{r:V}{k:MK}{x:Value}
  (jq:hX args kws=true) (a9:args.length+kws.length<29) (hk:nt st.os r m.cps.toList=some k) (hp:lx k args kws=true) (h:iy F g.C args st fun vs st=>th F g.C kws st fun ks st=>Bs F g.C.d k r vs ks st.os fun rs os=>K rs ⟨st.vs,os⟩) (N:aV g st s ρ) (U:Up s₀ ρ₀ s ρ) (rx:VR s.heap ρ r x):
   wpAny g.m g.A (calleeOf (methodCallForm (args.length+kws.length) (backTo pos (starEach args g.env)) (backToKw pos (keywordEach kws g.env))) o g.env x m) (fun fx s₂=>wpAny g.m g.A (callWith pos fx.1 fx.2 (backTo pos (starEach args g.env)) (backToKw pos (keywordEach kws g.env))) (ey g (fun v=>K (.ok v)) s₀ ρ₀) (AY g K s₀ ρ₀) s₂) (AY g K s₀ ρ₀) s:=by
 induction k using MK.casesOn with
 |own f=>
  refine NZ (zI hk) fun i d Cl es aa ho hf hd hn hC=>?_;subst aa;apply rx.gX;intro a hi;exact z7 he hc jq h hf ho hd hn hC N U hi
 |prim kd id=>
  refine az (wR hk) fun h1 h2=>?_;unfold lx at hp;rw[Bool.and_eq_true,Bool.not_eq_true'] at hp;cases mX.mp hp.1;refine az (DF N.S h1 rx) fun hT hd=>?_;rw[gT hp.2 a9];unfold calleeOf;refine RW (aB rfl) ?_;have hf:=DE.get h2;rw[hZ] at hf;refine getMethod_builtin hT (wS kd) hf.slot hf.typ hd (cj (fc he jq h N fun b s₂ ρ₂ vs ks j6 h N₂=>⟨⟨.machine,lS rfl⟩,?_⟩));rewrite [List.map_eq_nil_iff.mp N₂.n];exact bw (uO id (E:=AY g K s₀ ρ₀) (ae h).2 N₂.N.S (aM.cons (N₂.U.v rx) N₂.r)) (fun y s' z=>by
   cases z with
   |mk v cn ρ' hK P r=>
    have z:=N₂.N.call P;exact .mk v _ ρ' hK z.1 ((U.trans N₂.U).trans z.2) r) fun _ _ z=>z
def OX(F:bT):Prop:=∀{g x xp m ap ps body sc lp e pos st Q s ρ},xK ps sc=true→isStarred e=false→xL (cS g.C x st)=true→m.cps.toList=tx "sub"→ap.endLine=pos.line→subAt g.C=true→F.ev g.C e st (fun v st=>ef v fun s=>eq s=true∧Q (.str s) st)→aV g st s ρ→wpAny g.m g.A (eval (.Call (.Attribute (.Name x xp) m ap) [.Lambda ps body sc lp,e] [] pos) g.env) (ey g Q s ρ) cq s
theorem Ir(he:fg F)(hc:cJ F)(vP:OX F){Q}(h:gS F g.C o m ap args kws pos st Q)(N:aV g st s ρ):wpAny g.m g.A (eval (.Call (.Attribute o m ap) args kws pos) g.env) (ey g Q s ρ) cq s:=by
 unfold gS at h;refine EM (uz args=true) (fun c=>?_) fun c=>?_
 ·rw[if_pos c] at h
  exact i7 h fun x xp h=>B1 h fun l e h=>Gy h fun ps body sc lp h=>gi h fun h=>az (ae h) fun aa h=>Nx aa fun aP h3 h4 h5 h6=>az aP fun h1 h2=>vP h1 h2 h3 h4 h5 h6 h N
 ·rw[if_neg c] at h
  refine az (ae h) fun aa h=>kT aa fun q1 q2 q3 q4=>dR q1 q3 (he.go h N fun x s₁ ρ₁ r cu h N₁ U₁ r₁=>aE h fun k hk h=>?_);exact sk (Q:=Q) (bw (uo (K:=R5 Q) he hc q2 q4 hk (ae h).1 (ae h).2 N₁ U₁ r₁) (fun fx s₂ z=>sk z) fun _ _ z=>z)
end
end
section
section
variable{prog:Program}{w:World}{A:Around}{E:Value→Shared→Prop}{s:Shared}
theorem qE(o7:l≠it):∀(n i:Nat) (s:Shared) (Q:List Value→Shared→Prop),s.heap.IsListIter it l i→s.heap.IsList l items→i+n≤items.size→
  (∀h',h'.IsListIter it l (i+n)→Heap.SameBut it s.heap h'→Q ((items.toList.drop i).take n) {s with heap:=h'})→wpAny (model prog w) A (draw (.ref it) n) Q E s
 |0,i,s,Q,hit,_,_,hQ=>by
  refine(?_:wpAny _ _ (pure []) Q E s);exact aS (by rw[List.take_zero] at hQ;exact hQ s.heap hit (Heap.SameBut.refl ..))
 |n+1,i,s,Q,hit,ht,hle,hQ=>by
  have jL:i<items.size:=(dy (iL _ _) hle);refine(?_:wpAny _ _ (pyNext (.ref it)>>=_) Q E s);refine an (wpAny_pyNext_list_item hit ht (x:=items[i]) (by simp[jL]) fun h₁ J2 AP=>?_)
  refine an (cX (qE o7 n (i+1) _ _ J2 (ht.extBut AP.extBut o7) (by lia) fun h₂ Tk Ru=>aS ?_))
  have hd:items.toList.drop i=items[i]::items.toList.drop (i+1):=by simp[List.drop_eq_getElem_cons,jL]
  have:=hQ h₂ (by refine RW (show i+(n+1)=i+1+n by lia) ?_;exact Tk) (AP.trans Ru)
  rw[hd,List.take_succ_cons] at this;exact this
theorem lH(hh:A.handled=none)(ht:s.heap.IsList t items)
  (hQ:∀h',Heap.ExtBut s.heap.objs.size s.heap h'→Q items.toList {s with heap:=h'}):wpAny (model prog w) A (unpackItems (.ref t) items.size none) Q E s:=by
 have jL:t≠s.heap.objs.size:=by refine aq ht fun o ho _=>?_;exact kW (fK ho)
 unfold unpackItems;refine an ?_;unfold notIterableAtAll;refine an (wpAny_specialOf ht.typeIs slot_list_iter.lookup ?_);refine aS ?_;simp only[Bool.false_eq_true,if_false];refine an (cX (wpAny_pyIter_list ht ?_));refine an (cX (qE jL items.size 0 _ _ (lL _ (dm _ rfl) rfl rfl) (ht.push _) (by lia) fun h₁ J2 AP=>?_))
 have k8:List.take items.size (List.drop 0 items.toList)=items.toList:=by
  refine RW List.drop_zero ?_;exact List.take_of_length_le (by simp)
 refine RW k8<|RW (au (by simp)) ?_
 have VS:h₁.IsList t items:=(ht.push _).extBut AP.extBut jL;refine an (cX (wpAny_pyNext_list_end hh J2 VS (by simp) fun h₂ NN=>?_))
 simp only[Option.isSome_none,Bool.false_eq_true,if_false];refine aS (hQ h₂ fun b o hb e=>NN b o hb (AP.extBut b o hb (gp _ e)))
end
theorem qb(hh:A.handled=none)(r:VR s.heap ρ (.seq k vs) x)
  (hQ:∀xs h',(∀b o,s.heap.get? b=some o→h'.get? b=some o)→aM h' ρ vs xs→Q xs {s with heap:=h'}):wpAny (model PW w) A (unpackItems x vs.length none) Q E s:=by
 apply r.qY;intro a ws n _ h1 h2 h3;rw[show vs.length=ws.toArray.size from h3.1];have fin:∀h',Heap.ExtBut s.heap.objs.size s.heap h'→Q ws.toArray.toList {s with heap:=h'}:=fun h' hx=>
  have hk:∀b o,s.heap.get? b=some o→h'.get? b=some o:=fun b o e=>hx b o (kW (fK e)) e
  hQ _ _ hk (h3.keep (bG hk) bQ (fun _ _ e=>e) aO)
 induction k using Bool.casesOn with
 |true=>exact wpAny_unpackItems_tuple hh ⟨_,h1,rfl,_,rfl⟩ fin
 |false=>exact lH hh ⟨_,h1,rfl,_,rfl⟩ fin
section
variable{F:bT}{g:Gr}{s s₀:Shared}{ρ ρ₀:Rh}{st:St}
theorem kQ.up(z:kQ g Q s₁ ρ₁ s')(U:Up s ρ s₁ ρ₁):kQ g Q s ρ s':=by
 cases z with|mk st' ρ' hQ N U'=>exact .mk st' ρ' hQ N (U.trans U')
theorem kQ.go(h:wpAny M A t (fun _=>kQ g Q s ρ) cq s)(k:∀a s' ρ' st',Q st'→aV g st' s' ρ'→Up s ρ s' ρ'→R a s'):wpAny M A t R E s:=
 gD h fun a s' z=>by cases z with|mk st' ρ' hQ N U=>exact k a s' ρ' st' hQ N U
theorem wJ(N:aV g st s ρ)(U:Up s₀ ρ₀ s ρ)(h:gM o i v st.os fun os=>Q ⟨st.vs,os⟩)(r:VR s.heap ρ o x)(rk:VR s.heap ρ i k)(ry:VR s.heap ρ v y):wpAny g.m g.A (setItem x k y) (fun _=>kQ g Q s₀ ρ₀) cq s:=by
 apply jF h r;intro i a h hi;apply kj h rk;intro n t h l;exact aE h fun d ho h=>gD (HA (E:=cq) N.S hi (i8 ho) h.1 ry) fun _ s' P=>.mk _ _ h.2 (N.call P).1 (U.trans (N.call P).2)
theorem fW(he:fg F)(h:kJ F g.C t v st Q)(N:aV g st s ρ)(r:VR s.heap ρ v y):wpAny g.m g.A (assign t g.env y) (fun _=>kQ g Q s ρ) cq s:=by
 induction t using Expr.casesOn with
 |Name x pos=>
  rw[arm_assign_Name]
  replace h:=ae h
  exact an (eQ (wpAny_bindName (nT N h.1 r fun s₂ N₂ U₂=>.mk _ _ h.2 N₂ U₂)))
 |Attribute o n pos=>
  rw[arm_assign_Attribute];refine an (cX (he.go h N fun x s₁ ρ₁ ov cu h N₁ U₁ r₁=>an (eQ (an (cX ?_)))));have z:=kL (E:=cq) N₁ U₁ h r₁ (U₁.v r);rw[hZ] at z;exact gD z fun _ s₂ q=>wpAny_release q
 |Subscript o i pos=>
  rw[arm_assign_Subscript];refine an (cX (he.go h N fun z s₁ ρ₁ ov cu h N₁ U₁ r₁=>an (cX (he.go h N₁ fun kx s₂ ρ₂ iv j6 h N₂ U₂ r₂=>an (eQ (an (cX ?_)))))));exact gD (wJ N₂ (U₁.trans U₂) h (U₂.v r₁) r₂ ((U₁.trans U₂).v r)) fun _ s₃ q=>wpAny_release q
 |_=>exact h.elim
theorem dH(h:isStarred t=false)(ts)(env):assignEach (t::ts) env=(false,assign t env)::assignEach ts env:=by
 revert h
 induction t using Expr.casesOn<;>first|exact fun _=>rfl|exact fun h=>absurd h.symm ck
theorem gV(env):∀(ts:List Expr),ts.any isStarred=false→(assignEach ts env).map (·.2)=ts.map (fun t=>assign t env)∧(assignEach ts env).findIdx? (·.1)=none∧(assignEach ts env).length=ts.length
 |[],_=>(cE rfl rfl rfl)
 |t::ts,h=>by
  rw[List.any_cons,Bool.or_eq_false_iff] at h;refine gq (gV env ts h.2) fun e1 e2 e3=>RW (dH h.1 _ _) ?_;exact cE (bH (_::·) e1) (by(refine RW List.findIdx?_cons<|RW e2 ?_);rfl) (bH (·+1) e3)
theorem oO(he:fg F):∀(ts:List Expr) {vs:List V} {ys:List Value} {st:St} {s:Shared} {ρ:Rh} {Q:St→Prop},gQ F g.C ts vs st Q→ts.length=vs.length→aV g st s ρ→aM s.heap ρ vs ys→wpAny g.m g.A (assignInOrder (ts.map fun t=>assign t g.env) ys) (fun _=>kQ g Q s ρ) cq s
 |[],[],_,_,_,_,_,h,_,N,r=>by
  apply r.vN;exact aS (.mk _ _ h N (Up.refl _ _))
 |[],_::_,_,_,_,_,_,_,hl,_,_=>nomatch hl
 |_::_,[],_,_,_,_,_,h,_,_,_=>h.elim
 |t::ts,v::vs,ys,st,s,ρ,Q,h,hl,N,r=>by
  apply r.pX;intro y ys ry r;have h:kJ F g.C t v st fun st=>gQ F g.C ts vs st Q:=h;refine(?_:wpAny _ _ (do holding ys (assign t g.env y);assignInOrder (ts.map fun t=>assign t g.env) ys) _ _ _)
  exact an (cX (kQ.go (fW he h N ry) fun _ s₁ ρ₁ cu h N₁ U₁=>gD (oO he ts h (Nat.succ.inj hl) N₁ (U₁.vs r)) fun _ _ z=>z.up U₁))
theorem gU(he:fg F)(h:aI F g.C t v st Q)(N:aV g st s ρ)(r:VR s.heap ρ v y):wpAny g.m g.A (assign t g.env y) (fun _=>kQ g Q s ρ) cq s:=by
 induction t using Expr.casesOn with
 |Tuple ts k pos=>
  revert r;apply rP h;intro b vs h r;refine az (ae h) fun aa h=>gq aa fun hl hd hs=>gq (gV g.env ts hs) fun e1 e2 e3=>?_;rw[arm_assign_Tuple];refine an (eQ ?_);unfold unpack;refine RW e2<|RW e3<|RW e1<|RW hl<|an (cX (qb (N.ok.rm.hd hd) r fun ys h' hk rs=>?_));have z:=N.grow hk s.toks;exact gD (oO he ts h hl z.1 rs) fun _ _ q=>q.up z.2
 |Name x pos=>exact fW he h N r
 |Attribute o n pos=>exact fW he h N r
 |Subscript o i pos=>exact fW he h N r
 |_=>exact h.elim
end
end
section
def vE(h:Heap)(ρ:Rh)(bj:V)(n:Nat×Nat)(k:Nat)(a:Addr):Prop:=match bj with
 |.seq b vs=>∃l,VR h ρ (.seq b vs) (.ref l)∧(if b then h.IsTupleIter a l k else h.IsListIter a l k)
 |.mj x y=>IsRangeIter h a (x+(k:Int)) (((y-x).toNat:Int)-(k:Int)) 1
 |.ref i=>∃l,ρ.l[i]? =some l∧(if n.2=0 then h.IsListIter a l k else h.IsKeyIter a l k n.1 (n.2-1))
 |.view i=>∃l,ρ.l[i]? =some l∧n.2≠0∧h.IsValIter a l k n.1 (n.2-1)
 |_=>False
def WalkO(h:Heap)(a:Addr):Prop:=∃o vs T,h.get? a=some o∧o.cls=.type T∧(dK (.type T)=true∧T≠"frame")∧o.data=.fields vs
theorem WalkO.tB(r:WalkO h a):∃o,h.get? a=some o∧jS o=true∧dK o.cls=true∧∃vs,o.data=.fields vs:=by
 refine vF r fun o vs T h1 h2 h3 h4=>⟨o,h1,?_,by exact RW h2<|h3.1,vs,h4⟩
 unfold jS;refine RW h2<|RW h4 ?_;refine(?_:(true&&!(T=="frame"))=true);exact RW (gY.mpr h3.2) rfl
section
variable{h h':Heap}{ρ ρ':Rh}{bj:V}{n:Nat×Nat}{k:Nat}{a:Addr}
theorem vE.obj(r:vE h ρ bj n k a):WalkO h a:=by
 have fin:∀{T:String} {vs:Array Value},(∃o,h.get? a=some o∧o.cls=.type T∧o.data=.fields vs)→dK (.type T)=true∧T≠"frame"→WalkO h a:=fun⟨o,h1,h2,h3⟩ h4=>(JA o _ _ h1 h2 h4 h3)
 induction bj using V.casesOn with
 |seq b vs=>
  refine aq r fun l _ r=>?_
  induction b using Bool.casesOn with
  |true=>exact fin (T:="tuple_iterator") r (by decide)
  |false=>exact fin (T:="list_iterator") r (by decide)
 |mj x y=>exact fin (T:="range_iterator") (lL _ r rfl rfl) (by decide)
 |ref i=>
  refine aq r fun l _ r=>EM (n.2=0) (fun c=>?_) fun c=>?_
  ·rw[if_pos c] at r;exact fin (T:="list_iterator") r (by decide)
  ·rw[if_neg c] at r;exact fin (T:="dict_keyiterator") r (by decide)
 |view i=>
  exact kS r fun l _ _ r=>fin (T:="dict_valueiterator") r (by decide)
 |_=>exact r.elim
theorem vE.keep(r:vE h ρ bj n k a)(ha:∀o,h.get? a=some o→h'.get? a=some o)(hv:∀{v x},VR h ρ v x→VR h' ρ' v x)(hρ:∀{i:Nat} {b},ρ.l[i]? =some b→ρ'.l[i]? =some b):vE h' ρ' bj n k a:=by
 have fin:∀{P:Obj→Prop},(∃o,h.get? a=some o∧P o)→∃o,h'.get? a=some o∧P o:=fun⟨o,h1,h2⟩=>(aK o (ha o h1) h2)
 induction bj using V.casesOn with
 |seq b vs=>
  refine aq r fun l q r=>(aK l (hv q) ?_)
  induction b using Bool.casesOn<;>exact fin r
 |mj x y=>exact ha _ r
 |ref i=>
  refine aq r fun l q r=>(aK l (hρ q) ?_);refine EM (n.2=0) (fun c=>?_) fun c=>?_
  ·rw[if_pos c] at r ⊢;exact fin r
  ·rw[if_neg c] at r ⊢;exact fin r
 |view i=>
  exact kS r fun l q c r=>(lL l (hρ q) c (fin r))
 |_=>exact r.elim
end
section
variable{w:World}{A:Around}{E:Value→Shared→Prop}{s:Shared}{ρ:Rh}{os:List O}
theorem wD(h:tw n d x=some r):d.1.length=n.1∧d.2=some (n.2-1)∧n.2≠0∧x=some r:=by
 unfold tw at h;refine EM ((d.1.length==n.1&&d.2.map (·+1)==some n.2)=true) (fun c=>?_) fun c=>?_
 ·rw[if_pos c] at h
  rw[Bool.and_eq_true] at c;exact aq (eG.mp (cO.mp c.2)) fun m hm q=>RS q (qU (cO.mp c.1) hm (ng m) h)
 ·rw[if_neg c] at h;exact aJ h
theorem mf(q:listAt os i=some vs):dictAt os i=none:=by
 unfold dictAt;(refine RW (dF q) rfl)
theorem ik(S:SR w ρ os s.heap)(hi:ρ.l[i]? =some a)(hd:dictAt os i=some d)(h:tw n d x=some r):
  ∃bM:List (Str×Value),s.heap.DictAt (strKind PW w) a bM (n.2-1)∧bM.length=n.1∧n.2≠0∧x=some r∧bM.map (·.1)=d.1.map (fun e=>ar e.1)∧aM s.heap ρ (d.1.map (·.2)) (bM.map (·.2)):=by
 refine kT (wD h) fun h1 h2 h3 h4=>EL (S.at hi (i8 hd)) fun bM e0 hD RH g1 g2 g3=>?_;rw[RH _ h2] at hD;have a9:=bH List.length g2;rw[List.length_map,List.length_map] at a9;exact W1 bM hD (a9.trans h1) h3 h4 g2 g3
theorem oA(S:SR w ρ os s.heap)(rv:VR s.heap ρ bj x)(h:itemAt os bj (dD os bj) 0=some r)
  (hQ:∀o,vE (s.heap.push o) ρ bj (dD os bj) 0 s.heap.objs.size→Q (.ref s.heap.objs.size) {s with heap:=s.heap.push o}):wpAny (model PW w) A (pyIter x) Q E s:=by
 induction bj using V.casesOn with
 |seq b vs=>
  have up:∀o y,VR s.heap ρ (.seq b vs) y→VR (s.heap.push o) ρ (.seq b vs) y:=fun o y r=>r.grow fun _ _ e=>gp _ e;refine vF rv.dP fun a ws n aa h1 h2 h3=>?_;subst aa
  induction b using Bool.casesOn with
  |true=>exact wpAny_pyIter_tuple (items:=ws.toArray) ⟨_,h1,rfl,_,rfl⟩ (hQ _ ⟨a,up _ _ rv,_,dm _ rfl,rfl,rfl⟩)
  |false=>exact wpAny_pyIter_list (items:=ws.toArray) ⟨_,h1,rfl,_,rfl⟩ (hQ _ ⟨a,up _ _ rv,_,dm _ rfl,rfl,rfl⟩)
 |mj a b=>
  apply rv.Om;intro d t u v h1 h2 h3 h4 h5;refine wpAny_pyIter_range h3 (qg h4.1 h4.2 h5.1 h5.2) (hQ _ ?_);refine(?_:IsRangeIter _ _ (a+((0:Nat):Int)) (((b-a).toNat:Int)-((0:Nat):Int)) _);exact RS nY<|RW Int.natCast_zero<|RW (Int.sub_zero _)<|RW (Int.add_zero _)<|dm _ rfl
 |ref i=>
  apply rv.gX;intro a hi;unfold itemAt at h;dsimp only at h;cases q:listAt os i with
  |some vs=>
   refine ez (S.at hi (dF q)) fun ws n g1 g2 g3=>wpAny_pyIter_list (items:=ws.toArray) ⟨_,g1,rfl,_,rfl⟩ (hQ _ (aK a hi ?_));rw[if_pos (show(dD os (.ref i)).2=0 by refine(?_:(ze os i).2=0);unfold ze;(refine RW (mf q) rfl))]
   exact lL _ (dm _ rfl) rfl rfl
  |none=>
   rw[q] at h;refine aq (dI.mp h) fun d hd h=>o9 (ik S hi hd h) fun bM hD e1 e2 _=>wpAny_pyIter_dict (knd:=PySem.strKind PW w) (ku S hi) hD (hQ _ (aK a hi ?_));exact RW (au e2)<|RS e1 (lL _ (dm _ rfl) rfl rfl)
 |view i=>
  apply rv.O4;intro a d hi h1 h2 h3;refine aq (dI.mp h) fun d hd h=>o9 (ik S hi hd h) fun bM hD e1 e2 _=>wpAny_pyIter_values (knd:=PySem.strKind PW w) (lL _ h3 rfl rfl) hD (hQ _ (lL a hi e2 ?_));exact RS e1 (lL _ (dm _ rfl) rfl rfl)
 |_=>exact aJ h
def Rb(h:Heap)(ρ:Rh)(bj:V)(n:Nat×Nat)(k:Nat)(a:Addr):Option V→Option Value→Prop
 |none,none=>True
 |some v,some x=>VR h ρ v x∧vE h ρ bj n (k+1) a
 |_,_=>False
theorem aM.R7(r:aM h ρ vs ws)(k:Nat):(vs[k]? =none∧ws.toArray[k]? =none)∨∃v x,vs[k]? =some v∧ws.toArray[k]? =some x∧VR h ρ v x:=by
 refine RW List.getElem?_toArray ?_;cases q:vs[k]? with
 |none=>exact .inl ⟨rfl,by rw[List.getElem?_eq_none_iff] at q ⊢;rw[←r.1];exact q⟩
 |some v=>
  exact aq (r.at q) fun x hx rx=>.inr (jN v x rfl hx rx)
theorem uw{h:Heap}{bM:List (Str×Value)}{es:List (Tx×V)}(hk:bM.map (·.1)=es.map (fun e=>ar e.1))(r:aM h ρ (es.map (·.2)) (bM.map (·.2)))(k:Nat):(es[k]? =none∧bM[k]? =none)∨∃e kv,es[k]? =some e∧bM[k]? =some kv∧kv.1=ar e.1∧VR h ρ e.2 kv.2:=by
 have e1:(bM.map (·.1))[k]? =(es.map (fun e=>ar e.1))[k]?:=bH (fun l=>l[k]?) hk;rw[List.getElem?_map,List.getElem?_map] at e1;cases q:es[k]? with
 |none=>rw[q] at e1;exact .inl ⟨rfl,Option.map_eq_none_iff.mp e1⟩
 |some e=>
  rw[q] at e1;refine aq (eG.mp e1) fun kv RB e2=>?_;exact .inr (AK e kv rfl RB e2 (r.2 k _ _ (by(refine RW pi<|RW q ?_);rfl) (by(refine RW pi<|RW RB ?_);rfl)))
theorem qu{bj:V}{n:Nat×Nat}{k:Nat}{a:Addr}{r:Option V}(hh:A.handled=none)(S:SR w ρ os s.heap)(it:vE s.heap ρ bj n k a)(h:itemAt os bj n k=some r){Q:Option Value→Shared→Prop}
  (hQ:∀r' h' t,Heap.ExtBut a s.heap h'→(∀(_:∀{v x},VR s.heap ρ v x→VR h' ρ v x),Rb h' ρ bj n k a r r')→Q r' {s with heap:=h',toks:=t}):wpAny (model PW w) A (pyNext (.ref a)) Q E s:=by
 induction bj using V.casesOn with
 |seq b vs=>
  refine aq it fun l rv it=>?_;cases a7 h;refine vF rv.dP fun _ ws m e h1 h2 h3=>?_;cases e;refine aA (h3.R7 k) (fun aa=>az aa fun q1 q2=>?_) fun aP=>ez aP fun v x q1 q2 rx=>?_
  ·rw[q1] at hQ
   induction b using Bool.casesOn with
   |true=>exact wpAny_pyNext_tuple_end hh it ⟨_,h1,rfl,_,rfl⟩ q2 fun h' hx=>hQ none h' s.toks hx fun _=>trivial
   |false=>exact wpAny_pyNext_list_end hh it ⟨_,h1,rfl,_,rfl⟩ q2 fun h' hx=>hQ none h' s.toks hx fun _=>trivial
  ·rw[q1] at hQ
   induction b using Bool.casesOn with
   |true=>exact wpAny_pyNext_tuple_item it ⟨_,h1,rfl,_,rfl⟩ q2 fun h' hit sb=>hQ (some x) h' s.toks sb.extBut fun up=>⟨up rx,l,up rv,hit⟩
   |false=>exact wpAny_pyNext_list_item it ⟨_,h1,rfl,_,rfl⟩ q2 fun h' hit sb=>hQ (some x) h' s.toks sb.extBut fun up=>⟨up rx,l,up rv,hit⟩
 |mj x y=>
  cases a7 h;refine EM (x+(k:Int)<y) (fun c=>?_) fun c=>?_
  ·rw[if_pos c] at hQ
   refine wpAny_pyNext_range_item it (by lia) fun h' hit sb=>hQ _ h' _ sb.extBut fun _=>⟨.int _ _,?_⟩
   refine(?_:IsRangeIter _ _ _ _ _);refine RW (show x+((k+1:Nat):Int)=x+(k:Int)+1 by lia)<|RW (show((y-x).toNat:Int)-((k+1:Nat):Int)=((y-x).toNat:Int)-(k:Int)-1 by lia) ?_
   exact hit
  ·rw[if_neg c] at hQ
   exact wpAny_pyNext_range_end hh it (by lia) fun h' hx=>hQ none h' s.toks hx fun _=>trivial
 |ref i=>
  refine aq it fun l hi it=>?_;unfold itemAt at h;dsimp only at h;cases q:listAt os i with
  |some vs=>
   rw[q] at h;refine az (xr h) fun q0 aa=>?_;subst aa;have q0:=cO.mp q0;rw[if_pos q0] at it;refine ez (S.at hi (dF q)) fun ws m g1 g2 g3=>aA (g3.R7 k) (fun aa=>az aa fun q1 q2=>?_) fun aP=>ez aP fun v x q1 q2 rx=>?_
   ·rw[q1] at hQ
    exact wpAny_pyNext_list_end hh it ⟨_,g1,rfl,_,rfl⟩ q2 fun h' hx=>hQ none h' s.toks hx fun _=>trivial
   ·rw[q1] at hQ
    exact wpAny_pyNext_list_item it ⟨_,g1,rfl,_,rfl⟩ q2 fun h' hit sb=>hQ (some x) h' s.toks sb.extBut fun up=>⟨up rx,l,hi,by exact RW (aB q0) hit⟩
  |none=>
   rw[q] at h;refine aq (dI.mp h) fun d hd h=>UR (ik S hi hd h) fun bM hD e1 e2 h4 hk hv=>?_;rw[if_neg e2,←e1] at it;refine aA (uw hk hv k) (fun aa=>az aa fun q1 q2=>?_) fun aP=>xz aP fun e kv q1 q2 q3 rx=>?_
   ·rw[q1] at h4
    cases a7 h4;exact wpAny_pyNext_dict_end hh it hD q2 fun h' hx=>hQ none h' s.toks hx fun _=>trivial
   ·rw[q1] at h4
    refine az (xr h4) fun hle aa=>?_;subst aa;refine wpAny_pyNext_dict_item (knd:=PySem.strKind PW w) it hD (k:=kv.1) (v:=kv.2) q2 fun kx h' We hit sb=>hQ (some kx) h' s.toks sb.extBut fun up=>⟨?_,l,hi,by exact RW (au e2)<|RS e1 hit⟩
    have hz:kx.isStrOf kv.1=true:=We;rw[q3] at hz;refine bf (Value.isStrOf_shape hz) fun t aa=>?_;subst aa;exact .str _ _ hle
 |view i=>
  refine kS it fun l hi V4 it=>aq (dI.mp h) fun d hd h=>UR (ik S hi hd h) fun bM hD e1 e2 h4 hk hv=>?_;rw[←e1] at it;cases a7 h4;refine aA (uw hk hv k) (fun aa=>az aa fun q1 q2=>?_) fun aP=>xz aP fun e kv q1 q2 q3 rx=>?_
  ·rw[q1] at hQ
   exact wpAny_pyNext_values_end hh it hD q2 fun h' hx=>hQ none h' s.toks hx fun _=>trivial
  ·rw[q1] at hQ
   exact wpAny_pyNext_values_item (knd:=PySem.strKind PW w) it hD (k:=kv.1) (v:=kv.2) q2 fun h' hit sb=>hQ (some kv.2) h' s.toks sb.extBut fun up=>⟨up rx,l,hi,V4,by exact RS e1 hit⟩
 |_=>exact it.elim
end
end
section
section
variable{w:World}{A:Around}{E:Value→Shared→Prop}{s:Shared}{env:Env}
theorem zJ(h:dK (.type T)=true):["enumerate","zip","dict_itemiterator","dict_reverseitemiterator","odict_iterator","itertools.zip_longest","itertools.pairwise"].contains T=false:=by
 replace h:JT T=true:=h
 simp only[JT,Bool.or_eq_true,beq_iff_eq] at h;rcases h with((rfl|rfl)|rfl)|((((rfl|rfl)|rfl)|rfl)|rfl)<;>decide
set_option tactic.hygienic true in
theorem uu(g1:s.heap.get? a=some o)(g2:dK o.cls=true)(hq:Q () s):wpAny M A (letOwnedTupleGo t (.ref a) v) Q E s:=by
 have body:∀b,wpAny M A (do
   let o ←load a
   match o.cls,o.data with
   |.type n,.fields vs=>
    if["enumerate","zip","dict_itemiterator","dict_reverseitemiterator","odict_iterator","itertools.zip_longest","itertools.pairwise"].contains n&&vs[0]? ==some (rawInt b) then do
     rule "for.unpacks-the-owned-tuple"
     updateField a 0 .none
    else pure ()
   |_,_=>pure ()) Q E s:=fun b=>by
  refine an (wpAny_load g1 ?_);split
  ·rename_i n vs hc hd
   rw[hc] at g2;exact RW (zJ g2)<|RW (Bool.false_and _)<|RW (au (by decide))<|aS hq
  ·exact aS hq
 induction t using Expr.casesOn<;>first|exact aS hq|(induction v using Value.casesOn<;>first|exact aS hq|exact body _)
theorem w8(hN:∀e s',N e s'→notedBy (model PW w) A env (fun e s'=>R (.error e) s') e s')
  (h:wpAny (model PW w) A (pyNext (.ref a)) (fun r s₁=>match r with
   |none=>wpAny (model PW w) A (execs orelse env) (fun f s₃=>R (.ok f) s₃) N s₁
   |some v=>(∃o,s₁.heap.get? a=some o∧dK o.cls=true)∧wpAny (model PW w) A (assign t env v) (fun _ s₂=>wpAny (model PW w) A (execs body env) (fun f s₃=>match f with
     |.next|.cont=>codeAny (model PW w) A (.forLoop t (.ref a) body orelse env) R s₃
     |.brk=>R (.ok .next) s₃
     |.ret v=>R (.ok (.ret v)) s₃) N s₂) N s₁) N s):codeAny (model PW w) A (.forLoop t (.ref a) body orelse env) R s:=by
 refine nf ?_;refine(?_:wpAny _ _ ((forTurn t (.ref a) body orelse env).onRaise (fun x=>do noteFrame x env;theTreesLotGoes x)) _ _ s)
 refine wpAny_noted ?_;simp only[forTurn];have hE:∀{α:Type} {m:Sem α} {Q:α→Shared→Prop} {s:Shared},wpAny (model PW w) A m Q N s→wpAny (model PW w) A m Q (notedBy (model PW w) A env fun e s'=>R (.error e) s') s:=fun hm=>bw hm (fun _ _ z=>z) hN;refine an (eQ (an (wpAny_onRaise (bw (hE h) (fun r s₁ h₁=>?_) fun _ _ h'=>eQ h'))))
 induction r using Option.casesOn with
 |none=>exact aS ⟨rfl,codeAny_block (hE h₁)⟩
 |some v=>
  refine az h₁ fun aa h₁=>aq aa fun o g1 g2=>an (uu g1 g2 ?_);refine an (bw (hE h₁) (fun _ s₂ h₂=>an (bw (hE h₂) (fun f s₃ h₃=>?_) fun _ _ h'=>h')) fun _ _ h'=>h')
  induction f using Flow.casesOn with
  |next=>exact aS ⟨rfl,h₃⟩
  |cont=>exact aS ⟨rfl,h₃⟩
  |brk=>exact aS h₃
  |ret v=>exact aS h₃
theorem sE(hN:∀e s',N e s'→notedBy (model PW w) A env (fun e s'=>R (.error e) s') e s')
  (h:wpAny (model PW w) A (isTrue t env (eval t env)) (fun b s₂=>
    if b then wpAny (model PW w) A (execs body env) (fun f s₃=>match f with
      |.next|.cont=>codeAny (model PW w) A (.whileLoop t body orelse env) R s₃
      |.brk=>R (.ok .next) s₃
      |.ret v=>R (.ok (.ret v)) s₃) N s₂
    else wpAny (model PW w) A (execs orelse env) (fun f s₃=>R (.ok f) s₃) N s₂) N s):codeAny (model PW w) A (.whileLoop t body orelse env) R s:=by
 refine nf ?_;refine(?_:wpAny _ _ ((whileTurn t body orelse env).onRaise (fun x=>do noteFrame x env;theTreesLotGoes x)) _ _ s)
 refine wpAny_noted ?_;simp only[whileTurn];have hE:∀{α:Type} {m:Sem α} {Q:α→Shared→Prop} {s:Shared},wpAny (model PW w) A m Q N s→wpAny (model PW w) A m Q (notedBy (model PW w) A env fun e s'=>R (.error e) s') s:=fun hm=>bw hm (fun _ _ z=>z) hN;refine an (bw (hE h) (fun b s₂ h₂=>?_) fun _ _ h'=>h')
 induction b using Bool.casesOn with
 |false=>
  simp only[Bool.false_eq_true,if_false] at h₂ ⊢;exact an (bw (hE h₂) (fun f s₃ h₃=>aS h₃) fun _ _ h'=>h')
 |true=>
  simp only[if_true] at h₂ ⊢;refine an (bw (hE h₂) (fun f s₃ h₃=>?_) fun _ _ h'=>h')
  induction f using Flow.casesOn with
  |next=>exact aS ⟨rfl,h₃⟩
  |cont=>exact aS ⟨rfl,h₃⟩
  |brk=>exact aS h₃
  |ret v=>exact aS h₃
end
structure Walk(g:Gr)(s₁:Shared)(ρ₁:Rh)(s:Shared)(ρ:Rh)(a:Addr):Prop where
 R9:g.s₀.heap.get? a=none
 EQ:s₁.heap.get? a=none
 out:a∉ρ.all
 big:N0≤a
 U:Up s₁ ρ₁ s ρ
section
variable{g:Gr}{st:St}{s s₁:Shared}{ρ ρ₁:Rh}{a:Addr}
theorem aV.side(N:aV g st s ρ)(h0:g.s₀.heap.get? a=none)(h1:a∉ρ.l)(hN:N0≤a)(e:s.heap.get? a=some o)(hl:g.env.locals≠a)(hc:∀x c,g.env.cells.lookup x=some c→c≠a)(jC:o.cls≠.type "frame")(h4:a∈ρ.all∨cQ o=false)
 (hx:Heap.ExtBut a s.heap h') (hh:a∈ρ.z→∃o,h'.get? a=some o) (t):aV g st {s with heap:=h',toks:=t} ρ∧∀{v x},VR s.heap ρ v x→VR h' ρ v x:=by
 have k:aU (fun b=>b=a) s.heap h':=fun b o e hb=>⟨fun _=>hx b o hb e,fun _=>⟨o.slots,hx b o hb e⟩⟩;have hf:fF (fun b=>b=a) ρ s.heap:=fun b o' e' m=>by
  subst m;rw[e] at e';cases a7 e';exact h4
 have P:=N.P;have old:∀{b o'},g.s₀.heap.get? b=some o'→b≠a:=fun e q=>by rw[q,h0] at e;exact aJ e
 refine⟨⟨N.ok,N.fr.to fun L o' g1 g2 g3 g4 g5=>⟨g2,o',hx L o' (fun q=>by subst q;rw[e] at g1;cases a7 g1;exact jC g4) g1,g4,g5⟩,⟨P.pre,?_,P.er.keep k hf (Rh.le_refl ρ) aO hl hc,fun b o' e hm=>?_,P.os,P.gens,P.fresh,fun b o' e=>?_,fun b o' e hz hl c=>hx b o' (old e) (P.fz b o' e hz hl c)⟩⟩,fun r=>r.keep k hf (fun _ _ e=>e) aO⟩
 ·refine P.sr.eX k hf (fun _ _ e=>e) aO (fun b m=>?_) (P.sr.aL.iw k fun b m=>by subst m;exact hN) P.sr.len P.sr.nodup P.sr.high fun i b o' e1 e2=>.inl (cE e1 e2 (fun q=>h1 (q▸db e1)))
  refine EM (b=a) (fun q=>?_) fun q=>?_
  ·subst q;exact hh m
  ·exact bf (P.sr.vr b m) fun o' e=>⟨o',hx b o' q e⟩
 ·exact az (P.keep b o' e hm) fun q1 q2=>⟨fun c=>hx b o' (old e) (q1 c),fun c=>(q2 c).imp fun sl q=>hx b _ (old e) q⟩
 ·exact bf (P.alive b o' e) fun o2 q=>⟨o2,hx b o2 (old e) q⟩
theorem Up.side(U:Up s₁ ρ₁ s ρ)(EQ:s₁.heap.get? a=none)(hx:Heap.ExtBut a s.heap h')(up:∀{v x},VR s.heap ρ v x→VR h' ρ v x)(t):Up s₁ ρ₁ {s with heap:=h',toks:=t} ρ:=by
 have ne:∀{b o},s₁.heap.get? b=some o→b≠a:=fun e q=>by rw[q,EQ] at e;exact aJ e
 exact⟨fun r=>up (U.v r),U.l,fun e h1 h2=>have z:=U.pl e h1 h2;⟨hx _ _ (ne e) z.1,z.2⟩,fun e=>(U.al e).imp fun _ q=>hx _ _ (ne e) q,fun e h1 h2 h3 h4=>have z:=U.pz e h1 h2 h3 h4;⟨hx _ _ (ne e) z.1,z.2⟩⟩
theorem aV.odd(N:aV g st s ρ)(h0:g.s₀.heap.get? a=none)(h1:a∉ρ.all)(hN:N0≤a)(O:WalkO s.heap a)(hx:Heap.ExtBut a s.heap h')(t):aV g st {s with heap:=h',toks:=t} ρ∧∀{v x},VR s.heap ρ v x→VR h' ρ v x:=by
 refine o9 O.tB fun o g1 gs g2 aa=>bf aa fun vs g4=>?_;have nodict:∀{b:Addr} {o':Obj},s.heap.get? b=some o'→(∀vs,o'.data≠.fields vs)→b≠a:=fun e d q=>by
  rw[q,g1] at e;cases a7 e;exact d vs g4
 refine N.side h0 (fun m=>h1 (Rh.dh m)) hN g1 ?_ (fun x c e=>?_) (jb gs) (.inr (jn g2)) hx (fun m=>absurd (cY _ m) h1) t
 ·refine aq N.R.ns fun _ aa _=>mU aa fun o' es ep e' d _=>?_
  exact nodict e' fun vs q=>by rw[d] at q;cases q
 ·refine kT (N.R.cells x c e) fun _ _ _ aa=>fJ aa fun v o' e' d=>?_
  exact nodict e' fun vs q=>by rw[d] at q;cases q
theorem Walk.up(W:Walk g s₁ ρ₁ s ρ a)(it:vE s.heap ρ bj n k a)(U:Up s ρ s' ρ'):Walk g s₁ ρ₁ s' ρ' a∧vE s'.heap ρ' bj n k a:=by
 refine kS it.obj.tB fun o g1 g2 _=>az (U.pl g1 W.out g2) fun h1 h2=>?_;exact⟨⟨W.R9,W.EQ,h2,W.big,W.U.trans U⟩,it.keep (fun o' e=>by rw[g1] at e;cases a7 e;exact h1) U.v U.l⟩
end
def NW(F:bT):Prop:=∀{g t body bj n k st Q s ρ a s₁ ρ₁},F.fo g.C t body bj n k st Q→aV g st s ρ→Walk g s₁ ρ₁ s ρ a→vE s.heap ρ bj n k a→
 codeAny g.m g.A (.forLoop t (.ref a) body [] g.env) (fun r s'=>∃fl,r=.ok fl∧kR g Q s₁ ρ₁ fl s') s
def NV(F:bT):Prop:=∀{g t body orelse st Q s ρ s₁ ρ₁},F.wh g.C t body orelse st Q→aV g st s ρ→Up s₁ ρ₁ s ρ→
 codeAny g.m g.A (.whileLoop t body orelse g.env) (fun r s'=>∃fl,r=.ok fl∧kR g Q s₁ ρ₁ fl s') s
section
variable{F:bT}
theorem I5(z:mT g (bJ k Q) s ρ e s'):False:=by cases z with|mk c st' ρ' hQ=>exact hQ
theorem Hq(he:fg F)(hx:EJ F)(hf:NW F)(hG:G.fo=Ut F):NW G:=by
 intro g t body bj n k st Q s ρ a s₁ ρ₁ h N W it;rw[hG] at h;refine w8 (N:=cq) (fun _ _ z=>z.elim) (aE (ae h).2 fun r hit h'=>?_);refine qu (N.ok.rm.hd (ae h).1) N.S it hit fun r' h₂ t' Nj hs=>az (N.odd W.R9 W.out W.big it.obj Nj t') fun N₂ up=>?_;have W₂:Walk g s₁ ρ₁ {s with heap:=h₂,toks:=t'} ρ a:=⟨W.R9,W.EQ,W.out,W.big,W.U.side W.EQ Nj up t'⟩
 have z:=hs up
 induction r using Option.casesOn with
 |none=>
  induction r' using Option.casesOn with
  |some x=>exact z.elim
  |none=>exact wpAny_execs_nil (aK _ rfl (.mk .next _ _ h' N₂ W₂.U trivial))
 |some v=>
  induction r' using Option.casesOn with
  |none=>exact z.elim
  |some x=>
  refine o9 z.2.obj.tB fun o g1 _ g2 _=>⟨(aK o g1 g2),kQ.go (gU he h' N₂ z.1) fun _ s₃ ρ₃ Nz h N₃ U₃=>?_⟩;refine az (W₂.up z.2 U₃) fun W₃ Vz=>bw (hx h N₃) (fun fl s₄ q=>?_) fun _ _ q=>I5 q;cases q with
  |mk f RZ ρ₄ hQ N₄ U₄ EU=>
   refine az (W₃.up Vz U₄) fun W₄ Vy=>?_
   induction f using Fl.casesOn<;>induction fl using Flow.casesOn<;>first|exact EU.elim|exact hQ.elim|exact hf hQ N₄ W₄ Vy|exact(aK _ rfl (.mk .next _ _ hQ N₄ W₄.U trivial))|exact(aK _ rfl (.mk (.ret _) _ _ hQ N₄ W₄.U EU))
theorem FE(ht:xw F)(hx:EJ F)(hw:NV F)(hG:G.wh=AF F):NV G:=by
 intro g t body orelse st Q s ρ s₁ ρ₁ h N U;rw[hG] at h;refine sE (N:=cq) (fun _ _ z=>z.elim) (ht.go h N fun c s₂ ρ₂ j6 h N₂ U₂=>?_)
 induction c using Bool.casesOn with
 |true=>
  rw[if_pos rfl] at h;refine bw (hx h N₂) (fun fl s₄ q=>?_) fun _ _ q=>I5 q;cases q with
  |mk f RZ ρ₄ hQ N₄ U₄ EU=>
   have U':=(U.trans U₂).trans U₄
   induction f using Fl.casesOn<;>induction fl using Flow.casesOn<;>first|exact EU.elim|exact hQ.elim|exact hw hQ N₄ U'|exact(aK _ rfl (.mk .next _ _ hQ N₄ U' trivial))|exact(aK _ rfl (.mk (.ret _) _ _ hQ N₄ U' EU))
 |false=>
  rw[if_neg Bool.false_ne_true] at h;refine bw (hx h N₂) (fun fl s₄ q=>?_) fun _ _ q=>by cases q with|mk c st' ρ' hQ=>exact hQ.elim
  cases q with
  |mk f RZ ρ₄ hQ N₄ U₄ EU=>exact(aK _ rfl (.mk f _ _ (by induction f using Fl.casesOn<;>first|exact hQ|exact hQ.elim) N₄ ((U.trans U₂).trans U₄) EU))
section
variable{g:Gr}{st:St}{s:Shared}{ρ:Rh}
theorem Et(hw:NV F)(h:F.wh g.C t b o st Q)(N:aV g st s ρ):wpAny g.m g.A (exec (.While t b o pos) g.env) (kR g Q s ρ) (mT g Q s ρ) s:=
 wpAny_While (iJ (hw h N (Up.refl _ _)) fun r s' z=>by(have aF:=z;clear z;refine aq aF fun fl aa z=>?_;clear aF;subst aa);exact z)
theorem I3(h:nO it=false)(env)(x):foldedSetIterable it env x=pure x:=by
 revert h
 induction it using Expr.casesOn<;>first|exact fun _=>rfl|exact fun h=>absurd h.symm ck
theorem Walk.start(N:aV g st s ρ)(o):aV g st {s with heap:=s.heap.push o} ρ∧Walk g s ρ {s with heap:=s.heap.push o} ρ s.heap.objs.size:=by
 have z:=N.grow (fun _ _ e=>gp o e) s.toks;refine⟨z.1,?_,bC _,dL N.S,N.S.aL.big,z.2⟩;cases q:g.s₀.heap.get? s.heap.objs.size with
 |none=>rfl
 |some o=>refine bf (N.P.alive _ o q) fun o' q'=>?_;rw[bC] at q';exact aJ q'
theorem M7(he:fg F)(hf:NW F)(hs:nO it=false)(h:F.ev g.C it st fun bj st=>af ((itemAt st.os bj (dD st.os bj) 0).isSome=true) (F.fo g.C t b bj (dD st.os bj) 0 st Q))(N:aV g st s ρ):wpAny g.m g.A (exec (.For t it b [] pos) g.env) (kR g Q s ρ) (mT g Q s ρ) s:=by
 refine wpAny_For (he.go h N fun x s₁ ρ₁ bj cu h N₁ U₁ r₁=>?_) (I3 hs g.env);refine az (ae h) fun hr h=>bf (vM.mp hr) fun r hr=>oA N₁.S r₁ hr fun o it₁=>?_;have z:=Walk.start N₁ o;refine iJ (hf h z.1 z.2 it₁) fun r s' q=>?_
 (have aF:=q;clear q;refine aq aF fun fl aa q=>?_;clear aF;subst aa)
 exact q.up U₁ fun _ _ q=>q
end
end
end
section
theorem my(h:env.scope.kind=.function):interactive env=false:=by
 unfold interactive;exact RW h rfl
theorem nK(h:fH e=false)(t:Option Expr)(l)(env):swapsWith e t l env=pure false:=by
 revert h
 induction e using Expr.casesOn<;>first|exact fun _=>rfl|exact fun h=>absurd h.symm ck
section
variable{F:bT}{g:Gr}{st:St}{s:Shared}{ρ:Rh}
theorem Iv(he:fg F)(hc:cJ F)(h:tK F g.C e st Q)(N:aV g st s ρ):wpAny g.m g.A (exec (.Expr e pos) g.env) (kR g Q s ρ) (mT g Q s ρ) s:=by
 unfold tK at h;have ni:=my N.ok.cx.kind;refine EM (yE e=true) (fun c=>?_) fun c=>?_
 ·rw[if_pos c] at h
  refine n4 h fun f as ks p h=>uj h fun o m ap h=>gi h fun h=>gi h fun h=>az (ae h) fun h1 h=>?_;have conv:∀{e s'},AY g (fun rs st=>Q (Fj rs) st) s ρ e s'→mT g Q s ρ e s':=fun z=>by cases z with|mk c st' ρ' hK N U X=>exact .mk c _ _ hK N U X
  refine wpAny_Expr_any ?_ ni (nK rfl _ _ _);refine dR h1.1 h1.2 (he.go h N fun x s₁ ρ₁ r cu h N₁ U₁ r₁=>aE h fun k hk h=>?_);refine bw (uo (pos:=p) (o:=o) (args:=[]) (kws:=[]) (K:=fun rs st=>Q (Fj rs) st) he hc (by decide) (by decide) hk (by induction k using MK.casesOn<;>rfl) h N₁ U₁ r₁) (fun fx s₂ z=>bw z (fun y s₃ z=>?_) fun _ _ z=>conv z) fun _ _ z=>conv z
  cases z with|mk v st' ρ' hQ N' U' _=>exact .mk .next _ _ hQ N' U' trivial
 ·rw[if_neg c] at h
  replace h:=ae h
  exact wpAny_Expr_any (he.go h.2 N fun x s₁ ρ₁ v cu h N₁ U₁ _=>.mk .next _ _ h N₁ U₁ trivial) ni (nK h.1 _ _ _)
end
theorem MM(ra:VR s.heap ρ a x)(rb:VR s.heap ρ b y)(e:Bd op a b=some z)(hz:Fe z.2)(g:Grows s ρ z.1 Q):wpAny (model PW w) A (inplaceOp op x y) Q E s:=by
 induction op using Operator.casesOn with
 |Add=>
  induction a using V.casesOn with
  |int i=>
   refine aq (eG.mp e) fun j hj aa=>?_;subst aa;cases cb hj;apply ra.gx;intro t;apply rb.gx;intro u;exact AutoIntOps.iadd_0 (g.tok _ (.int _ _))
  |str p=>
   refine aq (eG.mp e) fun q hq aa=>?_;subst aa;cases c8 hq;apply ra.dS;intro t l;apply rb.dS;intro u l';refine SB.iadd (fun t' k=>?_) ?_
   ·exact RW (cD _ _)<|g.tok _ (.str _ _ hz)
   ·refine RW (bh _)<|RW (bh _)<|RW du ?_
    have:(p++q).length≤ax:=hz;rw[List.length_append,bc] at this;exact this
  |_=>exact aJ e
 |Sub=>
  induction a using V.casesOn with
  |int i=>
   refine aq (eG.mp e) fun j hj aa=>?_;subst aa;cases cb hj;apply ra.gx;intro t;apply rb.gx;intro u;exact AutoIntOps.isub_0 (g.tok _ (.int _ _))
  |_=>exact aJ e
 |_=>exact aJ e
section
variable{F:bT}{g:Gr}{st:St}{s:Shared}{ρ:Rh}
theorem M8(he:fg F)(hc:cJ F)(h:OW F g.C t op e st Q)(N:aV g st s ρ):wpAny g.m g.A (exec (.AugAssign t op e pos) g.env) (kR g Q s ρ) (mT g Q s ρ) s:=by
 induction t using Expr.casesOn with
 |Attribute o n Xf=>
  rw[arm_exec_AugAssign_2];refine an (eQ (an (he.go h N fun ov s₁ ρ₁ r cu h N₁ U₁ r₁=>an (cX (an (eQ (an ?_)))))));have z:=yW (E:=cq) (Q:=fun old st'=>F.ev g.C e st' fun v st=>am (Bd op old v) fun z=>pr z.2 (i0 r n.cps.toList z.1 st.os fun os=>Q .next ⟨st.vs,os⟩)) hc N₁ (Up.refl _ _) h r₁;rw[hZ] at z;refine gD z fun y s₂ q=>?_;cases q with
  |mk old j6 ρ₂ h N₂ U₂ r₂=>
  refine an (cX (he.go h N₂ fun z s₃ ρ₃ v Nz h N₃ U₃ r₃=>an (eQ (wpAny_operateT (aE h fun nv hv h=>?_)))));have U:=(U₁.trans U₂).trans U₃;refine MM (U₃.v r₂) r₃ hv (rY h).1 fun x h' t hk rx=>?_;have z₄:=N₃.grow hk t;have z5:=kL (E:=cq) (Q:=fun st=>Q .next st) z₄.1 (U.trans z₄.2) (rY h).2 (z₄.2.v (U₃.v (U₂.v r₁))) rx;rw[hZ] at z5;refine an (eQ (an (cX (gD z5 fun _ s₅ q=>an (wpAny_release (aS ?_))))));cases q with|mk st' ρ' hQ N' U'=>exact .mk .next _ _ hQ N' U' trivial
 |_=>exact h.elim
end
end
section
theorem kP:∀(n:Nat) (l:List Str),l.length≤n→l.eraseDups.length≤l.length
 |_,[],_=>c9 _
 |0,_::_,h=>absurd h (Nat.not_succ_le_zero _)
 |n+1,a::as,h=>by
  refine RW List.eraseDups_cons ?_;have h1:=gw (fun b=>!b==a) as;exact Nat.succ_le_succ (bZ (kP n _ (bZ h1 (Nat.le_of_succ_le_succ h))) h1)
theorem iz:∀{l:List Str},l.eraseDups.length=l.length→l.Nodup
 |[],_=>jx
 |a::as,h=>by
  rw[List.eraseDups_cons] at h;have h0:=Nat.succ.inj h;have h1:=gw (fun b=>!b==a) as;have h2:=kP _ (as.filter fun b=>!b==a) (bI _);have h3:(as.filter fun b=>!b==a).length=as.length:=Nat.le_antisymm h1 (bZ (ka h0.symm) h2);have h4:=List.length_filter_eq_length_iff.mp h3;rw[List.filter_eq_self.mpr h4] at h0;exact pf.mpr ⟨fun m=>(by have:=h4 a m;rw[beq_self_eq_true] at this;exact c0 this),iz h0⟩
theorem jJ{α β:Type}{f:α→Option β}:∀{l:List α},(l.filterMap f).length=l.length→l.map f=(l.filterMap f).map some
 |[],_=>rfl
 |a::l,h=>by
  cases q:f a with
  |none=>
   rw[List.filterMap_cons_none q] at h;exact absurd (ka h.symm) (Nat.not_le_of_lt (Nat.lt_succ_of_le (List.length_filterMap_le f l)))
  |some b=>
   rw[List.filterMap_cons_some q] at h ⊢;exact RW cV<|RW q<|RW (jJ (Nat.succ.inj h)) rfl
theorem tQ{motive:Expr→Prop}(n:∀x p,motive (.Name x p))(a:∀o m p,motive (.Attribute o m p))(s:∀o i p,motive (.Subscript o i p))(tp:rU e=true→∀es k p,motive (.Tuple es k p)):nA t e=true→motive t:=by
 induction t using Expr.casesOn with
 |Name=>exact fun _=>n _ _
 |Attribute=>exact fun _=>a _ _ _
 |Subscript=>exact fun _=>s _ _ _
 |Tuple=>exact fun h=>tp h _ _ _
 |_=>exact fun h=>(ck h).elim
theorem Cy{motive:Expr→Prop}(l:∀a b c d,motive (.ListComp a b c d))(s:∀a b c d,motive (.SetComp a b c d))(d:∀a b c d e,motive (.DictComp a b c d e)):fH e=true→motive e:=by
 induction e using Expr.casesOn with
 |ListComp=>exact fun _=>l _ _ _ _
 |SetComp=>exact fun _=>s _ _ _ _
 |DictComp=>exact fun _=>d _ _ _ _ _
 |_=>exact fun h=>(ck h).elim
theorem zw(h:nA t e=true)(l)(env):∃b,swapsWith e (some t) l env=pure b:=by
 cases q:fH e with
 |false=>exact⟨_,nK q _ _ _⟩
 |true=>
  revert h;exact Cy (motive:=fun e=>nA t e=true→∃b,swapsWith e (some t) l env=pure b) (fun _ _ _ _=>tQ (motive:=fun t=>∃b,swapsWith (.ListComp _ _ _ _) (some t) l env=pure b) (fun _ _=>⟨_,rfl⟩) (fun _ _ _=>⟨_,rfl⟩) (fun _ _ _=>⟨_,rfl⟩) fun _ _ _ _=>⟨_,rfl⟩)
   (fun _ _ _ _=>tQ (motive:=fun t=>∃b,swapsWith (.SetComp _ _ _ _) (some t) l env=pure b) (fun _ _=>⟨_,rfl⟩) (fun _ _ _=>⟨_,rfl⟩) (fun _ _ _=>⟨_,rfl⟩) fun _ _ _ _=>⟨_,rfl⟩)
   (fun _ _ _ _ _=>tQ (motive:=fun t=>∃b,swapsWith (.DictComp _ _ _ _ _) (some t) l env=pure b) (fun _ _=>⟨_,rfl⟩) (fun _ _ _=>⟨_,rfl⟩) (fun _ _ _=>⟨_,rfl⟩) fun _ _ _ _=>⟨_,rfl⟩) q
noncomputable def nameAt(env:Env)(line:Nat):Expr→Option Str
 |.Name id pos=>if env.kindOf id==some .local&&pos.line==line then some id else none
 |_=>none
def Bf(env:Env)(t e:Expr):Prop:=swappedStores [t] e env=pure none∨∃dU k p line,t=.Tuple dU k p∧swappedStores [t] e env=pure (some (dU.filterMap (nameAt env line)))∧(dU.filterMap (nameAt env line)).length=dU.length∧(dU.filterMap (nameAt env line)).Nodup
theorem CU(h:rU (.Tuple vs k' p')=true)(env:Env):Bf env (.Tuple dU k p) (.Tuple vs k' p'):=by
 have h:(!(vs.all (constantsAlone 8))||vs.all (foldedForSure 8))=true:=h;have e0:∀names,names=dU.filterMap (nameAt env ((dU.head?.map (·.pos.line)).getD 0))→swappedStores [.Tuple dU k p] (.Tuple vs k' p') env=(
   if !(dU.length==2||dU.length==3)||vs.length != dU.length||env.blockKind != .function then pure none
   else if vs.any (fun|.Starred ..=>true|_=>false) then pure none
   else if names.length != dU.length||names.eraseDups.length != names.length then pure none
   else if vs.all (foldedForSure 8) then pure none
   else if vs.all (constantsAlone 8) then unsupported "assign.tuple-of-constant-expressions:order-of-the-stores"
   else pure (some names)):=fun names hn=>RW hn rfl
 unfold Bf
 generalize hn:dU.filterMap (nameAt env ((dU.head?.map (·.pos.line)).getD 0))=names
 refine RW (e0 _ hn.symm)<|EM ((!(dU.length==2||dU.length==3)||vs.length != dU.length||env.blockKind != .function)=true) (fun c1=>?_) fun c1=>?_
 ·exact .inl (aB c1)
 ·refine EM ((vs.any (fun|.Starred ..=>true|_=>false))=true) (fun c2=>?_) fun c2=>?_
  ·exact .inl (RW (au c1)<|aB c2)
  ·refine EM ((names.length != dU.length||names.eraseDups.length != names.length)=true) (fun c3=>?_) fun c3=>?_
   ·exact .inl (RW (au c1)<|RW (au c2)<|aB c3)
   ·refine EM (vs.all (foldedForSure 8)=true) (fun c4=>?_) fun c4=>?_
    ·exact .inl (RW (au c1)<|RW (au c2)<|RW (au c3)<|aB c4)
    ·have c5:¬vs.all (constantsAlone 8)=true:=fun q=>by
      rw[q,Bool.eq_false_iff.mpr c4] at h;exact c0 h
     refine RW (au c1)<|RW (au c2)<|RW (au c3)<|RW (au c4)<|RW (au c5) ?_;rw[Bool.or_eq_true,not_or,bne_iff_ne,bne_iff_ne,Decidable.not_not,Decidable.not_not] at c3;refine .inr (UH dU k p ((dU.head?.map (·.pos.line)).getD 0) rfl ?_);exact RW hn (cE rfl c3.1 (iz c3.2))
theorem CV(env:Env):rU e=true→Bf env (.Tuple dU k p) e:=by
 induction e using Expr.casesOn with
 |Tuple=>exact fun h=>CU h env
 |_=>exact fun _=>.inl rfl
theorem sH(h:nA t e=true)(env:Env):Bf env t e:=
 tQ (motive:=fun t=>Bf env t e) (fun _ _=>.inl rfl) (fun _ _ _=>.inl rfl) (fun _ _ _=>.inl rfl) (fun h _ _ _=>CV env h) h
noncomputable def Gr.re(g:Gr)(s:Shared)(ρ:Rh):Gr:=⟨g.w,g.A,g.C,g.env,s,ρ⟩
def Fy(F:bT):Prop:=∀{g e st Q Q₂ s ρ} {use:Value→Sem Unit},fH e=true→F.ev g.C e st Q→aV g st s ρ→(∀{s₀ ρ₀ x s' ρ' v st'},Q v st'→aV (g.re s₀ ρ₀) st' s' ρ'→VR s'.heap ρ' v x→wpAny g.m g.A (use x) (fun _=>kQ (g.re s₀ ρ₀) Q₂ s' ρ') cq s')→
 wpAny g.m g.A (evalThenUse e g.env use) (fun _=>kQ g Q₂ s ρ) cq s
section
variable{F:bT}{g:Gr}{st:St}{s:Shared}{ρ:Rh}
theorem aV.congr(N:aV g st s ρ)(e:∀x,vs'.lookup x=st.vs.lookup x):aV g ⟨vs',st.os⟩ s ρ:=by
 have R:=N.R;refine⟨N.ok,N.fr,N.P.pre,N.P.sr,⟨R.high,R.out,?_,R.cls,R.cells,fun x v hx=>R.bound x v (RS (e _) hx)⟩,N.P.keep,N.P.os,N.P.gens,N.P.fresh,N.P.alive,N.P.fz⟩;exact aq R.ns fun m n q=>(aK m n (fun x v hx=>q x v (RS (e _) hx)))
def rO(l:List (Str×V))(vs:List (Str×V)):List (Str×V):=l.foldl (fun vs p=>bX p.1 p.2 vs) vs
theorem gB(y:Str):∀(l:List (Str×V)) (vs:List (Str×V)),(rO l vs).lookup y=(l.reverse.lookup y).or (vs.lookup y)
 |[],vs=>rfl
 |p::l,vs=>by
  refine(?_:(rO l (bX p.1 p.2 vs)).lookup y=_)
  ((refine RW (gB y l _) ?_);rewrite [cM];refine RW nk<|RW List.lookup_append<|RW Option.or_assoc ?_)
  congr 1
  refine EM (y=p.1) (fun c=>?_) fun c=>?_
  ·exact RW (aB c)<|RW gt<|RW c<|RW (dT _) rfl
  ·exact RW (au c)<|RW gt<|RW (gY.mpr c) rfl
theorem jf{l:List (Str×V)}(h:(l.map (·.1)).Nodup){y:Str}{v:V}:l.lookup y=some v↔(y,v)∈l:=by
 refine⟨mem_of_lookup,fun m=>?_⟩
 induction l with
 |nil=>cases m
 |cons p l ih=>
  rw[List.map_cons,List.nodup_cons] at h;refine RW gt<|aA (cW.mp m) (fun e=>?_) fun m=>?_
  ·refine RS e<|RW (dT _) rfl
  ·have o7:y≠p.1:=fun e=>h.1 (RS e<|rp (f:=(·.1)) m)
   exact RW (gY.mpr o7)<|ih h.2 m
theorem wW{l:List (Str×V)}(h:(l.map (·.1)).Nodup)(y):l.reverse.lookup y=l.lookup y:=by
 have h':(l.reverse.map (·.1)).Nodup:=RW List.map_reverse<|List.pairwise_reverse.mpr (h.imp fun q=>q.symm);refine Option.ext fun v=>?_;rw[jf h,jf h',List.mem_reverse]
theorem uP:∀(l:List (Str×V)) {st:St} {s:Shared} {ys:List Value},aV g st s ρ→(∀p∈l,fA g.C p.1=true)→aM s.heap ρ (l.map (·.2)) ys→
  wpAny g.m g.A (assignInOrder ((l.map (·.1)).map fun n=>bindName g.env n) ys) (fun _ s'=>aV g ⟨rO l st.vs,st.os⟩ s' ρ∧Up s ρ s' ρ) cq s
 |[],st,s,ys,N,_,r=>by
  apply r.vN;exact aS ⟨N,Up.refl _ _⟩
 |p::l,st,s,ys,N,hv,r=>by
  apply r.pX;intro y ys r1 r2;refine(?_:wpAny _ _ (do holding ys (bindName g.env p.1 y);assignInOrder ((l.map (·.1)).map fun n=>bindName g.env n) ys) _ _ _)
  exact an (cX (wpAny_bindName (nT N (hv p cw) r1 fun s₁ N₁ U₁=>gD (uP l N₁ (fun q hq=>hv q (dZ _ hq)) (U₁.vs r2)) fun _ s₂ z=>⟨z.1,U₁.trans z.2⟩)))
theorem GJ(h:nameAt env line t=some n):∃pos,t=.Name n pos:=by
 induction t using Expr.casesOn with
 |Name id pos=>(refine az (xr h) fun _ aa=>?_;subst aa);exact⟨pos,rfl⟩
 |_=>exact absurd h.symm (vJ _)
theorem um:∀{dU:List Expr} {names:List Str} {vs:List V} {st:St} {Q:St→Prop},dU.map (nameAt env line)=names.map some→dU.length=vs.length→gQ F g.C dU vs st Q→(∀p∈names.zip vs,fA g.C p.1=true)∧Q ⟨rO (names.zip vs) st.vs,st.os⟩
 |[],[],_,st,Q,_,_,h=>⟨fun _ hp=>(nomatch hp),h⟩
 |[],_::_,_,_,_,hn,_,_=>nomatch hn
 |_::_,[],_,_,_,hn,_,_=>nomatch hn
 |_::_,_::_,[],_,_,_,hl,_=>nomatch hl
 |t::dU,n::names,v::vs,st,Q,hn,hl,h=>by
  refine az (List.cons.inj hn) fun q1 q2=>?_;refine bf (GJ q1) fun pos aa=>?_;subst aa;have h:fA g.C n=true∧gQ F g.C dU vs ⟨bX n v st.vs,st.os⟩ Q:=ae h;refine az (um q2 (Nat.succ.inj hl) h.2) fun e1 e2=>⟨fun p hp=>?_,e2⟩;rcases cW.mp hp with rfl|hp
  ·exact h.1
  ·exact e1 p hp
theorem aM.rev(r:aM h ρ vs ys):aM h ρ vs.reverse ys.reverse:=by
 refine⟨by exact RW tf<|RW tf<|r.1,fun i v x e1 e2=>?_⟩
 have hi:i<vs.length:=by have:=(fY.mp e1).1;rwa[tf] at this
 rw[List.getElem?_reverse hi] at e1;rw[List.getElem?_reverse (by rw[←r.1];exact hi),←r.1] at e2
 exact r.2 _ v x e1 e2
theorem Ay(h:nA t e=true):isStarred t=false:=
 tQ (motive:=fun t=>isStarred t=false) (fun _ _=>rfl) (fun _ _ _=>rfl) (fun _ _ _=>rfl) (fun _ _ _ _=>rfl) h
theorem IY{motive:Expr→Prop}(n:∀x p,motive (.Name x p))(s:∀o i p,motive (.Subscript o i p)):y9 t=true→motive t:=by
 induction t using Expr.casesOn with
 |Name=>exact fun _=>n _ _
 |Subscript=>exact fun _=>s _ _ _
 |_=>exact fun h=>(ck h).elim
theorem CT(h:y9 t=true):swappedStores [t,u] e env=pure none:=IY (motive:=fun t=>swappedStores [t,u] e env=pure none) (fun _ _=>rfl) (fun _ _ _=>rfl) h
theorem qh(h:y9 t=true):isStarred t=false:=IY (motive:=fun t=>isStarred t=false) (fun _ _=>rfl) (fun _ _ _=>rfl) h
theorem qe(he:fg F){Q:Fl→St→Prop}(ha:nA t e=true)(h:aI F g.C t v st fun st=>Q .next st)(N:aV g st s ρ)(r:VR s.heap ρ v y):
  wpAny g.m g.A (assignAll y ((assignEach [t] g.env).map (·.2))) (fun _=>kQ g (fun st=>Q .next st) s ρ) cq s:=by
 exact RW (dH (Ay ha) _ _)<|gU he h N r
theorem AD(he:fg F)(hu:Fy F){ts}{e}{pos}{Q}(h:qN F g.C ts e st Q)(N:aV g st s ρ):wpAny g.m g.A (exec (.Assign ts e pos) g.env) (kR g Q s ρ) (mT g Q s ρ) s:=by
 match ts,h with
 |[],h=>exact h.elim
 |_::_::_::_,h=>exact h.elim
 |[t,u],h=>
  refine az (ae h) fun ha h=>?_;rw[Bool.and_eq_true] at ha;rw[arm_exec_Assign];refine an (eQ ?_);refine an (kU (a:=false) rfl ?_);refine RW (au ck)<|an (he.go h N fun y s₁ ρ₁ v cu h N₁ U₁ r₁=>?_);refine an (kU (CT ha.1) ?_);refine RW (dH (qh ha.1) _ _)<|RW (dH (qh ha.2) _ _) ?_;have z:wpAny g.m g.A (do holding [y] (assign t g.env y);assign u g.env y) (fun _=>kQ g (fun st=>Q .next st) s₁ ρ₁) cq s₁:=an (cX (kQ.go (gU he h N₁ r₁) fun _ s₂ ρ₂ j6 h N₂ U₂=>gD (gU he h N₂ (U₂.v r₁)) fun _ _ z=>z.up U₂))
  exact an (gD z fun _ s₂ z=>aS (by cases z with|mk st' ρ' hQ N' U'=>exact .mk .next _ _ hQ N' (U₁.trans U') trivial))
 |[t],h=>
  refine az (ae h) fun ha h=>?_;have fin:∀{s₁:Shared} {ρ₁:Rh} {s':Shared},Up s ρ s₁ ρ₁→kQ g (fun st=>Q .next st) s₁ ρ₁ s'→kR g Q s ρ .next s':=fun U z=>by cases z with|mk st' ρ' hQ N' U'=>exact .mk .next _ _ hQ N' (U.trans U') trivial
  rw[arm_exec_Assign];refine an (eQ ?_);refine bf (zw ha pos.line g.env) fun b hb=>an (kU hb ?_)
  induction b using Bool.casesOn with
  |true=>
   refine RW (aB rfl) ?_;have hc:fH e=true:=by
    cases q:fH e with
    |true=>rfl
    |false=>
     rw[nK q] at hb;exact absurd (bH (fun m:Sem Bool=>match m with|.pure b=>b|_=>true) hb) (by decide)
   exact an (gD (hu hc h N fun{s₀ ρ₀ x s' ρ' v st'} hQ N' r=>qe (g:=g.re s₀ ρ₀) he ha hQ N' r) fun _ s' z=>aS (fin (Up.refl _ _) z))
  |false=>
   refine RW (au ck)<|an (he.go h N fun y s₁ ρ₁ v cu h N₁ U₁ r₁=>?_);rcases sH ha g.env with ho|⟨dU,k,p,line,rfl,ho,a9,j7⟩
   ·refine an (kU ho ?_)
    refine(?_:wpAny _ _ (do assignAll y ((assignEach [t] g.env).map (·.2));pure Flow.next) _ _ _)
    exact an (gD (qe he ha h N₁ r₁) fun _ s₂ z=>aS (fin U₁ z))
   ·refine RW ho ?_
    have Uf:=jJ a9
    generalize dU.filterMap (nameAt g.env line)=names at a9 j7 Uf
    refine an (aS ?_);revert r₁;apply rP h;intro bk vs h r₁;refine az (ae h) fun aa h=>gq aa fun hl hd _=>az (um Uf hl h) fun Tb hQ=>?_;have EF:names.length=vs.length:=a9.trans hl;refine(?_:wpAny _ _ (do
     rule "assign.swapped-stores"
     let items ←unpackItems y names.length none
     assignInOrder (names.reverse.map fun n=>bindName g.env n) items.reverse
     pure Flow.next) _ _ _)
    refine an (wpAny_rule (an ?_));refine RW EF<|qb (N₁.ok.rm.hd hd) r₁ fun ys h' hk rs=>?_;have z:=N₁.grow hk s₁.toks;have VE:(names.zip vs).reverse.map (·.1)=names.reverse:=by(refine RW List.map_reverse<|RW (List.map_fst_zip (ka EF)) rfl)
    have VD:(names.zip vs).reverse.map (·.2)=vs.reverse:=by(refine RW List.map_reverse<|RW (List.map_snd_zip (ka EF.symm)) rfl)
    have z2:=uP (names.zip vs).reverse z.1 (fun p hp=>Tb p (List.mem_reverse.mp hp)) (RW VD rs.rev);rw[VE] at z2;have Tg:((names.zip vs).map (·.1)).Nodup:=RW (List.map_fst_zip (ka EF)) j7;refine an (gD z2 fun _ s₃ q=>aS (.mk .next _ _ hQ (q.1.congr fun x=>?_) (U₁.trans (z.2.trans q.2)) trivial))
    (rewrite [gB];rewrite [gB];(refine RW (List.reverse_reverse _)<|RW (wW Tg _) rfl))
end
end
section
theorem DY(h:a=ar y):decide (a≠ar x)=!(y==x):=by
 subst h;refine EM (y=x) (fun c=>?_) fun c=>?_
 ·exact RW c<|RW (dT _)<|pg fun z=>z rfl
 ·exact RW (gY.mpr c)<|kX fun z=>c (ia z)
theorem uL(x):∀{bM:List (Str×Value)} {es:List (Tx×V)},bM.map (·.1)=es.map (fun e=>ar e.1)→aM h ρ (es.map (·.2)) (bM.map (·.2))→(without bM (ar x)).map (·.1)=(es.filter fun e=>!(e.1==x)).map (fun e=>ar e.1)∧aM h ρ ((es.filter fun e=>!(e.1==x)).map (·.2)) ((without bM (ar x)).map (·.2))
 |[],[],_,_=>⟨rfl,aM.nil⟩
 |[],_::_,hk,_=>nomatch hk
 |_::_,[],hk,_=>nomatch hk
 |kv::bM,e::es,hk,r=>by
  refine az (List.cons.inj hk) fun h1 h2=>?_;have h1:kv.1=ar e.1:=h1;refine az (aM.BH r) fun r1 r2=>az (uL x h2 r2) fun i1 i2=>?_;unfold without at i1 i2 ⊢;refine RW jP<|RW jP<|RW (DY h1) ?_;cases e.1==x
  ·exact RW (aB (by decide:(!false)=true))<|RW (aB (by decide:(!false)=true)) ⟨by(refine RW cV<|RW cV<|RW i1<|RW h1 rfl),aM.cons r1 i2⟩
  ·exact RW (au (by decide:¬(!true)=true))<|RW (au (by decide:¬(!true)=true)) ⟨i1,i2⟩
section
variable{F:bT}{g:Gr}{st:St}{s:Shared}{ρ:Rh}
theorem AC(he:fg F)(h:yR F g.C ts st Q)(N:aV g st s ρ):wpAny g.m g.A (exec (.Delete ts pos) g.env) (kR g Q s ρ) (mT g Q s ρ) s:=by
 match ts,h with
 |[],h=>exact h.elim
 |_::_::_,h=>exact h.elim
 |[t],h=>
 induction t using Expr.casesOn with
 |Subscript o i ip=>
  rw[arm_exec_Delete];refine an (eQ (an ?_));refine(?_:wpAny _ _ (do delete (.Subscript o i ip) g.env;pure ()) _ _ _)
  refine an ?_;rw[arm_delete_Subscript];refine an (he.go h N fun d s₁ ρ₁ dv cu h N₁ U₁ r₁=>an (cX (he.go h N₁ fun k s₂ ρ₂ kv j6 h N₂ U₂ r₂=>an (eQ (an (cX ?_))))));apply jF h (U₂.v r₁);intro r a h hi;apply kj h r₂;intro x t h l;refine aE h fun d hd h=>aE h fun EX Sq h=>?_;refine az (xr Sq) fun kZ aa=>?_;subst aa;have ho:=i8 hd;refine EL (N₂.S.at hi ho) fun bM e0 Ww _ hl hk hv=>?_;have hD:=Ww.dictOf;unfold delItem;refine cX (an (wpAny_sequenceKey hD.typeIs (by decide) ?_))
  refine an (wpAny_callSpecial?_slot (name:=Str.ofString "__delitem__") hD.typeIs PySem.F.slot_dict_delitem
   (call_meetsIn PySem.F.slot_dict_delitem hD.typeIs PySem.F.entry_dict_delitem (PySem.F.args_dict_delitem_2 _ _) (meets_dict_delitem_pairs (PySem.strKind PW g.w) a (kk x t)) (SD bM hD (RW du hl) (RW (gm hk _) kZ) (fun h' V7 sb=>?_))))
  refine bf V7.dictAt fun e1 EG=>?_;have ID:aU (fun b=>b=a) s₂.heap h':=aU.cC sb rfl;have hf:fF (fun b=>b=a) ρ₂ s₂.heap:=fun b o _ m=>by subst m;exact .inl (Rh.dh (db hi))
  refine az (uL x hk hv) fun i1 i2=>?_;have z:=N₂.call (aQ.put N₂.S hi sb (s₂.toks+1) (x:=.dict (d.1.filter fun e=>!(e.1==x)) none) (IM _ e1 EG (fun n (q:(none:Option Nat)=some n)=>nomatch q) (bZ (gw _ _) hl) i1 (i2.keep ID hf (fun _ _ e=>e) aO)));exact aS (wpAny_release (aS (aS (.mk .next _ _ h z.1 ((U₁.trans U₂).trans z.2) trivial))))
 |_=>exact h.elim
end
theorem yz{w:World}{s:Shared}{ρ:Rh}{os:List O}{c:Value}{h':Heap}{e:Addr}{args:List Value}(S:SR w ρ os s.heap)(M:Heap.MadeExcOf s.heap h' e c args)(h1:dK c=true)(h2:c≠.type "frame"):gK c s.heap ρ h' (.ref e):=by
 refine aq M.there fun t h3 _=>?_;exact(RT e _ rfl (Out.new S.aL M.new) (S.fresh M.new) M.new (by refine(?_:1<6);decide) h1 h2 (lL _ h3 rfl rfl) (.inl rfl))
theorem Ly(M:Heap.MadeExc h h' e T args):Heap.MadeExcOf h h' e (.type T) args:=⟨M.keeps,M.new,M.there⟩
theorem xc(h:tO x=some c):x=some (.con c):=by
 induction x using Option.casesOn with
 |none=>exact aJ h
 |some v=>induction v using V.casesOn<;>first|(cases h;rfl)|exact absurd h.symm (vJ _)
theorem Vv(P):(bF P).lookup 78=some (TX P):=by kernel_rfl
theorem Vw(P):∃o,(bF P).lookup 77=some o:=⟨TY P,by kernel_rfl⟩
theorem T1(P):nsOkIn (bF P) 77=true∧nsIn (bF P) 77 "__init__"=some none:=⟨by kernel_rfl,by kernel_rfl⟩
section
variable{F:bT}{g:Gr}{st:St}{s:Shared}{ρ:Rh}
theorem sx(N:aV g st s ρ)(hn:tO (cS g.C x st)=some c)(h:Q c s):wpAny g.m g.A (eval (.Name x np) g.env) Q E s:=
 hY N.ok.cx N.S N.R (xc hn) fun y r=>RW (Cw r) h
theorem Ex(he:fg F){e:Expr}{pos:Pos}{Q:Fl→St→Prop}(hd:g.C.d≠0)(h:BS F g.C e st Q)(N:aV g st s ρ):wpAny g.m g.A (exec (.Raise (some e) none pos) g.env) (kR g Q s ρ) (mT g Q s ρ) s:=by
 have hh:=N.ok.rm.hd hd
 induction e using Expr.casesOn with
 |Name x np=>
  replace h:=ae h
  refine owsi_raiseC hh (sx N h.1 ⟨rfl,rfl⟩) fun h' e M=>?_;have z:=N.grow M.keeps s.toks;exact .mk _ _ _ h.2 z.1 z.2 (yz N.S (Ly M) (by decide) (by decide))
 |Call f args kws Tt=>
  induction f using Expr.casesOn with
  |Name x np=>
   have hg:=ae h;clear h;refine az hg fun aa h=>kT aa fun hn Wg jq VU=>?_;cases mX.mp Wg;refine bf (Vw g.w.params) fun Xg Ux=>?_;have N0:s.heap.Ns 77 (s.heap.nsMap 77):=.of_isNs (isNs_of_in N.S.aL.X (T1 g.w.params).1);have NK:=ns_none_of N.S.aL.X N0 (T1 g.w.params).2;refine wpAny_Raise_call_subU (C:=78) (nm:=Str.ofString "CycleError") (q:=Str.ofString "CycleError") (N:=77) (bs:=[.type "ValueError"]) (hdct:=true) (sn:=[]) (sub:=[]) (ab:=false) (col:=none) (dd:=none) (k0:=some (.ref 69)) (k1:=none) (k2:=some (.str "CycleError" 376)) (k3:=some (.str "CycleError" 384)) (k5:=some (.bool true)) (mN:=s.heap.nsMap 77) PySem.F.excBase_ValueError (by decide) PySem.F.excBase_ValueError (bm:=[.type "ValueError",.type "Exception",.type "BaseException",.type "object"]) (by decide) hh ((eL Tt g.env args).trans jq) NK<|sx N hn ⟨rfl,fc (Q:=fun vs _ st=>af (vs.length≤ax) (Q (.exc (.ref 78)) st)) he VU h N fun a s₂ ρ₂ vs ks j6 h N₂=>have h:=ae h
    (SE (List.map_eq_nil_iff.mp N₂.n) (by(rewrite [←N₂.r.1];refine RW du ?_);exact h.1) (N₂.N.S.aL.X 78 _ (Vv _)) ?_ (.base) (fun h' e M=>?_))⟩
   ·refine AL N0 fun o es ep g1 g2=>?_
    rw[N.S.aL.X 77 _ Ux] at g1;cases a7 g1;exact WZ _ es ep (N₂.N.S.aL.X 77 _ Ux) g2
   ·have z:=N₂.N.grow M.keeps s₂.toks
    exact .mk _ _ _ h.2 z.1 (N₂.U.trans z.2) ((yz N₂.N.S M (by decide) (by decide)).tG fun _ _ e=>N₂.U.al e)
  |_=>exact h.elim
 |_=>exact h.elim
end
end
section
theorem DT(P):exmOne (bF P) (.type "StopIteration") (.type "StopIteration")=some true:=by kernel_rfl
theorem Ai(P):exmOne (bF P) (.ref 78) (.ref 78)=some true:=by kernel_rfl
section
variable{w:World}{A:Around}{E:Value→Shared→Prop}{s:Shared}{env:Env}
theorem FZ
  (h:wpAny (model PW w) A body Q (fun e s₁=>wpAny (model PW w) A (do leaving env e;handleBy e env (h₀::hs)) Q E s₁) s):
  wpAny (model PW w) A (tryStmt false body (h₀::hs) (pure .next) [] env) Q E s:=by
 unfold tryStmt;simp only[List.isEmpty_nil,if_true,List.isEmpty_cons,Bool.false_and,Bool.false_eq_true,if_false];refine an (wpAny_attempt (bw h (fun f s₁ h₁=>?_) fun e s₁ h₁=>?_))
 ·induction f using Flow.casesOn<;>exact aS h₁
 ·have e1:(do leaving env e;handleBy e env (h₀::hs))=(do noteFrame e env;setFlight e none;handleBy e env (h₀::hs)):=by
   unfold leaving;simp only[bind_assoc]
  rw[e1] at h₁;exact h₁
end
noncomputable def Gr.hand(g:Gr)(e:Value):Gr:=⟨g.w,g.A.mark (some e),⟨g.C.names,0⟩,g.env,g.s₀,g.ρ₀⟩
section
variable{F:bT}{g:Gr}{st:St}{s s₁:Shared}{ρ ρ₁:Rh}
theorem aV.hand(N:aV g st s ρ)(e:Value):aV (g.hand e) st s ρ:=by
 have rm:=N.ok.rm;have h:=N.ok.cx;refine⟨⟨⟨fun h=>absurd rfl h,?_,?_⟩,⟨h.kind,h.glob,h.blt,h.loc,h.IH,h.NP,h.Us,h.Uo,h.RN,h.Ur,h.old,h.Nr,h.apart⟩,N.ok.top⟩,N.fr,N.P⟩
 ·exact dy (vL (Nat.add_le_add_left (Nat.mul_le_mul_left _ (c9 _)) _) _) rm.depth
 ·exact dy (vL (Nat.add_le_add_left (Nat.mul_le_mul_left _ (c9 _)) _) _) rm.units
theorem aV.nu(N:aV g st s ρ)(U:Up s₁ ρ₁ s ρ)(h0:∀a o,g.s₀.heap.get? a=some o→∃o',s₁.heap.get? a=some o')(k:aU (Nu s₁.heap ρ s.heap) s.heap h')(kz:Fz ρ s.heap h')(al:∀x o,s.heap.get? x=some o→∃o',h'.get? x=some o'):
  aV g st {s with heap:=h'} ρ∧Up s₁ ρ₁ {s with heap:=h'} ρ:=by
 have hn:∀{x},Nu s₁.heap ρ s.heap x→Nu g.s₀.heap ρ s.heap x:=fun{x} m=>⟨(by
  cases q:g.s₀.heap.get? x with
  |none=>rfl
  |some o=>refine bf (h0 x o q) fun o' q'=>?_;rw[m.1] at q';exact aJ q'),m.2⟩
 have P:=N.P.exc (k.mono fun a o _ m=>hn m) kz al;have no:∀{a o},s₁.heap.get? a=some o→¬Nu s₁.heap ρ s.heap a:=fun e m=>by rw[m.1] at e;exact aJ e
 refine⟨⟨N.ok,N.fr.to fun L o h1 h2 h3 h4 h5=>?_,P⟩,⟨fun r=>(U.v r).keep k (fun a o e m=>.inr (m.2.2.2 o e).1) (fun _ _ e=>e) aO,U.l,fun e h1 h2=>?_,fun e=>(U.al e).elim fun _ e=>al _ _ e,fun e h1 h2 h3 h4=>?_⟩⟩
 ·refine vG h5 fun es ep h5=>o9 (k.data h1 fun q=>by
   refine az (q.2.2.2 o h1) fun _ aa=>bf aa fun vs d=>?_;rw[h5] at d;cases d) fun o' g1 g2 g3 _=>?_
  exact⟨h2,o',g1,g3.trans h4,es,ep,g2.trans h5⟩
 ·have z:=U.pl e h1 h2
  exact⟨k.get z.1 (no e) (jb h2),z.2⟩
 ·have z:=U.pz e h1 h2 h3 h4
  exact⟨k.get z.1 (no e) h4,z.2⟩
theorem zY(X:gK c h₀ ρ s.heap e)
  (h:∀h',aU (Nu h₀ ρ s.heap) s.heap h'→Fz ρ s.heap h'→(∀x o,s.heap.get? x=some o→∃o',h'.get? x=some o')→Q () {s with heap:=h'}):wpAny (model PW w) A (setFlight e none) Q E s:=by
 refine N1 X fun a vs aa g2 g3 g4 g5 g6 g7 aP g9=>kS aP fun oe he hc hd=>?_;clear X;subst aa;refine aA g9 (fun g9=>?_) fun aP=>UQ aP fun tb y0 t1 t2 t3 t4 t5 t6 JB=>kS JB fun Nh u1 u2 u3=>?_
 ·unfold setFlight
  refine an (wpAny_field he hd g9 ?_);exact RW (au (by decide))<|aS (h s.heap (aU.refl _ _) (fun _ _ e _ _ _=>e) fun x o e=>⟨o,e⟩)
 ·refine qz he hd t1 t5 u1 u3 t6 fun h' k hx al _ _=>h h' (k.mono fun x o e q=>?_) (r7 hx u1 (by refine RW u2 ?_;simp)) al
  subst q;exact qU t4 t3 t2 (fun o' e'=>by rw[u1] at e';cases a7 e';exact⟨jn (by refine RW u2 ?_;decide),y0,u3⟩)
theorem oC(hx:EJ F)(h:mK F g.C cx (b₀::hb) c st Q)(N:aV g st s ρ)(U:Up s₁ ρ₁ s ρ)(h0:∀a o,g.s₀.heap.get? a=some o→∃o',s₁.heap.get? a=some o')(AT:g.env.frame=some g.env.locals)(X:gK c s₁.heap ρ s.heap e):
  wpAny g.m g.A (do leaving g.env e;handleBy e g.env [.ExceptHandler (some (.Name cx cp)) none (b₀::hb) OL]) (kR g Q s₁ ρ₁) E s:=by
 refine az (ae h) fun aa h=>az aa fun hc hn=>an (oy N AT X (fun _ _ e=>U.al e) fun h₁ k₁ Vt WQ X₁=>?_);refine az (N.nu U h0 k₁ Vt WQ) fun N₁ U₁=>?_;refine N1 (id X₁) fun a vs aa g2 g3 g4 g5 g6 g7 aP g9=>kS aP fun oe he jC hd=>?_;subst aa;refine wpAny_handleBy_cons (codeAny_handlers_test ?_) (by intro q;cases q)
 refine sx (g:=g.hand (.ref a)) (N₁.hand (.ref a)) hn ?_;have LT:Looks g.m h₁ (typeOf (.ref a)) c:=by
  exact RS jC<|(Looks.ld (part:=none) he).andThen .now
 have hm:exmOne (bF g.w.params) c c=some true:=by
  unfold Jf at hc;refine aA (pQ.mp hc) (fun hc=>?_) fun hc=>?_<;>cases cO.mp hc
  ·exact DT _
  ·exact Ai _
 refine(exm_one N₁.S.aL.X LT hm).here<|codeAny_handlers_suite (zY X₁ fun h₂ k₂ Vs WP=>?_);refine az (N₁.nu U₁ h0 k₂ Vs WP) fun N₂ U₂=>bw (hx (g:=g.hand (.ref a)) h (N₂.hand (.ref a))) (fun fl s₃ z=>?_) fun e s₃ z=>by cases z with|mk _ _ _ hQ=>exact hQ.elim
 cases z with
 |mk f st' ρ' hQ N' U' r=>exact .mk f st' ρ' (by induction f using Fl.casesOn<;>first|exact hQ|exact hQ.elim) ⟨N.ok,N'.fr,N'.P⟩ (U₂.trans U') r
end
section
variable{prog:Program}{w:World}{A:Around}{E:Value→Shared→Prop}{s:Shared}
theorem vc(hit:s.heap.get? it=some (nw l k))(hl:s.heap.get? l=some {cls:=.type "list",data:=.seq items n})(hx:items[k]? =some x)
  (hQ:∀h',h'.get? it=some (nw l (k+1))→Heap.SameBut it s.heap h'→Q (.done (.ret x)) {s with heap:=h'}):wpAny (model prog w) A (Builtin.«list_iterator.__next__» ⟨[.ref it],[]⟩) Q E s:=by
 refine(?_:wpAny _ _ (field (.ref it) 0>>=_) _ _ s);refine an (wpAny_field hit rfl (x:=.ref l) rfl ?_);refine(?_:wpAny _ _ (if(Value.ref l==Value.none)=true then _ else _) _ _ s)
 rw[if_neg (show¬((Value.ref l==Value.none)=true) from Bool.false_ne_true)];refine(?_:wpAny _ _ (field (.ref it) 1>>=_) _ _ s);refine an (wpAny_field hit rfl (x:=.int k 0) rfl ?_);refine(?_:wpAny _ _ (seqItems? (.ref l)>>=_) _ _ s);refine an (wpAny_seqItems hl rfl ?_);simp only[Int.toNat_natCast,hx];exact an (wpAny_setField hit rfl (by refine(?_:1<2);decide) (aS (hQ _ (gZ _ hit rfl) (gF ..))))
theorem wX(hh:A.handled=none)(hit:s.heap.get? it=some (nw l k))(hl:s.heap.get? l=some {cls:=.type "list",data:=.seq items n})(hx:items[k]? =none)
  (hQ:∀h' vs,h'.get? it=some {cls:=.type "list_iterator",data:=.fields vs}→Heap.SameBut it s.heap h'→∀y3 e vs',(∀b o,h'.get? b=some o→y3.get? b=some o)→h'.get? e=none→y3.get? e=some {cls:=.type "StopIteration",data:=.fields vs'}→1<vs'.size→vs'[1]? =some .none→E (.ref e) {s with heap:=y3}):wpAny (model prog w) A (Builtin.«list_iterator.__next__» ⟨[.ref it],[]⟩) Q E s:=by
 refine(?_:wpAny _ _ (field (.ref it) 0>>=_) _ _ s);refine an (wpAny_field hit rfl (x:=.ref l) rfl ?_);refine(?_:wpAny _ _ (if(Value.ref l==Value.none)=true then _ else _) _ _ s)
 rw[if_neg (show¬((Value.ref l==Value.none)=true) from Bool.false_ne_true)];refine(?_:wpAny _ _ (field (.ref it) 1>>=_) _ _ s);refine an (wpAny_field hit rfl (x:=.int k 0) rfl ?_);refine(?_:wpAny _ _ (seqItems? (.ref l)>>=_) _ _ s);refine an (wpAny_seqItems hl rfl ?_);simp only[Int.toNat_natCast,hx];refine an (wpAny_rule (an (wpAny_setField hit rfl (by refine(?_:0<2);decide) ?_)))
 refine(?_:wpAny _ _ (newExc (.type "StopIteration") []>>=_) _ _ _);refine an ?_;simp only[newExc,newTuple];refine an (rn ?_ (by size_fits))
 refine an (m:=firstArgMember _ _) (kU (a:=Value.none) (by first|rfl|(simp only[firstArgMember];rfl)) ?_)
 refine rn ?_ (by size_fits)
 simp only[raiseNew];refine an (wpAny_handled ?_);refine RW hh<|an (aS (wpAny_throw ?_));refine hQ _ _ (gZ _ hit rfl) (gF ..) _ _ _ (fun b o e=>gp _ (gp _ e)) ?_ (dm _ rfl) ?_ ?_
 ·exact RW (mW _ _)<|Heap.get?_none_of_le (Nat.le_succ _)
 ·refine RW Array.size_append (?_:1<6+_);lia
 ·rw[Array.getElem?_append_left (by refine(?_:1<6);decide)];rfl
end
section
variable{prog:Program}{w:World}{A:Around}{E:Value→Shared→Prop}{s:Shared}
theorem wT(h:Q () s):wpAny (model prog w) A (checkBoundCall "list_iterator.__next__" ⟨[.ref a],[]⟩) Q E s:=by
 have oX:=args_listiter_next (.ref a);unfold argsOk at oX;unfold checkBoundCall;have hk:builtinKind "list_iterator.__next__"=some .slot:=by refine RW builtinKind_eq_fast ?_;kernel_rfl
 cases hs:Manifest.signature? "list_iterator.__next__" with
 |none=>exact aS h
 |some sig=>
  rw[hs] at oX;refine RW hk ?_;dsimp only;exact RW (aB (by decide))<|kU oX h
theorem Au(hp:s.heap.get? p=some (jD "list_iterator.__next__" a))
  (h:wpAny (model prog w) A.in1 (Builtin.«list_iterator.__next__» ⟨[.ref a],[]⟩) (fun fin s'=>∃v,fin=.done (.ret v)∧Q v s') E s):wpAny (model prog w) A (call (.ref p) []) Q E s:=by
 have hp:s.heap.get? p=some {cls:=.type "method-wrapper",data:=.fields #[.builtin "list_iterator.__next__",.ref a]}:=hp;refine jw (nf ?_);refine(?_:wpAny _ _ (callAny (.ref p) _) _ _ _);refine nd_load hp<|nd_bind (aS ?_);dsimp only;refine RW (aB (by decide)) ?_
 simp only[List.getElem?_toArray,List.getElem?_cons_zero,List.getElem?_cons_succ];refine RW (aB (by decide))<|an (wT ?_)
 refine aS ⟨pN _ (by decide+kernel),lT entry_listiter_next ?_⟩
 refine RW (pT slot_listiter_next.plain _) ?_;exact bw h (fun fin s' z=>by(refine aq z fun v aa q=>?_;clear z;subst aa);exact q) fun _ _ z=>z
end
theorem lJ(o i)(sp)(args)(keywords:List Keyword)(pos)(env):eval (.Call (.Subscript o i sp) args keywords pos) env=(do
  callWith pos (←eval (.Subscript o i sp) env) [] (backTo pos (starEach args env)) (backToKw pos (keywordEach keywords env))):=rfl
section
variable{F:bT}{g:Gr}{st:St}{s:Shared}{ρ:Rh}
theorem CG{os:List O}{v:V}{K:Nat→Nat→Nat→Prop}{P:V→Prop}(h:nC os v K)(f:∀w t l j,os[w]? =some (.wrap "list_iterator.__next__" t)→os[t]? =some (.iter l j)→K t l j→P (.ref w)):P v:=by
 apply rS h;intro w h;refine aE h fun ob hw h=>?_
 induction ob using O.casesOn with
 |wrap id t=>
  refine az (ae h) fun aa h=>?_;subst aa;refine aE h fun ob ht h=>?_
  induction ob using O.casesOn with
  |iter l j=>exact f w t l j hw ht h
  |_=>exact h.elim
 |_=>exact h.elim
theorem zK(he:fg F){o i:Expr}{sp cp:Pos}{K:Nat→Nat→Nat→St→Prop}(hs:gO i=false)(h:mH F g.C o i st fun v st=>nC st.os v fun t l j=>K t l j st)(N:aV g st s ρ){Q:Value→Shared→Prop}{E:Value→Shared→Prop}
  (hQ:∀{s₁ ρ₁ cu t l j it al},K t l j cu→aV g cu s₁ ρ₁→Up s ρ s₁ ρ₁→ρ₁.l[t]? =some it→s₁.heap.get? it=some (nw al j)→ρ₁.l[l]? =some al→wpAny g.m g.A.in1 (Builtin.«list_iterator.__next__» ⟨[.ref it],[]⟩) (fun fin s'=>∃v,fin=.done (.ret v)∧Q v s') E s₁):
  wpAny g.m g.A (eval (.Call (.Subscript o i sp) [] [] cp) g.env) Q E s:=by
 rw[lJ];refine an (gD (CF he hs h N) fun x s₁ z=>?_);cases z with
 |mk v cu ρ₁ h N₁ U₁ r₁=>
 revert r₁;apply CG h;intro w t l j hw ht h r₁;have hk:nN cu.os (.ref w)=true:=by refine(?_:(cu.os[w]?).any _=true);exact RW hw rfl
 refine cj (evalArgs_kw_nil rfl (wpAny_evalAll_nil ⟨lB N₁.S r₁ hk,?_⟩));apply r₁.gX;intro pa hi;exact aq (N₁.S.at hi hw) fun it e1 e2=>aq (N₁.S.at e1 ht) fun al e3 e4=>Au e2 (hQ h N₁ U₁ e1 e4 e3)
theorem xi(hc:fH e=false)
  (h:wpAny g.m g.A (eval e g.env) (fun y s₁=>wpAny g.m g.A (assign (.Name x xp) g.env y) (fun _ s₂=>Q .next s₂) E s₁) E s):wpAny g.m g.A (exec (.Assign [.Name x xp] e pos) g.env) Q E s:=by
 rw[arm_exec_Assign];refine an (eQ ?_)
 ((refine RW (show swapsWithSole [.Name x xp] e pos.line g.env=swapsWith e (some (.Name x xp)) pos.line g.env from rfl) ?_);rewrite [nK hc])
 refine an (aS ?_);refine RW (au (by decide))<|an (bw h (fun y s₁ h₁=>?_) fun _ _ z=>z)
 refine RW (show swappedStores [.Name x xp] e g.env=pure none from rfl)<|an (aS ?_);refine(?_:wpAny _ _ (do assignAll y ((assignEach [.Name x xp] g.env).map (·.2));pure Flow.next) _ _ _)
 exact an (bw h₁ (fun _ s₂ h₂=>aS h₂) fun _ _ z=>z)
theorem M5(he:fg F)(hx:EJ F){body:List Stmt}{hs:List ExceptHandler}{os fs:List Stmt}{Q:Fl→St→Prop}(h:N2 F g.C body hs os fs st Q)(N:aV g st s ρ):wpAny g.m g.A (exec (.Try body hs os fs pos) g.env) (kR g Q s ρ) (mT g Q s ρ) s:=by
 refine gi h fun h=>gi h fun h=>wb h fun h1 h=>Lj h fun ty nm hb OL h=>Dm h fun te h=>i7 h fun cx cp h=>Dn h fun h=>Do h fun b₀ r h=>az (ae h) fun aa h=>az aa fun hd h0=>?_;have AT:=N.ok.cx.Ur h0;have old:∀a o,g.s₀.heap.get? a=some o→∃o',s.heap.get? a=some o':=N.P.alive;rw[arm_exec_Try];refine an (eQ (FZ ?_));refine EM (I0 body=true) (fun c=>?_) fun c=>?_
 ·rw[if_pos c] at h
  refine bw (hx h N) (fun fl s₁ z=>?_) fun e s₁ z=>?_
  ·cases z with
   |mk f st' ρ' hQ N' U' r=>induction f using Fl.casesOn<;>first|exact .mk _ _ _ hQ N' U' r|(induction fl using Flow.casesOn<;>exact r.elim)
  ·cases z with
   |mk c st' ρ' hQ N' U' X=>exact oC hx hQ N' U' old AT X
 ·rw[if_neg c] at h
  refine B1 h fun a b h=>GA h fun ts e ap h=>wb h fun t h=>i7 h fun x xp h=>n4 h fun f as ks Xx h=>Gx h fun o i sp h=>gi h fun h=>gi h fun h=>Gz h fun bp h=>rj (xi rfl (zK (K:=fun t l j st=>am (listAt st.os l) fun vs=>match vs[j]? with
   |some v=>af (fA g.C x=true)<|Q .brk ⟨bX x v st.vs,st.os.set t (.iter l (j+1))⟩
   |none=>mK F g.C cx (b₀::r) (.type "StopIteration") ⟨st.vs,st.os.set t .dead⟩ Q) he (ae h).1 (ae h).2 N fun{s₁ ρ₁ cu t l j it al} h N₁ U₁ e1 e2 e3=>aE h fun vs xt h=>?_))
  refine ez (N₁.S.at e3 (dF xt)) fun ws n e4 _ e5=>aA (e5.R7 j) (fun aa=>az aa fun q1 q2=>?_) fun aP=>ez aP fun v y q1 q2 rx=>?_
  ·rw[q1] at h
   refine wX (N₁.ok.rm.hd hd) e2 e4 q2 fun h' UV gd Sf y3 e UU hk Sr Ws jp V2=>az (N₁.call (aQ.put N₁.S e1 Sf s₁.toks (x:=.dead) ⟨UV,gd⟩)) fun N₂ U₂=>az (N₂.grow hk s₁.toks) fun N₃ U₃=>?_;have X:gK (.type "StopIteration") h' ρ₁ y3 (.ref e):=(RT e UU rfl (Out.new N₂.S.aL Sr) (N₂.S.fresh Sr) Sr jp (by decide) (by decide) (lL _ Ws rfl rfl) (.inl V2))
   have U:=U₁.trans U₂;exact oC (s:={s₁ with heap:=y3}) hx h N₃ (U.trans U₃) old AT (X.tG fun _ _ e=>U.al e)
  ·rw[q1] at h
   refine vc e2 e4 q2 fun h' gd Sf=>(aK y rfl ?_);refine az (N₁.call (aQ.put N₁.S e1 Sf s₁.toks (x:=.iter l (j+1)) (aK al e3 gd))) fun N₂ U₂=>?_;have z:=fW (g:=g) (st:=⟨cu.vs,cu.os.set t (.iter l (j+1))⟩) (t:=.Name x xp) (v:=v) (Q:=fun st=>Q .brk st) he h N₂ (U₂.v rx);refine gD z fun _ s₃ z=>?_;cases z with|mk st' ρ' hQ N' U'=>exact rj (wpAny_Break (.mk .brk _ _ hQ N' ((U₁.trans U₂).trans U') trivial))
end
end
section
noncomputable def dO(ke:Option Expr)(elt t it:Expr)(ifs:List Expr)(sc:Scope)(pos:Pos):Expr:=match ke with
 |none=>.ListComp elt [⟨t,it,ifs,0⟩] sc pos
 |some k=>.DictComp k elt [⟨t,it,ifs,0⟩] sc pos
noncomputable def wt(ke:Option Expr)(elt:Expr)(D:Addr)(env:Env):Sem Unit:=match ke with
 |none=>do let _ ←call (.builtin "list.append") [.ref D,←eval elt env]
 |some kx=>do
  let kv ←eval kx env;let vv ←holding [kv] (eval elt env)
  standAt {kx.pos with endLine:=elt.pos.endLine,endCol:=elt.pos.endCol}
  holding [kv,vv] (dictSet D kv vv)
noncomputable def tA(env:Env):Expr→Bool→Sem (ForInStep Bool):=fun c r=>if r=true then do let ok ←isTrue c env (eval c env);pure (ForInStep.yield ok) else pure (ForInStep.yield r)
theorem vk(ke:Option Expr)(elt t it)(ifs)(sc)(pos)(a)(D)(env):
  compTurn (dO ke elt t it ifs sc pos) 0 a (.ref D) env=(do
   standAt it.pos
   match←pyNext a with
   |none=>pure (.done .next)
   |some v=>
    letOwnedTupleGo t a v
    assign t env v
    let ok ←forIn ifs true (tA env)
    if ok=true then
     wt ke elt D env
     again (.compLoop (dO ke elt t it ifs sc pos) 0 a (.ref D) env)
    else again (.compLoop (dO ke elt t it ifs sc pos) 0 a (.ref D) env)):=by induction ke using Option.casesOn<;>rfl
section
variable{w:World}{A:Around}{s:Shared}{env:Env}
theorem FN
  (h:wpAny (model PW w) A (pyNext (.ref a)) (fun r s₁=>match r with
   |none=>R (.ok .next) s₁
   |some v=>(∃o,s₁.heap.get? a=some o∧dK o.cls=true)∧wpAny (model PW w) A (assign t env v) (fun _ s₂=>wpAny (model PW w) A (forIn ifs true (tA env)) (fun ok s₃=>
     if ok=true then wpAny (model PW w) A (wt ke elt D env) (fun _ s₄=>codeAny (model PW w) A (.compLoop (dO ke elt t it ifs sc pos) 0 (.ref a) (.ref D) env) R s₄) cq s₃
     else codeAny (model PW w) A (.compLoop (dO ke elt t it ifs sc pos) 0 (.ref a) (.ref D) env) R s₃) cq s₂) cq s₁) cq s):codeAny (model PW w) A (.compLoop (dO ke elt t it ifs sc pos) 0 (.ref a) (.ref D) env) R s:=by
 refine nf ?_;have e1:(model PW w).den (.compLoop (dO ke elt t it ifs sc pos) 0 (.ref a) (.ref D) env)=(compTurn (dO ke elt t it ifs sc pos) 0 (.ref a) (.ref D) env).onRaise (fun x=>do noteFrame x env;theTreesLotGoes x):=by induction ke using Option.casesOn<;>rfl
 have e2:A.under (.compLoop (dO ke elt t it ifs sc pos) 0 (.ref a) (.ref D) env)=A:=by induction ke using Option.casesOn<;>rfl
 refine RW e1<|RW e2<|wpAny_noted ?_;rw[vk];refine an (eQ (an (gD h fun r s₁ h₁=>?_)))
 induction r using Option.casesOn with
 |none=>exact aS h₁
 |some v=>
  refine az h₁ fun aa h₁=>aq aa fun o g1 g2=>an (uu g1 g2 (an (gD h₁ fun _ s₂ h₂=>an (gD h₂ fun ok s₃ h₃=>?_))))
  induction ok using Bool.casesOn with
  |false=>exact aS ⟨rfl,h₃⟩
  |true=>exact an (gD h₃ fun _ s₄ h₄=>aS ⟨rfl,h₄⟩)
theorem l7:∀(es:List Expr),forIn es false (tA env)=(pure false:Sem Bool)
 |[]=>by(refine RW List.forIn_nil rfl)
 |e::r=>by
  rw[List.forIn_cons];refine(?_:(do
   let x ←(pure (ForInStep.yield false):Sem (ForInStep Bool))
   match x with
   |.done b=>pure b
   |.yield b=>forIn r b (tA env))=_)
  exact RW (pure_bind _ _)<|l7 r
end
section
variable{F:bT}{g:Gr}{st st':St}{s s':Shared}{ρ ρ':Rh}
theorem tZ(ht:xw F):∀(es:List Expr) {st:St} {s:Shared} {ρ:Rh} {Q:Bool→St→Prop},dA F g.C .And es st Q→aV g st s ρ→wpAny g.m g.A (forIn es true (tA g.env)) (AH g Q s ρ) cq s
 |[],st,s,ρ,Q,h,N=>RW List.forIn_nil<|aS (.mk _ _ h N (Up.refl _ _))
 |e::r,st,s,ρ,Q,h,N=>by
  rw[List.forIn_cons];refine an ?_;refine(?_:wpAny _ _ (do let ok ←isTrue e g.env (eval e g.env);pure (ForInStep.yield ok)) _ _ _)
  refine an (ht.go h N fun c s₁ ρ₁ cu h N₁ U₁=>aS ?_)
  induction c using Bool.casesOn with
  |false=>
   dsimp only;exact RW (l7 _)<|aS (.mk _ _ h N₁ U₁)
  |true=>exact gD (tZ ht r h N₁) fun _ _ z=>z.up U₁
theorem zx(hv:VR h ρ v y)(hk:bM.map (·.1)=es.map (fun e=>ar e.1))(hn:(bM.map (·.1)).Nodup)(r:aM h ρ (es.map (·.2)) (bM.map (·.2))):
  (stored bM (ar n) y).map (·.1)=(dJ es n v).map (fun e=>ar e.1)∧aM h ρ ((dJ es n v).map (·.2)) ((stored bM (ar n) y).map (·.2))∧(stored bM (ar n) y).length≤bM.length+1:=by
 unfold stored;refine RW (any_keys hk) ?_;cases q:es.any (fun e=>e.1==n) with
 |true=>refine RW (aB rfl)<|RW (bW _) ?_;exact(cE (by(rewrite [uq];(refine RW hk<|RW (qk q) rfl))) (jV hv hk hn r q) (Nat.le_succ _))
 |false=>
  exact RW (au ck)<|RW (n0 q)<|RW b4 (cE (RW cz<|RW cz<|RW hk rfl) (RW cz<|RW cz<|r.append (aM.cons hv aM.nil)) (bI _))
def rK(w:World)(ke:Option Expr)(h:Heap)(ρ:Rh)(ai:List (V×V))(D:Addr):Prop:=match ke with
 |none=>∃ws n,h.get? D=some (b0 false ws n)∧aM h ρ (ai.map (·.2)) ws
 |some _=>∃bM e es,rH ai=some es∧h.DictAt (strKind PW w) D bM e∧bM.map (·.1)=es.map (fun e=>ar e.1)∧aM h ρ (es.map (·.2)) (bM.map (·.2))∧bM.length≤ai.length
theorem rK.obj(r:rK w ke h ρ ai D):∃o,h.get? D=some o∧o.cls≠.type "frame":=by
 induction ke using Option.casesOn with
 |none=>
  exact fJ r fun ws n e _=>(aK _ e (by simp[b0]))
 |some _=>
  refine mU r fun _ _ _ _ aa _=>xz aa fun o es e c d _=>?_;exact aK o e (by rw[c.1];simp)
theorem rK.to(r:rK w ke h ρ ai D)(k:∀o,h.get? D=some o→h'.get? D=some o)(hv:∀{v x},VR h ρ v x→VR h' ρ' v x):rK w ke h' ρ' ai D:=by
 have hs:∀{vs ws},aM h ρ vs ws→aM h' ρ' vs ws:=fun q=>⟨q.1,fun i v x e1 e2=>hv (q.2 i v x e1 e2)⟩
 induction ke using Option.casesOn with
 |none=>
  exact fJ r fun ws n e q=>(pK ws n (k _ e) (hs q))
 |some _=>
  exact Nw r fun bM e es q1 q2 q3 q4 q5=>(E1 bM e es q1 (q2.at fun o e=>k o e) q3 (hs q4) q5)
structure Made(g:Gr)(ke:Option Expr)(D:Addr)(ai:List (V×V))(st:St)(s:Shared)(ρ:Rh):Prop where
 N:aV g st s ρ
 D0:g.s₀.heap.get? D=none
 Dz:D∈ρ.z
 Dl:D∉ρ.l
 zn:N0≤D
 r:rK g.w ke s.heap ρ ai D
structure xx(g:Gr)(ke:Option Expr)(a D:Addr)(ai:List (V×V))(bj:V)(n:Nat×Nat)(k:Nat)(st:St)(s:Shared)(ρ:Rh):Prop where
 M:Made g ke D ai st s ρ
 it:vE s.heap ρ bj n k a
 a0:g.s₀.heap.get? a=none
 Be:a∉ρ.all
 Fx:N0≤a
section
variable{ke:Option Expr}{a D:Addr}{ai:List (V×V)}{bj:V}{n:Nat×Nat}{k:Nat}
theorem xx.up(m:xx g ke a D ai bj n k st s ρ)(N:aV g st' s' ρ')(U:Up s ρ s' ρ'):xx g ke a D ai bj n k st' s' ρ':=by
 have M:=m.M;refine kS m.it.obj.tB fun o g1 g2 _=>az (U.pl g1 m.Be g2) fun h1 h2=>aq M.r.obj fun oD e c=>gq (U.pz e M.Dz M.Dl M.zn c) fun k1 k2 k3=>?_;exact⟨⟨N,M.D0,k2,k3,M.zn,M.r.to (fun o' e'=>by rw[e] at e';cases a7 e';exact k1) U.v⟩,m.it.keep (fun o' e=>by rw[g1] at e;cases a7 e;exact h1) U.v U.l,m.a0,h2,m.Fx⟩
theorem xx.ne(m:xx g ke a D ai bj n k st s ρ):a≠D:=fun q=>m.Be (q▸cY _ m.M.Dz)
theorem xx.made(m:xx g ke a D ai bj n k st s ρ)(sb:Heap.SameBut D s.heap h')(t)(hr:(∀{v x},VR s.heap ρ v x→VR h' ρ v x)→rK g.w ke h' ρ cP D)(hh:∃o,h'.get? D=some o):xx g ke a D cP bj n k st {s with heap:=h',toks:=t} ρ:=by
 have M:=m.M;have hz:D∈ρ.all:=cY _ M.Dz;exact aq M.r.obj fun oD e c=>az (M.N.side M.D0 M.Dl M.zn e (fun q=>M.N.R.out (q▸hz)) (fun x d e q=>(M.N.R.cells x d e).2.1 (q▸hz)) c (.inl hz) sb.extBut (fun _=>hh) t) fun N' up=>⟨⟨N',M.D0,M.Dz,M.Dl,M.zn,hr up⟩,m.it.keep (fun o e=>sb.extBut a o m.ne e) up id,m.a0,m.Be,m.Fx⟩
theorem Ap(h:rH ai=some es):rH (ai++[(.str x,v)])=some (dJ es x v):=by
 unfold rH at h ⊢;exact RW List.foldlM_append<|RW h rfl
theorem Hw(he:fg F){K:St→List (V×V)→Prop}(h:ba F g.C ke elt st ai K)(m:xx g ke a D ai bj n k st s ρ){R:Shared→Prop}
  (hR:∀s' st' cP ρ',K st' cP→xx g ke a D cP bj n k st' s' ρ'→R s'):wpAny g.m g.A (wt ke elt D g.env) (fun _ s'=>R s') cq s:=by
 induction ke using Option.casesOn with
 |none=>
  have h:F.ev g.C elt st fun x st=>ai.length<ax∧K st (ai++[(.none,x)]):=h;refine(?_:wpAny _ _ (eval elt g.env>>=fun y=>call (.builtin "list.append") [.ref D,y]>>=fun _=>pure ()) _ _ _);refine an (he.go h m.M.N fun y s₁ ρ₁ v cu h N₁ U₁ r₁=>an ?_);have m₁:=m.up N₁ U₁;refine fJ m₁.M.r fun ws j g1 g2=>?_;have a9:ws.length=ai.length:=by(rewrite [←g2.1];(refine RW (bW _) rfl))
  have hl:=h.1;rw[bc] at hl;have e:=gZ (Obj.mapSeq fun xs=>xs.push y) g1 rfl;refine call_meets PySem.F.slot_list_append (aK _ g1 rfl) PySem.F.entry_list_append (PySem.F.args_list_append_2 _ _) (list_append D ws.toArray j y (by refine RW fh<|RW du ?_;lia)) ⟨g1,aS (hR _ _ _ _ h.2 (m₁.made (gF s₁.heap D (Obj.mapSeq fun xs=>xs.push y)) s₁.toks (fun up=>(pK (ws++[y]) (j+1) ?_ ?_)) ⟨_,e⟩))⟩
  ·refine RW e ?_;simp[b0,Obj.mapSeq]
  ·refine RW cz ?_
   have q:=aM.append g2 (aM.cons r₁ aM.nil);exact⟨q.1,fun i v z e1 e2=>up (q.2 i v z e1 e2)⟩
 |some kx=>
  have h:F.ev g.C kx st fun kv st=>F.ev g.C elt st fun x st=>af (kv.text?.isSome=true) (ai.length<ax∧K st (ai++[(kv,x)])):=h;refine an (he.go h m.M.N fun Xo s₁ ρ₁ kv cu h N₁ U₁ r₁=>?_);refine an (cX (he.go h N₁ fun y s₂ ρ₂ x j6 h N₂ U₂ r₂=>an (eQ (cX ?_))));have m₂:=(m.up N₁ U₁).up N₂ U₂;refine gq (ae h) fun hk hl hK=>bf (vM.mp hk) fun p hp=>?_;cases c8 hp;refine bf (U₂.v r₁).E8 fun t aa=>?_;subst aa;refine Nw m₂.M.r fun bM e es q1 q2 q3 q4 q5=>?_;rw[bc] at hl;refine gq (zx (n:=p) r₂ q3 q2.nodup q4) fun z1 z2 z3=>oJ (knd:=PySem.strKind PW g.w) (k:=ar p) (kk p t) q2 (fun h' vu sb=>hR _ _ _ _ hK (m₂.made sb (s₂.toks+1) (fun up=>(E1 _ _ (dJ es p x) (Ap q1) vu z1 ⟨z2.1,fun i v z e1 e2=>up (z2.2 i v z e1 e2)⟩ ?_)) ?_)) (RW du (fL (dy q5 hl)))
  ·exact RW b4<|bZ z3 (Nat.succ_le_succ q5)
  ·exact fJ vu fun o _ q _=>⟨o,q⟩
end
def IJ(F:bT):Prop:=∀{g ke elt t it ifs sc pos bj n k st ai Q s ρ a D},F.co g.C ke elt t ifs bj n k st ai Q→xx g ke a D ai bj n k st s ρ→
 codeAny g.m g.A (.compLoop (dO ke elt t it ifs sc pos) 0 (.ref a) (.ref D) g.env) (fun r s'=>r=.ok .next∧∃cP st' ρ',Q cP st'∧Made g ke D cP st' s' ρ') s
theorem HK(he:fg F)(ht:xw F)(hc:IJ F)(hG:G.co=Uz F):IJ G:=by
 intro g ke elt t it ifs sc pos bj n k st ai Q s ρ a D h m;rw[hG] at h;refine FN (aE (ae h).2 fun r hit h'=>?_);have N:=m.M.N;refine qu (N.ok.rm.hd (ae h).1) N.S m.it hit fun r' h₂ t' Nj hs=>az (N.odd m.a0 m.Be m.Fx m.it.obj Nj t') fun N₂ up=>?_;have M₂:Made g ke D ai st {s with heap:=h₂,toks:=t'} ρ:=⟨N₂,m.M.D0,m.M.Dz,m.M.Dl,m.M.zn,m.M.r.to (fun o e=>Nj D o m.ne.symm e) up⟩
 have z:=hs up
 induction r using Option.casesOn with
 |none=>
  induction r' using Option.casesOn with
  |some x=>exact z.elim
  |none=>exact⟨rfl,_,_,_,h',M₂⟩
 |some v=>
  induction r' using Option.casesOn with
  |none=>exact z.elim
  |some x=>
  refine o9 z.2.obj.tB fun o g1 _ g2 _=>⟨(aK o g1 g2),kQ.go (gU he h' N₂ z.1) fun _ s₃ ρ₃ Nz h N₃ U₃=>?_⟩;have m₃:=xx.up ⟨M₂,z.2,m.a0,m.Be,m.Fx⟩ N₃ U₃;refine gD (tZ ht ifs h N₃) fun ok s₄ q=>?_;cases q with
  |mk RZ ρ₄ h N₄ U₄=>
   have m₄:=m₃.up N₄ U₄
   induction ok using Bool.casesOn with
   |false=>exact hc h m₄
   |true=>exact Hw he h m₄ fun _ _ _ _ hK m₅=>hc hK m₅
end
end
theorem jg{g:Str→NameKind→NameKind}:∀(names:List (Str×NameKind)) (x:Str),(names.map fun(n,k)=>(n,g n k)).lookup x=(names.lookup x).map (g x)
 |[],_=>rfl
 |(n,k)::r,x=>by
  refine RW cV<|RW gt<|RW gt ?_;cases q:x==n with
  |true=>exact RW (show x=n from cO.mp q) rfl
  |false=>exact jg r x
theorem oQ(sc)(env)(x):(relabel sc env).names.lookup x=(sc.names.lookup x).map fun k=>if(k==.free&&env.scope.kind==.function&&env.kindOf x==some .cell) then .cell else k:=by
 have:=jg (g:=fun n k=>if(k==.free&&env.scope.kind==.function&&env.kindOf n==some .cell) then .cell else k) sc.names x
 refine RS this ?_;refine(?_:List.lookup x (sc.names.map _)=List.lookup x (sc.names.map _))
 congr 1
 refine vI fun p _=>?_;obtain⟨n,k⟩:=p
 show(if _ then _ else _)=(n,if _ then _ else _)
 split<;>rfl
theorem ew{α:Type}:∀{l:List (Str×α)},(l.map (·.1)).Nodup→∀{x:Str} {v:α},(x,v)∈l→l.lookup x=some v
 |[],_,_,_,m=>by cases m
 |p::l,h,x,v,m=>by
  rw[List.map_cons,List.nodup_cons] at h;refine aA (cW.mp m) (fun e=>?_) fun m=>?_
  ·subst e;simp[List.lookup]
  ·have hx:x≠p.1:=fun q=>h.1 (q▸rp (f:=(·.1)) m)
   exact RW gt<|RW (gY.mpr hx)<|ew h.2 m
theorem lookup_all{α:Type}{x:Str}{v:α}:∀{l:List (Str×α)},(∀u,(x,u)∈l→u=v)→(∃u,(x,u)∈l)→l.lookup x=some v
 |[],_,⟨_,m⟩=>by cases m
 |p::l,h,⟨u,m⟩=>by
  refine RW gt ?_;cases q:x==p.1 with
  |true=>
   have e:x=p.1:=cO.mp q;refine(?_:some p.2=some v);refine RW (h p.2 (RW e cw)) rfl
  |false=>
   refine aA (cW.mp m) (fun e=>?_) fun m=>?_
   ·subst e;simp at q
   ·exact lookup_all (fun u m=>h u (dZ _ m)) ⟨u,m⟩
theorem fe:∀(names:List (Str×NameKind)) (k:Nat) (ai:List (Str×Addr)),cellsFrom k names ai=cellsFrom k names []++ai
 |[],_,_=>rfl
 |(n,kind)::r,k,ai=>by
  unfold cellsFrom;split
  ·((refine RW (fe r (k+1) ((n,k)::ai))<|RW (fe r (k+1) [(n,k)]) ?_);rewrite [List.append_assoc]);rfl
  ·exact fe r k ai
theorem lE:∀(names:List (Str×NameKind)) (k:Nat) {n:Str} {c:Addr},(n,c)∈cellsFrom k names []→(n,NameKind.cell)∈names
 |[],_,_,_,m=>by cases m
 |(n',kind)::r,k,n,c,m=>by
  unfold cellsFrom at m;split at m
  ·rename_i hk
   rw[fe] at m;refine aA (b9.mp m) (fun m=>?_) fun m=>?_
   ·exact dZ _ (lE r _ m)
   ·cases dw.mp m
    exact RW (cO.mp hk) cw
  ·exact dZ _ (lE r _ m)
theorem gC{C:Cx}{st:St}:∀{names:List (Str×NameKind)} {cs:List (Str×V)},eu C st names=some cs→
  (∀n,(n,NameKind.free)∈names→∃v,lh C st n=some v)∧∀p∈cs,(p.1,NameKind.free)∈names∧lh C st p.1=some p.2
 |[],cs,h=>by
  cases a7 (show some []=some cs from h);exact⟨(fun n m=>by cases m),fun p m=>by cases m⟩
 |(n,k)::r,cs,h=>by
  replace h:(if k==.free then(lh C st n).bind fun v=>(eu C st r).map fun l=>(n,v)::l else eu C st r)=some cs:=h
  cases hk:k==NameKind.free with
  |false=>
   rw[hk] at h;refine az (gC (show eu C st r=some cs from h)) fun h1 h2=>⟨fun m hm=>?_,fun p hp=>⟨dZ _ (h2 p hp).1,(h2 p hp).2⟩⟩;refine aA (cW.mp hm) (fun e=>?_) fun hm=>?_
   ·cases e;exact tt hk
   ·exact h1 m hm
  |true=>
   rw[hk,if_pos rfl] at h;refine aq (dI.mp h) fun v hv h=>?_;refine aq (eG.mp h) fun l hl aa=>?_;subst aa;refine az (gC hl) fun h1 h2=>⟨fun m hm=>?_,fun p hp=>?_⟩
   ·refine aA (cW.mp hm) (fun e=>?_) fun hm=>?_
    ·cases e;exact⟨v,hv⟩
    ·exact h1 m hm
   ·rcases cW.mp hp with rfl|hp
    ·exact RW (cO.mp hk) ⟨cw,hv⟩
    ·exact⟨dZ _ (h2 p hp).1,(h2 p hp).2⟩
theorem vl{C:Cx}{st:St}{n:Str}{v:V}(h:lh C st n=some v):(C.names.lookup n=some .cell∨C.names.lookup n=some .free)∧st.vs.lookup n=some v:=by
 unfold lh at h;refine EM (C.names.lookup n=some .cell∨C.names.lookup n=some .free) (fun c=>?_) fun c=>?_
 ·rw[if_pos c] at h;exact⟨c,h⟩
 ·rw[if_neg c] at h;exact aJ h
structure Bh(env:Env)(names:List (Str×NameKind))(cl:List (Str×Addr)):Prop where
 key:∀p∈cl,(p.1,NameKind.free)∈names∧env.cells.lookup p.1=some p.2
 has:∀n,(n,NameKind.free)∈names→∃c,(n,c)∈cl
theorem j5(f:Str×NameKind→List (Str×Addr)→Sem (ForInStep (List (Str×Addr))))
  (hf:∀name kind cells,f (name,kind) cells=if kind==.free then(do let a ←cellOf env name;pure (.yield ((name,a)::cells))) else pure (.yield cells)):
  ∀(names:List (Str×NameKind)) (ai:List (Str×Addr)),(∀n,(n,NameKind.free)∈names→∃c,env.cells.lookup n=some c)→∃cl,forIn names ai f=pure (cl++ai)∧Bh env names cl
 |[],ai,_=>(aK [] (by(with_reducible refine RW List.forIn_nil ?_);rfl) ⟨(fun p m=>by cases m),fun n m=>by cases m⟩)
 |(n,k)::r,ai,h=>by
  rw[List.forIn_cons,hf];cases hk:k==NameKind.free with
  |false=>
   refine aq (j5 f hf r ai fun m hm=>h m (dZ _ hm)) fun cl e q=>(aK cl ?_ ⟨fun p hp=>⟨dZ _ (q.key p hp).1,(q.key p hp).2⟩,fun m hm=>?_⟩)
   ·(with_reducible refine RW (au (by decide))<|RW (pure_bind _ _) ?_);exact e
   ·refine aA (cW.mp hm) (fun e=>?_) fun hm=>?_
    ·cases e;exact tt hk
    ·exact q.has m hm
  |true=>
   obtain rfl:=cO.mp hk;refine bf (h n cw) fun c hc=>aq (j5 f hf r ((n,c)::ai) fun m hm=>h m (dZ _ hm)) fun cl e q=>(aK (cl++[(n,c)]) ?_ ⟨fun p hp=>?_,fun m hm=>?_⟩)
   ·(with_reducible refine RW (aB rfl) ?_)
    have:cellOf env n=pure c:=by unfold cellOf;(with_reducible refine RW hc rfl)
    (with_reducible refine RW this<|RW (pure_bind _ _)<|RW (pure_bind _ _) ?_)
    refine(?_:forIn r ((n,c)::ai) f=_)
    ((with_reducible refine RW e ?_);rewrite [List.append_assoc]);rfl
   ·refine aA (b9.mp hp) (fun hp=>?_) fun hp=>?_
    ·exact⟨dZ _ (q.key p hp).1,(q.key p hp).2⟩
    ·cases dw.mp hp
     exact⟨cw,hc⟩
   ·refine aA (cW.mp hm) (fun e=>?_) fun hm=>?_
    ·cases e;exact⟨c,cY _ cw⟩
    ·exact bf (q.has m hm) fun c' m'=>⟨c',gu _ m'⟩
theorem Aq(f:Str×NameKind→List (Str×Addr)→Sem (ForInStep (List (Str×Addr))))
  (hf:∀name kind cells,f (name,kind) cells=if kind==.free then(do let a ←cellOf env name;pure (.yield ((name,a)::cells))) else pure (.yield cells)) (names:List (Str×NameKind))
  (h:∀n,(n,NameKind.free)∈names→∃c,env.cells.lookup n=some c):∃cl,(forIn names [] f>>=fun cs=>pure cs)=(pure cl:Sem (List (Str×Addr)))∧Bh env names cl:=by
 refine aq (j5 f hf names [] h) fun cl e q=>(aK cl ?_ q);refine RW e<|RW (pure_bind _ _)<|RW (cc _) rfl
theorem HL(h:∀n,(n,NameKind.free)∈sc.names→∃c,env.cells.lookup n=some c):∃cl,closureFor sc env=pure cl∧Bh env sc.names cl:=by
 unfold closureFor;exact Aq _ (fun name kind cells=>by cases NL:kind==NameKind.free<;>simp[NL]) sc.names h
structure nQ(sc:Scope):Prop where
 kind:sc.kind=.function
 nodup:(sc.names.map (·.1)).Nodup
 dot:(sc.names.lookup (Str.ofString ".0")).isSome=true
 RN:∀x∈sc.names,(x.1==("__debug__":Str))=false
 QZ:∀x∈sc.names,(x.1==("__classdict__":Str))=false
theorem mh(h:wv sc it a=true):nO it=false∧a=0∧nQ sc:=by
 unfold wv at h;simp only[Bool.and_eq_true,beq_iff_eq,Bool.not_eq_true',decide_eq_true_eq,List.all_eq_true] at h;exact az h fun aa h6=>az aa fun aP h5=>az aP fun cN h4=>az cN fun jo h3=>az jo fun h1 h2=>⟨h2,h3,h1,h4,h5,fun x hx=>(h6 x hx).1,fun x hx=>(h6 x hx).2⟩
theorem nQ.names(h:nQ sc):∀x∈sc.names,x.2=.local→sc.names.lookup x.1=some .local:=fun x hx hl=>ew h.nodup (RS hl hx)
noncomputable def compEnv(sc:Scope)(cl:List (Str×Addr))(L:Addr)(env:Env):Env:=
 {scope:=relabel sc env,locals:=L,globals:=env.globals,cells:=cellsFrom (L+1) sc.names cl,qual:=env.qual,func:=none,code:=env.code,frame:=env.frame,builtins:=env.builtins}
noncomputable def cK(sc:Scope)(h:Heap):Heap:=pushCells (h.push {cls:=.type "dict",data:=.dict #[]}) sc.names
theorem u6
  (hQ:Q {scope:=sc,locals:=s.heap.objs.size,globals:=env.globals,cells:=cellsFrom (s.heap.objs.size+1) sc.names cl,qual:=env.qual,func:=none,code:=env.code,frame:=env.frame,builtins:=env.builtins} {s with heap:=cK sc s.heap}):
  wpAny M A (newFunctionEnv sc env.globals cl [] env.qual none .none (some env)) Q E s:=by
 simp only[newFunctionEnv,Option.isSome_some,if_true];refine an (wpAny_alloc ?_);refine an (wpAny_layCells _ (fun name kind cells=>by cases NL:kind==NameKind.cell<;>simp[NL]) _ _ _ _ ?_)
 exact RW (show({s with heap:=s.heap.push {cls:=.type "dict",data:=.dict #[]}}:Shared).heap.objs.size=s.heap.objs.size+1 from mW ..)<|an (RW List.forIn_nil<|aS (aS hQ))
theorem j4(sc:Scope)(h:Heap):∀b o,h.get? b=some o→(cK sc h).get? b=some o:=fun b o e=>pushCells_keeps _ _ b o (gp _ e)
theorem none_le{h:Heap}{b:Addr}(e:h.objs.size≤b):h.get? b=none:=by
 cases q:h.get? b with
 |none=>rfl
 |some o=>exact absurd (fK q) (j9.mpr e)
def Gr.comp(g:Gr)(sc:Scope)(cl:List (Str×Addr))(L D:Addr)(s₁:Shared)(ρ₁:Rh):Gr:=⟨g.w,g.A,⟨sc.names,g.C.d⟩,compEnv sc cl L g.env,s₁,⟨ρ₁.l,D::ρ₁.z⟩⟩
theorem lK.JQ(e:h.get? D=none):lK ρ ⟨ρ.l,D::ρ.z⟩ h:=fun b o' e' m=>by
 refine aA (b9.mp m) (fun m=>?_) fun m=>?_
 ·exact gu _ m
 ·refine aA (cW.mp m) (fun q=>?_) fun m=>?_
  ·rw[q,e] at e';exact aJ e'
  ·exact cY _ m
theorem Dq{g}{st}{s}{ρ}{sc}{cs}{cl}{h}{D}(N:aV g st s ρ)(hk:∀b o,s.heap.get? b=some o→h.get? b=some o)(jp:s.heap.objs.size≤h.objs.size)(hD:s.heap.get? D=none)(WF:D<h.objs.size)(WG:∃o,(cK sc h).get? D=some o)(oX:nQ sc)(A6:eu g.C st sc.names=some cs)(jC:Bh g.env sc.names cl):
  aV (g.comp sc cl h.objs.size D s ρ) ⟨cs,st.os⟩ {s with heap:=cK sc h} ⟨ρ.l,D::ρ.z⟩:=by
 have hc:=N.ok.cx;have R:=N.R;have S:=N.S;refine az (gC A6) fun Xj OV=>?_;have ml:=fun b o e=>j4 sc h b o (hk b o e);have ok:=cellsFrom_ok sc.names (h.push {cls:=.type "dict",data:=.dict #[]}) (h.objs.size+1) [] ⟨fun _ _ hm=>(nomatch hm),List.Pairwise.nil⟩ (RW (mW _ _)<|bI _);rw[Heap.size_push] at ok;have fC:∀x,(compEnv sc cl h.objs.size g.env).kindOf x=(sc.names.lookup x).map fun k=>if(k==.free&&g.env.scope.kind==.function&&g.env.kindOf x==some .cell) then .cell else k:=oQ sc g.env
 have fresh:∀c,h.objs.size≤c→c∉Rh.all ⟨ρ.l,D::ρ.z⟩:=fun c hc m=>by
  refine aA (b9.mp m) (fun m=>?_) fun m=>?_
  ·exact S.fresh (none_le (bZ jp hc)) (gu _ m)
  ·refine aA (cW.mp m) (fun q=>?_) fun m=>?_
   ·exact absurd WF (j9.mpr (q▸hc))
   ·exact S.fresh (none_le (bZ jp hc)) (cY _ m)
 have big:N0≤h.objs.size:=bZ S.aL.big jp;have low:g.env.locals<h.objs.size:=by
  exact aq R.cls fun o e _=>nq (fK e) jp
 have Fg:=lK.JQ (ρ:=ρ) hD;have kn:=bG ml;have kv:∀{v x},VR s.heap ρ v x→VR (cK sc h) ⟨ρ.l,D::ρ.z⟩ v x:=fun r=>VR.keep (ρ:=ρ) (ρ':=⟨ρ.l,D::ρ.z⟩) kn bQ (fun _ _ e=>e) Fg r;have wj:(compEnv sc cl h.objs.size g.env).cells=cellsFrom (h.objs.size+1) sc.names []++cl:=fe _ _ _;have Hn:∀{x:Str},(x,NameKind.free)∈sc.names→∀c,(x,c)∉cellsFrom (h.objs.size+1) sc.names []:=fun{x} m c m'=>by
  have e1:=ew oX.nodup m;rw[ew oX.nodup (lE _ _ m')] at e1;cases a7 e1
 have N6:∀{x:Str},(x,NameKind.free)∈sc.names→(compEnv sc cl h.objs.size g.env).cells.lookup x=g.env.cells.lookup x:=fun{x} m=>by
  refine bf (jC.has x m) fun c hc=>?_;have e:=(jC.key _ hc).2;refine RW wj<|RW e<|lookup_all (fun u hu=>?_) ⟨c,cY _ hc⟩;refine aA (b9.mp hu) (fun hu=>?_) fun hu=>?_
  ·exact absurd hu (Hn m u)
  ·have:=(jC.key _ hu).2
   rw[e] at this;exact(a7 this).symm
 have bj:∀{x:Str} {c:Addr},(compEnv sc cl h.objs.size g.env).cells.lookup x=some c→((x,c)∈cellsFrom (h.objs.size+1) sc.names []∧h.objs.size<c)∨(g.env.cells.lookup x=some c∧c<h.objs.size):=fun{x c} e=>by
  have m:=mem_of_lookup e;rw[wj] at m;refine aA (b9.mp m) (fun m=>?_) fun m=>?_
  ·exact .inl ⟨m,(ok.empty x c m).2⟩
  ·have q:=(jC.key _ m).2
   exact kT (R.cells x c q) fun _ _ _ aa=>fJ aa fun v o e' _=>.inr ⟨q,nq (fK e') jp⟩
 have dot:∀{P:Prop},sc.names.lookup (Str.ofString ".0")=none→P:=fun e=>by
  have:=oX.dot;rw[e] at this;exact c0 this
 have hL:(cK sc h).get? h.objs.size=some {cls:=.type "dict",data:=.dict #[]}:=pushCells_keeps _ _ _ _ (dm _ rfl);have AT:g.env.frame=some h.objs.size→False:=fun e=>absurd low (j9.mpr (hc.old _ e));have EE:(cK sc h).Ns h.objs.size fun _=>none:=(Heap.Ns.new h (.type "dict")).keeps (pushCells_keeps _ _);have E:ER ⟨ρ.l,D::ρ.z⟩ cs (compEnv sc cl h.objs.size g.env) (cK sc h):=by
  refine⟨big,fresh _ (bI _),(aK _ EE (fun x v e1 e2=>?_)),(aK _ hL (bH Value.type (au AT).symm)),fun x c e=>?_,fun x v e1 e2=>?_⟩
  ·have h1:=(OV _ (mem_of_lookup e1)).1
   rw[fC,ew oX.nodup h1] at e2
   replace e2:(if(NameKind.free==.free&&g.env.scope.kind==.function&&g.env.kindOf x==some .cell) then NameKind.cell else .free)=.local:=a7 e2
   split at e2<;>cases e2
  ·refine aA (bj e) (fun aa=>az aa fun m l=>?_) fun aP=>az aP fun m l=>?_
   ·exact⟨bZ big (fL l),fresh c (fL l),Nat.ne_of_gt l,_,(ok.empty x c m).1⟩
   ·exact kT (R.cells x c m) fun q1 q2 q3 aa=>bf aa fun v q4=>aq (id q4) fun o q5 _=>⟨q1,fun mm=>q2 (Fg c o q5 mm),kW l,v,q4.keeps ml⟩
  ·exact az (OV _ (mem_of_lookup e1)) fun h1 h2=>az (vl h2) fun h3 h4=>ez (R.bound x v h4 (h3.elim (fun h3=>.inl (hc.IH x h3).1) fun h3=>(hc.NP x h3).1.symm)) fun c y g1 g2 g3=>(jN c y (RW (N6 h1) g1) (g2.keeps ml) (kv g3))
 have X:zo ⟨sc.names,g.C.d⟩ (compEnv sc cl h.objs.size g.env):=by
  refine⟨oX.kind,hc.glob,hc.blt,fun x hx=>?_,fun x hx=>⟨?_,?_⟩,fun x hx=>⟨?_,oX.QZ _ (mem_of_lookup hx)⟩,fun x hx=>?_,fun x hx=>?_,fun x k hx=>oX.RN _ (mem_of_lookup hx),dot,fun L e=>bZ (hc.old L e) (fL low),dot,fun x y c h1 h2 h3=>?_⟩
  ·exact RW (fC _)<|RW (show sc.names.lookup x=some .local from hx) rfl
  ·exact RW (fC _)<|RW (show sc.names.lookup x=some .cell from hx) rfl
  ·have:((cellsFrom (h.objs.size+1) sc.names []).lookup x).isSome=true:=eP x sc.names _ _ hx
   refine bf (vM.mp this) fun c hc=>(aK c ?_ (ok.empty x c (mem_of_lookup hc)).2);exact RW wj<|RW List.lookup_append<|RW hc rfl
  ·refine RW (fC _)<|RW (show sc.names.lookup x=some .free from hx)<|RW (na _ _) ?_
   generalize (NameKind.free==.free&&g.env.scope.kind==.function&&g.env.kindOf x==some .cell)=b
   induction b using Bool.casesOn
   ·exact .inl rfl
   ·exact .inr rfl
  ·exact RW (N6 (mem_of_lookup hx))<|bf (jC.has x (mem_of_lookup hx)) fun c hc=>⟨c,(jC.key _ hc).2⟩
  ·exact RW (fC _)<|RW (show sc.names.lookup x=some .globalImplicit from hx) rfl
  ·refine aA (bj h1) (fun aa=>az aa fun m1 _=>?_) fun aP=>az aP fun _ l=>?_
   ·refine aA (bj h2) (fun aa=>az aa fun m2 _=>?_) fun aP=>az aP fun _ l=>?_
    ·exact name_of_addr ok.apart m1 m2
    ·exact absurd (show h.objs.size<c from h3) (j9.mpr (fL l))
   ·exact absurd (show h.objs.size<c from h3) (j9.mpr (fL l))
 have S2:SR g.w ⟨ρ.l,D::ρ.z⟩ st.os (cK sc h):=by
  refine S.eX kn bQ (fun _ _ e=>e) Fg (fun b m=>?_) (S.aL.iw kn fun _ q=>q.elim) S.len S.nodup S.high fun i a o e1 e2=>.inl (cE e1 e2 id);rcases cW.mp m with rfl|m
  ·exact WG
  ·exact(S.vr b m).imp fun o e=>ml b o e
 refine⟨⟨N.ok.rm,X,fun e=>(AT e).elim⟩,N.fr.to fun L o h1 h2 h3 h4 h5=>⟨fun m=>h2 (Fg L o h1 m),o,ml L o h1,h4,h5⟩,⟨Rh.le_refl _,S2,E,aU.of_keeps ml,rfl,id,fun b m q=>absurd m q,fun b o e=>⟨o,ml b o e⟩,fun _ _ e _ _ _=>ml _ _ e⟩⟩
section
noncomputable def gN:Option Expr→Sem Value
 |none=>newList []
 |some _=>newDict
section
variable{w:World}{A:Around}{E:Value→Shared→Prop}{s:Shared}{ρ:Rh}
theorem qt(it:vE s.heap ρ bj n k a)(h:Q (.ref a) s):wpAny (model PW w) A (pyIter (.ref a)) Q E s:=by
 induction bj using V.casesOn with
 |seq b vs=>
  refine aq it fun l _ r=>?_
  induction b using Bool.casesOn with
  |true=>exact wpAny_pyIter_tupleiter (show s.heap.IsTupleIter a l k from r) h
  |false=>exact wpAny_pyIter_listiter (show s.heap.IsListIter a l k from r) h
 |mj x y=>exact wpAny_pyIter_rangeiter (show IsRangeIter s.heap a _ _ _ from it) h
 |ref i=>
  refine aq it fun l _ r=>?_;split at r
  ·exact wpAny_pyIter_listiter r h
  ·exact wpAny_pyIter_keyiter r h
 |view i=>
  exact kS it fun l _ _ r=>wpAny_pyIter_valiter r h
 |_=>exact it.elim
theorem GH(hQ:∀o,o.isFreed=false→(∀(h:Heap) ρ,h.get? s.heap.objs.size=some o→rK w ke h ρ [] s.heap.objs.size)→Q (.ref s.heap.objs.size) {s with heap:=s.heap.push o}):
  wpAny M A (gN ke) Q E s:=by
 induction ke using Option.casesOn with
 |none=>
  refine(?_:wpAny _ _ (newList []) _ _ _);exact rn (hQ _ rfl fun h ρ e=>(pK [] _ e aM.nil))
 |some _=>
  refine(?_:wpAny _ _ newDict _ _ _);exact rn (hQ _ rfl fun h ρ e=>(E1 [] 0 [] rfl (RU _ _ e (cE rfl rfl rfl) rfl (fun e he=>absurd he (by simp)) (.nil) jx) rfl aM.nil (bI _)))
end
section
variable{F:bT}{g:Gr}{st cu st':St}{s s₁ s':Shared}{ρ ρ₁ ρ':Rh}{ke:Option Expr}{elt t it:Expr}{ifs:List Expr}{sc:Scope}{pos:Pos}{cl:List (Str×Addr)}{L D:Addr}{ai:List (V×V)}
theorem zQ(N:aV g st s ρ)(oX:nQ sc)(A6:eu g.C st sc.names=some cs)(jC:Bh g.env sc.names cl)(Bx:oD.isFreed=false)
  (it:vE (s.heap.push o) ρ bj n 0 s.heap.objs.size) (hD:∀(h:Heap) ρ,h.get? (s.heap.push o).objs.size=some oD→rK g.w ke h ρ [] (s.heap.push o).objs.size):
  xx (g.comp sc cl ((s.heap.push o).push oD).objs.size (s.heap.push o).objs.size s ρ) ke s.heap.objs.size (s.heap.push o).objs.size [] bj n 0 ⟨cs,st.os⟩ {s with heap:=cK sc ((s.heap.push o).push oD)} ⟨ρ.l,(s.heap.push o).objs.size::ρ.z⟩:=by
 have z2:(s.heap.push o).objs.size=s.heap.objs.size+1:=mW ..;have Un:(cK sc ((s.heap.push o).push oD)).get? (s.heap.push o).objs.size=some oD:=j4 sc _ _ _ (dm _ Bx);have k3:∀b o',(s.heap.push o).get? b=some o'→(cK sc ((s.heap.push o).push oD)).get? b=some o':=fun b o' e=>j4 sc _ b o' (gp _ e);have R8:s.heap.get? (s.heap.push o).objs.size=none:=none_le (RW z2<|Nat.le_succ _);have pu:=dL N.S;refine⟨⟨Dq N (fun b o' e=>gp _ (gp _ e)) (by refine RW (mW _ _)<|RW z2 ?_;lia) R8 (Nat.lt_of_lt_of_eq (Nat.lt_succ_self _) (mW ..).symm) ⟨_,Un⟩ oX A6 jC,R8,cw,fun m=>N.S.fresh R8 (gu _ m),by exact RW z2<|Nat.le_succ_of_le N.S.aL.big,hD _ _ Un⟩,
  it.keep (k3 _) (fun r=>VR.keep (ρ:=ρ) (ρ':=⟨ρ.l,(s.heap.push o).objs.size::ρ.z⟩) (bG k3) bQ (fun _ _ e=>e) (lK.JQ (bC _)) r) id,bC _,fun m=>?_,N.S.aL.big⟩
 refine aA (b9.mp m) (fun m=>?_) fun m=>?_
 ·exact pu (gu _ m)
 ·refine aA (cW.mp m) (fun q=>?_) fun m=>?_
  ·rw[z2] at q;exact absurd q (kW (Nat.lt_succ_self _))
  ·exact pu (cY _ m)
theorem qJ(he:fg F)(AG:IJ F){K:List (V×V)→St→Prop}(h:xS F g.C ke elt ⟨t,it,ifs,0⟩ sc st K)(N:aV g st s ρ){use:Option (Value→Sem Unit)}{Q:Value→Shared→Prop}
  (k:∀{cu s₁ ρ₁ st' s' ρ' cl L D ai},K ai ⟨cu.vs,st'.os⟩→aV g cu s₁ ρ₁→Up s ρ s₁ ρ₁→s₁.heap.objs.size≤L→Made (g.comp sc cl L D s₁ ρ₁) ke D ai st' s' ρ'→compPost g.m g.A cq use Q (.ref D) L (.ok .next) s'):
  wpAny g.m g.A (comprehension (dO ke elt t it ifs sc pos) sc g.env mr (gN ke) false (eval it g.env) use) Q cq s:=by
 refine az (ae h) fun aa h=>az aa fun oX A6=>gq (mh oX) fun Td _ hc=>aq (HL (env:=g.env) (sc:=sc) fun n hn=>by
  have z:=eH.mp A6 _ hn;have z:sD g.C n=true:=(pQ.mp z).elim (fun q=>absurd (show(NameKind.free != NameKind.free)=true from q) (by decide)) id
  unfold sD at z;split at z
  ·rename_i q;exact(N.ok.cx.IH n q).2.imp fun _ q=>q.1
  ·rename_i q;exact N.ok.cx.Us n q
  ·exact c0 z) fun cl QK jC=>?_
 have DN:clausesOf (dO ke elt t it ifs sc pos)=[⟨t,it,ifs,0⟩]:=by induction ke using Option.casesOn<;>rfl
 refine wpAny_comprehension_free (use:=use) DN (I3 Td g.env) QK hc.kind hc.names<|he.go h N fun x s₁ ρ₁ bj cu h N₁ U₁ r₁=>aE (ae h).2 fun cs EV h'=>bf (vM.mp (ae h).1) fun r hr=>oA N₁.S r₁ hr fun o it₁=>GH (w:=g.w) fun oD Bx hD=>u6 ?_;have m:=zQ N₁ hc EV jC Bx it₁ hD;have hL:s₁.heap.objs.size≤((s₁.heap.push o).push oD).objs.size:=by refine RW (mW _ _)<|RW (mW _ _) ?_;lia
 have loop:=iJ (AG (it:=it) (sc:=sc) (pos:=pos) h' m) (R':=compPost g.m g.A cq use Q (.ref (s₁.heap.push o).objs.size) ((s₁.heap.push o).push oD).objs.size) fun r' s' ⟨ES,ai,st',ρ',hk,M⟩=>by
  subst ES;exact k hk N₁ U₁ hL M
 induction ke using Option.casesOn with
 |none=>exact codeAny_compStart_list loop (qt m.it loop)
 |some kx=>exact codeAny_compStart_dict loop (qt m.it loop)
theorem aV.letGo(N₁:aV g cu s₁ ρ₁)(U:Up s₁ ρ₁ s ρ)(N:aV g st s ρ)(hL:s₁.heap.objs.size≤L)(pu:L∉ρ.all)(ho:∃o,s.heap.get? L=some o∧o.cls=.type "dict"∧∃es ep,o.data=.dict es ep)(sb:Heap.SameBut L s.heap h'):
  aV g st {s with heap:=h'} ρ∧Up s₁ ρ₁ {s with heap:=h'} ρ∧∀{v x},VR s.heap ρ v x→VR h' ρ v x:=by
 refine kS ho fun o e hc aa=>vG aa fun es ep hd=>?_;have EQ:=none_le (h:=s₁.heap) hL;have lt:∀{b:Addr} {o:Obj},s₁.heap.get? b=some o→b≠L:=fun e q=>by rw[q,EQ] at e;exact aJ e
 have h0:g.s₀.heap.get? L=none:=by
  cases q:g.s₀.heap.get? L with
  |none=>rfl
  |some o=>refine bf (N₁.P.alive _ o q) fun o' q'=>?_;rw[EQ] at q';exact aJ q'
 refine az (N.side h0 (fun m=>pu (gu _ m)) (bZ N₁.S.aL.big hL) e (by refine aq N₁.R.cls fun o e _=>?_;exact lt e) (fun x c e=>by refine kT (N₁.R.cells x c e) fun _ _ _ aa=>fJ aa fun _ o e' _=>?_;exact lt e') (by refine RW hc ?_;simp) (.inr (jZ hd)) sb.extBut (fun m=>absurd (cY _ m) pu) s.toks) fun N' up=>?_
 exact cE N' (U.side EQ sb.extBut up s.toks) up
theorem Made.names(M:Made (g.comp sc cl L D s₁ ρ₁) ke D ai st' s' ρ')(N₁:aV g cu s₁ ρ₁)(hL:s₁.heap.objs.size≤L):∃m o es ep,s'.heap.Ns L m∧s'.heap.get? L=some o∧o.cls=.type "dict"∧o.data=.dict es ep:=by
 refine aq M.N.R.ns fun m EE _=>mU (id EE) fun o es ep e d _=>aq M.N.R.cls fun o' e' c=>?_;have EE:s'.heap.Ns L m:=EE;have e':s'.heap.get? L=some o':=e';have e:s'.heap.get? L=some o:=e;rw[e] at e';cases a7 e';refine UF m o es ep EE e (c.trans (bH Value.type (au fun q=>?_))) d;exact aq N₁.R.cls fun o e _=>absurd (fK e) (j9.mpr (bZ hL (N₁.ok.cx.old L q)))
theorem Made.value(M:Made (g.comp sc cl L D s₁ ρ₁) ke D ai st' s' ρ')(N₁:aV g cu s₁ ρ₁)(hL:s₁.heap.objs.size≤L)(h:Fk ke pos ai ⟨cu.vs,st'.os⟩ Q):∃v j6 ρu,Q v j6∧aV g j6 s' ρu∧Up s₁ ρ₁ s' ρu∧VR s'.heap ρu v (.ref D)∧L∉ρu.all:=by
 have P:=M.N.P;have S:=M.N.S;have S₁:=N₁.S;have hz:ρ'.z=D::ρ₁.z:=P.pre.2;have no:∀{b:Addr} {o:Obj},L≤b→s₁.heap.get? b=some o→False:=fun hb e=>by rw[none_le (Nat.le_trans hL hb)] at e;exact aJ e
 have keep:aU (Nt ρ₁) s₁.heap s'.heap:=P.keep.mono fun b o e m=>by
  refine aA m (fun m=>?_) fun qP=>aA qP (fun m=>?_) fun yZ=>aA yZ (fun m=>?_) fun m=>?_
  ·exact .inl m
  ·exact(no (ka m.symm) e).elim
  ·exact(no (fL m.2) e).elim
  ·exact .inr m
 have Ko:L∉ρ'.all:=M.N.R.out;have JO:∀b,b∈Rh.all ⟨ρ'.l,ρ₁.z⟩→b∈ρ'.all:=fun b m=>(b9.mp m).elim (gu _) fun m=>cY _ (RW hz<|dZ _ m);have E7:∀b,b∈Rh.all ⟨ρ'.l++[D],ρ₁.z⟩→b∈ρ'.all:=fun b m=>by
  refine aA (b9.mp m) (fun m=>?_) fun m=>?_
  ·refine aA (b9.mp m) (fun m=>?_) fun m=>?_
   ·exact gu _ m
   ·exact RW (dw.mp m)<|cY _ M.Dz
  ·exact JO b (cY _ m)
 have vr:∀b∈ρ₁.z,∃o,s'.heap.get? b=some o:=fun b m=>S.vr b (RW hz<|dZ _ m);have up:∀(i:Nat) b,ρ'.l[i]? =some b→(ρ'.l++[D])[i]? =some b:=fun i b e=>by
  (refine RW (List.getElem?_append_left (fY.mp e).1) ?_);exact e
 have rl:aU (fun _=>False) s'.heap s'.heap:=aU.refl _ _;have data:∀{ws:List Value} {n:Nat},s'.heap.get? D=some (b0 false ws n)→aM s'.heap ρ' (ai.map (·.2)) ws→(ai.map (·.2)).length≤ax→aQ g.w ρ₁ s₁ st'.os ⟨ρ'.l,ρ₁.z⟩ s'∧VR s'.heap ⟨ρ'.l,ρ₁.z⟩ (.seq false (ai.map (·.2))) (.ref D):=fun{ws n} g1 g2 hl=>by
  have hn:lK ρ' ⟨ρ'.l,ρ₁.z⟩ s'.heap:=fun b _ _ m=>JO b m;have q:=aM.keep (ρ:=ρ') (ρ':=⟨ρ'.l,ρ₁.z⟩) rl bQ (fun _ _ e=>e) hn g2;refine⟨⟨⟨P.pre.1,rfl⟩,S.eX rl bQ (fun _ _ e=>e) hn vr S.aL S.len S.nodup S.high fun i b o e1 e2=>.inl (cE e1 e2 id),keep,P.os,P.gens,P.fresh,P.alive,fun b o e hz=>P.fz b o e (dZ _ hz)⟩,.seq (fun m=>?_) g1 (by rw[←g2.1];exact hl) q.1 q.2⟩
  refine aA (b9.mp m) (fun m=>?_) fun m=>?_
  ·exact M.Dl m
  ·exact S₁.fresh M.D0 (cY _ m)
 have listed:∀{o:O},(∀{vs ws},aM s'.heap ρ' vs ws→aM s'.heap ⟨ρ'.l++[D],ρ₁.z⟩ vs ws)→OR g.w s'.heap ⟨ρ'.l++[D],ρ₁.z⟩ o D→aQ g.w ρ₁ s₁ (st'.os++[o]) ⟨ρ'.l++[D],ρ₁.z⟩ s'∧VR s'.heap ⟨ρ'.l++[D],ρ₁.z⟩ (.ref st'.os.length) (.ref D):=fun{o} _ r=>by
  have hn:lK ρ' ⟨ρ'.l++[D],ρ₁.z⟩ s'.heap:=fun b _ _ m=>E7 b m;have Ja:(ρ'.l++[D])[st'.os.length]? =some D:=by(refine RS S.len<|RW (rA (bI _))<|RW (Nat.sub_self _) ?_);rfl
  refine⟨⟨⟨P.pre.1.trans (List.prefix_append _ _),rfl⟩,S.eX rl bQ up hn vr S.aL (RW b4<|RW b4<|RW S.len rfl) ?_ (fun b m=>?_) fun i b o' e1 e2=>?_,keep,P.os,P.gens,fun b m q=>?_,P.alive,fun b o e hz=>P.fz b o e (dZ _ hz)⟩,.ref Ja⟩
  ·exact List.nodup_append.mpr (cE S.nodup (pf.mpr ⟨List.not_mem_nil,jx⟩) (fun b m c m'=>by refine RW (dw.mp m') ?_;rintro rfl;exact M.Dl m))
  ·exact(b9.mp m).elim (S.high b) fun m=>RW (dw.mp m) M.zn
  ·refine EM (i<st'.os.length) (fun hi=>?_) fun hi=>?_
   ·rw[List.getElem?_append_left hi] at e2
    refine .inl (cE ?_ e2 id);refine RS e1 ?_;exact(List.getElem?_append_left (RW S.len hi)).symm
   ·have h2:=(fY.mp e2).1
    rw[List.length_append] at h2;obtain rfl:i=st'.os.length:=Nat.le_antisymm (Nat.le_of_lt_succ h2) (rh hi);rw[Ja] at e1;rw[List.getElem?_append_right (Nat.le_refl _),Nat.sub_self] at e2;cases a7 e1;cases a7 e2;exact .inr r
  ·exact(b9.mp m).elim (fun m=>P.fresh b m q) fun m=>RW (dw.mp m) M.D0
 have Rf:∀{vs ws},aM s'.heap ρ' vs ws→aM s'.heap ⟨ρ'.l++[D],ρ₁.z⟩ vs ws:=fun r=>aM.keep (ρ:=ρ') (ρ':=⟨ρ'.l++[D],ρ₁.z⟩) rl bQ up (fun b _ _ m=>E7 b m) r
 induction ke using Option.casesOn with
 |none=>
  refine az (ae h) fun hl h=>fJ M.r fun ws n g1 g2=>?_;split at h
  ·have z:=listed (o:=.list (ai.map (·.2))) Rf (jN ws n g1 (by rw[←g2.1];exact hl) (Rf g2))
   have q:=N₁.call z.1;exact E1 _ _ _ h q.1 q.2 z.2 (fun m=>Ko (E7 _ m))
  ·have z:=data g1 g2 hl
   have q:=N₁.call z.1;exact E1 _ _ _ h q.1 q.2 z.2 (fun m=>Ko (JO _ m))
 |some _=>
  refine aE h fun es Sq h=>Nw M.r fun bM e EX q1 q2 q3 q4 q5=>?_;rw[Sq] at q1;cases a7 q1;have z:=listed (o:=.dict es none) Rf (IM bM e q2 (fun n (q:(none:Option Nat)=some n)=>(aJ q)) (bZ q5 h.1) q3 (Rf q4));have q:=N₁.call z.1;exact E1 _ _ _ h.2 q.1 q.2 z.2 (fun m=>Ko (E7 _ m))
theorem HJ(he:fg F)(AG:IJ F){Q:V→St→Prop}(h:Fi F g.C ke elt gens sc pos st Q)(N:aV g st s ρ):∃t it ifs,gens=[⟨t,it,ifs,0⟩]∧
  (∀mr,wpAny g.m g.A (comprehension (dO ke elt t it ifs sc pos) sc g.env mr (gN ke) false (eval it g.env) none) (ey g Q s ρ) cq s)∧
  ∀mr Q₂ (use:Value→Sem Unit),(∀{s₀ ρ₀ x s' ρ' v st'},Q v st'→aV (g.re s₀ ρ₀) st' s' ρ'→VR s'.heap ρ' v x→wpAny g.m g.A (use x) (fun _=>kQ (g.re s₀ ρ₀) Q₂ s' ρ') cq s')→
   wpAny g.m g.A (comprehension (dO ke elt t it ifs sc pos) sc g.env mr (gN ke) false (eval it g.env) (some use)) (fun _=>kQ g Q₂ s ρ) cq s:=by
 match gens,h with
 |[],h=>exact h.elim
 |_::_::_,h=>exact h.elim
 |[⟨t,it,ifs,a⟩],h=>
  refine gq (mh (ae (show xS F g.C ke elt ⟨t,it,ifs,a⟩ sc st fun ai st=>Fk ke pos ai st Q from h)).1.1) fun _ aa _=>?_;subst aa;have h:xS F g.C ke elt ⟨t,it,ifs,0⟩ sc st fun ai st=>Fk ke pos ai st Q:=h;refine AJ t it ifs rfl (fun mr=>qJ he AG h N fun hK N₁ U₁ hL M=>?_) (fun mr Q₂ use hu=>qJ he AG h N fun hK N₁ U₁ hL M=>?_)
  ·refine UP (M.names N₁ hL) fun m o es ep EE e c d=>Nw (M.value N₁ hL hK) fun v j6 ρu hQ N₂ U₂ r pu=>(aK m EE (fun h' sb=>?_))
   exact gq (aV.letGo N₁ U₂ N₂ hL pu ⟨o,e,c,es,ep,d⟩ sb) fun N₃ U₃ up=>.mk v j6 ρu hQ N₃ (U₁.trans U₃) (up r)
  ·refine UP (M.names N₁ hL) fun m o es ep EE e c d=>Nw (M.value N₁ hL hK) fun v j6 ρu hQ N₂ U₂ r pu=>?_
   rename_i s₁ ρ₁ st' s' ρ' cl L D ai;have WT:aV (g.re s' ρu) j6 s' ρu:=⟨⟨N₂.ok.rm,N₂.ok.cx,N₂.ok.top⟩,N₂.fr,dB.refl N₂.S N₂.R⟩;refine bw (hu hQ WT r) (fun _ vB z=>?_) fun _ _ z=>z;cases z with
   |mk Nz ρ₃ WB N₃ U₃=>
    have lt:∀{b:Addr} {o:Obj},s₁.heap.get? b=some o→b≠L:=fun e q=>by rw[q,none_le hL] at e;exact aJ e
    have xu:¬Mu ρu g.env L:=fun q=>by
     refine aA q (fun q=>?_) fun qP=>aA qP (fun q=>?_) fun yZ=>aA yZ (fun q=>?_) fun q=>?_
     ·exact pu (Rh.dh q)
     ·exact aq N₁.R.cls fun o e _=>lt e q.symm
     ·exact az q fun aa _=>bf aa fun x hx=>kT (N₁.R.cells x L hx) fun _ _ _ aa=>fJ aa fun _ o e' _=>lt e' rfl
     ·have big:=bZ N₁.S.aL.big hL
      refine aA q (fun q=>?_) fun q=>?_<;>(subst q;exact absurd big (by decide))
    have P₃:=N₃.P;refine o9 (P₃.keep.data e xu) fun o' e' d' c' _=>az (N₂.step P₃) fun N₄ U₄=>(aK m (P₃.keep.ns EE xu) (fun h' sb=>?_));exact gq (aV.letGo N₁ (U₂.trans U₄) N₄ hL (fun mm=>pu (P₃.new _ o e mm)) ⟨o',e',c'.trans c,es,ep,d'.trans d⟩ sb) fun N₅ U₅ _=>.mk Nz ρ₃ WB N₅ (U₁.trans U₅)
theorem Aj(ke:Option Expr)(elt t it)(ifs)(sc)(pos)(env):∃mr,eval (dO ke elt t it ifs sc pos) env=comprehension (dO ke elt t it ifs sc pos) sc env mr (gN ke) false (eval it env) none∧
  ∀use,evalThenUse (dO ke elt t it ifs sc pos) env use=(do let _ ←comprehension (dO ke elt t it ifs sc pos) sc env mr (gN ke) false (eval it env) (some use)):=by
 induction ke using Option.casesOn with
 |none=>exact(aK _ (eval_ListComp ..) (fun _=>rfl))
 |some _=>exact(aK _ (arm_eval_DictComp ..) (fun _=>rfl))
theorem mQ(he:fg F)(AG:IJ F)(hE:e=match ke with
   |none=>.ListComp elt gens sc pos
   |some k=>.DictComp k elt gens sc pos) (h:Fi F g.C ke elt gens sc pos st Q) (N:aV g st s ρ):wpAny g.m g.A (eval e g.env) (ey g Q s ρ) cq s∧
  ∀Q₂ (use:Value→Sem Unit),(∀{s₀ ρ₀ x s' ρ' v st'},Q v st'→aV (g.re s₀ ρ₀) st' s' ρ'→VR s'.heap ρ' v x→wpAny g.m g.A (use x) (fun _=>kQ (g.re s₀ ρ₀) Q₂ s' ρ') cq s')→wpAny g.m g.A (evalThenUse e g.env use) (fun _=>kQ g Q₂ s ρ) cq s:=by
 refine mU (HJ he AG h N) fun t it ifs aa h1 h2=>?_;subst aa;refine aq (Aj ke elt t it ifs sc pos g.env) fun mr e1 e2=>?_;obtain rfl:e=dO ke elt t it ifs sc pos:=by subst hE;induction ke using Option.casesOn<;>rfl
 refine RW e1 ⟨h1 mr,fun Q₂ use hu=>?_⟩;exact RW (e2 _)<|an (gD (h2 mr Q₂ use hu) fun _ s' z=>aS z)
theorem CK(he:fg F)(AG:IJ F)(hG:G.ev=Jx F):Fy G:=by
 intro g e st Q Q₂ s ρ use hc h N hu;rw[hG] at h;revert h;exact Cy (motive:=fun e=>Jx F g.C e st Q→wpAny g.m g.A (evalThenUse e g.env use) (fun _=>kQ g Q₂ s ρ) cq s) (fun _ _ _ _ h=>(mQ (ke:=none) he AG rfl h N).2 Q₂ use hu) (fun _ _ _ _ h=>h.elim) (fun k _ _ _ _ h=>(mQ (ke:=some k) he AG rfl h N).2 Q₂ use hu) hc
end
end
section
theorem lz(P):findIn (bF P) (.ref 876) "__iter__"=some (some (.ref 866))∧findIn (bF P) (.ref 876) "__next__"=some (some (.ref 873))∧findIn (bF P) (.ref 876) "__len__"=some none∧
  findIn (bF P) (.ref 876) "__length_hint__"=some none∧typeIn (bF P) (.ref 866)=some (.type "function")∧typeIn (bF P) (.ref 873)=some (.type "function"):=by
 refine(SE ?_ ?_ ?_ ?_ ?_ ?_)<;>kernel_rfl
theorem DI:(gj.all fun x=>(!(x.2.1==tx "__iter__")||(x.1==876&&x.2.2==866))&&(!(x.2.1==tx "__next__")||(x.1==876&&x.2.2==873)))=true:=by decide+kernel
theorem GQ(h:cR C n=some f):(C,n,f)∈gj:=by
 refine aq (eG.mp h) fun e he aa=>?_;subst aa;have hc:=List.find?_some he;rw[Bool.and_eq_true,beq_iff_eq,beq_iff_eq] at hc;refine az hc fun aa aP=>?_;clear hc;subst aa;subst aP;exact zc he
theorem x1{n m:Tx}(hn:(n=tx "__iter__"∧g=866)∨n=tx "__next__"∧g=873)(h:cR C n=some f):C=876∧f=g:=by
 have:=eH.mp DI _ (GQ h);rw[Bool.and_eq_true] at this;rcases hn with⟨rfl,rfl⟩|⟨rfl,rfl⟩
 ·have:=(pQ.mp this.1).resolve_left (by refine RW (dT _) ?_;decide)
  rw[Bool.and_eq_true,beq_iff_eq,beq_iff_eq] at this;exact this
 ·have:=(pQ.mp this.2).resolve_left (by refine RW (dT _) ?_;decide)
  rw[Bool.and_eq_true,beq_iff_eq,beq_iff_eq] at this;exact this
section
variable{w:World}{A:Around}{E:Value→Shared→Prop}{s:Shared}
theorem looks_own(S:bU w h)(ho:h.get? a=some o)(hc:o.cls=.ref 876)(e:findIn (bF w.params) (.ref 876) name=some r):Looks M h (specialOf (.ref a) name) r:=by
 have L:Looks M h (typeOf (.ref a)) (.ref 876):=by
  exact RS hc<|(Looks.ld (part:=none) ho).andThen .now
 exact L.andThen (looks_findIn S.X e)
theorem fX(S:bU w s.heap)(e:typeIn (bF w.params) (.ref f)=some (.type "function"))(hq:Q (.ref f,[.ref a]) s):wpAny M A (bindSpecial (.ref f) (.ref a)) Q E s:=by
 unfold bindSpecial;refine an ((looks_typeIn S.X e).here ?_);exact RW (aB (by decide))<|aS hq
theorem wP{Q:Value→Shared→Prop}(S:bU w s.heap)(ho:s.heap.get? a=some o)(hc:o.cls=.ref 876)
  (h:wpAny M A (call (.ref 866) [.ref a]) (fun v s'=>v=.ref a∧(∃o',s'.heap.get? a=some o'∧o'.cls=.ref 876)∧bU w s'.heap∧Q (.ref a) s') E s):wpAny M A (pyIter (.ref a)) Q E s:=by
 refine SF (lz w.params) fun f1 f2 _ _ f5 _=>?_;have L:=looks_own (M:=M) S ho hc f1;unfold pyIter;refine an (L.here ?_);refine(?_:wpAny _ _ (callSpecialIfBoundUnlessNone? (.ref a) "__iter__" _>>=_) _ _ _);have fin:wpAny M A (call (.ref 866) [.ref a]>>=fun r=>pure (some r)) (fun r s'=>∃v,r=some v∧v=.ref a∧(∃o',s'.heap.get? a=some o'∧o'.cls=.ref 876)∧bU w s'.heap∧Q (.ref a) s') E s:=
  an (bw h (fun v s' z=>aS (aK v rfl z)) fun _ _ z=>z)
 have Ts:wpAny M A (callSpecialIfBoundUnlessNone? (.ref a) "__iter__" (do rule "iter.none";raiseError "TypeError" s!"'{← typeNameOf (.ref a)}' object is not iterable")) (fun r s'=>∃v,r=some v∧v=.ref a∧(∃o',s'.heap.get? a=some o'∧o'.cls=.ref 876)∧bU w s'.heap∧Q (.ref a) s') E s:=by
  simp only[callSpecialIfBoundUnlessNone?,bindSpecialIfBound?];refine cX (an (an (L.here ?_)));refine an (wpAny_askSetting (wpAny_ite ?_));split
  ·exact an (fX S f5 (aS (by dsimp only;exact RW (au (by decide)) fin)))
  ·exact wpAny_tryCatch (an (fX S f5 (aS (by dsimp only;exact RW (au (by decide)) fin))))
 refine an (bw Ts (fun r s' ⟨v,hr,hv,⟨o',Nl,y2⟩,S',q⟩=>?_) fun _ _ z=>z);subst hr hv;exact an ((looks_own (M:=M) S' Nl y2 f2).here (aS q))
theorem wO{Q:Option Value→Shared→Prop}(S:bU w s.heap)(ho:s.heap.get? a=some o)(hc:o.cls=.ref 876)
  (h:wpAny M A (call (.ref 873) [.ref a]) (fun v s'=>Q (some v) s') (fun e s'=>(∃ea oe,e=.ref ea∧s'.heap.get? ea=some oe∧oe.cls=.type "StopIteration")∧Q none s') s):wpAny M A (pyNext (.ref a)) Q E s:=by
 refine SF (lz w.params) fun _ f2 _ _ _ f6=>?_;have L:=looks_own (M:=M) S ho hc f2;unfold pyNext;have fin:wpAny M A (callSpecial? (.ref a) "__next__") (fun r s'=>∃v,r=some v∧Q (some v) s') (fun e s'=>(∃ea oe,e=.ref ea∧s'.heap.get? ea=some oe∧oe.cls=.type "StopIteration")∧Q none s') s:=by
  unfold callSpecial?;refine an (L.here ?_);refine cX (an (fX S f6 ?_));exact an (bw h (fun v s' z=>aS (aK v rfl z)) fun _ _ z=>z)
 refine an (wpAny_attempt (bw fin (fun r s' ⟨v,hr,q⟩=>?_) fun e s' ⟨⟨ea,oe,he,h1,h2⟩,q⟩=>?_))
 ·subst hr
  exact aS q
 ·subst he
  refine(?_:wpAny _ _ (isInstance (.ref ea) (.type "StopIteration")>>=_) _ _ _);refine an (wpAny_isInstance (T:="StopIteration") (b:=true) (aK _ h1 h2) isSubtype_stop ?_);exact aS q
end
structure vx(w:World)(A:Around)(S:Addr)(s₀:Shared)(ρ₀:Rh)(vs:List V)(os:List O)(s:Shared)(ρ:Rh):Prop where
 P:aQ w ⟨ρ₀.l,S::ρ₀.z⟩ s₀ os ρ s
 F:Fr A ρ s.heap
 new:s₀.heap.get? S=none
 big:N0≤S
 out:S∉ρ.l
 r:∃ws n,s.heap.get? S=some (b0 false ws n)∧aM s.heap ρ vs ws
 len:vs.length≤ax
section
variable{w:World}{A:Around}{s s' s₀:Shared}{ρ ρ' ρ₀:Rh}{os cn:List O}{S:Addr}{vs vs':List V}
theorem Fr.call(f:Fr A ρ s.heap)(P:aQ w ρ s cn ρ' s'):Fr A ρ' s'.heap:=f.to fun L o h1 h2 h3 h4 ⟨es,ep,h5⟩=>by
 exact o9 (P.keep.data h1 (so h3 h2)) fun o' g1 g2 g3 _=>⟨fun m=>h2 (P.new L o h1 m),o',g1,g3.trans h4,es,ep,g2.trans h5⟩
theorem vx.VB(c:vx w A S s₀ ρ₀ vs os s ρ):S∈ρ.z:=by rw[c.P.pre.2];exact cw
theorem vx.call(c:vx w A S s₀ ρ₀ vs os s ρ)(P:aQ w ρ s cn ρ' s'):vx w A S s₀ ρ₀ vs cn s' ρ':=by
 refine fJ c.r fun ws n g1 g2=>?_;have kv:aM s'.heap ρ' vs ws:=aM.keep P.keep (By c.P.sr.aL) (fun _ _ e=>cg P.pre e) P.new g2;refine⟨c.P.trans P,c.F.call P,c.new,c.big,fun m=>?_,(pK ws n (P.keep.get g1 (fun m=>?_) (by simp[b0])) kv),c.len⟩
 ·have:=P.fresh S m c.out
  rw[g1] at this;exact py this
 ·refine aA m (fun m=>?_) fun m=>?_
  ·exact c.out m
  ·have:=c.big
   rcases m with rfl|rfl<;>exact absurd this (by decide)
theorem vx.made(c:vx w A S s₀ ρ₀ vs os s ρ)(sb:Heap.SameBut S s.heap h')(t)(e:h'.get? S=some (b0 false Na n'))(hr:(∀{v x},VR s.heap ρ v x→VR h' ρ v x)→aM h' ρ vs' Na)(hl:vs'.length≤ax):vx w A S s₀ ρ₀ vs' os {s with heap:=h',toks:=t} ρ:=by
 have k:aU (fun b=>b=S) s.heap h':=aU.cC sb rfl;have hS:S∈ρ.all:=cY _ c.VB;have hf:fF (fun b=>b=S) ρ s.heap:=fun b o _ m=>by subst m;exact .inl hS
 have P:=c.P;have old:∀{b o},s₀.heap.get? b=some o→b≠S:=fun e q=>by rw[q,c.new] at e;exact aJ e
 refine⟨⟨P.pre,?_,fun b o e m=>?_,P.os,P.gens,P.fresh,fun b o e=>?_,fun b o e hz hl cl=>sb.extBut b o (old e) (P.fz b o e hz hl cl)⟩,c.F.to fun L o h1 h2 h3 h4 h5=>⟨h2,o,sb.extBut L o (fun q=>h2 (q▸hS)) h1,h4,h5⟩,c.new,c.big,c.out,(pK Na n' e (hr fun q=>VR.keep k hf (fun _ _ e=>e) aO q)),hl⟩
 ·refine P.sr.eX k hf (fun _ _ e=>e) aO (fun b m=>?_) (P.sr.aL.iw k fun b m=>by subst m;exact c.big) P.sr.len P.sr.nodup P.sr.high fun i b o e1 e2=>.inl (cE e1 e2 (fun q=>c.out (q▸db e1)))
  refine EM (b=S) (fun q=>?_) fun q=>?_
  ·subst q;exact⟨_,e⟩
  ·exact(P.sr.vr b m).imp fun o e=>sb.extBut b o q e
 ·exact az (P.keep b o e m) fun q1 q2=>⟨fun cl=>sb.extBut b o (old e) (q1 cl),fun cl=>(q2 cl).imp fun sl q=>sb.extBut b _ (old e) q⟩
 ·exact(P.alive b o e).imp fun o' q=>sb.extBut b o' (old e) q
end
def RR(F:bT):Prop:=∀{w A d i os K S s₀ ρ₀ s ρ a vs},F.dr d i vs.length os K→mo A.in1 d→A.handled=none→vx w A.in1 S s₀ ρ₀ vs os s ρ→ρ.l[i]? =some a→
 codeAny (model PW w) A (.builtin "list.extend.loop" ⟨[.ref S,.ref a,.none],[]⟩) (fun r s'=>r=.ok (.ret .none)∧∃l cn ρ',K l cn∧vx w A.in1 S s₀ ρ₀ (vs++l) cn s' ρ') s
section
variable{F:bT}
theorem ui(hc:cJ F){w}{A}{d}{f a}{i}{os}{K}{s}{ρ}{Q E}(h:F.call d (.con (.ref f)) [.ref i] [] os K)(hf:gc (.ref f)=true)(hR:mo A d)(S:SR w ρ os s.heap)(fr:Fr A ρ s.heap)(ha:ρ.l[i]? =some a)
  (h1:∀{x v cn ρ' s'},K (.ok v) cn→aQ w ρ s cn ρ' s'→VR s'.heap ρ' v x→Q x s') (h2:∀{e c cn ρ' s'},K (.exc c) cn→aQ w ρ s cn ρ' s'→gK c s.heap ρ' s'.heap e→E e s'):wpAny (model PW w) A (call (.ref f) [.ref a]) Q E s:=by
 refine jw (iJ (hc h hR S fr (.con _ hf) (aM.cons (.ref ha) aM.nil) ⟨rfl,aM.nil⟩) fun r s' z=>?_);rcases r with e|(_|_|_|x)
 ·refine mU z fun c cn ρ' hK P X=>?_;exact h2 hK P X
 ·exact z.elim
 ·exact z.elim
 ·exact z.elim
 ·refine mU z fun v cn ρ' hK P r=>?_;exact h1 hK P r
theorem HC(hc:cJ F)(hd:RR F){G:bT}(hG:G.dr=RM F):RR G:=by
 intro w A d i os K S s₀ ρ₀ s ρ a vs h hR hh c ha;rw[hG] at h;refine aE h fun x hx h=>aE h fun g hg h=>?_;refine az (x1 (m:=[]) (.inr ⟨rfl,rfl⟩) hg) fun VI aa=>?_;subst aa;refine fJ (c.P.sr.at ha (kH hx)) fun dx sl _ e2=>?_;rw[VI] at e2;refine lT PySem.F.entry_extend_loop<|RW (pT PySem.F.plain_extend_loop _) ?_;refine(?_:wpAny _ A.in1 (pyNext (.ref a)>>=_) _ _ s);refine an (wO c.P.sr.aL e2 rfl (ui hc h (by decide) hR c.P.sr c.F ha (fun{y v cn ρ' s'} hK P r=>?_) fun{e cl cn ρ' s'} hK P X=>?_))
 ·refine az hK fun hl hK=>?_
  rw[bc] at hl;have c':=c.call P;refine fJ c'.r fun ws n g1 g2=>?_;have a9:ws.length=vs.length:=g2.1.symm;have e:=gZ (Obj.mapSeq fun xs=>xs.push y) g1 rfl;refine(?_:wpAny _ A.in1 (updateSeq S (·.push y)>>=_) _ _ _);have lv:(vs++[v]).length=vs.length+1:=b4;have c₂:=c'.made (vs':=vs++[v]) (Na:=ws++[y]) (n':=n+1) (gF s'.heap S (Obj.mapSeq fun xs=>xs.push y)) s'.toks (by refine RW e ?_;simp[b0,Obj.mapSeq]) (fun up=>by
   have q:=aM.append g2 (aM.cons r aM.nil);exact⟨q.1,fun i v z e1 e2=>up (q.2 i v z e1 e2)⟩) (RW lv<|RW bc (Nat.succ_le_of_lt hl))
  rw[←lv] at hK;refine an (wpAny_updateSeq g1 rfl (aS ⟨plainId_quiet PySem.F.plain_extend_loop _,iJ (hd hK hR hh c₂ (cg P.pre ha)) fun r s₂ z=>?_⟩) (RW fh<|RW a9<|RW du (fL hl)) (by refine RW (Array.size_push _)<|RW fh<|RW a9<|RW du ?_;exact(bZ hl (by decide))))
  refine az z fun aa aP=>AL aP fun l R3 ρ₂ hK c₃=>?_;clear z;subst aa;exact⟨rfl,_,_,_,hK,by rw[List.append_assoc] at c₃;exact c₃⟩
 ·refine az (ae hK) fun hs hK=>?_
  refine N1 X fun ea vs' aa _ _ _ _ _ _ aP _=>kS aP fun oe q1 q2 _=>?_;clear X;subst aa;refine⟨(jN ea oe rfl q1 (q2.trans (cO.mp hs))),aS ⟨rfl,[],cn,ρ',hK,?_⟩⟩;exact RW (cc _)<|c.call P
theorem zV{w}{A}{os}{s}{ρ}(S:SR w ρ os s.heap)(f:Fr A ρ s.heap):
  vx w A s.heap.objs.size s ρ [] os {s with heap:=s.heap.push (b0 false [] 0)} ⟨ρ.l,s.heap.objs.size::ρ.z⟩:=by
 have no:=bC s.heap;have e:(s.heap.push (b0 false [] 0)).get? s.heap.objs.size=some (b0 false [] 0):=dm _ rfl;have kp:∀b o',s.heap.get? b=some o'→(s.heap.push (b0 false [] 0)).get? b=some o':=fun b o' e=>gp _ e;have hn:=lK.JQ (ρ:=ρ) no;refine⟨⟨Rh.le_refl _,S.eX (bG kp) bQ (fun _ _ e=>e) hn (fun b m=>?_) (S.aL.iw (bG kp) fun _ m=>m.elim) S.len S.nodup S.high fun _ _ _ e1 e2=>.inl (cE e1 e2 id),aU.of_keeps kp,rfl,id,fun b m q=>absurd m q,fun b o' e=>⟨o',kp b o' e⟩,fun _ _ e _ _ _=>kp _ _ e⟩,f.to fun L o h1 h2 h3 h4 h5=>⟨fun m=>h2 (hn L o h1 m),o,kp L o h1,h4,h5⟩,no,S.aL.big,fun m=>S.fresh no (Rh.dh m),(pK [] 0 e aM.nil),c9 _⟩;rcases cW.mp m with rfl|m
 ·exact⟨_,e⟩
 ·exact(S.vr b m).imp fun o e=>kp b o e
theorem vx.done{w}{A}{s s₀}{ρ ρ₀}{Vp os}{S}{vs}(c:vx w A S s₀ ρ₀ vs os s ρ)(S₀:SR w ρ₀ Vp s₀.heap):aQ w ρ₀ s₀ os ⟨ρ.l,ρ₀.z⟩ s∧VR s.heap ⟨ρ.l,ρ₀.z⟩ (.seq false vs) (.ref S):=by
 have P:=c.P;have hz:ρ.z=S::ρ₀.z:=P.pre.2;have sub:∀b,b∈Rh.all ⟨ρ.l,ρ₀.z⟩→b∈ρ.all:=fun b m=>(b9.mp m).elim (gu _) fun m=>cY _ (RW hz<|dZ _ m);have hn:lK ρ ⟨ρ.l,ρ₀.z⟩ s.heap:=fun b _ _ m=>sub b m;have rl:aU (fun _=>False) s.heap s.heap:=aU.refl _ _;refine fJ c.r fun ws n g1 g2=>?_;have q:=aM.keep (ρ:=ρ) (ρ':=⟨ρ.l,ρ₀.z⟩) rl bQ (fun _ _ e=>e) hn g2;refine⟨⟨⟨P.pre.1,rfl⟩,P.sr.eX rl bQ (fun _ _ e=>e) hn (fun b m=>P.sr.vr b (RW hz<|dZ _ m)) P.sr.aL P.sr.len P.sr.nodup P.sr.high fun i b o e1 e2=>.inl (cE e1 e2 id),P.keep,P.os,P.gens,P.fresh,P.alive,fun b o e hz=>P.fz b o e (dZ _ hz)⟩,.seq (fun m=>?_) g1 (by rw[←g2.1];exact c.len) q.1 q.2⟩
 refine aA (b9.mp m) (fun m=>?_) fun m=>?_
 ·exact c.out m
 ·exact S₀.fresh c.new (cY _ m)
theorem zW(hc:cJ F)(hd:RR F):OY F:=by
 intro w A d i os K s ρ x E h hR UA f rx
 induction d using Nat.casesAuxOn with
 |zero=>exact h.elim
 |succ d=>
 refine aE h fun y hy h=>aE h fun g hg h=>?_;refine az (x1 (m:=[]) (.inl ⟨rfl,rfl⟩) hg) fun VG aa=>?_;subst aa;apply rx.gX;intro a hi;have hh:A.handled=none:=hR.hd (ng d);have RI:mo A.in1.in1 d:=⟨fun _=>hh,by have:=hR.depth;refine(?_:A.depth+2*d+2<_);exact(dy (iL _ _) this),by have:=hR.units;refine RW (Around.in1_units _)<|RW (Around.in1_units _) ?_;lia⟩
 refine callType_codes (Q₁:=fun obj s₁=>obj=.ref s.heap.objs.size∧s₁={s with heap:=s.heap.push (b0 false [] 0)}) PySem.F.called_list (PySem.F.typeCall_list_1 _) PySem.F.entry_list_init
  (code_list_new _ ⟨rfl,rfl⟩) fun obj s₁ h₁=>?_
 refine az h₁ fun aa aP=>?_;clear h₁;subst aa;subst aP;have c₁:=zV (A:=A.in1.in1) UA f;have hS:(s.heap.push (b0 false [] 0)).get? s.heap.objs.size=some (b0 false [] 0):=dm _ rfl;refine cE (aK _ hS rfl) (PySem.F.args_list_init_2 _ _) ?_
 generalize s.heap.objs.size=S at*
 have o7:S≠a:=fun q=>c₁.out (q▸db hi);refine(?_:wpAny _ A.in1.in1 (do let old ←Builtin.List.listItems (.ref S);Builtin.List.listUpdate (.ref S) (fun _=>#[]);letGo old.toList.reverse;Builtin.List.listExtendWith (.ref S) (.ref a) .none) _ _ _)
 refine an ?_;unfold Builtin.List.listItems;refine an (wpAny_seqItems hS rfl (aS ?_));refine(?_:wpAny _ A.in1.in1 (updateSeq S (fun _=>#[])>>=fun _=>letGo (#[]:Array Value).toList.reverse>>=fun _=>Builtin.List.listExtendWith (.ref S) (.ref a) .none) _ _ _);refine an (wpAny_updateSeq hS rfl ?_);have c₂:=c₁.made (vs':=[]) (Na:=[]) (n':=0) (gF _ S (Obj.mapSeq (fun _=>(#[]:Array Value)))) s.toks (by(refine RW (gZ (Obj.mapSeq (fun _=>(#[]:Array Value))) hS rfl) ?_);rfl) (fun _=>aM.nil) (c9 _)
 generalize Ru:({s with heap:=(s.heap.push (b0 false [] 0)).update S (Obj.mapSeq fun _=>#[])}:Shared)=s₂
 have c₂:vx w A.in1.in1 S s ρ [] os s₂ ⟨ρ.l,S::ρ.z⟩:=RS Ru c₂;clear Ru c₁;refine an (wpAny_letGo ?_);have S₂:=c₂.P.sr;refine fJ (S₂.at hi (kH hy)) fun dx sl _ e2=>?_;rw[VG] at e2;unfold Builtin.List.listExtendWith;have LT:Looks (model PW w) s₂.heap (typeOf (.ref a)) (.ref 876):=(Looks.ld (part:=none) e2).andThen .now;refine an (LT.here ?_);have h1:Builtin.List.listSameRef (.ref S) (.ref a)=false:=by simp[Builtin.List.listSameRef,o7]
 have h2:(Value.ref 876==Value.type "list")=false:=by decide
 have h3:(Value.ref 876==Value.type "tuple")=false:=by decide
 simp only[h1,h2,h3,Bool.or_false,Bool.false_eq_true,if_false];refine an (wP S₂.aL e2 rfl (ui hc h (by decide) RI S₂ c₂.F hi (fun{y v cn ρ' s'} hK P r=>?_) fun hK _ _=>hK.elim))
 revert r;apply rS hK;intro j hK r;refine az (ae hK) fun Wi hK=>?_;rw[Wi] at r;refine az (ae hK) fun Wj hK=>aq (eG.mp Wj) fun z hz z1=>?_;have c₃:=c₂.call P;have r:y=.ref a:=by
  apply r.gX;intro b hb;rw[show ρ'.l[i]? =some a from cg P.pre hi] at hb;cases a7 hb;rfl
 have hb:=cg P.pre hi;refine fJ (c₃.P.sr.at hb (kH hz)) fun Xw TP _ Nl=>?_;rw[z1] at Nl;refine qU r (aK _ Nl rfl) c₃.P.sr.aL ?_;refine SF (lz w.params) fun _ _ x3 x4 _ _=>an (cX ?_);unfold Builtin.List.listLengthHint;refine an ((looks_own c₃.P.sr.aL Nl rfl x3).here ?_);refine(?_:wpAny _ _ (specialOf (Value.ref a) "__length_hint__">>=_) _ _ _);refine an ((looks_own c₃.P.sr.aL Nl rfl x4).here ?_);refine aS ?_;refine(?_:wpAny _ _ (rule "list.extend.makes-room">>=fun _=>Builtin.List.listTouch (.ref S)>>=fun _=>
  again (.builtin "list.extend.loop" ⟨[.ref S,.ref a,.none],[]⟩)) _ _ _)
 refine an (wpAny_rule (an ?_));refine fJ c₃.r fun ws n g1 g2=>?_;apply g2.vN (P:=fun ws=>s'.heap.get? S=some (b0 false ws n)→_) _ g1;intro g1;refine(?_:wpAny _ _ (updateSeq S (·.push .none)>>=fun _=>updateSeq S (·.pop)) _ _ _);refine an (wpAny_updateSeq g1 rfl ?_);have Su:=gZ (Obj.mapSeq (·.push Value.none)) g1 rfl;have c₄:=c₃.made (vs':=[.none]) (Na:=[.none]) (n':=n+1) (gF s'.heap S (Obj.mapSeq (·.push Value.none))) s'.toks (RW Su rfl) (fun _=>aM.cons .none aM.nil) (by decide)
 refine wpAny_updateSeq (hz:=by seq_fits) Su rfl ?_
 have c₅:=c₄.made (vs':=[]) (Na:=[]) (n':=n+2) (gF _ S (Obj.mapSeq (·.pop))) s'.toks (by(refine RW (gZ (Obj.mapSeq (·.pop)) Su rfl) ?_);rfl) (fun _=>aM.nil) (c9 _)
 refine aS ⟨plainId_quiet PySem.F.plain_extend_loop _,?_⟩;refine iJ (hd (vs:=[]) (A:=A.in1) hK RI hh c₅ hb) fun r s₆ z=>?_;refine az z fun aa aP=>AL aP fun l Xk ρ₆ hK c₆=>?_;clear z;subst aa;exact az (c₆.done UA) fun P₆ r₆=>⟨rfl,.mk _ _ _ hK P₆ r₆⟩
end
end
section
open PySem.Builtin PySem.Builtin.Re
noncomputable def eK:Nat→Sre.M→Sre.M
 |0,m=>m
 |k+1,m=>if(m.runFor 4).outcome.isSome then m.runFor 4 else eK k (m.runFor 4)
section
variable{M:Model}{A:Around}{E:Value→Shared→Prop}{s:Shared}
theorem uJ:∀(k T:Nat) (m:Sre.M),k<T→(eK k m).outcome.isSome=true→Q (eK k m) s→wpAny M A (reDrive T m) Q E s
 |_,0,_,h,_,_=>absurd h (q8 _)
 |0,T+1,m,_,ho,hQ=>by
  have ho:m.outcome.isSome=true:=ho;have e:m.runFor 4=m:=by
   refine(?_:(if m.outcome.isSome then m else Sre.M.runFor 3 m.step)=m)
   refine RW (aB ho) rfl
  refine(?_:wpAny _ _ (if(m.runFor reTurnSteps).outcome.isSome then pure (m.runFor reTurnSteps) else(do rule "sre.turn";reDrive T (m.runFor reTurnSteps))) _ _ _)
  (rewrite [show m.runFor reTurnSteps=m from e];refine RW (aB ho) ?_)
  exact aS hQ
 |k+1,T+1,m,h,ho,hQ=>by
  refine(?_:wpAny _ _ (if(m.runFor reTurnSteps).outcome.isSome then pure (m.runFor reTurnSteps) else(do rule "sre.turn";reDrive T (m.runFor reTurnSteps))) _ _ _)
  refine EM ((m.runFor 4).outcome.isSome=true) (fun c=>?_) fun c=>?_
  ·have e:eK (k+1) m=m.runFor 4:=aB c
   rw[e] at hQ;rw[if_pos (show(m.runFor reTurnSteps).outcome.isSome=true from c)];exact aS hQ
  ·have e:eK (k+1) m=eK k (m.runFor 4):=au c
   rw[e] at ho hQ;rw[if_neg (show¬(m.runFor reTurnSteps).outcome.isSome=true from c)];exact an (wpAny_rule (uJ k T _ (Nat.lt_of_succ_lt_succ h) ho hQ))
theorem nX{p:Nat→Bool}{tag:Nat→String}{Q:PUnit→Shared→Prop}(hQ:Q ⟨⟩ s)(f:Nat→PUnit→Sem (ForInStep PUnit))(hf:∀i u,f i u=if p i=true then(do rule (tag i);pure (.yield ⟨⟩)) else pure (.yield ⟨⟩)):∀l:List Nat,wpAny M A (forIn l ⟨⟩ f) Q E s
 |[]=>RW List.forIn_nil<|aS hQ
 |i::r=>by
  (rewrite [List.forIn_cons];refine RW (hf _ _) ?_)
  refine an<|EM (p i=true) (fun c=>?_) fun c=>?_
  ·exact RW (aB c)<|an (wpAny_rule (aS (nX hQ f hf r)))
  ·exact RW (au c)<|aS (nX hQ f hf r)
def TH(m:Sre.M)(Q:Option Sre.M→Shared→Prop)(s:Shared):Sre.Outcome→Prop
 |.matched=>Q (some m) s
 |.failed=>Q none s
 |.stuck _=>False
theorem v7{Q:Option Sre.M→Shared→Prop}(hk:k<2^64)(ho:(eK k m).outcome=some o)
  (hQ:TH (eK k m) Q s o):wpAny M A (reRunToEnd m) Q E s:=by
 unfold reRunToEnd;refine an (uJ k _ m hk (RW ho rfl) ?_)
 generalize eK k m=m' at*
 refine an (nX (p:=fun i=>m'.seen.has i) (tag:=fun i=>Sre.names.getD i "") ?_ _ (fun i u=>by cases hc:m'.seen.has i<;>simp[hc]) _)
 refine RW ho ?_;cases o with
 |matched=>exact aS hQ
 |failed=>exact aS hQ
 |stuck _=>exact hQ.elim
end
section
variable{w:World}{A:Around}{E:Value→Shared→Prop}{s:Shared}
theorem BQ(ho:s.heap.get? a=some o)(hd:o.data=.seq xs n)(hQ:Q (xs.map reRawOf) s):wpAny M A (reRawItems (.ref a)) Q E s:=by
 unfold reRawItems;exact an (wpAny_seqItems ho hd (aS hQ))
theorem qd(hQ:Q (x.cps,0) s):wpAny M A (reTextOf (.str x t)) Q E s:=by
 unfold reTextOf;exact an (aS (aS hQ))
theorem tT{fs:Array Value}{xs:Array Value}{x:Str}{t:Tok}{Q:ReTarget→Shared→Prop}{code:Array Nat}(lW:(xs.map reRawOf).map (·.toNat)=code)(hg:reRawNat (fs.getD 2 .none)=g)(hp:s.heap.get? p=some po)(Sp:po.data=.fields fs)(h5:fs.getD 5 .none=.ref c)(h6:fs.getD 6 .none=.int 0 0)(hc:s.heap.get? c=some co)(hd:co.data=.seq xs n)
  (hQ:Q {pattern:=.ref p,string:=.str x t,code:=code,text:=x.cps,kind:=0,groups:=g,pos:=0,lim:=x.cps.size} s):wpAny M A (reWholeTarget (.ref p) (.str x t)) Q E s:=by
 subst lW hg;unfold reWholeTarget;refine an (wpAny_fieldsOf hp Sp (an (qd ?_)));refine RW h5<|RW h6 ?_;dsimp only;refine RW (au (by decide))<|RW (au (by decide))<|an (aS ?_)
 exact an (BQ hc hd (aS hQ))
end
theorem il:Slot "re.Pattern" "sub" "re.Pattern.sub":=
 .of (owner:="re.Pattern") (n:="sub") (by refine RW (iK _ _)<|RW iM ?_;kernel_rfl) (by decide+kernel) (by decide+kernel) (by decide+kernel)
  (by first|exact .inl (by decide+kernel)|exact .inr (by decide+kernel)) (by refine RW (jO _ _) ?_;kernel_rfl)
theorem sF:typeOf (.builtin "re.Pattern.sub")=pure (.type "method_descriptor"):=by refine(?_:builtinType _=_);refine RW builtinType_eq_fast ?_;kernel_rfl
theorem pF:entryFor table "re.Pattern.sub"=some Builtin.«re.Pattern.sub»:=nh (by kernel_rfl)
theorem ql:Manifest.owners.lookup (String.ofList ['n','r','e','t','t','a','P','.','e','r'].reverse)=some Manifest.sig_re_Pattern:=by kernel_rfl
theorem sV(a b c):argsOk "re.Pattern.sub" ⟨[a,b,c],[]⟩:=by
 unfold argsOk;(refine RW (signature?_of (id:="re.Pattern.sub") (n:=['b','u','s']) (o:=['n','r','e','t','t','a','P','.','e','r']) (by kernel_rfl) ql) ?_);kernel_rfl
theorem oV:entryFor table "re.Pattern.sub.loop"=some Builtin.«re.Pattern.sub.loop»:=entryFor_of_fast (by kernel_rfl)
theorem jd:plainId "re.Pattern.sub.loop"=true:=by decide+kernel
theorem Hr:typeLookup (.type "function") "__call__"=pure (some (.builtin "function.__call__")):=by refine RW (iK _ _)<|RW iM ?_;kernel_rfl
theorem lI:isSubtype (.type "str") (.type "bytearray")=pure false:=by refine RW (jO _ _) ?_;kernel_rfl
theorem zO(a b):reNamed "re.Pattern.sub" "sub" ["repl","string","count"] 2 [a,b] []=pure [some a,some b,none]:=by kernel_rfl
theorem OH(P):(bF P).lookup 168=some (OA P):=by kernel_rfl
theorem JY(P):(bF P).lookup 169=some (Oz P):=by kernel_rfl
noncomputable def pY:Array Nat:=#[14,14,4,1,1,9,0,64,0,1342177280,0,0,0,0,0,17,0,13,11,9,0,64,0,1342177280,0,0,0,0,0,17,1,1]
def Jd:List Tx:=[tx "*",tx "#",tx "!a#"]
theorem w5:(Jd.all fun x=>match(eK 100 (Sre.forSearch pY (ar x).cps 1 0 (ar x).cps.size false)).outcome with
 |some .failed=>true
 |_=>false)=true:=by kernel_rfl
theorem Ho(h:eq x=true):x∈Jd:=by
 unfold eq at h;rw[Bool.or_eq_true,Bool.or_eq_true,beq_iff_eq,beq_iff_eq,beq_iff_eq] at h;rcases h with(rfl|rfl)|rfl
 ·exact .head _
 ·exact .tail _ (.head _)
 ·exact .tail _ (.tail _ (.head _))
theorem vg(h:eq x=true):(eK 100 (Sre.forSearch pY (ar x).cps 1 0 (ar x).cps.size false)).outcome=some .failed:=by
 have:=eH.mp w5 x (Ho h);split at this
 ·assumption
 ·exact c0 this
theorem Ad(h:eq x=true):0<x.length∧x.length≤3:=by
 unfold eq at h;rw[Bool.or_eq_true,Bool.or_eq_true,beq_iff_eq,beq_iff_eq,beq_iff_eq] at h;rcases h with(rfl|rfl)|rfl<;>decide
section
variable{w:World}{A:Around}{E:Value→Shared→Prop}{s:Shared}{ρ:Rh}{os:List O}
theorem t9(hy:(⟨(ar x).cps.extract b e⟩:Str)=ar y)(hl:y.length≤ax)(hQ:Q (.str (ar y) s.toks) {s with toks:=s.toks+1}):wpAny M A (reSlice (ar x).cps 0 b e) Q E s:=by
 unfold reSlice;exact RW (aB (by decide))<|RW hy<|wpAny_mkStr hQ (RW (bh _)<|RW du hl)
theorem CX{R:Result→Shared→Prop}{x:Tx}{t:Tok}(S:SR w ρ os s₀.heap)(hk:∀b o,s₀.heap.get? b=some o→s.heap.get? b=some o)(hx:eq x=true)(h0:s₀.heap.get? L=none)(hL:s.heap.get? L=some (b0 false [] n))(hs:s={s₀ with heap:=s.heap,toks:=s.toks})(hN:N0≤L)
  (hR:∀v s',bz w ρ s₀ (fun v cn=>v=.str x∧cn=os) v s'→R (.ok (.ret v)) s'):
  codeAny (model PW w) A (.builtin "re.Pattern.sub.loop" ⟨[.ref 169,.str (ar x) t,.ref lam,rawInt 1,rawInt 0,rawInt 0,rawInt 0,rawInt 0,.bool false,.ref L,.bool false],[]⟩) R s:=by
 refine az (Ad hx) fun z1 z2=>?_;have xP:=hk _ _ (S.aL.X 169 _ (JY _));have Bw:=hk _ _ (S.aL.X 168 _ (OH _));refine lT oV<|RW (pT jd _) ?_;refine(?_:wpAny _ A.in1 (reWholeTarget (.ref 169) (.str (ar x) t)>>=_) _ _ _);refine an (tT (code:=pY) (g:=1) (by kernel_rfl) (by kernel_rfl) xP rfl rfl rfl Bw rfl ?_)
 refine(?_:wpAny _ _ (reNextFound {pattern:=.ref 169,string:=.str (ar x) t,code:=pY,text:=(ar x).cps,kind:=0,groups:=1,pos:=0,lim:=(ar x).cps.size} 0 false>>=_) _ _ _);refine an ?_;refine(?_:wpAny _ _ (reRunToEnd (Sre.forSearch pY (ar x).cps 1 0 (ar x).cps.size false)) _ _ _);refine v7 (k:=100) (by decide) (vg hx) ?_
 refine(?_:wpAny _ _ _ _ _ _);dsimp only;have zs:(ar x).cps.size=x.length:=bh x;rw[if_pos (show(0:Int).toNat<(ar x).cps.size by exact RW zs z1)]
 refine an (t9 (x:=x) (y:=x) ?_ (by refine RW bc ?_;exact(bZ z2 (by decide))) ?_)
 ·simp[ar]
 refine an (wpAny_updateSeq hL rfl ?_);refine an (t9 (x:=x) (b:=0) (e:=0) (y:=[]) (by simp[ar]) (by decide) ?_)
 have g:=gZ (Obj.mapSeq fun xs=>xs.push (.str (ar x) s.toks)) hL rfl;have Sw:(s.heap.update L (Obj.mapSeq fun xs=>xs.push (.str (ar x) s.toks))).get? L=some (b0 false [.str (ar x) s.toks] (n+1)):=by
  refine RW g ?_;simp[b0,Obj.mapSeq]
 have Nn:∀b o,s₀.heap.get? b=some o→(s.heap.update L (Obj.mapSeq fun xs=>xs.push (.str (ar x) s.toks))).get? b=some o:=fun b o e=>
  (tD _ _ (fun q=>by rw[←q,h0] at e;exact aJ e)).trans (hk b o e)
 generalize s.heap.update L (Obj.mapSeq fun xs=>xs.push (.str (ar x) s.toks))=h1 at Sw Nn ⊢
 refine an (wpAny_seqItems Sw rfl ?_);dsimp only;refine RW (au (by simp))<|an ?_
 have T7:x.length≤ax:=by refine RW bc ?_;exact(bZ z2 (by decide))
 have P1:aQ w ρ s₀ os ρ {s₀ with heap:=h1,toks:=s.toks+1+1}:=aQ.grow S Nn _
 refine RW hs ?_;have hv:aM h1 ρ [.str [],.seq false [.str x]] [.str (ar []) (s.toks+1),.ref L]:=aM.cons (.str [] _ (c9 _)) (aM.cons (.seq (S.fresh h0) Sw (show 1≤ax by decide) rfl fun i v y q1 q2=>by
  induction i using Nat.casesAuxOn with
  |zero=>cases a7 q1;cases a7 q2;exact .str _ _ T7
  |succ i=>exact aJ q1) aM.nil)
 have hJ:Bv [.str [],.seq false [.str x]] os (fun v cn=>v=.str x∧cn=os):=by
  refine aC (p:=([]:Tx)=[]) rfl ?_;refine(?_:([x]:List Tx).flatten.length≤ax∧V.str ([x]:List Tx).flatten=.str x∧os=os);rw[show([x]:List Tx).flatten=x from List.append_nil x];exact cE T7 rfl rfl
 refine bw (ux (A:=A.in1) (s:={s₀ with heap:=h1,toks:=s.toks+1+1}) hJ P1.sr hv) (fun v s' z=>?_) fun _ _ z=>z
 cases z with
 |mk v cn ρ' hK P' r=>
  exact RW (au (by decide))<|aS (hR _ s' (.mk v cn ρ' hK (P1.trans P') r))
theorem CZ{x:Tx}{t:Tok}(S:SR w ρ os s.heap)(hx:eq x=true)(Ti:s.heap.get? lam=some ol)(hc:ol.cls=.type "function"):
  wpAny (model PW w) A (call (.builtin "re.Pattern.sub") [.ref 169,.ref lam,.str (ar x) t]) (bz w ρ s fun v cn=>v=.str x∧cn=os) E s:=by
 have xP:=S.aL.X 169 _ (JY _);have Bw:=S.aL.X 168 _ (OH _);refine jw (codeAny_call_builtin il.plain pF (il.check _ _ _ _ _ _ _ _ (aK _ xP rfl) (sV _ _ _) ?_));refine(?_:wpAny _ A.in1 (reNamed "re.Pattern.sub" "sub" ["repl","string","count"] 2 [.ref lam,.str (ar x) t] []>>=_) _ _ _);refine RW (zO _ _)<|an (aS ?_);dsimp only;refine an (aS ?_);have LT:Looks (model PW w) s.heap (specialOf (.ref lam) "__call__") (some (.builtin "function.__call__")):=by
  have L:Looks (model PW w) s.heap (typeOf (.ref lam)) (.type "function"):=by
   exact RS hc<|(Looks.ld (part:=none) Ti).andThen .now
  exact L.andThen (RW Hr .now)
 refine an (LT.here ?_);refine(?_:wpAny _ _ (pure false>>=_) _ _ _);refine an (aS ?_);refine(?_:wpAny _ _ (pure (Value.ref lam,(1:Int))>>=_) _ _ _);refine an (aS ?_);dsimp only;refine an (cX (tT (code:=pY) (g:=1) (by kernel_rfl) (by kernel_rfl) xP rfl rfl rfl Bw rfl ?_))
 refine RW (aB (by decide))<|an ?_
 unfold reNotHeld;refine an (wpAny_isInstance (iR _ _ _) lI ?_);refine RW (au (by decide))<|an (aS (aS ?_))
 refine an (rn (aS ⟨plainId_quiet jd _,?_⟩));exact CX (s₀:=s) (n:=0) S (fun b o e=>gp _ e) hx (bC _) (dm _ rfl) rfl S.aL.big fun v s' z=>z
end
theorem lA(P):(bF P).lookup 187=some (JW P)∧(bF P).lookup 4=some (o4 P)∧(bF P).lookup 3=some (o3 P)∧nsOkIn (bF P) 3=true∧nsIn (bF P) 3 "__builtins__"=some (some (.ref 4)):=by
 refine(Nv ?_ ?_ ?_ ?_ ?_)<;>kernel_rfl
set_option tactic.hygienic true in
theorem ou{K:Frag}{mg:Str→Option Value}{n:Str}(X:K.In h)(G:h.Ns N mg)(e:nsIn K N n=some (some v)):mg n=some v:=by
 refine vF G fun o es ep ho hd _ hf=>?_;unfold nsIn at e;split at e
 ·rename_i c d EX n' sl q
  have:=X _ _ q;rw[ho] at this;cases a7 this;cases hd;split at e
  ·rename_i he
   cases a7 (a7 e);refine RS (hf _) ?_;unfold nsFind findBy;refine RS Array.find?_toList<|RW he ?_;rfl
  ·split at e<;>cases e
 ·exact aJ e
theorem oS:PlainAttrs "re.Pattern":=
 ⟨(aK ("object.__getattribute__") (by refine RW (iK _ _)<|RW iM ?_;kernel_rfl) (by decide+kernel)),by refine RW (iK _ _)<|RW iM ?_;kernel_rfl⟩
section
variable{w:World}{s:Shared}{ρ:Rh}{env:Env}{st:St}
theorem dB.table(S:SR w ρ st.os s.heap)(R:ER ρ st.vs env s.heap)(ha:a=183∨a=890)(hx:Heap.ExtBut a s.heap h')(ht:h'.get? a=some {cls:=.none,data:=.fields ps})(tr:TriplesOk ps.toList)(t):dB w ρ env s st ρ {s with heap:=h',toks:=t}:=by
 have k:aU (fun b=>b=a) s.heap h':=fun b o e hb=>⟨fun _=>hx b o hb e,fun _=>⟨o.slots,hx b o hb e⟩⟩;have hf:fF (fun b=>b=a) ρ s.heap:=fun b o e m=>by
  subst m;refine aq (S.aL.tab b ha) fun NA q _=>?_;rw[e] at q;cases a7 q;exact .inr (jY rfl)
 have low:∀{b:Addr},N0≤b→b≠a:=fun{b} h q=>by
  subst q;rcases ha with rfl|rfl<;>simp[N0] at h
 have al:∀b o,s.heap.get? b=some o→∃o',h'.get? b=some o':=fun b o e=>by
  refine EM (b=a) (fun q=>?_) fun q=>?_
  ·subst q;exact⟨_,ht⟩
  ·exact⟨o,hx b o q e⟩
 have jq:bU w h':=S.aL.keep k (fun b m _=>by subst m;exact ha) fun b hb=>by
  refine EM (b=a) (fun q=>?_) fun q=>?_
  ·subst q;exact(aK ps ht tr)
  ·exact aq (S.aL.tab b hb) fun NA e RY=>(aK NA (hx b _ q e) RY)
 refine⟨Rh.le_refl ρ,?_,R.keep k hf (Rh.le_refl ρ) aO (low R.high) (fun x c m=>low (R.cells x c m).1),k.mono fun b o _ m=>?_,rfl,id,fun b m q=>absurd m q,al,fun b o e _ _ c=>hx b o (fun q=>?_) e⟩
 ·refine S.eX k hf (fun _ _ e=>e) aO (fun b m=>?_) jq S.len S.nodup S.high fun i b o e1 e2=>.inl (cE e1 e2 (low (S.high b (db e1))))
  exact bf (S.vr b m) fun o e=>al b o e
 ·subst m
  rcases ha with rfl|rfl
  ·exact .inr (.inr (.inr (.inl rfl)))
  ·exact .inr (.inr (.inr (.inr rfl)))
 ·subst q
  refine aq (S.aL.tab b ha) fun NA e' _=>?_;rw[e'] at e;cases a7 e;cases c
theorem yU(S:bU w s.heap):CodeHd s.heap 187 183:=
 ⟨JW w.params,_,_,_,_,_,_,_,_,S.X 187 _ (lA w.params).1,rfl,rfl,rfl,rfl,rfl,rfl,rfl,rfl,by decide⟩
end
section
variable{F:bT}{g:Gr}{st:St}{s:Shared}{ρ:Rh}
theorem LA(N:aV g st s ρ)(EG:subAt g.C=true)(hl:xK ps sc=true)
  (hQ:∀f ol s',aV g st s' ρ→Up s ρ s' ρ→f∉ρ.all→s'.heap.get? f=some ol→ol.cls=.type "function"→jS ol=true→Q (.ref f) s'):wpAny g.m g.A (eval (.Lambda ps body sc pos) g.env) Q E s:=by
 unfold subAt at EG;rw[Bool.and_eq_true,Option.isNone_iff_eq_none,beq_iff_eq] at EG;unfold xK at hl;rw[Bool.and_eq_true,Bool.and_eq_true,List.isEmpty_iff,List.isEmpty_iff,List.all_eq_true] at hl;refine az hl fun aa l3=>az aa fun l1 l2=>Nx (lA g.w.params) fun _ f2 _ f4 f5=>?_;have X:=N.S.aL.X;have G:s.heap.Ns mainGlobals (s.heap.nsMap mainGlobals):=.of_isNs (isNs_of_in (N:=3) X f4);have hb:s.heap.BuiltinsAt (s.heap.nsMap mainGlobals) 183:=(W0 4 _ (ou (N:=3) X G f5) (by decide) (by decide) (by decide) (X 4 _ f2) rfl rfl rfl)
 have To:defaultsOf ps g.env=([],[]):=by
  obtain⟨_,_,_,_,kd,_,d⟩:=ps;cases l1;cases l2;rfl
 have jC:closureFor sc g.env=pure []:=closureFor_none fun x hx=>bne_iff_ne.mp (l3 x hx);refine aq (N.S.aL.tab 183 (.inl rfl)) fun tb ht tr=>?_;have lW:=N.ok.cx.Nr EG.1 187 (by unfold l5;exact RW EG.2 rfl)
 have out:∀f,s.heap.objs.size≤f→f∉ρ.all:=fun f hf=>N.S.fresh (none_le hf);refine kla_eval To ?_;cases hc:codeAmong pos tb.toList with
 |none=>
  refine kla_makeFunction jC N.ok.cx.glob G lW (yU N.S.aL) ht tr hc (by decide) hb fun c' WO h' tk hx h1 h2 _ JZ=>?_
  have z:=fun o=>N.step (dB.table N.S N.R (a:=183) (.inl rfl) (hx.push o) (gp o JZ) (by
   exact RW Array.toList_append<|TriplesOk_snoc _ _ _ _ tr) tk)
  exact hQ _ _ _ (z _).1 (z _).2 (out _ (fL (dy h1 h2))) (dm _ rfl) rfl (by rfl)
 |some cv=>
  refine kla_makeFunctionHit jC N.ok.cx.glob G lW (yU N.S.aL) ht tr hc hb fun WO h' tk hk h1=>?_;have z:=fun x=>N.grow (fun b o e=>gp x (hk b o e)) tk;exact hQ _ _ _ (z _).1 (z _).2 (out _ h1) (dm _ rfl) rfl (by rfl)
theorem wZ(h:xL x=true):x=some (.con (.ref 169)):=by
 unfold xL at h;split at h
 ·refine RW (cO.mp h) rfl
 ·exact c0 h
theorem CW(he:fg F):OX F:=by
 intro g x xp m ap ps body sc lp e pos st Q s ρ hl xO Tf hm QG EG h N;obtain rfl:m=Str.ofString "sub":=RS (hZ m)<|RW hm rfl;refine dR rfl (cO.mpr QG) (hY N.ok.cx N.S N.R (wZ Tf) fun y ry=>?_);revert ry;intro ry;apply ry.rI;intro _;have OO:=N.S.aL.X 169 _ (JY _);have jq:([.Lambda ps body sc lp,e]:List Expr).any isStarred=false:=by
  refine(?_:(isStarred (.Lambda ps body sc lp)||(isStarred e||false))=false);exact RW xO rfl
 rw[gT (args:=[.Lambda ps body sc lp,e]) jq (by refine(?_:2+0<29);decide)]
 unfold calleeOf;refine RW (aB rfl) ?_;refine getMethod_builtin (aK _ OO rfl) oS il sF (fun a q=>by cases q;exact(aK _ OO rfl)) ?_
 refine callWith_builtin (by rw[eL];exact jq) ?_
 have key:wpAny g.m g.A (spliced (backTo pos (starEach [.Lambda ps body sc lp,e] g.env))) (fun vs s'=>wpAny g.m g.A (call (.builtin "re.Pattern.sub") (.ref 169::vs)) (ey g Q s ρ) cq s') cq s:=by
  refine mZ (LA N EG hl fun f ol s₁ N₁ U₁ ho hf hc Sj=>?_) (aD rfl _ _);refine mZ (he.go h N₁ fun y s₂ ρ₂ v j6 h N₂ U₂ r₂=>rc ?_) (aD xO _ _);have Wo:=(U₂.pl hf ho Sj).1;revert r₂;apply kt h;intro p h r₂;apply r₂.dS;intro t _;refine gD (CZ N₂.S h.1 Wo hc) fun z s₃ q=>?_;cases q with
  |mk v cn ρ' hK P r=>
   refine az hK fun aa aP=>?_;clear hK;subst aa;subst aP;have z:=N₂.call P;exact .mk _ _ _ h.2 z.1 ((U₁.trans U₂).trans z.2) r
 rw[aD (show isStarred (.Lambda ps body sc lp)=false from rfl)] at key ⊢;exact evalArgs_plain key
end
end
section
section
variable{F:bT}
theorem Hv(he:fg F)(ht:xw F)(hc:cJ F)(AG:IJ F)(hG:G.ev=Jx F):fg G:=by
 intro g e st Q s ρ h N;rw[hG] at h
 induction e using Expr.casesOn with
 |Constant c k pos=>exact aE h fun v hv h=>Ed hv (ey.grows N (Up.refl _ _) h)
 |Name x pos=>exact aE h fun v hv h=>hY N.ok.cx N.S N.R hv fun y r=>.mk v st ρ h N (Up.refl _ _) r
 |BoolOp op es pos=>exact yV he op pos es h N
 |NamedExpr t e pos=>exact Ey he h N
 |BinOp l op r pos=>exact EB he h N
 |UnaryOp op e pos=>exact Eu he h N
 |IfExp t a b pos=>exact Ez he ht h N
 |Dict ks vs pos=>exact Iw h N
 |List es pos=>exact It he h N
 |Tuple es k pos=>exact Ev he h N
 |ListComp elt gens sc pos=>exact(mQ (ke:=none) he AG rfl h N).1
 |DictComp ke elt gens sc pos=>exact(mQ (ke:=some ke) he AG rfl h N).1
 |Compare l ops rs pos=>exact gD (oP he h N).1 fun x s' z=>z.up (Up.refl _ _) fun v st q=>by(have aF:=q;clear q;refine aq aF fun c aa q=>?_;clear aF;subst aa);exact q
 |Call f args kws pos=>
  induction f using Expr.casesOn with
  |Name x np=>exact Ix he hc h N
  |Attribute o m ap=>exact Ir he hc (CW he) h N
  |_=>exact h.elim
 |JoinedStr es pos=>exact AB he h N
 |Attribute o m pos=>exact Iy he hc (ae h).1 (ae h).2 N
 |Subscript o i pos=>
  induction i using Expr.casesOn with
  |Slice l u p sp=>exact Ew he h N
  |_=>exact CF he rfl h N
 |_=>exact h.elim
theorem ug(he:fg F){g:Gr}{e:Expr}{st:St}{Q:Bool→St→Prop}{s:Shared}{ρ:Rh}(hi:isTrue e g.env (eval e g.env)=(do let v ←eval e g.env;standAt e.pos;holding [v] (truthy v)))(h:JH F g.C e st Q)(N:aV g st s ρ):wpAny g.m g.A (isTrue e g.env (eval e g.env)) (AH g Q s ρ) cq s:=by
 exact RW hi<|an (he.go h N fun x s₁ ρ₁ v cu h N₁ U₁ r₁=>aE h fun t ht h=>an (eQ (cX (i4 N₁.S r₁ ht fun u=>.mk _ _ h (N₁.tok u).1 (U₁.trans (N₁.tok u).2)))))
theorem F6(he:fg F)(ht:xw F)(hG:G.tr=TO F):xw G:=by
 intro g e st Q s ρ h N;rw[hG] at h
 induction e using Expr.casesOn with
 |UnaryOp op x pos=>
  induction op using UnaryOp.casesOn with
  |Not=>
   refine(?_:wpAny _ _ (do return !(←isTrue x g.env (eval x g.env))) _ _ _)
   exact an (ht.go h N fun c s₁ ρ₁ cu h N₁ U₁=>aS (.mk _ _ h N₁ U₁))
  |_=>exact ug he rfl h N
 |BoolOp op es pos=>exact CE ht op es h N
 |IfExp _ _ _ _=>exact h.elim
 |Compare l ops rs pos=>exact(oP he h N).2
 |_=>exact ug he rfl h N
theorem LV(he:fg F)(ht:xw F)(hx:EJ F)(hc:cJ F)(VL:NV F)(hf:NW F)(hu:Fy F):OZ F:=by
 intro g t st Q s ρ h N;have U:=Up.refl s ρ
 induction t using Stmt.casesOn with
 |Expr e pos=>exact Iv he hc h N
 |Pass pos=>exact wpAny_Pass (.mk .next _ _ h N U trivial)
 |Break pos=>exact wpAny_Break (.mk .brk _ _ h N U trivial)
 |Continue pos=>exact wpAny_Continue (.mk .cont _ _ h N U trivial)
 |Return e pos=>exact AA he h N
 |Assign ts e pos=>exact AD he hu h N
 |AugAssign tg op e pos=>exact M8 he hc h N
 |If t b o pos=>exact Rc ht hx h N
 |While t b o pos=>exact Et VL h N
 |For t it b o pos=>
  have z:=ae h;clear h;refine az z fun aa h=>az aa fun ho hs=>?_;cases mX.mp ho;exact M7 he hf hs h N
 |Delete ts pos=>exact AC he h N
 |Assert t m pos=>exact AE ht h N
 |Raise e c pos=>
  have z:=ae h;clear h;refine az z fun aa h=>az aa fun hc hd=>?_;cases tE.mp hc
  induction e using Option.casesOn with
  |none=>exact h.elim
  |some e=>exact Ex he hd h N
 |Try body hs os fs pos=>exact M5 he hx h N
 |_=>exact h.elim
structure gL(F:bT):Prop where
 ev:fg F
 tr:xw F
 ex:EJ F
 call:cJ F
 wh:NV F
 fo:NW F
 co:IJ F
 dr:RR F
 use:Fy F
theorem gL.step(a:gL F)(hs:bt F.sm):gL (kl F) where
 ev:=Hv a.ev a.tr a.call a.co rfl
 tr:=F6 a.ev a.tr rfl
 ex:=fun h N=>uE (LV a.ev a.tr a.ex a.call a.wh a.fo a.use) _ h N
 call:=At a.ex a.call hs (zW a.call a.dr) rfl
 wh:=FE a.tr a.ex a.wh rfl
 fo:=Hq a.ev a.ex a.fo rfl
 co:=HK a.ev a.tr a.co rfl
 dr:=HC a.call a.dr rfl
 use:=CK a.ev a.co rfl
end
def TG(e:Expr)(g:Gr)(Q:V→St→Prop)(s:Shared)(ρ:Rh):Prop:=fH e=true→∀(Q₂:St→Prop) (use:Value→Sem Unit),(∀{s₀ ρ₀ x s' ρ' v st'},Q v st'→aV (g.re s₀ ρ₀) st' s' ρ'→VR s'.heap ρ' v x→wpAny g.m g.A (use x) (fun _=>kQ (g.re s₀ ρ₀) Q₂ s' ρ') cq s')→wpAny g.m g.A (evalThenUse e g.env use) (fun _=>kQ g Q₂ s ρ) cq s
def mV(sm:eI):bT where
 ev C e st Q:=∀(g:Gr) s ρ,g.C=C→aV g st s ρ→wpAny g.m g.A (eval e g.env) (ey g Q s ρ) cq s∧TG e g Q s ρ
 tr C e st Q:=∀(g:Gr) s ρ,g.C=C→aV g st s ρ→wpAny g.m g.A (isTrue e g.env (eval e g.env)) (AH g Q s ρ) cq s
 ex C ss st Q:=∀(g:Gr) s ρ,g.C=C→aV g st s ρ→wpAny g.m g.A (execs ss g.env) (kR g Q s ρ) (mT g Q s ρ) s
 call d f args kws os K:=∀w A s ρ fv xs ks,mo A d→SR w ρ os s.heap→Fr A ρ s.heap→VR s.heap ρ f fv→aM s.heap ρ args xs→xy s.heap ρ kws ks→wA w A f fv xs ks (eE w ρ s K) s
 wh C t b o st Q:=∀(g:Gr) s ρ s₁ ρ₁,g.C=C→aV g st s ρ→Up s₁ ρ₁ s ρ→codeAny g.m g.A (.whileLoop t b o g.env) (fun r s'=>∃fl,r=.ok fl∧kR g Q s₁ ρ₁ fl s') s
 fo C t b bj n k st Q:=∀(g:Gr) s ρ a s₁ ρ₁,g.C=C→aV g st s ρ→Walk g s₁ ρ₁ s ρ a→vE s.heap ρ bj n k a→codeAny g.m g.A (.forLoop t (.ref a) b [] g.env) (fun r s'=>∃fl,r=.ok fl∧kR g Q s₁ ρ₁ fl s') s
 co C ke elt t ifs bj n k st ai Q:=∀(g:Gr) it sc pos s ρ a D,g.C=C→xx g ke a D ai bj n k st s ρ→codeAny g.m g.A (.compLoop (dO ke elt t it ifs sc pos) 0 (.ref a) (.ref D) g.env) (fun r s'=>r=.ok .next∧∃cP st' ρ',Q cP st'∧Made g ke D cP st' s' ρ') s
 dr d i n os K:=∀w A S s₀ ρ₀ s ρ a (vs:List V),vs.length=n→mo A.in1 d→A.handled=none→vx w A.in1 S s₀ ρ₀ vs os s ρ→ρ.l[i]? =some a→
  codeAny (model PW w) A (.builtin "list.extend.loop" ⟨[.ref S,.ref a,.none],[]⟩) (fun r s'=>r=.ok (.ret .none)∧∃l cn ρ',K l cn∧vx w A.in1 S s₀ ρ₀ (vs++l) cn s' ρ') s
 sm:=sm
theorem BN(sm):gL (mV sm) where
 ev:=fun h N=>(h _ _ _ rfl N).1
 tr:=fun h N=>h _ _ _ rfl N
 ex:=fun h N=>h _ _ _ rfl N
 call:=fun h=>h _ _ _ _ _ _ _
 wh:=fun h N U=>h _ _ _ _ _ rfl N U
 fo:=fun h N W it=>h _ _ _ _ _ _ rfl N W it
 co:=fun h m=>h _ _ _ _ _ _ _ _ rfl m
 dr:=fun h hR hh c ha=>h _ _ _ _ _ _ _ _ _ rfl hR hh c ha
 use:=fun hc h N hu=>(h _ _ _ rfl N).2 hc _ _ hu
structure Le(F G:bT):Prop where
 ev:∀{C e st Q},F.ev C e st Q→G.ev C e st Q
 tr:∀{C e st Q},F.tr C e st Q→G.tr C e st Q
 ex:∀{C ss st Q},F.ex C ss st Q→G.ex C ss st Q
 call:∀{d f args kws os K},F.call d f args kws os K→G.call d f args kws os K
 wh:∀{C t b o st Q},F.wh C t b o st Q→G.wh C t b o st Q
 fo:∀{C t b bj n k st Q},F.fo C t b bj n k st Q→G.fo C t b bj n k st Q
 co:∀{C ke elt t ifs bj n k st ai Q},F.co C ke elt t ifs bj n k st ai Q→G.co C ke elt t ifs bj n k st ai Q
 dr:∀{d i n os K},F.dr d i n os K→G.dr d i n os K
theorem gL.le(a:gL F)(sm:eI):Le F (mV sm) where
 ev:=fun h g s ρ e N=>by subst e;exact⟨a.ev h N,fun hc Q₂ use hu=>a.use hc h N hu⟩
 tr:=fun h g s ρ e N=>by subst e;exact a.tr h N
 ex:=fun h g s ρ e N=>by subst e;exact a.ex h N
 call:=fun h w A s ρ fv xs ks=>a.call h
 wh:=fun h g s ρ s₁ ρ₁ e N U=>by subst e;exact a.wh h N U
 fo:=fun h g s ρ b s₁ ρ₁ e N W it=>by subst e;exact a.fo h N W it
 co:=fun h g it sc pos s ρ b D e m=>by subst e;exact a.co h m
 dr:=fun h w A S s₀ ρ₀ s ρ b vs e hR hh c ha=>by subst e;exact a.dr h hR hh c ha
noncomputable def vO(sm:eI):Nat→bT
 |0=>mV sm
 |k+1=>{kl (vO sm k) with wh:=(mV sm).wh,fo:=(mV sm).fo,co:=(mV sm).co,dr:=(mV sm).dr}
theorem rW(sm):∀k,(vO sm k).sm=sm
 |0=>rfl
 |k+1=>rW sm k
theorem nL(hs:bt sm):∀k,gL (vO sm k)
 |0=>BN sm
 |k+1=>by
  have a:=(nL hs k).step (RW (rW _ _) hs);have b:=BN sm;exact⟨a.ev,a.tr,a.ex,a.call,b.wh,b.fo,b.co,b.dr,a.use⟩
theorem Lr(hs:bt sm)(k):Le (vO sm k) (mV sm):=(nL hs k).le sm
theorem FO(hs:bt sm)(k):Le (kl (vO sm k)) (mV sm):=((nL hs k).step (RW (rW _ _) hs)).le sm
end
section
@[irreducible] def ay(sm:eI):bT:=mV sm
@[irreducible] def aT(sm:eI)(k:Nat):bT:=vO sm k
theorem eM(sm):ay sm=mV sm:=by unfold ay;rfl
theorem et(sm)(k):aT sm k=vO sm k:=by unfold aT;rfl
theorem bA(hs:bt sm)(k):Le (aT sm k) (ay sm):=RW (et _ _)<|RW (eM _)<|Lr hs k
theorem bV(hs:bt sm)(k):Le (kl (aT sm k)) (ay sm):=RW (et _ _)<|RW (eM _)<|FO hs k
theorem GO(sm)(k):(aT sm (k+1)).ex=AU (aT sm k):=RW (et _ _)<|RW (et _ _) rfl
theorem GN(sm)(k):(aT sm (k+1)).fo=(ay sm).fo:=RW (et _ _)<|RW (eM _) rfl
theorem yv(sm)(k):(aT sm (k+1)).co=(ay sm).co:=RW (et _ _)<|RW (eM _) rfl
noncomputable def fO(l:List (Addr×Nat×bO)):eI:=fun a=>l.lookup a
def O0:List (Addr×Nat×bO)→Prop
 |[]=>True
 |e::r=>Entry e.1 e.2.1 e.2.2∧O0 r
theorem bP:∀{l:List (Addr×Nat×bO)},O0 l→bt (fO l)
 |[],_,_,_,_,e=>aJ e
 |x::r,h,a,k,f,e=>by
  have e:List.lookup a ((x.1,x.2)::r)=some (k,f):=e;rw[List.lookup_cons] at e;refine EM ((a==x.1)=true) (fun c=>?_) fun c=>?_
  ·rw[c] at e
   have z:Entry x.1 x.2.1 x.2.2:=h.1;rw[show x.2=(k,f) from Option.some.inj e,←beq_iff_eq.mp c] at z;exact z
  ·rw[Bool.eq_false_iff.mpr c] at e
   exact bP h.2 e
theorem ct(ha:gc (.ref a)=true)(h:∀{args kws os K},f args kws os K→(ay sm).call k (.con (.ref a)) args kws os K):Entry a k f:=
 fun hf hR S hF ra rk=>by
  have z:=h hf;rw[eM] at z;exact z _ _ _ _ _ _ _ hR S hF (.con _ ha) ra rk
mutual
noncomputable def dn(n:Nat):V→Bool
 |.ref i=>decide (i<n)
 |.view _=>false
 |.seq _ vs=>ah n vs
 |_=>true
noncomputable def ah(n:Nat):List V→Bool
 |[]=>true
 |v::vs=>dn n v&&ah n vs
end
theorem ig:∀{vs:List V} {i:Nat} {v:V},ah n vs=true→vs[i]? =some v→dn n v=true
 |[],_,_,_,e=>aJ e
 |u::vs,i,v,h,e=>by
  unfold ah at h;rw[Bool.and_eq_true] at h
  induction i using Nat.casesAuxOn with
  |zero=>cases a7 e;exact h.1
  |succ i=>exact ig h.2 e
section
variable{w:World}{h:Heap}{ρ ρ':Rh}{n:Nat}
theorem VR.drop(hl:∀i a,i<n→ρ.l[i]? =some a→ρ'.l[i]? =some a)(ha:∀a,a∈ρ'.all→a∈ρ.all)(r:VR h ρ v x):dn n v=true→VR h ρ' v x:=by
 induction r with
 |none=>exact fun _=>.none
 |bool b=>exact fun _=>.bool b
 |int i t=>exact fun _=>.int i t
 |str s t l=>exact fun _=>.str s t l
 |con v e=>exact fun _=>.con v e
 |ref e=>exact fun q=>.ref (hl _ _ (jy q) e)
 |view e1 e2 e3 e4=>exact fun q=>absurd q ck
 |mj e1 e2 e3 e4 e5=>exact fun _=>.mj e1 (fun m=>e2 (ha _ m)) e3 e4 e5
 |seq e2 e3 e4 e5 _ ih=>exact fun q=>.seq (fun m=>e2 (ha _ m)) e3 e4 e5 fun i v x q1 q2=>ih i v x q1 q2 (ig q q1)
theorem aM.drop(hl:∀i a,i<n→ρ.l[i]? =some a→ρ'.l[i]? =some a)(ha:∀a,a∈ρ'.all→a∈ρ.all)(r:aM h ρ vs xs)(q:ah n vs=true):aM h ρ' vs xs:=
 ⟨r.1,fun i v x e1 e2=>VR.drop hl ha (r.2 i v x e1 e2) (ig q e1)⟩
noncomputable def jj{α:Type}(n:Nat):List (α×V)→Bool
 |[]=>true
 |e::r=>dn n e.2&&jj n r
theorem ly{α:Type}:∀(l:List (α×V)),ah n (l.map (·.2))=jj n l
 |[]=>rfl
 |e::r=>by
  refine(?_:(dn n e.2&&ah n (r.map (·.2)))=_);exact RW (ly r) rfl
noncomputable def nF(n:Nat):List (Option V)→Bool
 |[]=>true
 |some v::r=>dn n v&&nF n r
 |none::r=>nF n r
theorem lq:∀{vs:List (Option V)} {k:Nat} {v:V},nF n vs=true→(vs[k]?).join=some v→dn n v=true
 |[],_,_,_,e=>aJ e
 |some u::r,k,v,h,e=>by
  have h:(dn n u&&nF n r)=true:=h;rw[Bool.and_eq_true] at h
  induction k using Nat.casesAuxOn with
  |zero=>cases a7 e;exact h.1
  |succ k=>exact lq (vs:=r) (k:=k) h.2 e
 |none::r,k,v,h,e=>by
  induction k using Nat.casesAuxOn with
  |zero=>exact aJ e
  |succ k=>exact lq (vs:=r) (k:=k) h e
def aH(n:Nat):O→Bool
 |.list vs=>ah n vs
 |.dict es _=>jj n es
 |.attrs es=>jj n es
 |.inst _ d=>decide (d<n)
 |.slots _ d vs=>decide (d<n)&&nF n vs
 |.iter l _=>decide (l<n)
 |.wrap _ s=>decide (s<n)
 |_=>true
theorem AR.drop(hl:∀i a,i<n→ρ.l[i]? =some a→ρ'.l[i]? =some a)(ha:∀a,a∈ρ'.all→a∈ρ.all)(r:AR h ρ es d6):jj n es=true→AR h ρ' es d6:=by
 induction r with
 |nil=>exact fun _=>.nil
 |cons e1 e2 _ ih=>
  intro q;have q:=pn.mp q;exact .cons e1 (VR.drop hl ha e2 q.1) (ih q.2)
theorem OR.drop(hl:∀i a,i<n→ρ.l[i]? =some a→ρ'.l[i]? =some a)(ha:∀a,a∈ρ'.all→a∈ρ.all)(r:OR w h ρ o a)(q:aH n o=true):OR w h ρ' o a:=by
 induction o using O.casesOn with
 |list vs=>
  exact ez r fun ws m h1 h2 h3=>(jN ws m h1 h2 (aM.drop hl ha h3 q))
 |dict es ep=>
  exact EL r fun bM e h1 h2 h3 h4 h5=>(IM bM e h1 h2 h3 h4 (aM.drop hl ha h5 ((ly es).trans q)))
 |attrs es=>
  exact ez r fun d6 m h1 h2 h3=>(jN d6 m h1 h2 (h3.drop hl ha q))
 |inst C d=>
  exact fJ r fun dx sl h1 h2=>(pK dx sl (hl _ _ (jy q) h1) h2)
 |slots C d vs=>
  refine xz r fun dx sl h1 h2 h3 h4=>?_;have q:=pn.mp q;refine AK dx sl (hl _ _ (jy q.1) h1) h2 h3 (fun k hk=>?_);have z:=h4 k hk;cases e:(vs[k]?).join with
  |none=>rw[e] at z;exact z
  |some v=>
   rw[e] at z;exact z.imp fun x z=>⟨z.1,VR.drop hl ha z.2 (lq q.2 e)⟩
 |set xs=>exact r
 |AW=>exact r
 |iter l k=>exact r.imp fun al z=>⟨hl _ _ (jy q) z.1,z.2⟩
 |dead=>exact r
 |wrap id s=>exact r.imp fun b z=>⟨hl _ _ (jy q) z.1,z.2⟩
end
noncomputable def dG(n:Nat):List O→Bool
 |[]=>true
 |o::r=>aH n o&&dG n r
theorem jc:∀{os:List O} {i:Nat} {o:O},dG n os=true→os[i]? =some o→aH n o=true
 |[],_,_,_,e=>aJ e
 |u::os,i,o,h,e=>by
  unfold dG at h;rw[Bool.and_eq_true] at h
  induction i using Nat.casesAuxOn with
  |zero=>cases a7 e;exact h.1
  |succ i=>exact jc h.2 e
def iX(n:Nat)(K:Rs→List O→Prop)(r:Rs)(os:List O):Prop:=match r with
 |.ok v=>dn n v=true∧dG n (os.take n)=true∧K (.ok v) (os.take n)
 |.exc _=>False
theorem eE.drop{K}(h:eE w ρ s (iX ρ.l.length K) z s'):eE w ρ s K z s':=by
 rcases z with e|(_|_|_|x)
 ·refine AL h fun c cn ρ' hK _=>?_;exact hK.elim
 ·exact h.elim
 ·exact h.elim
 ·exact h.elim
 ·refine mU h fun v cn ρ' aa P r=>gq aa fun h1 h2 hK=>?_
  have hl:∀i a,i<ρ.l.length→ρ'.l[i]? =some a→ρ.l[i]? =some a:=fun i a hi e=>by
   refine RW (dz hi)<|RS e ?_;exact(cg P.pre (dz hi)).symm
  have ha:∀a,a∈ρ.all→a∈ρ'.all:=fun a m=>(b9.mp m).elim (fun m=>gu _ (P.pre.1.subset m)) fun m=>cY _ (by rw[P.pre.2];exact m)
  have S:=P.sr;have a9:ρ.l.length≤cn.length:=RS S.len P.pre.1.length_le;refine AJ v _ ρ hK ⟨Rh.le_refl ρ,⟨S.aL,(List.length_take_of_le a9).symm,P.pre.1.sublist.nodup S.nodup,fun a m=>S.high a (P.pre.1.subset m),fun a m=>S.vr a (by rw[P.pre.2];exact m),fun i a o e1 e2=>?_⟩,P.keep,P.os,P.gens,fun a m q=>absurd m q,P.alive,P.fz⟩ (VR.drop hl ha r h1)
  have hi:i<ρ.l.length:=(fY.mp e1).1;refine(S.rep i a o (cg P.pre e1) ?_).drop hl ha (jc h2 e2);refine RS e2<|RW (List.getElem?_take_of_lt hi) rfl
theorem oI(ha:gc (.ref a)=true)(h:∀{args kws os K},f args kws os K→(ay sm).call k (.con (.ref a)) args kws os (iX os.length K)):Entry a k f:=
 fun hf hR S hF ra rk=>by
  have z:=h hf;rw[eM] at z;exact iJ (z _ _ _ _ _ _ _ hR S hF (.con _ ha) ra rk) fun z s' q=>eE.drop (RW S.len q)
def cZ(f:List V→List (Str×V)→(V→Prop)→Prop):bO:=fun args kws os K=>(ah 0 args=true∧jj 0 kws=true)∧f args kws fun v=>dn 0 v=true∧K (.ok v) os
def iD(K:V→Prop)(r:Rs)(_:List O):Prop:=match r with
 |.ok v=>K v
 |.exc _=>False
theorem dQ(ha:gc (.ref a)=true)(h:∀{args kws K},f args kws K→(ay sm).call k (.con (.ref a)) args kws [] (iD K)):Entry a k (cZ f):=by
 intro w A args kws os K s ρ xs ks hf hR S hF ra rk;have vP:∀b,b∈Rh.all ⟨[],ρ.l++ρ.z⟩→b∈ρ.all:=fun b m=>m;have no:∀i (b:Addr),i<0→ρ.l[i]? =some b→([]:List Addr)[i]? =some b:=fun i b q=>absurd q (q8 i);have S₀:SR w ⟨[],ρ.l++ρ.z⟩ [] s.heap:=⟨S.aL,rfl,jx,fun b m=>(nomatch m),fun b m=>S.there m,fun i b o e=>(nomatch e)⟩;have hc:=h hf.2;rw[eM] at hc;refine iJ (hc _ _ _ ⟨[],ρ.l++ρ.z⟩ _ _ _ hR S₀ (hF.to fun L o h1 h2 h3 h4 h5=>⟨fun m=>h2 (vP L m),o,h1,h4,h5⟩) (.con _ ha) (aM.drop (n:=0) (ρ':=⟨[],ρ.l++ρ.z⟩) no vP ra hf.1.1) ⟨rk.1,aM.drop (n:=0) (ρ':=⟨[],ρ.l++ρ.z⟩) no vP rk.2 ((ly kws).trans hf.1.2)⟩) fun z s' q=>?_;rcases z with e|(_|_|_|x)
 ·refine AL q fun c cn ρ' hK _=>?_;exact hK.elim
 ·exact q.elim
 ·exact q.elim
 ·exact q.elim
 ·refine mU q fun v cn ρ' aa P r=>az aa fun h1 hK=>?_
  have hz:ρ'.z=ρ.l++ρ.z:=P.pre.2;have lo:∀{b:Addr},N0≤b→¬Nt ⟨[],ρ.l++ρ.z⟩ b:=fun{b} hb m=>by
   refine aA m (fun m=>?_) fun qP=>aA qP (fun m=>?_) fun m=>?_
   ·cases m
   ·subst m;exact absurd hb (by decide)
   ·subst m;exact absurd hb (by decide)
  have Wp:fF (Nt ⟨[],ρ.l++ρ.z⟩) ρ s.heap:=fun b o e m=>by
   refine aA m (fun m=>?_) fun m=>?_
   ·cases m
   ·exact By (ρ:=ρ) S.aL b o e (.inr m)
  refine AJ v os ρ hK ⟨Rh.le_refl ρ,?_,P.keep.mono fun b o _ m=>?_,P.os,P.gens,fun b m q=>absurd m q,P.alive,fun b o e hz hl=>P.fz b o e (cY _ hz) (fun m=>nomatch m)⟩ (VR.drop (n:=0) (fun i b q=>absurd q (q8 i)) (fun b m=>cY _ (RW hz m)) r h1)
  ·exact S.eX P.keep Wp (fun _ _ e=>e) aO (fun b m=>by
    exact bf (S.vr b m) fun o e=>P.alive b o e) P.sr.aL S.len S.nodup S.high fun i b o e1 e2=>.inl (cE e1 e2 (lo (S.high b (db e1))))
  ·refine aA m (fun m=>?_) fun m=>?_
   ·cases m
   ·exact .inr m
end
section
def ac(a:Addr):List Stmt:=match fnAt a with
 |some fd=>fd.body
 |none=>[]
def cx(a d:Nat):Cx:=⟨match fnAt a with
 |some fd=>fd.scope.names
 |none=>[],d⟩
noncomputable def nm(s:String):Str:=Str.ofString s
noncomputable def dY(s:Stmt):PySem.Expr:=
 if h:s.ctorIdx=3 then Stmt.Return.elim (motive_2:=fun _=>PySem.Expr) s h fun e _=>e.getD (.Constant .none 0 default) else
 if h:s.ctorIdx=5 then Stmt.Assign.elim (motive_2:=fun _=>PySem.Expr) s h fun _ e _=>e else
 if h:s.ctorIdx=24 then Stmt.Expr.elim (motive_2:=fun _=>PySem.Expr) s h fun e _=>e else
 if h:s.ctorIdx=12 then Stmt.If.elim (motive_2:=fun _=>PySem.Expr) s h fun e _ _ _=>e else
 if h:s.ctorIdx=11 then Stmt.While.elim (motive_2:=fun _=>PySem.Expr) s h fun e _ _ _=>e else
 if h:s.ctorIdx=9 then Stmt.For.elim (motive_2:=fun _=>PySem.Expr) s h fun _ e _ _ _=>e else
 .Constant .none 0 default
noncomputable def jA(s:Stmt):List Stmt:=
 if h:s.ctorIdx=12 then Stmt.If.elim (motive_2:=fun _=>List Stmt) s h fun _ b _ _=>b else
 if h:s.ctorIdx=11 then Stmt.While.elim (motive_2:=fun _=>List Stmt) s h fun _ b _ _=>b else
 if h:s.ctorIdx=9 then Stmt.For.elim (motive_2:=fun _=>List Stmt) s h fun _ _ b _ _=>b else
 if h:s.ctorIdx=17 then Stmt.Try.elim (motive_2:=fun _=>List Stmt) s h fun b _ _ _ _=>b else
 []
noncomputable def EN(s:Stmt):List Stmt:=
 if h:s.ctorIdx=12 then Stmt.If.elim (motive_2:=fun _=>List Stmt) s h fun _ _ b _=>b else
 if h:s.ctorIdx=11 then Stmt.While.elim (motive_2:=fun _=>List Stmt) s h fun _ _ b _=>b else
 []
noncomputable def vy(s:Stmt):PySem.Expr:=
 if h:s.ctorIdx=9 then Stmt.For.elim (motive_2:=fun _=>PySem.Expr) s h fun t _ _ _ _=>t else
 .Constant .none 0 default
noncomputable def a5(l:List Stmt)(i:Nat):Stmt:=match l[i]? with
 |some s=>s
 |none=>.Pass default
def a6(l:List Stmt)(i:Nat):List Stmt:=[a5 l i]
noncomputable def bS(e:Expr):List (Str×NameKind):=
 if h:e.ctorIdx=8 then Expr.ListComp.elim (motive_1:=fun _=>List (Str×NameKind)) e h fun _ _ sc _=>sc.names else
 if h:e.ctorIdx=10 then Expr.DictComp.elim (motive_1:=fun _=>List (Str×NameKind)) e h fun _ _ _ sc _=>sc.names else
 []
noncomputable def RQ(e:Expr):Option PySem.Expr:=
 if h:e.ctorIdx=10 then Expr.DictComp.elim (motive_1:=fun _=>Option PySem.Expr) e h fun k _ _ _ _=>some k else
 none
noncomputable def dX(e:Expr):PySem.Expr:=
 if h:e.ctorIdx=8 then Expr.ListComp.elim (motive_1:=fun _=>PySem.Expr) e h fun a _ _ _=>a else
 if h:e.ctorIdx=10 then Expr.DictComp.elim (motive_1:=fun _=>PySem.Expr) e h fun _ a _ _ _=>a else
 e
noncomputable def Uy(e:Expr):List Comprehension:=
 if h:e.ctorIdx=8 then Expr.ListComp.elim (motive_1:=fun _=>List Comprehension) e h fun _ g _ _=>g else
 if h:e.ctorIdx=10 then Expr.DictComp.elim (motive_1:=fun _=>List Comprehension) e h fun _ _ g _ _=>g else
 []
def ff(e:Expr):Expr:=match Uy e with
 |g::_=>g.target
 |[]=>e
def dW(e:Expr):List Expr:=match Uy e with
 |g::_=>g.ifs
 |[]=>[]
abbrev M(sm:eI):bT:=aT sm 40
section
variable{sm:eI}{C:Cx}
theorem oH(F)(C):∀(a b:List Stmt) (st:St) (Q:Fl→St→Prop),AU F C (a++b) st Q=AU F C a st (bD (fun st=>AU F C b st Q) Q)
 |[],_,_,_=>rfl
 |s::a,b,st,Q=>by
  refine(?_:tj F C s st (bD (fun st=>AU F C (a++b) st Q) Q)=tj F C s st (bD (fun st=>AU F C a st (bD (fun st=>AU F C b st Q) Q)) (bD (fun st=>AU F C b st Q) Q)))
  congr 1
  funext f st
  induction f using Fl.casesOn<;>first|exact oH F C a b st Q|rfl
theorem dc(k){a b:List Stmt}{st:St}{Q:Fl→St→Prop}(h:(aT sm (k+1)).ex C a st (bD (fun st=>(aT sm (k+1)).ex C b st Q) Q)):(aT sm (k+1)).ex C (a++b) st Q:=
 by
  rw[GO] at h ⊢;exact Eq.mpr (oH (aT sm k) C a b st Q) h
theorem aj{k:St→Prop}{Q:Fl→St→Prop}{st:St}(h:k st):bD k Q .next st:=h
theorem bo(k n){l:List Stmt}{st:St}{Q:Fl→St→Prop}(h:(aT sm (k+1)).ex C (l.take n) st (bD (fun st=>(aT sm (k+1)).ex C (l.drop n) st Q) Q)):(aT sm (k+1)).ex C l st Q:=by
 have z:=dc k h;rw[List.take_append_drop] at z;exact z
theorem jX(x)(v):∀(cs l:List (Str×V)),(cs.all fun e=>!(e.1==x))=true→(l=[]∨∃u,l=[(x,u)])→bX x v (cs++l)=cs++[(x,v)]
 |[],l,_,hl=>by
  rcases hl with rfl|⟨u,rfl⟩
  ·rfl
  ·refine(?_:(if x==x then(x,v)::[] else(x,u)::bX x v [])=_)
   exact RW (aB (dT x)) rfl
 |e::cs,l,h,hl=>by
  rw[List.all_cons,Bool.and_eq_true] at h;have h1:(e.1==x)=false:=Eq.mp (m3 _) h.1;refine(?_:(if e.1==x then(x,v)::(cs++l) else e::bX x v (cs++l))=_)
  exact RW h1<|RW (au ck)<|RW (jX x v cs l h.2 hl) rfl
def Gives(os:List O)(bj:V)(n:Nat×Nat)(items:List V):Prop:=∀k,itemAt os bj n k=some items[k]?
theorem br(os:List O)(b:Bool)(vs:List V):Gives os (.seq b vs) (0,0) vs:=fun _=>rfl
theorem Aa(os:List O)(a b:Int):Gives os (.mj a b) (0,0) (cB a b):=fun k=>by
 refine(?_:some (if a+(k:Int)<b then some (V.int (a+(k:Int))) else none)=some ((cB a b)[k]?))
 unfold cB;refine RW pi ?_;refine EM (a+(k:Int)<b) (fun c=>?_) fun c=>?_
 ·(refine RW (aB c)<|RW (List.getElem?_range (by lia)) ?_);rfl
 ·(refine RW (au c)<|RW (rz (by refine RW nj ?_;lia)) ?_);rfl
theorem QR(hs:bt sm){ke}{elt}{ifs}{x}{xp}{bj}{n}{vs}{cs}{os}{g}{Q}
  (hd:C.d≠0) (hx:fA C x=true) (EV:(cs.all fun e=>!(e.1==x))=true) (hit:Gives os bj n vs) (hg:∀v∈vs,(g v).length≤1)
  (step:∀v∈vs,∀ai (R:St→List (V×V)→Prop),ai.length<ax→R ⟨cs++[(x,v)],os⟩ (ai++g v)→dA (M sm) C .And ifs ⟨cs++[(x,v)],os⟩ fun ok st=>match ok with
   |true=>ba (M sm) C ke elt st ai R
   |false=>R st ai)
  (hQ:∀l,Q (vs.flatMap g) ⟨cs++l,os⟩):∀(m k:Nat) (ai:List (V×V)) (l:List (Str×V)),m+k=vs.length→vs.length≤ax→ai.length≤k→ai=(vs.take k).flatMap g→(l=[]∨∃u,l=[(x,u)])→(ay sm).co C ke elt (.Name x xp) ifs bj n k ⟨cs++l,os⟩ ai Q:=by
 intro m
 induction m with
 |zero=>
  intro k ai l hk _ _ ha _;refine(bV hs 40).co (aC hd ?_)
  (rewrite [show itemAt _ bj n k=some vs[k]? from hit k];(refine RW (rz (by lia)) ?_))
  refine(?_:Q ai ⟨cs++l,os⟩);exact RW ha<|RW (List.take_of_length_le (by lia))<|hQ l
 |succ m ih=>
  intro k ai l hk hl ca ha jr;have jL:k<vs.length:=by lia
  have pv:vs[k]∈vs:=lU jL;refine(bV hs 40).co (aC hd ?_)
  (rewrite [show itemAt _ bj n k=some vs[k]? from hit k];(refine RW (dz jL) ?_))
  refine(?_:af (fA C x=true) _);refine aC hx ?_;dsimp only;refine RW (jX x _ cs l EV jr)<|RW (yv _ _) ?_;have z:=step vs[k] pv ai (fun st ai=>(ay sm).co C ke elt (.Name x xp) ifs bj n (k+1) st ai Q) (by lia) (ih (k+1) _ [(x,vs[k])] (by lia) hl (by refine RW b4 ?_;have:=hg _ pv;exact(Nat.add_le_add ca this)) (by refine RW ha<|RW (List.take_succ_eq_append_getElem jL)<|RW List.flatMap_append ?_;simp) (.inr ⟨_,rfl⟩))
  exact z
theorem ci(hs:bt sm){ke}{elt}{ifs}{x}{xp}{bj}{n}{vs}{cs}{os}(g:V→List (V×V)){Q}
  (hd:C.d≠0) (hx:fA C x=true) (EV:(cs.all fun e=>!(e.1==x))=true) (hit:Gives os bj n vs) (hl:vs.length≤ax) (hg:∀v∈vs,(g v).length≤1)
  (step:∀v∈vs,∀ai (R:St→List (V×V)→Prop),ai.length<ax→R ⟨cs++[(x,v)],os⟩ (ai++g v)→dA (M sm) C .And ifs ⟨cs++[(x,v)],os⟩ fun ok st=>match ok with
   |true=>ba (M sm) C ke elt st ai R
   |false=>R st ai)
  (hQ:∀l,Q (vs.flatMap g) ⟨cs++l,os⟩):(ay sm).co C ke elt (.Name x xp) ifs bj n 0 ⟨cs,os⟩ [] Q:=by
 have z:=QR (xp:=xp) hs hd hx EV hit hg step hQ vs.length 0 [] [] rfl hl (bI _) rfl (.inl rfl);rw[List.append_nil] at z;exact z
theorem dp(hs:bt sm){t:Expr}{body:List Stmt}{bj:V}{n:Nat×Nat}{vs:List V}{Q:Fl→St→Prop}(I:Nat→St→Prop)(hd:C.d≠0)(hit:∀{k st},I k st→itemAt st.os bj n k=some vs[k]?)
  (turn:∀{k v st} (R:St→Prop),vs[k]? =some v→I k st→(∀{st},I (k+1) st→R st)→aI (M sm) C t v st fun st=>(M sm).ex C body st (bJ R Q))
  (hQ:∀{st},I vs.length st→Q .next st) {st:St} (h:I 0 st):(ay sm).fo C t body bj n 0 st Q:=by
 have go:∀(m k:Nat) (st:St),m+k=vs.length→I k st→(ay sm).fo C t body bj n k st Q:=by
  intro m
  induction m with
  |zero=>
   intro k st hk hI;refine(bV hs 40).fo (aC hd ?_);refine RW (hit hI)<|RW (rz (by lia)) ?_
   exact hQ (by refine RW (show vs.length=k by lia) ?_;exact hI)
  |succ m ih=>
   intro k st hk hI;have jL:k<vs.length:=by lia
   refine(bV hs 40).fo (aC hd ?_);refine RW (hit hI)<|RW (dz jL) ?_;exact RW (GN _ _)<|turn (fun st=>(ay sm).fo C t body bj n (k+1) st Q) (dz jL) hI fun hI=>ih (k+1) _ (by lia) hI
 exact go vs.length 0 st rfl h
end
end
abbrev Item:=Tx×Tx×Bool
noncomputable def a3:List Item:=[([97],[97],false),([42],[],false),([63],[],true),([98],[98],false),([39],[39],false),([91,42,93],[42],false),([91,35,93],[35],false),([91,33,97,35,93],[97,35],true),([100],[100],false)]
noncomputable def aZ(i:Item):V:=.seq false [.str i.1,.str i.2.1,.bool i.2.2]
def pick(x:Int)(k:Nat):Item:=(a3[(Int.fmod (Int.fdiv (Int.fdiv x 3) (9^k)) 9).toNat]?).getD ([],[],false)
def fP(x:Int):List Item:=(List.range (1+Int.fmod x 3).toNat).map (pick x)
def bi:eI:=fO []
def vS:List V→List (Str×V)→(V→Prop)→Prop:=fun args kws K=>kws=[]∧∃x,args=[.int x]∧K (.seq false ((fP x).map aZ))
def zm:Expr:=dY (a5 (ac 908) 2)
theorem KV(x)(K):(9≤ax∧((0≤(0:Int)∧(0:Int)≤16777216)∧(-16777216≤1+Int.fmod x 3∧1+Int.fmod x 3<16777216))∧
  (ay bi).co ⟨bS zm,1⟩ none (dX zm) (.Name (nm "k") ⟨937,44,937,45⟩) [] (.mj 0 (1+Int.fmod x 3)) (0,0) 0 ⟨[(nm "items",.seq false (a3.map aZ)),(nm "x",.int x)],[]⟩ [] fun ai st=>af ((ai.map (·.2)).length≤ax) (K (.seq false (ai.map (·.2)))))=(M bi).call 2 (.con (.ref 908)) [.int x] [] [] (iD K):=by kernel_rfl
theorem yl(y):0≤Int.fmod y 9∧Int.fmod y 9<9:=⟨zb _ (by decide),Int.fmod_lt_of_pos _ (by decide)⟩
theorem Gs(y)(os):bn os (.seq false (a3.map aZ)) (.int (Int.fmod y 9))=some (aZ ((a3[(Int.fmod y 9).toNat]?).getD ([],[],false))):=by
 have h:=yl y
 generalize Int.fmod y 9=r at h
 have:r=0∨r=1∨r=2∨r=3∨r=4∨r=5∨r=6∨r=7∨r=8:=by lia
 rcases this with rfl|rfl|rfl|rfl|rfl|rfl|rfl|rfl|rfl<;>rfl
def Jg(x:Int):List (Str×V):=[(nm "items",.seq false (a3.map aZ)),(nm "x",.int x)]
theorem FW(x)(ai)(R:St→List (V×V)→Prop)(k)(hk:k<3):(am (bn [] (.seq false (a3.map aZ)) (.int (Int.fmod (Int.fdiv (Int.fdiv x 3) (9^k)) 9))) fun v=>ai.length<ax∧R ⟨Jg x++[(nm "k",.int (k:Int))],[]⟩ (ai++[(.none,v)]))=dA (M bi) ⟨bS zm,1⟩ .And [] ⟨Jg x++[(nm "k",.int (k:Int))],[]⟩ fun ok st=>match ok with
   |true=>ba (M bi) ⟨bS zm,1⟩ none (dX zm) st ai R
   |false=>R st ai:=by
 have:k=0∨k=1∨k=2:=by lia
 rcases this with rfl|rfl|rfl
 ·kernel_rfl
 ·kernel_rfl
 ·kernel_rfl
theorem H2{K:V→Prop}(h:K (.seq false ((fP x).map aZ))):(ay bi).call 2 (.con (.ref 908)) [.int x] [] [] (iD K):=by
 have h0:0≤Int.fmod x 3:=zb _ (by decide)
 have h3:Int.fmod x 3<3:=Int.fmod_lt_of_pos _ (by decide)
 have hs:bt bi:=bP (l:=[]) trivial;refine(bA hs 40).call (Eq.mp (KV x K) (cE (by decide) (by lia) ?_))
 have a9:(cB 0 (1+Int.fmod x 3)).length=(1+Int.fmod x 3).toNat:=by unfold cB;(with_reducible refine RW (bW _)<|RW nj<|RW (Int.sub_zero _) rfl)
 refine ci (sm:=bi) hs (C:=⟨bS zm,1⟩) (fun v=>match v with
  |.int k=>[(.none,aZ (pick x k.toNat))]
  |_=>[]) (by decide) (by kernel_rfl) (by kernel_rfl) (Aa _ _ _) (by(with_reducible refine RW a9<|RW bc ?_);lia) (fun v _=>?_) (fun v hv ai R ca hR=>?_) fun l=>?_
 ·split<;>first|exact bI _|exact c9 _
 ·refine aq (eA.mp hv) fun k hk aa=>?_;subst aa
  have hk:=gE.mp hk;rw[Int.zero_add] at hR ⊢;refine Eq.mp (FW x ai R k (by lia)) ?_
  (with_reducible refine RW (Gs _ _) ?_)
  exact⟨ca,hR⟩
 ·have e:((cB 0 (1+Int.fmod x 3)).flatMap fun v=>match v with
   |.int k=>[((.none:V),aZ (pick x k.toNat))]
   |_=>[]).map (·.2)=(fP x).map aZ:=by
   unfold cB fP
   (with_reducible refine RW (Int.sub_zero _) ?_)
   generalize List.range (1+Int.fmod x 3).toNat=l
   induction l with
   |nil=>rfl
   |cons a l ih=>(with_reducible refine RW cV<|RW m4<|RW cz<|RW ih<|RW (Int.zero_add _) ?_);rfl
  (with_reducible refine RW e ?_)
  refine aC ?_ h;unfold fP
  (with_reducible refine RW (bW _)<|RW (bW _)<|RW nj<|RW bc ?_);lia
theorem wo:Entry 908 2 (cZ vS):=dQ (by decide) fun{args kws K} h=>by
 (have aF:=h;clear h;refine az aF fun aa aP=>aq aP fun x cN h=>?_;clear aF;subst aa;subst cN)
 exact H2 h
noncomputable def bN(ps:List Nat):List V:=ps.map fun(p:Nat)=>.int p
noncomputable def EP(n:Tx)(s:Tx)(b:Bool)(p:Nat):Bool:=match n[p]? with
 |some c=>s.contains c != b
 |none=>false
def lQ(n:Tx)(s:Tx)(b:Bool)(ps:List Nat):List Nat:=(ps.filter (EP n s b)).map (·+1)
def Fo:List V→List (Str×V)→(V→Prop)→Prop:=fun args kws K=>kws=[]∧∃n ps s b,args=[.str n,.seq false (bN ps),.str s,.bool b]∧ps.length≤ax∧K (.seq false (bN (lQ n s b ps)))
def tl:Expr:=dY (a5 (ac 913) 0)
def tN(n s:Tx)(b:Bool):List (Str×V):=[(nm "barred",.bool b),(nm "name",.str n),(nm "signs",.str s)]
theorem KU(n s)(b)(ps)(K):
  ((ay bi).co ⟨bS tl,1⟩ none (dX tl) (.Name (nm "place") ⟨939,26,939,31⟩) (dW tl) (.seq false ps) (0,0) 0 ⟨tN n s b,[]⟩ [] fun ai _=>af ((ai.map (·.2)).length≤ax) (K (.seq false (ai.map (·.2)))))=
  (M bi).call 2 (.con (.ref 913)) [.str n,.seq false ps,.str s,.bool b] [] [] (iD K):=by kernel_rfl
theorem FV(n s)(b)(p)(ai)(R:St→List (V×V)→Prop):
  (if decide ((p:Int)<(n.length:Int))=false then R ⟨tN n s b++[(nm "place",.int p)],[]⟩ ai
   else am (bn [] (.str n) (.int p)) fun v=>am (bR .In v (.str s) []) fun c=>if(!(c==b))=false then R ⟨tN n s b++[(nm "place",.int p)],[]⟩ ai
    else ai.length<ax∧R ⟨tN n s b++[(nm "place",.int p)],[]⟩ (ai++[(.none,.int ((p:Int)+1))]))=
  dA (M bi) ⟨bS tl,1⟩ .And (dW tl) ⟨tN n s b++[(nm "place",.int p)],[]⟩ fun ok st=>match ok with
   |true=>ba (M bi) ⟨bS tl,1⟩ none (dX tl) st ai R
   |false=>R st ai:=by kernel_rfl
theorem nE{n:Tx}{p c:Nat}(os)(h:n[p]? =some c):bn os (.str n) (.int p)=some (.str [c]):=by
 refine(?_:(fS (p:Int) n.length).bind (fun k=>(n[k]?).map fun c=>V.str [c])=_);have hp:p<n.length:=(fY.mp h).1;unfold fS;refine RW (aB (pj p))<|RW (aB (jG.mpr hp))<|RW (Int.toNat_natCast _) ?_;refine(?_:(n[p]?).map _=_);exact RW h rfl
theorem zM(h:v∈bN ps):∃p∈ps,v=.int (p:Nat):=by
 refine aq (eA.mp h) fun p hp aa=>?_;subst aa;exact aK p hp rfl
theorem HZ{n s}{b}{ps}{K}(hl:ps.length≤ax)(h:K (.seq false (bN (lQ n s b ps)))):(ay bi).call 2 (.con (.ref 913)) [.str n,.seq false (bN ps),.str s,.bool b] [] [] (iD K):=by
 have hs:bt bi:=bP (l:=[]) trivial;refine(bA hs 40).call (Eq.mp (KU n s b _ K) ?_);have a9:(bN ps).length=ps.length:=bW _;refine ci (sm:=bi) hs (C:=⟨bS tl,1⟩) (fun v=>match v with
  |.int k=>if EP n s b k.toNat=true then[(.none,.int (k+1))] else[]
  |_=>[]) (by decide) (by kernel_rfl) (by kernel_rfl) (br _ _ _) (RW a9 hl) (fun v _=>?_) (fun v hv ai R ca hR=>?_) fun l=>?_
 ·split
  ·split<;>first|exact bI _|exact c9 _
  ·exact c9 _
 ·refine aq (zM hv) fun p _ aa=>?_;subst aa
  refine Eq.mp (FV n s b p ai R) ?_;dsimp only at hR;rw[Int.toNat_natCast] at hR;cases e:n[p]? with
  |none=>
   rw[show EP n s b p=false by unfold EP;(refine RW e rfl)] at hR
   have hp:=List.getElem?_eq_none_iff.mp e;refine RW (aB (pg (Int.not_lt.mpr (Int.ofNat_le.mpr hp)))) ?_;rw[if_neg Bool.false_ne_true,List.append_nil] at hR;exact hR
  |some c=>
   rw[show EP n s b p=(s.contains c != b) by unfold EP;(refine RW e rfl)] at hR
   have hp:=(fY.mp e).1
   (refine RW (au (by refine RW (kX (jG.mpr hp)) ?_;decide))<|RW (nE _ e) ?_)
   refine(?_:(if(!(s.contains c==b))=false then _ else _))
   cases q:s.contains c==b with
   |true=>
    refine RW (aB (show(!true)=false from rfl)) ?_;rw[if_neg (by refine(?_:¬(!(s.contains c==b))=true);refine RW q ?_;decide),List.append_nil] at hR
    exact hR
   |false=>
    refine RW (au (by decide)) ?_
    rw[if_pos (by refine(?_:(!(s.contains c==b))=true);exact RW q rfl)] at hR
    exact⟨ca,hR⟩
 ·have e:((bN ps).flatMap fun v=>match v with
   |.int k=>if EP n s b k.toNat=true then[((.none:V),.int (k+1))] else[]
   |_=>[]).map (·.2)=bN (lQ n s b ps):=by
   clear hl h a9;unfold bN lQ
   induction ps with
   |nil=>rfl
   |cons a ps ih=>
    refine RW cV<|RW m4<|RW cz<|RW ih<|RW jP ?_;dsimp only;refine RW (Int.toNat_natCast _)<|EM (EP n s b a=true) (fun c=>?_) fun c=>?_
    ·exact RW (aB c)<|RW (aB c) rfl
    ·exact RW (au c)<|RW (au c) rfl
  refine RW e<|aC ?_ h;refine bZ ?_ hl;unfold bN lQ;exact RW (bW _)<|RW (bW _)<|gw _ _
theorem Co:Entry 913 2 (cZ Fo):=dQ (by decide) fun{args kws K} h=>by
 (have aF:=h;clear h;refine az aF fun aa aP=>AZ aP fun n ps s b cN hl h=>?_;clear aF;subst aa;subst cN)
 exact HZ hl h
noncomputable abbrev JI:List (Addr×Nat×bO):=[(913,2,cZ Fo),(908,2,cZ vS)]
def xn:eI:=fO JI
theorem Oh:bt xn:=bP (l:=JI) ⟨Co,wo,trivial⟩
theorem fb{α:Type}:∀l:List α,bL (l.map some)=some l
 |[]=>rfl
 |a::l=>by refine RW cV ?_;unfold bL;exact RW (fb l) rfl
theorem yx(os:List O)(b:Bool)(x:Nat)(ps:List Nat):Fd os (.int x) (.seq b (bN ps))=some (ps.contains x):=by
 refine(?_:(bL ((bN ps).map fun y=>qT 8 y (.int x))).map (·.any id)=_);have e:(bN ps).map (fun y=>qT 8 y (.int x))=(ps.map fun p=>p==x).map some:=by
  unfold bN;refine RW iI<|RW iI<|vI fun p _=>?_;refine(?_:some ((p:Int)==(x:Int))=some (p==x))
  congr 1
  rw[Bool.eq_iff_iff,beq_iff_eq,beq_iff_eq];lia
 refine RW e<|RW (fb _)<|RW (na _ _)<|RW List.any_map ?_
 congr 1
 rw[Bool.eq_iff_iff,List.any_eq_true,List.contains_iff_mem];constructor
 ·rintro⟨p,hp,q⟩;rw[←beq_iff_eq.mp (show(p==x)=true from q)];exact hp
 ·intro h;exact(aK x h (dT x))
theorem yf(p q:Nat):cB (p:Int) ((q:Int)+1)=bN (List.range' p (q+1-p)):=by
 unfold cB bN;refine RW List.range'_eq_map_range<|RW iI<|RW (show((q:Int)+1-p).toNat=q+1-p by lia) ?_
 rfl
noncomputable def m9(n:Tx)(ps:List Nat):List Nat:=List.range' (ps.headD 0) (n.length+1-ps.headD 0)
def a4(n:Tx)(ps:List Nat)(i:Item):List Nat:=if ps=[] then[] else if i.1=[42] then m9 n ps else lQ n i.2.1 i.2.2 ps
def dj(items:List Item)(n:Tx):Bool:=(items.foldl (a4 n) [0]).contains n.length
def Fn:List V→List (Str×V)→(V→Prop)→Prop:=fun args kws K=>kws=[]∧∃items n,args=[.seq false (items.map aZ),.str n]∧n.length+1<ax∧K (.bool (dj items n))
def Bc:List Stmt:=jA (a5 (ac 920) 1)
def JK:Expr:=vy (a5 (ac 920) 1)
def fw(its:List V)(n:Tx)(ps:List Nat):List (Str×V):=[(nm "items",.seq false its),(nm "name",.str n),(nm "places",.seq false (bN ps))]
def ga(i:Item):List (Str×V):=[(nm "text",.str i.1),(nm "signs",.str i.2.1),(nm "barred",.bool i.2.2)]
theorem KS(its)(n)(K):
  ((ay xn).fo (cx 920 3) JK Bc (.seq false its) (0,0) 0 ⟨fw its n [0],[]⟩ (bD (fun st=>(M xn).ex (cx 920 3) (a6 (ac 920) 2) st (aN (iD K))) (aN (iD K))))=
  (aT xn 41).call 4 (.con (.ref 920)) [.seq false its,.str n] [] [] (iD K):=by kernel_rfl
theorem MR(its)(n)(ps)(i:Item)(k):k ⟨fw its n ps++ga i,[]⟩=aI (M xn) (cx 920 3) JK (aZ i) ⟨fw its n ps,[]⟩ k:=by kernel_rfl
theorem Il(its)(n)(ps)(i j:Item)(k):k ⟨fw its n ps++ga i,[]⟩=aI (M xn) (cx 920 3) JK (aZ i) ⟨fw its n ps++ga j,[]⟩ k:=by kernel_rfl
theorem CP(its)(n)(i:Item)(Q):Q .next ⟨fw its n []++ga i,[]⟩=(M xn).ex (cx 920 3) Bc ⟨fw its n []++ga i,[]⟩ Q:=by kernel_rfl
theorem FU(its)(n)(p)(ps)(i:Item)(Q):
  (if(i.1==[42])=true then am (bn [] (.seq false (bN (p::ps))) (.int 0)) fun v=>am v.int? fun a=>((0≤a∧a≤16777216)∧(-16777216≤(n.length:Int)+1∧(n.length:Int)+1<16777216))∧Q .next ⟨bX (nm "places") (.seq false (cB a ((n.length:Int)+1))) (fw its n (p::ps)++ga i),[]⟩
   else cZ Fo [.str n,.seq false (bN (p::ps)),.str i.2.1,.bool i.2.2] [] [] (iA fun v os=>Q .next ⟨bX (nm "places") v (fw its n (p::ps)++ga i),os⟩))=
  (M xn).ex (cx 920 3) Bc ⟨fw its n (p::ps)++ga i,[]⟩ Q:=by kernel_rfl
theorem Lb(its)(n)(ps)(l)(K):(am (bR .In (.int (n.length:Int)) (.seq false (bN ps)) []) fun c=>K (.bool c))=(M xn).ex (cx 920 3) (a6 (ac 920) 2) ⟨fw its n ps++l,[]⟩ (aN (iD K)):=by kernel_rfl
def kf(n:Tx)(ps:List Nat):Prop:=(∀p∈ps,p≤n.length)∧ps.length≤n.length+1
theorem En(h:kf n ps)(s:Tx)(b:Bool):kf n (lQ n s b ps):=by
 refine⟨fun q hq=>?_,?_⟩
 ·refine aq (eA.mp hq) fun p hp aa=>?_;subst aa
  have oX:=(pe.mp hp).2;unfold EP at oX;cases e:n[p]? with
  |none=>rw[e] at oX;exact c0 oX
  |some c=>have:=(fY.mp e).1;exact(Nat.succ_le_of_lt this)
 ·unfold lQ
  exact RW (bW _)<|bZ (gw _ _) h.2
theorem Eo(n:Tx)(ps:List Nat):kf n (m9 n ps):=by
 refine⟨fun q hq=>?_,?_⟩
 ·refine aq (List.mem_range'.mp hq) fun i hi aa=>?_;subst aa
  lia
 ·unfold m9;exact RW List.length_range' (Nat.sub_le _ _)
theorem lF(h:kf n ps)(i:Item):kf n (a4 n ps i):=by
 unfold a4;split
 ·exact⟨fun p m=>(nomatch m),c9 _⟩
 ·split
  ·exact Eo n ps
  ·exact En h _ _
theorem kE(ps):ah 0 (bN ps)=true:=by
 unfold bN
 induction ps with
 |nil=>rfl
 |cons a ps ih=>refine RW cV ?_;unfold ah;exact RW ih rfl
theorem qA(os)(p)(ps):bn os (.seq false (bN (p::ps))) (.int 0)=some (.int p):=by
 refine(?_:(fS 0 (bN (p::ps)).length).bind (fun k=>(bN (p::ps))[k]?)=_);unfold fS;refine RW (aB (by decide))<|RW (aB (by unfold bN;refine RW (bW _)<|RW eR ?_;lia)) ?_
 rfl
theorem IZ(its)(n)(ps)(v)(i:Item):bX (nm "places") v (fw its n ps++ga i)=[(nm "items",.seq false its),(nm "name",.str n),(nm "places",v)]++ga i:=by kernel_rfl
theorem Ic(hb:kf n ps)(hn:n.length+1<ax)(hQ:Q .next ⟨fw its n (a4 n ps i)++ga i,[]⟩):(M xn).ex (cx 920 3) Bc ⟨fw its n ps++ga i,[]⟩ Q:=by
 rw[bc] at hn
 induction ps using List.casesOn with
 |nil=>exact Eq.mp (CP its n i Q) hQ
 |cons p ps=>
  have hp:=hb.1 p cw;refine Eq.mp (FU its n p ps i Q) ?_;unfold a4 at hQ;rw[if_neg (List.cons_ne_nil p ps)] at hQ;refine EM (i.1=[42]) (fun c=>?_) fun c=>?_
  ·rw[if_pos c] at hQ
   rw[if_pos (RW c rfl),qA];refine⟨(cE ⟨by exact pj _,by lia⟩ (by lia) (by lia)),?_⟩
   (rewrite [IZ];refine RW (yf _ _) ?_)
   exact hQ
  ·rw[if_neg c] at hQ
   refine RW (au (by rw[beq_iff_eq];exact c)) ?_
   refine⟨⟨?_,rfl⟩,rfl,n,p::ps,i.2.1,i.2.2,rfl,by refine RW bc ?_;have:=hb.2;exact(fL (dy this hn)),kE _,?_⟩
   ·refine(?_:(true&&(ah 0 (bN (p::ps))&&true))=true)
    exact RW (kE _) rfl
   ·refine(?_:Q .next ⟨bX (nm "places") _ _,[]⟩)
    rw[IZ];exact hQ
theorem HY{K}(hn:n.length+1<ax)(h:K (.bool (dj items n))):(ay xn).call 4 (.con (.ref 920)) [.seq false (items.map aZ),.str n] [] [] (iD K):=by
 refine(bA Oh 41).call (Eq.mp (KS _ n K) ?_);refine dp (sm:=xn) Oh (vs:=items.map aZ) (fun k st=>∃ps l,st=⟨fw (items.map aZ) n ps++l,[]⟩∧(l=[]∨∃i,l=ga i)∧ps=(items.take k).foldl (a4 n) [0]∧kf n ps) (by decide) (fun{k st} _=>rfl) (fun{k v st} R hv hI hR=>?_) (fun{st} hI=>?_) (AK ([0]) [] rfl (.inl rfl) rfl ⟨fun p m=>by refine RW (dw.mp m) ?_;exact c9 _,by simp⟩)
 ·rw[List.getElem?_map] at hv
  refine aq (eG.mp hv) fun i hi aa=>?_;subst aa;refine xz hI fun ps l aa hl y1 hb=>?_;clear hI;subst aa;have z:(M xn).ex (cx 920 3) Bc ⟨fw (items.map aZ) n ps++ga i,[]⟩ (bJ R (bD (fun st=>(M xn).ex (cx 920 3) (a6 (ac 920) 2) st (aN (iD K))) (aN (iD K)))):=
   Ic hb hn (hR (AK _ _ rfl (.inr ⟨i,rfl⟩) (RW kY<|RW hi<|RW (m5 _)<|RW kb<|RS y1 rfl) (lF hb i)))
  rcases hl with rfl|⟨j,rfl⟩
  ·exact RW (cc _)<|Eq.mp (MR _ n ps i _) z
  ·exact Eq.mp (Il _ n ps i j _) z
 ·refine xz hI fun ps l aa hl y1 hb=>?_;clear hI;subst aa
  refine Eq.mp (Lb _ n ps l K) ?_;rw[show bR .In (.int (n.length:Int)) (.seq false (bN ps)) []=some (ps.contains n.length) from yx [] false n.length ps];rw[List.length_map,List.take_length] at y1;exact RW y1 h
theorem Cn:Entry 920 4 (cZ Fn):=dQ (by decide) fun{args kws K} h=>by
 (have aF:=h;clear h;refine az aF fun aa aP=>ez aP fun items n cN hn h=>?_;clear aF;subst aa;subst cN)
 exact HY hn h
section
noncomputable def Jq(t:Tx):Tx:=if t==[63] then[46] else if t==[91,33,97,35,93] then[91,94,97,35,93] else t
def cH(s:Nat)(i:Item):V:=if i.1==[42] then .ref s else .str (Jq i.1)
abbrev Od:List (Addr×Nat×bO):=(920,4,cZ Fn)::JI
def vA:eI:=fO Od
theorem sum2:bt vA:=bP (l:=Od) ⟨Cn,Co,wo,trivial⟩
def Ka:bO:=fun args kws os K=>kws=[]∧∃j s n ps,args=[.ref j,.ref s,.str n]∧listAt os j=some (ps.map (cH s))∧(∀i∈ps,i∈a3)∧n.length+1<ax∧K (.ok (.bool (dj ps n))) os
def vX:List Stmt:=jA (a5 (ac 927) 1)
def JJ:Expr:=vy (a5 (ac 927) 1)
def fu(j s:Nat)(n:Tx)(ps:List Nat):List (Str×V):=[(nm "parts",.ref j),(nm "star",.ref s),(nm "name",.str n),(nm "places",.seq false (bN ps))]
section
variable(os:List O)(j s:Nat)(n:Tx)(K:Rs→List O→Prop)
def yg:Fl→St→Prop:=bD (fun st=>(M vA).ex (cx 927 3) (a6 (ac 927) 2) st (aN K)) (aN K)
theorem KR:(af ((itemAt os (.ref j) (dD os (.ref j)) 0).isSome=true)<|(ay vA).fo (cx 927 3) JJ vX (.ref j) (dD os (.ref j)) 0 ⟨fu j s n [0],os⟩ (yg K))=
  (aT vA 41).call 4 (.con (.ref 927)) [.ref j,.ref s,.str n] [] os K:=by kernel_rfl
theorem MQ(ps)(v)(k):k ⟨fu j s n ps++[(nm "part",v)],os⟩=aI (M vA) (cx 927 3) JJ v ⟨fu j s n ps,os⟩ k:=by kernel_rfl
theorem Ik(ps)(u v)(k):k ⟨fu j s n ps++[(nm "part",v)],os⟩=aI (M vA) (cx 927 3) JJ v ⟨fu j s n ps++[(nm "part",u)],os⟩ k:=by kernel_rfl
theorem CO(v)(Q):Q (.ret (.bool false)) ⟨fu j s n []++[(nm "part",v)],os⟩=(M vA).ex (cx 927 3) vX ⟨fu j s n []++[(nm "part",v)],os⟩ Q:=by kernel_rfl
def BM(v w:V):List (Str×V):=[(nm "parts",.ref j),(nm "star",.ref s),(nm "name",.str n),(nm "places",w),(nm "part",v)]
theorem CN(p)(ps)(Q):
  (am (bR .Is (.ref s) (.ref s) os) fun c=>if c=true then am (bn os (.seq false (bN (p::ps))) (.int 0)) fun v=>am v.int? fun a=>((0≤a∧a≤16777216)∧(-16777216≤(n.length:Int)+1∧(n.length:Int)+1<16777216))∧Q .next ⟨BM j s n (.ref s) (.seq false (cB a ((n.length:Int)+1))),os⟩
   else(aT vA 39).ex (cx 927 3) (EN (a5 vX 1)) ⟨fu j s n (p::ps)++[(nm "part",.ref s)],os⟩ (bD (fun st=>Q .next st) Q))=
  (M vA).ex (cx 927 3) vX ⟨fu j s n (p::ps)++[(nm "part",.ref s)],os⟩ Q:=by kernel_rfl
theorem FT(p)(ps)(Q):∀i∈a3,i.1≠[42]→
  (cZ Fo [.str n,.seq false (bN (p::ps)),.str i.2.1,.bool i.2.2] [] os (iA fun v os=>Q .next ⟨BM j s n (.str (Jq i.1)) v,os⟩))=
  (M vA).ex (cx 927 3) vX ⟨fu j s n (p::ps)++[(nm "part",.str (Jq i.1))],os⟩ Q:=by
 intro i hi h;simp only[a3,List.mem_cons,List.not_mem_nil,or_false] at hi;rcases hi with rfl|rfl|rfl|rfl|rfl|rfl|rfl|rfl|rfl
 ·kernel_rfl
 ·exact absurd rfl h
 ·kernel_rfl
 ·kernel_rfl
 ·kernel_rfl
 ·kernel_rfl
 ·kernel_rfl
 ·kernel_rfl
 ·kernel_rfl
theorem La(ps)(l):(am (bR .In (.int (n.length:Int)) (.seq false (bN ps)) os) fun c=>K (.ok (.bool c)) os)=(M vA).ex (cx 927 3) (a6 (ac 927) 2) ⟨fu j s n ps++l,os⟩ (aN K):=by kernel_rfl
theorem Ib(hi:i∈a3)(hb:kf n ps)(hn:n.length+1<ax)(h0:ps=[]→Q (.ret (.bool false)) ⟨fu j s n []++[(nm "part",cH s i)],os⟩)(hQ:ps≠[]→Q .next ⟨fu j s n (a4 n ps i)++[(nm "part",cH s i)],os⟩):(M vA).ex (cx 927 3) vX ⟨fu j s n ps++[(nm "part",cH s i)],os⟩ Q:=by
 rw[bc] at hn
 induction ps using List.casesOn with
 |nil=>exact Eq.mp (CO os j s n _ Q) (h0 rfl)
 |cons p ps=>
  have hp:=hb.1 p cw;have hQ:=hQ (List.cons_ne_nil p ps);clear h0;unfold a4 at hQ;rw[if_neg (List.cons_ne_nil p ps)] at hQ;refine EM (i.1=[42]) (fun c=>?_) fun c=>?_
  ·rw[if_pos c] at hQ
   have e:cH s i=.ref s:=by unfold cH;exact RW c rfl
   rw[e] at hQ ⊢;refine Eq.mp (CN os j s n p ps Q) ?_;rw[show bR .Is (.ref s) (.ref s) os=some true by refine(?_:(if s==s then some true else _)=_);refine RW (beq_self_eq_true _) ?_;rfl,qA]
   refine(?_:((0≤(p:Int)∧(p:Int)≤16777216)∧(-16777216≤(n.length:Int)+1∧(n.length:Int)+1<16777216))∧_);refine⟨(cE ⟨by exact pj _,by lia⟩ (by lia) (by lia)),?_⟩
   exact RW (yf _ _) hQ
  ·rw[if_neg c] at hQ
   have e:cH s i=.str (Jq i.1):=by unfold cH;(refine RW (au (by rw[beq_iff_eq];exact c)) rfl)
   rw[e] at hQ ⊢;refine Eq.mp (FT os j s n p ps Q i hi c) ⟨⟨?_,rfl⟩,rfl,n,p::ps,i.2.1,i.2.2,rfl,by refine RW bc ?_;have:=hb.2;exact(fL (dy this hn)),kE _,hQ⟩
   refine(?_:(true&&(ah 0 (bN (p::ps))&&true))=true);exact RW (kE _) rfl
theorem zT(n:Tx)(l:List Item):l.foldl (a4 n) []=[]:=by
 induction l with
 |nil=>rfl
 |cons a l ih=>exact ih
theorem HX(ho:listAt os j=some (ps.map (cH s)))(hi:∀i∈ps,i∈a3)(hn:n.length+1<ax)(h:K (.ok (.bool (dj ps n))) os):(ay vA).call 4 (.con (.ref 927)) [.ref j,.ref s,.str n] [] os K:=by
 have a9:dD os (.ref j)=(0,0):=by refine(?_:ze os j=_);unfold ze;(refine RW (mf ho) rfl)
 have hit:∀k,itemAt os (.ref j) (0,0) k=some (ps.map (cH s))[k]?:=fun k=>by unfold itemAt;dsimp only;exact RW ho rfl
 refine(bA sum2 41).call (Eq.mp (KR os j s n K) ?_);refine RW a9<|aC (RW (hit _) rfl) ?_;refine dp (sm:=vA) sum2 (vs:=ps.map (cH s)) (fun k st=>∃qs l,st=⟨fu j s n qs++l,os⟩∧(l=[]∨∃v,l=[(nm "part",v)])∧qs=(ps.take k).foldl (a4 n) [0]∧kf n qs) (by decide) (fun{k st} hI=>by(refine fJ hI fun _ _ aa _=>?_;clear hI;subst aa);exact hit k) (fun{k v st} R hv hI hR=>?_) (fun{st} hI=>?_) (AK ([0]) [] rfl (.inl rfl) rfl ⟨fun p m=>by refine RW (dw.mp m) ?_;exact c9 _,by simp⟩)
 ·rw[List.getElem?_map] at hv
  refine aq (eG.mp hv) fun i Ue aa=>?_;subst aa;refine xz hI fun qs l aa hl NI hb=>?_;clear hI;subst aa;have z:(M vA).ex (cx 927 3) vX ⟨fu j s n qs++[(nm "part",cH s i)],os⟩ (bJ R (yg K)):=
   Ib os j s n (hi i (db Ue)) hb hn (fun e=>by
    refine(?_:K (.ok (.bool false)) os);have:dj ps n=false:=by
     have e1:=List.take_append_drop k ps;unfold dj;exact RS e1<|RW kb<|RS NI<|RW e<|RW (zT _ _) rfl
    exact RS this h) fun _=>hR (AK _ _ rfl (.inr ⟨_,rfl⟩) (RW kY<|RW Ue<|RW (m5 _)<|RW kb<|RS NI rfl) (lF hb i))
  rcases hl with rfl|⟨u,rfl⟩
  ·exact RW (cc _)<|Eq.mp (MQ os j s n qs _ _) z
  ·exact Eq.mp (Ik os j s n qs u _ _) z
 ·refine xz hI fun qs l aa hl NI hb=>?_;clear hI;subst aa
  refine Eq.mp (La os j s n K qs l) ?_;rw[show bR .In (.int (n.length:Int)) (.seq false (bN qs)) os=some (qs.contains n.length) from yx os false n.length qs];rw[List.length_map,List.take_length] at NI;exact RW NI h
end
theorem L5:Entry 927 4 Ka:=ct (by decide) fun{args kws os K} h=>by
 (have aF:=h;clear h;refine az aF fun aa aP=>W9 aP fun j s n ps cN ho hi hn h=>?_;clear aF;subst aa;subst cN)
 exact HX os j s n K ho hi hn h
end
section
noncomputable def Cu(e:Expr):Tx:=if h:e.ctorIdx=19 then Expr.Constant.elim (motive_1:=fun _=>Tx) e h fun c _ _=>if h:c.ctorIdx=5 then Const.str.elim (motive:=fun _=>Tx) c h fun s=>s.cps.toList else[] else[]
noncomputable def TC(s:Stmt):Expr:=if h:s.ctorIdx=7 then Stmt.AugAssign.elim (motive_2:=fun _=>PySem.Expr) s h fun _ _ e _=>e else .Constant .none 0 default
def xA:Tx:=Cu (dY (a5 (ac 800) 5))++Cu (TC (a5 (jA (a5 (ac 800) 6)) 0))
structure LS where
 pos:Nat
 st:V
 tok:Tx
 ln:Int
def ak(line:Tx)(L:LS):List O:=[
 .attrs [(tx "instream",.ref 3),(tx "infile",.none),(tx "posix",.bool true),(tx "eof",.none),(tx "commenters",.str [35]),(tx "wordchars",.str xA),(tx "whitespace",.str [32,9,13,10]),(tx "whitespace_split",.bool true),(tx "quotes",.str [39,34]),(tx "escape",.str [92]),(tx "escapedquotes",.str [34]),(tx "state",L.st),(tx "pushback",.ref 4),(tx "lineno",.int L.ln),(tx "debug",.int 0),(tx "token",.str L.tok),(tx "filestack",.ref 5),(tx "source",.none),(tx "_punctuation_chars",.str [])],
 .inst 876 0,.attrs [(tx "_StringIO__newline",.str [10]),(tx "_StringIO__buf",.str line),(tx "_StringIO__pos",.int L.pos)],.inst 741 2,.AW,.AW]
section
variable(line:Tx)(L:LS)(Q:Fl→St→Prop)(K:Rs→List O→Prop)
def io(l:List (Str×V)):List (Str×V):=[(nm "self",.ref 3),(nm "size",.int 1)]++l
theorem t8:(aT bi 40).ex (cx 687 3) (ac 687) ⟨io [],ak line L⟩ (aN K)=(aT bi 41).call 4 (.con (.ref 687)) [.ref 3,.int 1] [] (ak line L) K:=by kernel_rfl
theorem p1_687:Q .next ⟨io [(nm "start",.int L.pos),(nm "stop",.int line.length)],ak line L⟩=(aT bi 40).ex (cx 687 3) ((ac 687).take 5) ⟨io [],ak line L⟩ Q:=by kernel_rfl
theorem p2_687:(if decide ((line.length:Int)≤(L.pos:Int))=true then Q (.ret (.str [])) ⟨io [(nm "start",.int L.pos),(nm "stop",.int line.length)],ak line L⟩ else Q .next ⟨io [(nm "start",.int L.pos),(nm "stop",.int line.length)],ak line L⟩)=
  (aT bi 40).ex (cx 687 3) (a6 (ac 687) 5) ⟨io [(nm "start",.int L.pos),(nm "stop",.int line.length)],ak line L⟩ Q:=by kernel_rfl
theorem p3_687:(if decide ((L.pos:Int)+1<(line.length:Int))=false then Q .next ⟨io [(nm "start",.int L.pos),(nm "stop",.int line.length)],ak line L⟩ else Q .next ⟨io [(nm "start",.int L.pos),(nm "stop",.int ((L.pos:Int)+1))],ak line L⟩)=
  (aT bi 40).ex (cx 687 3) (a6 (ac 687) 6) ⟨io [(nm "start",.int L.pos),(nm "stop",.int line.length)],ak line L⟩ Q:=by kernel_rfl
theorem p4_687:(am (ek (ak line {L with pos:=L.pos+1}) (.str line) (.int L.pos) (.int ((L.pos:Int)+1))) fun v=>am (Ba .Add v (.str [32])) fun z=>pr z.2 (am (ek (ak line {L with pos:=L.pos+1}) z.1 .none (.int (-1))) fun u=>Q (.ret u) ⟨io [(nm "start",.int L.pos),(nm "stop",.int ((L.pos:Int)+1))],ak line {L with pos:=L.pos+1}⟩))=
  (aT bi 40).ex (cx 687 3) ((ac 687).drop 7) ⟨io [(nm "start",.int L.pos),(nm "stop",.int ((L.pos:Int)+1))],ak line L⟩ Q:=by kernel_rfl
theorem yS{line:Tx}(os)(hp:p≤line.length)(q:Nat):ek os (.str line) (.int p) (.int q)=some (.str ((line.drop p).take (q-p))):=by
 refine(?_:(vW line (.int p) (.int q)).map V.str=_);refine(?_:((cutAt line.length 0 (.int p)).bind fun a=>(cutAt line.length line.length (.int q)).bind fun b=>some ((line.drop a).take (b-a))).map V.str=_)
 (rewrite [kA];rewrite [kA];refine RW (mY _ _)<|RW (mY _ _)<|RW (na _ _)<|RW (Nat.min_eq_left hp) ?_)
 congr 2
 refine EM (q≤line.length) (fun c=>?_) fun c=>?_
 ·refine RW (Nat.min_eq_left c) rfl
 ·refine RW (Nat.min_eq_right ((fL (Nat.lt_of_not_le c))))<|RW (List.take_of_length_le (RW List.length_drop<|bI _))<|RW (List.take_of_length_le (by refine RW List.length_drop ?_;lia)) rfl
theorem zE{c:Nat}(hc:line[L.pos]? =some c)(h:K (.ok (.str [c])) (ak line {L with pos:=L.pos+1})):(ay bi).call 4 (.con (.ref 687)) [.ref 3,.int 1] [] (ak line L) K:=by
 have hs:bt bi:=bP (l:=[]) trivial;have hp:=(fY.mp hc).1;refine(bA hs 41).call (Eq.mp (t8 line L K) ?_);refine dc (sm:=bi) (a:=(ac 687).take 5) (b:=(ac 687).drop 5) 39 (Eq.mp (p1_687 line L _) ?_);refine dc (sm:=bi) (a:=a6 (ac 687) 5) (b:=(ac 687).drop 6) 39 (Eq.mp (p2_687 line L _) ?_);refine RW (au (by exact RW nl<|Int.not_le.mpr (jG.mpr hp)))<|dc (sm:=bi) (a:=a6 (ac 687) 6) (b:=(ac 687).drop 7) 39 (Eq.mp (p3_687 line L _) ?_)
 have z:(aT bi 40).ex (cx 687 3) ((ac 687).drop 7) ⟨io [(nm "start",.int L.pos),(nm "stop",.int ((L.pos:Int)+1))],ak line L⟩ (aN K):=by
  refine Eq.mp (p4_687 line L _)<|RW (show((L.pos:Int)+1)=((L.pos+1:Nat):Int) from rfl)<|RW (yS _ (fL hp) _)<|RW (Nat.add_sub_cancel_left _ _)<|RW (List.drop_eq_getElem_cons hp)<|RW List.take_succ_cons<|RW List.take_zero<|RW (fY.mp hc).2 ?_;exact⟨show 2≤ax by decide,h⟩
 refine EM (decide ((L.pos:Int)+1<(line.length:Int))=false) (fun e=>?_) fun e=>?_
 ·refine RW (aB e) ?_
  have e2:(line.length:Int)=(L.pos:Int)+1:=by rw[decide_eq_false_iff_not] at e;lia
  exact RW e2 z
 ·exact RW (au e) z
theorem Dd(hp:line.length≤L.pos)(h:K (.ok (.str [])) (ak line L)):(ay bi).call 4 (.con (.ref 687)) [.ref 3,.int 1] [] (ak line L) K:=by
 have hs:bt bi:=bP (l:=[]) trivial;refine(bA hs 41).call (Eq.mp (t8 line L K) ?_);refine dc (sm:=bi) (a:=(ac 687).take 5) (b:=(ac 687).drop 5) 39 (Eq.mp (p1_687 line L _) ?_);refine dc (sm:=bi) (a:=a6 (ac 687) 5) (b:=(ac 687).drop 6) 39 (Eq.mp (p2_687 line L _) ?_);exact RW (aB (RW nl<|Int.ofNat_le.mpr hp)) h
end
def tC(line:Tx)(L:LS)(K:V→LS→Prop):Prop:=match line[L.pos]? with
 |some c=>K (.str [c]) {L with pos:=L.pos+1}
 |none=>K (.str []) L
def A8:bO:=fun args kws os K=>kws=[]∧args=[.ref 3,.int 1]∧∃line L,os=ak line L∧tC line L fun v L=>K (.ok v) (ak line L)
theorem Mc:Entry 687 4 A8:=ct (by decide) fun{args kws os K} h=>by
 (have aF:=h;clear h;refine gq aF fun aa aP cN=>fJ cN fun line L jo h=>?_;clear aF;subst aa;subst aP;subst jo)
 unfold tC at h;cases e:line[L.pos]? with
 |some c=>rw[e] at h;exact zE line L K e h
 |none=>rw[e] at h;exact Dd line L K (List.getElem?_eq_none_iff.mp e) h
end
section
section
variable(line:Tx)(L:LS)(Q:Fl→St→Prop)(K:Rs→List O→Prop)
def kg(l:List (Str×V)):List (Str×V):=[(nm "self",.ref 3),(nm "limit",.int (-1)),(nm "start",.int L.pos),(nm "stop",.int line.length)]++l
theorem C2:(aT bi 40).ex (cx 539 3) (ac 539) ⟨[(nm "self",.ref 3),(nm "limit",.int (-1))],ak line L⟩ (aN K)=(aT bi 41).call 4 (.con (.ref 539)) [.ref 3,.int (-1)] [] (ak line L) K:=by kernel_rfl
theorem p1_539:(if decide ((line.length:Int)≤(L.pos:Int))=true then Q (.ret (.str [])) ⟨kg line L [],ak line L⟩ else Q .next ⟨kg line L [],ak line L⟩)=(aT bi 40).ex (cx 539 3) ((ac 539).take 3) ⟨[(nm "self",.ref 3),(nm "limit",.int (-1))],ak line L⟩ Q:=by kernel_rfl
theorem p2_539:Q .next ⟨kg line L [(nm "cut",.bool false),(nm "newline",.str [10])],ak line L⟩=(aT bi 40).ex (cx 539 3) (((ac 539).drop 3).take 3) ⟨kg line L [],ak line L⟩ Q:=by kernel_rfl
theorem p3_539:((line.contains 10=false∧0≤(L.pos:Int)∧0≤(line.length:Int))∧Q .next ⟨kg line L [(nm "cut",.bool false),(nm "newline",.str [10]),(nm "end",.str [10]),(nm "i",.int (-1))],ak line L⟩)=(aT bi 40).ex (cx 539 3) (a6 (ac 539) 6) ⟨kg line L [(nm "cut",.bool false),(nm "newline",.str [10])],ak line L⟩ Q:=by kernel_rfl
theorem p4_539:(am (ek (ak line {L with pos:=line.length}) (.str line) (.int L.pos) (.int line.length)) fun v=>am (Ba .Add v (.str [32])) fun z=>pr z.2 (am (ek (ak line {L with pos:=line.length}) z.1 .none (.int (-1))) fun u=>Q (.ret u) ⟨kg line L [(nm "cut",.bool false),(nm "newline",.str [10]),(nm "end",.str [10]),(nm "i",.int (-1))],ak line {L with pos:=line.length}⟩))=
  (aT bi 40).ex (cx 539 3) ((ac 539).drop 7) ⟨kg line L [(nm "cut",.bool false),(nm "newline",.str [10]),(nm "end",.str [10]),(nm "i",.int (-1))],ak line L⟩ Q:=by kernel_rfl
noncomputable def toEnd(line:Tx)(L:LS):LS:=if line.length≤L.pos then L else{L with pos:=line.length}
theorem DB(hn:line.contains 10=false)(hl:line.length+1≤ax)(h:∀u,K (.ok (.str u)) (ak line (toEnd line L))):(ay bi).call 4 (.con (.ref 539)) [.ref 3,.int (-1)] [] (ak line L) K:=by
 have hs:bt bi:=bP (l:=[]) trivial;refine(bA hs 41).call (Eq.mp (C2 line L K) ?_);refine dc (sm:=bi) (a:=(ac 539).take 3) (b:=(ac 539).drop 3) 39 (Eq.mp (p1_539 line L _) ?_);unfold toEnd at h;refine EM (line.length≤L.pos) (fun hp=>?_) fun hp=>?_
 ·refine RW (aB (by exact RW nl<|Int.ofNat_le.mpr hp)) ?_
  rw[if_pos hp] at h;exact h []
 ·refine RW (au (by exact RW nl<|Int.not_le.mpr (jG.mpr (Nat.lt_of_not_le hp)))) ?_
  rw[if_neg hp] at h;refine dc (sm:=bi) (a:=((ac 539).drop 3).take 3) (b:=(ac 539).drop 6) 39 (Eq.mp (p2_539 line L _) ?_);refine dc (sm:=bi) (a:=a6 (ac 539) 6) (b:=(ac 539).drop 7) 39 (Eq.mp (p3_539 line L _) ⟨(cE hn (pj _) (pj _)),?_⟩);have z:(aT bi 40).ex (cx 539 3) ((ac 539).drop 7) ⟨kg line L [(nm "cut",.bool false),(nm "newline",.str [10]),(nm "end",.str [10]),(nm "i",.int (-1))],ak line L⟩ (aN K):=by
   refine Eq.mp (p4_539 line L _)<|RW (yS _ (by exact(fL (Nat.lt_of_not_le hp))) _) ⟨?_,h _⟩
   refine(?_:((line.drop L.pos).take (line.length-L.pos)++[32]).length≤ax);refine RW b4<|RW List.length_take<|RW List.length_drop ?_;refine(?_:_+1≤ax);lia
  exact z
end
def Fs:bO:=fun args kws os K=>kws=[]∧args=[.ref 3,.int (-1)]∧∃line L,os=ak line L∧line.contains 10=false∧line.length+1≤ax∧∀u,K (.ok (.str u)) (ak line (toEnd line L))
theorem Md:Entry 539 4 Fs:=ct (by decide) fun{args kws os K} h=>by
 (have aF:=h;clear h;refine gq aF fun aa aP cN=>xz cN fun line L jo hn hl h=>?_;clear aF;subst aa;subst aP;subst jo)
 exact DB line L K hn hl h
def UW:eI:=fO [(539,4,Fs)]
theorem K1(line)(L:LS)(K):Fs [.ref 3,.int (-1)] [] (ak line L) (iA fun v os=>K (.ok v) os)=(aT UW 41).call 5 (.con (.ref 695)) [.ref 3] [] (ak line L) K:=by kernel_rfl
def Ke:bO:=fun args kws os K=>kws=[]∧args=[.ref 3]∧∃line L,os=ak line L∧line.contains 10=false∧line.length+1≤ax∧∀u,K (.ok (.str u)) (ak line (toEnd line L))
theorem Mb:Entry 695 5 Ke:=ct (by decide) fun{args kws os K} h=>by
 (have aF:=h;clear h;refine gq aF fun aa aP cN=>xz cN fun line L jo hn hl h=>?_;clear aF;subst aa;subst aP;subst jo)
 exact(bA (bP (l:=[(539,4,Fs)]) ⟨Md,trivial⟩) 41).call (Eq.mp (K1 line L K) ⟨rfl,rfl,line,L,rfl,hn,hl,h⟩)
end
section
noncomputable abbrev Oc:List (Addr×Nat×bO):=[(687,4,A8),(695,5,Ke)]
def mz:eI:=fO Oc
theorem Og:bt mz:=bP (l:=Oc) ⟨Mc,Mb,trivial⟩
def mq:Stmt:=a5 (ac 844) 2
def fE:List Stmt:=jA mq
def nc(v:V):List (Str×V):=[(nm "nextchar",v)]
def c7(q:Bool)(l:List (Str×V)):List (Str×V):=[(nm "self",.ref 1),(nm "quoted",.bool q),(nm "escapedstate",.str [32])]++l
section
variable(line:Tx)(L:LS)(q:Bool)(p:Nat)(ln:Int)(tok:Tx)(c:Nat)(u v:V)(Q:Fl→St→Prop)
abbrev tu(ss:List Stmt)(st:St)(Q:Fl→St→Prop):Prop:=(M mz).ex (cx 844 5) ss st Q
theorem U0:A8 [.ref 3,.int 1] [] (ak line L) (iA fun v os=>Q .next ⟨c7 q (nc v),os⟩)=tu (a6 fE 0) ⟨c7 q [],ak line L⟩ Q:=by kernel_rfl
theorem UZ:A8 [.ref 3,.int 1] [] (ak line L) (iA fun v os=>Q .next ⟨c7 q (nc v),os⟩)=tu (a6 fE 0) ⟨c7 q (nc u),ak line L⟩ Q:=by kernel_rfl
theorem O2(st):(M mz).ex (cx 844 5) fE st (bJ (fun st=>(ay mz).wh (cx 844 5) (dY mq) fE [] st Q) Q)=AF (M mz) (cx 844 5) (dY mq) fE [] st Q:=by kernel_rfl
theorem x6(hl:l=[]∨∃u,l=nc u)(h:tC line L fun v L=>tu (fE.drop 1) ⟨c7 q (nc v),ak line L⟩ (bJ (fun st=>(ay mz).wh (cx 844 5) (dY mq) fE [] st Q) Q)):(ay mz).wh (cx 844 5) (dY mq) fE [] ⟨c7 q l,ak line L⟩ Q:=by
 refine(bV (sm:=mz) Og 40).wh ?_;refine(?_:AF (M mz) (cx 844 5) (dY mq) fE [] ⟨c7 q l,ak line L⟩ Q);refine Eq.mp (O2 Q ⟨c7 q l,ak line L⟩) ?_;have z:A8 [.ref 3,.int 1] [] (ak line L) (iA fun v os=>bD (fun st=>tu (fE.drop 1) st (bJ (fun st=>(ay mz).wh (cx 844 5) (dY mq) fE [] st Q) Q)) (bJ (fun st=>(ay mz).wh (cx 844 5) (dY mq) fE [] st Q) Q) .next ⟨c7 q (nc v),os⟩):=⟨rfl,rfl,line,L,rfl,h⟩;refine dc (sm:=mz) (a:=a6 fE 0) (b:=fE.drop 1) 39 ?_;rcases hl with rfl|⟨u,rfl⟩
 ·exact Eq.mp (U0 line L q _) z
 ·exact Eq.mp (UZ line L q u _) z
abbrev f7(v:V)(L:LS)(Q:Fl→St→Prop):Prop:=tu (fE.drop 1) ⟨c7 q (nc v),ak line L⟩ Q
abbrev fj(f:Fl)(q':Bool)(v:V)(L:LS):Prop:=Q f ⟨c7 q' (nc v),ak line L⟩
theorem HN:fj line Q .brk q (.str []) ⟨p,.none,[],ln⟩=f7 line q (.str []) ⟨p,.none,tok,ln⟩ Q:=by kernel_rfl
theorem MF:fj line Q .brk q (.str []) ⟨p,.none,tok,ln⟩=f7 line q (.str []) ⟨p,.str [32],tok,ln⟩ Q:=by kernel_rfl
theorem Ej:fj line Q .cont false (.str [32]) ⟨p,.str [32],[],ln⟩=f7 line false (.str [32]) ⟨p,.str [32],[],ln⟩ Q:=by kernel_rfl
theorem Ei:fj line Q .next q (.str [39]) ⟨p,.str [39],tok,ln⟩=f7 line q (.str [39]) ⟨p,.str [32],tok,ln⟩ Q:=by kernel_rfl
theorem TA:fj line Q .next q (.str [97]) ⟨p,.str [97],[97],ln⟩=f7 line q (.str [97]) ⟨p,.str [32],tok,ln⟩ Q:=by kernel_rfl
theorem Tz:fj line Q .next q (.str [98]) ⟨p,.str [97],[98],ln⟩=f7 line q (.str [98]) ⟨p,.str [32],tok,ln⟩ Q:=by kernel_rfl
theorem Tw:fj line Q .next q (.str [100]) ⟨p,.str [97],[100],ln⟩=f7 line q (.str [100]) ⟨p,.str [32],tok,ln⟩ Q:=by kernel_rfl
theorem HO:(Ke [.ref 3] [] (ak line ⟨p,.str [32],tok,ln⟩) (iA fun _ os=>kq (aT mz 34) 5 (.ref 1) (tx "lineno") os fun old os=>am (Bd .Add old (.int 1)) fun z=>pr z.2 (i0 (.ref 1) (tx "lineno") z.1 os fun os=>Q .next ⟨c7 q (nc (.str [35])),os⟩)))=f7 line q (.str [35]) ⟨p,.str [32],tok,ln⟩ Q:=by kernel_rfl
theorem HQ:fj line Q .brk q (.str []) ⟨p,.none,tok,ln⟩=f7 line q (.str []) ⟨p,.str [97],tok,ln⟩ Q:=by kernel_rfl
theorem As:fj line Q .brk q (.str [32]) ⟨p,.str [32],c::tok,ln⟩=f7 line q (.str [32]) ⟨p,.str [97],c::tok,ln⟩ Q:=by kernel_rfl
theorem HP:fj line Q .brk q (.str [9]) ⟨p,.str [32],c::tok,ln⟩=f7 line q (.str [9]) ⟨p,.str [97],c::tok,ln⟩ Q:=by kernel_rfl
theorem QY:((tok++[97]).length≤ax∧fj line Q .next q (.str [97]) ⟨p,.str [97],tok++[97],ln⟩)=f7 line q (.str [97]) ⟨p,.str [97],tok,ln⟩ Q:=by kernel_rfl
theorem QX:((tok++[98]).length≤ax∧fj line Q .next q (.str [98]) ⟨p,.str [97],tok++[98],ln⟩)=f7 line q (.str [98]) ⟨p,.str [97],tok,ln⟩ Q:=by kernel_rfl
theorem QW:((tok++[100]).length≤ax∧fj line Q .next q (.str [100]) ⟨p,.str [97],tok++[100],ln⟩)=f7 line q (.str [100]) ⟨p,.str [97],tok,ln⟩ Q:=by kernel_rfl
theorem QV:fj line Q .next q (.str [39]) ⟨p,.str [39],tok,ln⟩=f7 line q (.str [39]) ⟨p,.str [97],tok,ln⟩ Q:=by kernel_rfl
theorem MH:fj line Q .next q (.str [34]) ⟨p,.str [34],tok,ln⟩=f7 line q (.str [34]) ⟨p,.str [97],tok,ln⟩ Q:=by kernel_rfl
theorem Jj:fj line Q .next true (.str [39]) ⟨p,.str [97],tok,ln⟩=f7 line q (.str [39]) ⟨p,.str [39],tok,ln⟩ Q:=by kernel_rfl
theorem QU:((tok++[39]).length≤ax∧fj line Q .next true (.str [39]) ⟨p,.str [34],tok++[39],ln⟩)=f7 line q (.str [39]) ⟨p,.str [34],tok,ln⟩ Q:=by kernel_rfl
theorem MG:fj line Q .next true (.str [34]) ⟨p,.str [97],tok,ln⟩=f7 line q (.str [34]) ⟨p,.str [34],tok,ln⟩ Q:=by kernel_rfl
theorem QT:(if([c]==[10])=true then fj line Q .next q (.str [c]) ⟨p,.str [39],tok,ln+1⟩ else fj line Q .next q (.str [c]) ⟨p,.str [39],tok,ln⟩)=tu (a6 fE 1) ⟨c7 q (nc (.str [c])),ak line ⟨p,.str [39],tok,ln⟩⟩ Q:=by kernel_rfl
theorem QS:(if([c]==[39])=true then fj line Q .next true (.str [c]) ⟨p,.str [97],tok,ln⟩ else if(([92]:Tx).contains c)=false then(tok++[c]).length≤ax∧fj line Q .next true (.str [c]) ⟨p,.str [39],tok++[c],ln⟩ else(tok++[c]).length≤ax∧fj line Q .next true (.str [c]) ⟨p,.str [39],tok++[c],ln⟩)=
  tu (fE.drop 2) ⟨c7 q (nc (.str [c])),ak line ⟨p,.str [39],tok,ln⟩⟩ Q:=by kernel_rfl
theorem Tv(h1:c≠10)(h2:c≠39)(hl:(tok++[c]).length≤ax)(h:fj line Q .next true (.str [c]) ⟨p,.str [39],tok++[c],ln⟩):f7 line q (.str [c]) ⟨p,.str [39],tok,ln⟩ Q:=by
 have ne:∀{d:Nat},c≠d→¬([c]==[d])=true:=fun h e=>h (List.cons.inj (cO.mp e)).1;refine dc (sm:=mz) (a:=a6 fE 1) (b:=fE.drop 2) 39 (Eq.mp (QT line q p ln tok c _) ?_);refine RW (au (ne h1)) ?_;have z:tu (fE.drop 2) ⟨c7 q (nc (.str [c])),ak line ⟨p,.str [39],tok,ln⟩⟩ Q:=by
  refine Eq.mp (QS line q p ln tok c _)<|RW (au (ne h2)) ?_;split<;>exact⟨hl,h⟩
 exact z
end
end
section
noncomputable def jM(c:Nat):Tx:=if c=39 then[39,34,39,34,39] else[c]
noncomputable def fB(c:Nat):Bool:=c==97||c==98||c==100
def enc(w:Tx):Tx:=if w.all fB=true then w else 39::(w.flatMap jM++[39])
section
variable{line:Tx}{Q:Fl→St→Prop}
def Wh(line:Tx)(q:Bool)(L:LS)(Q:Fl→St→Prop):Prop:=∀l,(l=[]∨∃u,l=nc u)→(ay mz).wh (cx 844 5) (dY mq) fE [] ⟨c7 q l,ak line L⟩ Q
abbrev Lp(Q:Fl→St→Prop):Fl→St→Prop:=bJ (fun st=>(ay mz).wh (cx 844 5) (dY mq) fE [] st Q) Q
theorem b7(hc:line[p]? =some c)(h:f7 line q (.str [c]) ⟨p+1,Jo,tok,ln⟩ (Lp Q)):Wh line q ⟨p,Jo,tok,ln⟩ Q:=fun l hl=>
 x6 line _ q Q hl (by unfold tC;dsimp only;exact RW hc h)
theorem sg(hc:line.length≤p)(h:f7 line q (.str []) ⟨p,Jo,tok,ln⟩ (Lp Q)):Wh line q ⟨p,Jo,tok,ln⟩ Q:=fun l hl=>
 x6 line _ q Q hl (by unfold tC;dsimp only;(refine RW (rz hc) ?_);exact h)
theorem Wh.nc(h:Wh line q L Q)(u):(ay mz).wh (cx 844 5) (dY mq) fE [] ⟨c7 q (nc u),ak line L⟩ Q:=h _ (.inr ⟨u,rfl⟩)
theorem b8(h:line.drop p=c::rest):line[p]? =some c∧line.drop (p+1)=rest:=by
 have hp:p<line.length:=by
  have:=bH List.length h;rw[List.length_drop,List.length_cons] at this;lia
 rw[List.drop_eq_getElem_cons hp] at h;exact az (List.cons.inj h) fun h1 h2=>⟨by(refine RW (dz hp)<|RW h1 rfl),h2⟩
theorem ll:∀(w:Tx) {q:Bool} {p:Nat} {tok rest:Tx} {ln:Int},(∀c∈w,c≠10)→line.drop p=w.flatMap jM++39::rest→(tok++w).length≤ax→
  Wh line true ⟨p+(w.flatMap jM).length+1,.str [97],tok++w,ln⟩ Q→Wh line q ⟨p,.str [39],tok,ln⟩ Q
 |[],q,p,tok,rest,ln,_,hd,_,h=>by
  refine az (b8 hd) fun h1 _=>?_;rw[List.append_nil] at h;exact b7 h1 (Eq.mp (Jj line q (p+1) ln tok (Lp Q)) (h.nc _))
 |c::w,q,p,tok,rest,ln,hw,hd,hl,h=>by
  rw[List.flatMap_cons,List.append_assoc] at hd;rw[List.flatMap_cons,List.length_append] at h;have IC:(tok++[c]).length≤ax:=by rw[List.length_append,List.length_cons] at hl ⊢;refine RW List.length_nil ?_;lia
  have EF:((tok++[c])++w).length≤ax:=by rw[List.append_assoc];exact hl
  have ha:tok++c::w=(tok++[c])++w:=by rw[List.append_assoc];rfl
  rw[ha] at h;have Rt:∀d∈w,d≠10:=fun d m=>hw d (dZ _ m);refine EM (c=39) (fun e=>?_) fun e=>?_
  ·subst e
   rw[show jM 39=[39,34,39,34,39] from rfl] at hd h;refine az (b8 (c:=39) hd) fun h1 d1=>az (b8 (c:=34) d1) fun h2 d2=>az (b8 (c:=39) d2) fun h3 d3=>az (b8 (c:=34) d3) fun h4 d4=>az (b8 (c:=39) d4) fun h5 d5=>?_;have z5:Wh line true ⟨p+1+1+1+1+1,.str [39],tok++[39],ln⟩ Q:=by
    refine ll w Rt d5 EF ?_;rw[show p+1+1+1+1+1+(w.flatMap jM).length+1=p+(([39,34,39,34,39]:Tx).length+(w.flatMap jM).length)+1 by refine(?_:_=p+(5+_)+1);lia]
    exact h
   have z4:Wh line true ⟨p+1+1+1+1,.str [97],tok++[39],ln⟩ Q:=b7 h5 (Eq.mp (QV line true _ ln (tok++[39]) (Lp Q)) (z5.nc _));have z3:Wh line true ⟨p+1+1+1,.str [34],tok++[39],ln⟩ Q:=b7 h4 (Eq.mp (MG line true _ ln (tok++[39]) (Lp Q)) (z4.nc _));have z2:Wh line true ⟨p+1+1,.str [34],tok,ln⟩ Q:=b7 h3 (Eq.mp (QU line true _ ln tok (Lp Q)) ⟨IC,z3.nc _⟩);have z1:Wh line true ⟨p+1,.str [97],tok,ln⟩ Q:=b7 h2 (Eq.mp (MH line true _ ln tok (Lp Q)) (z2.nc _));exact b7 h1 (Eq.mp (Jj line q (p+1) ln tok (Lp Q)) (z1.nc _))
  ·have ee:jM c=[c]:=by unfold jM;(refine RW (au e) rfl)
   rw[ee] at hd h;refine az (b8 (c:=c) hd) fun h1 d1=>b7 h1 (Tv line q (p+1) ln tok c (Lp Q) (hw c cw) e IC (Wh.nc (ll w Rt d1 EF ?_) _));rw[show p+1+(w.flatMap jM).length+1=p+(([c]:Tx).length+(w.flatMap jM).length)+1 by refine(?_:_=p+(1+_)+1);lia]
   exact h
theorem xZ:∀(w:Tx) {q:Bool} {p:Nat} {tok rest:Tx} {ln:Int},w.all fB=true→line.drop p=w++rest→(tok++w).length≤ax→Wh line q ⟨p+w.length,.str [97],tok++w,ln⟩ Q→Wh line q ⟨p,.str [97],tok,ln⟩ Q
 |[],q,p,tok,rest,ln,_,_,_,h=>by rw[List.append_nil] at h;exact h
 |c::w,q,p,tok,rest,ln,hw,hd,hl,h=>by
  rw[List.all_cons,Bool.and_eq_true] at hw;refine az (b8 (c:=c) hd) fun h1 d1=>?_;have ha:tok++c::w=(tok++[c])++w:=by rw[List.append_assoc];rfl
  have IC:(tok++[c]).length≤ax:=by rw[List.length_append,List.length_cons] at hl ⊢;refine RW List.length_nil ?_;lia
  rw[ha] at h hl;rw[show p+(c::w).length=p+1+w.length by refine RW List.length_cons ?_;lia] at h
  have z:=xZ w hw.2 d1 hl h;have hc:=hw.1;unfold fB at hc;rw[Bool.or_eq_true,Bool.or_eq_true,beq_iff_eq,beq_iff_eq,beq_iff_eq] at hc;rcases hc with(rfl|rfl)|rfl
  ·exact b7 h1 (Eq.mp (QY line q (p+1) ln tok (Lp Q)) ⟨IC,z.nc _⟩)
  ·exact b7 h1 (Eq.mp (QX line q (p+1) ln tok (Lp Q)) ⟨IC,z.nc _⟩)
  ·exact b7 h1 (Eq.mp (QW line q (p+1) ln tok (Lp Q)) ⟨IC,z.nc _⟩)
theorem FC(h0:w≠[])(hw:∀c∈w,c≠10)(hd:line.drop p=enc w++rest)(hl:w.length≤ax)(h:∀q,Wh line q ⟨p+(enc w).length,.str [97],w,ln⟩ Q):Wh line false ⟨p,.str [32],[],ln⟩ Q:=by
 unfold enc at hd h;refine EM (w.all fB=true) (fun c=>?_) fun c=>?_
 ·rw[if_pos c] at hd h
  induction w using List.casesOn with
  |nil=>exact absurd rfl h0
  |cons a w=>
   refine az (b8 (c:=a) hd) fun h1 d1=>?_;rw[List.all_cons,Bool.and_eq_true] at c;have h:=h false;rw[show p+(a::w).length=p+1+w.length by refine RW List.length_cons ?_;lia] at h
   have z:Wh line false ⟨p+1,.str [97],[a],ln⟩ Q:=xZ w (tok:=[a]) c.2 d1 hl h;have hc:=c.1;unfold fB at hc;rw[Bool.or_eq_true,Bool.or_eq_true,beq_iff_eq,beq_iff_eq,beq_iff_eq] at hc;rcases hc with(rfl|rfl)|rfl
   ·exact b7 h1 (Eq.mp (TA line false (p+1) ln [] (Lp Q)) (z.nc _))
   ·exact b7 h1 (Eq.mp (Tz line false (p+1) ln [] (Lp Q)) (z.nc _))
   ·exact b7 h1 (Eq.mp (Tw line false (p+1) ln [] (Lp Q)) (z.nc _))
 ·rw[if_neg c] at hd h
  have hd:line.drop p=39::(w.flatMap jM++39::rest):=by((refine RW hd<|RW List.cons_append ?_);rewrite [List.append_assoc]);rfl
  refine az (b8 hd) fun h1 d1=>?_;have z:Wh line false ⟨p+1,.str [39],[],ln⟩ Q:=by
   refine ll w (tok:=[]) hw d1 hl ?_;have h:=h true;rw[List.length_cons,List.length_append] at h;rw[show p+1+(w.flatMap jM).length+1=p+((w.flatMap jM).length+([39]:Tx).length+1) by refine(?_:_=p+(_+1+1));lia]
   exact h
  exact b7 h1 (Eq.mp (Ei line false (p+1) ln [] (Lp Q)) (z.nc _))
end
inductive xX:Tx→Nat→V→Prop
 |over:xX [] 0 .none
 |blank r:xX (32::r) 1 (.str [32])
 |tab r:xX (9::r) 1 (.str [32])
inductive Tok(line:Tx):LS→V→LS→Prop
 |word {p w rest ln n Jo}:w≠[]→(∀c∈w,c≠10)→w.length≤ax→line.drop p=enc w++rest→xX rest n Jo→Tok line ⟨p,.str [32],[],ln⟩ (.str w) ⟨p+(enc w).length+n,Jo,[],ln⟩
 |over {p ln}:line.length≤p→Tok line ⟨p,.none,[],ln⟩ .none ⟨p,.none,[],ln⟩
 |blank {p ln k}:line.drop p=List.replicate k 32→Tok line ⟨p,.str [32],[],ln⟩ .none ⟨p+k,.none,[],ln⟩
 |hash {p ln r p'}:line.drop p=35::r→line.contains 10=false→line.length+1≤ax→line.length≤p'→toEnd line ⟨p+1,.str [32],[],ln⟩=⟨p',.str [32],[],ln⟩→Tok line ⟨p,.str [32],[],ln⟩ .none ⟨p',.none,[],ln+1⟩
section
variable(line:Tx)(p:Nat)(ln:Int)(q:Bool)(v:V)(K:Rs→List O→Prop)
abbrev ge(K:Rs→List O→Prop):Fl→St→Prop:=bD (fun st=>(M mz).ex (cx 844 5) ((ac 844).drop 3) st (aN K)) (aN K)
theorem KZ:(ay mz).wh (cx 844 5) (dY mq) fE [] ⟨c7 false [],ak line ⟨p,v,[],ln⟩⟩ (ge K)=(aT mz 41).call 6 (.con (.ref 844)) [.ref 1] [] (ak line ⟨p,v,[],ln⟩) K:=by kernel_rfl
theorem n8(c)(w)(u):K (.ok (.str (c::w))) (ak line ⟨p,v,[],ln⟩)=fj line (Lp (ge K)) .brk q u ⟨p,v,c::w,ln⟩:=by induction q using Bool.casesOn<;>kernel_rfl
theorem n9(u):K (.ok .none) (ak line ⟨p,v,[],ln⟩)=(M mz).ex (cx 844 5) ((ac 844).drop 3) ⟨c7 false (nc u),ak line ⟨p,v,[],ln⟩⟩ (aN K):=by kernel_rfl
theorem MN(Q:Fl→St→Prop):Q .next ⟨c7 false (nc (.str [35])),ak line ⟨p,v,[],ln+1⟩⟩=kq (aT mz 34) 5 (.ref 1) (tx "lineno") (ak line ⟨p,v,[],ln⟩) fun old os=>am (Bd .Add old (.int 1)) fun z=>pr z.2 (i0 (.ref 1) (tx "lineno") z.1 os fun os=>Q .next ⟨c7 false (nc (.str [35])),os⟩):=by kernel_rfl
end
theorem sf(h:line.length≤p)(k:Q .next ⟨c7 false (nc (.str [])),ak line ⟨p,.none,[],ln⟩⟩):Wh line false ⟨p,.none,[],ln⟩ Q∧Wh line false ⟨p,.str [32],[],ln⟩ Q:=
 ⟨sg h (Eq.mp (HN line false p ln [] (Lp Q)) k),sg h (Eq.mp (MF line false p ln [] (Lp Q)) k)⟩
theorem tV:∀(k:Nat) {p:Nat},line.drop p=List.replicate k 32→Q .next ⟨c7 false (nc (.str [])),ak line ⟨p+k,.none,[],ln⟩⟩→Wh line false ⟨p,.str [32],[],ln⟩ Q
 |0,p,hd,h=>(sf (List.drop_eq_nil_iff.mp hd) h).2
 |k+1,p,hd,h=>by
  refine az (b8 (c:=32) hd) fun h1 d1=>?_;rw[show p+(k+1)=p+1+k by lia] at h
  exact b7 h1 (Eq.mp (Ej line (p+1) ln (Lp Q)) (Wh.nc (tV k d1 h) _))
theorem H4{K}(t:Tok line L r L')(h:K (.ok r) (ak line L')):(ay mz).call 6 (.con (.ref 844)) [.ref 1] [] (ak line L) K:=by
 have go:∀{p v ln},Wh line false ⟨p,v,[],ln⟩ (ge K)→(ay mz).call 6 (.con (.ref 844)) [.ref 1] [] (ak line ⟨p,v,[],ln⟩) K:=fun{p v ln} h=>(bA Og 41).call (Eq.mp (KZ line p ln v K) (h [] (.inl rfl)));cases t with
 |@word p w rest ln n Jo h0 hw hl hd Tn=>
  refine go (FC h0 hw hd hl fun q=>?_);have hd2:line.drop (p+(enc w).length)=rest:=by(refine RS List.drop_drop<|RW hd<|RW List.drop_left rfl)
  induction w using List.casesOn with
  |nil=>exact absurd rfl h0
  |cons c w=>
   cases Tn with
   |over=>exact sg (List.drop_eq_nil_iff.mp hd2) (Eq.mp (HQ line q _ ln (c::w) (Lp (ge K))) (Eq.mp (n8 line _ ln q .none K c w (.str [])) h))
   |blank r=>
    exact az (b8 (c:=32) hd2) fun h1 _=>b7 h1 (Eq.mp (As line q _ ln w c (Lp (ge K))) (Eq.mp (n8 line _ ln q (.str [32]) K c w (.str [32])) h))
   |tab r=>
    exact az (b8 (c:=9) hd2) fun h1 _=>b7 h1 (Eq.mp (HP line q _ ln w c (Lp (ge K))) (Eq.mp (n8 line _ ln q (.str [32]) K c w (.str [9])) h))
 |over hp=>exact go (sf hp (Eq.mp (n9 line _ _ .none K (.str [])) h)).1
 |blank hd=>exact go (tV _ hd (Eq.mp (n9 line _ _ .none K (.str [])) h))
 |@hash p ln r p' hd hn hl V0 he=>
  refine az (b8 (c:=35) hd) fun h1 _=>go (b7 h1 (Eq.mp (HO line false (p+1) ln [] (Lp (ge K))) ⟨rfl,rfl,line,_,rfl,hn,hl,fun u=>?_⟩));exact RW he<|Eq.mp (MN line p' ln (.str [32]) (Lp (ge K))) (Wh.nc (sf V0 (Eq.mp (n9 line _ _ .none K (.str [])) h)).2 _)
def Kc:bO:=fun args kws os K=>kws=[]∧args=[.ref 1]∧∃line L r L',os=ak line L∧Tok line L r L'∧K (.ok r) (ak line L')
theorem L9:Entry 844 6 Kc:=ct (by decide) fun{args kws os K} h=>by
 (have aF:=h;clear h;refine gq aF fun aa aP cN=>AZ cN fun line L r L' jo t h=>?_;clear aF;subst aa;subst aP;subst jo)
 exact H4 t h
end
section
noncomputable abbrev Ob:List (Addr×Nat×bO):=[(844,6,Kc)]
def vz:eI:=fO Ob
theorem Of:bt vz:=bP (l:=Ob) ⟨L9,trivial⟩
def s9:Stmt:=a5 (ac 837) 3
def iO(v:V):List (Str×V):=[(nm "self",.ref 1),(nm "raw",v)]
section
variable(line:Tx)(L:LS)(w:Tx)(Q:Fl→St→Prop)(K:Rs→List O→Prop)
theorem K0:(M vz).ex (cx 837 6) (ac 837) ⟨[(nm "self",.ref 1)],ak line L⟩ (aN K)=(aT vz 41).call 7 (.con (.ref 837)) [.ref 1] [] (ak line L) K:=by kernel_rfl
theorem p1_837:Kc [.ref 1] [] (ak line L) (iA fun v os=>Q .next ⟨iO v,os⟩)=(M vz).ex (cx 837 6) ((ac 837).take 2) ⟨[(nm "self",.ref 1)],ak line L⟩ Q:=by kernel_rfl
theorem p2_837(v):(ay vz).wh (cx 837 6) (dY s9) (jA s9) [] ⟨iO v,ak line L⟩ (bD (fun st=>(M vz).ex (cx 837 6) ((ac 837).drop 4) st Q) Q)=(M vz).ex (cx 837 6) ((ac 837).drop 2) ⟨iO v,ak line L⟩ Q:=by kernel_rfl
theorem p3_837:Q .next ⟨iO (.str w),ak line L⟩=AF (M vz) (cx 837 6) (dY s9) (jA s9) [] ⟨iO (.str w),ak line L⟩ Q:=by kernel_rfl
theorem p4_837:Q (.ret .none) ⟨iO .none,ak line L⟩=AF (M vz) (cx 837 6) (dY s9) (jA s9) [] ⟨iO .none,ak line L⟩ Q:=by kernel_rfl
theorem p5_837:Q (.ret (.str w)) ⟨iO (.str w),ak line L⟩=(M vz).ex (cx 837 6) ((ac 837).drop 4) ⟨iO (.str w),ak line L⟩ Q:=by kernel_rfl
theorem tX(t:Tok line L r L'):r=.none∨∃w,r=.str w:=by cases t<;>first|exact .inl rfl|exact .inr ⟨_,rfl⟩
theorem H5(t:Tok line L r L')(h:K (.ok r) (ak line L')):(ay vz).call 7 (.con (.ref 837)) [.ref 1] [] (ak line L) K:=by
 refine(bA Of 41).call (Eq.mp (K0 line L K) ?_);refine dc (sm:=vz) (a:=(ac 837).take 2) (b:=(ac 837).drop 2) 39 (Eq.mp (p1_837 line L _) ⟨rfl,rfl,line,L,r,L',rfl,t,?_⟩);refine(?_:(M vz).ex (cx 837 6) ((ac 837).drop 2) ⟨iO r,ak line L'⟩ (aN K));refine Eq.mp (p2_837 line L' _ r) ((bV (sm:=vz) Of 40).wh ?_);refine(?_:AF (M vz) (cx 837 6) (dY s9) (jA s9) [] ⟨iO r,ak line L'⟩ _);rcases tX line L t with rfl|⟨w,rfl⟩
 ·exact Eq.mp (p4_837 line L' _) h
 ·exact Eq.mp (p3_837 line L' w _) (Eq.mp (p5_837 line L' w _) h)
end
def Kd:bO:=fun args kws os K=>kws=[]∧args=[.ref 1]∧∃line L r L',os=ak line L∧Tok line L r L'∧K (.ok r) (ak line L')
theorem Ma:Entry 837 7 Kd:=ct (by decide) fun{args kws os K} h=>by
 (have aF:=h;clear h;refine gq aF fun aa aP cN=>AZ cN fun line L r L' jo t h=>?_;clear aF;subst aa;subst aP;subst jo)
 exact H5 line L K t h
noncomputable abbrev Oa:List (Addr×Nat×bO):=[(837,7,Kd)]
def IA:eI:=fO Oa
theorem SK:bt IA:=bP (l:=Oa) ⟨Ma,trivial⟩
def pL(v:V):List (Str×V):=[(nm "self",.ref 1),(nm "token",v)]
section
variable(line:Tx)(L:LS)(w:Tx)(Q:Fl→St→Prop)(K:Rs→List O→Prop)
theorem KY:(M IA).ex (cx 873 7) (ac 873) ⟨[(nm "self",.ref 1)],ak line L⟩ (aN K)=(aT IA 41).call 8 (.con (.ref 873)) [.ref 1] [] (ak line L) K:=by kernel_rfl
theorem p1_873:Kd [.ref 1] [] (ak line L) (iA fun v os=>Q .next ⟨pL v,os⟩)=(M IA).ex (cx 873 7) ((ac 873).take 1) ⟨[(nm "self",.ref 1)],ak line L⟩ Q:=by kernel_rfl
theorem p2_873:Q (.ret (.str w)) ⟨pL (.str w),ak line L⟩=(M IA).ex (cx 873 7) ((ac 873).drop 1) ⟨pL (.str w),ak line L⟩ Q:=by kernel_rfl
theorem p3_873:Q (.exc (.type "StopIteration")) ⟨pL .none,ak line L⟩=(M IA).ex (cx 873 7) ((ac 873).drop 1) ⟨pL .none,ak line L⟩ Q:=by kernel_rfl
end
noncomputable def Qr(r:V):Rs:=match r with
 |.none=>.exc (.type "StopIteration")
 |r=>.ok r
def Fq:bO:=fun args kws os K=>kws=[]∧args=[.ref 1]∧∃line L r L',os=ak line L∧Tok line L r L'∧K (Qr r) (ak line L')
theorem L8:Entry 873 8 Fq:=ct (by decide) fun{args kws os K} h=>by
 (have aF:=h;clear h;refine gq aF fun aa aP cN=>AZ cN fun line L r L' jo t h=>?_;clear aF;subst aa;subst aP;subst jo)
 refine(bA SK 41).call (Eq.mp (KY line L K) ?_);refine dc (sm:=IA) (a:=(ac 873).take 1) (b:=(ac 873).drop 1) 39 (Eq.mp (p1_873 line L _) ⟨rfl,rfl,line,L,r,L',rfl,t,?_⟩);refine(?_:(M IA).ex (cx 873 7) ((ac 873).drop 1) ⟨pL r,ak line L'⟩ (aN K));rcases tX line L t with rfl|⟨w,rfl⟩
 ·exact Eq.mp (p3_873 line L' _) h
 ·exact Eq.mp (p2_873 line L' w _) h
noncomputable abbrev N9:List (Addr×Nat×bO):=[(873,8,Fq)]
def mS:eI:=fO N9
theorem Oe:bt mS:=bP (l:=N9) ⟨L8,trivial⟩
inductive Toks(line:Tx):LS→List Tx→Prop
 |nil {L L'}:Tok line L .none L'→Toks line L []
 |cons {L L' w ws}:Tok line L (.str w) L'→Toks line L' ws→Toks line L (w::ws)
section
variable(line:Tx)(L:LS)(n:Nat)(K:List V→List O→Prop)(Q:Fl→St→Prop)
theorem QP:Fq [.ref 1] [] (ak line L) (Sy (fun x os=>n<ax∧(ay mS).dr 8 1 (n+1) os fun l os=>K (x::l) os) K)=RM (M mS) 8 1 n (ak line L) K:=by kernel_rfl
theorem p1_888:(xA.length≤ax∧Q .next ⟨[(nm "s",.str line),(nm "comments",.bool true),(nm "posix",.bool true),(nm "lex",.ref 1)],ak line ⟨0,.str [32],[],1⟩⟩)=(M mS).ex (cx 888 9) ((ac 888).take 4) ⟨[(nm "s",.str line),(nm "comments",.bool true),(nm "posix",.bool true)],[]⟩ Q:=by kernel_rfl
theorem p2_888:(ay mS).dr 8 1 0 (ak line L) (fun l os=>Q (.ret (.seq false l)) ⟨[(nm "s",.str line),(nm "comments",.bool true),(nm "posix",.bool true),(nm "lex",.ref 1)],os⟩)=(M mS).ex (cx 888 9) ((ac 888).drop 4) ⟨[(nm "s",.str line),(nm "comments",.bool true),(nm "posix",.bool true),(nm "lex",.ref 1)],ak line L⟩ Q:=by kernel_rfl
theorem KX(K):(M mS).ex (cx 888 9) (ac 888) ⟨[(nm "s",.str line),(nm "comments",.bool true),(nm "posix",.bool true)],[]⟩ (aN K)=(aT mS 41).call 10 (.con (.ref 888)) [.str line] [(nm "comments",.bool true)] [] K:=by kernel_rfl
end
theorem Cq{K:List V→List O→Prop}(h:Fq [.ref 1] [] (ak line L) (Sy (fun x os=>n<ax∧(ay mS).dr 8 1 (n+1) os fun l os=>K (x::l) os) K)):(ay mS).dr 8 1 n (ak line L) K:=
 (bV (sm:=mS) Oe 40).dr (show RM (M mS) 8 1 n (ak line L) K from Eq.mp (QP line L n K) h)
theorem HB(ws:List Tx):∀{L:LS} {n:Nat} {K:List V→List O→Prop},Toks line L ws→n+ws.length≤ax→(∀os,K (ws.map V.str) os)→(ay mS).dr 8 1 n (ak line L) K:=by
 induction ws with
 |nil=>
  intro L n K t _ h;cases t with
  |@nil _ L' t=>exact Cq ⟨rfl,rfl,line,L,.none,L',rfl,t,aC (p:=wi (.type "StopIteration")=true) rfl (h _)⟩
 |cons w ws ih=>
  intro L n K t hl h;have hl:n+(ws.length+1)≤ax:=hl;cases t with
  |@cons _ L' _ _ t ts=>exact Cq ⟨rfl,rfl,line,L,.str w,L',rfl,t,by exact(dy (iL _ _) hl),ih ts (by lia) fun os=>h os⟩
def Fp:List V→List (Str×V)→(V→Prop)→Prop:=fun args kws K=>kws=[(nm "comments",.bool true)]∧∃line ws,args=[.str line]∧Toks line ⟨0,.str [32],[],1⟩ ws∧ws.length≤ax∧K (.seq false (ws.map V.str))
theorem zr:xA.length≤ax:=by decide+kernel
abbrev xG(line:Tx):St:=⟨[(nm "s",.str line),(nm "comments",.bool true),(nm "posix",.bool true),(nm "lex",.ref 1)],ak line ⟨0,.str [32],[],1⟩⟩
theorem Lu(z:(M mS).ex (cx 888 9) ((ac 888).drop 4) (xG line) Q):(M mS).ex (cx 888 9) (ac 888) ⟨[(nm "s",.str line),(nm "comments",.bool true),(nm "posix",.bool true)],[]⟩ Q:=by
 have z1:bD (fun st=>(M mS).ex (cx 888 9) ((ac 888).drop 4) st Q) Q .next (xG line):=aj z;have z2:xA.length≤ax∧bD (fun st=>(M mS).ex (cx 888 9) ((ac 888).drop 4) st Q) Q .next (xG line):=And.intro zr z1;exact bo (sm:=mS) 39 4 (Eq.mp (p1_888 line (bD (fun st=>(M mS).ex (cx 888 9) ((ac 888).drop 4) st Q) Q)) z2)
theorem G6{K:V→Prop}(t:Toks line ⟨0,.str [32],[],1⟩ ws)(hl:ws.length≤ax)(h:K (.seq false (ws.map V.str))):(M mS).ex (cx 888 9) ((ac 888).drop 4) (xG line) (aN (iD K)):=
 Eq.mp (p2_888 line ⟨0,.str [32],[],1⟩ (aN (iD K))) (HB ws t (by lia) fun _=>h)
theorem H3{K:V→Prop}(t:Toks line ⟨0,.str [32],[],1⟩ ws)(hl:ws.length≤ax)(h:K (.seq false (ws.map V.str))):(ay mS).call 10 (.con (.ref 888)) [.str line] [(nm "comments",.bool true)] [] (iD K):=by
 have z:=G6 (K:=K) t hl h;have z2:=Lu z;have z3:=Eq.mp (KX line (iD K)) z2;exact(bA (sm:=mS) Oe 41).call z3
theorem L7:Entry 888 10 (cZ Fp):=dQ (sm:=mS) (by decide) fun{args kws K} h=>by
 (have aF:=h;clear h;refine az aF fun aa aP=>xz aP fun line ws cN t hl h=>?_;clear aF;subst aa;subst cN)
 exact H3 (K:=K) t hl h
end
noncomputable def fR:List Tx→Tx
 |[]=>[]
 |[w]=>enc w
 |w::ws=>enc w++32::fR ws
noncomputable def lf:List Tx:=[[],[32,35,32,98,42],[9,35],[32,32]]
def M4(w:Tx):Prop:=w≠[]∧(∀c∈w,c≠10)∧w.length≤ax
theorem uA(hd:line.drop p=35::r)(hn:line.contains 10=false)(hl:line.length+1≤ax):Toks line ⟨p,.str [32],[],ln⟩ []:=by
 refine .nil (.hash (p':=if line.length≤p+1 then p+1 else line.length) hd hn hl ?_ ?_)
 ·split<;>lia
 ·unfold toEnd
  dsimp only;split<;>rfl
theorem qc(hs:Nb∈lf)(hn:line.contains 10=false)(hl:line.length+1≤ax):∀(ws:List Tx) (p:Nat) (ln:Int),ws≠[]→(∀w∈ws,M4 w)→line.drop p=fR ws++Nb→Toks line ⟨p,.str [32],[],ln⟩ ws
 |[],_,_,h,_,_=>absurd rfl h
 |[w],p,ln,_,hw,hd=>by
  refine gq (hw w cw) fun h1 h2 h3=>?_;have hd:line.drop p=enc w++Nb:=hd;have hd2:line.drop (p+(enc w).length)=Nb:=by(refine RS List.drop_drop<|RW hd<|RW List.drop_left rfl)
  unfold lf at hs;rw[List.mem_cons,List.mem_cons,List.mem_cons,List.mem_singleton] at hs;rcases hs with rfl|rfl|rfl|rfl
  ·exact .cons (.word h1 h2 h3 hd .over) (.nil (.over (List.drop_eq_nil_iff.mp hd2)))
  ·exact .cons (.word h1 h2 h3 hd (.blank _)) (uA (b8 hd2).2 hn hl)
  ·exact .cons (.word h1 h2 h3 hd (.tab _)) (uA (b8 hd2).2 hn hl)
  ·exact .cons (.word h1 h2 h3 hd (.blank _)) (.nil (.blank (k:=1) (b8 hd2).2))
 |w::v::ws,p,ln,_,hw,hd=>by
  refine gq (hw w cw) fun h1 h2 h3=>?_;have hd:line.drop p=enc w++(32::(fR (v::ws)++Nb)):=by refine RW hd (?_:(enc w++32::fR (v::ws))++Nb=_);rw[List.append_assoc];rfl
  have hd2:line.drop (p+(enc w).length)=32::(fR (v::ws)++Nb):=by(refine RS List.drop_drop<|RW hd<|RW List.drop_left rfl)
  exact .cons (.word h1 h2 h3 hd (.blank _)) (qc hs hn hl (v::ws) _ ln (List.cons_ne_nil _ _) (fun u m=>hw u (dZ _ m)) (b8 hd2).2)
section
noncomputable def pad(f:Nat→O)(n:Nat):List O:=(List.range n).map f
def vU:List V→List (Str×V)→(V→Prop)→Prop:=fun args kws K=>kws=[]∧∃c,args=[.str [c]]∧(c=97∨c=98∨c=39∨c=100)∧K (.str [c])
noncomputable abbrev N8:List (Addr×Nat×bO):=[(181,2,cZ vU)]
def jB:eI:=fO N8
def vH:Stmt:=a5 (ac 188) 3
def eS:List Stmt:=jA vH
def fZ:List Stmt:=jA (a5 (EN (a5 (EN (a5 eS 2)) 0)) 0)
abbrev hU(ss:List Stmt)(st:St)(Q:Fl→St→Prop):Prop:=(M jB).ex (cx 188 3) ss st Q
def bl(n:Nat)(aW:Tx)(i:Int)(l:List (Str×V)):List (Str×V):=[(nm "pat",.str aW),(nm "STAR",.ref 22),(nm "QUESTION_MARK",.str [46]),(nm "res",.ref n),(nm "add",.ref (n+1)),(nm "i",.int i),(nm "n",.int aW.length)]++l
def bb(f:Nat→O)(n:Nat)(vs:List V):List O:=pad f n++[.list vs,.wrap "list.append" n]
def a8(Q:Fl→St→Prop):Fl→St→Prop:=bD (fun st=>Q .next st) Q
theorem i6(Q):a8 Q=Q:=by funext f st;induction f using Fl.casesOn<;>rfl
section
variable(f:Nat→O)(aW:Tx)(i:Int)(vs:List V)(u:V)(l:List (Str×V))(Q:Fl→St→Prop)(K:Rs→List O→Prop)
def sj(K:Rs→List O→Prop):Fl→St→Prop:=bD (fun st=>(M jB).ex (cx 188 3) ((ac 188).drop 4) st (aN K)) (aN K)
theorem Gk:(ay jB).wh (cx 188 3) (dY vH) eS [] ⟨bl 23 aW 0 [],bb f 23 []⟩ (sj K)=(aT jB 41).call 4 (.con (.ref 188)) [.str aW,.ref 22,.str [46]] [] (pad f 23) K:=by kernel_rfl
theorem Gj:(ay jB).wh (cx 188 3) (dY vH) eS [] ⟨bl 25 aW 0 [],bb f 25 []⟩ (sj K)=(aT jB 41).call 4 (.con (.ref 188)) [.str aW,.ref 22,.str [46]] [] (pad f 25) K:=by kernel_rfl
theorem IP(n)(os):(if decide (i<(aW.length:Int))=true then hU eS ⟨bl n aW i l,os⟩ (bJ (fun st=>(ay jB).wh (cx 188 3) (dY vH) eS [] st Q) Q) else Q .next ⟨bl n aW i l,os⟩)=AF (M jB) (cx 188 3) (dY vH) eS [] ⟨bl n aW i l,os⟩ Q:=by kernel_rfl
theorem Vn(n)(os):(am (bn os (.str aW) (.int i)) fun v=>Q .next ⟨bl n aW (i+1) [(nm "c",v)],os⟩)=hU (eS.take 2) ⟨bl n aW i [],os⟩ Q:=by kernel_rfl
theorem Vm(n)(os):(am (bn os (.str aW) (.int i)) fun v=>Q .next ⟨bl n aW (i+1) ((nm "c",v)::l),os⟩)=hU (eS.take 2) ⟨bl n aW i ((nm "c",u)::l),os⟩ Q:=by kernel_rfl
def A4(n:Nat)(st:List (Str×V))(Q:Fl→St→Prop):Rs→List O→Prop:=iA fun v os=>af (nN os (.ref (n+1))=true) (li (n+1) [v] os (iA fun _ os=>Q .next ⟨st,os⟩))
theorem Vl(n:Nat)(os:List O):cZ vU [.str [97]] [] os (A4 n (bl n aW i ((nm "c",.str [97])::l)) Q)=hU (eS.drop 2) ⟨bl n aW i ((nm "c",.str [97])::l),os⟩ Q:=by kernel_rfl
theorem Vk(n:Nat)(os:List O):cZ vU [.str [98]] [] os (A4 n (bl n aW i ((nm "c",.str [98])::l)) Q)=hU (eS.drop 2) ⟨bl n aW i ((nm "c",.str [98])::l),os⟩ Q:=by kernel_rfl
theorem Vh(n:Nat)(os:List O):cZ vU [.str [39]] [] os (A4 n (bl n aW i ((nm "c",.str [39])::l)) Q)=hU (eS.drop 2) ⟨bl n aW i ((nm "c",.str [39])::l),os⟩ Q:=by kernel_rfl
theorem Vj(n:Nat)(os:List O):cZ vU [.str [100]] [] os (A4 n (bl n aW i ((nm "c",.str [100])::l)) Q)=hU (eS.drop 2) ⟨bl n aW i ((nm "c",.str [100])::l),os⟩ Q:=by kernel_rfl
theorem Vi(n)(hn:n=23∨n=25):(vs.length<ax∧Q .next ⟨bl n aW i ((nm "c",.str [63])::l),bb f n (vs++[.str [46]])⟩)=hU (eS.drop 2) ⟨bl n aW i ((nm "c",.str [63])::l),bb f n vs⟩ Q:=by rcases hn with rfl|rfl<;>kernel_rfl
theorem SX(n)(hn:n=23∨n=25):(0<ax∧Q .next ⟨bl n aW i ((nm "c",.str [42])::l),bb f n [.ref 22]⟩)=hU (eS.drop 2) ⟨bl n aW i ((nm "c",.str [42])::l),bb f n []⟩ Q:=by rcases hn with rfl|rfl<;>kernel_rfl
theorem Vg(n)(hn:n=23∨n=25):(am (bn (bb f n (u::vs)) (.ref n) (.int (-1))) fun v=>am (bR .IsNot v (.ref 22) (bb f n (u::vs))) fun c=>if c=true then(u::vs).length<ax∧Q .next ⟨bl n aW i ((nm "c",.str [42])::l),bb f n (u::vs++[.ref 22])⟩ else Q .next ⟨bl n aW i ((nm "c",.str [42])::l),bb f n (u::vs)⟩)=hU (eS.drop 2) ⟨bl n aW i ((nm "c",.str [42])::l),bb f n (u::vs)⟩ Q:=by rcases hn with rfl|rfl<;>kernel_rfl
abbrev hO(ss:List Stmt)(st:St)(Q:Fl→St→Prop):Prop:=(aT jB 37).ex (cx 188 3) ss st Q
def stK(n:Nat)(aW:Tx)(i j:Int)(t:List (Str×V)):List (Str×V):=bl n aW i ((nm "c",.str [91])::(nm "j",.int j)::t)
variable(n:Nat)(os:List O)(j:Int)(t:List (Str×V))
theorem Vf:hO fZ ⟨bl n aW i ((nm "c",.str [91])::l),os⟩ (a8 (a8 (a8 Q)))=hU (eS.drop 2) ⟨bl n aW i ((nm "c",.str [91])::l),os⟩ Q:=by kernel_rfl
theorem SV:Q .next ⟨stK n aW i i [],os⟩=hO (fZ.take 1) ⟨bl n aW i [(nm "c",.str [91])],os⟩ Q:=by kernel_rfl
theorem SU:Q .next ⟨stK n aW i i t,os⟩=hO (fZ.take 1) ⟨stK n aW i j t,os⟩ Q:=by kernel_rfl
def Ff(Q:Fl→St→Prop)(n:Nat)(aW:Tx)(i j:Int)(t:List (Str×V))(os:List O)(x:Nat):Prop:=
 if decide (j<(aW.length:Int))=false then Q .next ⟨stK n aW i j t,os⟩ else am (bn os (.str aW) (.int j)) fun v=>am (bR .Eq v (.str [x]) os) fun c=>if c=false then Q .next ⟨stK n aW i j t,os⟩ else Q .next ⟨stK n aW i (j+1) t,os⟩
theorem Ve:Ff Q n aW i j t os 33=hO (a6 fZ 1) ⟨stK n aW i j t,os⟩ Q:=by kernel_rfl
theorem Vd:Ff Q n aW i j t os 93=hO (a6 fZ 2) ⟨stK n aW i j t,os⟩ Q:=by kernel_rfl
def lM:Stmt:=a5 fZ 3
theorem Vc(st):(ay jB).wh (cx 188 3) (dY lM) (jA lM) [] st (bD (fun st=>hO (fZ.drop 4) st Q) Q)=hO (fZ.drop 3) st Q:=by kernel_rfl
theorem Op:(if decide (j<(aW.length:Int))=false then Q .next ⟨stK n aW i j t,os⟩ else am (bn os (.str aW) (.int j)) fun v=>am (bR .NotEq v (.str [93]) os) fun c=>if c=false then Q .next ⟨stK n aW i j t,os⟩ else(ay jB).wh (cx 188 3) (dY lM) (jA lM) [] ⟨stK n aW i (j+1) t,os⟩ Q)=
  AF (M jB) (cx 188 3) (dY lM) (jA lM) [] ⟨stK n aW i j t,os⟩ Q:=by kernel_rfl
def iN:List Stmt:=EN (a5 fZ 4)
abbrev jR(ss:List Stmt)(st:St)(Q:Fl→St→Prop):Prop:=(aT jB 36).ex (cx 188 3) ss st Q
theorem Vb:(if decide ((aW.length:Int)≤j)=true then(aT jB 36).ex (cx 188 3) (jA (a5 fZ 4)) ⟨stK n aW i j t,os⟩ (a8 Q) else jR iN ⟨stK n aW i j t,os⟩ (a8 Q))=hO (fZ.drop 4) ⟨stK n aW i j t,os⟩ Q:=by kernel_rfl
theorem SS:(am (ek os (.str aW) (.int i) (.int j)) fun v=>Q .next ⟨stK n aW i j [(nm "stuff",v)],os⟩)=jR (iN.take 1) ⟨stK n aW i j [],os⟩ Q:=by kernel_rfl
theorem SQ:(am (ek os (.str aW) (.int i) (.int j)) fun v=>Q .next ⟨stK n aW i j [(nm "stuff",v)],os⟩)=jR (iN.take 1) ⟨stK n aW i j [(nm "stuff",u)],os⟩ Q:=by kernel_rfl
noncomputable def ej:List (Tx×Tx):=[([42],[91,42,93]),([35],[91,35,93]),([33,97,35],[91,94,97,35,93])]
theorem Va(x:Tx×Tx)(hx:x∈ej):(x.1.contains 92=false∧Q .next ⟨stK n aW i j [(nm "stuff",.str x.1)],os⟩)=jR (a6 iN 1) ⟨stK n aW i j [(nm "stuff",.str x.1)],os⟩ Q:=by
 unfold ej at hx;rw[List.mem_cons,List.mem_cons,List.mem_singleton] at hx;rcases hx with rfl|rfl|rfl<;>kernel_rfl
def CD(e:Expr)(k:Expr→Str→Pos→List Expr→List Keyword→Pos→Prop):Prop:=nJ e fun f args kws pos=>rV f fun o m ap=>k o m ap args kws pos
theorem SP(st):(CD (dY (a5 iN 2)) fun o m ap args kws pos=>gS (aT jB 34) (cx 188 3) o m ap args kws pos st fun v st=>Q .next ⟨bX (nm "stuff") v st.vs,st.os⟩)=jR (a6 iN 2) st Q:=by kernel_rfl
theorem w3:∀x∈ej,eq x.1=true:=by decide+kernel
theorem SO(x:Tx×Tx)(hx:x∈ej)(Q'):(eq x.1=true∧Q' (.str x.1) ⟨stK n aW i j [(nm "stuff",.str x.1)],os⟩)=(CD (dY (a5 iN 2)) fun o m ap args kws pos=>gS (aT jB 34) (cx 188 3) o m ap args kws pos ⟨stK n aW i j [(nm "stuff",.str x.1)],os⟩ Q'):=by
 unfold ej at hx;rw[List.mem_cons,List.mem_cons,List.mem_singleton] at hx;rcases hx with rfl|rfl|rfl<;>kernel_rfl
theorem TQ(x:Tx×Tx)(hx:x∈ej.take 2)(n)(hn:n=23∨n=25):(1≤ax∧2≤ax∧3≤ax∧vs.length<ax∧Q .next ⟨stK n aW (j+1) j [(nm "stuff",.str (x.2.tail.dropLast))],bb f n (vs++[.str x.2])⟩)=jR (iN.drop 3) ⟨stK n aW i j [(nm "stuff",.str x.1)],bb f n vs⟩ Q:=by
 unfold ej at hx;rw[show List.take 2 _=[(([42],[91,42,93]):Tx×Tx),([35],[91,35,93])] from rfl,List.mem_cons,List.mem_singleton] at hx;rcases hn with rfl|rfl<;>rcases hx with rfl|rfl<;>kernel_rfl
theorem SN(n)(hn:n=23∨n=25):(3≤ax∧1≤ax∧4≤ax∧5≤ax∧vs.length<ax∧Q .next ⟨stK n aW (j+1) j [(nm "stuff",.str [94,97,35])],bb f n (vs++[.str [91,94,97,35,93]])⟩)=jR (iN.drop 3) ⟨stK n aW i j [(nm "stuff",.str [33,97,35])],bb f n vs⟩ Q:=by
 rcases hn with rfl|rfl<;>kernel_rfl
theorem pt(h:k≤5):k≤ax:=bZ h (by decide)
theorem pm(x:Tx×Tx)(hx:x∈ej)(n)(hn:n=23∨n=25)(h:vs.length<ax)(hq:Q .next ⟨stK n aW (j+1) j [(nm "stuff",.str (x.2.tail.dropLast))],bb f n (vs++[.str x.2])⟩):jR (iN.drop 3) ⟨stK n aW i j [(nm "stuff",.str x.1)],bb f n vs⟩ Q:=by
 have Nj:=hx;unfold ej at hx;rw[List.mem_cons,List.mem_cons,List.mem_singleton] at hx;rcases hx with rfl|rfl|rfl
 ·exact Eq.mp (TQ f aW i vs Q j _ (cw ..) n hn) (Nv (pt (by decide)) (pt (by decide)) (pt (by decide)) h hq)
 ·exact Eq.mp (TQ f aW i vs Q j _ (dZ _ (cw ..)) n hn) (Nv (pt (by decide)) (pt (by decide)) (pt (by decide)) h hq)
 ·exact Eq.mp (SN f aW i vs Q j n hn) (SE (pt (by decide)) (pt (by decide)) (pt (by decide)) (pt (by decide)) h hq)
end
end
section
noncomputable def isStar(o:Option Item):Bool:=match o with
 |some i=>i.1==[42]
 |none=>false
def eU(ps:List Item)(i:Item):List Item:=if i.1==[42]&&isStar ps.getLast? then ps else ps++[i]
abbrev iG(ps:List Item):List V:=ps.map (cH 22)
def UB(l:List (Str×V)):Prop:=l=[]∨∃j w,l=[(nm "j",.int j),(nm "stuff",w)]
def EK(l:List (Str×V)):Prop:=l=[]∨∃u l',UB l'∧l=(nm "c",u)::l'
section
variable{f:Nat→O}{aW pre x post:Tx}{vs:List V}{ps:List Item}{l:List (Str×V)}{Q:Fl→St→Prop}{n:Nat}{os:List O}
theorem CC(hp:aW=pre++c::post)(os):bn os (.str aW) (.int (pre.length:Int))=some (.str [c]):=nE os (by(refine RW hp<|RW (rA (bI _))<|RW (Nat.sub_self _) ?_);rfl)
theorem Bl(hp:aW=pre++c::post)(hl:EK l)(h:∀l',UB l'→hU (eS.drop 2) ⟨bl n aW (pre.length+1) ((nm "c",.str [c])::l'),os⟩ Q):hU eS ⟨bl n aW pre.length l,os⟩ Q:=by
 refine bo 39 2 ?_;rcases hl with rfl|⟨u,l',hl,rfl⟩
 ·exact Eq.mp (Vn aW _ _ n os)<|RW (CC hp _)<|aj (k:=fun st=>hU (eS.drop 2) st Q) (Q:=Q) (h [] (.inl rfl))
 ·exact Eq.mp (Vm aW _ u l' _ n os)<|RW (CC hp _)<|aj (k:=fun st=>hU (eS.drop 2) st Q) (Q:=Q) (h l' hl)
theorem rZ(hn:n=23∨n=25){c:Nat}(hc:c=97∨c=98∨c=39∨c=100){st:List (Str×V)}(h:vs.length<ax)(hq:Q .next ⟨st,bb f n (vs++[.str [c]])⟩):cZ vU [.str [c]] [] (bb f n vs) (A4 n st Q):=by
 refine⟨⟨rfl,rfl⟩,rfl,c,rfl,hc,rfl,?_⟩;have e:li (n+1) [.str [c]] (bb f n vs) (iA fun _ os=>Q .next ⟨st,os⟩)=(vs.length<ax∧Q .next ⟨st,bb f n (vs++[.str [c]])⟩):=by rcases hn with rfl|rfl<;>kernel_rfl
 have e2:nN (bb f n vs) (.ref (n+1))=true:=by rcases hn with rfl|rfl<;>kernel_rfl
 exact aC e2 (Eq.mpr e ⟨h,hq⟩)
theorem BU{i}(h:i.1≠[42]):iG (eU ps i)=iG ps++[.str (Jq i.1)]:=by
 unfold eU;rw[if_neg (by(refine RW (show(i.1==[42])=false from by((refine RS (Bool.not_eq_true _) ?_);rewrite [beq_iff_eq]);exact h) ?_);exact Bool.false_ne_true)]
 refine(?_:List.map (cH 22) (ps++[i])=_)
 ((refine RW cz<|RW List.map_singleton ?_);rewrite [show cH 22 i=.str (Jq i.1) from if_neg (by rw[beq_iff_eq];exact h)];rfl)
theorem O7(hn:n=23∨n=25){i}(hi:i∈[([97],[97],false),([63],[],true),([98],[98],false),([39],[39],false),([100],[100],false)])(hp:aW=pre++i.1++post)(hl:EK l)(h:ps.length<ax)
  (hq:∀l',EK l'→Q .next ⟨bl n aW ((pre++i.1).length:Nat) l',bb f n (iG (eU ps i))⟩):hU eS ⟨bl n aW pre.length l,bb f n (iG ps)⟩ Q:=by
 have hv:(iG ps).length<ax:=RW (bW _) h;have o7:∃c,i.1=[c]∧c≠42:=by
  rw[List.mem_cons,List.mem_cons,List.mem_cons,List.mem_cons,List.mem_singleton] at hi;rcases hi with rfl|rfl|rfl|rfl|rfl<;>exact(aK _ rfl (by decide))
 refine aq o7 fun c hc o7=>?_;refine Bl (c:=c) (post:=post) (by((refine RW hp<|RW hc ?_);rewrite [List.append_assoc]);rfl) hl fun l' jr=>?_
 have hq:=hq _ (.inr (pK (.str [c]) l' jr rfl));rw[BU (by refine RW hc ?_;intro e;exact o7 (List.singleton_inj.mp e)),List.length_append,hc,show(([c]:Tx).length)=1 from rfl,Int.natCast_add] at hq
 rw[List.mem_cons,List.mem_cons,List.mem_cons,List.mem_cons,List.mem_singleton] at hi;rcases hi with rfl|rfl|rfl|rfl|rfl<;>cases List.singleton_inj.mp hc
 ·exact Eq.mp (Vl aW _ l' Q n _) (rZ hn (by decide) hv hq)
 ·exact Eq.mp (Vi f aW _ (iG ps) l' Q n hn) ⟨hv,hq⟩
 ·exact Eq.mp (Vk aW _ l' Q n _) (rZ hn (by decide) hv hq)
 ·exact Eq.mp (Vh aW _ l' Q n _) (rZ hn (by decide) hv hq)
 ·exact Eq.mp (Vj aW _ l' Q n _) (rZ hn (by decide) hv hq)
theorem G5(hn:n=23∨n=25)(u):bn (bb f n (u::vs)) (.ref n) (.int (-1))=(u::vs).getLast?:=by
 have e:bn (bb f n (u::vs)) (.ref n) (.int (-1))=II (u::vs) (.int (-1)):=by rcases hn with rfl|rfl<;>kernel_rfl
 refine RW e ?_;refine(?_:(fS (-1) (u::vs).length).bind (fun k=>(u::vs)[k]?)=_);unfold fS;refine RW (au (by decide))<|RW (aB (by refine RW eR ?_;lia))<|RW List.getLast?_eq_getElem? ?_
 show(u::vs)[_]? =_
 congr 1
 refine RW eR ?_;lia
theorem O6(hn:n=23∨n=25)(hp:aW=pre++[42]++post)(hl:EK l)(h:ps.length<ax)
  (hq:∀l',EK l'→Q .next ⟨bl n aW ((pre++[42]).length:Nat) l',bb f n (iG (eU ps ([42],[],false)))⟩):hU eS ⟨bl n aW pre.length l,bb f n (iG ps)⟩ Q:=by
 refine Bl (c:=42) (post:=post) (by((refine RW hp ?_);rewrite [List.append_assoc]);rfl) hl fun l' jr=>?_
 have hq:=hq _ (.inr (pK (.str [42]) l' jr rfl));rw[List.length_append,show(([42]:Tx).length)=1 from rfl,Int.natCast_add] at hq
 induction ps using List.casesOn with
 |nil=>exact Eq.mp (SX f aW _ l' Q n hn) ⟨by decide,hq⟩
 |cons a ps=>
  refine Eq.mp (Vg f aW _ (iG ps) (cH 22 a) l' Q n hn)<|RW (G5 hn _) ?_;have e:(cH 22 a::iG ps).getLast? =(a::ps).getLast?.map (cH 22):=by(refine RS cV<|RW List.getLast?_map rfl)
  refine RW e ?_;unfold eU at hq;cases q:(a::ps).getLast? with
  |none=>rw[List.getLast?_eq_none_iff] at q;cases q
  |some b=>
   rw[q] at hq;refine(?_:am (bR .IsNot (cH 22 b) (.ref 22) _) _);refine EM ((b.1==[42])=true) (fun c=>?_) fun c=>?_
   ·rw[if_pos (by refine(?_:(true&&(b.1==[42]))=true);exact RW c rfl)] at hq
    unfold cH;exact RW (aB c) hq
   ·rw[if_neg (by refine(?_:¬(true&&(b.1==[42]))=true);exact RW (Bool.true_and _) c)] at hq
    have hq:Q .next ⟨bl n aW (pre.length+(1:Nat)) ((nm "c",.str [42])::l'),bb f n (cH 22 a::iG ps++[.ref 22])⟩:=by
     rw[show(cH 22 a::iG ps++[.ref 22])=iG (a::ps++[([42],[],false)]) from by refine(?_:_=List.map _ _);refine RW List.map_append ?_;rfl]
     exact hq
    have e2:bR .IsNot (cH 22 b) (.ref 22) (bb f n (cH 22 a::iG ps))=some true:=by unfold cH;exact RW (au c) rfl
    exact RW e2 ⟨by exact RW eR<|RW (bW _)<|h,hq⟩
theorem bY{sm:eI}{C:Cx}{L:List Stmt}{st:St}{Q:Fl→St→Prop}(k m)(e:a6 L m=(L.drop m).take 1)(h:(aT sm (k+1)).ex C (a6 L m) st (bD (fun st=>(aT sm (k+1)).ex C (L.drop (m+1)) st Q) Q)):(aT sm (k+1)).ex C (L.drop m) st Q:=by
 exact bo k 1<|RW List.drop_drop<|RS e h
variable{t:List (Str×V)}{i:Int}
theorem xN(hc:aW[p]? =some c)(h:Q .next ⟨stK n aW i (if c=y then((p+1:Nat):Int) else p) t,os⟩):Ff Q n aW i p t os y:=by
 have hp:=(fY.mp hc).1;unfold Ff
 (refine RW (au (by refine RW (kX (jG.mpr hp)) ?_;decide))<|RW (nE _ hc) ?_)
 refine(?_:(if([c]==[y])=false then _ else _))
 refine EM (c=y) (fun q=>?_) fun q=>?_
 ·rw[if_pos q,Int.natCast_succ] at h
  refine RW (au (by refine RW q<|RW (dT _) ?_;decide)) ?_
  exact h
 ·rw[if_neg q] at h
  rw[if_pos (by((refine RS (Bool.not_eq_true _) ?_);rewrite [beq_iff_eq]);exact fun e=>q (List.singleton_inj.mp e))]
  exact h
theorem jl(h:aW.drop p=c::r):aW[p]? =some c:=by
 have:=bH (·[0]?) h;rw[List.getElem?_drop] at this;exact this
theorem qD(h:aW.drop p=c::r):aW.drop (p+1)=r:=by
 exact RS List.drop_drop<|RW h rfl
theorem scan(hs:bt jB):∀(s:Tx) (p:Nat),aW.drop p=s++93::r→(∀c∈s,c≠93)→Q .next ⟨stK n aW i ((p+s.length:Nat):Int) t,os⟩→(ay jB).wh (cx 188 3) (dY lM) (jA lM) [] ⟨stK n aW i p t,os⟩ Q
 |[],p,hd,_,h=>by
  have hc:=jl hd;have hp:=(fY.mp hc).1;refine(bV (sm:=jB) hs 40).wh (Eq.mp (Op aW i Q n os p t) ?_)
  (refine RW (au (by refine RW (kX (jG.mpr hp)) ?_;decide))<|RW (nE _ hc) ?_)
  exact h
 |c::s,p,hd,hn,h=>by
  have hc:=jl hd;have hp:=(fY.mp hc).1;refine(bV (sm:=jB) hs 40).wh (Eq.mp (Op aW i Q n os p t) ?_)
  (refine RW (au (by refine RW (kX (jG.mpr hp)) ?_;decide))<|RW (nE _ hc) ?_)
  have q:c≠93:=hn c cw;refine(?_:(if(!([c]==[93]))=false then _ else _))
  rw[if_neg (by rw[show([c]==[93])=false from by((refine RS (Bool.not_eq_true _) ?_);rewrite [beq_iff_eq]);exact fun e=>q (List.singleton_inj.mp e)];decide)]
  refine RS (Int.natCast_succ _)<|scan hs s (p+1) (qD hd) (fun d hd=>hn d (dZ _ hd)) ?_;rw[List.length_cons] at h;refine RW (show p+1+s.length=p+(s.length+1) by lia) ?_
  exact h
theorem MB(h:aW.drop a=r++q)(hb:b=a+r.length):ek os (.str aW) (.int (a:Int)) (.int (b:Int))=some (.str r):=by
 have hl:=bH List.length h;rw[List.length_drop,List.length_append] at hl;refine(?_:((cutAt aW.length 0 (.int a)).bind fun a=>(cutAt aW.length aW.length (.int b)).bind fun b=>some ((aW.drop a).take (b-a))).map V.str=_)
 (rewrite [kA];rewrite [kA];refine RW (mY _ _)<|RW (mY _ _)<|RW (na _ _) ?_)
 refine aA (Nat.le_total a aW.length) (fun c=>?_) fun c=>?_
 ·refine RW (Nat.min_eq_left c)<|RW (Nat.min_eq_left (by lia))<|RW h<|RW hb<|RW (Nat.add_sub_cancel_left _ _)<|RW List.take_left rfl
 ·refine RW (Nat.min_eq_right c)<|RW (Nat.min_eq_right (by lia))<|RW (Nat.sub_self _)<|RW List.take_zero ?_
  have:r=[]:=List.eq_nil_of_length_eq_zero (by lia)
  refine RW this rfl
theorem O5(hs:bt jB)(hn:n=23∨n=25){x}(hx:x∈ej)(hp:aW=pre++(91::x.1++[93])++post)(hl:EK l)(h:ps.length<ax)
  (hq:∀l',EK l'→Q .next ⟨bl n aW ((pre.length+x.1.length+2:Nat):Int) l',bb f n (iG ps++[.str x.2])⟩):hU eS ⟨bl n aW pre.length l,bb f n (iG ps)⟩ Q:=by
 have hd:aW.drop (pre.length+1)=x.1++93::post:=by
  ((refine RW hp ?_);rewrite [List.append_assoc];refine RS List.drop_drop<|RW List.drop_left ?_)
  refine(?_:List.drop 1 (91::(x.1++[93]++post))=_);rw[List.append_assoc];rfl
 have a9:pre.length+1+x.1.length<aW.length:=by
  have:=bH List.length hd;rw[List.length_drop,List.length_append,List.length_cons] at this;lia
 refine Bl (c:=91) (post:=x.1++[93]++post) (by((refine RW hp ?_);rewrite [List.append_assoc]);rfl) hl fun l' jr=>?_
 refine RS (Int.natCast_succ _) ?_
 generalize hi:((pre.length+1:Nat):Int)=i
 have s5:∀st,jR iN st Q→jR iN st (a8 Q):=fun st h=>RW (i6 _) h;have s4:∀t,(t=[]∨∃u,t=[(nm "stuff",u)])→hO (fZ.drop 4) ⟨stK n aW i ((pre.length+1+x.1.length:Nat):Int) t,bb f n (iG ps)⟩ Q:=by
  intro t ht;refine Eq.mp (Vb aW i Q n _ _ t) ?_
  (refine RW (au (by refine RW (pg (Int.not_le.mpr (jG.mpr a9))) ?_;decide)) ?_)
  refine s5 _ (bo 35 1 ?_);have g:jR (iN.drop 1) ⟨stK n aW i ((pre.length+1+x.1.length:Nat):Int) [(nm "stuff",.str x.1)],bb f n (iG ps)⟩ Q:=by
   refine bY 35 1 (by kernel_rfl)<|Eq.mp (Va aW i _ n _ _ x hx) ⟨?_,?_⟩
   ·unfold ej at hx
    rw[List.mem_cons,List.mem_cons,List.mem_singleton] at hx;rcases hx with rfl|rfl|rfl<;>rfl
   refine aj (k:=fun st=>jR (iN.drop 2) st Q) (Q:=Q) (bY 35 2 (by kernel_rfl) ?_)
   refine Eq.mp (SP _ _) (Eq.mp (SO aW i n _ _ x hx _) ⟨w3 x hx,?_⟩);have e:∀t,bX (nm "stuff") (.str x.1) (stK n aW i t [(nm "stuff",.str x.1)])=stK n aW i t [(nm "stuff",.str x.1)]:=fun t=>by kernel_rfl
   refine aj (k:=fun st=>jR (iN.drop 3) st Q) (Q:=Q)<|RW (e _)<|pm f aW i (iG ps) Q _ x hx n hn (RW (bW _) h)<|RS (Int.natCast_succ _)<|RW (show(pre.length+1+x.1.length).succ=pre.length+x.1.length+2 by lia) ?_
   exact hq _ (.inr (pK _ _ (.inr (s7 _ _ rfl)) rfl))
  have ec:ek (bb f n (iG ps)) (.str aW) (.int i) (.int ((pre.length+1+x.1.length:Nat):Int))=some (.str x.1):=RS hi<|MB hd rfl;rcases ht with rfl|⟨u,rfl⟩
  ·exact Eq.mp (SS aW i _ n _ _)<|RW ec<|aj (k:=fun st=>jR (iN.drop 1) st Q) (Q:=Q) g
  ·exact Eq.mp (SQ aW i u _ n _ _)<|RW ec<|aj (k:=fun st=>jR (iN.drop 1) st Q) (Q:=Q) g
 have s3:∀(s:Tx) (p:Nat) t,aW.drop p=s++93::post→(∀c∈s,c≠93)→p+s.length=pre.length+1+x.1.length→(t=[]∨∃u,t=[(nm "stuff",u)])→hO (fZ.drop 3) ⟨stK n aW i p t,bb f n (iG ps)⟩ Q:=by
  intro s p t hd hn hp ht;refine Eq.mp (Vc Q _) (scan hs s p hd hn ?_);exact RW hp<|aj (k:=fun st=>hO (fZ.drop 4) st Q) (Q:=Q) (s4 t ht)
 have s1:∀t,(t=[]∨∃u,t=[(nm "stuff",u)])→hO (fZ.drop 1) ⟨stK n aW i i t,bb f n (iG ps)⟩ Q:=by
  intro t ht;refine bY 36 1 (by kernel_rfl) (Eq.mp (Ve aW i _ n _ _ t) ?_)
  have go:∀(s:Tx) (p c:Nat) r,s=c::r→aW.drop p=s++93::post→(∀c∈s,c≠93)→p+s.length=pre.length+1+x.1.length→hO (fZ.drop 2) ⟨stK n aW i p t,bb f n (iG ps)⟩ Q:=by
   intro s p c r e hd hn hp;refine bY 36 2 (by kernel_rfl) (Eq.mp (Vd aW i _ n _ _ t) (xN (c:=c) (jl (r:=r++93::post) (RW hd<|RW e rfl)) ?_))
   exact RW (au (hn c (RW e cw)))<|aj (k:=fun st=>hO (fZ.drop 3) st Q) (Q:=Q) (s3 s p t hd hn hp ht)
  refine RS hi ?_;unfold ej at hx;rw[List.mem_cons,List.mem_cons,List.mem_singleton] at hx;refine RW hi ?_;rcases hx with rfl|rfl|rfl
  ·refine RS hi<|xN (c:=42) (jl hd) ?_
   have z:=go [42] _ _ _ rfl hd (by decide) rfl
   refine RW (au (by decide)) ?_
   rw[hi] at z ⊢;exact aj (k:=fun st=>hO (fZ.drop 2) st Q) (Q:=Q) z
  ·refine RS hi<|xN (c:=35) (jl hd) ?_
   have z:=go [35] _ _ _ rfl hd (by decide) rfl
   refine RW (au (by decide)) ?_
   rw[hi] at z ⊢;exact aj (k:=fun st=>hO (fZ.drop 2) st Q) (Q:=Q) z
  ·exact RS hi<|xN (c:=33) (jl hd)<|RW hi<|aj (k:=fun st=>hO (fZ.drop 2) st Q) (Q:=Q) (go [97,35] _ _ _ rfl (qD hd) (by decide) rfl)
 refine Eq.mp (Vf aW i l' Q n _)<|RW (i6 _)<|RW (i6 _)<|RW (i6 _)<|bo 36 1 ?_;rcases jr with rfl|⟨j,w,rfl⟩
 ·exact Eq.mp (SV aW i _ n _)<|aj (k:=fun st=>hO (fZ.drop 1) st Q) (Q:=Q) (s1 [] (.inl rfl))
 ·exact Eq.mp (SU aW i _ n _ j _)<|aj (k:=fun st=>hO (fZ.drop 1) st Q) (Q:=Q) (s1 _ (.inr ⟨w,rfl⟩))
end
end
section
noncomputable def bu(its:List Item):Tx:=its.flatMap (·.1)
def zk:bO:=fun args kws os K=>kws=[]∧(os.length=23∨os.length=25)∧∃its,args=[.str (bu its),.ref 22,.str [46]]∧(∀i∈its,i∈a3)∧its.length<ax∧K (.ok (.ref os.length)) (os++[.list (iG (its.foldl eU [])),.wrap "list.append" os.length])
section
variable{f:Nat→O}{aW pre post:Tx}{ps:List Item}{l:List (Str×V)}{Q:Fl→St→Prop}{n:Nat}{os:List O}
theorem Lz(pre y):(pre++(91::y++[93])).length=pre.length+y.length+2:=by
 simp only[List.length_append,List.length_cons,List.length_nil];lia
theorem FP(hs:bt jB)(hn:n=23∨n=25)(hi:i∈a3)(hp:aW=pre++i.1++post)(hl:EK l)(h:ps.length<ax)
  (hq:∀l',EK l'→Q .next ⟨bl n aW ((pre++i.1).length:Nat) l',bb f n (iG (eU ps i))⟩):hU eS ⟨bl n aW pre.length l,bb f n (iG ps)⟩ Q:=by
 refine EM (i∈([([97],[97],false),([63],[],true),([98],[98],false),([39],[39],false),([100],[100],false)]:List Item)) (fun c1=>?_) fun c1=>?_
 ·exact O7 hn c1 hp hl h hq
 refine EM (i=([42],[],false)) (fun c2=>?_) fun c2=>?_
 ·subst c2
  exact O6 hn hp hl h hq
 ·have:∃x∈ej,i.1=91::x.1++[93]∧Jq i.1=x.2:=by
   unfold a3 at hi;simp only[List.mem_cons,List.not_mem_nil,or_false] at hi c1;unfold ej;rcases hi with rfl|rfl|rfl|rfl|rfl|rfl|rfl|rfl|rfl
   ·exact absurd (.inl rfl) c1
   ·exact absurd rfl c2
   ·exact absurd (.inr (.inl rfl)) c1
   ·exact absurd (.inr (.inr (.inl rfl))) c1
   ·exact absurd (.inr (.inr (.inr (.inl rfl)))) c1
   ·exact lL (([42],[91,42,93])) (by decide) rfl rfl
   ·exact lL (([35],[91,35,93])) (by decide) rfl rfl
   ·exact lL (([33,97,35],[91,94,97,35,93])) (by decide) rfl rfl
   ·exact absurd (.inr (.inr (.inr (.inr rfl)))) c1
  refine kS this fun x hx h1 h2=>O5 hs hn hx (post:=post) (by(refine RW hp<|RW h1 rfl)) hl h fun l' jr=>?_
  have hq:=hq l' jr;rw[BU (by refine RW h1 ?_;intro e;injection e with e _;exact absurd e (by decide)),h2,h1,Lz] at hq
  exact hq
theorem Es(ps)(i:Item):(eU ps i).length≤ps.length+1:=by
 unfold eU;split
 ·exact iL _ _
 ·exact RW b4<|bI _
theorem yA(hs:bt jB)(hn:n=23∨n=25):∀(its:List Item) (pre:Tx) (ps:List Item) (l:List (Str×V)),aW=pre++bu its→(∀i∈its,i∈a3)→ps.length+its.length≤ax→EK l→
  (∀l,Q .next ⟨bl n aW (aW.length:Nat) l,bb f n (iG (its.foldl eU ps))⟩)→(ay jB).wh (cx 188 3) (dY vH) eS [] ⟨bl n aW pre.length l,bb f n (iG ps)⟩ Q
 |[],pre,ps,l,hp,_,_,_,hQ=>by
  refine(bV (sm:=jB) hs 40).wh (Eq.mp (IP aW _ l Q n _) ?_);have e:aW=pre:=RW hp<|cc _
  (refine RW e<|RW (au (by refine RW (pg (Int.lt_irrefl _)) ?_;decide)) ?_)
  have:=hQ l;rw[e] at this;exact this
 |i::its,pre,ps,l,hp,hi,a9,hl,hQ=>by
  refine(bV (sm:=jB) hs 40).wh (Eq.mp (IP aW _ l Q n _) ?_);have Si:aW=pre++i.1++bu its:=by((refine RW hp ?_);rewrite [List.append_assoc]);rfl
  rw[List.length_cons] at a9;have AS:=hi i cw;have jL:pre.length<aW.length:=by
   have:0<i.1.length:=by
    unfold a3 at AS;simp only[List.mem_cons,List.not_mem_nil,or_false] at AS;rcases AS with rfl|rfl|rfl|rfl|rfl|rfl|rfl|rfl|rfl<;>decide
   refine RW Si<|RW b4<|RW b4 ?_;lia
  refine RW (aB (RW nl<|jG.mpr jL))<|FP hs hn AS Si hl ((dy (iL _ _) a9)) fun l' jr=>?_;have:=Es ps i;exact yA hs hn its (pre++i.1) (eU ps i) l' (by(refine RW Si rfl)) (fun j hj=>hi j (dZ _ hj)) (by lia) jr hQ
theorem Mo(K)(i)(vs)(hn:n=23∨n=25):(am (bR .Eq (.int i) (.int aW.length) (bb f n vs)) fun c=>if c=true then K (.ok (.ref n)) (bb f n vs) else False)=(M jB).ex (cx 188 3) ((ac 188).drop 4) ⟨bl n aW i l,bb f n vs⟩ (aN K):=by rcases hn with rfl|rfl<;>kernel_rfl
noncomputable def A1(os:List O)(k:Nat):O:=(os[k]?).getD (.list [])
theorem wa(os:List O):os=pad (A1 os) os.length:=by
 unfold pad A1;refine List.ext_getElem? fun k=>RW pi ?_;refine EM (k<os.length) (fun h=>?_) fun h=>?_
 ·(refine RW (List.getElem?_range h)<|RW (na _ _)<|RW (dz h) ?_);rfl
 ·(refine RW (rz ((rh h)))<|RW (rz (RW nj (rh h))) ?_);rfl
theorem H7(hs:bt jB){K}(hn:os.length=23∨os.length=25)(hi:∀i∈its,i∈a3)(hl:its.length<ax)(h:K (.ok (.ref os.length)) (os++[.list (iG (its.foldl eU [])),.wrap "list.append" os.length])):(ay jB).call 4 (.con (.ref 188)) [.str (bu its),.ref 22,.str [46]] [] os K:=by
 refine(bA hs 41).call ?_;have z:(ay jB).wh (cx 188 3) (dY vH) eS [] ⟨bl os.length (bu its) 0 [],bb (A1 os) os.length []⟩ (sj K):=by
  refine yA hs hn its [] [] [] rfl hi (by refine RW List.length_nil ?_;lia) (.inl rfl) fun l=>?_
  refine Eq.mp (Mo K _ _ hn) ?_;rw[show bR .Eq (.int ((bu its).length:Nat)) (.int (bu its).length) _=some true from congrArg some (beq_self_eq_true _)];refine(?_:K _ _);unfold bb;exact RS (wa _) h
 refine aA hn (fun hn=>?_) fun hn=>?_<;>rw[hn] at z
 ·have:=Eq.mp (Gk (A1 os) (bu its) K) z
  rw[←hn,←wa] at this;exact this
 ·have:=Eq.mp (Gj (A1 os) (bu its) K) z
  rw[←hn,←wa] at this;exact this
end
theorem zy(n)(h:kf n ps)(hp:ps≠[]):m9 n (m9 n ps)=m9 n ps:=by
 unfold m9
 induction ps using List.casesOn with
 |nil=>exact absurd rfl hp
 |cons p ps=>
  have:=h.1 p cw;have e:(List.range' ((p::ps).headD 0) (n.length+1-(p::ps).headD 0)).headD 0=p:=by
   refine(?_:(List.range' p (n.length+1-p)).headD 0=p);refine RW (show n.length+1-p=(n.length-p)+1 by lia)<|RW List.range'_succ ?_;rfl
  exact RW e rfl
theorem zU(n)(ps)(i:Item):(eU ps i).foldl (a4 n) [0]=(ps++[i]).foldl (a4 n) [0]:=by
 have hb:∀ps:List Item,kf n (ps.foldl (a4 n) [0]):=by
  intro ps;have:∀(ps:List Item) (z:List Nat),kf n z→kf n (ps.foldl (a4 n) z):=by
   intro ps
   induction ps with
   |nil=>exact fun z h=>h
   |cons a ps ih=>exact fun z h=>ih _ (lF h a)
  exact this ps [0] ⟨fun p m=>by refine RW (dw.mp m) ?_;exact c9 _,by simp⟩
 unfold eU;split
 ·rename_i c
  rw[Bool.and_eq_true,beq_iff_eq] at c;refine RW kb ?_;cases q:ps.getLast? with
  |none=>rw[q] at c;exact c0 c.2
  |some b=>
   rw[q] at c;have c2:b.1=[42]:=cO.mp c.2;obtain⟨qs,rfl⟩:∃qs,ps=qs++[b]:=⟨ps.dropLast,by rw[List.getLast?_eq_some_iff] at q;(refine bf q fun ys aa=>?_;clear q;subst aa);simp⟩
   refine RW kb ?_
   generalize hz:qs.foldl (a4 n) [0]=z
   have WA:kf n z:=hz▸hb qs;refine(?_:a4 n z b=a4 n (a4 n z b) i);unfold a4;refine EM (z=[]) (fun e=>?_) fun e=>?_
   ·refine RW (aB e)<|RW (aB rfl) rfl
   ·refine RW (au e)<|RW (aB c2)<|RW (aB c.1) ?_
    split
    ·assumption
    ·exact(zy n WA e).symm
 ·rfl
theorem wU(n)(its):dj (its.foldl eU []) n=dj its n:=by
 have:∀(its ps:List Item),(its.foldl eU ps).foldl (a4 n) [0]=(ps++its).foldl (a4 n) [0]:=by
  intro its
  induction its with
  |nil=>intro ps;exact RW (cc _) rfl
  |cons i its ih=>
   intro ps
   ((refine RW qZ<|RW (ih _)<|RW kb ?_);rewrite [zU];refine RS kb ?_;rewrite [List.append_assoc]);rfl
 unfold dj;exact RW (this its []) rfl
theorem Er(its:List Item):∀(ps:List Item) (P:Item→Prop),(∀i∈ps,P i)→(∀i∈its,P i)→∀i∈its.foldl eU ps,P i:=by
 induction its with
 |nil=>exact fun ps P h _=>h
 |cons i its ih=>
  intro ps P h h';refine ih _ P (fun j hj=>?_) fun j hj=>h' j (dZ _ hj);unfold eU at hj;split at hj
  ·exact h j hj
  ·refine aA (b9.mp hj) (fun m=>?_) fun m=>?_
   ·exact h j m
   ·exact RW (dw.mp m)<|h' i cw
end
section
def bq(i:Nat):Tx:=match i with
 |0=>tx "a"
 |1=>tx "a b"
 |2=>tx "b*"
 |3=>tx "it's"
 |_=>tx "#d"
def ag(i:Nat):V:=.str (bq i)
noncomputable def oZ{α:Type}(f:Nat→α)(i:Nat)(v:α)(k:Nat):α:=if k=i then v else f k
structure Gp where
 np:Nat→Int
 su:Nat→List Nat
def nr(g:Gp)(i:Nat):List O:=[.attrs [],.slots 63 (3*i+7) [some (ag i),some (.int (g.np i)),some (.ref (3*i+9))],.list ((g.su i).map ag)]
def Sa:List (Tx×V):=[(bq 0,.ref 8),(bq 1,.ref 11),(bq 2,.ref 14),(bq 3,.ref 17),(bq 4,.ref 20)]
def HG(o0 o4 o5 o6:O)(sX:V)(po fi:Int)(g:Gp)(t:List O):List O:=o0::.attrs [(tx "_node2info",.ref 3),(tx "_ready_nodes",sX),(tx "_npassedout",.int po),(tx "_nfinished",.int fi)]::.inst 160 1::.dict Sa (some 5)::o4::o5::o6::(nr g 0++nr g 1++nr g 2++nr g 3++nr g 4++t)
def fQ(i:Nat)(g:Gp)(j:Nat):Gp:=⟨g.np,oZ g.su j (g.su j++[i])⟩
def mw(g:Gp)(i:Nat)(js:List Nat):Gp:=js.foldl (fQ i) ⟨oZ g.np i (g.np i+js.length),g.su⟩
def Kj:bO:=fun args kws os K=>kws=[]∧∃o0 o4 o5 o6 po fi g t i js,os=HG o0 o4 o5 o6 .none po fi g t∧args=.ref 2::ag i::js.map ag∧i<5∧(∀j∈js,j<5)∧js.length≤5∧(∀j,(g.su j).length+5<ax)∧K (.ok .none) (HG o0 o4 o5 o6 .none po fi (mw g i js) t)
def Fv:List Stmt:=jA (a5 (ac 110) 3)
def E6:Expr:=vy (a5 (ac 110) 3)
def gI(i:Nat)(js:List V):List (Str×V):=[(nm "self",.ref 2),(nm "node",ag i),(nm "predecessors",.seq true js),(nm "nodeinfo",.ref (3*i+8))]
section
variable(o0 o4 o5 o6:O)(po fi:Int)(g:Gp)(t:List O)(js:List V)(Q:Fl→St→Prop)(K:Rs→List O→Prop)
theorem K9(i:Nat)(hi:i<5):(js.length+1+1≤ax∧(ay bi).fo (cx 110 3) E6 Fv (.seq true js) (0,0) 0 ⟨gI i js,HG o0 o4 o5 o6 .none po fi ⟨oZ g.np i (g.np i+js.length),g.su⟩ t⟩ (a8 (aN K)))=
  (aT bi 41).call 4 (.con (.ref 110)) (.ref 2::ag i::js) [] (HG o0 o4 o5 o6 .none po fi g t) K:=by
 have:i=0∨i=1∨i=2∨i=3∨i=4:=by lia
 rcases this with rfl|rfl|rfl|rfl|rfl<;>kernel_rfl
theorem d7(h:i<5):i=0∨i=1∨i=2∨i=3∨i=4:=by lia
theorem MV(i)(j)(os)(k):k ⟨gI i js++[(nm "pred",ag j)],os⟩=aI (M bi) (cx 110 3) E6 (ag j) ⟨gI i js,os⟩ k:=by kernel_rfl
theorem Iq(i)(j)(u v)(os)(k):k ⟨gI i js++[(nm "pred",ag j),(nm "pred_info",v)],os⟩=aI (M bi) (cx 110 3) E6 (ag j) ⟨gI i js++[(nm "pred",u),(nm "pred_info",v)],os⟩ k:=by kernel_rfl
abbrev NE(g:Gp)(i j:Nat)(os:List O):List O:=os.set (3*j+9) (.list ((g.su j).map ag++[ag i]))
theorem FY(i j:Nat)(hj:j<5):(((g.su j).map ag).length<ax∧Q .next ⟨gI i js++[(nm "pred",ag j),(nm "pred_info",.ref (3*j+8))],NE g i j (HG o0 o4 o5 o6 .none po fi g t)⟩)=
  (M bi).ex (cx 110 3) Fv ⟨gI i js++[(nm "pred",ag j)],HG o0 o4 o5 o6 .none po fi g t⟩ Q:=by
 rcases d7 hj with rfl|rfl|rfl|rfl|rfl<;>kernel_rfl
theorem CQ(i j:Nat)(hj:j<5)(u:V):(((g.su j).map ag).length<ax∧Q .next ⟨gI i js++[(nm "pred",ag j),(nm "pred_info",.ref (3*j+8))],NE g i j (HG o0 o4 o5 o6 .none po fi g t)⟩)=
  (M bi).ex (cx 110 3) Fv ⟨gI i js++[(nm "pred",ag j),(nm "pred_info",u)],HG o0 o4 o5 o6 .none po fi g t⟩ Q:=by
 rcases d7 hj with rfl|rfl|rfl|rfl|rfl<;>kernel_rfl
theorem GY(i j:Nat)(hj:j<5)(sX:V):NE g i j (HG o0 o4 o5 o6 sX po fi g t)=HG o0 o4 o5 o6 sX po fi (fQ i g j) t:=by
 unfold NE;rw[show(g.su j).map ag++[ag i]=(g.su j++[i]).map ag by refine RW List.map_append ?_;rfl]
 rcases d7 hj with rfl|rfl|rfl|rfl|rfl<;>kernel_rfl
end
theorem uv(i:Nat)(g:Gp)(j k:Nat):((fQ i g j).su k).length≤(g.su k).length+1:=by
 refine(?_:(oZ g.su j (g.su j++[i]) k).length≤_);unfold oZ;split
 ·rename_i h;subst h;exact RW b4<|bI _
 ·exact iL _ _
theorem jt:bt bi:=bP (l:=[]) trivial
theorem Ia{o0 o4 o5 o6}{po fi}{g}{t}{i}{js}{K}(hi:i<5)(hj:∀j∈js,j<5)(hl:js.length≤5)(hs:∀j,(g.su j).length+5<ax)(h:K (.ok .none) (HG o0 o4 o5 o6 .none po fi (mw g i js) t)):(ay bi).call 4 (.con (.ref 110)) (.ref 2::ag i::js.map ag) [] (HG o0 o4 o5 o6 .none po fi g t) K:=by
 refine(bA jt 41).call (Eq.mp (K9 o0 o4 o5 o6 po fi g t (js.map ag) K i hi) ⟨by refine RW (bW _) ?_;exact bZ (show js.length+1+1≤7 by lia) (by decide),?_⟩)
 refine RW (bW _) ?_;let gs:Nat→Gp:=fun k=>(js.take k).foldl (fQ i) ⟨oZ g.np i (g.np i+js.length),g.su⟩;have Wm:∀k j,((gs k).su j).length≤(g.su j).length+min k js.length:=by
  intro k j;have:∀(js:List Nat) (g:Gp),((js.foldl (fQ i) g).su j).length≤(g.su j).length+js.length:=by
   intro js
   induction js with
   |nil=>exact fun g=>bI _
   |cons a js ih=>
    intro g;have h1:=ih (fQ i g a);have h2:=uv i g a j;refine RW qZ<|RW eR ?_;lia
  have:=this (js.take k) ⟨oZ g.np i (g.np i+js.length),g.su⟩;rw[List.length_take] at this;exact this
 refine dp (sm:=bi) jt (vs:=js.map ag) (fun k st=>∃l,st=⟨gI i (js.map ag)++l,HG o0 o4 o5 o6 .none po fi (gs k) t⟩∧(l=[]∨∃u v,l=[(nm "pred",u),(nm "pred_info",v)])) (by decide) (fun{k st} _=>rfl) (fun{k v st} R hv hI hR=>?_) (fun{st} hI=>?_) (aK [] (RW (cc _) rfl) (.inl rfl))
 ·rw[List.getElem?_map] at hv
  refine aq (eG.mp hv) fun j So aa=>?_;subst aa;have No:=hj j (db So);have hk:=(fY.mp So).1;refine aq hI fun l aa jr=>?_;clear hI;subst aa;have a9:(((gs k).su j).map ag).length<ax:=by
   have:=Wm k j;have:=hs j;refine RW (bW _) ?_;lia
  have z:bJ R (a8 (aN K)) .next ⟨gI i (js.map ag)++[(nm "pred",ag j),(nm "pred_info",.ref (3*j+8))],NE (gs k) i j (HG o0 o4 o5 o6 .none po fi (gs k) t)⟩:=by
   refine RW (GY o0 o4 o5 o6 po fi (gs k) t i j No .none)<|hR (aK ([(nm "pred",ag j),(nm "pred_info",.ref (3*j+8))]) ?_ (.inr (s7 _ _ rfl)));refine(?_:_=(⟨_,HG o0 o4 o5 o6 .none po fi ((js.take (k+1)).foldl (fQ i) _) t⟩:St));exact RW kY<|RW So<|RW (m5 _)<|RW kb rfl
  rcases jr with rfl|⟨u,v,rfl⟩
  ·exact RW (cc _)<|Eq.mp (MV (js.map ag) i j _ _) (Eq.mp (FY o0 o4 o5 o6 po fi (gs k) t (js.map ag) _ i j No) ⟨a9,z⟩)
  ·exact Eq.mp (Iq (js.map ag) i j u v _ _) (Eq.mp (CQ o0 o4 o5 o6 po fi (gs k) t (js.map ag) _ i j No v) ⟨a9,z⟩)
 ·refine aq hI fun l aa _=>?_;clear hI;subst aa
  refine RW (bW _) ?_;refine(?_:K _ (HG o0 o4 o5 o6 .none po fi ((js.take js.length).foldl (fQ i) _) t));exact RW ph h
theorem Ml:Entry 110 4 Kj:=ct (by decide) fun{args kws os K} h=>by
 (have aF:=h;clear h;refine az aF fun aa aP=>TM aP fun o0 o4 o5 o6 po fi g t i js cN jo hi hj hl hs h=>?_;clear aF;subst aa;subst cN;subst jo)
 exact Ia hi hj hl hs h
end
section
noncomputable abbrev N7:List (Addr×Nat×bO):=[(110,4,Kj),(188,4,zk),(888,10,cZ Fp),(927,4,Ka)]
def gW:eI:=fO N7
def ao:List V:=[ag 0,ag 1,ag 2,ag 3,ag 4]
def nD(line:Tx):List (Str×V):=[(nm "names",.seq false ao),(nm "line",.str line),(nm "sorter",.ref 2),(nm "needs",.ref 4)]
def f8(line:Tx)(w:V):List (Str×V):=nD line++[(nm "words",w),(nm "star",.ref 22)]
def iE:List Stmt:=jA (a5 (ac 932) 1)
def E5:Expr:=vy (a5 (ac 932) 1)
def kc:Expr:=dY (a5 iE 1)
section
variable(o0 o4 o5 o6:O)(po fi:Int)(g:Gp)(t:List O)(line p:Tx)(ws:List V)(w u v:V)(os:List O)(l:List (Str×V))(Q:Fl→St→Prop)(K:Rs→List O→Prop)(ai:List (V×V))(R:St→List (V×V)→Prop)
theorem KQ:(M gW).ex (cx 932 10) (ac 932) ⟨nD line,os⟩ (aN K)=(aT gW 41).call 11 (.con (.ref 932)) [.seq false ao,.str line,.ref 2,.ref 4] [] os K:=by kernel_rfl
theorem P2:cZ Fp [.str line] [(nm "comments",.bool true)] (HG o0 o4 o5 o6 .none po fi g []) (iA fun v os=>Q .next ⟨nD line++[(nm "words",v),(nm "star",.ref os.length)],os++[.list [.str [42]]]⟩)=(M gW).ex (cx 932 10) ((ac 932).take 1) ⟨nD line,HG o0 o4 o5 o6 .none po fi g []⟩ Q:=by kernel_rfl
theorem P0(hw:ws=[u]∨ws=[u,v]):(ay gW).fo (cx 932 10) E5 iE (.seq false ws) (0,0) 0 ⟨f8 line (.seq false (w::ws)),os⟩ (a8 Q)=(M gW).ex (cx 932 10) ((ac 932).drop 1) ⟨f8 line (.seq false (w::ws)),os⟩ Q:=by
 rcases hw with rfl|rfl<;>kernel_rfl
theorem MP(x)(k):k ⟨f8 line w++[(nm "pattern",x)],os⟩=aI (M gW) (cx 932 10) E5 x ⟨f8 line w,os⟩ k:=by kernel_rfl
theorem Ij(x)(k):k ⟨f8 line w++(nm "pattern",x)::l,os⟩=aI (M gW) (cx 932 10) E5 x ⟨f8 line w++(nm "pattern",u)::l,os⟩ k:=by kernel_rfl
theorem q0:zk [.str p,.ref 22,.str [46]] [] os (iA fun v os=>Q .next ⟨f8 line w++[(nm "pattern",.str p),(nm "parts",v)],os⟩)=(M gW).ex (cx 932 10) (iE.take 1) ⟨f8 line w++[(nm "pattern",.str p)],os⟩ Q:=by kernel_rfl
theorem U9:zk [.str p,.ref 22,.str [46]] [] os (iA fun x os=>Q .next ⟨f8 line w++[(nm "pattern",.str p),(nm "parts",x),(nm "found",v)],os⟩)=(M gW).ex (cx 932 10) (iE.take 1) ⟨f8 line w++[(nm "pattern",.str p),(nm "parts",u),(nm "found",v)],os⟩ Q:=by kernel_rfl
def l4(r:Nat)(w:V):List (Str×V):=[(nm "parts",.ref r),(nm "star",.ref 22),(nm "words",w)]
def iP(line p:Tx)(r:Nat)(w:V):List (Str×V):=f8 line w++[(nm "pattern",.str p),(nm "parts",.ref r)]
theorem q1(r):((ay gW).co ⟨bS kc,10⟩ none (dX kc) (.Name (nm "name") ⟨962,26,962,30⟩) (dW kc) (.seq false ao) (0,0) 0 ⟨l4 r w,os⟩ [] fun ai st=>af ((ai.map (·.2)).length≤ax) (Q .next ⟨iP line p r w++[(nm "found",.seq false (ai.map (·.2)))],st.os⟩))=(M gW).ex (cx 932 10) (a6 iE 1) ⟨iP line p r w,os⟩ Q:=by kernel_rfl
theorem U8(r):((ay gW).co ⟨bS kc,10⟩ none (dX kc) (.Name (nm "name") ⟨962,26,962,30⟩) (dW kc) (.seq false ao) (0,0) 0 ⟨l4 r w,os⟩ [] fun ai st=>af ((ai.map (·.2)).length≤ax) (Q .next ⟨iP line p r w++[(nm "found",.seq false (ai.map (·.2)))],st.os⟩))=(M gW).ex (cx 932 10) (a6 iE 1) ⟨iP line p r w++[(nm "found",u)],os⟩ Q:=by kernel_rfl
theorem U7(hw:ws=[u]∨ws=[u,v])(r j):(am (bR .NotEq (ag j) w os) fun c=>if c=false then R ⟨l4 r (.seq false (w::ws))++[(nm "name",ag j)],os⟩ ai else Ka [.ref r,.ref 22,ag j] [] os (iA fun v os=>am (gz os v) fun c=>if c=false then R ⟨l4 r (.seq false (w::ws))++[(nm "name",ag j)],os⟩ ai else ai.length<ax∧R ⟨l4 r (.seq false (w::ws))++[(nm "name",ag j)],os⟩ (ai++[(.none,ag j)])))=
  dA (M gW) ⟨bS kc,10⟩ .And (dW kc) ⟨l4 r (.seq false (w::ws))++[(nm "name",ag j)],os⟩ fun ok st=>match ok with
   |true=>ba (M gW) ⟨bS kc,10⟩ none (dX kc) st ai R
   |false=>R st ai:=by rcases hw with rfl|rfl<;>kernel_rfl
theorem q2(hw:ws=[u]∨ws=[u,v])(r)(fs):Kj (.ref 2::w::(fs++[])) [] (HG o0 o4 o5 o6 .none po fi g t) (iA fun _ os=>Q .next ⟨iP line p r (.seq false (w::ws))++[(nm "found",.seq false fs)],os⟩)=(M gW).ex (cx 932 10) (a6 iE 2) ⟨iP line p r (.seq false (w::ws))++[(nm "found",.seq false fs)],HG o0 o4 o5 o6 .none po fi g t⟩ Q:=by rcases hw with rfl|rfl<;>kernel_rfl
def eC(nd:Nat→List Nat):List (Tx×V):=[(bq 0,.seq false ((nd 0).map ag)),(bq 1,.seq false ((nd 1).map ag)),(bq 2,.seq false ((nd 2).map ag)),(bq 3,.seq false ((nd 3).map ag)),(bq 4,.seq false ((nd 4).map ag))]
theorem q3(hw:ws=[u]∨ws=[u,v])(r:Nat)(nd:Nat→List Nat)(i:Nat)(hi:i<5)(fs:List V):((((nd i).map ag)++fs).length≤ax∧(eC nd).length<ax∧Q .next ⟨iP line p r (.seq false (ag i::ws))++[(nm "found",.seq false fs)],(HG o0 (.dict (eC nd) none) o5 o6 .none po fi g t).set 4 (.dict (dJ (eC nd) (bq i) (.seq false ((nd i).map ag++fs))) none)⟩)=(M gW).ex (cx 932 10) (a6 iE 3) ⟨iP line p r (.seq false (ag i::ws))++[(nm "found",.seq false fs)],HG o0 (.dict (eC nd) none) o5 o6 .none po fi g t⟩ Q:=by
 rcases hw with rfl|rfl<;>rcases d7 hi with rfl|rfl|rfl|rfl|rfl<;>kernel_rfl
end
end
section
def vR(its:List Item)(w:Nat)(s:Tx):Bool:=!(s==bq w)&&dj its s
def mn(its:List Item)(w:Nat):List Nat:=(List.range 5).filter fun j=>vR its w (bq j)
def dC(w:Nat)(x:Gp×(Nat→List Nat))(its:List Item):Gp×(Nat→List Nat):=(mw x.1 w (mn its w),oZ x.2 w (x.2 w++mn its w))
def J9:bO:=fun args kws os K=>kws=[]∧∃o0 o5 o6 po fi g nd line w,∃cA:List (List Item),os=HG o0 (.dict (eC nd) none) o5 o6 .none po fi g []∧args=[.seq false ao,.str line,.ref 2,.ref 4]∧(aH 22 o0=true∧aH 22 o5=true∧aH 22 o6=true)∧w<5∧(cA.length=1∨cA.length=2)∧Toks line ⟨0,.str [32],[],1⟩ (bq w::cA.map bu)∧(∀its∈cA,(∀i∈its,i∈a3)∧its.length<ax)∧(∀j,(g.su j).length+20<ax)∧(∀j,(nd j).length+20<ax)∧K (.ok .none) (HG o0 (.dict (eC (cA.foldl (dC w) (g,nd)).2) none) o5 o6 .none po fi (cA.foldl (dC w) (g,nd)).1 [])
theorem mO(its)(w):(mn its w).length≤5:=gw _ _
theorem Ci(h:j∈mn its w):j<5:=gE.mp (pe.mp h).1
theorem Qs(j w)(hj:j<5)(hw:w<5)(os):bR .NotEq (ag j) (ag w) os=some (!(bq j==bq w)):=by
 rcases d7 hj with rfl|rfl|rfl|rfl|rfl<;>rcases d7 hw with rfl|rfl|rfl|rfl|rfl<;>rfl
def lP(its:List Item)(w:Nat)(v:V):List (V×V):=match v with
 |.str s=>if vR its w s=true then[(.none,v)] else[]
 |_=>[]
theorem t7(its:List Item)(w:Nat):(ao.flatMap (lP its w)).map (·.2)=(mn its w).map ag:=by
 have:∀l:List Nat,((l.map ag).flatMap (lP its w)).map (·.2)=(l.filter fun j=>vR its w (bq j)).map ag:=by
  intro l
  induction l with
  |nil=>rfl
  |cons a l ih=>
   refine RW cV<|RW m4<|RW cz<|RW ih<|RW jP ?_;refine(?_:List.map _ (if vR its w (bq a)=true then _ else _)++_=_)
   split<;>rfl
 exact this (List.range 5)
section
variable{o0 o4 o5 o6:O}{sX:V}{po fi:Int}{g:Gp}{t:List O}{nd:Nat→List Nat}{os:List O}{line:Tx}{ws:List V}{w:Nat}{Q:Fl→St→Prop}{K:Rs→List O→Prop}
theorem nP:(HG o0 o4 o5 o6 sX po fi g t).length=22+t.length:=by
 unfold HG nr;simp only[List.length_cons,List.length_append,List.length_nil];lia
theorem Cc(x):HG o0 o4 o5 o6 sX po fi g t++x=HG o0 o4 o5 o6 sX po fi g (t++x):=by kernel_rfl
theorem yG:(HG o0 o4 o5 o6 sX po fi g t).take 22=HG o0 o4 o5 o6 sX po fi g []:=by kernel_rfl
theorem aY(n:Nat)(l:List Nat):ah n (l.map ag)=true:=by
 induction l with
 |nil=>rfl
 |cons a l ih=>refine(?_:(true&&ah n (l.map ag))=true);exact RW ih rfl
theorem z9(h0:aH 22 o0=true)(h4:aH 22 o4=true)(h5:aH 22 o5=true)(h6:aH 22 o6=true):dG 22 (HG o0 o4 o5 o6 .none po fi g [])=true:=by
 have e:dG 22 (HG o0 o4 o5 o6 .none po fi g [])=(aH 22 o0&&(aH 22 o4&&(aH 22 o5&&(aH 22 o6&&(ah 22 ((g.su 0).map ag)&&(ah 22 ((g.su 1).map ag)&&(ah 22 ((g.su 2).map ag)&&(ah 22 ((g.su 3).map ag)&&(ah 22 ((g.su 4).map ag)&&true))))))))):=by kernel_rfl
 exact RW e<|RW h0<|RW h4<|RW h5<|RW h6<|RW (aY _ _)<|RW (aY _ _)<|RW (aY _ _)<|RW (aY _ _)<|RW (aY _ _) rfl
theorem zL:aH 22 (.dict (eC nd) none)=true:=by
 have e:aH 22 (.dict (eC nd) none)=(ah 22 ((nd 0).map ag)&&(ah 22 ((nd 1).map ag)&&(ah 22 ((nd 2).map ag)&&(ah 22 ((nd 3).map ag)&&(ah 22 ((nd 4).map ag)&&true))))):=by kernel_rfl
 exact RW e<|RW (aY _ _)<|RW (aY _ _)<|RW (aY _ _)<|RW (aY _ _)<|RW (aY _ _) rfl
theorem Lq(i)(hi:i<5)(fs):(HG o0 (.dict (eC nd) none) o5 o6 sX po fi g t).set 4 (.dict (dJ (eC nd) (bq i) (.seq false ((nd i).map ag++fs.map ag))) none)=HG o0 (.dict (eC (oZ nd i (nd i++fs))) none) o5 o6 sX po fi g t:=by
 refine RS cz ?_;rcases d7 hi with rfl|rfl|rfl|rfl|rfl<;>kernel_rfl
theorem SI(Fh:Entry 188 4 zk)(Tr:Entry 888 10 (cZ Fp)):bt gW:=bP (l:=N7) ⟨Ml,Fh,Tr,L5,trivial⟩
theorem uC(hs:bt gW)(hx:ws=[x]∨ws=[x,y])(hw:w<5)(hr:listAt os r=some (iG (its.foldl eU [])))(hi:∀i∈its,i∈a3){Q}(hQ:∀l,Q (ao.flatMap (lP its w)) ⟨l4 r (.seq false (ag w::ws))++l,os⟩):(ay gW).co ⟨bS kc,10⟩ none (dX kc) (.Name (nm "name") ⟨962,26,962,30⟩) (dW kc) (.seq false ao) (0,0) 0 ⟨l4 r (.seq false (ag w::ws)),os⟩ [] Q:=by
 refine ci (sm:=gW) hs (C:=⟨bS kc,10⟩) (lP its w) (by decide) (by kernel_rfl) (by kernel_rfl) (br _ _ _) (by decide) (fun v _=>?_) (fun v hv ai R ca hR=>?_) hQ
 ·unfold lP
  split
  ·split<;>first|exact bI _|exact c9 _
  ·exact c9 _
 ·obtain⟨j,hj,rfl⟩:∃j,j<5∧v=ag j:=by
   unfold ao at hv;simp only[List.mem_cons,List.not_mem_nil,or_false] at hv;rcases hv with rfl|rfl|rfl|rfl|rfl
   ·exact aK 0 (by decide) rfl
   ·exact aK 1 (by decide) rfl
   ·exact aK 2 (by decide) rfl
   ·exact aK 3 (by decide) rfl
   ·exact aK 4 (by decide) rfl
  refine Eq.mp (U7 ws (ag w) x y os ai R hx r j)<|RW (Qs j w hj hw _) ?_;have hR:R _ (ai++if vR its w (bq j)=true then[(.none,ag j)] else[]):=hR
  unfold vR at hR;refine(?_:(if(!(bq j==bq w))=false then _ else _))
  cases q:(bq j==bq w) with
  |true=>
   refine RW (aB (show(!true)=false from rfl)) ?_;rw[q,if_neg (by refine RW Bool.not_true<|RW (Bool.false_and _) ?_;decide),List.append_nil] at hR
   exact hR
  |false=>
   refine RW (au (by decide)) ?_
   rw[q] at hR;refine⟨rfl,r,22,bq j,its.foldl eU [],rfl,hr,Er its [] _ (fun i m=>nomatch m) hi,?_,?_⟩
   ·rcases d7 hj with rfl|rfl|rfl|rfl|rfl<;>decide
   ·refine RW (wU _ _) ?_
    refine(?_:(if dj its (bq j)=false then _ else _))
    cases q2:dj its (bq j) with
    |false=>
     refine RW (aB rfl) ?_;rw[q2,if_neg (by decide),List.append_nil] at hR
     exact hR
    |true=>
     refine RW (au (by decide)) ?_
     rw[q2,if_pos (show(!false&&true)=true from rfl)] at hR;exact⟨ca,hR⟩
def SA(l:List (Str×V)):Prop:=l=[]∨∃a b c,l=[(nm "pattern",a),(nm "parts",b),(nm "found",c)]
theorem FS(hs:bt gW)(hx:ws=[x]∨ws=[x,y])(hw:w<5)(ht:t.length=1∨t.length=3)(hi:∀i∈its,i∈a3)(hl:its.length<ax)(mA:∀j,(g.su j).length+5<ax)(j7:(nd w).length+5<ax)(hv:SA l)
  (hQ:∀l ex,SA l→ex.length=2→Q .next ⟨f8 line (.seq false (ag w::ws))++l,HG o0 (.dict (eC (oZ nd w (nd w++mn its w))) none) o5 o6 .none po fi (mw g w (mn its w)) (t++ex)⟩):
  aI (M gW) (cx 932 10) E5 (.str (bu its)) ⟨f8 line (.seq false (ag w::ws))++l,HG o0 (.dict (eC nd) none) o5 o6 .none po fi g t⟩ fun st=>(M gW).ex (cx 932 10) iE st Q:=by
 have z3:(M gW).ex (cx 932 10) (iE.drop 2) ⟨iP line (bu its) (HG o0 (.dict (eC nd) none) o5 o6 .none po fi g t).length (.seq false (ag w::ws))++[(nm "found",.seq false ((mn its w).map ag))],HG o0 (.dict (eC nd) none) o5 o6 .none po fi g t++[.list (iG (its.foldl eU [])),.wrap "list.append" (HG o0 (.dict (eC nd) none) o5 o6 .none po fi g t).length]⟩ Q:=by
  generalize hr:(HG o0 (.dict (eC nd) none) o5 o6 .none po fi g t).length=r
  refine RW (Cc _)<|bY 39 2 (by kernel_rfl) (Eq.mp (q2 o0 _ o5 o6 po fi g _ line (bu its) ws (ag w) x y _ hx r _) ?_)
  refine⟨rfl,o0,_,o5,o6,po,fi,g,_,w,mn its w,rfl,by(refine RW (cc _) rfl),hw,fun j=>Ci,mO its w,mA,?_⟩
  refine aj (k:=fun st=>(M gW).ex (cx 932 10) (iE.drop 3) st Q) (Q:=Q) (bY 39 3 (by kernel_rfl) (Eq.mp (q3 o0 o5 o6 po fi _ _ line (bu its) ws x y _ hx r nd w hw _) (cE ?_ ?_ ?_)))
  ·have:=mO its w
   refine RW b4<|RW (bW _)<|RW (bW _) ?_;lia
  ·refine(?_:5<ax);decide
  ·refine RW (Lq w hw _)<|aj (k:=fun st=>(M gW).ex (cx 932 10) (iE.drop 4) st Q) (Q:=Q) ?_
   have e:∀st,Q .next st=(M gW).ex (cx 932 10) (iE.drop 4) st Q:=fun st=>by kernel_rfl
   exact Eq.mp (e _) (hQ [(nm "pattern",.str (bu its)),(nm "parts",.ref r),(nm "found",.seq false ((mn its w).map ag))] _ (.inr (UI _ _ _ rfl)) rfl)
 have z2:∀l,(l=[]∨∃u,l=[(nm "found",u)])→(M gW).ex (cx 932 10) (iE.drop 1) ⟨iP line (bu its) (HG o0 (.dict (eC nd) none) o5 o6 .none po fi g t).length (.seq false (ag w::ws))++l,HG o0 (.dict (eC nd) none) o5 o6 .none po fi g t++[.list (iG (its.foldl eU [])),.wrap "list.append" (HG o0 (.dict (eC nd) none) o5 o6 .none po fi g t).length]⟩ Q:=by
  intro l hl;refine bY 39 1 (by kernel_rfl) ?_
  have hr:listAt (HG o0 (.dict (eC nd) none) o5 o6 .none po fi g t++[.list (iG (its.foldl eU [])),.wrap "list.append" (HG o0 (.dict (eC nd) none) o5 o6 .none po fi g t).length]) (HG o0 (.dict (eC nd) none) o5 o6 .none po fi g t).length=some (iG (its.foldl eU [])):=by
   unfold listAt
   (refine RW (rA (bI _))<|RW (Nat.sub_self _) ?_);rfl
  have e:((ao.flatMap (lP its w)).map (·.2)).length≤ax:=by refine RW (t7 _ _)<|RW (bW _) ?_;exact bZ (mO its w) (by decide)
  have z:af (((ao.flatMap (lP its w)).map (·.2)).length≤ax) (bD (fun st=>(M gW).ex (cx 932 10) (iE.drop 2) st Q) Q .next ⟨iP line (bu its) (HG o0 (.dict (eC nd) none) o5 o6 .none po fi g t).length (.seq false (ag w::ws))++[(nm "found",.seq false ((ao.flatMap (lP its w)).map (·.2)))],HG o0 (.dict (eC nd) none) o5 o6 .none po fi g t++[.list (iG (its.foldl eU [])),.wrap "list.append" (HG o0 (.dict (eC nd) none) o5 o6 .none po fi g t).length]⟩):=by
   exact aC e<|RW (t7 _ _)<|aj (k:=fun st=>(M gW).ex (cx 932 10) (iE.drop 2) st Q) (Q:=Q) z3
  rcases hl with rfl|⟨u,rfl⟩
  ·exact RW (cc _)<|Eq.mp (q1 line (bu its) _ _ _ _) (uC hs hx hw hr hi fun l=>z)
  ·exact Eq.mp (U8 line (bu its) _ u _ _ _) (uC hs hx hw hr hi fun l=>z)
 have Fh:∀(k:V→List O→Prop),k (.ref (HG o0 (.dict (eC nd) none) o5 o6 .none po fi g t).length) (HG o0 (.dict (eC nd) none) o5 o6 .none po fi g t++[.list (iG (its.foldl eU [])),.wrap "list.append" (HG o0 (.dict (eC nd) none) o5 o6 .none po fi g t).length])→zk [.str (bu its),.ref 22,.str [46]] [] (HG o0 (.dict (eC nd) none) o5 o6 .none po fi g t) (iA k):=by
  intro k hk;exact⟨rfl,by refine RW nP ?_;lia,its,rfl,hi,hl,hk⟩
 rcases hv with rfl|⟨a,b,c,rfl⟩
 ·refine RW (cc _)<|Eq.mp (MP line _ _ _ _) (bo 39 1 ?_)
  refine Eq.mp (q0 line (bu its) _ _ _) (Fh _ ?_);exact aj (k:=fun st=>(M gW).ex (cx 932 10) (iE.drop 1) st Q) (Q:=Q) (z2 [] (.inl rfl))
 ·refine Eq.mp (Ij line _ a _ _ _ _) (bo 39 1 ?_)
  refine Eq.mp (U9 line (bu its) _ b c _ _) (Fh _ ?_);exact aj (k:=fun st=>(M gW).ex (cx 932 10) (iE.drop 1) st Q) (Q:=Q) (z2 _ (.inr ⟨c,rfl⟩))
theorem jm(w)(its)(x:Gp×(Nat→List Nat))(j):((dC w x its).1.su j).length≤(x.1.su j).length+5∧((dC w x its).2 j).length≤(x.2 j).length+5:=by
 have hf:=mO its w;constructor
 ·have:∀(js:List Nat) (g:Gp),((js.foldl (fQ w) g).su j).length≤(g.su j).length+js.length:=by
   intro js
   induction js with
   |nil=>exact fun g=>bI _
   |cons a js ih=>
    intro g;have h1:=ih (fQ w g a);have h2:=uv w g a j;refine RW qZ<|RW eR ?_;lia
  have:=this (mn its w) ⟨oZ x.1.np w (x.1.np w+(mn its w).length),x.1.su⟩;refine(?_:((mw x.1 w (mn its w)).su j).length≤_);unfold mw;exact bZ this (Nat.add_le_add_left hf _)
 ·refine(?_:(oZ x.2 w (x.2 w++mn its w) j).length≤_)
  unfold oZ;split
  ·rename_i h;subst h;exact RW b4 (Nat.add_le_add_left hf _)
  ·exact iL _ _
theorem HW(hs:bt gW){cA:List (List Item)}(h0:aH 22 o0=true)(h5:aH 22 o5=true)(h6:aH 22 o6=true)(hw:w<5)(hp:cA.length=1∨cA.length=2)(ht:Toks line ⟨0,.str [32],[],1⟩ (bq w::cA.map bu))(hi:∀its∈cA,(∀i∈its,i∈a3)∧its.length<ax)(mA:∀j,(g.su j).length+20<ax)(j7:∀j,(nd j).length+20<ax)
  (h:K (.ok .none) (HG o0 (.dict (eC (cA.foldl (dC w) (g,nd)).2) none) o5 o6 .none po fi (cA.foldl (dC w) (g,nd)).1 [])):(ay gW).call 11 (.con (.ref 932)) [.seq false ao,.str line,.ref 2,.ref 4] [] (HG o0 (.dict (eC nd) none) o5 o6 .none po fi g []) (iX (HG o0 (.dict (eC nd) none) o5 o6 .none po fi g []).length K):=by
 refine RW (show(HG o0 (.dict (eC nd) none) o5 o6 .none po fi g []).length=22 from nP)<|(bA hs 41).call (Eq.mp (KQ line _ _) (bo 39 1 (Eq.mp (P2 o0 _ o5 o6 po fi g line _) ⟨⟨rfl,rfl⟩,rfl,line,_,rfl,ht,?_,?_,?_⟩)))
 ·exact RW eR<|RW (bW _)<|bZ (show cA.length+1≤3 by lia) (by decide)
 ·have:∀(l:List Tx),ah 0 (l.map V.str)=true:=by
   intro l
   induction l with
   |nil=>rfl
   |cons a l ih=>refine(?_:(true&&_)=true);exact RW ih rfl
  exact this _
 let xs:Nat→Gp×(Nat→List Nat):=fun k=>(cA.take k).foldl (dC w) (g,nd);have hx:∀k j,((xs k).1.su j).length≤(g.su j).length+5*k∧((xs k).2 j).length≤(nd j).length+5*k:=by
  intro k
  induction k with
  |zero=>exact fun j=>⟨bI _,bI _⟩
  |succ k ih=>
   intro j;refine(?_:((List.foldl (dC w) (g,nd) (cA.take (k+1))).1.su j).length≤_∧((List.foldl (dC w) (g,nd) (cA.take (k+1))).2 j).length≤_);refine RW kY<|RW kb ?_;have h1:=ih j;cases cA[k]? with
   |none=>exact⟨bZ h1.1 (by lia),bZ h1.2 (by lia)⟩
   |some its=>
    have h2:=jm w its (xs k) j;exact⟨bZ h2.1 (by have:=h1.1;lia),bZ h2.2 (by have:=h1.2;lia)⟩
 have Rt:∃a b,cA.map (fun its=>V.str (bu its))=[a]∨cA.map (fun its=>V.str (bu its))=[a,b]:=by
  refine aA hp (fun hp=>?_) fun hp=>?_
  ·refine bf (List.length_eq_one_iff.mp hp) fun a aa=>?_;subst aa
   exact s7 _ (.none) (.inl rfl)
  ·obtain⟨a,b,rfl⟩:∃a b,cA=[a,b]:=by
    match cA,hp with
    |[a,b],_=>exact(s7 a b rfl)
   exact s7 _ _ (.inr rfl)
 refine vG Rt fun a b EW=>?_;rw[show(bq w::cA.map bu).map V.str=ag w::cA.map (fun its=>V.str (bu its)) by refine RW List.map_cons<|RW List.map_map ?_;rfl]
 refine(?_:bD (fun st=>(M gW).ex (cx 932 10) ((ac 932).drop 1) st (aN (iX 22 K))) (aN (iX 22 K)) .next ⟨nD line++[(nm "words",.seq false (ag w::cA.map fun its=>V.str (bu its))),(nm "star",.ref (HG o0 (.dict (eC nd) none) o5 o6 .none po fi g []).length)],HG o0 (.dict (eC nd) none) o5 o6 .none po fi g []++[.list [.str [42]]]⟩);refine RW (show(HG o0 (.dict (eC nd) none) o5 o6 .none po fi g []).length=22 from nP)<|RW (Cc _)<|aj (k:=fun st=>(M gW).ex (cx 932 10) ((ac 932).drop 1) st _) (Q:=aN _) (Eq.mp (P0 line _ _ a b _ _ EW) ?_);refine dp (sm:=gW) hs (vs:=cA.map fun its=>V.str (bu its)) (fun k st=>∃l ex,st=⟨f8 line (.seq false (ag w::cA.map fun its=>V.str (bu its)))++l,HG o0 (.dict (eC (xs k).2) none) o5 o6 .none po fi (xs k).1 (.list [.str [42]]::ex)⟩∧SA l∧ex.length=2*k) (by decide) (fun{k st} _=>rfl) (fun{k v st} R hv hI hR=>?_) (fun{st} hI=>?_) (jN [] [] (RW (cc _) rfl) (.inl rfl) rfl)
 ·rw[List.getElem?_map] at hv
  refine aq (eG.mp hv) fun its hk aa=>?_;subst aa;refine ez hI fun l ex aa hl hex=>?_;clear hI;subst aa;have ml:=(fY.mp hk).1;have AS:=hi its (db hk);refine FS hs EW hw (by refine RW eR<|RW hex ?_;lia) AS.1 AS.2 (fun j=>?_) ?_ hl fun l WK jr he=>?_
  ·have:=(hx k j).1;have:=mA j;lia
  ·have:=(hx k w).2;have:=j7 w;lia
  ·refine hR (jN l (ex++WK) ?_ jr (by refine RW b4<|RW hex<|RW he ?_;lia))
   refine(?_:_=(⟨_,HG o0 (.dict (eC (List.foldl (dC w) (g,nd) (cA.take (k+1))).2) none) o5 o6 .none po fi (List.foldl (dC w) (g,nd) (cA.take (k+1))).1 _⟩:St));exact RW kY<|RW hk<|RW (m5 _)<|RW kb rfl
 ·refine ez hI fun l ex aa hl hex=>?_;clear hI;subst aa
  refine RW (bW _) ?_;refine(?_:iX 22 K (.ok .none) _);have e:xs cA.length=cA.foldl (dC w) (g,nd):=by refine(?_:List.foldl _ _ (cA.take cA.length)=_);(refine RW ph rfl)
  refine RW e (cE rfl ?_ ?_)
  ·exact RW yG<|z9 h0 zL h5 h6
  ·exact RW yG h
end
theorem L4(hs:bt gW):Entry 932 11 J9:=oI (by decide) fun{args kws os K} h=>by
 obtain⟨rfl,o0,o5,o6,po,fi,g,nd,line,w,cA,rfl,rfl,⟨h0,h5,h6⟩,hw,hp,ht,hi,mA,j7,h⟩:=h;exact HW hs h0 h5 h6 hw hp ht hi mA j7 h
end
section
noncomputable def zj(n:Nat)(os:List O)(v:V):V:=match v with
 |.ref i=>if i<n then .ref i else match os[i]? with
  |some (.list vs)=>.seq false vs
  |_=>.ref i
 |v=>v
def y4(n:Nat)(os:List O)(v:V):V:=match v with
 |.seq k vs=>.seq k (vs.map (zj n os))
 |v=>v
def k9(n:Nat)(K:Rs→List O→Prop)(r:Rs)(os:List O):Prop:=match r with
 |.ok v=>dn n (y4 n os v)=true∧dG n (os.take n)=true∧K (.ok (y4 n os v)) (os.take n)
 |.exc _=>False
section
variable{w:World}{h:Heap}{ρ ρ':Rh}{os:List O}
set_option tactic.hygienic true in
theorem VR.zj(S:SR w ρ' os h)(hl:∀i a,i<ρ.l.length→ρ'.l[i]? =some a→ρ.l[i]? =some a)(hb:∀a,a∈ρ.all→a∈ρ'.all)(hn:∀i a,¬i<ρ.l.length→ρ'.l[i]? =some a→a∉ρ.all)(r:VR h ρ' v x)(q:dn ρ.l.length (zj ρ.l.length os v)=true):VR h ρ (zj ρ.l.length os v) x:=by
 cases r with
 |ref e=>
  rename_i i a;unfold Mine.zj at q ⊢;dsimp only at q ⊢;refine EM (i<ρ.l.length) (fun c=>?_) fun c=>?_
  ·exact RW (aB c)<|.ref (hl _ _ c e)
  ·rw[if_neg c] at q ⊢
   have hi:i<os.length:=RS S.len<|(fY.mp e).1;have eo:os[i]? =some os[i]:=dz hi;have R:=S.rep i a _ e eo;rw[eo] at q ⊢;cases hs:os[i] with
   |list vs=>
    rw[hs] at q R;dsimp only at q ⊢;refine ez R fun ws m h1 h2 h3=>?_;have h4:=aM.drop hl hb h3 q;exact .seq (hn i a c e) h1 h2 h4.1 h4.2
   |_=>rw[hs] at q;exact absurd (jy q) c
 |none=>exact .none
 |bool b=>exact .bool b
 |int i t=>exact .int i t
 |str s t l=>exact .str s t l
 |con _ e=>exact .con _ e
 |view e1 e2 e3 e4=>exact absurd q ck
 |mj e1 e2 e3 e4 e5=>exact .mj e1 (fun m=>e2 (hb _ m)) e3 e4 e5
 |seq e2 e3 e4 e5 e6=>exact VR.drop hl hb (.seq e2 e3 e4 e5 e6) q
set_option tactic.hygienic true in
theorem VR.y4(S:SR w ρ' os h)(hl:∀i a,i<ρ.l.length→ρ'.l[i]? =some a→ρ.l[i]? =some a)(hb:∀a,a∈ρ.all→a∈ρ'.all)(hn:∀i a,¬i<ρ.l.length→ρ'.l[i]? =some a→a∉ρ.all)(r:VR h ρ' v x)(q:dn ρ.l.length (y4 ρ.l.length os v)=true):VR h ρ (y4 ρ.l.length os v) x:=by
 refine EM (∃k vs,v=.seq k vs) (fun c=>?_) fun c=>?_
 ·refine vG c fun k vs aa=>?_;clear c;subst aa
  cases r with
  |seq e2 e3 e4 e5 e6=>
   rename_i ws a m;refine .seq (fun m=>e2 (hb _ m)) e3 e4 (RW (bW _) e5) fun i u y q1 q2=>?_;rw[List.getElem?_map] at q1;refine aq (eG.mp q1) fun u' hu aa=>?_;subst aa;exact VR.zj S hl hb hn (e6 i u' y hu q2) (ig (i:=i) q (by(refine RW pi<|RW hu ?_);rfl))
 ·have e:Mine.y4 ρ.l.length os v=v:=by
   induction v using V.casesOn with
   |seq k vs=>exact absurd ⟨k,vs,rfl⟩ c
   |_=>rfl
  rw[e] at q ⊢;exact VR.drop hl hb r q
end
theorem eE.y4{K}(S0:∀a∈ρ.all,∃o,s.heap.get? a=some o)(h:eE w ρ s (k9 ρ.l.length K) z s'):eE w ρ s K z s':=by
 rcases z with e|(_|_|_|x)
 ·refine AL h fun c cn ρ' hK _=>?_;exact hK.elim
 ·exact h.elim
 ·exact h.elim
 ·exact h.elim
 ·refine mU h fun v cn ρ' aa P r=>gq aa fun h1 h2 hK=>?_
  have hl:∀i a,i<ρ.l.length→ρ'.l[i]? =some a→ρ.l[i]? =some a:=fun i a hi e=>by
   refine RW (dz hi)<|RS e ?_;exact(cg P.pre (dz hi)).symm
  have ha:∀a,a∈ρ.all→a∈ρ'.all:=fun a m=>(b9.mp m).elim (fun m=>gu _ (P.pre.1.subset m)) fun m=>cY _ (by rw[P.pre.2];exact m)
  have S:=P.sr;have hn:∀i a,¬i<ρ.l.length→ρ'.l[i]? =some a→a∉ρ.all:=fun i a hi e m=>by
   have hm:a∉ρ.l:=fun m=>by
    refine bf (List.getElem?_of_mem m) fun j hj=>?_;have RF:=cg P.pre hj;have Ud:=(fY.mp hj).1;have:=(List.getElem?_inj (fY.mp e).1 S.nodup).mp (e.trans RF.symm);lia
   refine bf (S0 a m) fun o ho=>?_;rw[P.fresh a (List.mem_of_getElem? e) hm] at ho;exact aJ ho
  have a9:ρ.l.length≤cn.length:=RS S.len P.pre.1.length_le;refine AJ _ _ ρ hK ⟨Rh.le_refl ρ,⟨S.aL,(List.length_take_of_le a9).symm,P.pre.1.sublist.nodup S.nodup,fun a m=>S.high a (P.pre.1.subset m),fun a m=>S.vr a (by rw[P.pre.2];exact m),fun i a o e1 e2=>?_⟩,P.keep,P.os,P.gens,fun a m q=>absurd m q,P.alive,P.fz⟩ (VR.y4 S hl ha hn r h1)
  have hi:i<ρ.l.length:=(fY.mp e1).1;refine(S.rep i a o (cg P.pre e1) ?_).drop hl ha (jc h2 e2);refine RS e2<|RW (List.getElem?_take_of_lt hi) rfl
theorem Ak(ha:gc (.ref a)=true)(h:∀{args kws os K},f args kws os K→(ay sm).call k (.con (.ref a)) args kws os (k9 os.length K)):Entry a k f:=
 fun hf hR S hF ra rk=>by
  have z:=h hf;rw[eM] at z;exact iJ (z _ _ _ _ _ _ _ hR S hF (.con _ ha) ra rk) fun z s' q=>eE.y4 (fun a m=>S.there m) (RW S.len q)
end
section
def HV(o0 o4 o5 o6:O)(po fi:Int)(g:Gp)(rv:List V)(t:List O):List O:=HG o0 o4 o5 o6 (.ref 22) po fi g (.list rv::t)
abbrev HR(o0 o4 o5 o6:O)(po fi:Int)(g:Gp)(rq:List Nat)(t:List O):List O:=HV o0 o4 o5 o6 po fi g (rq.map ag) t
def cf(g:Gp)(i:Nat)(v:Int):Gp:=⟨oZ g.np i v,g.su⟩
def Kn:List Stmt:=jA (a5 (ac 122) 3)
def JN:Expr:=vy (a5 (ac 122) 3)
def jE(ns:List V):List (Str×V):=[(nm "self",.ref 2),(nm "result",.seq true ns),(nm "n2i",.ref 3)]
section
variable(o0 o4 o5 o6:O)(po fi:Int)(g:Gp)(rq:List Nat)(t:List O)(os:List O)(l:List (Str×V))(Q:Fl→St→Prop)(K:Rs→List O→Prop)(ns:List V)(u v:V)
theorem K6:(if decide (fi<po)=true then K (.ok (.bool (decide (fi<po)))) (HR o0 o4 o5 o6 po fi g rq t) else K (.ok (.bool (!(rq.map ag).isEmpty))) (HR o0 o4 o5 o6 po fi g rq t))=(aT bi 41).call 2 (.con (.ref 129)) [.ref 2] [] (HR o0 o4 o5 o6 po fi g rq t) K:=by kernel_rfl
theorem K7:((ay bi).fo (cx 122 1) JN Kn (.seq true (rq.map ag)) (0,0) 0 ⟨jE (rq.map ag),HR o0 o4 o5 o6 po fi g rq t⟩ (bD (fun st=>(M bi).ex (cx 122 1) ((ac 122).drop 4) st (aN K)) (aN K)))=(aT bi 41).call 2 (.con (.ref 122)) [.ref 2] [] (HR o0 o4 o5 o6 po fi g rq t) K:=by kernel_rfl
theorem MU(k):k ⟨jE ns++[(nm "node",v)],os⟩=aI (M bi) (cx 122 1) JN v ⟨jE ns,os⟩ k:=by kernel_rfl
theorem Ip(k):k ⟨jE ns++[(nm "node",v)],os⟩=aI (M bi) (cx 122 1) JN v ⟨jE ns++[(nm "node",u)],os⟩ k:=by kernel_rfl
theorem FX(i:Nat)(hi:i<5):Q .next ⟨jE ns++[(nm "node",ag i)],HR o0 o4 o5 o6 po fi (cf g i (-1)) rq t⟩=(M bi).ex (cx 122 1) Kn ⟨jE ns++[(nm "node",ag i)],HR o0 o4 o5 o6 po fi g rq t⟩ Q:=by
 rcases d7 hi with rfl|rfl|rfl|rfl|rfl<;>kernel_rfl
theorem Mq:K (.ok (.seq true ns)) (HR o0 o4 o5 o6 (po+ns.length) fi g [] t)=(M bi).ex (cx 122 1) ((ac 122).drop 4) ⟨jE ns++l,HR o0 o4 o5 o6 po fi g rq t⟩ (aN K):=by kernel_rfl
end
def m8:List Stmt:=jA (a5 (ac 143) 2)
def JM:Expr:=vy (a5 (ac 143) 2)
def xV:List Stmt:=jA (a5 m8 4)
def xD:Expr:=vy (a5 m8 4)
def kh(ns:List V):List (Str×V):=[(nm "self",.ref 2),(nm "nodes",.seq true ns),(nm "n2i",.ref 3)]
def dg(ns:List V)(i:Nat):List (Str×V):=kh ns++[(nm "node",ag i),(nm "nodeinfo",.ref (3*i+8)),(nm "stat",.int (-1))]
section
variable(o0 o4 o5 o6:O)(po fi:Int)(g:Gp)(rv:List V)(t:List O)(os:List O)(l:List (Str×V))(Q:Fl→St→Prop)(K:Rs→List O→Prop)(ns:List V)(u v w x:V)
theorem K5:(ns.length+1≤ax∧(ay bi).fo (cx 143 1) JM m8 (.seq true ns) (0,0) 0 ⟨kh ns,HV o0 o4 o5 o6 po fi g rv t⟩ (a8 (aN K)))=(aT bi 41).call 2 (.con (.ref 143)) (.ref 2::ns) [] (HV o0 o4 o5 o6 po fi g rv t) K:=by kernel_rfl
theorem MT(k):k ⟨kh ns++[(nm "node",v)],os⟩=aI (M bi) (cx 143 1) JM v ⟨kh ns,os⟩ k:=by kernel_rfl
theorem Io(k):k ⟨kh ns++(nm "node",v)::l,os⟩=aI (M bi) (cx 143 1) JM v ⟨kh ns++(nm "node",u)::l,os⟩ k:=by kernel_rfl
theorem Qg(i:Nat)(hi:i<5):Q .next ⟨dg ns i,HV o0 o4 o5 o6 po fi (cf (cf g i (-1)) i (-2)) rv t⟩=(M bi).ex (cx 143 1) (m8.take 4) ⟨kh ns++[(nm "node",ag i)],HV o0 o4 o5 o6 po fi (cf g i (-1)) rv t⟩ Q:=by
 rcases d7 hi with rfl|rfl|rfl|rfl|rfl<;>kernel_rfl
theorem Qf(i:Nat)(hi:i<5):Q .next ⟨dg ns i++l,HV o0 o4 o5 o6 po fi (cf (cf g i (-1)) i (-2)) rv t⟩=(M bi).ex (cx 143 1) (m8.take 4) ⟨kh ns++(nm "node",ag i)::(nm "nodeinfo",u)::(nm "stat",v)::l,HV o0 o4 o5 o6 po fi (cf g i (-1)) rv t⟩ Q:=by
 rcases d7 hi with rfl|rfl|rfl|rfl|rfl<;>kernel_rfl
theorem Qe(i)(hi:i<5):(ay bi).fo (cx 143 1) xD xV (.ref (3*i+9)) (0,0) 0 ⟨dg ns i++l,HV o0 o4 o5 o6 po fi g rv t⟩ (a8 Q)=(M bi).ex (cx 143 1) (a6 m8 4) ⟨dg ns i++l,HV o0 o4 o5 o6 po fi g rv t⟩ Q:=by
 rcases d7 hi with rfl|rfl|rfl|rfl|rfl<;>kernel_rfl
theorem Qd(i):Q .next ⟨dg ns i++l,HV o0 o4 o5 o6 po (fi+1) g rv t⟩=(M bi).ex (cx 143 1) (m8.drop 5) ⟨dg ns i++l,HV o0 o4 o5 o6 po fi g rv t⟩ Q:=by kernel_rfl
theorem Q6(i)(k):k ⟨dg ns i++[(nm "successor",v)],os⟩=aI (M bi) (cx 143 1) xD v ⟨dg ns i,os⟩ k:=by kernel_rfl
theorem MZ(i)(k):k ⟨dg ns i++(nm "successor",v)::l,os⟩=aI (M bi) (cx 143 1) xD v ⟨dg ns i++(nm "successor",u)::l,os⟩ k:=by kernel_rfl
theorem QB(i j:Nat)(hj:j<5):(am (bR .Eq (.int (g.np j-1)) (.int 0) os) fun c=>if c=true then rv.length<ax∧Q .next ⟨dg ns i++[(nm "successor",ag j),(nm "successor_info",.ref (3*j+8))],HV o0 o4 o5 o6 po fi (cf g j (g.np j-1)) (rv++[ag j]) t⟩ else Q .next ⟨dg ns i++[(nm "successor",ag j),(nm "successor_info",.ref (3*j+8))],HV o0 o4 o5 o6 po fi (cf g j (g.np j-1)) rv t⟩)=(M bi).ex (cx 143 1) xV ⟨dg ns i++[(nm "successor",ag j)],HV o0 o4 o5 o6 po fi g rv t⟩ Q:=by
 rcases d7 hj with rfl|rfl|rfl|rfl|rfl<;>kernel_rfl
theorem LG(i j:Nat)(hj:j<5):(am (bR .Eq (.int (g.np j-1)) (.int 0) os) fun c=>if c=true then rv.length<ax∧Q .next ⟨dg ns i++[(nm "successor",ag j),(nm "successor_info",.ref (3*j+8))],HV o0 o4 o5 o6 po fi (cf g j (g.np j-1)) (rv++[ag j]) t⟩ else Q .next ⟨dg ns i++[(nm "successor",ag j),(nm "successor_info",.ref (3*j+8))],HV o0 o4 o5 o6 po fi (cf g j (g.np j-1)) rv t⟩)=(M bi).ex (cx 143 1) xV ⟨dg ns i++[(nm "successor",ag j),(nm "successor_info",u)],HV o0 o4 o5 o6 po fi g rv t⟩ Q:=by
 rcases d7 hj with rfl|rfl|rfl|rfl|rfl<;>kernel_rfl
end
end
section
def HD(o0 o4 o5 o6:O)(po fi:Int)(g:Gp)(rv sv iv:List V)(xs:List Tx)(es:List (Tx×V))(ep:Option Nat)(r:List O):List O:=HV o0 o4 o5 o6 po fi g rv (.list sv::.list iv::.set xs::.dict es ep::r)
def lN:List (Str×V):=[(nm "self",.ref 2),(nm "n2i",.ref 3),(nm "stack",.ref 23),(nm "itstack",.ref 24),(nm "seen",.ref 25),(nm "node2stacki",.ref 26)]
abbrev cy(i:Nat):List (Str×V):=lN++[(nm "node",ag i)]
def Fu:List Stmt:=jA (a5 (ac 150) 5)
def JL:Expr:=vy (a5 (ac 150) 5)
def y8:Stmt:=a5 Fu 1
def ix:List Stmt:=jA y8
def qX:Stmt:=a5 ix 1
def ko:List Stmt:=jA qX
section
variable(o0 o4 o5 o6:O)(po fi:Int)(g:Gp)(rv sv iv:List V)(xs:List Tx)(es:List (Tx×V))(ep:Option Nat)(r t:List O)(os:List O)(l:List (Str×V))(Q:Fl→St→Prop)(K:Rs→List O→Prop)(u v w x:V)
theorem K4:((ay bi).fo (cx 150 2) JL Fu (.ref 3) (5,6) 0 ⟨lN,HD o0 o4 o5 o6 po fi g rv [] [] [] [] (some 0) []⟩ (bD (fun st=>(M bi).ex (cx 150 2) (a6 (ac 150) 6) st (aN K)) (aN K)))=(aT bi 41).call 3 (.con (.ref 150)) [.ref 2] [] (HV o0 o4 o5 o6 po fi g rv []) K:=by kernel_rfl
theorem Mp(k):K (.ok .none) k.os=(M bi).ex (cx 150 2) (a6 (ac 150) 6) k (aN K):=by kernel_rfl
theorem MS(k):k ⟨lN++[(nm "node",v)],os⟩=aI (M bi) (cx 150 2) JL v ⟨lN,os⟩ k:=by kernel_rfl
theorem Im(k):k ⟨lN++[(nm "node",v)],os⟩=aI (M bi) (cx 150 2) JL v ⟨lN++[(nm "node",u)],os⟩ k:=by kernel_rfl
theorem b0_150(i):(if(xs.any fun e=>e==bq i)=true then Q .cont ⟨cy i,HD o0 o4 o5 o6 po fi g rv sv iv xs es ep r⟩ else(ay bi).wh (cx 150 2) (dY y8) ix [] ⟨cy i,HD o0 o4 o5 o6 po fi g rv sv iv xs es ep r⟩ (a8 Q))=(M bi).ex (cx 150 2) Fu ⟨cy i,HD o0 o4 o5 o6 po fi g rv sv iv xs es ep r⟩ Q:=by kernel_rfl
theorem O3(st):(M bi).ex (cx 150 2) ix st (bJ (fun st=>(ay bi).wh (cx 150 2) (dY y8) ix [] st Q) Q)=AF (M bi) (cx 150 2) (dY y8) ix [] st Q:=by kernel_rfl
def vV:List Stmt:=EN (a5 ix 0)
theorem Qc(i):(if(xs.any fun e=>e==bq i)=true then(if(es.any fun e=>e.1==bq i)=true then(am (bn (HD o0 o4 o5 o6 po fi g rv sv iv xs es ep r) (.ref 26) (ag i)) fun k=>am (ek (HD o0 o4 o5 o6 po fi g rv sv iv xs es ep r) (.ref 23) k .none) fun v=>am (Ba .Add v (.seq false [ag i])) fun z=>pr z.2 (Q (.ret z.1) ⟨cy i,HD o0 o4 o5 o6 po fi g rv sv iv xs es ep r⟩)) else Q .next ⟨cy i,HD o0 o4 o5 o6 po fi g rv sv iv xs es ep r⟩) else(aT bi 39).ex (cx 150 2) vV ⟨cy i,HD o0 o4 o5 o6 po fi g rv sv iv xs es ep r⟩ (a8 Q))=(M bi).ex (cx 150 2) (ix.take 1) ⟨cy i,HD o0 o4 o5 o6 po fi g rv sv iv xs es ep r⟩ Q:=by kernel_rfl
theorem Qb(i):(if(xs.any fun e=>e==bq i)=true then Q .next ⟨cy i,HD o0 o4 o5 o6 po fi g rv sv iv xs es ep r⟩ else xs.length<5∧Q .next ⟨cy i,HD o0 o4 o5 o6 po fi g rv sv iv (xs++[bq i]) es ep r⟩)=(aT bi 39).ex (cx 150 2) (vV.take 1) ⟨cy i,HD o0 o4 o5 o6 po fi g rv sv iv xs es ep r⟩ Q:=by kernel_rfl
theorem Qa(i)(hi:i<5):(kq (aT bi 36) 2 (.ref (HD o0 o4 o5 o6 po fi g rv sv iv xs es ep r).length) (tx "__next__") (HD o0 o4 o5 o6 po fi g rv sv iv xs es ep (r++[.iter (3*i+9) 0])) fun v os=>af (dE os (.ref 24)=some 1) (gl 24 v os fun _ os=>Q .next ⟨cy i,os⟩))=(aT bi 39).ex (cx 150 2) (a6 vV 1) ⟨cy i,HD o0 o4 o5 o6 po fi g rv sv iv xs es ep r⟩ Q:=by
 rcases d7 hi with rfl|rfl|rfl|rfl|rfl<;>kernel_rfl
theorem P5(i):(es.length<ax∧sv.length<ax∧Q .next ⟨cy i,HD o0 o4 o5 o6 po fi g rv (sv++[ag i]) iv xs (dJ es (bq i) (.int sv.length)) (EY es (bq i) ep) r⟩)=(aT bi 39).ex (cx 150 2) (vV.drop 2) ⟨cy i,HD o0 o4 o5 o6 po fi g rv sv iv xs es ep r⟩ Q:=by kernel_rfl
theorem Cf:HD o0 o4 o5 o6 po fi g rv sv iv xs es ep r++t=HD o0 o4 o5 o6 po fi g rv sv iv xs es ep (r++t):=by kernel_rfl
theorem LJ:(HD o0 o4 o5 o6 po fi g rv sv iv xs es ep r).length=27+r.length:=by
 unfold HD HV;refine RW nP ?_;simp only[List.length_cons];lia
theorem Lc:dE (HD o0 o4 o5 o6 po fi g rv sv iv xs es ep r) (.ref 24)=some 1:=by kernel_rfl
theorem Q7(v)(K:V→List O→Prop):(iv.length<ax∧K .none (HD o0 o4 o5 o6 po fi g rv sv (iv++[v]) xs es ep r))=gl 24 v (HD o0 o4 o5 o6 po fi g rv sv iv xs es ep r) K:=by kernel_rfl
theorem P4(i)(hi:i<5)(h:iv.length<ax)(hQ:Q .next ⟨cy i,HD o0 o4 o5 o6 po fi g rv sv (iv++[.ref (28+r.length)]) xs es ep (r++[.iter (3*i+9) 0,.wrap "list_iterator.__next__" (27+r.length)])⟩):(aT bi 39).ex (cx 150 2) (a6 vV 1) ⟨cy i,HD o0 o4 o5 o6 po fi g rv sv iv xs es ep r⟩ Q:=by
 refine Eq.mp (Qa o0 o4 o5 o6 po fi g rv sv iv xs es ep r Q i hi) ?_;have e:∀(os:List O) (n l k:Nat) (K:V→List O→Prop),n=os.length→K (.ref (n+1)) (os++[O.iter l k,.wrap "list_iterator.__next__" n])→kq (aT bi 36) 2 (.ref n) (tx "__next__") (os++[O.iter l k]) K:=by
  intro os n l k K hn hK;subst hn;unfold kq;refine(?_:am (os++[O.iter l k])[os.length]? _);refine RW (rA (bI _))<|RW (Nat.sub_self _) ?_;refine(?_:K (.ref (os++[O.iter l k]).length) (os++[O.iter l k]++[.wrap "list_iterator.__next__" os.length]))
  (rewrite [List.append_assoc];refine RW b4 ?_)
  exact hK
 rw[←Cf];refine e _ _ _ _ _ rfl ?_;rw[Cf,LJ];refine aC (Lc o0 o4 o5 o6 po fi g rv sv iv xs es ep _) (Eq.mp (Q7 o0 o4 o5 o6 po fi g rv sv iv xs es ep _ _ _) ⟨h,?_⟩);refine RW (show 27+r.length+1=28+r.length by exact(Nat.add_right_comm ..)) ?_
 exact hQ
theorem P9(st):(ay bi).wh (cx 150 2) (dY qX) ko (EN qX) st (a8 Q)=(M bi).ex (cx 150 2) (ix.drop 1) st Q:=by kernel_rfl
theorem Kq(i):(if(!sv.isEmpty)=true then(M bi).ex (cx 150 2) ko ⟨cy i,HD o0 o4 o5 o6 po fi g rv sv iv xs es ep r⟩ (bJ (fun st=>(ay bi).wh (cx 150 2) (dY qX) ko (EN qX) st Q) Q) else Q .brk ⟨cy i,HD o0 o4 o5 o6 po fi g rv sv iv xs es ep r⟩)=AF (M bi) (cx 150 2) (dY qX) ko (EN qX) ⟨cy i,HD o0 o4 o5 o6 po fi g rv sv iv xs es ep r⟩ Q:=by kernel_rfl
def OP:List Stmt:=match a5 ko 0 with
 |.Try _ [.ExceptHandler _ _ b _] _ _ _=>b
 |_=>[]
theorem P8(i):(am (bn (HD o0 o4 o5 o6 po fi g rv sv iv xs es ep r) (.ref 24) (.int (-1))) fun v=>nC (HD o0 o4 o5 o6 po fi g rv sv iv xs es ep r) v fun t l j=>am (listAt (HD o0 o4 o5 o6 po fi g rv sv iv xs es ep r) l) fun vs=>match vs[j]? with
 |some v=>Q .brk ⟨lN++[(nm "node",v)],(HD o0 o4 o5 o6 po fi g rv sv iv xs es ep r).set t (.iter l (j+1))⟩
 |none=>(aT bi 39).ex (cx 150 0) OP ⟨cy i,(HD o0 o4 o5 o6 po fi g rv sv iv xs es ep r).set t .dead⟩ (wd Q))=tj (aT bi 39) (cx 150 2) (a5 ko 0) ⟨cy i,HD o0 o4 o5 o6 po fi g rv sv iv xs es ep r⟩ Q:=by kernel_rfl
theorem P7(st):tj (aT bi 39) (cx 150 2) (a5 ko 0) st (a8 Q)=(M bi).ex (cx 150 2) ko st Q:=by kernel_rfl
theorem P6(i):(am sv.getLast? fun v=>ef v fun x=>am (delD es x) fun es=>am iv.getLast? fun _=>Q .next ⟨cy i,HD o0 o4 o5 o6 po fi g rv sv.dropLast iv.dropLast xs es none r⟩)=(aT bi 39).ex (cx 150 0) OP ⟨cy i,HD o0 o4 o5 o6 po fi g rv sv iv xs es ep r⟩ Q:=by kernel_rfl
end
end
section
structure Fm where
 p:Nat
 n:Nat
 k:Nat
def kr(su:Nat→List Nat):Prop:=∃C:List Nat,C≠[]∧∀y∈C,y<5∧∃x∈C,y∈su x
def nB(su:Nat→List Nat)(b:List Nat):Prop:=∀(j:Nat) (x:Nat),b[j]? =some x→∀v∈su x,v∈b.take j
def Ch(su:Nat→List Nat)(b:List Nat):Option Nat→List Fm→Prop
 |_,[]=>True
 |c,e::r=>((∀j v,j<e.k→(su e.n)[j]? =some v→v∈b∨c=some v)∧(∀v,c=some v→v∈su e.n))∧Ch su b (some e.n) r
variable{su:Nat→List Nat}{b:List Nat}
theorem Ch.weak(h:Ch su b c s)(hb:∀x∈b,x∈b')(hc:∀v,c=some v→v∈b'∨c'=some v)(y2:∀v,c'=some v→c=some v):Ch su b' c' s:=by
 induction s generalizing c c' with
 |nil=>trivial
 |cons e r ih=>
  refine⟨⟨fun j v hj hv=>?_,fun v hv=>h.1.2 v (y2 v hv)⟩,ih h.2 (fun v hv=>.inr hv) fun v hv=>hv⟩;refine aA (h.1.1 j v hj hv) (fun q=>?_) fun q=>?_
  ·exact .inl (hb v q)
  ·exact hc v q
theorem Ch.pred:∀{a:List Fm} {e:Fm} {r:List Fm},e.n=i→Ch su b (some c) (a++e::r)→∀y∈c::a.map (·.n),∃x∈a.map (·.n)++[i],y∈su x
 |[],e,r,he,h,y,hy=>by
  rw[List.map_nil,List.mem_singleton] at hy;exact aK i cw (RW hy<|RS he<|h.1.2 c rfl)
 |f::a,e,r,he,h,y,hy=>by
  rw[List.map_cons] at hy ⊢;rcases cW.mp hy with rfl|hy
  ·exact aK f.n cw (h.1.2 _ rfl)
  ·exact aq (Ch.pred (a:=a) he h.2 y hy) fun x hx hs=>(aK x (dZ _ hx) hs)
theorem Ch.WN(h:Ch su b (some i) s)(hm:i∈s.map (·.n))(h5:∀e∈s,e.n<5):kr su:=by
 refine aq (eA.mp hm) fun e he hi=>?_;refine vG (List.append_of_mem he) fun a r aa=>?_;subst aa;refine aK (a.map (·.n)++[i]) (by simp) (fun y hy=>⟨?_,?_⟩)
 ·refine aA (b9.mp hy) (fun q=>?_) fun q=>?_
  ·refine aq (eA.mp q) fun f hf aa=>?_;subst aa
   exact h5 f (gu _ hf)
  ·exact RW (dw.mp q)<|RS hi<|h5 e he
 ·refine Ch.pred hi h y<|aA (b9.mp hy) (fun q=>?_) fun q=>?_
  ·exact dZ _ q
  ·exact RW (dw.mp q) cw
structure qV(su:Nat→List Nat)(sn:List Nat)(s:List Fm)(b:List Nat)(c:Option Nat)(q:Nat):Prop where
 seen:∀x,x∈sn↔x∈b∨x∈s.map (·.n)
 lt:∀x∈sn,x<5
 sY:sn.Nodup
 nn:(s.map (·.n)).Nodup
 pp:(s.map (·.p)).Nodup
 pq:∀e∈s,e.p<q
 top:nB su b
 ch:Ch su b c s
 len:sn.length=q
noncomputable def xq(su:Nat→List Nat)(sn:List Nat)(s:List Fm):Nat:=(((List.range 5).filter fun j=>!sn.contains j).map fun j=>(su j).length+2).sum+(s.map fun e=>(su e.n).length-e.k+1).sum
theorem G1(h5:i<5)(hi:i∉sn):xq su (sn++[i]) (⟨q,i,0⟩::s)+1=xq su sn s:=by
 have:∀L:List Nat,L.Nodup→((L.filter fun j=>!(sn++[i]).contains j).map fun j=>(su j).length+2).sum+(if i∈L then(su i).length+2 else 0)=((L.filter fun j=>!sn.contains j).map fun j=>(su j).length+2).sum:=by
  intro L hL
  induction L with
  |nil=>rfl
  |cons a L ih=>
   have ih:=ih (pf.mp hL).2;have ha:=(pf.mp hL).1;refine RW jP<|RW jP<|EM (i=a) (fun e=>?_) fun e=>?_
   ·subst e
    rw[if_neg ha] at ih;have h1:sn.contains i=false:=by((refine RS (Bool.not_eq_true _) ?_);rewrite [List.contains_iff_mem]);exact hi
    have h2:(sn++[i]).contains i=true:=by rw[List.contains_iff_mem];exact cY _ cw
    refine RW h1<|RW h2<|RW (aB cw)<|RW (au (by decide))<|RW (aB (by decide))<|RW cV<|RW pd ?_
    lia
   ·have h2:(sn++[i]).contains a=sn.contains a:=by
     rw[Bool.eq_iff_iff,List.contains_iff_mem,List.contains_iff_mem,List.mem_append,List.mem_singleton];exact⟨fun h=>h.resolve_right fun q=>e q.symm,.inl⟩
    have h3:(if i∈a::L then(su i).length+2 else 0)=(if i∈L then(su i).length+2 else 0):=by
     refine EM (i∈L) (fun m=>?_) fun m=>?_
     ·refine RW (aB m)<|RW (aB (dZ _ m)) rfl
     ·((refine RW (au m) ?_);rewrite [if_neg fun q=>m ((List.mem_cons.mp q).resolve_left e)];rfl)
    refine RW h2<|RW h3 ?_;split
    ·refine RW cV<|RW cV<|RW pd<|RW pd ?_;lia
    ·exact ih
 have:=this (List.range 5) List.nodup_range;rw[if_pos (List.mem_range.mpr h5)] at this;unfold xq;refine RW cV<|RW pd ?_;refine(?_:_+((su i).length-0+1+_)+1=_);lia
theorem qV.new(D:qV su sn s b (some i) q)(h5:i<5)(hi:i∉sn):qV su (sn++[i]) (⟨q,i,0⟩::s) b none (q+1) where
 seen:=fun x=>by
  (rewrite [List.mem_append];rewrite [List.mem_singleton];rewrite [D.seen];refine RW cV ?_;rewrite [List.mem_cons])
  constructor
  ·rintro((h|h)|h)
   ·exact .inl h
   ·exact .inr (.inr h)
   ·exact .inr (.inl h)
  ·rintro(h|h|h)
   ·exact .inl (.inl h)
   ·exact .inr h
   ·exact .inl (.inr h)
 lt:=fun x hx=>(b9.mp hx).elim (D.lt x) fun h=>RW (dw.mp h) h5
 sY:=by
  rw[List.nodup_append];exact cE D.sY (by simp) (fun a ha c hc=>RW (dw.mp hc)<|fun e=>hi (e▸ha))
 nn:=by
  ((refine RW cV ?_);rewrite [List.nodup_cons])
  exact⟨fun h=>hi ((D.seen i).mpr (.inr h)),D.nn⟩
 pp:=by
  ((refine RW cV ?_);rewrite [List.nodup_cons])
  refine⟨fun h=>?_,D.pp⟩;refine aq (eA.mp h) fun e he hq=>?_;have hq:e.p=q:=hq;have:=D.pq e he;lia
 pq:=fun e he=>(cW.mp he).elim (fun h=>RW h<|Nat.lt_succ_self q) fun h=>Nat.lt_succ_of_lt (D.pq e h)
 top:=D.top
 ch:=⟨⟨fun j v hj=>absurd hj (q8 j),fun v hv=>(nomatch hv)⟩,D.ch⟩
 len:=RW b4<|RW D.len rfl
theorem qV.old(D:qV su sn s b (some i) q)(hi:i∈sn)(hs:i∉s.map (·.n)):qV su sn s b none q:=
 {D with ch:=D.ch.weak (fun _ h=>h) (fun v hv=>.inl (by cases a7 hv;exact((D.seen i).mp hi).resolve_right hs)) fun v hv=>nomatch hv}
theorem qV.next(D:qV su sn (e::s) b none q)(hv:(su e.n)[e.k]? =some v):qV su sn (⟨e.p,e.n,e.k+1⟩::s) b (some v) q:=
 {seen:=D.seen,lt:=D.lt,sY:=D.sY,nn:=D.nn,pp:=D.pp,pq:=fun f hf=>(cW.mp hf).elim (fun h=>RW h<|D.pq e cw) fun h=>D.pq f (dZ _ h),top:=D.top,len:=D.len
  ch:=⟨⟨fun j w hj hw=>by
   refine aA (Nat.lt_or_ge j e.k) (fun h=>?_) fun h=>?_
   ·exact .inl ((D.ch.1.1 j w h hw).resolve_right fun q=>nomatch q)
   ·have:j=e.k:=by have hj:j<e.k+1:=hj;lia
    subst this;have hw:(su e.n)[e.k]? =some w:=hw;rw[hv] at hw;cases a7 hw;exact .inr rfl,fun w hw=>by cases a7 hw;exact db hv⟩,D.ch.2⟩}
theorem qV.done(D:qV su sn (e::s) b none q)(hv:(su e.n)[e.k]? =none):qV su sn s (b++[e.n]) none q where
 seen:=fun x=>by
  (rewrite [D.seen];refine RW cV ?_;rewrite [List.mem_cons];rewrite [List.mem_append];rewrite [List.mem_singleton])
  constructor
  ·rintro(h|h|h)
   ·exact .inl (.inl h)
   ·exact .inl (.inr h)
   ·exact .inr h
  ·rintro((h|h)|h)
   ·exact .inl h
   ·exact .inr (.inl h)
   ·exact .inr (.inr h)
 lt:=D.lt
 sY:=D.sY
 nn:=(pf.mp D.nn).2
 pp:=(pf.mp D.pp).2
 pq:=fun f hf=>D.pq f (dZ _ hf)
 len:=D.len
 top:=fun j x hj v hx=>by
  refine aA (Nat.lt_or_ge j b.length) (fun h=>?_) fun h=>?_
  ·rw[List.getElem?_append_left h] at hj
   exact RW (List.take_append_of_le_length (fL h))<|D.top j x hj v hx
  ·have Ud:=(fY.mp hj).1
   rw[List.length_append,List.length_singleton] at Ud;have:j=b.length:=by lia
   subst this;rw[List.getElem?_append_right (Nat.le_refl _),Nat.sub_self] at hj;cases a7 hj;refine RW List.take_left<|bf (List.getElem?_of_mem hx) fun k hk=>?_;refine(D.ch.1.1 k v ?_ hk).resolve_right fun q=>nomatch q;have:=(fY.mp hk).1;have:=List.getElem?_eq_none_iff.mp hv;lia
 ch:=D.ch.2.weak (fun x h=>gu _ h) (fun v hv=>.inl (by cases a7 hv;exact cY _ cw)) fun v hv=>nomatch hv
end
section
theorem fU(hi:i<5)(hj:j<5):(bq i==bq j)=(i==j):=by
 rcases d7 hi with rfl|rfl|rfl|rfl|rfl<;>rcases d7 hj with rfl|rfl|rfl|rfl|rfl<;>rfl
theorem fk:∀(n:Nat) (l:List Nat),l.Nodup→(∀x∈l,x<n)→l.length≤n
 |0,[],_,_=>bI _
 |0,a::_,_,h=>absurd (h a cw) (q8 a)
 |n+1,l,hn,h=>by
  refine EM (n∈l) (fun c=>?_) fun c=>?_
  ·have:=fk n (l.erase n) (hn.erase n) fun x hx=>by
    rw[hn.mem_erase_iff] at hx;have:=h x hx.2;have:=hx.1;lia
   rw[List.length_erase_of_mem c] at this;lia
  ·have:=fk n l hn fun x hx=>by
    have:=h x hx;have:x≠n:=fun e=>c (e▸hx);lia
   exact Nat.le_succ_of_le this
noncomputable def qS:Nat→List Nat→List (Tx×V)
 |_,[]=>[]
 |k,n::l=>(bq n,.int k)::qS (k+1) l
theorem wm(hi:i<5):∀(k:Nat) (l:List Nat),(∀x∈l,x<5)→((qS k l).any fun e=>e.1==bq i)=l.contains i
 |_,[],_=>rfl
 |k,n::l,h=>by
  refine(?_:((bq n==bq i)||(qS (k+1) l).any _)=_);refine RW (wm hi (k+1) l fun x hx=>h x (dZ _ hx))<|RW (fU (h n cw) hi)<|RW List.contains_cons ?_
  congr 1
  rw[Bool.eq_iff_iff,beq_iff_eq,beq_iff_eq];exact⟨Eq.symm,Eq.symm⟩
theorem Cj(hi:i<5):∀(k:Nat) (l:List Nat),(∀x∈l,x<5)→i∉l→dJ (qS k l) (bq i) (.int ((k+l.length:Nat):Int))=qS k (l++[i])
 |_,[],_,_=>rfl
 |k,n::l,h,hn=>by
  have NK:n≠i:=fun e=>hn (e▸cw);refine(?_:(if(bq n==bq i)=true then _ else(bq n,V.int k)::dJ (qS (k+1) l) (bq i) _)=_)
  refine RW (fU (h n cw) hi)<|RW (au (by rw[beq_iff_eq];exact NK)) ?_
  have:=Cj hi (k+1) l (fun x hx=>h x (dZ _ hx)) fun m=>hn (dZ _ m);refine RW eR<|RW (show k+(l.length+1)=k+1+l.length by lia)<|RW this ?_;rfl
theorem yN(hi:i<5):∀(k:Nat) (l:List Nat),(∀x∈l,x<5)→i∈l→∃j:Nat,((qS k l).find? fun e=>e.1==bq i).map (·.2)=some (.int j)
 |k,n::l,h,hm=>by
  refine EM (n=i) (fun c=>?_) fun c=>?_
  ·refine⟨k,?_⟩
   refine(?_:(List.find? _ ((bq n,V.int k)::qS (k+1) l)).map _=_)
   (refine RW (List.find?_cons_of_pos (by exact RW c<|dT _)) ?_);rfl
  ·refine bf (yN hi (k+1) l (fun x hx=>h x (dZ _ hx)) ((cW.mp hm).resolve_left fun e=>c e.symm)) fun j hj=>⟨j,?_⟩
   refine(?_:(List.find? _ ((bq n,V.int k)::qS (k+1) l)).map _=_)
   (refine RW (List.find?_cons_of_neg (by refine(?_:¬(bq n==bq i)=true);((refine RW (fU (h n cw) hi) ?_);rewrite [beq_iff_eq]);exact c)) ?_)
   exact hj
theorem Ck(hi:i<5):∀(k:Nat) (l:List Nat),(∀x∈l,x<5)→i∉l→(qS k (l++[i])).filter (fun e=>!(e.1==bq i))=qS k l
 |k,[],_,_=>by
  refine(?_:List.filter _ [(bq i,V.int k)]=[])
  (refine RW jP<|RW (au (by refine(?_:¬(!(bq i==bq i))=true);refine RW (dT _) ?_;decide)) ?_);rfl
 |k,n::l,h,hn=>by
  have NK:n≠i:=fun e=>hn (e▸cw);refine(?_:List.filter _ ((bq n,V.int k)::qS (k+1) (l++[i]))=_)
  ((refine RW jP ?_);rewrite [if_pos (by refine(?_:(!(bq n==bq i))=true);(refine RW (fU (h n List.mem_cons_self) hi)<|RW (show(n==i)=false from by((refine RS (Bool.not_eq_true _) ?_);rewrite [beq_iff_eq]);exact NK) ?_);rfl)];rewrite [Ck hi (k+1) l (fun x hx=>h x (List.mem_cons_of_mem _ hx)) fun m=>hn (List.mem_cons_of_mem _ m)])
  rfl
theorem LX(hi:i<5)(h:∀x∈l,x<5)(hn:i∉l):delD (qS 0 (l++[i])) (bq i)=some (qS 0 l):=by
 unfold delD;refine RW (wm hi 0 (l++[i]) fun x hx=>(b9.mp hx).elim (h x) fun q=>by exact RW (dw.mp q) hi)<|RW (aB (by rw[List.contains_iff_mem];exact cY _ cw))<|RW (Ck hi 0 l h hn) rfl
theorem nV(hi:i<5){l:List Nat}(h:∀x∈l,x<5):((l.map bq).any fun e=>e==bq i)=l.contains i:=by
 induction l with
 |nil=>rfl
 |cons n l ih=>
  refine RW cV<|RW lR<|RW (ih fun x hx=>h x (dZ _ hx))<|RW (fU (h n cw) hi)<|RW List.contains_cons ?_
  congr 1
  rw[Bool.eq_iff_iff,beq_iff_eq,beq_iff_eq];exact⟨Eq.symm,Eq.symm⟩
theorem aw{α:Type}(a:α)(k:α→Prop):am (some a) k=k a:=rfl
def sW(s:List Fm):List V:=s.reverse.map fun e=>ag e.n
noncomputable def AN(s:List Fm):List V:=s.reverse.map fun e=>.ref (2*e.p+28)
def y6(s:List Fm):List (Tx×V):=qS 0 (s.reverse.map (·.n))
def RO(r:List O)(s:List Fm)(q:Nat):Prop:=r.length=2*q∧∀e∈s,r[2*e.p]? =some (.iter (3*e.n+9) e.k)∧r[2*e.p+1]? =some (.wrap "list_iterator.__next__" (2*e.p+27))
theorem RO.new(h:RO r s q)(hp:∀e∈s,e.p<q):RO (r++[.iter (3*i+9) 0,.wrap "list_iterator.__next__" (27+r.length)]) (⟨q,i,0⟩::s) (q+1):=by
 refine⟨by((refine RW b4 ?_);rewrite [h.1]);refine(?_:2*q+2=_);lia,fun e he=>?_⟩
 rcases cW.mp he with rfl|he
 ·refine(?_:(r++_)[2*q]? =_∧(r++_)[2*q+1]? =_)
  (rewrite [List.getElem?_append_right (by rw[h.1];exact Nat.le_refl _)];rewrite [List.getElem?_append_right (by rw[h.1];exact(Nat.le_add_right _ _))];rewrite [h.1];refine RW (Nat.sub_self _)<|RW (Nat.add_sub_cancel_left _ _)<|RW (show 27+2*q=2*q+27 by exact(Nat.add_comm ..)) ?_)
  exact⟨rfl,rfl⟩
 ·have:=hp e he
  rw[List.getElem?_append_left (by rw[h.1];lia),List.getElem?_append_left (by rw[h.1];lia)]
  exact h.2 e he
theorem RO.set(h:RO r (e::s) q)(hp:((e::s).map (·.p)).Nodup)(o:O):RO (r.set (2*e.p) o) s q:=by
 refine⟨by exact RW List.length_set<|h.1,fun f hf=>?_⟩
 have o7:e.p≠f.p:=fun q=>(pf.mp hp).1 (by show e.p∈_;exact RW q<|rp hf)
 refine RW (List.getElem?_set_ne (by lia))<|RW (List.getElem?_set_ne (by lia)) ?_
 exact h.2 f (dZ _ hf)
theorem RO.next(h:RO r (e::s) q)(hp:((e::s).map (·.p)).Nodup):RO (r.set (2*e.p) (.iter (3*e.n+9) (e.k+1))) (⟨e.p,e.n,e.k+1⟩::s) q:=by
 have h1:=RO.set h hp (.iter (3*e.n+9) (e.k+1));refine⟨h1.1,fun f hf=>?_⟩;rcases cW.mp hf with rfl|hf
 ·have h0:=h.2 e cw
  have jL:=(fY.mp h0.1).1;refine⟨List.getElem?_set_self jL,?_⟩;refine(?_:(r.set (2*e.p) _)[2*e.p+1]? =_);refine RW (List.getElem?_set_ne (by lia)) ?_
  exact h0.2
 ·exact h1.2 f hf
section
variable{o0 o4 o5 o6:O}{po fi:Int}{g:Gp}{rv:List V}{Q:Fl→St→Prop}
def EO(o0 o4 o5 o6:O)(po fi:Int)(g:Gp)(rv:List V)(i:Nat)(sn:List Nat)(s:List Fm)(ep:Option Nat)(r:List O):St:=⟨cy i,HD o0 o4 o5 o6 po fi g rv (sW s) (AN s) (sn.map bq) (y6 s) ep r⟩
theorem LI(q)(o):(HD o0 o4 o5 o6 po fi g rv sv iv xs es ep r).set (q+27) o=HD o0 o4 o5 o6 po fi g rv sv iv xs es ep (r.set q o):=by kernel_rfl
theorem Ce(q):(HD o0 o4 o5 o6 po fi g rv sv iv xs es ep r)[q+27]? =r[q]?:=by kernel_rfl
theorem hd_24:bn (HD o0 o4 o5 o6 po fi g rv sv iv xs es ep r) (.ref 24) (.int (-1))=II iv (.int (-1)):=by kernel_rfl
theorem hd_26(i):bn (HD o0 o4 o5 o6 po fi g rv sv iv xs es ep r) (.ref 26) (ag i)=(es.find? fun e=>e.1==bq i).map (·.2):=by kernel_rfl
theorem hd_23(k):ek (HD o0 o4 o5 o6 po fi g rv sv iv xs es ep r) (.ref 23) k .none=(vW sv k .none).map (V.seq false):=by kernel_rfl
theorem QJ(n)(hn:n<5):listAt (HD o0 o4 o5 o6 po fi g rv sv iv xs es ep r) (3*n+9)=some ((g.su n).map ag):=by
 rcases d7 hn with rfl|rfl|rfl|rfl|rfl<;>kernel_rfl
theorem Ii(x):II (l++[x]) (.int (-1))=some x:=by
 refine(?_:(fS (-1) (l++[x]).length).bind (fun k=>(l++[x])[k]?)=_);unfold fS;refine RW (au (by decide))<|RW (aB (by refine RW b4<|RW List.length_singleton ?_;lia)) ?_
 show(l++[x])[_]? =_
 (refine RW (show((-1:Int)+((l++[x]).length:Nat)).toNat=l.length by refine RW b4<|RW List.length_singleton ?_;lia)<|RW (rA (bI _))<|RW (Nat.sub_self _) ?_);rfl
abbrev p0(Q:Fl→St→Prop):Fl→St→Prop:=bJ (fun st=>(ay bi).wh (cx 150 2) (dY y8) ix [] st Q) Q
abbrev Jn(st:St)(Q:Fl→St→Prop):Prop:=(ay bi).wh (cx 150 2) (dY qX) ko (EN qX) st (a8 (p0 Q))
theorem yH{sn}{s}{b}{ep}(D:qV g.su sn s b (some i) q)(hi:i<5)(hr:RO r s q)
  (oY:∀s8 s' q' sZ r',qV g.su s8 s' b none q'→RO r' s' q'→xq g.su s8 s'≤xq g.su sn s→(∀x∈sn,x∈s8)→i∈s8→Jn (EO o0 o4 o5 o6 po fi g rv i s8 s' sZ r') Q)
  (hC:kr g.su→∀vs st,vs≠[]→(∀v∈vs,∃n,v=ag n)→(∃sv iv xs es ep r,st=⟨cy i,HD o0 o4 o5 o6 po fi g rv sv iv xs es ep r⟩)→Q (.ret (.seq false vs)) st):
  (ay bi).wh (cx 150 2) (dY y8) ix [] (EO o0 o4 o5 o6 po fi g rv i sn s ep r) Q:=by
 have Sg:∀x∈s.map (·.n),x<5:=fun x hx=>D.lt x ((D.seen x).mpr (.inr hx));have J0:∀x∈s.reverse.map (·.n),x<5:=fun x hx=>Sg x (by rw[List.map_reverse,List.mem_reverse] at hx;exact hx)
 have Rz:i∈s.reverse.map (·.n)↔i∈s.map (·.n):=by((refine RW List.map_reverse ?_);rewrite [List.mem_reverse];rfl)
 have Rw:s.length≤5:=by have:=fk 5 _ D.nn Sg;rwa[bW] at this
 refine(bV jt 40).wh (Eq.mp (O3 Q _) (bo 39 1 (Eq.mp (Qc o0 o4 o5 o6 po fi g rv _ _ _ _ _ _ _ i) ?_)))
 ((refine RW (nV hi D.lt) ?_);rewrite [show(y6 s).any (fun e=>e.1==bq i)=(s.reverse.map (·.n)).contains i from wm hi 0 _ J0])
 have later:∀s8 s' q' sZ r',qV g.su s8 s' b none q'→RO r' s' q'→xq g.su s8 s'≤xq g.su sn s→(∀x∈sn,x∈s8)→i∈s8→bD (fun st=>(M bi).ex (cx 150 2) (ix.drop 1) st (p0 Q)) (p0 Q) .next (EO o0 o4 o5 o6 po fi g rv i s8 s' sZ r'):=fun s8 s' q' sZ r' D' ES h1 h2 h3=>
  aj (k:=fun st=>(M bi).ex (cx 150 2) (ix.drop 1) st (p0 Q)) (Q:=p0 Q) (Eq.mp (P9 (p0 Q) _) (oY s8 s' q' sZ r' D' ES h1 h2 h3))
 refine EM (i∈sn) (fun c=>?_) fun c=>?_
 ·refine RW (aB (rt.mpr c))<|EM (i∈s.map (·.n)) (fun c2=>?_) fun c2=>?_
  ·refine RW (aB (rt.mpr (Rz.mpr c2)))<|RW (hd_26 _)<|bf (yN hi 0 _ J0 (Rz.mpr c2)) fun j hj=>?_
   rw[show((y6 s).find? fun e=>e.1==bq i).map (·.2)=some (.int j) from hj];refine RW (aw _ _)<|RW (hd_23 _) ?_;refine(?_:((((sW s).drop _).take _)++[ag i]).length≤ax∧Q (.ret (.seq false _)) _);refine⟨?_,hC (D.ch.WN c2 fun e he=>Sg _ (rp he)) _ _ (by simp) (fun v hv=>?_) (WX _ _ _ _ _ _ rfl)⟩
   refine RW b4<|RW List.length_take<|RW List.length_drop ?_;have:(sW s).length≤5:=by unfold sW;exact RW (bW _)<|RW tf Rw
   exact bZ (show _≤6 by simp only[List.length_singleton];lia) (by decide)
   refine aA (b9.mp hv) (fun h=>?_) fun h=>?_
   ·have h:=List.mem_of_mem_drop (List.mem_of_mem_take h)
    unfold sW at h;refine aq (eA.mp h) fun e _ aa=>?_;subst aa;exact⟨_,rfl⟩
   ·exact⟨i,dw.mp h⟩
  ·rw[if_neg fun h=>c2 (Rz.mp (List.contains_iff_mem.mp h))]
   exact later sn s q ep r (D.old c c2) hr (bI _) (fun _ h=>h) c
 ·rw[if_neg fun h=>c (List.contains_iff_mem.mp h)]
  have c2:i∉s.map (·.n):=fun h=>c ((D.seen i).mpr (.inr h));have D':=D.new hi c;have hl:=G1 (su:=g.su) (s:=s) (q:=q) hi c;have Rv:sn.length<5:=by
   have:=fk 5 _ D'.sY D'.lt;rw[List.length_append] at this;exact this
  refine bo 38 1 (Eq.mp (Qb o0 o4 o5 o6 po fi g rv _ _ _ _ _ _ _ i) ?_)
  ((refine RW (nV hi D.lt) ?_);rewrite [if_neg fun h=>c (List.contains_iff_mem.mp h)];refine RW (i6 _) ?_)
  refine⟨by exact RW (bW _)<|Rv,?_⟩
  refine aj (k:=fun st=>(aT bi 39).ex (cx 150 2) (vV.drop 1) st _) (Q:=_) (bY 38 1 (by kernel_rfl) (P4 o0 o4 o5 o6 po fi g rv _ _ _ _ _ _ _ i hi ?_ ?_))
  ·unfold AN;refine RW (bW _)<|RW tf ?_;exact dy Rw (by decide)
  refine aj (k:=fun st=>(aT bi 39).ex (cx 150 2) (vV.drop 2) st _) (Q:=_) (Eq.mp (P5 o0 o4 o5 o6 po fi g rv _ _ _ _ _ _ _ i) (cE ?_ ?_ ?_))
  ·have:∀(k:Nat) (l:List Nat),(qS k l).length=l.length:=by
    intro k l
    induction l generalizing k with
    |nil=>rfl
    |cons a l ih=>refine(?_:(qS (k+1) l).length+1=_);exact RW (ih _) rfl
   refine(?_:(qS 0 _).length<ax);refine RW (this _ _)<|RW (bW _)<|RW tf ?_;exact dy Rw (by decide)
  ·unfold sW;refine RW (bW _)<|RW tf ?_;exact dy Rw (by decide)
  ·have z:=later (sn++[i]) (⟨q,i,0⟩::s) (q+1) (EY (y6 s) (bq i) ep) _ D' (RO.new hr D.pq) (by lia) (fun x h=>gu _ h) (cY _ cw)
   have e1:sW (⟨q,i,0⟩::s)=sW s++[ag i]:=by unfold sW;exact RW nk<|RW cz rfl
   have e2:AN (⟨q,i,0⟩::s)=AN s++[.ref (28+r.length)]:=by unfold AN;((refine RW nk<|RW cz ?_);rewrite [hr.1];refine RW (Nat.add_comm 28 _) ?_);rfl
   have e3:y6 (⟨q,i,0⟩::s)=dJ (y6 s) (bq i) (.int ((sW s).length:Nat)):=by
    have:=Cj hi 0 _ J0 fun h=>c2 (Rz.mp h);rw[Nat.zero_add,List.length_map,List.length_reverse] at this;unfold y6 sW;exact RW nk<|RW cz<|RW (bW _)<|RW tf<|RW this rfl
   have e4:(sn++[i]).map bq=sn.map bq++[bq i]:=RW cz rfl;unfold EO at z;rw[e1,e2,e3,e4] at z;exact z
theorem FA{os:List O}{w t l j:Nat}{K:Nat→Nat→Nat→Prop}(h1:os[w]? =some (.wrap "list_iterator.__next__" t))(h2:os[t]? =some (.iter l j))(h:K t l j):nC os (.ref w) K:=by
 refine(?_:am os[w]? _);exact RW h1<|RW (aw _ _)<|aC rfl<|RW h2<|RW (aw _ _) h
theorem DL{R2:List Nat}
  (hN:∀sn b q i ep r,qV g.su sn [] b none q→RO r [] q→(∀x∈R2,x∈sn)→Q .next (EO o0 o4 o5 o6 po fi g rv i sn [] ep r))
  (hC:kr g.su→∀vs i st,vs≠[]→(∀v∈vs,∃n,v=ag n)→(∃sv iv xs es ep r,st=⟨cy i,HD o0 o4 o5 o6 po fi g rv sv iv xs es ep r⟩)→Q (.ret (.seq false vs)) st) (h5:∀n v,n<5→v∈g.su n→v<5):
  ∀(m:Nat) sn s b q i ep r,qV g.su sn s b none q→RO r s q→xq g.su sn s<m→(∀x∈R2,x∈sn)→Jn (EO o0 o4 o5 o6 po fi g rv i sn s ep r) Q:=by
 intro m
 induction m with
 |zero=>exact fun sn s b q i ep r D hr hm=>absurd hm (q8 _)
 |succ m ih=>
  intro sn s b q i ep r D hr hm h0;refine(bV jt 40).wh (Eq.mp (Kq o0 o4 o5 o6 po fi g rv _ _ _ _ _ _ _ i) ?_)
  induction s using List.casesOn with
  |nil=>exact hN sn b q i ep r D hr h0
  |cons e s=>
   have he:=hr.2 e cw;have Sl:e.n<5:=D.lt e.n ((D.seen e.n).mpr (.inr cw));have e1:sW (e::s)=sW s++[ag e.n]:=by unfold sW;exact RW nk<|RW cz rfl
   have e2:AN (e::s)=AN s++[.ref (2*e.p+28)]:=by unfold AN;exact RW nk<|RW cz rfl
   have e3:y6 (e::s)=qS 0 (s.reverse.map (·.n)++[e.n]):=by unfold y6;exact RW nk<|RW cz rfl
   rewrite [if_pos (by rewrite [e1];cases sW s<;>rfl)]
   refine Eq.mp (P7 _ _) (Eq.mp (P8 o0 o4 o5 o6 po fi g rv _ _ _ _ _ _ _ i) ?_);refine RW hd_24<|RW e2<|RW (Ii _)<|RW (aw _ _)<|FA (t:=2*e.p+27) (l:=3*e.n+9) (j:=e.k) ?_ ?_ ?_
   ·refine RW (show 2*e.p+28=(2*e.p+1)+27 by exact rfl)<|RW (Ce _) ?_;exact he.2
   ·exact RW (Ce _) he.1
   refine RW (QJ _ Sl)<|RW (aw _ _)<|RW (LI _ _)<|RW pi ?_;cases hv:(g.su e.n)[e.k]? with
   |some v=>
    have D':=D.next hv;have ES:=RO.next hr D.pp;have jL:=(fY.mp hv).1;have hl:xq g.su sn (⟨e.p,e.n,e.k+1⟩::s)+1=xq g.su sn (e::s):=by
     unfold xq;refine RW cV<|RW cV<|RW pd<|RW pd ?_;refine(?_:_+((g.su e.n).length-(e.k+1)+1+_)+1=_);lia
    have z:=yH (o0:=o0) (o4:=o4) (o5:=o5) (o6:=o6) (po:=po) (fi:=fi) (rv:=rv) (ep:=ep) (Q:=Q) D' (h5 e.n v Sl (db hv)) ES (fun s8 s' q' sZ r' D2 VY EF VV _=>ih s8 s' _ q' v sZ r' D2 VY (by lia) fun x hx=>VV x (h0 x hx)) (fun c vs st xt xu jq=>hC c vs v st xt xu jq)
    unfold EO at z;rw[show sW (⟨e.p,e.n,e.k+1⟩::s)=sW (e::s) by refine RW e1 ?_;unfold sW;refine RW List.reverse_cons<|RW List.map_append ?_;rfl,show AN (⟨e.p,e.n,e.k+1⟩::s)=AN s++[.ref (2*e.p+28)] by unfold AN;refine RW List.reverse_cons<|RW List.map_append ?_;rfl,show y6 (⟨e.p,e.n,e.k+1⟩::s)=y6 (e::s) by refine RW e3 ?_;unfold y6;refine RW List.reverse_cons<|RW List.map_append ?_;rfl] at z
    exact z
   |none=>
    have D':=D.done hv;have ES:=RO.set hr D.pp .dead;have hl:xq g.su sn s<xq g.su sn (e::s):=by
     unfold xq;refine RW cV<|RW pd ?_;lia
    have z:=ih sn s _ q i none _ D' ES (by lia) h0
    refine Eq.mp (P6 o0 o4 o5 o6 po fi g rv _ _ _ _ ep _ _ i)<|RW e1<|RW List.getLast?_concat<|RW (aw _ _) ?_;refine(?_:am (delD (y6 (e::s)) (bq e.n)) _)
    ((refine RW e3 ?_);rewrite [LX Sl (fun x hx=>D.lt x ((D.seen x).mpr (.inr (List.mem_cons_of_mem _ (by rw[List.map_reverse,List.mem_reverse] at hx;exact hx))))) (fun h=>(List.nodup_cons.mp D.nn).1 (by rw[List.map_reverse,List.mem_reverse] at h;exact h))];(refine RW (aw _ _)<|RW List.getLast?_concat<|RW (aw _ _)<|RW List.dropLast_concat<|RW List.dropLast_concat ?_))
    exact z
end
end
section
def Kf:bO:=fun args kws os K=>kws=[]∧args=[.ref 2]∧∃o0 o4 o5 o6 po fi g rq,os=HR o0 o4 o5 o6 po fi g rq []∧(aH 23 o0=true∧aH 23 o4=true∧aH 23 o5=true∧aH 23 o6=true)∧(∀n v,n<5→v∈g.su n→v<5)∧
 ((∃b,nB g.su b∧∀x,x<5→x∈b)→K (.ok .none) os)∧(kr g.su→∀vs,vs≠[]→K (.ok (.seq false vs)) os)
section
variable{o0 o4 o5 o6:O}{po fi:Int}{g:Gp}{rq:List Nat}{K:Rs→List O→Prop}
theorem mJ:(HD o0 o4 o5 o6 po fi g rv sv iv xs es ep r).take 23=HV o0 o4 o5 o6 po fi g rv []:=by kernel_rfl
theorem qw(h0:aH 23 o0=true)(h4:aH 23 o4=true)(h5:aH 23 o5=true)(h6:aH 23 o6=true):dG 23 (HR o0 o4 o5 o6 po fi g rq [])=true:=by
 have e:dG 23 (HR o0 o4 o5 o6 po fi g rq [])=(aH 23 o0&&(aH 23 o4&&(aH 23 o5&&(aH 23 o6&&(ah 23 ((g.su 0).map ag)&&(ah 23 ((g.su 1).map ag)&&(ah 23 ((g.su 2).map ag)&&(ah 23 ((g.su 3).map ag)&&(ah 23 ((g.su 4).map ag)&&(ah 23 (rq.map ag)&&true)))))))))):=by kernel_rfl
 exact RW e<|RW h0<|RW h4<|RW h5<|RW h6<|RW (aY _ _)<|RW (aY _ _)<|RW (aY _ _)<|RW (aY _ _)<|RW (aY _ _)<|RW (aY _ _) rfl
theorem Hf:Gives (HD o0 o4 o5 o6 po fi g rv sv iv xs es ep r) (.ref 3) (5,6) ao:=fun k=>by
 match k with
 |0=>kernel_rfl
 |1=>kernel_rfl
 |2=>kernel_rfl
 |3=>kernel_rfl
 |4=>kernel_rfl
 |k+5=>kernel_rfl
theorem H8(h0:aH 23 o0=true)(h4:aH 23 o4=true)(h5:aH 23 o5=true)(h6:aH 23 o6=true)(mA:∀n v,n<5→v∈g.su n→v<5)
  (hN:(∃b,nB g.su b∧∀x,x<5→x∈b)→K (.ok .none) (HR o0 o4 o5 o6 po fi g rq [])) (hC:kr g.su→∀vs,vs≠[]→K (.ok (.seq false vs)) (HR o0 o4 o5 o6 po fi g rq [])):(ay bi).call 3 (.con (.ref 150)) [.ref 2] [] (HR o0 o4 o5 o6 po fi g rq []) (iX 23 K):=by
 refine(bA jt 41).call (Eq.mp (K4 o0 o4 o5 o6 po fi g _ _) ?_);have OK:kr g.su→∀vs,vs≠[]→(∀v∈vs,∃n,v=ag n)→∀sv iv xs es ep r,iX 23 K (.ok (.seq false vs)) (HD o0 o4 o5 o6 po fi g (rq.map ag) sv iv xs es ep r):=by
  intro c vs hv xu sv iv xs es ep r;refine cE ?_ ?_ ?_
  ·refine(?_:ah 23 vs=true)
   clear hv
   induction vs with
   |nil=>rfl
   |cons a vs ih=>
    refine bf (xu a cw) fun n aa=>?_;subst aa;refine(?_:(true&&ah 23 vs)=true);exact RW (ih fun v hv=>xu v (dZ _ hv)) rfl
  ·exact RW mJ<|qw h0 h4 h5 h6
  ·exact RW mJ<|hC c vs hv
 refine dp (sm:=bi) jt (vs:=ao) (fun k st=>∃sn b q ep r l,st=⟨lN++l,HD o0 o4 o5 o6 po fi g (rq.map ag) [] [] (sn.map bq) [] ep r⟩∧(l=[]∨∃u,l=[(nm "node",u)])∧qV g.su sn [] b none q∧RO r [] q∧∀j,j<k→j∈sn) (by decide) (fun{k st} hI=>by(refine W8 hI fun _ _ _ _ _ _ aa _=>?_;clear hI;subst aa);exact Hf k) (fun{k v st} R hv hI hR=>?_) (fun{st} hI=>?_) (UD [] [] 0 (some 0) [] [] rfl (.inl rfl) ⟨fun x=>by simp,fun x hx=>(nomatch hx),jx,jx,jx,fun e he=>(nomatch he),fun j x hj=>(nomatch hj),trivial,rfl⟩ ⟨rfl,fun e he=>(nomatch he)⟩ (fun j hj=>absurd hj (q8 j)))
 ·refine UM hI fun sn b q ep r l aa hl D hr hk=>?_;clear hI;subst aa
  have Sn:k<5:=(fY.mp hv).1;have VM:v=ag k:=by
   rcases d7 Sn with rfl|rfl|rfl|rfl|rfl<;>exact(a7 hv).symm
  subst VM;have Um:∀sn b q i ep r,qV g.su sn [] b none q→RO r [] q→(∀j,j<k+1→j∈sn)→R (EO o0 o4 o5 o6 po fi g (rq.map ag) i sn [] ep r):=fun sn b q i ep r D hr hj=>hR (UD sn b q ep r _ rfl (.inr ⟨_,rfl⟩) D hr hj);have z:(M bi).ex (cx 150 2) Fu (EO o0 o4 o5 o6 po fi g (rq.map ag) k sn [] ep r) (bJ R (bD (fun st=>(M bi).ex (cx 150 2) (a6 (ac 150) 6) st (aN (iX 23 K))) (aN (iX 23 K)))):=by
   refine Eq.mp (b0_150 o0 o4 o5 o6 po fi g (rq.map ag) [] [] (sn.map bq) [] ep r _ k)<|RW (nV Sn D.lt)<|EM (k∈sn) (fun c=>?_) fun c=>?_
   ·exact RW (aB (rt.mpr c))<|Um sn b q k ep r D hr fun j hj=>(Nat.lt_succ_iff_lt_or_eq.mp hj).elim (hk j) fun e=>e▸c
   ·rw[if_neg fun h=>c (List.contains_iff_mem.mp h)]
    refine yH (s:=[]) (b:=b) {D with ch:=trivial} Sn hr (fun s8 s' q' sZ r' D' ES _ hs hm=>?_) fun c vs st xt xu jq=>?_
    ·refine DL (R2:=k::sn) (fun sn b q i ep r D hr Rv=>?_) (fun c vs i st xt xu jq=>?_) mA _ s8 s' b q' k sZ r' D' ES (Nat.lt_succ_self _) fun x hx=>(cW.mp hx).elim (fun e=>e▸hm) (hs x)
     ·exact Um sn b q i ep r D hr fun j hj=>(Nat.lt_succ_iff_lt_or_eq.mp hj).elim (fun h=>Rv j (dZ _ (hk j h))) fun e=>e▸Rv k cw
     ·refine UN jq fun sv iv xs es ep r aa=>?_;clear jq;subst aa
      exact OK c vs xt xu sv iv xs es ep r
    ·refine UN jq fun sv iv xs es ep r aa=>?_;clear jq;subst aa
     exact OK c vs xt xu sv iv xs es ep r
  rcases hl with rfl|⟨u,rfl⟩
  ·exact RW (cc _)<|Eq.mp (MS _ _ _) z
  ·exact Eq.mp (Im _ _ _ _) z
 ·refine UM hI fun sn b q ep r l aa hl D hr hk=>?_;clear hI;subst aa
  refine Eq.mp (Mp (iX 23 K) _) (cE rfl ?_ ?_)
  ·refine(?_:dG 23 ((HD _ _ _ _ _ _ _ _ _ _ _ _ _ _).take 23)=true)
   exact RW mJ<|qw h0 h4 h5 h6
  ·refine(?_:K (.ok .none) ((HD _ _ _ _ _ _ _ _ _ _ _ _ _ _).take 23))
   exact RW mJ<|hN (aK b D.top (fun x hx=>((D.seen x).mp (hk x hx)).resolve_right fun h=>nomatch h))
end
theorem Mg:Entry 150 3 Kf:=oI (by decide) fun{args kws os K} h=>by
 (have aF:=h;clear h;refine gq aF fun aa aP cN=>UL cN fun o0 o4 o5 o6 po fi g rq jo Ny mA hN hC=>kT Ny fun h0 h4 h5 h6=>?_;clear aF;subst aa;subst aP;subst jo)
 have e:(HR o0 o4 o5 o6 po fi g rq []).length=23:=nP;exact RW e<|H8 h0 h4 h5 h6 mA hN hC
end
section
def Kh:bO:=fun args kws os K=>kws=[]∧args=[.ref 2]∧∃o0 o4 o5 o6 po g rq t,os=HR o0 o4 o5 o6 po po g rq t∧K (.ok (.bool !rq.isEmpty)) os
theorem Mi:Entry 129 2 Kh:=ct (by decide) fun{args kws os K} h=>by
 (have aF:=h;clear h;refine gq aF fun aa aP cN=>W6 cN fun o0 o4 o5 o6 po g rq t jo h=>?_;clear aF;subst aa;subst aP;subst jo)
 refine(bA jt 41).call (Eq.mp (K6 o0 o4 o5 o6 po po g rq t K) ?_);refine RW (au (by exact RW nl<|Int.lt_irrefl po)) ?_
 rewrite [show(rq.map ag).isEmpty=rq.isEmpty by induction rq using List.casesOn<;>rfl]
 exact h
def iC(g:Gp)(rq:List Nat):Gp:=rq.foldl (fun g i=>cf g i (-1)) g
def Ft:bO:=fun args kws os K=>kws=[]∧args=[.ref 2]∧∃o0 o4 o5 o6 po fi g rq t,os=HR o0 o4 o5 o6 po fi g rq t∧(∀i∈rq,i<5)∧K (.ok (.seq true (rq.map ag))) (HR o0 o4 o5 o6 (po+rq.length) fi (iC g rq) [] t)
theorem Mj:Entry 122 2 Ft:=ct (by decide) fun{args kws os K} h=>by
 (have aF:=h;clear h;refine gq aF fun aa aP cN=>W5 cN fun o0 o4 o5 o6 po fi g rq t jo h5 h=>?_;clear aF;subst aa;subst aP;subst jo)
 refine(bA jt 41).call (Eq.mp (K7 o0 o4 o5 o6 po fi g rq t K) ?_);refine dp (sm:=bi) jt (vs:=rq.map ag) (fun k st=>∃l,st=⟨jE (rq.map ag)++l,HR o0 o4 o5 o6 po fi (iC g (rq.take k)) rq t⟩∧(l=[]∨∃u,l=[(nm "node",u)])) (by decide) (fun{k st} _=>rfl) (fun{k v st} R hv hI hR=>?_) (fun{st} hI=>?_) (aK [] rfl (.inl rfl))
 ·rw[List.getElem?_map] at hv
  refine aq (eG.mp hv) fun i hi aa=>?_;subst aa;refine aq hI fun l aa hl=>?_;clear hI;subst aa;have z:(M bi).ex (cx 122 1) Kn ⟨jE (rq.map ag)++[(nm "node",ag i)],HR o0 o4 o5 o6 po fi (iC g (rq.take k)) rq t⟩ (bJ R (bD (fun st=>(M bi).ex (cx 122 1) ((ac 122).drop 4) st (aN K)) (aN K))):=by
   refine Eq.mp (FX o0 o4 o5 o6 po fi _ rq t _ _ i (h5 i (db hi))) (hR (aK ([(nm "node",ag i)]) ?_ (.inr ⟨_,rfl⟩)));unfold iC;exact RW kY<|RW hi<|RW (m5 _)<|RW kb rfl
  rcases hl with rfl|⟨u,rfl⟩
  ·exact RW (cc _)<|Eq.mp (MU _ _ _ _) z
  ·exact Eq.mp (Ip _ _ _ _ _) z
 ·refine aq hI fun l aa _=>?_;clear hI;subst aa
  exact Eq.mp (Mq o0 o4 o5 o6 po fi _ rq t l K _)<|RW (bW _)<|RW ph h
def eg(x:Gp×List Nat)(j:Nat):Gp×List Nat:=(cf x.1 j (x.1.np j-1),if x.1.np j-1=0 then x.2++[j] else x.2)
def cU(x:Gp×List Nat)(i:Nat):Gp×List Nat:=(x.1.su i).foldl eg (cf x.1 i (-2),x.2)
theorem nU(js:List Nat):∀x:Gp×List Nat,(js.foldl eg x).1.su=x.1.su:=by
 induction js with
 |nil=>exact fun x=>rfl
 |cons a js ih=>exact fun x=>(ih _).trans rfl
theorem qf(js:List Nat):∀x:Gp×List Nat,(js.foldl eg x).2.length≤x.2.length+js.length:=by
 induction js with
 |nil=>exact fun x=>bI _
 |cons a js ih=>
  intro x;have:=ih (eg x a);have h2:(eg x a).2.length≤x.2.length+1:=by
   show(if _ then _ else _:List Nat).length≤_
   split
   ·exact RW b4<|bI _
   ·exact iL _ _
  refine RW qZ<|RW eR ?_;lia
theorem uK(ns:List Nat):∀x:Gp×List Nat,(ns.foldl cU x).1.su=x.1.su:=by
 induction ns with
 |nil=>exact fun x=>rfl
 |cons a js ih=>exact fun x=>(ih _).trans (nU _ _)
theorem qH(ns:List Nat):∀x:Gp×List Nat,(ns.foldl cU x).2.length≤x.2.length+(ns.map fun i=>(x.1.su i).length).sum:=by
 induction ns with
 |nil=>exact fun x=>bI _
 |cons a ns ih=>
  intro x;have h1:=ih (cU x a);have h2:(cU x a).2.length≤x.2.length+(x.1.su a).length:=qf (x.1.su a) (cf x.1 a (-2),x.2);have h3:(cU x a).1.su=x.1.su:=uK [a] x;rw[h3] at h1;refine RW qZ<|RW cV<|RW pd ?_;lia
theorem wI(h:g.np i=v):cf g i v=g:=by
 unfold cf oZ
 congr 1
 funext k
 split
 ·rename_i e;(refine RW e<|RW h rfl)
 ·rfl
section
variable{o0 o4 o5 o6:O}{po fi:Int}{g:Gp}{rq:List Nat}{t:List O}{ns:List V}{Q:Fl→St→Prop}{K:Rs→List O→Prop}
theorem QC(n)(hn:n<5):listAt (HV o0 o4 o5 o6 po fi g rv t) (3*n+9)=some ((g.su n).map ag):=by
 rcases d7 hn with rfl|rfl|rfl|rfl|rfl<;>kernel_rfl
def NX(l:List (Str×V)):Prop:=l=[]∨∃a b,l=[(nm "successor",a),(nm "successor_info",b)]
theorem DM(i:Nat)(hi:i<5)(h5:∀j∈g.su i,j<5)(hl:rq.length+(g.su i).length<ax)(h:NX l)
  (hQ:∀l,NX l→Q .next ⟨dg ns i++l,HR o0 o4 o5 o6 po fi ((g.su i).foldl eg (g,rq)).1 ((g.su i).foldl eg (g,rq)).2 t⟩):(ay bi).fo (cx 143 1) xD xV (.ref (3*i+9)) (0,0) 0 ⟨dg ns i++l,HR o0 o4 o5 o6 po fi g rq t⟩ (a8 Q):=by
 let xs:Nat→Gp×List Nat:=fun k=>((g.su i).take k).foldl eg (g,rq);refine dp (sm:=bi) jt (vs:=(g.su i).map ag) (fun k st=>∃l,st=⟨dg ns i++l,HR o0 o4 o5 o6 po fi (xs k).1 (xs k).2 t⟩∧NX l) (by decide) (fun{k st} hI=>?_) (fun{k v st} R hv hI hR=>?_) (fun{st} hI=>?_) (aK l rfl h)
 ·refine aq hI fun l aa _=>?_;clear hI;subst aa
  unfold itemAt;dsimp only;exact RW (QC i hi)<|RW (show(xs k).1.su=g.su from nU _ _) rfl
 ·rw[List.getElem?_map] at hv
  refine aq (eG.mp hv) fun j hj aa=>?_;subst aa;have No:=h5 j (db hj);have hk:=(fY.mp hj).1;refine aq hI fun l aa jr=>?_;clear hI;subst aa;have a9:((xs k).2.map ag).length<ax:=by
   have h1:=qf ((g.su i).take k) (g,rq);rw[List.length_take] at h1;have h1:(xs k).2.length≤rq.length+min k (g.su i).length:=h1;refine RW (bW _) ?_;lia
  have hx:xs (k+1)=eg (xs k) j:=by
   refine(?_:((g.su i).take (k+1)).foldl eg (g,rq)=_);exact RW kY<|RW hj<|RW (m5 _)<|RW kb rfl
  have z:∀os,(am (bR .Eq (.int ((xs k).1.np j-1)) (.int 0) os) fun c=>if c=true then((xs k).2.map ag).length<ax∧(bJ R (a8 Q)) .next ⟨dg ns i++[(nm "successor",ag j),(nm "successor_info",.ref (3*j+8))],HV o0 o4 o5 o6 po fi (cf (xs k).1 j ((xs k).1.np j-1)) ((xs k).2.map ag++[ag j]) t⟩ else(bJ R (a8 Q)) .next ⟨dg ns i++[(nm "successor",ag j),(nm "successor_info",.ref (3*j+8))],HV o0 o4 o5 o6 po fi (cf (xs k).1 j ((xs k).1.np j-1)) ((xs k).2.map ag) t⟩):=by
   intro os;refine(?_:(if((xs k).1.np j-1==0)=true then _ else _))
   refine EM ((xs k).1.np j-1=0) (fun c=>?_) fun c=>?_
   ·refine RW (aB (by rw[beq_iff_eq];exact c)) ?_
    refine⟨a9,hR (aK ([(nm "successor",ag j),(nm "successor_info",.ref (3*j+8))]) ?_ (.inr (s7 _ _ rfl)))⟩;refine RW hx ?_;unfold eg;refine RW (aB c) ?_;refine(?_:_=(⟨_,HV o0 o4 o5 o6 po fi _ (((xs k).2++[j]).map ag) t⟩:St));exact RW cz rfl
   ·refine RW (au (by rw[beq_iff_eq];exact c)) ?_
    refine hR (aK ([(nm "successor",ag j),(nm "successor_info",.ref (3*j+8))]) ?_ (.inr (s7 _ _ rfl)));refine RW hx ?_;unfold eg;refine RW (au c) rfl
  rcases jr with rfl|⟨a,b,rfl⟩
  ·exact RW (cc _)<|Eq.mp (Q6 _ _ _ i _) (Eq.mp (QB o0 o4 o5 o6 po fi (xs k).1 _ t [] _ ns i j No) (z []))
  ·exact Eq.mp (MZ _ _ _ a _ i _) (Eq.mp (LG o0 o4 o5 o6 po fi (xs k).1 _ t [] _ ns b i j No) (z []))
 ·refine aq hI fun l aa jr=>?_;clear hI;subst aa
  refine RW (bW _) ?_;have e:xs (g.su i).length=(g.su i).foldl eg (g,rq):=by refine(?_:((g.su i).take _).foldl _ _=_);(refine RW ph rfl)
  exact RW e<|hQ l jr
def WV(l:List (Str×V)):Prop:=l=[]∨∃a b c l',NX l'∧l=(nm "node",a)::(nm "nodeinfo",b)::(nm "stat",c)::l'
theorem H9{ms:List Nat}(hm:∀i∈ms,i<5)(h5:∀n v,n<5→v∈g.su n→v<5)(hl:ms.length+1≤ax)(hb:rq.length+(ms.map fun i=>(g.su i).length).sum<ax)(AQ:∀(k:Nat) i,ms[k]? =some i→((ms.take k).foldl cU (g,rq)).1.np i=-1)
  (h:K (.ok .none) (HR o0 o4 o5 o6 po (fi+ms.length) (ms.foldl cU (g,rq)).1 (ms.foldl cU (g,rq)).2 t)):(ay bi).call 2 (.con (.ref 143)) (.ref 2::ms.map ag) [] (HR o0 o4 o5 o6 po fi g rq t) K:=by
 refine(bA jt 41).call (Eq.mp (K5 o0 o4 o5 o6 po fi g _ t K _) ⟨by exact RW (bW _)<|hl,?_⟩)
 let xs:Nat→Gp×List Nat:=fun k=>(ms.take k).foldl cU (g,rq);refine dp (sm:=bi) jt (vs:=ms.map ag) (fun k st=>∃l,st=⟨kh (ms.map ag)++l,HR o0 o4 o5 o6 po (fi+(k:Int)) (xs k).1 (xs k).2 t⟩∧WV l) (by decide) (fun{k st} _=>rfl) (fun{k v st} R hv hI hR=>?_) (fun{st} hI=>?_) (aK [] (by rw[show fi+((0:Nat):Int)=fi from Int.add_zero fi];rfl) (.inl rfl))
 ·rw[List.getElem?_map] at hv
  refine aq (eG.mp hv) fun i hi aa=>?_;subst aa;refine aq hI fun l aa jr=>?_;clear hI;subst aa;have Jw:=hm i (db hi);have hk:=(fY.mp hi).1;have mA:(xs k).1.su=g.su:=uK _ _;have hx:xs (k+1)=cU (xs k) i:=by
   refine(?_:(ms.take (k+1)).foldl cU (g,rq)=_);exact RW kY<|RW hi<|RW (m5 _)<|RW kb rfl
  have a9:(xs k).2.length+(g.su i).length<ax:=by
   have h1:=qH (ms.take (k+1)) (g,rq);have h2:(xs k).2.length≤rq.length+((ms.take k).map fun i=>(g.su i).length).sum:=qH (ms.take k) (g,rq);have h3:((ms.take (k+1)).map fun i=>(g.su i).length).sum=((ms.take k).map fun i=>(g.su i).length).sum+(g.su i).length:=by
    exact RW kY<|RW hi<|RW (m5 _)<|RW cz<|RW List.sum_append rfl
   have h4:((ms.take (k+1)).map fun i=>(g.su i).length).sum≤(ms.map fun i=>(g.su i).length).sum:=by
    have e:(ms.map fun i=>(g.su i).length).sum=((ms.take (k+1)).map fun i=>(g.su i).length).sum+((ms.drop (k+1)).map fun i=>(g.su i).length).sum:=by
     refine RS List.sum_append<|RS cz<|RW (List.take_append_drop _ _) rfl
    lia
   lia
  have Wr:(fi+(k:Int))+1=fi+((k+1:Nat):Int):=by lia
  have z:∀l,NX l→(M bi).ex (cx 143 1) (m8.drop 4) ⟨dg (ms.map ag) i++l,HR o0 o4 o5 o6 po (fi+(k:Int)) (cf (xs k).1 i (-2)) (xs k).2 t⟩ (bJ R (a8 (aN K))):=by
   intro l hl;refine bY 39 4 (by kernel_rfl) (Eq.mp (Qe o0 o4 o5 o6 po _ _ _ t l _ _ i Jw) ?_)
   refine DM (g:=cf (xs k).1 i (-2)) i Jw (fun j hj=>h5 i j Jw (RS mA hj)) (by refine(?_:_+((xs k).1.su i).length<ax);exact RW mA a9) hl fun l hl=>?_
   refine aj (k:=fun st=>(M bi).ex (cx 143 1) (m8.drop 5) st (bJ R (a8 (aN K)))) (Q:=_) (Eq.mp (Qd o0 o4 o5 o6 po _ _ _ t l _ _ i) (hR (aK ((nm "node",ag i)::(nm "nodeinfo",.ref (3*i+8))::(nm "stat",.int (-1))::l) ?_ (.inr (UH _ _ _ l hl rfl)))));refine RW Wr<|RW hx ?_;rfl
  have e1:cf (xs k).1 i (-1)=(xs k).1:=wI (AQ k i hi);rcases jr with rfl|⟨a,b,c,l,hl,rfl⟩
  ·refine RW (cc _)<|Eq.mp (MT _ _ _ _) (bo 39 4 ?_)
   refine RS e1<|Eq.mp (Qg o0 o4 o5 o6 po _ _ _ t _ _ i Jw) (aj (k:=fun st=>(M bi).ex (cx 143 1) (m8.drop 4) st (bJ R (a8 (aN K)))) (Q:=_) ?_);refine RW e1 ?_;have:=z [] (.inl rfl);rw[List.append_nil] at this;exact this
  ·refine Eq.mp (Io _ _ _ a _ _) (bo 39 4 ?_)
   refine RS e1<|Eq.mp (Qf o0 o4 o5 o6 po _ _ _ t l _ _ b c i Jw) (aj (k:=fun st=>(M bi).ex (cx 143 1) (m8.drop 4) st (bJ R (a8 (aN K)))) (Q:=_) ?_);exact RW e1<|z l hl
 ·refine aq hI fun l aa _=>?_;clear hI;subst aa
  refine RW (bW _) ?_;have e:xs ms.length=ms.foldl cU (g,rq):=by refine(?_:(ms.take _).foldl _ _=_);(refine RW ph rfl)
  exact RW e h
end
def Kg:bO:=fun args kws os K=>kws=[]∧∃o0 o4 o5 o6 po fi g rq t,∃ms:List Nat,args=.ref 2::ms.map ag∧os=HR o0 o4 o5 o6 po fi g rq t∧(∀i∈ms,i<5)∧(∀n v,n<5→v∈g.su n→v<5)∧ms.length+1≤ax∧rq.length+(ms.map fun i=>(g.su i).length).sum<ax∧(∀(k:Nat) i,ms[k]? =some i→((ms.take k).foldl cU (g,rq)).1.np i=-1)∧K (.ok .none) (HR o0 o4 o5 o6 po (fi+ms.length) (ms.foldl cU (g,rq)).1 (ms.foldl cU (g,rq)).2 t)
theorem Mh:Entry 143 2 Kg:=ct (by decide) fun{args kws os K} h=>by
 (have aF:=h;clear h;refine az aF fun aa aP=>TL aP fun o0 o4 o5 o6 po fi g rq t ms cN jo h1 h2 h3 h4 h5 h=>?_;clear aF;subst aa;subst cN;subst jo)
 exact H9 h1 h2 h3 h4 h5 h
end
section
noncomputable abbrev IW:List (Addr×Nat×bO):=[(150,3,Kf)]
def j8:eI:=fO IW
theorem IX:bt j8:=bP (l:=IW) ⟨Mg,trivial⟩
def tm:Expr:=dY (a5 (ac 115) 1)
def ki:List (Str×V):=[(nm "self",.ref 2)]
noncomputable def pb(g:Gp):List Nat:=(List.range 5).filter fun j=>g.np j==0
section
variable(o0 o4 o5 o6:O)(po fi:Int)(g:Gp)(rq:List Nat)(os:List O)(Q:Fl→St→Prop)(K:Rs→List O→Prop)(u v:V)(vs:List V)(ai:List (V×V))(R:St→List (V×V)→Prop)
theorem K8:(M j8).ex (cx 115 3) (ac 115) ⟨ki,os⟩ (aN K)=(aT j8 41).call 4 (.con (.ref 115)) [.ref 2] [] os K:=by kernel_rfl
theorem Ql:((ay j8).co ⟨bS tm,3⟩ none (dX tm) (.Name (nm "i") ⟨46,40,46,41⟩) (dW tm) (.view 3) (5,6) 0 ⟨[],HG o0 o4 o5 o6 .none po fi g []⟩ [] fun ai st=>af ((ai.map (·.2)).length≤ax) (i0 (.ref 2) (tx "_ready_nodes") (.ref st.os.length) (st.os++[.list (ai.map (·.2))]) fun os=>Q .next ⟨ki,os⟩))=(M j8).ex (cx 115 3) ((ac 115).take 2) ⟨ki,HG o0 o4 o5 o6 .none po fi g []⟩ Q:=by kernel_rfl
theorem SM(k):k (HV o0 o4 o5 o6 po fi g vs [])=i0 (.ref 2) (tx "_ready_nodes") (.ref (HG o0 o4 o5 o6 .none po fi g []).length) (HG o0 o4 o5 o6 .none po fi g []++[.list vs]) k:=by kernel_rfl
theorem Qh(j)(hj:j<5):(am (bR .Eq (.int (g.np j)) (.int 0) []) fun c=>if c=false then R ⟨[(nm "i",.ref (3*j+8))],HG o0 o4 o5 o6 .none po fi g []⟩ ai else ai.length<ax∧R ⟨[(nm "i",.ref (3*j+8))],HG o0 o4 o5 o6 .none po fi g []⟩ (ai++[(.none,ag j)]))=
  dA (M j8) ⟨bS tm,3⟩ .And (dW tm) ⟨[(nm "i",.ref (3*j+8))],HG o0 o4 o5 o6 .none po fi g []⟩ fun ok st=>match ok with
   |true=>ba (M j8) ⟨bS tm,3⟩ none (dX tm) st ai R
   |false=>R st ai:=by
 rcases d7 hj with rfl|rfl|rfl|rfl|rfl<;>kernel_rfl
theorem Qk:Kf [.ref 2] [] (HV o0 o4 o5 o6 po fi g vs []) (iA fun v os=>Q .next ⟨ki++[(nm "cycle",v)],os⟩)=(M j8).ex (cx 115 3) (a6 (ac 115) 2) ⟨ki,HV o0 o4 o5 o6 po fi g vs []⟩ Q:=by kernel_rfl
theorem Qj:Q .next ⟨ki++[(nm "cycle",.none)],os⟩=(M j8).ex (cx 115 3) ((ac 115).drop 3) ⟨ki++[(nm "cycle",.none)],os⟩ Q:=by kernel_rfl
theorem Qi:Q (.exc (.ref 78)) ⟨ki++[(nm "cycle",.seq false (u::vs))],os⟩=(M j8).ex (cx 115 3) ((ac 115).drop 3) ⟨ki++[(nm "cycle",.seq false (u::vs))],os⟩ Q:=by kernel_rfl
end
def Ki:bO:=fun args kws os K=>kws=[]∧args=[.ref 2]∧∃o0 o4 o5 o6 po fi g,os=HG o0 o4 o5 o6 .none po fi g []∧(aH 23 o0=true∧aH 23 o4=true∧aH 23 o5=true∧aH 23 o6=true)∧(∀n v,n<5→v∈g.su n→v<5)∧
 ((∃b,nB g.su b∧∀x,x<5→x∈b)→K (.ok .none) (HR o0 o4 o5 o6 po fi g (pb g) []))∧(kr g.su→K (.exc (.ref 78)) (HR o0 o4 o5 o6 po fi g (pb g) []))
noncomputable def Fc:List V:=[.ref 8,.ref 11,.ref 14,.ref 17,.ref 20]
theorem He{o0 o4 o5 o6:O}{sX:V}{po fi:Int}{g:Gp}{t:List O}:Gives (HG o0 o4 o5 o6 sX po fi g t) (.view 3) (5,6) Fc:=fun k=>by
 match k with
 |0=>kernel_rfl
 |1=>kernel_rfl
 |2=>kernel_rfl
 |3=>kernel_rfl
 |4=>kernel_rfl
 |k+5=>kernel_rfl
def za(g:Gp)(v:V):List (V×V):=match v with
 |.ref r=>if(g.np ((r-8)/3)==0)=true then[(.none,ag ((r-8)/3))] else[]
 |_=>[]
theorem BP(g:Gp):(Fc.flatMap (za g)).map (·.2)=(pb g).map ag:=by
 have:∀l:List Nat,((l.map fun j=>V.ref (3*j+8)).flatMap (za g)).map (·.2)=(l.filter fun j=>g.np j==0).map ag:=by
  intro l
  induction l with
  |nil=>rfl
  |cons a l ih=>
   refine RW cV<|RW m4<|RW cz<|RW ih<|RW jP ?_;unfold za;dsimp only;refine RW (show(3*a+8-8)/3=a by lia) ?_
   split<;>rfl
 exact this (List.range 5)
theorem Mk:Entry 115 4 Ki:=ct (by decide) fun{args kws os K} h=>by
 (have aF:=h;clear h;refine gq aF fun aa aP cN=>W7 cN fun o0 o4 o5 o6 po fi g jo Ny mA hN hC=>kT Ny fun h0 h4 h5 h6=>?_;clear aF;subst aa;subst aP;subst jo)
 refine(bA IX 41).call (Eq.mp (K8 _ K) (bo 39 2 (Eq.mp (Ql o0 o4 o5 o6 po fi g _) ?_)));refine ci (sm:=j8) IX (C:=⟨bS tm,3⟩) (za g) (cs:=[]) (by decide) (by kernel_rfl) rfl He (by decide) (fun v _=>?_) (fun v hv ai R ca hR=>?_) fun l=>?_
 ·unfold za
  split
  ·split<;>first|exact bI _|exact c9 _
  ·exact c9 _
 ·obtain⟨j,hj,rfl⟩:∃j,j<5∧v=.ref (3*j+8):=by
   unfold Fc at hv;simp only[List.mem_cons,List.not_mem_nil,or_false] at hv;rcases hv with rfl|rfl|rfl|rfl|rfl
   ·exact aK 0 (by decide) rfl
   ·exact aK 1 (by decide) rfl
   ·exact aK 2 (by decide) rfl
   ·exact aK 3 (by decide) rfl
   ·exact aK 4 (by decide) rfl
  refine Eq.mp (Qh o0 o4 o5 o6 po fi g ai R j hj) ?_;have hR:R _ (ai++if(g.np ((3*j+8-8)/3)==0)=true then[(.none,ag ((3*j+8-8)/3))] else[]):=hR
  rw[show(3*j+8-8)/3=j by lia] at hR
  refine(?_:(if(g.np j==0)=false then _ else _))
  cases q:(g.np j==0) with
  |true=>
   refine RW (au (by decide)) ?_
   rw[q,if_pos rfl] at hR;exact⟨ca,hR⟩
  |false=>
   refine RW (aB rfl) ?_;rw[q,if_neg (by decide),List.append_nil] at hR
   exact hR
 ·have a9:((Fc.flatMap (za g)).map (·.2)).length≤ax:=by
   exact RW (BP _)<|RW (bW _)<|bZ (gw _ _) (by decide)
  refine aC a9<|RW (BP _)<|Eq.mp (SM o0 o4 o5 o6 po fi g _ _) (aj (k:=fun st=>(M j8).ex (cx 115 3) ((ac 115).drop 2) st (aN K)) (Q:=aN K) (bY 39 2 (by kernel_rfl) (Eq.mp (Qk o0 o4 o5 o6 po fi g _ _) ?_)))
  refine⟨rfl,rfl,o0,o4,o5,o6,po,fi,g,pb g,rfl,(qU h0 h4 h5 h6),mA,fun h=>?_,fun h vs xt=>?_⟩
  ·exact aj (k:=fun st=>(M j8).ex (cx 115 3) ((ac 115).drop 3) st (aN K)) (Q:=aN K) (Eq.mp (Qj _ (aN K)) (hN h))
  ·induction vs using List.casesOn with
   |nil=>exact absurd rfl xt
   |cons u vs=>exact aj (k:=fun st=>(M j8).ex (cx 115 3) ((ac 115).drop 3) st (aN K)) (Q:=aN K) (Eq.mp (Qi _ (aN K) u vs) (hC h))
end
section
noncomputable abbrev IV:List (Addr×Nat×bO):=[(115,4,Ki),(122,2,Ft),(129,2,Kh),(143,2,Kg),(932,11,J9)]
def aG:eI:=fO IV
def xC:List (Str×V):=[(nm "names",.seq false ao),(nm "lines",.ref 0)]
def eV(ring:Bool):List (Str×V):=xC++[(nm "sorter",.ref 2),(nm "needs",.ref 4),(nm "given",.ref 5),(nm "rounds",.ref 6),(nm "ring",.bool ring)]
def la:Expr:=match dY (a5 (ac 937) 0) with
 |.Tuple (_::e::_) _ _=>e
 |e=>e
def Qm(ls:List V):List O:=[.list ls,.attrs [(tx "_node2info",.ref 3),(tx "_ready_nodes",.none),(tx "_npassedout",.int 0),(tx "_nfinished",.int 0)],.inst 160 1,.dict [] (some 0)]
def H1(ls:List V)(k:Nat):List O:=[.list ls,.attrs [(tx "_node2info",.ref 3),(tx "_ready_nodes",.none),(tx "_npassedout",.int 0),(tx "_nfinished",.int 0)],.inst 160 1,.dict (Sa.take k) (some k),.dict (eC fun _=>[]) none,.dict [] (some 0),.list []]++(List.range k).flatMap (nr ⟨fun _=>0,fun _=>[]⟩)
def b1_937:List Stmt:=jA (a5 (ac 937) 1)
def t1_937:Expr:=vy (a5 (ac 937) 1)
def b2_937:List Stmt:=jA (a5 (ac 937) 2)
def t2_937:Expr:=vy (a5 (ac 937) 2)
section
variable(ls:List V)(os:List O)(Q:Fl→St→Prop)(K:Rs→List O→Prop)(u v w:V)(ai:List (V×V))(R:St→List (V×V)→Prop)(rg:Bool)
theorem KP:(M aG).ex (cx 937 11) (ac 937) ⟨xC,os⟩ (aN K)=(aT aG 41).call 12 (.con (.ref 937)) [.seq false ao,.ref 0] [] os K:=by kernel_rfl
theorem PZ:((ay aG).co ⟨bS la,11⟩ (RQ la) (dX la) (ff la) (dW la) (.seq false ao) (0,0) 0 ⟨[],Qm ls⟩ [] fun ai st=>am (rH ai) fun es=>ai.length≤ax∧Q .next ⟨xC++[(nm "sorter",.ref 2),(nm "needs",.ref st.os.length),(nm "given",.ref (st.os++[O.dict es none]).length),(nm "rounds",.ref ((st.os++[O.dict es none])++[O.dict [] (some 0)]).length),(nm "ring",.bool false)],((st.os++[.dict es none])++[.dict [] (some 0)])++[.list []]⟩)=(M aG).ex (cx 937 11) ((ac 937).take 1) ⟨xC,[.list ls]⟩ Q:=by kernel_rfl
theorem PN(s):(ai.length<ax∧R ⟨[(nm "name",.str s)],os⟩ (ai++[(.str s,.seq false [])]))=dA (M aG) ⟨bS la,11⟩ .And (dW la) ⟨[(nm "name",.str s)],os⟩ fun ok st=>match ok with
   |true=>ba (M aG) ⟨bS la,11⟩ (RQ la) (dX la) st ai R
   |false=>R st ai:=by kernel_rfl
theorem PY:(ay aG).fo (cx 937 11) t1_937 b1_937 (.seq false ao) (0,0) 0 ⟨eV rg,os⟩ (a8 Q)=(M aG).ex (cx 937 11) (a6 (ac 937) 1) ⟨eV rg,os⟩ Q:=by kernel_rfl
theorem Q5(k):k ⟨eV rg++[(nm "name",v)],os⟩=aI (M aG) (cx 937 11) t1_937 v ⟨eV rg,os⟩ k:=by kernel_rfl
theorem MY(k):k ⟨eV rg++[(nm "name",v)],os⟩=aI (M aG) (cx 937 11) t1_937 v ⟨eV rg++[(nm "name",u)],os⟩ k:=by kernel_rfl
theorem PX(k)(hk:k<5):(1+1≤ax∧(Sa.take k).length<ax∧(ay aG).fo (cx 110 10) E6 Fv (.seq true []) (0,0) 0 ⟨gI k [],H1 ls (k+1)⟩ (a8 (aN (iA fun _ os=>Q .next ⟨eV rg++[(nm "name",ag k)],os⟩))))=(M aG).ex (cx 937 11) b1_937 ⟨eV rg++[(nm "name",ag k)],H1 ls k⟩ Q:=by
 rcases d7 hk with rfl|rfl|rfl|rfl|rfl<;>kernel_rfl
theorem PV:(af ((itemAt os (.ref 0) (dD os (.ref 0)) 0).isSome=true)<|(ay aG).fo (cx 937 11) t2_937 b2_937 (.ref 0) (dD os (.ref 0)) 0 ⟨eV rg++[(nm "name",u)],os⟩ (a8 Q))=(M aG).ex (cx 937 11) (a6 (ac 937) 2) ⟨eV rg++[(nm "name",u)],os⟩ Q:=by kernel_rfl
def lO(rg:Bool)(u:V):List (Str×V):=eV rg++[(nm "name",u)]
theorem Q8(k):k ⟨lO rg u++[(nm "line",v)],os⟩=aI (M aG) (cx 937 11) t2_937 v ⟨lO rg u,os⟩ k:=by kernel_rfl
theorem M1(k):k ⟨lO rg u++[(nm "line",v)],os⟩=aI (M aG) (cx 937 11) t2_937 v ⟨lO rg u++[(nm "line",w)],os⟩ k:=by kernel_rfl
theorem PU:J9 [.seq false ao,v,.ref 2,.ref 4] [] os (iA fun _ os=>Q .next ⟨lO rg u++[(nm "line",v)],os⟩)=(M aG).ex (cx 937 11) b2_937 ⟨lO rg u++[(nm "line",v)],os⟩ Q:=by kernel_rfl
end
end
section
def d9(rg:Bool)(a b:V):List (Str×V):=eV rg++[(nm "name",a),(nm "line",b)]
def xE:List Stmt:=jA (a5 (ac 937) 3)
def Jc:List Stmt:=match a5 (ac 937) 3 with
 |.Try _ [.ExceptHandler _ _ b _] _ _ _=>b
 |_=>[]
def A0:Stmt:=a5 (ac 937) 4
def dk:List Stmt:=jA A0
def xW:List Stmt:=jA (a5 dk 1)
def Bm:Expr:=vy (a5 dk 1)
section
variable(o0 o4 o5 o6:O)(po fi:Int)(g:Gp)(rq:List Nat)(t:List O)(ls:List V)(os:List O)(Q:Fl→St→Prop)(K:Rs→List O→Prop)(u v w a b:V)(l:List (Str×V))(ai:List (V×V))(R:St→List (V×V)→Prop)(rg:Bool)(ns:List V)
theorem PT(st):tj (aT aG 39) (cx 937 11) (a5 (ac 937) 3) st (a8 Q)=(M aG).ex (cx 937 11) (a6 (ac 937) 3) st Q:=by kernel_rfl
theorem PS(st):(aT aG 39).ex (cx 937 11) xE st (wx (aT aG 39) (cx 937 11) (nm "CycleError") Jc Q)=tj (aT aG 39) (cx 937 11) (a5 (ac 937) 3) st Q:=by kernel_rfl
theorem PR(st):tK (aT aG 38) (cx 937 11) (dY (a5 xE 0)) st (a8 Q)=(aT aG 39).ex (cx 937 11) xE st Q:=by kernel_rfl
theorem PQ:Ki [.ref 2] [] (HG o0 o4 o5 o6 .none po fi g []) (fun rs os=>Q (Fj rs) ⟨d9 rg a b,os⟩)=tK (aT aG 38) (cx 937 11) (dY (a5 xE 0)) ⟨d9 rg a b,HG o0 o4 o5 o6 .none po fi g []⟩ Q:=by kernel_rfl
theorem PP:Q .next ⟨d9 true a b,os⟩=wx (aT aG 39) (cx 937 11) (nm "CycleError") Jc Q (.exc (.ref 78)) ⟨d9 false a b,os⟩:=by kernel_rfl
theorem PO(st):(ay aG).wh (cx 937 11) (dY A0) dk [] st (bD (fun st=>(M aG).ex (cx 937 11) ((ac 937).drop 5) st Q) Q)=(M aG).ex (cx 937 11) ((ac 937).drop 4) st Q:=by kernel_rfl
theorem O1:Kh [.ref 2] [] (HR o0 o4 o5 o6 po fi g rq t) (iA fun v os=>am (gz os v) fun c=>if c=true then(M aG).ex (cx 937 11) dk ⟨d9 rg a b++l,os⟩ (bJ (fun st=>(ay aG).wh (cx 937 11) (dY A0) dk [] st Q) Q) else Q .next ⟨d9 rg a b++l,os⟩)=AF (M aG) (cx 937 11) (dY A0) dk [] ⟨d9 rg a b++l,HR o0 o4 o5 o6 po fi g rq t⟩ Q:=by kernel_rfl
theorem r0:Ft [.ref 2] [] (HR o0 o4 o5 o6 po fi g rq t) (iA fun v os=>Q .next ⟨d9 rg a b++[(nm "ready",v)],os⟩)=(M aG).ex (cx 937 11) (dk.take 1) ⟨d9 rg a b,HR o0 o4 o5 o6 po fi g rq t⟩ Q:=by kernel_rfl
theorem U6:Ft [.ref 2] [] (HR o0 o4 o5 o6 po fi g rq t) (iA fun v os=>Q .next ⟨d9 rg a b++[(nm "ready",v)],os⟩)=(M aG).ex (cx 937 11) (dk.take 1) ⟨d9 rg a b++[(nm "ready",u)],HR o0 o4 o5 o6 po fi g rq t⟩ Q:=by kernel_rfl
def fy(rg:Bool)(a b:V)(ns:List V):List (Str×V):=d9 rg a b++[(nm "ready",.seq true ns)]
theorem r1:(ay aG).fo (cx 937 11) Bm xW (.seq true ns) (0,0) 0 ⟨fy rg a b ns,os⟩ (a8 Q)=(M aG).ex (cx 937 11) (a6 dk 1) ⟨fy rg a b ns,os⟩ Q:=by kernel_rfl
theorem Ra(k):k ⟨fy rg v b ns,os⟩=aI (M aG) (cx 937 11) Bm v ⟨fy rg a b ns,os⟩ k:=by kernel_rfl
theorem r3:Kg (.ref 2::(ns++[])) [] (HR o0 o4 o5 o6 po fi g rq t) (iA fun _ os=>Q .next ⟨fy rg a b ns,os⟩)=(M aG).ex (cx 937 11) (a6 dk 3) ⟨fy rg a b ns,HR o0 o4 o5 o6 po fi g rq t⟩ Q:=by kernel_rfl
def gJ:Expr:=dY (a5 xW 0)
def lZ:Expr:=match dW gJ with
 |e::_=>if h:e.ctorIdx=15 then Expr.Compare.elim (motive_1:=fun _=>PySem.Expr) e h fun l _ _ _=>l else e
 |_=>gJ
def Nq(i:Nat):List (Str×V):=[(nm "given",.ref 5),(nm "name",ag i),(nm "needs",.ref 4)]
theorem U5(i):((ay aG).co ⟨bS gJ,11⟩ none (dX gJ) (.Name (nm "one") ⟨978,35,978,38⟩) (dW gJ) (.seq false ao) (0,0) 0 ⟨Nq i,os⟩ [] fun ai st=>af ((ai.map (·.2)).length≤ax) (gM (.ref 5) (ag i) (.seq false (ai.map (·.2))) st.os fun os=>Q .next ⟨fy rg (ag i) b ns,os⟩))=(M aG).ex (cx 937 11) xW ⟨fy rg (ag i) b ns,os⟩ Q:=by kernel_rfl
theorem U4(i j):(am (bn os (.ref 4) (ag i)) fun bj=>af ((itemAt os bj (dD os bj) 0).isSome=true) ((ay aG).co ⟨bS lZ,11⟩ none (dX lZ) (.Name (nm "need") ⟨978,61,978,65⟩) (dW lZ) bj (dD os bj) 0 ⟨[(nm "given",.ref 5),(nm "one",ag j)],os⟩ [] fun cP st'=>af ((cP.map (·.2)).length≤ax) (am (bR .NotEq (.seq false (cP.map (·.2))) (.seq false []) st'.os) fun c=>if c=false then R ⟨Nq i++[(nm "one",ag j)],st'.os⟩ ai else ai.length<ax∧R ⟨Nq i++[(nm "one",ag j)],st'.os⟩ (ai++[(.none,ag j)]))))=
  dA (M aG) ⟨bS gJ,11⟩ .And (dW gJ) ⟨Nq i++[(nm "one",ag j)],os⟩ fun ok st=>match ok with
   |true=>ba (M aG) ⟨bS gJ,11⟩ none (dX gJ) st ai R
   |false=>R st ai:=by kernel_rfl
theorem U3(j k):(am (bR .Eq (ag k) (ag j) os) fun c=>if c=true then ai.length<ax∧R ⟨[(nm "given",.ref 5),(nm "one",ag j)]++[(nm "need",ag k)],os⟩ (ai++[(.none,ag k)]) else am (bn os (.ref 5) (ag k)) fun gv=>am (bR .In (ag j) gv os) fun c=>if c=true then ai.length<ax∧R ⟨[(nm "given",.ref 5),(nm "one",ag j)]++[(nm "need",ag k)],os⟩ (ai++[(.none,ag k)]) else R ⟨[(nm "given",.ref 5),(nm "one",ag j)]++[(nm "need",ag k)],os⟩ ai)=
  dA (M aG) ⟨bS lZ,11⟩ .And (dW lZ) ⟨[(nm "given",.ref 5),(nm "one",ag j)]++[(nm "need",ag k)],os⟩ fun ok st=>match ok with
   |true=>ba (M aG) ⟨bS lZ,11⟩ none (dX lZ) st ai R
   |false=>R st ai:=by kernel_rfl
def iT:Expr:=match dY (a5 dk 2) with
 |.Call _ (e::_) _ _=>e
 |e=>e
theorem r2:((ay aG).co ⟨bS iT,11⟩ none (dX iT) (.Name (nm "name") ⟨979,32,979,36⟩) (dW iT) (.seq false ao) (0,0) 0 ⟨[(nm "ready",.seq true ns)],HR o0 o4 o5 (.list ls) po fi g rq t⟩ [] fun ai st=>af ((ai.map (·.2)).length≤ax) (af (dE st.os (.ref 6)=some 1) (gl 6 (.seq false (ai.map (·.2))) st.os fun _ os=>Q .next ⟨fy rg a b ns,os⟩)))=(M aG).ex (cx 937 11) (a6 dk 2) ⟨fy rg a b ns,HR o0 o4 o5 (.list ls) po fi g rq t⟩ Q:=by kernel_rfl
theorem U2(j):(am (bR .In (ag j) (.seq true ns) os) fun c=>if c=false then R ⟨[(nm "ready",.seq true ns)]++[(nm "name",ag j)],os⟩ ai else ai.length<ax∧R ⟨[(nm "ready",.seq true ns)]++[(nm "name",ag j)],os⟩ (ai++[(.none,ag j)]))=
  dA (M aG) ⟨bS iT,11⟩ .And (dW iT) ⟨[(nm "ready",.seq true ns)]++[(nm "name",ag j)],os⟩ fun ok st=>match ok with
   |true=>ba (M aG) ⟨bS iT,11⟩ none (dX iT) st ai R
   |false=>R st ai:=by kernel_rfl
def l0:Expr:=let e:=dY (a5 (ac 937) 5);if h:e.ctorIdx=24 then Expr.List.elim (motive_1:=fun _=>PySem.Expr) e h fun l _=>(l[2]?).getD e else e
theorem r5:((ay aG).co ⟨bS l0,11⟩ none (dX l0) (.Name (nm "name") ⟨981,51,981,55⟩) (dW l0) (.seq false ao) (0,0) 0 ⟨[(nm "given",.ref 5)],os⟩ [] fun ai st=>af ((ai.map (·.2)).length≤ax) (K (.ok (.seq false [.bool rg,.ref 6,.seq false (ai.map (·.2))])) st.os))=(M aG).ex (cx 937 11) ((ac 937).drop 5) ⟨d9 rg a b++l,os⟩ (aN K):=by kernel_rfl
theorem U1(j):(am (bR .In (ag j) (.ref 5) os) fun c=>if c=false then R ⟨[(nm "given",.ref 5)]++[(nm "name",ag j)],os⟩ ai else am (bn os (.ref 5) (ag j)) fun v=>ai.length<ax∧R ⟨[(nm "given",.ref 5)]++[(nm "name",ag j)],os⟩ (ai++[(.none,.seq false [ag j,v])]))=
  dA (M aG) ⟨bS l0,11⟩ .And (dW l0) ⟨[(nm "given",.ref 5)]++[(nm "name",ag j)],os⟩ fun ok st=>match ok with
   |true=>ba (M aG) ⟨bS l0,11⟩ none (dX l0) st ai R
   |false=>R st ai:=by kernel_rfl
end
end
theorem tW{α:Type}(f:Nat→α)(i)(v:α):oZ f i v i=v:=aB rfl
theorem v0(h:k≠i):oZ f i v k=f k:=au h
theorem on:∀(js:List Nat) (x:Gp×List Nat),(∀v∈js,(js.count v:Int)≤x.1.np v)→
  (∀v,(js.foldl eg x).1.np v=x.1.np v-js.count v)∧(∀v,v∈(js.foldl eg x).2↔v∈x.2∨(v∈js∧x.1.np v=js.count v))∧(x.2.Nodup→(∀v∈js,v∉x.2)→(js.foldl eg x).2.Nodup)
 |[],x,_=>(cE (fun v=>by simp) (fun v=>by simp) (fun h _=>h))
 |a::js,x,h=>by
  have ha:=h a cw;rw[List.count_cons_self] at ha;have AQ:∀v,(eg x a).1.np v=if v=a then x.1.np a-1 else x.1.np v:=fun v=>by
   refine(?_:oZ x.1.np a _ v=_);unfold oZ;rfl
  have qQ:(eg x a).2=if x.1.np a-1=0 then x.2++[a] else x.2:=rfl
  have IE:∀v,v≠a→(a::js).count v=js.count v:=fun v hv=>List.count_cons_of_ne (Ne.symm hv);have ih:=on js (eg x a) fun v hv=>by
   refine RW (AQ _) ?_;split
   ·rename_i e;subst e;lia
   ·rename_i e
    have:=h v (dZ _ hv);rw[IE v e] at this;exact this
  refine RW qZ (cE (fun v=>?_) (fun v=>?_) (fun h1 h2=>ih.2.2 ?_ fun v hv=>?_))
  ·refine RW (ih.1 _)<|RW (AQ _)<|EM (v=a) (fun e=>?_) fun e=>?_
   ·subst e;refine RW (aB rfl)<|RW List.count_cons_self ?_;lia
   ·refine RW (au e)<|RW (IE v e) rfl
  ·(rewrite [ih.2.1];refine RW (AQ _)<|RW qQ ?_)
   refine EM (v=a) (fun e=>?_) fun e=>?_
   ·subst e
    refine RW (aB rfl)<|RW List.count_cons_self<|EM (x.1.np v-1=0) (fun z=>?_) fun z=>?_
    ·refine RW (aB z) ?_
     have hc:js.count v=0:=by lia
     constructor
     ·intro _;exact .inr ⟨cw,by lia⟩
     ·intro _;exact .inl (cY _ cw)
    ·refine RW (au z) ?_
     constructor
     ·rintro(q|⟨q1,q2⟩)
      ·exact .inl q
      ·exact .inr ⟨cw,by lia⟩
     ·rintro(q|⟨_,q2⟩)
      ·exact .inl q
      ·refine .inr ⟨?_,by lia⟩
       refine List.count_pos_iff.mp ?_;lia
   ·refine RW (au e)<|RW (IE v e) ?_
    have hm:v∈(if x.1.np a-1=0 then x.2++[a] else x.2)↔v∈x.2:=by
     split
     ·rw[List.mem_append,List.mem_singleton];exact⟨fun q=>q.resolve_right e,.inl⟩
     ·exact Iff.rfl
    rw[hm,List.mem_cons];constructor
    ·rintro(q|⟨q1,q2⟩)
     ·exact .inl q
     ·exact .inr ⟨.inr q1,q2⟩
    ·rintro(q|⟨q1,q2⟩)
     ·exact .inl q
     ·exact .inr ⟨q1.resolve_left e,q2⟩
  ·refine RW qQ ?_
   split
   ·rw[List.nodup_append]
    exact cE h1 (by simp) (fun b hb c hc=>RW (dw.mp hc)<|fun e=>h2 a cw (e▸hb))
   ·exact h1
  ·refine RW qQ ?_
   split
   ·rename_i z
    have hc:js.count a=0:=by lia
    rw[List.mem_append,List.mem_singleton];rintro(q|q)
    ·exact h2 v (dZ _ hv) q
    ·subst q
     exact absurd (List.count_pos_iff.mpr hv) (j9.mpr (ka hc))
   ·exact h2 v (dZ _ hv)
noncomputable def freeOf(nd:Nat→List Nat)(E:List Nat):List Nat:=(List.range 5).filter fun i=>!E.contains i&&(nd i).all fun j=>E.contains j
noncomputable def rJ(nd:Nat→List Nat)(E:List Nat)(i:Nat):Nat:=((nd i).filter fun j=>!E.contains j).length
theorem bB:i∈freeOf nd E↔i<5∧i∉E∧∀j∈nd i,j∈E:=by
 unfold freeOf
 (rewrite [List.mem_filter];rewrite [List.mem_range];refine RW (Bool.and_eq_true _ _)<|RW (m3 _) ?_;rewrite [List.all_eq_true];refine RS (Bool.not_eq_true _) ?_;rewrite [List.contains_iff_mem])
 simp only[List.contains_iff_mem]
structure y7(su nd:Nat→List Nat):Prop where
 cnt:∀i j,i<5→j<5→(su j).count i=(nd i).count j
 Rq:∀i j,i<5→j∈nd i→j<5
 Rj:∀n v,n<5→v∈su n→v<5
theorem y7.iff(F:y7 su nd)(hi:i<5)(hj:j<5):i∈su j↔j∈nd i:=by
 rw[←List.count_pos_iff,←List.count_pos_iff,F.cnt i j hi hj]
theorem Eg(l E:List Nat)(k:Nat)(hk:k∉E):(l.filter fun j=>!E.contains j).length=(l.filter fun j=>!(E++[k]).contains j).length+l.count k:=by
 induction l with
 |nil=>rfl
 |cons a l ih=>
  refine RW jP<|RW jP<|EM (a=k) (fun e=>?_) fun e=>?_
  ·subst e
   (refine RW (aB (by((refine RW (m3 _)<|RS (Bool.not_eq_true _) ?_);rewrite [List.contains_iff_mem]);exact hk))<|RW (au (by((refine RW (m3 _)<|RS (Bool.not_eq_true _) ?_);rewrite [List.contains_iff_mem];rewrite [Decidable.not_not]);exact cY _ cw))<|RW List.count_cons_self<|RW eR<|RW ih ?_)
   exact Nat.add_assoc ..
  ·have:(E++[k]).contains a=E.contains a:=by
    rw[Bool.eq_iff_iff,List.contains_iff_mem,List.contains_iff_mem,List.mem_append,List.mem_singleton];exact⟨fun q=>q.resolve_right e,.inl⟩
   refine RW this<|RW (List.count_cons_of_ne e) ?_;split
   ·exact RW eR<|RW eR<|RW ih (Nat.add_right_comm ..)
   ·exact ih
structure Rd(nd:Nat→List Nat)(su:Nat→List Nat)(E rq P:List Nat)(x:Gp×List Nat):Prop where
 su:x.1.su=su
 np:∀v,v<5→v∉E→v∉rq→x.1.np v=rJ nd (E++P) v
 rest:∀v∈rq,v∉P→x.1.np v=-1
 mem:∀v,v∈x.2↔v<5∧v∉E∧v∉rq∧∀j∈nd v,j∈E++P
 sY:x.2.Nodup
theorem uN:rJ nd E v=0↔∀j∈nd v,j∈E:=by
 unfold rJ;rw[List.length_eq_zero_iff,List.filter_eq_nil_iff];simp only[Bool.not_eq_true',Bool.not_eq_false,List.contains_iff_mem]
theorem Rd.step{nd su:Nat→List Nat}(F:y7 su nd)(hE:∀v∈E,v<5∧∀j∈nd v,j∈E)(qQ:∀v,v∈rq↔v∈freeOf nd E)(h:Rd nd su E rq P x)(hi:i∈rq)(hP:i∉P):Rd nd su E rq (P++[i]) (cU x i):=by
 have fi:=bB.mp ((qQ i).mp hi);have OM:i∉E++P:=fun q=>(b9.mp q).elim fi.2.1 hP;have m7:∀v∈su i,v<5∧i∈nd v∧v∉E∧v∉rq:=fun v hv=>by
  have v5:=F.Rj i v fi.1 hv;have oY:=(F.iff v5 fi.1).mp hv;exact qU v5 oY (fun q=>fi.2.1 ((hE v q).2 i oY)) (fun q=>fi.2.1 ((bB.mp ((qQ v).mp q)).2.2 i oY))
 have AQ:∀v,v≠i→(cf x.1 i (-2)).np v=x.1.np v:=fun v hv=>v0 hv;have o7:∀v,v∉rq→v≠i:=fun v hv e=>hv (e▸hi);have hc:∀v,v<5→(su i).count v=(nd v).count i:=fun v hv=>F.cnt v i hv fi.1;have IE:∀v,rJ nd (E++P) v=rJ nd (E++(P++[i])) v+(nd v).count i:=fun v=>by
  unfold rJ
  ((refine RW (Eg (nd v) (E++P) i OM) ?_);rewrite [List.append_assoc];rfl)
 have mA:x.1.su i=su i:=by(refine RW h.su rfl)
 have A:=on (su i) (cf x.1 i (-2),x.2) fun v hv=>by
  refine kT (m7 v hv) fun v5 oY AO vC=>?_;refine(?_:_≤(cf x.1 i (-2)).np v);exact RW (AQ v (o7 v vC))<|RW (h.np v v5 AO vC)<|RW (IE _)<|RW (hc v v5)<|Int.ofNat_le.mpr (Nat.le_add_left _ _)
 unfold cU;refine RW mA ⟨(nU _ _).trans h.su,fun v v5 AO vC=>?_,fun v hv T9=>?_,fun v=>?_,?_⟩
 ·refine RW (A.1 _) ?_
  refine(?_:(cf x.1 i (-2)).np v-_=_);refine RW (AQ v (o7 v vC))<|RW (h.np v v5 AO vC)<|RW (IE _)<|RW (hc v v5) ?_;lia
 ·refine RW (A.1 _) ?_
  refine(?_:(cf x.1 i (-2)).np v-_=_);have e:v≠i:=fun q=>T9 (q▸cY _ cw);have z:(su i).count v=0:=List.count_eq_zero.mpr fun q=>(m7 v q).2.2.2 hv
  ((refine RW (AQ v e) ?_);rewrite [h.rest v hv fun q=>T9 (List.mem_append_left _ q)];refine RW z ?_);rfl
 ·rw[A.2.1]
  refine(?_:v∈x.2∨(v∈su i∧(cf x.1 i (-2)).np v=_)↔_);constructor
  ·rintro(q|⟨q1,q2⟩)
   ·refine kT ((h.mem v).mp q) fun a b c d=>?_
    exact qU a b c (fun j hj=>by rw[←List.append_assoc];exact gu _ (d j hj))
   ·refine kT (m7 v q1) fun v5 oY AO vC=>(qU v5 AO vC (uN.mp ?_))
    rw[AQ v (o7 v vC),h.np v v5 AO vC,IE,hc v v5] at q2;lia
  ·rintro⟨v5,AO,vC,k8⟩
   refine EM (i∈nd v) (fun oY=>?_) fun oY=>?_
   ·refine .inr ⟨(F.iff v5 fi.1).mpr oY,?_⟩
    refine RW (AQ v (o7 v vC))<|RW (h.np v v5 AO vC)<|RW (IE _)<|RW (hc v v5)<|RW (uN.mpr k8) ?_;lia
   ·refine .inl ((h.mem v).mpr (qU v5 AO vC (fun j hj=>?_)))
    have:=k8 j hj;rw[←List.append_assoc,List.mem_append,List.mem_singleton] at this;exact this.resolve_right fun q=>oY (q▸hj)
 ·exact A.2.2 h.sY fun v hv q=>OM (((h.mem v).mp q).2.2.2 i (m7 v hv).2.1)
theorem Rd.fold{nd su:Nat→List Nat}(F:y7 su nd)(hE:∀v∈E,v<5∧∀j∈nd v,j∈E)(qQ:∀v,v∈rq↔v∈freeOf nd E):∀(l P:List Nat) (x:Gp×List Nat),Rd nd su E rq P x→(P++l).Nodup→(∀i∈l,i∈rq)→Rd nd su E rq (P++l) (l.foldl cU x)
 |[],P,x,h,_,_=>RW (cc _) h
 |i::l,P,x,h,hn,hl=>by
  have V5:(P++[i]++l).Nodup:=by rw[List.append_assoc];exact hn
  have hi:i∉P:=fun q=>(List.nodup_append.mp hn).2.2 i q i cw rfl;have:=Rd.fold F hE qQ l (P++[i]) (cU x i) (h.step F hE qQ (hl i cw) hi) V5 fun j hj=>hl j (dZ _ hj);rw[List.append_assoc] at this;exact this
structure Hd(nd su:Nat→List Nat)(E rq:List Nat)(g:Gp):Prop where
 su:g.su=su
 cl:∀v∈E,v<5∧∀j∈nd v,j∈E
 fr:∀v,v∈rq↔v∈freeOf nd E
 sY:rq.Nodup
 np:∀v,v<5→v∉E→g.np v=rJ nd E v
theorem yq(rq):∀(g:Gp),(iC g rq).su=g.su∧(∀v,v∉rq→(iC g rq).np v=g.np v)∧∀v∈rq,(iC g rq).np v=-1:=by
 induction rq with
 |nil=>exact fun g=>(cE rfl (fun _ _=>rfl) (fun v hv=>nomatch hv))
 |cons a rq ih=>
  intro g;refine gq (ih (cf g a (-1))) fun h1 h2 h3=>(cE h1 (fun v hv=>?_) (fun v hv=>?_))
  ·exact(h2 v fun q=>hv (dZ _ q)).trans (v0 fun e=>hv (e▸cw))
  ·refine EM (v∈rq) (fun c=>?_) fun c=>?_
   ·exact h3 v c
   ·have e:=(cW.mp hv).resolve_right c
    subst e;exact(h2 v c).trans (tW ..)
theorem Hd.rd{nd su:Nat→List Nat}(h:Hd nd su E rq g):Rd nd su E rq [] (iC g rq,[]):=by
 refine gq (yq rq g) fun h1 h2 h3=>⟨h1.trans h.su,fun v v5 AO vC=>?_,fun v hv _=>h3 v hv,fun v=>?_,jx⟩
 ·exact RW (cc _)<|(h2 v vC).trans (h.np v v5 AO)
 ·exact RW (cc _)<|Iff.intro (fun q=>(nomatch q)) fun⟨a,b,c,d⟩=>absurd ((h.fr v).mpr (bB.mpr (cE a b d))) c
theorem Hd.next{nd su:Nat→List Nat}(F:y7 su nd)(h:Hd nd su E rq g):Hd nd su (E++rq) (rq.foldl cU (iC g rq,[])).2 (rq.foldl cU (iC g rq,[])).1:=by
 have R:=Rd.fold F h.cl h.fr rq [] _ h.rd (RW (List.nil_append _) h.sY) fun i hi=>hi;rw[List.nil_append] at R;refine⟨R.su,fun v hv=>?_,fun v=>?_,R.sY,fun v v5 hv=>?_⟩
 ·refine aA (b9.mp hv) (fun q=>?_) fun q=>?_
  ·exact⟨(h.cl v q).1,fun j hj=>gu _ ((h.cl v q).2 j hj)⟩
  ·exact gq (bB.mp ((h.fr v).mp q)) fun a _ c=>⟨a,fun j hj=>gu _ (c j hj)⟩
 ·rw[R.mem,bB,List.mem_append]
  exact⟨fun⟨a,b,c,d⟩=>(cE a (fun q=>q.elim b c) d),fun⟨a,b,d⟩=>(qU a (fun q=>b (.inl q)) (fun q=>b (.inr q)) d)⟩
 ·exact R.np v v5 (fun q=>hv (gu _ q)) fun q=>hv (cY _ q)
theorem Hd.out{nd su:Nat→List Nat}(F:y7 su nd)(h:Hd nd su E rq g)(k i)(hk:rq[k]? =some i):((rq.take k).foldl cU (iC g rq,[])).1.np i=-1:=by
 have hs:rq=rq.take k++rq.drop k:=(List.take_append_drop k rq).symm;have R:=Rd.fold F h.cl h.fr (rq.take k) [] _ h.rd (RW (List.nil_append _)<|(List.take_sublist k rq).nodup h.sY) fun i hi=>List.mem_of_mem_take hi;refine R.rest i (db hk)<|RW (List.nil_append _) ?_;intro q;refine bf (List.getElem?_of_mem q) fun m hm=>?_;have Sm:=(fY.mp hm).1;rw[List.length_take] at Sm;rw[List.getElem?_take_of_lt (by lia)] at hm
 have:=(List.getElem?_inj (fY.mp hm).1 h.sY).mp (hm.trans hk.symm);lia
theorem BA(hk:k<5)(hj:j<5)(os):bR .Eq (ag k) (ag j) os=some (k==j):=by
 refine(?_:some (bq k==bq j)=_);refine RW (fU hk hj) rfl
theorem nM{l:List Nat}(hl:∀x∈l,x<5)(hj:j<5)(b)(os):bR .In (ag j) (.seq b (l.map ag)) os=some (l.contains j):=by
 refine(?_:(bL ((l.map ag).map fun y=>qT 8 y (ag j))).map (·.any id)=_);have e:(l.map ag).map (fun y=>qT 8 y (ag j))=(l.map fun k=>k==j).map some:=by
  refine RW iI<|RW iI<|vI fun k hk=>?_;refine(?_:some (bq k==bq j)=_);exact RW (fU (hl k hk) hj) rfl
 refine RW e<|RW (fb _)<|RW (na _ _)<|RW List.any_map ?_
 congr 1
 rw[Bool.eq_iff_iff,List.any_eq_true,List.contains_iff_mem];exact⟨fun⟨k,hk,q⟩=>by rw[←beq_iff_eq.mp (show(k==j)=true from q)];exact hk,fun h=>(aK j h (dT j))⟩
theorem ne_nil(l)(os):bR .NotEq (.seq false l) (.seq false []) os=some (!l.isEmpty):=by induction l using List.casesOn<;>rfl
theorem Ag(c:Nat→Bool)(G:V→List (V×V))(l:List Nat)(h:∀k∈l,G (ag k)=if c k=true then[(.none,ag k)] else[]):((l.map ag).flatMap G).map (·.2)=(l.filter c).map ag:=by
 induction l with
 |nil=>rfl
 |cons a l ih=>
  refine RW cV<|RW m4<|RW cz<|RW (ih fun k hk=>h k (dZ _ hk))<|RW jP<|RW (h a cw) ?_;split<;>rfl
def idx(v:V):Nat:=match v with
 |.str s=>if s==bq 0 then 0 else if s==bq 1 then 1 else if s==bq 2 then 2 else if s==bq 3 then 3 else 4
 |_=>5
theorem gA(h:k<5):idx (ag k)=k:=by
 rcases d7 h with rfl|rfl|rfl|rfl|rfl<;>rfl
def cG(c:Nat→Bool)(v:V):List (V×V):=if c (idx v)=true then[(.none,v)] else[]
theorem gg(c:Nat→Bool)(v):(cG c v).length≤1:=by
 unfold cG;split<;>first|exact bI _|exact c9 _
theorem mD(c:Nat→Bool)(l:List Nat)(h:∀k∈l,k<5):((l.map ag).flatMap (cG c)).map (·.2)=(l.filter c).map ag:=Ag c _ l fun k hk=>by unfold cG;(refine RW (gA (h k hk)) rfl)
theorem df(h:v∈ao):∃j,j<5∧v=ag j:=by
 unfold ao at h;simp only[List.mem_cons,List.not_mem_nil,or_false] at h;rcases h with rfl|rfl|rfl|rfl|rfl
 ·exact aK 0 (by decide) rfl
 ·exact aK 1 (by decide) rfl
 ·exact aK 2 (by decide) rfl
 ·exact aK 3 (by decide) rfl
 ·exact aK 4 (by decide) rfl
theorem tF(c:Nat→Bool):(ao.flatMap (cG c)).map (·.2)=((List.range 5).filter c).map ag:=mD c (List.range 5) fun k hk=>gE.mp hk
noncomputable def ti(nd cl:Nat→List Nat)(i j:Nat):Bool:=(nd i).any fun k=>k==j||(cl k).contains j
def A7(nd cl:Nat→List Nat)(i:Nat):List Nat:=(List.range 5).filter (ti nd cl i)
theorem DO(hs:bt aG){os}{nd cl}{i}(h4:bn os (.ref 4) (ag i)=some (.seq false ((nd i).map ag)))(h5:∀k∈nd i,k<5∧bn os (.ref 5) (ag k)=some (.seq false ((cl k).map ag))∧∀x∈cl k,x<5)(hl:(nd i).length≤ax){Q}(hQ:∀l,Q (ao.flatMap (cG (ti nd cl i))) ⟨Nq i++l,os⟩):
  (ay aG).co ⟨bS gJ,11⟩ none (dX gJ) (.Name (nm "one") ⟨978,35,978,38⟩) (dW gJ) (.seq false ao) (0,0) 0 ⟨Nq i,os⟩ [] Q:=by
 refine ci (sm:=aG) hs (C:=⟨bS gJ,11⟩) (cG (ti nd cl i)) (by decide) (by kernel_rfl) (by kernel_rfl) (br _ _ _) (by decide) (fun v _=>gg _ v) (fun v hv ai R ca hR=>?_) hQ
 refine aq (df hv) fun j hj aa=>?_;subst aa;refine Eq.mp (U4 os ai R i j)<|RW h4<|RW (aw _ _)<|aC rfl ?_;have ET:((nd i).map ag).length≤ax:=by exact RW (bW _) hl
 refine ci (sm:=aG) hs (C:=⟨bS lZ,11⟩) (cs:=[(nm "given",.ref 5),(nm "one",ag j)]) (cG fun k=>k==j||(cl k).contains j) (by decide) (by kernel_rfl) rfl (br _ _ _) ET (fun v _=>gg _ v) (fun v hv cP R' lX vw=>?_) fun l=>?_
 ·refine aq (eA.mp hv) fun k hk aa=>?_;subst aa
  refine gq (h5 k hk) fun k5 Jw Wz=>Eq.mp (U3 os cP R' j k)<|RW (BA k5 hj _)<|RW (aw _ _) ?_;unfold cG at vw;rw[gA k5] at vw;have vw:R' _ (cP++if(k==j||(cl k).contains j)=true then[(.none,ag k)] else[]):=vw
  cases q:(k==j) with
  |true=>
   refine RW (aB rfl) ?_;rw[if_pos (by exact RW q rfl)] at vw
   exact⟨lX,vw⟩
  |false=>
   refine RW (au (by decide))<|RW Jw<|RW (aw _ _)<|RW (nM Wz hj _ _)<|RW (aw _ _) ?_
   split
   ·rename_i c;rw[if_pos (by exact RW q<|RW c rfl)] at vw;exact⟨lX,vw⟩
   ·rename_i c;rw[if_neg (by exact RW q<|RW (Bool.false_or _) c),List.append_nil] at vw;exact vw
 ·refine RW (mD _ _ fun k hk=>(h5 k hk).1)<|aC ?_ ?_
  ·exact RW (bW _)<|bZ (gw _ _) hl
  ·refine RW (ne_nil _ _)<|RW (aw _ _) ?_
   have e:(!(((nd i).filter fun k=>k==j||(cl k).contains j).map ag).isEmpty)=ti nd cl i j:=by
    unfold ti
    (rewrite [Bool.eq_iff_iff];refine RW (m3 _) ?_;rewrite [List.any_eq_true])
    constructor
    ·intro h
     cases q:(nd i).filter fun k=>k==j||(cl k).contains j with
     |nil=>rw[q] at h;exact tt h
     |cons a r=>
      have:=pe.mp (q▸(cw:a∈a::r));exact aK a this.1 this.2
    ·rintro⟨a,ha,hc⟩
     have:a∈(nd i).filter fun k=>k==j||(cl k).contains j:=pe.mpr ⟨ha,hc⟩;cases q:(nd i).filter fun k=>k==j||(cl k).contains j with
     |nil=>rw[q] at this;cases this
     |cons a r=>rfl
   refine RW e ?_;unfold cG at hR;rw[gA hj] at hR;split
   ·rename_i c;rw[if_neg (by refine RW c ?_;decide),List.append_nil] at hR;exact hR
   ·rename_i c;rw[if_pos (by simpa using c)] at hR;exact⟨ca,hR⟩
section
def fD(cl:Nat→List Nat)(ks:List Nat):List (Tx×V):=ks.map fun k=>(bq k,.seq false ((cl k).map ag))
theorem mL:∀{ks:List Nat},k<5→(∀x∈ks,x<5)→k∈ks→((fD cl ks).find? fun e=>e.1==bq k).map (·.2)=some (.seq false ((cl k).map ag))
 |a::ks,hk,h5,hm=>by
  refine(?_:(List.find? _ ((bq a,V.seq false ((cl a).map ag))::fD cl ks)).map _=_);refine EM (a=k) (fun e=>?_) fun e=>?_
  ·subst e;(refine RW (List.find?_cons_of_pos (by refine(?_:(bq a==bq a)=true);exact dT _)) ?_);rfl
  ·(refine RW (List.find?_cons_of_neg (by refine(?_:¬(bq a==bq k)=true);((refine RW (fU (h5 a cw) hk) ?_);rewrite [beq_iff_eq]);exact e)) ?_)
   exact mL hk (fun x hx=>h5 x (dZ _ hx)) ((cW.mp hm).resolve_left fun q=>e q.symm)
theorem wk:∀{ks:List Nat},k<5→(∀x∈ks,x<5)→k∉ks→dJ (fD cl ks) (bq k) (.seq false ((cl k).map ag))=fD cl (ks++[k])
 |[],_,_,_=>rfl
 |a::ks,hk,h5,hm=>by
  have e:a≠k:=fun q=>hm (q▸cw);refine(?_:(if(bq a==bq k)=true then _ else(bq a,V.seq false ((cl a).map ag))::dJ (fD cl ks) (bq k) _)=_)
  ((refine RW (fU (h5 a cw) hk)<|RW (au (by rw[beq_iff_eq];exact e)) ?_);rewrite [wk hk (fun x hx=>h5 x (List.mem_cons_of_mem _ hx)) fun q=>hm (List.mem_cons_of_mem _ q)])
  rfl
section
variable{o0 o6:O}{po fi:Int}{g:Gp}{rq:List Nat}{rv:List V}{t:List O}{nd cl:Nat→List Nat}{ls rs:List V}{Q:Fl→St→Prop}{b:V}{rg:Bool}{ep:Option Nat}
theorem UX(es)(i)(v)(o4)(k):(es.length<ax∧k (HV o0 o4 (.dict (dJ es (bq i) v) (EY es (bq i) ep)) o6 po fi g rv t))=gM (.ref 5) (ag i) v (HV o0 o4 (.dict es ep) o6 po fi g rv t) k:=by kernel_rfl
theorem T5(es)(k)(o4):bn (HV o0 o4 (.dict es ep) o6 po fi g rv t) (.ref 5) (ag k)=(es.find? fun e=>e.1==bq k).map (·.2):=by kernel_rfl
theorem VA(k)(hk:k<5)(o5):bn (HV o0 (.dict (eC nd) none) o5 o6 po fi g rv t) (.ref 4) (ag k)=some (.seq false ((nd k).map ag)):=by
 rcases d7 hk with rfl|rfl|rfl|rfl|rfl<;>kernel_rfl
theorem GW(hs:bt aG)(hE:∀v∈E,v<5)(Nm:∀v∈ms,v<5∧v∉E∧∀j∈nd v,j∈E)(hn:ms.Nodup)(RJ:E.length≤5)(j7:∀i,(nd i).length≤ax)(jC:∀i,i<5→cl i=A7 nd cl i)
  (hQ:∀a ep,Q .next ⟨fy rg a b (ms.map ag),HV o0 (.dict (eC nd) none) (.dict (fD cl (E++ms)) ep) o6 po fi g rv t⟩):
  (ay aG).fo (cx 937 11) Bm xW (.seq true (ms.map ag)) (0,0) 0 ⟨fy rg a b (ms.map ag),HV o0 (.dict (eC nd) none) (.dict (fD cl E) ep) o6 po fi g rv t⟩ (a8 Q):=by
 have Tq:∀i x,i<5→x∈cl i→x<5:=fun i x hi hx=>by
  rw[jC i hi] at hx;exact gE.mp (pe.mp hx).1
 refine dp (sm:=aG) hs (vs:=ms.map ag) (fun k st=>∃a ep,st=⟨fy rg a b (ms.map ag),HV o0 (.dict (eC nd) none) (.dict (fD cl (E++ms.take k)) ep) o6 po fi g rv t⟩) (by decide) (fun{k st} _=>rfl) (fun{k v st} R hv hI hR=>?_) (fun{st} hI=>?_) (s7 a ep (by(refine RW List.take_zero<|RW (cc _) rfl)))
 ·rw[List.getElem?_map] at hv
  refine aq (eG.mp hv) fun i hi aa=>?_;subst aa;refine vG hI fun a ep aa=>?_;clear hI;subst aa;have Wk:=db hi;refine gq (Nm i Wk) fun i5 Wl oY=>?_;have h5:∀x∈E++ms.take k,x<5:=fun x hx=>(b9.mp hx).elim (hE x) fun q=>(Nm x (List.mem_of_mem_take q)).1;have m7:i∉E++ms.take k:=fun q=>(b9.mp q).elim Wl fun q=>by
   refine bf (List.getElem?_of_mem q) fun m hm=>?_;have Sm:=(fY.mp hm).1;rw[List.length_take] at Sm;rw[List.getElem?_take_of_lt (by lia)] at hm
   have:=(List.getElem?_inj (fY.mp hm).1 hn).mp (hm.trans hi.symm);lia
  have Xh:ms.length≤5:=fk 5 ms hn fun x hx=>(Nm x hx).1;refine Eq.mp (Ra _ _ a b rg _ _) (Eq.mp (U5 _ _ b rg _ i) ?_);refine DO hs (nd:=nd) (cl:=cl) (VA i i5 _) (fun k hk=>?_) (j7 i) fun l=>?_
  ·have RD:=oY k hk
   exact cE (hE k RD) (by rw[T5];exact mL (hE k RD) h5 (gu _ RD)) (fun x hx=>Tq k x (hE k RD) hx)
  ·refine RW (tF _) ?_
   refine aC (by refine RW (bW _) ?_;exact bZ (gw _ _) (by decide)) ?_
   refine Eq.mp (UX _ i _ _ _) ⟨?_,?_⟩
   ·unfold fD
    exact RW (bW _)<|RW b4<|RW List.length_take<|dy (show _≤10 by lia) (by decide)
   ·refine(?_:bJ R (a8 Q) .next _)
    refine hR (s7 (ag i) (EY (fD cl (E++ms.take k)) (bq i) ep) ?_);have e:dJ (fD cl (E++ms.take k)) (bq i) (.seq false (((List.range 5).filter (ti nd cl i)).map ag))=fD cl (E++ms.take (k+1)):=by
     (rewrite [show(List.range 5).filter (ti nd cl i)=cl i from(jC i i5).symm];refine RW (wk i5 h5 m7) ?_;rewrite [List.append_assoc];refine RW kY<|RW hi ?_);rfl
    refine RW e rfl
 ·refine vG hI fun a ep aa=>?_;clear hI;subst aa
  exact RW (bW _)<|RW ph<|hQ a ep
end
end
section
section
variable{o0 o6:O}{po fi:Int}{g:Gp}{rq:List Nat}{rv:List V}{t:List O}{nd su cl:Nat→List Nat}{ls rs:List V}{Q:Fl→St→Prop}{a b:V}{rg:Bool}{ep:Option Nat}{E:List Nat}{l:List (Str×V)}
theorem Ph(o4 o5):dE (HV o0 o4 o5 (.list rs) po fi g rv t) (.ref 6)=some 1:=by kernel_rfl
theorem TD(o4 o5)(v)(K:V→List O→Prop):(rs.length<ax∧K .none (HV o0 o4 o5 (.list (rs++[v])) po fi g rv t))=gl 6 v (HV o0 o4 o5 (.list rs) po fi g rv t) K:=by kernel_rfl
theorem Db(hs:bt aG){ms:List Nat}{os:List O}(Nm:∀v∈ms,v<5){Q:List (V×V)→St→Prop}(hQ:∀l,Q (ao.flatMap (cG ms.contains)) ⟨[(nm "ready",.seq true (ms.map ag))]++l,os⟩):
  (ay aG).co ⟨bS iT,11⟩ none (dX iT) (.Name (nm "name") ⟨979,32,979,36⟩) (dW iT) (.seq false ao) (0,0) 0 ⟨[(nm "ready",.seq true (ms.map ag))],os⟩ [] Q:=by
 refine ci (sm:=aG) hs (C:=⟨bS iT,11⟩) (cG ms.contains) (by decide) (by kernel_rfl) rfl (br _ _ _) (by decide) (fun v _=>gg _ v) (fun v hv ai R ca hR=>?_) hQ
 refine aq (df hv) fun j hj aa=>?_;subst aa;refine Eq.mp (U2 os ai R _ j)<|RW (nM Nm hj _ _)<|RW (aw _ _) ?_;unfold cG at hR;rw[gA hj] at hR;split
 ·rename_i c;rw[if_neg (by refine RW c ?_;decide),List.append_nil] at hR;exact hR
 ·rename_i c;rw[if_pos (by simpa using c)] at hR;exact⟨ca,hR⟩
def Jp(o0:O)(nd cl:Nat→List Nat)(rg:Bool)(a b:V)(l:List (Str×V))(E:List Nat)(ep:Option Nat)(rs:List V)(po:Int)(g:Gp)(rq:List Nat):St:=⟨d9 rg a b++l,HR o0 (.dict (eC nd) none) (.dict (fD cl E) ep) (.list rs) po po g rq []⟩
def rQ(ms:List Nat):V:=.seq false (((List.range 5).filter ms.contains).map ag)
theorem FR(hs:bt aG)(F:y7 su nd)(H:Hd nd su E rq g)(RJ:E.length≤5)(j7:∀i,(nd i).length≤ax)(jC:∀i,i<5→cl i=A7 nd cl i)(Sh:rs.length<ax)(mA:(rq.map fun i=>(su i).length).sum<ax)(hl:l=[]∨∃u,l=[(nm "ready",u)])
  (hQ:∀a ep,Q .next (Jp o0 nd cl rg a b [(nm "ready",.seq true (rq.map ag))] (E++rq) ep (rs++[rQ rq]) (po+rq.length) (rq.foldl cU (iC g rq,[])).1 (rq.foldl cU (iC g rq,[])).2)):
  (M aG).ex (cx 937 11) dk (Jp o0 nd cl rg a b l E ep rs po g rq) Q:=by
 have qQ:∀v∈rq,v<5∧v∉E∧∀j∈nd v,j∈E:=fun v hv=>bB.mp ((H.fr v).mp hv);have VW:rq.length≤5:=fk 5 rq H.sY fun x hx=>(qQ x hx).1;have TU:(iC g rq).su=su:=(yq rq g).1.trans H.su;have z3:∀a ep,(M aG).ex (cx 937 11) (dk.drop 3) ⟨fy rg a b (rq.map ag),HR o0 (.dict (eC nd) none) (.dict (fD cl (E++rq)) ep) (.list (rs++[rQ rq])) (po+rq.length) po (iC g rq) [] []⟩ Q:=fun a ep=>by
  refine bY 39 3 (by kernel_rfl) (Eq.mp (r3 o0 _ _ _ _ po _ [] [] _ a b rg _) ?_)
  refine⟨rfl,o0,_,_,_,_,po,iC g rq,[],[],rq,by(refine RW (cc _) rfl),rfl,fun i hi=>(qQ i hi).1,fun n v hn hv=>F.Rj n v hn (RS TU hv),bZ (show rq.length+1≤6 by exact(Nat.succ_le_succ VW)) (by decide),?_,H.out F,?_⟩
  ·exact RW TU<|RW List.length_nil<|RW (Nat.zero_add _) mA
  ·refine aj (k:=fun st=>(M aG).ex (cx 937 11) (dk.drop 4) st Q) (Q:=Q) ?_
   have e:∀st,Q .next st=(M aG).ex (cx 937 11) (dk.drop 4) st Q:=fun st=>by kernel_rfl
   exact Eq.mp (e _) (hQ a ep)
 have z2:∀a ep,(M aG).ex (cx 937 11) (dk.drop 2) ⟨fy rg a b (rq.map ag),HR o0 (.dict (eC nd) none) (.dict (fD cl (E++rq)) ep) (.list rs) (po+rq.length) po (iC g rq) [] []⟩ Q:=fun a ep=>by
  refine bY 39 2 (by kernel_rfl) (Eq.mp (r2 o0 _ _ _ po _ [] [] rs _ a b rg _) ?_)
  refine Db hs (fun v hv=>(qQ v hv).1) fun l=>RW (tF _) ?_;refine aC (by refine RW (bW _) ?_;exact bZ (gw _ _) (by decide)) (aC (Ph _ _) (Eq.mp (TD _ _ _ _) ⟨Sh,?_⟩))
  exact aj (k:=fun st=>(M aG).ex (cx 937 11) (dk.drop 3) st Q) (Q:=Q) (z3 a ep)
 have z1:bD (fun st=>(M aG).ex (cx 937 11) (dk.drop 1) st Q) Q .next ⟨fy rg a b (rq.map ag),HR o0 (.dict (eC nd) none) (.dict (fD cl E) ep) (.list rs) (po+rq.length) po (iC g rq) [] []⟩:=by
  refine aj (k:=fun st=>(M aG).ex (cx 937 11) (dk.drop 1) st Q) (Q:=Q) (bY 39 1 (by kernel_rfl) (Eq.mp (r1 _ _ a b rg _) ?_))
  exact GW hs (fun v hv=>(H.cl v hv).1) qQ H.sY RJ j7 jC fun a ep=>aj (k:=fun st=>(M aG).ex (cx 937 11) (dk.drop 2) st Q) (Q:=Q) (z2 a ep)
 unfold Jp;refine bo 39 1 ?_;rcases hl with rfl|⟨u,rfl⟩
 ·exact RW (cc _)<|Eq.mp (r0 o0 _ _ _ po po g rq [] _ a b rg) ⟨rfl,rfl,o0,_,_,_,po,po,g,rq,[],rfl,fun i hi=>(qQ i hi).1,z1⟩
 ·exact Eq.mp (U6 o0 _ _ _ po po g rq [] _ u a b rg) ⟨rfl,rfl,o0,_,_,_,po,po,g,rq,[],rfl,fun i hi=>(qQ i hi).1,z1⟩
end
end
section
noncomputable def pJ(nd:Nat→List Nat):Nat→List Nat→List (List Nat)
 |0,_=>[]
 |n+1,E=>if freeOf nd E=[] then[] else freeOf nd E::pJ nd n (E++freeOf nd E)
noncomputable def fq(nd:Nat→List Nat):Nat→List Nat→List Nat
 |0,E=>E
 |n+1,E=>if freeOf nd E=[] then E else fq nd n (E++freeOf nd E)
def mx(E E':List Nat):Prop:=∀x,x∈E↔x∈E'
theorem eO(h:mx E E')(x:Nat):E.contains x=E'.contains x:=by
 rw[Bool.eq_iff_iff,List.contains_iff_mem,List.contains_iff_mem];exact h x
theorem Ae(h:mx E E'):freeOf nd E=freeOf nd E':=by
 unfold freeOf;refine List.filter_congr fun i _=>RW (eO h _) ?_
 congr 1
 rw[Bool.eq_iff_iff,List.all_eq_true,List.all_eq_true];exact⟨fun q j hj=>by refine RS (eO h _) ?_;exact q j hj,fun q j hj=>RW (eO h _)<|q j hj⟩
theorem uc(h:mx E E')(h':mx D D'):mx (E++D) (E'++D'):=fun x=>by
 rw[List.mem_append,List.mem_append,h x,h' x]
theorem yO:∀(n:Nat) {E E':List Nat},mx E E'→pJ nd n E=pJ nd n E'∧mx (fq nd n E) (fq nd n E')
 |0,_,_,h=>⟨rfl,h⟩
 |n+1,E,E',h=>by
  unfold pJ fq;refine RW (Ae h) ?_;split
  ·exact⟨rfl,h⟩
  ·have:=yO (nd:=nd) n (uc h (fun x=>Iff.rfl:mx (freeOf nd E') (freeOf nd E')))
   exact⟨by(refine RW this.1 rfl),this.2⟩
theorem Dc{nd:Nat→List Nat}{E rq:List Nat}(h:∀v,v∈rq↔v∈freeOf nd E):(List.range 5).filter rq.contains=freeOf nd E:=by
 unfold freeOf;refine List.filter_congr fun i hi=>?_;have:=h i;rw[bB] at this
 (rewrite [Bool.eq_iff_iff];rewrite [List.contains_iff_mem];rewrite [this];refine RW (Bool.and_eq_true _ _)<|RW (m3 _) ?_;rewrite [List.all_eq_true];refine RS (Bool.not_eq_true _) ?_;rewrite [List.contains_iff_mem])
 simp only[List.contains_iff_mem];exact⟨fun q=>⟨q.2.1,q.2.2⟩,fun q=>(cE (gE.mp hi) q.1 q.2)⟩
def be(l:List Nat):V:=.seq false (l.map ag)
section
variable{o0:O}{nd su cl:Nat→List Nat}{Q:Fl→St→Prop}{a b:V}{rg:Bool}
theorem tU(hs:bt aG)(F:y7 su nd)(j7:∀i,(nd i).length≤ax)(jC:∀i,i<5→cl i=A7 nd cl i)(mA:∀ms:List Nat,ms.length≤5→(ms.map fun i=>(su i).length).sum<ax):∀(n:Nat) {E rq:List Nat} {g:Gp} {po:Int} {rs:List V} {ep:Option Nat} {l:List (Str×V)} {a:V},5<n+E.length→Hd nd su E rq g→E.Nodup→rs.length+n<ax→(l=[]∨∃u,l=[(nm "ready",u)])→
  (∀E' g' Nc sZ l' a',mx E' (fq nd n E)→Hd nd su E' [] g'→Q .next (Jp o0 nd cl rg a' b l' E' sZ (rs++(pJ nd n E).map be) Nc g' []))→
  (ay aG).wh (cx 937 11) (dY A0) dk [] (Jp o0 nd cl rg a b l E ep rs po g rq) Q
 |0,E,rq,g,po,rs,ep,l,a,hn,H,hE,_,_,_=>by
  have:=fk 5 E hE fun x hx=>(H.cl x hx).1;lia
 |n+1,E,rq,g,po,rs,ep,l,a,hn,H,hE,Sh,hl,hQ=>by
  have RJ:E.length≤5:=fk 5 E hE fun x hx=>(H.cl x hx).1;have qQ:=Dc H.fr;refine(bV (sm:=aG) hs 40).wh (Eq.mp (O1 o0 _ _ _ po po g rq [] Q a b l rg) ?_);refine⟨rfl,rfl,o0,_,_,_,po,g,rq,[],rfl,?_⟩;refine(?_:(if(!rq.isEmpty)=true then _ else _))
  induction rq using List.casesOn with
  |nil=>
   refine RW (au (by decide)) ?_
   have hf:freeOf nd E=[]:=qQ.symm.trans (List.filter_eq_nil_iff.mpr fun x _=>by simp)
   have z:=hQ E g po ep l a (by unfold fq;exact RW (aB hf)<|fun x=>Iff.rfl) H
   unfold pJ at z;rw[if_pos hf,List.map_nil,List.append_nil] at z;exact z
  |cons x xs=>
   refine RW (aB (show(!(x::xs).isEmpty)=true from rfl)) ?_;have hf:freeOf nd E≠[]:=fun q=>by
    have:=(H.fr x).mp cw;rw[q] at this;cases this
   have pv:mx (x::xs) (freeOf nd E):=H.fr;have Tm:∀v∈x::xs,v∉E:=fun v hv=>(bB.mp ((H.fr v).mp hv)).2.1;have WE:(E++(x::xs)).Nodup:=by
    rw[List.nodup_append];exact cE hE H.sY (fun u hu v hv e=>Tm v hv (e▸hu))
   refine FR hs F H RJ j7 jC ((dy (iL _ _) Sh)) (mA _ (fk 5 _ H.sY fun v hv=>(bB.mp ((H.fr v).mp hv)).1)) hl fun a ep=>?_;refine tU hs F j7 jC mA n (by refine RW b4<|RW eR ?_;lia) (H.next F) WE (by refine RW b4<|RW List.length_singleton ?_;lia) (.inr ⟨_,rfl⟩) fun E' g' Nc sZ l' a' h1 h2=>?_
   have D:=yO (nd:=nd) n (uc (fun x=>Iff.rfl:mx E E) pv);have z:=hQ E' g' Nc sZ l' a' (by unfold fq;exact RW (au hf)<|fun y=>(h1 y).trans (D.2 y)) h2
   unfold pJ at z;rw[if_neg hf,List.map_cons,←D.1] at z;have e:rQ (x::xs)=be (freeOf nd E):=by unfold rQ be;(refine RW qQ rfl)
   ((refine RW e ?_);rewrite [List.append_assoc])
   exact z
end
end
structure Gi(x:Gp×(Nat→List Nat)):Prop where
 np:∀i,i<5→x.1.np i=(x.2 i).length
 fit:y7 x.1.su x.2
theorem qo(w):∀(js:List Nat) (g:Gp),(js.foldl (fQ w) g).np=g.np∧(∀i j,((js.foldl (fQ w) g).su j).count i=(g.su j).count i+(if i=w then js.count j else 0))∧∀j v,v∈(js.foldl (fQ w) g).su j→v∈g.su j∨v=w
 |[],g=>(cE rfl (fun i j=>by simp) (fun j v h=>.inl h))
 |a::js,g=>by
  refine gq (qo w js (fQ w g a)) fun h1 h2 h3=>?_;have mA:∀j,(fQ w g a).su j=if j=a then g.su a++[w] else g.su j:=fun j=>rfl
  refine cE h1 (fun i j=>?_) (fun j v hv=>?_)
  ·refine RW qZ<|RW (h2 _ _)<|RW (mA _)<|EM (j=a) (fun e=>?_) fun e=>?_
   ·subst e
    refine RW (aB rfl)<|RW List.count_append<|RW List.count_cons_self<|EM (i=w) (fun q=>?_) fun q=>?_
    ·subst q
     refine RW (aB rfl)<|RW (aB rfl)<|RW List.count_cons_self<|RW List.count_nil ?_;lia
    ·refine RW (au q)<|RW (au q)<|RW (List.count_cons_of_ne (Ne.symm q))<|RW List.count_nil rfl
   ·refine RW (au e)<|RW (List.count_cons_of_ne (Ne.symm e)) rfl
  ·refine aA (h3 j v hv) (fun q=>?_) fun q=>?_
   ·rw[mA] at q
    split at q
    ·rename_i e;subst e
     refine aA (b9.mp q) (fun q=>?_) fun q=>?_
     ·exact .inl q
     ·exact .inr (dw.mp q)
    ·exact .inl q
   ·exact .inr q
theorem Gi.read(h:Gi x)(hw:w<5)(its):Gi (dC w x its):=by
 refine gq (qo w (mn its w) ⟨oZ x.1.np w (x.1.np w+(mn its w).length),x.1.su⟩) fun h1 h2 h3=>?_;have j7:∀i,(dC w x its).2 i=if i=w then x.2 w++mn its w else x.2 i:=fun i=>rfl
 refine⟨fun i hi=>?_,fun i j hi hj=>?_,fun i j hi hj=>?_,fun n v hn hv=>?_⟩
 ·refine(?_:(mw x.1 w (mn its w)).np i=_)
  unfold mw;refine RW h1<|RW (j7 _) ?_;refine(?_:oZ x.1.np w _ i=_);refine EM (i=w) (fun e=>?_) fun e=>?_
  ·subst e;(rewrite [tW];refine RW (aB rfl)<|RW (h.np i hi)<|RW b4 ?_);rfl
  ·refine RW (v0 e)<|RW (au e)<|RW (h.np i hi) rfl
 ·refine(?_:((mw x.1 w (mn its w)).su j).count i=_)
  unfold mw;refine RW (h2 _ _)<|RW (j7 _) ?_;refine(?_:(x.1.su j).count i+_=_);refine RW (h.fit.cnt i j hi hj)<|EM (i=w) (fun e=>?_) fun e=>?_
  ·subst e;(refine RW (aB rfl)<|RW (aB rfl)<|RW List.count_append rfl)
  ·exact RW (au e)<|RW (au e) rfl
 ·rw[j7] at hj
  split at hj
  ·rename_i e;subst e
   refine aA (b9.mp hj) (fun q=>?_) fun q=>?_
   ·exact h.fit.Rq _ j hi q
   ·exact Ci q
  ·exact h.fit.Rq i j hi hj
 ·have hv:v∈(mw x.1 w (mn its w)).su n:=hv
  unfold mw at hv;refine aA (h3 n v hv) (fun q=>?_) fun q=>?_
  ·exact h.fit.Rj n v hn q
  ·exact RW q hw
theorem Gi.reads(hw:w<5):∀(cA:List (List Item)) {x:Gp×(Nat→List Nat)},Gi x→Gi (cA.foldl (dC w) x)
 |[],_,h=>h
 |p::ps,_,h=>Gi.reads hw ps (h.read hw p)
abbrev Ln:=Nat×List (List Item)
def iu(x:Gp×(Nat→List Nat))(L:Ln):Gp×(Nat→List Nat):=L.2.foldl (dC L.1) x
noncomputable def x0:Gp×(Nat→List Nat):=(⟨fun _=>0,fun _=>[]⟩,fun _=>[])
theorem Uq:Gi x0:=⟨fun _ _=>rfl,fun _ _ _ _=>rfl,fun _ _ _ h=>(nomatch h),fun _ _ _ h=>(nomatch h)⟩
theorem Gi.all:∀(Ls:List Ln) {x:Gp×(Nat→List Nat)},(∀L∈Ls,L.1<5)→Gi x→Gi (Ls.foldl iu x)
 |[],_,_,h=>h
 |L::Ls,_,hL,h=>Gi.all Ls (fun M hM=>hL M (dZ _ hM)) (Gi.reads (hL L cw) L.2 h)
theorem Gi.head(h:Gi x):Hd x.2 x.1.su [] (pb x.1) x.1:=by
 have hc:∀i,rJ x.2 [] i=(x.2 i).length:=fun i=>by
  unfold rJ
  congr 1
  exact List.filter_eq_self.mpr fun a _=>rfl
 refine⟨rfl,fun v hv=>(nomatch hv),fun v=>?_,?_,fun v v5 _=>by(refine RW (hc _)<|RW (h.np v v5) rfl)⟩
 ·unfold pb
  rw[List.mem_filter,List.mem_range,bB,beq_iff_eq];constructor
  ·rintro⟨a,b⟩
   rw[h.np v a] at b;have:x.2 v=[]:=List.eq_nil_of_length_eq_zero (by lia)
   exact cE a (fun q=>nomatch q) (fun j hj=>by rw[this] at hj;exact hj)
  ·rintro⟨a,_,c⟩
   refine⟨a,?_⟩;refine RW (h.np v a) ?_;cases q:x.2 v with
   |nil=>rfl
   |cons y ys=>exact absurd (c y (RW q cw)) (fun q=>nomatch q)
 ·unfold pb;exact List.nodup_range.filter _
theorem qI(F:y7 su nd)(h:kr su):∀(n:Nat) (E:List Nat),(∃C:List Nat,C≠[]∧(∀y∈C,y<5∧∃x∈C,y∈su x)∧∀y∈C,y∉E)→∃y,y<5∧y∉fq nd n E
 |0,E,⟨C,h1,h2,h3⟩=>by
  exact bf (List.exists_mem_of_ne_nil C h1) fun y hy=>(aK y (h2 y hy).1 (h3 y hy))
 |n+1,E,⟨C,h1,h2,h3⟩=>by
  unfold fq;split
  ·exact bf (List.exists_mem_of_ne_nil C h1) fun y hy=>(aK y (h2 y hy).1 (h3 y hy))
  ·refine qI F h n _ (lL C h1 h2 (fun y hy q=>?_))
   refine aA (b9.mp q) (fun q=>?_) fun q=>?_
   ·exact h3 y hy q
   ·refine aq (h2 y hy).2 fun x hx hs=>?_
    have:=(bB.mp q).2.2 x ((F.iff (h2 y hy).1 (h2 x hx).1).mp hs);exact h3 x hx this
theorem sub_len:∀(l l':List Nat),l.Nodup→(∀x∈l,x∈l')→l.length≤l'.length
 |[],_,_,_=>c9 _
 |a::l,l',hn,h=>by
  have ha:=h a cw;have:=sub_len l (l'.erase a) (pf.mp hn).2 fun x hx=>(List.mem_erase_of_ne (show x≠a from fun e=>(pf.mp hn).1 (RS e hx))).mpr (h x (dZ _ hx));rw[List.length_erase_of_mem ha] at this;have:=List.length_pos_of_mem ha;refine RW eR ?_;lia
theorem uB(nd)(E):(freeOf nd E).Nodup:=List.nodup_range.filter _
theorem r8:∀(n:Nat) (E:List Nat),E.Nodup→(∀x∈E,x<5)→5<n+E.length→freeOf nd (fq nd n E)=[]∧(∀x∈E,x∈fq nd n E)∧(fq nd n E).Nodup∧∀x∈fq nd n E,x<5
 |0,E,hn,h5,hl=>by
  have:=fk 5 E hn h5;lia
 |n+1,E,hn,h5,hl=>by
  unfold fq;split
  ·rename_i c;exact(qU c (fun x hx=>hx) hn h5)
  ·rename_i c
   have OL:0<(freeOf nd E).length:=List.length_pos_iff.mpr c;have h:=r8 (nd:=nd) n (E++freeOf nd E) (by
    rw[List.nodup_append];exact(cE hn (uB nd E) (fun a ha b hb e=>(bB.mp hb).2.1 (e▸ha)))) (fun x hx=>(b9.mp hx).elim (h5 x) fun q=>(bB.mp q).1) (by refine RW b4 ?_;lia)
   exact cE h.1 (fun x hx=>h.2.1 x (gu _ hx)) h.2.2
theorem sh(F:y7 su nd)(hb:nB su b)(k8:∀x,x<5→x∈b)(hE:freeOf nd E=[]):∀(k m:Nat),m+k=b.length→∀y,y<5→y∉b.take m→y∈E
 |0,m,hm,y,y5,hy=>by
  have:m=b.length:=hm;subst this;rw[List.take_length] at hy;exact absurd (k8 y y5) hy
 |k+1,m,hm,y,y5,hy=>by
  refine EM (y∈b.take (m+1)) (fun c=>?_) fun c=>?_
  ·have LH:∀v∈nd y,v∈E:=fun v hv=>by
    have v5:=F.Rq y v y5 hv;refine sh F hb k8 hE k (m+1) (by lia) v v5 fun q=>bf (List.getElem?_of_mem q) fun p hp=>?_
    have Nk:=(fY.mp hp).1;rw[List.length_take] at Nk;rw[List.getElem?_take_of_lt (by lia)] at hp
    have T6:=hb p v hp y ((F.iff y5 v5).mpr hv);refine hy ?_;have e:b.take p=(b.take m).take p:=by(refine RW List.take_take<|RW (Nat.min_eq_left (by lia)) rfl)
    rw[e] at T6;exact List.mem_of_mem_take T6
   refine EM (y∈E) (fun d=>?_) fun d=>?_
   ·exact d
   ·have:y∈freeOf nd E:=bB.mpr (cE y5 d LH)
    rw[hE] at this;cases this
  ·exact sh F hb k8 hE k (m+1) (by lia) y y5 c
theorem KE(F:y7 su nd)(h:∃b,nB su b∧∀x,x<5→x∈b):∀y,y<5→y∈fq nd 6 []:=by
 refine aq h fun b h1 h2=>?_;intro y y5;have hd:=r8 (nd:=nd) 6 [] jx (fun x hx=>nomatch hx) (by decide)
 exact sh F h1 h2 hd.1 b.length 0 (Nat.zero_add _) y y5 (RW List.take_zero<|fun q=>nomatch q)
theorem ud(F:y7 su nd):((∃b,nB su b∧∀x,x<5→x∈b)→decide ((fq nd 6 []).length<5)=false)∧(kr su→decide ((fq nd 6 []).length<5)=true):=by
 have hd:=r8 (nd:=nd) 6 [] jx (fun x hx=>nomatch hx) (by decide)
 constructor
 ·intro h
  have k8:=KE F h;rw[decide_eq_false_iff_not,Nat.not_lt];have:((List.range 5).filter fun x=>(fq nd 6 []).contains x).length=5:=by
   exact RW (List.filter_eq_self.mpr fun x hx=>rt.mpr (k8 x (gE.mp hx))) rfl
  have hle:(List.range 5).length≤(fq nd 6 []).length:=sub_len _ _ List.nodup_range fun x hx=>k8 x (gE.mp hx);exact hle
 ·intro h
  refine aq h fun C h1 h2=>aq (qI F (aK C h1 h2) 6 [] (lL C h1 h2 (fun y _ q=>nomatch q))) fun y y5 hy=>RW nl ?_;have:=fk 5 (fq nd 6 []++[y]) (by
   rw[List.nodup_append];exact(cE hd.2.2.1 (by simp) (fun a ha c hc e=>by rw[List.mem_singleton.mp hc] at e;exact hy (e▸ha)))) fun x hx=>(b9.mp hx).elim (hd.2.2.2 x) fun q=>RW (dw.mp q) y5
  rw[List.length_append,List.length_singleton] at this;exact Nat.lt_of_succ_le this
inductive AI(nd:Nat→List Nat):Nat→Nat→Prop
 |one {i j:Nat}:j∈nd i→AI nd i j
 |more {i k j:Nat}:k∈nd i→AI nd k j→AI nd i j
def On(nd:Nat→List Nat)(i j:Nat):Bool:=@decide (AI nd i j) (Classical.propDecidable _)
theorem nZ:On nd i j=true↔AI nd i j:=@decide_eq_true_iff _ (Classical.propDecidable _)
def EH(nd:Nat→List Nat)(i:Nat):List Nat:=(List.range 5).filter (On nd i)
theorem yy:j∈EH nd i↔j<5∧AI nd i j:=by
 unfold EH;rw[List.mem_filter,List.mem_range,nZ]
theorem HM(nd)(i):EH nd i=A7 nd (EH nd) i:=by
 unfold A7;refine(?_:(List.range 5).filter _=_);refine List.filter_congr fun j hj=>?_;unfold ti;rw[Bool.eq_iff_iff,nZ,List.any_eq_true];constructor
 ·intro h
  cases h with
  |one h=>exact(aK j h (RW (dT _) rfl))
  |more h1 h2=>exact(aK _ h1 (by((refine RW (Bool.or_eq_true _ _) ?_);rewrite [List.contains_iff_mem]);exact .inr (yy.mpr ⟨gE.mp hj,h2⟩)))
 ·rintro⟨k,hk,h⟩
  rw[Bool.or_eq_true,beq_iff_eq,List.contains_iff_mem] at h;rcases h with rfl|h
  ·exact .one hk
  ·exact .more hk (yy.mp h).2
section
def zi(nd:Nat→List Nat)(i:Nat):V:=.seq false [ag i,be (EH nd i)]
def tc(nd:Nat→List Nat):V:=.seq false [.bool (decide ((fq nd 6 []).length<5)),.seq false ((pJ nd 6 []).map be),.seq false (((List.range 5).filter (fq nd 6 []).contains).map (zi nd))]
def A3(p:Tx×Ln):Prop:=p.2.1<5∧(p.2.2.length=1∨p.2.2.length=2)∧Toks p.1 ⟨0,.str [32],[],1⟩ (bq p.2.1::p.2.2.map bu)∧∀its∈p.2.2,(∀i∈its,i∈a3)∧its.length<ax
noncomputable def oW(Ps:List (Tx×Ln)):List V:=Ps.map fun p=>V.str p.1
def J8:bO:=fun args kws os K=>kws=[]∧args=[.seq false ao,.ref 0]∧∃Ps:List (Tx×Ln),os=[.list (oW Ps)]∧(∀p∈Ps,A3 p)∧Ps≠[]∧Ps.length≤63∧K (.ok (tc ((Ps.map (·.2)).foldl iu x0).2)) os
noncomputable def mv:Expr→Pos
 |.Name _ p=>p
 |_=>default
theorem MC:ff la=.Name (nm "name") (mv (ff la)):=by kernel_rfl
theorem wf(n)(Ps:List (Tx×Ln)):ah n (oW Ps)=true:=by
 induction Ps with
 |nil=>rfl
 |cons a l ih=>refine(?_:(true&&ah n (oW l))=true);exact RW ih rfl
theorem zF(L:Ln)(x:Gp×(Nat→List Nat))(j)(hL:L.2.length≤2):((iu x L).1.su j).length≤(x.1.su j).length+10∧((iu x L).2 j).length≤(x.2 j).length+10:=by
 obtain⟨w,ps⟩:=L;unfold iu;dsimp only at hL ⊢
 match ps,hL with
 |[],_=>exact⟨iL _ _,iL _ _⟩
 |[a],_=>
  have h:=jm w a x j;exact⟨bZ h.1 (by lia),bZ h.2 (by lia)⟩
 |[a,b],_=>
  have h:=jm w a x j;have h2:=jm w b (dC w x a) j;exact⟨bZ h2.1 ((vL h.1 _)),bZ h2.2 ((vL h.2 _))⟩
theorem lu:∀(Ls:List Ln) (x:Gp×(Nat→List Nat)) (j:Nat),(∀L∈Ls,L.2.length≤2)→((Ls.foldl iu x).1.su j).length≤(x.1.su j).length+10*Ls.length∧((Ls.foldl iu x).2 j).length≤(x.2 j).length+10*Ls.length
 |[],x,j,_=>⟨bI _,bI _⟩
 |L::Ls,x,j,h=>by
  have h1:=zF L x j (h L cw);have h2:=lu Ls (iu x L) j fun M hM=>h M (dZ _ hM);exact RW qZ<|RW eR ⟨bZ h2.1 (by lia),bZ h2.2 (by lia)⟩
theorem Dv:rH (ao.flatMap fun v=>[(v,V.seq false [])])=some (eC fun _=>[]):=by kernel_rfl
theorem LK(ls):H1 ls 5=HG (.list ls) (.dict (eC fun _=>[]) none) (.dict [] (some 0)) (.list []) .none 0 0 x0.1 []:=by kernel_rfl
section
variable{o0 o4:O}{po fi:Int}{g:Gp}{rq E:List Nat}{t:List O}{nd su cl:Nat→List Nat}{ls rs:List V}{Q:Fl→St→Prop}{K:Rs→List O→Prop}{a b:V}{rg:Bool}{ep:Option Nat}{l:List (Str×V)}
theorem VC(hE:∀x∈E,x<5)(hj:j<5):bR .In (ag j) (.ref 5) (HV o0 o4 (.dict (fD cl E) ep) (.list rs) po fi g [] [])=some (E.contains j):=by
 have e:bR .In (ag j) (.ref 5) (HV o0 o4 (.dict (fD cl E) ep) (.list rs) po fi g [] [])=some ((fD cl E).any fun e=>e.1==bq j):=by kernel_rfl
 refine RW e ?_
 congr 1
 unfold fD
 ((refine RW List.any_map ?_);rewrite [Bool.eq_iff_iff];rewrite [List.any_eq_true];rewrite [List.contains_iff_mem])
 constructor
 ·rintro⟨k,hk,h⟩
  have h:(bq k==bq j)=true:=h;rw[fU (hE k hk) hj,beq_iff_eq] at h;exact h▸hk
 ·exact fun h=>(aK j h (by refine(?_:(bq j==bq j)=true);exact dT _))
def rF(cl:Nat→List Nat)(c:Nat→Bool)(v:V):List (V×V):=if c (idx v)=true then[(.none,.seq false [v,be (cl (idx v))])] else[]
theorem Cg(cl:Nat→List Nat)(c:Nat→Bool):(ao.flatMap (rF cl c)).map (·.2)=((List.range 5).filter c).map fun i=>V.seq false [ag i,be (cl i)]:=by
 have:∀l:List Nat,(∀k∈l,k<5)→((l.map ag).flatMap (rF cl c)).map (·.2)=(l.filter c).map fun i=>V.seq false [ag i,be (cl i)]:=by
  intro l
  induction l with
  |nil=>exact fun _=>rfl
  |cons a l ih=>
   intro h;refine RW cV<|RW m4<|RW cz<|RW (ih fun k hk=>h k (dZ _ hk))<|RW jP ?_;unfold rF;refine RW (gA (h a cw)) ?_;split<;>rfl
 exact this (List.range 5) fun k hk=>gE.mp hk
theorem Mn(hs:bt aG)(hE:∀x∈E,x<5)(h:K (.ok (.seq false [.bool rg,.ref 6,.seq false (((List.range 5).filter E.contains).map fun i=>V.seq false [ag i,be (cl i)])])) (HV o0 o4 (.dict (fD cl E) ep) (.list rs) po fi g [] [])):
  (M aG).ex (cx 937 11) ((ac 937).drop 5) ⟨d9 rg a b++l,HV o0 o4 (.dict (fD cl E) ep) (.list rs) po fi g [] []⟩ (aN K):=by
 refine Eq.mp (r5 _ K a b l rg)<|ci (sm:=aG) hs (C:=⟨bS l0,11⟩) (cs:=[(nm "given",.ref 5)]) (rF cl E.contains) (by decide) (by kernel_rfl) rfl (br _ _ _) (by decide) (fun v _=>?_) (fun v hv ai R ca hR=>?_) fun l=>?_
 ·unfold rF
  split<;>first|exact bI _|exact c9 _
 ·refine aq (df hv) fun j hj aa=>?_;subst aa
  refine Eq.mp (U1 _ ai R j)<|RW (VC hE hj)<|RW (aw _ _) ?_;unfold rF at hR;rw[gA hj] at hR;split
  ·rename_i c;rw[if_neg (by refine RW c ?_;decide),List.append_nil] at hR;exact hR
  ·rename_i c
   have c:E.contains j=true:=by simpa using c
   rw[if_pos c] at hR;have e:=T5 (o0:=o0) (o6:=.list rs) (po:=po) (fi:=fi) (g:=g) (rv:=[]) (t:=[]) (ep:=ep) (fD cl E) j o4;exact RW e<|RW (mL hj hE (rt.mp c))<|RW (aw _ _) ⟨ca,hR⟩
 ·refine RW (Cg _ _)<|aC ?_ h
  exact RW (bW _)<|bZ (gw _ _) (by decide)
end
end
section
theorem u7:aH 23 (.dict (eC nd) none)=true:=by
 have e:aH 23 (.dict (eC nd) none)=(ah 23 ((nd 0).map ag)&&(ah 23 ((nd 1).map ag)&&(ah 23 ((nd 2).map ag)&&(ah 23 ((nd 3).map ag)&&(ah 23 ((nd 4).map ag)&&true))))):=by kernel_rfl
 exact RW e<|RW (aY _ _)<|RW (aY _ _)<|RW (aY _ _)<|RW (aY _ _)<|RW (aY _ _) rfl
theorem KL(nd):dn 1 (tc nd)=true:=by
 have h1:∀l:List (List Nat),ah 1 (l.map be)=true:=by
  intro l
  induction l with
  |nil=>rfl
  |cons a l ih=>refine(?_:(ah 1 (a.map ag)&&ah 1 (l.map be))=true);exact RW ih<|RW (aY _ _) rfl
 have h2:∀l:List Nat,ah 1 (l.map (zi nd))=true:=by
  intro l
  induction l with
  |nil=>rfl
  |cons a l ih=>refine(?_:((true&&(ah 1 ((EH nd a).map ag)&&true))&&ah 1 (l.map (zi nd)))=true);exact RW ih<|RW (aY _ _) rfl
 refine(?_:(true&&(ah 1 ((pJ nd 6 []).map be)&&(ah 1 (((List.range 5).filter (fq nd 6 []).contains).map (zi nd))&&true)))=true);exact RW (h1 _)<|RW (h2 _) rfl
theorem Hm(o0 o4 o5)(po fi)(g)(rs vs)(rg)(t):y4 1 (HV o0 o4 o5 (.list rs) po fi g [] t) (.seq false [.bool rg,.ref 6,.seq false vs])=.seq false [.bool rg,.seq false rs,.seq false vs]:=by kernel_rfl
section
variable{Ps:List (Tx×Ln)}{Q:Fl→St→Prop}{K:Rs→List O→Prop}{a b:V}{ls:List V}
abbrev iF(Ps:List (Tx×Ln)):Gp×(Nat→List Nat):=(Ps.map (·.2)).foldl iu x0
abbrev NY(Ps:List (Tx×Ln))(x:Gp×(Nat→List Nat)):List O:=HG (.list (oW Ps)) (.dict (eC x.2) none) (.dict [] (some 0)) (.list []) .none 0 0 x.1 []
theorem F7(hs:bt aG)(hP:∀p∈Ps,A3 p)(hl:Ps.length≤63)(h:K (.ok (tc (iF Ps).2)) [.list (oW Ps)]):
  (M aG).ex (cx 937 11) ((ac 937).drop 3) ⟨d9 false a b,NY Ps (iF Ps)⟩ (aN (k9 1 K)):=by
 have G:Gi (iF Ps):=Gi.all _ (fun L hL=>by(refine aq (eA.mp hL) fun p hp aa=>?_;subst aa);exact(hP p hp).1) Uq
 have F:=G.fit;have a9:=lu (Ps.map (·.2)) x0;have h2:∀L∈Ps.map (·.2),L.2.length≤2:=fun L hL=>by(refine aq (eA.mp hL) fun p hp aa=>?_;subst aa);have:=(hP p hp).2.1;lia
 have hb:∀j,((iF Ps).1.su j).length≤630∧((iF Ps).2 j).length≤630:=fun j=>by
  have:=a9 j h2;rw[List.length_map] at this;exact⟨bZ this.1 (show 0+10*_≤_ by lia),bZ this.2 (show 0+10*_≤_ by lia)⟩
 have hd:=r8 (nd:=(iF Ps).2) 6 [] jx (fun x hx=>nomatch hx) (by decide)
 have z:∀rg a b,rg=decide ((fq (iF Ps).2 6 []).length<5)→(M aG).ex (cx 937 11) ((ac 937).drop 4) ⟨d9 rg a b,HR (.list (oW Ps)) (.dict (eC (iF Ps).2) none) (.dict [] (some 0)) (.list []) 0 0 (iF Ps).1 (pb (iF Ps).1) []⟩ (aN (k9 1 K)):=by
  intro rg a b VX;refine Eq.mp (PO _ _) ?_;have e0:(⟨d9 rg a b,HR (.list (oW Ps)) (.dict (eC (iF Ps).2) none) (.dict [] (some 0)) (.list []) 0 0 (iF Ps).1 (pb (iF Ps).1) []⟩:St)=Jp (.list (oW Ps)) (iF Ps).2 (EH (iF Ps).2) rg a b [] [] (some 0) [] 0 (iF Ps).1 (pb (iF Ps).1):=by
   unfold Jp;exact RW (cc _) rfl
  refine RW e0<|tU hs F (fun i=>bZ (hb i).2 (by decide)) (fun i _=>HM _ i) (fun ms Nm=>?_) 6 (by decide) G.head jx (by decide) (.inl rfl) fun E' g' Nc sZ l' a' hE H=>?_
  ·have:∀ms:List Nat,(ms.map fun i=>((iF Ps).1.su i).length).sum≤630*ms.length:=by
    intro ms
    induction ms with
    |nil=>exact bI _
    |cons a ms ih=>refine RW cV<|RW pd<|RW eR ?_;have:=(hb a).1;lia
   exact dy (bZ (this ms) (show _≤3150 by lia)) (by decide)
  ·have WD:∀x∈E',x<5:=fun x hx=>hd.2.2.2 x ((hE x).mp hx)
   have e:(List.range 5).filter E'.contains=(List.range 5).filter (fq (iF Ps).2 6 []).contains:=List.filter_congr fun x _=>eO hE x;refine aj (k:=fun st=>(M aG).ex (cx 937 11) ((ac 937).drop 5) st (aN (k9 1 K))) (Q:=aN (k9 1 K)) (Mn hs WD ?_);refine RW e ?_;have er:y4 1 (HV (.list (oW Ps)) (.dict (eC (iF Ps).2) none) (.dict (fD (EH (iF Ps).2) E') sZ) (.list ([]++(pJ (iF Ps).2 6 []).map be)) Nc Nc g' [] []) (.seq false [.bool rg,.ref 6,.seq false (((List.range 5).filter (fq (iF Ps).2 6 []).contains).map fun i=>V.seq false [ag i,be (EH (iF Ps).2 i)])])=tc (iF Ps).2:=by
    (rewrite [Hm];refine RW VX<|RW (List.nil_append _) ?_);rfl
   refine(?_:dn 1 (y4 1 (HV _ _ _ _ _ _ _ [] []) _)=true∧_∧K (.ok (y4 1 (HV _ _ _ _ _ _ _ [] []) _)) _);refine RW er (cE (KL _) ?_ h);refine(?_:(ah 1 (oW Ps)&&true)=true);exact RW (wf _ _) rfl
 refine bY 39 3 (by kernel_rfl) (Eq.mp (PT _ _) (Eq.mp (PS _ _) (Eq.mp (PR _ _) (Eq.mp (PQ _ _ _ _ _ _ _ _ a b false) ?_))))
 refine⟨rfl,rfl,_,_,_,_,0,0,(iF Ps).1,rfl,(qU (wf _ _) u7 rfl rfl),F.Rj,fun ht=>?_,fun hc=>?_⟩
 ·exact aj (k:=fun st=>(M aG).ex (cx 937 11) ((ac 937).drop 4) st (aN (k9 1 K))) (Q:=aN (k9 1 K)) (z false a b ((ud F).1 ht).symm)
 ·exact Eq.mp (PP _ _ a b) (aj (k:=fun st=>(M aG).ex (cx 937 11) ((ac 937).drop 4) st (aN (k9 1 K))) (Q:=aN (k9 1 K)) (z true a b ((ud F).2 hc).symm))
end
end
section
section
variable{Ps:List (Tx×Ln)}{Q:Fl→St→Prop}{K:Rs→List O→Prop}{u:V}{ls:List V}
theorem Ca(o4 o5 o6)(sX)(po fi)(g)(t)(k):itemAt (HG (.list ls) o4 o5 o6 sX po fi g t) (.ref 0) (0,0) k=some ls[k]?:=by kernel_rfl
theorem len0(o4 o5 o6)(sX)(po fi)(g)(t):dD (HG (.list ls) o4 o5 o6 sX po fi g t) (.ref 0)=(0,0):=by kernel_rfl
theorem DA(hs:bt aG)(hP:∀p∈Ps,A3 p)(hl:Ps.length≤63)(h:∀a b,(M aG).ex (cx 937 11) ((ac 937).drop 3) ⟨d9 false a b,NY Ps (iF Ps)⟩ Q)(h0:Ps≠[]):
  (M aG).ex (cx 937 11) ((ac 937).drop 2) ⟨eV false++[(nm "name",u)],NY Ps x0⟩ Q:=by
 refine bY 39 2 (by kernel_rfl) (Eq.mp (PV _ _ u false) ?_)
 rw[len0];refine aC (by rw[Ca];rfl) ?_
 let xs:Nat→Gp×(Nat→List Nat):=fun k=>iF (Ps.take k);refine dp (sm:=aG) hs (vs:=oW Ps) (fun k st=>∃l,st=⟨lO false u++l,NY Ps (xs k)⟩∧((k=0∧l=[])∨∃v,l=[(nm "line",v)])) (by decide) (fun{k st} hI=>?_) (fun{k v st} R hv hI hR=>?_) (fun{st} hI=>?_) (aK [] (RW (cc _) rfl) (.inl ⟨rfl,rfl⟩))
 ·refine aq hI fun l aa _=>?_;clear hI;subst aa
  exact Ca _ _ _ _ _ _ _ _ _
 ·unfold oW at hv
  rw[List.getElem?_map] at hv;refine aq (eG.mp hv) fun p hp aa=>?_;subst aa;refine aq hI fun l aa jr=>?_;clear hI;subst aa;have hk:=(fY.mp hp).1;have Ry:=hP p (db hp);have a9:=lu ((Ps.take k).map (·.2)) x0;have h2:∀L∈(Ps.take k).map (·.2),L.2.length≤2:=fun L hL=>by(refine aq (eA.mp hL) fun p hp aa=>?_;subst aa);have:=(hP p (List.mem_of_mem_take hp)).2.1;lia
  have hb:∀j,((xs k).1.su j).length≤630∧((xs k).2 j).length≤630:=fun j=>by
   have:=a9 j h2;rw[List.length_map,List.length_take] at this;exact⟨bZ this.1 (show 0+10*_≤_ by lia),bZ this.2 (show 0+10*_≤_ by lia)⟩
  have z:(M aG).ex (cx 937 11) b2_937 ⟨lO false u++[(nm "line",.str p.1)],NY Ps (xs k)⟩ (bJ R (a8 (bD (fun st=>(M aG).ex (cx 937 11) ((ac 937).drop 3) st Q) Q))):=by
   refine Eq.mp (PU _ _ u (.str p.1) false) ⟨rfl,.list (oW Ps),.dict [] (some 0),.list [],0,0,(xs k).1,(xs k).2,p.1,p.2.1,p.2.2,rfl,rfl,(cE (wf _ _) rfl rfl),Ry.1,Ry.2.1,Ry.2.2.1,Ry.2.2.2,fun j=>?_,fun j=>?_,?_⟩
   ·exact dy (vL (hb j).1 20) (by decide)
   ·exact dy (vL (hb j).2 20) (by decide)
   ·refine hR (aK ([(nm "line",.str p.1)]) ?_ (.inr ⟨_,rfl⟩))
    have e:xs (k+1)=p.2.2.foldl (dC p.2.1) ((xs k).1,(xs k).2):=by
     refine(?_:((Ps.take (k+1)).map (·.2)).foldl iu x0=_);exact RW kY<|RW hp<|RW (m5 _)<|RW cz<|RW kb rfl
    refine RW e rfl
  rcases jr with⟨rfl,rfl⟩|⟨v,rfl⟩
  ·exact RW (cc _)<|Eq.mp (Q8 _ u _ false _) z
  ·exact Eq.mp (M1 _ u _ v false _) z
 ·refine aq hI fun l aa jr=>?_;clear hI;subst aa
  have e:xs (oW Ps).length=iF Ps:=by
   refine(?_:iF (Ps.take (Ps.map _).length)=_);refine RW (bW _)<|RW ph rfl
  refine RW e ?_;rcases jr with⟨q,_⟩|⟨v,rfl⟩
  ·exact absurd (List.length_eq_zero_iff.mp ((bW (f:=fun p:Tx×Ln=>V.str p.1)).symm.trans q)) h0
  ·exact aj (k:=fun st=>(M aG).ex (cx 937 11) ((ac 937).drop 3) st Q) (Q:=Q) (h u v)
theorem Dw(hs:bt aG)(h:∀u,(M aG).ex (cx 937 11) ((ac 937).drop 2) ⟨eV false++[(nm "name",u)],H1 ls 5⟩ Q):
  (M aG).ex (cx 937 11) ((ac 937).drop 1) ⟨eV false,H1 ls 0⟩ Q:=by
 refine bY 39 1 (by kernel_rfl) (Eq.mp (PY _ _ false) ?_)
 refine dp (sm:=aG) hs (vs:=ao) (fun k st=>∃l,st=⟨eV false++l,H1 ls k⟩∧((k=0∧l=[])∨∃v,l=[(nm "name",v)])) (by decide) (fun{k st} _=>rfl) (fun{k v st} R hv hI hR=>?_) (fun{st} hI=>?_) (aK [] (by(refine RW (cc _) rfl)) (.inl ⟨rfl,rfl⟩))
 ·refine aq hI fun l aa hl=>?_;clear hI;subst aa
  have hk:k<5:=(fY.mp hv).1;have hv:v=ag k:=by rcases d7 hk with rfl|rfl|rfl|rfl|rfl<;>exact(a7 hv).symm
  subst hv;have z:(M aG).ex (cx 937 11) b1_937 ⟨eV false++[(nm "name",ag k)],H1 ls k⟩ (bJ R (a8 (bD (fun st=>(M aG).ex (cx 937 11) ((ac 937).drop 2) st Q) Q))):=by
   refine Eq.mp (PX ls _ false k hk) (cE (by decide) ?_ ?_)
   ·refine RW List.length_take ?_;exact dy (Nat.min_le_right _ _) (by decide)
   ·refine dp (sm:=aG) hs (vs:=[]) (fun _ st=>st=⟨gI k [],H1 ls (k+1)⟩) (by decide) (fun{k st} _=>rfl) (fun{k v st} R hv _ _=>nomatch hv) (fun{st} hI=>?_) rfl
    subst hI;exact hR (aK ([(nm "name",ag k)]) rfl (.inr ⟨_,rfl⟩))
  rcases hl with⟨rfl,rfl⟩|⟨v,rfl⟩
  ·exact RW (cc _)<|Eq.mp (Q5 _ _ false _) z
  ·exact Eq.mp (MY _ v _ false _) z
 ·refine aq hI fun l aa hl=>?_;clear hI;subst aa
  rcases hl with⟨q,_⟩|⟨v,rfl⟩
  ·exact absurd q (by decide)
  ·exact aj (k:=fun st=>(M aG).ex (cx 937 11) ((ac 937).drop 2) st Q) (Q:=Q) (h v)
theorem HU(hs:bt aG)(hP:∀p∈Ps,A3 p)(h0:Ps≠[])(hl:Ps.length≤63)(h:K (.ok (tc (iF Ps).2)) [.list (oW Ps)]):
  (ay aG).call 12 (.con (.ref 937)) [.seq false ao,.ref 0] [] [.list (oW Ps)] (k9 1 K):=by
 refine(bA hs 41).call (Eq.mp (KP _ _) (bo 39 1 (Eq.mp (PZ _ _) ?_)));refine RW MC<|ci (sm:=aG) hs (C:=⟨bS la,11⟩) (cs:=[]) (fun v=>[(v,V.seq false [])]) (by decide) (by kernel_rfl) rfl (br _ _ _) (by decide) (fun v _=>bI _) (fun v hv ai R ca hR=>?_) fun l=>?_
 ·refine aq (df hv) fun j hj aa=>?_;subst aa
  exact Eq.mp (PN _ ai R (bq j)) ⟨ca,hR⟩
 ·refine RW Dv<|RW (aw _ _) ⟨by decide,aj (k:=fun st=>(M aG).ex (cx 937 11) ((ac 937).drop 1) st (aN (k9 1 K))) (Q:=aN (k9 1 K)) ?_⟩
  exact Dw hs (ls:=oW Ps) fun u=>RW (LK _)<|DA hs hP hl (fun a b=>F7 hs hP hl h) h0
end
theorem L3(hs:bt aG):Entry 937 12 J8:=Ak (by decide) fun{args kws os K} h=>by
 (have aF:=h;clear h;refine gq aF fun aa aP cN=>Xc cN fun Ps jo hP h0 hl h=>?_;clear aF;subst aa;subst aP;subst jo)
 exact HU hs hP h0 hl h
end
section
section
variable{sm:eI}{C:Cx}
theorem Cz(hs:bt sm){ke:Option Expr}{elt t:Expr}{ifs:List Expr}{bj:V}{n:Nat×Nat}{vs:List V}{cs:List (Str×V)}{os:List O}(A:Nat→List (V×V))(bd:V→List (Str×V)){Q:List (V×V)→St→Prop}
  (hd:C.d≠0) (asg:∀v∈vs,∀l,(l=[]∨∃u∈vs,l=bd u)→∀k:St→Prop,k ⟨cs++bd v,os⟩→aI (M sm) C t v ⟨cs++l,os⟩ k) (hit:Gives os bj n vs) (hl:vs.length≤ax) (h0:A 0=[]) (hA:∀k,k<vs.length→(A k).length≤k)
  (step:∀k v,vs[k]? =some v→∀(R:St→List (V×V)→Prop),(A k).length<ax→R ⟨cs++bd v,os⟩ (A (k+1))→dA (M sm) C .And ifs ⟨cs++bd v,os⟩ fun ok st=>match ok with
   |true=>ba (M sm) C ke elt st (A k) R
   |false=>R st (A k))
  (hQ:∀l,Q (A vs.length) ⟨cs++l,os⟩):(ay sm).co C ke elt t ifs bj n 0 ⟨cs,os⟩ [] Q:=by
 have go:∀(m k:Nat) (l:List (Str×V)),m+k=vs.length→(l=[]∨∃u∈vs,l=bd u)→(ay sm).co C ke elt t ifs bj n k ⟨cs++l,os⟩ (A k) Q:=by
  intro m
  induction m with
  |zero=>
   intro k l hk _;refine(bV hs 40).co (aC hd ?_)
   (rewrite [show itemAt _ bj n k=some vs[k]? from hit k];(refine RW (rz (by lia)) ?_))
   refine(?_:Q (A k) ⟨cs++l,os⟩);refine RW (show k=vs.length by lia) ?_
   exact hQ l
  |succ m ih=>
   intro k l hk jr;have jL:k<vs.length:=by lia
   have pv:vs[k]∈vs:=lU jL;refine(bV hs 40).co (aC hd ?_)
   (rewrite [show itemAt _ bj n k=some vs[k]? from hit k];(refine RW (dz jL) ?_))
   refine asg vs[k] pv l jr _<|RW (yv _ _) ?_;exact step k vs[k] (dz jL) (fun st ai=>(ay sm).co C ke elt t ifs bj n (k+1) st ai Q) (by have:=hA k jL;lia) (ih (k+1) (bd vs[k]) (by lia) (.inr (aK _ pv rfl)))
 have z:=go vs.length 0 [] rfl (.inl rfl);rw[List.append_nil,h0] at z;exact z
end
noncomputable abbrev IU:List (Addr×Nat×bO):=[(920,4,cZ Fn)]
def aX:eI:=fO IU
theorem ir:bt aX:=bP (l:=IU) ⟨Cn,trivial⟩
abbrev Dr:=List (Nat×List Item)
def s6(d:Nat×List Item):V:=.seq false [ag d.1,.seq false (d.2.map aZ)]
def Bk(ds:List V):List (Str×V):=[(nm "names",.seq false ao),(nm "drawn",.seq false ds)]
def fN(ds:List V)(r:Nat):List (Str×V):=Bk ds++[(nm "needs",.ref r)]
def Bb:List Stmt:=jA (a5 (ac 942) 1)
def E4:Expr:=vy (a5 (ac 942) 1)
def eY:Expr:=dY (a5 Bb 0)
def fa:Expr:=match dW eY with
 |e::_=>if h:e.ctorIdx=0 then Expr.BoolOp.elim (motive_1:=fun _=>PySem.Expr) e h fun _ l _=>let e:=(l[1]?).getD e;if h:e.ctorIdx=15 then Expr.Compare.elim (motive_1:=fun _=>PySem.Expr) e h fun l _ _ _=>l else e else e
 |_=>eY
def Jy(ds:List V)(i:Nat):List (Str×V):=[(nm "drawn",.seq false ds),(nm "name",ag i)]
def AX(i j:Nat):List (Str×V):=[(nm "name",ag i),(nm "one",ag j)]
section
variable(ds:List V)(os:List O)(Q:Fl→St→Prop)(K:Rs→List O→Prop)(u v w x:V)(ai:List (V×V))(R:St→List (V×V)→Prop)(k:St→Prop)
theorem KO:(M aX).ex (cx 942 4) (ac 942) ⟨Bk ds,[]⟩ (aN K)=(aT aX 41).call 5 (.con (.ref 942)) [.seq false ao,.seq false ds] [] [] K:=by kernel_rfl
theorem PM:Q .next ⟨fN ds 0,[.dict [] (some 0)]⟩=(M aX).ex (cx 942 4) ((ac 942).take 1) ⟨Bk ds,[]⟩ Q:=by kernel_rfl
theorem PL:(ay aX).fo (cx 942 4) E4 Bb (.seq false ao) (0,0) 0 ⟨fN ds 0,os⟩ (a8 Q)=(M aX).ex (cx 942 4) (a6 (ac 942) 1) ⟨fN ds 0,os⟩ Q:=by kernel_rfl
theorem Q4:k ⟨fN ds 0++[(nm "name",v)],os⟩=aI (M aX) (cx 942 4) E4 v ⟨fN ds 0,os⟩ k:=by kernel_rfl
theorem MX:k ⟨fN ds 0++[(nm "name",v)],os⟩=aI (M aX) (cx 942 4) E4 v ⟨fN ds 0++[(nm "name",u)],os⟩ k:=by kernel_rfl
theorem PK(i):((ay aX).co ⟨bS eY,4⟩ none (dX eY) (ff eY) (dW eY) (.seq false ao) (0,0) 0 ⟨Jy ds i,os⟩ [] fun ai st=>af ((ai.map (·.2)).length≤ax) (gM (.ref 0) (ag i) (.seq false (ai.map (·.2))) st.os fun os=>Q .next ⟨fN ds 0++[(nm "name",ag i)],os⟩))=(M aX).ex (cx 942 4) Bb ⟨fN ds 0++[(nm "name",ag i)],os⟩ Q:=by kernel_rfl
theorem PJ(i j):(am (bR .NotEq (ag j) (ag i) os) fun c=>if c=false then R ⟨Jy ds i++[(nm "one",ag j)],os⟩ ai else(ay aX).co ⟨bS fa,4⟩ none (dX fa) (ff fa) (dW fa) (.seq false ds) (0,0) 0 ⟨AX i j,os⟩ [] fun cP st'=>af ((cP.map (·.2)).length≤ax) (am (bR .NotEq (.seq false (cP.map (·.2))) (.seq false []) st'.os) fun c=>if c=false then R ⟨Jy ds i++[(nm "one",ag j)],st'.os⟩ ai else ai.length<ax∧R ⟨Jy ds i++[(nm "one",ag j)],st'.os⟩ (ai++[(.none,ag j)])))=
  dA (M aX) ⟨bS eY,4⟩ .And (dW eY) ⟨Jy ds i++[(nm "one",ag j)],os⟩ fun ok st=>match ok with
   |true=>ba (M aX) ⟨bS eY,4⟩ none (dX eY) st ai R
   |false=>R st ai:=by kernel_rfl
def Q0(v:V):List (Str×V):=match v with
 |.seq _ [a,b]=>[(nm "target",a),(nm "items",b)]
 |_=>[]
theorem Q9(i j):k ⟨AX i j++[(nm "target",u),(nm "items",v)],os⟩=aI (M aX) ⟨bS fa,4⟩ (ff fa) (.seq false [u,v]) ⟨AX i j,os⟩ k:=by kernel_rfl
theorem M2(i j):k ⟨AX i j++[(nm "target",u),(nm "items",v)],os⟩=aI (M aX) ⟨bS fa,4⟩ (ff fa) (.seq false [u,v]) ⟨AX i j++[(nm "target",w),(nm "items",x)],os⟩ k:=by kernel_rfl
theorem PI(i j m):(am (bR .Eq (ag m) (ag i) os) fun c=>if c=false then R ⟨AX i j++[(nm "target",ag m),(nm "items",v)],os⟩ ai else cZ Fn [v,ag j] [] os (iA fun t os=>am (gz os t) fun c=>if c=false then R ⟨AX i j++[(nm "target",ag m),(nm "items",v)],os⟩ ai else ai.length<ax∧R ⟨AX i j++[(nm "target",ag m),(nm "items",v)],os⟩ (ai++[(.none,v)])))=
  dA (M aX) ⟨bS fa,4⟩ .And (dW fa) ⟨AX i j++[(nm "target",ag m),(nm "items",v)],os⟩ fun ok st=>match ok with
   |true=>ba (M aX) ⟨bS fa,4⟩ none (dX fa) st ai R
   |false=>R st ai:=by kernel_rfl
end
end
section
def b3_942:List Stmt:=jA (a5 (ac 942) 3)
def t3_942:Expr:=vy (a5 (ac 942) 3)
def cI:Expr:=dY (a5 b3_942 0)
def iW:Expr:=match dW cI with
 |[.BoolOp _ [_,.Compare l _ _ _] _]=>l
 |_=>cI
def dM(ds:List V)(r:Nat)(u:V)(rs es:List V):List (Str×V):=fN ds r++[(nm "name",u),(nm "rounds",.seq false rs),(nm "early",.seq false es)]
def EZ(es:List V):List (Str×V):=[(nm "early",.seq false es),(nm "needs",.ref 0)]
section
variable(ds:List V)(os:List O)(Q:Fl→St→Prop)(K:Rs→List O→Prop)(u v w x:V)(ai:List (V×V))(R:St→List (V×V)→Prop)(k:St→Prop)(rs es fs:List V)
theorem PH:Q .next ⟨dM ds 0 u [] [],os⟩=(M aX).ex (cx 942 4) (a6 (ac 942) 2) ⟨fN ds 0++[(nm "name",u)],os⟩ Q:=by kernel_rfl
theorem PF:(ay aX).fo (cx 942 4) t3_942 b3_942 (.seq false ao) (0,0) 0 ⟨dM ds 0 u rs es,os⟩ (a8 Q)=(M aX).ex (cx 942 4) (a6 (ac 942) 3) ⟨dM ds 0 u rs es,os⟩ Q:=by kernel_rfl
theorem Q2:k ⟨dM ds 0 u rs es++[(nm "turn",v)],os⟩=aI (M aX) (cx 942 4) t3_942 v ⟨dM ds 0 u rs es,os⟩ k:=by kernel_rfl
theorem MO:k ⟨dM ds 0 u rs es++[(nm "turn",v),(nm "free",w)],os⟩=aI (M aX) (cx 942 4) t3_942 v ⟨dM ds 0 u rs es++[(nm "turn",x),(nm "free",w)],os⟩ k:=by kernel_rfl
theorem PE:((ay aX).co ⟨bS cI,4⟩ none (dX cI) (ff cI) (dW cI) (.seq false ao) (0,0) 0 ⟨EZ es,os⟩ [] fun ai st=>af ((ai.map (·.2)).length≤ax) (Q .next ⟨dM ds 0 u rs es++[(nm "turn",v),(nm "free",.seq false (ai.map (·.2)))],st.os⟩))=(M aX).ex (cx 942 4) (b3_942.take 1) ⟨dM ds 0 u rs es++[(nm "turn",v)],os⟩ Q:=by kernel_rfl
theorem Li:((ay aX).co ⟨bS cI,4⟩ none (dX cI) (ff cI) (dW cI) (.seq false ao) (0,0) 0 ⟨EZ es,os⟩ [] fun ai st=>af ((ai.map (·.2)).length≤ax) (Q .next ⟨dM ds 0 u rs es++[(nm "turn",v),(nm "free",.seq false (ai.map (·.2)))],st.os⟩))=(M aX).ex (cx 942 4) (b3_942.take 1) ⟨dM ds 0 u rs es++[(nm "turn",v),(nm "free",w)],os⟩ Q:=by kernel_rfl
theorem PD(j):(am (bR .NotIn (ag j) (.seq false es) os) fun c=>if c=false then R ⟨EZ es++[(nm "name",ag j)],os⟩ ai else am (bn os (.ref 0) (ag j)) fun bj=>af ((itemAt os bj (dD os bj) 0).isSome=true) ((ay aX).co ⟨bS iW,4⟩ none (dX iW) (ff iW) (dW iW) bj (dD os bj) 0 ⟨[(nm "early",.seq false es)],os⟩ [] fun cP st'=>af ((cP.map (·.2)).length≤ax) (am (bR .Eq (.seq false (cP.map (·.2))) (.seq false []) st'.os) fun c=>if c=false then R ⟨EZ es++[(nm "name",ag j)],st'.os⟩ ai else ai.length<ax∧R ⟨EZ es++[(nm "name",ag j)],st'.os⟩ (ai++[(.none,ag j)]))))=
  dA (M aX) ⟨bS cI,4⟩ .And (dW cI) ⟨EZ es++[(nm "name",ag j)],os⟩ fun ok st=>match ok with
   |true=>ba (M aX) ⟨bS cI,4⟩ none (dX cI) st ai R
   |false=>R st ai:=by kernel_rfl
theorem PC(j):(am (bR .NotIn (ag j) (.seq false es) os) fun c=>if c=false then R ⟨[(nm "early",.seq false es)]++[(nm "one",ag j)],os⟩ ai else ai.length<ax∧R ⟨[(nm "early",.seq false es)]++[(nm "one",ag j)],os⟩ (ai++[(.none,ag j)]))=
  dA (M aX) ⟨bS iW,4⟩ .And (dW iW) ⟨[(nm "early",.seq false es)]++[(nm "one",ag j)],os⟩ fun ok st=>match ok with
   |true=>ba (M aX) ⟨bS iW,4⟩ none (dX iW) st ai R
   |false=>R st ai:=by kernel_rfl
theorem PB:(am (bR .NotEq (.seq false fs) (.seq false []) os) fun c=>if c=true then(rs++[V.seq false fs]).length≤ax∧(es++fs).length≤ax∧Q .next ⟨dM ds 0 u (rs++[.seq false fs]) (es++fs)++[(nm "turn",v),(nm "free",.seq false fs)],os⟩ else(rs++[]).length≤ax∧(es++fs).length≤ax∧Q .next ⟨dM ds 0 u (rs++[]) (es++fs)++[(nm "turn",v),(nm "free",.seq false fs)],os⟩)=(M aX).ex (cx 942 4) (b3_942.drop 1) ⟨dM ds 0 u rs es++[(nm "turn",v),(nm "free",.seq false fs)],os⟩ Q:=by kernel_rfl
end
def b4_942:List Stmt:=jA (a5 (ac 942) 4)
def t4_942:Expr:=vy (a5 (ac 942) 4)
def gb:Expr:=dY (a5 b4_942 0)
def eZ:Expr:=dX gb
def iU:Expr:=match dW eZ with
 |[.BoolOp _ [_,.Compare l _ _ _] _]=>l
 |_=>eZ
def iS:Expr:=match dY (a5 (ac 942) 5) with
 |.List [_,_,e] _=>e
 |e=>e
def f9(ds:List V)(r:Nat)(u:V)(rs es:List V)(t f:V):List (Str×V):=dM ds r u rs es++[(nm "turn",t),(nm "free",f)]
def RP(r:Nat):List (Str×V):=[(nm "names",.seq false ao),(nm "needs",.ref r)]
def Jz(i r:Nat):List (Str×V):=[(nm "name",ag i),(nm "needs",.ref r)]
def NT(j r:Nat):List (Str×V):=[(nm "needs",.ref r),(nm "one",ag j)]
section
variable(ds:List V)(os:List O)(Q:Fl→St→Prop)(K:Rs→List O→Prop)(u v w x t f:V)(ai:List (V×V))(R:St→List (V×V)→Prop)(k:St→Prop)(rs es fs:List V)(r:Nat)
theorem PA:(ay aX).fo (cx 942 4) t4_942 b4_942 (.seq false ao) (0,0) 0 ⟨f9 ds r u rs es t f,os⟩ (a8 Q)=(M aX).ex (cx 942 4) (a6 (ac 942) 4) ⟨f9 ds r u rs es t f,os⟩ Q:=by kernel_rfl
theorem Q1:k ⟨f9 ds r u rs es v f,os⟩=aI (M aX) (cx 942 4) t4_942 v ⟨f9 ds r u rs es t f,os⟩ k:=by kernel_rfl
theorem Pz:((ay aX).co ⟨bS gb,4⟩ (RQ gb) (dX gb) (ff gb) (dW gb) (.seq false ao) (0,0) 0 ⟨RP r,os⟩ [] fun ai st=>am (rH ai) fun EX=>ai.length≤ax∧Q .next ⟨f9 ds st.os.length u rs es t f,st.os++[.dict EX none]⟩)=(M aX).ex (cx 942 4) b4_942 ⟨f9 ds r u rs es t f,os⟩ Q:=by kernel_rfl
theorem Py(i):((ay aX).co ⟨bS eZ,4⟩ none (dX eZ) (ff eZ) (dW eZ) (.seq false ao) (0,0) 0 ⟨Jz i r,os⟩ [] fun cP st'=>af ((cP.map (·.2)).length≤ax) (ai.length<ax∧R ⟨RP r++[(nm "name",ag i)],st'.os⟩ (ai++[(ag i,.seq false (cP.map (·.2)))])))=
  dA (M aX) ⟨bS gb,4⟩ .And (dW gb) ⟨RP r++[(nm "name",ag i)],os⟩ fun ok st=>match ok with
   |true=>ba (M aX) ⟨bS gb,4⟩ (RQ gb) (dX gb) st ai R
   |false=>R st ai:=by kernel_rfl
theorem Px(i j):(am (bn os (.ref r) (ag i)) fun bj=>am (bR .In (ag j) bj os) fun c=>if c=true then ai.length<ax∧R ⟨Jz i r++[(nm "one",ag j)],os⟩ (ai++[(.none,ag j)]) else am (bn os (.ref r) (ag i)) fun bj=>af ((itemAt os bj (dD os bj) 0).isSome=true) ((ay aX).co ⟨bS iU,4⟩ none (dX iU) (ff iU) (dW iU) bj (dD os bj) 0 ⟨NT j r,os⟩ [] fun cP st'=>af ((cP.map (·.2)).length≤ax) (am (bR .NotEq (.seq false (cP.map (·.2))) (.seq false []) st'.os) fun c=>if c=true then ai.length<ax∧R ⟨Jz i r++[(nm "one",ag j)],st'.os⟩ (ai++[(.none,ag j)]) else R ⟨Jz i r++[(nm "one",ag j)],st'.os⟩ ai)))=
  dA (M aX) ⟨bS eZ,4⟩ .And (dW eZ) ⟨Jz i r++[(nm "one",ag j)],os⟩ fun ok st=>match ok with
   |true=>ba (M aX) ⟨bS eZ,4⟩ none (dX eZ) st ai R
   |false=>R st ai:=by kernel_rfl
theorem Pw(j m):(am (bn os (.ref r) (ag m)) fun bj=>am (bR .In (ag j) bj os) fun c=>if c=false then R ⟨NT j r++[(nm "need",ag m)],os⟩ ai else ai.length<ax∧R ⟨NT j r++[(nm "need",ag m)],os⟩ (ai++[(.none,ag m)]))=
  dA (M aX) ⟨bS iU,4⟩ .And (dW iU) ⟨NT j r++[(nm "need",ag m)],os⟩ fun ok st=>match ok with
   |true=>ba (M aX) ⟨bS iU,4⟩ none (dX iU) st ai R
   |false=>R st ai:=by kernel_rfl
theorem Pu:((ay aX).co ⟨bS iS,4⟩ none (dX iS) (ff iS) (dW iS) (.seq false ao) (0,0) 0 ⟨[(nm "early",.seq false es),(nm "needs",.ref r)],os⟩ [] fun ai st=>af ((ai.map (·.2)).length≤ax) (K (.ok (.seq false [.bool (decide ((es.length:Int)<5)),.seq false rs,.seq false (ai.map (·.2))])) st.os))=(M aX).ex (cx 942 4) ((ac 942).drop 5) ⟨f9 ds r u rs es t f,os⟩ (aN K):=by kernel_rfl
theorem Pt(j):(am (bR .In (ag j) (.seq false es) os) fun c=>if c=false then R ⟨[(nm "early",.seq false es),(nm "needs",.ref r)]++[(nm "name",ag j)],os⟩ ai else am (bn os (.ref r) (ag j)) fun v=>ai.length<ax∧R ⟨[(nm "early",.seq false es),(nm "needs",.ref r)]++[(nm "name",ag j)],os⟩ (ai++[(.none,.seq false [ag j,v])]))=
  dA (M aX) ⟨bS iS,4⟩ .And (dW iS) ⟨[(nm "early",.seq false es),(nm "needs",.ref r)]++[(nm "name",ag j)],os⟩ fun ok st=>match ok with
   |true=>ba (M aX) ⟨bS iS,4⟩ none (dX iS) st ai R
   |false=>R st ai:=by kernel_rfl
end
end
section
def jH(D:Dr)(i j:Nat):Bool:=!(j==i)&&D.any fun d=>d.1==i&&dj d.2 (bq j)
def eW(D:Dr)(i:Nat):List Nat:=(List.range 5).filter (jH D i)
theorem Lo(hk:k<5)(hj:j<5)(os):bR .NotEq (ag k) (ag j) os=some (!(k==j)):=by
 have h:=BA hk hj os;refine(?_:(bR .Eq (ag k) (ag j) os).map _=_);exact RW h rfl
theorem ul{l:List Nat}(hl:∀x∈l,x<5)(hj:j<5)(os):bR .NotIn (ag j) (.seq false (l.map ag)) os=some (!l.contains j):=by
 have h:=nM hl hj false os;refine(?_:(bR .In (ag j) (.seq false (l.map ag)) os).map _=_);exact RW h rfl
theorem eq_nil(l)(os):bR .Eq (.seq false l) (.seq false []) os=some l.isEmpty:=by induction l using List.casesOn<;>rfl
theorem Ll(hj:j<5):(bq j).length+1<ax:=by rcases d7 hj with rfl|rfl|rfl|rfl|rfl<;>decide
theorem D8:ff eY=.Name (nm "one") (mv (ff eY)):=by kernel_rfl
section
variable{D:Dr}{Q:Fl→St→Prop}{i j:Nat}{os:List O}
theorem zZ(its:List Item)(j:Nat):ah 0 [V.seq false (its.map aZ),ag j]=true:=by
 have:∀l:List Item,ah 0 (l.map aZ)=true:=by
  intro l
  induction l with
  |nil=>rfl
  |cons a l ih=>refine(?_:(true&&ah 0 (l.map aZ))=true);exact RW ih rfl
 refine(?_:(ah 0 (its.map aZ)&&true)=true);exact RW (this _) rfl
theorem DW(hD:∀d∈D,d.1<5)(hl:D.length≤ax)(hi:i<5)(hj:j<5){Q}(hQ:∀l,Q ((D.filter fun d=>d.1==i&&dj d.2 (bq j)).map fun d=>(.none,.seq false (d.2.map aZ))) ⟨AX i j++l,os⟩):
  (ay aX).co ⟨bS fa,4⟩ none (dX fa) (ff fa) (dW fa) (.seq false (D.map s6)) (0,0) 0 ⟨AX i j,os⟩ [] Q:=by
 refine Cz (sm:=aX) ir (C:=⟨bS fa,4⟩) (fun k=>((D.take k).filter fun d=>d.1==i&&dj d.2 (bq j)).map fun d=>(.none,.seq false (d.2.map aZ))) Q0 (by decide) (fun v hv l hl k hk=>?_) (br _ _ _) (by exact RW (bW _) hl) rfl (fun k hk=>?_) (fun k v hv R hR h=>?_) fun l=>?_
 ·refine aq (eA.mp hv) fun d hd aa=>?_;subst aa
  rcases hl with rfl|⟨u,hu,rfl⟩
  ·exact RW (cc _)<|Eq.mp (Q9 os _ _ k i j) hk
  ·refine aq (eA.mp hu) fun e he aa=>?_;subst aa
   exact Eq.mp (M2 os _ _ _ _ k i j) hk
 ·exact RW (bW _)<|bZ (gw _ _) (by exact RW List.length_take<|Nat.min_le_left _ _)
 ·rw[List.getElem?_map] at hv
  refine aq (eG.mp hv) fun d hd aa=>?_;subst aa;have Wy:=hD d (db hd);rw[List.take_add_one,hd,Option.toList_some,List.filter_append,List.map_append] at h;refine Eq.mp (PI os _ _ R i j d.1)<|RW (BA Wy hi _)<|RW (aw _ _) ?_;cases q:(d.1==i) with
  |false=>
   refine RW (aB rfl) ?_;rw[List.filter_cons,if_neg (by exact RW q Bool.false_ne_true),List.filter_nil,List.map_nil,List.append_nil] at h
   exact h
  |true=>
   refine RW (au (by decide)) ⟨⟨zZ _ _,rfl⟩,rfl,d.2,bq j,rfl,Ll hj,rfl,?_⟩
   refine(?_:(if dj d.2 (bq j)=false then _ else _))
   cases q2:dj d.2 (bq j) with
   |false=>
    refine RW (aB rfl) ?_;rw[List.filter_cons,if_neg (by refine RW q<|RW q2 ?_;decide),List.filter_nil,List.map_nil,List.append_nil] at h
    exact h
   |true=>
    refine RW (au (by decide)) ?_
    rw[List.filter_cons,if_pos (by exact RW q<|RW q2 rfl),List.filter_nil] at h
    exact⟨hR,h⟩
 ·exact RW (bW _)<|RW ph<|hQ l
theorem GI(hD:∀d∈D,d.1<5)(hl:D.length≤ax)(hi:i<5){Q:List (V×V)→St→Prop}(hQ:∀l,Q (ao.flatMap (cG (jH D i))) ⟨Jy (D.map s6) i++l,os⟩):
  (ay aX).co ⟨bS eY,4⟩ none (dX eY) (ff eY) (dW eY) (.seq false ao) (0,0) 0 ⟨Jy (D.map s6) i,os⟩ [] Q:=by
 refine RW D8<|ci (sm:=aX) ir (C:=⟨bS eY,4⟩) (cG (jH D i)) (by decide) (by kernel_rfl) (by kernel_rfl) (br _ _ _) (by decide) (fun v _=>gg _ v) (fun v hv ai R ca hR=>?_) hQ
 refine aq (df hv) fun j hj aa=>?_;subst aa;refine Eq.mp (PJ _ os ai R i j) ?_;unfold cG at hR;rw[gA hj] at hR;refine RW (Lo hj hi _)<|RW (aw _ _) ?_;cases q:(j==i) with
 |true=>
  rw[if_pos (by rfl)]
  rw[if_neg (by unfold jH;exact RW q Bool.false_ne_true),List.append_nil] at hR
  exact hR
 |false=>
  refine RW (au (by decide))<|DW hD hl hi hj fun l=>aC ?_ ?_
  ·exact RW (bW _)<|RW (bW _)<|bZ (gw _ _) hl
  ·refine RW (ne_nil _ _)<|RW (aw _ _) ?_
   have e:(!(((D.filter fun d=>d.1==i&&dj d.2 (bq j)).map fun d=>((.none:V),V.seq false (d.2.map aZ))).map (·.2)).isEmpty)=jH D i j:=by
    unfold jH
    ((refine RW q<|RW Bool.not_false<|RW (Bool.true_and _) ?_);rewrite [Bool.eq_iff_iff];refine RW (m3 _) ?_;rewrite [List.any_eq_true])
    constructor
    ·intro h
     cases q:D.filter fun d=>d.1==i&&dj d.2 (bq j) with
     |nil=>rw[q] at h;exact tt h
     |cons a r=>
      have:=pe.mp (q▸(cw:a∈a::r));exact aK a this.1 this.2
    ·rintro⟨a,ha,hc⟩
     have:a∈D.filter fun d=>d.1==i&&dj d.2 (bq j):=pe.mpr ⟨ha,hc⟩;cases q:D.filter fun d=>d.1==i&&dj d.2 (bq j) with
     |nil=>rw[q] at this;cases this
     |cons a r=>rfl
   refine RW e ?_;split
   ·rename_i c;rw[if_neg (by refine RW c ?_;decide),List.append_nil] at hR;exact hR
   ·rename_i c;rw[if_pos (by simpa using c)] at hR;exact⟨ca,hR⟩
theorem UY(es)(ep:Option Nat)(v)(k):(es.length<ax∧k [.dict (dJ es (bq i) v) (EY es (bq i) ep)])=gM (.ref 0) (ag i) v [.dict es ep] k:=by kernel_rfl
theorem Du(hD:∀d∈D,d.1<5)(hl:D.length≤ax)(hQ:∀u ep,Q .next ⟨fN (D.map s6) 0++[(nm "name",u)],[.dict (fD (eW D) (List.range 5)) ep]⟩):
  (ay aX).fo (cx 942 4) E4 Bb (.seq false ao) (0,0) 0 ⟨fN (D.map s6) 0,[.dict [] (some 0)]⟩ (a8 Q):=by
 refine dp (sm:=aX) ir (vs:=ao) (fun k st=>∃l ep,st=⟨fN (D.map s6) 0++l,[.dict (fD (eW D) (List.range k)) ep]⟩∧((k=0∧l=[])∨∃v,l=[(nm "name",v)])) (by decide) (fun{k st} _=>rfl) (fun{k v st} R hv hI hR=>?_) (fun{st} hI=>?_) (pK [] (some 0) (RW (cc _) rfl) (.inl ⟨rfl,rfl⟩))
 ·refine fJ hI fun l ep aa jr=>?_;clear hI;subst aa
  have hk:k<5:=(fY.mp hv).1;have hv:v=ag k:=by rcases d7 hk with rfl|rfl|rfl|rfl|rfl<;>exact(a7 hv).symm
  subst hv;have z:(M aX).ex (cx 942 4) Bb ⟨fN (D.map s6) 0++[(nm "name",ag k)],[.dict (fD (eW D) (List.range k)) ep]⟩ (bJ R (a8 Q)):=by
   refine Eq.mp (PK _ _ _ k) (GI hD hl hk fun l=>?_);refine RW (tF _) ?_;refine aC (by refine RW (bW _) ?_;exact bZ (gw _ _) (by decide)) (Eq.mp (UY _ ep _ _) ⟨?_,?_⟩)
   ·unfold fD
    exact RW (bW _)<|RW nj<|Nat.lt_trans hk (by decide)
   ·refine hR (pK ([(nm "name",ag k)]) (EY (fD (eW D) (List.range k)) (bq k) ep) ?_ (.inr ⟨_,rfl⟩))
    have e:=wk (cl:=eW D) (k:=k) (ks:=List.range k) hk (fun x hx=>Nat.lt_trans (gE.mp hx) hk) fun q=>absurd (gE.mp q) (Nat.lt_irrefl k);have e:dJ (fD (eW D) (List.range k)) (bq k) (.seq false (((List.range 5).filter (jH D k)).map ag))=fD (eW D) (List.range (k+1)):=e.trans (bH (fD (eW D)) List.range_succ.symm);refine RW e rfl
  rcases jr with⟨rfl,rfl⟩|⟨v,rfl⟩
  ·exact RW (cc _)<|Eq.mp (Q4 _ _ _ _) z
  ·exact Eq.mp (MX _ _ v _ _) z
 ·refine fJ hI fun l ep aa jr=>?_;clear hI;subst aa
  rcases jr with⟨q,_⟩|⟨v,rfl⟩
  ·exact absurd q (by decide)
  ·exact hQ v ep
end
end
section
theorem itR{os:List O}{r:Nat}{nd:Nat→List Nat}{ep:Option Nat}(hr:os[r]? =some (.dict (fD nd (List.range 5)) ep)){j:Nat}(hj:j<5):bn os (.ref r) (ag j)=some (be (nd j)):=by
 have e:bn os (.ref r) (ag j)=(match os[r]? with
  |some (.list vs)=>II vs (ag j)
  |some (.dict es _)=>(es.find? fun e=>e.1==bq j).map (·.2)
  |_=>none):=rfl
 exact RW e<|RW hr<|mL hj (fun x hx=>gE.mp hx) (gE.mpr hj)
theorem Ea:ff cI=.Name (nm "name") (mv (ff cI)):=by kernel_rfl
theorem D9:ff iW=.Name (nm "one") (mv (ff iW)):=by kernel_rfl
theorem ve(l:List Nat)(c:Nat→Bool):((l.filter fun k=>!c k).map ag).isEmpty=l.all c:=by
 induction l with
 |nil=>rfl
 |cons a l ih=>
  refine RW jP<|RW List.all_cons ?_;cases c a with
  |false=>rfl
  |true=>exact ih
theorem nI{c:Nat→Bool}(hk:k<5){P:List (V×V)→Prop}(ca:ai.length<ax)(h:P (ai++cG c (ag k)))(e:c k=b):if b=false then P ai else ai.length<ax∧P (ai++[(.none,ag k)]):=by
 unfold cG at h;rw[gA hk,e] at h
 induction b using Bool.casesOn with
 |false=>rw[if_neg Bool.false_ne_true,List.append_nil] at h;exact h
 |true=>exact⟨ca,h⟩
theorem BV{c:Nat→Bool}(hk:k<5){P:List (V×V)→Prop}(ca:ai.length<ax)(h:P (ai++cG c (ag k)))(e:c k=b):if b=true then ai.length<ax∧P (ai++[(.none,ag k)]) else P ai:=by
 have z:=nI hk ca h e
 induction b using Bool.casesOn<;>exact z
section
variable{D:Dr}{Q:Fl→St→Prop}{K:Rs→List O→Prop}{i j:Nat}{os:List O}{nd:Nat→List Nat}{ep:Option Nat}{E:List Nat}{ds:List V}{u v t f:V}{rs:List V}
theorem Hp(j7:∀i j,j∈nd i→j<5)(ET:∀i,(nd i).length≤5)(hE:∀x∈E,x<5){Q}(hQ:∀l,Q (ao.flatMap (cG fun i=>!E.contains i&&(nd i).all fun j=>E.contains j)) ⟨EZ (E.map ag)++l,[.dict (fD nd (List.range 5)) ep]⟩):
  (ay aX).co ⟨bS cI,4⟩ none (dX cI) (ff cI) (dW cI) (.seq false ao) (0,0) 0 ⟨EZ (E.map ag),[.dict (fD nd (List.range 5)) ep]⟩ [] Q:=by
 refine RW Ea<|ci (sm:=aX) ir (C:=⟨bS cI,4⟩) (cG fun i=>!E.contains i&&(nd i).all fun j=>E.contains j) (by decide) (by kernel_rfl) (by kernel_rfl) (br _ _ _) (by decide) (fun v _=>gg _ v) (fun v hv ai R ca hR=>?_) hQ
 refine aq (df hv) fun i hi aa=>?_;subst aa;refine Eq.mp (PD _ ai R _ i)<|RW (ul hE hi _)<|RW (aw _ _) ?_;cases q:E.contains i with
 |true=>exact nI (P:=R _) hi ca hR (b:=false) (RW q rfl)
 |false=>
  refine RW (au (by decide))<|RW (itR rfl hi)<|RW (aw _ _)<|aC rfl<|RW D9 ?_
  refine ci (sm:=aX) ir (C:=⟨bS iW,4⟩) (cs:=[(nm "early",.seq false (E.map ag))]) (cG fun k=>!E.contains k) (by decide) (by kernel_rfl) rfl (br _ _ _) (by refine RW (bW _) ?_;exact bZ (ET i) (by decide)) (fun v _=>gg _ v) (fun v hv cP R' lX vw=>?_) fun l=>?_
  ·refine aq (eA.mp hv) fun k hk aa=>?_;subst aa
   have k5:=j7 i k hk;exact Eq.mp (PC _ cP R' _ k)<|RW (ul hE k5 _)<|RW (aw _ _)<|nI (P:=R' _) k5 lX vw rfl
  ·refine RW (mD _ _ fun k hk=>j7 i k hk) ?_
   refine aC (by refine RW (bW _) ?_;exact bZ (gw _ _) (bZ (ET i) (by decide))) ?_
   exact RW (eq_nil _ _)<|RW (aw _ _)<|RW (ve _ _)<|nI (P:=R _) hi ca hR (RW q rfl)
def pM(nd:Nat→List Nat)(x:List (List Nat)×List Nat):List (List Nat)×List Nat:=(if freeOf nd x.2=[] then x.1 else x.1++[freeOf nd x.2],x.2++freeOf nd x.2)
noncomputable def iB(nd:Nat→List Nat):Nat→List (List Nat)×List Nat
 |0=>([],[])
 |k+1=>pM nd (iB nd k)
theorem si(nd):∀k,(iB nd k).1.length≤k∧(iB nd k).2.length≤5*k∧∀x∈(iB nd k).2,x<5
 |0=>(cE (bI _) (bI _) (fun x hx=>nomatch hx))
 |k+1=>by
  have h:=si nd k;have hf:(freeOf nd (iB nd k).2).length≤5:=gw _ _;refine cE ?_ ?_ (fun x hx=>?_)
  ·show(if _ then _ else _:List (List Nat)).length≤_
   split
   ·exact Nat.le_succ_of_le h.1
   ·exact RW b4<|Nat.succ_le_succ h.1
  ·refine(?_:((iB nd k).2++_).length≤_)
   refine RW b4 ?_;lia
  ·refine aA (b9.mp hx) (fun q=>?_) fun q=>?_
   ·exact h.2.2 x q
   ·exact(bB.mp q).1
theorem zC(j7:∀i j,j∈nd i→j<5)(ET:∀i,(nd i).length≤5)(hQ:∀t f,Q .next ⟨f9 ds 0 u ((iB nd 5).1.map be) ((iB nd 5).2.map ag) t f,[.dict (fD nd (List.range 5)) ep]⟩):
  (ay aX).fo (cx 942 4) t3_942 b3_942 (.seq false ao) (0,0) 0 ⟨dM ds 0 u [] [],[.dict (fD nd (List.range 5)) ep]⟩ (a8 Q):=by
 refine dp (sm:=aX) ir (vs:=ao) (fun k st=>∃l,st=⟨dM ds 0 u ((iB nd k).1.map be) ((iB nd k).2.map ag)++l,[.dict (fD nd (List.range 5)) ep]⟩∧((k=0∧l=[])∨∃t f,l=[(nm "turn",t),(nm "free",f)])) (by decide) (fun{k st} _=>rfl) (fun{k v st} R hv hI hR=>?_) (fun{st} hI=>?_) (aK [] (RW (cc _) rfl) (.inl ⟨rfl,rfl⟩))
 ·refine aq hI fun l aa hl=>?_;clear hI;subst aa
  have hk:k<5:=(fY.mp hv).1;refine gq (si nd k) fun b1 b2 b3=>?_
  generalize hx:iB nd k=x at b1 b2 b3 hl ⊢
  have hR:∀t f,R ⟨dM ds 0 u ((pM nd x).1.map be) ((pM nd x).2.map ag)++[(nm "turn",t),(nm "free",f)],[.dict (fD nd (List.range 5)) ep]⟩:=fun t f=>hR (aK _ (RS hx rfl) (.inr (s7 t f rfl)));have EU:(freeOf nd x.2).length≤5:=gw _ _;have z2:bD (fun st=>(M aX).ex (cx 942 4) (b3_942.drop 1) st (bJ R (a8 Q))) (bJ R (a8 Q)) .next ⟨dM ds 0 u (x.1.map be) (x.2.map ag)++[(nm "turn",v),(nm "free",be (freeOf nd x.2))],[.dict (fD nd (List.range 5)) ep]⟩:=by
   refine aj (k:=fun st=>(M aX).ex (cx 942 4) (b3_942.drop 1) st (bJ R (a8 Q))) (Q:=bJ R (a8 Q)) (Eq.mp (PB _ _ _ _ _ _ _ _) ?_);refine RW (ne_nil _ _)<|RW (aw _ _) ?_;have hR:=hR v (be (freeOf nd x.2));unfold pM at hR;rw[List.map_append] at hR;have h1:(x.2.map ag++(freeOf nd x.2).map ag).length≤ax:=by
    exact RW b4<|RW (bW _)<|RW (bW _)<|bZ (show _≤30 by lia) (by decide)
   refine EM (freeOf nd x.2=[]) (fun c=>?_) fun c=>?_
   ·rw[if_pos c] at hR
    refine RW (au (by refine RW c ?_;decide))<|RW (cc _) ?_
    exact cE (by refine RW (bW _) ?_;exact bZ (show _≤5 by exact(fL (dy b1 hk))) (by decide)) h1 hR
   ·rw[if_neg c,List.map_append] at hR
    rewrite [if_pos (by cases q:freeOf nd x.2 with|nil=>exact absurd q c|cons a r=>rfl)]
    refine cE ?_ h1 hR;exact RW b4<|RW (bW _)<|bZ (show x.1.length+1≤6 by lia) (by decide)
  have z:(ay aX).co ⟨bS cI,4⟩ none (dX cI) (ff cI) (dW cI) (.seq false ao) (0,0) 0 ⟨EZ (x.2.map ag),[.dict (fD nd (List.range 5)) ep]⟩ [] fun ai st=>af ((ai.map (·.2)).length≤ax) (bD (fun st=>(M aX).ex (cx 942 4) (b3_942.drop 1) st (bJ R (a8 Q))) (bJ R (a8 Q)) .next ⟨dM ds 0 u (x.1.map be) (x.2.map ag)++[(nm "turn",v),(nm "free",.seq false (ai.map (·.2)))],st.os⟩):=
   Hp j7 ET b3 fun l=>by
    refine RW (tF _) ?_;exact aC (by refine RW (bW _) ?_;exact bZ EU (by decide)) z2
  rcases hl with⟨_,rfl⟩|⟨t,f,rfl⟩
  ·exact RW (cc _)<|Eq.mp (Q2 _ _ _ _ _ _ _) (bo 39 1 (Eq.mp (PE _ _ _ _ _ _ _) z))
  ·exact Eq.mp (MO _ _ _ _ _ _ _ _ _) (bo 39 1 (Eq.mp (Li _ _ _ _ _ _ _ _) z))
 ·refine aq hI fun l aa hl=>?_;clear hI;subst aa
  rcases hl with⟨q,_⟩|⟨t,f,rfl⟩
  ·exact absurd q (by decide)
  ·exact hQ t f
end
end
section
noncomputable def Iz(nd:Nat→List Nat)(i j:Nat):Bool:=(nd i).contains j||(nd i).any fun k=>(nd k).contains j
def Rk(nd:Nat→List Nat)(i:Nat):List Nat:=(List.range 5).filter (Iz nd i)
noncomputable def vt(nd:Nat→List Nat):Nat→Nat→List Nat
 |0=>nd
 |k+1=>Rk (vt nd k)
def tq(D:Dr):V:=.seq false [.bool (decide (((iB (eW D) 5).2.length:Int)<5)),.seq false ((iB (eW D) 5).1.map be),.seq false (((List.range 5).filter (iB (eW D) 5).2.contains).map fun i=>.seq false [ag i,be (vt (eW D) 5 i)])]
structure E0(nd:Nat→List Nat):Prop where
 lt:∀i j,j∈nd i→j<5
 le:∀i,(nd i).length≤5
theorem sw(c:Nat→Nat→Bool):E0 fun i=>(List.range 5).filter (c i):=⟨fun _ _ h=>gE.mp (pe.mp h).1,fun _=>gw _ _⟩
theorem B4(h:E0 nd):∀k,E0 (vt nd k)
 |0=>h
 |k+1=>sw (Iz (vt nd k))
theorem Ec:ff gb=.Name (nm "name") (mv (ff gb)):=by kernel_rfl
theorem D6:ff eZ=.Name (nm "one") (mv (ff eZ)):=by kernel_rfl
theorem D5:ff iU=.Name (nm "need") (mv (ff iU)):=by kernel_rfl
theorem D1:ff iS=.Name (nm "name") (mv (ff iS)):=by kernel_rfl
theorem Hs(l:List Nat)(c:Nat→Bool):(!((l.filter c).map ag).isEmpty)=l.any c:=by
 induction l with
 |nil=>rfl
 |cons a l ih=>
  refine RW jP<|RW lR ?_;cases c a with
  |false=>exact ih
  |true=>rfl
section
variable{D:Dr}{i j r:Nat}{os:List O}{nd:Nat→List Nat}{ep:Option Nat}{E:List Nat}{ds rs:List V}{u t f:V}{K:Rs→List O→Prop}
theorem GZ(H:E0 nd)(hr:os[r]? =some (.dict (fD nd (List.range 5)) ep))(hi:i<5)(hQ:∀l,Q (ao.flatMap (cG (Iz nd i))) ⟨Jz i r++l,os⟩):
  (ay aX).co ⟨bS eZ,4⟩ none (dX eZ) (ff eZ) (dW eZ) (.seq false ao) (0,0) 0 ⟨Jz i r,os⟩ [] Q:=by
 refine RW D6<|ci (sm:=aX) ir (C:=⟨bS eZ,4⟩) (cG (Iz nd i)) (by decide) (by kernel_rfl) (by kernel_rfl) (br _ _ _) (by decide) (fun v _=>gg _ v) (fun v hv ai R ca hR=>?_) hQ
 refine aq (df hv) fun j hj aa=>?_;subst aa;refine Eq.mp (Px os ai R r i j) ?_;have AS:=itR hr hi;have oY:∀k,bR .In (ag j) (be (nd k)) os=some ((nd k).contains j):=fun k=>nM (H.lt k) hj false os;refine RW AS<|RW (aw _ _)<|RW (oY _)<|RW (aw _ _) ?_;cases q:(nd i).contains j with
 |true=>exact BV (P:=R _) hj ca hR (b:=true) (by unfold Iz;exact RW q rfl)
 |false=>
  refine RW (au (by decide))<|RW (aw _ _)<|aC rfl<|RW D5 ?_
  refine ci (sm:=aX) ir (C:=⟨bS iU,4⟩) (cs:=NT j r) (cG fun k=>(nd k).contains j) (by decide) (by kernel_rfl) (by kernel_rfl) (br _ _ _) (by refine RW (bW _) ?_;exact bZ (H.le i) (by decide)) (fun v _=>gg _ v) (fun v hv cP R' lX vw=>?_) fun l=>?_
  ·refine aq (eA.mp hv) fun k hk aa=>?_;subst aa
   have k5:=H.lt i k hk;exact Eq.mp (Pw os cP R' r j k)<|RW (itR hr k5)<|RW (aw _ _)<|RW (oY _)<|RW (aw _ _)<|nI (P:=R' _) k5 lX vw rfl
  ·refine RW (mD _ _ fun k hk=>H.lt i k hk) ?_
   refine aC (by refine RW (bW _) ?_;exact bZ (gw _ _) (bZ (H.le i) (by decide))) ?_
   refine RW (ne_nil _ _)<|RW (aw _ _)<|RW (Hs _ _) ?_;exact BV (P:=R _) hj ca hR (by unfold Iz;exact RW q rfl)
def R1(nd:Nat→List Nat)(v:V):List (V×V):=[(v,be (Rk nd (idx v)))]
theorem KH(nd:Nat→List Nat):rH (ao.flatMap (R1 nd))=some (fD (Rk nd) (List.range 5)):=by kernel_rfl
theorem wG(H:E0 nd)(hr:os[r]? =some (.dict (fD nd (List.range 5)) ep))(hQ:Q .next ⟨f9 ds os.length u rs (E.map ag) t f,os++[.dict (fD (Rk nd) (List.range 5)) none]⟩):
  (M aX).ex (cx 942 4) b4_942 ⟨f9 ds r u rs (E.map ag) t f,os⟩ Q:=by
 refine Eq.mp (Pz _ os Q u t f rs _ r)<|RW Ec<|ci (sm:=aX) ir (C:=⟨bS gb,4⟩) (cs:=RP r) (R1 nd) (by decide) (by kernel_rfl) (by kernel_rfl) (br _ _ _) (by decide) (fun v _=>bI _) (fun v hv ai R ca hR=>?_) fun l=>?_
 ·refine aq (df hv) fun i hi aa=>?_;subst aa
  refine Eq.mp (Py os ai R r i) (GZ H hr hi fun l=>?_);refine RW (tF _) ?_;refine aC (by refine RW (bW _) ?_;exact bZ (gw _ _) (by decide)) ⟨ca,?_⟩
  unfold R1 at hR;rw[gA hi] at hR;exact hR
 ·exact RW (KH _)<|RW (aw _ _) ⟨show 5≤ax by decide,hQ⟩
theorem GV(H:E0 nd)(hQ:∀t os ep,os[5]? =some (.dict (fD (vt nd 5) (List.range 5)) ep)→Q .next ⟨f9 ds 5 u rs (E.map ag) t f,os⟩):
  (ay aX).fo (cx 942 4) t4_942 b4_942 (.seq false ao) (0,0) 0 ⟨f9 ds 0 u rs (E.map ag) t f,[.dict (fD nd (List.range 5)) ep]⟩ (a8 Q):=by
 refine dp (sm:=aX) ir (vs:=ao) (fun k st=>∃t os ep,st=⟨f9 ds k u rs (E.map ag) t f,os⟩∧os.length=k+1∧os[k]? =some (.dict (fD (vt nd k) (List.range 5)) ep)) (by decide) (fun{k st} _=>rfl) (fun{k v st} R hv hI hR=>?_) (fun{st} hI=>?_) (AJ t _ ep rfl rfl rfl)
 ·refine mU hI fun t os ep aa hl ho=>?_;clear hI;subst aa
  refine Eq.mp (Q1 _ os _ _ t f _ _ _ k) (wG (B4 H k) ho ?_);refine RW hl<|hR (AJ v _ none rfl ?_ ?_)
  ·exact RW b4<|RW hl rfl
  ·(refine RW (rA ((ka hl)))<|RW hl<|RW (Nat.sub_self _) ?_);rfl
 ·refine mU hI fun t os ep aa hl ho=>?_;clear hI;subst aa
  exact hQ t os ep ho
theorem Mm(hE:∀x∈E,x<5)(hr:os[r]? =some (.dict (fD nd (List.range 5)) ep))(h:K (.ok (.seq false [.bool (decide ((E.length:Int)<5)),.seq false rs,.seq false (((List.range 5).filter E.contains).map fun i=>.seq false [ag i,be (nd i)])])) os):
  (M aX).ex (cx 942 4) ((ac 942).drop 5) ⟨f9 ds r u rs (E.map ag) t f,os⟩ (aN K):=by
 refine Eq.mp (Pu _ os K u t f rs _ r)<|RW D1<|ci (sm:=aX) ir (C:=⟨bS iS,4⟩) (cs:=[(nm "early",.seq false (E.map ag)),(nm "needs",.ref r)]) (rF nd E.contains) (by decide) (by kernel_rfl) (by kernel_rfl) (br _ _ _) (by decide) (fun v _=>?_) (fun v hv ai R ca hR=>?_) fun l=>?_
 ·unfold rF
  split<;>first|exact bI _|exact c9 _
 ·refine aq (df hv) fun j hj aa=>?_;subst aa
  refine Eq.mp (Pt os ai R _ r j)<|RW (nM hE hj _ _)<|RW (aw _ _)<|RW (itR hr hj)<|RW (aw _ _) ?_;unfold rF at hR;rw[gA hj] at hR;cases q:E.contains j with
  |false=>rw[q,if_neg (by decide),List.append_nil] at hR;exact hR
  |true=>rw[q] at hR;exact⟨ca,hR⟩
 ·refine RW (Cg _ _) ?_
  refine aC (by refine RW (bW _) ?_;exact bZ (gw _ _) (by decide)) ?_
  exact RW (bW (f:=ag)) h
theorem HT(hD:∀d∈D,d.1<5)(hl:D.length≤ax)(h:∀os,K (.ok (tq D)) os):(ay aX).call 5 (.con (.ref 942)) [.seq false ao,.seq false (D.map s6)] [] [] K:=by
 have H:E0 (eW D):=sw (jH D);refine(bA ir 41).call (Eq.mp (KO _ K) (bo 39 1 (Eq.mp (PM _ _) ?_)));refine aj (k:=fun st=>(M aX).ex (cx 942 4) ((ac 942).drop 1) st (aN K)) (Q:=aN K) (bY 39 1 (by kernel_rfl) (Eq.mp (PL _ _ _) (Du hD hl fun u ep=>?_)))
 refine aj (k:=fun st=>(M aX).ex (cx 942 4) ((ac 942).drop 2) st (aN K)) (Q:=aN K) (bY 39 2 (by kernel_rfl) (Eq.mp (PH _ _ _ u) ?_))
 refine aj (k:=fun st=>(M aX).ex (cx 942 4) ((ac 942).drop 3) st (aN K)) (Q:=aN K) (bY 39 3 (by kernel_rfl) (Eq.mp (PF _ _ _ u [] []) (zC H.lt H.le fun t f=>?_)))
 refine aj (k:=fun st=>(M aX).ex (cx 942 4) ((ac 942).drop 4) st (aN K)) (Q:=aN K) (bY 39 4 (by kernel_rfl) (Eq.mp (PA _ _ _ u t f _ _ 0) (GV H fun t os ep ho=>?_)))
 exact aj (k:=fun st=>(M aX).ex (cx 942 4) ((ac 942).drop 5) st (aN K)) (Q:=aN K) (Mm (si _ 5).2.2 ho (h os))
end
theorem zN(n)(l:List (List Nat)):ah n (l.map be)=true:=by
 induction l with
 |nil=>rfl
 |cons a l ih=>refine(?_:(ah n (a.map ag)&&ah n (l.map be))=true);exact RW ih<|RW (aY _ _) rfl
theorem LN(n:Nat)(nd:Nat→List Nat)(l:List Nat):ah n (l.map fun i=>V.seq false [ag i,be (nd i)])=true:=by
 induction l with
 |nil=>rfl
 |cons a l ih=>refine(?_:((true&&(ah n ((nd a).map ag)&&true))&&ah n (l.map fun i=>V.seq false [ag i,be (nd i)]))=true);exact RW ih<|RW (aY _ _) rfl
def J7:List V→List (Str×V)→(V→Prop)→Prop:=fun args kws K=>kws=[]∧∃D:Dr,args=[.seq false ao,.seq false (D.map s6)]∧(∀d∈D,d.1<5)∧D.length≤ax∧K (tq D)
theorem LZ:Entry 942 5 (cZ J7):=dQ (by decide) fun{args kws K} h=>by
 (have aF:=h;clear h;refine az aF fun aa aP=>o9 aP fun D cN hD hl h=>?_;clear aF;subst aa;subst cN)
 exact HT hD hl fun os=>h
theorem Mv(n:Nat)(D:Dr):dn n (tq D)=true:=by
 refine(?_:(true&&(ah n _&&(ah n _&&true)))=true)
 ((refine RW (zN _ _) ?_);rewrite [LN]);rfl
end
section
noncomputable def jQ(c:Nat):Bool:=[32,42,63,39,91,93,35,33].contains c
def AM(c:Nat):Bool:=fB c||jQ c||[105,116,115].contains c
def Wd(w:Tx):Prop:=w≠[]∧w.length≤15∧(∀c∈w,AM c=true)∧(w.all fB=true∨w.any jQ=true)
def Kb:List V→List (Str×V)→(V→Prop)→Prop:=fun args kws K=>kws=[]∧∃ws:List Tx,args=[.seq false (ws.map V.str)]∧ws.length≤3∧(∀w∈ws,Wd w)∧K (.str (fR ws))
noncomputable abbrev IT:List (Addr×Nat×bO):=[(895,5,cZ Kb),(908,2,cZ vS),(937,12,J8),(942,5,cZ J7)]
def bx:eI:=fO IT
def xB(ss:List V):List (Str×V):=[(nm "script",.seq false ss)]
def iq(ss ds:List V):List (Str×V):=xB ss++[(nm "names",.seq false ao),(nm "lines",.ref 0),(nm "drawn",.seq false ds)]
def ft(ss ds:List V)(x:Int):List (Str×V):=iq ss ds++[(nm "x",.int x)]
def gH:List Stmt:=jA (a5 (ac 947) 1)
def E3:Expr:=vy (a5 (ac 947) 1)
noncomputable def Km(e:Expr):Expr:=if h:e.ctorIdx=2 then Expr.BinOp.elim (motive_1:=fun _=>PySem.Expr) e h fun _ _ r _=>r else e
def eh:Expr:=Km (dY (a5 gH 0))
def cT:Expr:=Km (dY (a5 gH 1))
def iV:Expr:=match dX cT with
 |.Call _ (e::_) _ _=>e
 |e=>e
def fT:Expr:=Km (dY (a5 gH 3))
noncomputable def tv(ss:List V):List V:=((ss.drop 0).take ((max 0 (min (3:Int) (ss.length:Int))).toNat-0))++[.int 1,.int 248,.int 142]
def Oi:V:=.seq false (lf.map V.str)
section
variable(ss ds:List V)(os:List O)(Q:Fl→St→Prop)(K:Rs→List O→Prop)(u v w p q:V)(ai:List (V×V))(R:St→List (V×V)→Prop)(k:St→Prop)(x y:Int)(ps ws ls:List V)(l:List (Str×V))
theorem zP(sm)(k):(aT sm (k+1)).call=xT (aT sm k):=RW (et _ _)<|RW (et _ _) rfl
theorem sy(sm)(k):(aT sm k).sm=sm:=RW (et _ _)<|rW sm k
theorem Gh(F)(h:F.sm=bx):F.ex (cx 947 12) (ac 947) ⟨xB ss,os⟩ (aN K)=xT F 13 (.con (.ref 947)) [.seq false ss] [] os K:=by
 cases F;cases h;kernel_rfl
theorem KN:(M bx).ex (cx 947 12) (ac 947) ⟨xB ss,os⟩ (aN K)=(aT bx 41).call 13 (.con (.ref 947)) [.seq false ss] [] os K:=by
 exact RW (zP _ _)<|Gh ss os K _ (sy _ _)
theorem Pr:Q .next ⟨iq ss [],[.list []]⟩=(M bx).ex (cx 947 12) ((ac 947).take 1) ⟨xB ss,[]⟩ Q:=by kernel_rfl
theorem Pq:((tv ss).length≤ax∧(ay bx).fo (cx 947 12) E3 gH (.seq false (tv ss)) (0,0) 0 ⟨iq ss ds,os⟩ (a8 Q))=(M bx).ex (cx 947 12) (a6 (ac 947) 1) ⟨iq ss ds,os⟩ Q:=by kernel_rfl
theorem Q3:k ⟨iq ss ds++[(nm "x",v)],os⟩=aI (M bx) (cx 947 12) E3 v ⟨iq ss ds,os⟩ k:=by kernel_rfl
theorem MW:k ⟨iq ss ds++(nm "x",v)::l,os⟩=aI (M bx) (cx 947 12) E3 v ⟨iq ss ds++(nm "x",u)::l,os⟩ k:=by kernel_rfl
theorem Pp:cZ vS [.int (Int.fdiv x 5)] [] os (iA fun v os=>(ay bx).co ⟨bS eh,12⟩ none (dX eh) (ff eh) (dW eh) (.seq false [.int (Int.fmod (Int.fdiv x 10935) 2)]) (0,0) 0 ⟨[(nm "x",.int x)],os⟩ [] fun ai st=>af ((ai.map (·.2)).length≤ax) (([v]++ai.map (·.2)).length≤ax∧Q .next ⟨ft ss ds x++[(nm "patterns",.seq false ([v]++ai.map (·.2)))],st.os⟩))=(M bx).ex (cx 947 12) (gH.take 1) ⟨ft ss ds x,os⟩ Q:=by kernel_rfl
theorem Lh:cZ vS [.int (Int.fdiv x 5)] [] os (iA fun v os=>(ay bx).co ⟨bS eh,12⟩ none (dX eh) (ff eh) (dW eh) (.seq false [.int (Int.fmod (Int.fdiv x 10935) 2)]) (0,0) 0 ⟨[(nm "x",.int x)],os⟩ [] fun ai st=>af ((ai.map (·.2)).length≤ax) (([v]++ai.map (·.2)).length≤ax∧Q .next ⟨ft ss ds x++[(nm "patterns",.seq false ([v]++ai.map (·.2))),(nm "words",w)],st.os⟩))=(M bx).ex (cx 947 12) (gH.take 1) ⟨ft ss ds x++[(nm "patterns",p),(nm "words",w)],os⟩ Q:=by kernel_rfl
theorem Pb:(am (bR .Eq (.int y) (.int 1) os) fun c=>if c=false then R ⟨[(nm "x",.int x)]++[(nm "one",.int y)],os⟩ ai else cZ vS [.int (Int.fdiv x 21870)] [] os (iA fun v os=>ai.length<ax∧R ⟨[(nm "x",.int x)]++[(nm "one",.int y)],os⟩ (ai++[(.none,v)])))=
  dA (M bx) ⟨bS eh,12⟩ .And (dW eh) ⟨[(nm "x",.int x)]++[(nm "one",.int y)],os⟩ fun ok st=>match ok with
   |true=>ba (M bx) ⟨bS eh,12⟩ none (dX eh) st ai R
   |false=>R st ai:=by kernel_rfl
theorem Po:(am (bn os (.seq false ao) (.int (Int.fmod x 5))) fun v=>(ay bx).co ⟨bS cT,12⟩ none (dX cT) (ff cT) (dW cT) (.seq false ps) (0,0) 0 ⟨[],os⟩ [] fun ai st=>af ((ai.map (·.2)).length≤ax) (([v]++ai.map (·.2)).length≤ax∧Q .next ⟨ft ss ds x++[(nm "patterns",.seq false ps),(nm "words",.seq false ([v]++ai.map (·.2)))],st.os⟩))=(M bx).ex (cx 947 12) (a6 gH 1) ⟨ft ss ds x++[(nm "patterns",.seq false ps)],os⟩ Q:=by kernel_rfl
theorem Lg:(am (bn os (.seq false ao) (.int (Int.fmod x 5))) fun v=>(ay bx).co ⟨bS cT,12⟩ none (dX cT) (ff cT) (dW cT) (.seq false ps) (0,0) 0 ⟨[],os⟩ [] fun ai st=>af ((ai.map (·.2)).length≤ax) (([v]++ai.map (·.2)).length≤ax∧Q .next ⟨ft ss ds x++[(nm "patterns",.seq false ps),(nm "words",.seq false ([v]++ai.map (·.2)))],st.os⟩))=(M bx).ex (cx 947 12) (a6 gH 1) ⟨ft ss ds x++[(nm "patterns",.seq false ps),(nm "words",w)],os⟩ Q:=by kernel_rfl
theorem Pa:((ay bx).co ⟨bS iV,12⟩ none (dX iV) (ff iV) (dW iV) (.seq false ls) (0,0) 0 ⟨[],os⟩ [] fun cP st'=>af ((cP.map (·.2)).length≤ax) (am (bL ((cP.map (·.2)).map V.text?)) fun l=>l.flatten.length≤ax∧ai.length<ax∧R ⟨[(nm "items",.seq false ls)],st'.os⟩ (ai++[(.none,.str l.flatten)])))=
  dA (M bx) ⟨bS cT,12⟩ .And (dW cT) ⟨[(nm "items",.seq false ls)],os⟩ fun ok st=>match ok with
   |true=>ba (M bx) ⟨bS cT,12⟩ none (dX cT) st ai R
   |false=>R st ai:=by kernel_rfl
theorem O9(a b c):(ai.length<ax∧R ⟨[(nm "item",.seq false [a,b,c])],os⟩ (ai++[(.none,a)]))=
  dA (M bx) ⟨bS iV,12⟩ .And (dW iV) ⟨[(nm "item",.seq false [a,b,c])],os⟩ fun ok st=>match ok with
   |true=>ba (M bx) ⟨bS iV,12⟩ none (dX iV) st ai R
   |false=>R st ai:=by kernel_rfl
theorem Pn:cZ Kb [.seq false ws] [] (.list ls::os) (iA fun v os=>am (bn os Oi (.int (Int.fmod x 4))) fun u=>am (Fw v u) fun z=>pr z.2 (gl 0 z.1 os fun _ os=>Q .next ⟨ft ss ds x++[(nm "patterns",.seq false ps),(nm "words",.seq false ws)],os⟩))=(M bx).ex (cx 947 12) (a6 gH 2) ⟨ft ss ds x++[(nm "patterns",.seq false ps),(nm "words",.seq false ws)],.list ls::os⟩ Q:=by kernel_rfl
theorem Pm:((ay bx).co ⟨bS fT,12⟩ none (dX fT) (ff fT) (dW fT) (.seq false ps) (0,0) 0 ⟨[(nm "names",.seq false ao),(nm "x",.int x)],os⟩ [] fun ai st=>af ((ai.map (·.2)).length≤ax) ((ds++ai.map (·.2)).length≤ax∧Q .next ⟨ft ss (ds++ai.map (·.2)) x++[(nm "patterns",.seq false ps),(nm "words",w)],st.os⟩))=(M bx).ex (cx 947 12) (a6 gH 3) ⟨ft ss ds x++[(nm "patterns",.seq false ps),(nm "words",w)],os⟩ Q:=by kernel_rfl
theorem O8:(am (bn os (.seq false ao) (.int (Int.fmod x 5))) fun u=>ai.length<ax∧R ⟨[(nm "names",.seq false ao),(nm "x",.int x)]++[(nm "items",v)],os⟩ (ai++[(.none,.seq false [u,v])]))=
  dA (M bx) ⟨bS fT,12⟩ .And (dW fT) ⟨[(nm "names",.seq false ao),(nm "x",.int x)]++[(nm "items",v)],os⟩ fun ok st=>match ok with
   |true=>ba (M bx) ⟨bS fT,12⟩ none (dX fT) st ai R
   |false=>R st ai:=by kernel_rfl
theorem Pl:J8 [.seq false ao,.ref 0] [] os (iA fun v os=>cZ J7 [.seq false ao,.seq false ds] [] os (iA fun w os=>am (bR .Eq v w os) fun c=>K (.ok (.bool c)) os))=(M bx).ex (cx 947 12) ((ac 947).drop 2) ⟨iq ss ds++l,os⟩ (aN K):=by kernel_rfl
end
end
section
def jz(its:List Item):V:=.seq false (its.map aZ)
def bE(x:Int):List (List Item):=fP (Int.fdiv x 5)::if Int.fmod (Int.fdiv x 10935) 2=1 then[fP (Int.fdiv x 21870)] else[]
noncomputable def xm(x:Int):Nat:=(Int.fmod x 5).toNat
def xH(x:Int):Tx:=(lf[(Int.fmod x 4).toNat]?).getD []
def wordsOf(x:Int):List Tx:=bq (xm x)::(bE x).map bu
def jT(x:Int):Tx:=fR (wordsOf x)++xH x
def OB(x:Int):Tx×Ln:=(jT x,(xm x,bE x))
def rG(x:Int):Dr:=(bE x).map fun its=>(xm x,its)
theorem lc(x):xm x<5:=by
 have h0:=zb x (show(0:Int)<5 by decide)
 have h1:=Int.fmod_lt_of_pos x (show(0:Int)<5 by decide)
 unfold xm;lia
theorem yu(x)(os):bn os (.seq false ao) (.int (Int.fmod x 5))=some (ag (xm x)):=by
 have h0:=zb x (show(0:Int)<5 by decide)
 have h1:=lc x;unfold xm at h1 ⊢;refine bf (Int.eq_ofNat_of_zero_le h0) fun n hn=>?_;rw[hn] at h1 ⊢;rcases d7 (show n<5 from h1) with rfl|rfl|rfl|rfl|rfl<;>rfl
theorem BL(x)(os):bn os Oi (.int (Int.fmod x 4))=some (.str (xH x))∧xH x∈lf:=by
 have h0:=zb x (show(0:Int)<4 by decide)
 have h1:=Int.fmod_lt_of_pos x (show(0:Int)<4 by decide)
 unfold xH;refine bf (Int.eq_ofNat_of_zero_le h0) fun n hn=>?_;rw[hn] at h1 ⊢;have:n=0∨n=1∨n=2∨n=3:=by lia
 rcases this with rfl|rfl|rfl|rfl<;>exact⟨rfl,by decide⟩
theorem yo(x):(fP x).length≤3:=by
 have h1:=Int.fmod_lt_of_pos x (show(0:Int)<3 by decide)
 unfold fP;refine RW (bW _)<|RW nj ?_;lia
theorem yn(x):∀i∈fP x,i∈a3:=by
 intro i hi;refine aq (eA.mp hi) fun k _ aa=>?_;subst aa;have h:=yl (Int.fdiv (Int.fdiv x 3) (9^k));unfold pick;rw[List.getElem?_eq_getElem (show _<a3.length by refine(?_:_<9);lia)]
 exact lU _
theorem gh(x):((bE x).length=1∨(bE x).length=2)∧∀its∈bE x,(∀i∈its,i∈a3)∧its.length≤3:=by
 unfold bE;split
 ·refine⟨.inr rfl,fun its h=>?_⟩
  rw[List.mem_cons,List.mem_singleton] at h;rcases h with rfl|rfl<;>exact⟨yn _,yo _⟩
 ·refine⟨.inl rfl,fun its h=>?_⟩
  rw[List.mem_singleton] at h;subst h;exact⟨yn _,yo _⟩
theorem x5(n:Nat)(its:List Item):ah n (its.map aZ)=true:=by
 induction its with
 |nil=>rfl
 |cons a l ih=>refine(?_:(true&&ah n (l.map aZ))=true);exact RW ih rfl
theorem F8(n)(l:List Tx):ah n (l.map V.str)=true:=by
 induction l with
 |nil=>rfl
 |cons a l ih=>refine(?_:(true&&_)=true);exact RW ih rfl
section
variable{sm:eI}{C:Cx}
theorem QQ(hs:bt sm){ke:Option Expr}{elt:Expr}{ifs:List Expr}{x:Str}{xp:Pos}{bj:V}{n:Nat×Nat}{vs:List V}{cs:List (Str×V)}{os:List O}(A:Nat→List (V×V)){Q:List (V×V)→St→Prop}
  (hd:C.d≠0) (hx:fA C x=true) (EV:(cs.all fun e=>!(e.1==x))=true) (hit:Gives os bj n vs) (hl:vs.length≤ax) (h0:A 0=[]) (hA:∀k,k<vs.length→(A k).length≤k)
  (step:∀k v,vs[k]? =some v→∀(R:St→List (V×V)→Prop),(A k).length<ax→R ⟨cs++[(x,v)],os⟩ (A (k+1))→dA (M sm) C .And ifs ⟨cs++[(x,v)],os⟩ fun ok st=>match ok with
   |true=>ba (M sm) C ke elt st (A k) R
   |false=>R st (A k))
  (hQ:∀l,Q (A vs.length) ⟨cs++l,os⟩):(ay sm).co C ke elt (.Name x xp) ifs bj n 0 ⟨cs,os⟩ [] Q:=
 Cz hs A (fun v=>[(x,v)]) hd (fun v _ l hl k hk=>by
  have e:=jX x v cs l EV (hl.imp id fun⟨u,_,e⟩=>⟨u,e⟩);refine(?_:af (fA C x=true) (k ⟨bX x v (cs++l),os⟩));exact RW e<|aC hx hk) hit hl h0 hA step hQ
theorem ww(hs:bt sm){elt:Expr}{ifs:List Expr}{x:Str}{xp:Pos}{os:List O}{cs:List (Str×V)}{α:Type}{l:List α}{f g:α→V}{Q:List (V×V)→St→Prop}
  (hd:C.d≠0) (hx:fA C x=true) (EV:(cs.all fun e=>!(e.1==x))=true) (hl:l.length≤ax)
  (step:∀a∈l,∀ai (R:St→List (V×V)→Prop),ai.length<ax→R ⟨cs++[(x,f a)],os⟩ (ai++[(.none,g a)])→dA (M sm) C .And ifs ⟨cs++[(x,f a)],os⟩ fun ok st=>match ok with
   |true=>ba (M sm) C none elt st ai R
   |false=>R st ai)
  (hQ:∀vs,Q (l.map fun a=>(.none,g a)) ⟨cs++vs,os⟩):(ay sm).co C none elt (.Name x xp) ifs (.seq false (l.map f)) (0,0) 0 ⟨cs,os⟩ [] Q:=by
 refine QQ hs (fun k=>(l.take k).map fun a=>(.none,g a)) hd hx EV (br _ _ _) (RW (bW _) hl) rfl (fun k _=>RW (bW _)<|RW List.length_take<|Nat.min_le_left _ _) (fun k v hv R hR h=>?_) fun vs=>by exact RW (bW _)<|RW ph<|hQ vs
 rw[List.getElem?_map] at hv;refine aq (eG.mp hv) fun a ha aa=>?_;subst aa;rw[List.take_add_one,ha,Option.toList_some,List.map_append] at h;exact step a (db ha) _ R hR h
end
theorem D4:ff eh=.Name (nm "one") (mv (ff eh)):=by kernel_rfl
theorem D3:ff cT=.Name (nm "items") (mv (ff cT)):=by kernel_rfl
theorem D7:ff iV=.Name (nm "item") (mv (ff iV)):=by kernel_rfl
theorem Eb:ff fT=.Name (nm "items") (mv (ff fT)):=by kernel_rfl
section
variable{x:Int}{os:List O}{its:List Item}
theorem oi{K}(h:K (jz (fP y)) os):cZ vS [.int y] [] os (iA K):=⟨⟨rfl,rfl⟩,rfl,y,rfl,x5 0 _,h⟩
theorem ym(hs:bt bx){Q}(h:∀l,Q ((bE x).tail.map fun its=>(.none,jz its)) ⟨[(nm "x",.int x)]++l,os⟩):(ay bx).co ⟨bS eh,12⟩ none (dX eh) (ff eh) (dW eh) (.seq false [.int (Int.fmod (Int.fdiv x 10935) 2)]) (0,0) 0 ⟨[(nm "x",.int x)],os⟩ [] Q:=by
 refine RW D4<|ci (sm:=bx) hs (C:=⟨bS eh,12⟩) (fun v=>(bE x).tail.map fun its=>(.none,jz its)) (by decide) (by kernel_rfl) (by kernel_rfl) (br _ _ _) (show 1≤ax by decide) (fun v _=>?_) (fun v hv ai R ca hR=>?_) fun l=>?_
 ·refine RW (bW _)<|RW List.length_tail ?_
  have:=(gh x).1;lia
 ·cases dw.mp hv
  refine Eq.mp (Pb os ai R x _) ?_;refine(?_:(if(Int.fmod (Int.fdiv x 10935) 2==1)=false then _ else _))
  unfold bE at hR;refine EM (Int.fmod (Int.fdiv x 10935) 2=1) (fun c=>?_) fun c=>?_
  ·refine RW (au (by refine RW c ?_;decide)) ?_
   rw[if_pos c] at hR;exact oi ⟨ca,hR⟩
  ·refine RW (aB (by rw[beq_eq_false_iff_ne];exact c)) ?_
   rw[if_neg c,List.tail_cons,List.map_nil,List.append_nil] at hR;exact hR
 ·have h:=h l
  rw[←List.append_nil (List.map _ _)] at h;exact h
theorem item_text(its:List Item):bL ((its.map fun i=>V.str i.1).map V.text?)=some (its.map (·.1)):=by
 refine RW iI ?_;exact(bH bL (iI (f:=(·.1)) (g:=some) (l:=its)).symm).trans (fb _)
theorem z0(its):(its.map (·.1)).flatten=bu its:=RS List.flatMap_def rfl
theorem qr(hi:∀i∈its,i∈a3)(hl:its.length≤3):(bu its).length≤15:=by
 have h5:∀i∈a3,i.1.length≤5:=by decide
 have:∀l:List Item,(∀i∈l,i∈a3)→(bu l).length≤5*l.length:=by
  intro l
  induction l with
  |nil=>exact fun _=>bI _
  |cons a l ih=>
   intro h;have h1:=ih fun i hi=>h i (dZ _ hi);have h2:=h5 a (h a cw);unfold bu at h1 ⊢;refine RW m4<|RW b4<|RW eR ?_;lia
 exact bZ (this its hi) (by lia)
theorem CH(hs:bt bx){Q}(h:∀l,Q ((bE x).map fun its=>(.none,.str (bu its))) ⟨[]++l,os⟩):(ay bx).co ⟨bS cT,12⟩ none (dX cT) (ff cT) (dW cT) (.seq false ((bE x).map jz)) (0,0) 0 ⟨[],os⟩ [] Q:=by
 refine RW D3 ?_;have hp:=gh x;refine ww (sm:=bx) hs (C:=⟨bS cT,12⟩) (cs:=[]) (by decide) (by kernel_rfl) rfl (bZ (show _≤2 by lia) (by decide)) (fun its hi ai R ca hR=>?_) h
 refine az (hp.2 its hi) fun h1 h2=>Eq.mp (Pa os ai R _)<|RW D7<|ww (sm:=bx) hs (C:=⟨bS iV,12⟩) (cs:=[]) (f:=aZ) (g:=fun i=>V.str i.1) (by decide) (by kernel_rfl) rfl (bZ h2 (by decide)) (fun i _ cP R' lX vw=>Eq.mp (O9 os cP R' _ _ _) ⟨lX,vw⟩) fun l=>?_
 have e:(its.map fun i=>((.none:V),V.str i.1)).map (·.2)=its.map fun i=>V.str i.1:=iI;refine RW e<|RW (item_text _)<|RW (aw _ _)<|RW (z0 _) ?_;refine aC (by refine RW (bW _) ?_;exact bZ h2 (by decide)) (cE (bZ (qr h1 h2) (by decide)) ca hR)
theorem DV(hs:bt bx){Q}(h:∀l,Q ((bE x).map fun its=>(.none,s6 (xm x,its))) ⟨[(nm "names",.seq false ao),(nm "x",.int x)]++l,os⟩):(ay bx).co ⟨bS fT,12⟩ none (dX fT) (ff fT) (dW fT) (.seq false ((bE x).map jz)) (0,0) 0 ⟨[(nm "names",.seq false ao),(nm "x",.int x)],os⟩ [] Q:=by
 refine RW Eb ?_;have hp:=gh x;refine ww (sm:=bx) hs (C:=⟨bS fT,12⟩) (by decide) (by kernel_rfl) (by kernel_rfl) (bZ (show _≤2 by lia) (by decide)) (fun its hi ai R ca hR=>Eq.mp (O8 os _ ai R x) ?_) h
 exact RW (yu _ _)<|RW (aw _ _) ⟨ca,hR⟩
end
end
theorem sA:∀i∈a3,i.1≠[]∧(∀c∈i.1,AM c=true)∧(i.1.all fB=true∨i.1.any jQ=true):=by decide
theorem FG(hi:∀i∈its,i∈a3)(hl:its.length≤3)(h0:its≠[]):Wd (bu its):=by
 refine qU ?_ (qr hi hl) ?_ ?_
 ·induction its using List.casesOn with
  |nil=>exact absurd rfl h0
  |cons a l=>
   intro e;exact(sA a (hi a cw)).1 (List.append_eq_nil_iff.mp e).1
 ·intro c hc
  exact aq (List.mem_flatMap.mp hc) fun i h1 h2=>(sA i (hi i h1)).2.1 c h2
 ·clear hl h0
  unfold bu
  induction its with
  |nil=>exact .inl rfl
  |cons a l ih=>
   refine RW m4<|RW List.all_append<|RW List.any_append<|RW (Bool.and_eq_true _ _)<|RW (Bool.or_eq_true _ _)<|aA (sA a (hi a cw)).2.2 (fun h=>?_) fun h=>?_
   ·exact(ih fun i q=>hi i (dZ _ q)).imp (fun q=>⟨h,q⟩) .inr
   ·exact .inr (.inl h)
theorem FF:∀{i:Nat},i<5→Wd (bq i):=fun{i} hi=>by
 rcases d7 hi with rfl|rfl|rfl|rfl|rfl
 ·exact qU (by decide) (by decide) (by decide) (.inl (by decide))
 all_goals exact(qU (by decide) (by decide) (by decide) (.inr (by decide)))
theorem BW(x):fP x≠[]:=by
 have h:=zb x (show(0:Int)<3 by decide)
 intro e;have:=bH List.length e;unfold fP at this;rw[List.length_map,List.length_range,List.length_nil] at this;lia
theorem nR(x):∀w∈wordsOf x,Wd w:=by
 intro w hw;rcases cW.mp hw with rfl|hw
 ·exact FF (lc x)
 ·refine aq (eA.mp hw) fun its hi aa=>?_;subst aa
  refine az ((gh x).2 its hi) fun h1 h2=>FG h1 h2 ?_;unfold bE at hi;split at hi
  ·rw[List.mem_cons,List.mem_singleton] at hi
   rcases hi with rfl|rfl<;>exact BW _
  ·rw[List.mem_singleton] at hi
   subst hi;exact BW _
theorem lj(x):(wordsOf x).length≤3:=by
 have:=(gh x).1;unfold wordsOf;refine RW eR<|RW (bW _) ?_;lia
def Ni(c:Nat):Bool:=AM c||c==34||c==9
theorem LW(h:AM c=true):∀d∈jM c,Ni d=true:=by
 intro d hd;unfold jM at hd;split at hd
 ·have:∀d∈[39,34,39,34,39],Ni d=true:=by decide
  exact this d hd
 ·rw[List.mem_singleton] at hd
  subst hd;unfold Ni;exact RW h rfl
theorem wq(h:Wd w):(∀c∈enc w,Ni c=true)∧(enc w).length≤77:=by
 have h5:∀c,(jM c).length≤5:=fun c=>by unfold jM;split<;>exact(Nat.le_of_ble_eq_true rfl)
 have hl:∀l:Tx,(l.flatMap jM).length≤5*l.length:=by
  intro l
  induction l with
  |nil=>exact bI _
  |cons a l ih=>refine RW m4<|RW b4<|RW eR ?_;have:=h5 a;lia
 unfold enc;have h2:=h.2.1;split
 ·exact⟨fun c hc=>by unfold Ni;rw[h.2.2.1 c hc];rfl,by exact(bZ h2 (by decide))⟩
 ·have:=hl w
  refine⟨fun c hc=>?_,by refine RW eR<|RW b4<|RW List.length_singleton ?_;lia⟩
  rcases cW.mp hc with rfl|hc
  ·rfl
  ·refine aA (b9.mp hc) (fun hc=>?_) fun hc=>?_
   ·exact aq (List.mem_flatMap.mp hc) fun d hd hc=>LW (h.2.2.1 d hd) c hc
   ·rw[List.mem_singleton] at hc;subst hc;rfl
theorem n5:∀{ws:List Tx},(∀w∈ws,Wd w)→(∀c∈fR ws,Ni c=true)∧(fR ws).length≤78*ws.length
 |[],_=>⟨fun c hc=>(nomatch hc),c9 _⟩
 |[w],h=>by
  have:=wq (h w cw);exact⟨this.1,bZ this.2 (Nat.le_succ 77)⟩
 |w::v::ws,h=>by
  have h1:=wq (h w cw);have h2:=n5 (ws:=v::ws) fun u m=>h u (dZ _ m);have e:fR (w::v::ws)=enc w++32::fR (v::ws):=rfl;refine RW e ?_;refine⟨fun c hc=>?_,by refine RW b4<|RW eR ?_;have:=h1.2;have:=h2.2;refine RW (eR (a:=w)) ?_;lia⟩
  refine aA (b9.mp hc) (fun hc=>?_) fun hc=>?_
  ·exact h1.1 c hc
  ·rcases cW.mp hc with rfl|hc
   ·rfl
   ·exact h2.1 c hc
theorem yB(x):A3 (OB x)∧(jT x).length+1≤300∧(fR (wordsOf x)).length≤234:=by
 refine az (n5 (nR x)) fun j1 j2=>?_;have hw:=lj x;have hs:=(BL x []).2;have s1:∀s∈lf,s.length≤5∧∀c∈s,c≠10:=by decide
 refine az (s1 _ hs) fun s2 s3=>?_;have a9:(jT x).length+1≤300:=by
  unfold jT;refine RW b4 ?_;lia
 have hp:=gh x;refine cE (qU (lc x) hp.1 ?_ (fun its hi=>⟨(hp.2 its hi).1,dy (hp.2 its hi).2 (by decide)⟩)) a9 (by lia)
 refine qc hs ?_ (bZ a9 (by decide)) (wordsOf x) 0 1 (List.cons_ne_nil _ _) (fun w h=>?_) rfl
 ·((refine RS (Bool.not_eq_true _) ?_);rewrite [List.contains_iff_mem])
  intro h;refine aA (b9.mp h) (fun h=>?_) fun h=>?_
  ·exact absurd (j1 10 h) (by decide)
  ·exact s3 10 h rfl
 ·exact kT (nR x w h) fun h1 h2 h3 _=>(cE h1 (fun c hc e=>absurd (e▸h3 c hc) (by decide)) (bZ h2 (by decide)))
section
def xv(xs:List Int):Dr:=xs.flatMap rG
def xo(xs:List Int):List (Tx×Ln):=xs.map OB
section
variable{ss ds:List V}{Q:Fl→St→Prop}{K:Rs→List O→Prop}{x:Int}{ls:List V}{l:List (Str×V)}
def Sz(l:List (Str×V)):Prop:=l=[]∨∃x p w,l=[(nm "x",x),(nm "patterns",p),(nm "words",w)]
theorem TE(v)(os)(k:V→List O→Prop):(ls.length<ax∧k .none (.list (ls++[v])::os))=gl 0 v (.list ls::os) k:=by kernel_rfl
theorem add_str(a b)(k:V×Option Nat→Prop):k (.str (a++b),some (a++b).length)=am (Fw (.str a) (.str b)) k:=by kernel_rfl
theorem FQ(hs:bt bx)(hl:ls.length<100)(hd:ds.length≤100)(hv:Sz l)(hQ:∀l,Sz l→Q .next ⟨iq ss (ds++(rG x).map s6)++l,[.list (ls++[.str (jT x)])]⟩):
  aI (M bx) (cx 947 12) E3 (.int x) ⟨iq ss ds++l,[.list ls]⟩ fun st=>(M bx).ex (cx 947 12) gH st Q:=by
 have hp:=(gh x).1;have ln:=yB x;have z3:(M bx).ex (cx 947 12) (gH.drop 2) ⟨ft ss ds x++[(nm "patterns",.seq false ((bE x).map jz)),(nm "words",.seq false ((wordsOf x).map V.str))],[.list ls]⟩ Q:=by
  refine bY 39 2 (by kernel_rfl) (Eq.mp (Pn ss ds [] _ x _ _ ls) ⟨⟨show(ah 0 ((wordsOf x).map V.str)&&true)=true by(with_reducible refine RW (F8 _ _) ?_);rfl,rfl⟩,rfl,wordsOf x,rfl,lj x,nR x,rfl,?_⟩)
  refine(?_:am _ _)
  (with_reducible refine RW (BL x _).1<|RW (aw _ _) ?_)
  refine Eq.mp (add_str _ _ _) ⟨bZ (show(jT x).length≤300 by have:=ln.2.1;exact(bZ (iL _ _) ln.2.1)) (by decide),Eq.mp (TE _ _ _) ⟨Nat.lt_trans hl (by decide),?_⟩⟩
  refine aj (k:=fun st=>(M bx).ex (cx 947 12) (gH.drop 3) st Q) (Q:=Q) (bY 39 3 (by kernel_rfl) (Eq.mp (Pm ss ds _ _ _ x _) (DV hs fun l=>?_)))
  have e:((bE x).map fun its=>((.none:V),s6 (xm x,its))).map (·.2)=(rG x).map s6:=by
   unfold rG
   (with_reducible refine RW iI<|RW iI ?_);rfl
  (with_reducible refine RW e ?_)
  have el:((rG x).map s6).length≤2:=by
   unfold rG
   (with_reducible refine RW (bW _)<|RW (bW _) ?_);lia
  refine aC (bZ el (by decide)) ⟨?_,?_⟩
  ·(with_reducible refine RW b4 ?_)
   exact bZ (show _≤102 by exact(Nat.add_le_add hd el)) (by decide)
  ·refine aj (k:=fun st=>(M bx).ex (cx 947 12) (gH.drop 4) st Q) (Q:=Q) ?_
   have e:∀st,Q .next st=(M bx).ex (cx 947 12) (gH.drop 4) st Q:=fun st=>by kernel_rfl
   exact Eq.mp (e _) (hQ [_,_,_] (.inr (UI _ _ _ rfl)))
 have z2:∀l,(l=[]∨∃w,l=[(nm "words",w)])→(M bx).ex (cx 947 12) (gH.drop 1) ⟨ft ss ds x++(nm "patterns",.seq false ((bE x).map jz))::l,[.list ls]⟩ Q:=by
  intro l hl;refine bY 39 1 (by kernel_rfl) ?_
  have z:am (bn [.list ls] (.seq false ao) (.int (Int.fmod x 5))) fun v=>(ay bx).co ⟨bS cT,12⟩ none (dX cT) (ff cT) (dW cT) (.seq false ((bE x).map jz)) (0,0) 0 ⟨[],[.list ls]⟩ [] fun ai st=>af ((ai.map (·.2)).length≤ax) (([v]++ai.map (·.2)).length≤ax∧bD (fun st=>(M bx).ex (cx 947 12) (gH.drop 2) st Q) Q .next ⟨ft ss ds x++[(nm "patterns",.seq false ((bE x).map jz)),(nm "words",.seq false ([v]++ai.map (·.2)))],st.os⟩):=by
   (with_reducible refine RW (yu _ _)<|RW (aw _ _) ?_)
   refine CH hs fun l=>?_;have e:[ag (xm x)]++((bE x).map fun its=>((.none:V),V.str (bu its))).map (·.2)=(wordsOf x).map V.str:=by
    unfold wordsOf
    (with_reducible refine RW iI<|RW cV<|RW iI ?_);rfl
   (with_reducible refine RW e ?_)
   refine aC (by(with_reducible refine RW (bW _)<|RW (bW _) ?_);exact bZ (show _≤2 by lia) (by decide)) ⟨?_,aj (k:=fun st=>(M bx).ex (cx 947 12) (gH.drop 2) st Q) (Q:=Q) z3⟩
   (with_reducible refine RW (bW _) ?_)
   exact bZ (lj x) (by decide)
  rcases hl with rfl|⟨w,rfl⟩
  ·exact Eq.mp (Po ss ds _ _ x _) z
  ·exact Eq.mp (Lg ss ds _ _ w x _) z
 have z1:∀l,(l=[]∨∃w,l=[(nm "words",w)])→∀v,v=jz (fP (Int.fdiv x 5))→af ((((bE x).tail.map fun its=>((.none:V),jz its)).map (·.2)).length≤ax) (([v]++((bE x).tail.map fun its=>((.none:V),jz its)).map (·.2)).length≤ax∧bD (fun st=>(M bx).ex (cx 947 12) (gH.drop 1) st Q) Q .next ⟨ft ss ds x++(nm "patterns",.seq false ([v]++((bE x).tail.map fun its=>((.none:V),jz its)).map (·.2)))::l,[.list ls]⟩):=by
  intro l hl v hv;subst hv;have e:[jz (fP (Int.fdiv x 5))]++((bE x).tail.map fun its=>((.none:V),jz its)).map (·.2)=(bE x).map jz:=by
   (with_reducible refine RW iI ?_);rfl
  (with_reducible refine RW e ?_)
  refine aC ?_ ⟨?_,aj (k:=fun st=>(M bx).ex (cx 947 12) (gH.drop 1) st Q) (Q:=Q) (z2 l hl)⟩
  ·(with_reducible refine RW (bW _)<|RW (bW _)<|RW List.length_tail ?_)
   exact bZ (show _≤2 by lia) (by decide)
  ·(with_reducible refine RW (bW _) ?_)
   exact bZ (show _≤2 by lia) (by decide)
 rcases hv with rfl|⟨u,p,w,rfl⟩
 ·(with_reducible refine RW (cc _) ?_)
  exact Eq.mp (Q3 ss ds _ _ _) (bo 39 1 (Eq.mp (Pp ss ds _ _ x) (oi (ym hs fun l=>z1 [] (.inl rfl) _ rfl))))
 ·exact Eq.mp (MW ss ds _ u _ _ _) (bo 39 1 (Eq.mp (Lh ss ds _ _ w p x) (oi (ym hs fun l=>z1 _ (.inr ⟨w,rfl⟩) _ rfl))))
theorem Cr(xs:List Int):(xv xs).length≤2*xs.length:=by
 induction xs with
 |nil=>exact bI _
 |cons a l ih=>
  have:=(gh a).1;unfold xv at ih ⊢;unfold rG at ih ⊢
  (with_reducible refine RW m4<|RW b4<|RW (bW _)<|RW eR ?_);lia
theorem HS(hs:bt bx)(hx:tv ss=xs.map V.int)(hn:xs≠[])(hl:xs.length≤6)(he:NQ (tc (iF (xo xs)).2) (tq (xv xs))=some true)(h:∀os,K (.ok (.bool true)) os):(ay bx).call 13 (.con (.ref 947)) [.seq false ss] [] [] K:=by
 refine(bA hs 41).call (Eq.mp (KN ss [] K) (bo 39 1 (Eq.mp (Pr ss _) ?_)));refine aj (k:=fun st=>(M bx).ex (cx 947 12) ((ac 947).drop 1) st (aN K)) (Q:=aN K) (bY 39 1 (by kernel_rfl) (Eq.mp (Pq ss [] _ _) ?_))
 refine RW hx ?_;refine⟨by refine RW (bW _) ?_;exact bZ hl (by decide),?_⟩
 refine dp (sm:=bx) hs (vs:=xs.map V.int) (fun k st=>∃l,st=⟨iq ss ((xv (xs.take k)).map s6)++l,[.list (oW (xo (xs.take k)))]⟩∧Sz l) (by decide) (fun{k st} _=>rfl) (fun{k v st} R hv hI hR=>?_) (fun{st} hI=>?_) (aK [] (RW (cc _) rfl) (.inl rfl))
 ·rw[List.getElem?_map] at hv
  refine aq (eG.mp hv) fun x hx aa=>?_;subst aa;refine aq hI fun l aa jr=>?_;clear hI;subst aa;have h1:=Cr (xs.take k);have h2:(xs.take k).length≤6:=bZ (List.length_take_le' _ _) hl;refine FQ hs ?_ ?_ jr fun l Tj=>hR (aK l ?_ Tj)
  ·unfold oW xo
   refine RW (bW _)<|RW (bW _) ?_;exact(dy h2 (by decide))
  ·refine RW (bW _) ?_;lia
  ·have e1:xv (xs.take (k+1))=xv (xs.take k)++rG x:=by
    unfold xv;refine RW kY<|RW hx<|RW (m5 _)<|RW List.flatMap_append ?_;refine(?_:_++(rG x++[])=_);refine RW (cc _) rfl
   have e2:oW (xo (xs.take (k+1)))=oW (xo (xs.take k))++[.str (jT x)]:=by
    unfold oW xo;exact RW kY<|RW hx<|RW (m5 _)<|RW cz<|RW cz rfl
   refine RW e1<|RW e2<|RW cz rfl
 ·refine aq hI fun l aa _=>?_;clear hI;subst aa
  refine RW (bW _)<|RW ph<|aj (k:=fun st=>(M bx).ex (cx 947 12) ((ac 947).drop 2) st (aN K)) (Q:=aN K) (Eq.mp (Pl ss _ _ K l) ?_);refine⟨rfl,rfl,xo xs,rfl,fun p hp=>?_,?_,?_,?_⟩
  ·refine aq (eA.mp hp) fun x _ aa=>?_;subst aa
   exact(yB x).1
  ·intro q
   exact hn (List.map_eq_nil_iff.mp q)
  ·unfold xo
   refine RW (bW _) ?_;exact(bZ hl (by decide))
  ·refine⟨⟨show(ah 0 ao&&(ah 0 ((xv xs).map s6)&&true))=true from ?_,rfl⟩,rfl,xv xs,rfl,fun d hd=>?_,?_,Mv 0 _,?_⟩
   ·have:∀D:Dr,ah 0 (D.map s6)=true:=by
     intro D
     induction D with
     |nil=>rfl
     |cons a l ih=>refine(?_:((true&&(ah 0 (a.2.map aZ)&&true))&&ah 0 (l.map s6))=true);exact RW ih<|RW (x5 _ _) rfl
    exact RW (this _) rfl
   ·refine aq (List.mem_flatMap.mp hd) fun x _ hd=>?_
    refine aq (eA.mp hd) fun its _ aa=>?_;subst aa;exact lc x
   ·have:=Cr xs
    exact bZ this (bZ (show _≤12 by lia) (by decide))
   ·refine(?_:am (NQ _ _) _)
    exact RW he<|RW (aw _ _)<|h _
end
end
section
section
variable{nd md:Nat→List Nat}
theorem jk:∀(n:Nat) (E:List Nat),fq nd (n+1) E=fq nd n E++freeOf nd (fq nd n E)∧pJ nd (n+1) E=pJ nd n E++(if freeOf nd (fq nd n E)=[] then[] else[freeOf nd (fq nd n E)])
 |0,E=>by
  show(if _ then _ else _:List Nat)=E++freeOf nd E∧(if _ then _ else _:List (List Nat))=[]++(if freeOf nd E=[] then _ else _)
  refine EM (freeOf nd E=[]) (fun c=>?_) fun c=>?_
  ·(with_reducible refine RW (aB c)<|RW (aB c)<|RW (aB c)<|RW c<|RW (cc _) ?_);exact⟨rfl,rfl⟩
  ·(with_reducible refine RW (au c)<|RW (au c)<|RW (au c) ?_);exact⟨rfl,rfl⟩
 |n+1,E=>by
  have h:=jk n (E++freeOf nd E);refine EM (freeOf nd E=[]) (fun c=>?_) fun c=>?_
  ·have e:∀m,fq nd m E=E:=fun m=>by induction m using Nat.casesAuxOn with|zero=>rfl|succ m=>exact aB c
   have e2:∀m,pJ nd m E=[]:=fun m=>by induction m using Nat.casesAuxOn with|zero=>rfl|succ m=>exact aB c
   (with_reducible refine RW (e _)<|RW (e _)<|RW (e2 _)<|RW (e2 _)<|RW c<|RW (aB rfl)<|RW (cc _) ?_);exact⟨rfl,rfl⟩
  ·have e:∀m,fq nd (m+1) E=fq nd m (E++freeOf nd E):=fun m=>au c
   have e2:∀m,pJ nd (m+1) E=freeOf nd E::pJ nd m (E++freeOf nd E):=fun m=>au c
   (with_reducible refine RW (e _)<|RW (e _)<|RW (e2 _)<|RW (e2 _)<|RW h.1<|RW h.2 ?_);exact⟨rfl,rfl⟩
theorem BO:∀k,iB nd k=(pJ nd k [],fq nd k [])
 |0=>rfl
 |k+1=>by
  refine az (jk (nd:=nd) k []) fun h1 h2=>?_;refine(?_:pM nd (iB nd k)=_);refine RW (BO k)<|RW h1<|RW h2 ?_;unfold pM;split<;>simp
theorem yP:∀n,freeOf nd (fq nd n [])≠[]→n≤(fq nd n []).length
 |0,_=>c9 _
 |n+1,h=>by
  have e:=(jk (nd:=nd) n []).1;refine EM (freeOf nd (fq nd n [])=[]) (fun c=>?_) fun c=>?_
  ·rw[c,List.append_nil] at e
   rw[e] at h;exact absurd c h
  ·have h1:=yP n c
   have h2:=List.length_pos_iff.mpr c;refine RW e<|RW b4 ?_;lia
theorem Cp:∀n,(fq nd n []).Nodup∧∀x∈fq nd n [],x<5
 |0=>⟨jx,fun x hx=>(nomatch hx)⟩
 |n+1=>by
  refine az (Cp n) fun h1 h2=>RW (jk n []).1 ⟨?_,fun x hx=>(b9.mp hx).elim (h2 x) fun q=>(bB.mp q).1⟩;rw[List.nodup_append];exact cE h1 (uB nd _) (fun a ha b hb e=>(bB.mp hb).2.1 (e▸ha))
theorem QL:freeOf nd (fq nd 5 [])=[]:=by
 refine EM (freeOf nd (fq nd 5 [])=[]) (fun c=>?_) fun c=>?_
 ·exact c
 ·refine bf (List.exists_mem_of_ne_nil _ c) fun y hy=>?_
  have h:=bB.mp hy;refine az (Cp (nd:=nd) 5) fun h1 h2=>?_;have:=fk 5 (y::fq nd 5 []) (pf.mpr ⟨h.2.1,h1⟩) fun x hx=>(cW.mp hx).elim (fun e=>e▸h.1) (h2 x);have:=yP 5 c;rw[List.length_cons] at*;lia
theorem yd:(iB nd 5).1=pJ nd 6 []∧(iB nd 5).2=fq nd 6 []:=by
 exact az (jk (nd:=nd) 5 []) fun h1 h2=>RW (BO _)<|RW h1<|RW h2<|RW QL<|RW (aB rfl)<|RW (cc _)<|RW (cc _) ⟨rfl,rfl⟩
def tS(nd md:Nat→List Nat):Prop:=∀i,i<5→mx (nd i) (md i)
theorem w4(h:tS nd md)(E:List Nat):freeOf nd E=freeOf md E:=by
 unfold freeOf;refine List.filter_congr fun i hi=>?_
 congr 1
 rw[Bool.eq_iff_iff,List.all_eq_true,List.all_eq_true];have h:=h i (gE.mp hi);exact⟨fun q j hj=>q j ((h j).mpr hj),fun q j hj=>q j ((h j).mp hj)⟩
theorem uI(h:tS nd md):∀n E,pJ nd n E=pJ md n E∧fq nd n E=fq md n E
 |0,_=>⟨rfl,rfl⟩
 |n+1,E=>by
  have z:=uI h n (E++freeOf md E);unfold pJ fq;exact RW (w4 h _)<|RW z.1<|RW z.2 ⟨rfl,rfl⟩
def IK(nd:Nat→List Nat):Nat→Nat→Nat→Prop
 |0,i,j=>j∈nd i
 |n+1,i,j=>∃k,k∈nd i∧IK nd n k j
theorem Gn(h:AI nd i j):∃n,IK nd n i j:=by
 induction h with
 |one h=>exact⟨0,h⟩
 |more h _ ih=>refine bf ih fun n ih=>?_;exact⟨n+1,_,h,ih⟩
theorem AI.trans(h:AI nd i j)(q:AI nd j k):AI nd i k:=by
 induction h with
 |one h=>exact .more h q
 |more h _ ih=>exact .more h (ih q)
theorem yi:∀(a:Nat) {b i j:Nat},IK nd (a+1+b) i j→∃m,IK nd a i m∧IK nd b m j
 |0,b,i,j,h=>by rw[show 0+1+b=b+1 by exact(Nat.add_comm ..)] at h;exact h
 |a+1,b,i,j,h=>by
  rw[show a+1+1+b=(a+1+b)+1 by exact(Nat.add_right_comm ..)] at h
  exact aq h fun k h1 h2=>aq (yi a h2) fun m h3 h4=>(aK m (aK k h1 h3) h4)
theorem n3:∀(d:Nat) {n i j:Nat},i∈fq nd d []→IK nd n i j→n+2≤d
 |0,_,_,_,h,_=>nomatch h
 |d+1,n,i,j,h,p=>by
  rw[(jk d []).1] at h;refine aA (b9.mp h) (fun h=>?_) fun h=>?_
  ·exact Nat.le_succ_of_le (n3 d h p)
  ·have hf:=(bB.mp h).2.2
   match n,p with
   |0,p=>
    match d,hf j p with
    |d+1,_=>exact(Nat.le_add_left _ _)
   |n+1,⟨k,h1,h2⟩=>exact Nat.succ_le_succ (n3 d (hf k h1) h2)
theorem v8(h5:∀i j,i<5→j∈nd i→j<5):∀(n:Nat) {i j:Nat},i<5→IK nd n i j→j<5
 |0,i,j,hi,h=>h5 i j hi h
 |n+1,i,j,hi,⟨k,h1,h2⟩=>v8 h5 n (h5 i k hi h1) h2
theorem B6:j∈vt md (k+1) i↔j<5∧(j∈vt md k i∨∃m,m∈vt md k i∧j∈vt md k m):=by
 refine(?_:j∈(List.range 5).filter _↔_);rw[List.mem_filter,List.mem_range];unfold Iz
 ((refine RW (Bool.or_eq_true _ _) ?_);rewrite [List.any_eq_true];rewrite [List.contains_iff_mem])
 simp only[List.contains_iff_mem]
theorem rN(S:tS nd md)(h5:∀i j,i<5→j∈nd i→j<5):∀(k:Nat) {n i j:Nat},i<5→n+1≤2^k→IK nd n i j→j∈vt md k i
 |0,n,i,j,hi,hn,h=>by
  have:n=0:=by rw[Nat.pow_zero] at hn;lia
  subst this;exact(S i hi j).mp h
 |k+1,n,i,j,hi,hn,h=>by
  rw[Nat.pow_succ] at hn;refine B6.mpr ⟨v8 h5 n hi h,?_⟩;have hp:0<2^k:=Nat.pow_pos (by decide)
  refine EM (n+1≤2^k) (fun c=>?_) fun c=>?_
  ·exact .inl (rN S h5 k hi c h)
  ·obtain⟨a,ha⟩:∃a,2^k=a+1:=⟨2^k-1,by lia⟩
   obtain⟨b,hb⟩:∃b,n=a+1+b:=⟨n-(a+1),by lia⟩
   rw[hb] at h;exact aq (yi a h) fun m h1 h2=>.inr (aK m (rN S h5 k hi ((ka ha.symm)) h1) (rN S h5 k (v8 h5 a hi h1) (by lia) h2))
theorem rM(S:tS nd md)(H:E0 md):∀(k:Nat) {i j:Nat},i<5→j∈vt md k i→AI nd i j
 |0,i,j,hi,h=>.one ((S i hi j).mpr h)
 |k+1,i,j,hi,h=>by
  refine aA (B6.mp h).2 (fun h=>?_) fun aP=>aq aP fun m h1 h2=>?_
  ·exact rM S H k hi h
  ·exact(rM S H k hi h1).trans (rM S H k ((B4 H k).lt i m h1) h2)
end
end
theorem qj(w i j):∀(cA:List (List Item)) (x:Gp×(Nat→List Nat)),j∈(cA.foldl (dC w) x).2 i↔j∈x.2 i∨(i=w∧∃its∈cA,j∈mn its w)
 |[],x=>by simp
 |p::ps,x=>by
  ((refine RW qZ ?_);rewrite [qj w i j ps])
  have e:(dC w x p).2 i=if i=w then x.2 w++mn p w else x.2 i:=rfl
  refine RW e<|EM (i=w) (fun c=>?_) fun c=>?_
  ·subst c
   ((refine RW (aB rfl) ?_);rewrite [List.mem_append])
   constructor
   ·rintro((h|h)|⟨_,its,h1,h2⟩)
    ·exact .inl h
    ·exact .inr ⟨rfl,p,cw,h⟩
    ·exact .inr ⟨rfl,its,dZ _ h1,h2⟩
   ·rintro(h|⟨_,its,h1,h2⟩)
    ·exact .inl (.inl h)
    ·rcases cW.mp h1 with rfl|h1
     ·exact .inl (.inr h2)
     ·exact .inr ⟨rfl,its,h1,h2⟩
  ·exact RW (au c) ⟨fun h=>h.imp id fun h=>absurd h.1 c,fun h=>h.imp id fun h=>absurd h.1 c⟩
theorem qp(i j):∀(xs:List Int) (x:Gp×(Nat→List Nat)),j∈(((xo xs).map (·.2)).foldl iu x).2 i↔j∈x.2 i∨∃y∈xs,i=xm y∧∃its∈bE y,j∈mn its (xm y)
 |[],x=>⟨.inl,fun h=>h.elim id fun⟨_,h,_⟩=>(nomatch h)⟩
 |a::xs,x=>by
  refine(?_:j∈(((xo xs).map (·.2)).foldl iu ((bE a).foldl (dC (xm a)) x)).2 i↔_);rw[qp i j xs,qj];constructor
  ·rintro((h|h)|⟨y,h1,h2⟩)
   ·exact .inl h
   ·exact .inr (aK a cw h)
   ·exact .inr (aK y (dZ _ h1) h2)
  ·rintro(h|⟨y,h1,h2⟩)
   ·exact .inl (.inl h)
   ·rcases cW.mp h1 with rfl|h1
    ·exact .inl (.inr h2)
    ·exact .inr (aK y h1 h2)
theorem zA(xs:List Int):tS (iF (xo xs)).2 (eW (xv xs)):=fun i hi j=>by
 refine(qp i j xs x0).trans ?_;unfold eW jH;rw[List.mem_filter,List.mem_range,Bool.and_eq_true,List.any_eq_true];have hf:∀its w,w<5→(j∈mn its w↔j<5∧(!(j==w))=true∧dj its (bq j)=true):=fun its w hw=>by
  unfold mn vR;rw[List.mem_filter,List.mem_range,Bool.and_eq_true];exact and_congr_right fun hj=>by rw[fU hj hw]
 constructor
 ·rintro(h|⟨y,h1,rfl,its,h3,h4⟩)
  ·exact nomatch h
  ·obtain⟨h5,h6,h7⟩:=(hf its _ (lc y)).mp h4
   exact⟨h5,h6,(xm y,its),List.mem_flatMap.mpr ⟨y,h1,eA.mpr ⟨its,h3,rfl⟩⟩,by rw[h7];exact pn.mpr ⟨dT _,rfl⟩⟩
 ·rintro⟨h5,h6,d,h7,h8⟩
  obtain⟨y,h1,hd⟩:=List.mem_flatMap.mp h7;obtain⟨its,h3,rfl⟩:=eA.mp hd;rw[Bool.and_eq_true,beq_iff_eq] at h8;obtain⟨rfl,h8⟩:=h8;exact .inr ⟨y,h1,rfl,its,h3,(hf its _ hi).mpr ⟨h5,h6,h8⟩⟩
theorem Gg(xs:List Int):tc (iF (xo xs)).2=tq (xv xs):=by
 have S:=zA xs;have H:E0 (eW (xv xs)):=sw (jH (xv xs));have h5:=(Gi.all _ (fun L hL=>by
  refine aq (eA.mp hL) fun p hp aa=>?_;subst aa;refine aq (eA.mp hp) fun x _ aa=>?_;subst aa;exact lc x) Uq:Gi (iF (xo xs))).fit.Rq
 generalize (iF (xo xs)).2=nd at S h5
 generalize hm:eW (xv xs)=md at S H
 have hd:=uI S 6 [];have e1:((List.range 5).filter (fq md 6 []).contains).map (zi nd)=((List.range 5).filter (fq md 6 []).contains).map fun i=>V.seq false [ag i,be (vt md 5 i)]:=by
  refine vI fun i hi=>?_;rw[List.mem_filter,List.mem_range,List.contains_iff_mem] at hi;refine az hi fun i5 hi=>?_;have e:EH nd i=vt md 5 i:=by
   refine List.filter_congr fun j hj=>?_;rw[Bool.eq_iff_iff,nZ];have hs:Iz (vt md 4) i j=true↔j∈vt md 5 i:=by
    refine(?_:_↔j∈(List.range 5).filter _);rw[List.mem_filter];exact⟨fun h=>⟨hj,h⟩,fun h=>h.2⟩
   rw[hs];constructor
   ·intro h
    refine bf (Gn h) fun n hn=>?_;have:=n3 6 (hd.2▸hi) hn;exact rN S h5 5 i5 (bZ (show n+1≤32 by lia) (by decide)) hn
   ·exact rM S H 5 i5
  unfold zi;refine RW e rfl
 unfold tc tq;refine RW hm<|RW hd.1<|RW hd.2<|RW yd.1<|RW yd.2<|RW e1 ?_
 congr 3
 rw[Bool.eq_iff_iff,decide_eq_true_iff,decide_eq_true_iff];lia
theorem ky(h:∀v∈vs,qT n v v=some true):qT (n+1) (.seq false vs) (.seq false vs)=some true:=by
 refine(?_:(if(vs.length==vs.length)=true then(bL (List.zipWith (qT n) vs vs)).map (·.all id) else some false)=_)
 refine RW (aB (dT _)) ?_;have e:List.zipWith (qT n) vs vs=(vs.map fun _=>true).map some:=by
  induction vs with
  |nil=>rfl
  |cons a l ih=>
   exact RW List.zipWith_cons_cons<|RW (h a cw)<|RW (ih fun v m=>h v (dZ _ m)) rfl
 refine RW e<|RW (fb _)<|RW (na _ _)<|RW List.all_map ?_
 congr 1
 exact eH.mpr fun _ _=>rfl
theorem qC(n)(l):qT (n+2) (be l) (be l)=some true:=ky fun v hv=>by
 refine aq (eA.mp hv) fun k _ aa=>?_;subst aa;refine(?_:some (bq k==bq k)=_);refine RW (dT _) rfl
theorem Mw(D:Dr):NQ (tq D) (tq D)=some true:=by
 refine ky fun v hv=>?_;rw[List.mem_cons,List.mem_cons,List.mem_singleton] at hv;rcases hv with rfl|rfl|rfl
 ·show some (_==_)=_
  refine RW (dT _) rfl
 ·refine ky fun v hv=>?_
  refine aq (eA.mp hv) fun l _ aa=>?_;subst aa;exact qC 4 l
 ·refine ky fun v hv=>?_
  refine aq (eA.mp hv) fun i _ aa=>?_;subst aa;refine ky fun v hv=>?_;rw[List.mem_cons,List.mem_singleton] at hv;rcases hv with rfl|rfl
  ·refine(?_:some (bq i==bq i)=_)
   refine RW (dT _) rfl
  ·exact qC 3 _
def OS:List V→List (Str×V)→(V→Prop)→Prop:=fun args kws K=>kws=[]∧∃xs:List Int,args=[.seq false (xs.map V.int)]∧K (.bool true)
theorem LY(hs:bt bx):Entry 947 13 (cZ OS):=dQ (by decide) fun{args kws K} h=>by
 (have aF:=h;clear h;refine az aF fun aa aP=>aq aP fun xs cN h=>?_;clear aF;subst aa;subst cN)
 have e:tv (xs.map V.int)=(xs.take 3++[1,248,142]).map V.int:=by
  unfold tv
  (rewrite [show(max 0 (min (3:Int) ((xs.map V.int).length:Int))).toNat=min 3 (xs.map V.int).length from Option.some.inj (kA (xs.map V.int).length 0 3)];refine RW List.drop_zero<|RW (Nat.sub_zero _)<|RW cz<|RW List.map_take<|RW (bW _) ?_)
  congr 1
  refine RS List.map_take<|RS List.map_take ?_
  congr 1
  exact List.take_eq_take_iff.mpr (by lia)
 refine HS hs (xs:=xs.take 3++[1,248,142]) e (List.append_ne_nil_of_right_ne_nil _ (List.cons_ne_nil _ _)) ?_ ?_ fun _=>h
 ·exact RW b4<|vL (List.length_take_le _ _) 3
 ·exact RW (Gg _)<|Mw _
section
def xQ(P:Params):Array DictEntry:=match(JX P).data with
 |.dict es _=>es
 |_=>#[]
theorem S9(P):(bF P).lookup 171=some (JX P):=by kernel_rfl
theorem G8(P):((xQ P).toList.all fun e=>match e.key with
 |.int i _=>e.hash==hashInt i
 |_=>false)=true:=by kernel_rfl
noncomputable def nH(c:Nat):Bool:=[97,98,39,100].contains c
theorem GP(w):([97,98,39,100].all fun c:Nat=>(findBy (intKind PW w).is (xQ w.params) (c:Int)).isNone)=true:=by kernel_rfl
set_option tactic.hygienic true in
theorem Lx(S:bU w h):h.MapOf (intKind PW w) 171 fun k=>findBy (intKind PW w).is (xQ w.params) k:=by
 refine E1 _ (xQ w.params) _ (S.X _ _ (S9 _)) (cE rfl rfl rfl) rfl (fun e he=>?_) (fun _=>rfl);have:=eH.mp (G8 w.params) e (Array.mem_toList_iff.mpr he);split at this
 ·rename_i i t q
  exact aK i (RW q<|dT i) (cO.mp this)
 ·exact c0 this
section
variable{w:World}{A:Around}{E:Value→Shared→Prop}{s:Shared}{ρ:Rh}{os:List O}
theorem DG:isSubtype (.type "KeyError") (.type "LookupError")=pure true:=by refine RW (jO _ _) ?_;kernel_rfl
theorem GX(hh:A.handled=none)(S:bU w s.heap)(hc:nH c=true)(hQ:∀h' t,(∀b o,s.heap.get? b=some o→h'.get? b=some o)→Q .keep {s with heap:=h',toks:=t}):
  wpAny (model PW w) A (Builtin.Str.tableLookup (.ref 171) c) Q E s:=by
 unfold Builtin.Str.tableLookup;refine an (wpAny_attempt (an (wpAny_mkInt ?_)));refine wpAny_getItem_missing_of (K:=Int) (knd:=intKind PW w) (k:=(c:Int)) (by show(_==_)=true;exact dT _) (by decide) hh (Lx S) ?_ fun h' e M=>?_
 ·exact tE.mp (eH.mp (GP w) c (rt.mp hc))
 ·refine an (wpAny_isInstance (T:="KeyError") (b:=true) ?_ DG ?_)
  ·exact ez M.there fun ob _ h1 h2 _=>(aK _ h1 h2)
  ·exact an (wpAny_rule (aS (hQ _ _ M.keeps)))
theorem Af{M:Model}{E:Value→Shared→Prop}{β:Type}{b:β}{f:Nat→β→Sem (ForInStep β)}{Q:β→Shared→Prop}(h:wpAny M A (f x b) (fun r s'=>∃b',r=.yield b'∧Q b' s') E s):wpAny M A (forIn #[x] b f) Q E s:=by
 refine RS Array.forIn_toList ?_;refine(?_:wpAny _ _ (forIn [x] b f) _ _ _);rw[List.forIn_cons];refine an (bw h (fun r s' z=>?_) fun _ _ z=>z);refine aq z fun b' aa q=>?_;clear z;subst aa;refine(?_:wpAny _ _ (forIn [] b' f) _ _ _);exact RW List.forIn_nil<|aS q
theorem CS{t:PySem.Tok}(hh:A.handled=none)(S:SR w ρ os s.heap)(hc:nH c=true):
  wpAny (model PW w) A (call (.builtin "str.translate") [.str (ar [c]) t,.ref 171]) (bz w ρ s fun v cn=>v=.str [c]∧cn=os) E s:=by
 refine wpAny_call_entry PySem.F.slot_str_translate (iR _ _ _) PySem.F.entry_str_translate ?_ (PySem.F.args_str_translate_2 _ _);have hx:c<128∧((⟨#[c]⟩:Str).length==0)=false:=by
  have:=rt.mp hc;simp only[List.mem_cons,List.not_mem_nil,or_false] at this;rcases this with rfl|rfl|rfl|rfl<;>exact⟨by decide,rfl⟩
 refine(?_:wpAny _ A.in1 (Builtin.«str.translate» ⟨[.str (ar [c]) t,.ref 171],[]⟩) _ _ _);unfold Builtin.«str.translate»;refine an (kU (a:=(.str (ar [c]) t,ar [c],.ref 171)) rfl ?_);dsimp only;have hf:((ar [c]).cps.all fun x=>decide (x<128))=true:=by
  refine RS Array.all_toList ?_;refine(?_:(decide (c<128)&&true)=true);exact RW (kX hx.1) rfl
 refine wpAny_ite_false (show decide (((ar [c]).length==0)=true)=false from rfl)<|an (Af (x:=c) ?_);refine wpAny_ite_false (show decide (Builtin.Str.tooLong 0=true)=false from rfl)<|wpAny_ite_true (kX hf)<|an (GX hh S.aL hc fun h' t' hk=>?_);refine an (aS (aS (aK _ rfl ?_)));refine wpAny_ite_false (show decide (Builtin.Str.tooLong 1=true)=false from rfl)<|an (wpAny_mkStr (aS (aK _ rfl ?_)) ?_)
 ·exact .mk (.str [c]) os ρ ⟨rfl,rfl⟩ (aQ.grow S hk _) (.str [c] _ (show 1≤ax by decide))
 ·refine(?_:1≤sizeLine)
  refine RW du ?_;decide
end
end
noncomputable def xM:Option V→Bool
 |some (.con (.ref a))=>a==171
 |_=>false
noncomputable def pV(e:Expr):Bool:=match e with
 |.Call _ _ _ p=>p.line==129&&p.col==15
 |_=>false
def E2(C:Cx)(e:Expr)(st:St)(Q:V→St→Prop):Prop:=nJ e fun f as ks pos=>rV f fun o m ap=>lg o fun x=>E9 as fun a=>lg a fun y=>km ks<|af (C.d≠0∧m.cps.toList=tx "translate"∧(ap.endLine==pos.line)=true∧xM (cS C y st)=true)<|am (cS C x st) fun v=>ef v fun s=>A2 s fun c=>nH c=true∧Q (.str [c]) st
def N3(F:bT):bT:={F with ev:=fun C e st Q=>if pV e=true then E2 C e st Q else F.ev C e st Q}
theorem w0(h:xM x=true):x=some (.con (.ref 171)):=by
 unfold xM at h;split at h
 ·refine RW (cO.mp h) rfl
 ·exact c0 h
def SH(C:Cx)(st:St)(Q:V→St→Prop)(x:Str)(m:Str)(ap:Pos)(y:Str)(pos:Pos):Prop:=af (C.d≠0∧m.cps.toList=tx "translate"∧(ap.endLine==pos.line)=true∧xM (cS C y st)=true)<|am (cS C x st) fun v=>ef v fun s=>A2 s fun c=>nH c=true∧Q (.str [c]) st
theorem jU(h:Value.str x t=.ref a):False:=by cases h
theorem CR{g}{st}{Q}{s}{ρ}{x m y}{xp ap yp pos}(h:SH g.C st Q x m ap y pos)(N:aV g st s ρ):wpAny g.m g.A (eval (.Call (.Attribute (.Name x xp) m ap) [.Name y yp] [] pos) g.env) (ey g Q s ρ) cq s:=by
 refine az (ae h) fun aa h1=>kT aa fun hd hm hl Th=>?_;clear h;obtain rfl:m=Str.ofString "translate":=RS (hZ m)<|RW hm rfl;refine aE h1 fun v hv h=>dR rfl hl (hY N.ok.cx N.S N.R hv fun ov rv=>?_);revert rv;apply kt h;intro p h;apply JR h;intro c h rv;apply rv.dS;intro t _;rw[gT (args:=[.Name y yp]) rfl (by refine(?_:1+0<29);decide)]
 unfold calleeOf;refine RW (aB rfl)<|getMethod_builtin (T:="str") (id:="str.translate") ?_ ?_ ?_ ?_ ?_ ?_
 ·exact iR s (ar [c]) t
 ·exact PySem.F.plainAttrs_str
 ·exact PySem.F.slot_str_translate
 ·exact PySem.F.type_str_translate
 ·exact fun a q=>(jU q).elim
 refine callWith_builtin (by rw[eL];rfl) ?_
 have key:wpAny g.m g.A (spliced (backTo pos (starEach [.Name y yp] g.env))) (fun vs s'=>wpAny g.m g.A (call (.builtin "str.translate") (.str (ar [c]) t::vs)) (ey g Q s ρ) cq s') cq s:=by
  refine mZ (hY N.ok.cx N.S N.R (w0 Th) fun y ry=>?_) (aD rfl _ _);apply ry.rI;intro _;refine rc (gD (CS (N.ok.rm.hd hd) N.S h.1) fun z s₃ q=>?_);cases q with
  |mk v cn ρ' hK P r=>
   refine az hK fun aa aP=>?_;clear hK;subst aa;subst aP;have z:=N.call P;exact .mk _ _ _ h.2 z.1 z.2 r
 rw[aD (show isStarred (.Name y yp)=false from rfl)] at key ⊢;exact evalArgs_plain key
theorem KD{g}{e}{st}{Q}{s}{ρ}(h:E2 g.C e st Q)(N:aV g st s ρ):wpAny g.m g.A (eval e g.env) (ey g Q s ρ) cq s:=
 n4 h fun f as ks pos h=>uj h fun o m ap h=>i7 h fun x xp h=>wb h fun a h=>i7 h fun y yp h=>gi h fun h=>CR h N
theorem F4(a:gL F):gL (N3 F) where
 ev:=fun{g e st Q s ρ} h N=>by
  have h:(if pV e=true then E2 g.C e st Q else F.ev g.C e st Q):=h
  refine EM (pV e=true) (fun c=>?_) fun c=>?_
  ·rw[if_pos c] at h;exact KD h N
  ·rw[if_neg c] at h;exact a.ev h N
 tr:=a.tr
 ex:=a.ex
 call:=a.call
 wh:=a.wh
 fo:=a.fo
 co:=a.co
 dr:=a.dr
 use:=fun{g e st Q Q₂ s ρ use} hc h N hu=>by
  have h:(if pV e=true then E2 g.C e st Q else F.ev g.C e st Q):=h
  refine EM (pV e=true) (fun c=>?_) fun c=>?_
  ·exfalso
   unfold pV at c;split at c
   ·exact ck hc
   ·exact c0 c
  ·rw[if_neg c] at h;exact a.use hc h N hu
def N4:bT:=kl (kl (kl (N3 (aT bi 3))))
theorem F5:gL N4:=by
 have h:=nL jt 3;rw[←et] at h;have e:∀F:bT,F.sm=bi→bt F.sm:=fun F q=>RW q jt;have hm:=sy bi 3;exact(((F4 h).step (e _ hm)).step (e _ hm)).step (e _ hm)
theorem K3(c:Nat)(K:V→Prop):(nH c=true∧K (.str [c]))=N4.call 2 (.con (.ref 181)) [.str [c]] [] [] (iD K):=by kernel_rfl
theorem Mf:Entry 181 2 (cZ vU):=dQ (sm:=bi) (by decide) fun{args kws K} h=>by
 (have aF:=h;clear h;refine az aF fun aa aP=>kS aP fun c cN hc h=>?_;clear aF;subst aa;subst cN)
 refine RW (eM _)<|(F5.le bi).call (Eq.mp (K3 c K) ⟨?_,h⟩);rcases hc with rfl|rfl|rfl|rfl<;>rfl
section
open PySem.Builtin PySem.Builtin.Re
noncomputable def ei:Array Nat:=#[14,17,4,1,1,21,9,0,604043296,1,0,0,0,0,0,8,4,0,13,14,21,9,0,604043296,1,0,0,0,0,0,8,4,0,1]
noncomputable def R6:List Nat:=[97,98,100,32,42,63,39,91,93,35,33,105,116,115]
theorem GC(h:AM c=true):c∈R6:=by
 unfold AM fB jQ at h;simp only[Bool.or_eq_true,List.contains_iff_mem,beq_iff_eq,List.mem_cons,List.not_mem_nil,or_false] at h;simp only[R6,List.mem_cons,List.not_mem_nil,or_false];lia
noncomputable def Fa(r:Except String (Bool×Sre.Seen))(b:Bool):Bool:=match r with
 |.ok (b',_)=>b'==b
 |.error _=>false
theorem B3(h:Fa r b=true):∃n,r=.ok (b,n):=by
 unfold Fa at h;split at h
 ·exact RS (cO.mp h) ⟨_,rfl⟩
 ·exact absurd h ck
theorem Gb(n:Sre.Seen):(R6.all fun c=>Fa (Sre.inSet ei c ei.size 5 true n) (jQ c)&&Fa (Sre.inSet ei c ei.size 20 true n) (jQ c))=true:=by kernel_rfl
theorem xY(h:AM c=true)(n:Sre.Seen):(∃n',Sre.inSet ei c ei.size 5 true n=.ok (jQ c,n'))∧∃n',Sre.inSet ei c ei.size 20 true n=.ok (jQ c,n'):=by
 have:=pn.mp (eH.mp (Gb n) c (GC h));exact⟨B3 this.1,B3 this.2⟩
def TN(t:Array Nat)(n k f:Nat):Option Nat→Prop
 |none=>∀i,k≤i→i<n→i<k+f→jQ (t.getD i 0)=false
 |some j=>j<n∧jQ (t.getD j 0)=true
theorem wy(hc:m.code=ei)(ht:∀i,i<m.lim→AM (m.text.getD i 0)=true):∀(f k:Nat) (n:Sre.Seen),∃r n',Sre.M.admitted m f k n=.ok (r,n')∧TN m.text m.lim k f r
 |0,k,n=>(pK none n rfl (fun i h1 _ h3=>absurd h3 (j9.mpr h1)))
 |f+1,k,n=>by
  refine(?_:∃r n',(if k≥m.lim then .ok (none,n) else match Sre.inSet m.code (m.text.getD k 0) m.code.size 5 true n with
   |.ok (true,seen)=>.ok (some k,seen)
   |.ok (false,seen)=>Sre.M.admitted m f (k+1) seen
   |.error why=>.error why:Except String (Option Nat×Sre.Seen))=.ok (r,n')∧_)
  refine EM (k≥m.lim) (fun h=>?_) fun h=>?_
  ·refine RW (aB h) ?_;exact(pK none n rfl (fun i h1 h2 _=>by lia))
  ·refine RW (au h)<|RW hc<|bf (xY (ht k (Nat.not_le.mp h)) n).1 fun n' e=>RW e ?_
   cases hb:jQ (m.text.getD k 0) with
   |true=>exact⟨some k,n',rfl,Nat.not_le.mp h,hb⟩
   |false=>
    refine fJ (wy hc ht f (k+1) n') fun r Vq e2 h2=>(pK r Vq e2 ?_)
    induction r using Option.casesOn with
    |some j=>exact h2
    |none=>
     intro i h3 h4 h5;refine EM (i=k) (fun q=>?_) fun q=>?_
     ·exact RW q hb
     ·exact h2 i (by lia) h4 (by lia)
def m0(t:Array Nat)(n:Nat):Sre.M:={code:=ei,text:=t,lim:=n,start:=0,pc:=18,pos:=0,handed:=0,marks:=#[],lastStart:=n,seen:=({}:Sre.Seen).add 14}
theorem yK(h0:0<n):Sre.forSearch ei t 0 0 n false=(m0 t n).attemptFrom 0 true:=by
 refine(?_:(if(decide (0>n)||decide (n-0<1))=true then _ else(m0 t n).attemptFrom 0 true)=_)
 refine au ?_;refine RW (pg (by lia))<|RW (pg (j9.mpr (Nat.lt_of_succ_le h0))) ?_;decide
def m1(t:Array Nat)(n j:Nat)(q:Sre.Seen):Sre.M:={m0 t n with mustAdvance:=false,seen:=q}.attemptAt j true
theorem Ac(h:Sre.M.admitted (m0 t n) (n+1-0) 0 (m0 t n).seen=.ok (none,q)):(m0 t n).attemptFrom 0 true={m0 t n with seen:=q}.say false:=by
 refine(?_:(match Sre.M.admitted (m0 t n) (n+1-0) 0 (m0 t n).seen with
  |.ok (some s,seen)=>{m0 t n with mustAdvance:=false,seen}.attemptAt s true
  |.ok (none,seen)=>{m0 t n with seen}.say false
  |.error why=>(m0 t n).stick why)=_)
 refine RW h rfl
theorem Ab(h:Sre.M.admitted (m0 t n) (n+1-0) 0 (m0 t n).seen=.ok (some j,q)):(m0 t n).attemptFrom 0 true=m1 t n j q:=by
 refine(?_:(match Sre.M.admitted (m0 t n) (n+1-0) 0 (m0 t n).seen with
  |.ok (some s,seen)=>{m0 t n with mustAdvance:=false,seen}.attemptAt s true
  |.ok (none,seen)=>{m0 t n with seen}.say false
  |.error why=>(m0 t n).stick why)=_)
 exact RW h rfl
def m2(t:Array Nat)(n j:Nat)(q:Sre.Seen)(q':Sre.Seen):Sre.M:={m1 t n j q with seen:=q',pc:=33,pos:=j+1}
theorem F9(hj:j<n)(h:Sre.inSet ei (t.getD j 0) ei.size 20 true (q.add 13)=.ok (true,q')):(m1 t n j q).step=m2 t n j q q':=by
 refine(?_:(if j≥n then _ else match Sre.inSet ei (t.getD j 0) ei.size 20 true (q.add 13) with
  |.error why=>_
  |.ok (false,seen)=>_
  |.ok (true,seen)=>m2 t n j q seen)=_)
 refine RW (au (Nat.not_le.mpr hj))<|RW h rfl
theorem find_none(h0:0<n)(ht:∀i,i<n→AM (t.getD i 0)=true)(hb:∀i,i<n→jQ (t.getD i 0)=false):(eK 2 (Sre.forSearch ei t 0 0 n false)).outcome=some .failed:=by
 refine fJ (wy (m:=m0 t n) rfl ht (n+1-0) 0 (m0 t n).seen) fun r q e h=>?_
 induction r using Option.casesOn with
 |none=>exact RW (yK h0)<|RW (Ac e) rfl
 |some j=>exact absurd ((hb j h.1).symm.trans h.2) ck
theorem find_some(hi:i<n)(ht:∀i,i<n→AM (t.getD i 0)=true)(hb:jQ (t.getD i 0)=true):(eK 2 (Sre.forSearch ei t 0 0 n false)).outcome=some .matched:=by
 refine fJ (wy (m:=m0 t n) rfl ht (n+1-0) 0 (m0 t n).seen) fun r q e h=>?_
 induction r using Option.casesOn with
 |none=>exact absurd ((h i (c9 _) hi (show i<0+(n+1-0) by lia)).symm.trans hb) ck
 |some j=>
  refine bf (xY (ht j h.1) (q.add 13)).2 fun q' e2=>?_;rw[show jQ (t.getD j 0)=true from h.2] at e2;refine RW (yK (dy (c9 _) hi))<|RW (Ab e) ?_;have z:(m1 t n j q).runFor 4=(m2 t n j q q').runFor 3:=by
   rw[←F9 (n:=n) h.1 e2];rfl
  refine(?_:(if((m1 t n j q).runFor 4).outcome.isSome=true then(m1 t n j q).runFor 4 else _).outcome=_)
  exact RW z rfl
end
section
open PySem.Builtin PySem.Builtin.Re
theorem OG(P):(bF P).lookup 193=some (Ox P):=by kernel_rfl
theorem S8(P):(bF P).lookup 192=some (Oy P):=by kernel_rfl
theorem OE(P):(bF P).lookup 896=some (Ot P):=by kernel_rfl
theorem uV:Slot "re.Pattern" "search" "re.Pattern.search":=
 .of (owner:="re.Pattern") (n:="search") (by refine RW (iK _ _)<|RW iM ?_;kernel_rfl) (by decide+kernel) (by decide+kernel) (by decide+kernel)
  (by first|exact .inl (by decide+kernel)|exact .inr (by decide+kernel)) (by refine RW (jO _ _) ?_;kernel_rfl)
theorem sP:entryFor table "re.Pattern.search"=some Builtin.«re.Pattern.search»:=nh (by kernel_rfl)
theorem vd:builtinKind "re.Pattern.search"=some .method:=by refine RW builtinKind_eq_fast ?_;kernel_rfl
theorem pD:isSubtype (.type "re.Pattern") (.type "module")=pure false:=by refine RW (jO _ _) ?_;kernel_rfl
theorem wM:∃sig,Manifest.signature? "re.Pattern.search"=some sig∧∀y,Bind.checkArgs "re.Pattern.search" {sig with full:=s!"{Bind.lastOf "re.Pattern"}.{Bind.lastOf "re.Pattern.search"}"} ⟨[.ref 193,y],[]⟩=pure ():=
 (aK _ (signature?_of (id:="re.Pattern.search") (n:=['h','c','r','a','e','s']) (o:=['n','r','e','t','t','a','P','.','e','r']) (by kernel_rfl) ql) (fun _=>by kernel_rfl))
theorem sL(a):reNamed "re.Pattern.search" "search" ["string","pos","endpos"] 1 [a] []=pure [some a,none,none]:=by kernel_rfl
section
variable{w:World}{A:Around}{E:Value→Shared→Prop}{s:Shared}
theorem sJ(S:bU w s.heap)(h:Q () s):wpAny (model PW w) A (checkBoundCall "re.Pattern.search" ⟨[.ref 193,y],[]⟩) Q E s:=by
 refine aq wM fun sig hs hc=>?_;have ha:=S.X 193 _ (OG _);have hT:s.TypeIs (.ref 193) "re.Pattern":=(aK _ ha rfl);unfold checkBoundCall;refine RW hs<|RW vd ?_;dsimp only;refine RW (au (by decide))<|an (wpAny_isInstance hT pD ?_)
 refine RW (au (by decide+kernel))<|an ?_
 unfold isType;refine an (wpAny_load ha ?_);refine aS<|an (wpAny_typeOf hT ?_);exact kU (hc y) h
theorem u5{M:Model}{p x:Value}{n l:Nat}{m:Sre.M}{Q:Value→Shared→Prop}(hQ:∀v h',(∃a,v=.ref a)→(∀b o,s.heap.get? b=some o→h'.get? b=some o)→Q v {s with heap:=h'}):wpAny M A (reNewMatch p x 0 n l m) Q E s:=by
 unfold reNewMatch;refine wpAny_ite_false (show decide (false=true)=false from rfl)<|an (wpAny_newTuple ?_ ?_)
 ·simp only[newFields]
  exact rn (hQ _ _ ⟨_,rfl⟩ fun b o e=>gp _ (gp _ e))
 ·refine(?_:2≤_);size_fits
theorem C9(h:fB c=true):jQ c=false:=by
 unfold fB at h;rw[Bool.or_eq_true,Bool.or_eq_true,beq_iff_eq,beq_iff_eq,beq_iff_eq] at h;rcases h with(rfl|rfl)|rfl<;>rfl
theorem zv{x:Tx}{t:PySem.Tok}{fs xs:Array Value}{Q:ReTarget→Shared→Prop}{code:Array Nat}(lW:(xs.map reRawOf).map (·.toNat)=code)(hg:reRawNat (fs.getD 2 .none)=0)(hp:s.heap.get? p=some po)(Sp:po.data=.fields fs)(h5:fs.getD 5 .none=.ref c)(h6:fs.getD 6 .none=.int 0 0)(hc:s.heap.get? c=some co)(hd:co.data=.seq xs n)(hl:(ar x).cps.size≤15)
  (hQ:Q {pattern:=.ref p,string:=.str (ar x) t,code:=code,text:=(ar x).cps,kind:=0,groups:=0,pos:=0,lim:=(ar x).cps.size} s):wpAny (model PW w) A (reTarget "re.Pattern.search" "search" ⟨[.ref p,.str (ar x) t],[]⟩) Q E s:=by
 subst lW;refine(?_:wpAny _ _ (reNamed "re.Pattern.search" "search" ["string","pos","endpos"] 1 [.str (ar x) t] []>>=_) _ _ _);refine RW (sL _)<|an (aS ?_);dsimp only;refine an (aS ?_);refine an (aS ?_);refine an (wpAny_fieldsOf hp Sp (an (qd ?_)));refine RW h5<|RW h6<|RW hg ?_;dsimp only;refine wpAny_ite_false (show decide (false=true)=false from rfl)<|wpAny_ite_false (show decide (false=true)=false from rfl)<|an (aS ?_);exact RW (Nat.min_eq_right (show(ar x).cps.size≤(2^63-1:Int).toNat from bZ hl (by decide)))<|an (BQ hc hd (aS (RW (show min (0:Int).toNat (ar x).cps.size=0 from Nat.zero_min _) hQ)))
theorem uX{x:Tx}{t:PySem.Tok}{Q:Value→Shared→Prop}(S:bU w s.heap)(hx:Wd x)(h1:x.all fB=true→Q .none s)(h2:x.all fB=false→∀v h',(∃a,v=.ref a)→(∀b o,s.heap.get? b=some o→h'.get? b=some o)→Q v {s with heap:=h'}):wpAny (model PW w) A (call (.ref 896) [.str (ar x) t]) Q E s:=by
 have hp:=S.X 896 _ (OE _);have QH:=S.X 193 _ (OG _);have QI:=S.X 192 _ (S8 _);refine kT hx fun x0 UT US xd=>?_;have h0:0<x.length:=List.length_pos_iff.mpr x0;have jp:(ar x).cps.size=x.length:=bh x;have J3:∀i (hi:i<x.length),(ar x).cps.getD i 0=x[i]:=fun i hi=>by simp[ar,hi]
 have oX:∀i,i<x.length→AM ((ar x).cps.getD i 0)=true:=fun i hi=>RW (J3 i hi)<|US _ (lU hi);refine jw (nf ?_);refine(?_:wpAny _ _ (callAny (.ref 896) _) _ _ _);refine nd_load hp<|nd_bind (aS ?_);refine(?_:wpAny _ _ (checkBoundCall "re.Pattern.search" ⟨[.ref 193,.str (ar x) t],[]⟩>>=_) _ _ _);refine an (sJ S ?_);refine aS ⟨pN _ (by decide+kernel),lT sP ?_⟩
 refine RW (pT uV.plain _) ?_;refine(?_:wpAny _ A.in1 (reTarget "re.Pattern.search" "search" ⟨[.ref 193,.str (ar x) t],[]⟩>>=fun t=>reAnswer t (Sre.forSearch t.code t.text t.groups t.pos t.lim false)) _ _ _);refine an (zv (code:=ei) (by kernel_rfl) (by kernel_rfl) QH rfl rfl rfl QI rfl (RW jp UT) ?_)
 refine(?_:wpAny _ _ (reAnswer _ (Sre.forSearch ei (ar x).cps 0 0 (ar x).cps.size false)) _ _ _);refine RW jp ?_;unfold reAnswer;refine an ?_;cases hs:x.all fB with
 |true=>
  refine v7 (k:=2) (by decide) (find_none h0 oX fun i hi=>?_) (aS (h1 hs))
  exact RW (J3 i hi)<|C9 (eH.mp hs _ (lU hi))
 |false=>
  have xd:=xd.resolve_left (RW hs ck);refine aq (List.any_eq_true.mp xd) fun c hc hb=>?_;refine bf (pS hc) fun i aa=>bf aa fun hi aP=>?_;subst aP;exact v7 (k:=2) (by decide) (find_some hi oX (RW (J3 i hi) hb))<|an (u5 fun v h' ha hk=>aS (h2 hs v h' ha hk))
end
end
section
open PySem.Builtin PySem.Builtin.Re
theorem n7:∀l:List Nat,39∉l→l.flatMap jM=l
 |[],_=>rfl
 |k::r,h=>by
  refine(?_:(if k=39 then _ else[k])++r.flatMap jM=k::r)
  have hk:¬k=39:=fun e=>h (e▸cw ..)
  ((refine RW (au hk) ?_);rewrite [n7 r fun m=>h (List.mem_cons_of_mem _ m)]);rfl
noncomputable def pw:Str:=⟨#[39,34,39,34,39]⟩
theorem uF:∀ps:List Str,(∀p∈ps,39∉p.cps.toList)→(Str.join ⟨#[39]⟩ ps).cps.toList.flatMap jM=(Str.join pw ps).cps.toList
 |[],_=>rfl
 |[p],h=>n7 _ (h p (dw.mpr rfl))
 |p::q::r,h=>by
  have ih:=uF (q::r) fun a ha=>h a (dZ _ ha);refine(?_:(p++⟨#[39]⟩++Str.join ⟨#[39]⟩ (q::r)).cps.toList.flatMap jM=(p++pw++Str.join pw (q::r)).cps.toList);simp only[Str.cps_append,Array.toList_append,List.flatMap_append];refine RW ih<|RW (n7 _ (h p (cw ..))) ?_;rfl
theorem uY(x):Txt.replace (ar x) ⟨#[39]⟩ pw=ar (x.flatMap jM):=by
 have h:(Txt.replace (ar x) ⟨#[39]⟩ pw).cps.toList=x.flatMap jM:=by
  (rewrite [StrLaws.replace_one];refine RS (uF _ (StrLaws.split_free _ 39))<|RW (StrLaws.join_split _ _) ?_)
  simp[ar]
 refine RS h ?_;simp[ar]
theorem uD:∀x:Tx,(x.flatMap jM).length≤5*x.length
 |[]=>bI _
 |c::r=>by
  have h:=uD r;have e:(jM c).length≤5:=by unfold jM;split<;>simp
  refine RW m4<|RW b4<|RW eR ?_;lia
noncomputable def ju:Str:=Str.ofString "s"
noncomputable def vT:Str:=Str.ofString "_find_unsafe"
theorem C5{P:List Stmt→Prop}(h:∀p1 p2 p3 p4 p5 p6 p7 p8 p9 Ng Jt EC NC Rp Ro Nf Js Nd Jr Rn NB Rl TR e k1 k2 k3 k4 k5 k6,(Nf.endLine==Jr.line)=true→P [
  .If (.UnaryOp .Not (.Name ju p1) p2) [.Return (some (.Constant (.str e) k1 p3)) p4] [] p5,
  .If (.Compare (.Call (.Name vT p6) [.Name ju p7] [] p8) [.Is] [.Constant .none k2 p9] Ng) [.Return (some (.Name ju Jt)) EC] [] NC,
  .Return (some (.BinOp (.BinOp (.Constant (.str (ar [39])) k3 Rp) .Add (.Call (.Attribute (.Name ju Ro) "replace" Nf) [.Constant (.str (ar [39])) k4 Js,.Constant (.str pw) k5 Nd] [] Jr) Rn) .Add (.Constant (.str (ar [39])) k6 NB) Rl)) TR]):P (ac 903):=by
 refine h _ _ _ _ _ _ _ _ _ _ _ _ _ _ _ _ _ _ _ _ _ _ _ _ _ _ _ _ _ _ ?_;kernel_rfl
section
variable{w:World}{A:Around}{E:Value→Shared→Prop}{s:Shared}{env:Env}
structure iY(w:World)(env:Env)(x:Tx)(t:PySem.Tok)(s:Shared):Prop where
 S:bU w s.heap
 kind:env.scope.kind=.function
 hs:env.kindOf ju=some .local
 hf:env.kindOf vT=some .globalImplicit
 glob:env.globals=mainGlobals
 ns:∃m,s.heap.Ns env.locals m∧m ju=some (.str (ar x) t)
theorem iY.grow(I:iY w env x t s)(hk:∀b o,s.heap.get? b=some o→h'.get? b=some o)(n):iY w env x t {s with heap:=h',toks:=n}:=
 ⟨I.S.iw (bG hk) (fun _ m=>m.elim),I.kind,I.hs,I.hf,I.glob,let⟨m,n,e⟩:=I.ns;(aK m (n.keeps hk) e)⟩
theorem iY.arg(I:iY w env x t s)(h:Q (.str (ar x) t) s):wpAny (model PW w) A (eval (.Name ju p) env) Q E s:=
 let⟨_,n,e⟩:=I.ns
 wpAny_Name (wpAny_loadName_local I.kind I.hs n e h) (by kernel_rfl)
theorem Hj(P):(hW P vT==some (.ref 896))=true:=by kernel_rfl
theorem iY.fn(I:iY w env x t s)(h:Q (.ref 896) s):wpAny (model PW w) A (eval (.Name vT p) env) Q E s:=by
 refine wpAny_Name ?_ (by kernel_rfl)
 exact RW (loadName_read I.kind I.hf)<|loadGlobal_global (RW I.glob<|mM I.S) (cO.mp (Hj w.params)) h
theorem Ah(I:iY w env x t s)(hx:Wd x)(h1:x.all fB=true→Q .none s)(h2:x.all fB=false→∀v h',(∃a,v=.ref a)→(∀b o,s.heap.get? b=some o→h'.get? b=some o)→Q v {s with heap:=h'}):wpAny (model PW w) A (eval (.Call (.Name vT p) [.Name ju q] [] r) env) Q E s:=by
 refine wpAny_Call_NameR (I.fn (cj ?_));have key:wpAny (model PW w) A (spliced (backTo r (starEach [.Name ju q] env))) (fun vs s₁=>(∃k,Looks (model PW w) s₁.heap (keeperOf (.ref 896)) k)∧wpAny (model PW w) A (call (.ref 896) ([]++vs)) Q E s₁) E s:=by
  refine mZ (I.arg ?_) (aD rfl _ _);exact rc ⟨⟨.machine,(Looks.ld (part:=none) (I.S.X 896 _ (OE _))).andThen .now⟩,uX I.S hx h1 h2⟩
 rw[aD (show isStarred (.Name ju q)=false from rfl)] at key ⊢;exact evalArgs_plain key
theorem quoted(I:iY w env x t s)(hx:x.length≤15){k3 k4 k5 k6 Rp Ro Nf Js Nd Jr Rn NB Rl}(hl:(Nf.endLine==Jr.line)=true)(hQ:∀t' n,Q (.str (ar (39::(x.flatMap jM++[39]))) t') {s with toks:=n}):wpAny (model PW w) A (eval (.BinOp (.BinOp (.Constant (.str (ar [39])) k3 Rp) .Add (.Call (.Attribute (.Name ju Ro) "replace" Nf) [.Constant (.str (ar [39])) k4 Js,.Constant (.str pw) k5 Nd] [] Jr) Rn) .Add (.Constant (.str (ar [39])) k6 NB) Rl) env) Q E s:=by
 refine wpAny_BinOp (wpAny_BinOp (pP ?_));refine dR rfl hl ((I.grow (fun _ _ e=>e) _).arg ?_);rw[gT (args:=[.Constant (.str (ar [39])) k4 Js,.Constant (.str pw) k5 Nd]) rfl (by refine(?_:2+0<29);decide)]
 unfold calleeOf
 (with_reducible refine RW (aB rfl) ?_)
 refine getMethod_builtin (T:="str") (id:="str.replace") ?_ ?_ ?_ ?_ ?_ ?_
 ·exact iR _ _ t
 ·exact PySem.F.plainAttrs_str
 ·exact PySem.F.slot_str_replace
 ·exact PySem.F.type_str_replace
 ·exact fun a q=>(jU q).elim
 refine callWith_builtin (by rw[eL];rfl) ?_
 have EF:(ar x).length=x.length:=bh x;have hf:=uD x;have key:wpAny (model PW w) A (spliced (backTo Jr (starEach [.Constant (.str (ar [39])) k4 Js,.Constant (.str pw) k5 Nd] env))) (fun vs s'=>wpAny (model PW w) A (call (.builtin "str.replace") (.str (ar x) t::vs)) (fun b s₂=>wpAny (model PW w) A (binaryOp .Add (.str (ar [39]) s.toks) b) (fun a s₃=>wpAny (model PW w) A (eval (.Constant (.str (ar [39])) k6 NB) env) (fun b s₄=>wpAny (model PW w) A (binaryOp .Add a b) Q E s₄) E s₃) E s₂) E s') E {s with toks:=s.toks+1}:=by
  refine mZ (pP ?_) (aD rfl _ _);refine mZ (pP ?_) (aD rfl _ _);refine rc (SC.replaceW (ng _) (ng _) (kW (Nat.lt_succ_self _)) (by decide) (by(with_reducible refine RW EF ?_);exact(bZ hx (by decide))) (by decide) fun t' n=>?_)
  rw[show Txt.replace (ar x) (ar [39]) pw=ar (x.flatMap jM) from uY x];refine PyProof.Rows.add_str (fun t₂ n₂=>pP (PyProof.Rows.add_str (fun t₃ n₃=>?_) ?_)) ?_
  ·(with_reducible refine RW (cD _ _)<|RW (cD _ _) ?_);exact hQ _ _
  ·(with_reducible refine RW (cD _ _)<|RW (bh _)<|RW (bh _)<|RW du<|RW b4 ?_)
   refine(?_:1+(x.flatMap jM).length+1≤_);lia
  ·(with_reducible refine RW (bh _)<|RW (bh _)<|RW du ?_)
   refine(?_:1+(x.flatMap jM).length≤_);lia
 rw[aD (show isStarred (.Constant (.str (ar [39])) k4 Js)=false from rfl)] at key ⊢;exact evalArgs_plain key
theorem Ie(I:iY w env x t s)(hx:Wd x){Q:Flow→Shared→Prop}(hQ:∀t' h' n,(∀b o,s.heap.get? b=some o→h'.get? b=some o)→Q (.ret (.str (ar (enc x)) t')) {s with heap:=h',toks:=n}):wpAny (model PW w) A (execs (ac 903) env) Q E s:=by
 refine C5 (P:=fun ss=>wpAny (model PW w) A (execs ss env) Q E s) ?_;intro p1 p2 p3 p4 p5 p6 p7 p8 p9 Ng Jt EC NC Rp Ro Nf Js Nd Jr Rn NB Rl TR e k1 k2 k3 k4 k5 k6 hl;have x0:0<x.length:=List.length_pos_iff.mpr hx.1;refine rj (wpAny_If (wpAny_isTrue_Not (wpAny_isTrue_value (I.arg ?_))));refine P.truthy_str (by refine RW (bh _) ?_;have:=hx.2.1;lia) ?_
 have e0:(((ar x).length:Int) != 0)=true:=by((refine RW (bh _) ?_);rewrite [bne_iff_ne]);lia
 refine RW e0<|wpAny_execs_nil (rj (wpAny_If (wpAny_isTrue_Compare1 (Ah (I.grow (fun _ _ e=>e) (s.toks+1+1)) hx (fun hs=>?_) fun hs v h' hv hk=>?_))))
 ·refine wpAny_Constant_none (wpAny_is_self rfl (wpAny_truthy_bool (rj (wpAny_Return_some ((I.grow (fun _ _ e=>e) (s.toks+1+1)).arg ?_)))))
  have z:=hQ t s.heap (s.toks+1+1) fun _ _ e=>e;unfold enc at z;rw[if_pos hs] at z;exact z
 ·refine bf hv fun a aa=>?_;clear hv;subst aa
  refine wpAny_Constant_none (wpAny_is_other rfl (fun q=>by cases q) (wpAny_truthy_bool (wpAny_execs_nil (rj (wpAny_Return_some (quoted (I.grow hk (s.toks+1+1)) hx.2.1 hl fun t' n=>?_))))))
  have z:=hQ t' h' n hk;unfold enc at z;rw[if_neg (by exact RW hs Bool.false_ne_true)] at z
  exact z
structure TK(fd:FD):Prop where
 at':fnAt 903=some fd
 body:fd.body=ac 903
 bind:∀x,pZ 903 fd [.str x] []=some [(ju,.str x)]
 s:fd.scope.names.lookup ju=some .local
 f:fd.scope.names.lookup vT=some .globalImplicit
 va:fd.params.vararg.isSome=false
theorem QM:∃fd,TK fd:=⟨_,rfl,rfl,fun _=>by kernel_rfl,by kernel_rfl,by kernel_rfl,by kernel_rfl⟩
theorem wN(hh:A.handled=none)(hd:A.depth<recursionLimit)(S:bU w s.heap)(hx:Wd x)(hQ:∀t' h' n,(∀b o,s.heap.get? b=some o→h'.get? b=some o)→Q (.str (ar (enc x)) t') {s with heap:=h',toks:=n}):wpAny (model PW w) A (call (.ref 903) [.str (ar x) t]) Q E s:=by
 refine bf QM fun fd I=>UO (yM w.params I.at') fun name qual dflt pm code H0=>aq H0.obj fun o ho Ju=>?_;have H:=lr H0.scope;refine aq (yQ (ρ:=⟨[],[]⟩) S H0.dflt) fun its vu rd=>?_;have Vr:x.length≤ax:=by refine RW bc ?_;have:=hx.2.1;exact(bZ this (by decide))
 refine jw (codeAny_call_function hd (S.X _ _ ho) Ju H.co H.gen rfl (oh S H0.Nr) ?_);refine uQ (a:=903) (fd:=fd) (ρ:=⟨[],[]⟩) (I.bind x) rfl (fun e=>⟨S.big,fun m=>nomatch m⟩) (aM.cons (.str x t Vr) aM.nil) ⟨rfl,aM.nil⟩ rd (fun s' NH=>vu s' NH) (fun q=>absurd (I.va.symm.trans q) ck) fun b h' hk Np=>aq (Np.get (n:=ju) (v:=.str x) (by(refine RW gt<|RW (dT _) rfl))) fun y hb ry=>?_
 have xu:=Np.1;refine sq H.kind (fun z hz=>?_) fun env he s₂ xF=>?_
 ·have:z.1∈b.map (·.1):=rp hz
  rw[xu] at this;rewrite [List.mem_singleton.mp this];exact .inl I.s
 ·have ml:∀z o,s.heap.get? z=some o→s₂.heap.get? z=some o:=fun z o e=>xF.1.toInCall.keep z o (hk z o e)
  have S₂:bU w s₂.heap:=S.iw (bG ml) fun _ m=>m.elim;have NG:∀n,env.kindOf n=fd.scope.names.lookup n:=fun n=>RW he rfl;have hs:=(NG ju).trans I.s;obtain⟨t',rfl⟩:∃t',y=.str (ar x) t':=by
   apply ry.dS;intro t' _;exact⟨t',rfl⟩
  have J:iY w env x t' s₂:=⟨S₂,by refine RW he ?_;exact H.kind,hs,(NG vT).trans I.f,by refine RW he ?_;rfl,_,xF.1.toInCall.ns,om _ ju _ hs b _ (RW xu<|List.pairwise_singleton _ _) (mem_of_lookup hb)⟩
  refine⟨S₂.lim,codeAny_func ?_⟩;refine RW I.body<|Ie J hx fun t' y3 n NM=>?_;refine vG xF.1.toInCall.same fun h₂ tk aa=>?_;subst aa;exact hQ t' y3 n fun z o e=>NM z o (ml z o e)
end
end
section
open PySem.Builtin PySem.Builtin.Re
def Sc:Expr:=dY (a5 (ac 895) 0)
noncomputable def hH:Str:=Str.ofString "arg"
noncomputable def m6:Str:=Str.ofString "quote"
noncomputable def px:Str:=Str.ofString "split_command"
structure RV(sc:Scope):Prop where
 co:sc.isCoroutine=false
 kind:sc.kind=.function
 NP:∀x∈sc.names,x.2≠.free
 IH:∀x∈sc.names,x.2≠.cell
 h0:sc.names.lookup (".0":Str)=some .local
 ha:sc.names.lookup hH=some .local
 hq:sc.names.lookup m6=some .globalImplicit
def Ok(sc:Scope):Bool:=!sc.isCoroutine&&sc.kind==.function&&(sc.names.all fun x=>x.2 != .free&&x.2 != .cell)&&sc.names.lookup (".0":Str)==some .local&&sc.names.lookup hH==some .local&&sc.names.lookup m6==some .globalImplicit
theorem KJ(h:Ok sc=true):RV sc:=by
 unfold Ok at h;simp only[Bool.and_eq_true,Bool.not_eq_true',List.all_eq_true,beq_iff_eq,bne_iff_ne] at h;exact az h fun aa h6=>az aa fun aP h5=>az aP fun cN h4=>az cN fun jo h3=>az jo fun h1 h2=>⟨h1,h2,fun x m=>(h3 x m).1,fun x m=>(h3 x m).2,h4,h5,h6⟩
theorem C6{P:Expr→Prop}(h:∀k1 p1 p2 p3 p4 p5 p6 p7 p8 p9 sc,RV sc→(p2.endLine==p9.line)=true→P (.Call (.Attribute (.Constant (.str (ar [32])) k1 p1) "join" p2) [.GeneratorExp (.Call (.Name m6 p3) [.Name hH p4] [] p5) [⟨.Name hH p6,.Name px p7,[],0⟩] sc p8] [] p9)):P Sc:=by
 refine h _ _ _ _ _ _ _ _ _ _ _ (KJ ?_) ?_
 ·kernel_rfl
 ·kernel_rfl
section
variable{w:World}{A:Around}{E:Value→Shared→Prop}{s:Shared}{env:Env}
theorem yT(P):(bF P).lookup 894=some (JU P):=by kernel_rfl
theorem DQ(hc:env.code=.ref 894)(S:bU w s.heap)(hQ:∀c h' tk ps,Heap.ExtBut 890 s.heap h'→h'.get? 890=some {cls:=.none,data:=.fields ps}→TriplesOk ps.toList→Q c {s with heap:=h',toks:=tk}):wpAny (model PW w) A (genexprCode env pos q sc) Q E s:=by
 refine aq (S.tab 890 (.inr rfl)) fun tb ht tr=>?_;have ON:=S.X 894 _ (yT _);have ic:s.heap.IsCode 894 890 tb:=⟨JU w.params,_,_,_,_,_,_,_,_,_,ON,rfl,rfl,rfl,rfl,rfl,rfl,ht,rfl,tr,by decide⟩
 cases hn:codeAmong pos tb.toList with
 |none=>
  exact wpAny_genexprCodeX hc ic ⟨(AK (JU w.params) _ ON rfl rfl rfl),ht⟩ hn fun c' h' tk hx _ _ _ _ JZ _=>hQ _ _ _ _ hx JZ.2<|RW Array.toList_append<|TriplesOk_snoc _ _ _ _ tr
 |some cv=>exact wpAny_genexprCode_hit hc ic hn (hQ _ _ _ _ (Heap.ExtBut.refl _ _) ht tr)
theorem MJ(S:bU w s.heap)(hg:env.globals=mainGlobals)(h:Q builtinsNs s):wpAny (model PW w) A (builtinsFor env.globals env.builtins) Q E s:=by
 exact Nx (lA w.params) fun _ f2 _ f4 f5=>RW hg<|wpAny_builtinsFor (.of_isNs (isNs_of_in (N:=3) S.X f4)) (ou (N:=3) S.X (.of_isNs (isNs_of_in (N:=3) S.X f4)) f5) (by decide) (S.X 4 _ f2) rfl rfl rfl h
theorem Ha(P):keepIn (bF P) (.ref 903)=true:=by kernel_rfl
theorem Hi(P):(hW P m6==some (.ref 903))=true:=by kernel_rfl
theorem Mr(hh:A.handled=none)(hd:A.depth<recursionLimit)(S:bU w s.heap)(hk:env.scope.kind=.function)(ha:env.kindOf hH=some .local)(hq:env.kindOf m6=some .globalImplicit)(hg:env.globals=mainGlobals)(n:s.heap.Ns env.locals m)(e:m hH=some (.str (ar x) t))(hx:Wd x):
  wpAny (model PW w) A (eval (.Call (.Name m6 p3) [.Name hH p4] [] p5) env) (fun y s₃=>(∃t',y=.str (ar (enc x)) t')∧Keeps s s₃) E s:=by
 refine wpAny_Call_NameR (wpAny_Name ?_ (by kernel_rfl))
 refine RW (loadName_read hk hq)<|loadGlobal_global (RW hg<|mM S) (cO.mp (Hi w.params)) (cj ?_);have key:wpAny (model PW w) A (spliced (backTo p5 (starEach [.Name hH p4] env))) (fun vs s₁=>(∃k,Looks (model PW w) s₁.heap (keeperOf (.ref 903)) k)∧wpAny (model PW w) A (call (.ref 903) ([]++vs)) (fun y s₃=>(∃t',y=.str (ar (enc x)) t')∧Keeps s s₃) E s₁) E s:=by
  refine mZ (wpAny_Name (wpAny_loadName_local hk ha n e ?_) (by kernel_rfl)) (aD rfl _ _)
  refine rc ⟨?_,wN hh hd S hx fun t' h' n hk=>⟨⟨t',rfl⟩,h',n,rfl,hk⟩⟩;exact aq (looks_keep (M:=model PW w) (Ha w.params) S.X) fun k _ L=>⟨k,L⟩
 rw[aD (show isStarred (.Name hH p4)=false from rfl)] at key ⊢;exact evalArgs_plain key
theorem Df{sc:Scope}{C:Addr}{code:Value}{p3 p4 p5:Pos}{I D U:Nat}{ws:List Tx}{items:Array Value}{h₄ J1:Heap}(G:RV sc)(hg:env.globals=mainGlobals)(S:bU w h₄)(hr:∀b o,h₄.get? b=some o→J1.get? b=some o)(hI:N0≤I)(hD:D<recursionLimit)(hw:∀x∈ws,Wd x)(hit:∀(i:Nat) v,items[i]? =some v→∃x t,ws[i]? =some x∧v=Value.str (ar x) t):
  QuietGenD PW w (genEnv sc [] C code builtinsNs env) hH [] (.Call (.Name m6 p3) [.Name hH p4] [] p5) (List.range h₄.objs.size) [I] (fun i v=>items[i]? =some v) (fun _=>true) (fun i y=>∃x t,ws[i]? =some x∧y=Value.str (ar (enc x)) t) J1 D U where
 tests:=fun A' E' i v s₂ m₂ _ _ _ _ _ _ _=>aS ⟨rfl,s₂.heap,s₂.toks,rfl,fun _ _ e=>e⟩
 elt:=fun A' E' i v s₂ m₂ hA Wx _ hv _ n e ID=>by
  refine fJ (hit i v hv) fun x t h1 aa=>?_;subst aa;have hk:∀b o,h₄.get? b=some o→¬b=I→s₂.heap.get? b=some o:=fun b o e hb=>ID b (gE.mpr (fK e)) (fun m=>hb (dw.mp m)) o (hr b o e);have S₂:bU w s₂.heap:=S.iw (mu:=fun b=>b=I) (fun b o e hb=>⟨fun _=>hk b o e hb,fun _=>⟨o.slots,hk b o e hb⟩⟩) fun b m=>RW m hI;refine bw (Mr hA (dy Wx hD) S₂ G.kind G.ha G.hq hg n e (hw x (db h1))) (fun y s₃ z=>?_) fun _ _ z=>z
  (have aF:=z;clear z;refine az aF fun aa z=>bf aa fun t' aP=>?_;clear aF;subst aP)
  exact⟨(pK x t' h1 rfl),z⟩
theorem Di(n):passing (fun _=>true) n 0=List.range n:=by
 unfold passing
 ((refine RW List.drop_zero ?_);rewrite [List.filter_eq_self])
 exact fun _ _=>rfl
structure Kp(w:World)(A:Around)(s:Shared)(ws:List Tx)(n:Nat)(a:Addr)(s₅:Shared):Prop where
 W:∃fp wr g St P,WalksS PW w A.in4 a fp wr (GenOnlyQ g) n P St∧(∀(j:Nat) y,P j y→∃x t,ws[j]? =some x∧y=Value.str (ar (enc x)) t)∧St 0 s₅∧(∀i s',St i s'→s'.TypeIs (.ref a) "generator")∧a∈fp∧(∀b∈fp,b<s₅.heap.objs.size)∧(∀b∈wr,s.heap.objs.size≤b)
 os:s₅.os=s.os
 gens:AllBare s.gens→AllBare s₅.gens
 ext:Heap.ExtBut 890 s.heap s₅.heap
 tab:∃ps,s₅.heap.get? 890=some {cls:=.none,data:=.fields ps}∧TriplesOk ps.toList
def M6(ws:List Tx)(items:Array Value):Prop:=items.size=ws.length∧∀(i:Nat) v,items[i]? =some v→∃x t,ws[i]? =some x∧v=Value.str (ar x) t
theorem LQ{sc:Scope}{ws:List Tx}(hh:A.handled=none)(hd:A.depth+1<recursionLimit)(G:RV sc)(hc:env.code=.ref 894)(hg:env.globals=mainGlobals)(S:bU w s.heap)(hw:∀x∈ws,Wd x)
  (he:∀{R:Value→Shared→Prop},(∀l items,s.heap.IsList l items→M6 ws items→R (.ref l) s)→wpAny (model PW w) A (eval (.Name px p7) env) R E s) {Q:Value→Shared→Prop} (hQ:∀a s₅,Kp w A s ws ws.length a s₅→Q (.ref a) s₅):wpAny (model PW w) A (eval (.GeneratorExp (.Call (.Name m6 p3) [.Name hH p4] [] p5) [⟨.Name hH p6,.Name px p7,[],0⟩] sc p8) env) Q E s:=by
 refine wpAny_GeneratorExp_walksQD hh G.co (closureFor_none G.NP) G.IH G.h0 G.ha G.kind ((dy (iL _ _) hd)) (he fun l items hl hits=>wpAny_pyIter_list hl ?_) fun _=>rfl;refine az hits fun Tc hit=>?_;rw[←Tc] at hQ;have ml:∀b o,s.heap.get? b=some o→(s.heap.push {cls:=.type "list_iterator",data:=.fields #[.ref l,.int 0 0]}).get? b=some o:=fun b o e=>gp _ e;have S₂:bU w (s.heap.push {cls:=.type "list_iterator",data:=.fields #[.ref l,.int 0 0]}):=S.iw (bG ml) fun _ m=>m.elim;have jL:l<s.heap.objs.size:=by refine aq hl fun _ e _=>?_;exact fK e
 have h9:(890:Nat)<N0:=by decide
 have big:N0≤s.heap.objs.size:=S.big;have j6:(s.heap.push {cls:=.type "list_iterator",data:=.fields #[.ref l,.int 0 0]}).get? s.heap.objs.size=some {cls:=.type "list_iterator",data:=.fields #[.ref l,.int 0 0]}:=dm _ rfl;refine⟨S₂.lim,DQ hc S₂ fun c h₄ tk ps hx ht tr=>?_⟩;have S₄:bU w h₄:=S₂.keep (mu:=fun b=>b=890) (fun b o e hb=>⟨fun _=>hx b o hb e,fun _=>⟨o.slots,hx b o hb e⟩⟩) (fun b m _=>.inr m) fun b hb=>by
  refine EM (b=890) (fun q=>?_) fun q=>?_
  ·subst q;exact(aK ps ht tr)
  ·exact aq (S₂.tab b hb) fun NA e RY=>(aK NA (hx b _ q e) RY)
 refine MJ S₄ hg ?_;have Wb:l≠890:=fun q=>by
  refine kS hl fun ol e1 e2 _=>aq (S.tab 890 (.inr rfl)) fun _ e3 _=>?_;rw[q,e3] at e1;cases a7 e1;cases e2
 have hI:=hx _ _ (Nat.ne_of_gt (nq h9 big)) j6;have Wc:h₄.IsList l items:=(hl.push _).at fun o e=>hx _ o Wb e;have J5:=fK hI;refine WW s.heap.objs.size ([s.heap.objs.size,l]) ([s.heap.objs.size]) items.size _ _ (fun _=>true) (fun i y=>∃x t,ws[i]? =some x∧y=Value.str (ar (enc x)) t) rfl (fun A' hA=>Walks.list hA _ _ (kW jL) items) ⟨(lL _ hI rfl rfl),Wc⟩ (fun b hb=>?_) S₄.lim (fun m=>?_) (fun J1 hr=>Df G hg S₄ hr big hd hw hit) (fun a h₅ tk gs Wn Uk jp Uc W EG=>?_)
 ·rcases cW.mp hb with rfl|hb
  ·exact J5
  ·exact RW (dw.mp hb)<|Nat.lt_trans jL J5
 ·exact absurd big (by refine RS (dw.mp m) ?_;decide)
 ·rw[Di,List.length_range] at W
  refine hQ a _ ⟨(WY _ _ _ _ _ W (fun j y z=>?_) EG (fun i s' st=>st.1.typeIs) cw (fun b hb=>?_) (fun b hb=>?_)),rfl,fun g=>g.push Wn,fun b o hb e=>Uc b o (hx b o hb (ml b o e)),ps,Uc _ _ ht,tr⟩
  ·refine aq z fun i h1 aa=>fJ aa fun x t h2 h3=>bf (fY.mp h1) fun hj h4=>?_
   rw[List.getElem_range] at h4;exact pK x t (RW h4 h2) h3
  ·refine(?_:b<h₅.objs.size)
   refine RW jp ?_;rcases cW.mp hb with rfl|hb
   ·exact Nat.lt_succ_self _
   ·rcases cW.mp hb with rfl|hb
    ·exact Nat.lt_succ_of_lt Uk
    ·exact Nat.lt_succ_of_lt (Nat.lt_trans (gE.mp hb) Uk)
  ·rcases cW.mp hb with rfl|hb
   ·exact fL J5
   ·exact ka (dw.mp hb).symm
theorem I7:∀ws:List Tx,Str.join (ar [32]) (ws.map fun x=>ar (enc x))=ar (fR ws)
 |[]=>rfl
 |[_]=>rfl
 |a::b::r=>by
  have ih:=I7 (b::r);refine(?_:ar (enc a)++ar [32]++Str.join (ar [32]) ((b::r).map fun x=>ar (enc x))=_)
  ((with_reducible refine RW ih<|RW (cD _ _)<|RW (cD _ _) ?_);rewrite [List.append_assoc]);rfl
theorem CM:∀(sep:Str) (l:List Str),Txt.join sep l=Str.join sep l:=fun sep l=>StrLaws.glued_eq_join sep l
theorem x8:∀ws:List Tx,(∀x∈ws,Wd x)→((ws.map fun x=>ar (enc x)).map (·.length)).sum≤77*ws.length
 |[],_=>bI _
 |a::r,h=>by
  have ih:=x8 r fun x m=>h x (dZ _ m);have:=(wq (h a cw)).2
  (with_reducible refine RW cV<|RW cV<|RW pd<|RW eR<|RW (bh _) ?_)
  lia
theorem Kp.join(S:bU w s.heap)(G:Kp w A s ws ws.length a s₅)(hw:∀x∈ws,Wd x)(h3:ws.length≤3)(hQ:∀t' s',s'.os=s.os→(AllBare s.gens→AllBare s'.gens)→Heap.ExtBut 890 s.heap s'.heap→(∃ps,s'.heap.get? 890=some {cls:=.none,data:=.fields ps}∧TriplesOk ps.toList)→Q (.str (ar (fR ws)) t') s'):wpAny (model PW w) A (call (.builtin "str.join") [.str (ar [32]) t,.ref a]) Q E s₅:=by
 obtain⟨⟨fp,wr,g,St,P,W,hP,jq,hT,ha,Wq,T8⟩,Sk,tJ,Tl,ps,y1,tr⟩:=G;refine SC.joinGen W.in4_2 hT jq Wq ha (fun j v hv=>let⟨x,t,_,e⟩:=hP j v hv;(s7 _ t e)) (fun s' lt hm ca=>?_) (by refine RW du ?_;exact(bZ h3 (by decide)))
 have hl:lt.map (·.1)=ws.map fun x=>ar (enc x):=by
  have jp:lt.length=ws.length:=by simpa[strValues] using ca.1
  apply List.ext_getElem?;intro j;refine EM (j<ws.length) (fun hj=>?_) fun hj=>?_
  ·have RF:j<lt.length:=jp▸hj
   refine fJ (hP j _ (ca.2 j (.str lt[j].1 lt[j].2) (by simp[strValues,List.getElem?_eq_getElem RF]))) fun x u hx hv=>?_
   injection hv with h1 _
   refine RW pi<|RW pi<|RW (dz RF)<|RW hx ?_;exact bH some h1
  ·refine RW (rz (RW (bW _)<|RW jp<|rh hj))<|RW (rz (RW (bW _)<|rh hj)) rfl
 refine RW hl<|RW (CM _ _)<|RW (I7 _) ⟨joinOk_of ?_,fun t' k=>hQ t' _ (hm.os.trans Sk) (fun g=>show AllBare s'.gens from(tJ g).movedS hm) (fun b o hb e=>hm.heap b o (fun m=>absurd (T8 b m) (Nat.not_le.mpr (fK e))) (Tl b o hb e)) (aK ps (hm.heap _ _ (fun m=>absurd (T8 _ m) (Nat.not_le.mpr ?_)) y1) tr)⟩
 ·have:=x8 ws hw
  refine RW (bW _) ?_;refine(?_:_+ws.length*1≤_);lia
 ·exact aq (S.tab 890 (.inr rfl)) fun _ e _=>fK e
end
end
noncomputable def zf(e:Expr):Bool:=match e with
 |.Call _ _ _ p=>p.line==924&&p.col==11
 |_=>false
def NF(C:Cx)(e:Expr)(st:St)(Q:V→St→Prop):Prop:=C.d≠0∧l5 C.names=some 894∧C.names.lookup (Str.ofString ".0")=none∧e=Sc∧∃ws:List Tx,cS C px st=some (.seq false (ws.map V.str))∧ws.length≤3∧(∀w∈ws,Wd w)∧Q (.str (fR ws)) st
def T3(F:bT):bT:={F with ev:=fun C e st Q=>if zf e=true then NF C e st Q else F.ev C e st Q}
theorem Qz{g}{e}{st}{Q}{s}{ρ}(h:NF g.C e st Q)(N:aV g st s ρ):wpAny g.m g.A (eval e g.env) (ey g Q s ρ) cq s:=by
 (have aF:=h;clear h;refine Nx aF fun hd J4 h0 aa aP=>o9 aP fun ws hv h3 hw hQ=>?_;clear aF;subst aa)
 refine C6 (P:=fun e=>wpAny g.m g.A (eval e g.env) (ey g Q s ρ) cq s) fun k1 p1 p2 p3 p4 p5 p6 p7 p8 p9 sc G hl=>dR rfl hl (pP ?_);rw[gT (args:=[.GeneratorExp (.Call (.Name m6 p3) [.Name hH p4] [] p5) [⟨.Name hH p6,.Name px p7,[],0⟩] sc p8]) rfl (by refine(?_:1+0<29);decide)]
 unfold calleeOf;refine RW (aB rfl)<|getMethod_builtin (T:="str") (id:="str.join") ?_ ?_ ?_ ?_ ?_ ?_
 ·exact iR _ _ s.toks
 ·exact PySem.F.plainAttrs_str
 ·exact PySem.F.slot_str_join
 ·exact PySem.F.type_str_join
 ·exact fun a q=>(jU q).elim
 refine callWith_builtin (by rw[eL];rfl) ?_
 have N₁:=N.tok (s.toks+1);have S:=N₁.1.S.aL;have key:wpAny g.m g.A (spliced (backTo p9 (starEach [.GeneratorExp (.Call (.Name m6 p3) [.Name hH p4] [] p5) [⟨.Name hH p6,.Name px p7,[],0⟩] sc p8] g.env))) (fun vs s'=>wpAny g.m g.A (call (.builtin "str.join") (.str (ar [32]) s.toks::vs)) (ey g Q s ρ) cq s') cq {s with toks:=s.toks+1}:=by
  refine mZ (LQ (N.ok.rm.hd hd) (by have:=N.ok.rm.depth;lia) G (N.ok.cx.Nr h0 894 J4) N.ok.cx.glob S hw (fun{R} hR=>?_) fun a s₅ z=>?_) (aD rfl _ _)
  ·refine hY N₁.1.ok.cx N₁.1.S N₁.1.R hv fun y ry=>?_
   apply ry.qY;intro a xs n _ h4 h5 h6;refine hR a xs.toArray ⟨_,h4,rfl,_,rfl⟩ ⟨by((refine RW fh ?_);rewrite [←h6.1];(refine RW (bW _) rfl)),fun i v e=>?_⟩
   rw[List.getElem?_toArray] at e;have hi:i<ws.length:=by
    have:=(fY.mp e).1;rw[←h6.1,List.length_map] at this;exact this
   have r:=h6.2 i (.str ws[i]) v (by(refine RW pi<|RW (dz hi) ?_);rfl) e
   apply r.dS;intro t _;exact pK (ws[i]) t (dz hi) rfl
  ·refine rc (z.join S hw h3 fun t' s' Sk tJ hx ⟨ps,ht,tr⟩=>?_)
   have P:=dB.table N₁.1.S N₁.1.R (a:=890) (.inr rfl) hx ht tr s'.toks;have P':dB g.w ρ g.env {s with toks:=s.toks+1} st ρ s':=⟨P.pre,P.sr,P.er,P.keep,Sk,tJ,P.fresh,P.alive,P.fz⟩
   have z:=N₁.1.step P';exact .mk _ _ _ hQ z.1 (N₁.2.trans z.2) (.str _ _ (by refine RW bc ?_;have:=(n5 hw).2;lia))
 rw[aD (show isStarred (.GeneratorExp (.Call (.Name m6 p3) [.Name hH p4] [] p5) [⟨.Name hH p6,.Name px p7,[],0⟩] sc p8)=false from rfl)] at key ⊢;exact evalArgs_plain key
theorem LD(a:gL F):gL (T3 F) where
 ev:=fun{g e st Q s ρ} h N=>by
  have h:(if zf e=true then NF g.C e st Q else F.ev g.C e st Q):=h
  refine EM (zf e=true) (fun c=>?_) fun c=>?_
  ·rw[if_pos c] at h;exact Qz h N
  ·rw[if_neg c] at h;exact a.ev h N
 tr:=a.tr
 ex:=a.ex
 call:=a.call
 wh:=a.wh
 fo:=a.fo
 co:=a.co
 dr:=a.dr
 use:=fun{g e st Q Q₂ s ρ use} hc h N hu=>by
  have h:(if zf e=true then NF g.C e st Q else F.ev g.C e st Q):=h
  refine EM (zf e=true) (fun c=>?_) fun c=>?_
  ·exfalso
   unfold zf at c;split at c
   ·exact ck hc
   ·exact c0 c
  ·rw[if_neg c] at h;exact a.use hc h N hu
def T4:bT:=kl (kl (T3 (aT bi 3)))
theorem LF:gL T4:=by
 have h:=nL jt 3;rw[←et] at h;have e:∀F:bT,F.sm=bi→bt F.sm:=fun F q=>RW q jt;have hm:=sy bi 3;exact((LD h).step (e _ hm)).step (e _ hm)
theorem KW(vs:List V)(K:V→Prop):NF (cx 895 4) Sc ⟨[(px,.seq false vs)],[]⟩ (fun v _=>K v)=T4.call 5 (.con (.ref 895)) [.seq false vs] [] [] (iD K):=by kernel_rfl
theorem MD:l5 (cx 895 4).names=some 894:=by kernel_rfl
theorem My:(cx 895 4).names.lookup (Str.ofString ".0")=none:=by kernel_rfl
theorem GK(v):cS (cx 895 4) px ⟨[(px,v)],[]⟩=some v:=by kernel_rfl
theorem L6:Entry 895 5 (cZ Kb):=dQ (sm:=bi) (by decide) fun{args kws K} h=>by
 (have aF:=h;clear h;refine az aF fun aa aP=>o9 aP fun ws cN h3 hw h=>?_;clear aF;subst aa;subst cN)
 exact RW (eM _)<|(LF.le bi).call (Eq.mp (KW _ K) ⟨ng 3,MD,My,rfl,ws,GK _,h3,hw,h⟩)
theorem SJ:bt jB:=bP (l:=N8) ⟨Mf,trivial⟩
theorem Me:Entry 188 4 zk:=ct (sm:=jB) (by decide) fun{args kws os K} h=>by
 (have aF:=h;clear h;refine gq aF fun aa hn aP=>o9 aP fun its cN hi hl h=>?_;clear aF;subst aa;subst cN)
 exact H7 SJ hn hi hl h
theorem Pd:bt aG:=bP (l:=IV) ⟨Mk,Mj,Mi,Mh,L4 (SI Me L7),trivial⟩
theorem Pc:bt bx:=bP (l:=IT) ⟨L6,wo,L3 Pd,LZ,trivial⟩
theorem G3:Entry 947 13 (cZ OS):=LY Pc
noncomputable def ta:Obj:={cls:=.none,data:=.fields #[]}
def Bg(P:Params):Frag:=bF P++[(183,ta),(890,ta)]
theorem yI:∀{xs:List WData},WShape.hasItems R xs .int=true→∃is:List Int,xs=is.map WData.int
 |[],_=>⟨[],rfl⟩
 |x::r,h=>by
  have h:WShape.has R x .int=true∧WShape.hasItems R r .int=true:=by simpa[WShape.hasItems] using h
  refine bf (hasW_int h.1) fun i aa=>?_;subst aa;refine bf (yI h.2) fun is aa=>?_;subst aa;exact⟨i::is,rfl⟩
def WI(P:Params)(h:Heap)(v:Value)(d:WData):Prop:=match d with
 |.int i=>∃t,v=.int i t
 |.list xs=>∃a vs,v=.ref a∧h.get? a=some {cls:=.type "list",data:=.seq vs.toArray}∧WellAll P h vs xs
 |_=>True
theorem IN(w:Well P h v d):WI P h v d:=by
 induction w using Well.casesOn with
 |int i t=>exact⟨t,rfl⟩
 |list e w=>exact(jN _ _ rfl e w)
 |_=>exact trivial
def WR(P:Params)(h:Heap)(vs:List Value)(ds:List WData):Prop:=match ds with
 |[]=>vs=[]
 |d::r=>∃v vs',vs=v::vs'∧Well P h v d∧WellAll P h vs' r
theorem rL(w:WellAll P h vs ds):WR P h vs ds:=by
 induction w using WellAll.casesOn with
 |nil=>exact rfl
 |cons a b=>exact(jN _ _ rfl a b)
theorem De(is:List Int):∀{vs:List Value},WellAll P h vs (is.map WData.int)→aM h ρ (is.map V.int) vs:=by
 induction is with
 |nil=>
  intro vs w;rw[show vs=[] from rL w];exact aM.nil
 |cons i is ih=>
  intro vs w;refine ez (rL w) fun v vs' aa w1 w2=>?_;subst aa;refine bf (IN w1) fun t aa=>?_;subst aa;exact aM.cons (.int i t) (ih w2)
theorem Ld:∀b:Bool,(WTm.and (.not (.lit (.bool b))) (.lit (.bool true))).holds R c=!b
 |true=>rfl
 |false=>rfl
theorem Pj(h:(WTm.and (.not (.lt (.lit (.int ((63:Nat):Int))) (.len (.arg 0)))) (.lit (.bool true))).holds R {args:=[.list xs]}=true):xs.length≤63:=by
 have h:=(Ld (R:=R) (c:={args:=[.list xs]}) (decide (((63:Nat):Int)<(xs.length:Int)))).symm.trans h;rw[Bool.not_eq_true',decide_eq_false_iff_not] at h;exact rh fun q=>h (jG.mpr q)
theorem G4(h:PySem.Challenge.rw_ik0145_01.row.toRowW.claim.pre args=true):∃is:List Int,args=[.list (is.map WData.int)]∧is.length≤63:=by
 refine az (pre_splitW h) fun h1 h2=>?_;refine ez (hasAllW_cons (e:=.list .int) (es:=[]) h1) fun d r aa h3 h4=>?_;subst aa;cases hasAllW_nil h4;refine aq (hasW_list h3) fun xs aa h5=>?_;subst aa;refine bf (yI h5) fun is aa=>?_;subst aa;have:=Pj h2;rw[List.length_map] at this;exact aK is rfl this
theorem Dy{K K':Frag}(h:K.lookup a=some o):List.lookup a (K++K')=some o:=by
 exact RW List.lookup_append<|RW h rfl
theorem IS(P):List.lookup 183 (Bg P)=some ta∧List.lookup 890 (Bg P)=some ta:=by
 constructor<;>kernel_rfl
theorem Qp{h:Heap}{N:Addr}{m m':Str→Option Value}(a:h.Ns N m)(b:h.Ns N m')(x):m x=m' x:=by
 refine vF a fun o es ep e d _ f=>vF b fun o' EX sZ e' d' _ f'=>?_;rw[e] at e';cases a7 e';rw[d] at d';cases d';refine RS (f _)<|RS (f' _) rfl
theorem Hh(P):(hW P "law"==some (.ref 947))=true:=by kernel_rfl
theorem Ef(P):(bF P).lookup 187=some (JW P):=by kernel_rfl
noncomputable def gP(h:Heap):List Addr:=(List.range h.objs.size).filter fun a=>match h.get? a with
 |some o=>o.cls==.type "frame"
 |none=>false
theorem w6(e:h.get? a=some o)(c:o.cls=.type "frame"):a∈gP h:=by
 refine pe.mpr ⟨gE.mpr (fK e),?_⟩;exact RW e<|cO.mpr c
set_option tactic.hygienic true in
theorem qy(m:a∈gP h):∃o,h.get? a=some o∧o.cls=.type "frame":=by
 have:=(pe.mp m).2;split at this
 ·rename_i o e;exact(aK o e (cO.mp this))
 ·exact c0 this
theorem GB{w}{s s'}{os}{ρ'}(S:bU w s.heap)(ht:∀a,a=183∨a=890→s.heap.get? a=some ta)(P:aQ w ⟨[],gP s.heap⟩ s os ρ' s'):OldK s.heap s'.heap:=by
 refine⟨fun b o e=>?_,P.alive⟩;refine EM (b=183∨b=890) (fun q=>?_) fun q=>?_
 ·have e0:=ht b q
  rw[e] at e0;cases a7 e0;refine aq (P.sr.aL.tab b q) fun ps e1 _=>.inr (.inl ⟨?_,rfl,#[],ps,rfl,?_⟩)
  ·rcases q with rfl|rfl
   ·exact JA 187 _ _ (S.X 187 _ (Ef _)) rfl rfl rfl
   ·exact JA 894 _ _ (S.X 894 _ (yT _)) rfl rfl rfl
  ·refine RW e1 ?_;simp[ta]
 ·refine EM (o.cls=.type "frame") (fun c=>?_) fun c=>?_
  ·exact .inl (P.fz b o e (w6 e c) (fun m=>nomatch m) c)
  ·exact .inl (P.keep.get e (fun m=>by
    refine aA m (fun m=>?_) fun m=>?_
    ·cases m
    ·exact q m) c)
theorem qi:∀is:List Int,ah 0 (is.map V.int)=true
 |[]=>rfl
 |i::is=>by
  refine(?_:(true&&ah 0 (is.map V.int))=true);exact RW (qi is) rfl
theorem DC{is:List Int}(S:bU w s.heap)(ht:∀a,a=183∨a=890→s.heap.get? a=some ta)(hl:s.heap.get? l=some (b0 false vs 0))(hv:aM s.heap ⟨[],gP s.heap⟩ (is.map V.int) vs)(Xv:is.length≤63)(hg:AllBare s.gens){Q}{E:Value→Shared→Prop}
  (hQ:∀s',OldK s.heap s'.heap→s'.os=s.os→AllBare s'.gens→Q (.bool true) s'):wpAny (model PW w) callerA (call (.ref 947) [.ref l]) Q E s:=by
 have V3:l∉gP s.heap:=fun m=>by
  refine aq (qy m) fun o e c=>?_;rw[hl] at e;cases a7 e;have c:Value.type "list"=.type "frame":=c;injection c with c
  exact absurd c (by decide)
 have WS:SR w ⟨[],gP s.heap⟩ [] s.heap:=⟨S,rfl,jx,fun b m=>(nomatch m),fun b m=>(qy m).imp fun o z=>z.1,fun i b o e=>(nomatch e)⟩;refine jw (iJ (G3 (K:=fun r os=>r=.ok (.bool true)) ⟨⟨?_,rfl⟩,rfl,is,rfl,rfl,rfl⟩ ⟨fun _=>rfl,?_,?_⟩ WS (aK [] rfl (fun e m=>nomatch m)) (aM.cons (.seq (fun m=>?_) hl ?_ hv.1 hv.2) aM.nil) ⟨rfl,aM.nil⟩) fun z s' h=>?_)
 ·refine(?_:(ah 0 (is.map V.int)&&true)=true)
  exact RW (qi _) rfl
 ·decide
 ·decide
 ·exact V3 m
 ·(rewrite [←hv.1];refine RW (bW _)<|RW bc ?_);lia
 ·rcases z with e|(_|_|_|x)
  ·refine AL h fun c cn ρ' hK _=>?_;cases hK
  ·exact h
  ·exact h
  ·exact h
  ·refine mU h fun v cn ρ' hK P r=>?_
   cases hK;apply r.tP;exact hQ s' (GB S ht P) P.os (P.gens hg)
theorem CI{q}{loose}{XP}{as}{e}{d}{Vu}(hn:d.name=Str.ofString "law"):PySem.W.WalkO q loose XP (kHook Bg as e).says PySem.Challenge.rw_ik0145_01.row.toRowW d Vu fun f vs=>PySem.call f vs:=by
 intro w s₀ s₁ mg mb G Y a o pm cd doc dV kV ho Ju Uj hD V8 tJ args vals bs Te Xi Xq VJ Xs;have X:(Bg w.params).In s₁.heap:=kIn_of Y;have ht:∀a,a=183∨a=890→s₁.heap.get? a=some ta:=fun a h=>by
  rcases h with rfl|rfl
  ·exact X _ _ (IS _).1
  ·exact X _ _ (IS _).2
 have S:bU w s₁.heap:=⟨fun b o h=>X b o (Dy h),(aK mb G.T.b G.T.builtins),G.T.nolimit,fun a h=>(aK #[] (ht a h) trivial)⟩;have ea:Value.ref a=.ref 947:=by
  have h:=Qp G.T.g (mM S) d.name;rw[V8,hn,beq_iff_eq.mp (Hh w.params)] at h;exact a7 h
 refine RW ea ?_;refine aq (G4 Te) fun is aa hl=>?_;subst aa;refine ez (rL VJ) fun v vs' aa w1 w2=>?_;subst aa;obtain rfl:vs'=[]:=rL w2;refine ez (IN w1) fun l vs aa g1 g2=>?_;subst aa;refine bw (DC (E:=fun _ _=>False) S ht g1 (De is g2) hl (RW tJ AllBare.empty) fun s' k1 k2 k3=>(?_:GoodWG _ _ _ _ _ (.ok (.ret (.bool true))) s')) (fun _ _ z=>z) fun _ _ z=>z.elim;exact qU (.inl (E1 _ (.bool true) [] rfl (fun _=>rfl) (.bool true) (by kernel_rfl) (fun _=>⟨jx,fun _ m=>nomatch m⟩))) k1 k2 k3
section
theorem nz{α β:Type}{x:Option α}{f:α→Option β}{r:β}{G:Prop}(h:x.bind f=some r)(k:∀a,x=some a→f a=some r→G):G:=aq (dI.mp h) k
theorem xR{α:Type}{b:Bool}{x:Option α}{r:α}{G:Prop}(h:cond b x none=some r)(k:b=true→x=some r→G):G:=by
 cases b
 ·exact nomatch h
 ·exact k rfl h
def putAll(l:List Obj):BT→Nat→Option BT:=List.rec (fun t _=>some t) (fun o _ ih t n=>cond ((t.ins n o).get n).isSome (ih (t.ins n o) (n+1)) none) l
theorem wQ(life:Life):∀(l:List Obj) (t t':BT) (n:Nat),putAll l t n=some t'→absHeap t' (n+l.length) life=⟨(absHeap t n life).objs++l.toArray,life⟩:=by
 intro l
 induction l with
 |nil=>exact fun t t' n h=>a7 h▸bH (Heap.mk · life) Array.append_empty.symm
 |cons o r ih=>
  refine fun t t' n h=>xR h fun e h=>?_;have q:=ih _ _ _ h;rw[absHeap_ins e,Nat.add_assoc,Nat.add_comm 1] at q;exact q.trans (bH (Heap.mk · life) (by simp[Heap.push]))
def toT(s:Shared):Option SharedT:=(putAll s.heap.objs.toList .nil 0).map fun t=>⟨t,s.heap.objs.toList.length,s.heap.life,s.gens,s.drawn,s.toks,s.os⟩
theorem x7{s:Shared}{t:SharedT}(h:toT s=some t):t.abs=s:=by
 refine aq (eG.mp h) fun t' h' e=>?_;rw[←e];have q:=wQ s.heap.life _ _ _ _ h';rw[Nat.zero_add] at q;exact bH (fun x=>Shared.mk x s.gens s.drawn s.toks s.os) (q.trans (bH (Heap.mk · s.heap.life) (by simp[absHeap,BT.list])))
noncomputable def td(st:SharedT→Thread→Option (SharedT×Thread))(ok stop:Thread→Bool):Nat→SharedT→Thread→Option (SharedT×Thread)
 |0,_,_=>none
 |n+1,s,t=>match stop t with
  |true=>some (s,t)
  |false=>match ok t with
   |false=>none
   |true=>match st s t with
    |some (s',t')=>td st ok stop n s' t'
    |none=>none
theorem nW{st:SharedT→Thread→Option (SharedT×Thread)}{ok stop:Thread→Bool}{z:SharedT×Thread}(M:Nat→SharedT→Thread→Prop)(h0:stop z.2=true→∀n,M (n+1) z.1 z.2)
  (h1:∀n s t r,stop t=false→ok t=true→st s t=some r→M n r.1 r.2→M (n+1) s t) (n:Nat):∀s t,td st ok stop n s t=some z→M n s t:=by
 induction n with
 |zero=>exact fun _ _ h=>nomatch h
 |succ n ih=>
  intro s t h;have h:(match stop t with
   |true=>some (s,t)
   |false=>match ok t with
    |false=>none
    |true=>match st s t with
     |some (s',t')=>td st ok stop n s' t'
     |none=>none)=some z:=h
  cases e:stop t with
  |true=>rw[e] at h;have h:=a7 h;subst h;exact h0 e n
  |false=>
   rw[e] at h;cases e1:ok t with
   |false=>rw[e1] at h;cases h
   |true=>
    rw[e1] at h;cases e2:st s t with
    |none=>rw[e2] at h;cases h
    |some r=>rw[e2] at h;exact h1 n s t r e e1 e2 (ih _ _ h)
section
variable{tb:String→Option Builtin}{p:Program}{w:World}{n₀:Nat}{ann:Option PySem.Value}{stop:Thread→Bool}{n N:Nat}{s:SharedT}{t:Thread}{z:SharedT×Thread}{r:Shared}
theorem zB{st:SharedT→Thread→Option (SharedT×Thread)}{ok:Thread→Bool}(h:td st ok stop n s t=some z):stop z.2=true:=
 nW (fun _ _ _=>stop z.2=true) (fun h _=>h) (fun _ _ _ _ _ _ _ h=>h) n s t h
noncomputable def ND(f:Thread→Bool)(t:Thread):Bool:=cond (through t) false (f t)
theorem vZ(h:td (stepT (denote tb) p w) (ND (stepOk n₀ ann)) stop n s t=some z)(k:topRun tb p w n₀ ann N z.1.abs z.2=some r):topRun tb p w n₀ ann (N+n) s.abs t=some r:=
 nW (fun n s t=>topRun tb p w n₀ ann (N+n) s.abs t=some r) (fun _ n=>topRun_mono (n+1) _ _ _ _ k) (fun n s t q _ e e2 h=>by
  have e1:through t=false:=by revert e;unfold ND;cases through t<;>simp
  unfold ND at e;rw[e1] at e
  show topRun tb p w n₀ ann (N+n+1) s.abs t=some r
  unfold topRun;rw[e1,show stepOk n₀ ann t=true from e,stepT_spec e2];exact h) n s t h
theorem KC(h:td (stepT (denote tb) p w) (fun _=>true) (fun t=>t.atExitBegin.isSome) n s t=some z)(k:importEnds tb p w N z.1.abs z.2=some r):importEnds tb p w (N+n) s.abs t=some r:=
 nW (fun n s t=>importEnds tb p w (N+n) s.abs t=some r) (fun _ n=>importEnds_mono (n+1) _ _ _ _ k) (fun n s t q e _ e2 h=>by
  show importEnds tb p w (N+n+1) s.abs t=some r
  unfold importEnds;rw[Option.isSome_eq_false_iff.mp e|>Option.isNone_iff_eq_none.mp,stepT_spec e2];exact h) n s t h
end
noncomputable abbrev rR:OpenRow:=OpenLaw.row PySem.Challenge.rw_ik0145_01
abbrev pR:Program:=rR.prog
def R0(w:World)(p:Program):SharedT→Thread→Option (SharedT×Thread):=PySem.W.Fast.tw10156331382660048174 (PySem.W.Fast.tw11892475500146522536 PySem.W.Fast.tw14364793385576792824) p w
theorem BK(w:World)(p:Program):stepT (denote treeTable) p w=R0 w p:=RW PySem.W.Fast.te10156331382660048174 (RW PySem.W.Fast.te11892475500146522536 (RW PySem.W.Fast.te14364793385576792824 rfl))
noncomputable def mR(s:Shared):Option PySem.Value:=s.heap.nsMap mainGlobals "__annotations__"
def TW(s:Shared):Thread→Bool:=ND (PySem.W.Fast.tw6613529449190102663 s.heap.objs.size (mR s))
theorem Lk(s:Shared):ND (stepOk s.heap.objs.size (mR s))=TW s:=RW PySem.W.Fast.te6613529449190102663 rfl
noncomputable def Uw(t:Thread):Bool:=t.atExitBegin.any List.isEmpty
theorem LU{t:Thread}(h:Uw t=true):t.atExitBegin=some []:=aq ((Option.any_eq_true _ _).mp h) fun l e h=>e.trans (bH some (mX.mp h))
noncomputable def Sx(s:Shared):Bool:=s.heap.isNs mainGlobals&&s.gens.size==0
def RK(s0 s:Shared):Bool:=staticsOk (importedModules pR.main.body) s0.heap s.heap&&namesBound pR s.heap&&gensDone s&&laidKept s0.heap s.heap
def oR(w:World)(s:SharedT):Option (SharedT×Thread):=td (R0 w (opening pR)) (fun _=>true) (fun t=>t.atExitBegin.isSome) 3000 s (start (opening pR)).2
def aR(w:World)(s:Shared)(stop:Thread→Bool)(n:Nat)(x:SharedT×Thread):Option (SharedT×Thread):=td (R0 w pR) (TW s) stop n x.1 x.2
def pA(w:World):Option (Shared×SharedT×Thread):=
 (toT (start (opening pR)).1).bind fun s=>(oR w s).bind fun x=>cond (Uw x.2) ((fenceModules? pR x.1.abs).bind fun s0=>cond (Sx s0) ((toT s0).bind fun t0=>(aR w s0 (fun t=>Nat.beq t.pos.line 126) 2000 (t0,topStub pR)).map fun y=>(s0,y)) none) none
def pB(w:World)(x:Shared×SharedT×Thread):Option (SharedT×Thread):=aR w x.1 (fun t=>Nat.beq t.pos.line 127) 2000 x.2
def pC(w:World)(s:Shared)(x:SharedT×Thread):Option Shared:=(aR w s through 6000 x).bind fun y=>cond (RK s y.1.abs) (some y.1.abs) none
noncomputable def wB(w:World)(a b:Bool):World:=(w.withFollow "comprehension-iter-twice" a).withFollow "special-get-raises" b
theorem Pe(w:World):((pA w).bind fun x=>some (pB (wB w false true) x,pB (wB w true false) x,pB (wB w true true) x))=(pA w).map fun x=>(pB (wB w false false) x,pB (wB w false false) x,pB (wB w false false) x):=by kernel_rfl
theorem Pf{w:World}{x:Shared×SharedT×Thread}(h:pA w=some x):pB w x=pB (wB w false false) x:=by
 have r:=Pe w;rw[h] at r;have r:=a7 r;have q:∀a b,pB (wB w a b) x=pB (wB w false false) x:=fun a b=>match a,b with
  |false,false=>rfl
  |false,true=>bH (·.1) r
  |true,false=>bH (·.2.1) r
  |true,true=>bH (·.2.2) r
 refine Eq.trans (bH (pB · x) (Eq.symm ?_)) (q (w.params.followText "comprehension-iter-twice") (w.params.followText "special-get-raises"));exact(bH (World.withFollow · _ _) (World.withFollow_self ..)).trans (World.withFollow_self ..)
theorem Qn{w:World}{s' s0 s1:Shared}(i:importEnds treeTable (opening pR) w 10001 (start (opening pR)).1 (start (opening pR)).2=some s')(f:fenceModules? pR s'=some s0)(g:Sx s0=true)
  (k:topRun treeTable pR w s0.heap.objs.size (mR s0) 10001 s0 (topStub pR)=some s1) (l:RK s0 s1=true):openEnds treeTable pR w 10001=some s1:=by
 refine dI.mpr ⟨s0,dI.mpr ⟨s',i,f⟩,?_⟩;have c1:topFrom treeTable pR w 10001 s0=match Sx s0 with|true=>(topRun treeTable pR w s0.heap.objs.size (mR s0) 10001 s0 (topStub pR)).bind fun s₁=>(match RK s0 s₁ with|true=>some s₁|false=>none)|false=>none:=rfl
 rw[c1,g,k]
 show(match RK s0 s1 with|true=>some s1|false=>none)=_
 rw[l]
theorem KG{w:World}{x:Shared×SharedT×Thread}{y:SharedT×Thread}{z:Shared}(hA:pA w=some x)(hB:pB w x=some y)(hC:pC w x.1 y=some z):openEnds treeTable pR w 10001=some z:=by
 refine nz hA fun s h1 hA=>nz hA fun u h2 hA=>xR hA fun h3 hA=>nz hA fun s0 h4 hA=>xR hA fun h5 hA=>nz hA fun t0 h6 hA=>aq (eG.mp hA) fun v h7 e=>?_;subst e;refine nz hC fun c h8 hC=>xR hC fun h9 hC=>?_;have e:=a7 hC;subst e;have st:=zB h8;unfold aR at h7 h8;unfold pB aR at hB;unfold oR at h2;rw[←BK] at h2;rw[←BK,←Lk] at h7 h8 hB;have i:=KC (N:=7001) (r:=u.1.abs) h2 (by unfold importEnds;rw[LU h3])
 have k:=vZ h7 (vZ hB (vZ (N:=1) (r:=c.1.abs) h8 (by unfold topRun;rw[st])))
 rw[x7 h1] at i;rw[x7 h6] at k;exact Qn i h4 h5 k h9
end
section
open PySem.W.X
def qR:Program:=view pR [0,1,48]
def rX:List Str:=["_wall","_NODE_OUT","_NODE_DONE","_NodeInfo","CycleError","TopologicalSorter","twin_re_1_fnmatch","_special_chars_map","escape","_translate","twin_re_1_shlex","_whence","_index","UnsupportedOperation","IOBase","BufferedIOBase","TextIOBase","BytesIO","StringIO","_kind","_fspath","_check_arg_types","isabs","join","join_path","dirname","shlex","split","join_shlex","_find_unsafe","quote","_law_pattern","_law_step","_law_meant","_law_taken","_law_read","_law_run","_law_due"].map Str.ofString
def Jv:Hook:=kHook Bg [2,3,4,62,63,64,65,66,77,78,89,159,160,168,169,171,192,193,236,237,238,263,264,494,504,680,688,740,741,793,808,875,876,881,896,58,59,95,96,102,103,109,110,114,115,121,122,128,129,142,143,149,150,180,181,187,188,206,207,233,234,510,511,517,518,524,525,538,539,686,687,694,695,799,800,806,807,836,837,843,844,865,866,872,873,887,888,894,895,902,903,907,908,912,913,919,920,926,927,931,932,936,937,941,942,946,947,183,890] (fun _=>by kernel_rfl)
theorem Qv(w:World):((pA w).bind fun x=>(pB (wB w false false) x).bind fun y=>pC w x.1 y).map (fun z=>(openSeen qR rX (importedModules pR.main.body) (recOk rR.toRowW.records) true z,Jv.obs z))=some (openGood qR rX,Jv.val w):=by kernel_rfl
theorem Qu:LeftO pR qR rX (recOk rR.toRowW.records) Jv.obs Jv.val 10001:=fun w=>by
 refine aq (eG.mp (Qv w)) fun z e g=>nz e fun x hA e=>nz e fun y hB hC=>?_;exact RW (KG hA ((Pf hA).trans hB) hC) (bH some g)
end
section
open PySem.W.X
theorem headT.tw10332419429185557499:True:=trivial
set_option maxHeartbeats 0 in
theorem headT:PySem.Challenge.rw_ik0145_01.Holds:=by
 o_law
 refine holds_open (q:=qR) (loose:=rX) (XP:=fun _ _=>True) (YP:=Jv.says) Qu Jv.of Jv.keeps (fun _ _=>trivial) (fun _ _ _ _ _=>trivial) (by rfl) (by rfl) (by rfl) (fun _ e=>recFacts_of e) (by rfl) (by assumption) (by decide+kernel) ⟨rfl,rfl,rfl,rfl,rfl,by decide+kernel⟩ ?hw (CI (by kernel_rfl))
 w_witness2
end
end Mine
theorem PySem.Challenge.cw_ik0145_01_holds : PySem.Challenge.rw_ik0145_01.Holds :=
  Mine.headT
